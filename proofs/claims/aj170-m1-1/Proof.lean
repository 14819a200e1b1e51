import JvmDerived
import JvmDerived.Pilot.@@N@@Statement
import JvmDerived.Pilot.@@N@@Code
set_option linter.unusedVariables false
set_option linter.unusedSimpArgs false
namespace Jvm.Pilot.@@N@@
open Jvm Jvm.ClassFile Sem Op Lib Jvm.Free Jvm.Stand Jvm.LawKit Jvm.RoadKit Bundle Jvm.Pilot.@@N@@.Jvm.D
theorem own_w {a0 : Array Value} {Z : State} {d : Jvm.Cond} (hw : ∀ d ∈ tables_1, d.before a0 Z = true) (i : Nat) (h : tables_1[i]? = some d) : d.before a0 Z = true := hw _ (List.mem_of_getElem? h)
abbrev lvI (x : Int32) : Slot := .val (.int x)
abbrev lvR (x : Addr) : Slot := .val (.ref x)
abbrev own_S (p : Program) (e : Env) (b : List Frame) (m : MethodId) (T : State) (pc : Nat) (l : Array Slot) (st : List Value) (t : State) : Prop := Steps p.tables e b (T.setTop (mkF m pc l st)) t
theorem own_self {s : State} {args : Array Value} {y : MethodName} {n : Nat} (wi : (Jvm.Cond.instantiable y.cls n).before args s = true) (hp : s.PrivateAt y) (hi : (Jvm.Cond.instanceMethod y).before args s = true) (hy : y.cls ≠ "java/lang/invoke/MethodHandle" ∧ y.cls ≠ "java/lang/invoke/VarHandle") : (Jvm.Cond.selects y.cls y y).before args s = true := by
  obtain ⟨c, k, h1, h2, h3, h4, -⟩ := Cond.instantiable_spec wi
  exact Jvm.Stand.selects_self_of_private h1 h2 (by simp only [Bool.or_eq_false_iff] at h4; exact h4.1) hp hi hy
theorem own_i2b2 (x : Int32) : (x.toInt8.toInt32).toInt8.toInt32 = x.toInt8.toInt32 := by
  have h1 := c_i2b x
  have h2 := c_i2b (x.toInt8.toInt32)
  apply Int32.toInt_inj.mp
  omega
theorem own_mod5 (x : Int32) : ((x &&& (2147483647 : Int32)) % (5 : Int32)) = (0 : Int32) ∨ ((x &&& (2147483647 : Int32)) % (5 : Int32)) = (1 : Int32) ∨ ((x &&& (2147483647 : Int32)) % (5 : Int32)) = (2 : Int32) ∨ ((x &&& (2147483647 : Int32)) % (5 : Int32)) = (3 : Int32) ∨ ((x &&& (2147483647 : Int32)) % (5 : Int32)) = (4 : Int32) := by
  have h1 := c_mask x 2147483647 31 (by decide) (by decide)
  have h2 := (c_irem (x &&& (2147483647 : Int32)) (5 : Int32) 5 rfl).1 (by rw [h1]; omega)
  rw [h1] at h2
  have h3 : ((x &&& (2147483647 : Int32)) % (5 : Int32)).toInt = 0 ∨ ((x &&& (2147483647 : Int32)) % (5 : Int32)).toInt = 1 ∨ ((x &&& (2147483647 : Int32)) % (5 : Int32)).toInt = 2 ∨ ((x &&& (2147483647 : Int32)) % (5 : Int32)).toInt = 3 ∨ ((x &&& (2147483647 : Int32)) % (5 : Int32)).toInt = 4 := by omega
  rcases h3 with h | h | h | h | h
  · exact (Or.inl (Int32.toInt_inj.mp h))
  · exact (Or.inr (Or.inl (Int32.toInt_inj.mp h)))
  · exact (Or.inr (Or.inr (Or.inl (Int32.toInt_inj.mp h))))
  · exact (Or.inr (Or.inr (Or.inr (Or.inl (Int32.toInt_inj.mp h)))))
  · exact (Or.inr (Or.inr (Or.inr (Or.inr (Int32.toInt_inj.mp h)))))
theorem own_read (v : Int32) : ((((((((v.toUInt32 >>> ((24 : Int32) &&& 31).toUInt32).toInt32).toInt8.toInt32) &&& (255 : Int32)) <<< ((24 : Int32) &&& 31)) ||| (((((v.toUInt32 >>> ((16 : Int32) &&& 31).toUInt32).toInt32).toInt8.toInt32) &&& (255 : Int32)) <<< ((16 : Int32) &&& 31))) ||| (((((v.toUInt32 >>> ((8 : Int32) &&& 31).toUInt32).toInt32).toInt8.toInt32) &&& (255 : Int32)) <<< ((8 : Int32) &&& 31))) ||| ((v.toInt8.toInt32) &&& (255 : Int32))) = v := by
  have hv := rng32 v
  have e3 := c_iushr v (24 : Int32) 24 (by decide) (by decide)
  have e2 := c_iushr v (16 : Int32) 16 (by decide) (by decide)
  have e1 := c_iushr v (8 : Int32) 8 (by decide) (by decide)
  have f0 := c_i2b v
  generalize ((v.toUInt32 >>> ((24 : Int32) &&& 31).toUInt32).toInt32) = s3 at e3 ⊢
  generalize ((v.toUInt32 >>> ((16 : Int32) &&& 31).toUInt32).toInt32) = s2 at e2 ⊢
  generalize ((v.toUInt32 >>> ((8 : Int32) &&& 31).toUInt32).toInt32) = s1 at e1 ⊢
  have f3 := c_i2b s3
  have f2 := c_i2b s2
  have f1 := c_i2b s1
  generalize s3.toInt8.toInt32 = b3 at f3 ⊢
  generalize s2.toInt8.toInt32 = b2 at f2 ⊢
  generalize s1.toInt8.toInt32 = b1 at f1 ⊢
  generalize v.toInt8.toInt32 = b0 at f0 ⊢
  have m3 := c_mask b3 255 8 (by decide) (by decide)
  have m2 := c_mask b2 255 8 (by decide) (by decide)
  have m1 := c_mask b1 255 8 (by decide) (by decide)
  have m0 := c_mask b0 255 8 (by decide) (by decide)
  generalize (b3 &&& (255 : Int32)) = t3 at m3 ⊢
  generalize (b2 &&& (255 : Int32)) = t2 at m2 ⊢
  generalize (b1 &&& (255 : Int32)) = t1 at m1 ⊢
  generalize (b0 &&& (255 : Int32)) = t0 at m0 ⊢
  have g3 := c_ishl t3 (24 : Int32) 24 (by decide)
  have g2 := c_ishl t2 (16 : Int32) 16 (by decide)
  have g1 := c_ishl t1 (8 : Int32) 8 (by decide)
  generalize (t3 <<< ((24 : Int32) &&& 31)) = A3 at g3 ⊢
  generalize (t2 <<< ((16 : Int32) &&& 31)) = A2 at g2 ⊢
  generalize (t1 <<< ((8 : Int32) &&& 31)) = A1 at g1 ⊢
  have r3 := rng32 A3
  have r2 := rng32 A2
  have r1 := rng32 A1
  have o3 := c_or A3 A2 24 (by decide) 16777216 (by decide) (by omega) (by omega) (by omega)
  have q3 := rng32 (A3 ||| A2)
  generalize (A3 ||| A2) = R3 at o3 q3 ⊢
  have o2 := c_or R3 A1 16 (by decide) 65536 (by decide) (by omega) (by omega) (by omega)
  have q2 := rng32 (R3 ||| A1)
  generalize (R3 ||| A1) = R2 at o2 q2 ⊢
  have o1 := c_or R2 t0 8 (by decide) 256 (by decide) (by omega) (by omega) (by omega)
  have q1 := rng32 (R2 ||| t0)
  generalize (R2 ||| t0) = R1 at o1 q1 ⊢
  apply Int32.toInt_inj.mp
  omega
theorem own_sh0 (x : Int32) : (x.toInt8.toInt32) = (((x.toUInt32 >>> ((0 : Int32) &&& 31).toUInt32).toInt32).toInt8.toInt32) := by
  have : ((x.toUInt32 >>> ((0 : Int32) &&& 31).toUInt32).toInt32) = x := by
    apply Int32.toBitVec_inj.mp
    show x.toBitVec >>> 0 = x.toBitVec
    simp
  rw [this]
abbrev cn0 : String := "com/example/stackweave/stackweave/classfile/ByteWriter"
theorem d1_0 : decode prog_12_method_2_code 0 = .ok (.aload_n 0, 1) := by decide +kernel
theorem d1_1 : decode prog_12_method_2_code 1 = .ok (.invokespecial 7, 3) := by decide +kernel
theorem d1_4 : decode prog_12_method_2_code 4 = .ok (.aload_n 0, 1) := by decide +kernel
theorem d1_5 : decode prog_12_method_2_code 5 = .ok (.iload_n 1, 1) := by decide +kernel
theorem d1_6 : decode prog_12_method_2_code 6 = .ok (.newarray .byte, 2) := by decide +kernel
theorem d1_8 : decode prog_12_method_2_code 8 = .ok (.putfield 12, 3) := by decide +kernel
theorem d1_11 : decode prog_12_method_2_code 11 = .ok (.return_, 1) := by decide +kernel
theorem pn_0 : plainName "com/example/stackweave/stackweave/classfile/ByteWriter" = true := by first | (simp [plainName, overriddenIn]; done) | decide +kernel
theorem efinit1 (m : MethodId) (o0_ : Addr) : entryFrame m #[(.ref o0_), (.int (8 : Int32))] 2 = mkF m 0 #[lvR o0_, lvI (8 : Int32)] [] := by first | (simp [entryFrame, mkF, argsToLocals, Value.category]; done) | rfl
def Qinit1 (Z : State) (o0_ : Addr) (h0 : Heap) (n0 : Nat) (v : Option Value) (h : Heap) (L : List Loc) : Prop := ∃ k2 : ClassId, ∃ nb2 : Addr, v = none ∧ Fr n0 L ∧ Keep h0 h [o0_] ∧ h0.size ≤ nb2 ∧ Exa Z h o0_ cn0 ∧ Fld Z h o0_ cn0 "bytes" "[B" (.ref nb2) ∧ Fld Z h o0_ cn0 "length" "I" (.int (0 : Int32)) ∧ Arv Z h nb2 k2 .byte (8 : Int32) [(.int (0 : Int32)), (.int (0 : Int32)), (.int (0 : Int32)), (.int (0 : Int32)), (.int (0 : Int32)), (.int (0 : Int32)), (.int (0 : Int32)), (.int (0 : Int32))] (.int (0 : Int32)) ∧ Exa Z h nb2 "[B"
set_option maxRecDepth 65536 in
set_option maxHeartbeats 40000000 in
theorem rminit1 (l : Launch) (Z : State) (a0 : Array Value) (hw : ∀ d ∈ tables_1, d.before a0 Z = true) (ws : List Jvm.Cond) (o0_ : Addr) (h0 : Heap) (n0 : Nat) (O0 : Old Z n0 h0) (P0 : Exa Z h0 o0_ cn0) (P1 : Fld Z h0 o0_ cn0 "bytes" "[B" .null) (P2 : Fld Z h0 o0_ cn0 "length" "I" (.int (0 : Int32))) (P3 : n0 ≤ o0_) :
    MetFree l (⟨"com/example/stackweave/stackweave/classfile/ByteWriter", "<init>", "(I)V"⟩ : MethodName) (head1 (Jvm.Cond.code (⟨"com/example/stackweave/stackweave/classfile/ByteWriter", "<init>", "(I)V"⟩ : MethodName) prog_12_method_2_code 2 none :: ws) ({ frames := 1, cells := 1, slots := 8, locals := 12 } : Room)) (fun a U => a = #[(.ref o0_), (.int (8 : Int32))] ∧ Z.Warmed39 U.vm ∧ U.heap = h0) (fun _ _ _ _ _ => True) (fun _ U o U' => ∃ v L, o = .returned v ∧ Qinit1 Z o0_ h0 n0 v U'.heap L ∧ FrameEnd U o U' L ({ frames := 1, cells := 1, slots := 8, locals := 12 } : Room).cells ({ frames := 1, cells := 1, slots := 8, locals := 12 } : Room).slots) := by
  refine MetFree.of_bodySF (plainFor_of_name pn_0) hisR ?_
  intro p e s m args below meth c s₁ Bd hml0 hP hK
  obtain ⟨rfl, hZ, hh⟩ := hP
  have hx := Bd.exec
  have hby := Bd.bytes
  have hml : c.maxLocals = 2 := hml0
  have hown : s.vm.findClass "com/example/stackweave/stackweave/classfile/ByteWriter" = some m.cls := findClass_of_methodNamed Bd.named
  have hnm := (name_of_methodNamed Bd.named Bd.method).1
  have X0 : Stand p l e ({ frames := 1, cells := 1, slots := 8, locals := 12 } : Room) s m #[(.ref o0_), (.int (8 : Int32))] below meth c s₁ [] 0 0 := Stand.of_body Bd
  have e0 : s₁.heap = h0 := by rw [← hh, Bd.state]; rfl
  have N0 := Fr.nil n0
  obtain ⟨G, pre0, hG⟩ : ∃ G : State → Prop, (∀ t, own_S p e below m s₁ 0 #[lvR o0_, lvI (8 : Int32)] [] t → G t) ∧ (∀ t, G t → Steps p.tables e below (s₁.setTop (entryFrame m #[(.ref o0_), (.int (8 : Int32))] 2)) t) := ⟨fun t => Steps p.tables e below (s₁.setTop (entryFrame m #[(.ref o0_), (.int (8 : Int32))] 2)) t, fun t k => castTop (efinit1 m o0_) k, fun _ k => k⟩
  have K0 : Keep h0 h0 [o0_] := Keep.refl _ _
  obtain ⟨T1, X1, e1, st1⟩ := initO X0 hx hZ hown (own_w hw 7 rfl) (own_w hw 8 rfl) (own_w hw 9 rfl) e0 (g := (mkF m 1 #[lvR o0_, lvI (8 : Int32)] [(.ref o0_)])) rfl (by rw [hml]; rfl) rfl (hb hby d1_1) (by decide) (W := 0) (by show 2 * 0 + _ ≤ _; exact Nat.le_of_eq rfl) (by decide)
  obtain ⟨T2, h2, k2, X2, e2, E2, A2, Z2, st2⟩ := newPE X1 hx hZ (own_w hw 10 rfl) e1 (g := (mkF m 6 #[lvR o0_, lvI (8 : Int32)] [(.int (8 : Int32)), (.ref o0_)])) rfl (hb hby d1_6) rfl (by decide) (cap := 8) (by decide) (by decide) (by decide) (by decide) (ad := "[B") (by decide)
  obtain ⟨b2, g2⟩ : ∃ z, z = h0.size := ⟨_, rfl⟩
  rw [← g2] at A2 Z2 st2
  have ge3 : n0 ≤ b2 := Nat.le_trans (Nat.le_trans (Nat.le_of_eq O0.1.symm) O0.2.1) (Nat.le_of_eq g2.symm)
  have sz4 : h0.size ≤ b2 := Nat.le_trans K0.1 (Nat.le_of_eq g2.symm)
  have f5 : Arv Z h2 b2 k2 .byte (8 : Int32) [(.int (0 : Int32)), (.int (0 : Int32)), (.int (0 : Int32)), (.int (0 : Int32)), (.int (0 : Int32)), (.int (0 : Int32)), (.int (0 : Int32)), (.int (0 : Int32))] (.int (0 : Int32)) := (Arv.new A2 (by decide)).pad (pad_rep [] (.int (0 : Int32)) 8)
  have f6 : Fld Z h2 o0_ cn0 "bytes" "[B" .null := P1.ext E2
  have f7 : Exa Z h2 o0_ cn0 := P0.ext E2
  obtain ⟨T8, h8, X8, e8, W8, st8⟩ := putF X2 hx hZ hown (host := "") (Or.inl (own_w hw 11 rfl)) Via.refl e2 f6 f7 (Or.inl (own_w hw 12 rfl)) (own_w hw 2 rfl) (ty := (.array .byte)) (by decide) rfl rfl (g := (mkF m 8 #[lvR o0_, lvI (8 : Int32)] [(.ref b2), (.ref o0_)])) rfl rfl (hb hby d1_8)
  have N9 := Fr.snoc X8 N0 P3
  have f10 : Fld Z h8 o0_ cn0 "bytes" "[B" (.ref b2) := f6.same W8
  have pre11 : ∀ t, own_S p e below m T8 11 #[lvR o0_, lvI (8 : Int32)] [] t → G t := by
    intro t kt
    refine pre0 t ?_
    show own_S p e below m s₁ 0 #[lvR o0_, lvI (8 : Int32)] [] _
    refine XS.aloadN X0.here hx rfl (hb hby d1_0) rfl rfl ?_
    show own_S p e below m s₁ 1 #[lvR o0_, lvI (8 : Int32)] [(.ref o0_)] _
    refine st1 _ ?_
    refine XS.aloadN X1.here hx rfl (hb hby d1_4) rfl rfl ?_
    refine XS.iloadN X1.here hx rfl (hb hby d1_5) rfl ?_
    show own_S p e below m T1 6 #[lvR o0_, lvI (8 : Int32)] [(.int (8 : Int32)), (.ref o0_)] _
    refine st2 _ ?_
    show own_S p e below m T2 8 #[lvR o0_, lvI (8 : Int32)] [(.ref b2), (.ref o0_)] _
    refine st8 _ ?_
    exact kt
  have f13 : Keep h0 h2 [o0_] := K0.ext E2
  have f14 : Keep h0 h8 [o0_] := f13.wr W8 (Or.inl (List.mem_of_getElem? (i := 0) rfl))
  have f15 : Exa Z h8 o0_ cn0 := f7.wr W8
  have f16 : Fld Z h2 o0_ cn0 "length" "I" (.int (0 : Int32)) := P2.ext E2
  have f17 : Fld Z h8 o0_ cn0 "length" "I" (.int (0 : Int32)) := f16.other W8 (Or.inr (slot_ne (Or.inl (own_w hw 23 rfl)) (Or.inl (own_w hw 12 rfl)) (by decide) (t := .int) (t' := (.array .byte)) (by decide) (by decide)))
  have ne19 : o0_ ≠ b2 := Nat.ne_of_lt (Nat.lt_of_lt_of_le P0.lt (Nat.le_of_eq g2.symm))
  have f18 : Arv Z h8 b2 k2 .byte (8 : Int32) [(.int (0 : Int32)), (.int (0 : Int32)), (.int (0 : Int32)), (.int (0 : Int32)), (.int (0 : Int32)), (.int (0 : Int32)), (.int (0 : Int32)), (.int (0 : Int32))] (.int (0 : Int32)) := f5.other W8 (Ne.symm ne19)
  have f20 : Exa Z h8 b2 "[B" := Z2.wr W8
  obtain ⟨fs, hr, hrun, hended, hW, hsame⟩ := X8.leave (v := none) (fun _ => rfl)
  refine ⟨_, _, hG _ (pre11 _ (X8.returnOut hx Bd.returns (hb hby d1_11) hr)), hrun, hended, _, _, rfl, ?_, ⟨_, rfl⟩, hW, hsame.mono (by decide) (by decide)⟩
  show Qinit1 Z o0_ h0 n0 _ T8.heap _
  rw [e8]
  exact ⟨k2, b2, rfl, N9, f14, sz4, f15, f10, f17, f18, f20⟩
theorem pd_0 : parseMethodDescriptor "(I)V" = some ⟨[.int], none⟩ := by decide +kernel
theorem d2_0 : decode prog_12_method_5_code 0 = .ok (.aload_n 0, 1) := by decide +kernel
theorem d2_1 : decode prog_12_method_5_code 1 = .ok (.iconst 4, 1) := by decide +kernel
theorem d2_2 : decode prog_12_method_5_code 2 = .ok (.invokevirtual 22, 3) := by decide +kernel
theorem d3_0 : decode prog_12_method_16_code 0 = .ok (.aload_n 0, 1) := by decide +kernel
theorem d3_1 : decode prog_12_method_16_code 1 = .ok (.getfield 25, 3) := by decide +kernel
theorem d3_4 : decode prog_12_method_16_code 4 = .ok (.iload_n 1, 1) := by decide +kernel
theorem d3_5 : decode prog_12_method_16_code 5 = .ok (.iadd, 1) := by decide +kernel
theorem d3_6 : decode prog_12_method_16_code 6 = .ok (.aload_n 0, 1) := by decide +kernel
theorem d3_7 : decode prog_12_method_16_code 7 = .ok (.getfield 12, 3) := by decide +kernel
theorem d3_10 : decode prog_12_method_16_code 10 = .ok (.arraylength, 1) := by decide +kernel
theorem d3_11 : decode prog_12_method_16_code 11 = .ok (.if_icmp .le 8, 3) := by decide +kernel
theorem d3_19 : decode prog_12_method_16_code 19 = .ok (.return_, 1) := by decide +kernel
theorem efensureCapacity3 (m : MethodId) (o0_ : Addr) : entryFrame m #[(.ref o0_), (.int (4 : Int32))] 2 = mkF m 0 #[lvR o0_, lvI (4 : Int32)] [] := by first | (simp [entryFrame, mkF, argsToLocals, Value.category]; done) | rfl
def QensureCapacity3 (Z : State) (o0_ : Addr) (o1_ : Addr) (ko1_ : ClassId) (h0 : Heap) (n0 : Nat) (v : Option Value) (h : Heap) (L : List Loc) : Prop := v = none ∧ Fr n0 L ∧ h = h0
set_option maxRecDepth 65536 in
set_option maxHeartbeats 40000000 in
theorem rmensureCapacity3 (l : Launch) (Z : State) (a0 : Array Value) (hw : ∀ d ∈ tables_1, d.before a0 Z = true) (ws : List Jvm.Cond) (o0_ : Addr) (o1_ : Addr) (ko1_ : ClassId) (h0 : Heap) (n0 : Nat) (O0 : Old Z n0 h0) (P0 : Exa Z h0 o0_ cn0) (P1 : Fld Z h0 o0_ cn0 "bytes" "[B" (.ref o1_)) (P2 : Fld Z h0 o0_ cn0 "length" "I" (.int (0 : Int32))) (P3 : Arv Z h0 o1_ ko1_ .byte (8 : Int32) [(.int (0 : Int32)), (.int (0 : Int32)), (.int (0 : Int32)), (.int (0 : Int32)), (.int (0 : Int32)), (.int (0 : Int32)), (.int (0 : Int32)), (.int (0 : Int32))] (.int (0 : Int32))) (P4 : Exa Z h0 o1_ "[B") :
    MetFree l (⟨"com/example/stackweave/stackweave/classfile/ByteWriter", "ensureCapacity", "(I)V"⟩ : MethodName) (head1 (Jvm.Cond.code (⟨"com/example/stackweave/stackweave/classfile/ByteWriter", "ensureCapacity", "(I)V"⟩ : MethodName) prog_12_method_16_code 2 none :: ws) ({ frames := 0, cells := 0, slots := 0, locals := 0 } : Room)) (fun a U => a = #[(.ref o0_), (.int (4 : Int32))] ∧ Z.Warmed39 U.vm ∧ U.heap = h0) (fun _ _ _ _ _ => True) (fun _ U o U' => ∃ v L, o = .returned v ∧ QensureCapacity3 Z o0_ o1_ ko1_ h0 n0 v U'.heap L ∧ FrameEnd U o U' L ({ frames := 0, cells := 0, slots := 0, locals := 0 } : Room).cells ({ frames := 0, cells := 0, slots := 0, locals := 0 } : Room).slots) := by
  refine MetFree.of_bodySF (plainFor_of_name pn_0) hisR ?_
  intro p e s m args below meth c s₁ Bd hml0 hP hK
  obtain ⟨rfl, hZ, hh⟩ := hP
  have hx := Bd.exec
  have hby := Bd.bytes
  have hml : c.maxLocals = 2 := hml0
  have hown : s.vm.findClass "com/example/stackweave/stackweave/classfile/ByteWriter" = some m.cls := findClass_of_methodNamed Bd.named
  have hnm := (name_of_methodNamed Bd.named Bd.method).1
  have X0 : Stand p l e ({ frames := 0, cells := 0, slots := 0, locals := 0 } : Room) s m #[(.ref o0_), (.int (4 : Int32))] below meth c s₁ [] 0 0 := Stand.of_body Bd
  have e0 : s₁.heap = h0 := by rw [← hh, Bd.state]; rfl
  have N0 := Fr.nil n0
  obtain ⟨G, pre0, hG⟩ : ∃ G : State → Prop, (∀ t, own_S p e below m s₁ 0 #[lvR o0_, lvI (4 : Int32)] [] t → G t) ∧ (∀ t, G t → Steps p.tables e below (s₁.setTop (entryFrame m #[(.ref o0_), (.int (4 : Int32))] 2)) t) := ⟨fun t => Steps p.tables e below (s₁.setTop (entryFrame m #[(.ref o0_), (.int (4 : Int32))] 2)) t, fun t k => castTop (efensureCapacity3 m o0_) k, fun _ k => k⟩
  have K0 : Keep h0 h0 [] := Keep.refl _ _
  obtain ⟨T1, X1, e1, st1⟩ := getF X0 hx hZ hown (host := "") (Or.inl (own_w hw 22 rfl)) Via.refl e0 P2 (g := (mkF m 1 #[lvR o0_, lvI (4 : Int32)] [(.ref o0_)])) rfl rfl (hb hby d3_1)
  obtain ⟨T2, X2, e2, st2⟩ := getF X1 hx hZ hown (host := "") (Or.inl (own_w hw 11 rfl)) Via.refl e1 P1 (g := (mkF m 7 #[lvR o0_, lvI (4 : Int32)] [(.ref o0_), (.int (4 : Int32))])) rfl rfl (hb hby d3_7)
  obtain ⟨c3, r3, q3, s3, z3, y3, G3⟩ := id P3
  have pre4 : ∀ t, own_S p e below m T2 19 #[lvR o0_, lvI (4 : Int32)] [] t → G t := by
    intro t kt
    refine pre0 t ?_
    show own_S p e below m s₁ 0 #[lvR o0_, lvI (4 : Int32)] [] _
    refine XS.aloadN X0.here hx rfl (hb hby d3_0) rfl rfl ?_
    show own_S p e below m s₁ 1 #[lvR o0_, lvI (4 : Int32)] [(.ref o0_)] _
    refine st1 _ ?_
    refine XS.iloadN X1.here hx rfl (hb hby d3_4) rfl ?_
    refine XS.iadd X1.here hx rfl (hb hby d3_5) rfl ?_
    refine XS.aloadN X1.here hx rfl (hb hby d3_6) rfl rfl ?_
    show own_S p e below m T1 7 #[lvR o0_, lvI (4 : Int32)] [(.ref o0_), (.int (4 : Int32))] _
    refine st2 _ ?_
    show own_S p e below m T2 10 #[lvR o0_, lvI (4 : Int32)] [(.ref o1_), (.int (4 : Int32))] _
    refine X2.arraylength hx (by rw [e2]; exact r3.1) (State.isArrayOf_alike hZ.alike r3.2.1) (g := (mkF m 10 #[lvR o0_, lvI (4 : Int32)] [(.ref o1_), (.int (4 : Int32))])) rfl rfl (hb hby d3_10) _ ?_
    rw [len_of s3 z3]
    show own_S p e below m T2 11 #[lvR o0_, lvI (4 : Int32)] [(.int (8 : Int32)), (.int (4 : Int32))] _
    refine XS.icmpYes X2.here hx rfl (pc0 := 11) (pc' := 19) rfl (hb hby d3_11) rfl (flt (by decide : ¬ ((8 : Int32) < (4 : Int32)))).2.2.2 (by decide) (by decide) ?_
    exact kt
  obtain ⟨fs, hr, hrun, hended, hW, hsame⟩ := X2.leave (v := none) (fun _ => rfl)
  refine ⟨_, _, hG _ (pre4 _ (X2.returnOut hx Bd.returns (hb hby d3_19) hr)), hrun, hended, _, _, rfl, ?_, ⟨_, rfl⟩, hW, hsame.mono (by decide) (by decide)⟩
  show QensureCapacity3 Z o0_ o1_ ko1_ h0 n0 _ T2.heap _
  rw [e2]
  exact ⟨rfl, N0, rfl⟩
theorem d2_5 : decode prog_12_method_5_code 5 = .ok (.aload_n 0, 1) := by decide +kernel
theorem d2_6 : decode prog_12_method_5_code 6 = .ok (.getfield 12, 3) := by decide +kernel
theorem d2_9 : decode prog_12_method_5_code 9 = .ok (.aload_n 0, 1) := by decide +kernel
theorem d2_10 : decode prog_12_method_5_code 10 = .ok (.dup, 1) := by decide +kernel
theorem d2_11 : decode prog_12_method_5_code 11 = .ok (.getfield 25, 3) := by decide +kernel
theorem d2_14 : decode prog_12_method_5_code 14 = .ok (.dup_x1, 1) := by decide +kernel
theorem d2_15 : decode prog_12_method_5_code 15 = .ok (.iconst 1, 1) := by decide +kernel
theorem d2_16 : decode prog_12_method_5_code 16 = .ok (.iadd, 1) := by decide +kernel
theorem d2_17 : decode prog_12_method_5_code 17 = .ok (.putfield 25, 3) := by decide +kernel
theorem d2_20 : decode prog_12_method_5_code 20 = .ok (.iload_n 1, 1) := by decide +kernel
theorem d2_21 : decode prog_12_method_5_code 21 = .ok (.bipush 24, 2) := by decide +kernel
theorem d2_23 : decode prog_12_method_5_code 23 = .ok (.iushr, 1) := by decide +kernel
theorem d2_24 : decode prog_12_method_5_code 24 = .ok (.i2b, 1) := by decide +kernel
theorem d2_25 : decode prog_12_method_5_code 25 = .ok (.bastore, 1) := by decide +kernel
theorem d2_26 : decode prog_12_method_5_code 26 = .ok (.aload_n 0, 1) := by decide +kernel
theorem d2_27 : decode prog_12_method_5_code 27 = .ok (.getfield 12, 3) := by decide +kernel
theorem d2_30 : decode prog_12_method_5_code 30 = .ok (.aload_n 0, 1) := by decide +kernel
theorem d2_31 : decode prog_12_method_5_code 31 = .ok (.dup, 1) := by decide +kernel
theorem d2_32 : decode prog_12_method_5_code 32 = .ok (.getfield 25, 3) := by decide +kernel
theorem d2_35 : decode prog_12_method_5_code 35 = .ok (.dup_x1, 1) := by decide +kernel
theorem d2_36 : decode prog_12_method_5_code 36 = .ok (.iconst 1, 1) := by decide +kernel
theorem d2_37 : decode prog_12_method_5_code 37 = .ok (.iadd, 1) := by decide +kernel
theorem d2_38 : decode prog_12_method_5_code 38 = .ok (.putfield 25, 3) := by decide +kernel
theorem d2_41 : decode prog_12_method_5_code 41 = .ok (.iload_n 1, 1) := by decide +kernel
theorem d2_42 : decode prog_12_method_5_code 42 = .ok (.bipush 16, 2) := by decide +kernel
theorem d2_44 : decode prog_12_method_5_code 44 = .ok (.iushr, 1) := by decide +kernel
theorem d2_45 : decode prog_12_method_5_code 45 = .ok (.i2b, 1) := by decide +kernel
theorem d2_46 : decode prog_12_method_5_code 46 = .ok (.bastore, 1) := by decide +kernel
theorem d2_47 : decode prog_12_method_5_code 47 = .ok (.aload_n 0, 1) := by decide +kernel
theorem d2_48 : decode prog_12_method_5_code 48 = .ok (.getfield 12, 3) := by decide +kernel
theorem d2_51 : decode prog_12_method_5_code 51 = .ok (.aload_n 0, 1) := by decide +kernel
theorem d2_52 : decode prog_12_method_5_code 52 = .ok (.dup, 1) := by decide +kernel
theorem d2_53 : decode prog_12_method_5_code 53 = .ok (.getfield 25, 3) := by decide +kernel
theorem d2_56 : decode prog_12_method_5_code 56 = .ok (.dup_x1, 1) := by decide +kernel
theorem d2_57 : decode prog_12_method_5_code 57 = .ok (.iconst 1, 1) := by decide +kernel
theorem d2_58 : decode prog_12_method_5_code 58 = .ok (.iadd, 1) := by decide +kernel
theorem d2_59 : decode prog_12_method_5_code 59 = .ok (.putfield 25, 3) := by decide +kernel
theorem d2_62 : decode prog_12_method_5_code 62 = .ok (.iload_n 1, 1) := by decide +kernel
theorem d2_63 : decode prog_12_method_5_code 63 = .ok (.bipush 8, 2) := by decide +kernel
theorem d2_65 : decode prog_12_method_5_code 65 = .ok (.iushr, 1) := by decide +kernel
theorem d2_66 : decode prog_12_method_5_code 66 = .ok (.i2b, 1) := by decide +kernel
theorem d2_67 : decode prog_12_method_5_code 67 = .ok (.bastore, 1) := by decide +kernel
theorem d2_68 : decode prog_12_method_5_code 68 = .ok (.aload_n 0, 1) := by decide +kernel
theorem d2_69 : decode prog_12_method_5_code 69 = .ok (.getfield 12, 3) := by decide +kernel
theorem d2_72 : decode prog_12_method_5_code 72 = .ok (.aload_n 0, 1) := by decide +kernel
theorem d2_73 : decode prog_12_method_5_code 73 = .ok (.dup, 1) := by decide +kernel
theorem d2_74 : decode prog_12_method_5_code 74 = .ok (.getfield 25, 3) := by decide +kernel
theorem d2_77 : decode prog_12_method_5_code 77 = .ok (.dup_x1, 1) := by decide +kernel
theorem d2_78 : decode prog_12_method_5_code 78 = .ok (.iconst 1, 1) := by decide +kernel
theorem d2_79 : decode prog_12_method_5_code 79 = .ok (.iadd, 1) := by decide +kernel
theorem d2_80 : decode prog_12_method_5_code 80 = .ok (.putfield 25, 3) := by decide +kernel
theorem d2_83 : decode prog_12_method_5_code 83 = .ok (.iload_n 1, 1) := by decide +kernel
theorem d2_84 : decode prog_12_method_5_code 84 = .ok (.i2b, 1) := by decide +kernel
theorem d2_85 : decode prog_12_method_5_code 85 = .ok (.bastore, 1) := by decide +kernel
theorem d2_86 : decode prog_12_method_5_code 86 = .ok (.return_, 1) := by decide +kernel
theorem efu42 (m : MethodId) (o0_ : Addr) (x0_ : Int32) : entryFrame m #[(.ref o0_), (.int x0_)] 2 = mkF m 0 #[lvR o0_, lvI x0_] [] := by first | (simp [entryFrame, mkF, argsToLocals, Value.category]; done) | rfl
def Qu42 (Z : State) (o0_ : Addr) (x0_ : Int32) (o1_ : Addr) (ko1_ : ClassId) (h0 : Heap) (n0 : Nat) (v : Option Value) (h : Heap) (L : List Loc) : Prop := v = none ∧ Fr n0 L ∧ Keep h0 h [o0_, o1_] ∧ Exa Z h o0_ cn0 ∧ Fld Z h o0_ cn0 "bytes" "[B" (.ref o1_) ∧ Fld Z h o0_ cn0 "length" "I" (.int (4 : Int32)) ∧ Arv Z h o1_ ko1_ .byte (8 : Int32) [(.int (((x0_.toUInt32 >>> ((24 : Int32) &&& 31).toUInt32).toInt32).toInt8.toInt32)), (.int (((x0_.toUInt32 >>> ((16 : Int32) &&& 31).toUInt32).toInt32).toInt8.toInt32)), (.int (((x0_.toUInt32 >>> ((8 : Int32) &&& 31).toUInt32).toInt32).toInt8.toInt32)), (.int (x0_.toInt8.toInt32)), (.int (0 : Int32)), (.int (0 : Int32)), (.int (0 : Int32)), (.int (0 : Int32))] (.int (0 : Int32)) ∧ Exa Z h o1_ "[B"
set_option maxRecDepth 65536 in
set_option maxHeartbeats 40000000 in
theorem rmu42 (l : Launch) (Z : State) (a0 : Array Value) (hw : ∀ d ∈ tables_1, d.before a0 Z = true) (ws : List Jvm.Cond) (o0_ : Addr) (x0_ : Int32) (o1_ : Addr) (ko1_ : ClassId) (h0 : Heap) (n0 : Nat) (O0 : Old Z n0 h0) (P0 : Exa Z h0 o0_ cn0) (P1 : Fld Z h0 o0_ cn0 "bytes" "[B" (.ref o1_)) (P2 : Fld Z h0 o0_ cn0 "length" "I" (.int (0 : Int32))) (P3 : Arv Z h0 o1_ ko1_ .byte (8 : Int32) [(.int (0 : Int32)), (.int (0 : Int32)), (.int (0 : Int32)), (.int (0 : Int32)), (.int (0 : Int32)), (.int (0 : Int32)), (.int (0 : Int32)), (.int (0 : Int32))] (.int (0 : Int32))) (P4 : Exa Z h0 o1_ "[B") (P5 : n0 ≤ o0_) (P6 : o1_ ≠ o0_) (P7 : n0 ≤ o1_) :
    MetFree l (⟨"com/example/stackweave/stackweave/classfile/ByteWriter", "u4", "(I)V"⟩ : MethodName) (head1 (Jvm.Cond.code (⟨"com/example/stackweave/stackweave/classfile/ByteWriter", "u4", "(I)V"⟩ : MethodName) prog_12_method_5_code 2 none :: ws) ({ frames := 1, cells := 0, slots := 0, locals := 13 } : Room)) (fun a U => a = #[(.ref o0_), (.int x0_)] ∧ Z.Warmed39 U.vm ∧ U.heap = h0) (fun _ _ _ _ _ => True) (fun _ U o U' => ∃ v L, o = .returned v ∧ Qu42 Z o0_ x0_ o1_ ko1_ h0 n0 v U'.heap L ∧ FrameEnd U o U' L ({ frames := 1, cells := 0, slots := 0, locals := 13 } : Room).cells ({ frames := 1, cells := 0, slots := 0, locals := 13 } : Room).slots) := by
  refine MetFree.of_bodySF (plainFor_of_name pn_0) hisR ?_
  intro p e s m args below meth c s₁ Bd hml0 hP hK
  obtain ⟨rfl, hZ, hh⟩ := hP
  have hx := Bd.exec
  have hby := Bd.bytes
  have hml : c.maxLocals = 2 := hml0
  have hown : s.vm.findClass "com/example/stackweave/stackweave/classfile/ByteWriter" = some m.cls := findClass_of_methodNamed Bd.named
  have hnm := (name_of_methodNamed Bd.named Bd.method).1
  have X0 : Stand p l e ({ frames := 1, cells := 0, slots := 0, locals := 13 } : Room) s m #[(.ref o0_), (.int x0_)] below meth c s₁ [] 0 0 := Stand.of_body Bd
  have e0 : s₁.heap = h0 := by rw [← hh, Bd.state]; rfl
  have N0 := Fr.nil n0
  obtain ⟨G, pre0, hG⟩ : ∃ G : State → Prop, (∀ t, own_S p e below m s₁ 0 #[lvR o0_, lvI x0_] [] t → G t) ∧ (∀ t, G t → Steps p.tables e below (s₁.setTop (entryFrame m #[(.ref o0_), (.int x0_)] 2)) t) := ⟨fun t => Steps p.tables e below (s₁.setTop (entryFrame m #[(.ref o0_), (.int x0_)] 2)) t, fun t k => castTop (efu42 m o0_ x0_) k, fun _ k => k⟩
  have K0 : Keep h0 h0 [o0_, o1_] := Keep.refl _ _
  obtain ⟨cq1, q1, q1'⟩ := P0.cell
  obtain ⟨_, _, ⟨T1, L1, k1, n1⟩, -, X1, ⟨Lc1, hQ1, l1, y1, z1⟩, st1⟩ := X0.privateBack hx (y := (⟨"com/example/stackweave/stackweave/classfile/ByteWriter", "ensureCapacity", "(I)V"⟩ : MethodName)) hown (mvT hZ (own_w hw 18 rfl)) (mvT hZ (own_w hw 19 rfl)) (own_self (mvT hZ (own_w hw 2 rfl)) (Cond.privateMethod_at (mvP hZ (own_w hw 20 rfl) (args := #[]))) (mvT hZ (own_w hw 19 rfl)) (by decide)) (Cond.privateMethod_at (mvP hZ (own_w hw 20 rfl) (args := #[]))) (mvT hZ (own_w hw 21 rfl)) (by decide) (backOf (W := 0) (rmensureCapacity3 l Z a0 hw [] o0_ o1_ ko1_ h0 n0 O0 P0 P1 P2 P3 P4) hZ (own_w hw 21 rfl) (own_w hw 3 rfl) (by decide) (by decide)) (g := (mkF m 2 #[lvR o0_, lvI x0_] [(.int (4 : Int32)), (.ref o0_)])) rfl (by rw [hml]; rfl) (Steps.refl _) (a := o0_) (by rw [e0]; exact q1) q1' (argsL := [(.int (4 : Int32))]) (rest := []) (lenOf pd_0 rfl) rfl (by show 2 * 0 + _ ≤ _; exact Nat.le_of_eq rfl) (hb hby d2_2) (fun _ _ => ⟨rfl, e0, (by decide : 0 + 0 ≤ _), (by decide : 0 + 0 ≤ _)⟩)
  dsimp only [Pt.U, Pt.locs, Pt.cells, Pt.slots] at X1 l1 y1 z1 st1 hQ1
  subst l1 y1 z1
  obtain ⟨h1, e1⟩ : ∃ z, T1.heap = z := ⟨_, rfl⟩
  rw [e1] at hQ1
  obtain ⟨rfl, N1q, hh1⟩ := hQ1
  have N2 := Fr.app N0 N1q
  have e1' : T1.heap = h0 := e1.trans hh1
  obtain ⟨T3, X3, e3, st3⟩ := getF X1 hx hZ hown (host := "") (Or.inl (own_w hw 11 rfl)) Via.refl e1' P1 (g := (mkF m 6 #[lvR o0_, lvI x0_] [(.ref o0_)])) rfl rfl (hb hby d2_6)
  obtain ⟨T4, X4, e4, st4⟩ := getF X3 hx hZ hown (host := "") (Or.inl (own_w hw 22 rfl)) Via.refl e3 P2 (g := (mkF m 11 #[lvR o0_, lvI x0_] [(.ref o0_), (.ref o0_), (.ref o1_)])) rfl rfl (hb hby d2_11)
  obtain ⟨T5, h5, X5, e5, W5, st5⟩ := putF X4 hx hZ hown (host := "") (Or.inl (own_w hw 22 rfl)) Via.refl e4 P2 P0 (Or.inl (own_w hw 23 rfl)) (own_w hw 2 rfl) (ty := .int) (by decide) rfl rfl (g := (mkF m 17 #[lvR o0_, lvI x0_] [(.int (1 : Int32)), (.ref o0_), (.int (0 : Int32)), (.ref o1_)])) rfl rfl (hb hby d2_17)
  have N6 := Fr.snoc X5 N2 P5
  have f7 : Fld Z h5 o0_ cn0 "length" "I" (.int (1 : Int32)) := P2.same W5
  have f9 : Arv Z h5 o1_ ko1_ .byte (8 : Int32) [(.int (0 : Int32)), (.int (0 : Int32)), (.int (0 : Int32)), (.int (0 : Int32)), (.int (0 : Int32)), (.int (0 : Int32)), (.int (0 : Int32)), (.int (0 : Int32))] (.int (0 : Int32)) := P3.other W5 P6
  obtain ⟨c8, r8, q8, s8, z8, y8, G8⟩ := id f9
  have hin8 : ¬ ((0 : Int32) < 0 ∨ c8.slots.size ≤ ((0 : Int32)).toNatClampNeg) := inb_of s8 ⟨by decide, by decide⟩
  obtain ⟨T8, h8, X8, e8, W8, st8⟩ := stB X5 hx hZ e5 r8 (j := (0 : Int32)) hin8 (g := (mkF m 25 #[lvR o0_, lvI x0_] [(.int (((x0_.toUInt32 >>> ((24 : Int32) &&& 31).toUInt32).toInt32).toInt8.toInt32)), (.int (0 : Int32)), (.ref o1_)])) rfl rfl (hb hby d2_25)
  have N10 := Fr.snoc X8 N6 P7
  have f11 : Arv Z h8 o1_ ko1_ .byte (8 : Int32) [(.int ((((x0_.toUInt32 >>> ((24 : Int32) &&& 31).toUInt32).toInt32).toInt8.toInt32).toInt8.toInt32)), (.int (0 : Int32)), (.int (0 : Int32)), (.int (0 : Int32)), (.int (0 : Int32)), (.int (0 : Int32)), (.int (0 : Int32)), (.int (0 : Int32))] (.int (0 : Int32)) := Arv.set r8 q8 s8 z8 y8 G8 (fits_nar_byte _) W8 0 rfl (Nat.le_of_ble_eq_true rfl)
  have f12 : Arv Z h8 o1_ ko1_ .byte (8 : Int32) [(.int (((x0_.toUInt32 >>> ((24 : Int32) &&& 31).toUInt32).toInt32).toInt8.toInt32)), (.int (0 : Int32)), (.int (0 : Int32)), (.int (0 : Int32)), (.int (0 : Int32)), (.int (0 : Int32)), (.int (0 : Int32)), (.int (0 : Int32))] (.int (0 : Int32)) := by have q := f11; rw [own_i2b2] at q; exact q
  have f13 : Fld Z h5 o0_ cn0 "bytes" "[B" (.ref o1_) := P1.other W5 (Or.inr (slot_ne (Or.inl (own_w hw 12 rfl)) (Or.inl (own_w hw 23 rfl)) (by decide) (t := (.array .byte)) (t' := .int) (by decide) (by decide)))
  have f14 : Fld Z h8 o0_ cn0 "bytes" "[B" (.ref o1_) := f13.other W8 (Or.inl (Ne.symm P6))
  obtain ⟨T15, X15, e15, st15⟩ := getF X8 hx hZ hown (host := "") (Or.inl (own_w hw 11 rfl)) Via.refl e8 f14 (g := (mkF m 27 #[lvR o0_, lvI x0_] [(.ref o0_)])) rfl rfl (hb hby d2_27)
  have f16 : Fld Z h8 o0_ cn0 "length" "I" (.int (1 : Int32)) := f7.other W8 (Or.inl (Ne.symm P6))
  obtain ⟨T17, X17, e17, st17⟩ := getF X15 hx hZ hown (host := "") (Or.inl (own_w hw 22 rfl)) Via.refl e15 f16 (g := (mkF m 32 #[lvR o0_, lvI x0_] [(.ref o0_), (.ref o0_), (.ref o1_)])) rfl rfl (hb hby d2_32)
  have f18 : Exa Z h5 o0_ cn0 := P0.wr W5
  have f19 : Exa Z h8 o0_ cn0 := f18.wr W8
  obtain ⟨T20, h20, X20, e20, W20, st20⟩ := putF X17 hx hZ hown (host := "") (Or.inl (own_w hw 22 rfl)) Via.refl e17 f16 f19 (Or.inl (own_w hw 23 rfl)) (own_w hw 2 rfl) (ty := .int) (by decide) rfl rfl (g := (mkF m 38 #[lvR o0_, lvI x0_] [(.int (2 : Int32)), (.ref o0_), (.int (1 : Int32)), (.ref o1_)])) rfl rfl (hb hby d2_38)
  have N21 := Fr.snoc X20 N10 P5
  have f22 : Fld Z h20 o0_ cn0 "length" "I" (.int (2 : Int32)) := f16.same W20
  have f24 : Arv Z h20 o1_ ko1_ .byte (8 : Int32) [(.int (((x0_.toUInt32 >>> ((24 : Int32) &&& 31).toUInt32).toInt32).toInt8.toInt32)), (.int (0 : Int32)), (.int (0 : Int32)), (.int (0 : Int32)), (.int (0 : Int32)), (.int (0 : Int32)), (.int (0 : Int32)), (.int (0 : Int32))] (.int (0 : Int32)) := f12.other W20 P6
  obtain ⟨c23, r23, q23, s23, z23, y23, G23⟩ := id f24
  have hin23 : ¬ ((1 : Int32) < 0 ∨ c23.slots.size ≤ ((1 : Int32)).toNatClampNeg) := inb_of s23 ⟨by decide, by decide⟩
  obtain ⟨T23, h23, X23, e23, W23, st23⟩ := stB X20 hx hZ e20 r23 (j := (1 : Int32)) hin23 (g := (mkF m 46 #[lvR o0_, lvI x0_] [(.int (((x0_.toUInt32 >>> ((16 : Int32) &&& 31).toUInt32).toInt32).toInt8.toInt32)), (.int (1 : Int32)), (.ref o1_)])) rfl rfl (hb hby d2_46)
  have N25 := Fr.snoc X23 N21 P7
  have f26 : Arv Z h23 o1_ ko1_ .byte (8 : Int32) [(.int (((x0_.toUInt32 >>> ((24 : Int32) &&& 31).toUInt32).toInt32).toInt8.toInt32)), (.int ((((x0_.toUInt32 >>> ((16 : Int32) &&& 31).toUInt32).toInt32).toInt8.toInt32).toInt8.toInt32)), (.int (0 : Int32)), (.int (0 : Int32)), (.int (0 : Int32)), (.int (0 : Int32)), (.int (0 : Int32)), (.int (0 : Int32))] (.int (0 : Int32)) := Arv.set r23 q23 s23 z23 y23 G23 (fits_nar_byte _) W23 1 rfl (Nat.le_of_ble_eq_true rfl)
  have f27 : Arv Z h23 o1_ ko1_ .byte (8 : Int32) [(.int (((x0_.toUInt32 >>> ((24 : Int32) &&& 31).toUInt32).toInt32).toInt8.toInt32)), (.int (((x0_.toUInt32 >>> ((16 : Int32) &&& 31).toUInt32).toInt32).toInt8.toInt32)), (.int (0 : Int32)), (.int (0 : Int32)), (.int (0 : Int32)), (.int (0 : Int32)), (.int (0 : Int32)), (.int (0 : Int32))] (.int (0 : Int32)) := by have q := f26; rw [own_i2b2] at q; exact q
  have f28 : Fld Z h20 o0_ cn0 "bytes" "[B" (.ref o1_) := f14.other W20 (Or.inr (slot_ne (Or.inl (own_w hw 12 rfl)) (Or.inl (own_w hw 23 rfl)) (by decide) (t := (.array .byte)) (t' := .int) (by decide) (by decide)))
  have f29 : Fld Z h23 o0_ cn0 "bytes" "[B" (.ref o1_) := f28.other W23 (Or.inl (Ne.symm P6))
  obtain ⟨T30, X30, e30, st30⟩ := getF X23 hx hZ hown (host := "") (Or.inl (own_w hw 11 rfl)) Via.refl e23 f29 (g := (mkF m 48 #[lvR o0_, lvI x0_] [(.ref o0_)])) rfl rfl (hb hby d2_48)
  have f31 : Fld Z h23 o0_ cn0 "length" "I" (.int (2 : Int32)) := f22.other W23 (Or.inl (Ne.symm P6))
  obtain ⟨T32, X32, e32, st32⟩ := getF X30 hx hZ hown (host := "") (Or.inl (own_w hw 22 rfl)) Via.refl e30 f31 (g := (mkF m 53 #[lvR o0_, lvI x0_] [(.ref o0_), (.ref o0_), (.ref o1_)])) rfl rfl (hb hby d2_53)
  have f33 : Exa Z h20 o0_ cn0 := f19.wr W20
  have f34 : Exa Z h23 o0_ cn0 := f33.wr W23
  obtain ⟨T35, h35, X35, e35, W35, st35⟩ := putF X32 hx hZ hown (host := "") (Or.inl (own_w hw 22 rfl)) Via.refl e32 f31 f34 (Or.inl (own_w hw 23 rfl)) (own_w hw 2 rfl) (ty := .int) (by decide) rfl rfl (g := (mkF m 59 #[lvR o0_, lvI x0_] [(.int (3 : Int32)), (.ref o0_), (.int (2 : Int32)), (.ref o1_)])) rfl rfl (hb hby d2_59)
  have N36 := Fr.snoc X35 N25 P5
  have f37 : Fld Z h35 o0_ cn0 "length" "I" (.int (3 : Int32)) := f31.same W35
  have f39 : Arv Z h35 o1_ ko1_ .byte (8 : Int32) [(.int (((x0_.toUInt32 >>> ((24 : Int32) &&& 31).toUInt32).toInt32).toInt8.toInt32)), (.int (((x0_.toUInt32 >>> ((16 : Int32) &&& 31).toUInt32).toInt32).toInt8.toInt32)), (.int (0 : Int32)), (.int (0 : Int32)), (.int (0 : Int32)), (.int (0 : Int32)), (.int (0 : Int32)), (.int (0 : Int32))] (.int (0 : Int32)) := f27.other W35 P6
  obtain ⟨c38, r38, q38, s38, z38, y38, G38⟩ := id f39
  have hin38 : ¬ ((2 : Int32) < 0 ∨ c38.slots.size ≤ ((2 : Int32)).toNatClampNeg) := inb_of s38 ⟨by decide, by decide⟩
  obtain ⟨T38, h38, X38, e38, W38, st38⟩ := stB X35 hx hZ e35 r38 (j := (2 : Int32)) hin38 (g := (mkF m 67 #[lvR o0_, lvI x0_] [(.int (((x0_.toUInt32 >>> ((8 : Int32) &&& 31).toUInt32).toInt32).toInt8.toInt32)), (.int (2 : Int32)), (.ref o1_)])) rfl rfl (hb hby d2_67)
  have N40 := Fr.snoc X38 N36 P7
  have f41 : Arv Z h38 o1_ ko1_ .byte (8 : Int32) [(.int (((x0_.toUInt32 >>> ((24 : Int32) &&& 31).toUInt32).toInt32).toInt8.toInt32)), (.int (((x0_.toUInt32 >>> ((16 : Int32) &&& 31).toUInt32).toInt32).toInt8.toInt32)), (.int ((((x0_.toUInt32 >>> ((8 : Int32) &&& 31).toUInt32).toInt32).toInt8.toInt32).toInt8.toInt32)), (.int (0 : Int32)), (.int (0 : Int32)), (.int (0 : Int32)), (.int (0 : Int32)), (.int (0 : Int32))] (.int (0 : Int32)) := Arv.set r38 q38 s38 z38 y38 G38 (fits_nar_byte _) W38 2 rfl (Nat.le_of_ble_eq_true rfl)
  have f42 : Arv Z h38 o1_ ko1_ .byte (8 : Int32) [(.int (((x0_.toUInt32 >>> ((24 : Int32) &&& 31).toUInt32).toInt32).toInt8.toInt32)), (.int (((x0_.toUInt32 >>> ((16 : Int32) &&& 31).toUInt32).toInt32).toInt8.toInt32)), (.int (((x0_.toUInt32 >>> ((8 : Int32) &&& 31).toUInt32).toInt32).toInt8.toInt32)), (.int (0 : Int32)), (.int (0 : Int32)), (.int (0 : Int32)), (.int (0 : Int32)), (.int (0 : Int32))] (.int (0 : Int32)) := by have q := f41; rw [own_i2b2] at q; exact q
  have f43 : Fld Z h35 o0_ cn0 "bytes" "[B" (.ref o1_) := f29.other W35 (Or.inr (slot_ne (Or.inl (own_w hw 12 rfl)) (Or.inl (own_w hw 23 rfl)) (by decide) (t := (.array .byte)) (t' := .int) (by decide) (by decide)))
  have f44 : Fld Z h38 o0_ cn0 "bytes" "[B" (.ref o1_) := f43.other W38 (Or.inl (Ne.symm P6))
  obtain ⟨T45, X45, e45, st45⟩ := getF X38 hx hZ hown (host := "") (Or.inl (own_w hw 11 rfl)) Via.refl e38 f44 (g := (mkF m 69 #[lvR o0_, lvI x0_] [(.ref o0_)])) rfl rfl (hb hby d2_69)
  have f46 : Fld Z h38 o0_ cn0 "length" "I" (.int (3 : Int32)) := f37.other W38 (Or.inl (Ne.symm P6))
  obtain ⟨T47, X47, e47, st47⟩ := getF X45 hx hZ hown (host := "") (Or.inl (own_w hw 22 rfl)) Via.refl e45 f46 (g := (mkF m 74 #[lvR o0_, lvI x0_] [(.ref o0_), (.ref o0_), (.ref o1_)])) rfl rfl (hb hby d2_74)
  have f48 : Exa Z h35 o0_ cn0 := f34.wr W35
  have f49 : Exa Z h38 o0_ cn0 := f48.wr W38
  obtain ⟨T50, h50, X50, e50, W50, st50⟩ := putF X47 hx hZ hown (host := "") (Or.inl (own_w hw 22 rfl)) Via.refl e47 f46 f49 (Or.inl (own_w hw 23 rfl)) (own_w hw 2 rfl) (ty := .int) (by decide) rfl rfl (g := (mkF m 80 #[lvR o0_, lvI x0_] [(.int (4 : Int32)), (.ref o0_), (.int (3 : Int32)), (.ref o1_)])) rfl rfl (hb hby d2_80)
  have N51 := Fr.snoc X50 N40 P5
  have f52 : Fld Z h50 o0_ cn0 "length" "I" (.int (4 : Int32)) := f46.same W50
  have f54 : Arv Z h50 o1_ ko1_ .byte (8 : Int32) [(.int (((x0_.toUInt32 >>> ((24 : Int32) &&& 31).toUInt32).toInt32).toInt8.toInt32)), (.int (((x0_.toUInt32 >>> ((16 : Int32) &&& 31).toUInt32).toInt32).toInt8.toInt32)), (.int (((x0_.toUInt32 >>> ((8 : Int32) &&& 31).toUInt32).toInt32).toInt8.toInt32)), (.int (0 : Int32)), (.int (0 : Int32)), (.int (0 : Int32)), (.int (0 : Int32)), (.int (0 : Int32))] (.int (0 : Int32)) := f42.other W50 P6
  obtain ⟨c53, r53, q53, s53, z53, y53, G53⟩ := id f54
  have hin53 : ¬ ((3 : Int32) < 0 ∨ c53.slots.size ≤ ((3 : Int32)).toNatClampNeg) := inb_of s53 ⟨by decide, by decide⟩
  obtain ⟨T53, h53, X53, e53, W53, st53⟩ := stB X50 hx hZ e50 r53 (j := (3 : Int32)) hin53 (g := (mkF m 85 #[lvR o0_, lvI x0_] [(.int (x0_.toInt8.toInt32)), (.int (3 : Int32)), (.ref o1_)])) rfl rfl (hb hby d2_85)
  have N55 := Fr.snoc X53 N51 P7
  have f56 : Arv Z h53 o1_ ko1_ .byte (8 : Int32) [(.int (((x0_.toUInt32 >>> ((24 : Int32) &&& 31).toUInt32).toInt32).toInt8.toInt32)), (.int (((x0_.toUInt32 >>> ((16 : Int32) &&& 31).toUInt32).toInt32).toInt8.toInt32)), (.int (((x0_.toUInt32 >>> ((8 : Int32) &&& 31).toUInt32).toInt32).toInt8.toInt32)), (.int ((x0_.toInt8.toInt32).toInt8.toInt32)), (.int (0 : Int32)), (.int (0 : Int32)), (.int (0 : Int32)), (.int (0 : Int32))] (.int (0 : Int32)) := Arv.set r53 q53 s53 z53 y53 G53 (fits_nar_byte _) W53 3 rfl (Nat.le_of_ble_eq_true rfl)
  have f57 : Arv Z h53 o1_ ko1_ .byte (8 : Int32) [(.int (((x0_.toUInt32 >>> ((24 : Int32) &&& 31).toUInt32).toInt32).toInt8.toInt32)), (.int (((x0_.toUInt32 >>> ((16 : Int32) &&& 31).toUInt32).toInt32).toInt8.toInt32)), (.int (((x0_.toUInt32 >>> ((8 : Int32) &&& 31).toUInt32).toInt32).toInt8.toInt32)), (.int (x0_.toInt8.toInt32)), (.int (0 : Int32)), (.int (0 : Int32)), (.int (0 : Int32)), (.int (0 : Int32))] (.int (0 : Int32)) := by have q := f56; rw [own_i2b2] at q; exact q
  have pre58 : ∀ t, own_S p e below m T53 86 #[lvR o0_, lvI x0_] [] t → G t := by
    intro t kt
    refine pre0 t ?_
    show own_S p e below m s₁ 0 #[lvR o0_, lvI x0_] [] _
    refine XS.aloadN X0.here hx rfl (hb hby d2_0) rfl rfl ?_
    refine XS.iconst X0.here hx rfl (hb hby d2_1) ?_
    show own_S p e below m s₁ 2 #[lvR o0_, lvI x0_] [(.int (4 : Int32)), (.ref o0_)] _
    refine st1.trans ?_
    refine XS.aloadN X1.here hx rfl (hb hby d2_5) rfl rfl ?_
    show own_S p e below m T1 6 #[lvR o0_, lvI x0_] [(.ref o0_)] _
    refine st3 _ ?_
    refine XS.aloadN X3.here hx rfl (hb hby d2_9) rfl rfl ?_
    refine XS.dup X3.here hx rfl (hb hby d2_10) rfl rfl ?_
    show own_S p e below m T3 11 #[lvR o0_, lvI x0_] [(.ref o0_), (.ref o0_), (.ref o1_)] _
    refine st4 _ ?_
    show own_S p e below m T4 14 #[lvR o0_, lvI x0_] [(.int (0 : Int32)), (.ref o0_), (.ref o1_)] _
    refine XS.dupX1 X4.here hx rfl (hb hby d2_14) rfl rfl rfl ?_
    refine XS.iconst X4.here hx rfl (hb hby d2_15) ?_
    refine XS.iadd X4.here hx rfl (hb hby d2_16) rfl ?_
    show own_S p e below m T4 17 #[lvR o0_, lvI x0_] [(.int (1 : Int32)), (.ref o0_), (.int (0 : Int32)), (.ref o1_)] _
    refine st5 _ ?_
    refine XS.iloadN X5.here hx rfl (hb hby d2_20) rfl ?_
    refine XS.bipush X5.here hx rfl (hb hby d2_21) ?_
    show own_S p e below m T5 23 #[lvR o0_, lvI x0_] [(.int (24 : Int32)), (.int x0_), (.int (0 : Int32)), (.ref o1_)] _
    refine XS.iushr X5.here hx rfl (hb hby d2_23) rfl ?_
    show own_S p e below m T5 24 #[lvR o0_, lvI x0_] [(.int ((x0_.toUInt32 >>> ((24 : Int32) &&& 31).toUInt32).toInt32)), (.int (0 : Int32)), (.ref o1_)] _
    refine XS.i2b X5.here hx rfl (hb hby d2_24) rfl ?_
    show own_S p e below m T5 25 #[lvR o0_, lvI x0_] [(.int (((x0_.toUInt32 >>> ((24 : Int32) &&& 31).toUInt32).toInt32).toInt8.toInt32)), (.int (0 : Int32)), (.ref o1_)] _
    refine st8 _ ?_
    refine XS.aloadN X8.here hx rfl (hb hby d2_26) rfl rfl ?_
    show own_S p e below m T8 27 #[lvR o0_, lvI x0_] [(.ref o0_)] _
    refine st15 _ ?_
    refine XS.aloadN X15.here hx rfl (hb hby d2_30) rfl rfl ?_
    refine XS.dup X15.here hx rfl (hb hby d2_31) rfl rfl ?_
    show own_S p e below m T15 32 #[lvR o0_, lvI x0_] [(.ref o0_), (.ref o0_), (.ref o1_)] _
    refine st17 _ ?_
    show own_S p e below m T17 35 #[lvR o0_, lvI x0_] [(.int (1 : Int32)), (.ref o0_), (.ref o1_)] _
    refine XS.dupX1 X17.here hx rfl (hb hby d2_35) rfl rfl rfl ?_
    refine XS.iconst X17.here hx rfl (hb hby d2_36) ?_
    refine XS.iadd X17.here hx rfl (hb hby d2_37) rfl ?_
    show own_S p e below m T17 38 #[lvR o0_, lvI x0_] [(.int (2 : Int32)), (.ref o0_), (.int (1 : Int32)), (.ref o1_)] _
    refine st20 _ ?_
    refine XS.iloadN X20.here hx rfl (hb hby d2_41) rfl ?_
    refine XS.bipush X20.here hx rfl (hb hby d2_42) ?_
    show own_S p e below m T20 44 #[lvR o0_, lvI x0_] [(.int (16 : Int32)), (.int x0_), (.int (1 : Int32)), (.ref o1_)] _
    refine XS.iushr X20.here hx rfl (hb hby d2_44) rfl ?_
    show own_S p e below m T20 45 #[lvR o0_, lvI x0_] [(.int ((x0_.toUInt32 >>> ((16 : Int32) &&& 31).toUInt32).toInt32)), (.int (1 : Int32)), (.ref o1_)] _
    refine XS.i2b X20.here hx rfl (hb hby d2_45) rfl ?_
    show own_S p e below m T20 46 #[lvR o0_, lvI x0_] [(.int (((x0_.toUInt32 >>> ((16 : Int32) &&& 31).toUInt32).toInt32).toInt8.toInt32)), (.int (1 : Int32)), (.ref o1_)] _
    refine st23 _ ?_
    refine XS.aloadN X23.here hx rfl (hb hby d2_47) rfl rfl ?_
    show own_S p e below m T23 48 #[lvR o0_, lvI x0_] [(.ref o0_)] _
    refine st30 _ ?_
    refine XS.aloadN X30.here hx rfl (hb hby d2_51) rfl rfl ?_
    refine XS.dup X30.here hx rfl (hb hby d2_52) rfl rfl ?_
    show own_S p e below m T30 53 #[lvR o0_, lvI x0_] [(.ref o0_), (.ref o0_), (.ref o1_)] _
    refine st32 _ ?_
    show own_S p e below m T32 56 #[lvR o0_, lvI x0_] [(.int (2 : Int32)), (.ref o0_), (.ref o1_)] _
    refine XS.dupX1 X32.here hx rfl (hb hby d2_56) rfl rfl rfl ?_
    refine XS.iconst X32.here hx rfl (hb hby d2_57) ?_
    refine XS.iadd X32.here hx rfl (hb hby d2_58) rfl ?_
    show own_S p e below m T32 59 #[lvR o0_, lvI x0_] [(.int (3 : Int32)), (.ref o0_), (.int (2 : Int32)), (.ref o1_)] _
    refine st35 _ ?_
    refine XS.iloadN X35.here hx rfl (hb hby d2_62) rfl ?_
    refine XS.bipush X35.here hx rfl (hb hby d2_63) ?_
    show own_S p e below m T35 65 #[lvR o0_, lvI x0_] [(.int (8 : Int32)), (.int x0_), (.int (2 : Int32)), (.ref o1_)] _
    refine XS.iushr X35.here hx rfl (hb hby d2_65) rfl ?_
    show own_S p e below m T35 66 #[lvR o0_, lvI x0_] [(.int ((x0_.toUInt32 >>> ((8 : Int32) &&& 31).toUInt32).toInt32)), (.int (2 : Int32)), (.ref o1_)] _
    refine XS.i2b X35.here hx rfl (hb hby d2_66) rfl ?_
    show own_S p e below m T35 67 #[lvR o0_, lvI x0_] [(.int (((x0_.toUInt32 >>> ((8 : Int32) &&& 31).toUInt32).toInt32).toInt8.toInt32)), (.int (2 : Int32)), (.ref o1_)] _
    refine st38 _ ?_
    refine XS.aloadN X38.here hx rfl (hb hby d2_68) rfl rfl ?_
    show own_S p e below m T38 69 #[lvR o0_, lvI x0_] [(.ref o0_)] _
    refine st45 _ ?_
    refine XS.aloadN X45.here hx rfl (hb hby d2_72) rfl rfl ?_
    refine XS.dup X45.here hx rfl (hb hby d2_73) rfl rfl ?_
    show own_S p e below m T45 74 #[lvR o0_, lvI x0_] [(.ref o0_), (.ref o0_), (.ref o1_)] _
    refine st47 _ ?_
    show own_S p e below m T47 77 #[lvR o0_, lvI x0_] [(.int (3 : Int32)), (.ref o0_), (.ref o1_)] _
    refine XS.dupX1 X47.here hx rfl (hb hby d2_77) rfl rfl rfl ?_
    refine XS.iconst X47.here hx rfl (hb hby d2_78) ?_
    refine XS.iadd X47.here hx rfl (hb hby d2_79) rfl ?_
    show own_S p e below m T47 80 #[lvR o0_, lvI x0_] [(.int (4 : Int32)), (.ref o0_), (.int (3 : Int32)), (.ref o1_)] _
    refine st50 _ ?_
    refine XS.iloadN X50.here hx rfl (hb hby d2_83) rfl ?_
    show own_S p e below m T50 84 #[lvR o0_, lvI x0_] [(.int x0_), (.int (3 : Int32)), (.ref o1_)] _
    refine XS.i2b X50.here hx rfl (hb hby d2_84) rfl ?_
    show own_S p e below m T50 85 #[lvR o0_, lvI x0_] [(.int (x0_.toInt8.toInt32)), (.int (3 : Int32)), (.ref o1_)] _
    refine st53 _ ?_
    exact kt
  have f60 : Keep h0 h5 [o0_, o1_] := K0.wr W5 (Or.inl (List.mem_of_getElem? (i := 0) rfl))
  have f61 : Keep h0 h8 [o0_, o1_] := f60.wr W8 (Or.inl (List.mem_of_getElem? (i := 1) rfl))
  have f62 : Keep h0 h20 [o0_, o1_] := f61.wr W20 (Or.inl (List.mem_of_getElem? (i := 0) rfl))
  have f63 : Keep h0 h23 [o0_, o1_] := f62.wr W23 (Or.inl (List.mem_of_getElem? (i := 1) rfl))
  have f64 : Keep h0 h35 [o0_, o1_] := f63.wr W35 (Or.inl (List.mem_of_getElem? (i := 0) rfl))
  have f65 : Keep h0 h38 [o0_, o1_] := f64.wr W38 (Or.inl (List.mem_of_getElem? (i := 1) rfl))
  have f66 : Keep h0 h50 [o0_, o1_] := f65.wr W50 (Or.inl (List.mem_of_getElem? (i := 0) rfl))
  have f67 : Keep h0 h53 [o0_, o1_] := f66.wr W53 (Or.inl (List.mem_of_getElem? (i := 1) rfl))
  have f68 : Exa Z h50 o0_ cn0 := f49.wr W50
  have f69 : Exa Z h53 o0_ cn0 := f68.wr W53
  have f70 : Fld Z h50 o0_ cn0 "bytes" "[B" (.ref o1_) := f44.other W50 (Or.inr (slot_ne (Or.inl (own_w hw 12 rfl)) (Or.inl (own_w hw 23 rfl)) (by decide) (t := (.array .byte)) (t' := .int) (by decide) (by decide)))
  have f71 : Fld Z h53 o0_ cn0 "bytes" "[B" (.ref o1_) := f70.other W53 (Or.inl (Ne.symm P6))
  have f72 : Fld Z h53 o0_ cn0 "length" "I" (.int (4 : Int32)) := f52.other W53 (Or.inl (Ne.symm P6))
  have f73 : Exa Z h5 o1_ "[B" := P4.wr W5
  have f74 : Exa Z h8 o1_ "[B" := f73.wr W8
  have f75 : Exa Z h20 o1_ "[B" := f74.wr W20
  have f76 : Exa Z h23 o1_ "[B" := f75.wr W23
  have f77 : Exa Z h35 o1_ "[B" := f76.wr W35
  have f78 : Exa Z h38 o1_ "[B" := f77.wr W38
  have f79 : Exa Z h50 o1_ "[B" := f78.wr W50
  have f80 : Exa Z h53 o1_ "[B" := f79.wr W53
  obtain ⟨fs, hr, hrun, hended, hW, hsame⟩ := X53.leave (v := none) (fun _ => rfl)
  refine ⟨_, _, hG _ (pre58 _ (X53.returnOut hx Bd.returns (hb hby d2_86) hr)), hrun, hended, _, _, rfl, ?_, ⟨_, rfl⟩, hW, hsame.mono (by decide) (by decide)⟩
  show Qu42 Z o0_ x0_ o1_ ko1_ h0 n0 _ T53.heap _
  rw [e53]
  exact ⟨rfl, N55, f67, f69, f71, f72, f57, f80⟩
theorem efensureCapacity5 (m : MethodId) (o0_ : Addr) : entryFrame m #[(.ref o0_), (.int (4 : Int32))] 2 = mkF m 0 #[lvR o0_, lvI (4 : Int32)] [] := by first | (simp [entryFrame, mkF, argsToLocals, Value.category]; done) | rfl
def QensureCapacity5 (Z : State) (o0_ : Addr) (o1_ : Addr) (ko1_ : ClassId) (x0_ : Int32) (x1_ : Int32) (x2_ : Int32) (x3_ : Int32) (h0 : Heap) (n0 : Nat) (v : Option Value) (h : Heap) (L : List Loc) : Prop := v = none ∧ Fr n0 L ∧ h = h0
set_option maxRecDepth 65536 in
set_option maxHeartbeats 40000000 in
theorem rmensureCapacity5 (l : Launch) (Z : State) (a0 : Array Value) (hw : ∀ d ∈ tables_1, d.before a0 Z = true) (ws : List Jvm.Cond) (o0_ : Addr) (o1_ : Addr) (ko1_ : ClassId) (x0_ : Int32) (x1_ : Int32) (x2_ : Int32) (x3_ : Int32) (h0 : Heap) (n0 : Nat) (O0 : Old Z n0 h0) (P0 : Exa Z h0 o0_ cn0) (P1 : Fld Z h0 o0_ cn0 "bytes" "[B" (.ref o1_)) (P2 : Fld Z h0 o0_ cn0 "length" "I" (.int (4 : Int32))) (P3 : Arv Z h0 o1_ ko1_ .byte (8 : Int32) [(.int x0_), (.int x1_), (.int x2_), (.int x3_), (.int (0 : Int32)), (.int (0 : Int32)), (.int (0 : Int32)), (.int (0 : Int32))] (.int (0 : Int32))) (P4 : Exa Z h0 o1_ "[B") :
    MetFree l (⟨"com/example/stackweave/stackweave/classfile/ByteWriter", "ensureCapacity", "(I)V"⟩ : MethodName) (head1 (Jvm.Cond.code (⟨"com/example/stackweave/stackweave/classfile/ByteWriter", "ensureCapacity", "(I)V"⟩ : MethodName) prog_12_method_16_code 2 none :: ws) ({ frames := 0, cells := 0, slots := 0, locals := 0 } : Room)) (fun a U => a = #[(.ref o0_), (.int (4 : Int32))] ∧ Z.Warmed39 U.vm ∧ U.heap = h0) (fun _ _ _ _ _ => True) (fun _ U o U' => ∃ v L, o = .returned v ∧ QensureCapacity5 Z o0_ o1_ ko1_ x0_ x1_ x2_ x3_ h0 n0 v U'.heap L ∧ FrameEnd U o U' L ({ frames := 0, cells := 0, slots := 0, locals := 0 } : Room).cells ({ frames := 0, cells := 0, slots := 0, locals := 0 } : Room).slots) := by
  refine MetFree.of_bodySF (plainFor_of_name pn_0) hisR ?_
  intro p e s m args below meth c s₁ Bd hml0 hP hK
  obtain ⟨rfl, hZ, hh⟩ := hP
  have hx := Bd.exec
  have hby := Bd.bytes
  have hml : c.maxLocals = 2 := hml0
  have hown : s.vm.findClass "com/example/stackweave/stackweave/classfile/ByteWriter" = some m.cls := findClass_of_methodNamed Bd.named
  have hnm := (name_of_methodNamed Bd.named Bd.method).1
  have X0 : Stand p l e ({ frames := 0, cells := 0, slots := 0, locals := 0 } : Room) s m #[(.ref o0_), (.int (4 : Int32))] below meth c s₁ [] 0 0 := Stand.of_body Bd
  have e0 : s₁.heap = h0 := by rw [← hh, Bd.state]; rfl
  have N0 := Fr.nil n0
  obtain ⟨G, pre0, hG⟩ : ∃ G : State → Prop, (∀ t, own_S p e below m s₁ 0 #[lvR o0_, lvI (4 : Int32)] [] t → G t) ∧ (∀ t, G t → Steps p.tables e below (s₁.setTop (entryFrame m #[(.ref o0_), (.int (4 : Int32))] 2)) t) := ⟨fun t => Steps p.tables e below (s₁.setTop (entryFrame m #[(.ref o0_), (.int (4 : Int32))] 2)) t, fun t k => castTop (efensureCapacity5 m o0_) k, fun _ k => k⟩
  have K0 : Keep h0 h0 [] := Keep.refl _ _
  obtain ⟨T1, X1, e1, st1⟩ := getF X0 hx hZ hown (host := "") (Or.inl (own_w hw 22 rfl)) Via.refl e0 P2 (g := (mkF m 1 #[lvR o0_, lvI (4 : Int32)] [(.ref o0_)])) rfl rfl (hb hby d3_1)
  obtain ⟨T2, X2, e2, st2⟩ := getF X1 hx hZ hown (host := "") (Or.inl (own_w hw 11 rfl)) Via.refl e1 P1 (g := (mkF m 7 #[lvR o0_, lvI (4 : Int32)] [(.ref o0_), (.int (8 : Int32))])) rfl rfl (hb hby d3_7)
  obtain ⟨c3, r3, q3, s3, z3, y3, G3⟩ := id P3
  have pre4 : ∀ t, own_S p e below m T2 19 #[lvR o0_, lvI (4 : Int32)] [] t → G t := by
    intro t kt
    refine pre0 t ?_
    show own_S p e below m s₁ 0 #[lvR o0_, lvI (4 : Int32)] [] _
    refine XS.aloadN X0.here hx rfl (hb hby d3_0) rfl rfl ?_
    show own_S p e below m s₁ 1 #[lvR o0_, lvI (4 : Int32)] [(.ref o0_)] _
    refine st1 _ ?_
    refine XS.iloadN X1.here hx rfl (hb hby d3_4) rfl ?_
    refine XS.iadd X1.here hx rfl (hb hby d3_5) rfl ?_
    refine XS.aloadN X1.here hx rfl (hb hby d3_6) rfl rfl ?_
    show own_S p e below m T1 7 #[lvR o0_, lvI (4 : Int32)] [(.ref o0_), (.int (8 : Int32))] _
    refine st2 _ ?_
    show own_S p e below m T2 10 #[lvR o0_, lvI (4 : Int32)] [(.ref o1_), (.int (8 : Int32))] _
    refine X2.arraylength hx (by rw [e2]; exact r3.1) (State.isArrayOf_alike hZ.alike r3.2.1) (g := (mkF m 10 #[lvR o0_, lvI (4 : Int32)] [(.ref o1_), (.int (8 : Int32))])) rfl rfl (hb hby d3_10) _ ?_
    rw [len_of s3 z3]
    show own_S p e below m T2 11 #[lvR o0_, lvI (4 : Int32)] [(.int (8 : Int32)), (.int (8 : Int32))] _
    refine XS.icmpYes X2.here hx rfl (pc0 := 11) (pc' := 19) rfl (hb hby d3_11) rfl (flt (by decide : ¬ ((8 : Int32) < (8 : Int32)))).2.2.2 (by decide) (by decide) ?_
    exact kt
  obtain ⟨fs, hr, hrun, hended, hW, hsame⟩ := X2.leave (v := none) (fun _ => rfl)
  refine ⟨_, _, hG _ (pre4 _ (X2.returnOut hx Bd.returns (hb hby d3_19) hr)), hrun, hended, _, _, rfl, ?_, ⟨_, rfl⟩, hW, hsame.mono (by decide) (by decide)⟩
  show QensureCapacity5 Z o0_ o1_ ko1_ x0_ x1_ x2_ x3_ h0 n0 _ T2.heap _
  rw [e2]
  exact ⟨rfl, N0, rfl⟩
theorem efu44 (m : MethodId) (o0_ : Addr) (x0_ : Int32) : entryFrame m #[(.ref o0_), (.int x0_)] 2 = mkF m 0 #[lvR o0_, lvI x0_] [] := by first | (simp [entryFrame, mkF, argsToLocals, Value.category]; done) | rfl
def Qu44 (Z : State) (o0_ : Addr) (x0_ : Int32) (o1_ : Addr) (ko1_ : ClassId) (x1_ : Int32) (x2_ : Int32) (x3_ : Int32) (x4_ : Int32) (h0 : Heap) (n0 : Nat) (v : Option Value) (h : Heap) (L : List Loc) : Prop := v = none ∧ Fr n0 L ∧ Keep h0 h [o0_, o1_] ∧ Exa Z h o0_ cn0 ∧ Fld Z h o0_ cn0 "bytes" "[B" (.ref o1_) ∧ Fld Z h o0_ cn0 "length" "I" (.int (8 : Int32)) ∧ Arv Z h o1_ ko1_ .byte (8 : Int32) [(.int x1_), (.int x2_), (.int x3_), (.int x4_), (.int (((x0_.toUInt32 >>> ((24 : Int32) &&& 31).toUInt32).toInt32).toInt8.toInt32)), (.int (((x0_.toUInt32 >>> ((16 : Int32) &&& 31).toUInt32).toInt32).toInt8.toInt32)), (.int (((x0_.toUInt32 >>> ((8 : Int32) &&& 31).toUInt32).toInt32).toInt8.toInt32)), (.int (x0_.toInt8.toInt32))] (.int (0 : Int32)) ∧ Exa Z h o1_ "[B"
set_option maxRecDepth 65536 in
set_option maxHeartbeats 40000000 in
theorem rmu44 (l : Launch) (Z : State) (a0 : Array Value) (hw : ∀ d ∈ tables_1, d.before a0 Z = true) (ws : List Jvm.Cond) (o0_ : Addr) (x0_ : Int32) (o1_ : Addr) (ko1_ : ClassId) (x1_ : Int32) (x2_ : Int32) (x3_ : Int32) (x4_ : Int32) (h0 : Heap) (n0 : Nat) (O0 : Old Z n0 h0) (P0 : Exa Z h0 o0_ cn0) (P1 : Fld Z h0 o0_ cn0 "bytes" "[B" (.ref o1_)) (P2 : Fld Z h0 o0_ cn0 "length" "I" (.int (4 : Int32))) (P3 : Arv Z h0 o1_ ko1_ .byte (8 : Int32) [(.int x1_), (.int x2_), (.int x3_), (.int x4_), (.int (0 : Int32)), (.int (0 : Int32)), (.int (0 : Int32)), (.int (0 : Int32))] (.int (0 : Int32))) (P4 : Exa Z h0 o1_ "[B") (P5 : n0 ≤ o0_) (P6 : o1_ ≠ o0_) (P7 : n0 ≤ o1_) :
    MetFree l (⟨"com/example/stackweave/stackweave/classfile/ByteWriter", "u4", "(I)V"⟩ : MethodName) (head1 (Jvm.Cond.code (⟨"com/example/stackweave/stackweave/classfile/ByteWriter", "u4", "(I)V"⟩ : MethodName) prog_12_method_5_code 2 none :: ws) ({ frames := 1, cells := 0, slots := 0, locals := 13 } : Room)) (fun a U => a = #[(.ref o0_), (.int x0_)] ∧ Z.Warmed39 U.vm ∧ U.heap = h0) (fun _ _ _ _ _ => True) (fun _ U o U' => ∃ v L, o = .returned v ∧ Qu44 Z o0_ x0_ o1_ ko1_ x1_ x2_ x3_ x4_ h0 n0 v U'.heap L ∧ FrameEnd U o U' L ({ frames := 1, cells := 0, slots := 0, locals := 13 } : Room).cells ({ frames := 1, cells := 0, slots := 0, locals := 13 } : Room).slots) := by
  refine MetFree.of_bodySF (plainFor_of_name pn_0) hisR ?_
  intro p e s m args below meth c s₁ Bd hml0 hP hK
  obtain ⟨rfl, hZ, hh⟩ := hP
  have hx := Bd.exec
  have hby := Bd.bytes
  have hml : c.maxLocals = 2 := hml0
  have hown : s.vm.findClass "com/example/stackweave/stackweave/classfile/ByteWriter" = some m.cls := findClass_of_methodNamed Bd.named
  have hnm := (name_of_methodNamed Bd.named Bd.method).1
  have X0 : Stand p l e ({ frames := 1, cells := 0, slots := 0, locals := 13 } : Room) s m #[(.ref o0_), (.int x0_)] below meth c s₁ [] 0 0 := Stand.of_body Bd
  have e0 : s₁.heap = h0 := by rw [← hh, Bd.state]; rfl
  have N0 := Fr.nil n0
  obtain ⟨G, pre0, hG⟩ : ∃ G : State → Prop, (∀ t, own_S p e below m s₁ 0 #[lvR o0_, lvI x0_] [] t → G t) ∧ (∀ t, G t → Steps p.tables e below (s₁.setTop (entryFrame m #[(.ref o0_), (.int x0_)] 2)) t) := ⟨fun t => Steps p.tables e below (s₁.setTop (entryFrame m #[(.ref o0_), (.int x0_)] 2)) t, fun t k => castTop (efu44 m o0_ x0_) k, fun _ k => k⟩
  have K0 : Keep h0 h0 [o0_, o1_] := Keep.refl _ _
  obtain ⟨cq1, q1, q1'⟩ := P0.cell
  obtain ⟨_, _, ⟨T1, L1, k1, n1⟩, -, X1, ⟨Lc1, hQ1, l1, y1, z1⟩, st1⟩ := X0.privateBack hx (y := (⟨"com/example/stackweave/stackweave/classfile/ByteWriter", "ensureCapacity", "(I)V"⟩ : MethodName)) hown (mvT hZ (own_w hw 18 rfl)) (mvT hZ (own_w hw 19 rfl)) (own_self (mvT hZ (own_w hw 2 rfl)) (Cond.privateMethod_at (mvP hZ (own_w hw 20 rfl) (args := #[]))) (mvT hZ (own_w hw 19 rfl)) (by decide)) (Cond.privateMethod_at (mvP hZ (own_w hw 20 rfl) (args := #[]))) (mvT hZ (own_w hw 21 rfl)) (by decide) (backOf (W := 0) (rmensureCapacity5 l Z a0 hw [] o0_ o1_ ko1_ x1_ x2_ x3_ x4_ h0 n0 O0 P0 P1 P2 P3 P4) hZ (own_w hw 21 rfl) (own_w hw 3 rfl) (by decide) (by decide)) (g := (mkF m 2 #[lvR o0_, lvI x0_] [(.int (4 : Int32)), (.ref o0_)])) rfl (by rw [hml]; rfl) (Steps.refl _) (a := o0_) (by rw [e0]; exact q1) q1' (argsL := [(.int (4 : Int32))]) (rest := []) (lenOf pd_0 rfl) rfl (by show 2 * 0 + _ ≤ _; exact Nat.le_of_eq rfl) (hb hby d2_2) (fun _ _ => ⟨rfl, e0, (by decide : 0 + 0 ≤ _), (by decide : 0 + 0 ≤ _)⟩)
  dsimp only [Pt.U, Pt.locs, Pt.cells, Pt.slots] at X1 l1 y1 z1 st1 hQ1
  subst l1 y1 z1
  obtain ⟨h1, e1⟩ : ∃ z, T1.heap = z := ⟨_, rfl⟩
  rw [e1] at hQ1
  obtain ⟨rfl, N1q, hh1⟩ := hQ1
  have N2 := Fr.app N0 N1q
  have e1' : T1.heap = h0 := e1.trans hh1
  obtain ⟨T3, X3, e3, st3⟩ := getF X1 hx hZ hown (host := "") (Or.inl (own_w hw 11 rfl)) Via.refl e1' P1 (g := (mkF m 6 #[lvR o0_, lvI x0_] [(.ref o0_)])) rfl rfl (hb hby d2_6)
  obtain ⟨T4, X4, e4, st4⟩ := getF X3 hx hZ hown (host := "") (Or.inl (own_w hw 22 rfl)) Via.refl e3 P2 (g := (mkF m 11 #[lvR o0_, lvI x0_] [(.ref o0_), (.ref o0_), (.ref o1_)])) rfl rfl (hb hby d2_11)
  obtain ⟨T5, h5, X5, e5, W5, st5⟩ := putF X4 hx hZ hown (host := "") (Or.inl (own_w hw 22 rfl)) Via.refl e4 P2 P0 (Or.inl (own_w hw 23 rfl)) (own_w hw 2 rfl) (ty := .int) (by decide) rfl rfl (g := (mkF m 17 #[lvR o0_, lvI x0_] [(.int (5 : Int32)), (.ref o0_), (.int (4 : Int32)), (.ref o1_)])) rfl rfl (hb hby d2_17)
  have N6 := Fr.snoc X5 N2 P5
  have f7 : Fld Z h5 o0_ cn0 "length" "I" (.int (5 : Int32)) := P2.same W5
  have f9 : Arv Z h5 o1_ ko1_ .byte (8 : Int32) [(.int x1_), (.int x2_), (.int x3_), (.int x4_), (.int (0 : Int32)), (.int (0 : Int32)), (.int (0 : Int32)), (.int (0 : Int32))] (.int (0 : Int32)) := P3.other W5 P6
  obtain ⟨c8, r8, q8, s8, z8, y8, G8⟩ := id f9
  have hin8 : ¬ ((4 : Int32) < 0 ∨ c8.slots.size ≤ ((4 : Int32)).toNatClampNeg) := inb_of s8 ⟨by decide, by decide⟩
  obtain ⟨T8, h8, X8, e8, W8, st8⟩ := stB X5 hx hZ e5 r8 (j := (4 : Int32)) hin8 (g := (mkF m 25 #[lvR o0_, lvI x0_] [(.int (((x0_.toUInt32 >>> ((24 : Int32) &&& 31).toUInt32).toInt32).toInt8.toInt32)), (.int (4 : Int32)), (.ref o1_)])) rfl rfl (hb hby d2_25)
  have N10 := Fr.snoc X8 N6 P7
  have f11 : Arv Z h8 o1_ ko1_ .byte (8 : Int32) [(.int x1_), (.int x2_), (.int x3_), (.int x4_), (.int ((((x0_.toUInt32 >>> ((24 : Int32) &&& 31).toUInt32).toInt32).toInt8.toInt32).toInt8.toInt32)), (.int (0 : Int32)), (.int (0 : Int32)), (.int (0 : Int32))] (.int (0 : Int32)) := Arv.set r8 q8 s8 z8 y8 G8 (fits_nar_byte _) W8 4 rfl (Nat.le_of_ble_eq_true rfl)
  have f12 : Arv Z h8 o1_ ko1_ .byte (8 : Int32) [(.int x1_), (.int x2_), (.int x3_), (.int x4_), (.int (((x0_.toUInt32 >>> ((24 : Int32) &&& 31).toUInt32).toInt32).toInt8.toInt32)), (.int (0 : Int32)), (.int (0 : Int32)), (.int (0 : Int32))] (.int (0 : Int32)) := by have q := f11; rw [own_i2b2] at q; exact q
  have f13 : Fld Z h5 o0_ cn0 "bytes" "[B" (.ref o1_) := P1.other W5 (Or.inr (slot_ne (Or.inl (own_w hw 12 rfl)) (Or.inl (own_w hw 23 rfl)) (by decide) (t := (.array .byte)) (t' := .int) (by decide) (by decide)))
  have f14 : Fld Z h8 o0_ cn0 "bytes" "[B" (.ref o1_) := f13.other W8 (Or.inl (Ne.symm P6))
  obtain ⟨T15, X15, e15, st15⟩ := getF X8 hx hZ hown (host := "") (Or.inl (own_w hw 11 rfl)) Via.refl e8 f14 (g := (mkF m 27 #[lvR o0_, lvI x0_] [(.ref o0_)])) rfl rfl (hb hby d2_27)
  have f16 : Fld Z h8 o0_ cn0 "length" "I" (.int (5 : Int32)) := f7.other W8 (Or.inl (Ne.symm P6))
  obtain ⟨T17, X17, e17, st17⟩ := getF X15 hx hZ hown (host := "") (Or.inl (own_w hw 22 rfl)) Via.refl e15 f16 (g := (mkF m 32 #[lvR o0_, lvI x0_] [(.ref o0_), (.ref o0_), (.ref o1_)])) rfl rfl (hb hby d2_32)
  have f18 : Exa Z h5 o0_ cn0 := P0.wr W5
  have f19 : Exa Z h8 o0_ cn0 := f18.wr W8
  obtain ⟨T20, h20, X20, e20, W20, st20⟩ := putF X17 hx hZ hown (host := "") (Or.inl (own_w hw 22 rfl)) Via.refl e17 f16 f19 (Or.inl (own_w hw 23 rfl)) (own_w hw 2 rfl) (ty := .int) (by decide) rfl rfl (g := (mkF m 38 #[lvR o0_, lvI x0_] [(.int (6 : Int32)), (.ref o0_), (.int (5 : Int32)), (.ref o1_)])) rfl rfl (hb hby d2_38)
  have N21 := Fr.snoc X20 N10 P5
  have f22 : Fld Z h20 o0_ cn0 "length" "I" (.int (6 : Int32)) := f16.same W20
  have f24 : Arv Z h20 o1_ ko1_ .byte (8 : Int32) [(.int x1_), (.int x2_), (.int x3_), (.int x4_), (.int (((x0_.toUInt32 >>> ((24 : Int32) &&& 31).toUInt32).toInt32).toInt8.toInt32)), (.int (0 : Int32)), (.int (0 : Int32)), (.int (0 : Int32))] (.int (0 : Int32)) := f12.other W20 P6
  obtain ⟨c23, r23, q23, s23, z23, y23, G23⟩ := id f24
  have hin23 : ¬ ((5 : Int32) < 0 ∨ c23.slots.size ≤ ((5 : Int32)).toNatClampNeg) := inb_of s23 ⟨by decide, by decide⟩
  obtain ⟨T23, h23, X23, e23, W23, st23⟩ := stB X20 hx hZ e20 r23 (j := (5 : Int32)) hin23 (g := (mkF m 46 #[lvR o0_, lvI x0_] [(.int (((x0_.toUInt32 >>> ((16 : Int32) &&& 31).toUInt32).toInt32).toInt8.toInt32)), (.int (5 : Int32)), (.ref o1_)])) rfl rfl (hb hby d2_46)
  have N25 := Fr.snoc X23 N21 P7
  have f26 : Arv Z h23 o1_ ko1_ .byte (8 : Int32) [(.int x1_), (.int x2_), (.int x3_), (.int x4_), (.int (((x0_.toUInt32 >>> ((24 : Int32) &&& 31).toUInt32).toInt32).toInt8.toInt32)), (.int ((((x0_.toUInt32 >>> ((16 : Int32) &&& 31).toUInt32).toInt32).toInt8.toInt32).toInt8.toInt32)), (.int (0 : Int32)), (.int (0 : Int32))] (.int (0 : Int32)) := Arv.set r23 q23 s23 z23 y23 G23 (fits_nar_byte _) W23 5 rfl (Nat.le_of_ble_eq_true rfl)
  have f27 : Arv Z h23 o1_ ko1_ .byte (8 : Int32) [(.int x1_), (.int x2_), (.int x3_), (.int x4_), (.int (((x0_.toUInt32 >>> ((24 : Int32) &&& 31).toUInt32).toInt32).toInt8.toInt32)), (.int (((x0_.toUInt32 >>> ((16 : Int32) &&& 31).toUInt32).toInt32).toInt8.toInt32)), (.int (0 : Int32)), (.int (0 : Int32))] (.int (0 : Int32)) := by have q := f26; rw [own_i2b2] at q; exact q
  have f28 : Fld Z h20 o0_ cn0 "bytes" "[B" (.ref o1_) := f14.other W20 (Or.inr (slot_ne (Or.inl (own_w hw 12 rfl)) (Or.inl (own_w hw 23 rfl)) (by decide) (t := (.array .byte)) (t' := .int) (by decide) (by decide)))
  have f29 : Fld Z h23 o0_ cn0 "bytes" "[B" (.ref o1_) := f28.other W23 (Or.inl (Ne.symm P6))
  obtain ⟨T30, X30, e30, st30⟩ := getF X23 hx hZ hown (host := "") (Or.inl (own_w hw 11 rfl)) Via.refl e23 f29 (g := (mkF m 48 #[lvR o0_, lvI x0_] [(.ref o0_)])) rfl rfl (hb hby d2_48)
  have f31 : Fld Z h23 o0_ cn0 "length" "I" (.int (6 : Int32)) := f22.other W23 (Or.inl (Ne.symm P6))
  obtain ⟨T32, X32, e32, st32⟩ := getF X30 hx hZ hown (host := "") (Or.inl (own_w hw 22 rfl)) Via.refl e30 f31 (g := (mkF m 53 #[lvR o0_, lvI x0_] [(.ref o0_), (.ref o0_), (.ref o1_)])) rfl rfl (hb hby d2_53)
  have f33 : Exa Z h20 o0_ cn0 := f19.wr W20
  have f34 : Exa Z h23 o0_ cn0 := f33.wr W23
  obtain ⟨T35, h35, X35, e35, W35, st35⟩ := putF X32 hx hZ hown (host := "") (Or.inl (own_w hw 22 rfl)) Via.refl e32 f31 f34 (Or.inl (own_w hw 23 rfl)) (own_w hw 2 rfl) (ty := .int) (by decide) rfl rfl (g := (mkF m 59 #[lvR o0_, lvI x0_] [(.int (7 : Int32)), (.ref o0_), (.int (6 : Int32)), (.ref o1_)])) rfl rfl (hb hby d2_59)
  have N36 := Fr.snoc X35 N25 P5
  have f37 : Fld Z h35 o0_ cn0 "length" "I" (.int (7 : Int32)) := f31.same W35
  have f39 : Arv Z h35 o1_ ko1_ .byte (8 : Int32) [(.int x1_), (.int x2_), (.int x3_), (.int x4_), (.int (((x0_.toUInt32 >>> ((24 : Int32) &&& 31).toUInt32).toInt32).toInt8.toInt32)), (.int (((x0_.toUInt32 >>> ((16 : Int32) &&& 31).toUInt32).toInt32).toInt8.toInt32)), (.int (0 : Int32)), (.int (0 : Int32))] (.int (0 : Int32)) := f27.other W35 P6
  obtain ⟨c38, r38, q38, s38, z38, y38, G38⟩ := id f39
  have hin38 : ¬ ((6 : Int32) < 0 ∨ c38.slots.size ≤ ((6 : Int32)).toNatClampNeg) := inb_of s38 ⟨by decide, by decide⟩
  obtain ⟨T38, h38, X38, e38, W38, st38⟩ := stB X35 hx hZ e35 r38 (j := (6 : Int32)) hin38 (g := (mkF m 67 #[lvR o0_, lvI x0_] [(.int (((x0_.toUInt32 >>> ((8 : Int32) &&& 31).toUInt32).toInt32).toInt8.toInt32)), (.int (6 : Int32)), (.ref o1_)])) rfl rfl (hb hby d2_67)
  have N40 := Fr.snoc X38 N36 P7
  have f41 : Arv Z h38 o1_ ko1_ .byte (8 : Int32) [(.int x1_), (.int x2_), (.int x3_), (.int x4_), (.int (((x0_.toUInt32 >>> ((24 : Int32) &&& 31).toUInt32).toInt32).toInt8.toInt32)), (.int (((x0_.toUInt32 >>> ((16 : Int32) &&& 31).toUInt32).toInt32).toInt8.toInt32)), (.int ((((x0_.toUInt32 >>> ((8 : Int32) &&& 31).toUInt32).toInt32).toInt8.toInt32).toInt8.toInt32)), (.int (0 : Int32))] (.int (0 : Int32)) := Arv.set r38 q38 s38 z38 y38 G38 (fits_nar_byte _) W38 6 rfl (Nat.le_of_ble_eq_true rfl)
  have f42 : Arv Z h38 o1_ ko1_ .byte (8 : Int32) [(.int x1_), (.int x2_), (.int x3_), (.int x4_), (.int (((x0_.toUInt32 >>> ((24 : Int32) &&& 31).toUInt32).toInt32).toInt8.toInt32)), (.int (((x0_.toUInt32 >>> ((16 : Int32) &&& 31).toUInt32).toInt32).toInt8.toInt32)), (.int (((x0_.toUInt32 >>> ((8 : Int32) &&& 31).toUInt32).toInt32).toInt8.toInt32)), (.int (0 : Int32))] (.int (0 : Int32)) := by have q := f41; rw [own_i2b2] at q; exact q
  have f43 : Fld Z h35 o0_ cn0 "bytes" "[B" (.ref o1_) := f29.other W35 (Or.inr (slot_ne (Or.inl (own_w hw 12 rfl)) (Or.inl (own_w hw 23 rfl)) (by decide) (t := (.array .byte)) (t' := .int) (by decide) (by decide)))
  have f44 : Fld Z h38 o0_ cn0 "bytes" "[B" (.ref o1_) := f43.other W38 (Or.inl (Ne.symm P6))
  obtain ⟨T45, X45, e45, st45⟩ := getF X38 hx hZ hown (host := "") (Or.inl (own_w hw 11 rfl)) Via.refl e38 f44 (g := (mkF m 69 #[lvR o0_, lvI x0_] [(.ref o0_)])) rfl rfl (hb hby d2_69)
  have f46 : Fld Z h38 o0_ cn0 "length" "I" (.int (7 : Int32)) := f37.other W38 (Or.inl (Ne.symm P6))
  obtain ⟨T47, X47, e47, st47⟩ := getF X45 hx hZ hown (host := "") (Or.inl (own_w hw 22 rfl)) Via.refl e45 f46 (g := (mkF m 74 #[lvR o0_, lvI x0_] [(.ref o0_), (.ref o0_), (.ref o1_)])) rfl rfl (hb hby d2_74)
  have f48 : Exa Z h35 o0_ cn0 := f34.wr W35
  have f49 : Exa Z h38 o0_ cn0 := f48.wr W38
  obtain ⟨T50, h50, X50, e50, W50, st50⟩ := putF X47 hx hZ hown (host := "") (Or.inl (own_w hw 22 rfl)) Via.refl e47 f46 f49 (Or.inl (own_w hw 23 rfl)) (own_w hw 2 rfl) (ty := .int) (by decide) rfl rfl (g := (mkF m 80 #[lvR o0_, lvI x0_] [(.int (8 : Int32)), (.ref o0_), (.int (7 : Int32)), (.ref o1_)])) rfl rfl (hb hby d2_80)
  have N51 := Fr.snoc X50 N40 P5
  have f52 : Fld Z h50 o0_ cn0 "length" "I" (.int (8 : Int32)) := f46.same W50
  have f54 : Arv Z h50 o1_ ko1_ .byte (8 : Int32) [(.int x1_), (.int x2_), (.int x3_), (.int x4_), (.int (((x0_.toUInt32 >>> ((24 : Int32) &&& 31).toUInt32).toInt32).toInt8.toInt32)), (.int (((x0_.toUInt32 >>> ((16 : Int32) &&& 31).toUInt32).toInt32).toInt8.toInt32)), (.int (((x0_.toUInt32 >>> ((8 : Int32) &&& 31).toUInt32).toInt32).toInt8.toInt32)), (.int (0 : Int32))] (.int (0 : Int32)) := f42.other W50 P6
  obtain ⟨c53, r53, q53, s53, z53, y53, G53⟩ := id f54
  have hin53 : ¬ ((7 : Int32) < 0 ∨ c53.slots.size ≤ ((7 : Int32)).toNatClampNeg) := inb_of s53 ⟨by decide, by decide⟩
  obtain ⟨T53, h53, X53, e53, W53, st53⟩ := stB X50 hx hZ e50 r53 (j := (7 : Int32)) hin53 (g := (mkF m 85 #[lvR o0_, lvI x0_] [(.int (x0_.toInt8.toInt32)), (.int (7 : Int32)), (.ref o1_)])) rfl rfl (hb hby d2_85)
  have N55 := Fr.snoc X53 N51 P7
  have f56 : Arv Z h53 o1_ ko1_ .byte (8 : Int32) [(.int x1_), (.int x2_), (.int x3_), (.int x4_), (.int (((x0_.toUInt32 >>> ((24 : Int32) &&& 31).toUInt32).toInt32).toInt8.toInt32)), (.int (((x0_.toUInt32 >>> ((16 : Int32) &&& 31).toUInt32).toInt32).toInt8.toInt32)), (.int (((x0_.toUInt32 >>> ((8 : Int32) &&& 31).toUInt32).toInt32).toInt8.toInt32)), (.int ((x0_.toInt8.toInt32).toInt8.toInt32))] (.int (0 : Int32)) := Arv.set r53 q53 s53 z53 y53 G53 (fits_nar_byte _) W53 7 rfl (Nat.le_of_ble_eq_true rfl)
  have f57 : Arv Z h53 o1_ ko1_ .byte (8 : Int32) [(.int x1_), (.int x2_), (.int x3_), (.int x4_), (.int (((x0_.toUInt32 >>> ((24 : Int32) &&& 31).toUInt32).toInt32).toInt8.toInt32)), (.int (((x0_.toUInt32 >>> ((16 : Int32) &&& 31).toUInt32).toInt32).toInt8.toInt32)), (.int (((x0_.toUInt32 >>> ((8 : Int32) &&& 31).toUInt32).toInt32).toInt8.toInt32)), (.int (x0_.toInt8.toInt32))] (.int (0 : Int32)) := by have q := f56; rw [own_i2b2] at q; exact q
  have pre58 : ∀ t, own_S p e below m T53 86 #[lvR o0_, lvI x0_] [] t → G t := by
    intro t kt
    refine pre0 t ?_
    show own_S p e below m s₁ 0 #[lvR o0_, lvI x0_] [] _
    refine XS.aloadN X0.here hx rfl (hb hby d2_0) rfl rfl ?_
    refine XS.iconst X0.here hx rfl (hb hby d2_1) ?_
    show own_S p e below m s₁ 2 #[lvR o0_, lvI x0_] [(.int (4 : Int32)), (.ref o0_)] _
    refine st1.trans ?_
    refine XS.aloadN X1.here hx rfl (hb hby d2_5) rfl rfl ?_
    show own_S p e below m T1 6 #[lvR o0_, lvI x0_] [(.ref o0_)] _
    refine st3 _ ?_
    refine XS.aloadN X3.here hx rfl (hb hby d2_9) rfl rfl ?_
    refine XS.dup X3.here hx rfl (hb hby d2_10) rfl rfl ?_
    show own_S p e below m T3 11 #[lvR o0_, lvI x0_] [(.ref o0_), (.ref o0_), (.ref o1_)] _
    refine st4 _ ?_
    show own_S p e below m T4 14 #[lvR o0_, lvI x0_] [(.int (4 : Int32)), (.ref o0_), (.ref o1_)] _
    refine XS.dupX1 X4.here hx rfl (hb hby d2_14) rfl rfl rfl ?_
    refine XS.iconst X4.here hx rfl (hb hby d2_15) ?_
    refine XS.iadd X4.here hx rfl (hb hby d2_16) rfl ?_
    show own_S p e below m T4 17 #[lvR o0_, lvI x0_] [(.int (5 : Int32)), (.ref o0_), (.int (4 : Int32)), (.ref o1_)] _
    refine st5 _ ?_
    refine XS.iloadN X5.here hx rfl (hb hby d2_20) rfl ?_
    refine XS.bipush X5.here hx rfl (hb hby d2_21) ?_
    show own_S p e below m T5 23 #[lvR o0_, lvI x0_] [(.int (24 : Int32)), (.int x0_), (.int (4 : Int32)), (.ref o1_)] _
    refine XS.iushr X5.here hx rfl (hb hby d2_23) rfl ?_
    show own_S p e below m T5 24 #[lvR o0_, lvI x0_] [(.int ((x0_.toUInt32 >>> ((24 : Int32) &&& 31).toUInt32).toInt32)), (.int (4 : Int32)), (.ref o1_)] _
    refine XS.i2b X5.here hx rfl (hb hby d2_24) rfl ?_
    show own_S p e below m T5 25 #[lvR o0_, lvI x0_] [(.int (((x0_.toUInt32 >>> ((24 : Int32) &&& 31).toUInt32).toInt32).toInt8.toInt32)), (.int (4 : Int32)), (.ref o1_)] _
    refine st8 _ ?_
    refine XS.aloadN X8.here hx rfl (hb hby d2_26) rfl rfl ?_
    show own_S p e below m T8 27 #[lvR o0_, lvI x0_] [(.ref o0_)] _
    refine st15 _ ?_
    refine XS.aloadN X15.here hx rfl (hb hby d2_30) rfl rfl ?_
    refine XS.dup X15.here hx rfl (hb hby d2_31) rfl rfl ?_
    show own_S p e below m T15 32 #[lvR o0_, lvI x0_] [(.ref o0_), (.ref o0_), (.ref o1_)] _
    refine st17 _ ?_
    show own_S p e below m T17 35 #[lvR o0_, lvI x0_] [(.int (5 : Int32)), (.ref o0_), (.ref o1_)] _
    refine XS.dupX1 X17.here hx rfl (hb hby d2_35) rfl rfl rfl ?_
    refine XS.iconst X17.here hx rfl (hb hby d2_36) ?_
    refine XS.iadd X17.here hx rfl (hb hby d2_37) rfl ?_
    show own_S p e below m T17 38 #[lvR o0_, lvI x0_] [(.int (6 : Int32)), (.ref o0_), (.int (5 : Int32)), (.ref o1_)] _
    refine st20 _ ?_
    refine XS.iloadN X20.here hx rfl (hb hby d2_41) rfl ?_
    refine XS.bipush X20.here hx rfl (hb hby d2_42) ?_
    show own_S p e below m T20 44 #[lvR o0_, lvI x0_] [(.int (16 : Int32)), (.int x0_), (.int (5 : Int32)), (.ref o1_)] _
    refine XS.iushr X20.here hx rfl (hb hby d2_44) rfl ?_
    show own_S p e below m T20 45 #[lvR o0_, lvI x0_] [(.int ((x0_.toUInt32 >>> ((16 : Int32) &&& 31).toUInt32).toInt32)), (.int (5 : Int32)), (.ref o1_)] _
    refine XS.i2b X20.here hx rfl (hb hby d2_45) rfl ?_
    show own_S p e below m T20 46 #[lvR o0_, lvI x0_] [(.int (((x0_.toUInt32 >>> ((16 : Int32) &&& 31).toUInt32).toInt32).toInt8.toInt32)), (.int (5 : Int32)), (.ref o1_)] _
    refine st23 _ ?_
    refine XS.aloadN X23.here hx rfl (hb hby d2_47) rfl rfl ?_
    show own_S p e below m T23 48 #[lvR o0_, lvI x0_] [(.ref o0_)] _
    refine st30 _ ?_
    refine XS.aloadN X30.here hx rfl (hb hby d2_51) rfl rfl ?_
    refine XS.dup X30.here hx rfl (hb hby d2_52) rfl rfl ?_
    show own_S p e below m T30 53 #[lvR o0_, lvI x0_] [(.ref o0_), (.ref o0_), (.ref o1_)] _
    refine st32 _ ?_
    show own_S p e below m T32 56 #[lvR o0_, lvI x0_] [(.int (6 : Int32)), (.ref o0_), (.ref o1_)] _
    refine XS.dupX1 X32.here hx rfl (hb hby d2_56) rfl rfl rfl ?_
    refine XS.iconst X32.here hx rfl (hb hby d2_57) ?_
    refine XS.iadd X32.here hx rfl (hb hby d2_58) rfl ?_
    show own_S p e below m T32 59 #[lvR o0_, lvI x0_] [(.int (7 : Int32)), (.ref o0_), (.int (6 : Int32)), (.ref o1_)] _
    refine st35 _ ?_
    refine XS.iloadN X35.here hx rfl (hb hby d2_62) rfl ?_
    refine XS.bipush X35.here hx rfl (hb hby d2_63) ?_
    show own_S p e below m T35 65 #[lvR o0_, lvI x0_] [(.int (8 : Int32)), (.int x0_), (.int (6 : Int32)), (.ref o1_)] _
    refine XS.iushr X35.here hx rfl (hb hby d2_65) rfl ?_
    show own_S p e below m T35 66 #[lvR o0_, lvI x0_] [(.int ((x0_.toUInt32 >>> ((8 : Int32) &&& 31).toUInt32).toInt32)), (.int (6 : Int32)), (.ref o1_)] _
    refine XS.i2b X35.here hx rfl (hb hby d2_66) rfl ?_
    show own_S p e below m T35 67 #[lvR o0_, lvI x0_] [(.int (((x0_.toUInt32 >>> ((8 : Int32) &&& 31).toUInt32).toInt32).toInt8.toInt32)), (.int (6 : Int32)), (.ref o1_)] _
    refine st38 _ ?_
    refine XS.aloadN X38.here hx rfl (hb hby d2_68) rfl rfl ?_
    show own_S p e below m T38 69 #[lvR o0_, lvI x0_] [(.ref o0_)] _
    refine st45 _ ?_
    refine XS.aloadN X45.here hx rfl (hb hby d2_72) rfl rfl ?_
    refine XS.dup X45.here hx rfl (hb hby d2_73) rfl rfl ?_
    show own_S p e below m T45 74 #[lvR o0_, lvI x0_] [(.ref o0_), (.ref o0_), (.ref o1_)] _
    refine st47 _ ?_
    show own_S p e below m T47 77 #[lvR o0_, lvI x0_] [(.int (7 : Int32)), (.ref o0_), (.ref o1_)] _
    refine XS.dupX1 X47.here hx rfl (hb hby d2_77) rfl rfl rfl ?_
    refine XS.iconst X47.here hx rfl (hb hby d2_78) ?_
    refine XS.iadd X47.here hx rfl (hb hby d2_79) rfl ?_
    show own_S p e below m T47 80 #[lvR o0_, lvI x0_] [(.int (8 : Int32)), (.ref o0_), (.int (7 : Int32)), (.ref o1_)] _
    refine st50 _ ?_
    refine XS.iloadN X50.here hx rfl (hb hby d2_83) rfl ?_
    show own_S p e below m T50 84 #[lvR o0_, lvI x0_] [(.int x0_), (.int (7 : Int32)), (.ref o1_)] _
    refine XS.i2b X50.here hx rfl (hb hby d2_84) rfl ?_
    show own_S p e below m T50 85 #[lvR o0_, lvI x0_] [(.int (x0_.toInt8.toInt32)), (.int (7 : Int32)), (.ref o1_)] _
    refine st53 _ ?_
    exact kt
  have f60 : Keep h0 h5 [o0_, o1_] := K0.wr W5 (Or.inl (List.mem_of_getElem? (i := 0) rfl))
  have f61 : Keep h0 h8 [o0_, o1_] := f60.wr W8 (Or.inl (List.mem_of_getElem? (i := 1) rfl))
  have f62 : Keep h0 h20 [o0_, o1_] := f61.wr W20 (Or.inl (List.mem_of_getElem? (i := 0) rfl))
  have f63 : Keep h0 h23 [o0_, o1_] := f62.wr W23 (Or.inl (List.mem_of_getElem? (i := 1) rfl))
  have f64 : Keep h0 h35 [o0_, o1_] := f63.wr W35 (Or.inl (List.mem_of_getElem? (i := 0) rfl))
  have f65 : Keep h0 h38 [o0_, o1_] := f64.wr W38 (Or.inl (List.mem_of_getElem? (i := 1) rfl))
  have f66 : Keep h0 h50 [o0_, o1_] := f65.wr W50 (Or.inl (List.mem_of_getElem? (i := 0) rfl))
  have f67 : Keep h0 h53 [o0_, o1_] := f66.wr W53 (Or.inl (List.mem_of_getElem? (i := 1) rfl))
  have f68 : Exa Z h50 o0_ cn0 := f49.wr W50
  have f69 : Exa Z h53 o0_ cn0 := f68.wr W53
  have f70 : Fld Z h50 o0_ cn0 "bytes" "[B" (.ref o1_) := f44.other W50 (Or.inr (slot_ne (Or.inl (own_w hw 12 rfl)) (Or.inl (own_w hw 23 rfl)) (by decide) (t := (.array .byte)) (t' := .int) (by decide) (by decide)))
  have f71 : Fld Z h53 o0_ cn0 "bytes" "[B" (.ref o1_) := f70.other W53 (Or.inl (Ne.symm P6))
  have f72 : Fld Z h53 o0_ cn0 "length" "I" (.int (8 : Int32)) := f52.other W53 (Or.inl (Ne.symm P6))
  have f73 : Exa Z h5 o1_ "[B" := P4.wr W5
  have f74 : Exa Z h8 o1_ "[B" := f73.wr W8
  have f75 : Exa Z h20 o1_ "[B" := f74.wr W20
  have f76 : Exa Z h23 o1_ "[B" := f75.wr W23
  have f77 : Exa Z h35 o1_ "[B" := f76.wr W35
  have f78 : Exa Z h38 o1_ "[B" := f77.wr W38
  have f79 : Exa Z h50 o1_ "[B" := f78.wr W50
  have f80 : Exa Z h53 o1_ "[B" := f79.wr W53
  obtain ⟨fs, hr, hrun, hended, hW, hsame⟩ := X53.leave (v := none) (fun _ => rfl)
  refine ⟨_, _, hG _ (pre58 _ (X53.returnOut hx Bd.returns (hb hby d2_86) hr)), hrun, hended, _, _, rfl, ?_, ⟨_, rfl⟩, hW, hsame.mono (by decide) (by decide)⟩
  show Qu44 Z o0_ x0_ o1_ ko1_ x1_ x2_ x3_ x4_ h0 n0 _ T53.heap _
  rw [e53]
  exact ⟨rfl, N55, f67, f69, f71, f72, f57, f80⟩
theorem d4_0 : decode prog_12_method_7_code 0 = .ok (.aload_n 0, 1) := by decide +kernel
theorem d4_1 : decode prog_12_method_7_code 1 = .ok (.getfield 12, 3) := by decide +kernel
theorem d4_4 : decode prog_12_method_7_code 4 = .ok (.iload_n 1, 1) := by decide +kernel
theorem d4_5 : decode prog_12_method_7_code 5 = .ok (.iload_n 2, 1) := by decide +kernel
theorem d4_6 : decode prog_12_method_7_code 6 = .ok (.bipush 24, 2) := by decide +kernel
theorem d4_8 : decode prog_12_method_7_code 8 = .ok (.iushr, 1) := by decide +kernel
theorem d4_9 : decode prog_12_method_7_code 9 = .ok (.i2b, 1) := by decide +kernel
theorem d4_10 : decode prog_12_method_7_code 10 = .ok (.bastore, 1) := by decide +kernel
theorem d4_11 : decode prog_12_method_7_code 11 = .ok (.aload_n 0, 1) := by decide +kernel
theorem d4_12 : decode prog_12_method_7_code 12 = .ok (.getfield 12, 3) := by decide +kernel
theorem d4_15 : decode prog_12_method_7_code 15 = .ok (.iload_n 1, 1) := by decide +kernel
theorem d4_16 : decode prog_12_method_7_code 16 = .ok (.iconst 1, 1) := by decide +kernel
theorem d4_17 : decode prog_12_method_7_code 17 = .ok (.iadd, 1) := by decide +kernel
theorem d4_18 : decode prog_12_method_7_code 18 = .ok (.iload_n 2, 1) := by decide +kernel
theorem d4_19 : decode prog_12_method_7_code 19 = .ok (.bipush 16, 2) := by decide +kernel
theorem d4_21 : decode prog_12_method_7_code 21 = .ok (.iushr, 1) := by decide +kernel
theorem d4_22 : decode prog_12_method_7_code 22 = .ok (.i2b, 1) := by decide +kernel
theorem d4_23 : decode prog_12_method_7_code 23 = .ok (.bastore, 1) := by decide +kernel
theorem d4_24 : decode prog_12_method_7_code 24 = .ok (.aload_n 0, 1) := by decide +kernel
theorem d4_25 : decode prog_12_method_7_code 25 = .ok (.getfield 12, 3) := by decide +kernel
theorem d4_28 : decode prog_12_method_7_code 28 = .ok (.iload_n 1, 1) := by decide +kernel
theorem d4_29 : decode prog_12_method_7_code 29 = .ok (.iconst 2, 1) := by decide +kernel
theorem d4_30 : decode prog_12_method_7_code 30 = .ok (.iadd, 1) := by decide +kernel
theorem d4_31 : decode prog_12_method_7_code 31 = .ok (.iload_n 2, 1) := by decide +kernel
theorem d4_32 : decode prog_12_method_7_code 32 = .ok (.bipush 8, 2) := by decide +kernel
theorem d4_34 : decode prog_12_method_7_code 34 = .ok (.iushr, 1) := by decide +kernel
theorem d4_35 : decode prog_12_method_7_code 35 = .ok (.i2b, 1) := by decide +kernel
theorem d4_36 : decode prog_12_method_7_code 36 = .ok (.bastore, 1) := by decide +kernel
theorem d4_37 : decode prog_12_method_7_code 37 = .ok (.aload_n 0, 1) := by decide +kernel
theorem d4_38 : decode prog_12_method_7_code 38 = .ok (.getfield 12, 3) := by decide +kernel
theorem d4_41 : decode prog_12_method_7_code 41 = .ok (.iload_n 1, 1) := by decide +kernel
theorem d4_42 : decode prog_12_method_7_code 42 = .ok (.iconst 3, 1) := by decide +kernel
theorem d4_43 : decode prog_12_method_7_code 43 = .ok (.iadd, 1) := by decide +kernel
theorem d4_44 : decode prog_12_method_7_code 44 = .ok (.iload_n 2, 1) := by decide +kernel
theorem d4_45 : decode prog_12_method_7_code 45 = .ok (.i2b, 1) := by decide +kernel
theorem d4_46 : decode prog_12_method_7_code 46 = .ok (.bastore, 1) := by decide +kernel
theorem d4_47 : decode prog_12_method_7_code 47 = .ok (.return_, 1) := by decide +kernel
theorem efu4At6 (m : MethodId) (o0_ : Addr) (x0_ : Int32) : entryFrame m #[(.ref o0_), (.int (0 : Int32)), (.int x0_)] 3 = mkF m 0 #[lvR o0_, lvI (0 : Int32), lvI x0_] [] := by first | (simp [entryFrame, mkF, argsToLocals, Value.category]; done) | rfl
def Qu4At6 (Z : State) (o0_ : Addr) (x0_ : Int32) (o1_ : Addr) (ko1_ : ClassId) (x1_ : Int32) (x2_ : Int32) (x3_ : Int32) (x4_ : Int32) (x5_ : Int32) (x6_ : Int32) (x7_ : Int32) (x8_ : Int32) (h0 : Heap) (n0 : Nat) (v : Option Value) (h : Heap) (L : List Loc) : Prop := v = none ∧ Fr n0 L ∧ Keep h0 h [o1_] ∧ Arv Z h o1_ ko1_ .byte (8 : Int32) [(.int (((x0_.toUInt32 >>> ((24 : Int32) &&& 31).toUInt32).toInt32).toInt8.toInt32)), (.int (((x0_.toUInt32 >>> ((16 : Int32) &&& 31).toUInt32).toInt32).toInt8.toInt32)), (.int (((x0_.toUInt32 >>> ((8 : Int32) &&& 31).toUInt32).toInt32).toInt8.toInt32)), (.int (x0_.toInt8.toInt32)), (.int x5_), (.int x6_), (.int x7_), (.int x8_)] (.int (0 : Int32)) ∧ Exa Z h o1_ "[B"
set_option maxRecDepth 65536 in
set_option maxHeartbeats 40000000 in
theorem rmu4At6 (l : Launch) (Z : State) (a0 : Array Value) (hw : ∀ d ∈ tables_1, d.before a0 Z = true) (ws : List Jvm.Cond) (o0_ : Addr) (x0_ : Int32) (o1_ : Addr) (ko1_ : ClassId) (x1_ : Int32) (x2_ : Int32) (x3_ : Int32) (x4_ : Int32) (x5_ : Int32) (x6_ : Int32) (x7_ : Int32) (x8_ : Int32) (h0 : Heap) (n0 : Nat) (O0 : Old Z n0 h0) (P0 : Exa Z h0 o0_ cn0) (P1 : Fld Z h0 o0_ cn0 "bytes" "[B" (.ref o1_)) (P2 : Fld Z h0 o0_ cn0 "length" "I" (.int (8 : Int32))) (P3 : Arv Z h0 o1_ ko1_ .byte (8 : Int32) [(.int x1_), (.int x2_), (.int x3_), (.int x4_), (.int x5_), (.int x6_), (.int x7_), (.int x8_)] (.int (0 : Int32))) (P4 : Exa Z h0 o1_ "[B") (P5 : n0 ≤ o1_) (P6 : o0_ ≠ o1_) :
    MetFree l (⟨"com/example/stackweave/stackweave/classfile/ByteWriter", "u4At", "(II)V"⟩ : MethodName) (head1 (Jvm.Cond.code (⟨"com/example/stackweave/stackweave/classfile/ByteWriter", "u4At", "(II)V"⟩ : MethodName) prog_12_method_7_code 3 none :: ws) ({ frames := 0, cells := 0, slots := 0, locals := 0 } : Room)) (fun a U => a = #[(.ref o0_), (.int (0 : Int32)), (.int x0_)] ∧ Z.Warmed39 U.vm ∧ U.heap = h0) (fun _ _ _ _ _ => True) (fun _ U o U' => ∃ v L, o = .returned v ∧ Qu4At6 Z o0_ x0_ o1_ ko1_ x1_ x2_ x3_ x4_ x5_ x6_ x7_ x8_ h0 n0 v U'.heap L ∧ FrameEnd U o U' L ({ frames := 0, cells := 0, slots := 0, locals := 0 } : Room).cells ({ frames := 0, cells := 0, slots := 0, locals := 0 } : Room).slots) := by
  refine MetFree.of_bodySF (plainFor_of_name pn_0) hisR ?_
  intro p e s m args below meth c s₁ Bd hml0 hP hK
  obtain ⟨rfl, hZ, hh⟩ := hP
  have hx := Bd.exec
  have hby := Bd.bytes
  have hml : c.maxLocals = 3 := hml0
  have hown : s.vm.findClass "com/example/stackweave/stackweave/classfile/ByteWriter" = some m.cls := findClass_of_methodNamed Bd.named
  have hnm := (name_of_methodNamed Bd.named Bd.method).1
  have X0 : Stand p l e ({ frames := 0, cells := 0, slots := 0, locals := 0 } : Room) s m #[(.ref o0_), (.int (0 : Int32)), (.int x0_)] below meth c s₁ [] 0 0 := Stand.of_body Bd
  have e0 : s₁.heap = h0 := by rw [← hh, Bd.state]; rfl
  have N0 := Fr.nil n0
  obtain ⟨G, pre0, hG⟩ : ∃ G : State → Prop, (∀ t, own_S p e below m s₁ 0 #[lvR o0_, lvI (0 : Int32), lvI x0_] [] t → G t) ∧ (∀ t, G t → Steps p.tables e below (s₁.setTop (entryFrame m #[(.ref o0_), (.int (0 : Int32)), (.int x0_)] 3)) t) := ⟨fun t => Steps p.tables e below (s₁.setTop (entryFrame m #[(.ref o0_), (.int (0 : Int32)), (.int x0_)] 3)) t, fun t k => castTop (efu4At6 m o0_ x0_) k, fun _ k => k⟩
  have K0 : Keep h0 h0 [o1_] := Keep.refl _ _
  obtain ⟨T1, X1, e1, st1⟩ := getF X0 hx hZ hown (host := "") (Or.inl (own_w hw 11 rfl)) Via.refl e0 P1 (g := (mkF m 1 #[lvR o0_, lvI (0 : Int32), lvI x0_] [(.ref o0_)])) rfl rfl (hb hby d4_1)
  obtain ⟨c2, r2, q2, s2, z2, y2, G2⟩ := id P3
  have hin2 : ¬ ((0 : Int32) < 0 ∨ c2.slots.size ≤ ((0 : Int32)).toNatClampNeg) := inb_of s2 ⟨by decide, by decide⟩
  obtain ⟨T2, h2, X2, e2, W2, st2⟩ := stB X1 hx hZ e1 r2 (j := (0 : Int32)) hin2 (g := (mkF m 10 #[lvR o0_, lvI (0 : Int32), lvI x0_] [(.int (((x0_.toUInt32 >>> ((24 : Int32) &&& 31).toUInt32).toInt32).toInt8.toInt32)), (.int (0 : Int32)), (.ref o1_)])) rfl rfl (hb hby d4_10)
  have N3 := Fr.snoc X2 N0 P5
  have f4 : Arv Z h2 o1_ ko1_ .byte (8 : Int32) [(.int ((((x0_.toUInt32 >>> ((24 : Int32) &&& 31).toUInt32).toInt32).toInt8.toInt32).toInt8.toInt32)), (.int x2_), (.int x3_), (.int x4_), (.int x5_), (.int x6_), (.int x7_), (.int x8_)] (.int (0 : Int32)) := Arv.set r2 q2 s2 z2 y2 G2 (fits_nar_byte _) W2 0 rfl (Nat.le_of_ble_eq_true rfl)
  have f5 : Arv Z h2 o1_ ko1_ .byte (8 : Int32) [(.int (((x0_.toUInt32 >>> ((24 : Int32) &&& 31).toUInt32).toInt32).toInt8.toInt32)), (.int x2_), (.int x3_), (.int x4_), (.int x5_), (.int x6_), (.int x7_), (.int x8_)] (.int (0 : Int32)) := by have q := f4; rw [own_i2b2] at q; exact q
  have f6 : Fld Z h2 o0_ cn0 "bytes" "[B" (.ref o1_) := P1.other W2 (Or.inl P6)
  obtain ⟨T7, X7, e7, st7⟩ := getF X2 hx hZ hown (host := "") (Or.inl (own_w hw 11 rfl)) Via.refl e2 f6 (g := (mkF m 12 #[lvR o0_, lvI (0 : Int32), lvI x0_] [(.ref o0_)])) rfl rfl (hb hby d4_12)
  obtain ⟨c8, r8, q8, s8, z8, y8, G8⟩ := id f5
  have hin8 : ¬ ((1 : Int32) < 0 ∨ c8.slots.size ≤ ((1 : Int32)).toNatClampNeg) := inb_of s8 ⟨by decide, by decide⟩
  obtain ⟨T8, h8, X8, e8, W8, st8⟩ := stB X7 hx hZ e7 r8 (j := (1 : Int32)) hin8 (g := (mkF m 23 #[lvR o0_, lvI (0 : Int32), lvI x0_] [(.int (((x0_.toUInt32 >>> ((16 : Int32) &&& 31).toUInt32).toInt32).toInt8.toInt32)), (.int (1 : Int32)), (.ref o1_)])) rfl rfl (hb hby d4_23)
  have N9 := Fr.snoc X8 N3 P5
  have f10 : Arv Z h8 o1_ ko1_ .byte (8 : Int32) [(.int (((x0_.toUInt32 >>> ((24 : Int32) &&& 31).toUInt32).toInt32).toInt8.toInt32)), (.int ((((x0_.toUInt32 >>> ((16 : Int32) &&& 31).toUInt32).toInt32).toInt8.toInt32).toInt8.toInt32)), (.int x3_), (.int x4_), (.int x5_), (.int x6_), (.int x7_), (.int x8_)] (.int (0 : Int32)) := Arv.set r8 q8 s8 z8 y8 G8 (fits_nar_byte _) W8 1 rfl (Nat.le_of_ble_eq_true rfl)
  have f11 : Arv Z h8 o1_ ko1_ .byte (8 : Int32) [(.int (((x0_.toUInt32 >>> ((24 : Int32) &&& 31).toUInt32).toInt32).toInt8.toInt32)), (.int (((x0_.toUInt32 >>> ((16 : Int32) &&& 31).toUInt32).toInt32).toInt8.toInt32)), (.int x3_), (.int x4_), (.int x5_), (.int x6_), (.int x7_), (.int x8_)] (.int (0 : Int32)) := by have q := f10; rw [own_i2b2] at q; exact q
  have f12 : Fld Z h8 o0_ cn0 "bytes" "[B" (.ref o1_) := f6.other W8 (Or.inl P6)
  obtain ⟨T13, X13, e13, st13⟩ := getF X8 hx hZ hown (host := "") (Or.inl (own_w hw 11 rfl)) Via.refl e8 f12 (g := (mkF m 25 #[lvR o0_, lvI (0 : Int32), lvI x0_] [(.ref o0_)])) rfl rfl (hb hby d4_25)
  obtain ⟨c14, r14, q14, s14, z14, y14, G14⟩ := id f11
  have hin14 : ¬ ((2 : Int32) < 0 ∨ c14.slots.size ≤ ((2 : Int32)).toNatClampNeg) := inb_of s14 ⟨by decide, by decide⟩
  obtain ⟨T14, h14, X14, e14, W14, st14⟩ := stB X13 hx hZ e13 r14 (j := (2 : Int32)) hin14 (g := (mkF m 36 #[lvR o0_, lvI (0 : Int32), lvI x0_] [(.int (((x0_.toUInt32 >>> ((8 : Int32) &&& 31).toUInt32).toInt32).toInt8.toInt32)), (.int (2 : Int32)), (.ref o1_)])) rfl rfl (hb hby d4_36)
  have N15 := Fr.snoc X14 N9 P5
  have f16 : Arv Z h14 o1_ ko1_ .byte (8 : Int32) [(.int (((x0_.toUInt32 >>> ((24 : Int32) &&& 31).toUInt32).toInt32).toInt8.toInt32)), (.int (((x0_.toUInt32 >>> ((16 : Int32) &&& 31).toUInt32).toInt32).toInt8.toInt32)), (.int ((((x0_.toUInt32 >>> ((8 : Int32) &&& 31).toUInt32).toInt32).toInt8.toInt32).toInt8.toInt32)), (.int x4_), (.int x5_), (.int x6_), (.int x7_), (.int x8_)] (.int (0 : Int32)) := Arv.set r14 q14 s14 z14 y14 G14 (fits_nar_byte _) W14 2 rfl (Nat.le_of_ble_eq_true rfl)
  have f17 : Arv Z h14 o1_ ko1_ .byte (8 : Int32) [(.int (((x0_.toUInt32 >>> ((24 : Int32) &&& 31).toUInt32).toInt32).toInt8.toInt32)), (.int (((x0_.toUInt32 >>> ((16 : Int32) &&& 31).toUInt32).toInt32).toInt8.toInt32)), (.int (((x0_.toUInt32 >>> ((8 : Int32) &&& 31).toUInt32).toInt32).toInt8.toInt32)), (.int x4_), (.int x5_), (.int x6_), (.int x7_), (.int x8_)] (.int (0 : Int32)) := by have q := f16; rw [own_i2b2] at q; exact q
  have f18 : Fld Z h14 o0_ cn0 "bytes" "[B" (.ref o1_) := f12.other W14 (Or.inl P6)
  obtain ⟨T19, X19, e19, st19⟩ := getF X14 hx hZ hown (host := "") (Or.inl (own_w hw 11 rfl)) Via.refl e14 f18 (g := (mkF m 38 #[lvR o0_, lvI (0 : Int32), lvI x0_] [(.ref o0_)])) rfl rfl (hb hby d4_38)
  obtain ⟨c20, r20, q20, s20, z20, y20, G20⟩ := id f17
  have hin20 : ¬ ((3 : Int32) < 0 ∨ c20.slots.size ≤ ((3 : Int32)).toNatClampNeg) := inb_of s20 ⟨by decide, by decide⟩
  obtain ⟨T20, h20, X20, e20, W20, st20⟩ := stB X19 hx hZ e19 r20 (j := (3 : Int32)) hin20 (g := (mkF m 46 #[lvR o0_, lvI (0 : Int32), lvI x0_] [(.int (x0_.toInt8.toInt32)), (.int (3 : Int32)), (.ref o1_)])) rfl rfl (hb hby d4_46)
  have N21 := Fr.snoc X20 N15 P5
  have f22 : Arv Z h20 o1_ ko1_ .byte (8 : Int32) [(.int (((x0_.toUInt32 >>> ((24 : Int32) &&& 31).toUInt32).toInt32).toInt8.toInt32)), (.int (((x0_.toUInt32 >>> ((16 : Int32) &&& 31).toUInt32).toInt32).toInt8.toInt32)), (.int (((x0_.toUInt32 >>> ((8 : Int32) &&& 31).toUInt32).toInt32).toInt8.toInt32)), (.int ((x0_.toInt8.toInt32).toInt8.toInt32)), (.int x5_), (.int x6_), (.int x7_), (.int x8_)] (.int (0 : Int32)) := Arv.set r20 q20 s20 z20 y20 G20 (fits_nar_byte _) W20 3 rfl (Nat.le_of_ble_eq_true rfl)
  have f23 : Arv Z h20 o1_ ko1_ .byte (8 : Int32) [(.int (((x0_.toUInt32 >>> ((24 : Int32) &&& 31).toUInt32).toInt32).toInt8.toInt32)), (.int (((x0_.toUInt32 >>> ((16 : Int32) &&& 31).toUInt32).toInt32).toInt8.toInt32)), (.int (((x0_.toUInt32 >>> ((8 : Int32) &&& 31).toUInt32).toInt32).toInt8.toInt32)), (.int (x0_.toInt8.toInt32)), (.int x5_), (.int x6_), (.int x7_), (.int x8_)] (.int (0 : Int32)) := by have q := f22; rw [own_i2b2] at q; exact q
  have pre24 : ∀ t, own_S p e below m T20 47 #[lvR o0_, lvI (0 : Int32), lvI x0_] [] t → G t := by
    intro t kt
    refine pre0 t ?_
    show own_S p e below m s₁ 0 #[lvR o0_, lvI (0 : Int32), lvI x0_] [] _
    refine XS.aloadN X0.here hx rfl (hb hby d4_0) rfl rfl ?_
    show own_S p e below m s₁ 1 #[lvR o0_, lvI (0 : Int32), lvI x0_] [(.ref o0_)] _
    refine st1 _ ?_
    refine XS.iloadN X1.here hx rfl (hb hby d4_4) rfl ?_
    refine XS.iloadN X1.here hx rfl (hb hby d4_5) rfl ?_
    refine XS.bipush X1.here hx rfl (hb hby d4_6) ?_
    show own_S p e below m T1 8 #[lvR o0_, lvI (0 : Int32), lvI x0_] [(.int (24 : Int32)), (.int x0_), (.int (0 : Int32)), (.ref o1_)] _
    refine XS.iushr X1.here hx rfl (hb hby d4_8) rfl ?_
    show own_S p e below m T1 9 #[lvR o0_, lvI (0 : Int32), lvI x0_] [(.int ((x0_.toUInt32 >>> ((24 : Int32) &&& 31).toUInt32).toInt32)), (.int (0 : Int32)), (.ref o1_)] _
    refine XS.i2b X1.here hx rfl (hb hby d4_9) rfl ?_
    show own_S p e below m T1 10 #[lvR o0_, lvI (0 : Int32), lvI x0_] [(.int (((x0_.toUInt32 >>> ((24 : Int32) &&& 31).toUInt32).toInt32).toInt8.toInt32)), (.int (0 : Int32)), (.ref o1_)] _
    refine st2 _ ?_
    refine XS.aloadN X2.here hx rfl (hb hby d4_11) rfl rfl ?_
    show own_S p e below m T2 12 #[lvR o0_, lvI (0 : Int32), lvI x0_] [(.ref o0_)] _
    refine st7 _ ?_
    refine XS.iloadN X7.here hx rfl (hb hby d4_15) rfl ?_
    refine XS.iconst X7.here hx rfl (hb hby d4_16) ?_
    refine XS.iadd X7.here hx rfl (hb hby d4_17) rfl ?_
    show own_S p e below m T7 18 #[lvR o0_, lvI (0 : Int32), lvI x0_] [(.int (1 : Int32)), (.ref o1_)] _
    refine XS.iloadN X7.here hx rfl (hb hby d4_18) rfl ?_
    refine XS.bipush X7.here hx rfl (hb hby d4_19) ?_
    show own_S p e below m T7 21 #[lvR o0_, lvI (0 : Int32), lvI x0_] [(.int (16 : Int32)), (.int x0_), (.int (1 : Int32)), (.ref o1_)] _
    refine XS.iushr X7.here hx rfl (hb hby d4_21) rfl ?_
    show own_S p e below m T7 22 #[lvR o0_, lvI (0 : Int32), lvI x0_] [(.int ((x0_.toUInt32 >>> ((16 : Int32) &&& 31).toUInt32).toInt32)), (.int (1 : Int32)), (.ref o1_)] _
    refine XS.i2b X7.here hx rfl (hb hby d4_22) rfl ?_
    show own_S p e below m T7 23 #[lvR o0_, lvI (0 : Int32), lvI x0_] [(.int (((x0_.toUInt32 >>> ((16 : Int32) &&& 31).toUInt32).toInt32).toInt8.toInt32)), (.int (1 : Int32)), (.ref o1_)] _
    refine st8 _ ?_
    refine XS.aloadN X8.here hx rfl (hb hby d4_24) rfl rfl ?_
    show own_S p e below m T8 25 #[lvR o0_, lvI (0 : Int32), lvI x0_] [(.ref o0_)] _
    refine st13 _ ?_
    refine XS.iloadN X13.here hx rfl (hb hby d4_28) rfl ?_
    refine XS.iconst X13.here hx rfl (hb hby d4_29) ?_
    refine XS.iadd X13.here hx rfl (hb hby d4_30) rfl ?_
    show own_S p e below m T13 31 #[lvR o0_, lvI (0 : Int32), lvI x0_] [(.int (2 : Int32)), (.ref o1_)] _
    refine XS.iloadN X13.here hx rfl (hb hby d4_31) rfl ?_
    refine XS.bipush X13.here hx rfl (hb hby d4_32) ?_
    show own_S p e below m T13 34 #[lvR o0_, lvI (0 : Int32), lvI x0_] [(.int (8 : Int32)), (.int x0_), (.int (2 : Int32)), (.ref o1_)] _
    refine XS.iushr X13.here hx rfl (hb hby d4_34) rfl ?_
    show own_S p e below m T13 35 #[lvR o0_, lvI (0 : Int32), lvI x0_] [(.int ((x0_.toUInt32 >>> ((8 : Int32) &&& 31).toUInt32).toInt32)), (.int (2 : Int32)), (.ref o1_)] _
    refine XS.i2b X13.here hx rfl (hb hby d4_35) rfl ?_
    show own_S p e below m T13 36 #[lvR o0_, lvI (0 : Int32), lvI x0_] [(.int (((x0_.toUInt32 >>> ((8 : Int32) &&& 31).toUInt32).toInt32).toInt8.toInt32)), (.int (2 : Int32)), (.ref o1_)] _
    refine st14 _ ?_
    refine XS.aloadN X14.here hx rfl (hb hby d4_37) rfl rfl ?_
    show own_S p e below m T14 38 #[lvR o0_, lvI (0 : Int32), lvI x0_] [(.ref o0_)] _
    refine st19 _ ?_
    refine XS.iloadN X19.here hx rfl (hb hby d4_41) rfl ?_
    refine XS.iconst X19.here hx rfl (hb hby d4_42) ?_
    refine XS.iadd X19.here hx rfl (hb hby d4_43) rfl ?_
    show own_S p e below m T19 44 #[lvR o0_, lvI (0 : Int32), lvI x0_] [(.int (3 : Int32)), (.ref o1_)] _
    refine XS.iloadN X19.here hx rfl (hb hby d4_44) rfl ?_
    show own_S p e below m T19 45 #[lvR o0_, lvI (0 : Int32), lvI x0_] [(.int x0_), (.int (3 : Int32)), (.ref o1_)] _
    refine XS.i2b X19.here hx rfl (hb hby d4_45) rfl ?_
    show own_S p e below m T19 46 #[lvR o0_, lvI (0 : Int32), lvI x0_] [(.int (x0_.toInt8.toInt32)), (.int (3 : Int32)), (.ref o1_)] _
    refine st20 _ ?_
    exact kt
  have f26 : Keep h0 h2 [o1_] := K0.wr W2 (Or.inl (List.mem_of_getElem? (i := 0) rfl))
  have f27 : Keep h0 h8 [o1_] := f26.wr W8 (Or.inl (List.mem_of_getElem? (i := 0) rfl))
  have f28 : Keep h0 h14 [o1_] := f27.wr W14 (Or.inl (List.mem_of_getElem? (i := 0) rfl))
  have f29 : Keep h0 h20 [o1_] := f28.wr W20 (Or.inl (List.mem_of_getElem? (i := 0) rfl))
  have f30 : Exa Z h2 o1_ "[B" := P4.wr W2
  have f31 : Exa Z h8 o1_ "[B" := f30.wr W8
  have f32 : Exa Z h14 o1_ "[B" := f31.wr W14
  have f33 : Exa Z h20 o1_ "[B" := f32.wr W20
  obtain ⟨fs, hr, hrun, hended, hW, hsame⟩ := X20.leave (v := none) (fun _ => rfl)
  refine ⟨_, _, hG _ (pre24 _ (X20.returnOut hx Bd.returns (hb hby d4_47) hr)), hrun, hended, _, _, rfl, ?_, ⟨_, rfl⟩, hW, hsame.mono (by decide) (by decide)⟩
  show Qu4At6 Z o0_ x0_ o1_ ko1_ x1_ x2_ x3_ x4_ x5_ x6_ x7_ x8_ h0 n0 _ T20.heap _
  rw [e20]
  exact ⟨rfl, N21, f29, f23, f33⟩
theorem pd_1 : parseMethodDescriptor "(II)V" = some ⟨[.int, .int], none⟩ := by decide +kernel
theorem d5_0 : decode prog_12_method_12_code 0 = .ok (.aload_n 0, 1) := by decide +kernel
theorem d5_1 : decode prog_12_method_12_code 1 = .ok (.getfield 25, 3) := by decide +kernel
theorem d5_4 : decode prog_12_method_12_code 4 = .ok (.ireturn, 1) := by decide +kernel
theorem eflength7 (m : MethodId) (o0_ : Addr) : entryFrame m #[(.ref o0_)] 1 = mkF m 0 #[lvR o0_] [] := by first | (simp [entryFrame, mkF, argsToLocals, Value.category]; done) | rfl
def Qlength7 (Z : State) (o0_ : Addr) (o1_ : Addr) (ko1_ : ClassId) (x0_ : Int32) (x1_ : Int32) (x2_ : Int32) (x3_ : Int32) (x4_ : Int32) (x5_ : Int32) (x6_ : Int32) (x7_ : Int32) (h0 : Heap) (n0 : Nat) (v : Option Value) (h : Heap) (L : List Loc) : Prop := v = some (.int (8 : Int32)) ∧ Fr n0 L ∧ h = h0
set_option maxRecDepth 65536 in
set_option maxHeartbeats 40000000 in
theorem rmlength7 (l : Launch) (Z : State) (a0 : Array Value) (hw : ∀ d ∈ tables_1, d.before a0 Z = true) (ws : List Jvm.Cond) (o0_ : Addr) (o1_ : Addr) (ko1_ : ClassId) (x0_ : Int32) (x1_ : Int32) (x2_ : Int32) (x3_ : Int32) (x4_ : Int32) (x5_ : Int32) (x6_ : Int32) (x7_ : Int32) (h0 : Heap) (n0 : Nat) (O0 : Old Z n0 h0) (P0 : Exa Z h0 o0_ cn0) (P1 : Fld Z h0 o0_ cn0 "bytes" "[B" (.ref o1_)) (P2 : Fld Z h0 o0_ cn0 "length" "I" (.int (8 : Int32))) (P3 : Arv Z h0 o1_ ko1_ .byte (8 : Int32) [(.int x0_), (.int x1_), (.int x2_), (.int x3_), (.int x4_), (.int x5_), (.int x6_), (.int x7_)] (.int (0 : Int32))) (P4 : Exa Z h0 o1_ "[B") :
    MetFree l (⟨"com/example/stackweave/stackweave/classfile/ByteWriter", "length", "()I"⟩ : MethodName) (head1 (Jvm.Cond.code (⟨"com/example/stackweave/stackweave/classfile/ByteWriter", "length", "()I"⟩ : MethodName) prog_12_method_12_code 1 (some .int) :: ws) ({ frames := 0, cells := 0, slots := 0, locals := 0 } : Room)) (fun a U => a = #[(.ref o0_)] ∧ Z.Warmed39 U.vm ∧ U.heap = h0) (fun _ _ _ _ _ => True) (fun _ U o U' => ∃ v L, o = .returned v ∧ Qlength7 Z o0_ o1_ ko1_ x0_ x1_ x2_ x3_ x4_ x5_ x6_ x7_ h0 n0 v U'.heap L ∧ FrameEnd U o U' L ({ frames := 0, cells := 0, slots := 0, locals := 0 } : Room).cells ({ frames := 0, cells := 0, slots := 0, locals := 0 } : Room).slots) := by
  refine MetFree.of_bodySF (plainFor_of_name pn_0) hisR ?_
  intro p e s m args below meth c s₁ Bd hml0 hP hK
  obtain ⟨rfl, hZ, hh⟩ := hP
  have hx := Bd.exec
  have hby := Bd.bytes
  have hml : c.maxLocals = 1 := hml0
  have hown : s.vm.findClass "com/example/stackweave/stackweave/classfile/ByteWriter" = some m.cls := findClass_of_methodNamed Bd.named
  have hnm := (name_of_methodNamed Bd.named Bd.method).1
  have X0 : Stand p l e ({ frames := 0, cells := 0, slots := 0, locals := 0 } : Room) s m #[(.ref o0_)] below meth c s₁ [] 0 0 := Stand.of_body Bd
  have e0 : s₁.heap = h0 := by rw [← hh, Bd.state]; rfl
  have N0 := Fr.nil n0
  obtain ⟨G, pre0, hG⟩ : ∃ G : State → Prop, (∀ t, own_S p e below m s₁ 0 #[lvR o0_] [] t → G t) ∧ (∀ t, G t → Steps p.tables e below (s₁.setTop (entryFrame m #[(.ref o0_)] 1)) t) := ⟨fun t => Steps p.tables e below (s₁.setTop (entryFrame m #[(.ref o0_)] 1)) t, fun t k => castTop (eflength7 m o0_) k, fun _ k => k⟩
  have K0 : Keep h0 h0 [] := Keep.refl _ _
  obtain ⟨T1, X1, e1, st1⟩ := getF X0 hx hZ hown (host := "") (Or.inl (own_w hw 22 rfl)) Via.refl e0 P2 (g := (mkF m 1 #[lvR o0_] [(.ref o0_)])) rfl rfl (hb hby d5_1)
  have pre2 : ∀ t, own_S p e below m T1 4 #[lvR o0_] [(.int (8 : Int32))] t → G t := by
    intro t kt
    refine pre0 t ?_
    show own_S p e below m s₁ 0 #[lvR o0_] [] _
    refine XS.aloadN X0.here hx rfl (hb hby d5_0) rfl rfl ?_
    show own_S p e below m s₁ 1 #[lvR o0_] [(.ref o0_)] _
    refine st1 _ ?_
    exact kt
  obtain ⟨fs, hr, hrun, hended, hW, hsame⟩ := X1.leave (v := some (.int (8 : Int32))) (fun h => by rw [Bd.returns] at h; cases h)
  refine ⟨_, _, hG _ (pre2 _ (retOut X1 hx Bd.returns rfl (Or.inl ⟨rfl, Or.inl rfl, _, rfl⟩) (hb hby d5_4) hr)), hrun, hended, _, _, rfl, ?_, ⟨_, rfl⟩, hW, hsame.mono (by decide) (by decide)⟩
  show Qlength7 Z o0_ o1_ ko1_ x0_ x1_ x2_ x3_ x4_ x5_ x6_ x7_ h0 n0 _ T1.heap _
  rw [e1]
  exact ⟨rfl, N0, rfl⟩
theorem pd_2 : parseMethodDescriptor "()I" = some ⟨[], some .int⟩ := by decide +kernel
theorem d6_0 : decode prog_12_method_14_code 0 = .ok (.aload_n 0, 1) := by decide +kernel
theorem d6_1 : decode prog_12_method_14_code 1 = .ok (.getfield 25, 3) := by decide +kernel
theorem d6_4 : decode prog_12_method_14_code 4 = .ok (.aload_n 0, 1) := by decide +kernel
theorem d6_5 : decode prog_12_method_14_code 5 = .ok (.getfield 12, 3) := by decide +kernel
theorem d6_8 : decode prog_12_method_14_code 8 = .ok (.arraylength, 1) := by decide +kernel
theorem d6_9 : decode prog_12_method_14_code 9 = .ok (.if_icmp .eq 25, 3) := by decide +kernel
theorem d6_34 : decode prog_12_method_14_code 34 = .ok (.aload_n 0, 1) := by decide +kernel
theorem d6_35 : decode prog_12_method_14_code 35 = .ok (.getfield 12, 3) := by decide +kernel
theorem d6_38 : decode prog_12_method_14_code 38 = .ok (.areturn, 1) := by decide +kernel
theorem effilledArray8 (m : MethodId) (o0_ : Addr) : entryFrame m #[(.ref o0_)] 1 = mkF m 0 #[lvR o0_] [] := by first | (simp [entryFrame, mkF, argsToLocals, Value.category]; done) | rfl
def QfilledArray8 (Z : State) (o0_ : Addr) (o1_ : Addr) (ko1_ : ClassId) (x0_ : Int32) (x1_ : Int32) (x2_ : Int32) (x3_ : Int32) (x4_ : Int32) (x5_ : Int32) (x6_ : Int32) (x7_ : Int32) (h0 : Heap) (n0 : Nat) (v : Option Value) (h : Heap) (L : List Loc) : Prop := v = some (.ref o1_) ∧ Fr n0 L ∧ h = h0
set_option maxRecDepth 65536 in
set_option maxHeartbeats 40000000 in
theorem rmfilledArray8 (l : Launch) (Z : State) (a0 : Array Value) (hw : ∀ d ∈ tables_1, d.before a0 Z = true) (ws : List Jvm.Cond) (o0_ : Addr) (o1_ : Addr) (ko1_ : ClassId) (x0_ : Int32) (x1_ : Int32) (x2_ : Int32) (x3_ : Int32) (x4_ : Int32) (x5_ : Int32) (x6_ : Int32) (x7_ : Int32) (h0 : Heap) (n0 : Nat) (O0 : Old Z n0 h0) (P0 : Exa Z h0 o0_ cn0) (P1 : Fld Z h0 o0_ cn0 "bytes" "[B" (.ref o1_)) (P2 : Fld Z h0 o0_ cn0 "length" "I" (.int (8 : Int32))) (P3 : Arv Z h0 o1_ ko1_ .byte (8 : Int32) [(.int x0_), (.int x1_), (.int x2_), (.int x3_), (.int x4_), (.int x5_), (.int x6_), (.int x7_)] (.int (0 : Int32))) (P4 : Exa Z h0 o1_ "[B") :
    MetFree l (⟨"com/example/stackweave/stackweave/classfile/ByteWriter", "filledArray", "()[B"⟩ : MethodName) (head1 (Jvm.Cond.code (⟨"com/example/stackweave/stackweave/classfile/ByteWriter", "filledArray", "()[B"⟩ : MethodName) prog_12_method_14_code 1 (some (.array .byte)) :: ws) ({ frames := 0, cells := 0, slots := 0, locals := 0 } : Room)) (fun a U => a = #[(.ref o0_)] ∧ Z.Warmed39 U.vm ∧ U.heap = h0) (fun _ _ _ _ _ => True) (fun _ U o U' => ∃ v L, o = .returned v ∧ QfilledArray8 Z o0_ o1_ ko1_ x0_ x1_ x2_ x3_ x4_ x5_ x6_ x7_ h0 n0 v U'.heap L ∧ FrameEnd U o U' L ({ frames := 0, cells := 0, slots := 0, locals := 0 } : Room).cells ({ frames := 0, cells := 0, slots := 0, locals := 0 } : Room).slots) := by
  refine MetFree.of_bodySF (plainFor_of_name pn_0) hisR ?_
  intro p e s m args below meth c s₁ Bd hml0 hP hK
  obtain ⟨rfl, hZ, hh⟩ := hP
  have hx := Bd.exec
  have hby := Bd.bytes
  have hml : c.maxLocals = 1 := hml0
  have hown : s.vm.findClass "com/example/stackweave/stackweave/classfile/ByteWriter" = some m.cls := findClass_of_methodNamed Bd.named
  have hnm := (name_of_methodNamed Bd.named Bd.method).1
  have X0 : Stand p l e ({ frames := 0, cells := 0, slots := 0, locals := 0 } : Room) s m #[(.ref o0_)] below meth c s₁ [] 0 0 := Stand.of_body Bd
  have e0 : s₁.heap = h0 := by rw [← hh, Bd.state]; rfl
  have N0 := Fr.nil n0
  obtain ⟨G, pre0, hG⟩ : ∃ G : State → Prop, (∀ t, own_S p e below m s₁ 0 #[lvR o0_] [] t → G t) ∧ (∀ t, G t → Steps p.tables e below (s₁.setTop (entryFrame m #[(.ref o0_)] 1)) t) := ⟨fun t => Steps p.tables e below (s₁.setTop (entryFrame m #[(.ref o0_)] 1)) t, fun t k => castTop (effilledArray8 m o0_) k, fun _ k => k⟩
  have K0 : Keep h0 h0 [] := Keep.refl _ _
  obtain ⟨T1, X1, e1, st1⟩ := getF X0 hx hZ hown (host := "") (Or.inl (own_w hw 22 rfl)) Via.refl e0 P2 (g := (mkF m 1 #[lvR o0_] [(.ref o0_)])) rfl rfl (hb hby d6_1)
  obtain ⟨T2, X2, e2, st2⟩ := getF X1 hx hZ hown (host := "") (Or.inl (own_w hw 11 rfl)) Via.refl e1 P1 (g := (mkF m 5 #[lvR o0_] [(.ref o0_), (.int (8 : Int32))])) rfl rfl (hb hby d6_5)
  obtain ⟨c3, r3, q3, s3, z3, y3, G3⟩ := id P3
  obtain ⟨T4, X4, e4, st4⟩ := getF X2 hx hZ hown (host := "") (Or.inl (own_w hw 11 rfl)) Via.refl e2 P1 (g := (mkF m 35 #[lvR o0_] [(.ref o0_)])) rfl rfl (hb hby d6_35)
  have pre5 : ∀ t, own_S p e below m T4 38 #[lvR o0_] [(.ref o1_)] t → G t := by
    intro t kt
    refine pre0 t ?_
    show own_S p e below m s₁ 0 #[lvR o0_] [] _
    refine XS.aloadN X0.here hx rfl (hb hby d6_0) rfl rfl ?_
    show own_S p e below m s₁ 1 #[lvR o0_] [(.ref o0_)] _
    refine st1 _ ?_
    refine XS.aloadN X1.here hx rfl (hb hby d6_4) rfl rfl ?_
    show own_S p e below m T1 5 #[lvR o0_] [(.ref o0_), (.int (8 : Int32))] _
    refine st2 _ ?_
    show own_S p e below m T2 8 #[lvR o0_] [(.ref o1_), (.int (8 : Int32))] _
    refine X2.arraylength hx (by rw [e2]; exact r3.1) (State.isArrayOf_alike hZ.alike r3.2.1) (g := (mkF m 8 #[lvR o0_] [(.ref o1_), (.int (8 : Int32))])) rfl rfl (hb hby d6_8) _ ?_
    rw [len_of s3 z3]
    show own_S p e below m T2 9 #[lvR o0_] [(.int (8 : Int32)), (.int (8 : Int32))] _
    refine XS.icmpYes X2.here hx rfl (pc0 := 9) (pc' := 34) rfl (hb hby d6_9) rfl (teq (by decide : (8 : Int32) = (8 : Int32))).1 (by decide) (by decide) ?_
    refine XS.aloadN X2.here hx rfl (hb hby d6_34) rfl rfl ?_
    show own_S p e below m T2 35 #[lvR o0_] [(.ref o0_)] _
    refine st4 _ ?_
    exact kt
  obtain ⟨fs, hr, hrun, hended, hW, hsame⟩ := X4.leave (v := some (.ref o1_)) (fun h => by rw [Bd.returns] at h; cases h)
  refine ⟨_, _, hG _ (pre5 _ (retOut X4 hx Bd.returns rfl (Or.inr (Or.inr (Or.inr (Or.inr ⟨rfl, rfl, rfl⟩)))) (hb hby d6_38) hr)), hrun, hended, _, _, rfl, ?_, ⟨_, rfl⟩, hW, hsame.mono (by decide) (by decide)⟩
  show QfilledArray8 Z o0_ o1_ ko1_ x0_ x1_ x2_ x3_ x4_ x5_ x6_ x7_ h0 n0 _ T4.heap _
  rw [e4]
  exact ⟨rfl, N0, rfl⟩
theorem pd_3 : parseMethodDescriptor "()[B" = some ⟨[], some (.array .byte)⟩ := by decide +kernel
theorem d7_0 : decode method_3_code 0 = .ok (.iload_n 1, 1) := by decide +kernel
theorem d7_1 : decode method_3_code 1 = .ok (.iload_n 2, 1) := by decide +kernel
theorem d7_2 : decode method_3_code 2 = .ok (.if_icmp .lt 12, 3) := by decide +kernel
theorem d7_5 : decode method_3_code 5 = .ok (.iload_n 1, 1) := by decide +kernel
theorem d7_6 : decode method_3_code 6 = .ok (.iload_n 2, 1) := by decide +kernel
theorem d7_7 : decode method_3_code 7 = .ok (.iconst 4, 1) := by decide +kernel
theorem d7_8 : decode method_3_code 8 = .ok (.iadd, 1) := by decide +kernel
theorem d7_9 : decode method_3_code 9 = .ok (.if_icmp .ge 5, 3) := by decide +kernel
theorem d7_12 : decode method_3_code 12 = .ok (.iconst 1, 1) := by decide +kernel
theorem d7_13 : decode method_3_code 13 = .ok (.ireturn, 1) := by decide +kernel
theorem pn_1 : plainName "com/example/stackweave/stackweave/classfile/ByteWriterU4AtPinLaw" = true := by first | (simp [plainName, overriddenIn]; done) | decide +kernel
theorem efkeeps9 (m : MethodId) (o0_ : Addr) (x0_ : Int32) (x1_ : Int32) : entryFrame m #[(.ref o0_), (.int (0 : Int32)), (.int (0 : Int32)), (.int x0_), (.int x1_)] 7 = mkF m 0 #[lvR o0_, lvI (0 : Int32), lvI (0 : Int32), lvI x0_, lvI x1_, .unset, .unset] [] := by first | (simp [entryFrame, mkF, argsToLocals, Value.category]; done) | rfl
def Qkeeps9 (Z : State) (o0_ : Addr) (x0_ : Int32) (x1_ : Int32) (ko0_ : ClassId) (x2_ : Int32) (x3_ : Int32) (x4_ : Int32) (x5_ : Int32) (x6_ : Int32) (x7_ : Int32) (x8_ : Int32) (x9_ : Int32) (h0 : Heap) (n0 : Nat) (v : Option Value) (h : Heap) (L : List Loc) : Prop := v = some (.int (1 : Int32)) ∧ Fr n0 L ∧ h = h0
set_option maxRecDepth 65536 in
set_option maxHeartbeats 40000000 in
theorem rmkeeps9 (l : Launch) (Z : State) (a0 : Array Value) (hw : ∀ d ∈ tables_1, d.before a0 Z = true) (ws : List Jvm.Cond) (o0_ : Addr) (x0_ : Int32) (x1_ : Int32) (ko0_ : ClassId) (x2_ : Int32) (x3_ : Int32) (x4_ : Int32) (x5_ : Int32) (x6_ : Int32) (x7_ : Int32) (x8_ : Int32) (x9_ : Int32) (h0 : Heap) (n0 : Nat) (O0 : Old Z n0 h0) (P0 : Arv Z h0 o0_ ko0_ .byte (8 : Int32) [(.int x2_), (.int x3_), (.int x4_), (.int x5_), (.int x6_), (.int x7_), (.int x8_), (.int x9_)] (.int (0 : Int32))) (P1 : Exa Z h0 o0_ "[B") :
    MetFree l (⟨"com/example/stackweave/stackweave/classfile/ByteWriterU4AtPinLaw", "keeps", "([BIIII)Z"⟩ : MethodName) (head1 (Jvm.Cond.code (⟨"com/example/stackweave/stackweave/classfile/ByteWriterU4AtPinLaw", "keeps", "([BIIII)Z"⟩ : MethodName) method_3_code 7 (some .boolean) :: ws) ({ frames := 0, cells := 0, slots := 0, locals := 0 } : Room)) (fun a U => a = #[(.ref o0_), (.int (0 : Int32)), (.int (0 : Int32)), (.int x0_), (.int x1_)] ∧ Z.Warmed39 U.vm ∧ U.heap = h0) (fun _ _ _ _ _ => True) (fun _ U o U' => ∃ v L, o = .returned v ∧ Qkeeps9 Z o0_ x0_ x1_ ko0_ x2_ x3_ x4_ x5_ x6_ x7_ x8_ x9_ h0 n0 v U'.heap L ∧ FrameEnd U o U' L ({ frames := 0, cells := 0, slots := 0, locals := 0 } : Room).cells ({ frames := 0, cells := 0, slots := 0, locals := 0 } : Room).slots) := by
  refine MetFree.of_bodySF (plainFor_of_name pn_1) hisR ?_
  intro p e s m args below meth c s₁ Bd hml0 hP hK
  obtain ⟨rfl, hZ, hh⟩ := hP
  have hx := Bd.exec
  have hby := Bd.bytes
  have hml : c.maxLocals = 7 := hml0
  have hown : s.vm.findClass "com/example/stackweave/stackweave/classfile/ByteWriterU4AtPinLaw" = some m.cls := findClass_of_methodNamed Bd.named
  have hnm := (name_of_methodNamed Bd.named Bd.method).1
  have X0 : Stand p l e ({ frames := 0, cells := 0, slots := 0, locals := 0 } : Room) s m #[(.ref o0_), (.int (0 : Int32)), (.int (0 : Int32)), (.int x0_), (.int x1_)] below meth c s₁ [] 0 0 := Stand.of_body Bd
  have e0 : s₁.heap = h0 := by rw [← hh, Bd.state]; rfl
  have N0 := Fr.nil n0
  obtain ⟨G, pre0, hG⟩ : ∃ G : State → Prop, (∀ t, own_S p e below m s₁ 0 #[lvR o0_, lvI (0 : Int32), lvI (0 : Int32), lvI x0_, lvI x1_, .unset, .unset] [] t → G t) ∧ (∀ t, G t → Steps p.tables e below (s₁.setTop (entryFrame m #[(.ref o0_), (.int (0 : Int32)), (.int (0 : Int32)), (.int x0_), (.int x1_)] 7)) t) := ⟨fun t => Steps p.tables e below (s₁.setTop (entryFrame m #[(.ref o0_), (.int (0 : Int32)), (.int (0 : Int32)), (.int x0_), (.int x1_)] 7)) t, fun t k => castTop (efkeeps9 m o0_ x0_ x1_) k, fun _ k => k⟩
  have K0 : Keep h0 h0 [] := Keep.refl _ _
  have pre1 : ∀ t, own_S p e below m s₁ 13 #[lvR o0_, lvI (0 : Int32), lvI (0 : Int32), lvI x0_, lvI x1_, .unset, .unset] [(.int (1 : Int32))] t → G t := by
    intro t kt
    refine pre0 t ?_
    show own_S p e below m s₁ 0 #[lvR o0_, lvI (0 : Int32), lvI (0 : Int32), lvI x0_, lvI x1_, .unset, .unset] [] _
    refine XS.iloadN X0.here hx rfl (hb hby d7_0) rfl ?_
    refine XS.iloadN X0.here hx rfl (hb hby d7_1) rfl ?_
    show own_S p e below m s₁ 2 #[lvR o0_, lvI (0 : Int32), lvI (0 : Int32), lvI x0_, lvI x1_, .unset, .unset] [(.int (0 : Int32)), (.int (0 : Int32))] _
    refine XS.icmpNo X0.here hx rfl (hb hby d7_2) rfl (flt (by decide : ¬ ((0 : Int32) < (0 : Int32)))).1 ?_
    refine XS.iloadN X0.here hx rfl (hb hby d7_5) rfl ?_
    refine XS.iloadN X0.here hx rfl (hb hby d7_6) rfl ?_
    refine XS.iconst X0.here hx rfl (hb hby d7_7) ?_
    show own_S p e below m s₁ 8 #[lvR o0_, lvI (0 : Int32), lvI (0 : Int32), lvI x0_, lvI x1_, .unset, .unset] [(.int (4 : Int32)), (.int (0 : Int32)), (.int (0 : Int32))] _
    refine XS.iadd X0.here hx rfl (hb hby d7_8) rfl ?_
    show own_S p e below m s₁ 9 #[lvR o0_, lvI (0 : Int32), lvI (0 : Int32), lvI x0_, lvI x1_, .unset, .unset] [(.int (4 : Int32)), (.int (0 : Int32))] _
    refine XS.icmpNo X0.here hx rfl (hb hby d7_9) rfl (tlt (by decide : (0 : Int32) < (4 : Int32))).2.1 ?_
    refine XS.iconst X0.here hx rfl (hb hby d7_12) ?_
    exact kt
  obtain ⟨fs, hr, hrun, hended, hW, hsame⟩ := X0.leave (v := some (.int (1 : Int32))) (fun h => by rw [Bd.returns] at h; cases h)
  refine ⟨_, _, hG _ (pre1 _ (retN X0 hx (t := .boolean) Bd.returns (by simp) (hb hby d7_13) hr)), hrun, hended, _, _, rfl, ?_, ⟨_, rfl⟩, hW, hsame.mono (by decide) (by decide)⟩
  show Qkeeps9 Z o0_ x0_ x1_ ko0_ x2_ x3_ x4_ x5_ x6_ x7_ x8_ x9_ h0 n0 _ s₁.heap _
  rw [e0]
  exact ⟨rfl, N0, rfl⟩
theorem pd_4 : parseMethodDescriptor "([BIIII)Z" = some ⟨[(.array .byte), .int, .int, .int, .int], some .boolean⟩ := by decide +kernel
theorem efkeeps10 (m : MethodId) (o0_ : Addr) (x0_ : Int32) (x1_ : Int32) : entryFrame m #[(.ref o0_), (.int (1 : Int32)), (.int (0 : Int32)), (.int x0_), (.int x1_)] 7 = mkF m 0 #[lvR o0_, lvI (1 : Int32), lvI (0 : Int32), lvI x0_, lvI x1_, .unset, .unset] [] := by first | (simp [entryFrame, mkF, argsToLocals, Value.category]; done) | rfl
def Qkeeps10 (Z : State) (o0_ : Addr) (x0_ : Int32) (x1_ : Int32) (ko0_ : ClassId) (x2_ : Int32) (x3_ : Int32) (x4_ : Int32) (x5_ : Int32) (x6_ : Int32) (x7_ : Int32) (x8_ : Int32) (x9_ : Int32) (h0 : Heap) (n0 : Nat) (v : Option Value) (h : Heap) (L : List Loc) : Prop := v = some (.int (1 : Int32)) ∧ Fr n0 L ∧ h = h0
set_option maxRecDepth 65536 in
set_option maxHeartbeats 40000000 in
theorem rmkeeps10 (l : Launch) (Z : State) (a0 : Array Value) (hw : ∀ d ∈ tables_1, d.before a0 Z = true) (ws : List Jvm.Cond) (o0_ : Addr) (x0_ : Int32) (x1_ : Int32) (ko0_ : ClassId) (x2_ : Int32) (x3_ : Int32) (x4_ : Int32) (x5_ : Int32) (x6_ : Int32) (x7_ : Int32) (x8_ : Int32) (x9_ : Int32) (h0 : Heap) (n0 : Nat) (O0 : Old Z n0 h0) (P0 : Arv Z h0 o0_ ko0_ .byte (8 : Int32) [(.int x2_), (.int x3_), (.int x4_), (.int x5_), (.int x6_), (.int x7_), (.int x8_), (.int x9_)] (.int (0 : Int32))) (P1 : Exa Z h0 o0_ "[B") :
    MetFree l (⟨"com/example/stackweave/stackweave/classfile/ByteWriterU4AtPinLaw", "keeps", "([BIIII)Z"⟩ : MethodName) (head1 (Jvm.Cond.code (⟨"com/example/stackweave/stackweave/classfile/ByteWriterU4AtPinLaw", "keeps", "([BIIII)Z"⟩ : MethodName) method_3_code 7 (some .boolean) :: ws) ({ frames := 0, cells := 0, slots := 0, locals := 0 } : Room)) (fun a U => a = #[(.ref o0_), (.int (1 : Int32)), (.int (0 : Int32)), (.int x0_), (.int x1_)] ∧ Z.Warmed39 U.vm ∧ U.heap = h0) (fun _ _ _ _ _ => True) (fun _ U o U' => ∃ v L, o = .returned v ∧ Qkeeps10 Z o0_ x0_ x1_ ko0_ x2_ x3_ x4_ x5_ x6_ x7_ x8_ x9_ h0 n0 v U'.heap L ∧ FrameEnd U o U' L ({ frames := 0, cells := 0, slots := 0, locals := 0 } : Room).cells ({ frames := 0, cells := 0, slots := 0, locals := 0 } : Room).slots) := by
  refine MetFree.of_bodySF (plainFor_of_name pn_1) hisR ?_
  intro p e s m args below meth c s₁ Bd hml0 hP hK
  obtain ⟨rfl, hZ, hh⟩ := hP
  have hx := Bd.exec
  have hby := Bd.bytes
  have hml : c.maxLocals = 7 := hml0
  have hown : s.vm.findClass "com/example/stackweave/stackweave/classfile/ByteWriterU4AtPinLaw" = some m.cls := findClass_of_methodNamed Bd.named
  have hnm := (name_of_methodNamed Bd.named Bd.method).1
  have X0 : Stand p l e ({ frames := 0, cells := 0, slots := 0, locals := 0 } : Room) s m #[(.ref o0_), (.int (1 : Int32)), (.int (0 : Int32)), (.int x0_), (.int x1_)] below meth c s₁ [] 0 0 := Stand.of_body Bd
  have e0 : s₁.heap = h0 := by rw [← hh, Bd.state]; rfl
  have N0 := Fr.nil n0
  obtain ⟨G, pre0, hG⟩ : ∃ G : State → Prop, (∀ t, own_S p e below m s₁ 0 #[lvR o0_, lvI (1 : Int32), lvI (0 : Int32), lvI x0_, lvI x1_, .unset, .unset] [] t → G t) ∧ (∀ t, G t → Steps p.tables e below (s₁.setTop (entryFrame m #[(.ref o0_), (.int (1 : Int32)), (.int (0 : Int32)), (.int x0_), (.int x1_)] 7)) t) := ⟨fun t => Steps p.tables e below (s₁.setTop (entryFrame m #[(.ref o0_), (.int (1 : Int32)), (.int (0 : Int32)), (.int x0_), (.int x1_)] 7)) t, fun t k => castTop (efkeeps10 m o0_ x0_ x1_) k, fun _ k => k⟩
  have K0 : Keep h0 h0 [] := Keep.refl _ _
  have pre1 : ∀ t, own_S p e below m s₁ 13 #[lvR o0_, lvI (1 : Int32), lvI (0 : Int32), lvI x0_, lvI x1_, .unset, .unset] [(.int (1 : Int32))] t → G t := by
    intro t kt
    refine pre0 t ?_
    show own_S p e below m s₁ 0 #[lvR o0_, lvI (1 : Int32), lvI (0 : Int32), lvI x0_, lvI x1_, .unset, .unset] [] _
    refine XS.iloadN X0.here hx rfl (hb hby d7_0) rfl ?_
    refine XS.iloadN X0.here hx rfl (hb hby d7_1) rfl ?_
    show own_S p e below m s₁ 2 #[lvR o0_, lvI (1 : Int32), lvI (0 : Int32), lvI x0_, lvI x1_, .unset, .unset] [(.int (0 : Int32)), (.int (1 : Int32))] _
    refine XS.icmpNo X0.here hx rfl (hb hby d7_2) rfl (flt (by decide : ¬ ((1 : Int32) < (0 : Int32)))).1 ?_
    refine XS.iloadN X0.here hx rfl (hb hby d7_5) rfl ?_
    refine XS.iloadN X0.here hx rfl (hb hby d7_6) rfl ?_
    refine XS.iconst X0.here hx rfl (hb hby d7_7) ?_
    show own_S p e below m s₁ 8 #[lvR o0_, lvI (1 : Int32), lvI (0 : Int32), lvI x0_, lvI x1_, .unset, .unset] [(.int (4 : Int32)), (.int (0 : Int32)), (.int (1 : Int32))] _
    refine XS.iadd X0.here hx rfl (hb hby d7_8) rfl ?_
    show own_S p e below m s₁ 9 #[lvR o0_, lvI (1 : Int32), lvI (0 : Int32), lvI x0_, lvI x1_, .unset, .unset] [(.int (4 : Int32)), (.int (1 : Int32))] _
    refine XS.icmpNo X0.here hx rfl (hb hby d7_9) rfl (tlt (by decide : (1 : Int32) < (4 : Int32))).2.1 ?_
    refine XS.iconst X0.here hx rfl (hb hby d7_12) ?_
    exact kt
  obtain ⟨fs, hr, hrun, hended, hW, hsame⟩ := X0.leave (v := some (.int (1 : Int32))) (fun h => by rw [Bd.returns] at h; cases h)
  refine ⟨_, _, hG _ (pre1 _ (retN X0 hx (t := .boolean) Bd.returns (by simp) (hb hby d7_13) hr)), hrun, hended, _, _, rfl, ?_, ⟨_, rfl⟩, hW, hsame.mono (by decide) (by decide)⟩
  show Qkeeps10 Z o0_ x0_ x1_ ko0_ x2_ x3_ x4_ x5_ x6_ x7_ x8_ x9_ h0 n0 _ s₁.heap _
  rw [e0]
  exact ⟨rfl, N0, rfl⟩
theorem efkeeps11 (m : MethodId) (o0_ : Addr) (x0_ : Int32) (x1_ : Int32) : entryFrame m #[(.ref o0_), (.int (2 : Int32)), (.int (0 : Int32)), (.int x0_), (.int x1_)] 7 = mkF m 0 #[lvR o0_, lvI (2 : Int32), lvI (0 : Int32), lvI x0_, lvI x1_, .unset, .unset] [] := by first | (simp [entryFrame, mkF, argsToLocals, Value.category]; done) | rfl
def Qkeeps11 (Z : State) (o0_ : Addr) (x0_ : Int32) (x1_ : Int32) (ko0_ : ClassId) (x2_ : Int32) (x3_ : Int32) (x4_ : Int32) (x5_ : Int32) (x6_ : Int32) (x7_ : Int32) (x8_ : Int32) (x9_ : Int32) (h0 : Heap) (n0 : Nat) (v : Option Value) (h : Heap) (L : List Loc) : Prop := v = some (.int (1 : Int32)) ∧ Fr n0 L ∧ h = h0
set_option maxRecDepth 65536 in
set_option maxHeartbeats 40000000 in
theorem rmkeeps11 (l : Launch) (Z : State) (a0 : Array Value) (hw : ∀ d ∈ tables_1, d.before a0 Z = true) (ws : List Jvm.Cond) (o0_ : Addr) (x0_ : Int32) (x1_ : Int32) (ko0_ : ClassId) (x2_ : Int32) (x3_ : Int32) (x4_ : Int32) (x5_ : Int32) (x6_ : Int32) (x7_ : Int32) (x8_ : Int32) (x9_ : Int32) (h0 : Heap) (n0 : Nat) (O0 : Old Z n0 h0) (P0 : Arv Z h0 o0_ ko0_ .byte (8 : Int32) [(.int x2_), (.int x3_), (.int x4_), (.int x5_), (.int x6_), (.int x7_), (.int x8_), (.int x9_)] (.int (0 : Int32))) (P1 : Exa Z h0 o0_ "[B") :
    MetFree l (⟨"com/example/stackweave/stackweave/classfile/ByteWriterU4AtPinLaw", "keeps", "([BIIII)Z"⟩ : MethodName) (head1 (Jvm.Cond.code (⟨"com/example/stackweave/stackweave/classfile/ByteWriterU4AtPinLaw", "keeps", "([BIIII)Z"⟩ : MethodName) method_3_code 7 (some .boolean) :: ws) ({ frames := 0, cells := 0, slots := 0, locals := 0 } : Room)) (fun a U => a = #[(.ref o0_), (.int (2 : Int32)), (.int (0 : Int32)), (.int x0_), (.int x1_)] ∧ Z.Warmed39 U.vm ∧ U.heap = h0) (fun _ _ _ _ _ => True) (fun _ U o U' => ∃ v L, o = .returned v ∧ Qkeeps11 Z o0_ x0_ x1_ ko0_ x2_ x3_ x4_ x5_ x6_ x7_ x8_ x9_ h0 n0 v U'.heap L ∧ FrameEnd U o U' L ({ frames := 0, cells := 0, slots := 0, locals := 0 } : Room).cells ({ frames := 0, cells := 0, slots := 0, locals := 0 } : Room).slots) := by
  refine MetFree.of_bodySF (plainFor_of_name pn_1) hisR ?_
  intro p e s m args below meth c s₁ Bd hml0 hP hK
  obtain ⟨rfl, hZ, hh⟩ := hP
  have hx := Bd.exec
  have hby := Bd.bytes
  have hml : c.maxLocals = 7 := hml0
  have hown : s.vm.findClass "com/example/stackweave/stackweave/classfile/ByteWriterU4AtPinLaw" = some m.cls := findClass_of_methodNamed Bd.named
  have hnm := (name_of_methodNamed Bd.named Bd.method).1
  have X0 : Stand p l e ({ frames := 0, cells := 0, slots := 0, locals := 0 } : Room) s m #[(.ref o0_), (.int (2 : Int32)), (.int (0 : Int32)), (.int x0_), (.int x1_)] below meth c s₁ [] 0 0 := Stand.of_body Bd
  have e0 : s₁.heap = h0 := by rw [← hh, Bd.state]; rfl
  have N0 := Fr.nil n0
  obtain ⟨G, pre0, hG⟩ : ∃ G : State → Prop, (∀ t, own_S p e below m s₁ 0 #[lvR o0_, lvI (2 : Int32), lvI (0 : Int32), lvI x0_, lvI x1_, .unset, .unset] [] t → G t) ∧ (∀ t, G t → Steps p.tables e below (s₁.setTop (entryFrame m #[(.ref o0_), (.int (2 : Int32)), (.int (0 : Int32)), (.int x0_), (.int x1_)] 7)) t) := ⟨fun t => Steps p.tables e below (s₁.setTop (entryFrame m #[(.ref o0_), (.int (2 : Int32)), (.int (0 : Int32)), (.int x0_), (.int x1_)] 7)) t, fun t k => castTop (efkeeps11 m o0_ x0_ x1_) k, fun _ k => k⟩
  have K0 : Keep h0 h0 [] := Keep.refl _ _
  have pre1 : ∀ t, own_S p e below m s₁ 13 #[lvR o0_, lvI (2 : Int32), lvI (0 : Int32), lvI x0_, lvI x1_, .unset, .unset] [(.int (1 : Int32))] t → G t := by
    intro t kt
    refine pre0 t ?_
    show own_S p e below m s₁ 0 #[lvR o0_, lvI (2 : Int32), lvI (0 : Int32), lvI x0_, lvI x1_, .unset, .unset] [] _
    refine XS.iloadN X0.here hx rfl (hb hby d7_0) rfl ?_
    refine XS.iloadN X0.here hx rfl (hb hby d7_1) rfl ?_
    show own_S p e below m s₁ 2 #[lvR o0_, lvI (2 : Int32), lvI (0 : Int32), lvI x0_, lvI x1_, .unset, .unset] [(.int (0 : Int32)), (.int (2 : Int32))] _
    refine XS.icmpNo X0.here hx rfl (hb hby d7_2) rfl (flt (by decide : ¬ ((2 : Int32) < (0 : Int32)))).1 ?_
    refine XS.iloadN X0.here hx rfl (hb hby d7_5) rfl ?_
    refine XS.iloadN X0.here hx rfl (hb hby d7_6) rfl ?_
    refine XS.iconst X0.here hx rfl (hb hby d7_7) ?_
    show own_S p e below m s₁ 8 #[lvR o0_, lvI (2 : Int32), lvI (0 : Int32), lvI x0_, lvI x1_, .unset, .unset] [(.int (4 : Int32)), (.int (0 : Int32)), (.int (2 : Int32))] _
    refine XS.iadd X0.here hx rfl (hb hby d7_8) rfl ?_
    show own_S p e below m s₁ 9 #[lvR o0_, lvI (2 : Int32), lvI (0 : Int32), lvI x0_, lvI x1_, .unset, .unset] [(.int (4 : Int32)), (.int (2 : Int32))] _
    refine XS.icmpNo X0.here hx rfl (hb hby d7_9) rfl (tlt (by decide : (2 : Int32) < (4 : Int32))).2.1 ?_
    refine XS.iconst X0.here hx rfl (hb hby d7_12) ?_
    exact kt
  obtain ⟨fs, hr, hrun, hended, hW, hsame⟩ := X0.leave (v := some (.int (1 : Int32))) (fun h => by rw [Bd.returns] at h; cases h)
  refine ⟨_, _, hG _ (pre1 _ (retN X0 hx (t := .boolean) Bd.returns (by simp) (hb hby d7_13) hr)), hrun, hended, _, _, rfl, ?_, ⟨_, rfl⟩, hW, hsame.mono (by decide) (by decide)⟩
  show Qkeeps11 Z o0_ x0_ x1_ ko0_ x2_ x3_ x4_ x5_ x6_ x7_ x8_ x9_ h0 n0 _ s₁.heap _
  rw [e0]
  exact ⟨rfl, N0, rfl⟩
theorem efkeeps12 (m : MethodId) (o0_ : Addr) (x0_ : Int32) (x1_ : Int32) : entryFrame m #[(.ref o0_), (.int (3 : Int32)), (.int (0 : Int32)), (.int x0_), (.int x1_)] 7 = mkF m 0 #[lvR o0_, lvI (3 : Int32), lvI (0 : Int32), lvI x0_, lvI x1_, .unset, .unset] [] := by first | (simp [entryFrame, mkF, argsToLocals, Value.category]; done) | rfl
def Qkeeps12 (Z : State) (o0_ : Addr) (x0_ : Int32) (x1_ : Int32) (ko0_ : ClassId) (x2_ : Int32) (x3_ : Int32) (x4_ : Int32) (x5_ : Int32) (x6_ : Int32) (x7_ : Int32) (x8_ : Int32) (x9_ : Int32) (h0 : Heap) (n0 : Nat) (v : Option Value) (h : Heap) (L : List Loc) : Prop := v = some (.int (1 : Int32)) ∧ Fr n0 L ∧ h = h0
set_option maxRecDepth 65536 in
set_option maxHeartbeats 40000000 in
theorem rmkeeps12 (l : Launch) (Z : State) (a0 : Array Value) (hw : ∀ d ∈ tables_1, d.before a0 Z = true) (ws : List Jvm.Cond) (o0_ : Addr) (x0_ : Int32) (x1_ : Int32) (ko0_ : ClassId) (x2_ : Int32) (x3_ : Int32) (x4_ : Int32) (x5_ : Int32) (x6_ : Int32) (x7_ : Int32) (x8_ : Int32) (x9_ : Int32) (h0 : Heap) (n0 : Nat) (O0 : Old Z n0 h0) (P0 : Arv Z h0 o0_ ko0_ .byte (8 : Int32) [(.int x2_), (.int x3_), (.int x4_), (.int x5_), (.int x6_), (.int x7_), (.int x8_), (.int x9_)] (.int (0 : Int32))) (P1 : Exa Z h0 o0_ "[B") :
    MetFree l (⟨"com/example/stackweave/stackweave/classfile/ByteWriterU4AtPinLaw", "keeps", "([BIIII)Z"⟩ : MethodName) (head1 (Jvm.Cond.code (⟨"com/example/stackweave/stackweave/classfile/ByteWriterU4AtPinLaw", "keeps", "([BIIII)Z"⟩ : MethodName) method_3_code 7 (some .boolean) :: ws) ({ frames := 0, cells := 0, slots := 0, locals := 0 } : Room)) (fun a U => a = #[(.ref o0_), (.int (3 : Int32)), (.int (0 : Int32)), (.int x0_), (.int x1_)] ∧ Z.Warmed39 U.vm ∧ U.heap = h0) (fun _ _ _ _ _ => True) (fun _ U o U' => ∃ v L, o = .returned v ∧ Qkeeps12 Z o0_ x0_ x1_ ko0_ x2_ x3_ x4_ x5_ x6_ x7_ x8_ x9_ h0 n0 v U'.heap L ∧ FrameEnd U o U' L ({ frames := 0, cells := 0, slots := 0, locals := 0 } : Room).cells ({ frames := 0, cells := 0, slots := 0, locals := 0 } : Room).slots) := by
  refine MetFree.of_bodySF (plainFor_of_name pn_1) hisR ?_
  intro p e s m args below meth c s₁ Bd hml0 hP hK
  obtain ⟨rfl, hZ, hh⟩ := hP
  have hx := Bd.exec
  have hby := Bd.bytes
  have hml : c.maxLocals = 7 := hml0
  have hown : s.vm.findClass "com/example/stackweave/stackweave/classfile/ByteWriterU4AtPinLaw" = some m.cls := findClass_of_methodNamed Bd.named
  have hnm := (name_of_methodNamed Bd.named Bd.method).1
  have X0 : Stand p l e ({ frames := 0, cells := 0, slots := 0, locals := 0 } : Room) s m #[(.ref o0_), (.int (3 : Int32)), (.int (0 : Int32)), (.int x0_), (.int x1_)] below meth c s₁ [] 0 0 := Stand.of_body Bd
  have e0 : s₁.heap = h0 := by rw [← hh, Bd.state]; rfl
  have N0 := Fr.nil n0
  obtain ⟨G, pre0, hG⟩ : ∃ G : State → Prop, (∀ t, own_S p e below m s₁ 0 #[lvR o0_, lvI (3 : Int32), lvI (0 : Int32), lvI x0_, lvI x1_, .unset, .unset] [] t → G t) ∧ (∀ t, G t → Steps p.tables e below (s₁.setTop (entryFrame m #[(.ref o0_), (.int (3 : Int32)), (.int (0 : Int32)), (.int x0_), (.int x1_)] 7)) t) := ⟨fun t => Steps p.tables e below (s₁.setTop (entryFrame m #[(.ref o0_), (.int (3 : Int32)), (.int (0 : Int32)), (.int x0_), (.int x1_)] 7)) t, fun t k => castTop (efkeeps12 m o0_ x0_ x1_) k, fun _ k => k⟩
  have K0 : Keep h0 h0 [] := Keep.refl _ _
  have pre1 : ∀ t, own_S p e below m s₁ 13 #[lvR o0_, lvI (3 : Int32), lvI (0 : Int32), lvI x0_, lvI x1_, .unset, .unset] [(.int (1 : Int32))] t → G t := by
    intro t kt
    refine pre0 t ?_
    show own_S p e below m s₁ 0 #[lvR o0_, lvI (3 : Int32), lvI (0 : Int32), lvI x0_, lvI x1_, .unset, .unset] [] _
    refine XS.iloadN X0.here hx rfl (hb hby d7_0) rfl ?_
    refine XS.iloadN X0.here hx rfl (hb hby d7_1) rfl ?_
    show own_S p e below m s₁ 2 #[lvR o0_, lvI (3 : Int32), lvI (0 : Int32), lvI x0_, lvI x1_, .unset, .unset] [(.int (0 : Int32)), (.int (3 : Int32))] _
    refine XS.icmpNo X0.here hx rfl (hb hby d7_2) rfl (flt (by decide : ¬ ((3 : Int32) < (0 : Int32)))).1 ?_
    refine XS.iloadN X0.here hx rfl (hb hby d7_5) rfl ?_
    refine XS.iloadN X0.here hx rfl (hb hby d7_6) rfl ?_
    refine XS.iconst X0.here hx rfl (hb hby d7_7) ?_
    show own_S p e below m s₁ 8 #[lvR o0_, lvI (3 : Int32), lvI (0 : Int32), lvI x0_, lvI x1_, .unset, .unset] [(.int (4 : Int32)), (.int (0 : Int32)), (.int (3 : Int32))] _
    refine XS.iadd X0.here hx rfl (hb hby d7_8) rfl ?_
    show own_S p e below m s₁ 9 #[lvR o0_, lvI (3 : Int32), lvI (0 : Int32), lvI x0_, lvI x1_, .unset, .unset] [(.int (4 : Int32)), (.int (3 : Int32))] _
    refine XS.icmpNo X0.here hx rfl (hb hby d7_9) rfl (tlt (by decide : (3 : Int32) < (4 : Int32))).2.1 ?_
    refine XS.iconst X0.here hx rfl (hb hby d7_12) ?_
    exact kt
  obtain ⟨fs, hr, hrun, hended, hW, hsame⟩ := X0.leave (v := some (.int (1 : Int32))) (fun h => by rw [Bd.returns] at h; cases h)
  refine ⟨_, _, hG _ (pre1 _ (retN X0 hx (t := .boolean) Bd.returns (by simp) (hb hby d7_13) hr)), hrun, hended, _, _, rfl, ?_, ⟨_, rfl⟩, hW, hsame.mono (by decide) (by decide)⟩
  show Qkeeps12 Z o0_ x0_ x1_ ko0_ x2_ x3_ x4_ x5_ x6_ x7_ x8_ x9_ h0 n0 _ s₁.heap _
  rw [e0]
  exact ⟨rfl, N0, rfl⟩
theorem d7_14 : decode method_3_code 14 = .ok (.iload_n 1, 1) := by decide +kernel
theorem d7_15 : decode method_3_code 15 = .ok (.iconst 4, 1) := by decide +kernel
theorem d7_16 : decode method_3_code 16 = .ok (.if_icmp .ge 7, 3) := by decide +kernel
theorem d7_23 : decode method_3_code 23 = .ok (.iload 4, 2) := by decide +kernel
theorem d7_25 : decode method_3_code 25 = .ok (.istore 5, 2) := by decide +kernel
theorem d7_27 : decode method_3_code 27 = .ok (.bipush 24, 2) := by decide +kernel
theorem d7_29 : decode method_3_code 29 = .ok (.bipush 8, 2) := by decide +kernel
theorem d7_31 : decode method_3_code 31 = .ok (.iload_n 1, 1) := by decide +kernel
theorem d7_32 : decode method_3_code 32 = .ok (.iconst 3, 1) := by decide +kernel
theorem d7_33 : decode method_3_code 33 = .ok (.iand, 1) := by decide +kernel
theorem d7_34 : decode method_3_code 34 = .ok (.imul, 1) := by decide +kernel
theorem d7_35 : decode method_3_code 35 = .ok (.isub, 1) := by decide +kernel
theorem d7_36 : decode method_3_code 36 = .ok (.istore 6, 2) := by decide +kernel
theorem d7_38 : decode method_3_code 38 = .ok (.aload_n 0, 1) := by decide +kernel
theorem d7_39 : decode method_3_code 39 = .ok (.iload_n 1, 1) := by decide +kernel
theorem d7_40 : decode method_3_code 40 = .ok (.baload, 1) := by decide +kernel
theorem d7_41 : decode method_3_code 41 = .ok (.iload 5, 2) := by decide +kernel
theorem d7_43 : decode method_3_code 43 = .ok (.iload 6, 2) := by decide +kernel
theorem d7_45 : decode method_3_code 45 = .ok (.iushr, 1) := by decide +kernel
theorem d7_46 : decode method_3_code 46 = .ok (.i2b, 1) := by decide +kernel
theorem d7_47 : decode method_3_code 47 = .ok (.if_icmp .ne 7, 3) := by decide +kernel
theorem d7_50 : decode method_3_code 50 = .ok (.iconst 1, 1) := by decide +kernel
theorem d7_51 : decode method_3_code 51 = .ok (.goto 4, 3) := by decide +kernel
theorem d7_55 : decode method_3_code 55 = .ok (.ireturn, 1) := by decide +kernel
theorem d7_54 : decode method_3_code 54 = .ok (.iconst 0, 1) := by decide +kernel
theorem efkeeps13 (m : MethodId) (o0_ : Addr) (x0_ : Int32) (x1_ : Int32) : entryFrame m #[(.ref o0_), (.int (4 : Int32)), (.int (0 : Int32)), (.int x0_), (.int x1_)] 7 = mkF m 0 #[lvR o0_, lvI (4 : Int32), lvI (0 : Int32), lvI x0_, lvI x1_, .unset, .unset] [] := by first | (simp [entryFrame, mkF, argsToLocals, Value.category]; done) | rfl
def Qkeeps13 (Z : State) (o0_ : Addr) (x0_ : Int32) (x1_ : Int32) (ko0_ : ClassId) (x2_ : Int32) (x3_ : Int32) (x4_ : Int32) (x5_ : Int32) (x6_ : Int32) (x7_ : Int32) (x8_ : Int32) (x9_ : Int32) (h0 : Heap) (n0 : Nat) (v : Option Value) (h : Heap) (L : List Loc) : Prop := ∃ r_ : Int32, v = some (.int r_) ∧ (((1 : Int32) = r_ ∧ (x6_ = (((x1_.toUInt32 >>> ((24 : Int32) &&& 31).toUInt32).toInt32).toInt8.toInt32))) ∨ ((0 : Int32) = r_ ∧ (¬ (x6_ = (((x1_.toUInt32 >>> ((24 : Int32) &&& 31).toUInt32).toInt32).toInt8.toInt32))))) ∧ Fr n0 L ∧ h = h0
set_option maxRecDepth 65536 in
set_option maxHeartbeats 40000000 in
theorem rmkeeps13 (l : Launch) (Z : State) (a0 : Array Value) (hw : ∀ d ∈ tables_1, d.before a0 Z = true) (ws : List Jvm.Cond) (o0_ : Addr) (x0_ : Int32) (x1_ : Int32) (ko0_ : ClassId) (x2_ : Int32) (x3_ : Int32) (x4_ : Int32) (x5_ : Int32) (x6_ : Int32) (x7_ : Int32) (x8_ : Int32) (x9_ : Int32) (h0 : Heap) (n0 : Nat) (O0 : Old Z n0 h0) (P0 : Arv Z h0 o0_ ko0_ .byte (8 : Int32) [(.int x2_), (.int x3_), (.int x4_), (.int x5_), (.int x6_), (.int x7_), (.int x8_), (.int x9_)] (.int (0 : Int32))) (P1 : Exa Z h0 o0_ "[B") :
    MetFree l (⟨"com/example/stackweave/stackweave/classfile/ByteWriterU4AtPinLaw", "keeps", "([BIIII)Z"⟩ : MethodName) (head1 (Jvm.Cond.code (⟨"com/example/stackweave/stackweave/classfile/ByteWriterU4AtPinLaw", "keeps", "([BIIII)Z"⟩ : MethodName) method_3_code 7 (some .boolean) :: ws) ({ frames := 0, cells := 0, slots := 0, locals := 0 } : Room)) (fun a U => a = #[(.ref o0_), (.int (4 : Int32)), (.int (0 : Int32)), (.int x0_), (.int x1_)] ∧ Z.Warmed39 U.vm ∧ U.heap = h0) (fun _ _ _ _ _ => True) (fun _ U o U' => ∃ v L, o = .returned v ∧ Qkeeps13 Z o0_ x0_ x1_ ko0_ x2_ x3_ x4_ x5_ x6_ x7_ x8_ x9_ h0 n0 v U'.heap L ∧ FrameEnd U o U' L ({ frames := 0, cells := 0, slots := 0, locals := 0 } : Room).cells ({ frames := 0, cells := 0, slots := 0, locals := 0 } : Room).slots) := by
  refine MetFree.of_bodySF (plainFor_of_name pn_1) hisR ?_
  intro p e s m args below meth c s₁ Bd hml0 hP hK
  obtain ⟨rfl, hZ, hh⟩ := hP
  have hx := Bd.exec
  have hby := Bd.bytes
  have hml : c.maxLocals = 7 := hml0
  have hown : s.vm.findClass "com/example/stackweave/stackweave/classfile/ByteWriterU4AtPinLaw" = some m.cls := findClass_of_methodNamed Bd.named
  have hnm := (name_of_methodNamed Bd.named Bd.method).1
  have X0 : Stand p l e ({ frames := 0, cells := 0, slots := 0, locals := 0 } : Room) s m #[(.ref o0_), (.int (4 : Int32)), (.int (0 : Int32)), (.int x0_), (.int x1_)] below meth c s₁ [] 0 0 := Stand.of_body Bd
  have e0 : s₁.heap = h0 := by rw [← hh, Bd.state]; rfl
  have N0 := Fr.nil n0
  obtain ⟨G, pre0, hG⟩ : ∃ G : State → Prop, (∀ t, own_S p e below m s₁ 0 #[lvR o0_, lvI (4 : Int32), lvI (0 : Int32), lvI x0_, lvI x1_, .unset, .unset] [] t → G t) ∧ (∀ t, G t → Steps p.tables e below (s₁.setTop (entryFrame m #[(.ref o0_), (.int (4 : Int32)), (.int (0 : Int32)), (.int x0_), (.int x1_)] 7)) t) := ⟨fun t => Steps p.tables e below (s₁.setTop (entryFrame m #[(.ref o0_), (.int (4 : Int32)), (.int (0 : Int32)), (.int x0_), (.int x1_)] 7)) t, fun t k => castTop (efkeeps13 m o0_ x0_ x1_) k, fun _ k => k⟩
  have K0 : Keep h0 h0 [] := Keep.refl _ _
  obtain ⟨c1, r1, q1, s1, z1, y1, G1⟩ := id P0
  have hin1 : ¬ ((4 : Int32) < 0 ∨ c1.slots.size ≤ ((4 : Int32)).toNatClampNeg) := inb_of s1 ⟨by decide, by decide⟩
  have hat1 : c1.slots[((4 : Int32)).toNatClampNeg]? = some (.int x6_) := Has.at y1 hin1 rfl
  have pre2 : ∀ t, own_S p e below m s₁ 47 #[lvR o0_, lvI (4 : Int32), lvI (0 : Int32), lvI x0_, lvI x1_, lvI x1_, lvI (24 : Int32)] [(.int (((x1_.toUInt32 >>> ((24 : Int32) &&& 31).toUInt32).toInt32).toInt8.toInt32)), (.int x6_)] t → G t := by
    intro t kt
    refine pre0 t ?_
    show own_S p e below m s₁ 0 #[lvR o0_, lvI (4 : Int32), lvI (0 : Int32), lvI x0_, lvI x1_, .unset, .unset] [] _
    refine XS.iloadN X0.here hx rfl (hb hby d7_0) rfl ?_
    refine XS.iloadN X0.here hx rfl (hb hby d7_1) rfl ?_
    show own_S p e below m s₁ 2 #[lvR o0_, lvI (4 : Int32), lvI (0 : Int32), lvI x0_, lvI x1_, .unset, .unset] [(.int (0 : Int32)), (.int (4 : Int32))] _
    refine XS.icmpNo X0.here hx rfl (hb hby d7_2) rfl (flt (by decide : ¬ ((4 : Int32) < (0 : Int32)))).1 ?_
    refine XS.iloadN X0.here hx rfl (hb hby d7_5) rfl ?_
    refine XS.iloadN X0.here hx rfl (hb hby d7_6) rfl ?_
    refine XS.iconst X0.here hx rfl (hb hby d7_7) ?_
    show own_S p e below m s₁ 8 #[lvR o0_, lvI (4 : Int32), lvI (0 : Int32), lvI x0_, lvI x1_, .unset, .unset] [(.int (4 : Int32)), (.int (0 : Int32)), (.int (4 : Int32))] _
    refine XS.iadd X0.here hx rfl (hb hby d7_8) rfl ?_
    show own_S p e below m s₁ 9 #[lvR o0_, lvI (4 : Int32), lvI (0 : Int32), lvI x0_, lvI x1_, .unset, .unset] [(.int (4 : Int32)), (.int (4 : Int32))] _
    refine XS.icmpYes X0.here hx rfl (pc0 := 9) (pc' := 14) rfl (hb hby d7_9) rfl (flt (by decide : ¬ ((4 : Int32) < (4 : Int32)))).2.1 (by decide) (by decide) ?_
    refine XS.iloadN X0.here hx rfl (hb hby d7_14) rfl ?_
    refine XS.iconst X0.here hx rfl (hb hby d7_15) ?_
    show own_S p e below m s₁ 16 #[lvR o0_, lvI (4 : Int32), lvI (0 : Int32), lvI x0_, lvI x1_, .unset, .unset] [(.int (4 : Int32)), (.int (4 : Int32))] _
    refine XS.icmpYes X0.here hx rfl (pc0 := 16) (pc' := 23) rfl (hb hby d7_16) rfl (flt (by decide : ¬ ((4 : Int32) < (4 : Int32)))).2.1 (by decide) (by decide) ?_
    refine XS.iload X0.here hx rfl (hb hby d7_23) rfl ?_
    refine XS.istore X0.here hx rfl (hb hby d7_25) rfl (l' := #[lvR o0_, lvI (4 : Int32), lvI (0 : Int32), lvI x0_, lvI x1_, lvI x1_, .unset]) rfl ?_
    refine XS.bipush X0.here hx rfl (hb hby d7_27) ?_
    show own_S p e below m s₁ 29 #[lvR o0_, lvI (4 : Int32), lvI (0 : Int32), lvI x0_, lvI x1_, lvI x1_, .unset] [(.int (24 : Int32))] _
    refine XS.bipush X0.here hx rfl (hb hby d7_29) ?_
    refine XS.iloadN X0.here hx rfl (hb hby d7_31) rfl ?_
    refine XS.iconst X0.here hx rfl (hb hby d7_32) ?_
    refine XS.iand X0.here hx rfl (hb hby d7_33) rfl ?_
    show own_S p e below m s₁ 34 #[lvR o0_, lvI (4 : Int32), lvI (0 : Int32), lvI x0_, lvI x1_, lvI x1_, .unset] [(.int (0 : Int32)), (.int (8 : Int32)), (.int (24 : Int32))] _
    refine XS.imul X0.here hx rfl (hb hby d7_34) rfl ?_
    refine XS.isub X0.here hx rfl (hb hby d7_35) rfl ?_
    refine XS.istore X0.here hx rfl (hb hby d7_36) rfl (l' := #[lvR o0_, lvI (4 : Int32), lvI (0 : Int32), lvI x0_, lvI x1_, lvI x1_, lvI (24 : Int32)]) rfl ?_
    refine XS.aloadN X0.here hx rfl (hb hby d7_38) rfl rfl ?_
    show own_S p e below m s₁ 39 #[lvR o0_, lvI (4 : Int32), lvI (0 : Int32), lvI x0_, lvI x1_, lvI x1_, lvI (24 : Int32)] [(.ref o0_)] _
    refine XS.iloadN X0.here hx rfl (hb hby d7_39) rfl ?_
    show own_S p e below m s₁ 40 #[lvR o0_, lvI (4 : Int32), lvI (0 : Int32), lvI x0_, lvI x1_, lvI x1_, lvI (24 : Int32)] [(.int (4 : Int32)), (.ref o0_)] _
    refine X0.baloadBytes hx (j := (4 : Int32)) (v := (.int x6_)) (by rw [e0]; exact r1.1) (State.isArrayOf_alike hZ.alike r1.2.1) r1.2.2 hin1 hat1 (g := (mkF m 40 #[lvR o0_, lvI (4 : Int32), lvI (0 : Int32), lvI x0_, lvI x1_, lvI x1_, lvI (24 : Int32)] [(.int (4 : Int32)), (.ref o0_)])) rfl rfl (hb hby d7_40) _ ?_
    refine XS.iload X0.here hx rfl (hb hby d7_41) rfl ?_
    refine XS.iload X0.here hx rfl (hb hby d7_43) rfl ?_
    show own_S p e below m s₁ 45 #[lvR o0_, lvI (4 : Int32), lvI (0 : Int32), lvI x0_, lvI x1_, lvI x1_, lvI (24 : Int32)] [(.int (24 : Int32)), (.int x1_), (.int x6_)] _
    refine XS.iushr X0.here hx rfl (hb hby d7_45) rfl ?_
    show own_S p e below m s₁ 46 #[lvR o0_, lvI (4 : Int32), lvI (0 : Int32), lvI x0_, lvI x1_, lvI x1_, lvI (24 : Int32)] [(.int ((x1_.toUInt32 >>> ((24 : Int32) &&& 31).toUInt32).toInt32)), (.int x6_)] _
    refine XS.i2b X0.here hx rfl (hb hby d7_46) rfl ?_
    exact kt
  by_cases hc3 : x6_ = (((x1_.toUInt32 >>> ((24 : Int32) &&& 31).toUInt32).toInt32).toInt8.toInt32)
  · have pre4 : ∀ t, own_S p e below m s₁ 55 #[lvR o0_, lvI (4 : Int32), lvI (0 : Int32), lvI x0_, lvI x1_, lvI x1_, lvI (24 : Int32)] [(.int (1 : Int32))] t → G t := by
      intro t kt
      refine pre2 t ?_
      show own_S p e below m s₁ 47 #[lvR o0_, lvI (4 : Int32), lvI (0 : Int32), lvI x0_, lvI x1_, lvI x1_, lvI (24 : Int32)] [(.int (((x1_.toUInt32 >>> ((24 : Int32) &&& 31).toUInt32).toInt32).toInt8.toInt32)), (.int x6_)] _
      refine XS.icmpNo X0.here hx rfl (hb hby d7_47) rfl (teq hc3).2 ?_
      refine XS.iconst X0.here hx rfl (hb hby d7_50) ?_
      refine XS.goto X0.here hx rfl (pc0 := 51) (pc' := 55) rfl (hb hby d7_51) (by decide) (by decide) ?_
      exact kt
    obtain ⟨fs, hr, hrun, hended, hW, hsame⟩ := X0.leave (v := some (.int (1 : Int32))) (fun h => by rw [Bd.returns] at h; cases h)
    refine ⟨_, _, hG _ (pre4 _ (retN X0 hx (t := .boolean) Bd.returns (by simp) (hb hby d7_55) hr)), hrun, hended, _, _, rfl, ?_, ⟨_, rfl⟩, hW, hsame.mono (by decide) (by decide)⟩
    show Qkeeps13 Z o0_ x0_ x1_ ko0_ x2_ x3_ x4_ x5_ x6_ x7_ x8_ x9_ h0 n0 _ s₁.heap _
    rw [e0]
    exact ⟨(1 : Int32), rfl, (Or.inl ⟨rfl, hc3⟩), N0, rfl⟩
  · have pre6 : ∀ t, own_S p e below m s₁ 55 #[lvR o0_, lvI (4 : Int32), lvI (0 : Int32), lvI x0_, lvI x1_, lvI x1_, lvI (24 : Int32)] [(.int (0 : Int32))] t → G t := by
      intro t kt
      refine pre2 t ?_
      show own_S p e below m s₁ 47 #[lvR o0_, lvI (4 : Int32), lvI (0 : Int32), lvI x0_, lvI x1_, lvI x1_, lvI (24 : Int32)] [(.int (((x1_.toUInt32 >>> ((24 : Int32) &&& 31).toUInt32).toInt32).toInt8.toInt32)), (.int x6_)] _
      refine XS.icmpYes X0.here hx rfl (pc0 := 47) (pc' := 54) rfl (hb hby d7_47) rfl (feq hc3).2 (by decide) (by decide) ?_
      refine XS.iconst X0.here hx rfl (hb hby d7_54) ?_
      exact kt
    obtain ⟨fs, hr, hrun, hended, hW, hsame⟩ := X0.leave (v := some (.int (0 : Int32))) (fun h => by rw [Bd.returns] at h; cases h)
    refine ⟨_, _, hG _ (pre6 _ (retN X0 hx (t := .boolean) Bd.returns (by simp) (hb hby d7_55) hr)), hrun, hended, _, _, rfl, ?_, ⟨_, rfl⟩, hW, hsame.mono (by decide) (by decide)⟩
    show Qkeeps13 Z o0_ x0_ x1_ ko0_ x2_ x3_ x4_ x5_ x6_ x7_ x8_ x9_ h0 n0 _ s₁.heap _
    rw [e0]
    exact ⟨(0 : Int32), rfl, (Or.inr ⟨rfl, hc3⟩), N0, rfl⟩
theorem efkeeps14 (m : MethodId) (o0_ : Addr) (x0_ : Int32) (x1_ : Int32) : entryFrame m #[(.ref o0_), (.int (5 : Int32)), (.int (0 : Int32)), (.int x0_), (.int x1_)] 7 = mkF m 0 #[lvR o0_, lvI (5 : Int32), lvI (0 : Int32), lvI x0_, lvI x1_, .unset, .unset] [] := by first | (simp [entryFrame, mkF, argsToLocals, Value.category]; done) | rfl
def Qkeeps14 (Z : State) (o0_ : Addr) (x0_ : Int32) (x1_ : Int32) (ko0_ : ClassId) (x2_ : Int32) (x3_ : Int32) (x4_ : Int32) (x5_ : Int32) (x6_ : Int32) (x7_ : Int32) (x8_ : Int32) (x9_ : Int32) (h0 : Heap) (n0 : Nat) (v : Option Value) (h : Heap) (L : List Loc) : Prop := ∃ r_ : Int32, v = some (.int r_) ∧ (((1 : Int32) = r_ ∧ (x7_ = (((x1_.toUInt32 >>> ((16 : Int32) &&& 31).toUInt32).toInt32).toInt8.toInt32))) ∨ ((0 : Int32) = r_ ∧ (¬ (x7_ = (((x1_.toUInt32 >>> ((16 : Int32) &&& 31).toUInt32).toInt32).toInt8.toInt32))))) ∧ Fr n0 L ∧ h = h0
set_option maxRecDepth 65536 in
set_option maxHeartbeats 40000000 in
theorem rmkeeps14 (l : Launch) (Z : State) (a0 : Array Value) (hw : ∀ d ∈ tables_1, d.before a0 Z = true) (ws : List Jvm.Cond) (o0_ : Addr) (x0_ : Int32) (x1_ : Int32) (ko0_ : ClassId) (x2_ : Int32) (x3_ : Int32) (x4_ : Int32) (x5_ : Int32) (x6_ : Int32) (x7_ : Int32) (x8_ : Int32) (x9_ : Int32) (h0 : Heap) (n0 : Nat) (O0 : Old Z n0 h0) (P0 : Arv Z h0 o0_ ko0_ .byte (8 : Int32) [(.int x2_), (.int x3_), (.int x4_), (.int x5_), (.int x6_), (.int x7_), (.int x8_), (.int x9_)] (.int (0 : Int32))) (P1 : Exa Z h0 o0_ "[B") :
    MetFree l (⟨"com/example/stackweave/stackweave/classfile/ByteWriterU4AtPinLaw", "keeps", "([BIIII)Z"⟩ : MethodName) (head1 (Jvm.Cond.code (⟨"com/example/stackweave/stackweave/classfile/ByteWriterU4AtPinLaw", "keeps", "([BIIII)Z"⟩ : MethodName) method_3_code 7 (some .boolean) :: ws) ({ frames := 0, cells := 0, slots := 0, locals := 0 } : Room)) (fun a U => a = #[(.ref o0_), (.int (5 : Int32)), (.int (0 : Int32)), (.int x0_), (.int x1_)] ∧ Z.Warmed39 U.vm ∧ U.heap = h0) (fun _ _ _ _ _ => True) (fun _ U o U' => ∃ v L, o = .returned v ∧ Qkeeps14 Z o0_ x0_ x1_ ko0_ x2_ x3_ x4_ x5_ x6_ x7_ x8_ x9_ h0 n0 v U'.heap L ∧ FrameEnd U o U' L ({ frames := 0, cells := 0, slots := 0, locals := 0 } : Room).cells ({ frames := 0, cells := 0, slots := 0, locals := 0 } : Room).slots) := by
  refine MetFree.of_bodySF (plainFor_of_name pn_1) hisR ?_
  intro p e s m args below meth c s₁ Bd hml0 hP hK
  obtain ⟨rfl, hZ, hh⟩ := hP
  have hx := Bd.exec
  have hby := Bd.bytes
  have hml : c.maxLocals = 7 := hml0
  have hown : s.vm.findClass "com/example/stackweave/stackweave/classfile/ByteWriterU4AtPinLaw" = some m.cls := findClass_of_methodNamed Bd.named
  have hnm := (name_of_methodNamed Bd.named Bd.method).1
  have X0 : Stand p l e ({ frames := 0, cells := 0, slots := 0, locals := 0 } : Room) s m #[(.ref o0_), (.int (5 : Int32)), (.int (0 : Int32)), (.int x0_), (.int x1_)] below meth c s₁ [] 0 0 := Stand.of_body Bd
  have e0 : s₁.heap = h0 := by rw [← hh, Bd.state]; rfl
  have N0 := Fr.nil n0
  obtain ⟨G, pre0, hG⟩ : ∃ G : State → Prop, (∀ t, own_S p e below m s₁ 0 #[lvR o0_, lvI (5 : Int32), lvI (0 : Int32), lvI x0_, lvI x1_, .unset, .unset] [] t → G t) ∧ (∀ t, G t → Steps p.tables e below (s₁.setTop (entryFrame m #[(.ref o0_), (.int (5 : Int32)), (.int (0 : Int32)), (.int x0_), (.int x1_)] 7)) t) := ⟨fun t => Steps p.tables e below (s₁.setTop (entryFrame m #[(.ref o0_), (.int (5 : Int32)), (.int (0 : Int32)), (.int x0_), (.int x1_)] 7)) t, fun t k => castTop (efkeeps14 m o0_ x0_ x1_) k, fun _ k => k⟩
  have K0 : Keep h0 h0 [] := Keep.refl _ _
  obtain ⟨c1, r1, q1, s1, z1, y1, G1⟩ := id P0
  have hin1 : ¬ ((5 : Int32) < 0 ∨ c1.slots.size ≤ ((5 : Int32)).toNatClampNeg) := inb_of s1 ⟨by decide, by decide⟩
  have hat1 : c1.slots[((5 : Int32)).toNatClampNeg]? = some (.int x7_) := Has.at y1 hin1 rfl
  have pre2 : ∀ t, own_S p e below m s₁ 47 #[lvR o0_, lvI (5 : Int32), lvI (0 : Int32), lvI x0_, lvI x1_, lvI x1_, lvI (16 : Int32)] [(.int (((x1_.toUInt32 >>> ((16 : Int32) &&& 31).toUInt32).toInt32).toInt8.toInt32)), (.int x7_)] t → G t := by
    intro t kt
    refine pre0 t ?_
    show own_S p e below m s₁ 0 #[lvR o0_, lvI (5 : Int32), lvI (0 : Int32), lvI x0_, lvI x1_, .unset, .unset] [] _
    refine XS.iloadN X0.here hx rfl (hb hby d7_0) rfl ?_
    refine XS.iloadN X0.here hx rfl (hb hby d7_1) rfl ?_
    show own_S p e below m s₁ 2 #[lvR o0_, lvI (5 : Int32), lvI (0 : Int32), lvI x0_, lvI x1_, .unset, .unset] [(.int (0 : Int32)), (.int (5 : Int32))] _
    refine XS.icmpNo X0.here hx rfl (hb hby d7_2) rfl (flt (by decide : ¬ ((5 : Int32) < (0 : Int32)))).1 ?_
    refine XS.iloadN X0.here hx rfl (hb hby d7_5) rfl ?_
    refine XS.iloadN X0.here hx rfl (hb hby d7_6) rfl ?_
    refine XS.iconst X0.here hx rfl (hb hby d7_7) ?_
    show own_S p e below m s₁ 8 #[lvR o0_, lvI (5 : Int32), lvI (0 : Int32), lvI x0_, lvI x1_, .unset, .unset] [(.int (4 : Int32)), (.int (0 : Int32)), (.int (5 : Int32))] _
    refine XS.iadd X0.here hx rfl (hb hby d7_8) rfl ?_
    show own_S p e below m s₁ 9 #[lvR o0_, lvI (5 : Int32), lvI (0 : Int32), lvI x0_, lvI x1_, .unset, .unset] [(.int (4 : Int32)), (.int (5 : Int32))] _
    refine XS.icmpYes X0.here hx rfl (pc0 := 9) (pc' := 14) rfl (hb hby d7_9) rfl (flt (by decide : ¬ ((5 : Int32) < (4 : Int32)))).2.1 (by decide) (by decide) ?_
    refine XS.iloadN X0.here hx rfl (hb hby d7_14) rfl ?_
    refine XS.iconst X0.here hx rfl (hb hby d7_15) ?_
    show own_S p e below m s₁ 16 #[lvR o0_, lvI (5 : Int32), lvI (0 : Int32), lvI x0_, lvI x1_, .unset, .unset] [(.int (4 : Int32)), (.int (5 : Int32))] _
    refine XS.icmpYes X0.here hx rfl (pc0 := 16) (pc' := 23) rfl (hb hby d7_16) rfl (flt (by decide : ¬ ((5 : Int32) < (4 : Int32)))).2.1 (by decide) (by decide) ?_
    refine XS.iload X0.here hx rfl (hb hby d7_23) rfl ?_
    refine XS.istore X0.here hx rfl (hb hby d7_25) rfl (l' := #[lvR o0_, lvI (5 : Int32), lvI (0 : Int32), lvI x0_, lvI x1_, lvI x1_, .unset]) rfl ?_
    refine XS.bipush X0.here hx rfl (hb hby d7_27) ?_
    show own_S p e below m s₁ 29 #[lvR o0_, lvI (5 : Int32), lvI (0 : Int32), lvI x0_, lvI x1_, lvI x1_, .unset] [(.int (24 : Int32))] _
    refine XS.bipush X0.here hx rfl (hb hby d7_29) ?_
    refine XS.iloadN X0.here hx rfl (hb hby d7_31) rfl ?_
    refine XS.iconst X0.here hx rfl (hb hby d7_32) ?_
    refine XS.iand X0.here hx rfl (hb hby d7_33) rfl ?_
    show own_S p e below m s₁ 34 #[lvR o0_, lvI (5 : Int32), lvI (0 : Int32), lvI x0_, lvI x1_, lvI x1_, .unset] [(.int (1 : Int32)), (.int (8 : Int32)), (.int (24 : Int32))] _
    refine XS.imul X0.here hx rfl (hb hby d7_34) rfl ?_
    refine XS.isub X0.here hx rfl (hb hby d7_35) rfl ?_
    refine XS.istore X0.here hx rfl (hb hby d7_36) rfl (l' := #[lvR o0_, lvI (5 : Int32), lvI (0 : Int32), lvI x0_, lvI x1_, lvI x1_, lvI (16 : Int32)]) rfl ?_
    refine XS.aloadN X0.here hx rfl (hb hby d7_38) rfl rfl ?_
    show own_S p e below m s₁ 39 #[lvR o0_, lvI (5 : Int32), lvI (0 : Int32), lvI x0_, lvI x1_, lvI x1_, lvI (16 : Int32)] [(.ref o0_)] _
    refine XS.iloadN X0.here hx rfl (hb hby d7_39) rfl ?_
    show own_S p e below m s₁ 40 #[lvR o0_, lvI (5 : Int32), lvI (0 : Int32), lvI x0_, lvI x1_, lvI x1_, lvI (16 : Int32)] [(.int (5 : Int32)), (.ref o0_)] _
    refine X0.baloadBytes hx (j := (5 : Int32)) (v := (.int x7_)) (by rw [e0]; exact r1.1) (State.isArrayOf_alike hZ.alike r1.2.1) r1.2.2 hin1 hat1 (g := (mkF m 40 #[lvR o0_, lvI (5 : Int32), lvI (0 : Int32), lvI x0_, lvI x1_, lvI x1_, lvI (16 : Int32)] [(.int (5 : Int32)), (.ref o0_)])) rfl rfl (hb hby d7_40) _ ?_
    refine XS.iload X0.here hx rfl (hb hby d7_41) rfl ?_
    refine XS.iload X0.here hx rfl (hb hby d7_43) rfl ?_
    show own_S p e below m s₁ 45 #[lvR o0_, lvI (5 : Int32), lvI (0 : Int32), lvI x0_, lvI x1_, lvI x1_, lvI (16 : Int32)] [(.int (16 : Int32)), (.int x1_), (.int x7_)] _
    refine XS.iushr X0.here hx rfl (hb hby d7_45) rfl ?_
    show own_S p e below m s₁ 46 #[lvR o0_, lvI (5 : Int32), lvI (0 : Int32), lvI x0_, lvI x1_, lvI x1_, lvI (16 : Int32)] [(.int ((x1_.toUInt32 >>> ((16 : Int32) &&& 31).toUInt32).toInt32)), (.int x7_)] _
    refine XS.i2b X0.here hx rfl (hb hby d7_46) rfl ?_
    exact kt
  by_cases hc3 : x7_ = (((x1_.toUInt32 >>> ((16 : Int32) &&& 31).toUInt32).toInt32).toInt8.toInt32)
  · have pre4 : ∀ t, own_S p e below m s₁ 55 #[lvR o0_, lvI (5 : Int32), lvI (0 : Int32), lvI x0_, lvI x1_, lvI x1_, lvI (16 : Int32)] [(.int (1 : Int32))] t → G t := by
      intro t kt
      refine pre2 t ?_
      show own_S p e below m s₁ 47 #[lvR o0_, lvI (5 : Int32), lvI (0 : Int32), lvI x0_, lvI x1_, lvI x1_, lvI (16 : Int32)] [(.int (((x1_.toUInt32 >>> ((16 : Int32) &&& 31).toUInt32).toInt32).toInt8.toInt32)), (.int x7_)] _
      refine XS.icmpNo X0.here hx rfl (hb hby d7_47) rfl (teq hc3).2 ?_
      refine XS.iconst X0.here hx rfl (hb hby d7_50) ?_
      refine XS.goto X0.here hx rfl (pc0 := 51) (pc' := 55) rfl (hb hby d7_51) (by decide) (by decide) ?_
      exact kt
    obtain ⟨fs, hr, hrun, hended, hW, hsame⟩ := X0.leave (v := some (.int (1 : Int32))) (fun h => by rw [Bd.returns] at h; cases h)
    refine ⟨_, _, hG _ (pre4 _ (retN X0 hx (t := .boolean) Bd.returns (by simp) (hb hby d7_55) hr)), hrun, hended, _, _, rfl, ?_, ⟨_, rfl⟩, hW, hsame.mono (by decide) (by decide)⟩
    show Qkeeps14 Z o0_ x0_ x1_ ko0_ x2_ x3_ x4_ x5_ x6_ x7_ x8_ x9_ h0 n0 _ s₁.heap _
    rw [e0]
    exact ⟨(1 : Int32), rfl, (Or.inl ⟨rfl, hc3⟩), N0, rfl⟩
  · have pre6 : ∀ t, own_S p e below m s₁ 55 #[lvR o0_, lvI (5 : Int32), lvI (0 : Int32), lvI x0_, lvI x1_, lvI x1_, lvI (16 : Int32)] [(.int (0 : Int32))] t → G t := by
      intro t kt
      refine pre2 t ?_
      show own_S p e below m s₁ 47 #[lvR o0_, lvI (5 : Int32), lvI (0 : Int32), lvI x0_, lvI x1_, lvI x1_, lvI (16 : Int32)] [(.int (((x1_.toUInt32 >>> ((16 : Int32) &&& 31).toUInt32).toInt32).toInt8.toInt32)), (.int x7_)] _
      refine XS.icmpYes X0.here hx rfl (pc0 := 47) (pc' := 54) rfl (hb hby d7_47) rfl (feq hc3).2 (by decide) (by decide) ?_
      refine XS.iconst X0.here hx rfl (hb hby d7_54) ?_
      exact kt
    obtain ⟨fs, hr, hrun, hended, hW, hsame⟩ := X0.leave (v := some (.int (0 : Int32))) (fun h => by rw [Bd.returns] at h; cases h)
    refine ⟨_, _, hG _ (pre6 _ (retN X0 hx (t := .boolean) Bd.returns (by simp) (hb hby d7_55) hr)), hrun, hended, _, _, rfl, ?_, ⟨_, rfl⟩, hW, hsame.mono (by decide) (by decide)⟩
    show Qkeeps14 Z o0_ x0_ x1_ ko0_ x2_ x3_ x4_ x5_ x6_ x7_ x8_ x9_ h0 n0 _ s₁.heap _
    rw [e0]
    exact ⟨(0 : Int32), rfl, (Or.inr ⟨rfl, hc3⟩), N0, rfl⟩
theorem efkeeps15 (m : MethodId) (o0_ : Addr) (x0_ : Int32) (x1_ : Int32) : entryFrame m #[(.ref o0_), (.int (6 : Int32)), (.int (0 : Int32)), (.int x0_), (.int x1_)] 7 = mkF m 0 #[lvR o0_, lvI (6 : Int32), lvI (0 : Int32), lvI x0_, lvI x1_, .unset, .unset] [] := by first | (simp [entryFrame, mkF, argsToLocals, Value.category]; done) | rfl
def Qkeeps15 (Z : State) (o0_ : Addr) (x0_ : Int32) (x1_ : Int32) (ko0_ : ClassId) (x2_ : Int32) (x3_ : Int32) (x4_ : Int32) (x5_ : Int32) (x6_ : Int32) (x7_ : Int32) (x8_ : Int32) (x9_ : Int32) (h0 : Heap) (n0 : Nat) (v : Option Value) (h : Heap) (L : List Loc) : Prop := ∃ r_ : Int32, v = some (.int r_) ∧ (((1 : Int32) = r_ ∧ (x8_ = (((x1_.toUInt32 >>> ((8 : Int32) &&& 31).toUInt32).toInt32).toInt8.toInt32))) ∨ ((0 : Int32) = r_ ∧ (¬ (x8_ = (((x1_.toUInt32 >>> ((8 : Int32) &&& 31).toUInt32).toInt32).toInt8.toInt32))))) ∧ Fr n0 L ∧ h = h0
set_option maxRecDepth 65536 in
set_option maxHeartbeats 40000000 in
theorem rmkeeps15 (l : Launch) (Z : State) (a0 : Array Value) (hw : ∀ d ∈ tables_1, d.before a0 Z = true) (ws : List Jvm.Cond) (o0_ : Addr) (x0_ : Int32) (x1_ : Int32) (ko0_ : ClassId) (x2_ : Int32) (x3_ : Int32) (x4_ : Int32) (x5_ : Int32) (x6_ : Int32) (x7_ : Int32) (x8_ : Int32) (x9_ : Int32) (h0 : Heap) (n0 : Nat) (O0 : Old Z n0 h0) (P0 : Arv Z h0 o0_ ko0_ .byte (8 : Int32) [(.int x2_), (.int x3_), (.int x4_), (.int x5_), (.int x6_), (.int x7_), (.int x8_), (.int x9_)] (.int (0 : Int32))) (P1 : Exa Z h0 o0_ "[B") :
    MetFree l (⟨"com/example/stackweave/stackweave/classfile/ByteWriterU4AtPinLaw", "keeps", "([BIIII)Z"⟩ : MethodName) (head1 (Jvm.Cond.code (⟨"com/example/stackweave/stackweave/classfile/ByteWriterU4AtPinLaw", "keeps", "([BIIII)Z"⟩ : MethodName) method_3_code 7 (some .boolean) :: ws) ({ frames := 0, cells := 0, slots := 0, locals := 0 } : Room)) (fun a U => a = #[(.ref o0_), (.int (6 : Int32)), (.int (0 : Int32)), (.int x0_), (.int x1_)] ∧ Z.Warmed39 U.vm ∧ U.heap = h0) (fun _ _ _ _ _ => True) (fun _ U o U' => ∃ v L, o = .returned v ∧ Qkeeps15 Z o0_ x0_ x1_ ko0_ x2_ x3_ x4_ x5_ x6_ x7_ x8_ x9_ h0 n0 v U'.heap L ∧ FrameEnd U o U' L ({ frames := 0, cells := 0, slots := 0, locals := 0 } : Room).cells ({ frames := 0, cells := 0, slots := 0, locals := 0 } : Room).slots) := by
  refine MetFree.of_bodySF (plainFor_of_name pn_1) hisR ?_
  intro p e s m args below meth c s₁ Bd hml0 hP hK
  obtain ⟨rfl, hZ, hh⟩ := hP
  have hx := Bd.exec
  have hby := Bd.bytes
  have hml : c.maxLocals = 7 := hml0
  have hown : s.vm.findClass "com/example/stackweave/stackweave/classfile/ByteWriterU4AtPinLaw" = some m.cls := findClass_of_methodNamed Bd.named
  have hnm := (name_of_methodNamed Bd.named Bd.method).1
  have X0 : Stand p l e ({ frames := 0, cells := 0, slots := 0, locals := 0 } : Room) s m #[(.ref o0_), (.int (6 : Int32)), (.int (0 : Int32)), (.int x0_), (.int x1_)] below meth c s₁ [] 0 0 := Stand.of_body Bd
  have e0 : s₁.heap = h0 := by rw [← hh, Bd.state]; rfl
  have N0 := Fr.nil n0
  obtain ⟨G, pre0, hG⟩ : ∃ G : State → Prop, (∀ t, own_S p e below m s₁ 0 #[lvR o0_, lvI (6 : Int32), lvI (0 : Int32), lvI x0_, lvI x1_, .unset, .unset] [] t → G t) ∧ (∀ t, G t → Steps p.tables e below (s₁.setTop (entryFrame m #[(.ref o0_), (.int (6 : Int32)), (.int (0 : Int32)), (.int x0_), (.int x1_)] 7)) t) := ⟨fun t => Steps p.tables e below (s₁.setTop (entryFrame m #[(.ref o0_), (.int (6 : Int32)), (.int (0 : Int32)), (.int x0_), (.int x1_)] 7)) t, fun t k => castTop (efkeeps15 m o0_ x0_ x1_) k, fun _ k => k⟩
  have K0 : Keep h0 h0 [] := Keep.refl _ _
  obtain ⟨c1, r1, q1, s1, z1, y1, G1⟩ := id P0
  have hin1 : ¬ ((6 : Int32) < 0 ∨ c1.slots.size ≤ ((6 : Int32)).toNatClampNeg) := inb_of s1 ⟨by decide, by decide⟩
  have hat1 : c1.slots[((6 : Int32)).toNatClampNeg]? = some (.int x8_) := Has.at y1 hin1 rfl
  have pre2 : ∀ t, own_S p e below m s₁ 47 #[lvR o0_, lvI (6 : Int32), lvI (0 : Int32), lvI x0_, lvI x1_, lvI x1_, lvI (8 : Int32)] [(.int (((x1_.toUInt32 >>> ((8 : Int32) &&& 31).toUInt32).toInt32).toInt8.toInt32)), (.int x8_)] t → G t := by
    intro t kt
    refine pre0 t ?_
    show own_S p e below m s₁ 0 #[lvR o0_, lvI (6 : Int32), lvI (0 : Int32), lvI x0_, lvI x1_, .unset, .unset] [] _
    refine XS.iloadN X0.here hx rfl (hb hby d7_0) rfl ?_
    refine XS.iloadN X0.here hx rfl (hb hby d7_1) rfl ?_
    show own_S p e below m s₁ 2 #[lvR o0_, lvI (6 : Int32), lvI (0 : Int32), lvI x0_, lvI x1_, .unset, .unset] [(.int (0 : Int32)), (.int (6 : Int32))] _
    refine XS.icmpNo X0.here hx rfl (hb hby d7_2) rfl (flt (by decide : ¬ ((6 : Int32) < (0 : Int32)))).1 ?_
    refine XS.iloadN X0.here hx rfl (hb hby d7_5) rfl ?_
    refine XS.iloadN X0.here hx rfl (hb hby d7_6) rfl ?_
    refine XS.iconst X0.here hx rfl (hb hby d7_7) ?_
    show own_S p e below m s₁ 8 #[lvR o0_, lvI (6 : Int32), lvI (0 : Int32), lvI x0_, lvI x1_, .unset, .unset] [(.int (4 : Int32)), (.int (0 : Int32)), (.int (6 : Int32))] _
    refine XS.iadd X0.here hx rfl (hb hby d7_8) rfl ?_
    show own_S p e below m s₁ 9 #[lvR o0_, lvI (6 : Int32), lvI (0 : Int32), lvI x0_, lvI x1_, .unset, .unset] [(.int (4 : Int32)), (.int (6 : Int32))] _
    refine XS.icmpYes X0.here hx rfl (pc0 := 9) (pc' := 14) rfl (hb hby d7_9) rfl (flt (by decide : ¬ ((6 : Int32) < (4 : Int32)))).2.1 (by decide) (by decide) ?_
    refine XS.iloadN X0.here hx rfl (hb hby d7_14) rfl ?_
    refine XS.iconst X0.here hx rfl (hb hby d7_15) ?_
    show own_S p e below m s₁ 16 #[lvR o0_, lvI (6 : Int32), lvI (0 : Int32), lvI x0_, lvI x1_, .unset, .unset] [(.int (4 : Int32)), (.int (6 : Int32))] _
    refine XS.icmpYes X0.here hx rfl (pc0 := 16) (pc' := 23) rfl (hb hby d7_16) rfl (flt (by decide : ¬ ((6 : Int32) < (4 : Int32)))).2.1 (by decide) (by decide) ?_
    refine XS.iload X0.here hx rfl (hb hby d7_23) rfl ?_
    refine XS.istore X0.here hx rfl (hb hby d7_25) rfl (l' := #[lvR o0_, lvI (6 : Int32), lvI (0 : Int32), lvI x0_, lvI x1_, lvI x1_, .unset]) rfl ?_
    refine XS.bipush X0.here hx rfl (hb hby d7_27) ?_
    show own_S p e below m s₁ 29 #[lvR o0_, lvI (6 : Int32), lvI (0 : Int32), lvI x0_, lvI x1_, lvI x1_, .unset] [(.int (24 : Int32))] _
    refine XS.bipush X0.here hx rfl (hb hby d7_29) ?_
    refine XS.iloadN X0.here hx rfl (hb hby d7_31) rfl ?_
    refine XS.iconst X0.here hx rfl (hb hby d7_32) ?_
    refine XS.iand X0.here hx rfl (hb hby d7_33) rfl ?_
    show own_S p e below m s₁ 34 #[lvR o0_, lvI (6 : Int32), lvI (0 : Int32), lvI x0_, lvI x1_, lvI x1_, .unset] [(.int (2 : Int32)), (.int (8 : Int32)), (.int (24 : Int32))] _
    refine XS.imul X0.here hx rfl (hb hby d7_34) rfl ?_
    refine XS.isub X0.here hx rfl (hb hby d7_35) rfl ?_
    refine XS.istore X0.here hx rfl (hb hby d7_36) rfl (l' := #[lvR o0_, lvI (6 : Int32), lvI (0 : Int32), lvI x0_, lvI x1_, lvI x1_, lvI (8 : Int32)]) rfl ?_
    refine XS.aloadN X0.here hx rfl (hb hby d7_38) rfl rfl ?_
    show own_S p e below m s₁ 39 #[lvR o0_, lvI (6 : Int32), lvI (0 : Int32), lvI x0_, lvI x1_, lvI x1_, lvI (8 : Int32)] [(.ref o0_)] _
    refine XS.iloadN X0.here hx rfl (hb hby d7_39) rfl ?_
    show own_S p e below m s₁ 40 #[lvR o0_, lvI (6 : Int32), lvI (0 : Int32), lvI x0_, lvI x1_, lvI x1_, lvI (8 : Int32)] [(.int (6 : Int32)), (.ref o0_)] _
    refine X0.baloadBytes hx (j := (6 : Int32)) (v := (.int x8_)) (by rw [e0]; exact r1.1) (State.isArrayOf_alike hZ.alike r1.2.1) r1.2.2 hin1 hat1 (g := (mkF m 40 #[lvR o0_, lvI (6 : Int32), lvI (0 : Int32), lvI x0_, lvI x1_, lvI x1_, lvI (8 : Int32)] [(.int (6 : Int32)), (.ref o0_)])) rfl rfl (hb hby d7_40) _ ?_
    refine XS.iload X0.here hx rfl (hb hby d7_41) rfl ?_
    refine XS.iload X0.here hx rfl (hb hby d7_43) rfl ?_
    show own_S p e below m s₁ 45 #[lvR o0_, lvI (6 : Int32), lvI (0 : Int32), lvI x0_, lvI x1_, lvI x1_, lvI (8 : Int32)] [(.int (8 : Int32)), (.int x1_), (.int x8_)] _
    refine XS.iushr X0.here hx rfl (hb hby d7_45) rfl ?_
    show own_S p e below m s₁ 46 #[lvR o0_, lvI (6 : Int32), lvI (0 : Int32), lvI x0_, lvI x1_, lvI x1_, lvI (8 : Int32)] [(.int ((x1_.toUInt32 >>> ((8 : Int32) &&& 31).toUInt32).toInt32)), (.int x8_)] _
    refine XS.i2b X0.here hx rfl (hb hby d7_46) rfl ?_
    exact kt
  by_cases hc3 : x8_ = (((x1_.toUInt32 >>> ((8 : Int32) &&& 31).toUInt32).toInt32).toInt8.toInt32)
  · have pre4 : ∀ t, own_S p e below m s₁ 55 #[lvR o0_, lvI (6 : Int32), lvI (0 : Int32), lvI x0_, lvI x1_, lvI x1_, lvI (8 : Int32)] [(.int (1 : Int32))] t → G t := by
      intro t kt
      refine pre2 t ?_
      show own_S p e below m s₁ 47 #[lvR o0_, lvI (6 : Int32), lvI (0 : Int32), lvI x0_, lvI x1_, lvI x1_, lvI (8 : Int32)] [(.int (((x1_.toUInt32 >>> ((8 : Int32) &&& 31).toUInt32).toInt32).toInt8.toInt32)), (.int x8_)] _
      refine XS.icmpNo X0.here hx rfl (hb hby d7_47) rfl (teq hc3).2 ?_
      refine XS.iconst X0.here hx rfl (hb hby d7_50) ?_
      refine XS.goto X0.here hx rfl (pc0 := 51) (pc' := 55) rfl (hb hby d7_51) (by decide) (by decide) ?_
      exact kt
    obtain ⟨fs, hr, hrun, hended, hW, hsame⟩ := X0.leave (v := some (.int (1 : Int32))) (fun h => by rw [Bd.returns] at h; cases h)
    refine ⟨_, _, hG _ (pre4 _ (retN X0 hx (t := .boolean) Bd.returns (by simp) (hb hby d7_55) hr)), hrun, hended, _, _, rfl, ?_, ⟨_, rfl⟩, hW, hsame.mono (by decide) (by decide)⟩
    show Qkeeps15 Z o0_ x0_ x1_ ko0_ x2_ x3_ x4_ x5_ x6_ x7_ x8_ x9_ h0 n0 _ s₁.heap _
    rw [e0]
    exact ⟨(1 : Int32), rfl, (Or.inl ⟨rfl, hc3⟩), N0, rfl⟩
  · have pre6 : ∀ t, own_S p e below m s₁ 55 #[lvR o0_, lvI (6 : Int32), lvI (0 : Int32), lvI x0_, lvI x1_, lvI x1_, lvI (8 : Int32)] [(.int (0 : Int32))] t → G t := by
      intro t kt
      refine pre2 t ?_
      show own_S p e below m s₁ 47 #[lvR o0_, lvI (6 : Int32), lvI (0 : Int32), lvI x0_, lvI x1_, lvI x1_, lvI (8 : Int32)] [(.int (((x1_.toUInt32 >>> ((8 : Int32) &&& 31).toUInt32).toInt32).toInt8.toInt32)), (.int x8_)] _
      refine XS.icmpYes X0.here hx rfl (pc0 := 47) (pc' := 54) rfl (hb hby d7_47) rfl (feq hc3).2 (by decide) (by decide) ?_
      refine XS.iconst X0.here hx rfl (hb hby d7_54) ?_
      exact kt
    obtain ⟨fs, hr, hrun, hended, hW, hsame⟩ := X0.leave (v := some (.int (0 : Int32))) (fun h => by rw [Bd.returns] at h; cases h)
    refine ⟨_, _, hG _ (pre6 _ (retN X0 hx (t := .boolean) Bd.returns (by simp) (hb hby d7_55) hr)), hrun, hended, _, _, rfl, ?_, ⟨_, rfl⟩, hW, hsame.mono (by decide) (by decide)⟩
    show Qkeeps15 Z o0_ x0_ x1_ ko0_ x2_ x3_ x4_ x5_ x6_ x7_ x8_ x9_ h0 n0 _ s₁.heap _
    rw [e0]
    exact ⟨(0 : Int32), rfl, (Or.inr ⟨rfl, hc3⟩), N0, rfl⟩
theorem efkeeps16 (m : MethodId) (o0_ : Addr) (x0_ : Int32) (x1_ : Int32) : entryFrame m #[(.ref o0_), (.int (7 : Int32)), (.int (0 : Int32)), (.int x0_), (.int x1_)] 7 = mkF m 0 #[lvR o0_, lvI (7 : Int32), lvI (0 : Int32), lvI x0_, lvI x1_, .unset, .unset] [] := by first | (simp [entryFrame, mkF, argsToLocals, Value.category]; done) | rfl
def Qkeeps16 (Z : State) (o0_ : Addr) (x0_ : Int32) (x1_ : Int32) (ko0_ : ClassId) (x2_ : Int32) (x3_ : Int32) (x4_ : Int32) (x5_ : Int32) (x6_ : Int32) (x7_ : Int32) (x8_ : Int32) (x9_ : Int32) (h0 : Heap) (n0 : Nat) (v : Option Value) (h : Heap) (L : List Loc) : Prop := ∃ r_ : Int32, v = some (.int r_) ∧ (((1 : Int32) = r_ ∧ (x9_ = (((x1_.toUInt32 >>> ((0 : Int32) &&& 31).toUInt32).toInt32).toInt8.toInt32))) ∨ ((0 : Int32) = r_ ∧ (¬ (x9_ = (((x1_.toUInt32 >>> ((0 : Int32) &&& 31).toUInt32).toInt32).toInt8.toInt32))))) ∧ Fr n0 L ∧ h = h0
set_option maxRecDepth 65536 in
set_option maxHeartbeats 40000000 in
theorem rmkeeps16 (l : Launch) (Z : State) (a0 : Array Value) (hw : ∀ d ∈ tables_1, d.before a0 Z = true) (ws : List Jvm.Cond) (o0_ : Addr) (x0_ : Int32) (x1_ : Int32) (ko0_ : ClassId) (x2_ : Int32) (x3_ : Int32) (x4_ : Int32) (x5_ : Int32) (x6_ : Int32) (x7_ : Int32) (x8_ : Int32) (x9_ : Int32) (h0 : Heap) (n0 : Nat) (O0 : Old Z n0 h0) (P0 : Arv Z h0 o0_ ko0_ .byte (8 : Int32) [(.int x2_), (.int x3_), (.int x4_), (.int x5_), (.int x6_), (.int x7_), (.int x8_), (.int x9_)] (.int (0 : Int32))) (P1 : Exa Z h0 o0_ "[B") :
    MetFree l (⟨"com/example/stackweave/stackweave/classfile/ByteWriterU4AtPinLaw", "keeps", "([BIIII)Z"⟩ : MethodName) (head1 (Jvm.Cond.code (⟨"com/example/stackweave/stackweave/classfile/ByteWriterU4AtPinLaw", "keeps", "([BIIII)Z"⟩ : MethodName) method_3_code 7 (some .boolean) :: ws) ({ frames := 0, cells := 0, slots := 0, locals := 0 } : Room)) (fun a U => a = #[(.ref o0_), (.int (7 : Int32)), (.int (0 : Int32)), (.int x0_), (.int x1_)] ∧ Z.Warmed39 U.vm ∧ U.heap = h0) (fun _ _ _ _ _ => True) (fun _ U o U' => ∃ v L, o = .returned v ∧ Qkeeps16 Z o0_ x0_ x1_ ko0_ x2_ x3_ x4_ x5_ x6_ x7_ x8_ x9_ h0 n0 v U'.heap L ∧ FrameEnd U o U' L ({ frames := 0, cells := 0, slots := 0, locals := 0 } : Room).cells ({ frames := 0, cells := 0, slots := 0, locals := 0 } : Room).slots) := by
  refine MetFree.of_bodySF (plainFor_of_name pn_1) hisR ?_
  intro p e s m args below meth c s₁ Bd hml0 hP hK
  obtain ⟨rfl, hZ, hh⟩ := hP
  have hx := Bd.exec
  have hby := Bd.bytes
  have hml : c.maxLocals = 7 := hml0
  have hown : s.vm.findClass "com/example/stackweave/stackweave/classfile/ByteWriterU4AtPinLaw" = some m.cls := findClass_of_methodNamed Bd.named
  have hnm := (name_of_methodNamed Bd.named Bd.method).1
  have X0 : Stand p l e ({ frames := 0, cells := 0, slots := 0, locals := 0 } : Room) s m #[(.ref o0_), (.int (7 : Int32)), (.int (0 : Int32)), (.int x0_), (.int x1_)] below meth c s₁ [] 0 0 := Stand.of_body Bd
  have e0 : s₁.heap = h0 := by rw [← hh, Bd.state]; rfl
  have N0 := Fr.nil n0
  obtain ⟨G, pre0, hG⟩ : ∃ G : State → Prop, (∀ t, own_S p e below m s₁ 0 #[lvR o0_, lvI (7 : Int32), lvI (0 : Int32), lvI x0_, lvI x1_, .unset, .unset] [] t → G t) ∧ (∀ t, G t → Steps p.tables e below (s₁.setTop (entryFrame m #[(.ref o0_), (.int (7 : Int32)), (.int (0 : Int32)), (.int x0_), (.int x1_)] 7)) t) := ⟨fun t => Steps p.tables e below (s₁.setTop (entryFrame m #[(.ref o0_), (.int (7 : Int32)), (.int (0 : Int32)), (.int x0_), (.int x1_)] 7)) t, fun t k => castTop (efkeeps16 m o0_ x0_ x1_) k, fun _ k => k⟩
  have K0 : Keep h0 h0 [] := Keep.refl _ _
  obtain ⟨c1, r1, q1, s1, z1, y1, G1⟩ := id P0
  have hin1 : ¬ ((7 : Int32) < 0 ∨ c1.slots.size ≤ ((7 : Int32)).toNatClampNeg) := inb_of s1 ⟨by decide, by decide⟩
  have hat1 : c1.slots[((7 : Int32)).toNatClampNeg]? = some (.int x9_) := Has.at y1 hin1 rfl
  have pre2 : ∀ t, own_S p e below m s₁ 47 #[lvR o0_, lvI (7 : Int32), lvI (0 : Int32), lvI x0_, lvI x1_, lvI x1_, lvI (0 : Int32)] [(.int (((x1_.toUInt32 >>> ((0 : Int32) &&& 31).toUInt32).toInt32).toInt8.toInt32)), (.int x9_)] t → G t := by
    intro t kt
    refine pre0 t ?_
    show own_S p e below m s₁ 0 #[lvR o0_, lvI (7 : Int32), lvI (0 : Int32), lvI x0_, lvI x1_, .unset, .unset] [] _
    refine XS.iloadN X0.here hx rfl (hb hby d7_0) rfl ?_
    refine XS.iloadN X0.here hx rfl (hb hby d7_1) rfl ?_
    show own_S p e below m s₁ 2 #[lvR o0_, lvI (7 : Int32), lvI (0 : Int32), lvI x0_, lvI x1_, .unset, .unset] [(.int (0 : Int32)), (.int (7 : Int32))] _
    refine XS.icmpNo X0.here hx rfl (hb hby d7_2) rfl (flt (by decide : ¬ ((7 : Int32) < (0 : Int32)))).1 ?_
    refine XS.iloadN X0.here hx rfl (hb hby d7_5) rfl ?_
    refine XS.iloadN X0.here hx rfl (hb hby d7_6) rfl ?_
    refine XS.iconst X0.here hx rfl (hb hby d7_7) ?_
    show own_S p e below m s₁ 8 #[lvR o0_, lvI (7 : Int32), lvI (0 : Int32), lvI x0_, lvI x1_, .unset, .unset] [(.int (4 : Int32)), (.int (0 : Int32)), (.int (7 : Int32))] _
    refine XS.iadd X0.here hx rfl (hb hby d7_8) rfl ?_
    show own_S p e below m s₁ 9 #[lvR o0_, lvI (7 : Int32), lvI (0 : Int32), lvI x0_, lvI x1_, .unset, .unset] [(.int (4 : Int32)), (.int (7 : Int32))] _
    refine XS.icmpYes X0.here hx rfl (pc0 := 9) (pc' := 14) rfl (hb hby d7_9) rfl (flt (by decide : ¬ ((7 : Int32) < (4 : Int32)))).2.1 (by decide) (by decide) ?_
    refine XS.iloadN X0.here hx rfl (hb hby d7_14) rfl ?_
    refine XS.iconst X0.here hx rfl (hb hby d7_15) ?_
    show own_S p e below m s₁ 16 #[lvR o0_, lvI (7 : Int32), lvI (0 : Int32), lvI x0_, lvI x1_, .unset, .unset] [(.int (4 : Int32)), (.int (7 : Int32))] _
    refine XS.icmpYes X0.here hx rfl (pc0 := 16) (pc' := 23) rfl (hb hby d7_16) rfl (flt (by decide : ¬ ((7 : Int32) < (4 : Int32)))).2.1 (by decide) (by decide) ?_
    refine XS.iload X0.here hx rfl (hb hby d7_23) rfl ?_
    refine XS.istore X0.here hx rfl (hb hby d7_25) rfl (l' := #[lvR o0_, lvI (7 : Int32), lvI (0 : Int32), lvI x0_, lvI x1_, lvI x1_, .unset]) rfl ?_
    refine XS.bipush X0.here hx rfl (hb hby d7_27) ?_
    show own_S p e below m s₁ 29 #[lvR o0_, lvI (7 : Int32), lvI (0 : Int32), lvI x0_, lvI x1_, lvI x1_, .unset] [(.int (24 : Int32))] _
    refine XS.bipush X0.here hx rfl (hb hby d7_29) ?_
    refine XS.iloadN X0.here hx rfl (hb hby d7_31) rfl ?_
    refine XS.iconst X0.here hx rfl (hb hby d7_32) ?_
    refine XS.iand X0.here hx rfl (hb hby d7_33) rfl ?_
    show own_S p e below m s₁ 34 #[lvR o0_, lvI (7 : Int32), lvI (0 : Int32), lvI x0_, lvI x1_, lvI x1_, .unset] [(.int (3 : Int32)), (.int (8 : Int32)), (.int (24 : Int32))] _
    refine XS.imul X0.here hx rfl (hb hby d7_34) rfl ?_
    refine XS.isub X0.here hx rfl (hb hby d7_35) rfl ?_
    refine XS.istore X0.here hx rfl (hb hby d7_36) rfl (l' := #[lvR o0_, lvI (7 : Int32), lvI (0 : Int32), lvI x0_, lvI x1_, lvI x1_, lvI (0 : Int32)]) rfl ?_
    refine XS.aloadN X0.here hx rfl (hb hby d7_38) rfl rfl ?_
    show own_S p e below m s₁ 39 #[lvR o0_, lvI (7 : Int32), lvI (0 : Int32), lvI x0_, lvI x1_, lvI x1_, lvI (0 : Int32)] [(.ref o0_)] _
    refine XS.iloadN X0.here hx rfl (hb hby d7_39) rfl ?_
    show own_S p e below m s₁ 40 #[lvR o0_, lvI (7 : Int32), lvI (0 : Int32), lvI x0_, lvI x1_, lvI x1_, lvI (0 : Int32)] [(.int (7 : Int32)), (.ref o0_)] _
    refine X0.baloadBytes hx (j := (7 : Int32)) (v := (.int x9_)) (by rw [e0]; exact r1.1) (State.isArrayOf_alike hZ.alike r1.2.1) r1.2.2 hin1 hat1 (g := (mkF m 40 #[lvR o0_, lvI (7 : Int32), lvI (0 : Int32), lvI x0_, lvI x1_, lvI x1_, lvI (0 : Int32)] [(.int (7 : Int32)), (.ref o0_)])) rfl rfl (hb hby d7_40) _ ?_
    refine XS.iload X0.here hx rfl (hb hby d7_41) rfl ?_
    refine XS.iload X0.here hx rfl (hb hby d7_43) rfl ?_
    show own_S p e below m s₁ 45 #[lvR o0_, lvI (7 : Int32), lvI (0 : Int32), lvI x0_, lvI x1_, lvI x1_, lvI (0 : Int32)] [(.int (0 : Int32)), (.int x1_), (.int x9_)] _
    refine XS.iushr X0.here hx rfl (hb hby d7_45) rfl ?_
    show own_S p e below m s₁ 46 #[lvR o0_, lvI (7 : Int32), lvI (0 : Int32), lvI x0_, lvI x1_, lvI x1_, lvI (0 : Int32)] [(.int ((x1_.toUInt32 >>> ((0 : Int32) &&& 31).toUInt32).toInt32)), (.int x9_)] _
    refine XS.i2b X0.here hx rfl (hb hby d7_46) rfl ?_
    exact kt
  by_cases hc3 : x9_ = (((x1_.toUInt32 >>> ((0 : Int32) &&& 31).toUInt32).toInt32).toInt8.toInt32)
  · have pre4 : ∀ t, own_S p e below m s₁ 55 #[lvR o0_, lvI (7 : Int32), lvI (0 : Int32), lvI x0_, lvI x1_, lvI x1_, lvI (0 : Int32)] [(.int (1 : Int32))] t → G t := by
      intro t kt
      refine pre2 t ?_
      show own_S p e below m s₁ 47 #[lvR o0_, lvI (7 : Int32), lvI (0 : Int32), lvI x0_, lvI x1_, lvI x1_, lvI (0 : Int32)] [(.int (((x1_.toUInt32 >>> ((0 : Int32) &&& 31).toUInt32).toInt32).toInt8.toInt32)), (.int x9_)] _
      refine XS.icmpNo X0.here hx rfl (hb hby d7_47) rfl (teq hc3).2 ?_
      refine XS.iconst X0.here hx rfl (hb hby d7_50) ?_
      refine XS.goto X0.here hx rfl (pc0 := 51) (pc' := 55) rfl (hb hby d7_51) (by decide) (by decide) ?_
      exact kt
    obtain ⟨fs, hr, hrun, hended, hW, hsame⟩ := X0.leave (v := some (.int (1 : Int32))) (fun h => by rw [Bd.returns] at h; cases h)
    refine ⟨_, _, hG _ (pre4 _ (retN X0 hx (t := .boolean) Bd.returns (by simp) (hb hby d7_55) hr)), hrun, hended, _, _, rfl, ?_, ⟨_, rfl⟩, hW, hsame.mono (by decide) (by decide)⟩
    show Qkeeps16 Z o0_ x0_ x1_ ko0_ x2_ x3_ x4_ x5_ x6_ x7_ x8_ x9_ h0 n0 _ s₁.heap _
    rw [e0]
    exact ⟨(1 : Int32), rfl, (Or.inl ⟨rfl, hc3⟩), N0, rfl⟩
  · have pre6 : ∀ t, own_S p e below m s₁ 55 #[lvR o0_, lvI (7 : Int32), lvI (0 : Int32), lvI x0_, lvI x1_, lvI x1_, lvI (0 : Int32)] [(.int (0 : Int32))] t → G t := by
      intro t kt
      refine pre2 t ?_
      show own_S p e below m s₁ 47 #[lvR o0_, lvI (7 : Int32), lvI (0 : Int32), lvI x0_, lvI x1_, lvI x1_, lvI (0 : Int32)] [(.int (((x1_.toUInt32 >>> ((0 : Int32) &&& 31).toUInt32).toInt32).toInt8.toInt32)), (.int x9_)] _
      refine XS.icmpYes X0.here hx rfl (pc0 := 47) (pc' := 54) rfl (hb hby d7_47) rfl (feq hc3).2 (by decide) (by decide) ?_
      refine XS.iconst X0.here hx rfl (hb hby d7_54) ?_
      exact kt
    obtain ⟨fs, hr, hrun, hended, hW, hsame⟩ := X0.leave (v := some (.int (0 : Int32))) (fun h => by rw [Bd.returns] at h; cases h)
    refine ⟨_, _, hG _ (pre6 _ (retN X0 hx (t := .boolean) Bd.returns (by simp) (hb hby d7_55) hr)), hrun, hended, _, _, rfl, ?_, ⟨_, rfl⟩, hW, hsame.mono (by decide) (by decide)⟩
    show Qkeeps16 Z o0_ x0_ x1_ ko0_ x2_ x3_ x4_ x5_ x6_ x7_ x8_ x9_ h0 n0 _ s₁.heap _
    rw [e0]
    exact ⟨(0 : Int32), rfl, (Or.inr ⟨rfl, hc3⟩), N0, rfl⟩
theorem efu4At17 (m : MethodId) (o0_ : Addr) (x0_ : Int32) : entryFrame m #[(.ref o0_), (.int (1 : Int32)), (.int x0_)] 3 = mkF m 0 #[lvR o0_, lvI (1 : Int32), lvI x0_] [] := by first | (simp [entryFrame, mkF, argsToLocals, Value.category]; done) | rfl
def Qu4At17 (Z : State) (o0_ : Addr) (x0_ : Int32) (o1_ : Addr) (ko1_ : ClassId) (x1_ : Int32) (x2_ : Int32) (x3_ : Int32) (x4_ : Int32) (x5_ : Int32) (x6_ : Int32) (x7_ : Int32) (x8_ : Int32) (h0 : Heap) (n0 : Nat) (v : Option Value) (h : Heap) (L : List Loc) : Prop := v = none ∧ Fr n0 L ∧ Keep h0 h [o1_] ∧ Arv Z h o1_ ko1_ .byte (8 : Int32) [(.int x1_), (.int (((x0_.toUInt32 >>> ((24 : Int32) &&& 31).toUInt32).toInt32).toInt8.toInt32)), (.int (((x0_.toUInt32 >>> ((16 : Int32) &&& 31).toUInt32).toInt32).toInt8.toInt32)), (.int (((x0_.toUInt32 >>> ((8 : Int32) &&& 31).toUInt32).toInt32).toInt8.toInt32)), (.int (x0_.toInt8.toInt32)), (.int x6_), (.int x7_), (.int x8_)] (.int (0 : Int32)) ∧ Exa Z h o1_ "[B"
set_option maxRecDepth 65536 in
set_option maxHeartbeats 40000000 in
theorem rmu4At17 (l : Launch) (Z : State) (a0 : Array Value) (hw : ∀ d ∈ tables_1, d.before a0 Z = true) (ws : List Jvm.Cond) (o0_ : Addr) (x0_ : Int32) (o1_ : Addr) (ko1_ : ClassId) (x1_ : Int32) (x2_ : Int32) (x3_ : Int32) (x4_ : Int32) (x5_ : Int32) (x6_ : Int32) (x7_ : Int32) (x8_ : Int32) (h0 : Heap) (n0 : Nat) (O0 : Old Z n0 h0) (P0 : Exa Z h0 o0_ cn0) (P1 : Fld Z h0 o0_ cn0 "bytes" "[B" (.ref o1_)) (P2 : Fld Z h0 o0_ cn0 "length" "I" (.int (8 : Int32))) (P3 : Arv Z h0 o1_ ko1_ .byte (8 : Int32) [(.int x1_), (.int x2_), (.int x3_), (.int x4_), (.int x5_), (.int x6_), (.int x7_), (.int x8_)] (.int (0 : Int32))) (P4 : Exa Z h0 o1_ "[B") (P5 : n0 ≤ o1_) (P6 : o0_ ≠ o1_) :
    MetFree l (⟨"com/example/stackweave/stackweave/classfile/ByteWriter", "u4At", "(II)V"⟩ : MethodName) (head1 (Jvm.Cond.code (⟨"com/example/stackweave/stackweave/classfile/ByteWriter", "u4At", "(II)V"⟩ : MethodName) prog_12_method_7_code 3 none :: ws) ({ frames := 0, cells := 0, slots := 0, locals := 0 } : Room)) (fun a U => a = #[(.ref o0_), (.int (1 : Int32)), (.int x0_)] ∧ Z.Warmed39 U.vm ∧ U.heap = h0) (fun _ _ _ _ _ => True) (fun _ U o U' => ∃ v L, o = .returned v ∧ Qu4At17 Z o0_ x0_ o1_ ko1_ x1_ x2_ x3_ x4_ x5_ x6_ x7_ x8_ h0 n0 v U'.heap L ∧ FrameEnd U o U' L ({ frames := 0, cells := 0, slots := 0, locals := 0 } : Room).cells ({ frames := 0, cells := 0, slots := 0, locals := 0 } : Room).slots) := by
  refine MetFree.of_bodySF (plainFor_of_name pn_0) hisR ?_
  intro p e s m args below meth c s₁ Bd hml0 hP hK
  obtain ⟨rfl, hZ, hh⟩ := hP
  have hx := Bd.exec
  have hby := Bd.bytes
  have hml : c.maxLocals = 3 := hml0
  have hown : s.vm.findClass "com/example/stackweave/stackweave/classfile/ByteWriter" = some m.cls := findClass_of_methodNamed Bd.named
  have hnm := (name_of_methodNamed Bd.named Bd.method).1
  have X0 : Stand p l e ({ frames := 0, cells := 0, slots := 0, locals := 0 } : Room) s m #[(.ref o0_), (.int (1 : Int32)), (.int x0_)] below meth c s₁ [] 0 0 := Stand.of_body Bd
  have e0 : s₁.heap = h0 := by rw [← hh, Bd.state]; rfl
  have N0 := Fr.nil n0
  obtain ⟨G, pre0, hG⟩ : ∃ G : State → Prop, (∀ t, own_S p e below m s₁ 0 #[lvR o0_, lvI (1 : Int32), lvI x0_] [] t → G t) ∧ (∀ t, G t → Steps p.tables e below (s₁.setTop (entryFrame m #[(.ref o0_), (.int (1 : Int32)), (.int x0_)] 3)) t) := ⟨fun t => Steps p.tables e below (s₁.setTop (entryFrame m #[(.ref o0_), (.int (1 : Int32)), (.int x0_)] 3)) t, fun t k => castTop (efu4At17 m o0_ x0_) k, fun _ k => k⟩
  have K0 : Keep h0 h0 [o1_] := Keep.refl _ _
  obtain ⟨T1, X1, e1, st1⟩ := getF X0 hx hZ hown (host := "") (Or.inl (own_w hw 11 rfl)) Via.refl e0 P1 (g := (mkF m 1 #[lvR o0_, lvI (1 : Int32), lvI x0_] [(.ref o0_)])) rfl rfl (hb hby d4_1)
  obtain ⟨c2, r2, q2, s2, z2, y2, G2⟩ := id P3
  have hin2 : ¬ ((1 : Int32) < 0 ∨ c2.slots.size ≤ ((1 : Int32)).toNatClampNeg) := inb_of s2 ⟨by decide, by decide⟩
  obtain ⟨T2, h2, X2, e2, W2, st2⟩ := stB X1 hx hZ e1 r2 (j := (1 : Int32)) hin2 (g := (mkF m 10 #[lvR o0_, lvI (1 : Int32), lvI x0_] [(.int (((x0_.toUInt32 >>> ((24 : Int32) &&& 31).toUInt32).toInt32).toInt8.toInt32)), (.int (1 : Int32)), (.ref o1_)])) rfl rfl (hb hby d4_10)
  have N3 := Fr.snoc X2 N0 P5
  have f4 : Arv Z h2 o1_ ko1_ .byte (8 : Int32) [(.int x1_), (.int ((((x0_.toUInt32 >>> ((24 : Int32) &&& 31).toUInt32).toInt32).toInt8.toInt32).toInt8.toInt32)), (.int x3_), (.int x4_), (.int x5_), (.int x6_), (.int x7_), (.int x8_)] (.int (0 : Int32)) := Arv.set r2 q2 s2 z2 y2 G2 (fits_nar_byte _) W2 1 rfl (Nat.le_of_ble_eq_true rfl)
  have f5 : Arv Z h2 o1_ ko1_ .byte (8 : Int32) [(.int x1_), (.int (((x0_.toUInt32 >>> ((24 : Int32) &&& 31).toUInt32).toInt32).toInt8.toInt32)), (.int x3_), (.int x4_), (.int x5_), (.int x6_), (.int x7_), (.int x8_)] (.int (0 : Int32)) := by have q := f4; rw [own_i2b2] at q; exact q
  have f6 : Fld Z h2 o0_ cn0 "bytes" "[B" (.ref o1_) := P1.other W2 (Or.inl P6)
  obtain ⟨T7, X7, e7, st7⟩ := getF X2 hx hZ hown (host := "") (Or.inl (own_w hw 11 rfl)) Via.refl e2 f6 (g := (mkF m 12 #[lvR o0_, lvI (1 : Int32), lvI x0_] [(.ref o0_)])) rfl rfl (hb hby d4_12)
  obtain ⟨c8, r8, q8, s8, z8, y8, G8⟩ := id f5
  have hin8 : ¬ ((2 : Int32) < 0 ∨ c8.slots.size ≤ ((2 : Int32)).toNatClampNeg) := inb_of s8 ⟨by decide, by decide⟩
  obtain ⟨T8, h8, X8, e8, W8, st8⟩ := stB X7 hx hZ e7 r8 (j := (2 : Int32)) hin8 (g := (mkF m 23 #[lvR o0_, lvI (1 : Int32), lvI x0_] [(.int (((x0_.toUInt32 >>> ((16 : Int32) &&& 31).toUInt32).toInt32).toInt8.toInt32)), (.int (2 : Int32)), (.ref o1_)])) rfl rfl (hb hby d4_23)
  have N9 := Fr.snoc X8 N3 P5
  have f10 : Arv Z h8 o1_ ko1_ .byte (8 : Int32) [(.int x1_), (.int (((x0_.toUInt32 >>> ((24 : Int32) &&& 31).toUInt32).toInt32).toInt8.toInt32)), (.int ((((x0_.toUInt32 >>> ((16 : Int32) &&& 31).toUInt32).toInt32).toInt8.toInt32).toInt8.toInt32)), (.int x4_), (.int x5_), (.int x6_), (.int x7_), (.int x8_)] (.int (0 : Int32)) := Arv.set r8 q8 s8 z8 y8 G8 (fits_nar_byte _) W8 2 rfl (Nat.le_of_ble_eq_true rfl)
  have f11 : Arv Z h8 o1_ ko1_ .byte (8 : Int32) [(.int x1_), (.int (((x0_.toUInt32 >>> ((24 : Int32) &&& 31).toUInt32).toInt32).toInt8.toInt32)), (.int (((x0_.toUInt32 >>> ((16 : Int32) &&& 31).toUInt32).toInt32).toInt8.toInt32)), (.int x4_), (.int x5_), (.int x6_), (.int x7_), (.int x8_)] (.int (0 : Int32)) := by have q := f10; rw [own_i2b2] at q; exact q
  have f12 : Fld Z h8 o0_ cn0 "bytes" "[B" (.ref o1_) := f6.other W8 (Or.inl P6)
  obtain ⟨T13, X13, e13, st13⟩ := getF X8 hx hZ hown (host := "") (Or.inl (own_w hw 11 rfl)) Via.refl e8 f12 (g := (mkF m 25 #[lvR o0_, lvI (1 : Int32), lvI x0_] [(.ref o0_)])) rfl rfl (hb hby d4_25)
  obtain ⟨c14, r14, q14, s14, z14, y14, G14⟩ := id f11
  have hin14 : ¬ ((3 : Int32) < 0 ∨ c14.slots.size ≤ ((3 : Int32)).toNatClampNeg) := inb_of s14 ⟨by decide, by decide⟩
  obtain ⟨T14, h14, X14, e14, W14, st14⟩ := stB X13 hx hZ e13 r14 (j := (3 : Int32)) hin14 (g := (mkF m 36 #[lvR o0_, lvI (1 : Int32), lvI x0_] [(.int (((x0_.toUInt32 >>> ((8 : Int32) &&& 31).toUInt32).toInt32).toInt8.toInt32)), (.int (3 : Int32)), (.ref o1_)])) rfl rfl (hb hby d4_36)
  have N15 := Fr.snoc X14 N9 P5
  have f16 : Arv Z h14 o1_ ko1_ .byte (8 : Int32) [(.int x1_), (.int (((x0_.toUInt32 >>> ((24 : Int32) &&& 31).toUInt32).toInt32).toInt8.toInt32)), (.int (((x0_.toUInt32 >>> ((16 : Int32) &&& 31).toUInt32).toInt32).toInt8.toInt32)), (.int ((((x0_.toUInt32 >>> ((8 : Int32) &&& 31).toUInt32).toInt32).toInt8.toInt32).toInt8.toInt32)), (.int x5_), (.int x6_), (.int x7_), (.int x8_)] (.int (0 : Int32)) := Arv.set r14 q14 s14 z14 y14 G14 (fits_nar_byte _) W14 3 rfl (Nat.le_of_ble_eq_true rfl)
  have f17 : Arv Z h14 o1_ ko1_ .byte (8 : Int32) [(.int x1_), (.int (((x0_.toUInt32 >>> ((24 : Int32) &&& 31).toUInt32).toInt32).toInt8.toInt32)), (.int (((x0_.toUInt32 >>> ((16 : Int32) &&& 31).toUInt32).toInt32).toInt8.toInt32)), (.int (((x0_.toUInt32 >>> ((8 : Int32) &&& 31).toUInt32).toInt32).toInt8.toInt32)), (.int x5_), (.int x6_), (.int x7_), (.int x8_)] (.int (0 : Int32)) := by have q := f16; rw [own_i2b2] at q; exact q
  have f18 : Fld Z h14 o0_ cn0 "bytes" "[B" (.ref o1_) := f12.other W14 (Or.inl P6)
  obtain ⟨T19, X19, e19, st19⟩ := getF X14 hx hZ hown (host := "") (Or.inl (own_w hw 11 rfl)) Via.refl e14 f18 (g := (mkF m 38 #[lvR o0_, lvI (1 : Int32), lvI x0_] [(.ref o0_)])) rfl rfl (hb hby d4_38)
  obtain ⟨c20, r20, q20, s20, z20, y20, G20⟩ := id f17
  have hin20 : ¬ ((4 : Int32) < 0 ∨ c20.slots.size ≤ ((4 : Int32)).toNatClampNeg) := inb_of s20 ⟨by decide, by decide⟩
  obtain ⟨T20, h20, X20, e20, W20, st20⟩ := stB X19 hx hZ e19 r20 (j := (4 : Int32)) hin20 (g := (mkF m 46 #[lvR o0_, lvI (1 : Int32), lvI x0_] [(.int (x0_.toInt8.toInt32)), (.int (4 : Int32)), (.ref o1_)])) rfl rfl (hb hby d4_46)
  have N21 := Fr.snoc X20 N15 P5
  have f22 : Arv Z h20 o1_ ko1_ .byte (8 : Int32) [(.int x1_), (.int (((x0_.toUInt32 >>> ((24 : Int32) &&& 31).toUInt32).toInt32).toInt8.toInt32)), (.int (((x0_.toUInt32 >>> ((16 : Int32) &&& 31).toUInt32).toInt32).toInt8.toInt32)), (.int (((x0_.toUInt32 >>> ((8 : Int32) &&& 31).toUInt32).toInt32).toInt8.toInt32)), (.int ((x0_.toInt8.toInt32).toInt8.toInt32)), (.int x6_), (.int x7_), (.int x8_)] (.int (0 : Int32)) := Arv.set r20 q20 s20 z20 y20 G20 (fits_nar_byte _) W20 4 rfl (Nat.le_of_ble_eq_true rfl)
  have f23 : Arv Z h20 o1_ ko1_ .byte (8 : Int32) [(.int x1_), (.int (((x0_.toUInt32 >>> ((24 : Int32) &&& 31).toUInt32).toInt32).toInt8.toInt32)), (.int (((x0_.toUInt32 >>> ((16 : Int32) &&& 31).toUInt32).toInt32).toInt8.toInt32)), (.int (((x0_.toUInt32 >>> ((8 : Int32) &&& 31).toUInt32).toInt32).toInt8.toInt32)), (.int (x0_.toInt8.toInt32)), (.int x6_), (.int x7_), (.int x8_)] (.int (0 : Int32)) := by have q := f22; rw [own_i2b2] at q; exact q
  have pre24 : ∀ t, own_S p e below m T20 47 #[lvR o0_, lvI (1 : Int32), lvI x0_] [] t → G t := by
    intro t kt
    refine pre0 t ?_
    show own_S p e below m s₁ 0 #[lvR o0_, lvI (1 : Int32), lvI x0_] [] _
    refine XS.aloadN X0.here hx rfl (hb hby d4_0) rfl rfl ?_
    show own_S p e below m s₁ 1 #[lvR o0_, lvI (1 : Int32), lvI x0_] [(.ref o0_)] _
    refine st1 _ ?_
    refine XS.iloadN X1.here hx rfl (hb hby d4_4) rfl ?_
    refine XS.iloadN X1.here hx rfl (hb hby d4_5) rfl ?_
    refine XS.bipush X1.here hx rfl (hb hby d4_6) ?_
    show own_S p e below m T1 8 #[lvR o0_, lvI (1 : Int32), lvI x0_] [(.int (24 : Int32)), (.int x0_), (.int (1 : Int32)), (.ref o1_)] _
    refine XS.iushr X1.here hx rfl (hb hby d4_8) rfl ?_
    show own_S p e below m T1 9 #[lvR o0_, lvI (1 : Int32), lvI x0_] [(.int ((x0_.toUInt32 >>> ((24 : Int32) &&& 31).toUInt32).toInt32)), (.int (1 : Int32)), (.ref o1_)] _
    refine XS.i2b X1.here hx rfl (hb hby d4_9) rfl ?_
    show own_S p e below m T1 10 #[lvR o0_, lvI (1 : Int32), lvI x0_] [(.int (((x0_.toUInt32 >>> ((24 : Int32) &&& 31).toUInt32).toInt32).toInt8.toInt32)), (.int (1 : Int32)), (.ref o1_)] _
    refine st2 _ ?_
    refine XS.aloadN X2.here hx rfl (hb hby d4_11) rfl rfl ?_
    show own_S p e below m T2 12 #[lvR o0_, lvI (1 : Int32), lvI x0_] [(.ref o0_)] _
    refine st7 _ ?_
    refine XS.iloadN X7.here hx rfl (hb hby d4_15) rfl ?_
    refine XS.iconst X7.here hx rfl (hb hby d4_16) ?_
    refine XS.iadd X7.here hx rfl (hb hby d4_17) rfl ?_
    show own_S p e below m T7 18 #[lvR o0_, lvI (1 : Int32), lvI x0_] [(.int (2 : Int32)), (.ref o1_)] _
    refine XS.iloadN X7.here hx rfl (hb hby d4_18) rfl ?_
    refine XS.bipush X7.here hx rfl (hb hby d4_19) ?_
    show own_S p e below m T7 21 #[lvR o0_, lvI (1 : Int32), lvI x0_] [(.int (16 : Int32)), (.int x0_), (.int (2 : Int32)), (.ref o1_)] _
    refine XS.iushr X7.here hx rfl (hb hby d4_21) rfl ?_
    show own_S p e below m T7 22 #[lvR o0_, lvI (1 : Int32), lvI x0_] [(.int ((x0_.toUInt32 >>> ((16 : Int32) &&& 31).toUInt32).toInt32)), (.int (2 : Int32)), (.ref o1_)] _
    refine XS.i2b X7.here hx rfl (hb hby d4_22) rfl ?_
    show own_S p e below m T7 23 #[lvR o0_, lvI (1 : Int32), lvI x0_] [(.int (((x0_.toUInt32 >>> ((16 : Int32) &&& 31).toUInt32).toInt32).toInt8.toInt32)), (.int (2 : Int32)), (.ref o1_)] _
    refine st8 _ ?_
    refine XS.aloadN X8.here hx rfl (hb hby d4_24) rfl rfl ?_
    show own_S p e below m T8 25 #[lvR o0_, lvI (1 : Int32), lvI x0_] [(.ref o0_)] _
    refine st13 _ ?_
    refine XS.iloadN X13.here hx rfl (hb hby d4_28) rfl ?_
    refine XS.iconst X13.here hx rfl (hb hby d4_29) ?_
    refine XS.iadd X13.here hx rfl (hb hby d4_30) rfl ?_
    show own_S p e below m T13 31 #[lvR o0_, lvI (1 : Int32), lvI x0_] [(.int (3 : Int32)), (.ref o1_)] _
    refine XS.iloadN X13.here hx rfl (hb hby d4_31) rfl ?_
    refine XS.bipush X13.here hx rfl (hb hby d4_32) ?_
    show own_S p e below m T13 34 #[lvR o0_, lvI (1 : Int32), lvI x0_] [(.int (8 : Int32)), (.int x0_), (.int (3 : Int32)), (.ref o1_)] _
    refine XS.iushr X13.here hx rfl (hb hby d4_34) rfl ?_
    show own_S p e below m T13 35 #[lvR o0_, lvI (1 : Int32), lvI x0_] [(.int ((x0_.toUInt32 >>> ((8 : Int32) &&& 31).toUInt32).toInt32)), (.int (3 : Int32)), (.ref o1_)] _
    refine XS.i2b X13.here hx rfl (hb hby d4_35) rfl ?_
    show own_S p e below m T13 36 #[lvR o0_, lvI (1 : Int32), lvI x0_] [(.int (((x0_.toUInt32 >>> ((8 : Int32) &&& 31).toUInt32).toInt32).toInt8.toInt32)), (.int (3 : Int32)), (.ref o1_)] _
    refine st14 _ ?_
    refine XS.aloadN X14.here hx rfl (hb hby d4_37) rfl rfl ?_
    show own_S p e below m T14 38 #[lvR o0_, lvI (1 : Int32), lvI x0_] [(.ref o0_)] _
    refine st19 _ ?_
    refine XS.iloadN X19.here hx rfl (hb hby d4_41) rfl ?_
    refine XS.iconst X19.here hx rfl (hb hby d4_42) ?_
    refine XS.iadd X19.here hx rfl (hb hby d4_43) rfl ?_
    show own_S p e below m T19 44 #[lvR o0_, lvI (1 : Int32), lvI x0_] [(.int (4 : Int32)), (.ref o1_)] _
    refine XS.iloadN X19.here hx rfl (hb hby d4_44) rfl ?_
    show own_S p e below m T19 45 #[lvR o0_, lvI (1 : Int32), lvI x0_] [(.int x0_), (.int (4 : Int32)), (.ref o1_)] _
    refine XS.i2b X19.here hx rfl (hb hby d4_45) rfl ?_
    show own_S p e below m T19 46 #[lvR o0_, lvI (1 : Int32), lvI x0_] [(.int (x0_.toInt8.toInt32)), (.int (4 : Int32)), (.ref o1_)] _
    refine st20 _ ?_
    exact kt
  have f26 : Keep h0 h2 [o1_] := K0.wr W2 (Or.inl (List.mem_of_getElem? (i := 0) rfl))
  have f27 : Keep h0 h8 [o1_] := f26.wr W8 (Or.inl (List.mem_of_getElem? (i := 0) rfl))
  have f28 : Keep h0 h14 [o1_] := f27.wr W14 (Or.inl (List.mem_of_getElem? (i := 0) rfl))
  have f29 : Keep h0 h20 [o1_] := f28.wr W20 (Or.inl (List.mem_of_getElem? (i := 0) rfl))
  have f30 : Exa Z h2 o1_ "[B" := P4.wr W2
  have f31 : Exa Z h8 o1_ "[B" := f30.wr W8
  have f32 : Exa Z h14 o1_ "[B" := f31.wr W14
  have f33 : Exa Z h20 o1_ "[B" := f32.wr W20
  obtain ⟨fs, hr, hrun, hended, hW, hsame⟩ := X20.leave (v := none) (fun _ => rfl)
  refine ⟨_, _, hG _ (pre24 _ (X20.returnOut hx Bd.returns (hb hby d4_47) hr)), hrun, hended, _, _, rfl, ?_, ⟨_, rfl⟩, hW, hsame.mono (by decide) (by decide)⟩
  show Qu4At17 Z o0_ x0_ o1_ ko1_ x1_ x2_ x3_ x4_ x5_ x6_ x7_ x8_ h0 n0 _ T20.heap _
  rw [e20]
  exact ⟨rfl, N21, f29, f23, f33⟩
theorem d7_19 : decode method_3_code 19 = .ok (.iload_n 3, 1) := by decide +kernel
theorem d7_20 : decode method_3_code 20 = .ok (.goto 5, 3) := by decide +kernel
theorem efkeeps18 (m : MethodId) (o0_ : Addr) (x0_ : Int32) (x1_ : Int32) : entryFrame m #[(.ref o0_), (.int (0 : Int32)), (.int (1 : Int32)), (.int x0_), (.int x1_)] 7 = mkF m 0 #[lvR o0_, lvI (0 : Int32), lvI (1 : Int32), lvI x0_, lvI x1_, .unset, .unset] [] := by first | (simp [entryFrame, mkF, argsToLocals, Value.category]; done) | rfl
def Qkeeps18 (Z : State) (o0_ : Addr) (x0_ : Int32) (x1_ : Int32) (ko0_ : ClassId) (x2_ : Int32) (x3_ : Int32) (x4_ : Int32) (x5_ : Int32) (x6_ : Int32) (x7_ : Int32) (x8_ : Int32) (x9_ : Int32) (h0 : Heap) (n0 : Nat) (v : Option Value) (h : Heap) (L : List Loc) : Prop := ∃ r_ : Int32, v = some (.int r_) ∧ (((1 : Int32) = r_ ∧ (x2_ = (((x0_.toUInt32 >>> ((24 : Int32) &&& 31).toUInt32).toInt32).toInt8.toInt32))) ∨ ((0 : Int32) = r_ ∧ (¬ (x2_ = (((x0_.toUInt32 >>> ((24 : Int32) &&& 31).toUInt32).toInt32).toInt8.toInt32))))) ∧ Fr n0 L ∧ h = h0
set_option maxRecDepth 65536 in
set_option maxHeartbeats 40000000 in
theorem rmkeeps18 (l : Launch) (Z : State) (a0 : Array Value) (hw : ∀ d ∈ tables_1, d.before a0 Z = true) (ws : List Jvm.Cond) (o0_ : Addr) (x0_ : Int32) (x1_ : Int32) (ko0_ : ClassId) (x2_ : Int32) (x3_ : Int32) (x4_ : Int32) (x5_ : Int32) (x6_ : Int32) (x7_ : Int32) (x8_ : Int32) (x9_ : Int32) (h0 : Heap) (n0 : Nat) (O0 : Old Z n0 h0) (P0 : Arv Z h0 o0_ ko0_ .byte (8 : Int32) [(.int x2_), (.int x3_), (.int x4_), (.int x5_), (.int x6_), (.int x7_), (.int x8_), (.int x9_)] (.int (0 : Int32))) (P1 : Exa Z h0 o0_ "[B") :
    MetFree l (⟨"com/example/stackweave/stackweave/classfile/ByteWriterU4AtPinLaw", "keeps", "([BIIII)Z"⟩ : MethodName) (head1 (Jvm.Cond.code (⟨"com/example/stackweave/stackweave/classfile/ByteWriterU4AtPinLaw", "keeps", "([BIIII)Z"⟩ : MethodName) method_3_code 7 (some .boolean) :: ws) ({ frames := 0, cells := 0, slots := 0, locals := 0 } : Room)) (fun a U => a = #[(.ref o0_), (.int (0 : Int32)), (.int (1 : Int32)), (.int x0_), (.int x1_)] ∧ Z.Warmed39 U.vm ∧ U.heap = h0) (fun _ _ _ _ _ => True) (fun _ U o U' => ∃ v L, o = .returned v ∧ Qkeeps18 Z o0_ x0_ x1_ ko0_ x2_ x3_ x4_ x5_ x6_ x7_ x8_ x9_ h0 n0 v U'.heap L ∧ FrameEnd U o U' L ({ frames := 0, cells := 0, slots := 0, locals := 0 } : Room).cells ({ frames := 0, cells := 0, slots := 0, locals := 0 } : Room).slots) := by
  refine MetFree.of_bodySF (plainFor_of_name pn_1) hisR ?_
  intro p e s m args below meth c s₁ Bd hml0 hP hK
  obtain ⟨rfl, hZ, hh⟩ := hP
  have hx := Bd.exec
  have hby := Bd.bytes
  have hml : c.maxLocals = 7 := hml0
  have hown : s.vm.findClass "com/example/stackweave/stackweave/classfile/ByteWriterU4AtPinLaw" = some m.cls := findClass_of_methodNamed Bd.named
  have hnm := (name_of_methodNamed Bd.named Bd.method).1
  have X0 : Stand p l e ({ frames := 0, cells := 0, slots := 0, locals := 0 } : Room) s m #[(.ref o0_), (.int (0 : Int32)), (.int (1 : Int32)), (.int x0_), (.int x1_)] below meth c s₁ [] 0 0 := Stand.of_body Bd
  have e0 : s₁.heap = h0 := by rw [← hh, Bd.state]; rfl
  have N0 := Fr.nil n0
  obtain ⟨G, pre0, hG⟩ : ∃ G : State → Prop, (∀ t, own_S p e below m s₁ 0 #[lvR o0_, lvI (0 : Int32), lvI (1 : Int32), lvI x0_, lvI x1_, .unset, .unset] [] t → G t) ∧ (∀ t, G t → Steps p.tables e below (s₁.setTop (entryFrame m #[(.ref o0_), (.int (0 : Int32)), (.int (1 : Int32)), (.int x0_), (.int x1_)] 7)) t) := ⟨fun t => Steps p.tables e below (s₁.setTop (entryFrame m #[(.ref o0_), (.int (0 : Int32)), (.int (1 : Int32)), (.int x0_), (.int x1_)] 7)) t, fun t k => castTop (efkeeps18 m o0_ x0_ x1_) k, fun _ k => k⟩
  have K0 : Keep h0 h0 [] := Keep.refl _ _
  obtain ⟨c1, r1, q1, s1, z1, y1, G1⟩ := id P0
  have hin1 : ¬ ((0 : Int32) < 0 ∨ c1.slots.size ≤ ((0 : Int32)).toNatClampNeg) := inb_of s1 ⟨by decide, by decide⟩
  have hat1 : c1.slots[((0 : Int32)).toNatClampNeg]? = some (.int x2_) := Has.at y1 hin1 rfl
  have pre2 : ∀ t, own_S p e below m s₁ 47 #[lvR o0_, lvI (0 : Int32), lvI (1 : Int32), lvI x0_, lvI x1_, lvI x0_, lvI (24 : Int32)] [(.int (((x0_.toUInt32 >>> ((24 : Int32) &&& 31).toUInt32).toInt32).toInt8.toInt32)), (.int x2_)] t → G t := by
    intro t kt
    refine pre0 t ?_
    show own_S p e below m s₁ 0 #[lvR o0_, lvI (0 : Int32), lvI (1 : Int32), lvI x0_, lvI x1_, .unset, .unset] [] _
    refine XS.iloadN X0.here hx rfl (hb hby d7_0) rfl ?_
    refine XS.iloadN X0.here hx rfl (hb hby d7_1) rfl ?_
    show own_S p e below m s₁ 2 #[lvR o0_, lvI (0 : Int32), lvI (1 : Int32), lvI x0_, lvI x1_, .unset, .unset] [(.int (1 : Int32)), (.int (0 : Int32))] _
    refine XS.icmpYes X0.here hx rfl (pc0 := 2) (pc' := 14) rfl (hb hby d7_2) rfl (tlt (by decide : (0 : Int32) < (1 : Int32))).1 (by decide) (by decide) ?_
    refine XS.iloadN X0.here hx rfl (hb hby d7_14) rfl ?_
    refine XS.iconst X0.here hx rfl (hb hby d7_15) ?_
    show own_S p e below m s₁ 16 #[lvR o0_, lvI (0 : Int32), lvI (1 : Int32), lvI x0_, lvI x1_, .unset, .unset] [(.int (4 : Int32)), (.int (0 : Int32))] _
    refine XS.icmpNo X0.here hx rfl (hb hby d7_16) rfl (tlt (by decide : (0 : Int32) < (4 : Int32))).2.1 ?_
    refine XS.iloadN X0.here hx rfl (hb hby d7_19) rfl ?_
    refine XS.goto X0.here hx rfl (pc0 := 20) (pc' := 25) rfl (hb hby d7_20) (by decide) (by decide) ?_
    refine XS.istore X0.here hx rfl (hb hby d7_25) rfl (l' := #[lvR o0_, lvI (0 : Int32), lvI (1 : Int32), lvI x0_, lvI x1_, lvI x0_, .unset]) rfl ?_
    show own_S p e below m s₁ 27 #[lvR o0_, lvI (0 : Int32), lvI (1 : Int32), lvI x0_, lvI x1_, lvI x0_, .unset] [] _
    refine XS.bipush X0.here hx rfl (hb hby d7_27) ?_
    refine XS.bipush X0.here hx rfl (hb hby d7_29) ?_
    refine XS.iloadN X0.here hx rfl (hb hby d7_31) rfl ?_
    refine XS.iconst X0.here hx rfl (hb hby d7_32) ?_
    show own_S p e below m s₁ 33 #[lvR o0_, lvI (0 : Int32), lvI (1 : Int32), lvI x0_, lvI x1_, lvI x0_, .unset] [(.int (3 : Int32)), (.int (0 : Int32)), (.int (8 : Int32)), (.int (24 : Int32))] _
    refine XS.iand X0.here hx rfl (hb hby d7_33) rfl ?_
    refine XS.imul X0.here hx rfl (hb hby d7_34) rfl ?_
    refine XS.isub X0.here hx rfl (hb hby d7_35) rfl ?_
    refine XS.istore X0.here hx rfl (hb hby d7_36) rfl (l' := #[lvR o0_, lvI (0 : Int32), lvI (1 : Int32), lvI x0_, lvI x1_, lvI x0_, lvI (24 : Int32)]) rfl ?_
    show own_S p e below m s₁ 38 #[lvR o0_, lvI (0 : Int32), lvI (1 : Int32), lvI x0_, lvI x1_, lvI x0_, lvI (24 : Int32)] [] _
    refine XS.aloadN X0.here hx rfl (hb hby d7_38) rfl rfl ?_
    refine XS.iloadN X0.here hx rfl (hb hby d7_39) rfl ?_
    show own_S p e below m s₁ 40 #[lvR o0_, lvI (0 : Int32), lvI (1 : Int32), lvI x0_, lvI x1_, lvI x0_, lvI (24 : Int32)] [(.int (0 : Int32)), (.ref o0_)] _
    refine X0.baloadBytes hx (j := (0 : Int32)) (v := (.int x2_)) (by rw [e0]; exact r1.1) (State.isArrayOf_alike hZ.alike r1.2.1) r1.2.2 hin1 hat1 (g := (mkF m 40 #[lvR o0_, lvI (0 : Int32), lvI (1 : Int32), lvI x0_, lvI x1_, lvI x0_, lvI (24 : Int32)] [(.int (0 : Int32)), (.ref o0_)])) rfl rfl (hb hby d7_40) _ ?_
    refine XS.iload X0.here hx rfl (hb hby d7_41) rfl ?_
    refine XS.iload X0.here hx rfl (hb hby d7_43) rfl ?_
    show own_S p e below m s₁ 45 #[lvR o0_, lvI (0 : Int32), lvI (1 : Int32), lvI x0_, lvI x1_, lvI x0_, lvI (24 : Int32)] [(.int (24 : Int32)), (.int x0_), (.int x2_)] _
    refine XS.iushr X0.here hx rfl (hb hby d7_45) rfl ?_
    show own_S p e below m s₁ 46 #[lvR o0_, lvI (0 : Int32), lvI (1 : Int32), lvI x0_, lvI x1_, lvI x0_, lvI (24 : Int32)] [(.int ((x0_.toUInt32 >>> ((24 : Int32) &&& 31).toUInt32).toInt32)), (.int x2_)] _
    refine XS.i2b X0.here hx rfl (hb hby d7_46) rfl ?_
    exact kt
  by_cases hc3 : x2_ = (((x0_.toUInt32 >>> ((24 : Int32) &&& 31).toUInt32).toInt32).toInt8.toInt32)
  · have pre4 : ∀ t, own_S p e below m s₁ 55 #[lvR o0_, lvI (0 : Int32), lvI (1 : Int32), lvI x0_, lvI x1_, lvI x0_, lvI (24 : Int32)] [(.int (1 : Int32))] t → G t := by
      intro t kt
      refine pre2 t ?_
      show own_S p e below m s₁ 47 #[lvR o0_, lvI (0 : Int32), lvI (1 : Int32), lvI x0_, lvI x1_, lvI x0_, lvI (24 : Int32)] [(.int (((x0_.toUInt32 >>> ((24 : Int32) &&& 31).toUInt32).toInt32).toInt8.toInt32)), (.int x2_)] _
      refine XS.icmpNo X0.here hx rfl (hb hby d7_47) rfl (teq hc3).2 ?_
      refine XS.iconst X0.here hx rfl (hb hby d7_50) ?_
      refine XS.goto X0.here hx rfl (pc0 := 51) (pc' := 55) rfl (hb hby d7_51) (by decide) (by decide) ?_
      exact kt
    obtain ⟨fs, hr, hrun, hended, hW, hsame⟩ := X0.leave (v := some (.int (1 : Int32))) (fun h => by rw [Bd.returns] at h; cases h)
    refine ⟨_, _, hG _ (pre4 _ (retN X0 hx (t := .boolean) Bd.returns (by simp) (hb hby d7_55) hr)), hrun, hended, _, _, rfl, ?_, ⟨_, rfl⟩, hW, hsame.mono (by decide) (by decide)⟩
    show Qkeeps18 Z o0_ x0_ x1_ ko0_ x2_ x3_ x4_ x5_ x6_ x7_ x8_ x9_ h0 n0 _ s₁.heap _
    rw [e0]
    exact ⟨(1 : Int32), rfl, (Or.inl ⟨rfl, hc3⟩), N0, rfl⟩
  · have pre6 : ∀ t, own_S p e below m s₁ 55 #[lvR o0_, lvI (0 : Int32), lvI (1 : Int32), lvI x0_, lvI x1_, lvI x0_, lvI (24 : Int32)] [(.int (0 : Int32))] t → G t := by
      intro t kt
      refine pre2 t ?_
      show own_S p e below m s₁ 47 #[lvR o0_, lvI (0 : Int32), lvI (1 : Int32), lvI x0_, lvI x1_, lvI x0_, lvI (24 : Int32)] [(.int (((x0_.toUInt32 >>> ((24 : Int32) &&& 31).toUInt32).toInt32).toInt8.toInt32)), (.int x2_)] _
      refine XS.icmpYes X0.here hx rfl (pc0 := 47) (pc' := 54) rfl (hb hby d7_47) rfl (feq hc3).2 (by decide) (by decide) ?_
      refine XS.iconst X0.here hx rfl (hb hby d7_54) ?_
      exact kt
    obtain ⟨fs, hr, hrun, hended, hW, hsame⟩ := X0.leave (v := some (.int (0 : Int32))) (fun h => by rw [Bd.returns] at h; cases h)
    refine ⟨_, _, hG _ (pre6 _ (retN X0 hx (t := .boolean) Bd.returns (by simp) (hb hby d7_55) hr)), hrun, hended, _, _, rfl, ?_, ⟨_, rfl⟩, hW, hsame.mono (by decide) (by decide)⟩
    show Qkeeps18 Z o0_ x0_ x1_ ko0_ x2_ x3_ x4_ x5_ x6_ x7_ x8_ x9_ h0 n0 _ s₁.heap _
    rw [e0]
    exact ⟨(0 : Int32), rfl, (Or.inr ⟨rfl, hc3⟩), N0, rfl⟩
theorem efkeeps19 (m : MethodId) (o0_ : Addr) (x0_ : Int32) (x1_ : Int32) : entryFrame m #[(.ref o0_), (.int (1 : Int32)), (.int (1 : Int32)), (.int x0_), (.int x1_)] 7 = mkF m 0 #[lvR o0_, lvI (1 : Int32), lvI (1 : Int32), lvI x0_, lvI x1_, .unset, .unset] [] := by first | (simp [entryFrame, mkF, argsToLocals, Value.category]; done) | rfl
def Qkeeps19 (Z : State) (o0_ : Addr) (x0_ : Int32) (x1_ : Int32) (ko0_ : ClassId) (x2_ : Int32) (x3_ : Int32) (x4_ : Int32) (x5_ : Int32) (x6_ : Int32) (x7_ : Int32) (x8_ : Int32) (x9_ : Int32) (h0 : Heap) (n0 : Nat) (v : Option Value) (h : Heap) (L : List Loc) : Prop := v = some (.int (1 : Int32)) ∧ Fr n0 L ∧ h = h0
set_option maxRecDepth 65536 in
set_option maxHeartbeats 40000000 in
theorem rmkeeps19 (l : Launch) (Z : State) (a0 : Array Value) (hw : ∀ d ∈ tables_1, d.before a0 Z = true) (ws : List Jvm.Cond) (o0_ : Addr) (x0_ : Int32) (x1_ : Int32) (ko0_ : ClassId) (x2_ : Int32) (x3_ : Int32) (x4_ : Int32) (x5_ : Int32) (x6_ : Int32) (x7_ : Int32) (x8_ : Int32) (x9_ : Int32) (h0 : Heap) (n0 : Nat) (O0 : Old Z n0 h0) (P0 : Arv Z h0 o0_ ko0_ .byte (8 : Int32) [(.int x2_), (.int x3_), (.int x4_), (.int x5_), (.int x6_), (.int x7_), (.int x8_), (.int x9_)] (.int (0 : Int32))) (P1 : Exa Z h0 o0_ "[B") :
    MetFree l (⟨"com/example/stackweave/stackweave/classfile/ByteWriterU4AtPinLaw", "keeps", "([BIIII)Z"⟩ : MethodName) (head1 (Jvm.Cond.code (⟨"com/example/stackweave/stackweave/classfile/ByteWriterU4AtPinLaw", "keeps", "([BIIII)Z"⟩ : MethodName) method_3_code 7 (some .boolean) :: ws) ({ frames := 0, cells := 0, slots := 0, locals := 0 } : Room)) (fun a U => a = #[(.ref o0_), (.int (1 : Int32)), (.int (1 : Int32)), (.int x0_), (.int x1_)] ∧ Z.Warmed39 U.vm ∧ U.heap = h0) (fun _ _ _ _ _ => True) (fun _ U o U' => ∃ v L, o = .returned v ∧ Qkeeps19 Z o0_ x0_ x1_ ko0_ x2_ x3_ x4_ x5_ x6_ x7_ x8_ x9_ h0 n0 v U'.heap L ∧ FrameEnd U o U' L ({ frames := 0, cells := 0, slots := 0, locals := 0 } : Room).cells ({ frames := 0, cells := 0, slots := 0, locals := 0 } : Room).slots) := by
  refine MetFree.of_bodySF (plainFor_of_name pn_1) hisR ?_
  intro p e s m args below meth c s₁ Bd hml0 hP hK
  obtain ⟨rfl, hZ, hh⟩ := hP
  have hx := Bd.exec
  have hby := Bd.bytes
  have hml : c.maxLocals = 7 := hml0
  have hown : s.vm.findClass "com/example/stackweave/stackweave/classfile/ByteWriterU4AtPinLaw" = some m.cls := findClass_of_methodNamed Bd.named
  have hnm := (name_of_methodNamed Bd.named Bd.method).1
  have X0 : Stand p l e ({ frames := 0, cells := 0, slots := 0, locals := 0 } : Room) s m #[(.ref o0_), (.int (1 : Int32)), (.int (1 : Int32)), (.int x0_), (.int x1_)] below meth c s₁ [] 0 0 := Stand.of_body Bd
  have e0 : s₁.heap = h0 := by rw [← hh, Bd.state]; rfl
  have N0 := Fr.nil n0
  obtain ⟨G, pre0, hG⟩ : ∃ G : State → Prop, (∀ t, own_S p e below m s₁ 0 #[lvR o0_, lvI (1 : Int32), lvI (1 : Int32), lvI x0_, lvI x1_, .unset, .unset] [] t → G t) ∧ (∀ t, G t → Steps p.tables e below (s₁.setTop (entryFrame m #[(.ref o0_), (.int (1 : Int32)), (.int (1 : Int32)), (.int x0_), (.int x1_)] 7)) t) := ⟨fun t => Steps p.tables e below (s₁.setTop (entryFrame m #[(.ref o0_), (.int (1 : Int32)), (.int (1 : Int32)), (.int x0_), (.int x1_)] 7)) t, fun t k => castTop (efkeeps19 m o0_ x0_ x1_) k, fun _ k => k⟩
  have K0 : Keep h0 h0 [] := Keep.refl _ _
  have pre1 : ∀ t, own_S p e below m s₁ 13 #[lvR o0_, lvI (1 : Int32), lvI (1 : Int32), lvI x0_, lvI x1_, .unset, .unset] [(.int (1 : Int32))] t → G t := by
    intro t kt
    refine pre0 t ?_
    show own_S p e below m s₁ 0 #[lvR o0_, lvI (1 : Int32), lvI (1 : Int32), lvI x0_, lvI x1_, .unset, .unset] [] _
    refine XS.iloadN X0.here hx rfl (hb hby d7_0) rfl ?_
    refine XS.iloadN X0.here hx rfl (hb hby d7_1) rfl ?_
    show own_S p e below m s₁ 2 #[lvR o0_, lvI (1 : Int32), lvI (1 : Int32), lvI x0_, lvI x1_, .unset, .unset] [(.int (1 : Int32)), (.int (1 : Int32))] _
    refine XS.icmpNo X0.here hx rfl (hb hby d7_2) rfl (flt (by decide : ¬ ((1 : Int32) < (1 : Int32)))).1 ?_
    refine XS.iloadN X0.here hx rfl (hb hby d7_5) rfl ?_
    refine XS.iloadN X0.here hx rfl (hb hby d7_6) rfl ?_
    refine XS.iconst X0.here hx rfl (hb hby d7_7) ?_
    show own_S p e below m s₁ 8 #[lvR o0_, lvI (1 : Int32), lvI (1 : Int32), lvI x0_, lvI x1_, .unset, .unset] [(.int (4 : Int32)), (.int (1 : Int32)), (.int (1 : Int32))] _
    refine XS.iadd X0.here hx rfl (hb hby d7_8) rfl ?_
    show own_S p e below m s₁ 9 #[lvR o0_, lvI (1 : Int32), lvI (1 : Int32), lvI x0_, lvI x1_, .unset, .unset] [(.int (5 : Int32)), (.int (1 : Int32))] _
    refine XS.icmpNo X0.here hx rfl (hb hby d7_9) rfl (tlt (by decide : (1 : Int32) < (5 : Int32))).2.1 ?_
    refine XS.iconst X0.here hx rfl (hb hby d7_12) ?_
    exact kt
  obtain ⟨fs, hr, hrun, hended, hW, hsame⟩ := X0.leave (v := some (.int (1 : Int32))) (fun h => by rw [Bd.returns] at h; cases h)
  refine ⟨_, _, hG _ (pre1 _ (retN X0 hx (t := .boolean) Bd.returns (by simp) (hb hby d7_13) hr)), hrun, hended, _, _, rfl, ?_, ⟨_, rfl⟩, hW, hsame.mono (by decide) (by decide)⟩
  show Qkeeps19 Z o0_ x0_ x1_ ko0_ x2_ x3_ x4_ x5_ x6_ x7_ x8_ x9_ h0 n0 _ s₁.heap _
  rw [e0]
  exact ⟨rfl, N0, rfl⟩
theorem efkeeps20 (m : MethodId) (o0_ : Addr) (x0_ : Int32) (x1_ : Int32) : entryFrame m #[(.ref o0_), (.int (2 : Int32)), (.int (1 : Int32)), (.int x0_), (.int x1_)] 7 = mkF m 0 #[lvR o0_, lvI (2 : Int32), lvI (1 : Int32), lvI x0_, lvI x1_, .unset, .unset] [] := by first | (simp [entryFrame, mkF, argsToLocals, Value.category]; done) | rfl
def Qkeeps20 (Z : State) (o0_ : Addr) (x0_ : Int32) (x1_ : Int32) (ko0_ : ClassId) (x2_ : Int32) (x3_ : Int32) (x4_ : Int32) (x5_ : Int32) (x6_ : Int32) (x7_ : Int32) (x8_ : Int32) (x9_ : Int32) (h0 : Heap) (n0 : Nat) (v : Option Value) (h : Heap) (L : List Loc) : Prop := v = some (.int (1 : Int32)) ∧ Fr n0 L ∧ h = h0
set_option maxRecDepth 65536 in
set_option maxHeartbeats 40000000 in
theorem rmkeeps20 (l : Launch) (Z : State) (a0 : Array Value) (hw : ∀ d ∈ tables_1, d.before a0 Z = true) (ws : List Jvm.Cond) (o0_ : Addr) (x0_ : Int32) (x1_ : Int32) (ko0_ : ClassId) (x2_ : Int32) (x3_ : Int32) (x4_ : Int32) (x5_ : Int32) (x6_ : Int32) (x7_ : Int32) (x8_ : Int32) (x9_ : Int32) (h0 : Heap) (n0 : Nat) (O0 : Old Z n0 h0) (P0 : Arv Z h0 o0_ ko0_ .byte (8 : Int32) [(.int x2_), (.int x3_), (.int x4_), (.int x5_), (.int x6_), (.int x7_), (.int x8_), (.int x9_)] (.int (0 : Int32))) (P1 : Exa Z h0 o0_ "[B") :
    MetFree l (⟨"com/example/stackweave/stackweave/classfile/ByteWriterU4AtPinLaw", "keeps", "([BIIII)Z"⟩ : MethodName) (head1 (Jvm.Cond.code (⟨"com/example/stackweave/stackweave/classfile/ByteWriterU4AtPinLaw", "keeps", "([BIIII)Z"⟩ : MethodName) method_3_code 7 (some .boolean) :: ws) ({ frames := 0, cells := 0, slots := 0, locals := 0 } : Room)) (fun a U => a = #[(.ref o0_), (.int (2 : Int32)), (.int (1 : Int32)), (.int x0_), (.int x1_)] ∧ Z.Warmed39 U.vm ∧ U.heap = h0) (fun _ _ _ _ _ => True) (fun _ U o U' => ∃ v L, o = .returned v ∧ Qkeeps20 Z o0_ x0_ x1_ ko0_ x2_ x3_ x4_ x5_ x6_ x7_ x8_ x9_ h0 n0 v U'.heap L ∧ FrameEnd U o U' L ({ frames := 0, cells := 0, slots := 0, locals := 0 } : Room).cells ({ frames := 0, cells := 0, slots := 0, locals := 0 } : Room).slots) := by
  refine MetFree.of_bodySF (plainFor_of_name pn_1) hisR ?_
  intro p e s m args below meth c s₁ Bd hml0 hP hK
  obtain ⟨rfl, hZ, hh⟩ := hP
  have hx := Bd.exec
  have hby := Bd.bytes
  have hml : c.maxLocals = 7 := hml0
  have hown : s.vm.findClass "com/example/stackweave/stackweave/classfile/ByteWriterU4AtPinLaw" = some m.cls := findClass_of_methodNamed Bd.named
  have hnm := (name_of_methodNamed Bd.named Bd.method).1
  have X0 : Stand p l e ({ frames := 0, cells := 0, slots := 0, locals := 0 } : Room) s m #[(.ref o0_), (.int (2 : Int32)), (.int (1 : Int32)), (.int x0_), (.int x1_)] below meth c s₁ [] 0 0 := Stand.of_body Bd
  have e0 : s₁.heap = h0 := by rw [← hh, Bd.state]; rfl
  have N0 := Fr.nil n0
  obtain ⟨G, pre0, hG⟩ : ∃ G : State → Prop, (∀ t, own_S p e below m s₁ 0 #[lvR o0_, lvI (2 : Int32), lvI (1 : Int32), lvI x0_, lvI x1_, .unset, .unset] [] t → G t) ∧ (∀ t, G t → Steps p.tables e below (s₁.setTop (entryFrame m #[(.ref o0_), (.int (2 : Int32)), (.int (1 : Int32)), (.int x0_), (.int x1_)] 7)) t) := ⟨fun t => Steps p.tables e below (s₁.setTop (entryFrame m #[(.ref o0_), (.int (2 : Int32)), (.int (1 : Int32)), (.int x0_), (.int x1_)] 7)) t, fun t k => castTop (efkeeps20 m o0_ x0_ x1_) k, fun _ k => k⟩
  have K0 : Keep h0 h0 [] := Keep.refl _ _
  have pre1 : ∀ t, own_S p e below m s₁ 13 #[lvR o0_, lvI (2 : Int32), lvI (1 : Int32), lvI x0_, lvI x1_, .unset, .unset] [(.int (1 : Int32))] t → G t := by
    intro t kt
    refine pre0 t ?_
    show own_S p e below m s₁ 0 #[lvR o0_, lvI (2 : Int32), lvI (1 : Int32), lvI x0_, lvI x1_, .unset, .unset] [] _
    refine XS.iloadN X0.here hx rfl (hb hby d7_0) rfl ?_
    refine XS.iloadN X0.here hx rfl (hb hby d7_1) rfl ?_
    show own_S p e below m s₁ 2 #[lvR o0_, lvI (2 : Int32), lvI (1 : Int32), lvI x0_, lvI x1_, .unset, .unset] [(.int (1 : Int32)), (.int (2 : Int32))] _
    refine XS.icmpNo X0.here hx rfl (hb hby d7_2) rfl (flt (by decide : ¬ ((2 : Int32) < (1 : Int32)))).1 ?_
    refine XS.iloadN X0.here hx rfl (hb hby d7_5) rfl ?_
    refine XS.iloadN X0.here hx rfl (hb hby d7_6) rfl ?_
    refine XS.iconst X0.here hx rfl (hb hby d7_7) ?_
    show own_S p e below m s₁ 8 #[lvR o0_, lvI (2 : Int32), lvI (1 : Int32), lvI x0_, lvI x1_, .unset, .unset] [(.int (4 : Int32)), (.int (1 : Int32)), (.int (2 : Int32))] _
    refine XS.iadd X0.here hx rfl (hb hby d7_8) rfl ?_
    show own_S p e below m s₁ 9 #[lvR o0_, lvI (2 : Int32), lvI (1 : Int32), lvI x0_, lvI x1_, .unset, .unset] [(.int (5 : Int32)), (.int (2 : Int32))] _
    refine XS.icmpNo X0.here hx rfl (hb hby d7_9) rfl (tlt (by decide : (2 : Int32) < (5 : Int32))).2.1 ?_
    refine XS.iconst X0.here hx rfl (hb hby d7_12) ?_
    exact kt
  obtain ⟨fs, hr, hrun, hended, hW, hsame⟩ := X0.leave (v := some (.int (1 : Int32))) (fun h => by rw [Bd.returns] at h; cases h)
  refine ⟨_, _, hG _ (pre1 _ (retN X0 hx (t := .boolean) Bd.returns (by simp) (hb hby d7_13) hr)), hrun, hended, _, _, rfl, ?_, ⟨_, rfl⟩, hW, hsame.mono (by decide) (by decide)⟩
  show Qkeeps20 Z o0_ x0_ x1_ ko0_ x2_ x3_ x4_ x5_ x6_ x7_ x8_ x9_ h0 n0 _ s₁.heap _
  rw [e0]
  exact ⟨rfl, N0, rfl⟩
theorem efkeeps21 (m : MethodId) (o0_ : Addr) (x0_ : Int32) (x1_ : Int32) : entryFrame m #[(.ref o0_), (.int (3 : Int32)), (.int (1 : Int32)), (.int x0_), (.int x1_)] 7 = mkF m 0 #[lvR o0_, lvI (3 : Int32), lvI (1 : Int32), lvI x0_, lvI x1_, .unset, .unset] [] := by first | (simp [entryFrame, mkF, argsToLocals, Value.category]; done) | rfl
def Qkeeps21 (Z : State) (o0_ : Addr) (x0_ : Int32) (x1_ : Int32) (ko0_ : ClassId) (x2_ : Int32) (x3_ : Int32) (x4_ : Int32) (x5_ : Int32) (x6_ : Int32) (x7_ : Int32) (x8_ : Int32) (x9_ : Int32) (h0 : Heap) (n0 : Nat) (v : Option Value) (h : Heap) (L : List Loc) : Prop := v = some (.int (1 : Int32)) ∧ Fr n0 L ∧ h = h0
set_option maxRecDepth 65536 in
set_option maxHeartbeats 40000000 in
theorem rmkeeps21 (l : Launch) (Z : State) (a0 : Array Value) (hw : ∀ d ∈ tables_1, d.before a0 Z = true) (ws : List Jvm.Cond) (o0_ : Addr) (x0_ : Int32) (x1_ : Int32) (ko0_ : ClassId) (x2_ : Int32) (x3_ : Int32) (x4_ : Int32) (x5_ : Int32) (x6_ : Int32) (x7_ : Int32) (x8_ : Int32) (x9_ : Int32) (h0 : Heap) (n0 : Nat) (O0 : Old Z n0 h0) (P0 : Arv Z h0 o0_ ko0_ .byte (8 : Int32) [(.int x2_), (.int x3_), (.int x4_), (.int x5_), (.int x6_), (.int x7_), (.int x8_), (.int x9_)] (.int (0 : Int32))) (P1 : Exa Z h0 o0_ "[B") :
    MetFree l (⟨"com/example/stackweave/stackweave/classfile/ByteWriterU4AtPinLaw", "keeps", "([BIIII)Z"⟩ : MethodName) (head1 (Jvm.Cond.code (⟨"com/example/stackweave/stackweave/classfile/ByteWriterU4AtPinLaw", "keeps", "([BIIII)Z"⟩ : MethodName) method_3_code 7 (some .boolean) :: ws) ({ frames := 0, cells := 0, slots := 0, locals := 0 } : Room)) (fun a U => a = #[(.ref o0_), (.int (3 : Int32)), (.int (1 : Int32)), (.int x0_), (.int x1_)] ∧ Z.Warmed39 U.vm ∧ U.heap = h0) (fun _ _ _ _ _ => True) (fun _ U o U' => ∃ v L, o = .returned v ∧ Qkeeps21 Z o0_ x0_ x1_ ko0_ x2_ x3_ x4_ x5_ x6_ x7_ x8_ x9_ h0 n0 v U'.heap L ∧ FrameEnd U o U' L ({ frames := 0, cells := 0, slots := 0, locals := 0 } : Room).cells ({ frames := 0, cells := 0, slots := 0, locals := 0 } : Room).slots) := by
  refine MetFree.of_bodySF (plainFor_of_name pn_1) hisR ?_
  intro p e s m args below meth c s₁ Bd hml0 hP hK
  obtain ⟨rfl, hZ, hh⟩ := hP
  have hx := Bd.exec
  have hby := Bd.bytes
  have hml : c.maxLocals = 7 := hml0
  have hown : s.vm.findClass "com/example/stackweave/stackweave/classfile/ByteWriterU4AtPinLaw" = some m.cls := findClass_of_methodNamed Bd.named
  have hnm := (name_of_methodNamed Bd.named Bd.method).1
  have X0 : Stand p l e ({ frames := 0, cells := 0, slots := 0, locals := 0 } : Room) s m #[(.ref o0_), (.int (3 : Int32)), (.int (1 : Int32)), (.int x0_), (.int x1_)] below meth c s₁ [] 0 0 := Stand.of_body Bd
  have e0 : s₁.heap = h0 := by rw [← hh, Bd.state]; rfl
  have N0 := Fr.nil n0
  obtain ⟨G, pre0, hG⟩ : ∃ G : State → Prop, (∀ t, own_S p e below m s₁ 0 #[lvR o0_, lvI (3 : Int32), lvI (1 : Int32), lvI x0_, lvI x1_, .unset, .unset] [] t → G t) ∧ (∀ t, G t → Steps p.tables e below (s₁.setTop (entryFrame m #[(.ref o0_), (.int (3 : Int32)), (.int (1 : Int32)), (.int x0_), (.int x1_)] 7)) t) := ⟨fun t => Steps p.tables e below (s₁.setTop (entryFrame m #[(.ref o0_), (.int (3 : Int32)), (.int (1 : Int32)), (.int x0_), (.int x1_)] 7)) t, fun t k => castTop (efkeeps21 m o0_ x0_ x1_) k, fun _ k => k⟩
  have K0 : Keep h0 h0 [] := Keep.refl _ _
  have pre1 : ∀ t, own_S p e below m s₁ 13 #[lvR o0_, lvI (3 : Int32), lvI (1 : Int32), lvI x0_, lvI x1_, .unset, .unset] [(.int (1 : Int32))] t → G t := by
    intro t kt
    refine pre0 t ?_
    show own_S p e below m s₁ 0 #[lvR o0_, lvI (3 : Int32), lvI (1 : Int32), lvI x0_, lvI x1_, .unset, .unset] [] _
    refine XS.iloadN X0.here hx rfl (hb hby d7_0) rfl ?_
    refine XS.iloadN X0.here hx rfl (hb hby d7_1) rfl ?_
    show own_S p e below m s₁ 2 #[lvR o0_, lvI (3 : Int32), lvI (1 : Int32), lvI x0_, lvI x1_, .unset, .unset] [(.int (1 : Int32)), (.int (3 : Int32))] _
    refine XS.icmpNo X0.here hx rfl (hb hby d7_2) rfl (flt (by decide : ¬ ((3 : Int32) < (1 : Int32)))).1 ?_
    refine XS.iloadN X0.here hx rfl (hb hby d7_5) rfl ?_
    refine XS.iloadN X0.here hx rfl (hb hby d7_6) rfl ?_
    refine XS.iconst X0.here hx rfl (hb hby d7_7) ?_
    show own_S p e below m s₁ 8 #[lvR o0_, lvI (3 : Int32), lvI (1 : Int32), lvI x0_, lvI x1_, .unset, .unset] [(.int (4 : Int32)), (.int (1 : Int32)), (.int (3 : Int32))] _
    refine XS.iadd X0.here hx rfl (hb hby d7_8) rfl ?_
    show own_S p e below m s₁ 9 #[lvR o0_, lvI (3 : Int32), lvI (1 : Int32), lvI x0_, lvI x1_, .unset, .unset] [(.int (5 : Int32)), (.int (3 : Int32))] _
    refine XS.icmpNo X0.here hx rfl (hb hby d7_9) rfl (tlt (by decide : (3 : Int32) < (5 : Int32))).2.1 ?_
    refine XS.iconst X0.here hx rfl (hb hby d7_12) ?_
    exact kt
  obtain ⟨fs, hr, hrun, hended, hW, hsame⟩ := X0.leave (v := some (.int (1 : Int32))) (fun h => by rw [Bd.returns] at h; cases h)
  refine ⟨_, _, hG _ (pre1 _ (retN X0 hx (t := .boolean) Bd.returns (by simp) (hb hby d7_13) hr)), hrun, hended, _, _, rfl, ?_, ⟨_, rfl⟩, hW, hsame.mono (by decide) (by decide)⟩
  show Qkeeps21 Z o0_ x0_ x1_ ko0_ x2_ x3_ x4_ x5_ x6_ x7_ x8_ x9_ h0 n0 _ s₁.heap _
  rw [e0]
  exact ⟨rfl, N0, rfl⟩
theorem efkeeps22 (m : MethodId) (o0_ : Addr) (x0_ : Int32) (x1_ : Int32) : entryFrame m #[(.ref o0_), (.int (4 : Int32)), (.int (1 : Int32)), (.int x0_), (.int x1_)] 7 = mkF m 0 #[lvR o0_, lvI (4 : Int32), lvI (1 : Int32), lvI x0_, lvI x1_, .unset, .unset] [] := by first | (simp [entryFrame, mkF, argsToLocals, Value.category]; done) | rfl
def Qkeeps22 (Z : State) (o0_ : Addr) (x0_ : Int32) (x1_ : Int32) (ko0_ : ClassId) (x2_ : Int32) (x3_ : Int32) (x4_ : Int32) (x5_ : Int32) (x6_ : Int32) (x7_ : Int32) (x8_ : Int32) (x9_ : Int32) (h0 : Heap) (n0 : Nat) (v : Option Value) (h : Heap) (L : List Loc) : Prop := v = some (.int (1 : Int32)) ∧ Fr n0 L ∧ h = h0
set_option maxRecDepth 65536 in
set_option maxHeartbeats 40000000 in
theorem rmkeeps22 (l : Launch) (Z : State) (a0 : Array Value) (hw : ∀ d ∈ tables_1, d.before a0 Z = true) (ws : List Jvm.Cond) (o0_ : Addr) (x0_ : Int32) (x1_ : Int32) (ko0_ : ClassId) (x2_ : Int32) (x3_ : Int32) (x4_ : Int32) (x5_ : Int32) (x6_ : Int32) (x7_ : Int32) (x8_ : Int32) (x9_ : Int32) (h0 : Heap) (n0 : Nat) (O0 : Old Z n0 h0) (P0 : Arv Z h0 o0_ ko0_ .byte (8 : Int32) [(.int x2_), (.int x3_), (.int x4_), (.int x5_), (.int x6_), (.int x7_), (.int x8_), (.int x9_)] (.int (0 : Int32))) (P1 : Exa Z h0 o0_ "[B") :
    MetFree l (⟨"com/example/stackweave/stackweave/classfile/ByteWriterU4AtPinLaw", "keeps", "([BIIII)Z"⟩ : MethodName) (head1 (Jvm.Cond.code (⟨"com/example/stackweave/stackweave/classfile/ByteWriterU4AtPinLaw", "keeps", "([BIIII)Z"⟩ : MethodName) method_3_code 7 (some .boolean) :: ws) ({ frames := 0, cells := 0, slots := 0, locals := 0 } : Room)) (fun a U => a = #[(.ref o0_), (.int (4 : Int32)), (.int (1 : Int32)), (.int x0_), (.int x1_)] ∧ Z.Warmed39 U.vm ∧ U.heap = h0) (fun _ _ _ _ _ => True) (fun _ U o U' => ∃ v L, o = .returned v ∧ Qkeeps22 Z o0_ x0_ x1_ ko0_ x2_ x3_ x4_ x5_ x6_ x7_ x8_ x9_ h0 n0 v U'.heap L ∧ FrameEnd U o U' L ({ frames := 0, cells := 0, slots := 0, locals := 0 } : Room).cells ({ frames := 0, cells := 0, slots := 0, locals := 0 } : Room).slots) := by
  refine MetFree.of_bodySF (plainFor_of_name pn_1) hisR ?_
  intro p e s m args below meth c s₁ Bd hml0 hP hK
  obtain ⟨rfl, hZ, hh⟩ := hP
  have hx := Bd.exec
  have hby := Bd.bytes
  have hml : c.maxLocals = 7 := hml0
  have hown : s.vm.findClass "com/example/stackweave/stackweave/classfile/ByteWriterU4AtPinLaw" = some m.cls := findClass_of_methodNamed Bd.named
  have hnm := (name_of_methodNamed Bd.named Bd.method).1
  have X0 : Stand p l e ({ frames := 0, cells := 0, slots := 0, locals := 0 } : Room) s m #[(.ref o0_), (.int (4 : Int32)), (.int (1 : Int32)), (.int x0_), (.int x1_)] below meth c s₁ [] 0 0 := Stand.of_body Bd
  have e0 : s₁.heap = h0 := by rw [← hh, Bd.state]; rfl
  have N0 := Fr.nil n0
  obtain ⟨G, pre0, hG⟩ : ∃ G : State → Prop, (∀ t, own_S p e below m s₁ 0 #[lvR o0_, lvI (4 : Int32), lvI (1 : Int32), lvI x0_, lvI x1_, .unset, .unset] [] t → G t) ∧ (∀ t, G t → Steps p.tables e below (s₁.setTop (entryFrame m #[(.ref o0_), (.int (4 : Int32)), (.int (1 : Int32)), (.int x0_), (.int x1_)] 7)) t) := ⟨fun t => Steps p.tables e below (s₁.setTop (entryFrame m #[(.ref o0_), (.int (4 : Int32)), (.int (1 : Int32)), (.int x0_), (.int x1_)] 7)) t, fun t k => castTop (efkeeps22 m o0_ x0_ x1_) k, fun _ k => k⟩
  have K0 : Keep h0 h0 [] := Keep.refl _ _
  have pre1 : ∀ t, own_S p e below m s₁ 13 #[lvR o0_, lvI (4 : Int32), lvI (1 : Int32), lvI x0_, lvI x1_, .unset, .unset] [(.int (1 : Int32))] t → G t := by
    intro t kt
    refine pre0 t ?_
    show own_S p e below m s₁ 0 #[lvR o0_, lvI (4 : Int32), lvI (1 : Int32), lvI x0_, lvI x1_, .unset, .unset] [] _
    refine XS.iloadN X0.here hx rfl (hb hby d7_0) rfl ?_
    refine XS.iloadN X0.here hx rfl (hb hby d7_1) rfl ?_
    show own_S p e below m s₁ 2 #[lvR o0_, lvI (4 : Int32), lvI (1 : Int32), lvI x0_, lvI x1_, .unset, .unset] [(.int (1 : Int32)), (.int (4 : Int32))] _
    refine XS.icmpNo X0.here hx rfl (hb hby d7_2) rfl (flt (by decide : ¬ ((4 : Int32) < (1 : Int32)))).1 ?_
    refine XS.iloadN X0.here hx rfl (hb hby d7_5) rfl ?_
    refine XS.iloadN X0.here hx rfl (hb hby d7_6) rfl ?_
    refine XS.iconst X0.here hx rfl (hb hby d7_7) ?_
    show own_S p e below m s₁ 8 #[lvR o0_, lvI (4 : Int32), lvI (1 : Int32), lvI x0_, lvI x1_, .unset, .unset] [(.int (4 : Int32)), (.int (1 : Int32)), (.int (4 : Int32))] _
    refine XS.iadd X0.here hx rfl (hb hby d7_8) rfl ?_
    show own_S p e below m s₁ 9 #[lvR o0_, lvI (4 : Int32), lvI (1 : Int32), lvI x0_, lvI x1_, .unset, .unset] [(.int (5 : Int32)), (.int (4 : Int32))] _
    refine XS.icmpNo X0.here hx rfl (hb hby d7_9) rfl (tlt (by decide : (4 : Int32) < (5 : Int32))).2.1 ?_
    refine XS.iconst X0.here hx rfl (hb hby d7_12) ?_
    exact kt
  obtain ⟨fs, hr, hrun, hended, hW, hsame⟩ := X0.leave (v := some (.int (1 : Int32))) (fun h => by rw [Bd.returns] at h; cases h)
  refine ⟨_, _, hG _ (pre1 _ (retN X0 hx (t := .boolean) Bd.returns (by simp) (hb hby d7_13) hr)), hrun, hended, _, _, rfl, ?_, ⟨_, rfl⟩, hW, hsame.mono (by decide) (by decide)⟩
  show Qkeeps22 Z o0_ x0_ x1_ ko0_ x2_ x3_ x4_ x5_ x6_ x7_ x8_ x9_ h0 n0 _ s₁.heap _
  rw [e0]
  exact ⟨rfl, N0, rfl⟩
theorem efkeeps23 (m : MethodId) (o0_ : Addr) (x0_ : Int32) (x1_ : Int32) : entryFrame m #[(.ref o0_), (.int (5 : Int32)), (.int (1 : Int32)), (.int x0_), (.int x1_)] 7 = mkF m 0 #[lvR o0_, lvI (5 : Int32), lvI (1 : Int32), lvI x0_, lvI x1_, .unset, .unset] [] := by first | (simp [entryFrame, mkF, argsToLocals, Value.category]; done) | rfl
def Qkeeps23 (Z : State) (o0_ : Addr) (x0_ : Int32) (x1_ : Int32) (ko0_ : ClassId) (x2_ : Int32) (x3_ : Int32) (x4_ : Int32) (x5_ : Int32) (x6_ : Int32) (x7_ : Int32) (x8_ : Int32) (x9_ : Int32) (h0 : Heap) (n0 : Nat) (v : Option Value) (h : Heap) (L : List Loc) : Prop := ∃ r_ : Int32, v = some (.int r_) ∧ (((1 : Int32) = r_ ∧ (x7_ = (((x1_.toUInt32 >>> ((16 : Int32) &&& 31).toUInt32).toInt32).toInt8.toInt32))) ∨ ((0 : Int32) = r_ ∧ (¬ (x7_ = (((x1_.toUInt32 >>> ((16 : Int32) &&& 31).toUInt32).toInt32).toInt8.toInt32))))) ∧ Fr n0 L ∧ h = h0
set_option maxRecDepth 65536 in
set_option maxHeartbeats 40000000 in
theorem rmkeeps23 (l : Launch) (Z : State) (a0 : Array Value) (hw : ∀ d ∈ tables_1, d.before a0 Z = true) (ws : List Jvm.Cond) (o0_ : Addr) (x0_ : Int32) (x1_ : Int32) (ko0_ : ClassId) (x2_ : Int32) (x3_ : Int32) (x4_ : Int32) (x5_ : Int32) (x6_ : Int32) (x7_ : Int32) (x8_ : Int32) (x9_ : Int32) (h0 : Heap) (n0 : Nat) (O0 : Old Z n0 h0) (P0 : Arv Z h0 o0_ ko0_ .byte (8 : Int32) [(.int x2_), (.int x3_), (.int x4_), (.int x5_), (.int x6_), (.int x7_), (.int x8_), (.int x9_)] (.int (0 : Int32))) (P1 : Exa Z h0 o0_ "[B") :
    MetFree l (⟨"com/example/stackweave/stackweave/classfile/ByteWriterU4AtPinLaw", "keeps", "([BIIII)Z"⟩ : MethodName) (head1 (Jvm.Cond.code (⟨"com/example/stackweave/stackweave/classfile/ByteWriterU4AtPinLaw", "keeps", "([BIIII)Z"⟩ : MethodName) method_3_code 7 (some .boolean) :: ws) ({ frames := 0, cells := 0, slots := 0, locals := 0 } : Room)) (fun a U => a = #[(.ref o0_), (.int (5 : Int32)), (.int (1 : Int32)), (.int x0_), (.int x1_)] ∧ Z.Warmed39 U.vm ∧ U.heap = h0) (fun _ _ _ _ _ => True) (fun _ U o U' => ∃ v L, o = .returned v ∧ Qkeeps23 Z o0_ x0_ x1_ ko0_ x2_ x3_ x4_ x5_ x6_ x7_ x8_ x9_ h0 n0 v U'.heap L ∧ FrameEnd U o U' L ({ frames := 0, cells := 0, slots := 0, locals := 0 } : Room).cells ({ frames := 0, cells := 0, slots := 0, locals := 0 } : Room).slots) := by
  refine MetFree.of_bodySF (plainFor_of_name pn_1) hisR ?_
  intro p e s m args below meth c s₁ Bd hml0 hP hK
  obtain ⟨rfl, hZ, hh⟩ := hP
  have hx := Bd.exec
  have hby := Bd.bytes
  have hml : c.maxLocals = 7 := hml0
  have hown : s.vm.findClass "com/example/stackweave/stackweave/classfile/ByteWriterU4AtPinLaw" = some m.cls := findClass_of_methodNamed Bd.named
  have hnm := (name_of_methodNamed Bd.named Bd.method).1
  have X0 : Stand p l e ({ frames := 0, cells := 0, slots := 0, locals := 0 } : Room) s m #[(.ref o0_), (.int (5 : Int32)), (.int (1 : Int32)), (.int x0_), (.int x1_)] below meth c s₁ [] 0 0 := Stand.of_body Bd
  have e0 : s₁.heap = h0 := by rw [← hh, Bd.state]; rfl
  have N0 := Fr.nil n0
  obtain ⟨G, pre0, hG⟩ : ∃ G : State → Prop, (∀ t, own_S p e below m s₁ 0 #[lvR o0_, lvI (5 : Int32), lvI (1 : Int32), lvI x0_, lvI x1_, .unset, .unset] [] t → G t) ∧ (∀ t, G t → Steps p.tables e below (s₁.setTop (entryFrame m #[(.ref o0_), (.int (5 : Int32)), (.int (1 : Int32)), (.int x0_), (.int x1_)] 7)) t) := ⟨fun t => Steps p.tables e below (s₁.setTop (entryFrame m #[(.ref o0_), (.int (5 : Int32)), (.int (1 : Int32)), (.int x0_), (.int x1_)] 7)) t, fun t k => castTop (efkeeps23 m o0_ x0_ x1_) k, fun _ k => k⟩
  have K0 : Keep h0 h0 [] := Keep.refl _ _
  obtain ⟨c1, r1, q1, s1, z1, y1, G1⟩ := id P0
  have hin1 : ¬ ((5 : Int32) < 0 ∨ c1.slots.size ≤ ((5 : Int32)).toNatClampNeg) := inb_of s1 ⟨by decide, by decide⟩
  have hat1 : c1.slots[((5 : Int32)).toNatClampNeg]? = some (.int x7_) := Has.at y1 hin1 rfl
  have pre2 : ∀ t, own_S p e below m s₁ 47 #[lvR o0_, lvI (5 : Int32), lvI (1 : Int32), lvI x0_, lvI x1_, lvI x1_, lvI (16 : Int32)] [(.int (((x1_.toUInt32 >>> ((16 : Int32) &&& 31).toUInt32).toInt32).toInt8.toInt32)), (.int x7_)] t → G t := by
    intro t kt
    refine pre0 t ?_
    show own_S p e below m s₁ 0 #[lvR o0_, lvI (5 : Int32), lvI (1 : Int32), lvI x0_, lvI x1_, .unset, .unset] [] _
    refine XS.iloadN X0.here hx rfl (hb hby d7_0) rfl ?_
    refine XS.iloadN X0.here hx rfl (hb hby d7_1) rfl ?_
    show own_S p e below m s₁ 2 #[lvR o0_, lvI (5 : Int32), lvI (1 : Int32), lvI x0_, lvI x1_, .unset, .unset] [(.int (1 : Int32)), (.int (5 : Int32))] _
    refine XS.icmpNo X0.here hx rfl (hb hby d7_2) rfl (flt (by decide : ¬ ((5 : Int32) < (1 : Int32)))).1 ?_
    refine XS.iloadN X0.here hx rfl (hb hby d7_5) rfl ?_
    refine XS.iloadN X0.here hx rfl (hb hby d7_6) rfl ?_
    refine XS.iconst X0.here hx rfl (hb hby d7_7) ?_
    show own_S p e below m s₁ 8 #[lvR o0_, lvI (5 : Int32), lvI (1 : Int32), lvI x0_, lvI x1_, .unset, .unset] [(.int (4 : Int32)), (.int (1 : Int32)), (.int (5 : Int32))] _
    refine XS.iadd X0.here hx rfl (hb hby d7_8) rfl ?_
    show own_S p e below m s₁ 9 #[lvR o0_, lvI (5 : Int32), lvI (1 : Int32), lvI x0_, lvI x1_, .unset, .unset] [(.int (5 : Int32)), (.int (5 : Int32))] _
    refine XS.icmpYes X0.here hx rfl (pc0 := 9) (pc' := 14) rfl (hb hby d7_9) rfl (flt (by decide : ¬ ((5 : Int32) < (5 : Int32)))).2.1 (by decide) (by decide) ?_
    refine XS.iloadN X0.here hx rfl (hb hby d7_14) rfl ?_
    refine XS.iconst X0.here hx rfl (hb hby d7_15) ?_
    show own_S p e below m s₁ 16 #[lvR o0_, lvI (5 : Int32), lvI (1 : Int32), lvI x0_, lvI x1_, .unset, .unset] [(.int (4 : Int32)), (.int (5 : Int32))] _
    refine XS.icmpYes X0.here hx rfl (pc0 := 16) (pc' := 23) rfl (hb hby d7_16) rfl (flt (by decide : ¬ ((5 : Int32) < (4 : Int32)))).2.1 (by decide) (by decide) ?_
    refine XS.iload X0.here hx rfl (hb hby d7_23) rfl ?_
    refine XS.istore X0.here hx rfl (hb hby d7_25) rfl (l' := #[lvR o0_, lvI (5 : Int32), lvI (1 : Int32), lvI x0_, lvI x1_, lvI x1_, .unset]) rfl ?_
    refine XS.bipush X0.here hx rfl (hb hby d7_27) ?_
    show own_S p e below m s₁ 29 #[lvR o0_, lvI (5 : Int32), lvI (1 : Int32), lvI x0_, lvI x1_, lvI x1_, .unset] [(.int (24 : Int32))] _
    refine XS.bipush X0.here hx rfl (hb hby d7_29) ?_
    refine XS.iloadN X0.here hx rfl (hb hby d7_31) rfl ?_
    refine XS.iconst X0.here hx rfl (hb hby d7_32) ?_
    refine XS.iand X0.here hx rfl (hb hby d7_33) rfl ?_
    show own_S p e below m s₁ 34 #[lvR o0_, lvI (5 : Int32), lvI (1 : Int32), lvI x0_, lvI x1_, lvI x1_, .unset] [(.int (1 : Int32)), (.int (8 : Int32)), (.int (24 : Int32))] _
    refine XS.imul X0.here hx rfl (hb hby d7_34) rfl ?_
    refine XS.isub X0.here hx rfl (hb hby d7_35) rfl ?_
    refine XS.istore X0.here hx rfl (hb hby d7_36) rfl (l' := #[lvR o0_, lvI (5 : Int32), lvI (1 : Int32), lvI x0_, lvI x1_, lvI x1_, lvI (16 : Int32)]) rfl ?_
    refine XS.aloadN X0.here hx rfl (hb hby d7_38) rfl rfl ?_
    show own_S p e below m s₁ 39 #[lvR o0_, lvI (5 : Int32), lvI (1 : Int32), lvI x0_, lvI x1_, lvI x1_, lvI (16 : Int32)] [(.ref o0_)] _
    refine XS.iloadN X0.here hx rfl (hb hby d7_39) rfl ?_
    show own_S p e below m s₁ 40 #[lvR o0_, lvI (5 : Int32), lvI (1 : Int32), lvI x0_, lvI x1_, lvI x1_, lvI (16 : Int32)] [(.int (5 : Int32)), (.ref o0_)] _
    refine X0.baloadBytes hx (j := (5 : Int32)) (v := (.int x7_)) (by rw [e0]; exact r1.1) (State.isArrayOf_alike hZ.alike r1.2.1) r1.2.2 hin1 hat1 (g := (mkF m 40 #[lvR o0_, lvI (5 : Int32), lvI (1 : Int32), lvI x0_, lvI x1_, lvI x1_, lvI (16 : Int32)] [(.int (5 : Int32)), (.ref o0_)])) rfl rfl (hb hby d7_40) _ ?_
    refine XS.iload X0.here hx rfl (hb hby d7_41) rfl ?_
    refine XS.iload X0.here hx rfl (hb hby d7_43) rfl ?_
    show own_S p e below m s₁ 45 #[lvR o0_, lvI (5 : Int32), lvI (1 : Int32), lvI x0_, lvI x1_, lvI x1_, lvI (16 : Int32)] [(.int (16 : Int32)), (.int x1_), (.int x7_)] _
    refine XS.iushr X0.here hx rfl (hb hby d7_45) rfl ?_
    show own_S p e below m s₁ 46 #[lvR o0_, lvI (5 : Int32), lvI (1 : Int32), lvI x0_, lvI x1_, lvI x1_, lvI (16 : Int32)] [(.int ((x1_.toUInt32 >>> ((16 : Int32) &&& 31).toUInt32).toInt32)), (.int x7_)] _
    refine XS.i2b X0.here hx rfl (hb hby d7_46) rfl ?_
    exact kt
  by_cases hc3 : x7_ = (((x1_.toUInt32 >>> ((16 : Int32) &&& 31).toUInt32).toInt32).toInt8.toInt32)
  · have pre4 : ∀ t, own_S p e below m s₁ 55 #[lvR o0_, lvI (5 : Int32), lvI (1 : Int32), lvI x0_, lvI x1_, lvI x1_, lvI (16 : Int32)] [(.int (1 : Int32))] t → G t := by
      intro t kt
      refine pre2 t ?_
      show own_S p e below m s₁ 47 #[lvR o0_, lvI (5 : Int32), lvI (1 : Int32), lvI x0_, lvI x1_, lvI x1_, lvI (16 : Int32)] [(.int (((x1_.toUInt32 >>> ((16 : Int32) &&& 31).toUInt32).toInt32).toInt8.toInt32)), (.int x7_)] _
      refine XS.icmpNo X0.here hx rfl (hb hby d7_47) rfl (teq hc3).2 ?_
      refine XS.iconst X0.here hx rfl (hb hby d7_50) ?_
      refine XS.goto X0.here hx rfl (pc0 := 51) (pc' := 55) rfl (hb hby d7_51) (by decide) (by decide) ?_
      exact kt
    obtain ⟨fs, hr, hrun, hended, hW, hsame⟩ := X0.leave (v := some (.int (1 : Int32))) (fun h => by rw [Bd.returns] at h; cases h)
    refine ⟨_, _, hG _ (pre4 _ (retN X0 hx (t := .boolean) Bd.returns (by simp) (hb hby d7_55) hr)), hrun, hended, _, _, rfl, ?_, ⟨_, rfl⟩, hW, hsame.mono (by decide) (by decide)⟩
    show Qkeeps23 Z o0_ x0_ x1_ ko0_ x2_ x3_ x4_ x5_ x6_ x7_ x8_ x9_ h0 n0 _ s₁.heap _
    rw [e0]
    exact ⟨(1 : Int32), rfl, (Or.inl ⟨rfl, hc3⟩), N0, rfl⟩
  · have pre6 : ∀ t, own_S p e below m s₁ 55 #[lvR o0_, lvI (5 : Int32), lvI (1 : Int32), lvI x0_, lvI x1_, lvI x1_, lvI (16 : Int32)] [(.int (0 : Int32))] t → G t := by
      intro t kt
      refine pre2 t ?_
      show own_S p e below m s₁ 47 #[lvR o0_, lvI (5 : Int32), lvI (1 : Int32), lvI x0_, lvI x1_, lvI x1_, lvI (16 : Int32)] [(.int (((x1_.toUInt32 >>> ((16 : Int32) &&& 31).toUInt32).toInt32).toInt8.toInt32)), (.int x7_)] _
      refine XS.icmpYes X0.here hx rfl (pc0 := 47) (pc' := 54) rfl (hb hby d7_47) rfl (feq hc3).2 (by decide) (by decide) ?_
      refine XS.iconst X0.here hx rfl (hb hby d7_54) ?_
      exact kt
    obtain ⟨fs, hr, hrun, hended, hW, hsame⟩ := X0.leave (v := some (.int (0 : Int32))) (fun h => by rw [Bd.returns] at h; cases h)
    refine ⟨_, _, hG _ (pre6 _ (retN X0 hx (t := .boolean) Bd.returns (by simp) (hb hby d7_55) hr)), hrun, hended, _, _, rfl, ?_, ⟨_, rfl⟩, hW, hsame.mono (by decide) (by decide)⟩
    show Qkeeps23 Z o0_ x0_ x1_ ko0_ x2_ x3_ x4_ x5_ x6_ x7_ x8_ x9_ h0 n0 _ s₁.heap _
    rw [e0]
    exact ⟨(0 : Int32), rfl, (Or.inr ⟨rfl, hc3⟩), N0, rfl⟩
theorem efkeeps24 (m : MethodId) (o0_ : Addr) (x0_ : Int32) (x1_ : Int32) : entryFrame m #[(.ref o0_), (.int (6 : Int32)), (.int (1 : Int32)), (.int x0_), (.int x1_)] 7 = mkF m 0 #[lvR o0_, lvI (6 : Int32), lvI (1 : Int32), lvI x0_, lvI x1_, .unset, .unset] [] := by first | (simp [entryFrame, mkF, argsToLocals, Value.category]; done) | rfl
def Qkeeps24 (Z : State) (o0_ : Addr) (x0_ : Int32) (x1_ : Int32) (ko0_ : ClassId) (x2_ : Int32) (x3_ : Int32) (x4_ : Int32) (x5_ : Int32) (x6_ : Int32) (x7_ : Int32) (x8_ : Int32) (x9_ : Int32) (h0 : Heap) (n0 : Nat) (v : Option Value) (h : Heap) (L : List Loc) : Prop := ∃ r_ : Int32, v = some (.int r_) ∧ (((1 : Int32) = r_ ∧ (x8_ = (((x1_.toUInt32 >>> ((8 : Int32) &&& 31).toUInt32).toInt32).toInt8.toInt32))) ∨ ((0 : Int32) = r_ ∧ (¬ (x8_ = (((x1_.toUInt32 >>> ((8 : Int32) &&& 31).toUInt32).toInt32).toInt8.toInt32))))) ∧ Fr n0 L ∧ h = h0
set_option maxRecDepth 65536 in
set_option maxHeartbeats 40000000 in
theorem rmkeeps24 (l : Launch) (Z : State) (a0 : Array Value) (hw : ∀ d ∈ tables_1, d.before a0 Z = true) (ws : List Jvm.Cond) (o0_ : Addr) (x0_ : Int32) (x1_ : Int32) (ko0_ : ClassId) (x2_ : Int32) (x3_ : Int32) (x4_ : Int32) (x5_ : Int32) (x6_ : Int32) (x7_ : Int32) (x8_ : Int32) (x9_ : Int32) (h0 : Heap) (n0 : Nat) (O0 : Old Z n0 h0) (P0 : Arv Z h0 o0_ ko0_ .byte (8 : Int32) [(.int x2_), (.int x3_), (.int x4_), (.int x5_), (.int x6_), (.int x7_), (.int x8_), (.int x9_)] (.int (0 : Int32))) (P1 : Exa Z h0 o0_ "[B") :
    MetFree l (⟨"com/example/stackweave/stackweave/classfile/ByteWriterU4AtPinLaw", "keeps", "([BIIII)Z"⟩ : MethodName) (head1 (Jvm.Cond.code (⟨"com/example/stackweave/stackweave/classfile/ByteWriterU4AtPinLaw", "keeps", "([BIIII)Z"⟩ : MethodName) method_3_code 7 (some .boolean) :: ws) ({ frames := 0, cells := 0, slots := 0, locals := 0 } : Room)) (fun a U => a = #[(.ref o0_), (.int (6 : Int32)), (.int (1 : Int32)), (.int x0_), (.int x1_)] ∧ Z.Warmed39 U.vm ∧ U.heap = h0) (fun _ _ _ _ _ => True) (fun _ U o U' => ∃ v L, o = .returned v ∧ Qkeeps24 Z o0_ x0_ x1_ ko0_ x2_ x3_ x4_ x5_ x6_ x7_ x8_ x9_ h0 n0 v U'.heap L ∧ FrameEnd U o U' L ({ frames := 0, cells := 0, slots := 0, locals := 0 } : Room).cells ({ frames := 0, cells := 0, slots := 0, locals := 0 } : Room).slots) := by
  refine MetFree.of_bodySF (plainFor_of_name pn_1) hisR ?_
  intro p e s m args below meth c s₁ Bd hml0 hP hK
  obtain ⟨rfl, hZ, hh⟩ := hP
  have hx := Bd.exec
  have hby := Bd.bytes
  have hml : c.maxLocals = 7 := hml0
  have hown : s.vm.findClass "com/example/stackweave/stackweave/classfile/ByteWriterU4AtPinLaw" = some m.cls := findClass_of_methodNamed Bd.named
  have hnm := (name_of_methodNamed Bd.named Bd.method).1
  have X0 : Stand p l e ({ frames := 0, cells := 0, slots := 0, locals := 0 } : Room) s m #[(.ref o0_), (.int (6 : Int32)), (.int (1 : Int32)), (.int x0_), (.int x1_)] below meth c s₁ [] 0 0 := Stand.of_body Bd
  have e0 : s₁.heap = h0 := by rw [← hh, Bd.state]; rfl
  have N0 := Fr.nil n0
  obtain ⟨G, pre0, hG⟩ : ∃ G : State → Prop, (∀ t, own_S p e below m s₁ 0 #[lvR o0_, lvI (6 : Int32), lvI (1 : Int32), lvI x0_, lvI x1_, .unset, .unset] [] t → G t) ∧ (∀ t, G t → Steps p.tables e below (s₁.setTop (entryFrame m #[(.ref o0_), (.int (6 : Int32)), (.int (1 : Int32)), (.int x0_), (.int x1_)] 7)) t) := ⟨fun t => Steps p.tables e below (s₁.setTop (entryFrame m #[(.ref o0_), (.int (6 : Int32)), (.int (1 : Int32)), (.int x0_), (.int x1_)] 7)) t, fun t k => castTop (efkeeps24 m o0_ x0_ x1_) k, fun _ k => k⟩
  have K0 : Keep h0 h0 [] := Keep.refl _ _
  obtain ⟨c1, r1, q1, s1, z1, y1, G1⟩ := id P0
  have hin1 : ¬ ((6 : Int32) < 0 ∨ c1.slots.size ≤ ((6 : Int32)).toNatClampNeg) := inb_of s1 ⟨by decide, by decide⟩
  have hat1 : c1.slots[((6 : Int32)).toNatClampNeg]? = some (.int x8_) := Has.at y1 hin1 rfl
  have pre2 : ∀ t, own_S p e below m s₁ 47 #[lvR o0_, lvI (6 : Int32), lvI (1 : Int32), lvI x0_, lvI x1_, lvI x1_, lvI (8 : Int32)] [(.int (((x1_.toUInt32 >>> ((8 : Int32) &&& 31).toUInt32).toInt32).toInt8.toInt32)), (.int x8_)] t → G t := by
    intro t kt
    refine pre0 t ?_
    show own_S p e below m s₁ 0 #[lvR o0_, lvI (6 : Int32), lvI (1 : Int32), lvI x0_, lvI x1_, .unset, .unset] [] _
    refine XS.iloadN X0.here hx rfl (hb hby d7_0) rfl ?_
    refine XS.iloadN X0.here hx rfl (hb hby d7_1) rfl ?_
    show own_S p e below m s₁ 2 #[lvR o0_, lvI (6 : Int32), lvI (1 : Int32), lvI x0_, lvI x1_, .unset, .unset] [(.int (1 : Int32)), (.int (6 : Int32))] _
    refine XS.icmpNo X0.here hx rfl (hb hby d7_2) rfl (flt (by decide : ¬ ((6 : Int32) < (1 : Int32)))).1 ?_
    refine XS.iloadN X0.here hx rfl (hb hby d7_5) rfl ?_
    refine XS.iloadN X0.here hx rfl (hb hby d7_6) rfl ?_
    refine XS.iconst X0.here hx rfl (hb hby d7_7) ?_
    show own_S p e below m s₁ 8 #[lvR o0_, lvI (6 : Int32), lvI (1 : Int32), lvI x0_, lvI x1_, .unset, .unset] [(.int (4 : Int32)), (.int (1 : Int32)), (.int (6 : Int32))] _
    refine XS.iadd X0.here hx rfl (hb hby d7_8) rfl ?_
    show own_S p e below m s₁ 9 #[lvR o0_, lvI (6 : Int32), lvI (1 : Int32), lvI x0_, lvI x1_, .unset, .unset] [(.int (5 : Int32)), (.int (6 : Int32))] _
    refine XS.icmpYes X0.here hx rfl (pc0 := 9) (pc' := 14) rfl (hb hby d7_9) rfl (flt (by decide : ¬ ((6 : Int32) < (5 : Int32)))).2.1 (by decide) (by decide) ?_
    refine XS.iloadN X0.here hx rfl (hb hby d7_14) rfl ?_
    refine XS.iconst X0.here hx rfl (hb hby d7_15) ?_
    show own_S p e below m s₁ 16 #[lvR o0_, lvI (6 : Int32), lvI (1 : Int32), lvI x0_, lvI x1_, .unset, .unset] [(.int (4 : Int32)), (.int (6 : Int32))] _
    refine XS.icmpYes X0.here hx rfl (pc0 := 16) (pc' := 23) rfl (hb hby d7_16) rfl (flt (by decide : ¬ ((6 : Int32) < (4 : Int32)))).2.1 (by decide) (by decide) ?_
    refine XS.iload X0.here hx rfl (hb hby d7_23) rfl ?_
    refine XS.istore X0.here hx rfl (hb hby d7_25) rfl (l' := #[lvR o0_, lvI (6 : Int32), lvI (1 : Int32), lvI x0_, lvI x1_, lvI x1_, .unset]) rfl ?_
    refine XS.bipush X0.here hx rfl (hb hby d7_27) ?_
    show own_S p e below m s₁ 29 #[lvR o0_, lvI (6 : Int32), lvI (1 : Int32), lvI x0_, lvI x1_, lvI x1_, .unset] [(.int (24 : Int32))] _
    refine XS.bipush X0.here hx rfl (hb hby d7_29) ?_
    refine XS.iloadN X0.here hx rfl (hb hby d7_31) rfl ?_
    refine XS.iconst X0.here hx rfl (hb hby d7_32) ?_
    refine XS.iand X0.here hx rfl (hb hby d7_33) rfl ?_
    show own_S p e below m s₁ 34 #[lvR o0_, lvI (6 : Int32), lvI (1 : Int32), lvI x0_, lvI x1_, lvI x1_, .unset] [(.int (2 : Int32)), (.int (8 : Int32)), (.int (24 : Int32))] _
    refine XS.imul X0.here hx rfl (hb hby d7_34) rfl ?_
    refine XS.isub X0.here hx rfl (hb hby d7_35) rfl ?_
    refine XS.istore X0.here hx rfl (hb hby d7_36) rfl (l' := #[lvR o0_, lvI (6 : Int32), lvI (1 : Int32), lvI x0_, lvI x1_, lvI x1_, lvI (8 : Int32)]) rfl ?_
    refine XS.aloadN X0.here hx rfl (hb hby d7_38) rfl rfl ?_
    show own_S p e below m s₁ 39 #[lvR o0_, lvI (6 : Int32), lvI (1 : Int32), lvI x0_, lvI x1_, lvI x1_, lvI (8 : Int32)] [(.ref o0_)] _
    refine XS.iloadN X0.here hx rfl (hb hby d7_39) rfl ?_
    show own_S p e below m s₁ 40 #[lvR o0_, lvI (6 : Int32), lvI (1 : Int32), lvI x0_, lvI x1_, lvI x1_, lvI (8 : Int32)] [(.int (6 : Int32)), (.ref o0_)] _
    refine X0.baloadBytes hx (j := (6 : Int32)) (v := (.int x8_)) (by rw [e0]; exact r1.1) (State.isArrayOf_alike hZ.alike r1.2.1) r1.2.2 hin1 hat1 (g := (mkF m 40 #[lvR o0_, lvI (6 : Int32), lvI (1 : Int32), lvI x0_, lvI x1_, lvI x1_, lvI (8 : Int32)] [(.int (6 : Int32)), (.ref o0_)])) rfl rfl (hb hby d7_40) _ ?_
    refine XS.iload X0.here hx rfl (hb hby d7_41) rfl ?_
    refine XS.iload X0.here hx rfl (hb hby d7_43) rfl ?_
    show own_S p e below m s₁ 45 #[lvR o0_, lvI (6 : Int32), lvI (1 : Int32), lvI x0_, lvI x1_, lvI x1_, lvI (8 : Int32)] [(.int (8 : Int32)), (.int x1_), (.int x8_)] _
    refine XS.iushr X0.here hx rfl (hb hby d7_45) rfl ?_
    show own_S p e below m s₁ 46 #[lvR o0_, lvI (6 : Int32), lvI (1 : Int32), lvI x0_, lvI x1_, lvI x1_, lvI (8 : Int32)] [(.int ((x1_.toUInt32 >>> ((8 : Int32) &&& 31).toUInt32).toInt32)), (.int x8_)] _
    refine XS.i2b X0.here hx rfl (hb hby d7_46) rfl ?_
    exact kt
  by_cases hc3 : x8_ = (((x1_.toUInt32 >>> ((8 : Int32) &&& 31).toUInt32).toInt32).toInt8.toInt32)
  · have pre4 : ∀ t, own_S p e below m s₁ 55 #[lvR o0_, lvI (6 : Int32), lvI (1 : Int32), lvI x0_, lvI x1_, lvI x1_, lvI (8 : Int32)] [(.int (1 : Int32))] t → G t := by
      intro t kt
      refine pre2 t ?_
      show own_S p e below m s₁ 47 #[lvR o0_, lvI (6 : Int32), lvI (1 : Int32), lvI x0_, lvI x1_, lvI x1_, lvI (8 : Int32)] [(.int (((x1_.toUInt32 >>> ((8 : Int32) &&& 31).toUInt32).toInt32).toInt8.toInt32)), (.int x8_)] _
      refine XS.icmpNo X0.here hx rfl (hb hby d7_47) rfl (teq hc3).2 ?_
      refine XS.iconst X0.here hx rfl (hb hby d7_50) ?_
      refine XS.goto X0.here hx rfl (pc0 := 51) (pc' := 55) rfl (hb hby d7_51) (by decide) (by decide) ?_
      exact kt
    obtain ⟨fs, hr, hrun, hended, hW, hsame⟩ := X0.leave (v := some (.int (1 : Int32))) (fun h => by rw [Bd.returns] at h; cases h)
    refine ⟨_, _, hG _ (pre4 _ (retN X0 hx (t := .boolean) Bd.returns (by simp) (hb hby d7_55) hr)), hrun, hended, _, _, rfl, ?_, ⟨_, rfl⟩, hW, hsame.mono (by decide) (by decide)⟩
    show Qkeeps24 Z o0_ x0_ x1_ ko0_ x2_ x3_ x4_ x5_ x6_ x7_ x8_ x9_ h0 n0 _ s₁.heap _
    rw [e0]
    exact ⟨(1 : Int32), rfl, (Or.inl ⟨rfl, hc3⟩), N0, rfl⟩
  · have pre6 : ∀ t, own_S p e below m s₁ 55 #[lvR o0_, lvI (6 : Int32), lvI (1 : Int32), lvI x0_, lvI x1_, lvI x1_, lvI (8 : Int32)] [(.int (0 : Int32))] t → G t := by
      intro t kt
      refine pre2 t ?_
      show own_S p e below m s₁ 47 #[lvR o0_, lvI (6 : Int32), lvI (1 : Int32), lvI x0_, lvI x1_, lvI x1_, lvI (8 : Int32)] [(.int (((x1_.toUInt32 >>> ((8 : Int32) &&& 31).toUInt32).toInt32).toInt8.toInt32)), (.int x8_)] _
      refine XS.icmpYes X0.here hx rfl (pc0 := 47) (pc' := 54) rfl (hb hby d7_47) rfl (feq hc3).2 (by decide) (by decide) ?_
      refine XS.iconst X0.here hx rfl (hb hby d7_54) ?_
      exact kt
    obtain ⟨fs, hr, hrun, hended, hW, hsame⟩ := X0.leave (v := some (.int (0 : Int32))) (fun h => by rw [Bd.returns] at h; cases h)
    refine ⟨_, _, hG _ (pre6 _ (retN X0 hx (t := .boolean) Bd.returns (by simp) (hb hby d7_55) hr)), hrun, hended, _, _, rfl, ?_, ⟨_, rfl⟩, hW, hsame.mono (by decide) (by decide)⟩
    show Qkeeps24 Z o0_ x0_ x1_ ko0_ x2_ x3_ x4_ x5_ x6_ x7_ x8_ x9_ h0 n0 _ s₁.heap _
    rw [e0]
    exact ⟨(0 : Int32), rfl, (Or.inr ⟨rfl, hc3⟩), N0, rfl⟩
theorem efkeeps25 (m : MethodId) (o0_ : Addr) (x0_ : Int32) (x1_ : Int32) : entryFrame m #[(.ref o0_), (.int (7 : Int32)), (.int (1 : Int32)), (.int x0_), (.int x1_)] 7 = mkF m 0 #[lvR o0_, lvI (7 : Int32), lvI (1 : Int32), lvI x0_, lvI x1_, .unset, .unset] [] := by first | (simp [entryFrame, mkF, argsToLocals, Value.category]; done) | rfl
def Qkeeps25 (Z : State) (o0_ : Addr) (x0_ : Int32) (x1_ : Int32) (ko0_ : ClassId) (x2_ : Int32) (x3_ : Int32) (x4_ : Int32) (x5_ : Int32) (x6_ : Int32) (x7_ : Int32) (x8_ : Int32) (x9_ : Int32) (h0 : Heap) (n0 : Nat) (v : Option Value) (h : Heap) (L : List Loc) : Prop := ∃ r_ : Int32, v = some (.int r_) ∧ (((1 : Int32) = r_ ∧ (x9_ = (((x1_.toUInt32 >>> ((0 : Int32) &&& 31).toUInt32).toInt32).toInt8.toInt32))) ∨ ((0 : Int32) = r_ ∧ (¬ (x9_ = (((x1_.toUInt32 >>> ((0 : Int32) &&& 31).toUInt32).toInt32).toInt8.toInt32))))) ∧ Fr n0 L ∧ h = h0
set_option maxRecDepth 65536 in
set_option maxHeartbeats 40000000 in
theorem rmkeeps25 (l : Launch) (Z : State) (a0 : Array Value) (hw : ∀ d ∈ tables_1, d.before a0 Z = true) (ws : List Jvm.Cond) (o0_ : Addr) (x0_ : Int32) (x1_ : Int32) (ko0_ : ClassId) (x2_ : Int32) (x3_ : Int32) (x4_ : Int32) (x5_ : Int32) (x6_ : Int32) (x7_ : Int32) (x8_ : Int32) (x9_ : Int32) (h0 : Heap) (n0 : Nat) (O0 : Old Z n0 h0) (P0 : Arv Z h0 o0_ ko0_ .byte (8 : Int32) [(.int x2_), (.int x3_), (.int x4_), (.int x5_), (.int x6_), (.int x7_), (.int x8_), (.int x9_)] (.int (0 : Int32))) (P1 : Exa Z h0 o0_ "[B") :
    MetFree l (⟨"com/example/stackweave/stackweave/classfile/ByteWriterU4AtPinLaw", "keeps", "([BIIII)Z"⟩ : MethodName) (head1 (Jvm.Cond.code (⟨"com/example/stackweave/stackweave/classfile/ByteWriterU4AtPinLaw", "keeps", "([BIIII)Z"⟩ : MethodName) method_3_code 7 (some .boolean) :: ws) ({ frames := 0, cells := 0, slots := 0, locals := 0 } : Room)) (fun a U => a = #[(.ref o0_), (.int (7 : Int32)), (.int (1 : Int32)), (.int x0_), (.int x1_)] ∧ Z.Warmed39 U.vm ∧ U.heap = h0) (fun _ _ _ _ _ => True) (fun _ U o U' => ∃ v L, o = .returned v ∧ Qkeeps25 Z o0_ x0_ x1_ ko0_ x2_ x3_ x4_ x5_ x6_ x7_ x8_ x9_ h0 n0 v U'.heap L ∧ FrameEnd U o U' L ({ frames := 0, cells := 0, slots := 0, locals := 0 } : Room).cells ({ frames := 0, cells := 0, slots := 0, locals := 0 } : Room).slots) := by
  refine MetFree.of_bodySF (plainFor_of_name pn_1) hisR ?_
  intro p e s m args below meth c s₁ Bd hml0 hP hK
  obtain ⟨rfl, hZ, hh⟩ := hP
  have hx := Bd.exec
  have hby := Bd.bytes
  have hml : c.maxLocals = 7 := hml0
  have hown : s.vm.findClass "com/example/stackweave/stackweave/classfile/ByteWriterU4AtPinLaw" = some m.cls := findClass_of_methodNamed Bd.named
  have hnm := (name_of_methodNamed Bd.named Bd.method).1
  have X0 : Stand p l e ({ frames := 0, cells := 0, slots := 0, locals := 0 } : Room) s m #[(.ref o0_), (.int (7 : Int32)), (.int (1 : Int32)), (.int x0_), (.int x1_)] below meth c s₁ [] 0 0 := Stand.of_body Bd
  have e0 : s₁.heap = h0 := by rw [← hh, Bd.state]; rfl
  have N0 := Fr.nil n0
  obtain ⟨G, pre0, hG⟩ : ∃ G : State → Prop, (∀ t, own_S p e below m s₁ 0 #[lvR o0_, lvI (7 : Int32), lvI (1 : Int32), lvI x0_, lvI x1_, .unset, .unset] [] t → G t) ∧ (∀ t, G t → Steps p.tables e below (s₁.setTop (entryFrame m #[(.ref o0_), (.int (7 : Int32)), (.int (1 : Int32)), (.int x0_), (.int x1_)] 7)) t) := ⟨fun t => Steps p.tables e below (s₁.setTop (entryFrame m #[(.ref o0_), (.int (7 : Int32)), (.int (1 : Int32)), (.int x0_), (.int x1_)] 7)) t, fun t k => castTop (efkeeps25 m o0_ x0_ x1_) k, fun _ k => k⟩
  have K0 : Keep h0 h0 [] := Keep.refl _ _
  obtain ⟨c1, r1, q1, s1, z1, y1, G1⟩ := id P0
  have hin1 : ¬ ((7 : Int32) < 0 ∨ c1.slots.size ≤ ((7 : Int32)).toNatClampNeg) := inb_of s1 ⟨by decide, by decide⟩
  have hat1 : c1.slots[((7 : Int32)).toNatClampNeg]? = some (.int x9_) := Has.at y1 hin1 rfl
  have pre2 : ∀ t, own_S p e below m s₁ 47 #[lvR o0_, lvI (7 : Int32), lvI (1 : Int32), lvI x0_, lvI x1_, lvI x1_, lvI (0 : Int32)] [(.int (((x1_.toUInt32 >>> ((0 : Int32) &&& 31).toUInt32).toInt32).toInt8.toInt32)), (.int x9_)] t → G t := by
    intro t kt
    refine pre0 t ?_
    show own_S p e below m s₁ 0 #[lvR o0_, lvI (7 : Int32), lvI (1 : Int32), lvI x0_, lvI x1_, .unset, .unset] [] _
    refine XS.iloadN X0.here hx rfl (hb hby d7_0) rfl ?_
    refine XS.iloadN X0.here hx rfl (hb hby d7_1) rfl ?_
    show own_S p e below m s₁ 2 #[lvR o0_, lvI (7 : Int32), lvI (1 : Int32), lvI x0_, lvI x1_, .unset, .unset] [(.int (1 : Int32)), (.int (7 : Int32))] _
    refine XS.icmpNo X0.here hx rfl (hb hby d7_2) rfl (flt (by decide : ¬ ((7 : Int32) < (1 : Int32)))).1 ?_
    refine XS.iloadN X0.here hx rfl (hb hby d7_5) rfl ?_
    refine XS.iloadN X0.here hx rfl (hb hby d7_6) rfl ?_
    refine XS.iconst X0.here hx rfl (hb hby d7_7) ?_
    show own_S p e below m s₁ 8 #[lvR o0_, lvI (7 : Int32), lvI (1 : Int32), lvI x0_, lvI x1_, .unset, .unset] [(.int (4 : Int32)), (.int (1 : Int32)), (.int (7 : Int32))] _
    refine XS.iadd X0.here hx rfl (hb hby d7_8) rfl ?_
    show own_S p e below m s₁ 9 #[lvR o0_, lvI (7 : Int32), lvI (1 : Int32), lvI x0_, lvI x1_, .unset, .unset] [(.int (5 : Int32)), (.int (7 : Int32))] _
    refine XS.icmpYes X0.here hx rfl (pc0 := 9) (pc' := 14) rfl (hb hby d7_9) rfl (flt (by decide : ¬ ((7 : Int32) < (5 : Int32)))).2.1 (by decide) (by decide) ?_
    refine XS.iloadN X0.here hx rfl (hb hby d7_14) rfl ?_
    refine XS.iconst X0.here hx rfl (hb hby d7_15) ?_
    show own_S p e below m s₁ 16 #[lvR o0_, lvI (7 : Int32), lvI (1 : Int32), lvI x0_, lvI x1_, .unset, .unset] [(.int (4 : Int32)), (.int (7 : Int32))] _
    refine XS.icmpYes X0.here hx rfl (pc0 := 16) (pc' := 23) rfl (hb hby d7_16) rfl (flt (by decide : ¬ ((7 : Int32) < (4 : Int32)))).2.1 (by decide) (by decide) ?_
    refine XS.iload X0.here hx rfl (hb hby d7_23) rfl ?_
    refine XS.istore X0.here hx rfl (hb hby d7_25) rfl (l' := #[lvR o0_, lvI (7 : Int32), lvI (1 : Int32), lvI x0_, lvI x1_, lvI x1_, .unset]) rfl ?_
    refine XS.bipush X0.here hx rfl (hb hby d7_27) ?_
    show own_S p e below m s₁ 29 #[lvR o0_, lvI (7 : Int32), lvI (1 : Int32), lvI x0_, lvI x1_, lvI x1_, .unset] [(.int (24 : Int32))] _
    refine XS.bipush X0.here hx rfl (hb hby d7_29) ?_
    refine XS.iloadN X0.here hx rfl (hb hby d7_31) rfl ?_
    refine XS.iconst X0.here hx rfl (hb hby d7_32) ?_
    refine XS.iand X0.here hx rfl (hb hby d7_33) rfl ?_
    show own_S p e below m s₁ 34 #[lvR o0_, lvI (7 : Int32), lvI (1 : Int32), lvI x0_, lvI x1_, lvI x1_, .unset] [(.int (3 : Int32)), (.int (8 : Int32)), (.int (24 : Int32))] _
    refine XS.imul X0.here hx rfl (hb hby d7_34) rfl ?_
    refine XS.isub X0.here hx rfl (hb hby d7_35) rfl ?_
    refine XS.istore X0.here hx rfl (hb hby d7_36) rfl (l' := #[lvR o0_, lvI (7 : Int32), lvI (1 : Int32), lvI x0_, lvI x1_, lvI x1_, lvI (0 : Int32)]) rfl ?_
    refine XS.aloadN X0.here hx rfl (hb hby d7_38) rfl rfl ?_
    show own_S p e below m s₁ 39 #[lvR o0_, lvI (7 : Int32), lvI (1 : Int32), lvI x0_, lvI x1_, lvI x1_, lvI (0 : Int32)] [(.ref o0_)] _
    refine XS.iloadN X0.here hx rfl (hb hby d7_39) rfl ?_
    show own_S p e below m s₁ 40 #[lvR o0_, lvI (7 : Int32), lvI (1 : Int32), lvI x0_, lvI x1_, lvI x1_, lvI (0 : Int32)] [(.int (7 : Int32)), (.ref o0_)] _
    refine X0.baloadBytes hx (j := (7 : Int32)) (v := (.int x9_)) (by rw [e0]; exact r1.1) (State.isArrayOf_alike hZ.alike r1.2.1) r1.2.2 hin1 hat1 (g := (mkF m 40 #[lvR o0_, lvI (7 : Int32), lvI (1 : Int32), lvI x0_, lvI x1_, lvI x1_, lvI (0 : Int32)] [(.int (7 : Int32)), (.ref o0_)])) rfl rfl (hb hby d7_40) _ ?_
    refine XS.iload X0.here hx rfl (hb hby d7_41) rfl ?_
    refine XS.iload X0.here hx rfl (hb hby d7_43) rfl ?_
    show own_S p e below m s₁ 45 #[lvR o0_, lvI (7 : Int32), lvI (1 : Int32), lvI x0_, lvI x1_, lvI x1_, lvI (0 : Int32)] [(.int (0 : Int32)), (.int x1_), (.int x9_)] _
    refine XS.iushr X0.here hx rfl (hb hby d7_45) rfl ?_
    show own_S p e below m s₁ 46 #[lvR o0_, lvI (7 : Int32), lvI (1 : Int32), lvI x0_, lvI x1_, lvI x1_, lvI (0 : Int32)] [(.int ((x1_.toUInt32 >>> ((0 : Int32) &&& 31).toUInt32).toInt32)), (.int x9_)] _
    refine XS.i2b X0.here hx rfl (hb hby d7_46) rfl ?_
    exact kt
  by_cases hc3 : x9_ = (((x1_.toUInt32 >>> ((0 : Int32) &&& 31).toUInt32).toInt32).toInt8.toInt32)
  · have pre4 : ∀ t, own_S p e below m s₁ 55 #[lvR o0_, lvI (7 : Int32), lvI (1 : Int32), lvI x0_, lvI x1_, lvI x1_, lvI (0 : Int32)] [(.int (1 : Int32))] t → G t := by
      intro t kt
      refine pre2 t ?_
      show own_S p e below m s₁ 47 #[lvR o0_, lvI (7 : Int32), lvI (1 : Int32), lvI x0_, lvI x1_, lvI x1_, lvI (0 : Int32)] [(.int (((x1_.toUInt32 >>> ((0 : Int32) &&& 31).toUInt32).toInt32).toInt8.toInt32)), (.int x9_)] _
      refine XS.icmpNo X0.here hx rfl (hb hby d7_47) rfl (teq hc3).2 ?_
      refine XS.iconst X0.here hx rfl (hb hby d7_50) ?_
      refine XS.goto X0.here hx rfl (pc0 := 51) (pc' := 55) rfl (hb hby d7_51) (by decide) (by decide) ?_
      exact kt
    obtain ⟨fs, hr, hrun, hended, hW, hsame⟩ := X0.leave (v := some (.int (1 : Int32))) (fun h => by rw [Bd.returns] at h; cases h)
    refine ⟨_, _, hG _ (pre4 _ (retN X0 hx (t := .boolean) Bd.returns (by simp) (hb hby d7_55) hr)), hrun, hended, _, _, rfl, ?_, ⟨_, rfl⟩, hW, hsame.mono (by decide) (by decide)⟩
    show Qkeeps25 Z o0_ x0_ x1_ ko0_ x2_ x3_ x4_ x5_ x6_ x7_ x8_ x9_ h0 n0 _ s₁.heap _
    rw [e0]
    exact ⟨(1 : Int32), rfl, (Or.inl ⟨rfl, hc3⟩), N0, rfl⟩
  · have pre6 : ∀ t, own_S p e below m s₁ 55 #[lvR o0_, lvI (7 : Int32), lvI (1 : Int32), lvI x0_, lvI x1_, lvI x1_, lvI (0 : Int32)] [(.int (0 : Int32))] t → G t := by
      intro t kt
      refine pre2 t ?_
      show own_S p e below m s₁ 47 #[lvR o0_, lvI (7 : Int32), lvI (1 : Int32), lvI x0_, lvI x1_, lvI x1_, lvI (0 : Int32)] [(.int (((x1_.toUInt32 >>> ((0 : Int32) &&& 31).toUInt32).toInt32).toInt8.toInt32)), (.int x9_)] _
      refine XS.icmpYes X0.here hx rfl (pc0 := 47) (pc' := 54) rfl (hb hby d7_47) rfl (feq hc3).2 (by decide) (by decide) ?_
      refine XS.iconst X0.here hx rfl (hb hby d7_54) ?_
      exact kt
    obtain ⟨fs, hr, hrun, hended, hW, hsame⟩ := X0.leave (v := some (.int (0 : Int32))) (fun h => by rw [Bd.returns] at h; cases h)
    refine ⟨_, _, hG _ (pre6 _ (retN X0 hx (t := .boolean) Bd.returns (by simp) (hb hby d7_55) hr)), hrun, hended, _, _, rfl, ?_, ⟨_, rfl⟩, hW, hsame.mono (by decide) (by decide)⟩
    show Qkeeps25 Z o0_ x0_ x1_ ko0_ x2_ x3_ x4_ x5_ x6_ x7_ x8_ x9_ h0 n0 _ s₁.heap _
    rw [e0]
    exact ⟨(0 : Int32), rfl, (Or.inr ⟨rfl, hc3⟩), N0, rfl⟩
theorem efu4At26 (m : MethodId) (o0_ : Addr) (x0_ : Int32) : entryFrame m #[(.ref o0_), (.int (2 : Int32)), (.int x0_)] 3 = mkF m 0 #[lvR o0_, lvI (2 : Int32), lvI x0_] [] := by first | (simp [entryFrame, mkF, argsToLocals, Value.category]; done) | rfl
def Qu4At26 (Z : State) (o0_ : Addr) (x0_ : Int32) (o1_ : Addr) (ko1_ : ClassId) (x1_ : Int32) (x2_ : Int32) (x3_ : Int32) (x4_ : Int32) (x5_ : Int32) (x6_ : Int32) (x7_ : Int32) (x8_ : Int32) (h0 : Heap) (n0 : Nat) (v : Option Value) (h : Heap) (L : List Loc) : Prop := v = none ∧ Fr n0 L ∧ Keep h0 h [o1_] ∧ Arv Z h o1_ ko1_ .byte (8 : Int32) [(.int x1_), (.int x2_), (.int (((x0_.toUInt32 >>> ((24 : Int32) &&& 31).toUInt32).toInt32).toInt8.toInt32)), (.int (((x0_.toUInt32 >>> ((16 : Int32) &&& 31).toUInt32).toInt32).toInt8.toInt32)), (.int (((x0_.toUInt32 >>> ((8 : Int32) &&& 31).toUInt32).toInt32).toInt8.toInt32)), (.int (x0_.toInt8.toInt32)), (.int x7_), (.int x8_)] (.int (0 : Int32)) ∧ Exa Z h o1_ "[B"
set_option maxRecDepth 65536 in
set_option maxHeartbeats 40000000 in
theorem rmu4At26 (l : Launch) (Z : State) (a0 : Array Value) (hw : ∀ d ∈ tables_1, d.before a0 Z = true) (ws : List Jvm.Cond) (o0_ : Addr) (x0_ : Int32) (o1_ : Addr) (ko1_ : ClassId) (x1_ : Int32) (x2_ : Int32) (x3_ : Int32) (x4_ : Int32) (x5_ : Int32) (x6_ : Int32) (x7_ : Int32) (x8_ : Int32) (h0 : Heap) (n0 : Nat) (O0 : Old Z n0 h0) (P0 : Exa Z h0 o0_ cn0) (P1 : Fld Z h0 o0_ cn0 "bytes" "[B" (.ref o1_)) (P2 : Fld Z h0 o0_ cn0 "length" "I" (.int (8 : Int32))) (P3 : Arv Z h0 o1_ ko1_ .byte (8 : Int32) [(.int x1_), (.int x2_), (.int x3_), (.int x4_), (.int x5_), (.int x6_), (.int x7_), (.int x8_)] (.int (0 : Int32))) (P4 : Exa Z h0 o1_ "[B") (P5 : n0 ≤ o1_) (P6 : o0_ ≠ o1_) :
    MetFree l (⟨"com/example/stackweave/stackweave/classfile/ByteWriter", "u4At", "(II)V"⟩ : MethodName) (head1 (Jvm.Cond.code (⟨"com/example/stackweave/stackweave/classfile/ByteWriter", "u4At", "(II)V"⟩ : MethodName) prog_12_method_7_code 3 none :: ws) ({ frames := 0, cells := 0, slots := 0, locals := 0 } : Room)) (fun a U => a = #[(.ref o0_), (.int (2 : Int32)), (.int x0_)] ∧ Z.Warmed39 U.vm ∧ U.heap = h0) (fun _ _ _ _ _ => True) (fun _ U o U' => ∃ v L, o = .returned v ∧ Qu4At26 Z o0_ x0_ o1_ ko1_ x1_ x2_ x3_ x4_ x5_ x6_ x7_ x8_ h0 n0 v U'.heap L ∧ FrameEnd U o U' L ({ frames := 0, cells := 0, slots := 0, locals := 0 } : Room).cells ({ frames := 0, cells := 0, slots := 0, locals := 0 } : Room).slots) := by
  refine MetFree.of_bodySF (plainFor_of_name pn_0) hisR ?_
  intro p e s m args below meth c s₁ Bd hml0 hP hK
  obtain ⟨rfl, hZ, hh⟩ := hP
  have hx := Bd.exec
  have hby := Bd.bytes
  have hml : c.maxLocals = 3 := hml0
  have hown : s.vm.findClass "com/example/stackweave/stackweave/classfile/ByteWriter" = some m.cls := findClass_of_methodNamed Bd.named
  have hnm := (name_of_methodNamed Bd.named Bd.method).1
  have X0 : Stand p l e ({ frames := 0, cells := 0, slots := 0, locals := 0 } : Room) s m #[(.ref o0_), (.int (2 : Int32)), (.int x0_)] below meth c s₁ [] 0 0 := Stand.of_body Bd
  have e0 : s₁.heap = h0 := by rw [← hh, Bd.state]; rfl
  have N0 := Fr.nil n0
  obtain ⟨G, pre0, hG⟩ : ∃ G : State → Prop, (∀ t, own_S p e below m s₁ 0 #[lvR o0_, lvI (2 : Int32), lvI x0_] [] t → G t) ∧ (∀ t, G t → Steps p.tables e below (s₁.setTop (entryFrame m #[(.ref o0_), (.int (2 : Int32)), (.int x0_)] 3)) t) := ⟨fun t => Steps p.tables e below (s₁.setTop (entryFrame m #[(.ref o0_), (.int (2 : Int32)), (.int x0_)] 3)) t, fun t k => castTop (efu4At26 m o0_ x0_) k, fun _ k => k⟩
  have K0 : Keep h0 h0 [o1_] := Keep.refl _ _
  obtain ⟨T1, X1, e1, st1⟩ := getF X0 hx hZ hown (host := "") (Or.inl (own_w hw 11 rfl)) Via.refl e0 P1 (g := (mkF m 1 #[lvR o0_, lvI (2 : Int32), lvI x0_] [(.ref o0_)])) rfl rfl (hb hby d4_1)
  obtain ⟨c2, r2, q2, s2, z2, y2, G2⟩ := id P3
  have hin2 : ¬ ((2 : Int32) < 0 ∨ c2.slots.size ≤ ((2 : Int32)).toNatClampNeg) := inb_of s2 ⟨by decide, by decide⟩
  obtain ⟨T2, h2, X2, e2, W2, st2⟩ := stB X1 hx hZ e1 r2 (j := (2 : Int32)) hin2 (g := (mkF m 10 #[lvR o0_, lvI (2 : Int32), lvI x0_] [(.int (((x0_.toUInt32 >>> ((24 : Int32) &&& 31).toUInt32).toInt32).toInt8.toInt32)), (.int (2 : Int32)), (.ref o1_)])) rfl rfl (hb hby d4_10)
  have N3 := Fr.snoc X2 N0 P5
  have f4 : Arv Z h2 o1_ ko1_ .byte (8 : Int32) [(.int x1_), (.int x2_), (.int ((((x0_.toUInt32 >>> ((24 : Int32) &&& 31).toUInt32).toInt32).toInt8.toInt32).toInt8.toInt32)), (.int x4_), (.int x5_), (.int x6_), (.int x7_), (.int x8_)] (.int (0 : Int32)) := Arv.set r2 q2 s2 z2 y2 G2 (fits_nar_byte _) W2 2 rfl (Nat.le_of_ble_eq_true rfl)
  have f5 : Arv Z h2 o1_ ko1_ .byte (8 : Int32) [(.int x1_), (.int x2_), (.int (((x0_.toUInt32 >>> ((24 : Int32) &&& 31).toUInt32).toInt32).toInt8.toInt32)), (.int x4_), (.int x5_), (.int x6_), (.int x7_), (.int x8_)] (.int (0 : Int32)) := by have q := f4; rw [own_i2b2] at q; exact q
  have f6 : Fld Z h2 o0_ cn0 "bytes" "[B" (.ref o1_) := P1.other W2 (Or.inl P6)
  obtain ⟨T7, X7, e7, st7⟩ := getF X2 hx hZ hown (host := "") (Or.inl (own_w hw 11 rfl)) Via.refl e2 f6 (g := (mkF m 12 #[lvR o0_, lvI (2 : Int32), lvI x0_] [(.ref o0_)])) rfl rfl (hb hby d4_12)
  obtain ⟨c8, r8, q8, s8, z8, y8, G8⟩ := id f5
  have hin8 : ¬ ((3 : Int32) < 0 ∨ c8.slots.size ≤ ((3 : Int32)).toNatClampNeg) := inb_of s8 ⟨by decide, by decide⟩
  obtain ⟨T8, h8, X8, e8, W8, st8⟩ := stB X7 hx hZ e7 r8 (j := (3 : Int32)) hin8 (g := (mkF m 23 #[lvR o0_, lvI (2 : Int32), lvI x0_] [(.int (((x0_.toUInt32 >>> ((16 : Int32) &&& 31).toUInt32).toInt32).toInt8.toInt32)), (.int (3 : Int32)), (.ref o1_)])) rfl rfl (hb hby d4_23)
  have N9 := Fr.snoc X8 N3 P5
  have f10 : Arv Z h8 o1_ ko1_ .byte (8 : Int32) [(.int x1_), (.int x2_), (.int (((x0_.toUInt32 >>> ((24 : Int32) &&& 31).toUInt32).toInt32).toInt8.toInt32)), (.int ((((x0_.toUInt32 >>> ((16 : Int32) &&& 31).toUInt32).toInt32).toInt8.toInt32).toInt8.toInt32)), (.int x5_), (.int x6_), (.int x7_), (.int x8_)] (.int (0 : Int32)) := Arv.set r8 q8 s8 z8 y8 G8 (fits_nar_byte _) W8 3 rfl (Nat.le_of_ble_eq_true rfl)
  have f11 : Arv Z h8 o1_ ko1_ .byte (8 : Int32) [(.int x1_), (.int x2_), (.int (((x0_.toUInt32 >>> ((24 : Int32) &&& 31).toUInt32).toInt32).toInt8.toInt32)), (.int (((x0_.toUInt32 >>> ((16 : Int32) &&& 31).toUInt32).toInt32).toInt8.toInt32)), (.int x5_), (.int x6_), (.int x7_), (.int x8_)] (.int (0 : Int32)) := by have q := f10; rw [own_i2b2] at q; exact q
  have f12 : Fld Z h8 o0_ cn0 "bytes" "[B" (.ref o1_) := f6.other W8 (Or.inl P6)
  obtain ⟨T13, X13, e13, st13⟩ := getF X8 hx hZ hown (host := "") (Or.inl (own_w hw 11 rfl)) Via.refl e8 f12 (g := (mkF m 25 #[lvR o0_, lvI (2 : Int32), lvI x0_] [(.ref o0_)])) rfl rfl (hb hby d4_25)
  obtain ⟨c14, r14, q14, s14, z14, y14, G14⟩ := id f11
  have hin14 : ¬ ((4 : Int32) < 0 ∨ c14.slots.size ≤ ((4 : Int32)).toNatClampNeg) := inb_of s14 ⟨by decide, by decide⟩
  obtain ⟨T14, h14, X14, e14, W14, st14⟩ := stB X13 hx hZ e13 r14 (j := (4 : Int32)) hin14 (g := (mkF m 36 #[lvR o0_, lvI (2 : Int32), lvI x0_] [(.int (((x0_.toUInt32 >>> ((8 : Int32) &&& 31).toUInt32).toInt32).toInt8.toInt32)), (.int (4 : Int32)), (.ref o1_)])) rfl rfl (hb hby d4_36)
  have N15 := Fr.snoc X14 N9 P5
  have f16 : Arv Z h14 o1_ ko1_ .byte (8 : Int32) [(.int x1_), (.int x2_), (.int (((x0_.toUInt32 >>> ((24 : Int32) &&& 31).toUInt32).toInt32).toInt8.toInt32)), (.int (((x0_.toUInt32 >>> ((16 : Int32) &&& 31).toUInt32).toInt32).toInt8.toInt32)), (.int ((((x0_.toUInt32 >>> ((8 : Int32) &&& 31).toUInt32).toInt32).toInt8.toInt32).toInt8.toInt32)), (.int x6_), (.int x7_), (.int x8_)] (.int (0 : Int32)) := Arv.set r14 q14 s14 z14 y14 G14 (fits_nar_byte _) W14 4 rfl (Nat.le_of_ble_eq_true rfl)
  have f17 : Arv Z h14 o1_ ko1_ .byte (8 : Int32) [(.int x1_), (.int x2_), (.int (((x0_.toUInt32 >>> ((24 : Int32) &&& 31).toUInt32).toInt32).toInt8.toInt32)), (.int (((x0_.toUInt32 >>> ((16 : Int32) &&& 31).toUInt32).toInt32).toInt8.toInt32)), (.int (((x0_.toUInt32 >>> ((8 : Int32) &&& 31).toUInt32).toInt32).toInt8.toInt32)), (.int x6_), (.int x7_), (.int x8_)] (.int (0 : Int32)) := by have q := f16; rw [own_i2b2] at q; exact q
  have f18 : Fld Z h14 o0_ cn0 "bytes" "[B" (.ref o1_) := f12.other W14 (Or.inl P6)
  obtain ⟨T19, X19, e19, st19⟩ := getF X14 hx hZ hown (host := "") (Or.inl (own_w hw 11 rfl)) Via.refl e14 f18 (g := (mkF m 38 #[lvR o0_, lvI (2 : Int32), lvI x0_] [(.ref o0_)])) rfl rfl (hb hby d4_38)
  obtain ⟨c20, r20, q20, s20, z20, y20, G20⟩ := id f17
  have hin20 : ¬ ((5 : Int32) < 0 ∨ c20.slots.size ≤ ((5 : Int32)).toNatClampNeg) := inb_of s20 ⟨by decide, by decide⟩
  obtain ⟨T20, h20, X20, e20, W20, st20⟩ := stB X19 hx hZ e19 r20 (j := (5 : Int32)) hin20 (g := (mkF m 46 #[lvR o0_, lvI (2 : Int32), lvI x0_] [(.int (x0_.toInt8.toInt32)), (.int (5 : Int32)), (.ref o1_)])) rfl rfl (hb hby d4_46)
  have N21 := Fr.snoc X20 N15 P5
  have f22 : Arv Z h20 o1_ ko1_ .byte (8 : Int32) [(.int x1_), (.int x2_), (.int (((x0_.toUInt32 >>> ((24 : Int32) &&& 31).toUInt32).toInt32).toInt8.toInt32)), (.int (((x0_.toUInt32 >>> ((16 : Int32) &&& 31).toUInt32).toInt32).toInt8.toInt32)), (.int (((x0_.toUInt32 >>> ((8 : Int32) &&& 31).toUInt32).toInt32).toInt8.toInt32)), (.int ((x0_.toInt8.toInt32).toInt8.toInt32)), (.int x7_), (.int x8_)] (.int (0 : Int32)) := Arv.set r20 q20 s20 z20 y20 G20 (fits_nar_byte _) W20 5 rfl (Nat.le_of_ble_eq_true rfl)
  have f23 : Arv Z h20 o1_ ko1_ .byte (8 : Int32) [(.int x1_), (.int x2_), (.int (((x0_.toUInt32 >>> ((24 : Int32) &&& 31).toUInt32).toInt32).toInt8.toInt32)), (.int (((x0_.toUInt32 >>> ((16 : Int32) &&& 31).toUInt32).toInt32).toInt8.toInt32)), (.int (((x0_.toUInt32 >>> ((8 : Int32) &&& 31).toUInt32).toInt32).toInt8.toInt32)), (.int (x0_.toInt8.toInt32)), (.int x7_), (.int x8_)] (.int (0 : Int32)) := by have q := f22; rw [own_i2b2] at q; exact q
  have pre24 : ∀ t, own_S p e below m T20 47 #[lvR o0_, lvI (2 : Int32), lvI x0_] [] t → G t := by
    intro t kt
    refine pre0 t ?_
    show own_S p e below m s₁ 0 #[lvR o0_, lvI (2 : Int32), lvI x0_] [] _
    refine XS.aloadN X0.here hx rfl (hb hby d4_0) rfl rfl ?_
    show own_S p e below m s₁ 1 #[lvR o0_, lvI (2 : Int32), lvI x0_] [(.ref o0_)] _
    refine st1 _ ?_
    refine XS.iloadN X1.here hx rfl (hb hby d4_4) rfl ?_
    refine XS.iloadN X1.here hx rfl (hb hby d4_5) rfl ?_
    refine XS.bipush X1.here hx rfl (hb hby d4_6) ?_
    show own_S p e below m T1 8 #[lvR o0_, lvI (2 : Int32), lvI x0_] [(.int (24 : Int32)), (.int x0_), (.int (2 : Int32)), (.ref o1_)] _
    refine XS.iushr X1.here hx rfl (hb hby d4_8) rfl ?_
    show own_S p e below m T1 9 #[lvR o0_, lvI (2 : Int32), lvI x0_] [(.int ((x0_.toUInt32 >>> ((24 : Int32) &&& 31).toUInt32).toInt32)), (.int (2 : Int32)), (.ref o1_)] _
    refine XS.i2b X1.here hx rfl (hb hby d4_9) rfl ?_
    show own_S p e below m T1 10 #[lvR o0_, lvI (2 : Int32), lvI x0_] [(.int (((x0_.toUInt32 >>> ((24 : Int32) &&& 31).toUInt32).toInt32).toInt8.toInt32)), (.int (2 : Int32)), (.ref o1_)] _
    refine st2 _ ?_
    refine XS.aloadN X2.here hx rfl (hb hby d4_11) rfl rfl ?_
    show own_S p e below m T2 12 #[lvR o0_, lvI (2 : Int32), lvI x0_] [(.ref o0_)] _
    refine st7 _ ?_
    refine XS.iloadN X7.here hx rfl (hb hby d4_15) rfl ?_
    refine XS.iconst X7.here hx rfl (hb hby d4_16) ?_
    refine XS.iadd X7.here hx rfl (hb hby d4_17) rfl ?_
    show own_S p e below m T7 18 #[lvR o0_, lvI (2 : Int32), lvI x0_] [(.int (3 : Int32)), (.ref o1_)] _
    refine XS.iloadN X7.here hx rfl (hb hby d4_18) rfl ?_
    refine XS.bipush X7.here hx rfl (hb hby d4_19) ?_
    show own_S p e below m T7 21 #[lvR o0_, lvI (2 : Int32), lvI x0_] [(.int (16 : Int32)), (.int x0_), (.int (3 : Int32)), (.ref o1_)] _
    refine XS.iushr X7.here hx rfl (hb hby d4_21) rfl ?_
    show own_S p e below m T7 22 #[lvR o0_, lvI (2 : Int32), lvI x0_] [(.int ((x0_.toUInt32 >>> ((16 : Int32) &&& 31).toUInt32).toInt32)), (.int (3 : Int32)), (.ref o1_)] _
    refine XS.i2b X7.here hx rfl (hb hby d4_22) rfl ?_
    show own_S p e below m T7 23 #[lvR o0_, lvI (2 : Int32), lvI x0_] [(.int (((x0_.toUInt32 >>> ((16 : Int32) &&& 31).toUInt32).toInt32).toInt8.toInt32)), (.int (3 : Int32)), (.ref o1_)] _
    refine st8 _ ?_
    refine XS.aloadN X8.here hx rfl (hb hby d4_24) rfl rfl ?_
    show own_S p e below m T8 25 #[lvR o0_, lvI (2 : Int32), lvI x0_] [(.ref o0_)] _
    refine st13 _ ?_
    refine XS.iloadN X13.here hx rfl (hb hby d4_28) rfl ?_
    refine XS.iconst X13.here hx rfl (hb hby d4_29) ?_
    refine XS.iadd X13.here hx rfl (hb hby d4_30) rfl ?_
    show own_S p e below m T13 31 #[lvR o0_, lvI (2 : Int32), lvI x0_] [(.int (4 : Int32)), (.ref o1_)] _
    refine XS.iloadN X13.here hx rfl (hb hby d4_31) rfl ?_
    refine XS.bipush X13.here hx rfl (hb hby d4_32) ?_
    show own_S p e below m T13 34 #[lvR o0_, lvI (2 : Int32), lvI x0_] [(.int (8 : Int32)), (.int x0_), (.int (4 : Int32)), (.ref o1_)] _
    refine XS.iushr X13.here hx rfl (hb hby d4_34) rfl ?_
    show own_S p e below m T13 35 #[lvR o0_, lvI (2 : Int32), lvI x0_] [(.int ((x0_.toUInt32 >>> ((8 : Int32) &&& 31).toUInt32).toInt32)), (.int (4 : Int32)), (.ref o1_)] _
    refine XS.i2b X13.here hx rfl (hb hby d4_35) rfl ?_
    show own_S p e below m T13 36 #[lvR o0_, lvI (2 : Int32), lvI x0_] [(.int (((x0_.toUInt32 >>> ((8 : Int32) &&& 31).toUInt32).toInt32).toInt8.toInt32)), (.int (4 : Int32)), (.ref o1_)] _
    refine st14 _ ?_
    refine XS.aloadN X14.here hx rfl (hb hby d4_37) rfl rfl ?_
    show own_S p e below m T14 38 #[lvR o0_, lvI (2 : Int32), lvI x0_] [(.ref o0_)] _
    refine st19 _ ?_
    refine XS.iloadN X19.here hx rfl (hb hby d4_41) rfl ?_
    refine XS.iconst X19.here hx rfl (hb hby d4_42) ?_
    refine XS.iadd X19.here hx rfl (hb hby d4_43) rfl ?_
    show own_S p e below m T19 44 #[lvR o0_, lvI (2 : Int32), lvI x0_] [(.int (5 : Int32)), (.ref o1_)] _
    refine XS.iloadN X19.here hx rfl (hb hby d4_44) rfl ?_
    show own_S p e below m T19 45 #[lvR o0_, lvI (2 : Int32), lvI x0_] [(.int x0_), (.int (5 : Int32)), (.ref o1_)] _
    refine XS.i2b X19.here hx rfl (hb hby d4_45) rfl ?_
    show own_S p e below m T19 46 #[lvR o0_, lvI (2 : Int32), lvI x0_] [(.int (x0_.toInt8.toInt32)), (.int (5 : Int32)), (.ref o1_)] _
    refine st20 _ ?_
    exact kt
  have f26 : Keep h0 h2 [o1_] := K0.wr W2 (Or.inl (List.mem_of_getElem? (i := 0) rfl))
  have f27 : Keep h0 h8 [o1_] := f26.wr W8 (Or.inl (List.mem_of_getElem? (i := 0) rfl))
  have f28 : Keep h0 h14 [o1_] := f27.wr W14 (Or.inl (List.mem_of_getElem? (i := 0) rfl))
  have f29 : Keep h0 h20 [o1_] := f28.wr W20 (Or.inl (List.mem_of_getElem? (i := 0) rfl))
  have f30 : Exa Z h2 o1_ "[B" := P4.wr W2
  have f31 : Exa Z h8 o1_ "[B" := f30.wr W8
  have f32 : Exa Z h14 o1_ "[B" := f31.wr W14
  have f33 : Exa Z h20 o1_ "[B" := f32.wr W20
  obtain ⟨fs, hr, hrun, hended, hW, hsame⟩ := X20.leave (v := none) (fun _ => rfl)
  refine ⟨_, _, hG _ (pre24 _ (X20.returnOut hx Bd.returns (hb hby d4_47) hr)), hrun, hended, _, _, rfl, ?_, ⟨_, rfl⟩, hW, hsame.mono (by decide) (by decide)⟩
  show Qu4At26 Z o0_ x0_ o1_ ko1_ x1_ x2_ x3_ x4_ x5_ x6_ x7_ x8_ h0 n0 _ T20.heap _
  rw [e20]
  exact ⟨rfl, N21, f29, f23, f33⟩
theorem efkeeps27 (m : MethodId) (o0_ : Addr) (x0_ : Int32) (x1_ : Int32) : entryFrame m #[(.ref o0_), (.int (0 : Int32)), (.int (2 : Int32)), (.int x0_), (.int x1_)] 7 = mkF m 0 #[lvR o0_, lvI (0 : Int32), lvI (2 : Int32), lvI x0_, lvI x1_, .unset, .unset] [] := by first | (simp [entryFrame, mkF, argsToLocals, Value.category]; done) | rfl
def Qkeeps27 (Z : State) (o0_ : Addr) (x0_ : Int32) (x1_ : Int32) (ko0_ : ClassId) (x2_ : Int32) (x3_ : Int32) (x4_ : Int32) (x5_ : Int32) (x6_ : Int32) (x7_ : Int32) (x8_ : Int32) (x9_ : Int32) (h0 : Heap) (n0 : Nat) (v : Option Value) (h : Heap) (L : List Loc) : Prop := ∃ r_ : Int32, v = some (.int r_) ∧ (((1 : Int32) = r_ ∧ (x2_ = (((x0_.toUInt32 >>> ((24 : Int32) &&& 31).toUInt32).toInt32).toInt8.toInt32))) ∨ ((0 : Int32) = r_ ∧ (¬ (x2_ = (((x0_.toUInt32 >>> ((24 : Int32) &&& 31).toUInt32).toInt32).toInt8.toInt32))))) ∧ Fr n0 L ∧ h = h0
set_option maxRecDepth 65536 in
set_option maxHeartbeats 40000000 in
theorem rmkeeps27 (l : Launch) (Z : State) (a0 : Array Value) (hw : ∀ d ∈ tables_1, d.before a0 Z = true) (ws : List Jvm.Cond) (o0_ : Addr) (x0_ : Int32) (x1_ : Int32) (ko0_ : ClassId) (x2_ : Int32) (x3_ : Int32) (x4_ : Int32) (x5_ : Int32) (x6_ : Int32) (x7_ : Int32) (x8_ : Int32) (x9_ : Int32) (h0 : Heap) (n0 : Nat) (O0 : Old Z n0 h0) (P0 : Arv Z h0 o0_ ko0_ .byte (8 : Int32) [(.int x2_), (.int x3_), (.int x4_), (.int x5_), (.int x6_), (.int x7_), (.int x8_), (.int x9_)] (.int (0 : Int32))) (P1 : Exa Z h0 o0_ "[B") :
    MetFree l (⟨"com/example/stackweave/stackweave/classfile/ByteWriterU4AtPinLaw", "keeps", "([BIIII)Z"⟩ : MethodName) (head1 (Jvm.Cond.code (⟨"com/example/stackweave/stackweave/classfile/ByteWriterU4AtPinLaw", "keeps", "([BIIII)Z"⟩ : MethodName) method_3_code 7 (some .boolean) :: ws) ({ frames := 0, cells := 0, slots := 0, locals := 0 } : Room)) (fun a U => a = #[(.ref o0_), (.int (0 : Int32)), (.int (2 : Int32)), (.int x0_), (.int x1_)] ∧ Z.Warmed39 U.vm ∧ U.heap = h0) (fun _ _ _ _ _ => True) (fun _ U o U' => ∃ v L, o = .returned v ∧ Qkeeps27 Z o0_ x0_ x1_ ko0_ x2_ x3_ x4_ x5_ x6_ x7_ x8_ x9_ h0 n0 v U'.heap L ∧ FrameEnd U o U' L ({ frames := 0, cells := 0, slots := 0, locals := 0 } : Room).cells ({ frames := 0, cells := 0, slots := 0, locals := 0 } : Room).slots) := by
  refine MetFree.of_bodySF (plainFor_of_name pn_1) hisR ?_
  intro p e s m args below meth c s₁ Bd hml0 hP hK
  obtain ⟨rfl, hZ, hh⟩ := hP
  have hx := Bd.exec
  have hby := Bd.bytes
  have hml : c.maxLocals = 7 := hml0
  have hown : s.vm.findClass "com/example/stackweave/stackweave/classfile/ByteWriterU4AtPinLaw" = some m.cls := findClass_of_methodNamed Bd.named
  have hnm := (name_of_methodNamed Bd.named Bd.method).1
  have X0 : Stand p l e ({ frames := 0, cells := 0, slots := 0, locals := 0 } : Room) s m #[(.ref o0_), (.int (0 : Int32)), (.int (2 : Int32)), (.int x0_), (.int x1_)] below meth c s₁ [] 0 0 := Stand.of_body Bd
  have e0 : s₁.heap = h0 := by rw [← hh, Bd.state]; rfl
  have N0 := Fr.nil n0
  obtain ⟨G, pre0, hG⟩ : ∃ G : State → Prop, (∀ t, own_S p e below m s₁ 0 #[lvR o0_, lvI (0 : Int32), lvI (2 : Int32), lvI x0_, lvI x1_, .unset, .unset] [] t → G t) ∧ (∀ t, G t → Steps p.tables e below (s₁.setTop (entryFrame m #[(.ref o0_), (.int (0 : Int32)), (.int (2 : Int32)), (.int x0_), (.int x1_)] 7)) t) := ⟨fun t => Steps p.tables e below (s₁.setTop (entryFrame m #[(.ref o0_), (.int (0 : Int32)), (.int (2 : Int32)), (.int x0_), (.int x1_)] 7)) t, fun t k => castTop (efkeeps27 m o0_ x0_ x1_) k, fun _ k => k⟩
  have K0 : Keep h0 h0 [] := Keep.refl _ _
  obtain ⟨c1, r1, q1, s1, z1, y1, G1⟩ := id P0
  have hin1 : ¬ ((0 : Int32) < 0 ∨ c1.slots.size ≤ ((0 : Int32)).toNatClampNeg) := inb_of s1 ⟨by decide, by decide⟩
  have hat1 : c1.slots[((0 : Int32)).toNatClampNeg]? = some (.int x2_) := Has.at y1 hin1 rfl
  have pre2 : ∀ t, own_S p e below m s₁ 47 #[lvR o0_, lvI (0 : Int32), lvI (2 : Int32), lvI x0_, lvI x1_, lvI x0_, lvI (24 : Int32)] [(.int (((x0_.toUInt32 >>> ((24 : Int32) &&& 31).toUInt32).toInt32).toInt8.toInt32)), (.int x2_)] t → G t := by
    intro t kt
    refine pre0 t ?_
    show own_S p e below m s₁ 0 #[lvR o0_, lvI (0 : Int32), lvI (2 : Int32), lvI x0_, lvI x1_, .unset, .unset] [] _
    refine XS.iloadN X0.here hx rfl (hb hby d7_0) rfl ?_
    refine XS.iloadN X0.here hx rfl (hb hby d7_1) rfl ?_
    show own_S p e below m s₁ 2 #[lvR o0_, lvI (0 : Int32), lvI (2 : Int32), lvI x0_, lvI x1_, .unset, .unset] [(.int (2 : Int32)), (.int (0 : Int32))] _
    refine XS.icmpYes X0.here hx rfl (pc0 := 2) (pc' := 14) rfl (hb hby d7_2) rfl (tlt (by decide : (0 : Int32) < (2 : Int32))).1 (by decide) (by decide) ?_
    refine XS.iloadN X0.here hx rfl (hb hby d7_14) rfl ?_
    refine XS.iconst X0.here hx rfl (hb hby d7_15) ?_
    show own_S p e below m s₁ 16 #[lvR o0_, lvI (0 : Int32), lvI (2 : Int32), lvI x0_, lvI x1_, .unset, .unset] [(.int (4 : Int32)), (.int (0 : Int32))] _
    refine XS.icmpNo X0.here hx rfl (hb hby d7_16) rfl (tlt (by decide : (0 : Int32) < (4 : Int32))).2.1 ?_
    refine XS.iloadN X0.here hx rfl (hb hby d7_19) rfl ?_
    refine XS.goto X0.here hx rfl (pc0 := 20) (pc' := 25) rfl (hb hby d7_20) (by decide) (by decide) ?_
    refine XS.istore X0.here hx rfl (hb hby d7_25) rfl (l' := #[lvR o0_, lvI (0 : Int32), lvI (2 : Int32), lvI x0_, lvI x1_, lvI x0_, .unset]) rfl ?_
    show own_S p e below m s₁ 27 #[lvR o0_, lvI (0 : Int32), lvI (2 : Int32), lvI x0_, lvI x1_, lvI x0_, .unset] [] _
    refine XS.bipush X0.here hx rfl (hb hby d7_27) ?_
    refine XS.bipush X0.here hx rfl (hb hby d7_29) ?_
    refine XS.iloadN X0.here hx rfl (hb hby d7_31) rfl ?_
    refine XS.iconst X0.here hx rfl (hb hby d7_32) ?_
    show own_S p e below m s₁ 33 #[lvR o0_, lvI (0 : Int32), lvI (2 : Int32), lvI x0_, lvI x1_, lvI x0_, .unset] [(.int (3 : Int32)), (.int (0 : Int32)), (.int (8 : Int32)), (.int (24 : Int32))] _
    refine XS.iand X0.here hx rfl (hb hby d7_33) rfl ?_
    refine XS.imul X0.here hx rfl (hb hby d7_34) rfl ?_
    refine XS.isub X0.here hx rfl (hb hby d7_35) rfl ?_
    refine XS.istore X0.here hx rfl (hb hby d7_36) rfl (l' := #[lvR o0_, lvI (0 : Int32), lvI (2 : Int32), lvI x0_, lvI x1_, lvI x0_, lvI (24 : Int32)]) rfl ?_
    show own_S p e below m s₁ 38 #[lvR o0_, lvI (0 : Int32), lvI (2 : Int32), lvI x0_, lvI x1_, lvI x0_, lvI (24 : Int32)] [] _
    refine XS.aloadN X0.here hx rfl (hb hby d7_38) rfl rfl ?_
    refine XS.iloadN X0.here hx rfl (hb hby d7_39) rfl ?_
    show own_S p e below m s₁ 40 #[lvR o0_, lvI (0 : Int32), lvI (2 : Int32), lvI x0_, lvI x1_, lvI x0_, lvI (24 : Int32)] [(.int (0 : Int32)), (.ref o0_)] _
    refine X0.baloadBytes hx (j := (0 : Int32)) (v := (.int x2_)) (by rw [e0]; exact r1.1) (State.isArrayOf_alike hZ.alike r1.2.1) r1.2.2 hin1 hat1 (g := (mkF m 40 #[lvR o0_, lvI (0 : Int32), lvI (2 : Int32), lvI x0_, lvI x1_, lvI x0_, lvI (24 : Int32)] [(.int (0 : Int32)), (.ref o0_)])) rfl rfl (hb hby d7_40) _ ?_
    refine XS.iload X0.here hx rfl (hb hby d7_41) rfl ?_
    refine XS.iload X0.here hx rfl (hb hby d7_43) rfl ?_
    show own_S p e below m s₁ 45 #[lvR o0_, lvI (0 : Int32), lvI (2 : Int32), lvI x0_, lvI x1_, lvI x0_, lvI (24 : Int32)] [(.int (24 : Int32)), (.int x0_), (.int x2_)] _
    refine XS.iushr X0.here hx rfl (hb hby d7_45) rfl ?_
    show own_S p e below m s₁ 46 #[lvR o0_, lvI (0 : Int32), lvI (2 : Int32), lvI x0_, lvI x1_, lvI x0_, lvI (24 : Int32)] [(.int ((x0_.toUInt32 >>> ((24 : Int32) &&& 31).toUInt32).toInt32)), (.int x2_)] _
    refine XS.i2b X0.here hx rfl (hb hby d7_46) rfl ?_
    exact kt
  by_cases hc3 : x2_ = (((x0_.toUInt32 >>> ((24 : Int32) &&& 31).toUInt32).toInt32).toInt8.toInt32)
  · have pre4 : ∀ t, own_S p e below m s₁ 55 #[lvR o0_, lvI (0 : Int32), lvI (2 : Int32), lvI x0_, lvI x1_, lvI x0_, lvI (24 : Int32)] [(.int (1 : Int32))] t → G t := by
      intro t kt
      refine pre2 t ?_
      show own_S p e below m s₁ 47 #[lvR o0_, lvI (0 : Int32), lvI (2 : Int32), lvI x0_, lvI x1_, lvI x0_, lvI (24 : Int32)] [(.int (((x0_.toUInt32 >>> ((24 : Int32) &&& 31).toUInt32).toInt32).toInt8.toInt32)), (.int x2_)] _
      refine XS.icmpNo X0.here hx rfl (hb hby d7_47) rfl (teq hc3).2 ?_
      refine XS.iconst X0.here hx rfl (hb hby d7_50) ?_
      refine XS.goto X0.here hx rfl (pc0 := 51) (pc' := 55) rfl (hb hby d7_51) (by decide) (by decide) ?_
      exact kt
    obtain ⟨fs, hr, hrun, hended, hW, hsame⟩ := X0.leave (v := some (.int (1 : Int32))) (fun h => by rw [Bd.returns] at h; cases h)
    refine ⟨_, _, hG _ (pre4 _ (retN X0 hx (t := .boolean) Bd.returns (by simp) (hb hby d7_55) hr)), hrun, hended, _, _, rfl, ?_, ⟨_, rfl⟩, hW, hsame.mono (by decide) (by decide)⟩
    show Qkeeps27 Z o0_ x0_ x1_ ko0_ x2_ x3_ x4_ x5_ x6_ x7_ x8_ x9_ h0 n0 _ s₁.heap _
    rw [e0]
    exact ⟨(1 : Int32), rfl, (Or.inl ⟨rfl, hc3⟩), N0, rfl⟩
  · have pre6 : ∀ t, own_S p e below m s₁ 55 #[lvR o0_, lvI (0 : Int32), lvI (2 : Int32), lvI x0_, lvI x1_, lvI x0_, lvI (24 : Int32)] [(.int (0 : Int32))] t → G t := by
      intro t kt
      refine pre2 t ?_
      show own_S p e below m s₁ 47 #[lvR o0_, lvI (0 : Int32), lvI (2 : Int32), lvI x0_, lvI x1_, lvI x0_, lvI (24 : Int32)] [(.int (((x0_.toUInt32 >>> ((24 : Int32) &&& 31).toUInt32).toInt32).toInt8.toInt32)), (.int x2_)] _
      refine XS.icmpYes X0.here hx rfl (pc0 := 47) (pc' := 54) rfl (hb hby d7_47) rfl (feq hc3).2 (by decide) (by decide) ?_
      refine XS.iconst X0.here hx rfl (hb hby d7_54) ?_
      exact kt
    obtain ⟨fs, hr, hrun, hended, hW, hsame⟩ := X0.leave (v := some (.int (0 : Int32))) (fun h => by rw [Bd.returns] at h; cases h)
    refine ⟨_, _, hG _ (pre6 _ (retN X0 hx (t := .boolean) Bd.returns (by simp) (hb hby d7_55) hr)), hrun, hended, _, _, rfl, ?_, ⟨_, rfl⟩, hW, hsame.mono (by decide) (by decide)⟩
    show Qkeeps27 Z o0_ x0_ x1_ ko0_ x2_ x3_ x4_ x5_ x6_ x7_ x8_ x9_ h0 n0 _ s₁.heap _
    rw [e0]
    exact ⟨(0 : Int32), rfl, (Or.inr ⟨rfl, hc3⟩), N0, rfl⟩
theorem efkeeps28 (m : MethodId) (o0_ : Addr) (x0_ : Int32) (x1_ : Int32) : entryFrame m #[(.ref o0_), (.int (1 : Int32)), (.int (2 : Int32)), (.int x0_), (.int x1_)] 7 = mkF m 0 #[lvR o0_, lvI (1 : Int32), lvI (2 : Int32), lvI x0_, lvI x1_, .unset, .unset] [] := by first | (simp [entryFrame, mkF, argsToLocals, Value.category]; done) | rfl
def Qkeeps28 (Z : State) (o0_ : Addr) (x0_ : Int32) (x1_ : Int32) (ko0_ : ClassId) (x2_ : Int32) (x3_ : Int32) (x4_ : Int32) (x5_ : Int32) (x6_ : Int32) (x7_ : Int32) (x8_ : Int32) (x9_ : Int32) (h0 : Heap) (n0 : Nat) (v : Option Value) (h : Heap) (L : List Loc) : Prop := ∃ r_ : Int32, v = some (.int r_) ∧ (((1 : Int32) = r_ ∧ (x3_ = (((x0_.toUInt32 >>> ((16 : Int32) &&& 31).toUInt32).toInt32).toInt8.toInt32))) ∨ ((0 : Int32) = r_ ∧ (¬ (x3_ = (((x0_.toUInt32 >>> ((16 : Int32) &&& 31).toUInt32).toInt32).toInt8.toInt32))))) ∧ Fr n0 L ∧ h = h0
set_option maxRecDepth 65536 in
set_option maxHeartbeats 40000000 in
theorem rmkeeps28 (l : Launch) (Z : State) (a0 : Array Value) (hw : ∀ d ∈ tables_1, d.before a0 Z = true) (ws : List Jvm.Cond) (o0_ : Addr) (x0_ : Int32) (x1_ : Int32) (ko0_ : ClassId) (x2_ : Int32) (x3_ : Int32) (x4_ : Int32) (x5_ : Int32) (x6_ : Int32) (x7_ : Int32) (x8_ : Int32) (x9_ : Int32) (h0 : Heap) (n0 : Nat) (O0 : Old Z n0 h0) (P0 : Arv Z h0 o0_ ko0_ .byte (8 : Int32) [(.int x2_), (.int x3_), (.int x4_), (.int x5_), (.int x6_), (.int x7_), (.int x8_), (.int x9_)] (.int (0 : Int32))) (P1 : Exa Z h0 o0_ "[B") :
    MetFree l (⟨"com/example/stackweave/stackweave/classfile/ByteWriterU4AtPinLaw", "keeps", "([BIIII)Z"⟩ : MethodName) (head1 (Jvm.Cond.code (⟨"com/example/stackweave/stackweave/classfile/ByteWriterU4AtPinLaw", "keeps", "([BIIII)Z"⟩ : MethodName) method_3_code 7 (some .boolean) :: ws) ({ frames := 0, cells := 0, slots := 0, locals := 0 } : Room)) (fun a U => a = #[(.ref o0_), (.int (1 : Int32)), (.int (2 : Int32)), (.int x0_), (.int x1_)] ∧ Z.Warmed39 U.vm ∧ U.heap = h0) (fun _ _ _ _ _ => True) (fun _ U o U' => ∃ v L, o = .returned v ∧ Qkeeps28 Z o0_ x0_ x1_ ko0_ x2_ x3_ x4_ x5_ x6_ x7_ x8_ x9_ h0 n0 v U'.heap L ∧ FrameEnd U o U' L ({ frames := 0, cells := 0, slots := 0, locals := 0 } : Room).cells ({ frames := 0, cells := 0, slots := 0, locals := 0 } : Room).slots) := by
  refine MetFree.of_bodySF (plainFor_of_name pn_1) hisR ?_
  intro p e s m args below meth c s₁ Bd hml0 hP hK
  obtain ⟨rfl, hZ, hh⟩ := hP
  have hx := Bd.exec
  have hby := Bd.bytes
  have hml : c.maxLocals = 7 := hml0
  have hown : s.vm.findClass "com/example/stackweave/stackweave/classfile/ByteWriterU4AtPinLaw" = some m.cls := findClass_of_methodNamed Bd.named
  have hnm := (name_of_methodNamed Bd.named Bd.method).1
  have X0 : Stand p l e ({ frames := 0, cells := 0, slots := 0, locals := 0 } : Room) s m #[(.ref o0_), (.int (1 : Int32)), (.int (2 : Int32)), (.int x0_), (.int x1_)] below meth c s₁ [] 0 0 := Stand.of_body Bd
  have e0 : s₁.heap = h0 := by rw [← hh, Bd.state]; rfl
  have N0 := Fr.nil n0
  obtain ⟨G, pre0, hG⟩ : ∃ G : State → Prop, (∀ t, own_S p e below m s₁ 0 #[lvR o0_, lvI (1 : Int32), lvI (2 : Int32), lvI x0_, lvI x1_, .unset, .unset] [] t → G t) ∧ (∀ t, G t → Steps p.tables e below (s₁.setTop (entryFrame m #[(.ref o0_), (.int (1 : Int32)), (.int (2 : Int32)), (.int x0_), (.int x1_)] 7)) t) := ⟨fun t => Steps p.tables e below (s₁.setTop (entryFrame m #[(.ref o0_), (.int (1 : Int32)), (.int (2 : Int32)), (.int x0_), (.int x1_)] 7)) t, fun t k => castTop (efkeeps28 m o0_ x0_ x1_) k, fun _ k => k⟩
  have K0 : Keep h0 h0 [] := Keep.refl _ _
  obtain ⟨c1, r1, q1, s1, z1, y1, G1⟩ := id P0
  have hin1 : ¬ ((1 : Int32) < 0 ∨ c1.slots.size ≤ ((1 : Int32)).toNatClampNeg) := inb_of s1 ⟨by decide, by decide⟩
  have hat1 : c1.slots[((1 : Int32)).toNatClampNeg]? = some (.int x3_) := Has.at y1 hin1 rfl
  have pre2 : ∀ t, own_S p e below m s₁ 47 #[lvR o0_, lvI (1 : Int32), lvI (2 : Int32), lvI x0_, lvI x1_, lvI x0_, lvI (16 : Int32)] [(.int (((x0_.toUInt32 >>> ((16 : Int32) &&& 31).toUInt32).toInt32).toInt8.toInt32)), (.int x3_)] t → G t := by
    intro t kt
    refine pre0 t ?_
    show own_S p e below m s₁ 0 #[lvR o0_, lvI (1 : Int32), lvI (2 : Int32), lvI x0_, lvI x1_, .unset, .unset] [] _
    refine XS.iloadN X0.here hx rfl (hb hby d7_0) rfl ?_
    refine XS.iloadN X0.here hx rfl (hb hby d7_1) rfl ?_
    show own_S p e below m s₁ 2 #[lvR o0_, lvI (1 : Int32), lvI (2 : Int32), lvI x0_, lvI x1_, .unset, .unset] [(.int (2 : Int32)), (.int (1 : Int32))] _
    refine XS.icmpYes X0.here hx rfl (pc0 := 2) (pc' := 14) rfl (hb hby d7_2) rfl (tlt (by decide : (1 : Int32) < (2 : Int32))).1 (by decide) (by decide) ?_
    refine XS.iloadN X0.here hx rfl (hb hby d7_14) rfl ?_
    refine XS.iconst X0.here hx rfl (hb hby d7_15) ?_
    show own_S p e below m s₁ 16 #[lvR o0_, lvI (1 : Int32), lvI (2 : Int32), lvI x0_, lvI x1_, .unset, .unset] [(.int (4 : Int32)), (.int (1 : Int32))] _
    refine XS.icmpNo X0.here hx rfl (hb hby d7_16) rfl (tlt (by decide : (1 : Int32) < (4 : Int32))).2.1 ?_
    refine XS.iloadN X0.here hx rfl (hb hby d7_19) rfl ?_
    refine XS.goto X0.here hx rfl (pc0 := 20) (pc' := 25) rfl (hb hby d7_20) (by decide) (by decide) ?_
    refine XS.istore X0.here hx rfl (hb hby d7_25) rfl (l' := #[lvR o0_, lvI (1 : Int32), lvI (2 : Int32), lvI x0_, lvI x1_, lvI x0_, .unset]) rfl ?_
    show own_S p e below m s₁ 27 #[lvR o0_, lvI (1 : Int32), lvI (2 : Int32), lvI x0_, lvI x1_, lvI x0_, .unset] [] _
    refine XS.bipush X0.here hx rfl (hb hby d7_27) ?_
    refine XS.bipush X0.here hx rfl (hb hby d7_29) ?_
    refine XS.iloadN X0.here hx rfl (hb hby d7_31) rfl ?_
    refine XS.iconst X0.here hx rfl (hb hby d7_32) ?_
    show own_S p e below m s₁ 33 #[lvR o0_, lvI (1 : Int32), lvI (2 : Int32), lvI x0_, lvI x1_, lvI x0_, .unset] [(.int (3 : Int32)), (.int (1 : Int32)), (.int (8 : Int32)), (.int (24 : Int32))] _
    refine XS.iand X0.here hx rfl (hb hby d7_33) rfl ?_
    refine XS.imul X0.here hx rfl (hb hby d7_34) rfl ?_
    refine XS.isub X0.here hx rfl (hb hby d7_35) rfl ?_
    refine XS.istore X0.here hx rfl (hb hby d7_36) rfl (l' := #[lvR o0_, lvI (1 : Int32), lvI (2 : Int32), lvI x0_, lvI x1_, lvI x0_, lvI (16 : Int32)]) rfl ?_
    show own_S p e below m s₁ 38 #[lvR o0_, lvI (1 : Int32), lvI (2 : Int32), lvI x0_, lvI x1_, lvI x0_, lvI (16 : Int32)] [] _
    refine XS.aloadN X0.here hx rfl (hb hby d7_38) rfl rfl ?_
    refine XS.iloadN X0.here hx rfl (hb hby d7_39) rfl ?_
    show own_S p e below m s₁ 40 #[lvR o0_, lvI (1 : Int32), lvI (2 : Int32), lvI x0_, lvI x1_, lvI x0_, lvI (16 : Int32)] [(.int (1 : Int32)), (.ref o0_)] _
    refine X0.baloadBytes hx (j := (1 : Int32)) (v := (.int x3_)) (by rw [e0]; exact r1.1) (State.isArrayOf_alike hZ.alike r1.2.1) r1.2.2 hin1 hat1 (g := (mkF m 40 #[lvR o0_, lvI (1 : Int32), lvI (2 : Int32), lvI x0_, lvI x1_, lvI x0_, lvI (16 : Int32)] [(.int (1 : Int32)), (.ref o0_)])) rfl rfl (hb hby d7_40) _ ?_
    refine XS.iload X0.here hx rfl (hb hby d7_41) rfl ?_
    refine XS.iload X0.here hx rfl (hb hby d7_43) rfl ?_
    show own_S p e below m s₁ 45 #[lvR o0_, lvI (1 : Int32), lvI (2 : Int32), lvI x0_, lvI x1_, lvI x0_, lvI (16 : Int32)] [(.int (16 : Int32)), (.int x0_), (.int x3_)] _
    refine XS.iushr X0.here hx rfl (hb hby d7_45) rfl ?_
    show own_S p e below m s₁ 46 #[lvR o0_, lvI (1 : Int32), lvI (2 : Int32), lvI x0_, lvI x1_, lvI x0_, lvI (16 : Int32)] [(.int ((x0_.toUInt32 >>> ((16 : Int32) &&& 31).toUInt32).toInt32)), (.int x3_)] _
    refine XS.i2b X0.here hx rfl (hb hby d7_46) rfl ?_
    exact kt
  by_cases hc3 : x3_ = (((x0_.toUInt32 >>> ((16 : Int32) &&& 31).toUInt32).toInt32).toInt8.toInt32)
  · have pre4 : ∀ t, own_S p e below m s₁ 55 #[lvR o0_, lvI (1 : Int32), lvI (2 : Int32), lvI x0_, lvI x1_, lvI x0_, lvI (16 : Int32)] [(.int (1 : Int32))] t → G t := by
      intro t kt
      refine pre2 t ?_
      show own_S p e below m s₁ 47 #[lvR o0_, lvI (1 : Int32), lvI (2 : Int32), lvI x0_, lvI x1_, lvI x0_, lvI (16 : Int32)] [(.int (((x0_.toUInt32 >>> ((16 : Int32) &&& 31).toUInt32).toInt32).toInt8.toInt32)), (.int x3_)] _
      refine XS.icmpNo X0.here hx rfl (hb hby d7_47) rfl (teq hc3).2 ?_
      refine XS.iconst X0.here hx rfl (hb hby d7_50) ?_
      refine XS.goto X0.here hx rfl (pc0 := 51) (pc' := 55) rfl (hb hby d7_51) (by decide) (by decide) ?_
      exact kt
    obtain ⟨fs, hr, hrun, hended, hW, hsame⟩ := X0.leave (v := some (.int (1 : Int32))) (fun h => by rw [Bd.returns] at h; cases h)
    refine ⟨_, _, hG _ (pre4 _ (retN X0 hx (t := .boolean) Bd.returns (by simp) (hb hby d7_55) hr)), hrun, hended, _, _, rfl, ?_, ⟨_, rfl⟩, hW, hsame.mono (by decide) (by decide)⟩
    show Qkeeps28 Z o0_ x0_ x1_ ko0_ x2_ x3_ x4_ x5_ x6_ x7_ x8_ x9_ h0 n0 _ s₁.heap _
    rw [e0]
    exact ⟨(1 : Int32), rfl, (Or.inl ⟨rfl, hc3⟩), N0, rfl⟩
  · have pre6 : ∀ t, own_S p e below m s₁ 55 #[lvR o0_, lvI (1 : Int32), lvI (2 : Int32), lvI x0_, lvI x1_, lvI x0_, lvI (16 : Int32)] [(.int (0 : Int32))] t → G t := by
      intro t kt
      refine pre2 t ?_
      show own_S p e below m s₁ 47 #[lvR o0_, lvI (1 : Int32), lvI (2 : Int32), lvI x0_, lvI x1_, lvI x0_, lvI (16 : Int32)] [(.int (((x0_.toUInt32 >>> ((16 : Int32) &&& 31).toUInt32).toInt32).toInt8.toInt32)), (.int x3_)] _
      refine XS.icmpYes X0.here hx rfl (pc0 := 47) (pc' := 54) rfl (hb hby d7_47) rfl (feq hc3).2 (by decide) (by decide) ?_
      refine XS.iconst X0.here hx rfl (hb hby d7_54) ?_
      exact kt
    obtain ⟨fs, hr, hrun, hended, hW, hsame⟩ := X0.leave (v := some (.int (0 : Int32))) (fun h => by rw [Bd.returns] at h; cases h)
    refine ⟨_, _, hG _ (pre6 _ (retN X0 hx (t := .boolean) Bd.returns (by simp) (hb hby d7_55) hr)), hrun, hended, _, _, rfl, ?_, ⟨_, rfl⟩, hW, hsame.mono (by decide) (by decide)⟩
    show Qkeeps28 Z o0_ x0_ x1_ ko0_ x2_ x3_ x4_ x5_ x6_ x7_ x8_ x9_ h0 n0 _ s₁.heap _
    rw [e0]
    exact ⟨(0 : Int32), rfl, (Or.inr ⟨rfl, hc3⟩), N0, rfl⟩
theorem efkeeps29 (m : MethodId) (o0_ : Addr) (x0_ : Int32) (x1_ : Int32) : entryFrame m #[(.ref o0_), (.int (2 : Int32)), (.int (2 : Int32)), (.int x0_), (.int x1_)] 7 = mkF m 0 #[lvR o0_, lvI (2 : Int32), lvI (2 : Int32), lvI x0_, lvI x1_, .unset, .unset] [] := by first | (simp [entryFrame, mkF, argsToLocals, Value.category]; done) | rfl
def Qkeeps29 (Z : State) (o0_ : Addr) (x0_ : Int32) (x1_ : Int32) (ko0_ : ClassId) (x2_ : Int32) (x3_ : Int32) (x4_ : Int32) (x5_ : Int32) (x6_ : Int32) (x7_ : Int32) (x8_ : Int32) (x9_ : Int32) (h0 : Heap) (n0 : Nat) (v : Option Value) (h : Heap) (L : List Loc) : Prop := v = some (.int (1 : Int32)) ∧ Fr n0 L ∧ h = h0
set_option maxRecDepth 65536 in
set_option maxHeartbeats 40000000 in
theorem rmkeeps29 (l : Launch) (Z : State) (a0 : Array Value) (hw : ∀ d ∈ tables_1, d.before a0 Z = true) (ws : List Jvm.Cond) (o0_ : Addr) (x0_ : Int32) (x1_ : Int32) (ko0_ : ClassId) (x2_ : Int32) (x3_ : Int32) (x4_ : Int32) (x5_ : Int32) (x6_ : Int32) (x7_ : Int32) (x8_ : Int32) (x9_ : Int32) (h0 : Heap) (n0 : Nat) (O0 : Old Z n0 h0) (P0 : Arv Z h0 o0_ ko0_ .byte (8 : Int32) [(.int x2_), (.int x3_), (.int x4_), (.int x5_), (.int x6_), (.int x7_), (.int x8_), (.int x9_)] (.int (0 : Int32))) (P1 : Exa Z h0 o0_ "[B") :
    MetFree l (⟨"com/example/stackweave/stackweave/classfile/ByteWriterU4AtPinLaw", "keeps", "([BIIII)Z"⟩ : MethodName) (head1 (Jvm.Cond.code (⟨"com/example/stackweave/stackweave/classfile/ByteWriterU4AtPinLaw", "keeps", "([BIIII)Z"⟩ : MethodName) method_3_code 7 (some .boolean) :: ws) ({ frames := 0, cells := 0, slots := 0, locals := 0 } : Room)) (fun a U => a = #[(.ref o0_), (.int (2 : Int32)), (.int (2 : Int32)), (.int x0_), (.int x1_)] ∧ Z.Warmed39 U.vm ∧ U.heap = h0) (fun _ _ _ _ _ => True) (fun _ U o U' => ∃ v L, o = .returned v ∧ Qkeeps29 Z o0_ x0_ x1_ ko0_ x2_ x3_ x4_ x5_ x6_ x7_ x8_ x9_ h0 n0 v U'.heap L ∧ FrameEnd U o U' L ({ frames := 0, cells := 0, slots := 0, locals := 0 } : Room).cells ({ frames := 0, cells := 0, slots := 0, locals := 0 } : Room).slots) := by
  refine MetFree.of_bodySF (plainFor_of_name pn_1) hisR ?_
  intro p e s m args below meth c s₁ Bd hml0 hP hK
  obtain ⟨rfl, hZ, hh⟩ := hP
  have hx := Bd.exec
  have hby := Bd.bytes
  have hml : c.maxLocals = 7 := hml0
  have hown : s.vm.findClass "com/example/stackweave/stackweave/classfile/ByteWriterU4AtPinLaw" = some m.cls := findClass_of_methodNamed Bd.named
  have hnm := (name_of_methodNamed Bd.named Bd.method).1
  have X0 : Stand p l e ({ frames := 0, cells := 0, slots := 0, locals := 0 } : Room) s m #[(.ref o0_), (.int (2 : Int32)), (.int (2 : Int32)), (.int x0_), (.int x1_)] below meth c s₁ [] 0 0 := Stand.of_body Bd
  have e0 : s₁.heap = h0 := by rw [← hh, Bd.state]; rfl
  have N0 := Fr.nil n0
  obtain ⟨G, pre0, hG⟩ : ∃ G : State → Prop, (∀ t, own_S p e below m s₁ 0 #[lvR o0_, lvI (2 : Int32), lvI (2 : Int32), lvI x0_, lvI x1_, .unset, .unset] [] t → G t) ∧ (∀ t, G t → Steps p.tables e below (s₁.setTop (entryFrame m #[(.ref o0_), (.int (2 : Int32)), (.int (2 : Int32)), (.int x0_), (.int x1_)] 7)) t) := ⟨fun t => Steps p.tables e below (s₁.setTop (entryFrame m #[(.ref o0_), (.int (2 : Int32)), (.int (2 : Int32)), (.int x0_), (.int x1_)] 7)) t, fun t k => castTop (efkeeps29 m o0_ x0_ x1_) k, fun _ k => k⟩
  have K0 : Keep h0 h0 [] := Keep.refl _ _
  have pre1 : ∀ t, own_S p e below m s₁ 13 #[lvR o0_, lvI (2 : Int32), lvI (2 : Int32), lvI x0_, lvI x1_, .unset, .unset] [(.int (1 : Int32))] t → G t := by
    intro t kt
    refine pre0 t ?_
    show own_S p e below m s₁ 0 #[lvR o0_, lvI (2 : Int32), lvI (2 : Int32), lvI x0_, lvI x1_, .unset, .unset] [] _
    refine XS.iloadN X0.here hx rfl (hb hby d7_0) rfl ?_
    refine XS.iloadN X0.here hx rfl (hb hby d7_1) rfl ?_
    show own_S p e below m s₁ 2 #[lvR o0_, lvI (2 : Int32), lvI (2 : Int32), lvI x0_, lvI x1_, .unset, .unset] [(.int (2 : Int32)), (.int (2 : Int32))] _
    refine XS.icmpNo X0.here hx rfl (hb hby d7_2) rfl (flt (by decide : ¬ ((2 : Int32) < (2 : Int32)))).1 ?_
    refine XS.iloadN X0.here hx rfl (hb hby d7_5) rfl ?_
    refine XS.iloadN X0.here hx rfl (hb hby d7_6) rfl ?_
    refine XS.iconst X0.here hx rfl (hb hby d7_7) ?_
    show own_S p e below m s₁ 8 #[lvR o0_, lvI (2 : Int32), lvI (2 : Int32), lvI x0_, lvI x1_, .unset, .unset] [(.int (4 : Int32)), (.int (2 : Int32)), (.int (2 : Int32))] _
    refine XS.iadd X0.here hx rfl (hb hby d7_8) rfl ?_
    show own_S p e below m s₁ 9 #[lvR o0_, lvI (2 : Int32), lvI (2 : Int32), lvI x0_, lvI x1_, .unset, .unset] [(.int (6 : Int32)), (.int (2 : Int32))] _
    refine XS.icmpNo X0.here hx rfl (hb hby d7_9) rfl (tlt (by decide : (2 : Int32) < (6 : Int32))).2.1 ?_
    refine XS.iconst X0.here hx rfl (hb hby d7_12) ?_
    exact kt
  obtain ⟨fs, hr, hrun, hended, hW, hsame⟩ := X0.leave (v := some (.int (1 : Int32))) (fun h => by rw [Bd.returns] at h; cases h)
  refine ⟨_, _, hG _ (pre1 _ (retN X0 hx (t := .boolean) Bd.returns (by simp) (hb hby d7_13) hr)), hrun, hended, _, _, rfl, ?_, ⟨_, rfl⟩, hW, hsame.mono (by decide) (by decide)⟩
  show Qkeeps29 Z o0_ x0_ x1_ ko0_ x2_ x3_ x4_ x5_ x6_ x7_ x8_ x9_ h0 n0 _ s₁.heap _
  rw [e0]
  exact ⟨rfl, N0, rfl⟩
theorem efkeeps30 (m : MethodId) (o0_ : Addr) (x0_ : Int32) (x1_ : Int32) : entryFrame m #[(.ref o0_), (.int (3 : Int32)), (.int (2 : Int32)), (.int x0_), (.int x1_)] 7 = mkF m 0 #[lvR o0_, lvI (3 : Int32), lvI (2 : Int32), lvI x0_, lvI x1_, .unset, .unset] [] := by first | (simp [entryFrame, mkF, argsToLocals, Value.category]; done) | rfl
def Qkeeps30 (Z : State) (o0_ : Addr) (x0_ : Int32) (x1_ : Int32) (ko0_ : ClassId) (x2_ : Int32) (x3_ : Int32) (x4_ : Int32) (x5_ : Int32) (x6_ : Int32) (x7_ : Int32) (x8_ : Int32) (x9_ : Int32) (h0 : Heap) (n0 : Nat) (v : Option Value) (h : Heap) (L : List Loc) : Prop := v = some (.int (1 : Int32)) ∧ Fr n0 L ∧ h = h0
set_option maxRecDepth 65536 in
set_option maxHeartbeats 40000000 in
theorem rmkeeps30 (l : Launch) (Z : State) (a0 : Array Value) (hw : ∀ d ∈ tables_1, d.before a0 Z = true) (ws : List Jvm.Cond) (o0_ : Addr) (x0_ : Int32) (x1_ : Int32) (ko0_ : ClassId) (x2_ : Int32) (x3_ : Int32) (x4_ : Int32) (x5_ : Int32) (x6_ : Int32) (x7_ : Int32) (x8_ : Int32) (x9_ : Int32) (h0 : Heap) (n0 : Nat) (O0 : Old Z n0 h0) (P0 : Arv Z h0 o0_ ko0_ .byte (8 : Int32) [(.int x2_), (.int x3_), (.int x4_), (.int x5_), (.int x6_), (.int x7_), (.int x8_), (.int x9_)] (.int (0 : Int32))) (P1 : Exa Z h0 o0_ "[B") :
    MetFree l (⟨"com/example/stackweave/stackweave/classfile/ByteWriterU4AtPinLaw", "keeps", "([BIIII)Z"⟩ : MethodName) (head1 (Jvm.Cond.code (⟨"com/example/stackweave/stackweave/classfile/ByteWriterU4AtPinLaw", "keeps", "([BIIII)Z"⟩ : MethodName) method_3_code 7 (some .boolean) :: ws) ({ frames := 0, cells := 0, slots := 0, locals := 0 } : Room)) (fun a U => a = #[(.ref o0_), (.int (3 : Int32)), (.int (2 : Int32)), (.int x0_), (.int x1_)] ∧ Z.Warmed39 U.vm ∧ U.heap = h0) (fun _ _ _ _ _ => True) (fun _ U o U' => ∃ v L, o = .returned v ∧ Qkeeps30 Z o0_ x0_ x1_ ko0_ x2_ x3_ x4_ x5_ x6_ x7_ x8_ x9_ h0 n0 v U'.heap L ∧ FrameEnd U o U' L ({ frames := 0, cells := 0, slots := 0, locals := 0 } : Room).cells ({ frames := 0, cells := 0, slots := 0, locals := 0 } : Room).slots) := by
  refine MetFree.of_bodySF (plainFor_of_name pn_1) hisR ?_
  intro p e s m args below meth c s₁ Bd hml0 hP hK
  obtain ⟨rfl, hZ, hh⟩ := hP
  have hx := Bd.exec
  have hby := Bd.bytes
  have hml : c.maxLocals = 7 := hml0
  have hown : s.vm.findClass "com/example/stackweave/stackweave/classfile/ByteWriterU4AtPinLaw" = some m.cls := findClass_of_methodNamed Bd.named
  have hnm := (name_of_methodNamed Bd.named Bd.method).1
  have X0 : Stand p l e ({ frames := 0, cells := 0, slots := 0, locals := 0 } : Room) s m #[(.ref o0_), (.int (3 : Int32)), (.int (2 : Int32)), (.int x0_), (.int x1_)] below meth c s₁ [] 0 0 := Stand.of_body Bd
  have e0 : s₁.heap = h0 := by rw [← hh, Bd.state]; rfl
  have N0 := Fr.nil n0
  obtain ⟨G, pre0, hG⟩ : ∃ G : State → Prop, (∀ t, own_S p e below m s₁ 0 #[lvR o0_, lvI (3 : Int32), lvI (2 : Int32), lvI x0_, lvI x1_, .unset, .unset] [] t → G t) ∧ (∀ t, G t → Steps p.tables e below (s₁.setTop (entryFrame m #[(.ref o0_), (.int (3 : Int32)), (.int (2 : Int32)), (.int x0_), (.int x1_)] 7)) t) := ⟨fun t => Steps p.tables e below (s₁.setTop (entryFrame m #[(.ref o0_), (.int (3 : Int32)), (.int (2 : Int32)), (.int x0_), (.int x1_)] 7)) t, fun t k => castTop (efkeeps30 m o0_ x0_ x1_) k, fun _ k => k⟩
  have K0 : Keep h0 h0 [] := Keep.refl _ _
  have pre1 : ∀ t, own_S p e below m s₁ 13 #[lvR o0_, lvI (3 : Int32), lvI (2 : Int32), lvI x0_, lvI x1_, .unset, .unset] [(.int (1 : Int32))] t → G t := by
    intro t kt
    refine pre0 t ?_
    show own_S p e below m s₁ 0 #[lvR o0_, lvI (3 : Int32), lvI (2 : Int32), lvI x0_, lvI x1_, .unset, .unset] [] _
    refine XS.iloadN X0.here hx rfl (hb hby d7_0) rfl ?_
    refine XS.iloadN X0.here hx rfl (hb hby d7_1) rfl ?_
    show own_S p e below m s₁ 2 #[lvR o0_, lvI (3 : Int32), lvI (2 : Int32), lvI x0_, lvI x1_, .unset, .unset] [(.int (2 : Int32)), (.int (3 : Int32))] _
    refine XS.icmpNo X0.here hx rfl (hb hby d7_2) rfl (flt (by decide : ¬ ((3 : Int32) < (2 : Int32)))).1 ?_
    refine XS.iloadN X0.here hx rfl (hb hby d7_5) rfl ?_
    refine XS.iloadN X0.here hx rfl (hb hby d7_6) rfl ?_
    refine XS.iconst X0.here hx rfl (hb hby d7_7) ?_
    show own_S p e below m s₁ 8 #[lvR o0_, lvI (3 : Int32), lvI (2 : Int32), lvI x0_, lvI x1_, .unset, .unset] [(.int (4 : Int32)), (.int (2 : Int32)), (.int (3 : Int32))] _
    refine XS.iadd X0.here hx rfl (hb hby d7_8) rfl ?_
    show own_S p e below m s₁ 9 #[lvR o0_, lvI (3 : Int32), lvI (2 : Int32), lvI x0_, lvI x1_, .unset, .unset] [(.int (6 : Int32)), (.int (3 : Int32))] _
    refine XS.icmpNo X0.here hx rfl (hb hby d7_9) rfl (tlt (by decide : (3 : Int32) < (6 : Int32))).2.1 ?_
    refine XS.iconst X0.here hx rfl (hb hby d7_12) ?_
    exact kt
  obtain ⟨fs, hr, hrun, hended, hW, hsame⟩ := X0.leave (v := some (.int (1 : Int32))) (fun h => by rw [Bd.returns] at h; cases h)
  refine ⟨_, _, hG _ (pre1 _ (retN X0 hx (t := .boolean) Bd.returns (by simp) (hb hby d7_13) hr)), hrun, hended, _, _, rfl, ?_, ⟨_, rfl⟩, hW, hsame.mono (by decide) (by decide)⟩
  show Qkeeps30 Z o0_ x0_ x1_ ko0_ x2_ x3_ x4_ x5_ x6_ x7_ x8_ x9_ h0 n0 _ s₁.heap _
  rw [e0]
  exact ⟨rfl, N0, rfl⟩
theorem efkeeps31 (m : MethodId) (o0_ : Addr) (x0_ : Int32) (x1_ : Int32) : entryFrame m #[(.ref o0_), (.int (4 : Int32)), (.int (2 : Int32)), (.int x0_), (.int x1_)] 7 = mkF m 0 #[lvR o0_, lvI (4 : Int32), lvI (2 : Int32), lvI x0_, lvI x1_, .unset, .unset] [] := by first | (simp [entryFrame, mkF, argsToLocals, Value.category]; done) | rfl
def Qkeeps31 (Z : State) (o0_ : Addr) (x0_ : Int32) (x1_ : Int32) (ko0_ : ClassId) (x2_ : Int32) (x3_ : Int32) (x4_ : Int32) (x5_ : Int32) (x6_ : Int32) (x7_ : Int32) (x8_ : Int32) (x9_ : Int32) (h0 : Heap) (n0 : Nat) (v : Option Value) (h : Heap) (L : List Loc) : Prop := v = some (.int (1 : Int32)) ∧ Fr n0 L ∧ h = h0
set_option maxRecDepth 65536 in
set_option maxHeartbeats 40000000 in
theorem rmkeeps31 (l : Launch) (Z : State) (a0 : Array Value) (hw : ∀ d ∈ tables_1, d.before a0 Z = true) (ws : List Jvm.Cond) (o0_ : Addr) (x0_ : Int32) (x1_ : Int32) (ko0_ : ClassId) (x2_ : Int32) (x3_ : Int32) (x4_ : Int32) (x5_ : Int32) (x6_ : Int32) (x7_ : Int32) (x8_ : Int32) (x9_ : Int32) (h0 : Heap) (n0 : Nat) (O0 : Old Z n0 h0) (P0 : Arv Z h0 o0_ ko0_ .byte (8 : Int32) [(.int x2_), (.int x3_), (.int x4_), (.int x5_), (.int x6_), (.int x7_), (.int x8_), (.int x9_)] (.int (0 : Int32))) (P1 : Exa Z h0 o0_ "[B") :
    MetFree l (⟨"com/example/stackweave/stackweave/classfile/ByteWriterU4AtPinLaw", "keeps", "([BIIII)Z"⟩ : MethodName) (head1 (Jvm.Cond.code (⟨"com/example/stackweave/stackweave/classfile/ByteWriterU4AtPinLaw", "keeps", "([BIIII)Z"⟩ : MethodName) method_3_code 7 (some .boolean) :: ws) ({ frames := 0, cells := 0, slots := 0, locals := 0 } : Room)) (fun a U => a = #[(.ref o0_), (.int (4 : Int32)), (.int (2 : Int32)), (.int x0_), (.int x1_)] ∧ Z.Warmed39 U.vm ∧ U.heap = h0) (fun _ _ _ _ _ => True) (fun _ U o U' => ∃ v L, o = .returned v ∧ Qkeeps31 Z o0_ x0_ x1_ ko0_ x2_ x3_ x4_ x5_ x6_ x7_ x8_ x9_ h0 n0 v U'.heap L ∧ FrameEnd U o U' L ({ frames := 0, cells := 0, slots := 0, locals := 0 } : Room).cells ({ frames := 0, cells := 0, slots := 0, locals := 0 } : Room).slots) := by
  refine MetFree.of_bodySF (plainFor_of_name pn_1) hisR ?_
  intro p e s m args below meth c s₁ Bd hml0 hP hK
  obtain ⟨rfl, hZ, hh⟩ := hP
  have hx := Bd.exec
  have hby := Bd.bytes
  have hml : c.maxLocals = 7 := hml0
  have hown : s.vm.findClass "com/example/stackweave/stackweave/classfile/ByteWriterU4AtPinLaw" = some m.cls := findClass_of_methodNamed Bd.named
  have hnm := (name_of_methodNamed Bd.named Bd.method).1
  have X0 : Stand p l e ({ frames := 0, cells := 0, slots := 0, locals := 0 } : Room) s m #[(.ref o0_), (.int (4 : Int32)), (.int (2 : Int32)), (.int x0_), (.int x1_)] below meth c s₁ [] 0 0 := Stand.of_body Bd
  have e0 : s₁.heap = h0 := by rw [← hh, Bd.state]; rfl
  have N0 := Fr.nil n0
  obtain ⟨G, pre0, hG⟩ : ∃ G : State → Prop, (∀ t, own_S p e below m s₁ 0 #[lvR o0_, lvI (4 : Int32), lvI (2 : Int32), lvI x0_, lvI x1_, .unset, .unset] [] t → G t) ∧ (∀ t, G t → Steps p.tables e below (s₁.setTop (entryFrame m #[(.ref o0_), (.int (4 : Int32)), (.int (2 : Int32)), (.int x0_), (.int x1_)] 7)) t) := ⟨fun t => Steps p.tables e below (s₁.setTop (entryFrame m #[(.ref o0_), (.int (4 : Int32)), (.int (2 : Int32)), (.int x0_), (.int x1_)] 7)) t, fun t k => castTop (efkeeps31 m o0_ x0_ x1_) k, fun _ k => k⟩
  have K0 : Keep h0 h0 [] := Keep.refl _ _
  have pre1 : ∀ t, own_S p e below m s₁ 13 #[lvR o0_, lvI (4 : Int32), lvI (2 : Int32), lvI x0_, lvI x1_, .unset, .unset] [(.int (1 : Int32))] t → G t := by
    intro t kt
    refine pre0 t ?_
    show own_S p e below m s₁ 0 #[lvR o0_, lvI (4 : Int32), lvI (2 : Int32), lvI x0_, lvI x1_, .unset, .unset] [] _
    refine XS.iloadN X0.here hx rfl (hb hby d7_0) rfl ?_
    refine XS.iloadN X0.here hx rfl (hb hby d7_1) rfl ?_
    show own_S p e below m s₁ 2 #[lvR o0_, lvI (4 : Int32), lvI (2 : Int32), lvI x0_, lvI x1_, .unset, .unset] [(.int (2 : Int32)), (.int (4 : Int32))] _
    refine XS.icmpNo X0.here hx rfl (hb hby d7_2) rfl (flt (by decide : ¬ ((4 : Int32) < (2 : Int32)))).1 ?_
    refine XS.iloadN X0.here hx rfl (hb hby d7_5) rfl ?_
    refine XS.iloadN X0.here hx rfl (hb hby d7_6) rfl ?_
    refine XS.iconst X0.here hx rfl (hb hby d7_7) ?_
    show own_S p e below m s₁ 8 #[lvR o0_, lvI (4 : Int32), lvI (2 : Int32), lvI x0_, lvI x1_, .unset, .unset] [(.int (4 : Int32)), (.int (2 : Int32)), (.int (4 : Int32))] _
    refine XS.iadd X0.here hx rfl (hb hby d7_8) rfl ?_
    show own_S p e below m s₁ 9 #[lvR o0_, lvI (4 : Int32), lvI (2 : Int32), lvI x0_, lvI x1_, .unset, .unset] [(.int (6 : Int32)), (.int (4 : Int32))] _
    refine XS.icmpNo X0.here hx rfl (hb hby d7_9) rfl (tlt (by decide : (4 : Int32) < (6 : Int32))).2.1 ?_
    refine XS.iconst X0.here hx rfl (hb hby d7_12) ?_
    exact kt
  obtain ⟨fs, hr, hrun, hended, hW, hsame⟩ := X0.leave (v := some (.int (1 : Int32))) (fun h => by rw [Bd.returns] at h; cases h)
  refine ⟨_, _, hG _ (pre1 _ (retN X0 hx (t := .boolean) Bd.returns (by simp) (hb hby d7_13) hr)), hrun, hended, _, _, rfl, ?_, ⟨_, rfl⟩, hW, hsame.mono (by decide) (by decide)⟩
  show Qkeeps31 Z o0_ x0_ x1_ ko0_ x2_ x3_ x4_ x5_ x6_ x7_ x8_ x9_ h0 n0 _ s₁.heap _
  rw [e0]
  exact ⟨rfl, N0, rfl⟩
theorem efkeeps32 (m : MethodId) (o0_ : Addr) (x0_ : Int32) (x1_ : Int32) : entryFrame m #[(.ref o0_), (.int (5 : Int32)), (.int (2 : Int32)), (.int x0_), (.int x1_)] 7 = mkF m 0 #[lvR o0_, lvI (5 : Int32), lvI (2 : Int32), lvI x0_, lvI x1_, .unset, .unset] [] := by first | (simp [entryFrame, mkF, argsToLocals, Value.category]; done) | rfl
def Qkeeps32 (Z : State) (o0_ : Addr) (x0_ : Int32) (x1_ : Int32) (ko0_ : ClassId) (x2_ : Int32) (x3_ : Int32) (x4_ : Int32) (x5_ : Int32) (x6_ : Int32) (x7_ : Int32) (x8_ : Int32) (x9_ : Int32) (h0 : Heap) (n0 : Nat) (v : Option Value) (h : Heap) (L : List Loc) : Prop := v = some (.int (1 : Int32)) ∧ Fr n0 L ∧ h = h0
set_option maxRecDepth 65536 in
set_option maxHeartbeats 40000000 in
theorem rmkeeps32 (l : Launch) (Z : State) (a0 : Array Value) (hw : ∀ d ∈ tables_1, d.before a0 Z = true) (ws : List Jvm.Cond) (o0_ : Addr) (x0_ : Int32) (x1_ : Int32) (ko0_ : ClassId) (x2_ : Int32) (x3_ : Int32) (x4_ : Int32) (x5_ : Int32) (x6_ : Int32) (x7_ : Int32) (x8_ : Int32) (x9_ : Int32) (h0 : Heap) (n0 : Nat) (O0 : Old Z n0 h0) (P0 : Arv Z h0 o0_ ko0_ .byte (8 : Int32) [(.int x2_), (.int x3_), (.int x4_), (.int x5_), (.int x6_), (.int x7_), (.int x8_), (.int x9_)] (.int (0 : Int32))) (P1 : Exa Z h0 o0_ "[B") :
    MetFree l (⟨"com/example/stackweave/stackweave/classfile/ByteWriterU4AtPinLaw", "keeps", "([BIIII)Z"⟩ : MethodName) (head1 (Jvm.Cond.code (⟨"com/example/stackweave/stackweave/classfile/ByteWriterU4AtPinLaw", "keeps", "([BIIII)Z"⟩ : MethodName) method_3_code 7 (some .boolean) :: ws) ({ frames := 0, cells := 0, slots := 0, locals := 0 } : Room)) (fun a U => a = #[(.ref o0_), (.int (5 : Int32)), (.int (2 : Int32)), (.int x0_), (.int x1_)] ∧ Z.Warmed39 U.vm ∧ U.heap = h0) (fun _ _ _ _ _ => True) (fun _ U o U' => ∃ v L, o = .returned v ∧ Qkeeps32 Z o0_ x0_ x1_ ko0_ x2_ x3_ x4_ x5_ x6_ x7_ x8_ x9_ h0 n0 v U'.heap L ∧ FrameEnd U o U' L ({ frames := 0, cells := 0, slots := 0, locals := 0 } : Room).cells ({ frames := 0, cells := 0, slots := 0, locals := 0 } : Room).slots) := by
  refine MetFree.of_bodySF (plainFor_of_name pn_1) hisR ?_
  intro p e s m args below meth c s₁ Bd hml0 hP hK
  obtain ⟨rfl, hZ, hh⟩ := hP
  have hx := Bd.exec
  have hby := Bd.bytes
  have hml : c.maxLocals = 7 := hml0
  have hown : s.vm.findClass "com/example/stackweave/stackweave/classfile/ByteWriterU4AtPinLaw" = some m.cls := findClass_of_methodNamed Bd.named
  have hnm := (name_of_methodNamed Bd.named Bd.method).1
  have X0 : Stand p l e ({ frames := 0, cells := 0, slots := 0, locals := 0 } : Room) s m #[(.ref o0_), (.int (5 : Int32)), (.int (2 : Int32)), (.int x0_), (.int x1_)] below meth c s₁ [] 0 0 := Stand.of_body Bd
  have e0 : s₁.heap = h0 := by rw [← hh, Bd.state]; rfl
  have N0 := Fr.nil n0
  obtain ⟨G, pre0, hG⟩ : ∃ G : State → Prop, (∀ t, own_S p e below m s₁ 0 #[lvR o0_, lvI (5 : Int32), lvI (2 : Int32), lvI x0_, lvI x1_, .unset, .unset] [] t → G t) ∧ (∀ t, G t → Steps p.tables e below (s₁.setTop (entryFrame m #[(.ref o0_), (.int (5 : Int32)), (.int (2 : Int32)), (.int x0_), (.int x1_)] 7)) t) := ⟨fun t => Steps p.tables e below (s₁.setTop (entryFrame m #[(.ref o0_), (.int (5 : Int32)), (.int (2 : Int32)), (.int x0_), (.int x1_)] 7)) t, fun t k => castTop (efkeeps32 m o0_ x0_ x1_) k, fun _ k => k⟩
  have K0 : Keep h0 h0 [] := Keep.refl _ _
  have pre1 : ∀ t, own_S p e below m s₁ 13 #[lvR o0_, lvI (5 : Int32), lvI (2 : Int32), lvI x0_, lvI x1_, .unset, .unset] [(.int (1 : Int32))] t → G t := by
    intro t kt
    refine pre0 t ?_
    show own_S p e below m s₁ 0 #[lvR o0_, lvI (5 : Int32), lvI (2 : Int32), lvI x0_, lvI x1_, .unset, .unset] [] _
    refine XS.iloadN X0.here hx rfl (hb hby d7_0) rfl ?_
    refine XS.iloadN X0.here hx rfl (hb hby d7_1) rfl ?_
    show own_S p e below m s₁ 2 #[lvR o0_, lvI (5 : Int32), lvI (2 : Int32), lvI x0_, lvI x1_, .unset, .unset] [(.int (2 : Int32)), (.int (5 : Int32))] _
    refine XS.icmpNo X0.here hx rfl (hb hby d7_2) rfl (flt (by decide : ¬ ((5 : Int32) < (2 : Int32)))).1 ?_
    refine XS.iloadN X0.here hx rfl (hb hby d7_5) rfl ?_
    refine XS.iloadN X0.here hx rfl (hb hby d7_6) rfl ?_
    refine XS.iconst X0.here hx rfl (hb hby d7_7) ?_
    show own_S p e below m s₁ 8 #[lvR o0_, lvI (5 : Int32), lvI (2 : Int32), lvI x0_, lvI x1_, .unset, .unset] [(.int (4 : Int32)), (.int (2 : Int32)), (.int (5 : Int32))] _
    refine XS.iadd X0.here hx rfl (hb hby d7_8) rfl ?_
    show own_S p e below m s₁ 9 #[lvR o0_, lvI (5 : Int32), lvI (2 : Int32), lvI x0_, lvI x1_, .unset, .unset] [(.int (6 : Int32)), (.int (5 : Int32))] _
    refine XS.icmpNo X0.here hx rfl (hb hby d7_9) rfl (tlt (by decide : (5 : Int32) < (6 : Int32))).2.1 ?_
    refine XS.iconst X0.here hx rfl (hb hby d7_12) ?_
    exact kt
  obtain ⟨fs, hr, hrun, hended, hW, hsame⟩ := X0.leave (v := some (.int (1 : Int32))) (fun h => by rw [Bd.returns] at h; cases h)
  refine ⟨_, _, hG _ (pre1 _ (retN X0 hx (t := .boolean) Bd.returns (by simp) (hb hby d7_13) hr)), hrun, hended, _, _, rfl, ?_, ⟨_, rfl⟩, hW, hsame.mono (by decide) (by decide)⟩
  show Qkeeps32 Z o0_ x0_ x1_ ko0_ x2_ x3_ x4_ x5_ x6_ x7_ x8_ x9_ h0 n0 _ s₁.heap _
  rw [e0]
  exact ⟨rfl, N0, rfl⟩
theorem efkeeps33 (m : MethodId) (o0_ : Addr) (x0_ : Int32) (x1_ : Int32) : entryFrame m #[(.ref o0_), (.int (6 : Int32)), (.int (2 : Int32)), (.int x0_), (.int x1_)] 7 = mkF m 0 #[lvR o0_, lvI (6 : Int32), lvI (2 : Int32), lvI x0_, lvI x1_, .unset, .unset] [] := by first | (simp [entryFrame, mkF, argsToLocals, Value.category]; done) | rfl
def Qkeeps33 (Z : State) (o0_ : Addr) (x0_ : Int32) (x1_ : Int32) (ko0_ : ClassId) (x2_ : Int32) (x3_ : Int32) (x4_ : Int32) (x5_ : Int32) (x6_ : Int32) (x7_ : Int32) (x8_ : Int32) (x9_ : Int32) (h0 : Heap) (n0 : Nat) (v : Option Value) (h : Heap) (L : List Loc) : Prop := ∃ r_ : Int32, v = some (.int r_) ∧ (((1 : Int32) = r_ ∧ (x8_ = (((x1_.toUInt32 >>> ((8 : Int32) &&& 31).toUInt32).toInt32).toInt8.toInt32))) ∨ ((0 : Int32) = r_ ∧ (¬ (x8_ = (((x1_.toUInt32 >>> ((8 : Int32) &&& 31).toUInt32).toInt32).toInt8.toInt32))))) ∧ Fr n0 L ∧ h = h0
set_option maxRecDepth 65536 in
set_option maxHeartbeats 40000000 in
theorem rmkeeps33 (l : Launch) (Z : State) (a0 : Array Value) (hw : ∀ d ∈ tables_1, d.before a0 Z = true) (ws : List Jvm.Cond) (o0_ : Addr) (x0_ : Int32) (x1_ : Int32) (ko0_ : ClassId) (x2_ : Int32) (x3_ : Int32) (x4_ : Int32) (x5_ : Int32) (x6_ : Int32) (x7_ : Int32) (x8_ : Int32) (x9_ : Int32) (h0 : Heap) (n0 : Nat) (O0 : Old Z n0 h0) (P0 : Arv Z h0 o0_ ko0_ .byte (8 : Int32) [(.int x2_), (.int x3_), (.int x4_), (.int x5_), (.int x6_), (.int x7_), (.int x8_), (.int x9_)] (.int (0 : Int32))) (P1 : Exa Z h0 o0_ "[B") :
    MetFree l (⟨"com/example/stackweave/stackweave/classfile/ByteWriterU4AtPinLaw", "keeps", "([BIIII)Z"⟩ : MethodName) (head1 (Jvm.Cond.code (⟨"com/example/stackweave/stackweave/classfile/ByteWriterU4AtPinLaw", "keeps", "([BIIII)Z"⟩ : MethodName) method_3_code 7 (some .boolean) :: ws) ({ frames := 0, cells := 0, slots := 0, locals := 0 } : Room)) (fun a U => a = #[(.ref o0_), (.int (6 : Int32)), (.int (2 : Int32)), (.int x0_), (.int x1_)] ∧ Z.Warmed39 U.vm ∧ U.heap = h0) (fun _ _ _ _ _ => True) (fun _ U o U' => ∃ v L, o = .returned v ∧ Qkeeps33 Z o0_ x0_ x1_ ko0_ x2_ x3_ x4_ x5_ x6_ x7_ x8_ x9_ h0 n0 v U'.heap L ∧ FrameEnd U o U' L ({ frames := 0, cells := 0, slots := 0, locals := 0 } : Room).cells ({ frames := 0, cells := 0, slots := 0, locals := 0 } : Room).slots) := by
  refine MetFree.of_bodySF (plainFor_of_name pn_1) hisR ?_
  intro p e s m args below meth c s₁ Bd hml0 hP hK
  obtain ⟨rfl, hZ, hh⟩ := hP
  have hx := Bd.exec
  have hby := Bd.bytes
  have hml : c.maxLocals = 7 := hml0
  have hown : s.vm.findClass "com/example/stackweave/stackweave/classfile/ByteWriterU4AtPinLaw" = some m.cls := findClass_of_methodNamed Bd.named
  have hnm := (name_of_methodNamed Bd.named Bd.method).1
  have X0 : Stand p l e ({ frames := 0, cells := 0, slots := 0, locals := 0 } : Room) s m #[(.ref o0_), (.int (6 : Int32)), (.int (2 : Int32)), (.int x0_), (.int x1_)] below meth c s₁ [] 0 0 := Stand.of_body Bd
  have e0 : s₁.heap = h0 := by rw [← hh, Bd.state]; rfl
  have N0 := Fr.nil n0
  obtain ⟨G, pre0, hG⟩ : ∃ G : State → Prop, (∀ t, own_S p e below m s₁ 0 #[lvR o0_, lvI (6 : Int32), lvI (2 : Int32), lvI x0_, lvI x1_, .unset, .unset] [] t → G t) ∧ (∀ t, G t → Steps p.tables e below (s₁.setTop (entryFrame m #[(.ref o0_), (.int (6 : Int32)), (.int (2 : Int32)), (.int x0_), (.int x1_)] 7)) t) := ⟨fun t => Steps p.tables e below (s₁.setTop (entryFrame m #[(.ref o0_), (.int (6 : Int32)), (.int (2 : Int32)), (.int x0_), (.int x1_)] 7)) t, fun t k => castTop (efkeeps33 m o0_ x0_ x1_) k, fun _ k => k⟩
  have K0 : Keep h0 h0 [] := Keep.refl _ _
  obtain ⟨c1, r1, q1, s1, z1, y1, G1⟩ := id P0
  have hin1 : ¬ ((6 : Int32) < 0 ∨ c1.slots.size ≤ ((6 : Int32)).toNatClampNeg) := inb_of s1 ⟨by decide, by decide⟩
  have hat1 : c1.slots[((6 : Int32)).toNatClampNeg]? = some (.int x8_) := Has.at y1 hin1 rfl
  have pre2 : ∀ t, own_S p e below m s₁ 47 #[lvR o0_, lvI (6 : Int32), lvI (2 : Int32), lvI x0_, lvI x1_, lvI x1_, lvI (8 : Int32)] [(.int (((x1_.toUInt32 >>> ((8 : Int32) &&& 31).toUInt32).toInt32).toInt8.toInt32)), (.int x8_)] t → G t := by
    intro t kt
    refine pre0 t ?_
    show own_S p e below m s₁ 0 #[lvR o0_, lvI (6 : Int32), lvI (2 : Int32), lvI x0_, lvI x1_, .unset, .unset] [] _
    refine XS.iloadN X0.here hx rfl (hb hby d7_0) rfl ?_
    refine XS.iloadN X0.here hx rfl (hb hby d7_1) rfl ?_
    show own_S p e below m s₁ 2 #[lvR o0_, lvI (6 : Int32), lvI (2 : Int32), lvI x0_, lvI x1_, .unset, .unset] [(.int (2 : Int32)), (.int (6 : Int32))] _
    refine XS.icmpNo X0.here hx rfl (hb hby d7_2) rfl (flt (by decide : ¬ ((6 : Int32) < (2 : Int32)))).1 ?_
    refine XS.iloadN X0.here hx rfl (hb hby d7_5) rfl ?_
    refine XS.iloadN X0.here hx rfl (hb hby d7_6) rfl ?_
    refine XS.iconst X0.here hx rfl (hb hby d7_7) ?_
    show own_S p e below m s₁ 8 #[lvR o0_, lvI (6 : Int32), lvI (2 : Int32), lvI x0_, lvI x1_, .unset, .unset] [(.int (4 : Int32)), (.int (2 : Int32)), (.int (6 : Int32))] _
    refine XS.iadd X0.here hx rfl (hb hby d7_8) rfl ?_
    show own_S p e below m s₁ 9 #[lvR o0_, lvI (6 : Int32), lvI (2 : Int32), lvI x0_, lvI x1_, .unset, .unset] [(.int (6 : Int32)), (.int (6 : Int32))] _
    refine XS.icmpYes X0.here hx rfl (pc0 := 9) (pc' := 14) rfl (hb hby d7_9) rfl (flt (by decide : ¬ ((6 : Int32) < (6 : Int32)))).2.1 (by decide) (by decide) ?_
    refine XS.iloadN X0.here hx rfl (hb hby d7_14) rfl ?_
    refine XS.iconst X0.here hx rfl (hb hby d7_15) ?_
    show own_S p e below m s₁ 16 #[lvR o0_, lvI (6 : Int32), lvI (2 : Int32), lvI x0_, lvI x1_, .unset, .unset] [(.int (4 : Int32)), (.int (6 : Int32))] _
    refine XS.icmpYes X0.here hx rfl (pc0 := 16) (pc' := 23) rfl (hb hby d7_16) rfl (flt (by decide : ¬ ((6 : Int32) < (4 : Int32)))).2.1 (by decide) (by decide) ?_
    refine XS.iload X0.here hx rfl (hb hby d7_23) rfl ?_
    refine XS.istore X0.here hx rfl (hb hby d7_25) rfl (l' := #[lvR o0_, lvI (6 : Int32), lvI (2 : Int32), lvI x0_, lvI x1_, lvI x1_, .unset]) rfl ?_
    refine XS.bipush X0.here hx rfl (hb hby d7_27) ?_
    show own_S p e below m s₁ 29 #[lvR o0_, lvI (6 : Int32), lvI (2 : Int32), lvI x0_, lvI x1_, lvI x1_, .unset] [(.int (24 : Int32))] _
    refine XS.bipush X0.here hx rfl (hb hby d7_29) ?_
    refine XS.iloadN X0.here hx rfl (hb hby d7_31) rfl ?_
    refine XS.iconst X0.here hx rfl (hb hby d7_32) ?_
    refine XS.iand X0.here hx rfl (hb hby d7_33) rfl ?_
    show own_S p e below m s₁ 34 #[lvR o0_, lvI (6 : Int32), lvI (2 : Int32), lvI x0_, lvI x1_, lvI x1_, .unset] [(.int (2 : Int32)), (.int (8 : Int32)), (.int (24 : Int32))] _
    refine XS.imul X0.here hx rfl (hb hby d7_34) rfl ?_
    refine XS.isub X0.here hx rfl (hb hby d7_35) rfl ?_
    refine XS.istore X0.here hx rfl (hb hby d7_36) rfl (l' := #[lvR o0_, lvI (6 : Int32), lvI (2 : Int32), lvI x0_, lvI x1_, lvI x1_, lvI (8 : Int32)]) rfl ?_
    refine XS.aloadN X0.here hx rfl (hb hby d7_38) rfl rfl ?_
    show own_S p e below m s₁ 39 #[lvR o0_, lvI (6 : Int32), lvI (2 : Int32), lvI x0_, lvI x1_, lvI x1_, lvI (8 : Int32)] [(.ref o0_)] _
    refine XS.iloadN X0.here hx rfl (hb hby d7_39) rfl ?_
    show own_S p e below m s₁ 40 #[lvR o0_, lvI (6 : Int32), lvI (2 : Int32), lvI x0_, lvI x1_, lvI x1_, lvI (8 : Int32)] [(.int (6 : Int32)), (.ref o0_)] _
    refine X0.baloadBytes hx (j := (6 : Int32)) (v := (.int x8_)) (by rw [e0]; exact r1.1) (State.isArrayOf_alike hZ.alike r1.2.1) r1.2.2 hin1 hat1 (g := (mkF m 40 #[lvR o0_, lvI (6 : Int32), lvI (2 : Int32), lvI x0_, lvI x1_, lvI x1_, lvI (8 : Int32)] [(.int (6 : Int32)), (.ref o0_)])) rfl rfl (hb hby d7_40) _ ?_
    refine XS.iload X0.here hx rfl (hb hby d7_41) rfl ?_
    refine XS.iload X0.here hx rfl (hb hby d7_43) rfl ?_
    show own_S p e below m s₁ 45 #[lvR o0_, lvI (6 : Int32), lvI (2 : Int32), lvI x0_, lvI x1_, lvI x1_, lvI (8 : Int32)] [(.int (8 : Int32)), (.int x1_), (.int x8_)] _
    refine XS.iushr X0.here hx rfl (hb hby d7_45) rfl ?_
    show own_S p e below m s₁ 46 #[lvR o0_, lvI (6 : Int32), lvI (2 : Int32), lvI x0_, lvI x1_, lvI x1_, lvI (8 : Int32)] [(.int ((x1_.toUInt32 >>> ((8 : Int32) &&& 31).toUInt32).toInt32)), (.int x8_)] _
    refine XS.i2b X0.here hx rfl (hb hby d7_46) rfl ?_
    exact kt
  by_cases hc3 : x8_ = (((x1_.toUInt32 >>> ((8 : Int32) &&& 31).toUInt32).toInt32).toInt8.toInt32)
  · have pre4 : ∀ t, own_S p e below m s₁ 55 #[lvR o0_, lvI (6 : Int32), lvI (2 : Int32), lvI x0_, lvI x1_, lvI x1_, lvI (8 : Int32)] [(.int (1 : Int32))] t → G t := by
      intro t kt
      refine pre2 t ?_
      show own_S p e below m s₁ 47 #[lvR o0_, lvI (6 : Int32), lvI (2 : Int32), lvI x0_, lvI x1_, lvI x1_, lvI (8 : Int32)] [(.int (((x1_.toUInt32 >>> ((8 : Int32) &&& 31).toUInt32).toInt32).toInt8.toInt32)), (.int x8_)] _
      refine XS.icmpNo X0.here hx rfl (hb hby d7_47) rfl (teq hc3).2 ?_
      refine XS.iconst X0.here hx rfl (hb hby d7_50) ?_
      refine XS.goto X0.here hx rfl (pc0 := 51) (pc' := 55) rfl (hb hby d7_51) (by decide) (by decide) ?_
      exact kt
    obtain ⟨fs, hr, hrun, hended, hW, hsame⟩ := X0.leave (v := some (.int (1 : Int32))) (fun h => by rw [Bd.returns] at h; cases h)
    refine ⟨_, _, hG _ (pre4 _ (retN X0 hx (t := .boolean) Bd.returns (by simp) (hb hby d7_55) hr)), hrun, hended, _, _, rfl, ?_, ⟨_, rfl⟩, hW, hsame.mono (by decide) (by decide)⟩
    show Qkeeps33 Z o0_ x0_ x1_ ko0_ x2_ x3_ x4_ x5_ x6_ x7_ x8_ x9_ h0 n0 _ s₁.heap _
    rw [e0]
    exact ⟨(1 : Int32), rfl, (Or.inl ⟨rfl, hc3⟩), N0, rfl⟩
  · have pre6 : ∀ t, own_S p e below m s₁ 55 #[lvR o0_, lvI (6 : Int32), lvI (2 : Int32), lvI x0_, lvI x1_, lvI x1_, lvI (8 : Int32)] [(.int (0 : Int32))] t → G t := by
      intro t kt
      refine pre2 t ?_
      show own_S p e below m s₁ 47 #[lvR o0_, lvI (6 : Int32), lvI (2 : Int32), lvI x0_, lvI x1_, lvI x1_, lvI (8 : Int32)] [(.int (((x1_.toUInt32 >>> ((8 : Int32) &&& 31).toUInt32).toInt32).toInt8.toInt32)), (.int x8_)] _
      refine XS.icmpYes X0.here hx rfl (pc0 := 47) (pc' := 54) rfl (hb hby d7_47) rfl (feq hc3).2 (by decide) (by decide) ?_
      refine XS.iconst X0.here hx rfl (hb hby d7_54) ?_
      exact kt
    obtain ⟨fs, hr, hrun, hended, hW, hsame⟩ := X0.leave (v := some (.int (0 : Int32))) (fun h => by rw [Bd.returns] at h; cases h)
    refine ⟨_, _, hG _ (pre6 _ (retN X0 hx (t := .boolean) Bd.returns (by simp) (hb hby d7_55) hr)), hrun, hended, _, _, rfl, ?_, ⟨_, rfl⟩, hW, hsame.mono (by decide) (by decide)⟩
    show Qkeeps33 Z o0_ x0_ x1_ ko0_ x2_ x3_ x4_ x5_ x6_ x7_ x8_ x9_ h0 n0 _ s₁.heap _
    rw [e0]
    exact ⟨(0 : Int32), rfl, (Or.inr ⟨rfl, hc3⟩), N0, rfl⟩
theorem efkeeps34 (m : MethodId) (o0_ : Addr) (x0_ : Int32) (x1_ : Int32) : entryFrame m #[(.ref o0_), (.int (7 : Int32)), (.int (2 : Int32)), (.int x0_), (.int x1_)] 7 = mkF m 0 #[lvR o0_, lvI (7 : Int32), lvI (2 : Int32), lvI x0_, lvI x1_, .unset, .unset] [] := by first | (simp [entryFrame, mkF, argsToLocals, Value.category]; done) | rfl
def Qkeeps34 (Z : State) (o0_ : Addr) (x0_ : Int32) (x1_ : Int32) (ko0_ : ClassId) (x2_ : Int32) (x3_ : Int32) (x4_ : Int32) (x5_ : Int32) (x6_ : Int32) (x7_ : Int32) (x8_ : Int32) (x9_ : Int32) (h0 : Heap) (n0 : Nat) (v : Option Value) (h : Heap) (L : List Loc) : Prop := ∃ r_ : Int32, v = some (.int r_) ∧ (((1 : Int32) = r_ ∧ (x9_ = (((x1_.toUInt32 >>> ((0 : Int32) &&& 31).toUInt32).toInt32).toInt8.toInt32))) ∨ ((0 : Int32) = r_ ∧ (¬ (x9_ = (((x1_.toUInt32 >>> ((0 : Int32) &&& 31).toUInt32).toInt32).toInt8.toInt32))))) ∧ Fr n0 L ∧ h = h0
set_option maxRecDepth 65536 in
set_option maxHeartbeats 40000000 in
theorem rmkeeps34 (l : Launch) (Z : State) (a0 : Array Value) (hw : ∀ d ∈ tables_1, d.before a0 Z = true) (ws : List Jvm.Cond) (o0_ : Addr) (x0_ : Int32) (x1_ : Int32) (ko0_ : ClassId) (x2_ : Int32) (x3_ : Int32) (x4_ : Int32) (x5_ : Int32) (x6_ : Int32) (x7_ : Int32) (x8_ : Int32) (x9_ : Int32) (h0 : Heap) (n0 : Nat) (O0 : Old Z n0 h0) (P0 : Arv Z h0 o0_ ko0_ .byte (8 : Int32) [(.int x2_), (.int x3_), (.int x4_), (.int x5_), (.int x6_), (.int x7_), (.int x8_), (.int x9_)] (.int (0 : Int32))) (P1 : Exa Z h0 o0_ "[B") :
    MetFree l (⟨"com/example/stackweave/stackweave/classfile/ByteWriterU4AtPinLaw", "keeps", "([BIIII)Z"⟩ : MethodName) (head1 (Jvm.Cond.code (⟨"com/example/stackweave/stackweave/classfile/ByteWriterU4AtPinLaw", "keeps", "([BIIII)Z"⟩ : MethodName) method_3_code 7 (some .boolean) :: ws) ({ frames := 0, cells := 0, slots := 0, locals := 0 } : Room)) (fun a U => a = #[(.ref o0_), (.int (7 : Int32)), (.int (2 : Int32)), (.int x0_), (.int x1_)] ∧ Z.Warmed39 U.vm ∧ U.heap = h0) (fun _ _ _ _ _ => True) (fun _ U o U' => ∃ v L, o = .returned v ∧ Qkeeps34 Z o0_ x0_ x1_ ko0_ x2_ x3_ x4_ x5_ x6_ x7_ x8_ x9_ h0 n0 v U'.heap L ∧ FrameEnd U o U' L ({ frames := 0, cells := 0, slots := 0, locals := 0 } : Room).cells ({ frames := 0, cells := 0, slots := 0, locals := 0 } : Room).slots) := by
  refine MetFree.of_bodySF (plainFor_of_name pn_1) hisR ?_
  intro p e s m args below meth c s₁ Bd hml0 hP hK
  obtain ⟨rfl, hZ, hh⟩ := hP
  have hx := Bd.exec
  have hby := Bd.bytes
  have hml : c.maxLocals = 7 := hml0
  have hown : s.vm.findClass "com/example/stackweave/stackweave/classfile/ByteWriterU4AtPinLaw" = some m.cls := findClass_of_methodNamed Bd.named
  have hnm := (name_of_methodNamed Bd.named Bd.method).1
  have X0 : Stand p l e ({ frames := 0, cells := 0, slots := 0, locals := 0 } : Room) s m #[(.ref o0_), (.int (7 : Int32)), (.int (2 : Int32)), (.int x0_), (.int x1_)] below meth c s₁ [] 0 0 := Stand.of_body Bd
  have e0 : s₁.heap = h0 := by rw [← hh, Bd.state]; rfl
  have N0 := Fr.nil n0
  obtain ⟨G, pre0, hG⟩ : ∃ G : State → Prop, (∀ t, own_S p e below m s₁ 0 #[lvR o0_, lvI (7 : Int32), lvI (2 : Int32), lvI x0_, lvI x1_, .unset, .unset] [] t → G t) ∧ (∀ t, G t → Steps p.tables e below (s₁.setTop (entryFrame m #[(.ref o0_), (.int (7 : Int32)), (.int (2 : Int32)), (.int x0_), (.int x1_)] 7)) t) := ⟨fun t => Steps p.tables e below (s₁.setTop (entryFrame m #[(.ref o0_), (.int (7 : Int32)), (.int (2 : Int32)), (.int x0_), (.int x1_)] 7)) t, fun t k => castTop (efkeeps34 m o0_ x0_ x1_) k, fun _ k => k⟩
  have K0 : Keep h0 h0 [] := Keep.refl _ _
  obtain ⟨c1, r1, q1, s1, z1, y1, G1⟩ := id P0
  have hin1 : ¬ ((7 : Int32) < 0 ∨ c1.slots.size ≤ ((7 : Int32)).toNatClampNeg) := inb_of s1 ⟨by decide, by decide⟩
  have hat1 : c1.slots[((7 : Int32)).toNatClampNeg]? = some (.int x9_) := Has.at y1 hin1 rfl
  have pre2 : ∀ t, own_S p e below m s₁ 47 #[lvR o0_, lvI (7 : Int32), lvI (2 : Int32), lvI x0_, lvI x1_, lvI x1_, lvI (0 : Int32)] [(.int (((x1_.toUInt32 >>> ((0 : Int32) &&& 31).toUInt32).toInt32).toInt8.toInt32)), (.int x9_)] t → G t := by
    intro t kt
    refine pre0 t ?_
    show own_S p e below m s₁ 0 #[lvR o0_, lvI (7 : Int32), lvI (2 : Int32), lvI x0_, lvI x1_, .unset, .unset] [] _
    refine XS.iloadN X0.here hx rfl (hb hby d7_0) rfl ?_
    refine XS.iloadN X0.here hx rfl (hb hby d7_1) rfl ?_
    show own_S p e below m s₁ 2 #[lvR o0_, lvI (7 : Int32), lvI (2 : Int32), lvI x0_, lvI x1_, .unset, .unset] [(.int (2 : Int32)), (.int (7 : Int32))] _
    refine XS.icmpNo X0.here hx rfl (hb hby d7_2) rfl (flt (by decide : ¬ ((7 : Int32) < (2 : Int32)))).1 ?_
    refine XS.iloadN X0.here hx rfl (hb hby d7_5) rfl ?_
    refine XS.iloadN X0.here hx rfl (hb hby d7_6) rfl ?_
    refine XS.iconst X0.here hx rfl (hb hby d7_7) ?_
    show own_S p e below m s₁ 8 #[lvR o0_, lvI (7 : Int32), lvI (2 : Int32), lvI x0_, lvI x1_, .unset, .unset] [(.int (4 : Int32)), (.int (2 : Int32)), (.int (7 : Int32))] _
    refine XS.iadd X0.here hx rfl (hb hby d7_8) rfl ?_
    show own_S p e below m s₁ 9 #[lvR o0_, lvI (7 : Int32), lvI (2 : Int32), lvI x0_, lvI x1_, .unset, .unset] [(.int (6 : Int32)), (.int (7 : Int32))] _
    refine XS.icmpYes X0.here hx rfl (pc0 := 9) (pc' := 14) rfl (hb hby d7_9) rfl (flt (by decide : ¬ ((7 : Int32) < (6 : Int32)))).2.1 (by decide) (by decide) ?_
    refine XS.iloadN X0.here hx rfl (hb hby d7_14) rfl ?_
    refine XS.iconst X0.here hx rfl (hb hby d7_15) ?_
    show own_S p e below m s₁ 16 #[lvR o0_, lvI (7 : Int32), lvI (2 : Int32), lvI x0_, lvI x1_, .unset, .unset] [(.int (4 : Int32)), (.int (7 : Int32))] _
    refine XS.icmpYes X0.here hx rfl (pc0 := 16) (pc' := 23) rfl (hb hby d7_16) rfl (flt (by decide : ¬ ((7 : Int32) < (4 : Int32)))).2.1 (by decide) (by decide) ?_
    refine XS.iload X0.here hx rfl (hb hby d7_23) rfl ?_
    refine XS.istore X0.here hx rfl (hb hby d7_25) rfl (l' := #[lvR o0_, lvI (7 : Int32), lvI (2 : Int32), lvI x0_, lvI x1_, lvI x1_, .unset]) rfl ?_
    refine XS.bipush X0.here hx rfl (hb hby d7_27) ?_
    show own_S p e below m s₁ 29 #[lvR o0_, lvI (7 : Int32), lvI (2 : Int32), lvI x0_, lvI x1_, lvI x1_, .unset] [(.int (24 : Int32))] _
    refine XS.bipush X0.here hx rfl (hb hby d7_29) ?_
    refine XS.iloadN X0.here hx rfl (hb hby d7_31) rfl ?_
    refine XS.iconst X0.here hx rfl (hb hby d7_32) ?_
    refine XS.iand X0.here hx rfl (hb hby d7_33) rfl ?_
    show own_S p e below m s₁ 34 #[lvR o0_, lvI (7 : Int32), lvI (2 : Int32), lvI x0_, lvI x1_, lvI x1_, .unset] [(.int (3 : Int32)), (.int (8 : Int32)), (.int (24 : Int32))] _
    refine XS.imul X0.here hx rfl (hb hby d7_34) rfl ?_
    refine XS.isub X0.here hx rfl (hb hby d7_35) rfl ?_
    refine XS.istore X0.here hx rfl (hb hby d7_36) rfl (l' := #[lvR o0_, lvI (7 : Int32), lvI (2 : Int32), lvI x0_, lvI x1_, lvI x1_, lvI (0 : Int32)]) rfl ?_
    refine XS.aloadN X0.here hx rfl (hb hby d7_38) rfl rfl ?_
    show own_S p e below m s₁ 39 #[lvR o0_, lvI (7 : Int32), lvI (2 : Int32), lvI x0_, lvI x1_, lvI x1_, lvI (0 : Int32)] [(.ref o0_)] _
    refine XS.iloadN X0.here hx rfl (hb hby d7_39) rfl ?_
    show own_S p e below m s₁ 40 #[lvR o0_, lvI (7 : Int32), lvI (2 : Int32), lvI x0_, lvI x1_, lvI x1_, lvI (0 : Int32)] [(.int (7 : Int32)), (.ref o0_)] _
    refine X0.baloadBytes hx (j := (7 : Int32)) (v := (.int x9_)) (by rw [e0]; exact r1.1) (State.isArrayOf_alike hZ.alike r1.2.1) r1.2.2 hin1 hat1 (g := (mkF m 40 #[lvR o0_, lvI (7 : Int32), lvI (2 : Int32), lvI x0_, lvI x1_, lvI x1_, lvI (0 : Int32)] [(.int (7 : Int32)), (.ref o0_)])) rfl rfl (hb hby d7_40) _ ?_
    refine XS.iload X0.here hx rfl (hb hby d7_41) rfl ?_
    refine XS.iload X0.here hx rfl (hb hby d7_43) rfl ?_
    show own_S p e below m s₁ 45 #[lvR o0_, lvI (7 : Int32), lvI (2 : Int32), lvI x0_, lvI x1_, lvI x1_, lvI (0 : Int32)] [(.int (0 : Int32)), (.int x1_), (.int x9_)] _
    refine XS.iushr X0.here hx rfl (hb hby d7_45) rfl ?_
    show own_S p e below m s₁ 46 #[lvR o0_, lvI (7 : Int32), lvI (2 : Int32), lvI x0_, lvI x1_, lvI x1_, lvI (0 : Int32)] [(.int ((x1_.toUInt32 >>> ((0 : Int32) &&& 31).toUInt32).toInt32)), (.int x9_)] _
    refine XS.i2b X0.here hx rfl (hb hby d7_46) rfl ?_
    exact kt
  by_cases hc3 : x9_ = (((x1_.toUInt32 >>> ((0 : Int32) &&& 31).toUInt32).toInt32).toInt8.toInt32)
  · have pre4 : ∀ t, own_S p e below m s₁ 55 #[lvR o0_, lvI (7 : Int32), lvI (2 : Int32), lvI x0_, lvI x1_, lvI x1_, lvI (0 : Int32)] [(.int (1 : Int32))] t → G t := by
      intro t kt
      refine pre2 t ?_
      show own_S p e below m s₁ 47 #[lvR o0_, lvI (7 : Int32), lvI (2 : Int32), lvI x0_, lvI x1_, lvI x1_, lvI (0 : Int32)] [(.int (((x1_.toUInt32 >>> ((0 : Int32) &&& 31).toUInt32).toInt32).toInt8.toInt32)), (.int x9_)] _
      refine XS.icmpNo X0.here hx rfl (hb hby d7_47) rfl (teq hc3).2 ?_
      refine XS.iconst X0.here hx rfl (hb hby d7_50) ?_
      refine XS.goto X0.here hx rfl (pc0 := 51) (pc' := 55) rfl (hb hby d7_51) (by decide) (by decide) ?_
      exact kt
    obtain ⟨fs, hr, hrun, hended, hW, hsame⟩ := X0.leave (v := some (.int (1 : Int32))) (fun h => by rw [Bd.returns] at h; cases h)
    refine ⟨_, _, hG _ (pre4 _ (retN X0 hx (t := .boolean) Bd.returns (by simp) (hb hby d7_55) hr)), hrun, hended, _, _, rfl, ?_, ⟨_, rfl⟩, hW, hsame.mono (by decide) (by decide)⟩
    show Qkeeps34 Z o0_ x0_ x1_ ko0_ x2_ x3_ x4_ x5_ x6_ x7_ x8_ x9_ h0 n0 _ s₁.heap _
    rw [e0]
    exact ⟨(1 : Int32), rfl, (Or.inl ⟨rfl, hc3⟩), N0, rfl⟩
  · have pre6 : ∀ t, own_S p e below m s₁ 55 #[lvR o0_, lvI (7 : Int32), lvI (2 : Int32), lvI x0_, lvI x1_, lvI x1_, lvI (0 : Int32)] [(.int (0 : Int32))] t → G t := by
      intro t kt
      refine pre2 t ?_
      show own_S p e below m s₁ 47 #[lvR o0_, lvI (7 : Int32), lvI (2 : Int32), lvI x0_, lvI x1_, lvI x1_, lvI (0 : Int32)] [(.int (((x1_.toUInt32 >>> ((0 : Int32) &&& 31).toUInt32).toInt32).toInt8.toInt32)), (.int x9_)] _
      refine XS.icmpYes X0.here hx rfl (pc0 := 47) (pc' := 54) rfl (hb hby d7_47) rfl (feq hc3).2 (by decide) (by decide) ?_
      refine XS.iconst X0.here hx rfl (hb hby d7_54) ?_
      exact kt
    obtain ⟨fs, hr, hrun, hended, hW, hsame⟩ := X0.leave (v := some (.int (0 : Int32))) (fun h => by rw [Bd.returns] at h; cases h)
    refine ⟨_, _, hG _ (pre6 _ (retN X0 hx (t := .boolean) Bd.returns (by simp) (hb hby d7_55) hr)), hrun, hended, _, _, rfl, ?_, ⟨_, rfl⟩, hW, hsame.mono (by decide) (by decide)⟩
    show Qkeeps34 Z o0_ x0_ x1_ ko0_ x2_ x3_ x4_ x5_ x6_ x7_ x8_ x9_ h0 n0 _ s₁.heap _
    rw [e0]
    exact ⟨(0 : Int32), rfl, (Or.inr ⟨rfl, hc3⟩), N0, rfl⟩
theorem efu4At35 (m : MethodId) (o0_ : Addr) (x0_ : Int32) : entryFrame m #[(.ref o0_), (.int (3 : Int32)), (.int x0_)] 3 = mkF m 0 #[lvR o0_, lvI (3 : Int32), lvI x0_] [] := by first | (simp [entryFrame, mkF, argsToLocals, Value.category]; done) | rfl
def Qu4At35 (Z : State) (o0_ : Addr) (x0_ : Int32) (o1_ : Addr) (ko1_ : ClassId) (x1_ : Int32) (x2_ : Int32) (x3_ : Int32) (x4_ : Int32) (x5_ : Int32) (x6_ : Int32) (x7_ : Int32) (x8_ : Int32) (h0 : Heap) (n0 : Nat) (v : Option Value) (h : Heap) (L : List Loc) : Prop := v = none ∧ Fr n0 L ∧ Keep h0 h [o1_] ∧ Arv Z h o1_ ko1_ .byte (8 : Int32) [(.int x1_), (.int x2_), (.int x3_), (.int (((x0_.toUInt32 >>> ((24 : Int32) &&& 31).toUInt32).toInt32).toInt8.toInt32)), (.int (((x0_.toUInt32 >>> ((16 : Int32) &&& 31).toUInt32).toInt32).toInt8.toInt32)), (.int (((x0_.toUInt32 >>> ((8 : Int32) &&& 31).toUInt32).toInt32).toInt8.toInt32)), (.int (x0_.toInt8.toInt32)), (.int x8_)] (.int (0 : Int32)) ∧ Exa Z h o1_ "[B"
set_option maxRecDepth 65536 in
set_option maxHeartbeats 40000000 in
theorem rmu4At35 (l : Launch) (Z : State) (a0 : Array Value) (hw : ∀ d ∈ tables_1, d.before a0 Z = true) (ws : List Jvm.Cond) (o0_ : Addr) (x0_ : Int32) (o1_ : Addr) (ko1_ : ClassId) (x1_ : Int32) (x2_ : Int32) (x3_ : Int32) (x4_ : Int32) (x5_ : Int32) (x6_ : Int32) (x7_ : Int32) (x8_ : Int32) (h0 : Heap) (n0 : Nat) (O0 : Old Z n0 h0) (P0 : Exa Z h0 o0_ cn0) (P1 : Fld Z h0 o0_ cn0 "bytes" "[B" (.ref o1_)) (P2 : Fld Z h0 o0_ cn0 "length" "I" (.int (8 : Int32))) (P3 : Arv Z h0 o1_ ko1_ .byte (8 : Int32) [(.int x1_), (.int x2_), (.int x3_), (.int x4_), (.int x5_), (.int x6_), (.int x7_), (.int x8_)] (.int (0 : Int32))) (P4 : Exa Z h0 o1_ "[B") (P5 : n0 ≤ o1_) (P6 : o0_ ≠ o1_) :
    MetFree l (⟨"com/example/stackweave/stackweave/classfile/ByteWriter", "u4At", "(II)V"⟩ : MethodName) (head1 (Jvm.Cond.code (⟨"com/example/stackweave/stackweave/classfile/ByteWriter", "u4At", "(II)V"⟩ : MethodName) prog_12_method_7_code 3 none :: ws) ({ frames := 0, cells := 0, slots := 0, locals := 0 } : Room)) (fun a U => a = #[(.ref o0_), (.int (3 : Int32)), (.int x0_)] ∧ Z.Warmed39 U.vm ∧ U.heap = h0) (fun _ _ _ _ _ => True) (fun _ U o U' => ∃ v L, o = .returned v ∧ Qu4At35 Z o0_ x0_ o1_ ko1_ x1_ x2_ x3_ x4_ x5_ x6_ x7_ x8_ h0 n0 v U'.heap L ∧ FrameEnd U o U' L ({ frames := 0, cells := 0, slots := 0, locals := 0 } : Room).cells ({ frames := 0, cells := 0, slots := 0, locals := 0 } : Room).slots) := by
  refine MetFree.of_bodySF (plainFor_of_name pn_0) hisR ?_
  intro p e s m args below meth c s₁ Bd hml0 hP hK
  obtain ⟨rfl, hZ, hh⟩ := hP
  have hx := Bd.exec
  have hby := Bd.bytes
  have hml : c.maxLocals = 3 := hml0
  have hown : s.vm.findClass "com/example/stackweave/stackweave/classfile/ByteWriter" = some m.cls := findClass_of_methodNamed Bd.named
  have hnm := (name_of_methodNamed Bd.named Bd.method).1
  have X0 : Stand p l e ({ frames := 0, cells := 0, slots := 0, locals := 0 } : Room) s m #[(.ref o0_), (.int (3 : Int32)), (.int x0_)] below meth c s₁ [] 0 0 := Stand.of_body Bd
  have e0 : s₁.heap = h0 := by rw [← hh, Bd.state]; rfl
  have N0 := Fr.nil n0
  obtain ⟨G, pre0, hG⟩ : ∃ G : State → Prop, (∀ t, own_S p e below m s₁ 0 #[lvR o0_, lvI (3 : Int32), lvI x0_] [] t → G t) ∧ (∀ t, G t → Steps p.tables e below (s₁.setTop (entryFrame m #[(.ref o0_), (.int (3 : Int32)), (.int x0_)] 3)) t) := ⟨fun t => Steps p.tables e below (s₁.setTop (entryFrame m #[(.ref o0_), (.int (3 : Int32)), (.int x0_)] 3)) t, fun t k => castTop (efu4At35 m o0_ x0_) k, fun _ k => k⟩
  have K0 : Keep h0 h0 [o1_] := Keep.refl _ _
  obtain ⟨T1, X1, e1, st1⟩ := getF X0 hx hZ hown (host := "") (Or.inl (own_w hw 11 rfl)) Via.refl e0 P1 (g := (mkF m 1 #[lvR o0_, lvI (3 : Int32), lvI x0_] [(.ref o0_)])) rfl rfl (hb hby d4_1)
  obtain ⟨c2, r2, q2, s2, z2, y2, G2⟩ := id P3
  have hin2 : ¬ ((3 : Int32) < 0 ∨ c2.slots.size ≤ ((3 : Int32)).toNatClampNeg) := inb_of s2 ⟨by decide, by decide⟩
  obtain ⟨T2, h2, X2, e2, W2, st2⟩ := stB X1 hx hZ e1 r2 (j := (3 : Int32)) hin2 (g := (mkF m 10 #[lvR o0_, lvI (3 : Int32), lvI x0_] [(.int (((x0_.toUInt32 >>> ((24 : Int32) &&& 31).toUInt32).toInt32).toInt8.toInt32)), (.int (3 : Int32)), (.ref o1_)])) rfl rfl (hb hby d4_10)
  have N3 := Fr.snoc X2 N0 P5
  have f4 : Arv Z h2 o1_ ko1_ .byte (8 : Int32) [(.int x1_), (.int x2_), (.int x3_), (.int ((((x0_.toUInt32 >>> ((24 : Int32) &&& 31).toUInt32).toInt32).toInt8.toInt32).toInt8.toInt32)), (.int x5_), (.int x6_), (.int x7_), (.int x8_)] (.int (0 : Int32)) := Arv.set r2 q2 s2 z2 y2 G2 (fits_nar_byte _) W2 3 rfl (Nat.le_of_ble_eq_true rfl)
  have f5 : Arv Z h2 o1_ ko1_ .byte (8 : Int32) [(.int x1_), (.int x2_), (.int x3_), (.int (((x0_.toUInt32 >>> ((24 : Int32) &&& 31).toUInt32).toInt32).toInt8.toInt32)), (.int x5_), (.int x6_), (.int x7_), (.int x8_)] (.int (0 : Int32)) := by have q := f4; rw [own_i2b2] at q; exact q
  have f6 : Fld Z h2 o0_ cn0 "bytes" "[B" (.ref o1_) := P1.other W2 (Or.inl P6)
  obtain ⟨T7, X7, e7, st7⟩ := getF X2 hx hZ hown (host := "") (Or.inl (own_w hw 11 rfl)) Via.refl e2 f6 (g := (mkF m 12 #[lvR o0_, lvI (3 : Int32), lvI x0_] [(.ref o0_)])) rfl rfl (hb hby d4_12)
  obtain ⟨c8, r8, q8, s8, z8, y8, G8⟩ := id f5
  have hin8 : ¬ ((4 : Int32) < 0 ∨ c8.slots.size ≤ ((4 : Int32)).toNatClampNeg) := inb_of s8 ⟨by decide, by decide⟩
  obtain ⟨T8, h8, X8, e8, W8, st8⟩ := stB X7 hx hZ e7 r8 (j := (4 : Int32)) hin8 (g := (mkF m 23 #[lvR o0_, lvI (3 : Int32), lvI x0_] [(.int (((x0_.toUInt32 >>> ((16 : Int32) &&& 31).toUInt32).toInt32).toInt8.toInt32)), (.int (4 : Int32)), (.ref o1_)])) rfl rfl (hb hby d4_23)
  have N9 := Fr.snoc X8 N3 P5
  have f10 : Arv Z h8 o1_ ko1_ .byte (8 : Int32) [(.int x1_), (.int x2_), (.int x3_), (.int (((x0_.toUInt32 >>> ((24 : Int32) &&& 31).toUInt32).toInt32).toInt8.toInt32)), (.int ((((x0_.toUInt32 >>> ((16 : Int32) &&& 31).toUInt32).toInt32).toInt8.toInt32).toInt8.toInt32)), (.int x6_), (.int x7_), (.int x8_)] (.int (0 : Int32)) := Arv.set r8 q8 s8 z8 y8 G8 (fits_nar_byte _) W8 4 rfl (Nat.le_of_ble_eq_true rfl)
  have f11 : Arv Z h8 o1_ ko1_ .byte (8 : Int32) [(.int x1_), (.int x2_), (.int x3_), (.int (((x0_.toUInt32 >>> ((24 : Int32) &&& 31).toUInt32).toInt32).toInt8.toInt32)), (.int (((x0_.toUInt32 >>> ((16 : Int32) &&& 31).toUInt32).toInt32).toInt8.toInt32)), (.int x6_), (.int x7_), (.int x8_)] (.int (0 : Int32)) := by have q := f10; rw [own_i2b2] at q; exact q
  have f12 : Fld Z h8 o0_ cn0 "bytes" "[B" (.ref o1_) := f6.other W8 (Or.inl P6)
  obtain ⟨T13, X13, e13, st13⟩ := getF X8 hx hZ hown (host := "") (Or.inl (own_w hw 11 rfl)) Via.refl e8 f12 (g := (mkF m 25 #[lvR o0_, lvI (3 : Int32), lvI x0_] [(.ref o0_)])) rfl rfl (hb hby d4_25)
  obtain ⟨c14, r14, q14, s14, z14, y14, G14⟩ := id f11
  have hin14 : ¬ ((5 : Int32) < 0 ∨ c14.slots.size ≤ ((5 : Int32)).toNatClampNeg) := inb_of s14 ⟨by decide, by decide⟩
  obtain ⟨T14, h14, X14, e14, W14, st14⟩ := stB X13 hx hZ e13 r14 (j := (5 : Int32)) hin14 (g := (mkF m 36 #[lvR o0_, lvI (3 : Int32), lvI x0_] [(.int (((x0_.toUInt32 >>> ((8 : Int32) &&& 31).toUInt32).toInt32).toInt8.toInt32)), (.int (5 : Int32)), (.ref o1_)])) rfl rfl (hb hby d4_36)
  have N15 := Fr.snoc X14 N9 P5
  have f16 : Arv Z h14 o1_ ko1_ .byte (8 : Int32) [(.int x1_), (.int x2_), (.int x3_), (.int (((x0_.toUInt32 >>> ((24 : Int32) &&& 31).toUInt32).toInt32).toInt8.toInt32)), (.int (((x0_.toUInt32 >>> ((16 : Int32) &&& 31).toUInt32).toInt32).toInt8.toInt32)), (.int ((((x0_.toUInt32 >>> ((8 : Int32) &&& 31).toUInt32).toInt32).toInt8.toInt32).toInt8.toInt32)), (.int x7_), (.int x8_)] (.int (0 : Int32)) := Arv.set r14 q14 s14 z14 y14 G14 (fits_nar_byte _) W14 5 rfl (Nat.le_of_ble_eq_true rfl)
  have f17 : Arv Z h14 o1_ ko1_ .byte (8 : Int32) [(.int x1_), (.int x2_), (.int x3_), (.int (((x0_.toUInt32 >>> ((24 : Int32) &&& 31).toUInt32).toInt32).toInt8.toInt32)), (.int (((x0_.toUInt32 >>> ((16 : Int32) &&& 31).toUInt32).toInt32).toInt8.toInt32)), (.int (((x0_.toUInt32 >>> ((8 : Int32) &&& 31).toUInt32).toInt32).toInt8.toInt32)), (.int x7_), (.int x8_)] (.int (0 : Int32)) := by have q := f16; rw [own_i2b2] at q; exact q
  have f18 : Fld Z h14 o0_ cn0 "bytes" "[B" (.ref o1_) := f12.other W14 (Or.inl P6)
  obtain ⟨T19, X19, e19, st19⟩ := getF X14 hx hZ hown (host := "") (Or.inl (own_w hw 11 rfl)) Via.refl e14 f18 (g := (mkF m 38 #[lvR o0_, lvI (3 : Int32), lvI x0_] [(.ref o0_)])) rfl rfl (hb hby d4_38)
  obtain ⟨c20, r20, q20, s20, z20, y20, G20⟩ := id f17
  have hin20 : ¬ ((6 : Int32) < 0 ∨ c20.slots.size ≤ ((6 : Int32)).toNatClampNeg) := inb_of s20 ⟨by decide, by decide⟩
  obtain ⟨T20, h20, X20, e20, W20, st20⟩ := stB X19 hx hZ e19 r20 (j := (6 : Int32)) hin20 (g := (mkF m 46 #[lvR o0_, lvI (3 : Int32), lvI x0_] [(.int (x0_.toInt8.toInt32)), (.int (6 : Int32)), (.ref o1_)])) rfl rfl (hb hby d4_46)
  have N21 := Fr.snoc X20 N15 P5
  have f22 : Arv Z h20 o1_ ko1_ .byte (8 : Int32) [(.int x1_), (.int x2_), (.int x3_), (.int (((x0_.toUInt32 >>> ((24 : Int32) &&& 31).toUInt32).toInt32).toInt8.toInt32)), (.int (((x0_.toUInt32 >>> ((16 : Int32) &&& 31).toUInt32).toInt32).toInt8.toInt32)), (.int (((x0_.toUInt32 >>> ((8 : Int32) &&& 31).toUInt32).toInt32).toInt8.toInt32)), (.int ((x0_.toInt8.toInt32).toInt8.toInt32)), (.int x8_)] (.int (0 : Int32)) := Arv.set r20 q20 s20 z20 y20 G20 (fits_nar_byte _) W20 6 rfl (Nat.le_of_ble_eq_true rfl)
  have f23 : Arv Z h20 o1_ ko1_ .byte (8 : Int32) [(.int x1_), (.int x2_), (.int x3_), (.int (((x0_.toUInt32 >>> ((24 : Int32) &&& 31).toUInt32).toInt32).toInt8.toInt32)), (.int (((x0_.toUInt32 >>> ((16 : Int32) &&& 31).toUInt32).toInt32).toInt8.toInt32)), (.int (((x0_.toUInt32 >>> ((8 : Int32) &&& 31).toUInt32).toInt32).toInt8.toInt32)), (.int (x0_.toInt8.toInt32)), (.int x8_)] (.int (0 : Int32)) := by have q := f22; rw [own_i2b2] at q; exact q
  have pre24 : ∀ t, own_S p e below m T20 47 #[lvR o0_, lvI (3 : Int32), lvI x0_] [] t → G t := by
    intro t kt
    refine pre0 t ?_
    show own_S p e below m s₁ 0 #[lvR o0_, lvI (3 : Int32), lvI x0_] [] _
    refine XS.aloadN X0.here hx rfl (hb hby d4_0) rfl rfl ?_
    show own_S p e below m s₁ 1 #[lvR o0_, lvI (3 : Int32), lvI x0_] [(.ref o0_)] _
    refine st1 _ ?_
    refine XS.iloadN X1.here hx rfl (hb hby d4_4) rfl ?_
    refine XS.iloadN X1.here hx rfl (hb hby d4_5) rfl ?_
    refine XS.bipush X1.here hx rfl (hb hby d4_6) ?_
    show own_S p e below m T1 8 #[lvR o0_, lvI (3 : Int32), lvI x0_] [(.int (24 : Int32)), (.int x0_), (.int (3 : Int32)), (.ref o1_)] _
    refine XS.iushr X1.here hx rfl (hb hby d4_8) rfl ?_
    show own_S p e below m T1 9 #[lvR o0_, lvI (3 : Int32), lvI x0_] [(.int ((x0_.toUInt32 >>> ((24 : Int32) &&& 31).toUInt32).toInt32)), (.int (3 : Int32)), (.ref o1_)] _
    refine XS.i2b X1.here hx rfl (hb hby d4_9) rfl ?_
    show own_S p e below m T1 10 #[lvR o0_, lvI (3 : Int32), lvI x0_] [(.int (((x0_.toUInt32 >>> ((24 : Int32) &&& 31).toUInt32).toInt32).toInt8.toInt32)), (.int (3 : Int32)), (.ref o1_)] _
    refine st2 _ ?_
    refine XS.aloadN X2.here hx rfl (hb hby d4_11) rfl rfl ?_
    show own_S p e below m T2 12 #[lvR o0_, lvI (3 : Int32), lvI x0_] [(.ref o0_)] _
    refine st7 _ ?_
    refine XS.iloadN X7.here hx rfl (hb hby d4_15) rfl ?_
    refine XS.iconst X7.here hx rfl (hb hby d4_16) ?_
    refine XS.iadd X7.here hx rfl (hb hby d4_17) rfl ?_
    show own_S p e below m T7 18 #[lvR o0_, lvI (3 : Int32), lvI x0_] [(.int (4 : Int32)), (.ref o1_)] _
    refine XS.iloadN X7.here hx rfl (hb hby d4_18) rfl ?_
    refine XS.bipush X7.here hx rfl (hb hby d4_19) ?_
    show own_S p e below m T7 21 #[lvR o0_, lvI (3 : Int32), lvI x0_] [(.int (16 : Int32)), (.int x0_), (.int (4 : Int32)), (.ref o1_)] _
    refine XS.iushr X7.here hx rfl (hb hby d4_21) rfl ?_
    show own_S p e below m T7 22 #[lvR o0_, lvI (3 : Int32), lvI x0_] [(.int ((x0_.toUInt32 >>> ((16 : Int32) &&& 31).toUInt32).toInt32)), (.int (4 : Int32)), (.ref o1_)] _
    refine XS.i2b X7.here hx rfl (hb hby d4_22) rfl ?_
    show own_S p e below m T7 23 #[lvR o0_, lvI (3 : Int32), lvI x0_] [(.int (((x0_.toUInt32 >>> ((16 : Int32) &&& 31).toUInt32).toInt32).toInt8.toInt32)), (.int (4 : Int32)), (.ref o1_)] _
    refine st8 _ ?_
    refine XS.aloadN X8.here hx rfl (hb hby d4_24) rfl rfl ?_
    show own_S p e below m T8 25 #[lvR o0_, lvI (3 : Int32), lvI x0_] [(.ref o0_)] _
    refine st13 _ ?_
    refine XS.iloadN X13.here hx rfl (hb hby d4_28) rfl ?_
    refine XS.iconst X13.here hx rfl (hb hby d4_29) ?_
    refine XS.iadd X13.here hx rfl (hb hby d4_30) rfl ?_
    show own_S p e below m T13 31 #[lvR o0_, lvI (3 : Int32), lvI x0_] [(.int (5 : Int32)), (.ref o1_)] _
    refine XS.iloadN X13.here hx rfl (hb hby d4_31) rfl ?_
    refine XS.bipush X13.here hx rfl (hb hby d4_32) ?_
    show own_S p e below m T13 34 #[lvR o0_, lvI (3 : Int32), lvI x0_] [(.int (8 : Int32)), (.int x0_), (.int (5 : Int32)), (.ref o1_)] _
    refine XS.iushr X13.here hx rfl (hb hby d4_34) rfl ?_
    show own_S p e below m T13 35 #[lvR o0_, lvI (3 : Int32), lvI x0_] [(.int ((x0_.toUInt32 >>> ((8 : Int32) &&& 31).toUInt32).toInt32)), (.int (5 : Int32)), (.ref o1_)] _
    refine XS.i2b X13.here hx rfl (hb hby d4_35) rfl ?_
    show own_S p e below m T13 36 #[lvR o0_, lvI (3 : Int32), lvI x0_] [(.int (((x0_.toUInt32 >>> ((8 : Int32) &&& 31).toUInt32).toInt32).toInt8.toInt32)), (.int (5 : Int32)), (.ref o1_)] _
    refine st14 _ ?_
    refine XS.aloadN X14.here hx rfl (hb hby d4_37) rfl rfl ?_
    show own_S p e below m T14 38 #[lvR o0_, lvI (3 : Int32), lvI x0_] [(.ref o0_)] _
    refine st19 _ ?_
    refine XS.iloadN X19.here hx rfl (hb hby d4_41) rfl ?_
    refine XS.iconst X19.here hx rfl (hb hby d4_42) ?_
    refine XS.iadd X19.here hx rfl (hb hby d4_43) rfl ?_
    show own_S p e below m T19 44 #[lvR o0_, lvI (3 : Int32), lvI x0_] [(.int (6 : Int32)), (.ref o1_)] _
    refine XS.iloadN X19.here hx rfl (hb hby d4_44) rfl ?_
    show own_S p e below m T19 45 #[lvR o0_, lvI (3 : Int32), lvI x0_] [(.int x0_), (.int (6 : Int32)), (.ref o1_)] _
    refine XS.i2b X19.here hx rfl (hb hby d4_45) rfl ?_
    show own_S p e below m T19 46 #[lvR o0_, lvI (3 : Int32), lvI x0_] [(.int (x0_.toInt8.toInt32)), (.int (6 : Int32)), (.ref o1_)] _
    refine st20 _ ?_
    exact kt
  have f26 : Keep h0 h2 [o1_] := K0.wr W2 (Or.inl (List.mem_of_getElem? (i := 0) rfl))
  have f27 : Keep h0 h8 [o1_] := f26.wr W8 (Or.inl (List.mem_of_getElem? (i := 0) rfl))
  have f28 : Keep h0 h14 [o1_] := f27.wr W14 (Or.inl (List.mem_of_getElem? (i := 0) rfl))
  have f29 : Keep h0 h20 [o1_] := f28.wr W20 (Or.inl (List.mem_of_getElem? (i := 0) rfl))
  have f30 : Exa Z h2 o1_ "[B" := P4.wr W2
  have f31 : Exa Z h8 o1_ "[B" := f30.wr W8
  have f32 : Exa Z h14 o1_ "[B" := f31.wr W14
  have f33 : Exa Z h20 o1_ "[B" := f32.wr W20
  obtain ⟨fs, hr, hrun, hended, hW, hsame⟩ := X20.leave (v := none) (fun _ => rfl)
  refine ⟨_, _, hG _ (pre24 _ (X20.returnOut hx Bd.returns (hb hby d4_47) hr)), hrun, hended, _, _, rfl, ?_, ⟨_, rfl⟩, hW, hsame.mono (by decide) (by decide)⟩
  show Qu4At35 Z o0_ x0_ o1_ ko1_ x1_ x2_ x3_ x4_ x5_ x6_ x7_ x8_ h0 n0 _ T20.heap _
  rw [e20]
  exact ⟨rfl, N21, f29, f23, f33⟩
theorem efkeeps36 (m : MethodId) (o0_ : Addr) (x0_ : Int32) (x1_ : Int32) : entryFrame m #[(.ref o0_), (.int (0 : Int32)), (.int (3 : Int32)), (.int x0_), (.int x1_)] 7 = mkF m 0 #[lvR o0_, lvI (0 : Int32), lvI (3 : Int32), lvI x0_, lvI x1_, .unset, .unset] [] := by first | (simp [entryFrame, mkF, argsToLocals, Value.category]; done) | rfl
def Qkeeps36 (Z : State) (o0_ : Addr) (x0_ : Int32) (x1_ : Int32) (ko0_ : ClassId) (x2_ : Int32) (x3_ : Int32) (x4_ : Int32) (x5_ : Int32) (x6_ : Int32) (x7_ : Int32) (x8_ : Int32) (x9_ : Int32) (h0 : Heap) (n0 : Nat) (v : Option Value) (h : Heap) (L : List Loc) : Prop := ∃ r_ : Int32, v = some (.int r_) ∧ (((1 : Int32) = r_ ∧ (x2_ = (((x0_.toUInt32 >>> ((24 : Int32) &&& 31).toUInt32).toInt32).toInt8.toInt32))) ∨ ((0 : Int32) = r_ ∧ (¬ (x2_ = (((x0_.toUInt32 >>> ((24 : Int32) &&& 31).toUInt32).toInt32).toInt8.toInt32))))) ∧ Fr n0 L ∧ h = h0
set_option maxRecDepth 65536 in
set_option maxHeartbeats 40000000 in
theorem rmkeeps36 (l : Launch) (Z : State) (a0 : Array Value) (hw : ∀ d ∈ tables_1, d.before a0 Z = true) (ws : List Jvm.Cond) (o0_ : Addr) (x0_ : Int32) (x1_ : Int32) (ko0_ : ClassId) (x2_ : Int32) (x3_ : Int32) (x4_ : Int32) (x5_ : Int32) (x6_ : Int32) (x7_ : Int32) (x8_ : Int32) (x9_ : Int32) (h0 : Heap) (n0 : Nat) (O0 : Old Z n0 h0) (P0 : Arv Z h0 o0_ ko0_ .byte (8 : Int32) [(.int x2_), (.int x3_), (.int x4_), (.int x5_), (.int x6_), (.int x7_), (.int x8_), (.int x9_)] (.int (0 : Int32))) (P1 : Exa Z h0 o0_ "[B") :
    MetFree l (⟨"com/example/stackweave/stackweave/classfile/ByteWriterU4AtPinLaw", "keeps", "([BIIII)Z"⟩ : MethodName) (head1 (Jvm.Cond.code (⟨"com/example/stackweave/stackweave/classfile/ByteWriterU4AtPinLaw", "keeps", "([BIIII)Z"⟩ : MethodName) method_3_code 7 (some .boolean) :: ws) ({ frames := 0, cells := 0, slots := 0, locals := 0 } : Room)) (fun a U => a = #[(.ref o0_), (.int (0 : Int32)), (.int (3 : Int32)), (.int x0_), (.int x1_)] ∧ Z.Warmed39 U.vm ∧ U.heap = h0) (fun _ _ _ _ _ => True) (fun _ U o U' => ∃ v L, o = .returned v ∧ Qkeeps36 Z o0_ x0_ x1_ ko0_ x2_ x3_ x4_ x5_ x6_ x7_ x8_ x9_ h0 n0 v U'.heap L ∧ FrameEnd U o U' L ({ frames := 0, cells := 0, slots := 0, locals := 0 } : Room).cells ({ frames := 0, cells := 0, slots := 0, locals := 0 } : Room).slots) := by
  refine MetFree.of_bodySF (plainFor_of_name pn_1) hisR ?_
  intro p e s m args below meth c s₁ Bd hml0 hP hK
  obtain ⟨rfl, hZ, hh⟩ := hP
  have hx := Bd.exec
  have hby := Bd.bytes
  have hml : c.maxLocals = 7 := hml0
  have hown : s.vm.findClass "com/example/stackweave/stackweave/classfile/ByteWriterU4AtPinLaw" = some m.cls := findClass_of_methodNamed Bd.named
  have hnm := (name_of_methodNamed Bd.named Bd.method).1
  have X0 : Stand p l e ({ frames := 0, cells := 0, slots := 0, locals := 0 } : Room) s m #[(.ref o0_), (.int (0 : Int32)), (.int (3 : Int32)), (.int x0_), (.int x1_)] below meth c s₁ [] 0 0 := Stand.of_body Bd
  have e0 : s₁.heap = h0 := by rw [← hh, Bd.state]; rfl
  have N0 := Fr.nil n0
  obtain ⟨G, pre0, hG⟩ : ∃ G : State → Prop, (∀ t, own_S p e below m s₁ 0 #[lvR o0_, lvI (0 : Int32), lvI (3 : Int32), lvI x0_, lvI x1_, .unset, .unset] [] t → G t) ∧ (∀ t, G t → Steps p.tables e below (s₁.setTop (entryFrame m #[(.ref o0_), (.int (0 : Int32)), (.int (3 : Int32)), (.int x0_), (.int x1_)] 7)) t) := ⟨fun t => Steps p.tables e below (s₁.setTop (entryFrame m #[(.ref o0_), (.int (0 : Int32)), (.int (3 : Int32)), (.int x0_), (.int x1_)] 7)) t, fun t k => castTop (efkeeps36 m o0_ x0_ x1_) k, fun _ k => k⟩
  have K0 : Keep h0 h0 [] := Keep.refl _ _
  obtain ⟨c1, r1, q1, s1, z1, y1, G1⟩ := id P0
  have hin1 : ¬ ((0 : Int32) < 0 ∨ c1.slots.size ≤ ((0 : Int32)).toNatClampNeg) := inb_of s1 ⟨by decide, by decide⟩
  have hat1 : c1.slots[((0 : Int32)).toNatClampNeg]? = some (.int x2_) := Has.at y1 hin1 rfl
  have pre2 : ∀ t, own_S p e below m s₁ 47 #[lvR o0_, lvI (0 : Int32), lvI (3 : Int32), lvI x0_, lvI x1_, lvI x0_, lvI (24 : Int32)] [(.int (((x0_.toUInt32 >>> ((24 : Int32) &&& 31).toUInt32).toInt32).toInt8.toInt32)), (.int x2_)] t → G t := by
    intro t kt
    refine pre0 t ?_
    show own_S p e below m s₁ 0 #[lvR o0_, lvI (0 : Int32), lvI (3 : Int32), lvI x0_, lvI x1_, .unset, .unset] [] _
    refine XS.iloadN X0.here hx rfl (hb hby d7_0) rfl ?_
    refine XS.iloadN X0.here hx rfl (hb hby d7_1) rfl ?_
    show own_S p e below m s₁ 2 #[lvR o0_, lvI (0 : Int32), lvI (3 : Int32), lvI x0_, lvI x1_, .unset, .unset] [(.int (3 : Int32)), (.int (0 : Int32))] _
    refine XS.icmpYes X0.here hx rfl (pc0 := 2) (pc' := 14) rfl (hb hby d7_2) rfl (tlt (by decide : (0 : Int32) < (3 : Int32))).1 (by decide) (by decide) ?_
    refine XS.iloadN X0.here hx rfl (hb hby d7_14) rfl ?_
    refine XS.iconst X0.here hx rfl (hb hby d7_15) ?_
    show own_S p e below m s₁ 16 #[lvR o0_, lvI (0 : Int32), lvI (3 : Int32), lvI x0_, lvI x1_, .unset, .unset] [(.int (4 : Int32)), (.int (0 : Int32))] _
    refine XS.icmpNo X0.here hx rfl (hb hby d7_16) rfl (tlt (by decide : (0 : Int32) < (4 : Int32))).2.1 ?_
    refine XS.iloadN X0.here hx rfl (hb hby d7_19) rfl ?_
    refine XS.goto X0.here hx rfl (pc0 := 20) (pc' := 25) rfl (hb hby d7_20) (by decide) (by decide) ?_
    refine XS.istore X0.here hx rfl (hb hby d7_25) rfl (l' := #[lvR o0_, lvI (0 : Int32), lvI (3 : Int32), lvI x0_, lvI x1_, lvI x0_, .unset]) rfl ?_
    show own_S p e below m s₁ 27 #[lvR o0_, lvI (0 : Int32), lvI (3 : Int32), lvI x0_, lvI x1_, lvI x0_, .unset] [] _
    refine XS.bipush X0.here hx rfl (hb hby d7_27) ?_
    refine XS.bipush X0.here hx rfl (hb hby d7_29) ?_
    refine XS.iloadN X0.here hx rfl (hb hby d7_31) rfl ?_
    refine XS.iconst X0.here hx rfl (hb hby d7_32) ?_
    show own_S p e below m s₁ 33 #[lvR o0_, lvI (0 : Int32), lvI (3 : Int32), lvI x0_, lvI x1_, lvI x0_, .unset] [(.int (3 : Int32)), (.int (0 : Int32)), (.int (8 : Int32)), (.int (24 : Int32))] _
    refine XS.iand X0.here hx rfl (hb hby d7_33) rfl ?_
    refine XS.imul X0.here hx rfl (hb hby d7_34) rfl ?_
    refine XS.isub X0.here hx rfl (hb hby d7_35) rfl ?_
    refine XS.istore X0.here hx rfl (hb hby d7_36) rfl (l' := #[lvR o0_, lvI (0 : Int32), lvI (3 : Int32), lvI x0_, lvI x1_, lvI x0_, lvI (24 : Int32)]) rfl ?_
    show own_S p e below m s₁ 38 #[lvR o0_, lvI (0 : Int32), lvI (3 : Int32), lvI x0_, lvI x1_, lvI x0_, lvI (24 : Int32)] [] _
    refine XS.aloadN X0.here hx rfl (hb hby d7_38) rfl rfl ?_
    refine XS.iloadN X0.here hx rfl (hb hby d7_39) rfl ?_
    show own_S p e below m s₁ 40 #[lvR o0_, lvI (0 : Int32), lvI (3 : Int32), lvI x0_, lvI x1_, lvI x0_, lvI (24 : Int32)] [(.int (0 : Int32)), (.ref o0_)] _
    refine X0.baloadBytes hx (j := (0 : Int32)) (v := (.int x2_)) (by rw [e0]; exact r1.1) (State.isArrayOf_alike hZ.alike r1.2.1) r1.2.2 hin1 hat1 (g := (mkF m 40 #[lvR o0_, lvI (0 : Int32), lvI (3 : Int32), lvI x0_, lvI x1_, lvI x0_, lvI (24 : Int32)] [(.int (0 : Int32)), (.ref o0_)])) rfl rfl (hb hby d7_40) _ ?_
    refine XS.iload X0.here hx rfl (hb hby d7_41) rfl ?_
    refine XS.iload X0.here hx rfl (hb hby d7_43) rfl ?_
    show own_S p e below m s₁ 45 #[lvR o0_, lvI (0 : Int32), lvI (3 : Int32), lvI x0_, lvI x1_, lvI x0_, lvI (24 : Int32)] [(.int (24 : Int32)), (.int x0_), (.int x2_)] _
    refine XS.iushr X0.here hx rfl (hb hby d7_45) rfl ?_
    show own_S p e below m s₁ 46 #[lvR o0_, lvI (0 : Int32), lvI (3 : Int32), lvI x0_, lvI x1_, lvI x0_, lvI (24 : Int32)] [(.int ((x0_.toUInt32 >>> ((24 : Int32) &&& 31).toUInt32).toInt32)), (.int x2_)] _
    refine XS.i2b X0.here hx rfl (hb hby d7_46) rfl ?_
    exact kt
  by_cases hc3 : x2_ = (((x0_.toUInt32 >>> ((24 : Int32) &&& 31).toUInt32).toInt32).toInt8.toInt32)
  · have pre4 : ∀ t, own_S p e below m s₁ 55 #[lvR o0_, lvI (0 : Int32), lvI (3 : Int32), lvI x0_, lvI x1_, lvI x0_, lvI (24 : Int32)] [(.int (1 : Int32))] t → G t := by
      intro t kt
      refine pre2 t ?_
      show own_S p e below m s₁ 47 #[lvR o0_, lvI (0 : Int32), lvI (3 : Int32), lvI x0_, lvI x1_, lvI x0_, lvI (24 : Int32)] [(.int (((x0_.toUInt32 >>> ((24 : Int32) &&& 31).toUInt32).toInt32).toInt8.toInt32)), (.int x2_)] _
      refine XS.icmpNo X0.here hx rfl (hb hby d7_47) rfl (teq hc3).2 ?_
      refine XS.iconst X0.here hx rfl (hb hby d7_50) ?_
      refine XS.goto X0.here hx rfl (pc0 := 51) (pc' := 55) rfl (hb hby d7_51) (by decide) (by decide) ?_
      exact kt
    obtain ⟨fs, hr, hrun, hended, hW, hsame⟩ := X0.leave (v := some (.int (1 : Int32))) (fun h => by rw [Bd.returns] at h; cases h)
    refine ⟨_, _, hG _ (pre4 _ (retN X0 hx (t := .boolean) Bd.returns (by simp) (hb hby d7_55) hr)), hrun, hended, _, _, rfl, ?_, ⟨_, rfl⟩, hW, hsame.mono (by decide) (by decide)⟩
    show Qkeeps36 Z o0_ x0_ x1_ ko0_ x2_ x3_ x4_ x5_ x6_ x7_ x8_ x9_ h0 n0 _ s₁.heap _
    rw [e0]
    exact ⟨(1 : Int32), rfl, (Or.inl ⟨rfl, hc3⟩), N0, rfl⟩
  · have pre6 : ∀ t, own_S p e below m s₁ 55 #[lvR o0_, lvI (0 : Int32), lvI (3 : Int32), lvI x0_, lvI x1_, lvI x0_, lvI (24 : Int32)] [(.int (0 : Int32))] t → G t := by
      intro t kt
      refine pre2 t ?_
      show own_S p e below m s₁ 47 #[lvR o0_, lvI (0 : Int32), lvI (3 : Int32), lvI x0_, lvI x1_, lvI x0_, lvI (24 : Int32)] [(.int (((x0_.toUInt32 >>> ((24 : Int32) &&& 31).toUInt32).toInt32).toInt8.toInt32)), (.int x2_)] _
      refine XS.icmpYes X0.here hx rfl (pc0 := 47) (pc' := 54) rfl (hb hby d7_47) rfl (feq hc3).2 (by decide) (by decide) ?_
      refine XS.iconst X0.here hx rfl (hb hby d7_54) ?_
      exact kt
    obtain ⟨fs, hr, hrun, hended, hW, hsame⟩ := X0.leave (v := some (.int (0 : Int32))) (fun h => by rw [Bd.returns] at h; cases h)
    refine ⟨_, _, hG _ (pre6 _ (retN X0 hx (t := .boolean) Bd.returns (by simp) (hb hby d7_55) hr)), hrun, hended, _, _, rfl, ?_, ⟨_, rfl⟩, hW, hsame.mono (by decide) (by decide)⟩
    show Qkeeps36 Z o0_ x0_ x1_ ko0_ x2_ x3_ x4_ x5_ x6_ x7_ x8_ x9_ h0 n0 _ s₁.heap _
    rw [e0]
    exact ⟨(0 : Int32), rfl, (Or.inr ⟨rfl, hc3⟩), N0, rfl⟩
theorem efkeeps37 (m : MethodId) (o0_ : Addr) (x0_ : Int32) (x1_ : Int32) : entryFrame m #[(.ref o0_), (.int (1 : Int32)), (.int (3 : Int32)), (.int x0_), (.int x1_)] 7 = mkF m 0 #[lvR o0_, lvI (1 : Int32), lvI (3 : Int32), lvI x0_, lvI x1_, .unset, .unset] [] := by first | (simp [entryFrame, mkF, argsToLocals, Value.category]; done) | rfl
def Qkeeps37 (Z : State) (o0_ : Addr) (x0_ : Int32) (x1_ : Int32) (ko0_ : ClassId) (x2_ : Int32) (x3_ : Int32) (x4_ : Int32) (x5_ : Int32) (x6_ : Int32) (x7_ : Int32) (x8_ : Int32) (x9_ : Int32) (h0 : Heap) (n0 : Nat) (v : Option Value) (h : Heap) (L : List Loc) : Prop := ∃ r_ : Int32, v = some (.int r_) ∧ (((1 : Int32) = r_ ∧ (x3_ = (((x0_.toUInt32 >>> ((16 : Int32) &&& 31).toUInt32).toInt32).toInt8.toInt32))) ∨ ((0 : Int32) = r_ ∧ (¬ (x3_ = (((x0_.toUInt32 >>> ((16 : Int32) &&& 31).toUInt32).toInt32).toInt8.toInt32))))) ∧ Fr n0 L ∧ h = h0
set_option maxRecDepth 65536 in
set_option maxHeartbeats 40000000 in
theorem rmkeeps37 (l : Launch) (Z : State) (a0 : Array Value) (hw : ∀ d ∈ tables_1, d.before a0 Z = true) (ws : List Jvm.Cond) (o0_ : Addr) (x0_ : Int32) (x1_ : Int32) (ko0_ : ClassId) (x2_ : Int32) (x3_ : Int32) (x4_ : Int32) (x5_ : Int32) (x6_ : Int32) (x7_ : Int32) (x8_ : Int32) (x9_ : Int32) (h0 : Heap) (n0 : Nat) (O0 : Old Z n0 h0) (P0 : Arv Z h0 o0_ ko0_ .byte (8 : Int32) [(.int x2_), (.int x3_), (.int x4_), (.int x5_), (.int x6_), (.int x7_), (.int x8_), (.int x9_)] (.int (0 : Int32))) (P1 : Exa Z h0 o0_ "[B") :
    MetFree l (⟨"com/example/stackweave/stackweave/classfile/ByteWriterU4AtPinLaw", "keeps", "([BIIII)Z"⟩ : MethodName) (head1 (Jvm.Cond.code (⟨"com/example/stackweave/stackweave/classfile/ByteWriterU4AtPinLaw", "keeps", "([BIIII)Z"⟩ : MethodName) method_3_code 7 (some .boolean) :: ws) ({ frames := 0, cells := 0, slots := 0, locals := 0 } : Room)) (fun a U => a = #[(.ref o0_), (.int (1 : Int32)), (.int (3 : Int32)), (.int x0_), (.int x1_)] ∧ Z.Warmed39 U.vm ∧ U.heap = h0) (fun _ _ _ _ _ => True) (fun _ U o U' => ∃ v L, o = .returned v ∧ Qkeeps37 Z o0_ x0_ x1_ ko0_ x2_ x3_ x4_ x5_ x6_ x7_ x8_ x9_ h0 n0 v U'.heap L ∧ FrameEnd U o U' L ({ frames := 0, cells := 0, slots := 0, locals := 0 } : Room).cells ({ frames := 0, cells := 0, slots := 0, locals := 0 } : Room).slots) := by
  refine MetFree.of_bodySF (plainFor_of_name pn_1) hisR ?_
  intro p e s m args below meth c s₁ Bd hml0 hP hK
  obtain ⟨rfl, hZ, hh⟩ := hP
  have hx := Bd.exec
  have hby := Bd.bytes
  have hml : c.maxLocals = 7 := hml0
  have hown : s.vm.findClass "com/example/stackweave/stackweave/classfile/ByteWriterU4AtPinLaw" = some m.cls := findClass_of_methodNamed Bd.named
  have hnm := (name_of_methodNamed Bd.named Bd.method).1
  have X0 : Stand p l e ({ frames := 0, cells := 0, slots := 0, locals := 0 } : Room) s m #[(.ref o0_), (.int (1 : Int32)), (.int (3 : Int32)), (.int x0_), (.int x1_)] below meth c s₁ [] 0 0 := Stand.of_body Bd
  have e0 : s₁.heap = h0 := by rw [← hh, Bd.state]; rfl
  have N0 := Fr.nil n0
  obtain ⟨G, pre0, hG⟩ : ∃ G : State → Prop, (∀ t, own_S p e below m s₁ 0 #[lvR o0_, lvI (1 : Int32), lvI (3 : Int32), lvI x0_, lvI x1_, .unset, .unset] [] t → G t) ∧ (∀ t, G t → Steps p.tables e below (s₁.setTop (entryFrame m #[(.ref o0_), (.int (1 : Int32)), (.int (3 : Int32)), (.int x0_), (.int x1_)] 7)) t) := ⟨fun t => Steps p.tables e below (s₁.setTop (entryFrame m #[(.ref o0_), (.int (1 : Int32)), (.int (3 : Int32)), (.int x0_), (.int x1_)] 7)) t, fun t k => castTop (efkeeps37 m o0_ x0_ x1_) k, fun _ k => k⟩
  have K0 : Keep h0 h0 [] := Keep.refl _ _
  obtain ⟨c1, r1, q1, s1, z1, y1, G1⟩ := id P0
  have hin1 : ¬ ((1 : Int32) < 0 ∨ c1.slots.size ≤ ((1 : Int32)).toNatClampNeg) := inb_of s1 ⟨by decide, by decide⟩
  have hat1 : c1.slots[((1 : Int32)).toNatClampNeg]? = some (.int x3_) := Has.at y1 hin1 rfl
  have pre2 : ∀ t, own_S p e below m s₁ 47 #[lvR o0_, lvI (1 : Int32), lvI (3 : Int32), lvI x0_, lvI x1_, lvI x0_, lvI (16 : Int32)] [(.int (((x0_.toUInt32 >>> ((16 : Int32) &&& 31).toUInt32).toInt32).toInt8.toInt32)), (.int x3_)] t → G t := by
    intro t kt
    refine pre0 t ?_
    show own_S p e below m s₁ 0 #[lvR o0_, lvI (1 : Int32), lvI (3 : Int32), lvI x0_, lvI x1_, .unset, .unset] [] _
    refine XS.iloadN X0.here hx rfl (hb hby d7_0) rfl ?_
    refine XS.iloadN X0.here hx rfl (hb hby d7_1) rfl ?_
    show own_S p e below m s₁ 2 #[lvR o0_, lvI (1 : Int32), lvI (3 : Int32), lvI x0_, lvI x1_, .unset, .unset] [(.int (3 : Int32)), (.int (1 : Int32))] _
    refine XS.icmpYes X0.here hx rfl (pc0 := 2) (pc' := 14) rfl (hb hby d7_2) rfl (tlt (by decide : (1 : Int32) < (3 : Int32))).1 (by decide) (by decide) ?_
    refine XS.iloadN X0.here hx rfl (hb hby d7_14) rfl ?_
    refine XS.iconst X0.here hx rfl (hb hby d7_15) ?_
    show own_S p e below m s₁ 16 #[lvR o0_, lvI (1 : Int32), lvI (3 : Int32), lvI x0_, lvI x1_, .unset, .unset] [(.int (4 : Int32)), (.int (1 : Int32))] _
    refine XS.icmpNo X0.here hx rfl (hb hby d7_16) rfl (tlt (by decide : (1 : Int32) < (4 : Int32))).2.1 ?_
    refine XS.iloadN X0.here hx rfl (hb hby d7_19) rfl ?_
    refine XS.goto X0.here hx rfl (pc0 := 20) (pc' := 25) rfl (hb hby d7_20) (by decide) (by decide) ?_
    refine XS.istore X0.here hx rfl (hb hby d7_25) rfl (l' := #[lvR o0_, lvI (1 : Int32), lvI (3 : Int32), lvI x0_, lvI x1_, lvI x0_, .unset]) rfl ?_
    show own_S p e below m s₁ 27 #[lvR o0_, lvI (1 : Int32), lvI (3 : Int32), lvI x0_, lvI x1_, lvI x0_, .unset] [] _
    refine XS.bipush X0.here hx rfl (hb hby d7_27) ?_
    refine XS.bipush X0.here hx rfl (hb hby d7_29) ?_
    refine XS.iloadN X0.here hx rfl (hb hby d7_31) rfl ?_
    refine XS.iconst X0.here hx rfl (hb hby d7_32) ?_
    show own_S p e below m s₁ 33 #[lvR o0_, lvI (1 : Int32), lvI (3 : Int32), lvI x0_, lvI x1_, lvI x0_, .unset] [(.int (3 : Int32)), (.int (1 : Int32)), (.int (8 : Int32)), (.int (24 : Int32))] _
    refine XS.iand X0.here hx rfl (hb hby d7_33) rfl ?_
    refine XS.imul X0.here hx rfl (hb hby d7_34) rfl ?_
    refine XS.isub X0.here hx rfl (hb hby d7_35) rfl ?_
    refine XS.istore X0.here hx rfl (hb hby d7_36) rfl (l' := #[lvR o0_, lvI (1 : Int32), lvI (3 : Int32), lvI x0_, lvI x1_, lvI x0_, lvI (16 : Int32)]) rfl ?_
    show own_S p e below m s₁ 38 #[lvR o0_, lvI (1 : Int32), lvI (3 : Int32), lvI x0_, lvI x1_, lvI x0_, lvI (16 : Int32)] [] _
    refine XS.aloadN X0.here hx rfl (hb hby d7_38) rfl rfl ?_
    refine XS.iloadN X0.here hx rfl (hb hby d7_39) rfl ?_
    show own_S p e below m s₁ 40 #[lvR o0_, lvI (1 : Int32), lvI (3 : Int32), lvI x0_, lvI x1_, lvI x0_, lvI (16 : Int32)] [(.int (1 : Int32)), (.ref o0_)] _
    refine X0.baloadBytes hx (j := (1 : Int32)) (v := (.int x3_)) (by rw [e0]; exact r1.1) (State.isArrayOf_alike hZ.alike r1.2.1) r1.2.2 hin1 hat1 (g := (mkF m 40 #[lvR o0_, lvI (1 : Int32), lvI (3 : Int32), lvI x0_, lvI x1_, lvI x0_, lvI (16 : Int32)] [(.int (1 : Int32)), (.ref o0_)])) rfl rfl (hb hby d7_40) _ ?_
    refine XS.iload X0.here hx rfl (hb hby d7_41) rfl ?_
    refine XS.iload X0.here hx rfl (hb hby d7_43) rfl ?_
    show own_S p e below m s₁ 45 #[lvR o0_, lvI (1 : Int32), lvI (3 : Int32), lvI x0_, lvI x1_, lvI x0_, lvI (16 : Int32)] [(.int (16 : Int32)), (.int x0_), (.int x3_)] _
    refine XS.iushr X0.here hx rfl (hb hby d7_45) rfl ?_
    show own_S p e below m s₁ 46 #[lvR o0_, lvI (1 : Int32), lvI (3 : Int32), lvI x0_, lvI x1_, lvI x0_, lvI (16 : Int32)] [(.int ((x0_.toUInt32 >>> ((16 : Int32) &&& 31).toUInt32).toInt32)), (.int x3_)] _
    refine XS.i2b X0.here hx rfl (hb hby d7_46) rfl ?_
    exact kt
  by_cases hc3 : x3_ = (((x0_.toUInt32 >>> ((16 : Int32) &&& 31).toUInt32).toInt32).toInt8.toInt32)
  · have pre4 : ∀ t, own_S p e below m s₁ 55 #[lvR o0_, lvI (1 : Int32), lvI (3 : Int32), lvI x0_, lvI x1_, lvI x0_, lvI (16 : Int32)] [(.int (1 : Int32))] t → G t := by
      intro t kt
      refine pre2 t ?_
      show own_S p e below m s₁ 47 #[lvR o0_, lvI (1 : Int32), lvI (3 : Int32), lvI x0_, lvI x1_, lvI x0_, lvI (16 : Int32)] [(.int (((x0_.toUInt32 >>> ((16 : Int32) &&& 31).toUInt32).toInt32).toInt8.toInt32)), (.int x3_)] _
      refine XS.icmpNo X0.here hx rfl (hb hby d7_47) rfl (teq hc3).2 ?_
      refine XS.iconst X0.here hx rfl (hb hby d7_50) ?_
      refine XS.goto X0.here hx rfl (pc0 := 51) (pc' := 55) rfl (hb hby d7_51) (by decide) (by decide) ?_
      exact kt
    obtain ⟨fs, hr, hrun, hended, hW, hsame⟩ := X0.leave (v := some (.int (1 : Int32))) (fun h => by rw [Bd.returns] at h; cases h)
    refine ⟨_, _, hG _ (pre4 _ (retN X0 hx (t := .boolean) Bd.returns (by simp) (hb hby d7_55) hr)), hrun, hended, _, _, rfl, ?_, ⟨_, rfl⟩, hW, hsame.mono (by decide) (by decide)⟩
    show Qkeeps37 Z o0_ x0_ x1_ ko0_ x2_ x3_ x4_ x5_ x6_ x7_ x8_ x9_ h0 n0 _ s₁.heap _
    rw [e0]
    exact ⟨(1 : Int32), rfl, (Or.inl ⟨rfl, hc3⟩), N0, rfl⟩
  · have pre6 : ∀ t, own_S p e below m s₁ 55 #[lvR o0_, lvI (1 : Int32), lvI (3 : Int32), lvI x0_, lvI x1_, lvI x0_, lvI (16 : Int32)] [(.int (0 : Int32))] t → G t := by
      intro t kt
      refine pre2 t ?_
      show own_S p e below m s₁ 47 #[lvR o0_, lvI (1 : Int32), lvI (3 : Int32), lvI x0_, lvI x1_, lvI x0_, lvI (16 : Int32)] [(.int (((x0_.toUInt32 >>> ((16 : Int32) &&& 31).toUInt32).toInt32).toInt8.toInt32)), (.int x3_)] _
      refine XS.icmpYes X0.here hx rfl (pc0 := 47) (pc' := 54) rfl (hb hby d7_47) rfl (feq hc3).2 (by decide) (by decide) ?_
      refine XS.iconst X0.here hx rfl (hb hby d7_54) ?_
      exact kt
    obtain ⟨fs, hr, hrun, hended, hW, hsame⟩ := X0.leave (v := some (.int (0 : Int32))) (fun h => by rw [Bd.returns] at h; cases h)
    refine ⟨_, _, hG _ (pre6 _ (retN X0 hx (t := .boolean) Bd.returns (by simp) (hb hby d7_55) hr)), hrun, hended, _, _, rfl, ?_, ⟨_, rfl⟩, hW, hsame.mono (by decide) (by decide)⟩
    show Qkeeps37 Z o0_ x0_ x1_ ko0_ x2_ x3_ x4_ x5_ x6_ x7_ x8_ x9_ h0 n0 _ s₁.heap _
    rw [e0]
    exact ⟨(0 : Int32), rfl, (Or.inr ⟨rfl, hc3⟩), N0, rfl⟩
theorem efkeeps38 (m : MethodId) (o0_ : Addr) (x0_ : Int32) (x1_ : Int32) : entryFrame m #[(.ref o0_), (.int (2 : Int32)), (.int (3 : Int32)), (.int x0_), (.int x1_)] 7 = mkF m 0 #[lvR o0_, lvI (2 : Int32), lvI (3 : Int32), lvI x0_, lvI x1_, .unset, .unset] [] := by first | (simp [entryFrame, mkF, argsToLocals, Value.category]; done) | rfl
def Qkeeps38 (Z : State) (o0_ : Addr) (x0_ : Int32) (x1_ : Int32) (ko0_ : ClassId) (x2_ : Int32) (x3_ : Int32) (x4_ : Int32) (x5_ : Int32) (x6_ : Int32) (x7_ : Int32) (x8_ : Int32) (x9_ : Int32) (h0 : Heap) (n0 : Nat) (v : Option Value) (h : Heap) (L : List Loc) : Prop := ∃ r_ : Int32, v = some (.int r_) ∧ (((1 : Int32) = r_ ∧ (x4_ = (((x0_.toUInt32 >>> ((8 : Int32) &&& 31).toUInt32).toInt32).toInt8.toInt32))) ∨ ((0 : Int32) = r_ ∧ (¬ (x4_ = (((x0_.toUInt32 >>> ((8 : Int32) &&& 31).toUInt32).toInt32).toInt8.toInt32))))) ∧ Fr n0 L ∧ h = h0
set_option maxRecDepth 65536 in
set_option maxHeartbeats 40000000 in
theorem rmkeeps38 (l : Launch) (Z : State) (a0 : Array Value) (hw : ∀ d ∈ tables_1, d.before a0 Z = true) (ws : List Jvm.Cond) (o0_ : Addr) (x0_ : Int32) (x1_ : Int32) (ko0_ : ClassId) (x2_ : Int32) (x3_ : Int32) (x4_ : Int32) (x5_ : Int32) (x6_ : Int32) (x7_ : Int32) (x8_ : Int32) (x9_ : Int32) (h0 : Heap) (n0 : Nat) (O0 : Old Z n0 h0) (P0 : Arv Z h0 o0_ ko0_ .byte (8 : Int32) [(.int x2_), (.int x3_), (.int x4_), (.int x5_), (.int x6_), (.int x7_), (.int x8_), (.int x9_)] (.int (0 : Int32))) (P1 : Exa Z h0 o0_ "[B") :
    MetFree l (⟨"com/example/stackweave/stackweave/classfile/ByteWriterU4AtPinLaw", "keeps", "([BIIII)Z"⟩ : MethodName) (head1 (Jvm.Cond.code (⟨"com/example/stackweave/stackweave/classfile/ByteWriterU4AtPinLaw", "keeps", "([BIIII)Z"⟩ : MethodName) method_3_code 7 (some .boolean) :: ws) ({ frames := 0, cells := 0, slots := 0, locals := 0 } : Room)) (fun a U => a = #[(.ref o0_), (.int (2 : Int32)), (.int (3 : Int32)), (.int x0_), (.int x1_)] ∧ Z.Warmed39 U.vm ∧ U.heap = h0) (fun _ _ _ _ _ => True) (fun _ U o U' => ∃ v L, o = .returned v ∧ Qkeeps38 Z o0_ x0_ x1_ ko0_ x2_ x3_ x4_ x5_ x6_ x7_ x8_ x9_ h0 n0 v U'.heap L ∧ FrameEnd U o U' L ({ frames := 0, cells := 0, slots := 0, locals := 0 } : Room).cells ({ frames := 0, cells := 0, slots := 0, locals := 0 } : Room).slots) := by
  refine MetFree.of_bodySF (plainFor_of_name pn_1) hisR ?_
  intro p e s m args below meth c s₁ Bd hml0 hP hK
  obtain ⟨rfl, hZ, hh⟩ := hP
  have hx := Bd.exec
  have hby := Bd.bytes
  have hml : c.maxLocals = 7 := hml0
  have hown : s.vm.findClass "com/example/stackweave/stackweave/classfile/ByteWriterU4AtPinLaw" = some m.cls := findClass_of_methodNamed Bd.named
  have hnm := (name_of_methodNamed Bd.named Bd.method).1
  have X0 : Stand p l e ({ frames := 0, cells := 0, slots := 0, locals := 0 } : Room) s m #[(.ref o0_), (.int (2 : Int32)), (.int (3 : Int32)), (.int x0_), (.int x1_)] below meth c s₁ [] 0 0 := Stand.of_body Bd
  have e0 : s₁.heap = h0 := by rw [← hh, Bd.state]; rfl
  have N0 := Fr.nil n0
  obtain ⟨G, pre0, hG⟩ : ∃ G : State → Prop, (∀ t, own_S p e below m s₁ 0 #[lvR o0_, lvI (2 : Int32), lvI (3 : Int32), lvI x0_, lvI x1_, .unset, .unset] [] t → G t) ∧ (∀ t, G t → Steps p.tables e below (s₁.setTop (entryFrame m #[(.ref o0_), (.int (2 : Int32)), (.int (3 : Int32)), (.int x0_), (.int x1_)] 7)) t) := ⟨fun t => Steps p.tables e below (s₁.setTop (entryFrame m #[(.ref o0_), (.int (2 : Int32)), (.int (3 : Int32)), (.int x0_), (.int x1_)] 7)) t, fun t k => castTop (efkeeps38 m o0_ x0_ x1_) k, fun _ k => k⟩
  have K0 : Keep h0 h0 [] := Keep.refl _ _
  obtain ⟨c1, r1, q1, s1, z1, y1, G1⟩ := id P0
  have hin1 : ¬ ((2 : Int32) < 0 ∨ c1.slots.size ≤ ((2 : Int32)).toNatClampNeg) := inb_of s1 ⟨by decide, by decide⟩
  have hat1 : c1.slots[((2 : Int32)).toNatClampNeg]? = some (.int x4_) := Has.at y1 hin1 rfl
  have pre2 : ∀ t, own_S p e below m s₁ 47 #[lvR o0_, lvI (2 : Int32), lvI (3 : Int32), lvI x0_, lvI x1_, lvI x0_, lvI (8 : Int32)] [(.int (((x0_.toUInt32 >>> ((8 : Int32) &&& 31).toUInt32).toInt32).toInt8.toInt32)), (.int x4_)] t → G t := by
    intro t kt
    refine pre0 t ?_
    show own_S p e below m s₁ 0 #[lvR o0_, lvI (2 : Int32), lvI (3 : Int32), lvI x0_, lvI x1_, .unset, .unset] [] _
    refine XS.iloadN X0.here hx rfl (hb hby d7_0) rfl ?_
    refine XS.iloadN X0.here hx rfl (hb hby d7_1) rfl ?_
    show own_S p e below m s₁ 2 #[lvR o0_, lvI (2 : Int32), lvI (3 : Int32), lvI x0_, lvI x1_, .unset, .unset] [(.int (3 : Int32)), (.int (2 : Int32))] _
    refine XS.icmpYes X0.here hx rfl (pc0 := 2) (pc' := 14) rfl (hb hby d7_2) rfl (tlt (by decide : (2 : Int32) < (3 : Int32))).1 (by decide) (by decide) ?_
    refine XS.iloadN X0.here hx rfl (hb hby d7_14) rfl ?_
    refine XS.iconst X0.here hx rfl (hb hby d7_15) ?_
    show own_S p e below m s₁ 16 #[lvR o0_, lvI (2 : Int32), lvI (3 : Int32), lvI x0_, lvI x1_, .unset, .unset] [(.int (4 : Int32)), (.int (2 : Int32))] _
    refine XS.icmpNo X0.here hx rfl (hb hby d7_16) rfl (tlt (by decide : (2 : Int32) < (4 : Int32))).2.1 ?_
    refine XS.iloadN X0.here hx rfl (hb hby d7_19) rfl ?_
    refine XS.goto X0.here hx rfl (pc0 := 20) (pc' := 25) rfl (hb hby d7_20) (by decide) (by decide) ?_
    refine XS.istore X0.here hx rfl (hb hby d7_25) rfl (l' := #[lvR o0_, lvI (2 : Int32), lvI (3 : Int32), lvI x0_, lvI x1_, lvI x0_, .unset]) rfl ?_
    show own_S p e below m s₁ 27 #[lvR o0_, lvI (2 : Int32), lvI (3 : Int32), lvI x0_, lvI x1_, lvI x0_, .unset] [] _
    refine XS.bipush X0.here hx rfl (hb hby d7_27) ?_
    refine XS.bipush X0.here hx rfl (hb hby d7_29) ?_
    refine XS.iloadN X0.here hx rfl (hb hby d7_31) rfl ?_
    refine XS.iconst X0.here hx rfl (hb hby d7_32) ?_
    show own_S p e below m s₁ 33 #[lvR o0_, lvI (2 : Int32), lvI (3 : Int32), lvI x0_, lvI x1_, lvI x0_, .unset] [(.int (3 : Int32)), (.int (2 : Int32)), (.int (8 : Int32)), (.int (24 : Int32))] _
    refine XS.iand X0.here hx rfl (hb hby d7_33) rfl ?_
    refine XS.imul X0.here hx rfl (hb hby d7_34) rfl ?_
    refine XS.isub X0.here hx rfl (hb hby d7_35) rfl ?_
    refine XS.istore X0.here hx rfl (hb hby d7_36) rfl (l' := #[lvR o0_, lvI (2 : Int32), lvI (3 : Int32), lvI x0_, lvI x1_, lvI x0_, lvI (8 : Int32)]) rfl ?_
    show own_S p e below m s₁ 38 #[lvR o0_, lvI (2 : Int32), lvI (3 : Int32), lvI x0_, lvI x1_, lvI x0_, lvI (8 : Int32)] [] _
    refine XS.aloadN X0.here hx rfl (hb hby d7_38) rfl rfl ?_
    refine XS.iloadN X0.here hx rfl (hb hby d7_39) rfl ?_
    show own_S p e below m s₁ 40 #[lvR o0_, lvI (2 : Int32), lvI (3 : Int32), lvI x0_, lvI x1_, lvI x0_, lvI (8 : Int32)] [(.int (2 : Int32)), (.ref o0_)] _
    refine X0.baloadBytes hx (j := (2 : Int32)) (v := (.int x4_)) (by rw [e0]; exact r1.1) (State.isArrayOf_alike hZ.alike r1.2.1) r1.2.2 hin1 hat1 (g := (mkF m 40 #[lvR o0_, lvI (2 : Int32), lvI (3 : Int32), lvI x0_, lvI x1_, lvI x0_, lvI (8 : Int32)] [(.int (2 : Int32)), (.ref o0_)])) rfl rfl (hb hby d7_40) _ ?_
    refine XS.iload X0.here hx rfl (hb hby d7_41) rfl ?_
    refine XS.iload X0.here hx rfl (hb hby d7_43) rfl ?_
    show own_S p e below m s₁ 45 #[lvR o0_, lvI (2 : Int32), lvI (3 : Int32), lvI x0_, lvI x1_, lvI x0_, lvI (8 : Int32)] [(.int (8 : Int32)), (.int x0_), (.int x4_)] _
    refine XS.iushr X0.here hx rfl (hb hby d7_45) rfl ?_
    show own_S p e below m s₁ 46 #[lvR o0_, lvI (2 : Int32), lvI (3 : Int32), lvI x0_, lvI x1_, lvI x0_, lvI (8 : Int32)] [(.int ((x0_.toUInt32 >>> ((8 : Int32) &&& 31).toUInt32).toInt32)), (.int x4_)] _
    refine XS.i2b X0.here hx rfl (hb hby d7_46) rfl ?_
    exact kt
  by_cases hc3 : x4_ = (((x0_.toUInt32 >>> ((8 : Int32) &&& 31).toUInt32).toInt32).toInt8.toInt32)
  · have pre4 : ∀ t, own_S p e below m s₁ 55 #[lvR o0_, lvI (2 : Int32), lvI (3 : Int32), lvI x0_, lvI x1_, lvI x0_, lvI (8 : Int32)] [(.int (1 : Int32))] t → G t := by
      intro t kt
      refine pre2 t ?_
      show own_S p e below m s₁ 47 #[lvR o0_, lvI (2 : Int32), lvI (3 : Int32), lvI x0_, lvI x1_, lvI x0_, lvI (8 : Int32)] [(.int (((x0_.toUInt32 >>> ((8 : Int32) &&& 31).toUInt32).toInt32).toInt8.toInt32)), (.int x4_)] _
      refine XS.icmpNo X0.here hx rfl (hb hby d7_47) rfl (teq hc3).2 ?_
      refine XS.iconst X0.here hx rfl (hb hby d7_50) ?_
      refine XS.goto X0.here hx rfl (pc0 := 51) (pc' := 55) rfl (hb hby d7_51) (by decide) (by decide) ?_
      exact kt
    obtain ⟨fs, hr, hrun, hended, hW, hsame⟩ := X0.leave (v := some (.int (1 : Int32))) (fun h => by rw [Bd.returns] at h; cases h)
    refine ⟨_, _, hG _ (pre4 _ (retN X0 hx (t := .boolean) Bd.returns (by simp) (hb hby d7_55) hr)), hrun, hended, _, _, rfl, ?_, ⟨_, rfl⟩, hW, hsame.mono (by decide) (by decide)⟩
    show Qkeeps38 Z o0_ x0_ x1_ ko0_ x2_ x3_ x4_ x5_ x6_ x7_ x8_ x9_ h0 n0 _ s₁.heap _
    rw [e0]
    exact ⟨(1 : Int32), rfl, (Or.inl ⟨rfl, hc3⟩), N0, rfl⟩
  · have pre6 : ∀ t, own_S p e below m s₁ 55 #[lvR o0_, lvI (2 : Int32), lvI (3 : Int32), lvI x0_, lvI x1_, lvI x0_, lvI (8 : Int32)] [(.int (0 : Int32))] t → G t := by
      intro t kt
      refine pre2 t ?_
      show own_S p e below m s₁ 47 #[lvR o0_, lvI (2 : Int32), lvI (3 : Int32), lvI x0_, lvI x1_, lvI x0_, lvI (8 : Int32)] [(.int (((x0_.toUInt32 >>> ((8 : Int32) &&& 31).toUInt32).toInt32).toInt8.toInt32)), (.int x4_)] _
      refine XS.icmpYes X0.here hx rfl (pc0 := 47) (pc' := 54) rfl (hb hby d7_47) rfl (feq hc3).2 (by decide) (by decide) ?_
      refine XS.iconst X0.here hx rfl (hb hby d7_54) ?_
      exact kt
    obtain ⟨fs, hr, hrun, hended, hW, hsame⟩ := X0.leave (v := some (.int (0 : Int32))) (fun h => by rw [Bd.returns] at h; cases h)
    refine ⟨_, _, hG _ (pre6 _ (retN X0 hx (t := .boolean) Bd.returns (by simp) (hb hby d7_55) hr)), hrun, hended, _, _, rfl, ?_, ⟨_, rfl⟩, hW, hsame.mono (by decide) (by decide)⟩
    show Qkeeps38 Z o0_ x0_ x1_ ko0_ x2_ x3_ x4_ x5_ x6_ x7_ x8_ x9_ h0 n0 _ s₁.heap _
    rw [e0]
    exact ⟨(0 : Int32), rfl, (Or.inr ⟨rfl, hc3⟩), N0, rfl⟩
theorem efkeeps39 (m : MethodId) (o0_ : Addr) (x0_ : Int32) (x1_ : Int32) : entryFrame m #[(.ref o0_), (.int (3 : Int32)), (.int (3 : Int32)), (.int x0_), (.int x1_)] 7 = mkF m 0 #[lvR o0_, lvI (3 : Int32), lvI (3 : Int32), lvI x0_, lvI x1_, .unset, .unset] [] := by first | (simp [entryFrame, mkF, argsToLocals, Value.category]; done) | rfl
def Qkeeps39 (Z : State) (o0_ : Addr) (x0_ : Int32) (x1_ : Int32) (ko0_ : ClassId) (x2_ : Int32) (x3_ : Int32) (x4_ : Int32) (x5_ : Int32) (x6_ : Int32) (x7_ : Int32) (x8_ : Int32) (x9_ : Int32) (h0 : Heap) (n0 : Nat) (v : Option Value) (h : Heap) (L : List Loc) : Prop := v = some (.int (1 : Int32)) ∧ Fr n0 L ∧ h = h0
set_option maxRecDepth 65536 in
set_option maxHeartbeats 40000000 in
theorem rmkeeps39 (l : Launch) (Z : State) (a0 : Array Value) (hw : ∀ d ∈ tables_1, d.before a0 Z = true) (ws : List Jvm.Cond) (o0_ : Addr) (x0_ : Int32) (x1_ : Int32) (ko0_ : ClassId) (x2_ : Int32) (x3_ : Int32) (x4_ : Int32) (x5_ : Int32) (x6_ : Int32) (x7_ : Int32) (x8_ : Int32) (x9_ : Int32) (h0 : Heap) (n0 : Nat) (O0 : Old Z n0 h0) (P0 : Arv Z h0 o0_ ko0_ .byte (8 : Int32) [(.int x2_), (.int x3_), (.int x4_), (.int x5_), (.int x6_), (.int x7_), (.int x8_), (.int x9_)] (.int (0 : Int32))) (P1 : Exa Z h0 o0_ "[B") :
    MetFree l (⟨"com/example/stackweave/stackweave/classfile/ByteWriterU4AtPinLaw", "keeps", "([BIIII)Z"⟩ : MethodName) (head1 (Jvm.Cond.code (⟨"com/example/stackweave/stackweave/classfile/ByteWriterU4AtPinLaw", "keeps", "([BIIII)Z"⟩ : MethodName) method_3_code 7 (some .boolean) :: ws) ({ frames := 0, cells := 0, slots := 0, locals := 0 } : Room)) (fun a U => a = #[(.ref o0_), (.int (3 : Int32)), (.int (3 : Int32)), (.int x0_), (.int x1_)] ∧ Z.Warmed39 U.vm ∧ U.heap = h0) (fun _ _ _ _ _ => True) (fun _ U o U' => ∃ v L, o = .returned v ∧ Qkeeps39 Z o0_ x0_ x1_ ko0_ x2_ x3_ x4_ x5_ x6_ x7_ x8_ x9_ h0 n0 v U'.heap L ∧ FrameEnd U o U' L ({ frames := 0, cells := 0, slots := 0, locals := 0 } : Room).cells ({ frames := 0, cells := 0, slots := 0, locals := 0 } : Room).slots) := by
  refine MetFree.of_bodySF (plainFor_of_name pn_1) hisR ?_
  intro p e s m args below meth c s₁ Bd hml0 hP hK
  obtain ⟨rfl, hZ, hh⟩ := hP
  have hx := Bd.exec
  have hby := Bd.bytes
  have hml : c.maxLocals = 7 := hml0
  have hown : s.vm.findClass "com/example/stackweave/stackweave/classfile/ByteWriterU4AtPinLaw" = some m.cls := findClass_of_methodNamed Bd.named
  have hnm := (name_of_methodNamed Bd.named Bd.method).1
  have X0 : Stand p l e ({ frames := 0, cells := 0, slots := 0, locals := 0 } : Room) s m #[(.ref o0_), (.int (3 : Int32)), (.int (3 : Int32)), (.int x0_), (.int x1_)] below meth c s₁ [] 0 0 := Stand.of_body Bd
  have e0 : s₁.heap = h0 := by rw [← hh, Bd.state]; rfl
  have N0 := Fr.nil n0
  obtain ⟨G, pre0, hG⟩ : ∃ G : State → Prop, (∀ t, own_S p e below m s₁ 0 #[lvR o0_, lvI (3 : Int32), lvI (3 : Int32), lvI x0_, lvI x1_, .unset, .unset] [] t → G t) ∧ (∀ t, G t → Steps p.tables e below (s₁.setTop (entryFrame m #[(.ref o0_), (.int (3 : Int32)), (.int (3 : Int32)), (.int x0_), (.int x1_)] 7)) t) := ⟨fun t => Steps p.tables e below (s₁.setTop (entryFrame m #[(.ref o0_), (.int (3 : Int32)), (.int (3 : Int32)), (.int x0_), (.int x1_)] 7)) t, fun t k => castTop (efkeeps39 m o0_ x0_ x1_) k, fun _ k => k⟩
  have K0 : Keep h0 h0 [] := Keep.refl _ _
  have pre1 : ∀ t, own_S p e below m s₁ 13 #[lvR o0_, lvI (3 : Int32), lvI (3 : Int32), lvI x0_, lvI x1_, .unset, .unset] [(.int (1 : Int32))] t → G t := by
    intro t kt
    refine pre0 t ?_
    show own_S p e below m s₁ 0 #[lvR o0_, lvI (3 : Int32), lvI (3 : Int32), lvI x0_, lvI x1_, .unset, .unset] [] _
    refine XS.iloadN X0.here hx rfl (hb hby d7_0) rfl ?_
    refine XS.iloadN X0.here hx rfl (hb hby d7_1) rfl ?_
    show own_S p e below m s₁ 2 #[lvR o0_, lvI (3 : Int32), lvI (3 : Int32), lvI x0_, lvI x1_, .unset, .unset] [(.int (3 : Int32)), (.int (3 : Int32))] _
    refine XS.icmpNo X0.here hx rfl (hb hby d7_2) rfl (flt (by decide : ¬ ((3 : Int32) < (3 : Int32)))).1 ?_
    refine XS.iloadN X0.here hx rfl (hb hby d7_5) rfl ?_
    refine XS.iloadN X0.here hx rfl (hb hby d7_6) rfl ?_
    refine XS.iconst X0.here hx rfl (hb hby d7_7) ?_
    show own_S p e below m s₁ 8 #[lvR o0_, lvI (3 : Int32), lvI (3 : Int32), lvI x0_, lvI x1_, .unset, .unset] [(.int (4 : Int32)), (.int (3 : Int32)), (.int (3 : Int32))] _
    refine XS.iadd X0.here hx rfl (hb hby d7_8) rfl ?_
    show own_S p e below m s₁ 9 #[lvR o0_, lvI (3 : Int32), lvI (3 : Int32), lvI x0_, lvI x1_, .unset, .unset] [(.int (7 : Int32)), (.int (3 : Int32))] _
    refine XS.icmpNo X0.here hx rfl (hb hby d7_9) rfl (tlt (by decide : (3 : Int32) < (7 : Int32))).2.1 ?_
    refine XS.iconst X0.here hx rfl (hb hby d7_12) ?_
    exact kt
  obtain ⟨fs, hr, hrun, hended, hW, hsame⟩ := X0.leave (v := some (.int (1 : Int32))) (fun h => by rw [Bd.returns] at h; cases h)
  refine ⟨_, _, hG _ (pre1 _ (retN X0 hx (t := .boolean) Bd.returns (by simp) (hb hby d7_13) hr)), hrun, hended, _, _, rfl, ?_, ⟨_, rfl⟩, hW, hsame.mono (by decide) (by decide)⟩
  show Qkeeps39 Z o0_ x0_ x1_ ko0_ x2_ x3_ x4_ x5_ x6_ x7_ x8_ x9_ h0 n0 _ s₁.heap _
  rw [e0]
  exact ⟨rfl, N0, rfl⟩
theorem efkeeps40 (m : MethodId) (o0_ : Addr) (x0_ : Int32) (x1_ : Int32) : entryFrame m #[(.ref o0_), (.int (4 : Int32)), (.int (3 : Int32)), (.int x0_), (.int x1_)] 7 = mkF m 0 #[lvR o0_, lvI (4 : Int32), lvI (3 : Int32), lvI x0_, lvI x1_, .unset, .unset] [] := by first | (simp [entryFrame, mkF, argsToLocals, Value.category]; done) | rfl
def Qkeeps40 (Z : State) (o0_ : Addr) (x0_ : Int32) (x1_ : Int32) (ko0_ : ClassId) (x2_ : Int32) (x3_ : Int32) (x4_ : Int32) (x5_ : Int32) (x6_ : Int32) (x7_ : Int32) (x8_ : Int32) (x9_ : Int32) (h0 : Heap) (n0 : Nat) (v : Option Value) (h : Heap) (L : List Loc) : Prop := v = some (.int (1 : Int32)) ∧ Fr n0 L ∧ h = h0
set_option maxRecDepth 65536 in
set_option maxHeartbeats 40000000 in
theorem rmkeeps40 (l : Launch) (Z : State) (a0 : Array Value) (hw : ∀ d ∈ tables_1, d.before a0 Z = true) (ws : List Jvm.Cond) (o0_ : Addr) (x0_ : Int32) (x1_ : Int32) (ko0_ : ClassId) (x2_ : Int32) (x3_ : Int32) (x4_ : Int32) (x5_ : Int32) (x6_ : Int32) (x7_ : Int32) (x8_ : Int32) (x9_ : Int32) (h0 : Heap) (n0 : Nat) (O0 : Old Z n0 h0) (P0 : Arv Z h0 o0_ ko0_ .byte (8 : Int32) [(.int x2_), (.int x3_), (.int x4_), (.int x5_), (.int x6_), (.int x7_), (.int x8_), (.int x9_)] (.int (0 : Int32))) (P1 : Exa Z h0 o0_ "[B") :
    MetFree l (⟨"com/example/stackweave/stackweave/classfile/ByteWriterU4AtPinLaw", "keeps", "([BIIII)Z"⟩ : MethodName) (head1 (Jvm.Cond.code (⟨"com/example/stackweave/stackweave/classfile/ByteWriterU4AtPinLaw", "keeps", "([BIIII)Z"⟩ : MethodName) method_3_code 7 (some .boolean) :: ws) ({ frames := 0, cells := 0, slots := 0, locals := 0 } : Room)) (fun a U => a = #[(.ref o0_), (.int (4 : Int32)), (.int (3 : Int32)), (.int x0_), (.int x1_)] ∧ Z.Warmed39 U.vm ∧ U.heap = h0) (fun _ _ _ _ _ => True) (fun _ U o U' => ∃ v L, o = .returned v ∧ Qkeeps40 Z o0_ x0_ x1_ ko0_ x2_ x3_ x4_ x5_ x6_ x7_ x8_ x9_ h0 n0 v U'.heap L ∧ FrameEnd U o U' L ({ frames := 0, cells := 0, slots := 0, locals := 0 } : Room).cells ({ frames := 0, cells := 0, slots := 0, locals := 0 } : Room).slots) := by
  refine MetFree.of_bodySF (plainFor_of_name pn_1) hisR ?_
  intro p e s m args below meth c s₁ Bd hml0 hP hK
  obtain ⟨rfl, hZ, hh⟩ := hP
  have hx := Bd.exec
  have hby := Bd.bytes
  have hml : c.maxLocals = 7 := hml0
  have hown : s.vm.findClass "com/example/stackweave/stackweave/classfile/ByteWriterU4AtPinLaw" = some m.cls := findClass_of_methodNamed Bd.named
  have hnm := (name_of_methodNamed Bd.named Bd.method).1
  have X0 : Stand p l e ({ frames := 0, cells := 0, slots := 0, locals := 0 } : Room) s m #[(.ref o0_), (.int (4 : Int32)), (.int (3 : Int32)), (.int x0_), (.int x1_)] below meth c s₁ [] 0 0 := Stand.of_body Bd
  have e0 : s₁.heap = h0 := by rw [← hh, Bd.state]; rfl
  have N0 := Fr.nil n0
  obtain ⟨G, pre0, hG⟩ : ∃ G : State → Prop, (∀ t, own_S p e below m s₁ 0 #[lvR o0_, lvI (4 : Int32), lvI (3 : Int32), lvI x0_, lvI x1_, .unset, .unset] [] t → G t) ∧ (∀ t, G t → Steps p.tables e below (s₁.setTop (entryFrame m #[(.ref o0_), (.int (4 : Int32)), (.int (3 : Int32)), (.int x0_), (.int x1_)] 7)) t) := ⟨fun t => Steps p.tables e below (s₁.setTop (entryFrame m #[(.ref o0_), (.int (4 : Int32)), (.int (3 : Int32)), (.int x0_), (.int x1_)] 7)) t, fun t k => castTop (efkeeps40 m o0_ x0_ x1_) k, fun _ k => k⟩
  have K0 : Keep h0 h0 [] := Keep.refl _ _
  have pre1 : ∀ t, own_S p e below m s₁ 13 #[lvR o0_, lvI (4 : Int32), lvI (3 : Int32), lvI x0_, lvI x1_, .unset, .unset] [(.int (1 : Int32))] t → G t := by
    intro t kt
    refine pre0 t ?_
    show own_S p e below m s₁ 0 #[lvR o0_, lvI (4 : Int32), lvI (3 : Int32), lvI x0_, lvI x1_, .unset, .unset] [] _
    refine XS.iloadN X0.here hx rfl (hb hby d7_0) rfl ?_
    refine XS.iloadN X0.here hx rfl (hb hby d7_1) rfl ?_
    show own_S p e below m s₁ 2 #[lvR o0_, lvI (4 : Int32), lvI (3 : Int32), lvI x0_, lvI x1_, .unset, .unset] [(.int (3 : Int32)), (.int (4 : Int32))] _
    refine XS.icmpNo X0.here hx rfl (hb hby d7_2) rfl (flt (by decide : ¬ ((4 : Int32) < (3 : Int32)))).1 ?_
    refine XS.iloadN X0.here hx rfl (hb hby d7_5) rfl ?_
    refine XS.iloadN X0.here hx rfl (hb hby d7_6) rfl ?_
    refine XS.iconst X0.here hx rfl (hb hby d7_7) ?_
    show own_S p e below m s₁ 8 #[lvR o0_, lvI (4 : Int32), lvI (3 : Int32), lvI x0_, lvI x1_, .unset, .unset] [(.int (4 : Int32)), (.int (3 : Int32)), (.int (4 : Int32))] _
    refine XS.iadd X0.here hx rfl (hb hby d7_8) rfl ?_
    show own_S p e below m s₁ 9 #[lvR o0_, lvI (4 : Int32), lvI (3 : Int32), lvI x0_, lvI x1_, .unset, .unset] [(.int (7 : Int32)), (.int (4 : Int32))] _
    refine XS.icmpNo X0.here hx rfl (hb hby d7_9) rfl (tlt (by decide : (4 : Int32) < (7 : Int32))).2.1 ?_
    refine XS.iconst X0.here hx rfl (hb hby d7_12) ?_
    exact kt
  obtain ⟨fs, hr, hrun, hended, hW, hsame⟩ := X0.leave (v := some (.int (1 : Int32))) (fun h => by rw [Bd.returns] at h; cases h)
  refine ⟨_, _, hG _ (pre1 _ (retN X0 hx (t := .boolean) Bd.returns (by simp) (hb hby d7_13) hr)), hrun, hended, _, _, rfl, ?_, ⟨_, rfl⟩, hW, hsame.mono (by decide) (by decide)⟩
  show Qkeeps40 Z o0_ x0_ x1_ ko0_ x2_ x3_ x4_ x5_ x6_ x7_ x8_ x9_ h0 n0 _ s₁.heap _
  rw [e0]
  exact ⟨rfl, N0, rfl⟩
theorem efkeeps41 (m : MethodId) (o0_ : Addr) (x0_ : Int32) (x1_ : Int32) : entryFrame m #[(.ref o0_), (.int (5 : Int32)), (.int (3 : Int32)), (.int x0_), (.int x1_)] 7 = mkF m 0 #[lvR o0_, lvI (5 : Int32), lvI (3 : Int32), lvI x0_, lvI x1_, .unset, .unset] [] := by first | (simp [entryFrame, mkF, argsToLocals, Value.category]; done) | rfl
def Qkeeps41 (Z : State) (o0_ : Addr) (x0_ : Int32) (x1_ : Int32) (ko0_ : ClassId) (x2_ : Int32) (x3_ : Int32) (x4_ : Int32) (x5_ : Int32) (x6_ : Int32) (x7_ : Int32) (x8_ : Int32) (x9_ : Int32) (h0 : Heap) (n0 : Nat) (v : Option Value) (h : Heap) (L : List Loc) : Prop := v = some (.int (1 : Int32)) ∧ Fr n0 L ∧ h = h0
set_option maxRecDepth 65536 in
set_option maxHeartbeats 40000000 in
theorem rmkeeps41 (l : Launch) (Z : State) (a0 : Array Value) (hw : ∀ d ∈ tables_1, d.before a0 Z = true) (ws : List Jvm.Cond) (o0_ : Addr) (x0_ : Int32) (x1_ : Int32) (ko0_ : ClassId) (x2_ : Int32) (x3_ : Int32) (x4_ : Int32) (x5_ : Int32) (x6_ : Int32) (x7_ : Int32) (x8_ : Int32) (x9_ : Int32) (h0 : Heap) (n0 : Nat) (O0 : Old Z n0 h0) (P0 : Arv Z h0 o0_ ko0_ .byte (8 : Int32) [(.int x2_), (.int x3_), (.int x4_), (.int x5_), (.int x6_), (.int x7_), (.int x8_), (.int x9_)] (.int (0 : Int32))) (P1 : Exa Z h0 o0_ "[B") :
    MetFree l (⟨"com/example/stackweave/stackweave/classfile/ByteWriterU4AtPinLaw", "keeps", "([BIIII)Z"⟩ : MethodName) (head1 (Jvm.Cond.code (⟨"com/example/stackweave/stackweave/classfile/ByteWriterU4AtPinLaw", "keeps", "([BIIII)Z"⟩ : MethodName) method_3_code 7 (some .boolean) :: ws) ({ frames := 0, cells := 0, slots := 0, locals := 0 } : Room)) (fun a U => a = #[(.ref o0_), (.int (5 : Int32)), (.int (3 : Int32)), (.int x0_), (.int x1_)] ∧ Z.Warmed39 U.vm ∧ U.heap = h0) (fun _ _ _ _ _ => True) (fun _ U o U' => ∃ v L, o = .returned v ∧ Qkeeps41 Z o0_ x0_ x1_ ko0_ x2_ x3_ x4_ x5_ x6_ x7_ x8_ x9_ h0 n0 v U'.heap L ∧ FrameEnd U o U' L ({ frames := 0, cells := 0, slots := 0, locals := 0 } : Room).cells ({ frames := 0, cells := 0, slots := 0, locals := 0 } : Room).slots) := by
  refine MetFree.of_bodySF (plainFor_of_name pn_1) hisR ?_
  intro p e s m args below meth c s₁ Bd hml0 hP hK
  obtain ⟨rfl, hZ, hh⟩ := hP
  have hx := Bd.exec
  have hby := Bd.bytes
  have hml : c.maxLocals = 7 := hml0
  have hown : s.vm.findClass "com/example/stackweave/stackweave/classfile/ByteWriterU4AtPinLaw" = some m.cls := findClass_of_methodNamed Bd.named
  have hnm := (name_of_methodNamed Bd.named Bd.method).1
  have X0 : Stand p l e ({ frames := 0, cells := 0, slots := 0, locals := 0 } : Room) s m #[(.ref o0_), (.int (5 : Int32)), (.int (3 : Int32)), (.int x0_), (.int x1_)] below meth c s₁ [] 0 0 := Stand.of_body Bd
  have e0 : s₁.heap = h0 := by rw [← hh, Bd.state]; rfl
  have N0 := Fr.nil n0
  obtain ⟨G, pre0, hG⟩ : ∃ G : State → Prop, (∀ t, own_S p e below m s₁ 0 #[lvR o0_, lvI (5 : Int32), lvI (3 : Int32), lvI x0_, lvI x1_, .unset, .unset] [] t → G t) ∧ (∀ t, G t → Steps p.tables e below (s₁.setTop (entryFrame m #[(.ref o0_), (.int (5 : Int32)), (.int (3 : Int32)), (.int x0_), (.int x1_)] 7)) t) := ⟨fun t => Steps p.tables e below (s₁.setTop (entryFrame m #[(.ref o0_), (.int (5 : Int32)), (.int (3 : Int32)), (.int x0_), (.int x1_)] 7)) t, fun t k => castTop (efkeeps41 m o0_ x0_ x1_) k, fun _ k => k⟩
  have K0 : Keep h0 h0 [] := Keep.refl _ _
  have pre1 : ∀ t, own_S p e below m s₁ 13 #[lvR o0_, lvI (5 : Int32), lvI (3 : Int32), lvI x0_, lvI x1_, .unset, .unset] [(.int (1 : Int32))] t → G t := by
    intro t kt
    refine pre0 t ?_
    show own_S p e below m s₁ 0 #[lvR o0_, lvI (5 : Int32), lvI (3 : Int32), lvI x0_, lvI x1_, .unset, .unset] [] _
    refine XS.iloadN X0.here hx rfl (hb hby d7_0) rfl ?_
    refine XS.iloadN X0.here hx rfl (hb hby d7_1) rfl ?_
    show own_S p e below m s₁ 2 #[lvR o0_, lvI (5 : Int32), lvI (3 : Int32), lvI x0_, lvI x1_, .unset, .unset] [(.int (3 : Int32)), (.int (5 : Int32))] _
    refine XS.icmpNo X0.here hx rfl (hb hby d7_2) rfl (flt (by decide : ¬ ((5 : Int32) < (3 : Int32)))).1 ?_
    refine XS.iloadN X0.here hx rfl (hb hby d7_5) rfl ?_
    refine XS.iloadN X0.here hx rfl (hb hby d7_6) rfl ?_
    refine XS.iconst X0.here hx rfl (hb hby d7_7) ?_
    show own_S p e below m s₁ 8 #[lvR o0_, lvI (5 : Int32), lvI (3 : Int32), lvI x0_, lvI x1_, .unset, .unset] [(.int (4 : Int32)), (.int (3 : Int32)), (.int (5 : Int32))] _
    refine XS.iadd X0.here hx rfl (hb hby d7_8) rfl ?_
    show own_S p e below m s₁ 9 #[lvR o0_, lvI (5 : Int32), lvI (3 : Int32), lvI x0_, lvI x1_, .unset, .unset] [(.int (7 : Int32)), (.int (5 : Int32))] _
    refine XS.icmpNo X0.here hx rfl (hb hby d7_9) rfl (tlt (by decide : (5 : Int32) < (7 : Int32))).2.1 ?_
    refine XS.iconst X0.here hx rfl (hb hby d7_12) ?_
    exact kt
  obtain ⟨fs, hr, hrun, hended, hW, hsame⟩ := X0.leave (v := some (.int (1 : Int32))) (fun h => by rw [Bd.returns] at h; cases h)
  refine ⟨_, _, hG _ (pre1 _ (retN X0 hx (t := .boolean) Bd.returns (by simp) (hb hby d7_13) hr)), hrun, hended, _, _, rfl, ?_, ⟨_, rfl⟩, hW, hsame.mono (by decide) (by decide)⟩
  show Qkeeps41 Z o0_ x0_ x1_ ko0_ x2_ x3_ x4_ x5_ x6_ x7_ x8_ x9_ h0 n0 _ s₁.heap _
  rw [e0]
  exact ⟨rfl, N0, rfl⟩
theorem efkeeps42 (m : MethodId) (o0_ : Addr) (x0_ : Int32) (x1_ : Int32) : entryFrame m #[(.ref o0_), (.int (6 : Int32)), (.int (3 : Int32)), (.int x0_), (.int x1_)] 7 = mkF m 0 #[lvR o0_, lvI (6 : Int32), lvI (3 : Int32), lvI x0_, lvI x1_, .unset, .unset] [] := by first | (simp [entryFrame, mkF, argsToLocals, Value.category]; done) | rfl
def Qkeeps42 (Z : State) (o0_ : Addr) (x0_ : Int32) (x1_ : Int32) (ko0_ : ClassId) (x2_ : Int32) (x3_ : Int32) (x4_ : Int32) (x5_ : Int32) (x6_ : Int32) (x7_ : Int32) (x8_ : Int32) (x9_ : Int32) (h0 : Heap) (n0 : Nat) (v : Option Value) (h : Heap) (L : List Loc) : Prop := v = some (.int (1 : Int32)) ∧ Fr n0 L ∧ h = h0
set_option maxRecDepth 65536 in
set_option maxHeartbeats 40000000 in
theorem rmkeeps42 (l : Launch) (Z : State) (a0 : Array Value) (hw : ∀ d ∈ tables_1, d.before a0 Z = true) (ws : List Jvm.Cond) (o0_ : Addr) (x0_ : Int32) (x1_ : Int32) (ko0_ : ClassId) (x2_ : Int32) (x3_ : Int32) (x4_ : Int32) (x5_ : Int32) (x6_ : Int32) (x7_ : Int32) (x8_ : Int32) (x9_ : Int32) (h0 : Heap) (n0 : Nat) (O0 : Old Z n0 h0) (P0 : Arv Z h0 o0_ ko0_ .byte (8 : Int32) [(.int x2_), (.int x3_), (.int x4_), (.int x5_), (.int x6_), (.int x7_), (.int x8_), (.int x9_)] (.int (0 : Int32))) (P1 : Exa Z h0 o0_ "[B") :
    MetFree l (⟨"com/example/stackweave/stackweave/classfile/ByteWriterU4AtPinLaw", "keeps", "([BIIII)Z"⟩ : MethodName) (head1 (Jvm.Cond.code (⟨"com/example/stackweave/stackweave/classfile/ByteWriterU4AtPinLaw", "keeps", "([BIIII)Z"⟩ : MethodName) method_3_code 7 (some .boolean) :: ws) ({ frames := 0, cells := 0, slots := 0, locals := 0 } : Room)) (fun a U => a = #[(.ref o0_), (.int (6 : Int32)), (.int (3 : Int32)), (.int x0_), (.int x1_)] ∧ Z.Warmed39 U.vm ∧ U.heap = h0) (fun _ _ _ _ _ => True) (fun _ U o U' => ∃ v L, o = .returned v ∧ Qkeeps42 Z o0_ x0_ x1_ ko0_ x2_ x3_ x4_ x5_ x6_ x7_ x8_ x9_ h0 n0 v U'.heap L ∧ FrameEnd U o U' L ({ frames := 0, cells := 0, slots := 0, locals := 0 } : Room).cells ({ frames := 0, cells := 0, slots := 0, locals := 0 } : Room).slots) := by
  refine MetFree.of_bodySF (plainFor_of_name pn_1) hisR ?_
  intro p e s m args below meth c s₁ Bd hml0 hP hK
  obtain ⟨rfl, hZ, hh⟩ := hP
  have hx := Bd.exec
  have hby := Bd.bytes
  have hml : c.maxLocals = 7 := hml0
  have hown : s.vm.findClass "com/example/stackweave/stackweave/classfile/ByteWriterU4AtPinLaw" = some m.cls := findClass_of_methodNamed Bd.named
  have hnm := (name_of_methodNamed Bd.named Bd.method).1
  have X0 : Stand p l e ({ frames := 0, cells := 0, slots := 0, locals := 0 } : Room) s m #[(.ref o0_), (.int (6 : Int32)), (.int (3 : Int32)), (.int x0_), (.int x1_)] below meth c s₁ [] 0 0 := Stand.of_body Bd
  have e0 : s₁.heap = h0 := by rw [← hh, Bd.state]; rfl
  have N0 := Fr.nil n0
  obtain ⟨G, pre0, hG⟩ : ∃ G : State → Prop, (∀ t, own_S p e below m s₁ 0 #[lvR o0_, lvI (6 : Int32), lvI (3 : Int32), lvI x0_, lvI x1_, .unset, .unset] [] t → G t) ∧ (∀ t, G t → Steps p.tables e below (s₁.setTop (entryFrame m #[(.ref o0_), (.int (6 : Int32)), (.int (3 : Int32)), (.int x0_), (.int x1_)] 7)) t) := ⟨fun t => Steps p.tables e below (s₁.setTop (entryFrame m #[(.ref o0_), (.int (6 : Int32)), (.int (3 : Int32)), (.int x0_), (.int x1_)] 7)) t, fun t k => castTop (efkeeps42 m o0_ x0_ x1_) k, fun _ k => k⟩
  have K0 : Keep h0 h0 [] := Keep.refl _ _
  have pre1 : ∀ t, own_S p e below m s₁ 13 #[lvR o0_, lvI (6 : Int32), lvI (3 : Int32), lvI x0_, lvI x1_, .unset, .unset] [(.int (1 : Int32))] t → G t := by
    intro t kt
    refine pre0 t ?_
    show own_S p e below m s₁ 0 #[lvR o0_, lvI (6 : Int32), lvI (3 : Int32), lvI x0_, lvI x1_, .unset, .unset] [] _
    refine XS.iloadN X0.here hx rfl (hb hby d7_0) rfl ?_
    refine XS.iloadN X0.here hx rfl (hb hby d7_1) rfl ?_
    show own_S p e below m s₁ 2 #[lvR o0_, lvI (6 : Int32), lvI (3 : Int32), lvI x0_, lvI x1_, .unset, .unset] [(.int (3 : Int32)), (.int (6 : Int32))] _
    refine XS.icmpNo X0.here hx rfl (hb hby d7_2) rfl (flt (by decide : ¬ ((6 : Int32) < (3 : Int32)))).1 ?_
    refine XS.iloadN X0.here hx rfl (hb hby d7_5) rfl ?_
    refine XS.iloadN X0.here hx rfl (hb hby d7_6) rfl ?_
    refine XS.iconst X0.here hx rfl (hb hby d7_7) ?_
    show own_S p e below m s₁ 8 #[lvR o0_, lvI (6 : Int32), lvI (3 : Int32), lvI x0_, lvI x1_, .unset, .unset] [(.int (4 : Int32)), (.int (3 : Int32)), (.int (6 : Int32))] _
    refine XS.iadd X0.here hx rfl (hb hby d7_8) rfl ?_
    show own_S p e below m s₁ 9 #[lvR o0_, lvI (6 : Int32), lvI (3 : Int32), lvI x0_, lvI x1_, .unset, .unset] [(.int (7 : Int32)), (.int (6 : Int32))] _
    refine XS.icmpNo X0.here hx rfl (hb hby d7_9) rfl (tlt (by decide : (6 : Int32) < (7 : Int32))).2.1 ?_
    refine XS.iconst X0.here hx rfl (hb hby d7_12) ?_
    exact kt
  obtain ⟨fs, hr, hrun, hended, hW, hsame⟩ := X0.leave (v := some (.int (1 : Int32))) (fun h => by rw [Bd.returns] at h; cases h)
  refine ⟨_, _, hG _ (pre1 _ (retN X0 hx (t := .boolean) Bd.returns (by simp) (hb hby d7_13) hr)), hrun, hended, _, _, rfl, ?_, ⟨_, rfl⟩, hW, hsame.mono (by decide) (by decide)⟩
  show Qkeeps42 Z o0_ x0_ x1_ ko0_ x2_ x3_ x4_ x5_ x6_ x7_ x8_ x9_ h0 n0 _ s₁.heap _
  rw [e0]
  exact ⟨rfl, N0, rfl⟩
theorem efkeeps43 (m : MethodId) (o0_ : Addr) (x0_ : Int32) (x1_ : Int32) : entryFrame m #[(.ref o0_), (.int (7 : Int32)), (.int (3 : Int32)), (.int x0_), (.int x1_)] 7 = mkF m 0 #[lvR o0_, lvI (7 : Int32), lvI (3 : Int32), lvI x0_, lvI x1_, .unset, .unset] [] := by first | (simp [entryFrame, mkF, argsToLocals, Value.category]; done) | rfl
def Qkeeps43 (Z : State) (o0_ : Addr) (x0_ : Int32) (x1_ : Int32) (ko0_ : ClassId) (x2_ : Int32) (x3_ : Int32) (x4_ : Int32) (x5_ : Int32) (x6_ : Int32) (x7_ : Int32) (x8_ : Int32) (x9_ : Int32) (h0 : Heap) (n0 : Nat) (v : Option Value) (h : Heap) (L : List Loc) : Prop := ∃ r_ : Int32, v = some (.int r_) ∧ (((1 : Int32) = r_ ∧ (x9_ = (((x1_.toUInt32 >>> ((0 : Int32) &&& 31).toUInt32).toInt32).toInt8.toInt32))) ∨ ((0 : Int32) = r_ ∧ (¬ (x9_ = (((x1_.toUInt32 >>> ((0 : Int32) &&& 31).toUInt32).toInt32).toInt8.toInt32))))) ∧ Fr n0 L ∧ h = h0
set_option maxRecDepth 65536 in
set_option maxHeartbeats 40000000 in
theorem rmkeeps43 (l : Launch) (Z : State) (a0 : Array Value) (hw : ∀ d ∈ tables_1, d.before a0 Z = true) (ws : List Jvm.Cond) (o0_ : Addr) (x0_ : Int32) (x1_ : Int32) (ko0_ : ClassId) (x2_ : Int32) (x3_ : Int32) (x4_ : Int32) (x5_ : Int32) (x6_ : Int32) (x7_ : Int32) (x8_ : Int32) (x9_ : Int32) (h0 : Heap) (n0 : Nat) (O0 : Old Z n0 h0) (P0 : Arv Z h0 o0_ ko0_ .byte (8 : Int32) [(.int x2_), (.int x3_), (.int x4_), (.int x5_), (.int x6_), (.int x7_), (.int x8_), (.int x9_)] (.int (0 : Int32))) (P1 : Exa Z h0 o0_ "[B") :
    MetFree l (⟨"com/example/stackweave/stackweave/classfile/ByteWriterU4AtPinLaw", "keeps", "([BIIII)Z"⟩ : MethodName) (head1 (Jvm.Cond.code (⟨"com/example/stackweave/stackweave/classfile/ByteWriterU4AtPinLaw", "keeps", "([BIIII)Z"⟩ : MethodName) method_3_code 7 (some .boolean) :: ws) ({ frames := 0, cells := 0, slots := 0, locals := 0 } : Room)) (fun a U => a = #[(.ref o0_), (.int (7 : Int32)), (.int (3 : Int32)), (.int x0_), (.int x1_)] ∧ Z.Warmed39 U.vm ∧ U.heap = h0) (fun _ _ _ _ _ => True) (fun _ U o U' => ∃ v L, o = .returned v ∧ Qkeeps43 Z o0_ x0_ x1_ ko0_ x2_ x3_ x4_ x5_ x6_ x7_ x8_ x9_ h0 n0 v U'.heap L ∧ FrameEnd U o U' L ({ frames := 0, cells := 0, slots := 0, locals := 0 } : Room).cells ({ frames := 0, cells := 0, slots := 0, locals := 0 } : Room).slots) := by
  refine MetFree.of_bodySF (plainFor_of_name pn_1) hisR ?_
  intro p e s m args below meth c s₁ Bd hml0 hP hK
  obtain ⟨rfl, hZ, hh⟩ := hP
  have hx := Bd.exec
  have hby := Bd.bytes
  have hml : c.maxLocals = 7 := hml0
  have hown : s.vm.findClass "com/example/stackweave/stackweave/classfile/ByteWriterU4AtPinLaw" = some m.cls := findClass_of_methodNamed Bd.named
  have hnm := (name_of_methodNamed Bd.named Bd.method).1
  have X0 : Stand p l e ({ frames := 0, cells := 0, slots := 0, locals := 0 } : Room) s m #[(.ref o0_), (.int (7 : Int32)), (.int (3 : Int32)), (.int x0_), (.int x1_)] below meth c s₁ [] 0 0 := Stand.of_body Bd
  have e0 : s₁.heap = h0 := by rw [← hh, Bd.state]; rfl
  have N0 := Fr.nil n0
  obtain ⟨G, pre0, hG⟩ : ∃ G : State → Prop, (∀ t, own_S p e below m s₁ 0 #[lvR o0_, lvI (7 : Int32), lvI (3 : Int32), lvI x0_, lvI x1_, .unset, .unset] [] t → G t) ∧ (∀ t, G t → Steps p.tables e below (s₁.setTop (entryFrame m #[(.ref o0_), (.int (7 : Int32)), (.int (3 : Int32)), (.int x0_), (.int x1_)] 7)) t) := ⟨fun t => Steps p.tables e below (s₁.setTop (entryFrame m #[(.ref o0_), (.int (7 : Int32)), (.int (3 : Int32)), (.int x0_), (.int x1_)] 7)) t, fun t k => castTop (efkeeps43 m o0_ x0_ x1_) k, fun _ k => k⟩
  have K0 : Keep h0 h0 [] := Keep.refl _ _
  obtain ⟨c1, r1, q1, s1, z1, y1, G1⟩ := id P0
  have hin1 : ¬ ((7 : Int32) < 0 ∨ c1.slots.size ≤ ((7 : Int32)).toNatClampNeg) := inb_of s1 ⟨by decide, by decide⟩
  have hat1 : c1.slots[((7 : Int32)).toNatClampNeg]? = some (.int x9_) := Has.at y1 hin1 rfl
  have pre2 : ∀ t, own_S p e below m s₁ 47 #[lvR o0_, lvI (7 : Int32), lvI (3 : Int32), lvI x0_, lvI x1_, lvI x1_, lvI (0 : Int32)] [(.int (((x1_.toUInt32 >>> ((0 : Int32) &&& 31).toUInt32).toInt32).toInt8.toInt32)), (.int x9_)] t → G t := by
    intro t kt
    refine pre0 t ?_
    show own_S p e below m s₁ 0 #[lvR o0_, lvI (7 : Int32), lvI (3 : Int32), lvI x0_, lvI x1_, .unset, .unset] [] _
    refine XS.iloadN X0.here hx rfl (hb hby d7_0) rfl ?_
    refine XS.iloadN X0.here hx rfl (hb hby d7_1) rfl ?_
    show own_S p e below m s₁ 2 #[lvR o0_, lvI (7 : Int32), lvI (3 : Int32), lvI x0_, lvI x1_, .unset, .unset] [(.int (3 : Int32)), (.int (7 : Int32))] _
    refine XS.icmpNo X0.here hx rfl (hb hby d7_2) rfl (flt (by decide : ¬ ((7 : Int32) < (3 : Int32)))).1 ?_
    refine XS.iloadN X0.here hx rfl (hb hby d7_5) rfl ?_
    refine XS.iloadN X0.here hx rfl (hb hby d7_6) rfl ?_
    refine XS.iconst X0.here hx rfl (hb hby d7_7) ?_
    show own_S p e below m s₁ 8 #[lvR o0_, lvI (7 : Int32), lvI (3 : Int32), lvI x0_, lvI x1_, .unset, .unset] [(.int (4 : Int32)), (.int (3 : Int32)), (.int (7 : Int32))] _
    refine XS.iadd X0.here hx rfl (hb hby d7_8) rfl ?_
    show own_S p e below m s₁ 9 #[lvR o0_, lvI (7 : Int32), lvI (3 : Int32), lvI x0_, lvI x1_, .unset, .unset] [(.int (7 : Int32)), (.int (7 : Int32))] _
    refine XS.icmpYes X0.here hx rfl (pc0 := 9) (pc' := 14) rfl (hb hby d7_9) rfl (flt (by decide : ¬ ((7 : Int32) < (7 : Int32)))).2.1 (by decide) (by decide) ?_
    refine XS.iloadN X0.here hx rfl (hb hby d7_14) rfl ?_
    refine XS.iconst X0.here hx rfl (hb hby d7_15) ?_
    show own_S p e below m s₁ 16 #[lvR o0_, lvI (7 : Int32), lvI (3 : Int32), lvI x0_, lvI x1_, .unset, .unset] [(.int (4 : Int32)), (.int (7 : Int32))] _
    refine XS.icmpYes X0.here hx rfl (pc0 := 16) (pc' := 23) rfl (hb hby d7_16) rfl (flt (by decide : ¬ ((7 : Int32) < (4 : Int32)))).2.1 (by decide) (by decide) ?_
    refine XS.iload X0.here hx rfl (hb hby d7_23) rfl ?_
    refine XS.istore X0.here hx rfl (hb hby d7_25) rfl (l' := #[lvR o0_, lvI (7 : Int32), lvI (3 : Int32), lvI x0_, lvI x1_, lvI x1_, .unset]) rfl ?_
    refine XS.bipush X0.here hx rfl (hb hby d7_27) ?_
    show own_S p e below m s₁ 29 #[lvR o0_, lvI (7 : Int32), lvI (3 : Int32), lvI x0_, lvI x1_, lvI x1_, .unset] [(.int (24 : Int32))] _
    refine XS.bipush X0.here hx rfl (hb hby d7_29) ?_
    refine XS.iloadN X0.here hx rfl (hb hby d7_31) rfl ?_
    refine XS.iconst X0.here hx rfl (hb hby d7_32) ?_
    refine XS.iand X0.here hx rfl (hb hby d7_33) rfl ?_
    show own_S p e below m s₁ 34 #[lvR o0_, lvI (7 : Int32), lvI (3 : Int32), lvI x0_, lvI x1_, lvI x1_, .unset] [(.int (3 : Int32)), (.int (8 : Int32)), (.int (24 : Int32))] _
    refine XS.imul X0.here hx rfl (hb hby d7_34) rfl ?_
    refine XS.isub X0.here hx rfl (hb hby d7_35) rfl ?_
    refine XS.istore X0.here hx rfl (hb hby d7_36) rfl (l' := #[lvR o0_, lvI (7 : Int32), lvI (3 : Int32), lvI x0_, lvI x1_, lvI x1_, lvI (0 : Int32)]) rfl ?_
    refine XS.aloadN X0.here hx rfl (hb hby d7_38) rfl rfl ?_
    show own_S p e below m s₁ 39 #[lvR o0_, lvI (7 : Int32), lvI (3 : Int32), lvI x0_, lvI x1_, lvI x1_, lvI (0 : Int32)] [(.ref o0_)] _
    refine XS.iloadN X0.here hx rfl (hb hby d7_39) rfl ?_
    show own_S p e below m s₁ 40 #[lvR o0_, lvI (7 : Int32), lvI (3 : Int32), lvI x0_, lvI x1_, lvI x1_, lvI (0 : Int32)] [(.int (7 : Int32)), (.ref o0_)] _
    refine X0.baloadBytes hx (j := (7 : Int32)) (v := (.int x9_)) (by rw [e0]; exact r1.1) (State.isArrayOf_alike hZ.alike r1.2.1) r1.2.2 hin1 hat1 (g := (mkF m 40 #[lvR o0_, lvI (7 : Int32), lvI (3 : Int32), lvI x0_, lvI x1_, lvI x1_, lvI (0 : Int32)] [(.int (7 : Int32)), (.ref o0_)])) rfl rfl (hb hby d7_40) _ ?_
    refine XS.iload X0.here hx rfl (hb hby d7_41) rfl ?_
    refine XS.iload X0.here hx rfl (hb hby d7_43) rfl ?_
    show own_S p e below m s₁ 45 #[lvR o0_, lvI (7 : Int32), lvI (3 : Int32), lvI x0_, lvI x1_, lvI x1_, lvI (0 : Int32)] [(.int (0 : Int32)), (.int x1_), (.int x9_)] _
    refine XS.iushr X0.here hx rfl (hb hby d7_45) rfl ?_
    show own_S p e below m s₁ 46 #[lvR o0_, lvI (7 : Int32), lvI (3 : Int32), lvI x0_, lvI x1_, lvI x1_, lvI (0 : Int32)] [(.int ((x1_.toUInt32 >>> ((0 : Int32) &&& 31).toUInt32).toInt32)), (.int x9_)] _
    refine XS.i2b X0.here hx rfl (hb hby d7_46) rfl ?_
    exact kt
  by_cases hc3 : x9_ = (((x1_.toUInt32 >>> ((0 : Int32) &&& 31).toUInt32).toInt32).toInt8.toInt32)
  · have pre4 : ∀ t, own_S p e below m s₁ 55 #[lvR o0_, lvI (7 : Int32), lvI (3 : Int32), lvI x0_, lvI x1_, lvI x1_, lvI (0 : Int32)] [(.int (1 : Int32))] t → G t := by
      intro t kt
      refine pre2 t ?_
      show own_S p e below m s₁ 47 #[lvR o0_, lvI (7 : Int32), lvI (3 : Int32), lvI x0_, lvI x1_, lvI x1_, lvI (0 : Int32)] [(.int (((x1_.toUInt32 >>> ((0 : Int32) &&& 31).toUInt32).toInt32).toInt8.toInt32)), (.int x9_)] _
      refine XS.icmpNo X0.here hx rfl (hb hby d7_47) rfl (teq hc3).2 ?_
      refine XS.iconst X0.here hx rfl (hb hby d7_50) ?_
      refine XS.goto X0.here hx rfl (pc0 := 51) (pc' := 55) rfl (hb hby d7_51) (by decide) (by decide) ?_
      exact kt
    obtain ⟨fs, hr, hrun, hended, hW, hsame⟩ := X0.leave (v := some (.int (1 : Int32))) (fun h => by rw [Bd.returns] at h; cases h)
    refine ⟨_, _, hG _ (pre4 _ (retN X0 hx (t := .boolean) Bd.returns (by simp) (hb hby d7_55) hr)), hrun, hended, _, _, rfl, ?_, ⟨_, rfl⟩, hW, hsame.mono (by decide) (by decide)⟩
    show Qkeeps43 Z o0_ x0_ x1_ ko0_ x2_ x3_ x4_ x5_ x6_ x7_ x8_ x9_ h0 n0 _ s₁.heap _
    rw [e0]
    exact ⟨(1 : Int32), rfl, (Or.inl ⟨rfl, hc3⟩), N0, rfl⟩
  · have pre6 : ∀ t, own_S p e below m s₁ 55 #[lvR o0_, lvI (7 : Int32), lvI (3 : Int32), lvI x0_, lvI x1_, lvI x1_, lvI (0 : Int32)] [(.int (0 : Int32))] t → G t := by
      intro t kt
      refine pre2 t ?_
      show own_S p e below m s₁ 47 #[lvR o0_, lvI (7 : Int32), lvI (3 : Int32), lvI x0_, lvI x1_, lvI x1_, lvI (0 : Int32)] [(.int (((x1_.toUInt32 >>> ((0 : Int32) &&& 31).toUInt32).toInt32).toInt8.toInt32)), (.int x9_)] _
      refine XS.icmpYes X0.here hx rfl (pc0 := 47) (pc' := 54) rfl (hb hby d7_47) rfl (feq hc3).2 (by decide) (by decide) ?_
      refine XS.iconst X0.here hx rfl (hb hby d7_54) ?_
      exact kt
    obtain ⟨fs, hr, hrun, hended, hW, hsame⟩ := X0.leave (v := some (.int (0 : Int32))) (fun h => by rw [Bd.returns] at h; cases h)
    refine ⟨_, _, hG _ (pre6 _ (retN X0 hx (t := .boolean) Bd.returns (by simp) (hb hby d7_55) hr)), hrun, hended, _, _, rfl, ?_, ⟨_, rfl⟩, hW, hsame.mono (by decide) (by decide)⟩
    show Qkeeps43 Z o0_ x0_ x1_ ko0_ x2_ x3_ x4_ x5_ x6_ x7_ x8_ x9_ h0 n0 _ s₁.heap _
    rw [e0]
    exact ⟨(0 : Int32), rfl, (Or.inr ⟨rfl, hc3⟩), N0, rfl⟩
theorem efu4At44 (m : MethodId) (o0_ : Addr) (x0_ : Int32) : entryFrame m #[(.ref o0_), (.int (4 : Int32)), (.int x0_)] 3 = mkF m 0 #[lvR o0_, lvI (4 : Int32), lvI x0_] [] := by first | (simp [entryFrame, mkF, argsToLocals, Value.category]; done) | rfl
def Qu4At44 (Z : State) (o0_ : Addr) (x0_ : Int32) (o1_ : Addr) (ko1_ : ClassId) (x1_ : Int32) (x2_ : Int32) (x3_ : Int32) (x4_ : Int32) (x5_ : Int32) (x6_ : Int32) (x7_ : Int32) (x8_ : Int32) (h0 : Heap) (n0 : Nat) (v : Option Value) (h : Heap) (L : List Loc) : Prop := v = none ∧ Fr n0 L ∧ Keep h0 h [o1_] ∧ Arv Z h o1_ ko1_ .byte (8 : Int32) [(.int x1_), (.int x2_), (.int x3_), (.int x4_), (.int (((x0_.toUInt32 >>> ((24 : Int32) &&& 31).toUInt32).toInt32).toInt8.toInt32)), (.int (((x0_.toUInt32 >>> ((16 : Int32) &&& 31).toUInt32).toInt32).toInt8.toInt32)), (.int (((x0_.toUInt32 >>> ((8 : Int32) &&& 31).toUInt32).toInt32).toInt8.toInt32)), (.int (x0_.toInt8.toInt32))] (.int (0 : Int32)) ∧ Exa Z h o1_ "[B"
set_option maxRecDepth 65536 in
set_option maxHeartbeats 40000000 in
theorem rmu4At44 (l : Launch) (Z : State) (a0 : Array Value) (hw : ∀ d ∈ tables_1, d.before a0 Z = true) (ws : List Jvm.Cond) (o0_ : Addr) (x0_ : Int32) (o1_ : Addr) (ko1_ : ClassId) (x1_ : Int32) (x2_ : Int32) (x3_ : Int32) (x4_ : Int32) (x5_ : Int32) (x6_ : Int32) (x7_ : Int32) (x8_ : Int32) (h0 : Heap) (n0 : Nat) (O0 : Old Z n0 h0) (P0 : Exa Z h0 o0_ cn0) (P1 : Fld Z h0 o0_ cn0 "bytes" "[B" (.ref o1_)) (P2 : Fld Z h0 o0_ cn0 "length" "I" (.int (8 : Int32))) (P3 : Arv Z h0 o1_ ko1_ .byte (8 : Int32) [(.int x1_), (.int x2_), (.int x3_), (.int x4_), (.int x5_), (.int x6_), (.int x7_), (.int x8_)] (.int (0 : Int32))) (P4 : Exa Z h0 o1_ "[B") (P5 : n0 ≤ o1_) (P6 : o0_ ≠ o1_) :
    MetFree l (⟨"com/example/stackweave/stackweave/classfile/ByteWriter", "u4At", "(II)V"⟩ : MethodName) (head1 (Jvm.Cond.code (⟨"com/example/stackweave/stackweave/classfile/ByteWriter", "u4At", "(II)V"⟩ : MethodName) prog_12_method_7_code 3 none :: ws) ({ frames := 0, cells := 0, slots := 0, locals := 0 } : Room)) (fun a U => a = #[(.ref o0_), (.int (4 : Int32)), (.int x0_)] ∧ Z.Warmed39 U.vm ∧ U.heap = h0) (fun _ _ _ _ _ => True) (fun _ U o U' => ∃ v L, o = .returned v ∧ Qu4At44 Z o0_ x0_ o1_ ko1_ x1_ x2_ x3_ x4_ x5_ x6_ x7_ x8_ h0 n0 v U'.heap L ∧ FrameEnd U o U' L ({ frames := 0, cells := 0, slots := 0, locals := 0 } : Room).cells ({ frames := 0, cells := 0, slots := 0, locals := 0 } : Room).slots) := by
  refine MetFree.of_bodySF (plainFor_of_name pn_0) hisR ?_
  intro p e s m args below meth c s₁ Bd hml0 hP hK
  obtain ⟨rfl, hZ, hh⟩ := hP
  have hx := Bd.exec
  have hby := Bd.bytes
  have hml : c.maxLocals = 3 := hml0
  have hown : s.vm.findClass "com/example/stackweave/stackweave/classfile/ByteWriter" = some m.cls := findClass_of_methodNamed Bd.named
  have hnm := (name_of_methodNamed Bd.named Bd.method).1
  have X0 : Stand p l e ({ frames := 0, cells := 0, slots := 0, locals := 0 } : Room) s m #[(.ref o0_), (.int (4 : Int32)), (.int x0_)] below meth c s₁ [] 0 0 := Stand.of_body Bd
  have e0 : s₁.heap = h0 := by rw [← hh, Bd.state]; rfl
  have N0 := Fr.nil n0
  obtain ⟨G, pre0, hG⟩ : ∃ G : State → Prop, (∀ t, own_S p e below m s₁ 0 #[lvR o0_, lvI (4 : Int32), lvI x0_] [] t → G t) ∧ (∀ t, G t → Steps p.tables e below (s₁.setTop (entryFrame m #[(.ref o0_), (.int (4 : Int32)), (.int x0_)] 3)) t) := ⟨fun t => Steps p.tables e below (s₁.setTop (entryFrame m #[(.ref o0_), (.int (4 : Int32)), (.int x0_)] 3)) t, fun t k => castTop (efu4At44 m o0_ x0_) k, fun _ k => k⟩
  have K0 : Keep h0 h0 [o1_] := Keep.refl _ _
  obtain ⟨T1, X1, e1, st1⟩ := getF X0 hx hZ hown (host := "") (Or.inl (own_w hw 11 rfl)) Via.refl e0 P1 (g := (mkF m 1 #[lvR o0_, lvI (4 : Int32), lvI x0_] [(.ref o0_)])) rfl rfl (hb hby d4_1)
  obtain ⟨c2, r2, q2, s2, z2, y2, G2⟩ := id P3
  have hin2 : ¬ ((4 : Int32) < 0 ∨ c2.slots.size ≤ ((4 : Int32)).toNatClampNeg) := inb_of s2 ⟨by decide, by decide⟩
  obtain ⟨T2, h2, X2, e2, W2, st2⟩ := stB X1 hx hZ e1 r2 (j := (4 : Int32)) hin2 (g := (mkF m 10 #[lvR o0_, lvI (4 : Int32), lvI x0_] [(.int (((x0_.toUInt32 >>> ((24 : Int32) &&& 31).toUInt32).toInt32).toInt8.toInt32)), (.int (4 : Int32)), (.ref o1_)])) rfl rfl (hb hby d4_10)
  have N3 := Fr.snoc X2 N0 P5
  have f4 : Arv Z h2 o1_ ko1_ .byte (8 : Int32) [(.int x1_), (.int x2_), (.int x3_), (.int x4_), (.int ((((x0_.toUInt32 >>> ((24 : Int32) &&& 31).toUInt32).toInt32).toInt8.toInt32).toInt8.toInt32)), (.int x6_), (.int x7_), (.int x8_)] (.int (0 : Int32)) := Arv.set r2 q2 s2 z2 y2 G2 (fits_nar_byte _) W2 4 rfl (Nat.le_of_ble_eq_true rfl)
  have f5 : Arv Z h2 o1_ ko1_ .byte (8 : Int32) [(.int x1_), (.int x2_), (.int x3_), (.int x4_), (.int (((x0_.toUInt32 >>> ((24 : Int32) &&& 31).toUInt32).toInt32).toInt8.toInt32)), (.int x6_), (.int x7_), (.int x8_)] (.int (0 : Int32)) := by have q := f4; rw [own_i2b2] at q; exact q
  have f6 : Fld Z h2 o0_ cn0 "bytes" "[B" (.ref o1_) := P1.other W2 (Or.inl P6)
  obtain ⟨T7, X7, e7, st7⟩ := getF X2 hx hZ hown (host := "") (Or.inl (own_w hw 11 rfl)) Via.refl e2 f6 (g := (mkF m 12 #[lvR o0_, lvI (4 : Int32), lvI x0_] [(.ref o0_)])) rfl rfl (hb hby d4_12)
  obtain ⟨c8, r8, q8, s8, z8, y8, G8⟩ := id f5
  have hin8 : ¬ ((5 : Int32) < 0 ∨ c8.slots.size ≤ ((5 : Int32)).toNatClampNeg) := inb_of s8 ⟨by decide, by decide⟩
  obtain ⟨T8, h8, X8, e8, W8, st8⟩ := stB X7 hx hZ e7 r8 (j := (5 : Int32)) hin8 (g := (mkF m 23 #[lvR o0_, lvI (4 : Int32), lvI x0_] [(.int (((x0_.toUInt32 >>> ((16 : Int32) &&& 31).toUInt32).toInt32).toInt8.toInt32)), (.int (5 : Int32)), (.ref o1_)])) rfl rfl (hb hby d4_23)
  have N9 := Fr.snoc X8 N3 P5
  have f10 : Arv Z h8 o1_ ko1_ .byte (8 : Int32) [(.int x1_), (.int x2_), (.int x3_), (.int x4_), (.int (((x0_.toUInt32 >>> ((24 : Int32) &&& 31).toUInt32).toInt32).toInt8.toInt32)), (.int ((((x0_.toUInt32 >>> ((16 : Int32) &&& 31).toUInt32).toInt32).toInt8.toInt32).toInt8.toInt32)), (.int x7_), (.int x8_)] (.int (0 : Int32)) := Arv.set r8 q8 s8 z8 y8 G8 (fits_nar_byte _) W8 5 rfl (Nat.le_of_ble_eq_true rfl)
  have f11 : Arv Z h8 o1_ ko1_ .byte (8 : Int32) [(.int x1_), (.int x2_), (.int x3_), (.int x4_), (.int (((x0_.toUInt32 >>> ((24 : Int32) &&& 31).toUInt32).toInt32).toInt8.toInt32)), (.int (((x0_.toUInt32 >>> ((16 : Int32) &&& 31).toUInt32).toInt32).toInt8.toInt32)), (.int x7_), (.int x8_)] (.int (0 : Int32)) := by have q := f10; rw [own_i2b2] at q; exact q
  have f12 : Fld Z h8 o0_ cn0 "bytes" "[B" (.ref o1_) := f6.other W8 (Or.inl P6)
  obtain ⟨T13, X13, e13, st13⟩ := getF X8 hx hZ hown (host := "") (Or.inl (own_w hw 11 rfl)) Via.refl e8 f12 (g := (mkF m 25 #[lvR o0_, lvI (4 : Int32), lvI x0_] [(.ref o0_)])) rfl rfl (hb hby d4_25)
  obtain ⟨c14, r14, q14, s14, z14, y14, G14⟩ := id f11
  have hin14 : ¬ ((6 : Int32) < 0 ∨ c14.slots.size ≤ ((6 : Int32)).toNatClampNeg) := inb_of s14 ⟨by decide, by decide⟩
  obtain ⟨T14, h14, X14, e14, W14, st14⟩ := stB X13 hx hZ e13 r14 (j := (6 : Int32)) hin14 (g := (mkF m 36 #[lvR o0_, lvI (4 : Int32), lvI x0_] [(.int (((x0_.toUInt32 >>> ((8 : Int32) &&& 31).toUInt32).toInt32).toInt8.toInt32)), (.int (6 : Int32)), (.ref o1_)])) rfl rfl (hb hby d4_36)
  have N15 := Fr.snoc X14 N9 P5
  have f16 : Arv Z h14 o1_ ko1_ .byte (8 : Int32) [(.int x1_), (.int x2_), (.int x3_), (.int x4_), (.int (((x0_.toUInt32 >>> ((24 : Int32) &&& 31).toUInt32).toInt32).toInt8.toInt32)), (.int (((x0_.toUInt32 >>> ((16 : Int32) &&& 31).toUInt32).toInt32).toInt8.toInt32)), (.int ((((x0_.toUInt32 >>> ((8 : Int32) &&& 31).toUInt32).toInt32).toInt8.toInt32).toInt8.toInt32)), (.int x8_)] (.int (0 : Int32)) := Arv.set r14 q14 s14 z14 y14 G14 (fits_nar_byte _) W14 6 rfl (Nat.le_of_ble_eq_true rfl)
  have f17 : Arv Z h14 o1_ ko1_ .byte (8 : Int32) [(.int x1_), (.int x2_), (.int x3_), (.int x4_), (.int (((x0_.toUInt32 >>> ((24 : Int32) &&& 31).toUInt32).toInt32).toInt8.toInt32)), (.int (((x0_.toUInt32 >>> ((16 : Int32) &&& 31).toUInt32).toInt32).toInt8.toInt32)), (.int (((x0_.toUInt32 >>> ((8 : Int32) &&& 31).toUInt32).toInt32).toInt8.toInt32)), (.int x8_)] (.int (0 : Int32)) := by have q := f16; rw [own_i2b2] at q; exact q
  have f18 : Fld Z h14 o0_ cn0 "bytes" "[B" (.ref o1_) := f12.other W14 (Or.inl P6)
  obtain ⟨T19, X19, e19, st19⟩ := getF X14 hx hZ hown (host := "") (Or.inl (own_w hw 11 rfl)) Via.refl e14 f18 (g := (mkF m 38 #[lvR o0_, lvI (4 : Int32), lvI x0_] [(.ref o0_)])) rfl rfl (hb hby d4_38)
  obtain ⟨c20, r20, q20, s20, z20, y20, G20⟩ := id f17
  have hin20 : ¬ ((7 : Int32) < 0 ∨ c20.slots.size ≤ ((7 : Int32)).toNatClampNeg) := inb_of s20 ⟨by decide, by decide⟩
  obtain ⟨T20, h20, X20, e20, W20, st20⟩ := stB X19 hx hZ e19 r20 (j := (7 : Int32)) hin20 (g := (mkF m 46 #[lvR o0_, lvI (4 : Int32), lvI x0_] [(.int (x0_.toInt8.toInt32)), (.int (7 : Int32)), (.ref o1_)])) rfl rfl (hb hby d4_46)
  have N21 := Fr.snoc X20 N15 P5
  have f22 : Arv Z h20 o1_ ko1_ .byte (8 : Int32) [(.int x1_), (.int x2_), (.int x3_), (.int x4_), (.int (((x0_.toUInt32 >>> ((24 : Int32) &&& 31).toUInt32).toInt32).toInt8.toInt32)), (.int (((x0_.toUInt32 >>> ((16 : Int32) &&& 31).toUInt32).toInt32).toInt8.toInt32)), (.int (((x0_.toUInt32 >>> ((8 : Int32) &&& 31).toUInt32).toInt32).toInt8.toInt32)), (.int ((x0_.toInt8.toInt32).toInt8.toInt32))] (.int (0 : Int32)) := Arv.set r20 q20 s20 z20 y20 G20 (fits_nar_byte _) W20 7 rfl (Nat.le_of_ble_eq_true rfl)
  have f23 : Arv Z h20 o1_ ko1_ .byte (8 : Int32) [(.int x1_), (.int x2_), (.int x3_), (.int x4_), (.int (((x0_.toUInt32 >>> ((24 : Int32) &&& 31).toUInt32).toInt32).toInt8.toInt32)), (.int (((x0_.toUInt32 >>> ((16 : Int32) &&& 31).toUInt32).toInt32).toInt8.toInt32)), (.int (((x0_.toUInt32 >>> ((8 : Int32) &&& 31).toUInt32).toInt32).toInt8.toInt32)), (.int (x0_.toInt8.toInt32))] (.int (0 : Int32)) := by have q := f22; rw [own_i2b2] at q; exact q
  have pre24 : ∀ t, own_S p e below m T20 47 #[lvR o0_, lvI (4 : Int32), lvI x0_] [] t → G t := by
    intro t kt
    refine pre0 t ?_
    show own_S p e below m s₁ 0 #[lvR o0_, lvI (4 : Int32), lvI x0_] [] _
    refine XS.aloadN X0.here hx rfl (hb hby d4_0) rfl rfl ?_
    show own_S p e below m s₁ 1 #[lvR o0_, lvI (4 : Int32), lvI x0_] [(.ref o0_)] _
    refine st1 _ ?_
    refine XS.iloadN X1.here hx rfl (hb hby d4_4) rfl ?_
    refine XS.iloadN X1.here hx rfl (hb hby d4_5) rfl ?_
    refine XS.bipush X1.here hx rfl (hb hby d4_6) ?_
    show own_S p e below m T1 8 #[lvR o0_, lvI (4 : Int32), lvI x0_] [(.int (24 : Int32)), (.int x0_), (.int (4 : Int32)), (.ref o1_)] _
    refine XS.iushr X1.here hx rfl (hb hby d4_8) rfl ?_
    show own_S p e below m T1 9 #[lvR o0_, lvI (4 : Int32), lvI x0_] [(.int ((x0_.toUInt32 >>> ((24 : Int32) &&& 31).toUInt32).toInt32)), (.int (4 : Int32)), (.ref o1_)] _
    refine XS.i2b X1.here hx rfl (hb hby d4_9) rfl ?_
    show own_S p e below m T1 10 #[lvR o0_, lvI (4 : Int32), lvI x0_] [(.int (((x0_.toUInt32 >>> ((24 : Int32) &&& 31).toUInt32).toInt32).toInt8.toInt32)), (.int (4 : Int32)), (.ref o1_)] _
    refine st2 _ ?_
    refine XS.aloadN X2.here hx rfl (hb hby d4_11) rfl rfl ?_
    show own_S p e below m T2 12 #[lvR o0_, lvI (4 : Int32), lvI x0_] [(.ref o0_)] _
    refine st7 _ ?_
    refine XS.iloadN X7.here hx rfl (hb hby d4_15) rfl ?_
    refine XS.iconst X7.here hx rfl (hb hby d4_16) ?_
    refine XS.iadd X7.here hx rfl (hb hby d4_17) rfl ?_
    show own_S p e below m T7 18 #[lvR o0_, lvI (4 : Int32), lvI x0_] [(.int (5 : Int32)), (.ref o1_)] _
    refine XS.iloadN X7.here hx rfl (hb hby d4_18) rfl ?_
    refine XS.bipush X7.here hx rfl (hb hby d4_19) ?_
    show own_S p e below m T7 21 #[lvR o0_, lvI (4 : Int32), lvI x0_] [(.int (16 : Int32)), (.int x0_), (.int (5 : Int32)), (.ref o1_)] _
    refine XS.iushr X7.here hx rfl (hb hby d4_21) rfl ?_
    show own_S p e below m T7 22 #[lvR o0_, lvI (4 : Int32), lvI x0_] [(.int ((x0_.toUInt32 >>> ((16 : Int32) &&& 31).toUInt32).toInt32)), (.int (5 : Int32)), (.ref o1_)] _
    refine XS.i2b X7.here hx rfl (hb hby d4_22) rfl ?_
    show own_S p e below m T7 23 #[lvR o0_, lvI (4 : Int32), lvI x0_] [(.int (((x0_.toUInt32 >>> ((16 : Int32) &&& 31).toUInt32).toInt32).toInt8.toInt32)), (.int (5 : Int32)), (.ref o1_)] _
    refine st8 _ ?_
    refine XS.aloadN X8.here hx rfl (hb hby d4_24) rfl rfl ?_
    show own_S p e below m T8 25 #[lvR o0_, lvI (4 : Int32), lvI x0_] [(.ref o0_)] _
    refine st13 _ ?_
    refine XS.iloadN X13.here hx rfl (hb hby d4_28) rfl ?_
    refine XS.iconst X13.here hx rfl (hb hby d4_29) ?_
    refine XS.iadd X13.here hx rfl (hb hby d4_30) rfl ?_
    show own_S p e below m T13 31 #[lvR o0_, lvI (4 : Int32), lvI x0_] [(.int (6 : Int32)), (.ref o1_)] _
    refine XS.iloadN X13.here hx rfl (hb hby d4_31) rfl ?_
    refine XS.bipush X13.here hx rfl (hb hby d4_32) ?_
    show own_S p e below m T13 34 #[lvR o0_, lvI (4 : Int32), lvI x0_] [(.int (8 : Int32)), (.int x0_), (.int (6 : Int32)), (.ref o1_)] _
    refine XS.iushr X13.here hx rfl (hb hby d4_34) rfl ?_
    show own_S p e below m T13 35 #[lvR o0_, lvI (4 : Int32), lvI x0_] [(.int ((x0_.toUInt32 >>> ((8 : Int32) &&& 31).toUInt32).toInt32)), (.int (6 : Int32)), (.ref o1_)] _
    refine XS.i2b X13.here hx rfl (hb hby d4_35) rfl ?_
    show own_S p e below m T13 36 #[lvR o0_, lvI (4 : Int32), lvI x0_] [(.int (((x0_.toUInt32 >>> ((8 : Int32) &&& 31).toUInt32).toInt32).toInt8.toInt32)), (.int (6 : Int32)), (.ref o1_)] _
    refine st14 _ ?_
    refine XS.aloadN X14.here hx rfl (hb hby d4_37) rfl rfl ?_
    show own_S p e below m T14 38 #[lvR o0_, lvI (4 : Int32), lvI x0_] [(.ref o0_)] _
    refine st19 _ ?_
    refine XS.iloadN X19.here hx rfl (hb hby d4_41) rfl ?_
    refine XS.iconst X19.here hx rfl (hb hby d4_42) ?_
    refine XS.iadd X19.here hx rfl (hb hby d4_43) rfl ?_
    show own_S p e below m T19 44 #[lvR o0_, lvI (4 : Int32), lvI x0_] [(.int (7 : Int32)), (.ref o1_)] _
    refine XS.iloadN X19.here hx rfl (hb hby d4_44) rfl ?_
    show own_S p e below m T19 45 #[lvR o0_, lvI (4 : Int32), lvI x0_] [(.int x0_), (.int (7 : Int32)), (.ref o1_)] _
    refine XS.i2b X19.here hx rfl (hb hby d4_45) rfl ?_
    show own_S p e below m T19 46 #[lvR o0_, lvI (4 : Int32), lvI x0_] [(.int (x0_.toInt8.toInt32)), (.int (7 : Int32)), (.ref o1_)] _
    refine st20 _ ?_
    exact kt
  have f26 : Keep h0 h2 [o1_] := K0.wr W2 (Or.inl (List.mem_of_getElem? (i := 0) rfl))
  have f27 : Keep h0 h8 [o1_] := f26.wr W8 (Or.inl (List.mem_of_getElem? (i := 0) rfl))
  have f28 : Keep h0 h14 [o1_] := f27.wr W14 (Or.inl (List.mem_of_getElem? (i := 0) rfl))
  have f29 : Keep h0 h20 [o1_] := f28.wr W20 (Or.inl (List.mem_of_getElem? (i := 0) rfl))
  have f30 : Exa Z h2 o1_ "[B" := P4.wr W2
  have f31 : Exa Z h8 o1_ "[B" := f30.wr W8
  have f32 : Exa Z h14 o1_ "[B" := f31.wr W14
  have f33 : Exa Z h20 o1_ "[B" := f32.wr W20
  obtain ⟨fs, hr, hrun, hended, hW, hsame⟩ := X20.leave (v := none) (fun _ => rfl)
  refine ⟨_, _, hG _ (pre24 _ (X20.returnOut hx Bd.returns (hb hby d4_47) hr)), hrun, hended, _, _, rfl, ?_, ⟨_, rfl⟩, hW, hsame.mono (by decide) (by decide)⟩
  show Qu4At44 Z o0_ x0_ o1_ ko1_ x1_ x2_ x3_ x4_ x5_ x6_ x7_ x8_ h0 n0 _ T20.heap _
  rw [e20]
  exact ⟨rfl, N21, f29, f23, f33⟩
theorem efkeeps45 (m : MethodId) (o0_ : Addr) (x0_ : Int32) (x1_ : Int32) : entryFrame m #[(.ref o0_), (.int (0 : Int32)), (.int (4 : Int32)), (.int x0_), (.int x1_)] 7 = mkF m 0 #[lvR o0_, lvI (0 : Int32), lvI (4 : Int32), lvI x0_, lvI x1_, .unset, .unset] [] := by first | (simp [entryFrame, mkF, argsToLocals, Value.category]; done) | rfl
def Qkeeps45 (Z : State) (o0_ : Addr) (x0_ : Int32) (x1_ : Int32) (ko0_ : ClassId) (x2_ : Int32) (x3_ : Int32) (x4_ : Int32) (x5_ : Int32) (x6_ : Int32) (x7_ : Int32) (x8_ : Int32) (x9_ : Int32) (h0 : Heap) (n0 : Nat) (v : Option Value) (h : Heap) (L : List Loc) : Prop := ∃ r_ : Int32, v = some (.int r_) ∧ (((1 : Int32) = r_ ∧ (x2_ = (((x0_.toUInt32 >>> ((24 : Int32) &&& 31).toUInt32).toInt32).toInt8.toInt32))) ∨ ((0 : Int32) = r_ ∧ (¬ (x2_ = (((x0_.toUInt32 >>> ((24 : Int32) &&& 31).toUInt32).toInt32).toInt8.toInt32))))) ∧ Fr n0 L ∧ h = h0
set_option maxRecDepth 65536 in
set_option maxHeartbeats 40000000 in
theorem rmkeeps45 (l : Launch) (Z : State) (a0 : Array Value) (hw : ∀ d ∈ tables_1, d.before a0 Z = true) (ws : List Jvm.Cond) (o0_ : Addr) (x0_ : Int32) (x1_ : Int32) (ko0_ : ClassId) (x2_ : Int32) (x3_ : Int32) (x4_ : Int32) (x5_ : Int32) (x6_ : Int32) (x7_ : Int32) (x8_ : Int32) (x9_ : Int32) (h0 : Heap) (n0 : Nat) (O0 : Old Z n0 h0) (P0 : Arv Z h0 o0_ ko0_ .byte (8 : Int32) [(.int x2_), (.int x3_), (.int x4_), (.int x5_), (.int x6_), (.int x7_), (.int x8_), (.int x9_)] (.int (0 : Int32))) (P1 : Exa Z h0 o0_ "[B") :
    MetFree l (⟨"com/example/stackweave/stackweave/classfile/ByteWriterU4AtPinLaw", "keeps", "([BIIII)Z"⟩ : MethodName) (head1 (Jvm.Cond.code (⟨"com/example/stackweave/stackweave/classfile/ByteWriterU4AtPinLaw", "keeps", "([BIIII)Z"⟩ : MethodName) method_3_code 7 (some .boolean) :: ws) ({ frames := 0, cells := 0, slots := 0, locals := 0 } : Room)) (fun a U => a = #[(.ref o0_), (.int (0 : Int32)), (.int (4 : Int32)), (.int x0_), (.int x1_)] ∧ Z.Warmed39 U.vm ∧ U.heap = h0) (fun _ _ _ _ _ => True) (fun _ U o U' => ∃ v L, o = .returned v ∧ Qkeeps45 Z o0_ x0_ x1_ ko0_ x2_ x3_ x4_ x5_ x6_ x7_ x8_ x9_ h0 n0 v U'.heap L ∧ FrameEnd U o U' L ({ frames := 0, cells := 0, slots := 0, locals := 0 } : Room).cells ({ frames := 0, cells := 0, slots := 0, locals := 0 } : Room).slots) := by
  refine MetFree.of_bodySF (plainFor_of_name pn_1) hisR ?_
  intro p e s m args below meth c s₁ Bd hml0 hP hK
  obtain ⟨rfl, hZ, hh⟩ := hP
  have hx := Bd.exec
  have hby := Bd.bytes
  have hml : c.maxLocals = 7 := hml0
  have hown : s.vm.findClass "com/example/stackweave/stackweave/classfile/ByteWriterU4AtPinLaw" = some m.cls := findClass_of_methodNamed Bd.named
  have hnm := (name_of_methodNamed Bd.named Bd.method).1
  have X0 : Stand p l e ({ frames := 0, cells := 0, slots := 0, locals := 0 } : Room) s m #[(.ref o0_), (.int (0 : Int32)), (.int (4 : Int32)), (.int x0_), (.int x1_)] below meth c s₁ [] 0 0 := Stand.of_body Bd
  have e0 : s₁.heap = h0 := by rw [← hh, Bd.state]; rfl
  have N0 := Fr.nil n0
  obtain ⟨G, pre0, hG⟩ : ∃ G : State → Prop, (∀ t, own_S p e below m s₁ 0 #[lvR o0_, lvI (0 : Int32), lvI (4 : Int32), lvI x0_, lvI x1_, .unset, .unset] [] t → G t) ∧ (∀ t, G t → Steps p.tables e below (s₁.setTop (entryFrame m #[(.ref o0_), (.int (0 : Int32)), (.int (4 : Int32)), (.int x0_), (.int x1_)] 7)) t) := ⟨fun t => Steps p.tables e below (s₁.setTop (entryFrame m #[(.ref o0_), (.int (0 : Int32)), (.int (4 : Int32)), (.int x0_), (.int x1_)] 7)) t, fun t k => castTop (efkeeps45 m o0_ x0_ x1_) k, fun _ k => k⟩
  have K0 : Keep h0 h0 [] := Keep.refl _ _
  obtain ⟨c1, r1, q1, s1, z1, y1, G1⟩ := id P0
  have hin1 : ¬ ((0 : Int32) < 0 ∨ c1.slots.size ≤ ((0 : Int32)).toNatClampNeg) := inb_of s1 ⟨by decide, by decide⟩
  have hat1 : c1.slots[((0 : Int32)).toNatClampNeg]? = some (.int x2_) := Has.at y1 hin1 rfl
  have pre2 : ∀ t, own_S p e below m s₁ 47 #[lvR o0_, lvI (0 : Int32), lvI (4 : Int32), lvI x0_, lvI x1_, lvI x0_, lvI (24 : Int32)] [(.int (((x0_.toUInt32 >>> ((24 : Int32) &&& 31).toUInt32).toInt32).toInt8.toInt32)), (.int x2_)] t → G t := by
    intro t kt
    refine pre0 t ?_
    show own_S p e below m s₁ 0 #[lvR o0_, lvI (0 : Int32), lvI (4 : Int32), lvI x0_, lvI x1_, .unset, .unset] [] _
    refine XS.iloadN X0.here hx rfl (hb hby d7_0) rfl ?_
    refine XS.iloadN X0.here hx rfl (hb hby d7_1) rfl ?_
    show own_S p e below m s₁ 2 #[lvR o0_, lvI (0 : Int32), lvI (4 : Int32), lvI x0_, lvI x1_, .unset, .unset] [(.int (4 : Int32)), (.int (0 : Int32))] _
    refine XS.icmpYes X0.here hx rfl (pc0 := 2) (pc' := 14) rfl (hb hby d7_2) rfl (tlt (by decide : (0 : Int32) < (4 : Int32))).1 (by decide) (by decide) ?_
    refine XS.iloadN X0.here hx rfl (hb hby d7_14) rfl ?_
    refine XS.iconst X0.here hx rfl (hb hby d7_15) ?_
    show own_S p e below m s₁ 16 #[lvR o0_, lvI (0 : Int32), lvI (4 : Int32), lvI x0_, lvI x1_, .unset, .unset] [(.int (4 : Int32)), (.int (0 : Int32))] _
    refine XS.icmpNo X0.here hx rfl (hb hby d7_16) rfl (tlt (by decide : (0 : Int32) < (4 : Int32))).2.1 ?_
    refine XS.iloadN X0.here hx rfl (hb hby d7_19) rfl ?_
    refine XS.goto X0.here hx rfl (pc0 := 20) (pc' := 25) rfl (hb hby d7_20) (by decide) (by decide) ?_
    refine XS.istore X0.here hx rfl (hb hby d7_25) rfl (l' := #[lvR o0_, lvI (0 : Int32), lvI (4 : Int32), lvI x0_, lvI x1_, lvI x0_, .unset]) rfl ?_
    show own_S p e below m s₁ 27 #[lvR o0_, lvI (0 : Int32), lvI (4 : Int32), lvI x0_, lvI x1_, lvI x0_, .unset] [] _
    refine XS.bipush X0.here hx rfl (hb hby d7_27) ?_
    refine XS.bipush X0.here hx rfl (hb hby d7_29) ?_
    refine XS.iloadN X0.here hx rfl (hb hby d7_31) rfl ?_
    refine XS.iconst X0.here hx rfl (hb hby d7_32) ?_
    show own_S p e below m s₁ 33 #[lvR o0_, lvI (0 : Int32), lvI (4 : Int32), lvI x0_, lvI x1_, lvI x0_, .unset] [(.int (3 : Int32)), (.int (0 : Int32)), (.int (8 : Int32)), (.int (24 : Int32))] _
    refine XS.iand X0.here hx rfl (hb hby d7_33) rfl ?_
    refine XS.imul X0.here hx rfl (hb hby d7_34) rfl ?_
    refine XS.isub X0.here hx rfl (hb hby d7_35) rfl ?_
    refine XS.istore X0.here hx rfl (hb hby d7_36) rfl (l' := #[lvR o0_, lvI (0 : Int32), lvI (4 : Int32), lvI x0_, lvI x1_, lvI x0_, lvI (24 : Int32)]) rfl ?_
    show own_S p e below m s₁ 38 #[lvR o0_, lvI (0 : Int32), lvI (4 : Int32), lvI x0_, lvI x1_, lvI x0_, lvI (24 : Int32)] [] _
    refine XS.aloadN X0.here hx rfl (hb hby d7_38) rfl rfl ?_
    refine XS.iloadN X0.here hx rfl (hb hby d7_39) rfl ?_
    show own_S p e below m s₁ 40 #[lvR o0_, lvI (0 : Int32), lvI (4 : Int32), lvI x0_, lvI x1_, lvI x0_, lvI (24 : Int32)] [(.int (0 : Int32)), (.ref o0_)] _
    refine X0.baloadBytes hx (j := (0 : Int32)) (v := (.int x2_)) (by rw [e0]; exact r1.1) (State.isArrayOf_alike hZ.alike r1.2.1) r1.2.2 hin1 hat1 (g := (mkF m 40 #[lvR o0_, lvI (0 : Int32), lvI (4 : Int32), lvI x0_, lvI x1_, lvI x0_, lvI (24 : Int32)] [(.int (0 : Int32)), (.ref o0_)])) rfl rfl (hb hby d7_40) _ ?_
    refine XS.iload X0.here hx rfl (hb hby d7_41) rfl ?_
    refine XS.iload X0.here hx rfl (hb hby d7_43) rfl ?_
    show own_S p e below m s₁ 45 #[lvR o0_, lvI (0 : Int32), lvI (4 : Int32), lvI x0_, lvI x1_, lvI x0_, lvI (24 : Int32)] [(.int (24 : Int32)), (.int x0_), (.int x2_)] _
    refine XS.iushr X0.here hx rfl (hb hby d7_45) rfl ?_
    show own_S p e below m s₁ 46 #[lvR o0_, lvI (0 : Int32), lvI (4 : Int32), lvI x0_, lvI x1_, lvI x0_, lvI (24 : Int32)] [(.int ((x0_.toUInt32 >>> ((24 : Int32) &&& 31).toUInt32).toInt32)), (.int x2_)] _
    refine XS.i2b X0.here hx rfl (hb hby d7_46) rfl ?_
    exact kt
  by_cases hc3 : x2_ = (((x0_.toUInt32 >>> ((24 : Int32) &&& 31).toUInt32).toInt32).toInt8.toInt32)
  · have pre4 : ∀ t, own_S p e below m s₁ 55 #[lvR o0_, lvI (0 : Int32), lvI (4 : Int32), lvI x0_, lvI x1_, lvI x0_, lvI (24 : Int32)] [(.int (1 : Int32))] t → G t := by
      intro t kt
      refine pre2 t ?_
      show own_S p e below m s₁ 47 #[lvR o0_, lvI (0 : Int32), lvI (4 : Int32), lvI x0_, lvI x1_, lvI x0_, lvI (24 : Int32)] [(.int (((x0_.toUInt32 >>> ((24 : Int32) &&& 31).toUInt32).toInt32).toInt8.toInt32)), (.int x2_)] _
      refine XS.icmpNo X0.here hx rfl (hb hby d7_47) rfl (teq hc3).2 ?_
      refine XS.iconst X0.here hx rfl (hb hby d7_50) ?_
      refine XS.goto X0.here hx rfl (pc0 := 51) (pc' := 55) rfl (hb hby d7_51) (by decide) (by decide) ?_
      exact kt
    obtain ⟨fs, hr, hrun, hended, hW, hsame⟩ := X0.leave (v := some (.int (1 : Int32))) (fun h => by rw [Bd.returns] at h; cases h)
    refine ⟨_, _, hG _ (pre4 _ (retN X0 hx (t := .boolean) Bd.returns (by simp) (hb hby d7_55) hr)), hrun, hended, _, _, rfl, ?_, ⟨_, rfl⟩, hW, hsame.mono (by decide) (by decide)⟩
    show Qkeeps45 Z o0_ x0_ x1_ ko0_ x2_ x3_ x4_ x5_ x6_ x7_ x8_ x9_ h0 n0 _ s₁.heap _
    rw [e0]
    exact ⟨(1 : Int32), rfl, (Or.inl ⟨rfl, hc3⟩), N0, rfl⟩
  · have pre6 : ∀ t, own_S p e below m s₁ 55 #[lvR o0_, lvI (0 : Int32), lvI (4 : Int32), lvI x0_, lvI x1_, lvI x0_, lvI (24 : Int32)] [(.int (0 : Int32))] t → G t := by
      intro t kt
      refine pre2 t ?_
      show own_S p e below m s₁ 47 #[lvR o0_, lvI (0 : Int32), lvI (4 : Int32), lvI x0_, lvI x1_, lvI x0_, lvI (24 : Int32)] [(.int (((x0_.toUInt32 >>> ((24 : Int32) &&& 31).toUInt32).toInt32).toInt8.toInt32)), (.int x2_)] _
      refine XS.icmpYes X0.here hx rfl (pc0 := 47) (pc' := 54) rfl (hb hby d7_47) rfl (feq hc3).2 (by decide) (by decide) ?_
      refine XS.iconst X0.here hx rfl (hb hby d7_54) ?_
      exact kt
    obtain ⟨fs, hr, hrun, hended, hW, hsame⟩ := X0.leave (v := some (.int (0 : Int32))) (fun h => by rw [Bd.returns] at h; cases h)
    refine ⟨_, _, hG _ (pre6 _ (retN X0 hx (t := .boolean) Bd.returns (by simp) (hb hby d7_55) hr)), hrun, hended, _, _, rfl, ?_, ⟨_, rfl⟩, hW, hsame.mono (by decide) (by decide)⟩
    show Qkeeps45 Z o0_ x0_ x1_ ko0_ x2_ x3_ x4_ x5_ x6_ x7_ x8_ x9_ h0 n0 _ s₁.heap _
    rw [e0]
    exact ⟨(0 : Int32), rfl, (Or.inr ⟨rfl, hc3⟩), N0, rfl⟩
theorem efkeeps46 (m : MethodId) (o0_ : Addr) (x0_ : Int32) (x1_ : Int32) : entryFrame m #[(.ref o0_), (.int (1 : Int32)), (.int (4 : Int32)), (.int x0_), (.int x1_)] 7 = mkF m 0 #[lvR o0_, lvI (1 : Int32), lvI (4 : Int32), lvI x0_, lvI x1_, .unset, .unset] [] := by first | (simp [entryFrame, mkF, argsToLocals, Value.category]; done) | rfl
def Qkeeps46 (Z : State) (o0_ : Addr) (x0_ : Int32) (x1_ : Int32) (ko0_ : ClassId) (x2_ : Int32) (x3_ : Int32) (x4_ : Int32) (x5_ : Int32) (x6_ : Int32) (x7_ : Int32) (x8_ : Int32) (x9_ : Int32) (h0 : Heap) (n0 : Nat) (v : Option Value) (h : Heap) (L : List Loc) : Prop := ∃ r_ : Int32, v = some (.int r_) ∧ (((1 : Int32) = r_ ∧ (x3_ = (((x0_.toUInt32 >>> ((16 : Int32) &&& 31).toUInt32).toInt32).toInt8.toInt32))) ∨ ((0 : Int32) = r_ ∧ (¬ (x3_ = (((x0_.toUInt32 >>> ((16 : Int32) &&& 31).toUInt32).toInt32).toInt8.toInt32))))) ∧ Fr n0 L ∧ h = h0
set_option maxRecDepth 65536 in
set_option maxHeartbeats 40000000 in
theorem rmkeeps46 (l : Launch) (Z : State) (a0 : Array Value) (hw : ∀ d ∈ tables_1, d.before a0 Z = true) (ws : List Jvm.Cond) (o0_ : Addr) (x0_ : Int32) (x1_ : Int32) (ko0_ : ClassId) (x2_ : Int32) (x3_ : Int32) (x4_ : Int32) (x5_ : Int32) (x6_ : Int32) (x7_ : Int32) (x8_ : Int32) (x9_ : Int32) (h0 : Heap) (n0 : Nat) (O0 : Old Z n0 h0) (P0 : Arv Z h0 o0_ ko0_ .byte (8 : Int32) [(.int x2_), (.int x3_), (.int x4_), (.int x5_), (.int x6_), (.int x7_), (.int x8_), (.int x9_)] (.int (0 : Int32))) (P1 : Exa Z h0 o0_ "[B") :
    MetFree l (⟨"com/example/stackweave/stackweave/classfile/ByteWriterU4AtPinLaw", "keeps", "([BIIII)Z"⟩ : MethodName) (head1 (Jvm.Cond.code (⟨"com/example/stackweave/stackweave/classfile/ByteWriterU4AtPinLaw", "keeps", "([BIIII)Z"⟩ : MethodName) method_3_code 7 (some .boolean) :: ws) ({ frames := 0, cells := 0, slots := 0, locals := 0 } : Room)) (fun a U => a = #[(.ref o0_), (.int (1 : Int32)), (.int (4 : Int32)), (.int x0_), (.int x1_)] ∧ Z.Warmed39 U.vm ∧ U.heap = h0) (fun _ _ _ _ _ => True) (fun _ U o U' => ∃ v L, o = .returned v ∧ Qkeeps46 Z o0_ x0_ x1_ ko0_ x2_ x3_ x4_ x5_ x6_ x7_ x8_ x9_ h0 n0 v U'.heap L ∧ FrameEnd U o U' L ({ frames := 0, cells := 0, slots := 0, locals := 0 } : Room).cells ({ frames := 0, cells := 0, slots := 0, locals := 0 } : Room).slots) := by
  refine MetFree.of_bodySF (plainFor_of_name pn_1) hisR ?_
  intro p e s m args below meth c s₁ Bd hml0 hP hK
  obtain ⟨rfl, hZ, hh⟩ := hP
  have hx := Bd.exec
  have hby := Bd.bytes
  have hml : c.maxLocals = 7 := hml0
  have hown : s.vm.findClass "com/example/stackweave/stackweave/classfile/ByteWriterU4AtPinLaw" = some m.cls := findClass_of_methodNamed Bd.named
  have hnm := (name_of_methodNamed Bd.named Bd.method).1
  have X0 : Stand p l e ({ frames := 0, cells := 0, slots := 0, locals := 0 } : Room) s m #[(.ref o0_), (.int (1 : Int32)), (.int (4 : Int32)), (.int x0_), (.int x1_)] below meth c s₁ [] 0 0 := Stand.of_body Bd
  have e0 : s₁.heap = h0 := by rw [← hh, Bd.state]; rfl
  have N0 := Fr.nil n0
  obtain ⟨G, pre0, hG⟩ : ∃ G : State → Prop, (∀ t, own_S p e below m s₁ 0 #[lvR o0_, lvI (1 : Int32), lvI (4 : Int32), lvI x0_, lvI x1_, .unset, .unset] [] t → G t) ∧ (∀ t, G t → Steps p.tables e below (s₁.setTop (entryFrame m #[(.ref o0_), (.int (1 : Int32)), (.int (4 : Int32)), (.int x0_), (.int x1_)] 7)) t) := ⟨fun t => Steps p.tables e below (s₁.setTop (entryFrame m #[(.ref o0_), (.int (1 : Int32)), (.int (4 : Int32)), (.int x0_), (.int x1_)] 7)) t, fun t k => castTop (efkeeps46 m o0_ x0_ x1_) k, fun _ k => k⟩
  have K0 : Keep h0 h0 [] := Keep.refl _ _
  obtain ⟨c1, r1, q1, s1, z1, y1, G1⟩ := id P0
  have hin1 : ¬ ((1 : Int32) < 0 ∨ c1.slots.size ≤ ((1 : Int32)).toNatClampNeg) := inb_of s1 ⟨by decide, by decide⟩
  have hat1 : c1.slots[((1 : Int32)).toNatClampNeg]? = some (.int x3_) := Has.at y1 hin1 rfl
  have pre2 : ∀ t, own_S p e below m s₁ 47 #[lvR o0_, lvI (1 : Int32), lvI (4 : Int32), lvI x0_, lvI x1_, lvI x0_, lvI (16 : Int32)] [(.int (((x0_.toUInt32 >>> ((16 : Int32) &&& 31).toUInt32).toInt32).toInt8.toInt32)), (.int x3_)] t → G t := by
    intro t kt
    refine pre0 t ?_
    show own_S p e below m s₁ 0 #[lvR o0_, lvI (1 : Int32), lvI (4 : Int32), lvI x0_, lvI x1_, .unset, .unset] [] _
    refine XS.iloadN X0.here hx rfl (hb hby d7_0) rfl ?_
    refine XS.iloadN X0.here hx rfl (hb hby d7_1) rfl ?_
    show own_S p e below m s₁ 2 #[lvR o0_, lvI (1 : Int32), lvI (4 : Int32), lvI x0_, lvI x1_, .unset, .unset] [(.int (4 : Int32)), (.int (1 : Int32))] _
    refine XS.icmpYes X0.here hx rfl (pc0 := 2) (pc' := 14) rfl (hb hby d7_2) rfl (tlt (by decide : (1 : Int32) < (4 : Int32))).1 (by decide) (by decide) ?_
    refine XS.iloadN X0.here hx rfl (hb hby d7_14) rfl ?_
    refine XS.iconst X0.here hx rfl (hb hby d7_15) ?_
    show own_S p e below m s₁ 16 #[lvR o0_, lvI (1 : Int32), lvI (4 : Int32), lvI x0_, lvI x1_, .unset, .unset] [(.int (4 : Int32)), (.int (1 : Int32))] _
    refine XS.icmpNo X0.here hx rfl (hb hby d7_16) rfl (tlt (by decide : (1 : Int32) < (4 : Int32))).2.1 ?_
    refine XS.iloadN X0.here hx rfl (hb hby d7_19) rfl ?_
    refine XS.goto X0.here hx rfl (pc0 := 20) (pc' := 25) rfl (hb hby d7_20) (by decide) (by decide) ?_
    refine XS.istore X0.here hx rfl (hb hby d7_25) rfl (l' := #[lvR o0_, lvI (1 : Int32), lvI (4 : Int32), lvI x0_, lvI x1_, lvI x0_, .unset]) rfl ?_
    show own_S p e below m s₁ 27 #[lvR o0_, lvI (1 : Int32), lvI (4 : Int32), lvI x0_, lvI x1_, lvI x0_, .unset] [] _
    refine XS.bipush X0.here hx rfl (hb hby d7_27) ?_
    refine XS.bipush X0.here hx rfl (hb hby d7_29) ?_
    refine XS.iloadN X0.here hx rfl (hb hby d7_31) rfl ?_
    refine XS.iconst X0.here hx rfl (hb hby d7_32) ?_
    show own_S p e below m s₁ 33 #[lvR o0_, lvI (1 : Int32), lvI (4 : Int32), lvI x0_, lvI x1_, lvI x0_, .unset] [(.int (3 : Int32)), (.int (1 : Int32)), (.int (8 : Int32)), (.int (24 : Int32))] _
    refine XS.iand X0.here hx rfl (hb hby d7_33) rfl ?_
    refine XS.imul X0.here hx rfl (hb hby d7_34) rfl ?_
    refine XS.isub X0.here hx rfl (hb hby d7_35) rfl ?_
    refine XS.istore X0.here hx rfl (hb hby d7_36) rfl (l' := #[lvR o0_, lvI (1 : Int32), lvI (4 : Int32), lvI x0_, lvI x1_, lvI x0_, lvI (16 : Int32)]) rfl ?_
    show own_S p e below m s₁ 38 #[lvR o0_, lvI (1 : Int32), lvI (4 : Int32), lvI x0_, lvI x1_, lvI x0_, lvI (16 : Int32)] [] _
    refine XS.aloadN X0.here hx rfl (hb hby d7_38) rfl rfl ?_
    refine XS.iloadN X0.here hx rfl (hb hby d7_39) rfl ?_
    show own_S p e below m s₁ 40 #[lvR o0_, lvI (1 : Int32), lvI (4 : Int32), lvI x0_, lvI x1_, lvI x0_, lvI (16 : Int32)] [(.int (1 : Int32)), (.ref o0_)] _
    refine X0.baloadBytes hx (j := (1 : Int32)) (v := (.int x3_)) (by rw [e0]; exact r1.1) (State.isArrayOf_alike hZ.alike r1.2.1) r1.2.2 hin1 hat1 (g := (mkF m 40 #[lvR o0_, lvI (1 : Int32), lvI (4 : Int32), lvI x0_, lvI x1_, lvI x0_, lvI (16 : Int32)] [(.int (1 : Int32)), (.ref o0_)])) rfl rfl (hb hby d7_40) _ ?_
    refine XS.iload X0.here hx rfl (hb hby d7_41) rfl ?_
    refine XS.iload X0.here hx rfl (hb hby d7_43) rfl ?_
    show own_S p e below m s₁ 45 #[lvR o0_, lvI (1 : Int32), lvI (4 : Int32), lvI x0_, lvI x1_, lvI x0_, lvI (16 : Int32)] [(.int (16 : Int32)), (.int x0_), (.int x3_)] _
    refine XS.iushr X0.here hx rfl (hb hby d7_45) rfl ?_
    show own_S p e below m s₁ 46 #[lvR o0_, lvI (1 : Int32), lvI (4 : Int32), lvI x0_, lvI x1_, lvI x0_, lvI (16 : Int32)] [(.int ((x0_.toUInt32 >>> ((16 : Int32) &&& 31).toUInt32).toInt32)), (.int x3_)] _
    refine XS.i2b X0.here hx rfl (hb hby d7_46) rfl ?_
    exact kt
  by_cases hc3 : x3_ = (((x0_.toUInt32 >>> ((16 : Int32) &&& 31).toUInt32).toInt32).toInt8.toInt32)
  · have pre4 : ∀ t, own_S p e below m s₁ 55 #[lvR o0_, lvI (1 : Int32), lvI (4 : Int32), lvI x0_, lvI x1_, lvI x0_, lvI (16 : Int32)] [(.int (1 : Int32))] t → G t := by
      intro t kt
      refine pre2 t ?_
      show own_S p e below m s₁ 47 #[lvR o0_, lvI (1 : Int32), lvI (4 : Int32), lvI x0_, lvI x1_, lvI x0_, lvI (16 : Int32)] [(.int (((x0_.toUInt32 >>> ((16 : Int32) &&& 31).toUInt32).toInt32).toInt8.toInt32)), (.int x3_)] _
      refine XS.icmpNo X0.here hx rfl (hb hby d7_47) rfl (teq hc3).2 ?_
      refine XS.iconst X0.here hx rfl (hb hby d7_50) ?_
      refine XS.goto X0.here hx rfl (pc0 := 51) (pc' := 55) rfl (hb hby d7_51) (by decide) (by decide) ?_
      exact kt
    obtain ⟨fs, hr, hrun, hended, hW, hsame⟩ := X0.leave (v := some (.int (1 : Int32))) (fun h => by rw [Bd.returns] at h; cases h)
    refine ⟨_, _, hG _ (pre4 _ (retN X0 hx (t := .boolean) Bd.returns (by simp) (hb hby d7_55) hr)), hrun, hended, _, _, rfl, ?_, ⟨_, rfl⟩, hW, hsame.mono (by decide) (by decide)⟩
    show Qkeeps46 Z o0_ x0_ x1_ ko0_ x2_ x3_ x4_ x5_ x6_ x7_ x8_ x9_ h0 n0 _ s₁.heap _
    rw [e0]
    exact ⟨(1 : Int32), rfl, (Or.inl ⟨rfl, hc3⟩), N0, rfl⟩
  · have pre6 : ∀ t, own_S p e below m s₁ 55 #[lvR o0_, lvI (1 : Int32), lvI (4 : Int32), lvI x0_, lvI x1_, lvI x0_, lvI (16 : Int32)] [(.int (0 : Int32))] t → G t := by
      intro t kt
      refine pre2 t ?_
      show own_S p e below m s₁ 47 #[lvR o0_, lvI (1 : Int32), lvI (4 : Int32), lvI x0_, lvI x1_, lvI x0_, lvI (16 : Int32)] [(.int (((x0_.toUInt32 >>> ((16 : Int32) &&& 31).toUInt32).toInt32).toInt8.toInt32)), (.int x3_)] _
      refine XS.icmpYes X0.here hx rfl (pc0 := 47) (pc' := 54) rfl (hb hby d7_47) rfl (feq hc3).2 (by decide) (by decide) ?_
      refine XS.iconst X0.here hx rfl (hb hby d7_54) ?_
      exact kt
    obtain ⟨fs, hr, hrun, hended, hW, hsame⟩ := X0.leave (v := some (.int (0 : Int32))) (fun h => by rw [Bd.returns] at h; cases h)
    refine ⟨_, _, hG _ (pre6 _ (retN X0 hx (t := .boolean) Bd.returns (by simp) (hb hby d7_55) hr)), hrun, hended, _, _, rfl, ?_, ⟨_, rfl⟩, hW, hsame.mono (by decide) (by decide)⟩
    show Qkeeps46 Z o0_ x0_ x1_ ko0_ x2_ x3_ x4_ x5_ x6_ x7_ x8_ x9_ h0 n0 _ s₁.heap _
    rw [e0]
    exact ⟨(0 : Int32), rfl, (Or.inr ⟨rfl, hc3⟩), N0, rfl⟩
theorem efkeeps47 (m : MethodId) (o0_ : Addr) (x0_ : Int32) (x1_ : Int32) : entryFrame m #[(.ref o0_), (.int (2 : Int32)), (.int (4 : Int32)), (.int x0_), (.int x1_)] 7 = mkF m 0 #[lvR o0_, lvI (2 : Int32), lvI (4 : Int32), lvI x0_, lvI x1_, .unset, .unset] [] := by first | (simp [entryFrame, mkF, argsToLocals, Value.category]; done) | rfl
def Qkeeps47 (Z : State) (o0_ : Addr) (x0_ : Int32) (x1_ : Int32) (ko0_ : ClassId) (x2_ : Int32) (x3_ : Int32) (x4_ : Int32) (x5_ : Int32) (x6_ : Int32) (x7_ : Int32) (x8_ : Int32) (x9_ : Int32) (h0 : Heap) (n0 : Nat) (v : Option Value) (h : Heap) (L : List Loc) : Prop := ∃ r_ : Int32, v = some (.int r_) ∧ (((1 : Int32) = r_ ∧ (x4_ = (((x0_.toUInt32 >>> ((8 : Int32) &&& 31).toUInt32).toInt32).toInt8.toInt32))) ∨ ((0 : Int32) = r_ ∧ (¬ (x4_ = (((x0_.toUInt32 >>> ((8 : Int32) &&& 31).toUInt32).toInt32).toInt8.toInt32))))) ∧ Fr n0 L ∧ h = h0
set_option maxRecDepth 65536 in
set_option maxHeartbeats 40000000 in
theorem rmkeeps47 (l : Launch) (Z : State) (a0 : Array Value) (hw : ∀ d ∈ tables_1, d.before a0 Z = true) (ws : List Jvm.Cond) (o0_ : Addr) (x0_ : Int32) (x1_ : Int32) (ko0_ : ClassId) (x2_ : Int32) (x3_ : Int32) (x4_ : Int32) (x5_ : Int32) (x6_ : Int32) (x7_ : Int32) (x8_ : Int32) (x9_ : Int32) (h0 : Heap) (n0 : Nat) (O0 : Old Z n0 h0) (P0 : Arv Z h0 o0_ ko0_ .byte (8 : Int32) [(.int x2_), (.int x3_), (.int x4_), (.int x5_), (.int x6_), (.int x7_), (.int x8_), (.int x9_)] (.int (0 : Int32))) (P1 : Exa Z h0 o0_ "[B") :
    MetFree l (⟨"com/example/stackweave/stackweave/classfile/ByteWriterU4AtPinLaw", "keeps", "([BIIII)Z"⟩ : MethodName) (head1 (Jvm.Cond.code (⟨"com/example/stackweave/stackweave/classfile/ByteWriterU4AtPinLaw", "keeps", "([BIIII)Z"⟩ : MethodName) method_3_code 7 (some .boolean) :: ws) ({ frames := 0, cells := 0, slots := 0, locals := 0 } : Room)) (fun a U => a = #[(.ref o0_), (.int (2 : Int32)), (.int (4 : Int32)), (.int x0_), (.int x1_)] ∧ Z.Warmed39 U.vm ∧ U.heap = h0) (fun _ _ _ _ _ => True) (fun _ U o U' => ∃ v L, o = .returned v ∧ Qkeeps47 Z o0_ x0_ x1_ ko0_ x2_ x3_ x4_ x5_ x6_ x7_ x8_ x9_ h0 n0 v U'.heap L ∧ FrameEnd U o U' L ({ frames := 0, cells := 0, slots := 0, locals := 0 } : Room).cells ({ frames := 0, cells := 0, slots := 0, locals := 0 } : Room).slots) := by
  refine MetFree.of_bodySF (plainFor_of_name pn_1) hisR ?_
  intro p e s m args below meth c s₁ Bd hml0 hP hK
  obtain ⟨rfl, hZ, hh⟩ := hP
  have hx := Bd.exec
  have hby := Bd.bytes
  have hml : c.maxLocals = 7 := hml0
  have hown : s.vm.findClass "com/example/stackweave/stackweave/classfile/ByteWriterU4AtPinLaw" = some m.cls := findClass_of_methodNamed Bd.named
  have hnm := (name_of_methodNamed Bd.named Bd.method).1
  have X0 : Stand p l e ({ frames := 0, cells := 0, slots := 0, locals := 0 } : Room) s m #[(.ref o0_), (.int (2 : Int32)), (.int (4 : Int32)), (.int x0_), (.int x1_)] below meth c s₁ [] 0 0 := Stand.of_body Bd
  have e0 : s₁.heap = h0 := by rw [← hh, Bd.state]; rfl
  have N0 := Fr.nil n0
  obtain ⟨G, pre0, hG⟩ : ∃ G : State → Prop, (∀ t, own_S p e below m s₁ 0 #[lvR o0_, lvI (2 : Int32), lvI (4 : Int32), lvI x0_, lvI x1_, .unset, .unset] [] t → G t) ∧ (∀ t, G t → Steps p.tables e below (s₁.setTop (entryFrame m #[(.ref o0_), (.int (2 : Int32)), (.int (4 : Int32)), (.int x0_), (.int x1_)] 7)) t) := ⟨fun t => Steps p.tables e below (s₁.setTop (entryFrame m #[(.ref o0_), (.int (2 : Int32)), (.int (4 : Int32)), (.int x0_), (.int x1_)] 7)) t, fun t k => castTop (efkeeps47 m o0_ x0_ x1_) k, fun _ k => k⟩
  have K0 : Keep h0 h0 [] := Keep.refl _ _
  obtain ⟨c1, r1, q1, s1, z1, y1, G1⟩ := id P0
  have hin1 : ¬ ((2 : Int32) < 0 ∨ c1.slots.size ≤ ((2 : Int32)).toNatClampNeg) := inb_of s1 ⟨by decide, by decide⟩
  have hat1 : c1.slots[((2 : Int32)).toNatClampNeg]? = some (.int x4_) := Has.at y1 hin1 rfl
  have pre2 : ∀ t, own_S p e below m s₁ 47 #[lvR o0_, lvI (2 : Int32), lvI (4 : Int32), lvI x0_, lvI x1_, lvI x0_, lvI (8 : Int32)] [(.int (((x0_.toUInt32 >>> ((8 : Int32) &&& 31).toUInt32).toInt32).toInt8.toInt32)), (.int x4_)] t → G t := by
    intro t kt
    refine pre0 t ?_
    show own_S p e below m s₁ 0 #[lvR o0_, lvI (2 : Int32), lvI (4 : Int32), lvI x0_, lvI x1_, .unset, .unset] [] _
    refine XS.iloadN X0.here hx rfl (hb hby d7_0) rfl ?_
    refine XS.iloadN X0.here hx rfl (hb hby d7_1) rfl ?_
    show own_S p e below m s₁ 2 #[lvR o0_, lvI (2 : Int32), lvI (4 : Int32), lvI x0_, lvI x1_, .unset, .unset] [(.int (4 : Int32)), (.int (2 : Int32))] _
    refine XS.icmpYes X0.here hx rfl (pc0 := 2) (pc' := 14) rfl (hb hby d7_2) rfl (tlt (by decide : (2 : Int32) < (4 : Int32))).1 (by decide) (by decide) ?_
    refine XS.iloadN X0.here hx rfl (hb hby d7_14) rfl ?_
    refine XS.iconst X0.here hx rfl (hb hby d7_15) ?_
    show own_S p e below m s₁ 16 #[lvR o0_, lvI (2 : Int32), lvI (4 : Int32), lvI x0_, lvI x1_, .unset, .unset] [(.int (4 : Int32)), (.int (2 : Int32))] _
    refine XS.icmpNo X0.here hx rfl (hb hby d7_16) rfl (tlt (by decide : (2 : Int32) < (4 : Int32))).2.1 ?_
    refine XS.iloadN X0.here hx rfl (hb hby d7_19) rfl ?_
    refine XS.goto X0.here hx rfl (pc0 := 20) (pc' := 25) rfl (hb hby d7_20) (by decide) (by decide) ?_
    refine XS.istore X0.here hx rfl (hb hby d7_25) rfl (l' := #[lvR o0_, lvI (2 : Int32), lvI (4 : Int32), lvI x0_, lvI x1_, lvI x0_, .unset]) rfl ?_
    show own_S p e below m s₁ 27 #[lvR o0_, lvI (2 : Int32), lvI (4 : Int32), lvI x0_, lvI x1_, lvI x0_, .unset] [] _
    refine XS.bipush X0.here hx rfl (hb hby d7_27) ?_
    refine XS.bipush X0.here hx rfl (hb hby d7_29) ?_
    refine XS.iloadN X0.here hx rfl (hb hby d7_31) rfl ?_
    refine XS.iconst X0.here hx rfl (hb hby d7_32) ?_
    show own_S p e below m s₁ 33 #[lvR o0_, lvI (2 : Int32), lvI (4 : Int32), lvI x0_, lvI x1_, lvI x0_, .unset] [(.int (3 : Int32)), (.int (2 : Int32)), (.int (8 : Int32)), (.int (24 : Int32))] _
    refine XS.iand X0.here hx rfl (hb hby d7_33) rfl ?_
    refine XS.imul X0.here hx rfl (hb hby d7_34) rfl ?_
    refine XS.isub X0.here hx rfl (hb hby d7_35) rfl ?_
    refine XS.istore X0.here hx rfl (hb hby d7_36) rfl (l' := #[lvR o0_, lvI (2 : Int32), lvI (4 : Int32), lvI x0_, lvI x1_, lvI x0_, lvI (8 : Int32)]) rfl ?_
    show own_S p e below m s₁ 38 #[lvR o0_, lvI (2 : Int32), lvI (4 : Int32), lvI x0_, lvI x1_, lvI x0_, lvI (8 : Int32)] [] _
    refine XS.aloadN X0.here hx rfl (hb hby d7_38) rfl rfl ?_
    refine XS.iloadN X0.here hx rfl (hb hby d7_39) rfl ?_
    show own_S p e below m s₁ 40 #[lvR o0_, lvI (2 : Int32), lvI (4 : Int32), lvI x0_, lvI x1_, lvI x0_, lvI (8 : Int32)] [(.int (2 : Int32)), (.ref o0_)] _
    refine X0.baloadBytes hx (j := (2 : Int32)) (v := (.int x4_)) (by rw [e0]; exact r1.1) (State.isArrayOf_alike hZ.alike r1.2.1) r1.2.2 hin1 hat1 (g := (mkF m 40 #[lvR o0_, lvI (2 : Int32), lvI (4 : Int32), lvI x0_, lvI x1_, lvI x0_, lvI (8 : Int32)] [(.int (2 : Int32)), (.ref o0_)])) rfl rfl (hb hby d7_40) _ ?_
    refine XS.iload X0.here hx rfl (hb hby d7_41) rfl ?_
    refine XS.iload X0.here hx rfl (hb hby d7_43) rfl ?_
    show own_S p e below m s₁ 45 #[lvR o0_, lvI (2 : Int32), lvI (4 : Int32), lvI x0_, lvI x1_, lvI x0_, lvI (8 : Int32)] [(.int (8 : Int32)), (.int x0_), (.int x4_)] _
    refine XS.iushr X0.here hx rfl (hb hby d7_45) rfl ?_
    show own_S p e below m s₁ 46 #[lvR o0_, lvI (2 : Int32), lvI (4 : Int32), lvI x0_, lvI x1_, lvI x0_, lvI (8 : Int32)] [(.int ((x0_.toUInt32 >>> ((8 : Int32) &&& 31).toUInt32).toInt32)), (.int x4_)] _
    refine XS.i2b X0.here hx rfl (hb hby d7_46) rfl ?_
    exact kt
  by_cases hc3 : x4_ = (((x0_.toUInt32 >>> ((8 : Int32) &&& 31).toUInt32).toInt32).toInt8.toInt32)
  · have pre4 : ∀ t, own_S p e below m s₁ 55 #[lvR o0_, lvI (2 : Int32), lvI (4 : Int32), lvI x0_, lvI x1_, lvI x0_, lvI (8 : Int32)] [(.int (1 : Int32))] t → G t := by
      intro t kt
      refine pre2 t ?_
      show own_S p e below m s₁ 47 #[lvR o0_, lvI (2 : Int32), lvI (4 : Int32), lvI x0_, lvI x1_, lvI x0_, lvI (8 : Int32)] [(.int (((x0_.toUInt32 >>> ((8 : Int32) &&& 31).toUInt32).toInt32).toInt8.toInt32)), (.int x4_)] _
      refine XS.icmpNo X0.here hx rfl (hb hby d7_47) rfl (teq hc3).2 ?_
      refine XS.iconst X0.here hx rfl (hb hby d7_50) ?_
      refine XS.goto X0.here hx rfl (pc0 := 51) (pc' := 55) rfl (hb hby d7_51) (by decide) (by decide) ?_
      exact kt
    obtain ⟨fs, hr, hrun, hended, hW, hsame⟩ := X0.leave (v := some (.int (1 : Int32))) (fun h => by rw [Bd.returns] at h; cases h)
    refine ⟨_, _, hG _ (pre4 _ (retN X0 hx (t := .boolean) Bd.returns (by simp) (hb hby d7_55) hr)), hrun, hended, _, _, rfl, ?_, ⟨_, rfl⟩, hW, hsame.mono (by decide) (by decide)⟩
    show Qkeeps47 Z o0_ x0_ x1_ ko0_ x2_ x3_ x4_ x5_ x6_ x7_ x8_ x9_ h0 n0 _ s₁.heap _
    rw [e0]
    exact ⟨(1 : Int32), rfl, (Or.inl ⟨rfl, hc3⟩), N0, rfl⟩
  · have pre6 : ∀ t, own_S p e below m s₁ 55 #[lvR o0_, lvI (2 : Int32), lvI (4 : Int32), lvI x0_, lvI x1_, lvI x0_, lvI (8 : Int32)] [(.int (0 : Int32))] t → G t := by
      intro t kt
      refine pre2 t ?_
      show own_S p e below m s₁ 47 #[lvR o0_, lvI (2 : Int32), lvI (4 : Int32), lvI x0_, lvI x1_, lvI x0_, lvI (8 : Int32)] [(.int (((x0_.toUInt32 >>> ((8 : Int32) &&& 31).toUInt32).toInt32).toInt8.toInt32)), (.int x4_)] _
      refine XS.icmpYes X0.here hx rfl (pc0 := 47) (pc' := 54) rfl (hb hby d7_47) rfl (feq hc3).2 (by decide) (by decide) ?_
      refine XS.iconst X0.here hx rfl (hb hby d7_54) ?_
      exact kt
    obtain ⟨fs, hr, hrun, hended, hW, hsame⟩ := X0.leave (v := some (.int (0 : Int32))) (fun h => by rw [Bd.returns] at h; cases h)
    refine ⟨_, _, hG _ (pre6 _ (retN X0 hx (t := .boolean) Bd.returns (by simp) (hb hby d7_55) hr)), hrun, hended, _, _, rfl, ?_, ⟨_, rfl⟩, hW, hsame.mono (by decide) (by decide)⟩
    show Qkeeps47 Z o0_ x0_ x1_ ko0_ x2_ x3_ x4_ x5_ x6_ x7_ x8_ x9_ h0 n0 _ s₁.heap _
    rw [e0]
    exact ⟨(0 : Int32), rfl, (Or.inr ⟨rfl, hc3⟩), N0, rfl⟩
theorem efkeeps48 (m : MethodId) (o0_ : Addr) (x0_ : Int32) (x1_ : Int32) : entryFrame m #[(.ref o0_), (.int (3 : Int32)), (.int (4 : Int32)), (.int x0_), (.int x1_)] 7 = mkF m 0 #[lvR o0_, lvI (3 : Int32), lvI (4 : Int32), lvI x0_, lvI x1_, .unset, .unset] [] := by first | (simp [entryFrame, mkF, argsToLocals, Value.category]; done) | rfl
def Qkeeps48 (Z : State) (o0_ : Addr) (x0_ : Int32) (x1_ : Int32) (ko0_ : ClassId) (x2_ : Int32) (x3_ : Int32) (x4_ : Int32) (x5_ : Int32) (x6_ : Int32) (x7_ : Int32) (x8_ : Int32) (x9_ : Int32) (h0 : Heap) (n0 : Nat) (v : Option Value) (h : Heap) (L : List Loc) : Prop := ∃ r_ : Int32, v = some (.int r_) ∧ (((1 : Int32) = r_ ∧ (x5_ = (((x0_.toUInt32 >>> ((0 : Int32) &&& 31).toUInt32).toInt32).toInt8.toInt32))) ∨ ((0 : Int32) = r_ ∧ (¬ (x5_ = (((x0_.toUInt32 >>> ((0 : Int32) &&& 31).toUInt32).toInt32).toInt8.toInt32))))) ∧ Fr n0 L ∧ h = h0
set_option maxRecDepth 65536 in
set_option maxHeartbeats 40000000 in
theorem rmkeeps48 (l : Launch) (Z : State) (a0 : Array Value) (hw : ∀ d ∈ tables_1, d.before a0 Z = true) (ws : List Jvm.Cond) (o0_ : Addr) (x0_ : Int32) (x1_ : Int32) (ko0_ : ClassId) (x2_ : Int32) (x3_ : Int32) (x4_ : Int32) (x5_ : Int32) (x6_ : Int32) (x7_ : Int32) (x8_ : Int32) (x9_ : Int32) (h0 : Heap) (n0 : Nat) (O0 : Old Z n0 h0) (P0 : Arv Z h0 o0_ ko0_ .byte (8 : Int32) [(.int x2_), (.int x3_), (.int x4_), (.int x5_), (.int x6_), (.int x7_), (.int x8_), (.int x9_)] (.int (0 : Int32))) (P1 : Exa Z h0 o0_ "[B") :
    MetFree l (⟨"com/example/stackweave/stackweave/classfile/ByteWriterU4AtPinLaw", "keeps", "([BIIII)Z"⟩ : MethodName) (head1 (Jvm.Cond.code (⟨"com/example/stackweave/stackweave/classfile/ByteWriterU4AtPinLaw", "keeps", "([BIIII)Z"⟩ : MethodName) method_3_code 7 (some .boolean) :: ws) ({ frames := 0, cells := 0, slots := 0, locals := 0 } : Room)) (fun a U => a = #[(.ref o0_), (.int (3 : Int32)), (.int (4 : Int32)), (.int x0_), (.int x1_)] ∧ Z.Warmed39 U.vm ∧ U.heap = h0) (fun _ _ _ _ _ => True) (fun _ U o U' => ∃ v L, o = .returned v ∧ Qkeeps48 Z o0_ x0_ x1_ ko0_ x2_ x3_ x4_ x5_ x6_ x7_ x8_ x9_ h0 n0 v U'.heap L ∧ FrameEnd U o U' L ({ frames := 0, cells := 0, slots := 0, locals := 0 } : Room).cells ({ frames := 0, cells := 0, slots := 0, locals := 0 } : Room).slots) := by
  refine MetFree.of_bodySF (plainFor_of_name pn_1) hisR ?_
  intro p e s m args below meth c s₁ Bd hml0 hP hK
  obtain ⟨rfl, hZ, hh⟩ := hP
  have hx := Bd.exec
  have hby := Bd.bytes
  have hml : c.maxLocals = 7 := hml0
  have hown : s.vm.findClass "com/example/stackweave/stackweave/classfile/ByteWriterU4AtPinLaw" = some m.cls := findClass_of_methodNamed Bd.named
  have hnm := (name_of_methodNamed Bd.named Bd.method).1
  have X0 : Stand p l e ({ frames := 0, cells := 0, slots := 0, locals := 0 } : Room) s m #[(.ref o0_), (.int (3 : Int32)), (.int (4 : Int32)), (.int x0_), (.int x1_)] below meth c s₁ [] 0 0 := Stand.of_body Bd
  have e0 : s₁.heap = h0 := by rw [← hh, Bd.state]; rfl
  have N0 := Fr.nil n0
  obtain ⟨G, pre0, hG⟩ : ∃ G : State → Prop, (∀ t, own_S p e below m s₁ 0 #[lvR o0_, lvI (3 : Int32), lvI (4 : Int32), lvI x0_, lvI x1_, .unset, .unset] [] t → G t) ∧ (∀ t, G t → Steps p.tables e below (s₁.setTop (entryFrame m #[(.ref o0_), (.int (3 : Int32)), (.int (4 : Int32)), (.int x0_), (.int x1_)] 7)) t) := ⟨fun t => Steps p.tables e below (s₁.setTop (entryFrame m #[(.ref o0_), (.int (3 : Int32)), (.int (4 : Int32)), (.int x0_), (.int x1_)] 7)) t, fun t k => castTop (efkeeps48 m o0_ x0_ x1_) k, fun _ k => k⟩
  have K0 : Keep h0 h0 [] := Keep.refl _ _
  obtain ⟨c1, r1, q1, s1, z1, y1, G1⟩ := id P0
  have hin1 : ¬ ((3 : Int32) < 0 ∨ c1.slots.size ≤ ((3 : Int32)).toNatClampNeg) := inb_of s1 ⟨by decide, by decide⟩
  have hat1 : c1.slots[((3 : Int32)).toNatClampNeg]? = some (.int x5_) := Has.at y1 hin1 rfl
  have pre2 : ∀ t, own_S p e below m s₁ 47 #[lvR o0_, lvI (3 : Int32), lvI (4 : Int32), lvI x0_, lvI x1_, lvI x0_, lvI (0 : Int32)] [(.int (((x0_.toUInt32 >>> ((0 : Int32) &&& 31).toUInt32).toInt32).toInt8.toInt32)), (.int x5_)] t → G t := by
    intro t kt
    refine pre0 t ?_
    show own_S p e below m s₁ 0 #[lvR o0_, lvI (3 : Int32), lvI (4 : Int32), lvI x0_, lvI x1_, .unset, .unset] [] _
    refine XS.iloadN X0.here hx rfl (hb hby d7_0) rfl ?_
    refine XS.iloadN X0.here hx rfl (hb hby d7_1) rfl ?_
    show own_S p e below m s₁ 2 #[lvR o0_, lvI (3 : Int32), lvI (4 : Int32), lvI x0_, lvI x1_, .unset, .unset] [(.int (4 : Int32)), (.int (3 : Int32))] _
    refine XS.icmpYes X0.here hx rfl (pc0 := 2) (pc' := 14) rfl (hb hby d7_2) rfl (tlt (by decide : (3 : Int32) < (4 : Int32))).1 (by decide) (by decide) ?_
    refine XS.iloadN X0.here hx rfl (hb hby d7_14) rfl ?_
    refine XS.iconst X0.here hx rfl (hb hby d7_15) ?_
    show own_S p e below m s₁ 16 #[lvR o0_, lvI (3 : Int32), lvI (4 : Int32), lvI x0_, lvI x1_, .unset, .unset] [(.int (4 : Int32)), (.int (3 : Int32))] _
    refine XS.icmpNo X0.here hx rfl (hb hby d7_16) rfl (tlt (by decide : (3 : Int32) < (4 : Int32))).2.1 ?_
    refine XS.iloadN X0.here hx rfl (hb hby d7_19) rfl ?_
    refine XS.goto X0.here hx rfl (pc0 := 20) (pc' := 25) rfl (hb hby d7_20) (by decide) (by decide) ?_
    refine XS.istore X0.here hx rfl (hb hby d7_25) rfl (l' := #[lvR o0_, lvI (3 : Int32), lvI (4 : Int32), lvI x0_, lvI x1_, lvI x0_, .unset]) rfl ?_
    show own_S p e below m s₁ 27 #[lvR o0_, lvI (3 : Int32), lvI (4 : Int32), lvI x0_, lvI x1_, lvI x0_, .unset] [] _
    refine XS.bipush X0.here hx rfl (hb hby d7_27) ?_
    refine XS.bipush X0.here hx rfl (hb hby d7_29) ?_
    refine XS.iloadN X0.here hx rfl (hb hby d7_31) rfl ?_
    refine XS.iconst X0.here hx rfl (hb hby d7_32) ?_
    show own_S p e below m s₁ 33 #[lvR o0_, lvI (3 : Int32), lvI (4 : Int32), lvI x0_, lvI x1_, lvI x0_, .unset] [(.int (3 : Int32)), (.int (3 : Int32)), (.int (8 : Int32)), (.int (24 : Int32))] _
    refine XS.iand X0.here hx rfl (hb hby d7_33) rfl ?_
    refine XS.imul X0.here hx rfl (hb hby d7_34) rfl ?_
    refine XS.isub X0.here hx rfl (hb hby d7_35) rfl ?_
    refine XS.istore X0.here hx rfl (hb hby d7_36) rfl (l' := #[lvR o0_, lvI (3 : Int32), lvI (4 : Int32), lvI x0_, lvI x1_, lvI x0_, lvI (0 : Int32)]) rfl ?_
    show own_S p e below m s₁ 38 #[lvR o0_, lvI (3 : Int32), lvI (4 : Int32), lvI x0_, lvI x1_, lvI x0_, lvI (0 : Int32)] [] _
    refine XS.aloadN X0.here hx rfl (hb hby d7_38) rfl rfl ?_
    refine XS.iloadN X0.here hx rfl (hb hby d7_39) rfl ?_
    show own_S p e below m s₁ 40 #[lvR o0_, lvI (3 : Int32), lvI (4 : Int32), lvI x0_, lvI x1_, lvI x0_, lvI (0 : Int32)] [(.int (3 : Int32)), (.ref o0_)] _
    refine X0.baloadBytes hx (j := (3 : Int32)) (v := (.int x5_)) (by rw [e0]; exact r1.1) (State.isArrayOf_alike hZ.alike r1.2.1) r1.2.2 hin1 hat1 (g := (mkF m 40 #[lvR o0_, lvI (3 : Int32), lvI (4 : Int32), lvI x0_, lvI x1_, lvI x0_, lvI (0 : Int32)] [(.int (3 : Int32)), (.ref o0_)])) rfl rfl (hb hby d7_40) _ ?_
    refine XS.iload X0.here hx rfl (hb hby d7_41) rfl ?_
    refine XS.iload X0.here hx rfl (hb hby d7_43) rfl ?_
    show own_S p e below m s₁ 45 #[lvR o0_, lvI (3 : Int32), lvI (4 : Int32), lvI x0_, lvI x1_, lvI x0_, lvI (0 : Int32)] [(.int (0 : Int32)), (.int x0_), (.int x5_)] _
    refine XS.iushr X0.here hx rfl (hb hby d7_45) rfl ?_
    show own_S p e below m s₁ 46 #[lvR o0_, lvI (3 : Int32), lvI (4 : Int32), lvI x0_, lvI x1_, lvI x0_, lvI (0 : Int32)] [(.int ((x0_.toUInt32 >>> ((0 : Int32) &&& 31).toUInt32).toInt32)), (.int x5_)] _
    refine XS.i2b X0.here hx rfl (hb hby d7_46) rfl ?_
    exact kt
  by_cases hc3 : x5_ = (((x0_.toUInt32 >>> ((0 : Int32) &&& 31).toUInt32).toInt32).toInt8.toInt32)
  · have pre4 : ∀ t, own_S p e below m s₁ 55 #[lvR o0_, lvI (3 : Int32), lvI (4 : Int32), lvI x0_, lvI x1_, lvI x0_, lvI (0 : Int32)] [(.int (1 : Int32))] t → G t := by
      intro t kt
      refine pre2 t ?_
      show own_S p e below m s₁ 47 #[lvR o0_, lvI (3 : Int32), lvI (4 : Int32), lvI x0_, lvI x1_, lvI x0_, lvI (0 : Int32)] [(.int (((x0_.toUInt32 >>> ((0 : Int32) &&& 31).toUInt32).toInt32).toInt8.toInt32)), (.int x5_)] _
      refine XS.icmpNo X0.here hx rfl (hb hby d7_47) rfl (teq hc3).2 ?_
      refine XS.iconst X0.here hx rfl (hb hby d7_50) ?_
      refine XS.goto X0.here hx rfl (pc0 := 51) (pc' := 55) rfl (hb hby d7_51) (by decide) (by decide) ?_
      exact kt
    obtain ⟨fs, hr, hrun, hended, hW, hsame⟩ := X0.leave (v := some (.int (1 : Int32))) (fun h => by rw [Bd.returns] at h; cases h)
    refine ⟨_, _, hG _ (pre4 _ (retN X0 hx (t := .boolean) Bd.returns (by simp) (hb hby d7_55) hr)), hrun, hended, _, _, rfl, ?_, ⟨_, rfl⟩, hW, hsame.mono (by decide) (by decide)⟩
    show Qkeeps48 Z o0_ x0_ x1_ ko0_ x2_ x3_ x4_ x5_ x6_ x7_ x8_ x9_ h0 n0 _ s₁.heap _
    rw [e0]
    exact ⟨(1 : Int32), rfl, (Or.inl ⟨rfl, hc3⟩), N0, rfl⟩
  · have pre6 : ∀ t, own_S p e below m s₁ 55 #[lvR o0_, lvI (3 : Int32), lvI (4 : Int32), lvI x0_, lvI x1_, lvI x0_, lvI (0 : Int32)] [(.int (0 : Int32))] t → G t := by
      intro t kt
      refine pre2 t ?_
      show own_S p e below m s₁ 47 #[lvR o0_, lvI (3 : Int32), lvI (4 : Int32), lvI x0_, lvI x1_, lvI x0_, lvI (0 : Int32)] [(.int (((x0_.toUInt32 >>> ((0 : Int32) &&& 31).toUInt32).toInt32).toInt8.toInt32)), (.int x5_)] _
      refine XS.icmpYes X0.here hx rfl (pc0 := 47) (pc' := 54) rfl (hb hby d7_47) rfl (feq hc3).2 (by decide) (by decide) ?_
      refine XS.iconst X0.here hx rfl (hb hby d7_54) ?_
      exact kt
    obtain ⟨fs, hr, hrun, hended, hW, hsame⟩ := X0.leave (v := some (.int (0 : Int32))) (fun h => by rw [Bd.returns] at h; cases h)
    refine ⟨_, _, hG _ (pre6 _ (retN X0 hx (t := .boolean) Bd.returns (by simp) (hb hby d7_55) hr)), hrun, hended, _, _, rfl, ?_, ⟨_, rfl⟩, hW, hsame.mono (by decide) (by decide)⟩
    show Qkeeps48 Z o0_ x0_ x1_ ko0_ x2_ x3_ x4_ x5_ x6_ x7_ x8_ x9_ h0 n0 _ s₁.heap _
    rw [e0]
    exact ⟨(0 : Int32), rfl, (Or.inr ⟨rfl, hc3⟩), N0, rfl⟩
theorem efkeeps49 (m : MethodId) (o0_ : Addr) (x0_ : Int32) (x1_ : Int32) : entryFrame m #[(.ref o0_), (.int (4 : Int32)), (.int (4 : Int32)), (.int x0_), (.int x1_)] 7 = mkF m 0 #[lvR o0_, lvI (4 : Int32), lvI (4 : Int32), lvI x0_, lvI x1_, .unset, .unset] [] := by first | (simp [entryFrame, mkF, argsToLocals, Value.category]; done) | rfl
def Qkeeps49 (Z : State) (o0_ : Addr) (x0_ : Int32) (x1_ : Int32) (ko0_ : ClassId) (x2_ : Int32) (x3_ : Int32) (x4_ : Int32) (x5_ : Int32) (x6_ : Int32) (x7_ : Int32) (x8_ : Int32) (x9_ : Int32) (h0 : Heap) (n0 : Nat) (v : Option Value) (h : Heap) (L : List Loc) : Prop := v = some (.int (1 : Int32)) ∧ Fr n0 L ∧ h = h0
set_option maxRecDepth 65536 in
set_option maxHeartbeats 40000000 in
theorem rmkeeps49 (l : Launch) (Z : State) (a0 : Array Value) (hw : ∀ d ∈ tables_1, d.before a0 Z = true) (ws : List Jvm.Cond) (o0_ : Addr) (x0_ : Int32) (x1_ : Int32) (ko0_ : ClassId) (x2_ : Int32) (x3_ : Int32) (x4_ : Int32) (x5_ : Int32) (x6_ : Int32) (x7_ : Int32) (x8_ : Int32) (x9_ : Int32) (h0 : Heap) (n0 : Nat) (O0 : Old Z n0 h0) (P0 : Arv Z h0 o0_ ko0_ .byte (8 : Int32) [(.int x2_), (.int x3_), (.int x4_), (.int x5_), (.int x6_), (.int x7_), (.int x8_), (.int x9_)] (.int (0 : Int32))) (P1 : Exa Z h0 o0_ "[B") :
    MetFree l (⟨"com/example/stackweave/stackweave/classfile/ByteWriterU4AtPinLaw", "keeps", "([BIIII)Z"⟩ : MethodName) (head1 (Jvm.Cond.code (⟨"com/example/stackweave/stackweave/classfile/ByteWriterU4AtPinLaw", "keeps", "([BIIII)Z"⟩ : MethodName) method_3_code 7 (some .boolean) :: ws) ({ frames := 0, cells := 0, slots := 0, locals := 0 } : Room)) (fun a U => a = #[(.ref o0_), (.int (4 : Int32)), (.int (4 : Int32)), (.int x0_), (.int x1_)] ∧ Z.Warmed39 U.vm ∧ U.heap = h0) (fun _ _ _ _ _ => True) (fun _ U o U' => ∃ v L, o = .returned v ∧ Qkeeps49 Z o0_ x0_ x1_ ko0_ x2_ x3_ x4_ x5_ x6_ x7_ x8_ x9_ h0 n0 v U'.heap L ∧ FrameEnd U o U' L ({ frames := 0, cells := 0, slots := 0, locals := 0 } : Room).cells ({ frames := 0, cells := 0, slots := 0, locals := 0 } : Room).slots) := by
  refine MetFree.of_bodySF (plainFor_of_name pn_1) hisR ?_
  intro p e s m args below meth c s₁ Bd hml0 hP hK
  obtain ⟨rfl, hZ, hh⟩ := hP
  have hx := Bd.exec
  have hby := Bd.bytes
  have hml : c.maxLocals = 7 := hml0
  have hown : s.vm.findClass "com/example/stackweave/stackweave/classfile/ByteWriterU4AtPinLaw" = some m.cls := findClass_of_methodNamed Bd.named
  have hnm := (name_of_methodNamed Bd.named Bd.method).1
  have X0 : Stand p l e ({ frames := 0, cells := 0, slots := 0, locals := 0 } : Room) s m #[(.ref o0_), (.int (4 : Int32)), (.int (4 : Int32)), (.int x0_), (.int x1_)] below meth c s₁ [] 0 0 := Stand.of_body Bd
  have e0 : s₁.heap = h0 := by rw [← hh, Bd.state]; rfl
  have N0 := Fr.nil n0
  obtain ⟨G, pre0, hG⟩ : ∃ G : State → Prop, (∀ t, own_S p e below m s₁ 0 #[lvR o0_, lvI (4 : Int32), lvI (4 : Int32), lvI x0_, lvI x1_, .unset, .unset] [] t → G t) ∧ (∀ t, G t → Steps p.tables e below (s₁.setTop (entryFrame m #[(.ref o0_), (.int (4 : Int32)), (.int (4 : Int32)), (.int x0_), (.int x1_)] 7)) t) := ⟨fun t => Steps p.tables e below (s₁.setTop (entryFrame m #[(.ref o0_), (.int (4 : Int32)), (.int (4 : Int32)), (.int x0_), (.int x1_)] 7)) t, fun t k => castTop (efkeeps49 m o0_ x0_ x1_) k, fun _ k => k⟩
  have K0 : Keep h0 h0 [] := Keep.refl _ _
  have pre1 : ∀ t, own_S p e below m s₁ 13 #[lvR o0_, lvI (4 : Int32), lvI (4 : Int32), lvI x0_, lvI x1_, .unset, .unset] [(.int (1 : Int32))] t → G t := by
    intro t kt
    refine pre0 t ?_
    show own_S p e below m s₁ 0 #[lvR o0_, lvI (4 : Int32), lvI (4 : Int32), lvI x0_, lvI x1_, .unset, .unset] [] _
    refine XS.iloadN X0.here hx rfl (hb hby d7_0) rfl ?_
    refine XS.iloadN X0.here hx rfl (hb hby d7_1) rfl ?_
    show own_S p e below m s₁ 2 #[lvR o0_, lvI (4 : Int32), lvI (4 : Int32), lvI x0_, lvI x1_, .unset, .unset] [(.int (4 : Int32)), (.int (4 : Int32))] _
    refine XS.icmpNo X0.here hx rfl (hb hby d7_2) rfl (flt (by decide : ¬ ((4 : Int32) < (4 : Int32)))).1 ?_
    refine XS.iloadN X0.here hx rfl (hb hby d7_5) rfl ?_
    refine XS.iloadN X0.here hx rfl (hb hby d7_6) rfl ?_
    refine XS.iconst X0.here hx rfl (hb hby d7_7) ?_
    show own_S p e below m s₁ 8 #[lvR o0_, lvI (4 : Int32), lvI (4 : Int32), lvI x0_, lvI x1_, .unset, .unset] [(.int (4 : Int32)), (.int (4 : Int32)), (.int (4 : Int32))] _
    refine XS.iadd X0.here hx rfl (hb hby d7_8) rfl ?_
    show own_S p e below m s₁ 9 #[lvR o0_, lvI (4 : Int32), lvI (4 : Int32), lvI x0_, lvI x1_, .unset, .unset] [(.int (8 : Int32)), (.int (4 : Int32))] _
    refine XS.icmpNo X0.here hx rfl (hb hby d7_9) rfl (tlt (by decide : (4 : Int32) < (8 : Int32))).2.1 ?_
    refine XS.iconst X0.here hx rfl (hb hby d7_12) ?_
    exact kt
  obtain ⟨fs, hr, hrun, hended, hW, hsame⟩ := X0.leave (v := some (.int (1 : Int32))) (fun h => by rw [Bd.returns] at h; cases h)
  refine ⟨_, _, hG _ (pre1 _ (retN X0 hx (t := .boolean) Bd.returns (by simp) (hb hby d7_13) hr)), hrun, hended, _, _, rfl, ?_, ⟨_, rfl⟩, hW, hsame.mono (by decide) (by decide)⟩
  show Qkeeps49 Z o0_ x0_ x1_ ko0_ x2_ x3_ x4_ x5_ x6_ x7_ x8_ x9_ h0 n0 _ s₁.heap _
  rw [e0]
  exact ⟨rfl, N0, rfl⟩
theorem efkeeps50 (m : MethodId) (o0_ : Addr) (x0_ : Int32) (x1_ : Int32) : entryFrame m #[(.ref o0_), (.int (5 : Int32)), (.int (4 : Int32)), (.int x0_), (.int x1_)] 7 = mkF m 0 #[lvR o0_, lvI (5 : Int32), lvI (4 : Int32), lvI x0_, lvI x1_, .unset, .unset] [] := by first | (simp [entryFrame, mkF, argsToLocals, Value.category]; done) | rfl
def Qkeeps50 (Z : State) (o0_ : Addr) (x0_ : Int32) (x1_ : Int32) (ko0_ : ClassId) (x2_ : Int32) (x3_ : Int32) (x4_ : Int32) (x5_ : Int32) (x6_ : Int32) (x7_ : Int32) (x8_ : Int32) (x9_ : Int32) (h0 : Heap) (n0 : Nat) (v : Option Value) (h : Heap) (L : List Loc) : Prop := v = some (.int (1 : Int32)) ∧ Fr n0 L ∧ h = h0
set_option maxRecDepth 65536 in
set_option maxHeartbeats 40000000 in
theorem rmkeeps50 (l : Launch) (Z : State) (a0 : Array Value) (hw : ∀ d ∈ tables_1, d.before a0 Z = true) (ws : List Jvm.Cond) (o0_ : Addr) (x0_ : Int32) (x1_ : Int32) (ko0_ : ClassId) (x2_ : Int32) (x3_ : Int32) (x4_ : Int32) (x5_ : Int32) (x6_ : Int32) (x7_ : Int32) (x8_ : Int32) (x9_ : Int32) (h0 : Heap) (n0 : Nat) (O0 : Old Z n0 h0) (P0 : Arv Z h0 o0_ ko0_ .byte (8 : Int32) [(.int x2_), (.int x3_), (.int x4_), (.int x5_), (.int x6_), (.int x7_), (.int x8_), (.int x9_)] (.int (0 : Int32))) (P1 : Exa Z h0 o0_ "[B") :
    MetFree l (⟨"com/example/stackweave/stackweave/classfile/ByteWriterU4AtPinLaw", "keeps", "([BIIII)Z"⟩ : MethodName) (head1 (Jvm.Cond.code (⟨"com/example/stackweave/stackweave/classfile/ByteWriterU4AtPinLaw", "keeps", "([BIIII)Z"⟩ : MethodName) method_3_code 7 (some .boolean) :: ws) ({ frames := 0, cells := 0, slots := 0, locals := 0 } : Room)) (fun a U => a = #[(.ref o0_), (.int (5 : Int32)), (.int (4 : Int32)), (.int x0_), (.int x1_)] ∧ Z.Warmed39 U.vm ∧ U.heap = h0) (fun _ _ _ _ _ => True) (fun _ U o U' => ∃ v L, o = .returned v ∧ Qkeeps50 Z o0_ x0_ x1_ ko0_ x2_ x3_ x4_ x5_ x6_ x7_ x8_ x9_ h0 n0 v U'.heap L ∧ FrameEnd U o U' L ({ frames := 0, cells := 0, slots := 0, locals := 0 } : Room).cells ({ frames := 0, cells := 0, slots := 0, locals := 0 } : Room).slots) := by
  refine MetFree.of_bodySF (plainFor_of_name pn_1) hisR ?_
  intro p e s m args below meth c s₁ Bd hml0 hP hK
  obtain ⟨rfl, hZ, hh⟩ := hP
  have hx := Bd.exec
  have hby := Bd.bytes
  have hml : c.maxLocals = 7 := hml0
  have hown : s.vm.findClass "com/example/stackweave/stackweave/classfile/ByteWriterU4AtPinLaw" = some m.cls := findClass_of_methodNamed Bd.named
  have hnm := (name_of_methodNamed Bd.named Bd.method).1
  have X0 : Stand p l e ({ frames := 0, cells := 0, slots := 0, locals := 0 } : Room) s m #[(.ref o0_), (.int (5 : Int32)), (.int (4 : Int32)), (.int x0_), (.int x1_)] below meth c s₁ [] 0 0 := Stand.of_body Bd
  have e0 : s₁.heap = h0 := by rw [← hh, Bd.state]; rfl
  have N0 := Fr.nil n0
  obtain ⟨G, pre0, hG⟩ : ∃ G : State → Prop, (∀ t, own_S p e below m s₁ 0 #[lvR o0_, lvI (5 : Int32), lvI (4 : Int32), lvI x0_, lvI x1_, .unset, .unset] [] t → G t) ∧ (∀ t, G t → Steps p.tables e below (s₁.setTop (entryFrame m #[(.ref o0_), (.int (5 : Int32)), (.int (4 : Int32)), (.int x0_), (.int x1_)] 7)) t) := ⟨fun t => Steps p.tables e below (s₁.setTop (entryFrame m #[(.ref o0_), (.int (5 : Int32)), (.int (4 : Int32)), (.int x0_), (.int x1_)] 7)) t, fun t k => castTop (efkeeps50 m o0_ x0_ x1_) k, fun _ k => k⟩
  have K0 : Keep h0 h0 [] := Keep.refl _ _
  have pre1 : ∀ t, own_S p e below m s₁ 13 #[lvR o0_, lvI (5 : Int32), lvI (4 : Int32), lvI x0_, lvI x1_, .unset, .unset] [(.int (1 : Int32))] t → G t := by
    intro t kt
    refine pre0 t ?_
    show own_S p e below m s₁ 0 #[lvR o0_, lvI (5 : Int32), lvI (4 : Int32), lvI x0_, lvI x1_, .unset, .unset] [] _
    refine XS.iloadN X0.here hx rfl (hb hby d7_0) rfl ?_
    refine XS.iloadN X0.here hx rfl (hb hby d7_1) rfl ?_
    show own_S p e below m s₁ 2 #[lvR o0_, lvI (5 : Int32), lvI (4 : Int32), lvI x0_, lvI x1_, .unset, .unset] [(.int (4 : Int32)), (.int (5 : Int32))] _
    refine XS.icmpNo X0.here hx rfl (hb hby d7_2) rfl (flt (by decide : ¬ ((5 : Int32) < (4 : Int32)))).1 ?_
    refine XS.iloadN X0.here hx rfl (hb hby d7_5) rfl ?_
    refine XS.iloadN X0.here hx rfl (hb hby d7_6) rfl ?_
    refine XS.iconst X0.here hx rfl (hb hby d7_7) ?_
    show own_S p e below m s₁ 8 #[lvR o0_, lvI (5 : Int32), lvI (4 : Int32), lvI x0_, lvI x1_, .unset, .unset] [(.int (4 : Int32)), (.int (4 : Int32)), (.int (5 : Int32))] _
    refine XS.iadd X0.here hx rfl (hb hby d7_8) rfl ?_
    show own_S p e below m s₁ 9 #[lvR o0_, lvI (5 : Int32), lvI (4 : Int32), lvI x0_, lvI x1_, .unset, .unset] [(.int (8 : Int32)), (.int (5 : Int32))] _
    refine XS.icmpNo X0.here hx rfl (hb hby d7_9) rfl (tlt (by decide : (5 : Int32) < (8 : Int32))).2.1 ?_
    refine XS.iconst X0.here hx rfl (hb hby d7_12) ?_
    exact kt
  obtain ⟨fs, hr, hrun, hended, hW, hsame⟩ := X0.leave (v := some (.int (1 : Int32))) (fun h => by rw [Bd.returns] at h; cases h)
  refine ⟨_, _, hG _ (pre1 _ (retN X0 hx (t := .boolean) Bd.returns (by simp) (hb hby d7_13) hr)), hrun, hended, _, _, rfl, ?_, ⟨_, rfl⟩, hW, hsame.mono (by decide) (by decide)⟩
  show Qkeeps50 Z o0_ x0_ x1_ ko0_ x2_ x3_ x4_ x5_ x6_ x7_ x8_ x9_ h0 n0 _ s₁.heap _
  rw [e0]
  exact ⟨rfl, N0, rfl⟩
theorem efkeeps51 (m : MethodId) (o0_ : Addr) (x0_ : Int32) (x1_ : Int32) : entryFrame m #[(.ref o0_), (.int (6 : Int32)), (.int (4 : Int32)), (.int x0_), (.int x1_)] 7 = mkF m 0 #[lvR o0_, lvI (6 : Int32), lvI (4 : Int32), lvI x0_, lvI x1_, .unset, .unset] [] := by first | (simp [entryFrame, mkF, argsToLocals, Value.category]; done) | rfl
def Qkeeps51 (Z : State) (o0_ : Addr) (x0_ : Int32) (x1_ : Int32) (ko0_ : ClassId) (x2_ : Int32) (x3_ : Int32) (x4_ : Int32) (x5_ : Int32) (x6_ : Int32) (x7_ : Int32) (x8_ : Int32) (x9_ : Int32) (h0 : Heap) (n0 : Nat) (v : Option Value) (h : Heap) (L : List Loc) : Prop := v = some (.int (1 : Int32)) ∧ Fr n0 L ∧ h = h0
set_option maxRecDepth 65536 in
set_option maxHeartbeats 40000000 in
theorem rmkeeps51 (l : Launch) (Z : State) (a0 : Array Value) (hw : ∀ d ∈ tables_1, d.before a0 Z = true) (ws : List Jvm.Cond) (o0_ : Addr) (x0_ : Int32) (x1_ : Int32) (ko0_ : ClassId) (x2_ : Int32) (x3_ : Int32) (x4_ : Int32) (x5_ : Int32) (x6_ : Int32) (x7_ : Int32) (x8_ : Int32) (x9_ : Int32) (h0 : Heap) (n0 : Nat) (O0 : Old Z n0 h0) (P0 : Arv Z h0 o0_ ko0_ .byte (8 : Int32) [(.int x2_), (.int x3_), (.int x4_), (.int x5_), (.int x6_), (.int x7_), (.int x8_), (.int x9_)] (.int (0 : Int32))) (P1 : Exa Z h0 o0_ "[B") :
    MetFree l (⟨"com/example/stackweave/stackweave/classfile/ByteWriterU4AtPinLaw", "keeps", "([BIIII)Z"⟩ : MethodName) (head1 (Jvm.Cond.code (⟨"com/example/stackweave/stackweave/classfile/ByteWriterU4AtPinLaw", "keeps", "([BIIII)Z"⟩ : MethodName) method_3_code 7 (some .boolean) :: ws) ({ frames := 0, cells := 0, slots := 0, locals := 0 } : Room)) (fun a U => a = #[(.ref o0_), (.int (6 : Int32)), (.int (4 : Int32)), (.int x0_), (.int x1_)] ∧ Z.Warmed39 U.vm ∧ U.heap = h0) (fun _ _ _ _ _ => True) (fun _ U o U' => ∃ v L, o = .returned v ∧ Qkeeps51 Z o0_ x0_ x1_ ko0_ x2_ x3_ x4_ x5_ x6_ x7_ x8_ x9_ h0 n0 v U'.heap L ∧ FrameEnd U o U' L ({ frames := 0, cells := 0, slots := 0, locals := 0 } : Room).cells ({ frames := 0, cells := 0, slots := 0, locals := 0 } : Room).slots) := by
  refine MetFree.of_bodySF (plainFor_of_name pn_1) hisR ?_
  intro p e s m args below meth c s₁ Bd hml0 hP hK
  obtain ⟨rfl, hZ, hh⟩ := hP
  have hx := Bd.exec
  have hby := Bd.bytes
  have hml : c.maxLocals = 7 := hml0
  have hown : s.vm.findClass "com/example/stackweave/stackweave/classfile/ByteWriterU4AtPinLaw" = some m.cls := findClass_of_methodNamed Bd.named
  have hnm := (name_of_methodNamed Bd.named Bd.method).1
  have X0 : Stand p l e ({ frames := 0, cells := 0, slots := 0, locals := 0 } : Room) s m #[(.ref o0_), (.int (6 : Int32)), (.int (4 : Int32)), (.int x0_), (.int x1_)] below meth c s₁ [] 0 0 := Stand.of_body Bd
  have e0 : s₁.heap = h0 := by rw [← hh, Bd.state]; rfl
  have N0 := Fr.nil n0
  obtain ⟨G, pre0, hG⟩ : ∃ G : State → Prop, (∀ t, own_S p e below m s₁ 0 #[lvR o0_, lvI (6 : Int32), lvI (4 : Int32), lvI x0_, lvI x1_, .unset, .unset] [] t → G t) ∧ (∀ t, G t → Steps p.tables e below (s₁.setTop (entryFrame m #[(.ref o0_), (.int (6 : Int32)), (.int (4 : Int32)), (.int x0_), (.int x1_)] 7)) t) := ⟨fun t => Steps p.tables e below (s₁.setTop (entryFrame m #[(.ref o0_), (.int (6 : Int32)), (.int (4 : Int32)), (.int x0_), (.int x1_)] 7)) t, fun t k => castTop (efkeeps51 m o0_ x0_ x1_) k, fun _ k => k⟩
  have K0 : Keep h0 h0 [] := Keep.refl _ _
  have pre1 : ∀ t, own_S p e below m s₁ 13 #[lvR o0_, lvI (6 : Int32), lvI (4 : Int32), lvI x0_, lvI x1_, .unset, .unset] [(.int (1 : Int32))] t → G t := by
    intro t kt
    refine pre0 t ?_
    show own_S p e below m s₁ 0 #[lvR o0_, lvI (6 : Int32), lvI (4 : Int32), lvI x0_, lvI x1_, .unset, .unset] [] _
    refine XS.iloadN X0.here hx rfl (hb hby d7_0) rfl ?_
    refine XS.iloadN X0.here hx rfl (hb hby d7_1) rfl ?_
    show own_S p e below m s₁ 2 #[lvR o0_, lvI (6 : Int32), lvI (4 : Int32), lvI x0_, lvI x1_, .unset, .unset] [(.int (4 : Int32)), (.int (6 : Int32))] _
    refine XS.icmpNo X0.here hx rfl (hb hby d7_2) rfl (flt (by decide : ¬ ((6 : Int32) < (4 : Int32)))).1 ?_
    refine XS.iloadN X0.here hx rfl (hb hby d7_5) rfl ?_
    refine XS.iloadN X0.here hx rfl (hb hby d7_6) rfl ?_
    refine XS.iconst X0.here hx rfl (hb hby d7_7) ?_
    show own_S p e below m s₁ 8 #[lvR o0_, lvI (6 : Int32), lvI (4 : Int32), lvI x0_, lvI x1_, .unset, .unset] [(.int (4 : Int32)), (.int (4 : Int32)), (.int (6 : Int32))] _
    refine XS.iadd X0.here hx rfl (hb hby d7_8) rfl ?_
    show own_S p e below m s₁ 9 #[lvR o0_, lvI (6 : Int32), lvI (4 : Int32), lvI x0_, lvI x1_, .unset, .unset] [(.int (8 : Int32)), (.int (6 : Int32))] _
    refine XS.icmpNo X0.here hx rfl (hb hby d7_9) rfl (tlt (by decide : (6 : Int32) < (8 : Int32))).2.1 ?_
    refine XS.iconst X0.here hx rfl (hb hby d7_12) ?_
    exact kt
  obtain ⟨fs, hr, hrun, hended, hW, hsame⟩ := X0.leave (v := some (.int (1 : Int32))) (fun h => by rw [Bd.returns] at h; cases h)
  refine ⟨_, _, hG _ (pre1 _ (retN X0 hx (t := .boolean) Bd.returns (by simp) (hb hby d7_13) hr)), hrun, hended, _, _, rfl, ?_, ⟨_, rfl⟩, hW, hsame.mono (by decide) (by decide)⟩
  show Qkeeps51 Z o0_ x0_ x1_ ko0_ x2_ x3_ x4_ x5_ x6_ x7_ x8_ x9_ h0 n0 _ s₁.heap _
  rw [e0]
  exact ⟨rfl, N0, rfl⟩
theorem efkeeps52 (m : MethodId) (o0_ : Addr) (x0_ : Int32) (x1_ : Int32) : entryFrame m #[(.ref o0_), (.int (7 : Int32)), (.int (4 : Int32)), (.int x0_), (.int x1_)] 7 = mkF m 0 #[lvR o0_, lvI (7 : Int32), lvI (4 : Int32), lvI x0_, lvI x1_, .unset, .unset] [] := by first | (simp [entryFrame, mkF, argsToLocals, Value.category]; done) | rfl
def Qkeeps52 (Z : State) (o0_ : Addr) (x0_ : Int32) (x1_ : Int32) (ko0_ : ClassId) (x2_ : Int32) (x3_ : Int32) (x4_ : Int32) (x5_ : Int32) (x6_ : Int32) (x7_ : Int32) (x8_ : Int32) (x9_ : Int32) (h0 : Heap) (n0 : Nat) (v : Option Value) (h : Heap) (L : List Loc) : Prop := v = some (.int (1 : Int32)) ∧ Fr n0 L ∧ h = h0
set_option maxRecDepth 65536 in
set_option maxHeartbeats 40000000 in
theorem rmkeeps52 (l : Launch) (Z : State) (a0 : Array Value) (hw : ∀ d ∈ tables_1, d.before a0 Z = true) (ws : List Jvm.Cond) (o0_ : Addr) (x0_ : Int32) (x1_ : Int32) (ko0_ : ClassId) (x2_ : Int32) (x3_ : Int32) (x4_ : Int32) (x5_ : Int32) (x6_ : Int32) (x7_ : Int32) (x8_ : Int32) (x9_ : Int32) (h0 : Heap) (n0 : Nat) (O0 : Old Z n0 h0) (P0 : Arv Z h0 o0_ ko0_ .byte (8 : Int32) [(.int x2_), (.int x3_), (.int x4_), (.int x5_), (.int x6_), (.int x7_), (.int x8_), (.int x9_)] (.int (0 : Int32))) (P1 : Exa Z h0 o0_ "[B") :
    MetFree l (⟨"com/example/stackweave/stackweave/classfile/ByteWriterU4AtPinLaw", "keeps", "([BIIII)Z"⟩ : MethodName) (head1 (Jvm.Cond.code (⟨"com/example/stackweave/stackweave/classfile/ByteWriterU4AtPinLaw", "keeps", "([BIIII)Z"⟩ : MethodName) method_3_code 7 (some .boolean) :: ws) ({ frames := 0, cells := 0, slots := 0, locals := 0 } : Room)) (fun a U => a = #[(.ref o0_), (.int (7 : Int32)), (.int (4 : Int32)), (.int x0_), (.int x1_)] ∧ Z.Warmed39 U.vm ∧ U.heap = h0) (fun _ _ _ _ _ => True) (fun _ U o U' => ∃ v L, o = .returned v ∧ Qkeeps52 Z o0_ x0_ x1_ ko0_ x2_ x3_ x4_ x5_ x6_ x7_ x8_ x9_ h0 n0 v U'.heap L ∧ FrameEnd U o U' L ({ frames := 0, cells := 0, slots := 0, locals := 0 } : Room).cells ({ frames := 0, cells := 0, slots := 0, locals := 0 } : Room).slots) := by
  refine MetFree.of_bodySF (plainFor_of_name pn_1) hisR ?_
  intro p e s m args below meth c s₁ Bd hml0 hP hK
  obtain ⟨rfl, hZ, hh⟩ := hP
  have hx := Bd.exec
  have hby := Bd.bytes
  have hml : c.maxLocals = 7 := hml0
  have hown : s.vm.findClass "com/example/stackweave/stackweave/classfile/ByteWriterU4AtPinLaw" = some m.cls := findClass_of_methodNamed Bd.named
  have hnm := (name_of_methodNamed Bd.named Bd.method).1
  have X0 : Stand p l e ({ frames := 0, cells := 0, slots := 0, locals := 0 } : Room) s m #[(.ref o0_), (.int (7 : Int32)), (.int (4 : Int32)), (.int x0_), (.int x1_)] below meth c s₁ [] 0 0 := Stand.of_body Bd
  have e0 : s₁.heap = h0 := by rw [← hh, Bd.state]; rfl
  have N0 := Fr.nil n0
  obtain ⟨G, pre0, hG⟩ : ∃ G : State → Prop, (∀ t, own_S p e below m s₁ 0 #[lvR o0_, lvI (7 : Int32), lvI (4 : Int32), lvI x0_, lvI x1_, .unset, .unset] [] t → G t) ∧ (∀ t, G t → Steps p.tables e below (s₁.setTop (entryFrame m #[(.ref o0_), (.int (7 : Int32)), (.int (4 : Int32)), (.int x0_), (.int x1_)] 7)) t) := ⟨fun t => Steps p.tables e below (s₁.setTop (entryFrame m #[(.ref o0_), (.int (7 : Int32)), (.int (4 : Int32)), (.int x0_), (.int x1_)] 7)) t, fun t k => castTop (efkeeps52 m o0_ x0_ x1_) k, fun _ k => k⟩
  have K0 : Keep h0 h0 [] := Keep.refl _ _
  have pre1 : ∀ t, own_S p e below m s₁ 13 #[lvR o0_, lvI (7 : Int32), lvI (4 : Int32), lvI x0_, lvI x1_, .unset, .unset] [(.int (1 : Int32))] t → G t := by
    intro t kt
    refine pre0 t ?_
    show own_S p e below m s₁ 0 #[lvR o0_, lvI (7 : Int32), lvI (4 : Int32), lvI x0_, lvI x1_, .unset, .unset] [] _
    refine XS.iloadN X0.here hx rfl (hb hby d7_0) rfl ?_
    refine XS.iloadN X0.here hx rfl (hb hby d7_1) rfl ?_
    show own_S p e below m s₁ 2 #[lvR o0_, lvI (7 : Int32), lvI (4 : Int32), lvI x0_, lvI x1_, .unset, .unset] [(.int (4 : Int32)), (.int (7 : Int32))] _
    refine XS.icmpNo X0.here hx rfl (hb hby d7_2) rfl (flt (by decide : ¬ ((7 : Int32) < (4 : Int32)))).1 ?_
    refine XS.iloadN X0.here hx rfl (hb hby d7_5) rfl ?_
    refine XS.iloadN X0.here hx rfl (hb hby d7_6) rfl ?_
    refine XS.iconst X0.here hx rfl (hb hby d7_7) ?_
    show own_S p e below m s₁ 8 #[lvR o0_, lvI (7 : Int32), lvI (4 : Int32), lvI x0_, lvI x1_, .unset, .unset] [(.int (4 : Int32)), (.int (4 : Int32)), (.int (7 : Int32))] _
    refine XS.iadd X0.here hx rfl (hb hby d7_8) rfl ?_
    show own_S p e below m s₁ 9 #[lvR o0_, lvI (7 : Int32), lvI (4 : Int32), lvI x0_, lvI x1_, .unset, .unset] [(.int (8 : Int32)), (.int (7 : Int32))] _
    refine XS.icmpNo X0.here hx rfl (hb hby d7_9) rfl (tlt (by decide : (7 : Int32) < (8 : Int32))).2.1 ?_
    refine XS.iconst X0.here hx rfl (hb hby d7_12) ?_
    exact kt
  obtain ⟨fs, hr, hrun, hended, hW, hsame⟩ := X0.leave (v := some (.int (1 : Int32))) (fun h => by rw [Bd.returns] at h; cases h)
  refine ⟨_, _, hG _ (pre1 _ (retN X0 hx (t := .boolean) Bd.returns (by simp) (hb hby d7_13) hr)), hrun, hended, _, _, rfl, ?_, ⟨_, rfl⟩, hW, hsame.mono (by decide) (by decide)⟩
  show Qkeeps52 Z o0_ x0_ x1_ ko0_ x2_ x3_ x4_ x5_ x6_ x7_ x8_ x9_ h0 n0 _ s₁.heap _
  rw [e0]
  exact ⟨rfl, N0, rfl⟩
theorem efLaw (m : MethodId) (p0_ : Int32) (p1_ : Int32) (p2_ : Int32) (p3_ : Int32) : entryFrame m #[(.int p0_), (.int p1_), (.int p2_), (.int p3_)] maxLocals = mkF m 0 #[lvI p0_, lvI p1_, lvI p2_, lvI p3_, .unset, .unset, .unset, .unset] [] := by first | (simp [entryFrame, mkF, argsToLocals, Value.category, maxLocals]; done) | rfl
def QLaw (Z : State) (p0_ : Int32) (p1_ : Int32) (p2_ : Int32) (p3_ : Int32) (h0 : Heap) (n0 : Nat) (v : Option Value) (h : Heap) (L : List Loc) : Prop := v = some (.int (1 : Int32)) ∧ Fr n0 L
set_option maxRecDepth 65536 in
set_option maxHeartbeats 40000000 in
theorem rmLaw (l : Launch) (Z : State) (a0 : Array Value) (hw : ∀ d ∈ tables_1, d.before a0 Z = true) (ws : List Jvm.Cond) (p0_ : Int32) (p1_ : Int32) (p2_ : Int32) (p3_ : Int32) (h0 : Heap) (n0 : Nat) (O0 : Old Z n0 h0)  :
    MetFree l x (head1 (Jvm.Cond.code x code maxLocals ret :: ws) room_1) (fun a U => a = #[(.int p0_), (.int p1_), (.int p2_), (.int p3_)] ∧ Z.Warmed39 U.vm ∧ U.heap = h0) (fun _ _ _ _ _ => True) (fun _ U o U' => ∃ v L, o = .returned v ∧ QLaw Z p0_ p1_ p2_ p3_ h0 n0 v U'.heap L ∧ FrameEnd U o U' L room_1.cells room_1.slots) := by
  refine MetFree.of_bodySF (plainFor_of_name pn_1) hisR ?_
  intro p e s m args below meth c s₁ Bd hml0 hP hK
  obtain ⟨rfl, hZ, hh⟩ := hP
  have hx := Bd.exec
  have hby := Bd.bytes
  have hml : c.maxLocals = 8 := hml0
  have hown : s.vm.findClass "com/example/stackweave/stackweave/classfile/ByteWriterU4AtPinLaw" = some m.cls := findClass_of_methodNamed Bd.named
  have hnm := (name_of_methodNamed Bd.named Bd.method).1
  have X0 : Stand p l e room_1 s m #[(.int p0_), (.int p1_), (.int p2_), (.int p3_)] below meth c s₁ [] 0 0 := Stand.of_body Bd
  have e0 : s₁.heap = h0 := by rw [← hh, Bd.state]; rfl
  have N0 := Fr.nil n0
  obtain ⟨G, pre0, hG⟩ : ∃ G : State → Prop, (∀ t, own_S p e below m s₁ 0 #[lvI p0_, lvI p1_, lvI p2_, lvI p3_, .unset, .unset, .unset, .unset] [] t → G t) ∧ (∀ t, G t → Steps p.tables e below (s₁.setTop (entryFrame m #[(.int p0_), (.int p1_), (.int p2_), (.int p3_)] maxLocals)) t) := ⟨fun t => Steps p.tables e below (s₁.setTop (entryFrame m #[(.int p0_), (.int p1_), (.int p2_), (.int p3_)] maxLocals)) t, fun t k => castTop (efLaw m p0_ p1_ p2_ p3_) k, fun _ k => k⟩
  have K0 : Keep h0 h0 [] := Keep.refl _ _
  have pre1 : ∀ t, own_S p e below m s₁ 6 #[lvI p0_, lvI p1_, lvI p2_, lvI p3_, .unset, .unset, .unset, .unset] [(.int ((p2_ &&& (2147483647 : Int32)) % (5 : Int32)))] t → G t := by
    intro t kt
    refine pre0 t ?_
    show own_S p e below m s₁ 0 #[lvI p0_, lvI p1_, lvI p2_, lvI p3_, .unset, .unset, .unset, .unset] [] _
    refine XS.iloadN X0.here hx rfl (hb hby at_0) rfl ?_
    show own_S p e below m s₁ 1 #[lvI p0_, lvI p1_, lvI p2_, lvI p3_, .unset, .unset, .unset, .unset] [(.int p2_)] _
    refine X0.ldcInt hx hown (mvT hZ (own_w hw 0 rfl)) (g := (mkF m 1 #[lvI p0_, lvI p1_, lvI p2_, lvI p3_, .unset, .unset, .unset, .unset] [(.int p2_)])) rfl (hb hby at_1) _ ?_
    refine XS.iand X0.here hx rfl (hb hby at_3) rfl ?_
    refine XS.iconst X0.here hx rfl (hb hby at_4) ?_
    show own_S p e below m s₁ 5 #[lvI p0_, lvI p1_, lvI p2_, lvI p3_, .unset, .unset, .unset, .unset] [(.int (5 : Int32)), (.int (p2_ &&& (2147483647 : Int32)))] _
    refine iremM (g := (mkF m 5 #[lvI p0_, lvI p1_, lvI p2_, lvI p3_, .unset, .unset, .unset, .unset] [(.int (5 : Int32)), (.int (p2_ &&& (2147483647 : Int32)))])) X0 hx rfl (hb hby at_5) rfl (by decide) ?_
    exact kt
  have hv2 : ((p2_ &&& (2147483647 : Int32)) % (5 : Int32)) = (0 : Int32) ∨ ((p2_ &&& (2147483647 : Int32)) % (5 : Int32)) = (1 : Int32) ∨ ((p2_ &&& (2147483647 : Int32)) % (5 : Int32)) = (2 : Int32) ∨ ((p2_ &&& (2147483647 : Int32)) % (5 : Int32)) = (3 : Int32) ∨ ((p2_ &&& (2147483647 : Int32)) % (5 : Int32)) = (4 : Int32) := own_mod5 _
  rcases hv2 with hv3 | hv3 | hv3 | hv3 | hv3
  · have pre4 : ∀ t, own_S p e below m s₁ 6 #[lvI p0_, lvI p1_, lvI p2_, lvI p3_, .unset, .unset, .unset, .unset] [(.int (0 : Int32))] t → G t := fun t kt => pre1 t (by rw [hv3]; exact kt)
    obtain ⟨T5, h5, X5, e5, E5, A5, D5, -, st5⟩ := newO X0 hx hZ hown (own_w hw 1 rfl) (own_w hw 2 rfl) (own_w hw 3 rfl) e0 (g := (mkF m 8 #[lvI p0_, lvI p1_, lvI p2_, lvI p3_, lvI (0 : Int32), .unset, .unset, .unset] [])) rfl (hb hby at_8) (by decide) (by decide)
    obtain ⟨b5, g5⟩ : ∃ z, z = h0.size := ⟨_, rfl⟩
    rw [← g5] at A5 D5 st5
    have ge6 : n0 ≤ b5 := Nat.le_trans (Nat.le_trans (Nat.le_of_eq O0.1.symm) O0.2.1) (Nat.le_of_eq g5.symm)
    have sz7 : h0.size ≤ b5 := Nat.le_trans K0.1 (Nat.le_of_eq g5.symm)
    have f8 : Fld Z h5 b5 cn0 "bytes" "[B" .null := D5 (Or.inl (own_w hw 12 rfl)) (ty := (.array .byte)) (by decide)
    have f9 : Fld Z h5 b5 cn0 "length" "I" (.int (0 : Int32)) := D5 (Or.inl (own_w hw 23 rfl)) (ty := .int) (by decide)
    have f11 : Old Z n0 h5 := O0.ext E5
    obtain ⟨_, _, ⟨T10, L10, k10, n10⟩, -, X10, ⟨Lc10, hQ10, l10, y10, z10⟩, st10⟩ := X5.specialBack hx (y := (⟨"com/example/stackweave/stackweave/classfile/ByteWriter", "<init>", "(I)V"⟩ : MethodName)) rfl hown (mvT hZ (own_w hw 4 rfl)) (mvT hZ (own_w hw 5 rfl)) (mvT hZ (own_w hw 6 rfl)) (by decide) (backOf (W := 1) (rminit1 l Z a0 hw [] b5 h5 n0 f11 A5 f8 f9 ge6) hZ (own_w hw 6 rfl) (own_w hw 3 rfl) (by decide) (by decide)) (g := (mkF m 14 #[lvI p0_, lvI p1_, lvI p2_, lvI p3_, lvI (0 : Int32), .unset, .unset, .unset] [(.int (8 : Int32)), (.ref b5), (.ref b5)])) rfl (by rw [hml]; rfl) (Steps.refl _) (a := b5) (argsL := [(.int (8 : Int32))]) (rest := [(.ref b5)]) (lenOf pd_0 rfl) rfl (by show 2 * 0 + _ ≤ _; exact Nat.le_of_eq rfl) (hb hby at_14) (fun _ _ => ⟨rfl, e5, (by decide : 1 + 1 ≤ _), (by decide : 2 + 8 ≤ _)⟩)
    dsimp only [Pt.U, Pt.locs, Pt.cells, Pt.slots] at X10 l10 y10 z10 st10 hQ10
    subst l10 y10 z10
    obtain ⟨h10, e10⟩ : ∃ z, T10.heap = z := ⟨_, rfl⟩
    rw [e10] at hQ10
    obtain ⟨k2_10, nb2_10, rfl, N10q, K10, sznb2_10, g10_0, g10_1, g10_2, g10_3, g10_4⟩ := hQ10
    have N12 := Fr.app N0 N10q
    have ge13 : n0 ≤ nb2_10 := Nat.le_trans (Nat.le_trans (Nat.le_of_eq f11.1.symm) f11.2.1) sznb2_10
    have f14 : Keep h0 h5 [] := K0.ext E5
    have sz15 : h0.size ≤ nb2_10 := Nat.le_trans f14.1 sznb2_10
    have ne17 : b5 ≠ nb2_10 := Nat.ne_of_lt (Nat.lt_of_lt_of_le A5.lt sznb2_10)
    have f18 : Old Z n0 h10 := f11.keep K10 (allS (ge6) all0)
    obtain ⟨cq16, kq16, q16a, q16b, q16c⟩ := isOf hZ e10 g10_0
    obtain ⟨_, _, ⟨T16, L16, k16, n16⟩, -, X16, ⟨Lc16, hQ16, l16, y16, z16⟩, st16⟩ := X10.virtualBack hx (y := (⟨"com/example/stackweave/stackweave/classfile/ByteWriter", "u4", "(I)V"⟩ : MethodName)) (z := (⟨"com/example/stackweave/stackweave/classfile/ByteWriter", "u4", "(I)V"⟩ : MethodName)) hown (mvT hZ (own_w hw 13 rfl)) (mvT hZ (own_w hw 14 rfl)) (notFace_of_selects (args := #[]) (mvT hZ (own_w hw 16 rfl))) (mvT hZ (own_w hw 16 rfl)) (mvT hZ (own_w hw 15 rfl)) (by decide) (backOf (W := 0) (rmu42 l Z a0 hw [] b5 p0_ nb2_10 k2_10 h10 n0 f18 g10_0 g10_1 g10_2 g10_3 g10_4 ge6 (Ne.symm ne17) ge13) hZ (own_w hw 17 rfl) (own_w hw 3 rfl) (by decide) (by decide)) q16a q16c (g := (mkF m 22 #[lvI p0_, lvI p1_, lvI p2_, lvI p3_, lvI (0 : Int32), lvR b5, .unset, .unset] [(.int p0_), (.ref b5)])) rfl (by rw [hml]; rfl) (Steps.refl _) (argsL := [(.int p0_)]) (rest := []) (lenOf pd_0 rfl) rfl (by show 2 * 0 + _ ≤ _; exact Nat.le_of_eq rfl) (hb hby at_22) (fun _ _ => ⟨rfl, e10, (by decide : 2 + 0 ≤ _), (by decide : 10 + 0 ≤ _)⟩)
    dsimp only [Pt.U, Pt.locs, Pt.cells, Pt.slots] at X16 l16 y16 z16 st16 hQ16
    subst l16 y16 z16
    obtain ⟨h16, e16⟩ : ∃ z, T16.heap = z := ⟨_, rfl⟩
    rw [e16] at hQ16
    obtain ⟨rfl, N16q, K16, g16_0, g16_1, g16_2, g16_3, g16_4⟩ := hQ16
    have N19 := Fr.app N12 N16q
    have f21 : Old Z n0 h16 := f18.keep K16 (allS (ge6) (allS (ge13) all0))
    obtain ⟨cq20, kq20, q20a, q20b, q20c⟩ := isOf hZ e16 g16_0
    obtain ⟨_, _, ⟨T20, L20, k20, n20⟩, -, X20, ⟨Lc20, hQ20, l20, y20, z20⟩, st20⟩ := X16.virtualBack hx (y := (⟨"com/example/stackweave/stackweave/classfile/ByteWriter", "u4", "(I)V"⟩ : MethodName)) (z := (⟨"com/example/stackweave/stackweave/classfile/ByteWriter", "u4", "(I)V"⟩ : MethodName)) hown (mvT hZ (own_w hw 13 rfl)) (mvT hZ (own_w hw 14 rfl)) (notFace_of_selects (args := #[]) (mvT hZ (own_w hw 16 rfl))) (mvT hZ (own_w hw 16 rfl)) (mvT hZ (own_w hw 15 rfl)) (by decide) (backOf (W := 0) (rmu44 l Z a0 hw [] b5 p1_ nb2_10 k2_10 (((p0_.toUInt32 >>> ((24 : Int32) &&& 31).toUInt32).toInt32).toInt8.toInt32) (((p0_.toUInt32 >>> ((16 : Int32) &&& 31).toUInt32).toInt32).toInt8.toInt32) (((p0_.toUInt32 >>> ((8 : Int32) &&& 31).toUInt32).toInt32).toInt8.toInt32) (p0_.toInt8.toInt32) h16 n0 f21 g16_0 g16_1 g16_2 g16_3 g16_4 ge6 (Ne.symm ne17) ge13) hZ (own_w hw 17 rfl) (own_w hw 3 rfl) (by decide) (by decide)) q20a q20c (g := (mkF m 28 #[lvI p0_, lvI p1_, lvI p2_, lvI p3_, lvI (0 : Int32), lvR b5, .unset, .unset] [(.int p1_), (.ref b5)])) rfl (by rw [hml]; rfl) (Steps.refl _) (argsL := [(.int p1_)]) (rest := []) (lenOf pd_0 rfl) rfl (by show 2 * 0 + _ ≤ _; exact Nat.le_of_eq rfl) (hb hby at_28) (fun _ _ => ⟨rfl, e16, (by decide : 2 + 0 ≤ _), (by decide : 10 + 0 ≤ _)⟩)
    dsimp only [Pt.U, Pt.locs, Pt.cells, Pt.slots] at X20 l20 y20 z20 st20 hQ20
    subst l20 y20 z20
    obtain ⟨h20, e20⟩ : ∃ z, T20.heap = z := ⟨_, rfl⟩
    rw [e20] at hQ20
    obtain ⟨rfl, N20q, K20, g20_0, g20_1, g20_2, g20_3, g20_4⟩ := hQ20
    have N22 := Fr.app N19 N20q
    have f24 : Old Z n0 h20 := f21.keep K20 (allS (ge6) (allS (ge13) all0))
    obtain ⟨cq23, kq23, q23a, q23b, q23c⟩ := isOf hZ e20 g20_0
    obtain ⟨_, _, ⟨T23, L23, k23, n23⟩, -, X23, ⟨Lc23, hQ23, l23, y23, z23⟩, st23⟩ := X20.virtualBack hx (y := (⟨"com/example/stackweave/stackweave/classfile/ByteWriter", "u4At", "(II)V"⟩ : MethodName)) (z := (⟨"com/example/stackweave/stackweave/classfile/ByteWriter", "u4At", "(II)V"⟩ : MethodName)) hown (mvT hZ (own_w hw 24 rfl)) (mvT hZ (own_w hw 25 rfl)) (notFace_of_selects (args := #[]) (mvT hZ (own_w hw 27 rfl))) (mvT hZ (own_w hw 27 rfl)) (mvT hZ (own_w hw 26 rfl)) (by decide) (backOf (W := 0) (rmu4At6 l Z a0 hw [] b5 p3_ nb2_10 k2_10 (((p0_.toUInt32 >>> ((24 : Int32) &&& 31).toUInt32).toInt32).toInt8.toInt32) (((p0_.toUInt32 >>> ((16 : Int32) &&& 31).toUInt32).toInt32).toInt8.toInt32) (((p0_.toUInt32 >>> ((8 : Int32) &&& 31).toUInt32).toInt32).toInt8.toInt32) (p0_.toInt8.toInt32) (((p1_.toUInt32 >>> ((24 : Int32) &&& 31).toUInt32).toInt32).toInt8.toInt32) (((p1_.toUInt32 >>> ((16 : Int32) &&& 31).toUInt32).toInt32).toInt8.toInt32) (((p1_.toUInt32 >>> ((8 : Int32) &&& 31).toUInt32).toInt32).toInt8.toInt32) (p1_.toInt8.toInt32) h20 n0 f24 g20_0 g20_1 g20_2 g20_3 g20_4 ge13 ne17) hZ (own_w hw 28 rfl) (own_w hw 3 rfl) (by decide) (by decide)) q23a q23c (g := (mkF m 36 #[lvI p0_, lvI p1_, lvI p2_, lvI p3_, lvI (0 : Int32), lvR b5, .unset, .unset] [(.int p3_), (.int (0 : Int32)), (.ref b5)])) rfl (by rw [hml]; rfl) (Steps.refl _) (argsL := [(.int (0 : Int32)), (.int p3_)]) (rest := []) (lenOf pd_1 rfl) rfl (by show 2 * 0 + _ ≤ _; exact Nat.le_of_eq rfl) (hb hby at_36) (fun _ _ => ⟨rfl, e20, (by decide : 2 + 0 ≤ _), (by decide : 10 + 0 ≤ _)⟩)
    dsimp only [Pt.U, Pt.locs, Pt.cells, Pt.slots] at X23 l23 y23 z23 st23 hQ23
    subst l23 y23 z23
    obtain ⟨h23, e23⟩ : ∃ z, T23.heap = z := ⟨_, rfl⟩
    rw [e23] at hQ23
    obtain ⟨rfl, N23q, K23, g23_0, g23_1⟩ := hQ23
    have N25 := Fr.app N22 N23q
    have f27 : Exa Z h23 b5 cn0 := g20_0.keep K23
    have f28 : Fld Z h23 b5 cn0 "bytes" "[B" (.ref nb2_10) := g20_1.keep K23 (ninS ne17 nin0)
    have f29 : Fld Z h23 b5 cn0 "length" "I" (.int (8 : Int32)) := g20_2.keep K23 (ninS ne17 nin0)
    have f30 : Old Z n0 h23 := f24.keep K23 (allS (ge13) all0)
    obtain ⟨cq26, kq26, q26a, q26b, q26c⟩ := isOf hZ e23 f27
    obtain ⟨_, _, ⟨T26, L26, k26, n26⟩, -, X26, ⟨Lc26, hQ26, l26, y26, z26⟩, st26⟩ := X23.virtualBack hx (y := (⟨"com/example/stackweave/stackweave/classfile/ByteWriter", "length", "()I"⟩ : MethodName)) (z := (⟨"com/example/stackweave/stackweave/classfile/ByteWriter", "length", "()I"⟩ : MethodName)) hown (mvT hZ (own_w hw 29 rfl)) (mvT hZ (own_w hw 30 rfl)) (notFace_of_selects (args := #[]) (mvT hZ (own_w hw 32 rfl))) (mvT hZ (own_w hw 32 rfl)) (mvT hZ (own_w hw 31 rfl)) (by decide) (backOf (W := 0) (rmlength7 l Z a0 hw [] b5 nb2_10 k2_10 (((p3_.toUInt32 >>> ((24 : Int32) &&& 31).toUInt32).toInt32).toInt8.toInt32) (((p3_.toUInt32 >>> ((16 : Int32) &&& 31).toUInt32).toInt32).toInt8.toInt32) (((p3_.toUInt32 >>> ((8 : Int32) &&& 31).toUInt32).toInt32).toInt8.toInt32) (p3_.toInt8.toInt32) (((p1_.toUInt32 >>> ((24 : Int32) &&& 31).toUInt32).toInt32).toInt8.toInt32) (((p1_.toUInt32 >>> ((16 : Int32) &&& 31).toUInt32).toInt32).toInt8.toInt32) (((p1_.toUInt32 >>> ((8 : Int32) &&& 31).toUInt32).toInt32).toInt8.toInt32) (p1_.toInt8.toInt32) h23 n0 f30 f27 f28 f29 g23_0 g23_1) hZ (own_w hw 33 rfl) (own_w hw 3 rfl) (by decide) (by decide)) q26a q26c (g := (mkF m 41 #[lvI p0_, lvI p1_, lvI p2_, lvI p3_, lvI (0 : Int32), lvR b5, .unset, .unset] [(.ref b5)])) rfl (by rw [hml]; rfl) (Steps.refl _) (argsL := []) (rest := []) (lenOf pd_2 rfl) rfl (by show 2 * 0 + _ ≤ _; exact Nat.le_of_eq rfl) (hb hby at_41) (fun _ _ => ⟨rfl, e23, (by decide : 2 + 0 ≤ _), (by decide : 10 + 0 ≤ _)⟩)
    dsimp only [Pt.U, Pt.locs, Pt.cells, Pt.slots] at X26 l26 y26 z26 st26 hQ26
    subst l26 y26 z26
    obtain ⟨h26, e26⟩ : ∃ z, T26.heap = z := ⟨_, rfl⟩
    rw [e26] at hQ26
    obtain ⟨rfl, N26q, hh26⟩ := hQ26
    have N31 := Fr.app N25 N26q
    have e26' : T26.heap = h23 := e26.trans hh26
    obtain ⟨cq32, kq32, q32a, q32b, q32c⟩ := isOf hZ e26' f27
    obtain ⟨_, _, ⟨T32, L32, k32, n32⟩, -, X32, ⟨Lc32, hQ32, l32, y32, z32⟩, st32⟩ := X26.virtualBack hx (y := (⟨"com/example/stackweave/stackweave/classfile/ByteWriter", "filledArray", "()[B"⟩ : MethodName)) (z := (⟨"com/example/stackweave/stackweave/classfile/ByteWriter", "filledArray", "()[B"⟩ : MethodName)) hown (mvT hZ (own_w hw 34 rfl)) (mvT hZ (own_w hw 35 rfl)) (notFace_of_selects (args := #[]) (mvT hZ (own_w hw 37 rfl))) (mvT hZ (own_w hw 37 rfl)) (mvT hZ (own_w hw 36 rfl)) (by decide) (backOf (W := 0) (rmfilledArray8 l Z a0 hw [] b5 nb2_10 k2_10 (((p3_.toUInt32 >>> ((24 : Int32) &&& 31).toUInt32).toInt32).toInt8.toInt32) (((p3_.toUInt32 >>> ((16 : Int32) &&& 31).toUInt32).toInt32).toInt8.toInt32) (((p3_.toUInt32 >>> ((8 : Int32) &&& 31).toUInt32).toInt32).toInt8.toInt32) (p3_.toInt8.toInt32) (((p1_.toUInt32 >>> ((24 : Int32) &&& 31).toUInt32).toInt32).toInt8.toInt32) (((p1_.toUInt32 >>> ((16 : Int32) &&& 31).toUInt32).toInt32).toInt8.toInt32) (((p1_.toUInt32 >>> ((8 : Int32) &&& 31).toUInt32).toInt32).toInt8.toInt32) (p1_.toInt8.toInt32) h23 n0 f30 f27 f28 f29 g23_0 g23_1) hZ (own_w hw 38 rfl) (own_w hw 3 rfl) (by decide) (by decide)) q32a q32c (g := (mkF m 53 #[lvI p0_, lvI p1_, lvI p2_, lvI p3_, lvI (0 : Int32), lvR b5, .unset, .unset] [(.ref b5)])) rfl (by rw [hml]; rfl) (Steps.refl _) (argsL := []) (rest := []) (lenOf pd_3 rfl) rfl (by show 2 * 0 + _ ≤ _; exact Nat.le_of_eq rfl) (hb hby at_53) (fun _ _ => ⟨rfl, e26', (by decide : 2 + 0 ≤ _), (by decide : 10 + 0 ≤ _)⟩)
    dsimp only [Pt.U, Pt.locs, Pt.cells, Pt.slots] at X32 l32 y32 z32 st32 hQ32
    subst l32 y32 z32
    obtain ⟨h32, e32⟩ : ∃ z, T32.heap = z := ⟨_, rfl⟩
    rw [e32] at hQ32
    obtain ⟨rfl, N32q, hh32⟩ := hQ32
    have N33 := Fr.app N31 N32q
    have e32' : T32.heap = h23 := e32.trans hh32
    obtain ⟨c34, r34, q34, s34, z34, y34, G34⟩ := id g23_0
    obtain ⟨c35, r35, q35, s35, z35, y35, G35⟩ := id g23_0
    have hin35 : ¬ ((0 : Int32) < 0 ∨ c35.slots.size ≤ ((0 : Int32)).toNatClampNeg) := inb_of s35 ⟨by decide, by decide⟩
    have hat35 : c35.slots[((0 : Int32)).toNatClampNeg]? = some (.int (((p3_.toUInt32 >>> ((24 : Int32) &&& 31).toUInt32).toInt32).toInt8.toInt32)) := Has.at y35 hin35 rfl
    obtain ⟨c36, r36, q36, s36, z36, y36, G36⟩ := id g23_0
    have hin36 : ¬ ((1 : Int32) < 0 ∨ c36.slots.size ≤ ((1 : Int32)).toNatClampNeg) := inb_of s36 ⟨by decide, by decide⟩
    have hat36 : c36.slots[((1 : Int32)).toNatClampNeg]? = some (.int (((p3_.toUInt32 >>> ((16 : Int32) &&& 31).toUInt32).toInt32).toInt8.toInt32)) := Has.at y36 hin36 rfl
    obtain ⟨c37, r37, q37, s37, z37, y37, G37⟩ := id g23_0
    have hin37 : ¬ ((2 : Int32) < 0 ∨ c37.slots.size ≤ ((2 : Int32)).toNatClampNeg) := inb_of s37 ⟨by decide, by decide⟩
    have hat37 : c37.slots[((2 : Int32)).toNatClampNeg]? = some (.int (((p3_.toUInt32 >>> ((8 : Int32) &&& 31).toUInt32).toInt32).toInt8.toInt32)) := Has.at y37 hin37 rfl
    obtain ⟨c38, r38, q38, s38, z38, y38, G38⟩ := id g23_0
    have hin38 : ¬ ((3 : Int32) < 0 ∨ c38.slots.size ≤ ((3 : Int32)).toNatClampNeg) := inb_of s38 ⟨by decide, by decide⟩
    have hat38 : c38.slots[((3 : Int32)).toNatClampNeg]? = some (.int (p3_.toInt8.toInt32)) := Has.at y38 hin38 rfl
    obtain ⟨_, _, ⟨T39, L39, k39, n39⟩, -, X39, ⟨Lc39, hQ39, l39, y39, z39⟩, st39⟩ := Jvm.LawKit.callS X32 hx (y := (⟨"com/example/stackweave/stackweave/classfile/ByteWriterU4AtPinLaw", "keeps", "([BIIII)Z"⟩ : MethodName)) hown (mvT hZ (own_w hw 39 rfl)) (mvT hZ (own_w hw 40 rfl)) (mvT hZ (own_w hw 41 rfl)) (mvT hZ (own_w hw 42 rfl)) (by decide) (backOf (W := 0) (rmkeeps9 l Z a0 hw [] nb2_10 p0_ p1_ k2_10 (((p3_.toUInt32 >>> ((24 : Int32) &&& 31).toUInt32).toInt32).toInt8.toInt32) (((p3_.toUInt32 >>> ((16 : Int32) &&& 31).toUInt32).toInt32).toInt8.toInt32) (((p3_.toUInt32 >>> ((8 : Int32) &&& 31).toUInt32).toInt32).toInt8.toInt32) (p3_.toInt8.toInt32) (((p1_.toUInt32 >>> ((24 : Int32) &&& 31).toUInt32).toInt32).toInt8.toInt32) (((p1_.toUInt32 >>> ((16 : Int32) &&& 31).toUInt32).toInt32).toInt8.toInt32) (((p1_.toUInt32 >>> ((8 : Int32) &&& 31).toUInt32).toInt32).toInt8.toInt32) (p1_.toInt8.toInt32) h23 n0 f30 g23_0 g23_1) hZ (own_w hw 42 rfl) (own_w hw 41 rfl) (by decide) (by decide)) (g := (mkF m 139 #[lvI p0_, lvI p1_, lvI p2_, lvI p3_, lvI (0 : Int32), lvR b5, lvR nb2_10, lvI ((((((((p3_.toUInt32 >>> ((24 : Int32) &&& 31).toUInt32).toInt32).toInt8.toInt32) &&& (255 : Int32)) <<< ((24 : Int32) &&& 31)) ||| (((((p3_.toUInt32 >>> ((16 : Int32) &&& 31).toUInt32).toInt32).toInt8.toInt32) &&& (255 : Int32)) <<< ((16 : Int32) &&& 31))) ||| (((((p3_.toUInt32 >>> ((8 : Int32) &&& 31).toUInt32).toInt32).toInt8.toInt32) &&& (255 : Int32)) <<< ((8 : Int32) &&& 31))) ||| ((p3_.toInt8.toInt32) &&& (255 : Int32)))] [(.int p1_), (.int p0_), (.int (0 : Int32)), (.int (0 : Int32)), (.ref nb2_10)])) rfl (by rw [hml]; rfl) (argsL := [(.ref nb2_10), (.int (0 : Int32)), (.int (0 : Int32)), (.int p0_), (.int p1_)]) (rest := []) (lenOf pd_4 rfl) rfl (by show 2 * 0 + _ ≤ _; exact Nat.le_of_eq rfl) (hb hby at_139) (fun _ _ => ⟨rfl, e32', (by decide : 2 + 0 ≤ _), (by decide : 10 + 0 ≤ _)⟩)
    dsimp only [Pt.U, Pt.locs, Pt.cells, Pt.slots] at X39 l39 y39 z39 st39 hQ39
    subst l39 y39 z39
    obtain ⟨h39, e39⟩ : ∃ z, T39.heap = z := ⟨_, rfl⟩
    rw [e39] at hQ39
    obtain ⟨rfl, N39q, hh39⟩ := hQ39
    have N40 := Fr.app N33 N39q
    have e39' : T39.heap = h23 := e39.trans hh39
    obtain ⟨_, _, ⟨T41, L41, k41, n41⟩, -, X41, ⟨Lc41, hQ41, l41, y41, z41⟩, st41⟩ := Jvm.LawKit.callS X39 hx (y := (⟨"com/example/stackweave/stackweave/classfile/ByteWriterU4AtPinLaw", "keeps", "([BIIII)Z"⟩ : MethodName)) hown (mvT hZ (own_w hw 39 rfl)) (mvT hZ (own_w hw 40 rfl)) (mvT hZ (own_w hw 41 rfl)) (mvT hZ (own_w hw 42 rfl)) (by decide) (backOf (W := 0) (rmkeeps10 l Z a0 hw [] nb2_10 p0_ p1_ k2_10 (((p3_.toUInt32 >>> ((24 : Int32) &&& 31).toUInt32).toInt32).toInt8.toInt32) (((p3_.toUInt32 >>> ((16 : Int32) &&& 31).toUInt32).toInt32).toInt8.toInt32) (((p3_.toUInt32 >>> ((8 : Int32) &&& 31).toUInt32).toInt32).toInt8.toInt32) (p3_.toInt8.toInt32) (((p1_.toUInt32 >>> ((24 : Int32) &&& 31).toUInt32).toInt32).toInt8.toInt32) (((p1_.toUInt32 >>> ((16 : Int32) &&& 31).toUInt32).toInt32).toInt8.toInt32) (((p1_.toUInt32 >>> ((8 : Int32) &&& 31).toUInt32).toInt32).toInt8.toInt32) (p1_.toInt8.toInt32) h23 n0 f30 g23_0 g23_1) hZ (own_w hw 42 rfl) (own_w hw 41 rfl) (by decide) (by decide)) (g := (mkF m 152 #[lvI p0_, lvI p1_, lvI p2_, lvI p3_, lvI (0 : Int32), lvR b5, lvR nb2_10, lvI ((((((((p3_.toUInt32 >>> ((24 : Int32) &&& 31).toUInt32).toInt32).toInt8.toInt32) &&& (255 : Int32)) <<< ((24 : Int32) &&& 31)) ||| (((((p3_.toUInt32 >>> ((16 : Int32) &&& 31).toUInt32).toInt32).toInt8.toInt32) &&& (255 : Int32)) <<< ((16 : Int32) &&& 31))) ||| (((((p3_.toUInt32 >>> ((8 : Int32) &&& 31).toUInt32).toInt32).toInt8.toInt32) &&& (255 : Int32)) <<< ((8 : Int32) &&& 31))) ||| ((p3_.toInt8.toInt32) &&& (255 : Int32)))] [(.int p1_), (.int p0_), (.int (0 : Int32)), (.int (1 : Int32)), (.ref nb2_10)])) rfl (by rw [hml]; rfl) (argsL := [(.ref nb2_10), (.int (1 : Int32)), (.int (0 : Int32)), (.int p0_), (.int p1_)]) (rest := []) (lenOf pd_4 rfl) rfl (by show 2 * 0 + _ ≤ _; exact Nat.le_of_eq rfl) (hb hby at_152) (fun _ _ => ⟨rfl, e39', (by decide : 2 + 0 ≤ _), (by decide : 10 + 0 ≤ _)⟩)
    dsimp only [Pt.U, Pt.locs, Pt.cells, Pt.slots] at X41 l41 y41 z41 st41 hQ41
    subst l41 y41 z41
    obtain ⟨h41, e41⟩ : ∃ z, T41.heap = z := ⟨_, rfl⟩
    rw [e41] at hQ41
    obtain ⟨rfl, N41q, hh41⟩ := hQ41
    have N42 := Fr.app N40 N41q
    have e41' : T41.heap = h23 := e41.trans hh41
    obtain ⟨_, _, ⟨T43, L43, k43, n43⟩, -, X43, ⟨Lc43, hQ43, l43, y43, z43⟩, st43⟩ := Jvm.LawKit.callS X41 hx (y := (⟨"com/example/stackweave/stackweave/classfile/ByteWriterU4AtPinLaw", "keeps", "([BIIII)Z"⟩ : MethodName)) hown (mvT hZ (own_w hw 39 rfl)) (mvT hZ (own_w hw 40 rfl)) (mvT hZ (own_w hw 41 rfl)) (mvT hZ (own_w hw 42 rfl)) (by decide) (backOf (W := 0) (rmkeeps11 l Z a0 hw [] nb2_10 p0_ p1_ k2_10 (((p3_.toUInt32 >>> ((24 : Int32) &&& 31).toUInt32).toInt32).toInt8.toInt32) (((p3_.toUInt32 >>> ((16 : Int32) &&& 31).toUInt32).toInt32).toInt8.toInt32) (((p3_.toUInt32 >>> ((8 : Int32) &&& 31).toUInt32).toInt32).toInt8.toInt32) (p3_.toInt8.toInt32) (((p1_.toUInt32 >>> ((24 : Int32) &&& 31).toUInt32).toInt32).toInt8.toInt32) (((p1_.toUInt32 >>> ((16 : Int32) &&& 31).toUInt32).toInt32).toInt8.toInt32) (((p1_.toUInt32 >>> ((8 : Int32) &&& 31).toUInt32).toInt32).toInt8.toInt32) (p1_.toInt8.toInt32) h23 n0 f30 g23_0 g23_1) hZ (own_w hw 42 rfl) (own_w hw 41 rfl) (by decide) (by decide)) (g := (mkF m 165 #[lvI p0_, lvI p1_, lvI p2_, lvI p3_, lvI (0 : Int32), lvR b5, lvR nb2_10, lvI ((((((((p3_.toUInt32 >>> ((24 : Int32) &&& 31).toUInt32).toInt32).toInt8.toInt32) &&& (255 : Int32)) <<< ((24 : Int32) &&& 31)) ||| (((((p3_.toUInt32 >>> ((16 : Int32) &&& 31).toUInt32).toInt32).toInt8.toInt32) &&& (255 : Int32)) <<< ((16 : Int32) &&& 31))) ||| (((((p3_.toUInt32 >>> ((8 : Int32) &&& 31).toUInt32).toInt32).toInt8.toInt32) &&& (255 : Int32)) <<< ((8 : Int32) &&& 31))) ||| ((p3_.toInt8.toInt32) &&& (255 : Int32)))] [(.int p1_), (.int p0_), (.int (0 : Int32)), (.int (2 : Int32)), (.ref nb2_10)])) rfl (by rw [hml]; rfl) (argsL := [(.ref nb2_10), (.int (2 : Int32)), (.int (0 : Int32)), (.int p0_), (.int p1_)]) (rest := []) (lenOf pd_4 rfl) rfl (by show 2 * 0 + _ ≤ _; exact Nat.le_of_eq rfl) (hb hby at_165) (fun _ _ => ⟨rfl, e41', (by decide : 2 + 0 ≤ _), (by decide : 10 + 0 ≤ _)⟩)
    dsimp only [Pt.U, Pt.locs, Pt.cells, Pt.slots] at X43 l43 y43 z43 st43 hQ43
    subst l43 y43 z43
    obtain ⟨h43, e43⟩ : ∃ z, T43.heap = z := ⟨_, rfl⟩
    rw [e43] at hQ43
    obtain ⟨rfl, N43q, hh43⟩ := hQ43
    have N44 := Fr.app N42 N43q
    have e43' : T43.heap = h23 := e43.trans hh43
    obtain ⟨_, _, ⟨T45, L45, k45, n45⟩, -, X45, ⟨Lc45, hQ45, l45, y45, z45⟩, st45⟩ := Jvm.LawKit.callS X43 hx (y := (⟨"com/example/stackweave/stackweave/classfile/ByteWriterU4AtPinLaw", "keeps", "([BIIII)Z"⟩ : MethodName)) hown (mvT hZ (own_w hw 39 rfl)) (mvT hZ (own_w hw 40 rfl)) (mvT hZ (own_w hw 41 rfl)) (mvT hZ (own_w hw 42 rfl)) (by decide) (backOf (W := 0) (rmkeeps12 l Z a0 hw [] nb2_10 p0_ p1_ k2_10 (((p3_.toUInt32 >>> ((24 : Int32) &&& 31).toUInt32).toInt32).toInt8.toInt32) (((p3_.toUInt32 >>> ((16 : Int32) &&& 31).toUInt32).toInt32).toInt8.toInt32) (((p3_.toUInt32 >>> ((8 : Int32) &&& 31).toUInt32).toInt32).toInt8.toInt32) (p3_.toInt8.toInt32) (((p1_.toUInt32 >>> ((24 : Int32) &&& 31).toUInt32).toInt32).toInt8.toInt32) (((p1_.toUInt32 >>> ((16 : Int32) &&& 31).toUInt32).toInt32).toInt8.toInt32) (((p1_.toUInt32 >>> ((8 : Int32) &&& 31).toUInt32).toInt32).toInt8.toInt32) (p1_.toInt8.toInt32) h23 n0 f30 g23_0 g23_1) hZ (own_w hw 42 rfl) (own_w hw 41 rfl) (by decide) (by decide)) (g := (mkF m 178 #[lvI p0_, lvI p1_, lvI p2_, lvI p3_, lvI (0 : Int32), lvR b5, lvR nb2_10, lvI ((((((((p3_.toUInt32 >>> ((24 : Int32) &&& 31).toUInt32).toInt32).toInt8.toInt32) &&& (255 : Int32)) <<< ((24 : Int32) &&& 31)) ||| (((((p3_.toUInt32 >>> ((16 : Int32) &&& 31).toUInt32).toInt32).toInt8.toInt32) &&& (255 : Int32)) <<< ((16 : Int32) &&& 31))) ||| (((((p3_.toUInt32 >>> ((8 : Int32) &&& 31).toUInt32).toInt32).toInt8.toInt32) &&& (255 : Int32)) <<< ((8 : Int32) &&& 31))) ||| ((p3_.toInt8.toInt32) &&& (255 : Int32)))] [(.int p1_), (.int p0_), (.int (0 : Int32)), (.int (3 : Int32)), (.ref nb2_10)])) rfl (by rw [hml]; rfl) (argsL := [(.ref nb2_10), (.int (3 : Int32)), (.int (0 : Int32)), (.int p0_), (.int p1_)]) (rest := []) (lenOf pd_4 rfl) rfl (by show 2 * 0 + _ ≤ _; exact Nat.le_of_eq rfl) (hb hby at_178) (fun _ _ => ⟨rfl, e43', (by decide : 2 + 0 ≤ _), (by decide : 10 + 0 ≤ _)⟩)
    dsimp only [Pt.U, Pt.locs, Pt.cells, Pt.slots] at X45 l45 y45 z45 st45 hQ45
    subst l45 y45 z45
    obtain ⟨h45, e45⟩ : ∃ z, T45.heap = z := ⟨_, rfl⟩
    rw [e45] at hQ45
    obtain ⟨rfl, N45q, hh45⟩ := hQ45
    have N46 := Fr.app N44 N45q
    have e45' : T45.heap = h23 := e45.trans hh45
    obtain ⟨_, _, ⟨T47, L47, k47, n47⟩, -, X47, ⟨Lc47, hQ47, l47, y47, z47⟩, st47⟩ := Jvm.LawKit.callS X45 hx (y := (⟨"com/example/stackweave/stackweave/classfile/ByteWriterU4AtPinLaw", "keeps", "([BIIII)Z"⟩ : MethodName)) hown (mvT hZ (own_w hw 39 rfl)) (mvT hZ (own_w hw 40 rfl)) (mvT hZ (own_w hw 41 rfl)) (mvT hZ (own_w hw 42 rfl)) (by decide) (backOf (W := 0) (rmkeeps13 l Z a0 hw [] nb2_10 p0_ p1_ k2_10 (((p3_.toUInt32 >>> ((24 : Int32) &&& 31).toUInt32).toInt32).toInt8.toInt32) (((p3_.toUInt32 >>> ((16 : Int32) &&& 31).toUInt32).toInt32).toInt8.toInt32) (((p3_.toUInt32 >>> ((8 : Int32) &&& 31).toUInt32).toInt32).toInt8.toInt32) (p3_.toInt8.toInt32) (((p1_.toUInt32 >>> ((24 : Int32) &&& 31).toUInt32).toInt32).toInt8.toInt32) (((p1_.toUInt32 >>> ((16 : Int32) &&& 31).toUInt32).toInt32).toInt8.toInt32) (((p1_.toUInt32 >>> ((8 : Int32) &&& 31).toUInt32).toInt32).toInt8.toInt32) (p1_.toInt8.toInt32) h23 n0 f30 g23_0 g23_1) hZ (own_w hw 42 rfl) (own_w hw 41 rfl) (by decide) (by decide)) (g := (mkF m 191 #[lvI p0_, lvI p1_, lvI p2_, lvI p3_, lvI (0 : Int32), lvR b5, lvR nb2_10, lvI ((((((((p3_.toUInt32 >>> ((24 : Int32) &&& 31).toUInt32).toInt32).toInt8.toInt32) &&& (255 : Int32)) <<< ((24 : Int32) &&& 31)) ||| (((((p3_.toUInt32 >>> ((16 : Int32) &&& 31).toUInt32).toInt32).toInt8.toInt32) &&& (255 : Int32)) <<< ((16 : Int32) &&& 31))) ||| (((((p3_.toUInt32 >>> ((8 : Int32) &&& 31).toUInt32).toInt32).toInt8.toInt32) &&& (255 : Int32)) <<< ((8 : Int32) &&& 31))) ||| ((p3_.toInt8.toInt32) &&& (255 : Int32)))] [(.int p1_), (.int p0_), (.int (0 : Int32)), (.int (4 : Int32)), (.ref nb2_10)])) rfl (by rw [hml]; rfl) (argsL := [(.ref nb2_10), (.int (4 : Int32)), (.int (0 : Int32)), (.int p0_), (.int p1_)]) (rest := []) (lenOf pd_4 rfl) rfl (by show 2 * 0 + _ ≤ _; exact Nat.le_of_eq rfl) (hb hby at_191) (fun _ _ => ⟨rfl, e45', (by decide : 2 + 0 ≤ _), (by decide : 10 + 0 ≤ _)⟩)
    dsimp only [Pt.U, Pt.locs, Pt.cells, Pt.slots] at X47 l47 y47 z47 st47 hQ47
    subst l47 y47 z47
    obtain ⟨h47, e47⟩ : ∃ z, T47.heap = z := ⟨_, rfl⟩
    rw [e47] at hQ47
    obtain ⟨rr47, rfl, hs47, N47q, hh47⟩ := hQ47
    have N48 := Fr.app N46 N47q
    have e47' : T47.heap = h23 := e47.trans hh47
    rcases hs47 with ⟨rfl, hq47_0_0⟩ | ⟨rfl, hq47_1_0⟩
    · obtain ⟨_, _, ⟨T49, L49, k49, n49⟩, -, X49, ⟨Lc49, hQ49, l49, y49, z49⟩, st49⟩ := Jvm.LawKit.callS X47 hx (y := (⟨"com/example/stackweave/stackweave/classfile/ByteWriterU4AtPinLaw", "keeps", "([BIIII)Z"⟩ : MethodName)) hown (mvT hZ (own_w hw 39 rfl)) (mvT hZ (own_w hw 40 rfl)) (mvT hZ (own_w hw 41 rfl)) (mvT hZ (own_w hw 42 rfl)) (by decide) (backOf (W := 0) (rmkeeps14 l Z a0 hw [] nb2_10 p0_ p1_ k2_10 (((p3_.toUInt32 >>> ((24 : Int32) &&& 31).toUInt32).toInt32).toInt8.toInt32) (((p3_.toUInt32 >>> ((16 : Int32) &&& 31).toUInt32).toInt32).toInt8.toInt32) (((p3_.toUInt32 >>> ((8 : Int32) &&& 31).toUInt32).toInt32).toInt8.toInt32) (p3_.toInt8.toInt32) (((p1_.toUInt32 >>> ((24 : Int32) &&& 31).toUInt32).toInt32).toInt8.toInt32) (((p1_.toUInt32 >>> ((16 : Int32) &&& 31).toUInt32).toInt32).toInt8.toInt32) (((p1_.toUInt32 >>> ((8 : Int32) &&& 31).toUInt32).toInt32).toInt8.toInt32) (p1_.toInt8.toInt32) h23 n0 f30 g23_0 g23_1) hZ (own_w hw 42 rfl) (own_w hw 41 rfl) (by decide) (by decide)) (g := (mkF m 204 #[lvI p0_, lvI p1_, lvI p2_, lvI p3_, lvI (0 : Int32), lvR b5, lvR nb2_10, lvI ((((((((p3_.toUInt32 >>> ((24 : Int32) &&& 31).toUInt32).toInt32).toInt8.toInt32) &&& (255 : Int32)) <<< ((24 : Int32) &&& 31)) ||| (((((p3_.toUInt32 >>> ((16 : Int32) &&& 31).toUInt32).toInt32).toInt8.toInt32) &&& (255 : Int32)) <<< ((16 : Int32) &&& 31))) ||| (((((p3_.toUInt32 >>> ((8 : Int32) &&& 31).toUInt32).toInt32).toInt8.toInt32) &&& (255 : Int32)) <<< ((8 : Int32) &&& 31))) ||| ((p3_.toInt8.toInt32) &&& (255 : Int32)))] [(.int p1_), (.int p0_), (.int (0 : Int32)), (.int (5 : Int32)), (.ref nb2_10)])) rfl (by rw [hml]; rfl) (argsL := [(.ref nb2_10), (.int (5 : Int32)), (.int (0 : Int32)), (.int p0_), (.int p1_)]) (rest := []) (lenOf pd_4 rfl) rfl (by show 2 * 0 + _ ≤ _; exact Nat.le_of_eq rfl) (hb hby at_204) (fun _ _ => ⟨rfl, e47', (by decide : 2 + 0 ≤ _), (by decide : 10 + 0 ≤ _)⟩)
      dsimp only [Pt.U, Pt.locs, Pt.cells, Pt.slots] at X49 l49 y49 z49 st49 hQ49
      subst l49 y49 z49
      obtain ⟨h49, e49⟩ : ∃ z, T49.heap = z := ⟨_, rfl⟩
      rw [e49] at hQ49
      obtain ⟨rr49, rfl, hs49, N49q, hh49⟩ := hQ49
      have N50 := Fr.app N48 N49q
      have e49' : T49.heap = h23 := e49.trans hh49
      rcases hs49 with ⟨rfl, hq49_0_0⟩ | ⟨rfl, hq49_1_0⟩
      · obtain ⟨_, _, ⟨T51, L51, k51, n51⟩, -, X51, ⟨Lc51, hQ51, l51, y51, z51⟩, st51⟩ := Jvm.LawKit.callS X49 hx (y := (⟨"com/example/stackweave/stackweave/classfile/ByteWriterU4AtPinLaw", "keeps", "([BIIII)Z"⟩ : MethodName)) hown (mvT hZ (own_w hw 39 rfl)) (mvT hZ (own_w hw 40 rfl)) (mvT hZ (own_w hw 41 rfl)) (mvT hZ (own_w hw 42 rfl)) (by decide) (backOf (W := 0) (rmkeeps15 l Z a0 hw [] nb2_10 p0_ p1_ k2_10 (((p3_.toUInt32 >>> ((24 : Int32) &&& 31).toUInt32).toInt32).toInt8.toInt32) (((p3_.toUInt32 >>> ((16 : Int32) &&& 31).toUInt32).toInt32).toInt8.toInt32) (((p3_.toUInt32 >>> ((8 : Int32) &&& 31).toUInt32).toInt32).toInt8.toInt32) (p3_.toInt8.toInt32) (((p1_.toUInt32 >>> ((24 : Int32) &&& 31).toUInt32).toInt32).toInt8.toInt32) (((p1_.toUInt32 >>> ((16 : Int32) &&& 31).toUInt32).toInt32).toInt8.toInt32) (((p1_.toUInt32 >>> ((8 : Int32) &&& 31).toUInt32).toInt32).toInt8.toInt32) (p1_.toInt8.toInt32) h23 n0 f30 g23_0 g23_1) hZ (own_w hw 42 rfl) (own_w hw 41 rfl) (by decide) (by decide)) (g := (mkF m 218 #[lvI p0_, lvI p1_, lvI p2_, lvI p3_, lvI (0 : Int32), lvR b5, lvR nb2_10, lvI ((((((((p3_.toUInt32 >>> ((24 : Int32) &&& 31).toUInt32).toInt32).toInt8.toInt32) &&& (255 : Int32)) <<< ((24 : Int32) &&& 31)) ||| (((((p3_.toUInt32 >>> ((16 : Int32) &&& 31).toUInt32).toInt32).toInt8.toInt32) &&& (255 : Int32)) <<< ((16 : Int32) &&& 31))) ||| (((((p3_.toUInt32 >>> ((8 : Int32) &&& 31).toUInt32).toInt32).toInt8.toInt32) &&& (255 : Int32)) <<< ((8 : Int32) &&& 31))) ||| ((p3_.toInt8.toInt32) &&& (255 : Int32)))] [(.int p1_), (.int p0_), (.int (0 : Int32)), (.int (6 : Int32)), (.ref nb2_10)])) rfl (by rw [hml]; rfl) (argsL := [(.ref nb2_10), (.int (6 : Int32)), (.int (0 : Int32)), (.int p0_), (.int p1_)]) (rest := []) (lenOf pd_4 rfl) rfl (by show 2 * 0 + _ ≤ _; exact Nat.le_of_eq rfl) (hb hby at_218) (fun _ _ => ⟨rfl, e49', (by decide : 2 + 0 ≤ _), (by decide : 10 + 0 ≤ _)⟩)
        dsimp only [Pt.U, Pt.locs, Pt.cells, Pt.slots] at X51 l51 y51 z51 st51 hQ51
        subst l51 y51 z51
        obtain ⟨h51, e51⟩ : ∃ z, T51.heap = z := ⟨_, rfl⟩
        rw [e51] at hQ51
        obtain ⟨rr51, rfl, hs51, N51q, hh51⟩ := hQ51
        have N52 := Fr.app N50 N51q
        have e51' : T51.heap = h23 := e51.trans hh51
        rcases hs51 with ⟨rfl, hq51_0_0⟩ | ⟨rfl, hq51_1_0⟩
        · obtain ⟨_, _, ⟨T53, L53, k53, n53⟩, -, X53, ⟨Lc53, hQ53, l53, y53, z53⟩, st53⟩ := Jvm.LawKit.callS X51 hx (y := (⟨"com/example/stackweave/stackweave/classfile/ByteWriterU4AtPinLaw", "keeps", "([BIIII)Z"⟩ : MethodName)) hown (mvT hZ (own_w hw 39 rfl)) (mvT hZ (own_w hw 40 rfl)) (mvT hZ (own_w hw 41 rfl)) (mvT hZ (own_w hw 42 rfl)) (by decide) (backOf (W := 0) (rmkeeps16 l Z a0 hw [] nb2_10 p0_ p1_ k2_10 (((p3_.toUInt32 >>> ((24 : Int32) &&& 31).toUInt32).toInt32).toInt8.toInt32) (((p3_.toUInt32 >>> ((16 : Int32) &&& 31).toUInt32).toInt32).toInt8.toInt32) (((p3_.toUInt32 >>> ((8 : Int32) &&& 31).toUInt32).toInt32).toInt8.toInt32) (p3_.toInt8.toInt32) (((p1_.toUInt32 >>> ((24 : Int32) &&& 31).toUInt32).toInt32).toInt8.toInt32) (((p1_.toUInt32 >>> ((16 : Int32) &&& 31).toUInt32).toInt32).toInt8.toInt32) (((p1_.toUInt32 >>> ((8 : Int32) &&& 31).toUInt32).toInt32).toInt8.toInt32) (p1_.toInt8.toInt32) h23 n0 f30 g23_0 g23_1) hZ (own_w hw 42 rfl) (own_w hw 41 rfl) (by decide) (by decide)) (g := (mkF m 232 #[lvI p0_, lvI p1_, lvI p2_, lvI p3_, lvI (0 : Int32), lvR b5, lvR nb2_10, lvI ((((((((p3_.toUInt32 >>> ((24 : Int32) &&& 31).toUInt32).toInt32).toInt8.toInt32) &&& (255 : Int32)) <<< ((24 : Int32) &&& 31)) ||| (((((p3_.toUInt32 >>> ((16 : Int32) &&& 31).toUInt32).toInt32).toInt8.toInt32) &&& (255 : Int32)) <<< ((16 : Int32) &&& 31))) ||| (((((p3_.toUInt32 >>> ((8 : Int32) &&& 31).toUInt32).toInt32).toInt8.toInt32) &&& (255 : Int32)) <<< ((8 : Int32) &&& 31))) ||| ((p3_.toInt8.toInt32) &&& (255 : Int32)))] [(.int p1_), (.int p0_), (.int (0 : Int32)), (.int (7 : Int32)), (.ref nb2_10)])) rfl (by rw [hml]; rfl) (argsL := [(.ref nb2_10), (.int (7 : Int32)), (.int (0 : Int32)), (.int p0_), (.int p1_)]) (rest := []) (lenOf pd_4 rfl) rfl (by show 2 * 0 + _ ≤ _; exact Nat.le_of_eq rfl) (hb hby at_232) (fun _ _ => ⟨rfl, e51', (by decide : 2 + 0 ≤ _), (by decide : 10 + 0 ≤ _)⟩)
          dsimp only [Pt.U, Pt.locs, Pt.cells, Pt.slots] at X53 l53 y53 z53 st53 hQ53
          subst l53 y53 z53
          obtain ⟨h53, e53⟩ : ∃ z, T53.heap = z := ⟨_, rfl⟩
          rw [e53] at hQ53
          obtain ⟨rr53, rfl, hs53, N53q, hh53⟩ := hQ53
          have N54 := Fr.app N52 N53q
          have e53' : T53.heap = h23 := e53.trans hh53
          rcases hs53 with ⟨rfl, hq53_0_0⟩ | ⟨rfl, hq53_1_0⟩
          · have pre55 : ∀ t, own_S p e below m T53 243 #[lvI p0_, lvI p1_, lvI p2_, lvI p3_, lvI (0 : Int32), lvR b5, lvR nb2_10, lvI ((((((((p3_.toUInt32 >>> ((24 : Int32) &&& 31).toUInt32).toInt32).toInt8.toInt32) &&& (255 : Int32)) <<< ((24 : Int32) &&& 31)) ||| (((((p3_.toUInt32 >>> ((16 : Int32) &&& 31).toUInt32).toInt32).toInt8.toInt32) &&& (255 : Int32)) <<< ((16 : Int32) &&& 31))) ||| (((((p3_.toUInt32 >>> ((8 : Int32) &&& 31).toUInt32).toInt32).toInt8.toInt32) &&& (255 : Int32)) <<< ((8 : Int32) &&& 31))) ||| ((p3_.toInt8.toInt32) &&& (255 : Int32)))] [(.int (1 : Int32))] t → G t := by
              intro t kt
              refine pre4 t ?_
              show own_S p e below m s₁ 6 #[lvI p0_, lvI p1_, lvI p2_, lvI p3_, .unset, .unset, .unset, .unset] [(.int (0 : Int32))] _
              refine XS.istore X0.here hx rfl (hb hby at_6) rfl (l' := #[lvI p0_, lvI p1_, lvI p2_, lvI p3_, lvI (0 : Int32), .unset, .unset, .unset]) rfl ?_
              show own_S p e below m s₁ 8 #[lvI p0_, lvI p1_, lvI p2_, lvI p3_, lvI (0 : Int32), .unset, .unset, .unset] [] _
              refine st5 _ ?_
              refine XS.dup X5.here hx rfl (hb hby at_11) rfl rfl ?_
              refine XS.bipush X5.here hx rfl (hb hby at_12) ?_
              show own_S p e below m T5 14 #[lvI p0_, lvI p1_, lvI p2_, lvI p3_, lvI (0 : Int32), .unset, .unset, .unset] [(.int (8 : Int32)), (.ref b5), (.ref b5)] _
              refine st10.trans ?_
              refine XS.astore X10.here hx rfl (hb hby at_17) rfl rfl (l' := #[lvI p0_, lvI p1_, lvI p2_, lvI p3_, lvI (0 : Int32), lvR b5, .unset, .unset]) rfl ?_
              refine XS.aload X10.here hx rfl (hb hby at_19) rfl rfl ?_
              refine XS.iloadN X10.here hx rfl (hb hby at_21) rfl ?_
              show own_S p e below m T10 22 #[lvI p0_, lvI p1_, lvI p2_, lvI p3_, lvI (0 : Int32), lvR b5, .unset, .unset] [(.int p0_), (.ref b5)] _
              refine st16.trans ?_
              refine XS.aload X16.here hx rfl (hb hby at_25) rfl rfl ?_
              refine XS.iloadN X16.here hx rfl (hb hby at_27) rfl ?_
              show own_S p e below m T16 28 #[lvI p0_, lvI p1_, lvI p2_, lvI p3_, lvI (0 : Int32), lvR b5, .unset, .unset] [(.int p1_), (.ref b5)] _
              refine st20.trans ?_
              refine XS.aload X20.here hx rfl (hb hby at_31) rfl rfl ?_
              refine XS.iload X20.here hx rfl (hb hby at_33) rfl ?_
              refine XS.iloadN X20.here hx rfl (hb hby at_35) rfl ?_
              show own_S p e below m T20 36 #[lvI p0_, lvI p1_, lvI p2_, lvI p3_, lvI (0 : Int32), lvR b5, .unset, .unset] [(.int p3_), (.int (0 : Int32)), (.ref b5)] _
              refine st23.trans ?_
              refine XS.aload X23.here hx rfl (hb hby at_39) rfl rfl ?_
              show own_S p e below m T23 41 #[lvI p0_, lvI p1_, lvI p2_, lvI p3_, lvI (0 : Int32), lvR b5, .unset, .unset] [(.ref b5)] _
              refine st26.trans ?_
              refine XS.bipush X26.here hx rfl (hb hby at_44) ?_
              show own_S p e below m T26 46 #[lvI p0_, lvI p1_, lvI p2_, lvI p3_, lvI (0 : Int32), lvR b5, .unset, .unset] [(.int (8 : Int32)), (.int (8 : Int32))] _
              refine XS.icmpYes X26.here hx rfl (pc0 := 46) (pc' := 51) rfl (hb hby at_46) rfl (teq (by decide : (8 : Int32) = (8 : Int32))).1 (by decide) (by decide) ?_
              refine XS.aload X26.here hx rfl (hb hby at_51) rfl rfl ?_
              show own_S p e below m T26 53 #[lvI p0_, lvI p1_, lvI p2_, lvI p3_, lvI (0 : Int32), lvR b5, .unset, .unset] [(.ref b5)] _
              refine st32.trans ?_
              refine XS.astore X32.here hx rfl (hb hby at_56) rfl rfl (l' := #[lvI p0_, lvI p1_, lvI p2_, lvI p3_, lvI (0 : Int32), lvR b5, lvR nb2_10, .unset]) rfl ?_
              refine XS.aload X32.here hx rfl (hb hby at_58) rfl rfl ?_
              show own_S p e below m T32 60 #[lvI p0_, lvI p1_, lvI p2_, lvI p3_, lvI (0 : Int32), lvR b5, lvR nb2_10, .unset] [(.ref nb2_10)] _
              refine X32.arraylength hx (by rw [e32']; exact r34.1) (State.isArrayOf_alike hZ.alike r34.2.1) (g := (mkF m 60 #[lvI p0_, lvI p1_, lvI p2_, lvI p3_, lvI (0 : Int32), lvR b5, lvR nb2_10, .unset] [(.ref nb2_10)])) rfl rfl (hb hby at_60) _ ?_
              rw [len_of s34 z34]
              refine XS.bipush X32.here hx rfl (hb hby at_61) ?_
              show own_S p e below m T32 63 #[lvI p0_, lvI p1_, lvI p2_, lvI p3_, lvI (0 : Int32), lvR b5, lvR nb2_10, .unset] [(.int (8 : Int32)), (.int (8 : Int32))] _
              refine XS.icmpYes X32.here hx rfl (pc0 := 63) (pc' := 68) rfl (hb hby at_63) rfl (teq (by decide : (8 : Int32) = (8 : Int32))).1 (by decide) (by decide) ?_
              refine XS.aload X32.here hx rfl (hb hby at_68) rfl rfl ?_
              refine XS.iload X32.here hx rfl (hb hby at_70) rfl ?_
              show own_S p e below m T32 72 #[lvI p0_, lvI p1_, lvI p2_, lvI p3_, lvI (0 : Int32), lvR b5, lvR nb2_10, .unset] [(.int (0 : Int32)), (.ref nb2_10)] _
              refine X32.baloadBytes hx (j := (0 : Int32)) (v := (.int (((p3_.toUInt32 >>> ((24 : Int32) &&& 31).toUInt32).toInt32).toInt8.toInt32))) (by rw [e32']; exact r35.1) (State.isArrayOf_alike hZ.alike r35.2.1) r35.2.2 hin35 hat35 (g := (mkF m 72 #[lvI p0_, lvI p1_, lvI p2_, lvI p3_, lvI (0 : Int32), lvR b5, lvR nb2_10, .unset] [(.int (0 : Int32)), (.ref nb2_10)])) rfl rfl (hb hby at_72) _ ?_
              refine XS.sipush X32.here hx rfl (hb hby at_73) ?_
              refine XS.iand X32.here hx rfl (hb hby at_76) rfl ?_
              refine XS.bipush X32.here hx rfl (hb hby at_77) ?_
              show own_S p e below m T32 79 #[lvI p0_, lvI p1_, lvI p2_, lvI p3_, lvI (0 : Int32), lvR b5, lvR nb2_10, .unset] [(.int (24 : Int32)), (.int ((((p3_.toUInt32 >>> ((24 : Int32) &&& 31).toUInt32).toInt32).toInt8.toInt32) &&& (255 : Int32)))] _
              refine XS.ishl X32.here hx rfl (hb hby at_79) rfl ?_
              refine XS.aload X32.here hx rfl (hb hby at_80) rfl rfl ?_
              refine XS.iload X32.here hx rfl (hb hby at_82) rfl ?_
              refine XS.iconst X32.here hx rfl (hb hby at_84) ?_
              show own_S p e below m T32 85 #[lvI p0_, lvI p1_, lvI p2_, lvI p3_, lvI (0 : Int32), lvR b5, lvR nb2_10, .unset] [(.int (1 : Int32)), (.int (0 : Int32)), (.ref nb2_10), (.int (((((p3_.toUInt32 >>> ((24 : Int32) &&& 31).toUInt32).toInt32).toInt8.toInt32) &&& (255 : Int32)) <<< ((24 : Int32) &&& 31)))] _
              refine XS.iadd X32.here hx rfl (hb hby at_85) rfl ?_
              show own_S p e below m T32 86 #[lvI p0_, lvI p1_, lvI p2_, lvI p3_, lvI (0 : Int32), lvR b5, lvR nb2_10, .unset] [(.int (1 : Int32)), (.ref nb2_10), (.int (((((p3_.toUInt32 >>> ((24 : Int32) &&& 31).toUInt32).toInt32).toInt8.toInt32) &&& (255 : Int32)) <<< ((24 : Int32) &&& 31)))] _
              refine X32.baloadBytes hx (j := (1 : Int32)) (v := (.int (((p3_.toUInt32 >>> ((16 : Int32) &&& 31).toUInt32).toInt32).toInt8.toInt32))) (by rw [e32']; exact r36.1) (State.isArrayOf_alike hZ.alike r36.2.1) r36.2.2 hin36 hat36 (g := (mkF m 86 #[lvI p0_, lvI p1_, lvI p2_, lvI p3_, lvI (0 : Int32), lvR b5, lvR nb2_10, .unset] [(.int (1 : Int32)), (.ref nb2_10), (.int (((((p3_.toUInt32 >>> ((24 : Int32) &&& 31).toUInt32).toInt32).toInt8.toInt32) &&& (255 : Int32)) <<< ((24 : Int32) &&& 31)))])) rfl rfl (hb hby at_86) _ ?_
              refine XS.sipush X32.here hx rfl (hb hby at_87) ?_
              refine XS.iand X32.here hx rfl (hb hby at_90) rfl ?_
              refine XS.bipush X32.here hx rfl (hb hby at_91) ?_
              show own_S p e below m T32 93 #[lvI p0_, lvI p1_, lvI p2_, lvI p3_, lvI (0 : Int32), lvR b5, lvR nb2_10, .unset] [(.int (16 : Int32)), (.int ((((p3_.toUInt32 >>> ((16 : Int32) &&& 31).toUInt32).toInt32).toInt8.toInt32) &&& (255 : Int32))), (.int (((((p3_.toUInt32 >>> ((24 : Int32) &&& 31).toUInt32).toInt32).toInt8.toInt32) &&& (255 : Int32)) <<< ((24 : Int32) &&& 31)))] _
              refine XS.ishl X32.here hx rfl (hb hby at_93) rfl ?_
              show own_S p e below m T32 94 #[lvI p0_, lvI p1_, lvI p2_, lvI p3_, lvI (0 : Int32), lvR b5, lvR nb2_10, .unset] [(.int (((((p3_.toUInt32 >>> ((16 : Int32) &&& 31).toUInt32).toInt32).toInt8.toInt32) &&& (255 : Int32)) <<< ((16 : Int32) &&& 31))), (.int (((((p3_.toUInt32 >>> ((24 : Int32) &&& 31).toUInt32).toInt32).toInt8.toInt32) &&& (255 : Int32)) <<< ((24 : Int32) &&& 31)))] _
              refine XS.ior X32.here hx rfl (hb hby at_94) rfl ?_
              refine XS.aload X32.here hx rfl (hb hby at_95) rfl rfl ?_
              refine XS.iload X32.here hx rfl (hb hby at_97) rfl ?_
              refine XS.iconst X32.here hx rfl (hb hby at_99) ?_
              show own_S p e below m T32 100 #[lvI p0_, lvI p1_, lvI p2_, lvI p3_, lvI (0 : Int32), lvR b5, lvR nb2_10, .unset] [(.int (2 : Int32)), (.int (0 : Int32)), (.ref nb2_10), (.int ((((((p3_.toUInt32 >>> ((24 : Int32) &&& 31).toUInt32).toInt32).toInt8.toInt32) &&& (255 : Int32)) <<< ((24 : Int32) &&& 31)) ||| (((((p3_.toUInt32 >>> ((16 : Int32) &&& 31).toUInt32).toInt32).toInt8.toInt32) &&& (255 : Int32)) <<< ((16 : Int32) &&& 31))))] _
              refine XS.iadd X32.here hx rfl (hb hby at_100) rfl ?_
              show own_S p e below m T32 101 #[lvI p0_, lvI p1_, lvI p2_, lvI p3_, lvI (0 : Int32), lvR b5, lvR nb2_10, .unset] [(.int (2 : Int32)), (.ref nb2_10), (.int ((((((p3_.toUInt32 >>> ((24 : Int32) &&& 31).toUInt32).toInt32).toInt8.toInt32) &&& (255 : Int32)) <<< ((24 : Int32) &&& 31)) ||| (((((p3_.toUInt32 >>> ((16 : Int32) &&& 31).toUInt32).toInt32).toInt8.toInt32) &&& (255 : Int32)) <<< ((16 : Int32) &&& 31))))] _
              refine X32.baloadBytes hx (j := (2 : Int32)) (v := (.int (((p3_.toUInt32 >>> ((8 : Int32) &&& 31).toUInt32).toInt32).toInt8.toInt32))) (by rw [e32']; exact r37.1) (State.isArrayOf_alike hZ.alike r37.2.1) r37.2.2 hin37 hat37 (g := (mkF m 101 #[lvI p0_, lvI p1_, lvI p2_, lvI p3_, lvI (0 : Int32), lvR b5, lvR nb2_10, .unset] [(.int (2 : Int32)), (.ref nb2_10), (.int ((((((p3_.toUInt32 >>> ((24 : Int32) &&& 31).toUInt32).toInt32).toInt8.toInt32) &&& (255 : Int32)) <<< ((24 : Int32) &&& 31)) ||| (((((p3_.toUInt32 >>> ((16 : Int32) &&& 31).toUInt32).toInt32).toInt8.toInt32) &&& (255 : Int32)) <<< ((16 : Int32) &&& 31))))])) rfl rfl (hb hby at_101) _ ?_
              refine XS.sipush X32.here hx rfl (hb hby at_102) ?_
              refine XS.iand X32.here hx rfl (hb hby at_105) rfl ?_
              refine XS.bipush X32.here hx rfl (hb hby at_106) ?_
              show own_S p e below m T32 108 #[lvI p0_, lvI p1_, lvI p2_, lvI p3_, lvI (0 : Int32), lvR b5, lvR nb2_10, .unset] [(.int (8 : Int32)), (.int ((((p3_.toUInt32 >>> ((8 : Int32) &&& 31).toUInt32).toInt32).toInt8.toInt32) &&& (255 : Int32))), (.int ((((((p3_.toUInt32 >>> ((24 : Int32) &&& 31).toUInt32).toInt32).toInt8.toInt32) &&& (255 : Int32)) <<< ((24 : Int32) &&& 31)) ||| (((((p3_.toUInt32 >>> ((16 : Int32) &&& 31).toUInt32).toInt32).toInt8.toInt32) &&& (255 : Int32)) <<< ((16 : Int32) &&& 31))))] _
              refine XS.ishl X32.here hx rfl (hb hby at_108) rfl ?_
              show own_S p e below m T32 109 #[lvI p0_, lvI p1_, lvI p2_, lvI p3_, lvI (0 : Int32), lvR b5, lvR nb2_10, .unset] [(.int (((((p3_.toUInt32 >>> ((8 : Int32) &&& 31).toUInt32).toInt32).toInt8.toInt32) &&& (255 : Int32)) <<< ((8 : Int32) &&& 31))), (.int ((((((p3_.toUInt32 >>> ((24 : Int32) &&& 31).toUInt32).toInt32).toInt8.toInt32) &&& (255 : Int32)) <<< ((24 : Int32) &&& 31)) ||| (((((p3_.toUInt32 >>> ((16 : Int32) &&& 31).toUInt32).toInt32).toInt8.toInt32) &&& (255 : Int32)) <<< ((16 : Int32) &&& 31))))] _
              refine XS.ior X32.here hx rfl (hb hby at_109) rfl ?_
              refine XS.aload X32.here hx rfl (hb hby at_110) rfl rfl ?_
              refine XS.iload X32.here hx rfl (hb hby at_112) rfl ?_
              refine XS.iconst X32.here hx rfl (hb hby at_114) ?_
              show own_S p e below m T32 115 #[lvI p0_, lvI p1_, lvI p2_, lvI p3_, lvI (0 : Int32), lvR b5, lvR nb2_10, .unset] [(.int (3 : Int32)), (.int (0 : Int32)), (.ref nb2_10), (.int (((((((p3_.toUInt32 >>> ((24 : Int32) &&& 31).toUInt32).toInt32).toInt8.toInt32) &&& (255 : Int32)) <<< ((24 : Int32) &&& 31)) ||| (((((p3_.toUInt32 >>> ((16 : Int32) &&& 31).toUInt32).toInt32).toInt8.toInt32) &&& (255 : Int32)) <<< ((16 : Int32) &&& 31))) ||| (((((p3_.toUInt32 >>> ((8 : Int32) &&& 31).toUInt32).toInt32).toInt8.toInt32) &&& (255 : Int32)) <<< ((8 : Int32) &&& 31))))] _
              refine XS.iadd X32.here hx rfl (hb hby at_115) rfl ?_
              show own_S p e below m T32 116 #[lvI p0_, lvI p1_, lvI p2_, lvI p3_, lvI (0 : Int32), lvR b5, lvR nb2_10, .unset] [(.int (3 : Int32)), (.ref nb2_10), (.int (((((((p3_.toUInt32 >>> ((24 : Int32) &&& 31).toUInt32).toInt32).toInt8.toInt32) &&& (255 : Int32)) <<< ((24 : Int32) &&& 31)) ||| (((((p3_.toUInt32 >>> ((16 : Int32) &&& 31).toUInt32).toInt32).toInt8.toInt32) &&& (255 : Int32)) <<< ((16 : Int32) &&& 31))) ||| (((((p3_.toUInt32 >>> ((8 : Int32) &&& 31).toUInt32).toInt32).toInt8.toInt32) &&& (255 : Int32)) <<< ((8 : Int32) &&& 31))))] _
              refine X32.baloadBytes hx (j := (3 : Int32)) (v := (.int (p3_.toInt8.toInt32))) (by rw [e32']; exact r38.1) (State.isArrayOf_alike hZ.alike r38.2.1) r38.2.2 hin38 hat38 (g := (mkF m 116 #[lvI p0_, lvI p1_, lvI p2_, lvI p3_, lvI (0 : Int32), lvR b5, lvR nb2_10, .unset] [(.int (3 : Int32)), (.ref nb2_10), (.int (((((((p3_.toUInt32 >>> ((24 : Int32) &&& 31).toUInt32).toInt32).toInt8.toInt32) &&& (255 : Int32)) <<< ((24 : Int32) &&& 31)) ||| (((((p3_.toUInt32 >>> ((16 : Int32) &&& 31).toUInt32).toInt32).toInt8.toInt32) &&& (255 : Int32)) <<< ((16 : Int32) &&& 31))) ||| (((((p3_.toUInt32 >>> ((8 : Int32) &&& 31).toUInt32).toInt32).toInt8.toInt32) &&& (255 : Int32)) <<< ((8 : Int32) &&& 31))))])) rfl rfl (hb hby at_116) _ ?_
              refine XS.sipush X32.here hx rfl (hb hby at_117) ?_
              refine XS.iand X32.here hx rfl (hb hby at_120) rfl ?_
              show own_S p e below m T32 121 #[lvI p0_, lvI p1_, lvI p2_, lvI p3_, lvI (0 : Int32), lvR b5, lvR nb2_10, .unset] [(.int ((p3_.toInt8.toInt32) &&& (255 : Int32))), (.int (((((((p3_.toUInt32 >>> ((24 : Int32) &&& 31).toUInt32).toInt32).toInt8.toInt32) &&& (255 : Int32)) <<< ((24 : Int32) &&& 31)) ||| (((((p3_.toUInt32 >>> ((16 : Int32) &&& 31).toUInt32).toInt32).toInt8.toInt32) &&& (255 : Int32)) <<< ((16 : Int32) &&& 31))) ||| (((((p3_.toUInt32 >>> ((8 : Int32) &&& 31).toUInt32).toInt32).toInt8.toInt32) &&& (255 : Int32)) <<< ((8 : Int32) &&& 31))))] _
              refine XS.ior X32.here hx rfl (hb hby at_121) rfl ?_
              refine XS.istore X32.here hx rfl (hb hby at_122) rfl (l' := #[lvI p0_, lvI p1_, lvI p2_, lvI p3_, lvI (0 : Int32), lvR b5, lvR nb2_10, lvI ((((((((p3_.toUInt32 >>> ((24 : Int32) &&& 31).toUInt32).toInt32).toInt8.toInt32) &&& (255 : Int32)) <<< ((24 : Int32) &&& 31)) ||| (((((p3_.toUInt32 >>> ((16 : Int32) &&& 31).toUInt32).toInt32).toInt8.toInt32) &&& (255 : Int32)) <<< ((16 : Int32) &&& 31))) ||| (((((p3_.toUInt32 >>> ((8 : Int32) &&& 31).toUInt32).toInt32).toInt8.toInt32) &&& (255 : Int32)) <<< ((8 : Int32) &&& 31))) ||| ((p3_.toInt8.toInt32) &&& (255 : Int32)))]) rfl ?_
              refine XS.iload X32.here hx rfl (hb hby at_124) rfl ?_
              refine XS.iloadN X32.here hx rfl (hb hby at_126) rfl ?_
              show own_S p e below m T32 127 #[lvI p0_, lvI p1_, lvI p2_, lvI p3_, lvI (0 : Int32), lvR b5, lvR nb2_10, lvI ((((((((p3_.toUInt32 >>> ((24 : Int32) &&& 31).toUInt32).toInt32).toInt8.toInt32) &&& (255 : Int32)) <<< ((24 : Int32) &&& 31)) ||| (((((p3_.toUInt32 >>> ((16 : Int32) &&& 31).toUInt32).toInt32).toInt8.toInt32) &&& (255 : Int32)) <<< ((16 : Int32) &&& 31))) ||| (((((p3_.toUInt32 >>> ((8 : Int32) &&& 31).toUInt32).toInt32).toInt8.toInt32) &&& (255 : Int32)) <<< ((8 : Int32) &&& 31))) ||| ((p3_.toInt8.toInt32) &&& (255 : Int32)))] [(.int p3_), (.int ((((((((p3_.toUInt32 >>> ((24 : Int32) &&& 31).toUInt32).toInt32).toInt8.toInt32) &&& (255 : Int32)) <<< ((24 : Int32) &&& 31)) ||| (((((p3_.toUInt32 >>> ((16 : Int32) &&& 31).toUInt32).toInt32).toInt8.toInt32) &&& (255 : Int32)) <<< ((16 : Int32) &&& 31))) ||| (((((p3_.toUInt32 >>> ((8 : Int32) &&& 31).toUInt32).toInt32).toInt8.toInt32) &&& (255 : Int32)) <<< ((8 : Int32) &&& 31))) ||| ((p3_.toInt8.toInt32) &&& (255 : Int32))))] _
              refine XS.icmpYes X32.here hx rfl (pc0 := 127) (pc' := 132) rfl (hb hby at_127) rfl (teq (own_read p3_)).1 (by decide) (by decide) ?_
              refine XS.aload X32.here hx rfl (hb hby at_132) rfl rfl ?_
              refine XS.iconst X32.here hx rfl (hb hby at_134) ?_
              refine XS.iload X32.here hx rfl (hb hby at_135) rfl ?_
              show own_S p e below m T32 137 #[lvI p0_, lvI p1_, lvI p2_, lvI p3_, lvI (0 : Int32), lvR b5, lvR nb2_10, lvI ((((((((p3_.toUInt32 >>> ((24 : Int32) &&& 31).toUInt32).toInt32).toInt8.toInt32) &&& (255 : Int32)) <<< ((24 : Int32) &&& 31)) ||| (((((p3_.toUInt32 >>> ((16 : Int32) &&& 31).toUInt32).toInt32).toInt8.toInt32) &&& (255 : Int32)) <<< ((16 : Int32) &&& 31))) ||| (((((p3_.toUInt32 >>> ((8 : Int32) &&& 31).toUInt32).toInt32).toInt8.toInt32) &&& (255 : Int32)) <<< ((8 : Int32) &&& 31))) ||| ((p3_.toInt8.toInt32) &&& (255 : Int32)))] [(.int (0 : Int32)), (.int (0 : Int32)), (.ref nb2_10)] _
              refine XS.iloadN X32.here hx rfl (hb hby at_137) rfl ?_
              refine XS.iloadN X32.here hx rfl (hb hby at_138) rfl ?_
              show own_S p e below m T32 139 #[lvI p0_, lvI p1_, lvI p2_, lvI p3_, lvI (0 : Int32), lvR b5, lvR nb2_10, lvI ((((((((p3_.toUInt32 >>> ((24 : Int32) &&& 31).toUInt32).toInt32).toInt8.toInt32) &&& (255 : Int32)) <<< ((24 : Int32) &&& 31)) ||| (((((p3_.toUInt32 >>> ((16 : Int32) &&& 31).toUInt32).toInt32).toInt8.toInt32) &&& (255 : Int32)) <<< ((16 : Int32) &&& 31))) ||| (((((p3_.toUInt32 >>> ((8 : Int32) &&& 31).toUInt32).toInt32).toInt8.toInt32) &&& (255 : Int32)) <<< ((8 : Int32) &&& 31))) ||| ((p3_.toInt8.toInt32) &&& (255 : Int32)))] [(.int p1_), (.int p0_), (.int (0 : Int32)), (.int (0 : Int32)), (.ref nb2_10)] _
              refine st39 _ ?_
              show own_S p e below m T39 142 #[lvI p0_, lvI p1_, lvI p2_, lvI p3_, lvI (0 : Int32), lvR b5, lvR nb2_10, lvI ((((((((p3_.toUInt32 >>> ((24 : Int32) &&& 31).toUInt32).toInt32).toInt8.toInt32) &&& (255 : Int32)) <<< ((24 : Int32) &&& 31)) ||| (((((p3_.toUInt32 >>> ((16 : Int32) &&& 31).toUInt32).toInt32).toInt8.toInt32) &&& (255 : Int32)) <<< ((16 : Int32) &&& 31))) ||| (((((p3_.toUInt32 >>> ((8 : Int32) &&& 31).toUInt32).toInt32).toInt8.toInt32) &&& (255 : Int32)) <<< ((8 : Int32) &&& 31))) ||| ((p3_.toInt8.toInt32) &&& (255 : Int32)))] [(.int (1 : Int32))] _
              refine XS.ifNo X39.here hx rfl (hb hby at_142) rfl ((if0 _ _).trans (feq (by decide : ¬ ((1 : Int32) = (0 : Int32)))).1) ?_
              refine XS.aload X39.here hx rfl (hb hby at_145) rfl rfl ?_
              refine XS.iconst X39.here hx rfl (hb hby at_147) ?_
              refine XS.iload X39.here hx rfl (hb hby at_148) rfl ?_
              show own_S p e below m T39 150 #[lvI p0_, lvI p1_, lvI p2_, lvI p3_, lvI (0 : Int32), lvR b5, lvR nb2_10, lvI ((((((((p3_.toUInt32 >>> ((24 : Int32) &&& 31).toUInt32).toInt32).toInt8.toInt32) &&& (255 : Int32)) <<< ((24 : Int32) &&& 31)) ||| (((((p3_.toUInt32 >>> ((16 : Int32) &&& 31).toUInt32).toInt32).toInt8.toInt32) &&& (255 : Int32)) <<< ((16 : Int32) &&& 31))) ||| (((((p3_.toUInt32 >>> ((8 : Int32) &&& 31).toUInt32).toInt32).toInt8.toInt32) &&& (255 : Int32)) <<< ((8 : Int32) &&& 31))) ||| ((p3_.toInt8.toInt32) &&& (255 : Int32)))] [(.int (0 : Int32)), (.int (1 : Int32)), (.ref nb2_10)] _
              refine XS.iloadN X39.here hx rfl (hb hby at_150) rfl ?_
              refine XS.iloadN X39.here hx rfl (hb hby at_151) rfl ?_
              show own_S p e below m T39 152 #[lvI p0_, lvI p1_, lvI p2_, lvI p3_, lvI (0 : Int32), lvR b5, lvR nb2_10, lvI ((((((((p3_.toUInt32 >>> ((24 : Int32) &&& 31).toUInt32).toInt32).toInt8.toInt32) &&& (255 : Int32)) <<< ((24 : Int32) &&& 31)) ||| (((((p3_.toUInt32 >>> ((16 : Int32) &&& 31).toUInt32).toInt32).toInt8.toInt32) &&& (255 : Int32)) <<< ((16 : Int32) &&& 31))) ||| (((((p3_.toUInt32 >>> ((8 : Int32) &&& 31).toUInt32).toInt32).toInt8.toInt32) &&& (255 : Int32)) <<< ((8 : Int32) &&& 31))) ||| ((p3_.toInt8.toInt32) &&& (255 : Int32)))] [(.int p1_), (.int p0_), (.int (0 : Int32)), (.int (1 : Int32)), (.ref nb2_10)] _
              refine st41 _ ?_
              show own_S p e below m T41 155 #[lvI p0_, lvI p1_, lvI p2_, lvI p3_, lvI (0 : Int32), lvR b5, lvR nb2_10, lvI ((((((((p3_.toUInt32 >>> ((24 : Int32) &&& 31).toUInt32).toInt32).toInt8.toInt32) &&& (255 : Int32)) <<< ((24 : Int32) &&& 31)) ||| (((((p3_.toUInt32 >>> ((16 : Int32) &&& 31).toUInt32).toInt32).toInt8.toInt32) &&& (255 : Int32)) <<< ((16 : Int32) &&& 31))) ||| (((((p3_.toUInt32 >>> ((8 : Int32) &&& 31).toUInt32).toInt32).toInt8.toInt32) &&& (255 : Int32)) <<< ((8 : Int32) &&& 31))) ||| ((p3_.toInt8.toInt32) &&& (255 : Int32)))] [(.int (1 : Int32))] _
              refine XS.ifNo X41.here hx rfl (hb hby at_155) rfl ((if0 _ _).trans (feq (by decide : ¬ ((1 : Int32) = (0 : Int32)))).1) ?_
              refine XS.aload X41.here hx rfl (hb hby at_158) rfl rfl ?_
              refine XS.iconst X41.here hx rfl (hb hby at_160) ?_
              refine XS.iload X41.here hx rfl (hb hby at_161) rfl ?_
              show own_S p e below m T41 163 #[lvI p0_, lvI p1_, lvI p2_, lvI p3_, lvI (0 : Int32), lvR b5, lvR nb2_10, lvI ((((((((p3_.toUInt32 >>> ((24 : Int32) &&& 31).toUInt32).toInt32).toInt8.toInt32) &&& (255 : Int32)) <<< ((24 : Int32) &&& 31)) ||| (((((p3_.toUInt32 >>> ((16 : Int32) &&& 31).toUInt32).toInt32).toInt8.toInt32) &&& (255 : Int32)) <<< ((16 : Int32) &&& 31))) ||| (((((p3_.toUInt32 >>> ((8 : Int32) &&& 31).toUInt32).toInt32).toInt8.toInt32) &&& (255 : Int32)) <<< ((8 : Int32) &&& 31))) ||| ((p3_.toInt8.toInt32) &&& (255 : Int32)))] [(.int (0 : Int32)), (.int (2 : Int32)), (.ref nb2_10)] _
              refine XS.iloadN X41.here hx rfl (hb hby at_163) rfl ?_
              refine XS.iloadN X41.here hx rfl (hb hby at_164) rfl ?_
              show own_S p e below m T41 165 #[lvI p0_, lvI p1_, lvI p2_, lvI p3_, lvI (0 : Int32), lvR b5, lvR nb2_10, lvI ((((((((p3_.toUInt32 >>> ((24 : Int32) &&& 31).toUInt32).toInt32).toInt8.toInt32) &&& (255 : Int32)) <<< ((24 : Int32) &&& 31)) ||| (((((p3_.toUInt32 >>> ((16 : Int32) &&& 31).toUInt32).toInt32).toInt8.toInt32) &&& (255 : Int32)) <<< ((16 : Int32) &&& 31))) ||| (((((p3_.toUInt32 >>> ((8 : Int32) &&& 31).toUInt32).toInt32).toInt8.toInt32) &&& (255 : Int32)) <<< ((8 : Int32) &&& 31))) ||| ((p3_.toInt8.toInt32) &&& (255 : Int32)))] [(.int p1_), (.int p0_), (.int (0 : Int32)), (.int (2 : Int32)), (.ref nb2_10)] _
              refine st43 _ ?_
              show own_S p e below m T43 168 #[lvI p0_, lvI p1_, lvI p2_, lvI p3_, lvI (0 : Int32), lvR b5, lvR nb2_10, lvI ((((((((p3_.toUInt32 >>> ((24 : Int32) &&& 31).toUInt32).toInt32).toInt8.toInt32) &&& (255 : Int32)) <<< ((24 : Int32) &&& 31)) ||| (((((p3_.toUInt32 >>> ((16 : Int32) &&& 31).toUInt32).toInt32).toInt8.toInt32) &&& (255 : Int32)) <<< ((16 : Int32) &&& 31))) ||| (((((p3_.toUInt32 >>> ((8 : Int32) &&& 31).toUInt32).toInt32).toInt8.toInt32) &&& (255 : Int32)) <<< ((8 : Int32) &&& 31))) ||| ((p3_.toInt8.toInt32) &&& (255 : Int32)))] [(.int (1 : Int32))] _
              refine XS.ifNo X43.here hx rfl (hb hby at_168) rfl ((if0 _ _).trans (feq (by decide : ¬ ((1 : Int32) = (0 : Int32)))).1) ?_
              refine XS.aload X43.here hx rfl (hb hby at_171) rfl rfl ?_
              refine XS.iconst X43.here hx rfl (hb hby at_173) ?_
              refine XS.iload X43.here hx rfl (hb hby at_174) rfl ?_
              show own_S p e below m T43 176 #[lvI p0_, lvI p1_, lvI p2_, lvI p3_, lvI (0 : Int32), lvR b5, lvR nb2_10, lvI ((((((((p3_.toUInt32 >>> ((24 : Int32) &&& 31).toUInt32).toInt32).toInt8.toInt32) &&& (255 : Int32)) <<< ((24 : Int32) &&& 31)) ||| (((((p3_.toUInt32 >>> ((16 : Int32) &&& 31).toUInt32).toInt32).toInt8.toInt32) &&& (255 : Int32)) <<< ((16 : Int32) &&& 31))) ||| (((((p3_.toUInt32 >>> ((8 : Int32) &&& 31).toUInt32).toInt32).toInt8.toInt32) &&& (255 : Int32)) <<< ((8 : Int32) &&& 31))) ||| ((p3_.toInt8.toInt32) &&& (255 : Int32)))] [(.int (0 : Int32)), (.int (3 : Int32)), (.ref nb2_10)] _
              refine XS.iloadN X43.here hx rfl (hb hby at_176) rfl ?_
              refine XS.iloadN X43.here hx rfl (hb hby at_177) rfl ?_
              show own_S p e below m T43 178 #[lvI p0_, lvI p1_, lvI p2_, lvI p3_, lvI (0 : Int32), lvR b5, lvR nb2_10, lvI ((((((((p3_.toUInt32 >>> ((24 : Int32) &&& 31).toUInt32).toInt32).toInt8.toInt32) &&& (255 : Int32)) <<< ((24 : Int32) &&& 31)) ||| (((((p3_.toUInt32 >>> ((16 : Int32) &&& 31).toUInt32).toInt32).toInt8.toInt32) &&& (255 : Int32)) <<< ((16 : Int32) &&& 31))) ||| (((((p3_.toUInt32 >>> ((8 : Int32) &&& 31).toUInt32).toInt32).toInt8.toInt32) &&& (255 : Int32)) <<< ((8 : Int32) &&& 31))) ||| ((p3_.toInt8.toInt32) &&& (255 : Int32)))] [(.int p1_), (.int p0_), (.int (0 : Int32)), (.int (3 : Int32)), (.ref nb2_10)] _
              refine st45 _ ?_
              show own_S p e below m T45 181 #[lvI p0_, lvI p1_, lvI p2_, lvI p3_, lvI (0 : Int32), lvR b5, lvR nb2_10, lvI ((((((((p3_.toUInt32 >>> ((24 : Int32) &&& 31).toUInt32).toInt32).toInt8.toInt32) &&& (255 : Int32)) <<< ((24 : Int32) &&& 31)) ||| (((((p3_.toUInt32 >>> ((16 : Int32) &&& 31).toUInt32).toInt32).toInt8.toInt32) &&& (255 : Int32)) <<< ((16 : Int32) &&& 31))) ||| (((((p3_.toUInt32 >>> ((8 : Int32) &&& 31).toUInt32).toInt32).toInt8.toInt32) &&& (255 : Int32)) <<< ((8 : Int32) &&& 31))) ||| ((p3_.toInt8.toInt32) &&& (255 : Int32)))] [(.int (1 : Int32))] _
              refine XS.ifNo X45.here hx rfl (hb hby at_181) rfl ((if0 _ _).trans (feq (by decide : ¬ ((1 : Int32) = (0 : Int32)))).1) ?_
              refine XS.aload X45.here hx rfl (hb hby at_184) rfl rfl ?_
              refine XS.iconst X45.here hx rfl (hb hby at_186) ?_
              refine XS.iload X45.here hx rfl (hb hby at_187) rfl ?_
              show own_S p e below m T45 189 #[lvI p0_, lvI p1_, lvI p2_, lvI p3_, lvI (0 : Int32), lvR b5, lvR nb2_10, lvI ((((((((p3_.toUInt32 >>> ((24 : Int32) &&& 31).toUInt32).toInt32).toInt8.toInt32) &&& (255 : Int32)) <<< ((24 : Int32) &&& 31)) ||| (((((p3_.toUInt32 >>> ((16 : Int32) &&& 31).toUInt32).toInt32).toInt8.toInt32) &&& (255 : Int32)) <<< ((16 : Int32) &&& 31))) ||| (((((p3_.toUInt32 >>> ((8 : Int32) &&& 31).toUInt32).toInt32).toInt8.toInt32) &&& (255 : Int32)) <<< ((8 : Int32) &&& 31))) ||| ((p3_.toInt8.toInt32) &&& (255 : Int32)))] [(.int (0 : Int32)), (.int (4 : Int32)), (.ref nb2_10)] _
              refine XS.iloadN X45.here hx rfl (hb hby at_189) rfl ?_
              refine XS.iloadN X45.here hx rfl (hb hby at_190) rfl ?_
              show own_S p e below m T45 191 #[lvI p0_, lvI p1_, lvI p2_, lvI p3_, lvI (0 : Int32), lvR b5, lvR nb2_10, lvI ((((((((p3_.toUInt32 >>> ((24 : Int32) &&& 31).toUInt32).toInt32).toInt8.toInt32) &&& (255 : Int32)) <<< ((24 : Int32) &&& 31)) ||| (((((p3_.toUInt32 >>> ((16 : Int32) &&& 31).toUInt32).toInt32).toInt8.toInt32) &&& (255 : Int32)) <<< ((16 : Int32) &&& 31))) ||| (((((p3_.toUInt32 >>> ((8 : Int32) &&& 31).toUInt32).toInt32).toInt8.toInt32) &&& (255 : Int32)) <<< ((8 : Int32) &&& 31))) ||| ((p3_.toInt8.toInt32) &&& (255 : Int32)))] [(.int p1_), (.int p0_), (.int (0 : Int32)), (.int (4 : Int32)), (.ref nb2_10)] _
              refine st47 _ ?_
              show own_S p e below m T47 194 #[lvI p0_, lvI p1_, lvI p2_, lvI p3_, lvI (0 : Int32), lvR b5, lvR nb2_10, lvI ((((((((p3_.toUInt32 >>> ((24 : Int32) &&& 31).toUInt32).toInt32).toInt8.toInt32) &&& (255 : Int32)) <<< ((24 : Int32) &&& 31)) ||| (((((p3_.toUInt32 >>> ((16 : Int32) &&& 31).toUInt32).toInt32).toInt8.toInt32) &&& (255 : Int32)) <<< ((16 : Int32) &&& 31))) ||| (((((p3_.toUInt32 >>> ((8 : Int32) &&& 31).toUInt32).toInt32).toInt8.toInt32) &&& (255 : Int32)) <<< ((8 : Int32) &&& 31))) ||| ((p3_.toInt8.toInt32) &&& (255 : Int32)))] [(.int (1 : Int32))] _
              refine XS.ifNo X47.here hx rfl (hb hby at_194) rfl ((if0 _ _).trans (feq (by decide : ¬ ((1 : Int32) = (0 : Int32)))).1) ?_
              refine XS.aload X47.here hx rfl (hb hby at_197) rfl rfl ?_
              refine XS.iconst X47.here hx rfl (hb hby at_199) ?_
              refine XS.iload X47.here hx rfl (hb hby at_200) rfl ?_
              show own_S p e below m T47 202 #[lvI p0_, lvI p1_, lvI p2_, lvI p3_, lvI (0 : Int32), lvR b5, lvR nb2_10, lvI ((((((((p3_.toUInt32 >>> ((24 : Int32) &&& 31).toUInt32).toInt32).toInt8.toInt32) &&& (255 : Int32)) <<< ((24 : Int32) &&& 31)) ||| (((((p3_.toUInt32 >>> ((16 : Int32) &&& 31).toUInt32).toInt32).toInt8.toInt32) &&& (255 : Int32)) <<< ((16 : Int32) &&& 31))) ||| (((((p3_.toUInt32 >>> ((8 : Int32) &&& 31).toUInt32).toInt32).toInt8.toInt32) &&& (255 : Int32)) <<< ((8 : Int32) &&& 31))) ||| ((p3_.toInt8.toInt32) &&& (255 : Int32)))] [(.int (0 : Int32)), (.int (5 : Int32)), (.ref nb2_10)] _
              refine XS.iloadN X47.here hx rfl (hb hby at_202) rfl ?_
              refine XS.iloadN X47.here hx rfl (hb hby at_203) rfl ?_
              show own_S p e below m T47 204 #[lvI p0_, lvI p1_, lvI p2_, lvI p3_, lvI (0 : Int32), lvR b5, lvR nb2_10, lvI ((((((((p3_.toUInt32 >>> ((24 : Int32) &&& 31).toUInt32).toInt32).toInt8.toInt32) &&& (255 : Int32)) <<< ((24 : Int32) &&& 31)) ||| (((((p3_.toUInt32 >>> ((16 : Int32) &&& 31).toUInt32).toInt32).toInt8.toInt32) &&& (255 : Int32)) <<< ((16 : Int32) &&& 31))) ||| (((((p3_.toUInt32 >>> ((8 : Int32) &&& 31).toUInt32).toInt32).toInt8.toInt32) &&& (255 : Int32)) <<< ((8 : Int32) &&& 31))) ||| ((p3_.toInt8.toInt32) &&& (255 : Int32)))] [(.int p1_), (.int p0_), (.int (0 : Int32)), (.int (5 : Int32)), (.ref nb2_10)] _
              refine st49 _ ?_
              show own_S p e below m T49 207 #[lvI p0_, lvI p1_, lvI p2_, lvI p3_, lvI (0 : Int32), lvR b5, lvR nb2_10, lvI ((((((((p3_.toUInt32 >>> ((24 : Int32) &&& 31).toUInt32).toInt32).toInt8.toInt32) &&& (255 : Int32)) <<< ((24 : Int32) &&& 31)) ||| (((((p3_.toUInt32 >>> ((16 : Int32) &&& 31).toUInt32).toInt32).toInt8.toInt32) &&& (255 : Int32)) <<< ((16 : Int32) &&& 31))) ||| (((((p3_.toUInt32 >>> ((8 : Int32) &&& 31).toUInt32).toInt32).toInt8.toInt32) &&& (255 : Int32)) <<< ((8 : Int32) &&& 31))) ||| ((p3_.toInt8.toInt32) &&& (255 : Int32)))] [(.int (1 : Int32))] _
              refine XS.ifNo X49.here hx rfl (hb hby at_207) rfl ((if0 _ _).trans (feq (by decide : ¬ ((1 : Int32) = (0 : Int32)))).1) ?_
              refine XS.aload X49.here hx rfl (hb hby at_210) rfl rfl ?_
              refine XS.bipush X49.here hx rfl (hb hby at_212) ?_
              refine XS.iload X49.here hx rfl (hb hby at_214) rfl ?_
              show own_S p e below m T49 216 #[lvI p0_, lvI p1_, lvI p2_, lvI p3_, lvI (0 : Int32), lvR b5, lvR nb2_10, lvI ((((((((p3_.toUInt32 >>> ((24 : Int32) &&& 31).toUInt32).toInt32).toInt8.toInt32) &&& (255 : Int32)) <<< ((24 : Int32) &&& 31)) ||| (((((p3_.toUInt32 >>> ((16 : Int32) &&& 31).toUInt32).toInt32).toInt8.toInt32) &&& (255 : Int32)) <<< ((16 : Int32) &&& 31))) ||| (((((p3_.toUInt32 >>> ((8 : Int32) &&& 31).toUInt32).toInt32).toInt8.toInt32) &&& (255 : Int32)) <<< ((8 : Int32) &&& 31))) ||| ((p3_.toInt8.toInt32) &&& (255 : Int32)))] [(.int (0 : Int32)), (.int (6 : Int32)), (.ref nb2_10)] _
              refine XS.iloadN X49.here hx rfl (hb hby at_216) rfl ?_
              refine XS.iloadN X49.here hx rfl (hb hby at_217) rfl ?_
              show own_S p e below m T49 218 #[lvI p0_, lvI p1_, lvI p2_, lvI p3_, lvI (0 : Int32), lvR b5, lvR nb2_10, lvI ((((((((p3_.toUInt32 >>> ((24 : Int32) &&& 31).toUInt32).toInt32).toInt8.toInt32) &&& (255 : Int32)) <<< ((24 : Int32) &&& 31)) ||| (((((p3_.toUInt32 >>> ((16 : Int32) &&& 31).toUInt32).toInt32).toInt8.toInt32) &&& (255 : Int32)) <<< ((16 : Int32) &&& 31))) ||| (((((p3_.toUInt32 >>> ((8 : Int32) &&& 31).toUInt32).toInt32).toInt8.toInt32) &&& (255 : Int32)) <<< ((8 : Int32) &&& 31))) ||| ((p3_.toInt8.toInt32) &&& (255 : Int32)))] [(.int p1_), (.int p0_), (.int (0 : Int32)), (.int (6 : Int32)), (.ref nb2_10)] _
              refine st51 _ ?_
              show own_S p e below m T51 221 #[lvI p0_, lvI p1_, lvI p2_, lvI p3_, lvI (0 : Int32), lvR b5, lvR nb2_10, lvI ((((((((p3_.toUInt32 >>> ((24 : Int32) &&& 31).toUInt32).toInt32).toInt8.toInt32) &&& (255 : Int32)) <<< ((24 : Int32) &&& 31)) ||| (((((p3_.toUInt32 >>> ((16 : Int32) &&& 31).toUInt32).toInt32).toInt8.toInt32) &&& (255 : Int32)) <<< ((16 : Int32) &&& 31))) ||| (((((p3_.toUInt32 >>> ((8 : Int32) &&& 31).toUInt32).toInt32).toInt8.toInt32) &&& (255 : Int32)) <<< ((8 : Int32) &&& 31))) ||| ((p3_.toInt8.toInt32) &&& (255 : Int32)))] [(.int (1 : Int32))] _
              refine XS.ifNo X51.here hx rfl (hb hby at_221) rfl ((if0 _ _).trans (feq (by decide : ¬ ((1 : Int32) = (0 : Int32)))).1) ?_
              refine XS.aload X51.here hx rfl (hb hby at_224) rfl rfl ?_
              refine XS.bipush X51.here hx rfl (hb hby at_226) ?_
              refine XS.iload X51.here hx rfl (hb hby at_228) rfl ?_
              show own_S p e below m T51 230 #[lvI p0_, lvI p1_, lvI p2_, lvI p3_, lvI (0 : Int32), lvR b5, lvR nb2_10, lvI ((((((((p3_.toUInt32 >>> ((24 : Int32) &&& 31).toUInt32).toInt32).toInt8.toInt32) &&& (255 : Int32)) <<< ((24 : Int32) &&& 31)) ||| (((((p3_.toUInt32 >>> ((16 : Int32) &&& 31).toUInt32).toInt32).toInt8.toInt32) &&& (255 : Int32)) <<< ((16 : Int32) &&& 31))) ||| (((((p3_.toUInt32 >>> ((8 : Int32) &&& 31).toUInt32).toInt32).toInt8.toInt32) &&& (255 : Int32)) <<< ((8 : Int32) &&& 31))) ||| ((p3_.toInt8.toInt32) &&& (255 : Int32)))] [(.int (0 : Int32)), (.int (7 : Int32)), (.ref nb2_10)] _
              refine XS.iloadN X51.here hx rfl (hb hby at_230) rfl ?_
              refine XS.iloadN X51.here hx rfl (hb hby at_231) rfl ?_
              show own_S p e below m T51 232 #[lvI p0_, lvI p1_, lvI p2_, lvI p3_, lvI (0 : Int32), lvR b5, lvR nb2_10, lvI ((((((((p3_.toUInt32 >>> ((24 : Int32) &&& 31).toUInt32).toInt32).toInt8.toInt32) &&& (255 : Int32)) <<< ((24 : Int32) &&& 31)) ||| (((((p3_.toUInt32 >>> ((16 : Int32) &&& 31).toUInt32).toInt32).toInt8.toInt32) &&& (255 : Int32)) <<< ((16 : Int32) &&& 31))) ||| (((((p3_.toUInt32 >>> ((8 : Int32) &&& 31).toUInt32).toInt32).toInt8.toInt32) &&& (255 : Int32)) <<< ((8 : Int32) &&& 31))) ||| ((p3_.toInt8.toInt32) &&& (255 : Int32)))] [(.int p1_), (.int p0_), (.int (0 : Int32)), (.int (7 : Int32)), (.ref nb2_10)] _
              refine st53 _ ?_
              show own_S p e below m T53 235 #[lvI p0_, lvI p1_, lvI p2_, lvI p3_, lvI (0 : Int32), lvR b5, lvR nb2_10, lvI ((((((((p3_.toUInt32 >>> ((24 : Int32) &&& 31).toUInt32).toInt32).toInt8.toInt32) &&& (255 : Int32)) <<< ((24 : Int32) &&& 31)) ||| (((((p3_.toUInt32 >>> ((16 : Int32) &&& 31).toUInt32).toInt32).toInt8.toInt32) &&& (255 : Int32)) <<< ((16 : Int32) &&& 31))) ||| (((((p3_.toUInt32 >>> ((8 : Int32) &&& 31).toUInt32).toInt32).toInt8.toInt32) &&& (255 : Int32)) <<< ((8 : Int32) &&& 31))) ||| ((p3_.toInt8.toInt32) &&& (255 : Int32)))] [(.int (1 : Int32))] _
              refine XS.ifNo X53.here hx rfl (hb hby at_235) rfl ((if0 _ _).trans (feq (by decide : ¬ ((1 : Int32) = (0 : Int32)))).1) ?_
              refine XS.iconst X53.here hx rfl (hb hby at_238) ?_
              refine XS.goto X53.here hx rfl (pc0 := 239) (pc' := 243) rfl (hb hby at_239) (by decide) (by decide) ?_
              exact kt
            obtain ⟨fs, hr, hrun, hended, hW, hsame⟩ := X53.leave (v := some (.int (1 : Int32))) (fun h => by rw [Bd.returns] at h; cases h)
            refine ⟨_, _, hG _ (pre55 _ (retN X53 hx (t := .boolean) Bd.returns (by simp) (hb hby at_243) hr)), hrun, hended, _, _, rfl, ?_, ⟨_, rfl⟩, hW, hsame.mono (by decide) (by decide)⟩
            show QLaw Z p0_ p1_ p2_ p3_ h0 n0 _ T53.heap _
            rw [e53']
            exact ⟨rfl, N54⟩
          · exact absurd (own_sh0 _) hq53_1_0
        · exact absurd (rfl : (((p1_.toUInt32 >>> ((8 : Int32) &&& 31).toUInt32).toInt32).toInt8.toInt32) = (((p1_.toUInt32 >>> ((8 : Int32) &&& 31).toUInt32).toInt32).toInt8.toInt32)) hq51_1_0
      · exact absurd (rfl : (((p1_.toUInt32 >>> ((16 : Int32) &&& 31).toUInt32).toInt32).toInt8.toInt32) = (((p1_.toUInt32 >>> ((16 : Int32) &&& 31).toUInt32).toInt32).toInt8.toInt32)) hq49_1_0
    · exact absurd (rfl : (((p1_.toUInt32 >>> ((24 : Int32) &&& 31).toUInt32).toInt32).toInt8.toInt32) = (((p1_.toUInt32 >>> ((24 : Int32) &&& 31).toUInt32).toInt32).toInt8.toInt32)) hq47_1_0
  · have pre57 : ∀ t, own_S p e below m s₁ 6 #[lvI p0_, lvI p1_, lvI p2_, lvI p3_, .unset, .unset, .unset, .unset] [(.int (1 : Int32))] t → G t := fun t kt => pre1 t (by rw [hv3]; exact kt)
    obtain ⟨T58, h58, X58, e58, E58, A58, D58, -, st58⟩ := newO X0 hx hZ hown (own_w hw 1 rfl) (own_w hw 2 rfl) (own_w hw 3 rfl) e0 (g := (mkF m 8 #[lvI p0_, lvI p1_, lvI p2_, lvI p3_, lvI (1 : Int32), .unset, .unset, .unset] [])) rfl (hb hby at_8) (by decide) (by decide)
    obtain ⟨b58, g58⟩ : ∃ z, z = h0.size := ⟨_, rfl⟩
    rw [← g58] at A58 D58 st58
    have ge59 : n0 ≤ b58 := Nat.le_trans (Nat.le_trans (Nat.le_of_eq O0.1.symm) O0.2.1) (Nat.le_of_eq g58.symm)
    have sz60 : h0.size ≤ b58 := Nat.le_trans K0.1 (Nat.le_of_eq g58.symm)
    have f61 : Fld Z h58 b58 cn0 "bytes" "[B" .null := D58 (Or.inl (own_w hw 12 rfl)) (ty := (.array .byte)) (by decide)
    have f62 : Fld Z h58 b58 cn0 "length" "I" (.int (0 : Int32)) := D58 (Or.inl (own_w hw 23 rfl)) (ty := .int) (by decide)
    have f64 : Old Z n0 h58 := O0.ext E58
    obtain ⟨_, _, ⟨T63, L63, k63, n63⟩, -, X63, ⟨Lc63, hQ63, l63, y63, z63⟩, st63⟩ := X58.specialBack hx (y := (⟨"com/example/stackweave/stackweave/classfile/ByteWriter", "<init>", "(I)V"⟩ : MethodName)) rfl hown (mvT hZ (own_w hw 4 rfl)) (mvT hZ (own_w hw 5 rfl)) (mvT hZ (own_w hw 6 rfl)) (by decide) (backOf (W := 1) (rminit1 l Z a0 hw [] b58 h58 n0 f64 A58 f61 f62 ge59) hZ (own_w hw 6 rfl) (own_w hw 3 rfl) (by decide) (by decide)) (g := (mkF m 14 #[lvI p0_, lvI p1_, lvI p2_, lvI p3_, lvI (1 : Int32), .unset, .unset, .unset] [(.int (8 : Int32)), (.ref b58), (.ref b58)])) rfl (by rw [hml]; rfl) (Steps.refl _) (a := b58) (argsL := [(.int (8 : Int32))]) (rest := [(.ref b58)]) (lenOf pd_0 rfl) rfl (by show 2 * 0 + _ ≤ _; exact Nat.le_of_eq rfl) (hb hby at_14) (fun _ _ => ⟨rfl, e58, (by decide : 1 + 1 ≤ _), (by decide : 2 + 8 ≤ _)⟩)
    dsimp only [Pt.U, Pt.locs, Pt.cells, Pt.slots] at X63 l63 y63 z63 st63 hQ63
    subst l63 y63 z63
    obtain ⟨h63, e63⟩ : ∃ z, T63.heap = z := ⟨_, rfl⟩
    rw [e63] at hQ63
    obtain ⟨k2_63, nb2_63, rfl, N63q, K63, sznb2_63, g63_0, g63_1, g63_2, g63_3, g63_4⟩ := hQ63
    have N65 := Fr.app N0 N63q
    have ge66 : n0 ≤ nb2_63 := Nat.le_trans (Nat.le_trans (Nat.le_of_eq f64.1.symm) f64.2.1) sznb2_63
    have f67 : Keep h0 h58 [] := K0.ext E58
    have sz68 : h0.size ≤ nb2_63 := Nat.le_trans f67.1 sznb2_63
    have ne70 : b58 ≠ nb2_63 := Nat.ne_of_lt (Nat.lt_of_lt_of_le A58.lt sznb2_63)
    have f71 : Old Z n0 h63 := f64.keep K63 (allS (ge59) all0)
    obtain ⟨cq69, kq69, q69a, q69b, q69c⟩ := isOf hZ e63 g63_0
    obtain ⟨_, _, ⟨T69, L69, k69, n69⟩, -, X69, ⟨Lc69, hQ69, l69, y69, z69⟩, st69⟩ := X63.virtualBack hx (y := (⟨"com/example/stackweave/stackweave/classfile/ByteWriter", "u4", "(I)V"⟩ : MethodName)) (z := (⟨"com/example/stackweave/stackweave/classfile/ByteWriter", "u4", "(I)V"⟩ : MethodName)) hown (mvT hZ (own_w hw 13 rfl)) (mvT hZ (own_w hw 14 rfl)) (notFace_of_selects (args := #[]) (mvT hZ (own_w hw 16 rfl))) (mvT hZ (own_w hw 16 rfl)) (mvT hZ (own_w hw 15 rfl)) (by decide) (backOf (W := 0) (rmu42 l Z a0 hw [] b58 p0_ nb2_63 k2_63 h63 n0 f71 g63_0 g63_1 g63_2 g63_3 g63_4 ge59 (Ne.symm ne70) ge66) hZ (own_w hw 17 rfl) (own_w hw 3 rfl) (by decide) (by decide)) q69a q69c (g := (mkF m 22 #[lvI p0_, lvI p1_, lvI p2_, lvI p3_, lvI (1 : Int32), lvR b58, .unset, .unset] [(.int p0_), (.ref b58)])) rfl (by rw [hml]; rfl) (Steps.refl _) (argsL := [(.int p0_)]) (rest := []) (lenOf pd_0 rfl) rfl (by show 2 * 0 + _ ≤ _; exact Nat.le_of_eq rfl) (hb hby at_22) (fun _ _ => ⟨rfl, e63, (by decide : 2 + 0 ≤ _), (by decide : 10 + 0 ≤ _)⟩)
    dsimp only [Pt.U, Pt.locs, Pt.cells, Pt.slots] at X69 l69 y69 z69 st69 hQ69
    subst l69 y69 z69
    obtain ⟨h69, e69⟩ : ∃ z, T69.heap = z := ⟨_, rfl⟩
    rw [e69] at hQ69
    obtain ⟨rfl, N69q, K69, g69_0, g69_1, g69_2, g69_3, g69_4⟩ := hQ69
    have N72 := Fr.app N65 N69q
    have f74 : Old Z n0 h69 := f71.keep K69 (allS (ge59) (allS (ge66) all0))
    obtain ⟨cq73, kq73, q73a, q73b, q73c⟩ := isOf hZ e69 g69_0
    obtain ⟨_, _, ⟨T73, L73, k73, n73⟩, -, X73, ⟨Lc73, hQ73, l73, y73, z73⟩, st73⟩ := X69.virtualBack hx (y := (⟨"com/example/stackweave/stackweave/classfile/ByteWriter", "u4", "(I)V"⟩ : MethodName)) (z := (⟨"com/example/stackweave/stackweave/classfile/ByteWriter", "u4", "(I)V"⟩ : MethodName)) hown (mvT hZ (own_w hw 13 rfl)) (mvT hZ (own_w hw 14 rfl)) (notFace_of_selects (args := #[]) (mvT hZ (own_w hw 16 rfl))) (mvT hZ (own_w hw 16 rfl)) (mvT hZ (own_w hw 15 rfl)) (by decide) (backOf (W := 0) (rmu44 l Z a0 hw [] b58 p1_ nb2_63 k2_63 (((p0_.toUInt32 >>> ((24 : Int32) &&& 31).toUInt32).toInt32).toInt8.toInt32) (((p0_.toUInt32 >>> ((16 : Int32) &&& 31).toUInt32).toInt32).toInt8.toInt32) (((p0_.toUInt32 >>> ((8 : Int32) &&& 31).toUInt32).toInt32).toInt8.toInt32) (p0_.toInt8.toInt32) h69 n0 f74 g69_0 g69_1 g69_2 g69_3 g69_4 ge59 (Ne.symm ne70) ge66) hZ (own_w hw 17 rfl) (own_w hw 3 rfl) (by decide) (by decide)) q73a q73c (g := (mkF m 28 #[lvI p0_, lvI p1_, lvI p2_, lvI p3_, lvI (1 : Int32), lvR b58, .unset, .unset] [(.int p1_), (.ref b58)])) rfl (by rw [hml]; rfl) (Steps.refl _) (argsL := [(.int p1_)]) (rest := []) (lenOf pd_0 rfl) rfl (by show 2 * 0 + _ ≤ _; exact Nat.le_of_eq rfl) (hb hby at_28) (fun _ _ => ⟨rfl, e69, (by decide : 2 + 0 ≤ _), (by decide : 10 + 0 ≤ _)⟩)
    dsimp only [Pt.U, Pt.locs, Pt.cells, Pt.slots] at X73 l73 y73 z73 st73 hQ73
    subst l73 y73 z73
    obtain ⟨h73, e73⟩ : ∃ z, T73.heap = z := ⟨_, rfl⟩
    rw [e73] at hQ73
    obtain ⟨rfl, N73q, K73, g73_0, g73_1, g73_2, g73_3, g73_4⟩ := hQ73
    have N75 := Fr.app N72 N73q
    have f77 : Old Z n0 h73 := f74.keep K73 (allS (ge59) (allS (ge66) all0))
    obtain ⟨cq76, kq76, q76a, q76b, q76c⟩ := isOf hZ e73 g73_0
    obtain ⟨_, _, ⟨T76, L76, k76, n76⟩, -, X76, ⟨Lc76, hQ76, l76, y76, z76⟩, st76⟩ := X73.virtualBack hx (y := (⟨"com/example/stackweave/stackweave/classfile/ByteWriter", "u4At", "(II)V"⟩ : MethodName)) (z := (⟨"com/example/stackweave/stackweave/classfile/ByteWriter", "u4At", "(II)V"⟩ : MethodName)) hown (mvT hZ (own_w hw 24 rfl)) (mvT hZ (own_w hw 25 rfl)) (notFace_of_selects (args := #[]) (mvT hZ (own_w hw 27 rfl))) (mvT hZ (own_w hw 27 rfl)) (mvT hZ (own_w hw 26 rfl)) (by decide) (backOf (W := 0) (rmu4At17 l Z a0 hw [] b58 p3_ nb2_63 k2_63 (((p0_.toUInt32 >>> ((24 : Int32) &&& 31).toUInt32).toInt32).toInt8.toInt32) (((p0_.toUInt32 >>> ((16 : Int32) &&& 31).toUInt32).toInt32).toInt8.toInt32) (((p0_.toUInt32 >>> ((8 : Int32) &&& 31).toUInt32).toInt32).toInt8.toInt32) (p0_.toInt8.toInt32) (((p1_.toUInt32 >>> ((24 : Int32) &&& 31).toUInt32).toInt32).toInt8.toInt32) (((p1_.toUInt32 >>> ((16 : Int32) &&& 31).toUInt32).toInt32).toInt8.toInt32) (((p1_.toUInt32 >>> ((8 : Int32) &&& 31).toUInt32).toInt32).toInt8.toInt32) (p1_.toInt8.toInt32) h73 n0 f77 g73_0 g73_1 g73_2 g73_3 g73_4 ge66 ne70) hZ (own_w hw 28 rfl) (own_w hw 3 rfl) (by decide) (by decide)) q76a q76c (g := (mkF m 36 #[lvI p0_, lvI p1_, lvI p2_, lvI p3_, lvI (1 : Int32), lvR b58, .unset, .unset] [(.int p3_), (.int (1 : Int32)), (.ref b58)])) rfl (by rw [hml]; rfl) (Steps.refl _) (argsL := [(.int (1 : Int32)), (.int p3_)]) (rest := []) (lenOf pd_1 rfl) rfl (by show 2 * 0 + _ ≤ _; exact Nat.le_of_eq rfl) (hb hby at_36) (fun _ _ => ⟨rfl, e73, (by decide : 2 + 0 ≤ _), (by decide : 10 + 0 ≤ _)⟩)
    dsimp only [Pt.U, Pt.locs, Pt.cells, Pt.slots] at X76 l76 y76 z76 st76 hQ76
    subst l76 y76 z76
    obtain ⟨h76, e76⟩ : ∃ z, T76.heap = z := ⟨_, rfl⟩
    rw [e76] at hQ76
    obtain ⟨rfl, N76q, K76, g76_0, g76_1⟩ := hQ76
    have N78 := Fr.app N75 N76q
    have f80 : Exa Z h76 b58 cn0 := g73_0.keep K76
    have f81 : Fld Z h76 b58 cn0 "bytes" "[B" (.ref nb2_63) := g73_1.keep K76 (ninS ne70 nin0)
    have f82 : Fld Z h76 b58 cn0 "length" "I" (.int (8 : Int32)) := g73_2.keep K76 (ninS ne70 nin0)
    have f83 : Old Z n0 h76 := f77.keep K76 (allS (ge66) all0)
    obtain ⟨cq79, kq79, q79a, q79b, q79c⟩ := isOf hZ e76 f80
    obtain ⟨_, _, ⟨T79, L79, k79, n79⟩, -, X79, ⟨Lc79, hQ79, l79, y79, z79⟩, st79⟩ := X76.virtualBack hx (y := (⟨"com/example/stackweave/stackweave/classfile/ByteWriter", "length", "()I"⟩ : MethodName)) (z := (⟨"com/example/stackweave/stackweave/classfile/ByteWriter", "length", "()I"⟩ : MethodName)) hown (mvT hZ (own_w hw 29 rfl)) (mvT hZ (own_w hw 30 rfl)) (notFace_of_selects (args := #[]) (mvT hZ (own_w hw 32 rfl))) (mvT hZ (own_w hw 32 rfl)) (mvT hZ (own_w hw 31 rfl)) (by decide) (backOf (W := 0) (rmlength7 l Z a0 hw [] b58 nb2_63 k2_63 (((p0_.toUInt32 >>> ((24 : Int32) &&& 31).toUInt32).toInt32).toInt8.toInt32) (((p3_.toUInt32 >>> ((24 : Int32) &&& 31).toUInt32).toInt32).toInt8.toInt32) (((p3_.toUInt32 >>> ((16 : Int32) &&& 31).toUInt32).toInt32).toInt8.toInt32) (((p3_.toUInt32 >>> ((8 : Int32) &&& 31).toUInt32).toInt32).toInt8.toInt32) (p3_.toInt8.toInt32) (((p1_.toUInt32 >>> ((16 : Int32) &&& 31).toUInt32).toInt32).toInt8.toInt32) (((p1_.toUInt32 >>> ((8 : Int32) &&& 31).toUInt32).toInt32).toInt8.toInt32) (p1_.toInt8.toInt32) h76 n0 f83 f80 f81 f82 g76_0 g76_1) hZ (own_w hw 33 rfl) (own_w hw 3 rfl) (by decide) (by decide)) q79a q79c (g := (mkF m 41 #[lvI p0_, lvI p1_, lvI p2_, lvI p3_, lvI (1 : Int32), lvR b58, .unset, .unset] [(.ref b58)])) rfl (by rw [hml]; rfl) (Steps.refl _) (argsL := []) (rest := []) (lenOf pd_2 rfl) rfl (by show 2 * 0 + _ ≤ _; exact Nat.le_of_eq rfl) (hb hby at_41) (fun _ _ => ⟨rfl, e76, (by decide : 2 + 0 ≤ _), (by decide : 10 + 0 ≤ _)⟩)
    dsimp only [Pt.U, Pt.locs, Pt.cells, Pt.slots] at X79 l79 y79 z79 st79 hQ79
    subst l79 y79 z79
    obtain ⟨h79, e79⟩ : ∃ z, T79.heap = z := ⟨_, rfl⟩
    rw [e79] at hQ79
    obtain ⟨rfl, N79q, hh79⟩ := hQ79
    have N84 := Fr.app N78 N79q
    have e79' : T79.heap = h76 := e79.trans hh79
    obtain ⟨cq85, kq85, q85a, q85b, q85c⟩ := isOf hZ e79' f80
    obtain ⟨_, _, ⟨T85, L85, k85, n85⟩, -, X85, ⟨Lc85, hQ85, l85, y85, z85⟩, st85⟩ := X79.virtualBack hx (y := (⟨"com/example/stackweave/stackweave/classfile/ByteWriter", "filledArray", "()[B"⟩ : MethodName)) (z := (⟨"com/example/stackweave/stackweave/classfile/ByteWriter", "filledArray", "()[B"⟩ : MethodName)) hown (mvT hZ (own_w hw 34 rfl)) (mvT hZ (own_w hw 35 rfl)) (notFace_of_selects (args := #[]) (mvT hZ (own_w hw 37 rfl))) (mvT hZ (own_w hw 37 rfl)) (mvT hZ (own_w hw 36 rfl)) (by decide) (backOf (W := 0) (rmfilledArray8 l Z a0 hw [] b58 nb2_63 k2_63 (((p0_.toUInt32 >>> ((24 : Int32) &&& 31).toUInt32).toInt32).toInt8.toInt32) (((p3_.toUInt32 >>> ((24 : Int32) &&& 31).toUInt32).toInt32).toInt8.toInt32) (((p3_.toUInt32 >>> ((16 : Int32) &&& 31).toUInt32).toInt32).toInt8.toInt32) (((p3_.toUInt32 >>> ((8 : Int32) &&& 31).toUInt32).toInt32).toInt8.toInt32) (p3_.toInt8.toInt32) (((p1_.toUInt32 >>> ((16 : Int32) &&& 31).toUInt32).toInt32).toInt8.toInt32) (((p1_.toUInt32 >>> ((8 : Int32) &&& 31).toUInt32).toInt32).toInt8.toInt32) (p1_.toInt8.toInt32) h76 n0 f83 f80 f81 f82 g76_0 g76_1) hZ (own_w hw 38 rfl) (own_w hw 3 rfl) (by decide) (by decide)) q85a q85c (g := (mkF m 53 #[lvI p0_, lvI p1_, lvI p2_, lvI p3_, lvI (1 : Int32), lvR b58, .unset, .unset] [(.ref b58)])) rfl (by rw [hml]; rfl) (Steps.refl _) (argsL := []) (rest := []) (lenOf pd_3 rfl) rfl (by show 2 * 0 + _ ≤ _; exact Nat.le_of_eq rfl) (hb hby at_53) (fun _ _ => ⟨rfl, e79', (by decide : 2 + 0 ≤ _), (by decide : 10 + 0 ≤ _)⟩)
    dsimp only [Pt.U, Pt.locs, Pt.cells, Pt.slots] at X85 l85 y85 z85 st85 hQ85
    subst l85 y85 z85
    obtain ⟨h85, e85⟩ : ∃ z, T85.heap = z := ⟨_, rfl⟩
    rw [e85] at hQ85
    obtain ⟨rfl, N85q, hh85⟩ := hQ85
    have N86 := Fr.app N84 N85q
    have e85' : T85.heap = h76 := e85.trans hh85
    obtain ⟨c87, r87, q87, s87, z87, y87, G87⟩ := id g76_0
    obtain ⟨c88, r88, q88, s88, z88, y88, G88⟩ := id g76_0
    have hin88 : ¬ ((1 : Int32) < 0 ∨ c88.slots.size ≤ ((1 : Int32)).toNatClampNeg) := inb_of s88 ⟨by decide, by decide⟩
    have hat88 : c88.slots[((1 : Int32)).toNatClampNeg]? = some (.int (((p3_.toUInt32 >>> ((24 : Int32) &&& 31).toUInt32).toInt32).toInt8.toInt32)) := Has.at y88 hin88 rfl
    obtain ⟨c89, r89, q89, s89, z89, y89, G89⟩ := id g76_0
    have hin89 : ¬ ((2 : Int32) < 0 ∨ c89.slots.size ≤ ((2 : Int32)).toNatClampNeg) := inb_of s89 ⟨by decide, by decide⟩
    have hat89 : c89.slots[((2 : Int32)).toNatClampNeg]? = some (.int (((p3_.toUInt32 >>> ((16 : Int32) &&& 31).toUInt32).toInt32).toInt8.toInt32)) := Has.at y89 hin89 rfl
    obtain ⟨c90, r90, q90, s90, z90, y90, G90⟩ := id g76_0
    have hin90 : ¬ ((3 : Int32) < 0 ∨ c90.slots.size ≤ ((3 : Int32)).toNatClampNeg) := inb_of s90 ⟨by decide, by decide⟩
    have hat90 : c90.slots[((3 : Int32)).toNatClampNeg]? = some (.int (((p3_.toUInt32 >>> ((8 : Int32) &&& 31).toUInt32).toInt32).toInt8.toInt32)) := Has.at y90 hin90 rfl
    obtain ⟨c91, r91, q91, s91, z91, y91, G91⟩ := id g76_0
    have hin91 : ¬ ((4 : Int32) < 0 ∨ c91.slots.size ≤ ((4 : Int32)).toNatClampNeg) := inb_of s91 ⟨by decide, by decide⟩
    have hat91 : c91.slots[((4 : Int32)).toNatClampNeg]? = some (.int (p3_.toInt8.toInt32)) := Has.at y91 hin91 rfl
    obtain ⟨_, _, ⟨T92, L92, k92, n92⟩, -, X92, ⟨Lc92, hQ92, l92, y92, z92⟩, st92⟩ := Jvm.LawKit.callS X85 hx (y := (⟨"com/example/stackweave/stackweave/classfile/ByteWriterU4AtPinLaw", "keeps", "([BIIII)Z"⟩ : MethodName)) hown (mvT hZ (own_w hw 39 rfl)) (mvT hZ (own_w hw 40 rfl)) (mvT hZ (own_w hw 41 rfl)) (mvT hZ (own_w hw 42 rfl)) (by decide) (backOf (W := 0) (rmkeeps18 l Z a0 hw [] nb2_63 p0_ p1_ k2_63 (((p0_.toUInt32 >>> ((24 : Int32) &&& 31).toUInt32).toInt32).toInt8.toInt32) (((p3_.toUInt32 >>> ((24 : Int32) &&& 31).toUInt32).toInt32).toInt8.toInt32) (((p3_.toUInt32 >>> ((16 : Int32) &&& 31).toUInt32).toInt32).toInt8.toInt32) (((p3_.toUInt32 >>> ((8 : Int32) &&& 31).toUInt32).toInt32).toInt8.toInt32) (p3_.toInt8.toInt32) (((p1_.toUInt32 >>> ((16 : Int32) &&& 31).toUInt32).toInt32).toInt8.toInt32) (((p1_.toUInt32 >>> ((8 : Int32) &&& 31).toUInt32).toInt32).toInt8.toInt32) (p1_.toInt8.toInt32) h76 n0 f83 g76_0 g76_1) hZ (own_w hw 42 rfl) (own_w hw 41 rfl) (by decide) (by decide)) (g := (mkF m 139 #[lvI p0_, lvI p1_, lvI p2_, lvI p3_, lvI (1 : Int32), lvR b58, lvR nb2_63, lvI ((((((((p3_.toUInt32 >>> ((24 : Int32) &&& 31).toUInt32).toInt32).toInt8.toInt32) &&& (255 : Int32)) <<< ((24 : Int32) &&& 31)) ||| (((((p3_.toUInt32 >>> ((16 : Int32) &&& 31).toUInt32).toInt32).toInt8.toInt32) &&& (255 : Int32)) <<< ((16 : Int32) &&& 31))) ||| (((((p3_.toUInt32 >>> ((8 : Int32) &&& 31).toUInt32).toInt32).toInt8.toInt32) &&& (255 : Int32)) <<< ((8 : Int32) &&& 31))) ||| ((p3_.toInt8.toInt32) &&& (255 : Int32)))] [(.int p1_), (.int p0_), (.int (1 : Int32)), (.int (0 : Int32)), (.ref nb2_63)])) rfl (by rw [hml]; rfl) (argsL := [(.ref nb2_63), (.int (0 : Int32)), (.int (1 : Int32)), (.int p0_), (.int p1_)]) (rest := []) (lenOf pd_4 rfl) rfl (by show 2 * 0 + _ ≤ _; exact Nat.le_of_eq rfl) (hb hby at_139) (fun _ _ => ⟨rfl, e85', (by decide : 2 + 0 ≤ _), (by decide : 10 + 0 ≤ _)⟩)
    dsimp only [Pt.U, Pt.locs, Pt.cells, Pt.slots] at X92 l92 y92 z92 st92 hQ92
    subst l92 y92 z92
    obtain ⟨h92, e92⟩ : ∃ z, T92.heap = z := ⟨_, rfl⟩
    rw [e92] at hQ92
    obtain ⟨rr92, rfl, hs92, N92q, hh92⟩ := hQ92
    have N93 := Fr.app N86 N92q
    have e92' : T92.heap = h76 := e92.trans hh92
    rcases hs92 with ⟨rfl, hq92_0_0⟩ | ⟨rfl, hq92_1_0⟩
    · obtain ⟨_, _, ⟨T94, L94, k94, n94⟩, -, X94, ⟨Lc94, hQ94, l94, y94, z94⟩, st94⟩ := Jvm.LawKit.callS X92 hx (y := (⟨"com/example/stackweave/stackweave/classfile/ByteWriterU4AtPinLaw", "keeps", "([BIIII)Z"⟩ : MethodName)) hown (mvT hZ (own_w hw 39 rfl)) (mvT hZ (own_w hw 40 rfl)) (mvT hZ (own_w hw 41 rfl)) (mvT hZ (own_w hw 42 rfl)) (by decide) (backOf (W := 0) (rmkeeps19 l Z a0 hw [] nb2_63 p0_ p1_ k2_63 (((p0_.toUInt32 >>> ((24 : Int32) &&& 31).toUInt32).toInt32).toInt8.toInt32) (((p3_.toUInt32 >>> ((24 : Int32) &&& 31).toUInt32).toInt32).toInt8.toInt32) (((p3_.toUInt32 >>> ((16 : Int32) &&& 31).toUInt32).toInt32).toInt8.toInt32) (((p3_.toUInt32 >>> ((8 : Int32) &&& 31).toUInt32).toInt32).toInt8.toInt32) (p3_.toInt8.toInt32) (((p1_.toUInt32 >>> ((16 : Int32) &&& 31).toUInt32).toInt32).toInt8.toInt32) (((p1_.toUInt32 >>> ((8 : Int32) &&& 31).toUInt32).toInt32).toInt8.toInt32) (p1_.toInt8.toInt32) h76 n0 f83 g76_0 g76_1) hZ (own_w hw 42 rfl) (own_w hw 41 rfl) (by decide) (by decide)) (g := (mkF m 152 #[lvI p0_, lvI p1_, lvI p2_, lvI p3_, lvI (1 : Int32), lvR b58, lvR nb2_63, lvI ((((((((p3_.toUInt32 >>> ((24 : Int32) &&& 31).toUInt32).toInt32).toInt8.toInt32) &&& (255 : Int32)) <<< ((24 : Int32) &&& 31)) ||| (((((p3_.toUInt32 >>> ((16 : Int32) &&& 31).toUInt32).toInt32).toInt8.toInt32) &&& (255 : Int32)) <<< ((16 : Int32) &&& 31))) ||| (((((p3_.toUInt32 >>> ((8 : Int32) &&& 31).toUInt32).toInt32).toInt8.toInt32) &&& (255 : Int32)) <<< ((8 : Int32) &&& 31))) ||| ((p3_.toInt8.toInt32) &&& (255 : Int32)))] [(.int p1_), (.int p0_), (.int (1 : Int32)), (.int (1 : Int32)), (.ref nb2_63)])) rfl (by rw [hml]; rfl) (argsL := [(.ref nb2_63), (.int (1 : Int32)), (.int (1 : Int32)), (.int p0_), (.int p1_)]) (rest := []) (lenOf pd_4 rfl) rfl (by show 2 * 0 + _ ≤ _; exact Nat.le_of_eq rfl) (hb hby at_152) (fun _ _ => ⟨rfl, e92', (by decide : 2 + 0 ≤ _), (by decide : 10 + 0 ≤ _)⟩)
      dsimp only [Pt.U, Pt.locs, Pt.cells, Pt.slots] at X94 l94 y94 z94 st94 hQ94
      subst l94 y94 z94
      obtain ⟨h94, e94⟩ : ∃ z, T94.heap = z := ⟨_, rfl⟩
      rw [e94] at hQ94
      obtain ⟨rfl, N94q, hh94⟩ := hQ94
      have N95 := Fr.app N93 N94q
      have e94' : T94.heap = h76 := e94.trans hh94
      obtain ⟨_, _, ⟨T96, L96, k96, n96⟩, -, X96, ⟨Lc96, hQ96, l96, y96, z96⟩, st96⟩ := Jvm.LawKit.callS X94 hx (y := (⟨"com/example/stackweave/stackweave/classfile/ByteWriterU4AtPinLaw", "keeps", "([BIIII)Z"⟩ : MethodName)) hown (mvT hZ (own_w hw 39 rfl)) (mvT hZ (own_w hw 40 rfl)) (mvT hZ (own_w hw 41 rfl)) (mvT hZ (own_w hw 42 rfl)) (by decide) (backOf (W := 0) (rmkeeps20 l Z a0 hw [] nb2_63 p0_ p1_ k2_63 (((p0_.toUInt32 >>> ((24 : Int32) &&& 31).toUInt32).toInt32).toInt8.toInt32) (((p3_.toUInt32 >>> ((24 : Int32) &&& 31).toUInt32).toInt32).toInt8.toInt32) (((p3_.toUInt32 >>> ((16 : Int32) &&& 31).toUInt32).toInt32).toInt8.toInt32) (((p3_.toUInt32 >>> ((8 : Int32) &&& 31).toUInt32).toInt32).toInt8.toInt32) (p3_.toInt8.toInt32) (((p1_.toUInt32 >>> ((16 : Int32) &&& 31).toUInt32).toInt32).toInt8.toInt32) (((p1_.toUInt32 >>> ((8 : Int32) &&& 31).toUInt32).toInt32).toInt8.toInt32) (p1_.toInt8.toInt32) h76 n0 f83 g76_0 g76_1) hZ (own_w hw 42 rfl) (own_w hw 41 rfl) (by decide) (by decide)) (g := (mkF m 165 #[lvI p0_, lvI p1_, lvI p2_, lvI p3_, lvI (1 : Int32), lvR b58, lvR nb2_63, lvI ((((((((p3_.toUInt32 >>> ((24 : Int32) &&& 31).toUInt32).toInt32).toInt8.toInt32) &&& (255 : Int32)) <<< ((24 : Int32) &&& 31)) ||| (((((p3_.toUInt32 >>> ((16 : Int32) &&& 31).toUInt32).toInt32).toInt8.toInt32) &&& (255 : Int32)) <<< ((16 : Int32) &&& 31))) ||| (((((p3_.toUInt32 >>> ((8 : Int32) &&& 31).toUInt32).toInt32).toInt8.toInt32) &&& (255 : Int32)) <<< ((8 : Int32) &&& 31))) ||| ((p3_.toInt8.toInt32) &&& (255 : Int32)))] [(.int p1_), (.int p0_), (.int (1 : Int32)), (.int (2 : Int32)), (.ref nb2_63)])) rfl (by rw [hml]; rfl) (argsL := [(.ref nb2_63), (.int (2 : Int32)), (.int (1 : Int32)), (.int p0_), (.int p1_)]) (rest := []) (lenOf pd_4 rfl) rfl (by show 2 * 0 + _ ≤ _; exact Nat.le_of_eq rfl) (hb hby at_165) (fun _ _ => ⟨rfl, e94', (by decide : 2 + 0 ≤ _), (by decide : 10 + 0 ≤ _)⟩)
      dsimp only [Pt.U, Pt.locs, Pt.cells, Pt.slots] at X96 l96 y96 z96 st96 hQ96
      subst l96 y96 z96
      obtain ⟨h96, e96⟩ : ∃ z, T96.heap = z := ⟨_, rfl⟩
      rw [e96] at hQ96
      obtain ⟨rfl, N96q, hh96⟩ := hQ96
      have N97 := Fr.app N95 N96q
      have e96' : T96.heap = h76 := e96.trans hh96
      obtain ⟨_, _, ⟨T98, L98, k98, n98⟩, -, X98, ⟨Lc98, hQ98, l98, y98, z98⟩, st98⟩ := Jvm.LawKit.callS X96 hx (y := (⟨"com/example/stackweave/stackweave/classfile/ByteWriterU4AtPinLaw", "keeps", "([BIIII)Z"⟩ : MethodName)) hown (mvT hZ (own_w hw 39 rfl)) (mvT hZ (own_w hw 40 rfl)) (mvT hZ (own_w hw 41 rfl)) (mvT hZ (own_w hw 42 rfl)) (by decide) (backOf (W := 0) (rmkeeps21 l Z a0 hw [] nb2_63 p0_ p1_ k2_63 (((p0_.toUInt32 >>> ((24 : Int32) &&& 31).toUInt32).toInt32).toInt8.toInt32) (((p3_.toUInt32 >>> ((24 : Int32) &&& 31).toUInt32).toInt32).toInt8.toInt32) (((p3_.toUInt32 >>> ((16 : Int32) &&& 31).toUInt32).toInt32).toInt8.toInt32) (((p3_.toUInt32 >>> ((8 : Int32) &&& 31).toUInt32).toInt32).toInt8.toInt32) (p3_.toInt8.toInt32) (((p1_.toUInt32 >>> ((16 : Int32) &&& 31).toUInt32).toInt32).toInt8.toInt32) (((p1_.toUInt32 >>> ((8 : Int32) &&& 31).toUInt32).toInt32).toInt8.toInt32) (p1_.toInt8.toInt32) h76 n0 f83 g76_0 g76_1) hZ (own_w hw 42 rfl) (own_w hw 41 rfl) (by decide) (by decide)) (g := (mkF m 178 #[lvI p0_, lvI p1_, lvI p2_, lvI p3_, lvI (1 : Int32), lvR b58, lvR nb2_63, lvI ((((((((p3_.toUInt32 >>> ((24 : Int32) &&& 31).toUInt32).toInt32).toInt8.toInt32) &&& (255 : Int32)) <<< ((24 : Int32) &&& 31)) ||| (((((p3_.toUInt32 >>> ((16 : Int32) &&& 31).toUInt32).toInt32).toInt8.toInt32) &&& (255 : Int32)) <<< ((16 : Int32) &&& 31))) ||| (((((p3_.toUInt32 >>> ((8 : Int32) &&& 31).toUInt32).toInt32).toInt8.toInt32) &&& (255 : Int32)) <<< ((8 : Int32) &&& 31))) ||| ((p3_.toInt8.toInt32) &&& (255 : Int32)))] [(.int p1_), (.int p0_), (.int (1 : Int32)), (.int (3 : Int32)), (.ref nb2_63)])) rfl (by rw [hml]; rfl) (argsL := [(.ref nb2_63), (.int (3 : Int32)), (.int (1 : Int32)), (.int p0_), (.int p1_)]) (rest := []) (lenOf pd_4 rfl) rfl (by show 2 * 0 + _ ≤ _; exact Nat.le_of_eq rfl) (hb hby at_178) (fun _ _ => ⟨rfl, e96', (by decide : 2 + 0 ≤ _), (by decide : 10 + 0 ≤ _)⟩)
      dsimp only [Pt.U, Pt.locs, Pt.cells, Pt.slots] at X98 l98 y98 z98 st98 hQ98
      subst l98 y98 z98
      obtain ⟨h98, e98⟩ : ∃ z, T98.heap = z := ⟨_, rfl⟩
      rw [e98] at hQ98
      obtain ⟨rfl, N98q, hh98⟩ := hQ98
      have N99 := Fr.app N97 N98q
      have e98' : T98.heap = h76 := e98.trans hh98
      obtain ⟨_, _, ⟨T100, L100, k100, n100⟩, -, X100, ⟨Lc100, hQ100, l100, y100, z100⟩, st100⟩ := Jvm.LawKit.callS X98 hx (y := (⟨"com/example/stackweave/stackweave/classfile/ByteWriterU4AtPinLaw", "keeps", "([BIIII)Z"⟩ : MethodName)) hown (mvT hZ (own_w hw 39 rfl)) (mvT hZ (own_w hw 40 rfl)) (mvT hZ (own_w hw 41 rfl)) (mvT hZ (own_w hw 42 rfl)) (by decide) (backOf (W := 0) (rmkeeps22 l Z a0 hw [] nb2_63 p0_ p1_ k2_63 (((p0_.toUInt32 >>> ((24 : Int32) &&& 31).toUInt32).toInt32).toInt8.toInt32) (((p3_.toUInt32 >>> ((24 : Int32) &&& 31).toUInt32).toInt32).toInt8.toInt32) (((p3_.toUInt32 >>> ((16 : Int32) &&& 31).toUInt32).toInt32).toInt8.toInt32) (((p3_.toUInt32 >>> ((8 : Int32) &&& 31).toUInt32).toInt32).toInt8.toInt32) (p3_.toInt8.toInt32) (((p1_.toUInt32 >>> ((16 : Int32) &&& 31).toUInt32).toInt32).toInt8.toInt32) (((p1_.toUInt32 >>> ((8 : Int32) &&& 31).toUInt32).toInt32).toInt8.toInt32) (p1_.toInt8.toInt32) h76 n0 f83 g76_0 g76_1) hZ (own_w hw 42 rfl) (own_w hw 41 rfl) (by decide) (by decide)) (g := (mkF m 191 #[lvI p0_, lvI p1_, lvI p2_, lvI p3_, lvI (1 : Int32), lvR b58, lvR nb2_63, lvI ((((((((p3_.toUInt32 >>> ((24 : Int32) &&& 31).toUInt32).toInt32).toInt8.toInt32) &&& (255 : Int32)) <<< ((24 : Int32) &&& 31)) ||| (((((p3_.toUInt32 >>> ((16 : Int32) &&& 31).toUInt32).toInt32).toInt8.toInt32) &&& (255 : Int32)) <<< ((16 : Int32) &&& 31))) ||| (((((p3_.toUInt32 >>> ((8 : Int32) &&& 31).toUInt32).toInt32).toInt8.toInt32) &&& (255 : Int32)) <<< ((8 : Int32) &&& 31))) ||| ((p3_.toInt8.toInt32) &&& (255 : Int32)))] [(.int p1_), (.int p0_), (.int (1 : Int32)), (.int (4 : Int32)), (.ref nb2_63)])) rfl (by rw [hml]; rfl) (argsL := [(.ref nb2_63), (.int (4 : Int32)), (.int (1 : Int32)), (.int p0_), (.int p1_)]) (rest := []) (lenOf pd_4 rfl) rfl (by show 2 * 0 + _ ≤ _; exact Nat.le_of_eq rfl) (hb hby at_191) (fun _ _ => ⟨rfl, e98', (by decide : 2 + 0 ≤ _), (by decide : 10 + 0 ≤ _)⟩)
      dsimp only [Pt.U, Pt.locs, Pt.cells, Pt.slots] at X100 l100 y100 z100 st100 hQ100
      subst l100 y100 z100
      obtain ⟨h100, e100⟩ : ∃ z, T100.heap = z := ⟨_, rfl⟩
      rw [e100] at hQ100
      obtain ⟨rfl, N100q, hh100⟩ := hQ100
      have N101 := Fr.app N99 N100q
      have e100' : T100.heap = h76 := e100.trans hh100
      obtain ⟨_, _, ⟨T102, L102, k102, n102⟩, -, X102, ⟨Lc102, hQ102, l102, y102, z102⟩, st102⟩ := Jvm.LawKit.callS X100 hx (y := (⟨"com/example/stackweave/stackweave/classfile/ByteWriterU4AtPinLaw", "keeps", "([BIIII)Z"⟩ : MethodName)) hown (mvT hZ (own_w hw 39 rfl)) (mvT hZ (own_w hw 40 rfl)) (mvT hZ (own_w hw 41 rfl)) (mvT hZ (own_w hw 42 rfl)) (by decide) (backOf (W := 0) (rmkeeps23 l Z a0 hw [] nb2_63 p0_ p1_ k2_63 (((p0_.toUInt32 >>> ((24 : Int32) &&& 31).toUInt32).toInt32).toInt8.toInt32) (((p3_.toUInt32 >>> ((24 : Int32) &&& 31).toUInt32).toInt32).toInt8.toInt32) (((p3_.toUInt32 >>> ((16 : Int32) &&& 31).toUInt32).toInt32).toInt8.toInt32) (((p3_.toUInt32 >>> ((8 : Int32) &&& 31).toUInt32).toInt32).toInt8.toInt32) (p3_.toInt8.toInt32) (((p1_.toUInt32 >>> ((16 : Int32) &&& 31).toUInt32).toInt32).toInt8.toInt32) (((p1_.toUInt32 >>> ((8 : Int32) &&& 31).toUInt32).toInt32).toInt8.toInt32) (p1_.toInt8.toInt32) h76 n0 f83 g76_0 g76_1) hZ (own_w hw 42 rfl) (own_w hw 41 rfl) (by decide) (by decide)) (g := (mkF m 204 #[lvI p0_, lvI p1_, lvI p2_, lvI p3_, lvI (1 : Int32), lvR b58, lvR nb2_63, lvI ((((((((p3_.toUInt32 >>> ((24 : Int32) &&& 31).toUInt32).toInt32).toInt8.toInt32) &&& (255 : Int32)) <<< ((24 : Int32) &&& 31)) ||| (((((p3_.toUInt32 >>> ((16 : Int32) &&& 31).toUInt32).toInt32).toInt8.toInt32) &&& (255 : Int32)) <<< ((16 : Int32) &&& 31))) ||| (((((p3_.toUInt32 >>> ((8 : Int32) &&& 31).toUInt32).toInt32).toInt8.toInt32) &&& (255 : Int32)) <<< ((8 : Int32) &&& 31))) ||| ((p3_.toInt8.toInt32) &&& (255 : Int32)))] [(.int p1_), (.int p0_), (.int (1 : Int32)), (.int (5 : Int32)), (.ref nb2_63)])) rfl (by rw [hml]; rfl) (argsL := [(.ref nb2_63), (.int (5 : Int32)), (.int (1 : Int32)), (.int p0_), (.int p1_)]) (rest := []) (lenOf pd_4 rfl) rfl (by show 2 * 0 + _ ≤ _; exact Nat.le_of_eq rfl) (hb hby at_204) (fun _ _ => ⟨rfl, e100', (by decide : 2 + 0 ≤ _), (by decide : 10 + 0 ≤ _)⟩)
      dsimp only [Pt.U, Pt.locs, Pt.cells, Pt.slots] at X102 l102 y102 z102 st102 hQ102
      subst l102 y102 z102
      obtain ⟨h102, e102⟩ : ∃ z, T102.heap = z := ⟨_, rfl⟩
      rw [e102] at hQ102
      obtain ⟨rr102, rfl, hs102, N102q, hh102⟩ := hQ102
      have N103 := Fr.app N101 N102q
      have e102' : T102.heap = h76 := e102.trans hh102
      rcases hs102 with ⟨rfl, hq102_0_0⟩ | ⟨rfl, hq102_1_0⟩
      · obtain ⟨_, _, ⟨T104, L104, k104, n104⟩, -, X104, ⟨Lc104, hQ104, l104, y104, z104⟩, st104⟩ := Jvm.LawKit.callS X102 hx (y := (⟨"com/example/stackweave/stackweave/classfile/ByteWriterU4AtPinLaw", "keeps", "([BIIII)Z"⟩ : MethodName)) hown (mvT hZ (own_w hw 39 rfl)) (mvT hZ (own_w hw 40 rfl)) (mvT hZ (own_w hw 41 rfl)) (mvT hZ (own_w hw 42 rfl)) (by decide) (backOf (W := 0) (rmkeeps24 l Z a0 hw [] nb2_63 p0_ p1_ k2_63 (((p0_.toUInt32 >>> ((24 : Int32) &&& 31).toUInt32).toInt32).toInt8.toInt32) (((p3_.toUInt32 >>> ((24 : Int32) &&& 31).toUInt32).toInt32).toInt8.toInt32) (((p3_.toUInt32 >>> ((16 : Int32) &&& 31).toUInt32).toInt32).toInt8.toInt32) (((p3_.toUInt32 >>> ((8 : Int32) &&& 31).toUInt32).toInt32).toInt8.toInt32) (p3_.toInt8.toInt32) (((p1_.toUInt32 >>> ((16 : Int32) &&& 31).toUInt32).toInt32).toInt8.toInt32) (((p1_.toUInt32 >>> ((8 : Int32) &&& 31).toUInt32).toInt32).toInt8.toInt32) (p1_.toInt8.toInt32) h76 n0 f83 g76_0 g76_1) hZ (own_w hw 42 rfl) (own_w hw 41 rfl) (by decide) (by decide)) (g := (mkF m 218 #[lvI p0_, lvI p1_, lvI p2_, lvI p3_, lvI (1 : Int32), lvR b58, lvR nb2_63, lvI ((((((((p3_.toUInt32 >>> ((24 : Int32) &&& 31).toUInt32).toInt32).toInt8.toInt32) &&& (255 : Int32)) <<< ((24 : Int32) &&& 31)) ||| (((((p3_.toUInt32 >>> ((16 : Int32) &&& 31).toUInt32).toInt32).toInt8.toInt32) &&& (255 : Int32)) <<< ((16 : Int32) &&& 31))) ||| (((((p3_.toUInt32 >>> ((8 : Int32) &&& 31).toUInt32).toInt32).toInt8.toInt32) &&& (255 : Int32)) <<< ((8 : Int32) &&& 31))) ||| ((p3_.toInt8.toInt32) &&& (255 : Int32)))] [(.int p1_), (.int p0_), (.int (1 : Int32)), (.int (6 : Int32)), (.ref nb2_63)])) rfl (by rw [hml]; rfl) (argsL := [(.ref nb2_63), (.int (6 : Int32)), (.int (1 : Int32)), (.int p0_), (.int p1_)]) (rest := []) (lenOf pd_4 rfl) rfl (by show 2 * 0 + _ ≤ _; exact Nat.le_of_eq rfl) (hb hby at_218) (fun _ _ => ⟨rfl, e102', (by decide : 2 + 0 ≤ _), (by decide : 10 + 0 ≤ _)⟩)
        dsimp only [Pt.U, Pt.locs, Pt.cells, Pt.slots] at X104 l104 y104 z104 st104 hQ104
        subst l104 y104 z104
        obtain ⟨h104, e104⟩ : ∃ z, T104.heap = z := ⟨_, rfl⟩
        rw [e104] at hQ104
        obtain ⟨rr104, rfl, hs104, N104q, hh104⟩ := hQ104
        have N105 := Fr.app N103 N104q
        have e104' : T104.heap = h76 := e104.trans hh104
        rcases hs104 with ⟨rfl, hq104_0_0⟩ | ⟨rfl, hq104_1_0⟩
        · obtain ⟨_, _, ⟨T106, L106, k106, n106⟩, -, X106, ⟨Lc106, hQ106, l106, y106, z106⟩, st106⟩ := Jvm.LawKit.callS X104 hx (y := (⟨"com/example/stackweave/stackweave/classfile/ByteWriterU4AtPinLaw", "keeps", "([BIIII)Z"⟩ : MethodName)) hown (mvT hZ (own_w hw 39 rfl)) (mvT hZ (own_w hw 40 rfl)) (mvT hZ (own_w hw 41 rfl)) (mvT hZ (own_w hw 42 rfl)) (by decide) (backOf (W := 0) (rmkeeps25 l Z a0 hw [] nb2_63 p0_ p1_ k2_63 (((p0_.toUInt32 >>> ((24 : Int32) &&& 31).toUInt32).toInt32).toInt8.toInt32) (((p3_.toUInt32 >>> ((24 : Int32) &&& 31).toUInt32).toInt32).toInt8.toInt32) (((p3_.toUInt32 >>> ((16 : Int32) &&& 31).toUInt32).toInt32).toInt8.toInt32) (((p3_.toUInt32 >>> ((8 : Int32) &&& 31).toUInt32).toInt32).toInt8.toInt32) (p3_.toInt8.toInt32) (((p1_.toUInt32 >>> ((16 : Int32) &&& 31).toUInt32).toInt32).toInt8.toInt32) (((p1_.toUInt32 >>> ((8 : Int32) &&& 31).toUInt32).toInt32).toInt8.toInt32) (p1_.toInt8.toInt32) h76 n0 f83 g76_0 g76_1) hZ (own_w hw 42 rfl) (own_w hw 41 rfl) (by decide) (by decide)) (g := (mkF m 232 #[lvI p0_, lvI p1_, lvI p2_, lvI p3_, lvI (1 : Int32), lvR b58, lvR nb2_63, lvI ((((((((p3_.toUInt32 >>> ((24 : Int32) &&& 31).toUInt32).toInt32).toInt8.toInt32) &&& (255 : Int32)) <<< ((24 : Int32) &&& 31)) ||| (((((p3_.toUInt32 >>> ((16 : Int32) &&& 31).toUInt32).toInt32).toInt8.toInt32) &&& (255 : Int32)) <<< ((16 : Int32) &&& 31))) ||| (((((p3_.toUInt32 >>> ((8 : Int32) &&& 31).toUInt32).toInt32).toInt8.toInt32) &&& (255 : Int32)) <<< ((8 : Int32) &&& 31))) ||| ((p3_.toInt8.toInt32) &&& (255 : Int32)))] [(.int p1_), (.int p0_), (.int (1 : Int32)), (.int (7 : Int32)), (.ref nb2_63)])) rfl (by rw [hml]; rfl) (argsL := [(.ref nb2_63), (.int (7 : Int32)), (.int (1 : Int32)), (.int p0_), (.int p1_)]) (rest := []) (lenOf pd_4 rfl) rfl (by show 2 * 0 + _ ≤ _; exact Nat.le_of_eq rfl) (hb hby at_232) (fun _ _ => ⟨rfl, e104', (by decide : 2 + 0 ≤ _), (by decide : 10 + 0 ≤ _)⟩)
          dsimp only [Pt.U, Pt.locs, Pt.cells, Pt.slots] at X106 l106 y106 z106 st106 hQ106
          subst l106 y106 z106
          obtain ⟨h106, e106⟩ : ∃ z, T106.heap = z := ⟨_, rfl⟩
          rw [e106] at hQ106
          obtain ⟨rr106, rfl, hs106, N106q, hh106⟩ := hQ106
          have N107 := Fr.app N105 N106q
          have e106' : T106.heap = h76 := e106.trans hh106
          rcases hs106 with ⟨rfl, hq106_0_0⟩ | ⟨rfl, hq106_1_0⟩
          · have pre108 : ∀ t, own_S p e below m T106 243 #[lvI p0_, lvI p1_, lvI p2_, lvI p3_, lvI (1 : Int32), lvR b58, lvR nb2_63, lvI ((((((((p3_.toUInt32 >>> ((24 : Int32) &&& 31).toUInt32).toInt32).toInt8.toInt32) &&& (255 : Int32)) <<< ((24 : Int32) &&& 31)) ||| (((((p3_.toUInt32 >>> ((16 : Int32) &&& 31).toUInt32).toInt32).toInt8.toInt32) &&& (255 : Int32)) <<< ((16 : Int32) &&& 31))) ||| (((((p3_.toUInt32 >>> ((8 : Int32) &&& 31).toUInt32).toInt32).toInt8.toInt32) &&& (255 : Int32)) <<< ((8 : Int32) &&& 31))) ||| ((p3_.toInt8.toInt32) &&& (255 : Int32)))] [(.int (1 : Int32))] t → G t := by
              intro t kt
              refine pre57 t ?_
              show own_S p e below m s₁ 6 #[lvI p0_, lvI p1_, lvI p2_, lvI p3_, .unset, .unset, .unset, .unset] [(.int (1 : Int32))] _
              refine XS.istore X0.here hx rfl (hb hby at_6) rfl (l' := #[lvI p0_, lvI p1_, lvI p2_, lvI p3_, lvI (1 : Int32), .unset, .unset, .unset]) rfl ?_
              show own_S p e below m s₁ 8 #[lvI p0_, lvI p1_, lvI p2_, lvI p3_, lvI (1 : Int32), .unset, .unset, .unset] [] _
              refine st58 _ ?_
              refine XS.dup X58.here hx rfl (hb hby at_11) rfl rfl ?_
              refine XS.bipush X58.here hx rfl (hb hby at_12) ?_
              show own_S p e below m T58 14 #[lvI p0_, lvI p1_, lvI p2_, lvI p3_, lvI (1 : Int32), .unset, .unset, .unset] [(.int (8 : Int32)), (.ref b58), (.ref b58)] _
              refine st63.trans ?_
              refine XS.astore X63.here hx rfl (hb hby at_17) rfl rfl (l' := #[lvI p0_, lvI p1_, lvI p2_, lvI p3_, lvI (1 : Int32), lvR b58, .unset, .unset]) rfl ?_
              refine XS.aload X63.here hx rfl (hb hby at_19) rfl rfl ?_
              refine XS.iloadN X63.here hx rfl (hb hby at_21) rfl ?_
              show own_S p e below m T63 22 #[lvI p0_, lvI p1_, lvI p2_, lvI p3_, lvI (1 : Int32), lvR b58, .unset, .unset] [(.int p0_), (.ref b58)] _
              refine st69.trans ?_
              refine XS.aload X69.here hx rfl (hb hby at_25) rfl rfl ?_
              refine XS.iloadN X69.here hx rfl (hb hby at_27) rfl ?_
              show own_S p e below m T69 28 #[lvI p0_, lvI p1_, lvI p2_, lvI p3_, lvI (1 : Int32), lvR b58, .unset, .unset] [(.int p1_), (.ref b58)] _
              refine st73.trans ?_
              refine XS.aload X73.here hx rfl (hb hby at_31) rfl rfl ?_
              refine XS.iload X73.here hx rfl (hb hby at_33) rfl ?_
              refine XS.iloadN X73.here hx rfl (hb hby at_35) rfl ?_
              show own_S p e below m T73 36 #[lvI p0_, lvI p1_, lvI p2_, lvI p3_, lvI (1 : Int32), lvR b58, .unset, .unset] [(.int p3_), (.int (1 : Int32)), (.ref b58)] _
              refine st76.trans ?_
              refine XS.aload X76.here hx rfl (hb hby at_39) rfl rfl ?_
              show own_S p e below m T76 41 #[lvI p0_, lvI p1_, lvI p2_, lvI p3_, lvI (1 : Int32), lvR b58, .unset, .unset] [(.ref b58)] _
              refine st79.trans ?_
              refine XS.bipush X79.here hx rfl (hb hby at_44) ?_
              show own_S p e below m T79 46 #[lvI p0_, lvI p1_, lvI p2_, lvI p3_, lvI (1 : Int32), lvR b58, .unset, .unset] [(.int (8 : Int32)), (.int (8 : Int32))] _
              refine XS.icmpYes X79.here hx rfl (pc0 := 46) (pc' := 51) rfl (hb hby at_46) rfl (teq (by decide : (8 : Int32) = (8 : Int32))).1 (by decide) (by decide) ?_
              refine XS.aload X79.here hx rfl (hb hby at_51) rfl rfl ?_
              show own_S p e below m T79 53 #[lvI p0_, lvI p1_, lvI p2_, lvI p3_, lvI (1 : Int32), lvR b58, .unset, .unset] [(.ref b58)] _
              refine st85.trans ?_
              refine XS.astore X85.here hx rfl (hb hby at_56) rfl rfl (l' := #[lvI p0_, lvI p1_, lvI p2_, lvI p3_, lvI (1 : Int32), lvR b58, lvR nb2_63, .unset]) rfl ?_
              refine XS.aload X85.here hx rfl (hb hby at_58) rfl rfl ?_
              show own_S p e below m T85 60 #[lvI p0_, lvI p1_, lvI p2_, lvI p3_, lvI (1 : Int32), lvR b58, lvR nb2_63, .unset] [(.ref nb2_63)] _
              refine X85.arraylength hx (by rw [e85']; exact r87.1) (State.isArrayOf_alike hZ.alike r87.2.1) (g := (mkF m 60 #[lvI p0_, lvI p1_, lvI p2_, lvI p3_, lvI (1 : Int32), lvR b58, lvR nb2_63, .unset] [(.ref nb2_63)])) rfl rfl (hb hby at_60) _ ?_
              rw [len_of s87 z87]
              refine XS.bipush X85.here hx rfl (hb hby at_61) ?_
              show own_S p e below m T85 63 #[lvI p0_, lvI p1_, lvI p2_, lvI p3_, lvI (1 : Int32), lvR b58, lvR nb2_63, .unset] [(.int (8 : Int32)), (.int (8 : Int32))] _
              refine XS.icmpYes X85.here hx rfl (pc0 := 63) (pc' := 68) rfl (hb hby at_63) rfl (teq (by decide : (8 : Int32) = (8 : Int32))).1 (by decide) (by decide) ?_
              refine XS.aload X85.here hx rfl (hb hby at_68) rfl rfl ?_
              refine XS.iload X85.here hx rfl (hb hby at_70) rfl ?_
              show own_S p e below m T85 72 #[lvI p0_, lvI p1_, lvI p2_, lvI p3_, lvI (1 : Int32), lvR b58, lvR nb2_63, .unset] [(.int (1 : Int32)), (.ref nb2_63)] _
              refine X85.baloadBytes hx (j := (1 : Int32)) (v := (.int (((p3_.toUInt32 >>> ((24 : Int32) &&& 31).toUInt32).toInt32).toInt8.toInt32))) (by rw [e85']; exact r88.1) (State.isArrayOf_alike hZ.alike r88.2.1) r88.2.2 hin88 hat88 (g := (mkF m 72 #[lvI p0_, lvI p1_, lvI p2_, lvI p3_, lvI (1 : Int32), lvR b58, lvR nb2_63, .unset] [(.int (1 : Int32)), (.ref nb2_63)])) rfl rfl (hb hby at_72) _ ?_
              refine XS.sipush X85.here hx rfl (hb hby at_73) ?_
              refine XS.iand X85.here hx rfl (hb hby at_76) rfl ?_
              refine XS.bipush X85.here hx rfl (hb hby at_77) ?_
              show own_S p e below m T85 79 #[lvI p0_, lvI p1_, lvI p2_, lvI p3_, lvI (1 : Int32), lvR b58, lvR nb2_63, .unset] [(.int (24 : Int32)), (.int ((((p3_.toUInt32 >>> ((24 : Int32) &&& 31).toUInt32).toInt32).toInt8.toInt32) &&& (255 : Int32)))] _
              refine XS.ishl X85.here hx rfl (hb hby at_79) rfl ?_
              refine XS.aload X85.here hx rfl (hb hby at_80) rfl rfl ?_
              refine XS.iload X85.here hx rfl (hb hby at_82) rfl ?_
              refine XS.iconst X85.here hx rfl (hb hby at_84) ?_
              show own_S p e below m T85 85 #[lvI p0_, lvI p1_, lvI p2_, lvI p3_, lvI (1 : Int32), lvR b58, lvR nb2_63, .unset] [(.int (1 : Int32)), (.int (1 : Int32)), (.ref nb2_63), (.int (((((p3_.toUInt32 >>> ((24 : Int32) &&& 31).toUInt32).toInt32).toInt8.toInt32) &&& (255 : Int32)) <<< ((24 : Int32) &&& 31)))] _
              refine XS.iadd X85.here hx rfl (hb hby at_85) rfl ?_
              show own_S p e below m T85 86 #[lvI p0_, lvI p1_, lvI p2_, lvI p3_, lvI (1 : Int32), lvR b58, lvR nb2_63, .unset] [(.int (2 : Int32)), (.ref nb2_63), (.int (((((p3_.toUInt32 >>> ((24 : Int32) &&& 31).toUInt32).toInt32).toInt8.toInt32) &&& (255 : Int32)) <<< ((24 : Int32) &&& 31)))] _
              refine X85.baloadBytes hx (j := (2 : Int32)) (v := (.int (((p3_.toUInt32 >>> ((16 : Int32) &&& 31).toUInt32).toInt32).toInt8.toInt32))) (by rw [e85']; exact r89.1) (State.isArrayOf_alike hZ.alike r89.2.1) r89.2.2 hin89 hat89 (g := (mkF m 86 #[lvI p0_, lvI p1_, lvI p2_, lvI p3_, lvI (1 : Int32), lvR b58, lvR nb2_63, .unset] [(.int (2 : Int32)), (.ref nb2_63), (.int (((((p3_.toUInt32 >>> ((24 : Int32) &&& 31).toUInt32).toInt32).toInt8.toInt32) &&& (255 : Int32)) <<< ((24 : Int32) &&& 31)))])) rfl rfl (hb hby at_86) _ ?_
              refine XS.sipush X85.here hx rfl (hb hby at_87) ?_
              refine XS.iand X85.here hx rfl (hb hby at_90) rfl ?_
              refine XS.bipush X85.here hx rfl (hb hby at_91) ?_
              show own_S p e below m T85 93 #[lvI p0_, lvI p1_, lvI p2_, lvI p3_, lvI (1 : Int32), lvR b58, lvR nb2_63, .unset] [(.int (16 : Int32)), (.int ((((p3_.toUInt32 >>> ((16 : Int32) &&& 31).toUInt32).toInt32).toInt8.toInt32) &&& (255 : Int32))), (.int (((((p3_.toUInt32 >>> ((24 : Int32) &&& 31).toUInt32).toInt32).toInt8.toInt32) &&& (255 : Int32)) <<< ((24 : Int32) &&& 31)))] _
              refine XS.ishl X85.here hx rfl (hb hby at_93) rfl ?_
              show own_S p e below m T85 94 #[lvI p0_, lvI p1_, lvI p2_, lvI p3_, lvI (1 : Int32), lvR b58, lvR nb2_63, .unset] [(.int (((((p3_.toUInt32 >>> ((16 : Int32) &&& 31).toUInt32).toInt32).toInt8.toInt32) &&& (255 : Int32)) <<< ((16 : Int32) &&& 31))), (.int (((((p3_.toUInt32 >>> ((24 : Int32) &&& 31).toUInt32).toInt32).toInt8.toInt32) &&& (255 : Int32)) <<< ((24 : Int32) &&& 31)))] _
              refine XS.ior X85.here hx rfl (hb hby at_94) rfl ?_
              refine XS.aload X85.here hx rfl (hb hby at_95) rfl rfl ?_
              refine XS.iload X85.here hx rfl (hb hby at_97) rfl ?_
              refine XS.iconst X85.here hx rfl (hb hby at_99) ?_
              show own_S p e below m T85 100 #[lvI p0_, lvI p1_, lvI p2_, lvI p3_, lvI (1 : Int32), lvR b58, lvR nb2_63, .unset] [(.int (2 : Int32)), (.int (1 : Int32)), (.ref nb2_63), (.int ((((((p3_.toUInt32 >>> ((24 : Int32) &&& 31).toUInt32).toInt32).toInt8.toInt32) &&& (255 : Int32)) <<< ((24 : Int32) &&& 31)) ||| (((((p3_.toUInt32 >>> ((16 : Int32) &&& 31).toUInt32).toInt32).toInt8.toInt32) &&& (255 : Int32)) <<< ((16 : Int32) &&& 31))))] _
              refine XS.iadd X85.here hx rfl (hb hby at_100) rfl ?_
              show own_S p e below m T85 101 #[lvI p0_, lvI p1_, lvI p2_, lvI p3_, lvI (1 : Int32), lvR b58, lvR nb2_63, .unset] [(.int (3 : Int32)), (.ref nb2_63), (.int ((((((p3_.toUInt32 >>> ((24 : Int32) &&& 31).toUInt32).toInt32).toInt8.toInt32) &&& (255 : Int32)) <<< ((24 : Int32) &&& 31)) ||| (((((p3_.toUInt32 >>> ((16 : Int32) &&& 31).toUInt32).toInt32).toInt8.toInt32) &&& (255 : Int32)) <<< ((16 : Int32) &&& 31))))] _
              refine X85.baloadBytes hx (j := (3 : Int32)) (v := (.int (((p3_.toUInt32 >>> ((8 : Int32) &&& 31).toUInt32).toInt32).toInt8.toInt32))) (by rw [e85']; exact r90.1) (State.isArrayOf_alike hZ.alike r90.2.1) r90.2.2 hin90 hat90 (g := (mkF m 101 #[lvI p0_, lvI p1_, lvI p2_, lvI p3_, lvI (1 : Int32), lvR b58, lvR nb2_63, .unset] [(.int (3 : Int32)), (.ref nb2_63), (.int ((((((p3_.toUInt32 >>> ((24 : Int32) &&& 31).toUInt32).toInt32).toInt8.toInt32) &&& (255 : Int32)) <<< ((24 : Int32) &&& 31)) ||| (((((p3_.toUInt32 >>> ((16 : Int32) &&& 31).toUInt32).toInt32).toInt8.toInt32) &&& (255 : Int32)) <<< ((16 : Int32) &&& 31))))])) rfl rfl (hb hby at_101) _ ?_
              refine XS.sipush X85.here hx rfl (hb hby at_102) ?_
              refine XS.iand X85.here hx rfl (hb hby at_105) rfl ?_
              refine XS.bipush X85.here hx rfl (hb hby at_106) ?_
              show own_S p e below m T85 108 #[lvI p0_, lvI p1_, lvI p2_, lvI p3_, lvI (1 : Int32), lvR b58, lvR nb2_63, .unset] [(.int (8 : Int32)), (.int ((((p3_.toUInt32 >>> ((8 : Int32) &&& 31).toUInt32).toInt32).toInt8.toInt32) &&& (255 : Int32))), (.int ((((((p3_.toUInt32 >>> ((24 : Int32) &&& 31).toUInt32).toInt32).toInt8.toInt32) &&& (255 : Int32)) <<< ((24 : Int32) &&& 31)) ||| (((((p3_.toUInt32 >>> ((16 : Int32) &&& 31).toUInt32).toInt32).toInt8.toInt32) &&& (255 : Int32)) <<< ((16 : Int32) &&& 31))))] _
              refine XS.ishl X85.here hx rfl (hb hby at_108) rfl ?_
              show own_S p e below m T85 109 #[lvI p0_, lvI p1_, lvI p2_, lvI p3_, lvI (1 : Int32), lvR b58, lvR nb2_63, .unset] [(.int (((((p3_.toUInt32 >>> ((8 : Int32) &&& 31).toUInt32).toInt32).toInt8.toInt32) &&& (255 : Int32)) <<< ((8 : Int32) &&& 31))), (.int ((((((p3_.toUInt32 >>> ((24 : Int32) &&& 31).toUInt32).toInt32).toInt8.toInt32) &&& (255 : Int32)) <<< ((24 : Int32) &&& 31)) ||| (((((p3_.toUInt32 >>> ((16 : Int32) &&& 31).toUInt32).toInt32).toInt8.toInt32) &&& (255 : Int32)) <<< ((16 : Int32) &&& 31))))] _
              refine XS.ior X85.here hx rfl (hb hby at_109) rfl ?_
              refine XS.aload X85.here hx rfl (hb hby at_110) rfl rfl ?_
              refine XS.iload X85.here hx rfl (hb hby at_112) rfl ?_
              refine XS.iconst X85.here hx rfl (hb hby at_114) ?_
              show own_S p e below m T85 115 #[lvI p0_, lvI p1_, lvI p2_, lvI p3_, lvI (1 : Int32), lvR b58, lvR nb2_63, .unset] [(.int (3 : Int32)), (.int (1 : Int32)), (.ref nb2_63), (.int (((((((p3_.toUInt32 >>> ((24 : Int32) &&& 31).toUInt32).toInt32).toInt8.toInt32) &&& (255 : Int32)) <<< ((24 : Int32) &&& 31)) ||| (((((p3_.toUInt32 >>> ((16 : Int32) &&& 31).toUInt32).toInt32).toInt8.toInt32) &&& (255 : Int32)) <<< ((16 : Int32) &&& 31))) ||| (((((p3_.toUInt32 >>> ((8 : Int32) &&& 31).toUInt32).toInt32).toInt8.toInt32) &&& (255 : Int32)) <<< ((8 : Int32) &&& 31))))] _
              refine XS.iadd X85.here hx rfl (hb hby at_115) rfl ?_
              show own_S p e below m T85 116 #[lvI p0_, lvI p1_, lvI p2_, lvI p3_, lvI (1 : Int32), lvR b58, lvR nb2_63, .unset] [(.int (4 : Int32)), (.ref nb2_63), (.int (((((((p3_.toUInt32 >>> ((24 : Int32) &&& 31).toUInt32).toInt32).toInt8.toInt32) &&& (255 : Int32)) <<< ((24 : Int32) &&& 31)) ||| (((((p3_.toUInt32 >>> ((16 : Int32) &&& 31).toUInt32).toInt32).toInt8.toInt32) &&& (255 : Int32)) <<< ((16 : Int32) &&& 31))) ||| (((((p3_.toUInt32 >>> ((8 : Int32) &&& 31).toUInt32).toInt32).toInt8.toInt32) &&& (255 : Int32)) <<< ((8 : Int32) &&& 31))))] _
              refine X85.baloadBytes hx (j := (4 : Int32)) (v := (.int (p3_.toInt8.toInt32))) (by rw [e85']; exact r91.1) (State.isArrayOf_alike hZ.alike r91.2.1) r91.2.2 hin91 hat91 (g := (mkF m 116 #[lvI p0_, lvI p1_, lvI p2_, lvI p3_, lvI (1 : Int32), lvR b58, lvR nb2_63, .unset] [(.int (4 : Int32)), (.ref nb2_63), (.int (((((((p3_.toUInt32 >>> ((24 : Int32) &&& 31).toUInt32).toInt32).toInt8.toInt32) &&& (255 : Int32)) <<< ((24 : Int32) &&& 31)) ||| (((((p3_.toUInt32 >>> ((16 : Int32) &&& 31).toUInt32).toInt32).toInt8.toInt32) &&& (255 : Int32)) <<< ((16 : Int32) &&& 31))) ||| (((((p3_.toUInt32 >>> ((8 : Int32) &&& 31).toUInt32).toInt32).toInt8.toInt32) &&& (255 : Int32)) <<< ((8 : Int32) &&& 31))))])) rfl rfl (hb hby at_116) _ ?_
              refine XS.sipush X85.here hx rfl (hb hby at_117) ?_
              refine XS.iand X85.here hx rfl (hb hby at_120) rfl ?_
              show own_S p e below m T85 121 #[lvI p0_, lvI p1_, lvI p2_, lvI p3_, lvI (1 : Int32), lvR b58, lvR nb2_63, .unset] [(.int ((p3_.toInt8.toInt32) &&& (255 : Int32))), (.int (((((((p3_.toUInt32 >>> ((24 : Int32) &&& 31).toUInt32).toInt32).toInt8.toInt32) &&& (255 : Int32)) <<< ((24 : Int32) &&& 31)) ||| (((((p3_.toUInt32 >>> ((16 : Int32) &&& 31).toUInt32).toInt32).toInt8.toInt32) &&& (255 : Int32)) <<< ((16 : Int32) &&& 31))) ||| (((((p3_.toUInt32 >>> ((8 : Int32) &&& 31).toUInt32).toInt32).toInt8.toInt32) &&& (255 : Int32)) <<< ((8 : Int32) &&& 31))))] _
              refine XS.ior X85.here hx rfl (hb hby at_121) rfl ?_
              refine XS.istore X85.here hx rfl (hb hby at_122) rfl (l' := #[lvI p0_, lvI p1_, lvI p2_, lvI p3_, lvI (1 : Int32), lvR b58, lvR nb2_63, lvI ((((((((p3_.toUInt32 >>> ((24 : Int32) &&& 31).toUInt32).toInt32).toInt8.toInt32) &&& (255 : Int32)) <<< ((24 : Int32) &&& 31)) ||| (((((p3_.toUInt32 >>> ((16 : Int32) &&& 31).toUInt32).toInt32).toInt8.toInt32) &&& (255 : Int32)) <<< ((16 : Int32) &&& 31))) ||| (((((p3_.toUInt32 >>> ((8 : Int32) &&& 31).toUInt32).toInt32).toInt8.toInt32) &&& (255 : Int32)) <<< ((8 : Int32) &&& 31))) ||| ((p3_.toInt8.toInt32) &&& (255 : Int32)))]) rfl ?_
              refine XS.iload X85.here hx rfl (hb hby at_124) rfl ?_
              refine XS.iloadN X85.here hx rfl (hb hby at_126) rfl ?_
              show own_S p e below m T85 127 #[lvI p0_, lvI p1_, lvI p2_, lvI p3_, lvI (1 : Int32), lvR b58, lvR nb2_63, lvI ((((((((p3_.toUInt32 >>> ((24 : Int32) &&& 31).toUInt32).toInt32).toInt8.toInt32) &&& (255 : Int32)) <<< ((24 : Int32) &&& 31)) ||| (((((p3_.toUInt32 >>> ((16 : Int32) &&& 31).toUInt32).toInt32).toInt8.toInt32) &&& (255 : Int32)) <<< ((16 : Int32) &&& 31))) ||| (((((p3_.toUInt32 >>> ((8 : Int32) &&& 31).toUInt32).toInt32).toInt8.toInt32) &&& (255 : Int32)) <<< ((8 : Int32) &&& 31))) ||| ((p3_.toInt8.toInt32) &&& (255 : Int32)))] [(.int p3_), (.int ((((((((p3_.toUInt32 >>> ((24 : Int32) &&& 31).toUInt32).toInt32).toInt8.toInt32) &&& (255 : Int32)) <<< ((24 : Int32) &&& 31)) ||| (((((p3_.toUInt32 >>> ((16 : Int32) &&& 31).toUInt32).toInt32).toInt8.toInt32) &&& (255 : Int32)) <<< ((16 : Int32) &&& 31))) ||| (((((p3_.toUInt32 >>> ((8 : Int32) &&& 31).toUInt32).toInt32).toInt8.toInt32) &&& (255 : Int32)) <<< ((8 : Int32) &&& 31))) ||| ((p3_.toInt8.toInt32) &&& (255 : Int32))))] _
              refine XS.icmpYes X85.here hx rfl (pc0 := 127) (pc' := 132) rfl (hb hby at_127) rfl (teq (own_read p3_)).1 (by decide) (by decide) ?_
              refine XS.aload X85.here hx rfl (hb hby at_132) rfl rfl ?_
              refine XS.iconst X85.here hx rfl (hb hby at_134) ?_
              refine XS.iload X85.here hx rfl (hb hby at_135) rfl ?_
              show own_S p e below m T85 137 #[lvI p0_, lvI p1_, lvI p2_, lvI p3_, lvI (1 : Int32), lvR b58, lvR nb2_63, lvI ((((((((p3_.toUInt32 >>> ((24 : Int32) &&& 31).toUInt32).toInt32).toInt8.toInt32) &&& (255 : Int32)) <<< ((24 : Int32) &&& 31)) ||| (((((p3_.toUInt32 >>> ((16 : Int32) &&& 31).toUInt32).toInt32).toInt8.toInt32) &&& (255 : Int32)) <<< ((16 : Int32) &&& 31))) ||| (((((p3_.toUInt32 >>> ((8 : Int32) &&& 31).toUInt32).toInt32).toInt8.toInt32) &&& (255 : Int32)) <<< ((8 : Int32) &&& 31))) ||| ((p3_.toInt8.toInt32) &&& (255 : Int32)))] [(.int (1 : Int32)), (.int (0 : Int32)), (.ref nb2_63)] _
              refine XS.iloadN X85.here hx rfl (hb hby at_137) rfl ?_
              refine XS.iloadN X85.here hx rfl (hb hby at_138) rfl ?_
              show own_S p e below m T85 139 #[lvI p0_, lvI p1_, lvI p2_, lvI p3_, lvI (1 : Int32), lvR b58, lvR nb2_63, lvI ((((((((p3_.toUInt32 >>> ((24 : Int32) &&& 31).toUInt32).toInt32).toInt8.toInt32) &&& (255 : Int32)) <<< ((24 : Int32) &&& 31)) ||| (((((p3_.toUInt32 >>> ((16 : Int32) &&& 31).toUInt32).toInt32).toInt8.toInt32) &&& (255 : Int32)) <<< ((16 : Int32) &&& 31))) ||| (((((p3_.toUInt32 >>> ((8 : Int32) &&& 31).toUInt32).toInt32).toInt8.toInt32) &&& (255 : Int32)) <<< ((8 : Int32) &&& 31))) ||| ((p3_.toInt8.toInt32) &&& (255 : Int32)))] [(.int p1_), (.int p0_), (.int (1 : Int32)), (.int (0 : Int32)), (.ref nb2_63)] _
              refine st92 _ ?_
              show own_S p e below m T92 142 #[lvI p0_, lvI p1_, lvI p2_, lvI p3_, lvI (1 : Int32), lvR b58, lvR nb2_63, lvI ((((((((p3_.toUInt32 >>> ((24 : Int32) &&& 31).toUInt32).toInt32).toInt8.toInt32) &&& (255 : Int32)) <<< ((24 : Int32) &&& 31)) ||| (((((p3_.toUInt32 >>> ((16 : Int32) &&& 31).toUInt32).toInt32).toInt8.toInt32) &&& (255 : Int32)) <<< ((16 : Int32) &&& 31))) ||| (((((p3_.toUInt32 >>> ((8 : Int32) &&& 31).toUInt32).toInt32).toInt8.toInt32) &&& (255 : Int32)) <<< ((8 : Int32) &&& 31))) ||| ((p3_.toInt8.toInt32) &&& (255 : Int32)))] [(.int (1 : Int32))] _
              refine XS.ifNo X92.here hx rfl (hb hby at_142) rfl ((if0 _ _).trans (feq (by decide : ¬ ((1 : Int32) = (0 : Int32)))).1) ?_
              refine XS.aload X92.here hx rfl (hb hby at_145) rfl rfl ?_
              refine XS.iconst X92.here hx rfl (hb hby at_147) ?_
              refine XS.iload X92.here hx rfl (hb hby at_148) rfl ?_
              show own_S p e below m T92 150 #[lvI p0_, lvI p1_, lvI p2_, lvI p3_, lvI (1 : Int32), lvR b58, lvR nb2_63, lvI ((((((((p3_.toUInt32 >>> ((24 : Int32) &&& 31).toUInt32).toInt32).toInt8.toInt32) &&& (255 : Int32)) <<< ((24 : Int32) &&& 31)) ||| (((((p3_.toUInt32 >>> ((16 : Int32) &&& 31).toUInt32).toInt32).toInt8.toInt32) &&& (255 : Int32)) <<< ((16 : Int32) &&& 31))) ||| (((((p3_.toUInt32 >>> ((8 : Int32) &&& 31).toUInt32).toInt32).toInt8.toInt32) &&& (255 : Int32)) <<< ((8 : Int32) &&& 31))) ||| ((p3_.toInt8.toInt32) &&& (255 : Int32)))] [(.int (1 : Int32)), (.int (1 : Int32)), (.ref nb2_63)] _
              refine XS.iloadN X92.here hx rfl (hb hby at_150) rfl ?_
              refine XS.iloadN X92.here hx rfl (hb hby at_151) rfl ?_
              show own_S p e below m T92 152 #[lvI p0_, lvI p1_, lvI p2_, lvI p3_, lvI (1 : Int32), lvR b58, lvR nb2_63, lvI ((((((((p3_.toUInt32 >>> ((24 : Int32) &&& 31).toUInt32).toInt32).toInt8.toInt32) &&& (255 : Int32)) <<< ((24 : Int32) &&& 31)) ||| (((((p3_.toUInt32 >>> ((16 : Int32) &&& 31).toUInt32).toInt32).toInt8.toInt32) &&& (255 : Int32)) <<< ((16 : Int32) &&& 31))) ||| (((((p3_.toUInt32 >>> ((8 : Int32) &&& 31).toUInt32).toInt32).toInt8.toInt32) &&& (255 : Int32)) <<< ((8 : Int32) &&& 31))) ||| ((p3_.toInt8.toInt32) &&& (255 : Int32)))] [(.int p1_), (.int p0_), (.int (1 : Int32)), (.int (1 : Int32)), (.ref nb2_63)] _
              refine st94 _ ?_
              show own_S p e below m T94 155 #[lvI p0_, lvI p1_, lvI p2_, lvI p3_, lvI (1 : Int32), lvR b58, lvR nb2_63, lvI ((((((((p3_.toUInt32 >>> ((24 : Int32) &&& 31).toUInt32).toInt32).toInt8.toInt32) &&& (255 : Int32)) <<< ((24 : Int32) &&& 31)) ||| (((((p3_.toUInt32 >>> ((16 : Int32) &&& 31).toUInt32).toInt32).toInt8.toInt32) &&& (255 : Int32)) <<< ((16 : Int32) &&& 31))) ||| (((((p3_.toUInt32 >>> ((8 : Int32) &&& 31).toUInt32).toInt32).toInt8.toInt32) &&& (255 : Int32)) <<< ((8 : Int32) &&& 31))) ||| ((p3_.toInt8.toInt32) &&& (255 : Int32)))] [(.int (1 : Int32))] _
              refine XS.ifNo X94.here hx rfl (hb hby at_155) rfl ((if0 _ _).trans (feq (by decide : ¬ ((1 : Int32) = (0 : Int32)))).1) ?_
              refine XS.aload X94.here hx rfl (hb hby at_158) rfl rfl ?_
              refine XS.iconst X94.here hx rfl (hb hby at_160) ?_
              refine XS.iload X94.here hx rfl (hb hby at_161) rfl ?_
              show own_S p e below m T94 163 #[lvI p0_, lvI p1_, lvI p2_, lvI p3_, lvI (1 : Int32), lvR b58, lvR nb2_63, lvI ((((((((p3_.toUInt32 >>> ((24 : Int32) &&& 31).toUInt32).toInt32).toInt8.toInt32) &&& (255 : Int32)) <<< ((24 : Int32) &&& 31)) ||| (((((p3_.toUInt32 >>> ((16 : Int32) &&& 31).toUInt32).toInt32).toInt8.toInt32) &&& (255 : Int32)) <<< ((16 : Int32) &&& 31))) ||| (((((p3_.toUInt32 >>> ((8 : Int32) &&& 31).toUInt32).toInt32).toInt8.toInt32) &&& (255 : Int32)) <<< ((8 : Int32) &&& 31))) ||| ((p3_.toInt8.toInt32) &&& (255 : Int32)))] [(.int (1 : Int32)), (.int (2 : Int32)), (.ref nb2_63)] _
              refine XS.iloadN X94.here hx rfl (hb hby at_163) rfl ?_
              refine XS.iloadN X94.here hx rfl (hb hby at_164) rfl ?_
              show own_S p e below m T94 165 #[lvI p0_, lvI p1_, lvI p2_, lvI p3_, lvI (1 : Int32), lvR b58, lvR nb2_63, lvI ((((((((p3_.toUInt32 >>> ((24 : Int32) &&& 31).toUInt32).toInt32).toInt8.toInt32) &&& (255 : Int32)) <<< ((24 : Int32) &&& 31)) ||| (((((p3_.toUInt32 >>> ((16 : Int32) &&& 31).toUInt32).toInt32).toInt8.toInt32) &&& (255 : Int32)) <<< ((16 : Int32) &&& 31))) ||| (((((p3_.toUInt32 >>> ((8 : Int32) &&& 31).toUInt32).toInt32).toInt8.toInt32) &&& (255 : Int32)) <<< ((8 : Int32) &&& 31))) ||| ((p3_.toInt8.toInt32) &&& (255 : Int32)))] [(.int p1_), (.int p0_), (.int (1 : Int32)), (.int (2 : Int32)), (.ref nb2_63)] _
              refine st96 _ ?_
              show own_S p e below m T96 168 #[lvI p0_, lvI p1_, lvI p2_, lvI p3_, lvI (1 : Int32), lvR b58, lvR nb2_63, lvI ((((((((p3_.toUInt32 >>> ((24 : Int32) &&& 31).toUInt32).toInt32).toInt8.toInt32) &&& (255 : Int32)) <<< ((24 : Int32) &&& 31)) ||| (((((p3_.toUInt32 >>> ((16 : Int32) &&& 31).toUInt32).toInt32).toInt8.toInt32) &&& (255 : Int32)) <<< ((16 : Int32) &&& 31))) ||| (((((p3_.toUInt32 >>> ((8 : Int32) &&& 31).toUInt32).toInt32).toInt8.toInt32) &&& (255 : Int32)) <<< ((8 : Int32) &&& 31))) ||| ((p3_.toInt8.toInt32) &&& (255 : Int32)))] [(.int (1 : Int32))] _
              refine XS.ifNo X96.here hx rfl (hb hby at_168) rfl ((if0 _ _).trans (feq (by decide : ¬ ((1 : Int32) = (0 : Int32)))).1) ?_
              refine XS.aload X96.here hx rfl (hb hby at_171) rfl rfl ?_
              refine XS.iconst X96.here hx rfl (hb hby at_173) ?_
              refine XS.iload X96.here hx rfl (hb hby at_174) rfl ?_
              show own_S p e below m T96 176 #[lvI p0_, lvI p1_, lvI p2_, lvI p3_, lvI (1 : Int32), lvR b58, lvR nb2_63, lvI ((((((((p3_.toUInt32 >>> ((24 : Int32) &&& 31).toUInt32).toInt32).toInt8.toInt32) &&& (255 : Int32)) <<< ((24 : Int32) &&& 31)) ||| (((((p3_.toUInt32 >>> ((16 : Int32) &&& 31).toUInt32).toInt32).toInt8.toInt32) &&& (255 : Int32)) <<< ((16 : Int32) &&& 31))) ||| (((((p3_.toUInt32 >>> ((8 : Int32) &&& 31).toUInt32).toInt32).toInt8.toInt32) &&& (255 : Int32)) <<< ((8 : Int32) &&& 31))) ||| ((p3_.toInt8.toInt32) &&& (255 : Int32)))] [(.int (1 : Int32)), (.int (3 : Int32)), (.ref nb2_63)] _
              refine XS.iloadN X96.here hx rfl (hb hby at_176) rfl ?_
              refine XS.iloadN X96.here hx rfl (hb hby at_177) rfl ?_
              show own_S p e below m T96 178 #[lvI p0_, lvI p1_, lvI p2_, lvI p3_, lvI (1 : Int32), lvR b58, lvR nb2_63, lvI ((((((((p3_.toUInt32 >>> ((24 : Int32) &&& 31).toUInt32).toInt32).toInt8.toInt32) &&& (255 : Int32)) <<< ((24 : Int32) &&& 31)) ||| (((((p3_.toUInt32 >>> ((16 : Int32) &&& 31).toUInt32).toInt32).toInt8.toInt32) &&& (255 : Int32)) <<< ((16 : Int32) &&& 31))) ||| (((((p3_.toUInt32 >>> ((8 : Int32) &&& 31).toUInt32).toInt32).toInt8.toInt32) &&& (255 : Int32)) <<< ((8 : Int32) &&& 31))) ||| ((p3_.toInt8.toInt32) &&& (255 : Int32)))] [(.int p1_), (.int p0_), (.int (1 : Int32)), (.int (3 : Int32)), (.ref nb2_63)] _
              refine st98 _ ?_
              show own_S p e below m T98 181 #[lvI p0_, lvI p1_, lvI p2_, lvI p3_, lvI (1 : Int32), lvR b58, lvR nb2_63, lvI ((((((((p3_.toUInt32 >>> ((24 : Int32) &&& 31).toUInt32).toInt32).toInt8.toInt32) &&& (255 : Int32)) <<< ((24 : Int32) &&& 31)) ||| (((((p3_.toUInt32 >>> ((16 : Int32) &&& 31).toUInt32).toInt32).toInt8.toInt32) &&& (255 : Int32)) <<< ((16 : Int32) &&& 31))) ||| (((((p3_.toUInt32 >>> ((8 : Int32) &&& 31).toUInt32).toInt32).toInt8.toInt32) &&& (255 : Int32)) <<< ((8 : Int32) &&& 31))) ||| ((p3_.toInt8.toInt32) &&& (255 : Int32)))] [(.int (1 : Int32))] _
              refine XS.ifNo X98.here hx rfl (hb hby at_181) rfl ((if0 _ _).trans (feq (by decide : ¬ ((1 : Int32) = (0 : Int32)))).1) ?_
              refine XS.aload X98.here hx rfl (hb hby at_184) rfl rfl ?_
              refine XS.iconst X98.here hx rfl (hb hby at_186) ?_
              refine XS.iload X98.here hx rfl (hb hby at_187) rfl ?_
              show own_S p e below m T98 189 #[lvI p0_, lvI p1_, lvI p2_, lvI p3_, lvI (1 : Int32), lvR b58, lvR nb2_63, lvI ((((((((p3_.toUInt32 >>> ((24 : Int32) &&& 31).toUInt32).toInt32).toInt8.toInt32) &&& (255 : Int32)) <<< ((24 : Int32) &&& 31)) ||| (((((p3_.toUInt32 >>> ((16 : Int32) &&& 31).toUInt32).toInt32).toInt8.toInt32) &&& (255 : Int32)) <<< ((16 : Int32) &&& 31))) ||| (((((p3_.toUInt32 >>> ((8 : Int32) &&& 31).toUInt32).toInt32).toInt8.toInt32) &&& (255 : Int32)) <<< ((8 : Int32) &&& 31))) ||| ((p3_.toInt8.toInt32) &&& (255 : Int32)))] [(.int (1 : Int32)), (.int (4 : Int32)), (.ref nb2_63)] _
              refine XS.iloadN X98.here hx rfl (hb hby at_189) rfl ?_
              refine XS.iloadN X98.here hx rfl (hb hby at_190) rfl ?_
              show own_S p e below m T98 191 #[lvI p0_, lvI p1_, lvI p2_, lvI p3_, lvI (1 : Int32), lvR b58, lvR nb2_63, lvI ((((((((p3_.toUInt32 >>> ((24 : Int32) &&& 31).toUInt32).toInt32).toInt8.toInt32) &&& (255 : Int32)) <<< ((24 : Int32) &&& 31)) ||| (((((p3_.toUInt32 >>> ((16 : Int32) &&& 31).toUInt32).toInt32).toInt8.toInt32) &&& (255 : Int32)) <<< ((16 : Int32) &&& 31))) ||| (((((p3_.toUInt32 >>> ((8 : Int32) &&& 31).toUInt32).toInt32).toInt8.toInt32) &&& (255 : Int32)) <<< ((8 : Int32) &&& 31))) ||| ((p3_.toInt8.toInt32) &&& (255 : Int32)))] [(.int p1_), (.int p0_), (.int (1 : Int32)), (.int (4 : Int32)), (.ref nb2_63)] _
              refine st100 _ ?_
              show own_S p e below m T100 194 #[lvI p0_, lvI p1_, lvI p2_, lvI p3_, lvI (1 : Int32), lvR b58, lvR nb2_63, lvI ((((((((p3_.toUInt32 >>> ((24 : Int32) &&& 31).toUInt32).toInt32).toInt8.toInt32) &&& (255 : Int32)) <<< ((24 : Int32) &&& 31)) ||| (((((p3_.toUInt32 >>> ((16 : Int32) &&& 31).toUInt32).toInt32).toInt8.toInt32) &&& (255 : Int32)) <<< ((16 : Int32) &&& 31))) ||| (((((p3_.toUInt32 >>> ((8 : Int32) &&& 31).toUInt32).toInt32).toInt8.toInt32) &&& (255 : Int32)) <<< ((8 : Int32) &&& 31))) ||| ((p3_.toInt8.toInt32) &&& (255 : Int32)))] [(.int (1 : Int32))] _
              refine XS.ifNo X100.here hx rfl (hb hby at_194) rfl ((if0 _ _).trans (feq (by decide : ¬ ((1 : Int32) = (0 : Int32)))).1) ?_
              refine XS.aload X100.here hx rfl (hb hby at_197) rfl rfl ?_
              refine XS.iconst X100.here hx rfl (hb hby at_199) ?_
              refine XS.iload X100.here hx rfl (hb hby at_200) rfl ?_
              show own_S p e below m T100 202 #[lvI p0_, lvI p1_, lvI p2_, lvI p3_, lvI (1 : Int32), lvR b58, lvR nb2_63, lvI ((((((((p3_.toUInt32 >>> ((24 : Int32) &&& 31).toUInt32).toInt32).toInt8.toInt32) &&& (255 : Int32)) <<< ((24 : Int32) &&& 31)) ||| (((((p3_.toUInt32 >>> ((16 : Int32) &&& 31).toUInt32).toInt32).toInt8.toInt32) &&& (255 : Int32)) <<< ((16 : Int32) &&& 31))) ||| (((((p3_.toUInt32 >>> ((8 : Int32) &&& 31).toUInt32).toInt32).toInt8.toInt32) &&& (255 : Int32)) <<< ((8 : Int32) &&& 31))) ||| ((p3_.toInt8.toInt32) &&& (255 : Int32)))] [(.int (1 : Int32)), (.int (5 : Int32)), (.ref nb2_63)] _
              refine XS.iloadN X100.here hx rfl (hb hby at_202) rfl ?_
              refine XS.iloadN X100.here hx rfl (hb hby at_203) rfl ?_
              show own_S p e below m T100 204 #[lvI p0_, lvI p1_, lvI p2_, lvI p3_, lvI (1 : Int32), lvR b58, lvR nb2_63, lvI ((((((((p3_.toUInt32 >>> ((24 : Int32) &&& 31).toUInt32).toInt32).toInt8.toInt32) &&& (255 : Int32)) <<< ((24 : Int32) &&& 31)) ||| (((((p3_.toUInt32 >>> ((16 : Int32) &&& 31).toUInt32).toInt32).toInt8.toInt32) &&& (255 : Int32)) <<< ((16 : Int32) &&& 31))) ||| (((((p3_.toUInt32 >>> ((8 : Int32) &&& 31).toUInt32).toInt32).toInt8.toInt32) &&& (255 : Int32)) <<< ((8 : Int32) &&& 31))) ||| ((p3_.toInt8.toInt32) &&& (255 : Int32)))] [(.int p1_), (.int p0_), (.int (1 : Int32)), (.int (5 : Int32)), (.ref nb2_63)] _
              refine st102 _ ?_
              show own_S p e below m T102 207 #[lvI p0_, lvI p1_, lvI p2_, lvI p3_, lvI (1 : Int32), lvR b58, lvR nb2_63, lvI ((((((((p3_.toUInt32 >>> ((24 : Int32) &&& 31).toUInt32).toInt32).toInt8.toInt32) &&& (255 : Int32)) <<< ((24 : Int32) &&& 31)) ||| (((((p3_.toUInt32 >>> ((16 : Int32) &&& 31).toUInt32).toInt32).toInt8.toInt32) &&& (255 : Int32)) <<< ((16 : Int32) &&& 31))) ||| (((((p3_.toUInt32 >>> ((8 : Int32) &&& 31).toUInt32).toInt32).toInt8.toInt32) &&& (255 : Int32)) <<< ((8 : Int32) &&& 31))) ||| ((p3_.toInt8.toInt32) &&& (255 : Int32)))] [(.int (1 : Int32))] _
              refine XS.ifNo X102.here hx rfl (hb hby at_207) rfl ((if0 _ _).trans (feq (by decide : ¬ ((1 : Int32) = (0 : Int32)))).1) ?_
              refine XS.aload X102.here hx rfl (hb hby at_210) rfl rfl ?_
              refine XS.bipush X102.here hx rfl (hb hby at_212) ?_
              refine XS.iload X102.here hx rfl (hb hby at_214) rfl ?_
              show own_S p e below m T102 216 #[lvI p0_, lvI p1_, lvI p2_, lvI p3_, lvI (1 : Int32), lvR b58, lvR nb2_63, lvI ((((((((p3_.toUInt32 >>> ((24 : Int32) &&& 31).toUInt32).toInt32).toInt8.toInt32) &&& (255 : Int32)) <<< ((24 : Int32) &&& 31)) ||| (((((p3_.toUInt32 >>> ((16 : Int32) &&& 31).toUInt32).toInt32).toInt8.toInt32) &&& (255 : Int32)) <<< ((16 : Int32) &&& 31))) ||| (((((p3_.toUInt32 >>> ((8 : Int32) &&& 31).toUInt32).toInt32).toInt8.toInt32) &&& (255 : Int32)) <<< ((8 : Int32) &&& 31))) ||| ((p3_.toInt8.toInt32) &&& (255 : Int32)))] [(.int (1 : Int32)), (.int (6 : Int32)), (.ref nb2_63)] _
              refine XS.iloadN X102.here hx rfl (hb hby at_216) rfl ?_
              refine XS.iloadN X102.here hx rfl (hb hby at_217) rfl ?_
              show own_S p e below m T102 218 #[lvI p0_, lvI p1_, lvI p2_, lvI p3_, lvI (1 : Int32), lvR b58, lvR nb2_63, lvI ((((((((p3_.toUInt32 >>> ((24 : Int32) &&& 31).toUInt32).toInt32).toInt8.toInt32) &&& (255 : Int32)) <<< ((24 : Int32) &&& 31)) ||| (((((p3_.toUInt32 >>> ((16 : Int32) &&& 31).toUInt32).toInt32).toInt8.toInt32) &&& (255 : Int32)) <<< ((16 : Int32) &&& 31))) ||| (((((p3_.toUInt32 >>> ((8 : Int32) &&& 31).toUInt32).toInt32).toInt8.toInt32) &&& (255 : Int32)) <<< ((8 : Int32) &&& 31))) ||| ((p3_.toInt8.toInt32) &&& (255 : Int32)))] [(.int p1_), (.int p0_), (.int (1 : Int32)), (.int (6 : Int32)), (.ref nb2_63)] _
              refine st104 _ ?_
              show own_S p e below m T104 221 #[lvI p0_, lvI p1_, lvI p2_, lvI p3_, lvI (1 : Int32), lvR b58, lvR nb2_63, lvI ((((((((p3_.toUInt32 >>> ((24 : Int32) &&& 31).toUInt32).toInt32).toInt8.toInt32) &&& (255 : Int32)) <<< ((24 : Int32) &&& 31)) ||| (((((p3_.toUInt32 >>> ((16 : Int32) &&& 31).toUInt32).toInt32).toInt8.toInt32) &&& (255 : Int32)) <<< ((16 : Int32) &&& 31))) ||| (((((p3_.toUInt32 >>> ((8 : Int32) &&& 31).toUInt32).toInt32).toInt8.toInt32) &&& (255 : Int32)) <<< ((8 : Int32) &&& 31))) ||| ((p3_.toInt8.toInt32) &&& (255 : Int32)))] [(.int (1 : Int32))] _
              refine XS.ifNo X104.here hx rfl (hb hby at_221) rfl ((if0 _ _).trans (feq (by decide : ¬ ((1 : Int32) = (0 : Int32)))).1) ?_
              refine XS.aload X104.here hx rfl (hb hby at_224) rfl rfl ?_
              refine XS.bipush X104.here hx rfl (hb hby at_226) ?_
              refine XS.iload X104.here hx rfl (hb hby at_228) rfl ?_
              show own_S p e below m T104 230 #[lvI p0_, lvI p1_, lvI p2_, lvI p3_, lvI (1 : Int32), lvR b58, lvR nb2_63, lvI ((((((((p3_.toUInt32 >>> ((24 : Int32) &&& 31).toUInt32).toInt32).toInt8.toInt32) &&& (255 : Int32)) <<< ((24 : Int32) &&& 31)) ||| (((((p3_.toUInt32 >>> ((16 : Int32) &&& 31).toUInt32).toInt32).toInt8.toInt32) &&& (255 : Int32)) <<< ((16 : Int32) &&& 31))) ||| (((((p3_.toUInt32 >>> ((8 : Int32) &&& 31).toUInt32).toInt32).toInt8.toInt32) &&& (255 : Int32)) <<< ((8 : Int32) &&& 31))) ||| ((p3_.toInt8.toInt32) &&& (255 : Int32)))] [(.int (1 : Int32)), (.int (7 : Int32)), (.ref nb2_63)] _
              refine XS.iloadN X104.here hx rfl (hb hby at_230) rfl ?_
              refine XS.iloadN X104.here hx rfl (hb hby at_231) rfl ?_
              show own_S p e below m T104 232 #[lvI p0_, lvI p1_, lvI p2_, lvI p3_, lvI (1 : Int32), lvR b58, lvR nb2_63, lvI ((((((((p3_.toUInt32 >>> ((24 : Int32) &&& 31).toUInt32).toInt32).toInt8.toInt32) &&& (255 : Int32)) <<< ((24 : Int32) &&& 31)) ||| (((((p3_.toUInt32 >>> ((16 : Int32) &&& 31).toUInt32).toInt32).toInt8.toInt32) &&& (255 : Int32)) <<< ((16 : Int32) &&& 31))) ||| (((((p3_.toUInt32 >>> ((8 : Int32) &&& 31).toUInt32).toInt32).toInt8.toInt32) &&& (255 : Int32)) <<< ((8 : Int32) &&& 31))) ||| ((p3_.toInt8.toInt32) &&& (255 : Int32)))] [(.int p1_), (.int p0_), (.int (1 : Int32)), (.int (7 : Int32)), (.ref nb2_63)] _
              refine st106 _ ?_
              show own_S p e below m T106 235 #[lvI p0_, lvI p1_, lvI p2_, lvI p3_, lvI (1 : Int32), lvR b58, lvR nb2_63, lvI ((((((((p3_.toUInt32 >>> ((24 : Int32) &&& 31).toUInt32).toInt32).toInt8.toInt32) &&& (255 : Int32)) <<< ((24 : Int32) &&& 31)) ||| (((((p3_.toUInt32 >>> ((16 : Int32) &&& 31).toUInt32).toInt32).toInt8.toInt32) &&& (255 : Int32)) <<< ((16 : Int32) &&& 31))) ||| (((((p3_.toUInt32 >>> ((8 : Int32) &&& 31).toUInt32).toInt32).toInt8.toInt32) &&& (255 : Int32)) <<< ((8 : Int32) &&& 31))) ||| ((p3_.toInt8.toInt32) &&& (255 : Int32)))] [(.int (1 : Int32))] _
              refine XS.ifNo X106.here hx rfl (hb hby at_235) rfl ((if0 _ _).trans (feq (by decide : ¬ ((1 : Int32) = (0 : Int32)))).1) ?_
              refine XS.iconst X106.here hx rfl (hb hby at_238) ?_
              refine XS.goto X106.here hx rfl (pc0 := 239) (pc' := 243) rfl (hb hby at_239) (by decide) (by decide) ?_
              exact kt
            obtain ⟨fs, hr, hrun, hended, hW, hsame⟩ := X106.leave (v := some (.int (1 : Int32))) (fun h => by rw [Bd.returns] at h; cases h)
            refine ⟨_, _, hG _ (pre108 _ (retN X106 hx (t := .boolean) Bd.returns (by simp) (hb hby at_243) hr)), hrun, hended, _, _, rfl, ?_, ⟨_, rfl⟩, hW, hsame.mono (by decide) (by decide)⟩
            show QLaw Z p0_ p1_ p2_ p3_ h0 n0 _ T106.heap _
            rw [e106']
            exact ⟨rfl, N107⟩
          · exact absurd (own_sh0 _) hq106_1_0
        · exact absurd (rfl : (((p1_.toUInt32 >>> ((8 : Int32) &&& 31).toUInt32).toInt32).toInt8.toInt32) = (((p1_.toUInt32 >>> ((8 : Int32) &&& 31).toUInt32).toInt32).toInt8.toInt32)) hq104_1_0
      · exact absurd (rfl : (((p1_.toUInt32 >>> ((16 : Int32) &&& 31).toUInt32).toInt32).toInt8.toInt32) = (((p1_.toUInt32 >>> ((16 : Int32) &&& 31).toUInt32).toInt32).toInt8.toInt32)) hq102_1_0
    · exact absurd (rfl : (((p0_.toUInt32 >>> ((24 : Int32) &&& 31).toUInt32).toInt32).toInt8.toInt32) = (((p0_.toUInt32 >>> ((24 : Int32) &&& 31).toUInt32).toInt32).toInt8.toInt32)) hq92_1_0
  · have pre110 : ∀ t, own_S p e below m s₁ 6 #[lvI p0_, lvI p1_, lvI p2_, lvI p3_, .unset, .unset, .unset, .unset] [(.int (2 : Int32))] t → G t := fun t kt => pre1 t (by rw [hv3]; exact kt)
    obtain ⟨T111, h111, X111, e111, E111, A111, D111, -, st111⟩ := newO X0 hx hZ hown (own_w hw 1 rfl) (own_w hw 2 rfl) (own_w hw 3 rfl) e0 (g := (mkF m 8 #[lvI p0_, lvI p1_, lvI p2_, lvI p3_, lvI (2 : Int32), .unset, .unset, .unset] [])) rfl (hb hby at_8) (by decide) (by decide)
    obtain ⟨b111, g111⟩ : ∃ z, z = h0.size := ⟨_, rfl⟩
    rw [← g111] at A111 D111 st111
    have ge112 : n0 ≤ b111 := Nat.le_trans (Nat.le_trans (Nat.le_of_eq O0.1.symm) O0.2.1) (Nat.le_of_eq g111.symm)
    have sz113 : h0.size ≤ b111 := Nat.le_trans K0.1 (Nat.le_of_eq g111.symm)
    have f114 : Fld Z h111 b111 cn0 "bytes" "[B" .null := D111 (Or.inl (own_w hw 12 rfl)) (ty := (.array .byte)) (by decide)
    have f115 : Fld Z h111 b111 cn0 "length" "I" (.int (0 : Int32)) := D111 (Or.inl (own_w hw 23 rfl)) (ty := .int) (by decide)
    have f117 : Old Z n0 h111 := O0.ext E111
    obtain ⟨_, _, ⟨T116, L116, k116, n116⟩, -, X116, ⟨Lc116, hQ116, l116, y116, z116⟩, st116⟩ := X111.specialBack hx (y := (⟨"com/example/stackweave/stackweave/classfile/ByteWriter", "<init>", "(I)V"⟩ : MethodName)) rfl hown (mvT hZ (own_w hw 4 rfl)) (mvT hZ (own_w hw 5 rfl)) (mvT hZ (own_w hw 6 rfl)) (by decide) (backOf (W := 1) (rminit1 l Z a0 hw [] b111 h111 n0 f117 A111 f114 f115 ge112) hZ (own_w hw 6 rfl) (own_w hw 3 rfl) (by decide) (by decide)) (g := (mkF m 14 #[lvI p0_, lvI p1_, lvI p2_, lvI p3_, lvI (2 : Int32), .unset, .unset, .unset] [(.int (8 : Int32)), (.ref b111), (.ref b111)])) rfl (by rw [hml]; rfl) (Steps.refl _) (a := b111) (argsL := [(.int (8 : Int32))]) (rest := [(.ref b111)]) (lenOf pd_0 rfl) rfl (by show 2 * 0 + _ ≤ _; exact Nat.le_of_eq rfl) (hb hby at_14) (fun _ _ => ⟨rfl, e111, (by decide : 1 + 1 ≤ _), (by decide : 2 + 8 ≤ _)⟩)
    dsimp only [Pt.U, Pt.locs, Pt.cells, Pt.slots] at X116 l116 y116 z116 st116 hQ116
    subst l116 y116 z116
    obtain ⟨h116, e116⟩ : ∃ z, T116.heap = z := ⟨_, rfl⟩
    rw [e116] at hQ116
    obtain ⟨k2_116, nb2_116, rfl, N116q, K116, sznb2_116, g116_0, g116_1, g116_2, g116_3, g116_4⟩ := hQ116
    have N118 := Fr.app N0 N116q
    have ge119 : n0 ≤ nb2_116 := Nat.le_trans (Nat.le_trans (Nat.le_of_eq f117.1.symm) f117.2.1) sznb2_116
    have f120 : Keep h0 h111 [] := K0.ext E111
    have sz121 : h0.size ≤ nb2_116 := Nat.le_trans f120.1 sznb2_116
    have ne123 : b111 ≠ nb2_116 := Nat.ne_of_lt (Nat.lt_of_lt_of_le A111.lt sznb2_116)
    have f124 : Old Z n0 h116 := f117.keep K116 (allS (ge112) all0)
    obtain ⟨cq122, kq122, q122a, q122b, q122c⟩ := isOf hZ e116 g116_0
    obtain ⟨_, _, ⟨T122, L122, k122, n122⟩, -, X122, ⟨Lc122, hQ122, l122, y122, z122⟩, st122⟩ := X116.virtualBack hx (y := (⟨"com/example/stackweave/stackweave/classfile/ByteWriter", "u4", "(I)V"⟩ : MethodName)) (z := (⟨"com/example/stackweave/stackweave/classfile/ByteWriter", "u4", "(I)V"⟩ : MethodName)) hown (mvT hZ (own_w hw 13 rfl)) (mvT hZ (own_w hw 14 rfl)) (notFace_of_selects (args := #[]) (mvT hZ (own_w hw 16 rfl))) (mvT hZ (own_w hw 16 rfl)) (mvT hZ (own_w hw 15 rfl)) (by decide) (backOf (W := 0) (rmu42 l Z a0 hw [] b111 p0_ nb2_116 k2_116 h116 n0 f124 g116_0 g116_1 g116_2 g116_3 g116_4 ge112 (Ne.symm ne123) ge119) hZ (own_w hw 17 rfl) (own_w hw 3 rfl) (by decide) (by decide)) q122a q122c (g := (mkF m 22 #[lvI p0_, lvI p1_, lvI p2_, lvI p3_, lvI (2 : Int32), lvR b111, .unset, .unset] [(.int p0_), (.ref b111)])) rfl (by rw [hml]; rfl) (Steps.refl _) (argsL := [(.int p0_)]) (rest := []) (lenOf pd_0 rfl) rfl (by show 2 * 0 + _ ≤ _; exact Nat.le_of_eq rfl) (hb hby at_22) (fun _ _ => ⟨rfl, e116, (by decide : 2 + 0 ≤ _), (by decide : 10 + 0 ≤ _)⟩)
    dsimp only [Pt.U, Pt.locs, Pt.cells, Pt.slots] at X122 l122 y122 z122 st122 hQ122
    subst l122 y122 z122
    obtain ⟨h122, e122⟩ : ∃ z, T122.heap = z := ⟨_, rfl⟩
    rw [e122] at hQ122
    obtain ⟨rfl, N122q, K122, g122_0, g122_1, g122_2, g122_3, g122_4⟩ := hQ122
    have N125 := Fr.app N118 N122q
    have f127 : Old Z n0 h122 := f124.keep K122 (allS (ge112) (allS (ge119) all0))
    obtain ⟨cq126, kq126, q126a, q126b, q126c⟩ := isOf hZ e122 g122_0
    obtain ⟨_, _, ⟨T126, L126, k126, n126⟩, -, X126, ⟨Lc126, hQ126, l126, y126, z126⟩, st126⟩ := X122.virtualBack hx (y := (⟨"com/example/stackweave/stackweave/classfile/ByteWriter", "u4", "(I)V"⟩ : MethodName)) (z := (⟨"com/example/stackweave/stackweave/classfile/ByteWriter", "u4", "(I)V"⟩ : MethodName)) hown (mvT hZ (own_w hw 13 rfl)) (mvT hZ (own_w hw 14 rfl)) (notFace_of_selects (args := #[]) (mvT hZ (own_w hw 16 rfl))) (mvT hZ (own_w hw 16 rfl)) (mvT hZ (own_w hw 15 rfl)) (by decide) (backOf (W := 0) (rmu44 l Z a0 hw [] b111 p1_ nb2_116 k2_116 (((p0_.toUInt32 >>> ((24 : Int32) &&& 31).toUInt32).toInt32).toInt8.toInt32) (((p0_.toUInt32 >>> ((16 : Int32) &&& 31).toUInt32).toInt32).toInt8.toInt32) (((p0_.toUInt32 >>> ((8 : Int32) &&& 31).toUInt32).toInt32).toInt8.toInt32) (p0_.toInt8.toInt32) h122 n0 f127 g122_0 g122_1 g122_2 g122_3 g122_4 ge112 (Ne.symm ne123) ge119) hZ (own_w hw 17 rfl) (own_w hw 3 rfl) (by decide) (by decide)) q126a q126c (g := (mkF m 28 #[lvI p0_, lvI p1_, lvI p2_, lvI p3_, lvI (2 : Int32), lvR b111, .unset, .unset] [(.int p1_), (.ref b111)])) rfl (by rw [hml]; rfl) (Steps.refl _) (argsL := [(.int p1_)]) (rest := []) (lenOf pd_0 rfl) rfl (by show 2 * 0 + _ ≤ _; exact Nat.le_of_eq rfl) (hb hby at_28) (fun _ _ => ⟨rfl, e122, (by decide : 2 + 0 ≤ _), (by decide : 10 + 0 ≤ _)⟩)
    dsimp only [Pt.U, Pt.locs, Pt.cells, Pt.slots] at X126 l126 y126 z126 st126 hQ126
    subst l126 y126 z126
    obtain ⟨h126, e126⟩ : ∃ z, T126.heap = z := ⟨_, rfl⟩
    rw [e126] at hQ126
    obtain ⟨rfl, N126q, K126, g126_0, g126_1, g126_2, g126_3, g126_4⟩ := hQ126
    have N128 := Fr.app N125 N126q
    have f130 : Old Z n0 h126 := f127.keep K126 (allS (ge112) (allS (ge119) all0))
    obtain ⟨cq129, kq129, q129a, q129b, q129c⟩ := isOf hZ e126 g126_0
    obtain ⟨_, _, ⟨T129, L129, k129, n129⟩, -, X129, ⟨Lc129, hQ129, l129, y129, z129⟩, st129⟩ := X126.virtualBack hx (y := (⟨"com/example/stackweave/stackweave/classfile/ByteWriter", "u4At", "(II)V"⟩ : MethodName)) (z := (⟨"com/example/stackweave/stackweave/classfile/ByteWriter", "u4At", "(II)V"⟩ : MethodName)) hown (mvT hZ (own_w hw 24 rfl)) (mvT hZ (own_w hw 25 rfl)) (notFace_of_selects (args := #[]) (mvT hZ (own_w hw 27 rfl))) (mvT hZ (own_w hw 27 rfl)) (mvT hZ (own_w hw 26 rfl)) (by decide) (backOf (W := 0) (rmu4At26 l Z a0 hw [] b111 p3_ nb2_116 k2_116 (((p0_.toUInt32 >>> ((24 : Int32) &&& 31).toUInt32).toInt32).toInt8.toInt32) (((p0_.toUInt32 >>> ((16 : Int32) &&& 31).toUInt32).toInt32).toInt8.toInt32) (((p0_.toUInt32 >>> ((8 : Int32) &&& 31).toUInt32).toInt32).toInt8.toInt32) (p0_.toInt8.toInt32) (((p1_.toUInt32 >>> ((24 : Int32) &&& 31).toUInt32).toInt32).toInt8.toInt32) (((p1_.toUInt32 >>> ((16 : Int32) &&& 31).toUInt32).toInt32).toInt8.toInt32) (((p1_.toUInt32 >>> ((8 : Int32) &&& 31).toUInt32).toInt32).toInt8.toInt32) (p1_.toInt8.toInt32) h126 n0 f130 g126_0 g126_1 g126_2 g126_3 g126_4 ge119 ne123) hZ (own_w hw 28 rfl) (own_w hw 3 rfl) (by decide) (by decide)) q129a q129c (g := (mkF m 36 #[lvI p0_, lvI p1_, lvI p2_, lvI p3_, lvI (2 : Int32), lvR b111, .unset, .unset] [(.int p3_), (.int (2 : Int32)), (.ref b111)])) rfl (by rw [hml]; rfl) (Steps.refl _) (argsL := [(.int (2 : Int32)), (.int p3_)]) (rest := []) (lenOf pd_1 rfl) rfl (by show 2 * 0 + _ ≤ _; exact Nat.le_of_eq rfl) (hb hby at_36) (fun _ _ => ⟨rfl, e126, (by decide : 2 + 0 ≤ _), (by decide : 10 + 0 ≤ _)⟩)
    dsimp only [Pt.U, Pt.locs, Pt.cells, Pt.slots] at X129 l129 y129 z129 st129 hQ129
    subst l129 y129 z129
    obtain ⟨h129, e129⟩ : ∃ z, T129.heap = z := ⟨_, rfl⟩
    rw [e129] at hQ129
    obtain ⟨rfl, N129q, K129, g129_0, g129_1⟩ := hQ129
    have N131 := Fr.app N128 N129q
    have f133 : Exa Z h129 b111 cn0 := g126_0.keep K129
    have f134 : Fld Z h129 b111 cn0 "bytes" "[B" (.ref nb2_116) := g126_1.keep K129 (ninS ne123 nin0)
    have f135 : Fld Z h129 b111 cn0 "length" "I" (.int (8 : Int32)) := g126_2.keep K129 (ninS ne123 nin0)
    have f136 : Old Z n0 h129 := f130.keep K129 (allS (ge119) all0)
    obtain ⟨cq132, kq132, q132a, q132b, q132c⟩ := isOf hZ e129 f133
    obtain ⟨_, _, ⟨T132, L132, k132, n132⟩, -, X132, ⟨Lc132, hQ132, l132, y132, z132⟩, st132⟩ := X129.virtualBack hx (y := (⟨"com/example/stackweave/stackweave/classfile/ByteWriter", "length", "()I"⟩ : MethodName)) (z := (⟨"com/example/stackweave/stackweave/classfile/ByteWriter", "length", "()I"⟩ : MethodName)) hown (mvT hZ (own_w hw 29 rfl)) (mvT hZ (own_w hw 30 rfl)) (notFace_of_selects (args := #[]) (mvT hZ (own_w hw 32 rfl))) (mvT hZ (own_w hw 32 rfl)) (mvT hZ (own_w hw 31 rfl)) (by decide) (backOf (W := 0) (rmlength7 l Z a0 hw [] b111 nb2_116 k2_116 (((p0_.toUInt32 >>> ((24 : Int32) &&& 31).toUInt32).toInt32).toInt8.toInt32) (((p0_.toUInt32 >>> ((16 : Int32) &&& 31).toUInt32).toInt32).toInt8.toInt32) (((p3_.toUInt32 >>> ((24 : Int32) &&& 31).toUInt32).toInt32).toInt8.toInt32) (((p3_.toUInt32 >>> ((16 : Int32) &&& 31).toUInt32).toInt32).toInt8.toInt32) (((p3_.toUInt32 >>> ((8 : Int32) &&& 31).toUInt32).toInt32).toInt8.toInt32) (p3_.toInt8.toInt32) (((p1_.toUInt32 >>> ((8 : Int32) &&& 31).toUInt32).toInt32).toInt8.toInt32) (p1_.toInt8.toInt32) h129 n0 f136 f133 f134 f135 g129_0 g129_1) hZ (own_w hw 33 rfl) (own_w hw 3 rfl) (by decide) (by decide)) q132a q132c (g := (mkF m 41 #[lvI p0_, lvI p1_, lvI p2_, lvI p3_, lvI (2 : Int32), lvR b111, .unset, .unset] [(.ref b111)])) rfl (by rw [hml]; rfl) (Steps.refl _) (argsL := []) (rest := []) (lenOf pd_2 rfl) rfl (by show 2 * 0 + _ ≤ _; exact Nat.le_of_eq rfl) (hb hby at_41) (fun _ _ => ⟨rfl, e129, (by decide : 2 + 0 ≤ _), (by decide : 10 + 0 ≤ _)⟩)
    dsimp only [Pt.U, Pt.locs, Pt.cells, Pt.slots] at X132 l132 y132 z132 st132 hQ132
    subst l132 y132 z132
    obtain ⟨h132, e132⟩ : ∃ z, T132.heap = z := ⟨_, rfl⟩
    rw [e132] at hQ132
    obtain ⟨rfl, N132q, hh132⟩ := hQ132
    have N137 := Fr.app N131 N132q
    have e132' : T132.heap = h129 := e132.trans hh132
    obtain ⟨cq138, kq138, q138a, q138b, q138c⟩ := isOf hZ e132' f133
    obtain ⟨_, _, ⟨T138, L138, k138, n138⟩, -, X138, ⟨Lc138, hQ138, l138, y138, z138⟩, st138⟩ := X132.virtualBack hx (y := (⟨"com/example/stackweave/stackweave/classfile/ByteWriter", "filledArray", "()[B"⟩ : MethodName)) (z := (⟨"com/example/stackweave/stackweave/classfile/ByteWriter", "filledArray", "()[B"⟩ : MethodName)) hown (mvT hZ (own_w hw 34 rfl)) (mvT hZ (own_w hw 35 rfl)) (notFace_of_selects (args := #[]) (mvT hZ (own_w hw 37 rfl))) (mvT hZ (own_w hw 37 rfl)) (mvT hZ (own_w hw 36 rfl)) (by decide) (backOf (W := 0) (rmfilledArray8 l Z a0 hw [] b111 nb2_116 k2_116 (((p0_.toUInt32 >>> ((24 : Int32) &&& 31).toUInt32).toInt32).toInt8.toInt32) (((p0_.toUInt32 >>> ((16 : Int32) &&& 31).toUInt32).toInt32).toInt8.toInt32) (((p3_.toUInt32 >>> ((24 : Int32) &&& 31).toUInt32).toInt32).toInt8.toInt32) (((p3_.toUInt32 >>> ((16 : Int32) &&& 31).toUInt32).toInt32).toInt8.toInt32) (((p3_.toUInt32 >>> ((8 : Int32) &&& 31).toUInt32).toInt32).toInt8.toInt32) (p3_.toInt8.toInt32) (((p1_.toUInt32 >>> ((8 : Int32) &&& 31).toUInt32).toInt32).toInt8.toInt32) (p1_.toInt8.toInt32) h129 n0 f136 f133 f134 f135 g129_0 g129_1) hZ (own_w hw 38 rfl) (own_w hw 3 rfl) (by decide) (by decide)) q138a q138c (g := (mkF m 53 #[lvI p0_, lvI p1_, lvI p2_, lvI p3_, lvI (2 : Int32), lvR b111, .unset, .unset] [(.ref b111)])) rfl (by rw [hml]; rfl) (Steps.refl _) (argsL := []) (rest := []) (lenOf pd_3 rfl) rfl (by show 2 * 0 + _ ≤ _; exact Nat.le_of_eq rfl) (hb hby at_53) (fun _ _ => ⟨rfl, e132', (by decide : 2 + 0 ≤ _), (by decide : 10 + 0 ≤ _)⟩)
    dsimp only [Pt.U, Pt.locs, Pt.cells, Pt.slots] at X138 l138 y138 z138 st138 hQ138
    subst l138 y138 z138
    obtain ⟨h138, e138⟩ : ∃ z, T138.heap = z := ⟨_, rfl⟩
    rw [e138] at hQ138
    obtain ⟨rfl, N138q, hh138⟩ := hQ138
    have N139 := Fr.app N137 N138q
    have e138' : T138.heap = h129 := e138.trans hh138
    obtain ⟨c140, r140, q140, s140, z140, y140, G140⟩ := id g129_0
    obtain ⟨c141, r141, q141, s141, z141, y141, G141⟩ := id g129_0
    have hin141 : ¬ ((2 : Int32) < 0 ∨ c141.slots.size ≤ ((2 : Int32)).toNatClampNeg) := inb_of s141 ⟨by decide, by decide⟩
    have hat141 : c141.slots[((2 : Int32)).toNatClampNeg]? = some (.int (((p3_.toUInt32 >>> ((24 : Int32) &&& 31).toUInt32).toInt32).toInt8.toInt32)) := Has.at y141 hin141 rfl
    obtain ⟨c142, r142, q142, s142, z142, y142, G142⟩ := id g129_0
    have hin142 : ¬ ((3 : Int32) < 0 ∨ c142.slots.size ≤ ((3 : Int32)).toNatClampNeg) := inb_of s142 ⟨by decide, by decide⟩
    have hat142 : c142.slots[((3 : Int32)).toNatClampNeg]? = some (.int (((p3_.toUInt32 >>> ((16 : Int32) &&& 31).toUInt32).toInt32).toInt8.toInt32)) := Has.at y142 hin142 rfl
    obtain ⟨c143, r143, q143, s143, z143, y143, G143⟩ := id g129_0
    have hin143 : ¬ ((4 : Int32) < 0 ∨ c143.slots.size ≤ ((4 : Int32)).toNatClampNeg) := inb_of s143 ⟨by decide, by decide⟩
    have hat143 : c143.slots[((4 : Int32)).toNatClampNeg]? = some (.int (((p3_.toUInt32 >>> ((8 : Int32) &&& 31).toUInt32).toInt32).toInt8.toInt32)) := Has.at y143 hin143 rfl
    obtain ⟨c144, r144, q144, s144, z144, y144, G144⟩ := id g129_0
    have hin144 : ¬ ((5 : Int32) < 0 ∨ c144.slots.size ≤ ((5 : Int32)).toNatClampNeg) := inb_of s144 ⟨by decide, by decide⟩
    have hat144 : c144.slots[((5 : Int32)).toNatClampNeg]? = some (.int (p3_.toInt8.toInt32)) := Has.at y144 hin144 rfl
    obtain ⟨_, _, ⟨T145, L145, k145, n145⟩, -, X145, ⟨Lc145, hQ145, l145, y145, z145⟩, st145⟩ := Jvm.LawKit.callS X138 hx (y := (⟨"com/example/stackweave/stackweave/classfile/ByteWriterU4AtPinLaw", "keeps", "([BIIII)Z"⟩ : MethodName)) hown (mvT hZ (own_w hw 39 rfl)) (mvT hZ (own_w hw 40 rfl)) (mvT hZ (own_w hw 41 rfl)) (mvT hZ (own_w hw 42 rfl)) (by decide) (backOf (W := 0) (rmkeeps27 l Z a0 hw [] nb2_116 p0_ p1_ k2_116 (((p0_.toUInt32 >>> ((24 : Int32) &&& 31).toUInt32).toInt32).toInt8.toInt32) (((p0_.toUInt32 >>> ((16 : Int32) &&& 31).toUInt32).toInt32).toInt8.toInt32) (((p3_.toUInt32 >>> ((24 : Int32) &&& 31).toUInt32).toInt32).toInt8.toInt32) (((p3_.toUInt32 >>> ((16 : Int32) &&& 31).toUInt32).toInt32).toInt8.toInt32) (((p3_.toUInt32 >>> ((8 : Int32) &&& 31).toUInt32).toInt32).toInt8.toInt32) (p3_.toInt8.toInt32) (((p1_.toUInt32 >>> ((8 : Int32) &&& 31).toUInt32).toInt32).toInt8.toInt32) (p1_.toInt8.toInt32) h129 n0 f136 g129_0 g129_1) hZ (own_w hw 42 rfl) (own_w hw 41 rfl) (by decide) (by decide)) (g := (mkF m 139 #[lvI p0_, lvI p1_, lvI p2_, lvI p3_, lvI (2 : Int32), lvR b111, lvR nb2_116, lvI ((((((((p3_.toUInt32 >>> ((24 : Int32) &&& 31).toUInt32).toInt32).toInt8.toInt32) &&& (255 : Int32)) <<< ((24 : Int32) &&& 31)) ||| (((((p3_.toUInt32 >>> ((16 : Int32) &&& 31).toUInt32).toInt32).toInt8.toInt32) &&& (255 : Int32)) <<< ((16 : Int32) &&& 31))) ||| (((((p3_.toUInt32 >>> ((8 : Int32) &&& 31).toUInt32).toInt32).toInt8.toInt32) &&& (255 : Int32)) <<< ((8 : Int32) &&& 31))) ||| ((p3_.toInt8.toInt32) &&& (255 : Int32)))] [(.int p1_), (.int p0_), (.int (2 : Int32)), (.int (0 : Int32)), (.ref nb2_116)])) rfl (by rw [hml]; rfl) (argsL := [(.ref nb2_116), (.int (0 : Int32)), (.int (2 : Int32)), (.int p0_), (.int p1_)]) (rest := []) (lenOf pd_4 rfl) rfl (by show 2 * 0 + _ ≤ _; exact Nat.le_of_eq rfl) (hb hby at_139) (fun _ _ => ⟨rfl, e138', (by decide : 2 + 0 ≤ _), (by decide : 10 + 0 ≤ _)⟩)
    dsimp only [Pt.U, Pt.locs, Pt.cells, Pt.slots] at X145 l145 y145 z145 st145 hQ145
    subst l145 y145 z145
    obtain ⟨h145, e145⟩ : ∃ z, T145.heap = z := ⟨_, rfl⟩
    rw [e145] at hQ145
    obtain ⟨rr145, rfl, hs145, N145q, hh145⟩ := hQ145
    have N146 := Fr.app N139 N145q
    have e145' : T145.heap = h129 := e145.trans hh145
    rcases hs145 with ⟨rfl, hq145_0_0⟩ | ⟨rfl, hq145_1_0⟩
    · obtain ⟨_, _, ⟨T147, L147, k147, n147⟩, -, X147, ⟨Lc147, hQ147, l147, y147, z147⟩, st147⟩ := Jvm.LawKit.callS X145 hx (y := (⟨"com/example/stackweave/stackweave/classfile/ByteWriterU4AtPinLaw", "keeps", "([BIIII)Z"⟩ : MethodName)) hown (mvT hZ (own_w hw 39 rfl)) (mvT hZ (own_w hw 40 rfl)) (mvT hZ (own_w hw 41 rfl)) (mvT hZ (own_w hw 42 rfl)) (by decide) (backOf (W := 0) (rmkeeps28 l Z a0 hw [] nb2_116 p0_ p1_ k2_116 (((p0_.toUInt32 >>> ((24 : Int32) &&& 31).toUInt32).toInt32).toInt8.toInt32) (((p0_.toUInt32 >>> ((16 : Int32) &&& 31).toUInt32).toInt32).toInt8.toInt32) (((p3_.toUInt32 >>> ((24 : Int32) &&& 31).toUInt32).toInt32).toInt8.toInt32) (((p3_.toUInt32 >>> ((16 : Int32) &&& 31).toUInt32).toInt32).toInt8.toInt32) (((p3_.toUInt32 >>> ((8 : Int32) &&& 31).toUInt32).toInt32).toInt8.toInt32) (p3_.toInt8.toInt32) (((p1_.toUInt32 >>> ((8 : Int32) &&& 31).toUInt32).toInt32).toInt8.toInt32) (p1_.toInt8.toInt32) h129 n0 f136 g129_0 g129_1) hZ (own_w hw 42 rfl) (own_w hw 41 rfl) (by decide) (by decide)) (g := (mkF m 152 #[lvI p0_, lvI p1_, lvI p2_, lvI p3_, lvI (2 : Int32), lvR b111, lvR nb2_116, lvI ((((((((p3_.toUInt32 >>> ((24 : Int32) &&& 31).toUInt32).toInt32).toInt8.toInt32) &&& (255 : Int32)) <<< ((24 : Int32) &&& 31)) ||| (((((p3_.toUInt32 >>> ((16 : Int32) &&& 31).toUInt32).toInt32).toInt8.toInt32) &&& (255 : Int32)) <<< ((16 : Int32) &&& 31))) ||| (((((p3_.toUInt32 >>> ((8 : Int32) &&& 31).toUInt32).toInt32).toInt8.toInt32) &&& (255 : Int32)) <<< ((8 : Int32) &&& 31))) ||| ((p3_.toInt8.toInt32) &&& (255 : Int32)))] [(.int p1_), (.int p0_), (.int (2 : Int32)), (.int (1 : Int32)), (.ref nb2_116)])) rfl (by rw [hml]; rfl) (argsL := [(.ref nb2_116), (.int (1 : Int32)), (.int (2 : Int32)), (.int p0_), (.int p1_)]) (rest := []) (lenOf pd_4 rfl) rfl (by show 2 * 0 + _ ≤ _; exact Nat.le_of_eq rfl) (hb hby at_152) (fun _ _ => ⟨rfl, e145', (by decide : 2 + 0 ≤ _), (by decide : 10 + 0 ≤ _)⟩)
      dsimp only [Pt.U, Pt.locs, Pt.cells, Pt.slots] at X147 l147 y147 z147 st147 hQ147
      subst l147 y147 z147
      obtain ⟨h147, e147⟩ : ∃ z, T147.heap = z := ⟨_, rfl⟩
      rw [e147] at hQ147
      obtain ⟨rr147, rfl, hs147, N147q, hh147⟩ := hQ147
      have N148 := Fr.app N146 N147q
      have e147' : T147.heap = h129 := e147.trans hh147
      rcases hs147 with ⟨rfl, hq147_0_0⟩ | ⟨rfl, hq147_1_0⟩
      · obtain ⟨_, _, ⟨T149, L149, k149, n149⟩, -, X149, ⟨Lc149, hQ149, l149, y149, z149⟩, st149⟩ := Jvm.LawKit.callS X147 hx (y := (⟨"com/example/stackweave/stackweave/classfile/ByteWriterU4AtPinLaw", "keeps", "([BIIII)Z"⟩ : MethodName)) hown (mvT hZ (own_w hw 39 rfl)) (mvT hZ (own_w hw 40 rfl)) (mvT hZ (own_w hw 41 rfl)) (mvT hZ (own_w hw 42 rfl)) (by decide) (backOf (W := 0) (rmkeeps29 l Z a0 hw [] nb2_116 p0_ p1_ k2_116 (((p0_.toUInt32 >>> ((24 : Int32) &&& 31).toUInt32).toInt32).toInt8.toInt32) (((p0_.toUInt32 >>> ((16 : Int32) &&& 31).toUInt32).toInt32).toInt8.toInt32) (((p3_.toUInt32 >>> ((24 : Int32) &&& 31).toUInt32).toInt32).toInt8.toInt32) (((p3_.toUInt32 >>> ((16 : Int32) &&& 31).toUInt32).toInt32).toInt8.toInt32) (((p3_.toUInt32 >>> ((8 : Int32) &&& 31).toUInt32).toInt32).toInt8.toInt32) (p3_.toInt8.toInt32) (((p1_.toUInt32 >>> ((8 : Int32) &&& 31).toUInt32).toInt32).toInt8.toInt32) (p1_.toInt8.toInt32) h129 n0 f136 g129_0 g129_1) hZ (own_w hw 42 rfl) (own_w hw 41 rfl) (by decide) (by decide)) (g := (mkF m 165 #[lvI p0_, lvI p1_, lvI p2_, lvI p3_, lvI (2 : Int32), lvR b111, lvR nb2_116, lvI ((((((((p3_.toUInt32 >>> ((24 : Int32) &&& 31).toUInt32).toInt32).toInt8.toInt32) &&& (255 : Int32)) <<< ((24 : Int32) &&& 31)) ||| (((((p3_.toUInt32 >>> ((16 : Int32) &&& 31).toUInt32).toInt32).toInt8.toInt32) &&& (255 : Int32)) <<< ((16 : Int32) &&& 31))) ||| (((((p3_.toUInt32 >>> ((8 : Int32) &&& 31).toUInt32).toInt32).toInt8.toInt32) &&& (255 : Int32)) <<< ((8 : Int32) &&& 31))) ||| ((p3_.toInt8.toInt32) &&& (255 : Int32)))] [(.int p1_), (.int p0_), (.int (2 : Int32)), (.int (2 : Int32)), (.ref nb2_116)])) rfl (by rw [hml]; rfl) (argsL := [(.ref nb2_116), (.int (2 : Int32)), (.int (2 : Int32)), (.int p0_), (.int p1_)]) (rest := []) (lenOf pd_4 rfl) rfl (by show 2 * 0 + _ ≤ _; exact Nat.le_of_eq rfl) (hb hby at_165) (fun _ _ => ⟨rfl, e147', (by decide : 2 + 0 ≤ _), (by decide : 10 + 0 ≤ _)⟩)
        dsimp only [Pt.U, Pt.locs, Pt.cells, Pt.slots] at X149 l149 y149 z149 st149 hQ149
        subst l149 y149 z149
        obtain ⟨h149, e149⟩ : ∃ z, T149.heap = z := ⟨_, rfl⟩
        rw [e149] at hQ149
        obtain ⟨rfl, N149q, hh149⟩ := hQ149
        have N150 := Fr.app N148 N149q
        have e149' : T149.heap = h129 := e149.trans hh149
        obtain ⟨_, _, ⟨T151, L151, k151, n151⟩, -, X151, ⟨Lc151, hQ151, l151, y151, z151⟩, st151⟩ := Jvm.LawKit.callS X149 hx (y := (⟨"com/example/stackweave/stackweave/classfile/ByteWriterU4AtPinLaw", "keeps", "([BIIII)Z"⟩ : MethodName)) hown (mvT hZ (own_w hw 39 rfl)) (mvT hZ (own_w hw 40 rfl)) (mvT hZ (own_w hw 41 rfl)) (mvT hZ (own_w hw 42 rfl)) (by decide) (backOf (W := 0) (rmkeeps30 l Z a0 hw [] nb2_116 p0_ p1_ k2_116 (((p0_.toUInt32 >>> ((24 : Int32) &&& 31).toUInt32).toInt32).toInt8.toInt32) (((p0_.toUInt32 >>> ((16 : Int32) &&& 31).toUInt32).toInt32).toInt8.toInt32) (((p3_.toUInt32 >>> ((24 : Int32) &&& 31).toUInt32).toInt32).toInt8.toInt32) (((p3_.toUInt32 >>> ((16 : Int32) &&& 31).toUInt32).toInt32).toInt8.toInt32) (((p3_.toUInt32 >>> ((8 : Int32) &&& 31).toUInt32).toInt32).toInt8.toInt32) (p3_.toInt8.toInt32) (((p1_.toUInt32 >>> ((8 : Int32) &&& 31).toUInt32).toInt32).toInt8.toInt32) (p1_.toInt8.toInt32) h129 n0 f136 g129_0 g129_1) hZ (own_w hw 42 rfl) (own_w hw 41 rfl) (by decide) (by decide)) (g := (mkF m 178 #[lvI p0_, lvI p1_, lvI p2_, lvI p3_, lvI (2 : Int32), lvR b111, lvR nb2_116, lvI ((((((((p3_.toUInt32 >>> ((24 : Int32) &&& 31).toUInt32).toInt32).toInt8.toInt32) &&& (255 : Int32)) <<< ((24 : Int32) &&& 31)) ||| (((((p3_.toUInt32 >>> ((16 : Int32) &&& 31).toUInt32).toInt32).toInt8.toInt32) &&& (255 : Int32)) <<< ((16 : Int32) &&& 31))) ||| (((((p3_.toUInt32 >>> ((8 : Int32) &&& 31).toUInt32).toInt32).toInt8.toInt32) &&& (255 : Int32)) <<< ((8 : Int32) &&& 31))) ||| ((p3_.toInt8.toInt32) &&& (255 : Int32)))] [(.int p1_), (.int p0_), (.int (2 : Int32)), (.int (3 : Int32)), (.ref nb2_116)])) rfl (by rw [hml]; rfl) (argsL := [(.ref nb2_116), (.int (3 : Int32)), (.int (2 : Int32)), (.int p0_), (.int p1_)]) (rest := []) (lenOf pd_4 rfl) rfl (by show 2 * 0 + _ ≤ _; exact Nat.le_of_eq rfl) (hb hby at_178) (fun _ _ => ⟨rfl, e149', (by decide : 2 + 0 ≤ _), (by decide : 10 + 0 ≤ _)⟩)
        dsimp only [Pt.U, Pt.locs, Pt.cells, Pt.slots] at X151 l151 y151 z151 st151 hQ151
        subst l151 y151 z151
        obtain ⟨h151, e151⟩ : ∃ z, T151.heap = z := ⟨_, rfl⟩
        rw [e151] at hQ151
        obtain ⟨rfl, N151q, hh151⟩ := hQ151
        have N152 := Fr.app N150 N151q
        have e151' : T151.heap = h129 := e151.trans hh151
        obtain ⟨_, _, ⟨T153, L153, k153, n153⟩, -, X153, ⟨Lc153, hQ153, l153, y153, z153⟩, st153⟩ := Jvm.LawKit.callS X151 hx (y := (⟨"com/example/stackweave/stackweave/classfile/ByteWriterU4AtPinLaw", "keeps", "([BIIII)Z"⟩ : MethodName)) hown (mvT hZ (own_w hw 39 rfl)) (mvT hZ (own_w hw 40 rfl)) (mvT hZ (own_w hw 41 rfl)) (mvT hZ (own_w hw 42 rfl)) (by decide) (backOf (W := 0) (rmkeeps31 l Z a0 hw [] nb2_116 p0_ p1_ k2_116 (((p0_.toUInt32 >>> ((24 : Int32) &&& 31).toUInt32).toInt32).toInt8.toInt32) (((p0_.toUInt32 >>> ((16 : Int32) &&& 31).toUInt32).toInt32).toInt8.toInt32) (((p3_.toUInt32 >>> ((24 : Int32) &&& 31).toUInt32).toInt32).toInt8.toInt32) (((p3_.toUInt32 >>> ((16 : Int32) &&& 31).toUInt32).toInt32).toInt8.toInt32) (((p3_.toUInt32 >>> ((8 : Int32) &&& 31).toUInt32).toInt32).toInt8.toInt32) (p3_.toInt8.toInt32) (((p1_.toUInt32 >>> ((8 : Int32) &&& 31).toUInt32).toInt32).toInt8.toInt32) (p1_.toInt8.toInt32) h129 n0 f136 g129_0 g129_1) hZ (own_w hw 42 rfl) (own_w hw 41 rfl) (by decide) (by decide)) (g := (mkF m 191 #[lvI p0_, lvI p1_, lvI p2_, lvI p3_, lvI (2 : Int32), lvR b111, lvR nb2_116, lvI ((((((((p3_.toUInt32 >>> ((24 : Int32) &&& 31).toUInt32).toInt32).toInt8.toInt32) &&& (255 : Int32)) <<< ((24 : Int32) &&& 31)) ||| (((((p3_.toUInt32 >>> ((16 : Int32) &&& 31).toUInt32).toInt32).toInt8.toInt32) &&& (255 : Int32)) <<< ((16 : Int32) &&& 31))) ||| (((((p3_.toUInt32 >>> ((8 : Int32) &&& 31).toUInt32).toInt32).toInt8.toInt32) &&& (255 : Int32)) <<< ((8 : Int32) &&& 31))) ||| ((p3_.toInt8.toInt32) &&& (255 : Int32)))] [(.int p1_), (.int p0_), (.int (2 : Int32)), (.int (4 : Int32)), (.ref nb2_116)])) rfl (by rw [hml]; rfl) (argsL := [(.ref nb2_116), (.int (4 : Int32)), (.int (2 : Int32)), (.int p0_), (.int p1_)]) (rest := []) (lenOf pd_4 rfl) rfl (by show 2 * 0 + _ ≤ _; exact Nat.le_of_eq rfl) (hb hby at_191) (fun _ _ => ⟨rfl, e151', (by decide : 2 + 0 ≤ _), (by decide : 10 + 0 ≤ _)⟩)
        dsimp only [Pt.U, Pt.locs, Pt.cells, Pt.slots] at X153 l153 y153 z153 st153 hQ153
        subst l153 y153 z153
        obtain ⟨h153, e153⟩ : ∃ z, T153.heap = z := ⟨_, rfl⟩
        rw [e153] at hQ153
        obtain ⟨rfl, N153q, hh153⟩ := hQ153
        have N154 := Fr.app N152 N153q
        have e153' : T153.heap = h129 := e153.trans hh153
        obtain ⟨_, _, ⟨T155, L155, k155, n155⟩, -, X155, ⟨Lc155, hQ155, l155, y155, z155⟩, st155⟩ := Jvm.LawKit.callS X153 hx (y := (⟨"com/example/stackweave/stackweave/classfile/ByteWriterU4AtPinLaw", "keeps", "([BIIII)Z"⟩ : MethodName)) hown (mvT hZ (own_w hw 39 rfl)) (mvT hZ (own_w hw 40 rfl)) (mvT hZ (own_w hw 41 rfl)) (mvT hZ (own_w hw 42 rfl)) (by decide) (backOf (W := 0) (rmkeeps32 l Z a0 hw [] nb2_116 p0_ p1_ k2_116 (((p0_.toUInt32 >>> ((24 : Int32) &&& 31).toUInt32).toInt32).toInt8.toInt32) (((p0_.toUInt32 >>> ((16 : Int32) &&& 31).toUInt32).toInt32).toInt8.toInt32) (((p3_.toUInt32 >>> ((24 : Int32) &&& 31).toUInt32).toInt32).toInt8.toInt32) (((p3_.toUInt32 >>> ((16 : Int32) &&& 31).toUInt32).toInt32).toInt8.toInt32) (((p3_.toUInt32 >>> ((8 : Int32) &&& 31).toUInt32).toInt32).toInt8.toInt32) (p3_.toInt8.toInt32) (((p1_.toUInt32 >>> ((8 : Int32) &&& 31).toUInt32).toInt32).toInt8.toInt32) (p1_.toInt8.toInt32) h129 n0 f136 g129_0 g129_1) hZ (own_w hw 42 rfl) (own_w hw 41 rfl) (by decide) (by decide)) (g := (mkF m 204 #[lvI p0_, lvI p1_, lvI p2_, lvI p3_, lvI (2 : Int32), lvR b111, lvR nb2_116, lvI ((((((((p3_.toUInt32 >>> ((24 : Int32) &&& 31).toUInt32).toInt32).toInt8.toInt32) &&& (255 : Int32)) <<< ((24 : Int32) &&& 31)) ||| (((((p3_.toUInt32 >>> ((16 : Int32) &&& 31).toUInt32).toInt32).toInt8.toInt32) &&& (255 : Int32)) <<< ((16 : Int32) &&& 31))) ||| (((((p3_.toUInt32 >>> ((8 : Int32) &&& 31).toUInt32).toInt32).toInt8.toInt32) &&& (255 : Int32)) <<< ((8 : Int32) &&& 31))) ||| ((p3_.toInt8.toInt32) &&& (255 : Int32)))] [(.int p1_), (.int p0_), (.int (2 : Int32)), (.int (5 : Int32)), (.ref nb2_116)])) rfl (by rw [hml]; rfl) (argsL := [(.ref nb2_116), (.int (5 : Int32)), (.int (2 : Int32)), (.int p0_), (.int p1_)]) (rest := []) (lenOf pd_4 rfl) rfl (by show 2 * 0 + _ ≤ _; exact Nat.le_of_eq rfl) (hb hby at_204) (fun _ _ => ⟨rfl, e153', (by decide : 2 + 0 ≤ _), (by decide : 10 + 0 ≤ _)⟩)
        dsimp only [Pt.U, Pt.locs, Pt.cells, Pt.slots] at X155 l155 y155 z155 st155 hQ155
        subst l155 y155 z155
        obtain ⟨h155, e155⟩ : ∃ z, T155.heap = z := ⟨_, rfl⟩
        rw [e155] at hQ155
        obtain ⟨rfl, N155q, hh155⟩ := hQ155
        have N156 := Fr.app N154 N155q
        have e155' : T155.heap = h129 := e155.trans hh155
        obtain ⟨_, _, ⟨T157, L157, k157, n157⟩, -, X157, ⟨Lc157, hQ157, l157, y157, z157⟩, st157⟩ := Jvm.LawKit.callS X155 hx (y := (⟨"com/example/stackweave/stackweave/classfile/ByteWriterU4AtPinLaw", "keeps", "([BIIII)Z"⟩ : MethodName)) hown (mvT hZ (own_w hw 39 rfl)) (mvT hZ (own_w hw 40 rfl)) (mvT hZ (own_w hw 41 rfl)) (mvT hZ (own_w hw 42 rfl)) (by decide) (backOf (W := 0) (rmkeeps33 l Z a0 hw [] nb2_116 p0_ p1_ k2_116 (((p0_.toUInt32 >>> ((24 : Int32) &&& 31).toUInt32).toInt32).toInt8.toInt32) (((p0_.toUInt32 >>> ((16 : Int32) &&& 31).toUInt32).toInt32).toInt8.toInt32) (((p3_.toUInt32 >>> ((24 : Int32) &&& 31).toUInt32).toInt32).toInt8.toInt32) (((p3_.toUInt32 >>> ((16 : Int32) &&& 31).toUInt32).toInt32).toInt8.toInt32) (((p3_.toUInt32 >>> ((8 : Int32) &&& 31).toUInt32).toInt32).toInt8.toInt32) (p3_.toInt8.toInt32) (((p1_.toUInt32 >>> ((8 : Int32) &&& 31).toUInt32).toInt32).toInt8.toInt32) (p1_.toInt8.toInt32) h129 n0 f136 g129_0 g129_1) hZ (own_w hw 42 rfl) (own_w hw 41 rfl) (by decide) (by decide)) (g := (mkF m 218 #[lvI p0_, lvI p1_, lvI p2_, lvI p3_, lvI (2 : Int32), lvR b111, lvR nb2_116, lvI ((((((((p3_.toUInt32 >>> ((24 : Int32) &&& 31).toUInt32).toInt32).toInt8.toInt32) &&& (255 : Int32)) <<< ((24 : Int32) &&& 31)) ||| (((((p3_.toUInt32 >>> ((16 : Int32) &&& 31).toUInt32).toInt32).toInt8.toInt32) &&& (255 : Int32)) <<< ((16 : Int32) &&& 31))) ||| (((((p3_.toUInt32 >>> ((8 : Int32) &&& 31).toUInt32).toInt32).toInt8.toInt32) &&& (255 : Int32)) <<< ((8 : Int32) &&& 31))) ||| ((p3_.toInt8.toInt32) &&& (255 : Int32)))] [(.int p1_), (.int p0_), (.int (2 : Int32)), (.int (6 : Int32)), (.ref nb2_116)])) rfl (by rw [hml]; rfl) (argsL := [(.ref nb2_116), (.int (6 : Int32)), (.int (2 : Int32)), (.int p0_), (.int p1_)]) (rest := []) (lenOf pd_4 rfl) rfl (by show 2 * 0 + _ ≤ _; exact Nat.le_of_eq rfl) (hb hby at_218) (fun _ _ => ⟨rfl, e155', (by decide : 2 + 0 ≤ _), (by decide : 10 + 0 ≤ _)⟩)
        dsimp only [Pt.U, Pt.locs, Pt.cells, Pt.slots] at X157 l157 y157 z157 st157 hQ157
        subst l157 y157 z157
        obtain ⟨h157, e157⟩ : ∃ z, T157.heap = z := ⟨_, rfl⟩
        rw [e157] at hQ157
        obtain ⟨rr157, rfl, hs157, N157q, hh157⟩ := hQ157
        have N158 := Fr.app N156 N157q
        have e157' : T157.heap = h129 := e157.trans hh157
        rcases hs157 with ⟨rfl, hq157_0_0⟩ | ⟨rfl, hq157_1_0⟩
        · obtain ⟨_, _, ⟨T159, L159, k159, n159⟩, -, X159, ⟨Lc159, hQ159, l159, y159, z159⟩, st159⟩ := Jvm.LawKit.callS X157 hx (y := (⟨"com/example/stackweave/stackweave/classfile/ByteWriterU4AtPinLaw", "keeps", "([BIIII)Z"⟩ : MethodName)) hown (mvT hZ (own_w hw 39 rfl)) (mvT hZ (own_w hw 40 rfl)) (mvT hZ (own_w hw 41 rfl)) (mvT hZ (own_w hw 42 rfl)) (by decide) (backOf (W := 0) (rmkeeps34 l Z a0 hw [] nb2_116 p0_ p1_ k2_116 (((p0_.toUInt32 >>> ((24 : Int32) &&& 31).toUInt32).toInt32).toInt8.toInt32) (((p0_.toUInt32 >>> ((16 : Int32) &&& 31).toUInt32).toInt32).toInt8.toInt32) (((p3_.toUInt32 >>> ((24 : Int32) &&& 31).toUInt32).toInt32).toInt8.toInt32) (((p3_.toUInt32 >>> ((16 : Int32) &&& 31).toUInt32).toInt32).toInt8.toInt32) (((p3_.toUInt32 >>> ((8 : Int32) &&& 31).toUInt32).toInt32).toInt8.toInt32) (p3_.toInt8.toInt32) (((p1_.toUInt32 >>> ((8 : Int32) &&& 31).toUInt32).toInt32).toInt8.toInt32) (p1_.toInt8.toInt32) h129 n0 f136 g129_0 g129_1) hZ (own_w hw 42 rfl) (own_w hw 41 rfl) (by decide) (by decide)) (g := (mkF m 232 #[lvI p0_, lvI p1_, lvI p2_, lvI p3_, lvI (2 : Int32), lvR b111, lvR nb2_116, lvI ((((((((p3_.toUInt32 >>> ((24 : Int32) &&& 31).toUInt32).toInt32).toInt8.toInt32) &&& (255 : Int32)) <<< ((24 : Int32) &&& 31)) ||| (((((p3_.toUInt32 >>> ((16 : Int32) &&& 31).toUInt32).toInt32).toInt8.toInt32) &&& (255 : Int32)) <<< ((16 : Int32) &&& 31))) ||| (((((p3_.toUInt32 >>> ((8 : Int32) &&& 31).toUInt32).toInt32).toInt8.toInt32) &&& (255 : Int32)) <<< ((8 : Int32) &&& 31))) ||| ((p3_.toInt8.toInt32) &&& (255 : Int32)))] [(.int p1_), (.int p0_), (.int (2 : Int32)), (.int (7 : Int32)), (.ref nb2_116)])) rfl (by rw [hml]; rfl) (argsL := [(.ref nb2_116), (.int (7 : Int32)), (.int (2 : Int32)), (.int p0_), (.int p1_)]) (rest := []) (lenOf pd_4 rfl) rfl (by show 2 * 0 + _ ≤ _; exact Nat.le_of_eq rfl) (hb hby at_232) (fun _ _ => ⟨rfl, e157', (by decide : 2 + 0 ≤ _), (by decide : 10 + 0 ≤ _)⟩)
          dsimp only [Pt.U, Pt.locs, Pt.cells, Pt.slots] at X159 l159 y159 z159 st159 hQ159
          subst l159 y159 z159
          obtain ⟨h159, e159⟩ : ∃ z, T159.heap = z := ⟨_, rfl⟩
          rw [e159] at hQ159
          obtain ⟨rr159, rfl, hs159, N159q, hh159⟩ := hQ159
          have N160 := Fr.app N158 N159q
          have e159' : T159.heap = h129 := e159.trans hh159
          rcases hs159 with ⟨rfl, hq159_0_0⟩ | ⟨rfl, hq159_1_0⟩
          · have pre161 : ∀ t, own_S p e below m T159 243 #[lvI p0_, lvI p1_, lvI p2_, lvI p3_, lvI (2 : Int32), lvR b111, lvR nb2_116, lvI ((((((((p3_.toUInt32 >>> ((24 : Int32) &&& 31).toUInt32).toInt32).toInt8.toInt32) &&& (255 : Int32)) <<< ((24 : Int32) &&& 31)) ||| (((((p3_.toUInt32 >>> ((16 : Int32) &&& 31).toUInt32).toInt32).toInt8.toInt32) &&& (255 : Int32)) <<< ((16 : Int32) &&& 31))) ||| (((((p3_.toUInt32 >>> ((8 : Int32) &&& 31).toUInt32).toInt32).toInt8.toInt32) &&& (255 : Int32)) <<< ((8 : Int32) &&& 31))) ||| ((p3_.toInt8.toInt32) &&& (255 : Int32)))] [(.int (1 : Int32))] t → G t := by
              intro t kt
              refine pre110 t ?_
              show own_S p e below m s₁ 6 #[lvI p0_, lvI p1_, lvI p2_, lvI p3_, .unset, .unset, .unset, .unset] [(.int (2 : Int32))] _
              refine XS.istore X0.here hx rfl (hb hby at_6) rfl (l' := #[lvI p0_, lvI p1_, lvI p2_, lvI p3_, lvI (2 : Int32), .unset, .unset, .unset]) rfl ?_
              show own_S p e below m s₁ 8 #[lvI p0_, lvI p1_, lvI p2_, lvI p3_, lvI (2 : Int32), .unset, .unset, .unset] [] _
              refine st111 _ ?_
              refine XS.dup X111.here hx rfl (hb hby at_11) rfl rfl ?_
              refine XS.bipush X111.here hx rfl (hb hby at_12) ?_
              show own_S p e below m T111 14 #[lvI p0_, lvI p1_, lvI p2_, lvI p3_, lvI (2 : Int32), .unset, .unset, .unset] [(.int (8 : Int32)), (.ref b111), (.ref b111)] _
              refine st116.trans ?_
              refine XS.astore X116.here hx rfl (hb hby at_17) rfl rfl (l' := #[lvI p0_, lvI p1_, lvI p2_, lvI p3_, lvI (2 : Int32), lvR b111, .unset, .unset]) rfl ?_
              refine XS.aload X116.here hx rfl (hb hby at_19) rfl rfl ?_
              refine XS.iloadN X116.here hx rfl (hb hby at_21) rfl ?_
              show own_S p e below m T116 22 #[lvI p0_, lvI p1_, lvI p2_, lvI p3_, lvI (2 : Int32), lvR b111, .unset, .unset] [(.int p0_), (.ref b111)] _
              refine st122.trans ?_
              refine XS.aload X122.here hx rfl (hb hby at_25) rfl rfl ?_
              refine XS.iloadN X122.here hx rfl (hb hby at_27) rfl ?_
              show own_S p e below m T122 28 #[lvI p0_, lvI p1_, lvI p2_, lvI p3_, lvI (2 : Int32), lvR b111, .unset, .unset] [(.int p1_), (.ref b111)] _
              refine st126.trans ?_
              refine XS.aload X126.here hx rfl (hb hby at_31) rfl rfl ?_
              refine XS.iload X126.here hx rfl (hb hby at_33) rfl ?_
              refine XS.iloadN X126.here hx rfl (hb hby at_35) rfl ?_
              show own_S p e below m T126 36 #[lvI p0_, lvI p1_, lvI p2_, lvI p3_, lvI (2 : Int32), lvR b111, .unset, .unset] [(.int p3_), (.int (2 : Int32)), (.ref b111)] _
              refine st129.trans ?_
              refine XS.aload X129.here hx rfl (hb hby at_39) rfl rfl ?_
              show own_S p e below m T129 41 #[lvI p0_, lvI p1_, lvI p2_, lvI p3_, lvI (2 : Int32), lvR b111, .unset, .unset] [(.ref b111)] _
              refine st132.trans ?_
              refine XS.bipush X132.here hx rfl (hb hby at_44) ?_
              show own_S p e below m T132 46 #[lvI p0_, lvI p1_, lvI p2_, lvI p3_, lvI (2 : Int32), lvR b111, .unset, .unset] [(.int (8 : Int32)), (.int (8 : Int32))] _
              refine XS.icmpYes X132.here hx rfl (pc0 := 46) (pc' := 51) rfl (hb hby at_46) rfl (teq (by decide : (8 : Int32) = (8 : Int32))).1 (by decide) (by decide) ?_
              refine XS.aload X132.here hx rfl (hb hby at_51) rfl rfl ?_
              show own_S p e below m T132 53 #[lvI p0_, lvI p1_, lvI p2_, lvI p3_, lvI (2 : Int32), lvR b111, .unset, .unset] [(.ref b111)] _
              refine st138.trans ?_
              refine XS.astore X138.here hx rfl (hb hby at_56) rfl rfl (l' := #[lvI p0_, lvI p1_, lvI p2_, lvI p3_, lvI (2 : Int32), lvR b111, lvR nb2_116, .unset]) rfl ?_
              refine XS.aload X138.here hx rfl (hb hby at_58) rfl rfl ?_
              show own_S p e below m T138 60 #[lvI p0_, lvI p1_, lvI p2_, lvI p3_, lvI (2 : Int32), lvR b111, lvR nb2_116, .unset] [(.ref nb2_116)] _
              refine X138.arraylength hx (by rw [e138']; exact r140.1) (State.isArrayOf_alike hZ.alike r140.2.1) (g := (mkF m 60 #[lvI p0_, lvI p1_, lvI p2_, lvI p3_, lvI (2 : Int32), lvR b111, lvR nb2_116, .unset] [(.ref nb2_116)])) rfl rfl (hb hby at_60) _ ?_
              rw [len_of s140 z140]
              refine XS.bipush X138.here hx rfl (hb hby at_61) ?_
              show own_S p e below m T138 63 #[lvI p0_, lvI p1_, lvI p2_, lvI p3_, lvI (2 : Int32), lvR b111, lvR nb2_116, .unset] [(.int (8 : Int32)), (.int (8 : Int32))] _
              refine XS.icmpYes X138.here hx rfl (pc0 := 63) (pc' := 68) rfl (hb hby at_63) rfl (teq (by decide : (8 : Int32) = (8 : Int32))).1 (by decide) (by decide) ?_
              refine XS.aload X138.here hx rfl (hb hby at_68) rfl rfl ?_
              refine XS.iload X138.here hx rfl (hb hby at_70) rfl ?_
              show own_S p e below m T138 72 #[lvI p0_, lvI p1_, lvI p2_, lvI p3_, lvI (2 : Int32), lvR b111, lvR nb2_116, .unset] [(.int (2 : Int32)), (.ref nb2_116)] _
              refine X138.baloadBytes hx (j := (2 : Int32)) (v := (.int (((p3_.toUInt32 >>> ((24 : Int32) &&& 31).toUInt32).toInt32).toInt8.toInt32))) (by rw [e138']; exact r141.1) (State.isArrayOf_alike hZ.alike r141.2.1) r141.2.2 hin141 hat141 (g := (mkF m 72 #[lvI p0_, lvI p1_, lvI p2_, lvI p3_, lvI (2 : Int32), lvR b111, lvR nb2_116, .unset] [(.int (2 : Int32)), (.ref nb2_116)])) rfl rfl (hb hby at_72) _ ?_
              refine XS.sipush X138.here hx rfl (hb hby at_73) ?_
              refine XS.iand X138.here hx rfl (hb hby at_76) rfl ?_
              refine XS.bipush X138.here hx rfl (hb hby at_77) ?_
              show own_S p e below m T138 79 #[lvI p0_, lvI p1_, lvI p2_, lvI p3_, lvI (2 : Int32), lvR b111, lvR nb2_116, .unset] [(.int (24 : Int32)), (.int ((((p3_.toUInt32 >>> ((24 : Int32) &&& 31).toUInt32).toInt32).toInt8.toInt32) &&& (255 : Int32)))] _
              refine XS.ishl X138.here hx rfl (hb hby at_79) rfl ?_
              refine XS.aload X138.here hx rfl (hb hby at_80) rfl rfl ?_
              refine XS.iload X138.here hx rfl (hb hby at_82) rfl ?_
              refine XS.iconst X138.here hx rfl (hb hby at_84) ?_
              show own_S p e below m T138 85 #[lvI p0_, lvI p1_, lvI p2_, lvI p3_, lvI (2 : Int32), lvR b111, lvR nb2_116, .unset] [(.int (1 : Int32)), (.int (2 : Int32)), (.ref nb2_116), (.int (((((p3_.toUInt32 >>> ((24 : Int32) &&& 31).toUInt32).toInt32).toInt8.toInt32) &&& (255 : Int32)) <<< ((24 : Int32) &&& 31)))] _
              refine XS.iadd X138.here hx rfl (hb hby at_85) rfl ?_
              show own_S p e below m T138 86 #[lvI p0_, lvI p1_, lvI p2_, lvI p3_, lvI (2 : Int32), lvR b111, lvR nb2_116, .unset] [(.int (3 : Int32)), (.ref nb2_116), (.int (((((p3_.toUInt32 >>> ((24 : Int32) &&& 31).toUInt32).toInt32).toInt8.toInt32) &&& (255 : Int32)) <<< ((24 : Int32) &&& 31)))] _
              refine X138.baloadBytes hx (j := (3 : Int32)) (v := (.int (((p3_.toUInt32 >>> ((16 : Int32) &&& 31).toUInt32).toInt32).toInt8.toInt32))) (by rw [e138']; exact r142.1) (State.isArrayOf_alike hZ.alike r142.2.1) r142.2.2 hin142 hat142 (g := (mkF m 86 #[lvI p0_, lvI p1_, lvI p2_, lvI p3_, lvI (2 : Int32), lvR b111, lvR nb2_116, .unset] [(.int (3 : Int32)), (.ref nb2_116), (.int (((((p3_.toUInt32 >>> ((24 : Int32) &&& 31).toUInt32).toInt32).toInt8.toInt32) &&& (255 : Int32)) <<< ((24 : Int32) &&& 31)))])) rfl rfl (hb hby at_86) _ ?_
              refine XS.sipush X138.here hx rfl (hb hby at_87) ?_
              refine XS.iand X138.here hx rfl (hb hby at_90) rfl ?_
              refine XS.bipush X138.here hx rfl (hb hby at_91) ?_
              show own_S p e below m T138 93 #[lvI p0_, lvI p1_, lvI p2_, lvI p3_, lvI (2 : Int32), lvR b111, lvR nb2_116, .unset] [(.int (16 : Int32)), (.int ((((p3_.toUInt32 >>> ((16 : Int32) &&& 31).toUInt32).toInt32).toInt8.toInt32) &&& (255 : Int32))), (.int (((((p3_.toUInt32 >>> ((24 : Int32) &&& 31).toUInt32).toInt32).toInt8.toInt32) &&& (255 : Int32)) <<< ((24 : Int32) &&& 31)))] _
              refine XS.ishl X138.here hx rfl (hb hby at_93) rfl ?_
              show own_S p e below m T138 94 #[lvI p0_, lvI p1_, lvI p2_, lvI p3_, lvI (2 : Int32), lvR b111, lvR nb2_116, .unset] [(.int (((((p3_.toUInt32 >>> ((16 : Int32) &&& 31).toUInt32).toInt32).toInt8.toInt32) &&& (255 : Int32)) <<< ((16 : Int32) &&& 31))), (.int (((((p3_.toUInt32 >>> ((24 : Int32) &&& 31).toUInt32).toInt32).toInt8.toInt32) &&& (255 : Int32)) <<< ((24 : Int32) &&& 31)))] _
              refine XS.ior X138.here hx rfl (hb hby at_94) rfl ?_
              refine XS.aload X138.here hx rfl (hb hby at_95) rfl rfl ?_
              refine XS.iload X138.here hx rfl (hb hby at_97) rfl ?_
              refine XS.iconst X138.here hx rfl (hb hby at_99) ?_
              show own_S p e below m T138 100 #[lvI p0_, lvI p1_, lvI p2_, lvI p3_, lvI (2 : Int32), lvR b111, lvR nb2_116, .unset] [(.int (2 : Int32)), (.int (2 : Int32)), (.ref nb2_116), (.int ((((((p3_.toUInt32 >>> ((24 : Int32) &&& 31).toUInt32).toInt32).toInt8.toInt32) &&& (255 : Int32)) <<< ((24 : Int32) &&& 31)) ||| (((((p3_.toUInt32 >>> ((16 : Int32) &&& 31).toUInt32).toInt32).toInt8.toInt32) &&& (255 : Int32)) <<< ((16 : Int32) &&& 31))))] _
              refine XS.iadd X138.here hx rfl (hb hby at_100) rfl ?_
              show own_S p e below m T138 101 #[lvI p0_, lvI p1_, lvI p2_, lvI p3_, lvI (2 : Int32), lvR b111, lvR nb2_116, .unset] [(.int (4 : Int32)), (.ref nb2_116), (.int ((((((p3_.toUInt32 >>> ((24 : Int32) &&& 31).toUInt32).toInt32).toInt8.toInt32) &&& (255 : Int32)) <<< ((24 : Int32) &&& 31)) ||| (((((p3_.toUInt32 >>> ((16 : Int32) &&& 31).toUInt32).toInt32).toInt8.toInt32) &&& (255 : Int32)) <<< ((16 : Int32) &&& 31))))] _
              refine X138.baloadBytes hx (j := (4 : Int32)) (v := (.int (((p3_.toUInt32 >>> ((8 : Int32) &&& 31).toUInt32).toInt32).toInt8.toInt32))) (by rw [e138']; exact r143.1) (State.isArrayOf_alike hZ.alike r143.2.1) r143.2.2 hin143 hat143 (g := (mkF m 101 #[lvI p0_, lvI p1_, lvI p2_, lvI p3_, lvI (2 : Int32), lvR b111, lvR nb2_116, .unset] [(.int (4 : Int32)), (.ref nb2_116), (.int ((((((p3_.toUInt32 >>> ((24 : Int32) &&& 31).toUInt32).toInt32).toInt8.toInt32) &&& (255 : Int32)) <<< ((24 : Int32) &&& 31)) ||| (((((p3_.toUInt32 >>> ((16 : Int32) &&& 31).toUInt32).toInt32).toInt8.toInt32) &&& (255 : Int32)) <<< ((16 : Int32) &&& 31))))])) rfl rfl (hb hby at_101) _ ?_
              refine XS.sipush X138.here hx rfl (hb hby at_102) ?_
              refine XS.iand X138.here hx rfl (hb hby at_105) rfl ?_
              refine XS.bipush X138.here hx rfl (hb hby at_106) ?_
              show own_S p e below m T138 108 #[lvI p0_, lvI p1_, lvI p2_, lvI p3_, lvI (2 : Int32), lvR b111, lvR nb2_116, .unset] [(.int (8 : Int32)), (.int ((((p3_.toUInt32 >>> ((8 : Int32) &&& 31).toUInt32).toInt32).toInt8.toInt32) &&& (255 : Int32))), (.int ((((((p3_.toUInt32 >>> ((24 : Int32) &&& 31).toUInt32).toInt32).toInt8.toInt32) &&& (255 : Int32)) <<< ((24 : Int32) &&& 31)) ||| (((((p3_.toUInt32 >>> ((16 : Int32) &&& 31).toUInt32).toInt32).toInt8.toInt32) &&& (255 : Int32)) <<< ((16 : Int32) &&& 31))))] _
              refine XS.ishl X138.here hx rfl (hb hby at_108) rfl ?_
              show own_S p e below m T138 109 #[lvI p0_, lvI p1_, lvI p2_, lvI p3_, lvI (2 : Int32), lvR b111, lvR nb2_116, .unset] [(.int (((((p3_.toUInt32 >>> ((8 : Int32) &&& 31).toUInt32).toInt32).toInt8.toInt32) &&& (255 : Int32)) <<< ((8 : Int32) &&& 31))), (.int ((((((p3_.toUInt32 >>> ((24 : Int32) &&& 31).toUInt32).toInt32).toInt8.toInt32) &&& (255 : Int32)) <<< ((24 : Int32) &&& 31)) ||| (((((p3_.toUInt32 >>> ((16 : Int32) &&& 31).toUInt32).toInt32).toInt8.toInt32) &&& (255 : Int32)) <<< ((16 : Int32) &&& 31))))] _
              refine XS.ior X138.here hx rfl (hb hby at_109) rfl ?_
              refine XS.aload X138.here hx rfl (hb hby at_110) rfl rfl ?_
              refine XS.iload X138.here hx rfl (hb hby at_112) rfl ?_
              refine XS.iconst X138.here hx rfl (hb hby at_114) ?_
              show own_S p e below m T138 115 #[lvI p0_, lvI p1_, lvI p2_, lvI p3_, lvI (2 : Int32), lvR b111, lvR nb2_116, .unset] [(.int (3 : Int32)), (.int (2 : Int32)), (.ref nb2_116), (.int (((((((p3_.toUInt32 >>> ((24 : Int32) &&& 31).toUInt32).toInt32).toInt8.toInt32) &&& (255 : Int32)) <<< ((24 : Int32) &&& 31)) ||| (((((p3_.toUInt32 >>> ((16 : Int32) &&& 31).toUInt32).toInt32).toInt8.toInt32) &&& (255 : Int32)) <<< ((16 : Int32) &&& 31))) ||| (((((p3_.toUInt32 >>> ((8 : Int32) &&& 31).toUInt32).toInt32).toInt8.toInt32) &&& (255 : Int32)) <<< ((8 : Int32) &&& 31))))] _
              refine XS.iadd X138.here hx rfl (hb hby at_115) rfl ?_
              show own_S p e below m T138 116 #[lvI p0_, lvI p1_, lvI p2_, lvI p3_, lvI (2 : Int32), lvR b111, lvR nb2_116, .unset] [(.int (5 : Int32)), (.ref nb2_116), (.int (((((((p3_.toUInt32 >>> ((24 : Int32) &&& 31).toUInt32).toInt32).toInt8.toInt32) &&& (255 : Int32)) <<< ((24 : Int32) &&& 31)) ||| (((((p3_.toUInt32 >>> ((16 : Int32) &&& 31).toUInt32).toInt32).toInt8.toInt32) &&& (255 : Int32)) <<< ((16 : Int32) &&& 31))) ||| (((((p3_.toUInt32 >>> ((8 : Int32) &&& 31).toUInt32).toInt32).toInt8.toInt32) &&& (255 : Int32)) <<< ((8 : Int32) &&& 31))))] _
              refine X138.baloadBytes hx (j := (5 : Int32)) (v := (.int (p3_.toInt8.toInt32))) (by rw [e138']; exact r144.1) (State.isArrayOf_alike hZ.alike r144.2.1) r144.2.2 hin144 hat144 (g := (mkF m 116 #[lvI p0_, lvI p1_, lvI p2_, lvI p3_, lvI (2 : Int32), lvR b111, lvR nb2_116, .unset] [(.int (5 : Int32)), (.ref nb2_116), (.int (((((((p3_.toUInt32 >>> ((24 : Int32) &&& 31).toUInt32).toInt32).toInt8.toInt32) &&& (255 : Int32)) <<< ((24 : Int32) &&& 31)) ||| (((((p3_.toUInt32 >>> ((16 : Int32) &&& 31).toUInt32).toInt32).toInt8.toInt32) &&& (255 : Int32)) <<< ((16 : Int32) &&& 31))) ||| (((((p3_.toUInt32 >>> ((8 : Int32) &&& 31).toUInt32).toInt32).toInt8.toInt32) &&& (255 : Int32)) <<< ((8 : Int32) &&& 31))))])) rfl rfl (hb hby at_116) _ ?_
              refine XS.sipush X138.here hx rfl (hb hby at_117) ?_
              refine XS.iand X138.here hx rfl (hb hby at_120) rfl ?_
              show own_S p e below m T138 121 #[lvI p0_, lvI p1_, lvI p2_, lvI p3_, lvI (2 : Int32), lvR b111, lvR nb2_116, .unset] [(.int ((p3_.toInt8.toInt32) &&& (255 : Int32))), (.int (((((((p3_.toUInt32 >>> ((24 : Int32) &&& 31).toUInt32).toInt32).toInt8.toInt32) &&& (255 : Int32)) <<< ((24 : Int32) &&& 31)) ||| (((((p3_.toUInt32 >>> ((16 : Int32) &&& 31).toUInt32).toInt32).toInt8.toInt32) &&& (255 : Int32)) <<< ((16 : Int32) &&& 31))) ||| (((((p3_.toUInt32 >>> ((8 : Int32) &&& 31).toUInt32).toInt32).toInt8.toInt32) &&& (255 : Int32)) <<< ((8 : Int32) &&& 31))))] _
              refine XS.ior X138.here hx rfl (hb hby at_121) rfl ?_
              refine XS.istore X138.here hx rfl (hb hby at_122) rfl (l' := #[lvI p0_, lvI p1_, lvI p2_, lvI p3_, lvI (2 : Int32), lvR b111, lvR nb2_116, lvI ((((((((p3_.toUInt32 >>> ((24 : Int32) &&& 31).toUInt32).toInt32).toInt8.toInt32) &&& (255 : Int32)) <<< ((24 : Int32) &&& 31)) ||| (((((p3_.toUInt32 >>> ((16 : Int32) &&& 31).toUInt32).toInt32).toInt8.toInt32) &&& (255 : Int32)) <<< ((16 : Int32) &&& 31))) ||| (((((p3_.toUInt32 >>> ((8 : Int32) &&& 31).toUInt32).toInt32).toInt8.toInt32) &&& (255 : Int32)) <<< ((8 : Int32) &&& 31))) ||| ((p3_.toInt8.toInt32) &&& (255 : Int32)))]) rfl ?_
              refine XS.iload X138.here hx rfl (hb hby at_124) rfl ?_
              refine XS.iloadN X138.here hx rfl (hb hby at_126) rfl ?_
              show own_S p e below m T138 127 #[lvI p0_, lvI p1_, lvI p2_, lvI p3_, lvI (2 : Int32), lvR b111, lvR nb2_116, lvI ((((((((p3_.toUInt32 >>> ((24 : Int32) &&& 31).toUInt32).toInt32).toInt8.toInt32) &&& (255 : Int32)) <<< ((24 : Int32) &&& 31)) ||| (((((p3_.toUInt32 >>> ((16 : Int32) &&& 31).toUInt32).toInt32).toInt8.toInt32) &&& (255 : Int32)) <<< ((16 : Int32) &&& 31))) ||| (((((p3_.toUInt32 >>> ((8 : Int32) &&& 31).toUInt32).toInt32).toInt8.toInt32) &&& (255 : Int32)) <<< ((8 : Int32) &&& 31))) ||| ((p3_.toInt8.toInt32) &&& (255 : Int32)))] [(.int p3_), (.int ((((((((p3_.toUInt32 >>> ((24 : Int32) &&& 31).toUInt32).toInt32).toInt8.toInt32) &&& (255 : Int32)) <<< ((24 : Int32) &&& 31)) ||| (((((p3_.toUInt32 >>> ((16 : Int32) &&& 31).toUInt32).toInt32).toInt8.toInt32) &&& (255 : Int32)) <<< ((16 : Int32) &&& 31))) ||| (((((p3_.toUInt32 >>> ((8 : Int32) &&& 31).toUInt32).toInt32).toInt8.toInt32) &&& (255 : Int32)) <<< ((8 : Int32) &&& 31))) ||| ((p3_.toInt8.toInt32) &&& (255 : Int32))))] _
              refine XS.icmpYes X138.here hx rfl (pc0 := 127) (pc' := 132) rfl (hb hby at_127) rfl (teq (own_read p3_)).1 (by decide) (by decide) ?_
              refine XS.aload X138.here hx rfl (hb hby at_132) rfl rfl ?_
              refine XS.iconst X138.here hx rfl (hb hby at_134) ?_
              refine XS.iload X138.here hx rfl (hb hby at_135) rfl ?_
              show own_S p e below m T138 137 #[lvI p0_, lvI p1_, lvI p2_, lvI p3_, lvI (2 : Int32), lvR b111, lvR nb2_116, lvI ((((((((p3_.toUInt32 >>> ((24 : Int32) &&& 31).toUInt32).toInt32).toInt8.toInt32) &&& (255 : Int32)) <<< ((24 : Int32) &&& 31)) ||| (((((p3_.toUInt32 >>> ((16 : Int32) &&& 31).toUInt32).toInt32).toInt8.toInt32) &&& (255 : Int32)) <<< ((16 : Int32) &&& 31))) ||| (((((p3_.toUInt32 >>> ((8 : Int32) &&& 31).toUInt32).toInt32).toInt8.toInt32) &&& (255 : Int32)) <<< ((8 : Int32) &&& 31))) ||| ((p3_.toInt8.toInt32) &&& (255 : Int32)))] [(.int (2 : Int32)), (.int (0 : Int32)), (.ref nb2_116)] _
              refine XS.iloadN X138.here hx rfl (hb hby at_137) rfl ?_
              refine XS.iloadN X138.here hx rfl (hb hby at_138) rfl ?_
              show own_S p e below m T138 139 #[lvI p0_, lvI p1_, lvI p2_, lvI p3_, lvI (2 : Int32), lvR b111, lvR nb2_116, lvI ((((((((p3_.toUInt32 >>> ((24 : Int32) &&& 31).toUInt32).toInt32).toInt8.toInt32) &&& (255 : Int32)) <<< ((24 : Int32) &&& 31)) ||| (((((p3_.toUInt32 >>> ((16 : Int32) &&& 31).toUInt32).toInt32).toInt8.toInt32) &&& (255 : Int32)) <<< ((16 : Int32) &&& 31))) ||| (((((p3_.toUInt32 >>> ((8 : Int32) &&& 31).toUInt32).toInt32).toInt8.toInt32) &&& (255 : Int32)) <<< ((8 : Int32) &&& 31))) ||| ((p3_.toInt8.toInt32) &&& (255 : Int32)))] [(.int p1_), (.int p0_), (.int (2 : Int32)), (.int (0 : Int32)), (.ref nb2_116)] _
              refine st145 _ ?_
              show own_S p e below m T145 142 #[lvI p0_, lvI p1_, lvI p2_, lvI p3_, lvI (2 : Int32), lvR b111, lvR nb2_116, lvI ((((((((p3_.toUInt32 >>> ((24 : Int32) &&& 31).toUInt32).toInt32).toInt8.toInt32) &&& (255 : Int32)) <<< ((24 : Int32) &&& 31)) ||| (((((p3_.toUInt32 >>> ((16 : Int32) &&& 31).toUInt32).toInt32).toInt8.toInt32) &&& (255 : Int32)) <<< ((16 : Int32) &&& 31))) ||| (((((p3_.toUInt32 >>> ((8 : Int32) &&& 31).toUInt32).toInt32).toInt8.toInt32) &&& (255 : Int32)) <<< ((8 : Int32) &&& 31))) ||| ((p3_.toInt8.toInt32) &&& (255 : Int32)))] [(.int (1 : Int32))] _
              refine XS.ifNo X145.here hx rfl (hb hby at_142) rfl ((if0 _ _).trans (feq (by decide : ¬ ((1 : Int32) = (0 : Int32)))).1) ?_
              refine XS.aload X145.here hx rfl (hb hby at_145) rfl rfl ?_
              refine XS.iconst X145.here hx rfl (hb hby at_147) ?_
              refine XS.iload X145.here hx rfl (hb hby at_148) rfl ?_
              show own_S p e below m T145 150 #[lvI p0_, lvI p1_, lvI p2_, lvI p3_, lvI (2 : Int32), lvR b111, lvR nb2_116, lvI ((((((((p3_.toUInt32 >>> ((24 : Int32) &&& 31).toUInt32).toInt32).toInt8.toInt32) &&& (255 : Int32)) <<< ((24 : Int32) &&& 31)) ||| (((((p3_.toUInt32 >>> ((16 : Int32) &&& 31).toUInt32).toInt32).toInt8.toInt32) &&& (255 : Int32)) <<< ((16 : Int32) &&& 31))) ||| (((((p3_.toUInt32 >>> ((8 : Int32) &&& 31).toUInt32).toInt32).toInt8.toInt32) &&& (255 : Int32)) <<< ((8 : Int32) &&& 31))) ||| ((p3_.toInt8.toInt32) &&& (255 : Int32)))] [(.int (2 : Int32)), (.int (1 : Int32)), (.ref nb2_116)] _
              refine XS.iloadN X145.here hx rfl (hb hby at_150) rfl ?_
              refine XS.iloadN X145.here hx rfl (hb hby at_151) rfl ?_
              show own_S p e below m T145 152 #[lvI p0_, lvI p1_, lvI p2_, lvI p3_, lvI (2 : Int32), lvR b111, lvR nb2_116, lvI ((((((((p3_.toUInt32 >>> ((24 : Int32) &&& 31).toUInt32).toInt32).toInt8.toInt32) &&& (255 : Int32)) <<< ((24 : Int32) &&& 31)) ||| (((((p3_.toUInt32 >>> ((16 : Int32) &&& 31).toUInt32).toInt32).toInt8.toInt32) &&& (255 : Int32)) <<< ((16 : Int32) &&& 31))) ||| (((((p3_.toUInt32 >>> ((8 : Int32) &&& 31).toUInt32).toInt32).toInt8.toInt32) &&& (255 : Int32)) <<< ((8 : Int32) &&& 31))) ||| ((p3_.toInt8.toInt32) &&& (255 : Int32)))] [(.int p1_), (.int p0_), (.int (2 : Int32)), (.int (1 : Int32)), (.ref nb2_116)] _
              refine st147 _ ?_
              show own_S p e below m T147 155 #[lvI p0_, lvI p1_, lvI p2_, lvI p3_, lvI (2 : Int32), lvR b111, lvR nb2_116, lvI ((((((((p3_.toUInt32 >>> ((24 : Int32) &&& 31).toUInt32).toInt32).toInt8.toInt32) &&& (255 : Int32)) <<< ((24 : Int32) &&& 31)) ||| (((((p3_.toUInt32 >>> ((16 : Int32) &&& 31).toUInt32).toInt32).toInt8.toInt32) &&& (255 : Int32)) <<< ((16 : Int32) &&& 31))) ||| (((((p3_.toUInt32 >>> ((8 : Int32) &&& 31).toUInt32).toInt32).toInt8.toInt32) &&& (255 : Int32)) <<< ((8 : Int32) &&& 31))) ||| ((p3_.toInt8.toInt32) &&& (255 : Int32)))] [(.int (1 : Int32))] _
              refine XS.ifNo X147.here hx rfl (hb hby at_155) rfl ((if0 _ _).trans (feq (by decide : ¬ ((1 : Int32) = (0 : Int32)))).1) ?_
              refine XS.aload X147.here hx rfl (hb hby at_158) rfl rfl ?_
              refine XS.iconst X147.here hx rfl (hb hby at_160) ?_
              refine XS.iload X147.here hx rfl (hb hby at_161) rfl ?_
              show own_S p e below m T147 163 #[lvI p0_, lvI p1_, lvI p2_, lvI p3_, lvI (2 : Int32), lvR b111, lvR nb2_116, lvI ((((((((p3_.toUInt32 >>> ((24 : Int32) &&& 31).toUInt32).toInt32).toInt8.toInt32) &&& (255 : Int32)) <<< ((24 : Int32) &&& 31)) ||| (((((p3_.toUInt32 >>> ((16 : Int32) &&& 31).toUInt32).toInt32).toInt8.toInt32) &&& (255 : Int32)) <<< ((16 : Int32) &&& 31))) ||| (((((p3_.toUInt32 >>> ((8 : Int32) &&& 31).toUInt32).toInt32).toInt8.toInt32) &&& (255 : Int32)) <<< ((8 : Int32) &&& 31))) ||| ((p3_.toInt8.toInt32) &&& (255 : Int32)))] [(.int (2 : Int32)), (.int (2 : Int32)), (.ref nb2_116)] _
              refine XS.iloadN X147.here hx rfl (hb hby at_163) rfl ?_
              refine XS.iloadN X147.here hx rfl (hb hby at_164) rfl ?_
              show own_S p e below m T147 165 #[lvI p0_, lvI p1_, lvI p2_, lvI p3_, lvI (2 : Int32), lvR b111, lvR nb2_116, lvI ((((((((p3_.toUInt32 >>> ((24 : Int32) &&& 31).toUInt32).toInt32).toInt8.toInt32) &&& (255 : Int32)) <<< ((24 : Int32) &&& 31)) ||| (((((p3_.toUInt32 >>> ((16 : Int32) &&& 31).toUInt32).toInt32).toInt8.toInt32) &&& (255 : Int32)) <<< ((16 : Int32) &&& 31))) ||| (((((p3_.toUInt32 >>> ((8 : Int32) &&& 31).toUInt32).toInt32).toInt8.toInt32) &&& (255 : Int32)) <<< ((8 : Int32) &&& 31))) ||| ((p3_.toInt8.toInt32) &&& (255 : Int32)))] [(.int p1_), (.int p0_), (.int (2 : Int32)), (.int (2 : Int32)), (.ref nb2_116)] _
              refine st149 _ ?_
              show own_S p e below m T149 168 #[lvI p0_, lvI p1_, lvI p2_, lvI p3_, lvI (2 : Int32), lvR b111, lvR nb2_116, lvI ((((((((p3_.toUInt32 >>> ((24 : Int32) &&& 31).toUInt32).toInt32).toInt8.toInt32) &&& (255 : Int32)) <<< ((24 : Int32) &&& 31)) ||| (((((p3_.toUInt32 >>> ((16 : Int32) &&& 31).toUInt32).toInt32).toInt8.toInt32) &&& (255 : Int32)) <<< ((16 : Int32) &&& 31))) ||| (((((p3_.toUInt32 >>> ((8 : Int32) &&& 31).toUInt32).toInt32).toInt8.toInt32) &&& (255 : Int32)) <<< ((8 : Int32) &&& 31))) ||| ((p3_.toInt8.toInt32) &&& (255 : Int32)))] [(.int (1 : Int32))] _
              refine XS.ifNo X149.here hx rfl (hb hby at_168) rfl ((if0 _ _).trans (feq (by decide : ¬ ((1 : Int32) = (0 : Int32)))).1) ?_
              refine XS.aload X149.here hx rfl (hb hby at_171) rfl rfl ?_
              refine XS.iconst X149.here hx rfl (hb hby at_173) ?_
              refine XS.iload X149.here hx rfl (hb hby at_174) rfl ?_
              show own_S p e below m T149 176 #[lvI p0_, lvI p1_, lvI p2_, lvI p3_, lvI (2 : Int32), lvR b111, lvR nb2_116, lvI ((((((((p3_.toUInt32 >>> ((24 : Int32) &&& 31).toUInt32).toInt32).toInt8.toInt32) &&& (255 : Int32)) <<< ((24 : Int32) &&& 31)) ||| (((((p3_.toUInt32 >>> ((16 : Int32) &&& 31).toUInt32).toInt32).toInt8.toInt32) &&& (255 : Int32)) <<< ((16 : Int32) &&& 31))) ||| (((((p3_.toUInt32 >>> ((8 : Int32) &&& 31).toUInt32).toInt32).toInt8.toInt32) &&& (255 : Int32)) <<< ((8 : Int32) &&& 31))) ||| ((p3_.toInt8.toInt32) &&& (255 : Int32)))] [(.int (2 : Int32)), (.int (3 : Int32)), (.ref nb2_116)] _
              refine XS.iloadN X149.here hx rfl (hb hby at_176) rfl ?_
              refine XS.iloadN X149.here hx rfl (hb hby at_177) rfl ?_
              show own_S p e below m T149 178 #[lvI p0_, lvI p1_, lvI p2_, lvI p3_, lvI (2 : Int32), lvR b111, lvR nb2_116, lvI ((((((((p3_.toUInt32 >>> ((24 : Int32) &&& 31).toUInt32).toInt32).toInt8.toInt32) &&& (255 : Int32)) <<< ((24 : Int32) &&& 31)) ||| (((((p3_.toUInt32 >>> ((16 : Int32) &&& 31).toUInt32).toInt32).toInt8.toInt32) &&& (255 : Int32)) <<< ((16 : Int32) &&& 31))) ||| (((((p3_.toUInt32 >>> ((8 : Int32) &&& 31).toUInt32).toInt32).toInt8.toInt32) &&& (255 : Int32)) <<< ((8 : Int32) &&& 31))) ||| ((p3_.toInt8.toInt32) &&& (255 : Int32)))] [(.int p1_), (.int p0_), (.int (2 : Int32)), (.int (3 : Int32)), (.ref nb2_116)] _
              refine st151 _ ?_
              show own_S p e below m T151 181 #[lvI p0_, lvI p1_, lvI p2_, lvI p3_, lvI (2 : Int32), lvR b111, lvR nb2_116, lvI ((((((((p3_.toUInt32 >>> ((24 : Int32) &&& 31).toUInt32).toInt32).toInt8.toInt32) &&& (255 : Int32)) <<< ((24 : Int32) &&& 31)) ||| (((((p3_.toUInt32 >>> ((16 : Int32) &&& 31).toUInt32).toInt32).toInt8.toInt32) &&& (255 : Int32)) <<< ((16 : Int32) &&& 31))) ||| (((((p3_.toUInt32 >>> ((8 : Int32) &&& 31).toUInt32).toInt32).toInt8.toInt32) &&& (255 : Int32)) <<< ((8 : Int32) &&& 31))) ||| ((p3_.toInt8.toInt32) &&& (255 : Int32)))] [(.int (1 : Int32))] _
              refine XS.ifNo X151.here hx rfl (hb hby at_181) rfl ((if0 _ _).trans (feq (by decide : ¬ ((1 : Int32) = (0 : Int32)))).1) ?_
              refine XS.aload X151.here hx rfl (hb hby at_184) rfl rfl ?_
              refine XS.iconst X151.here hx rfl (hb hby at_186) ?_
              refine XS.iload X151.here hx rfl (hb hby at_187) rfl ?_
              show own_S p e below m T151 189 #[lvI p0_, lvI p1_, lvI p2_, lvI p3_, lvI (2 : Int32), lvR b111, lvR nb2_116, lvI ((((((((p3_.toUInt32 >>> ((24 : Int32) &&& 31).toUInt32).toInt32).toInt8.toInt32) &&& (255 : Int32)) <<< ((24 : Int32) &&& 31)) ||| (((((p3_.toUInt32 >>> ((16 : Int32) &&& 31).toUInt32).toInt32).toInt8.toInt32) &&& (255 : Int32)) <<< ((16 : Int32) &&& 31))) ||| (((((p3_.toUInt32 >>> ((8 : Int32) &&& 31).toUInt32).toInt32).toInt8.toInt32) &&& (255 : Int32)) <<< ((8 : Int32) &&& 31))) ||| ((p3_.toInt8.toInt32) &&& (255 : Int32)))] [(.int (2 : Int32)), (.int (4 : Int32)), (.ref nb2_116)] _
              refine XS.iloadN X151.here hx rfl (hb hby at_189) rfl ?_
              refine XS.iloadN X151.here hx rfl (hb hby at_190) rfl ?_
              show own_S p e below m T151 191 #[lvI p0_, lvI p1_, lvI p2_, lvI p3_, lvI (2 : Int32), lvR b111, lvR nb2_116, lvI ((((((((p3_.toUInt32 >>> ((24 : Int32) &&& 31).toUInt32).toInt32).toInt8.toInt32) &&& (255 : Int32)) <<< ((24 : Int32) &&& 31)) ||| (((((p3_.toUInt32 >>> ((16 : Int32) &&& 31).toUInt32).toInt32).toInt8.toInt32) &&& (255 : Int32)) <<< ((16 : Int32) &&& 31))) ||| (((((p3_.toUInt32 >>> ((8 : Int32) &&& 31).toUInt32).toInt32).toInt8.toInt32) &&& (255 : Int32)) <<< ((8 : Int32) &&& 31))) ||| ((p3_.toInt8.toInt32) &&& (255 : Int32)))] [(.int p1_), (.int p0_), (.int (2 : Int32)), (.int (4 : Int32)), (.ref nb2_116)] _
              refine st153 _ ?_
              show own_S p e below m T153 194 #[lvI p0_, lvI p1_, lvI p2_, lvI p3_, lvI (2 : Int32), lvR b111, lvR nb2_116, lvI ((((((((p3_.toUInt32 >>> ((24 : Int32) &&& 31).toUInt32).toInt32).toInt8.toInt32) &&& (255 : Int32)) <<< ((24 : Int32) &&& 31)) ||| (((((p3_.toUInt32 >>> ((16 : Int32) &&& 31).toUInt32).toInt32).toInt8.toInt32) &&& (255 : Int32)) <<< ((16 : Int32) &&& 31))) ||| (((((p3_.toUInt32 >>> ((8 : Int32) &&& 31).toUInt32).toInt32).toInt8.toInt32) &&& (255 : Int32)) <<< ((8 : Int32) &&& 31))) ||| ((p3_.toInt8.toInt32) &&& (255 : Int32)))] [(.int (1 : Int32))] _
              refine XS.ifNo X153.here hx rfl (hb hby at_194) rfl ((if0 _ _).trans (feq (by decide : ¬ ((1 : Int32) = (0 : Int32)))).1) ?_
              refine XS.aload X153.here hx rfl (hb hby at_197) rfl rfl ?_
              refine XS.iconst X153.here hx rfl (hb hby at_199) ?_
              refine XS.iload X153.here hx rfl (hb hby at_200) rfl ?_
              show own_S p e below m T153 202 #[lvI p0_, lvI p1_, lvI p2_, lvI p3_, lvI (2 : Int32), lvR b111, lvR nb2_116, lvI ((((((((p3_.toUInt32 >>> ((24 : Int32) &&& 31).toUInt32).toInt32).toInt8.toInt32) &&& (255 : Int32)) <<< ((24 : Int32) &&& 31)) ||| (((((p3_.toUInt32 >>> ((16 : Int32) &&& 31).toUInt32).toInt32).toInt8.toInt32) &&& (255 : Int32)) <<< ((16 : Int32) &&& 31))) ||| (((((p3_.toUInt32 >>> ((8 : Int32) &&& 31).toUInt32).toInt32).toInt8.toInt32) &&& (255 : Int32)) <<< ((8 : Int32) &&& 31))) ||| ((p3_.toInt8.toInt32) &&& (255 : Int32)))] [(.int (2 : Int32)), (.int (5 : Int32)), (.ref nb2_116)] _
              refine XS.iloadN X153.here hx rfl (hb hby at_202) rfl ?_
              refine XS.iloadN X153.here hx rfl (hb hby at_203) rfl ?_
              show own_S p e below m T153 204 #[lvI p0_, lvI p1_, lvI p2_, lvI p3_, lvI (2 : Int32), lvR b111, lvR nb2_116, lvI ((((((((p3_.toUInt32 >>> ((24 : Int32) &&& 31).toUInt32).toInt32).toInt8.toInt32) &&& (255 : Int32)) <<< ((24 : Int32) &&& 31)) ||| (((((p3_.toUInt32 >>> ((16 : Int32) &&& 31).toUInt32).toInt32).toInt8.toInt32) &&& (255 : Int32)) <<< ((16 : Int32) &&& 31))) ||| (((((p3_.toUInt32 >>> ((8 : Int32) &&& 31).toUInt32).toInt32).toInt8.toInt32) &&& (255 : Int32)) <<< ((8 : Int32) &&& 31))) ||| ((p3_.toInt8.toInt32) &&& (255 : Int32)))] [(.int p1_), (.int p0_), (.int (2 : Int32)), (.int (5 : Int32)), (.ref nb2_116)] _
              refine st155 _ ?_
              show own_S p e below m T155 207 #[lvI p0_, lvI p1_, lvI p2_, lvI p3_, lvI (2 : Int32), lvR b111, lvR nb2_116, lvI ((((((((p3_.toUInt32 >>> ((24 : Int32) &&& 31).toUInt32).toInt32).toInt8.toInt32) &&& (255 : Int32)) <<< ((24 : Int32) &&& 31)) ||| (((((p3_.toUInt32 >>> ((16 : Int32) &&& 31).toUInt32).toInt32).toInt8.toInt32) &&& (255 : Int32)) <<< ((16 : Int32) &&& 31))) ||| (((((p3_.toUInt32 >>> ((8 : Int32) &&& 31).toUInt32).toInt32).toInt8.toInt32) &&& (255 : Int32)) <<< ((8 : Int32) &&& 31))) ||| ((p3_.toInt8.toInt32) &&& (255 : Int32)))] [(.int (1 : Int32))] _
              refine XS.ifNo X155.here hx rfl (hb hby at_207) rfl ((if0 _ _).trans (feq (by decide : ¬ ((1 : Int32) = (0 : Int32)))).1) ?_
              refine XS.aload X155.here hx rfl (hb hby at_210) rfl rfl ?_
              refine XS.bipush X155.here hx rfl (hb hby at_212) ?_
              refine XS.iload X155.here hx rfl (hb hby at_214) rfl ?_
              show own_S p e below m T155 216 #[lvI p0_, lvI p1_, lvI p2_, lvI p3_, lvI (2 : Int32), lvR b111, lvR nb2_116, lvI ((((((((p3_.toUInt32 >>> ((24 : Int32) &&& 31).toUInt32).toInt32).toInt8.toInt32) &&& (255 : Int32)) <<< ((24 : Int32) &&& 31)) ||| (((((p3_.toUInt32 >>> ((16 : Int32) &&& 31).toUInt32).toInt32).toInt8.toInt32) &&& (255 : Int32)) <<< ((16 : Int32) &&& 31))) ||| (((((p3_.toUInt32 >>> ((8 : Int32) &&& 31).toUInt32).toInt32).toInt8.toInt32) &&& (255 : Int32)) <<< ((8 : Int32) &&& 31))) ||| ((p3_.toInt8.toInt32) &&& (255 : Int32)))] [(.int (2 : Int32)), (.int (6 : Int32)), (.ref nb2_116)] _
              refine XS.iloadN X155.here hx rfl (hb hby at_216) rfl ?_
              refine XS.iloadN X155.here hx rfl (hb hby at_217) rfl ?_
              show own_S p e below m T155 218 #[lvI p0_, lvI p1_, lvI p2_, lvI p3_, lvI (2 : Int32), lvR b111, lvR nb2_116, lvI ((((((((p3_.toUInt32 >>> ((24 : Int32) &&& 31).toUInt32).toInt32).toInt8.toInt32) &&& (255 : Int32)) <<< ((24 : Int32) &&& 31)) ||| (((((p3_.toUInt32 >>> ((16 : Int32) &&& 31).toUInt32).toInt32).toInt8.toInt32) &&& (255 : Int32)) <<< ((16 : Int32) &&& 31))) ||| (((((p3_.toUInt32 >>> ((8 : Int32) &&& 31).toUInt32).toInt32).toInt8.toInt32) &&& (255 : Int32)) <<< ((8 : Int32) &&& 31))) ||| ((p3_.toInt8.toInt32) &&& (255 : Int32)))] [(.int p1_), (.int p0_), (.int (2 : Int32)), (.int (6 : Int32)), (.ref nb2_116)] _
              refine st157 _ ?_
              show own_S p e below m T157 221 #[lvI p0_, lvI p1_, lvI p2_, lvI p3_, lvI (2 : Int32), lvR b111, lvR nb2_116, lvI ((((((((p3_.toUInt32 >>> ((24 : Int32) &&& 31).toUInt32).toInt32).toInt8.toInt32) &&& (255 : Int32)) <<< ((24 : Int32) &&& 31)) ||| (((((p3_.toUInt32 >>> ((16 : Int32) &&& 31).toUInt32).toInt32).toInt8.toInt32) &&& (255 : Int32)) <<< ((16 : Int32) &&& 31))) ||| (((((p3_.toUInt32 >>> ((8 : Int32) &&& 31).toUInt32).toInt32).toInt8.toInt32) &&& (255 : Int32)) <<< ((8 : Int32) &&& 31))) ||| ((p3_.toInt8.toInt32) &&& (255 : Int32)))] [(.int (1 : Int32))] _
              refine XS.ifNo X157.here hx rfl (hb hby at_221) rfl ((if0 _ _).trans (feq (by decide : ¬ ((1 : Int32) = (0 : Int32)))).1) ?_
              refine XS.aload X157.here hx rfl (hb hby at_224) rfl rfl ?_
              refine XS.bipush X157.here hx rfl (hb hby at_226) ?_
              refine XS.iload X157.here hx rfl (hb hby at_228) rfl ?_
              show own_S p e below m T157 230 #[lvI p0_, lvI p1_, lvI p2_, lvI p3_, lvI (2 : Int32), lvR b111, lvR nb2_116, lvI ((((((((p3_.toUInt32 >>> ((24 : Int32) &&& 31).toUInt32).toInt32).toInt8.toInt32) &&& (255 : Int32)) <<< ((24 : Int32) &&& 31)) ||| (((((p3_.toUInt32 >>> ((16 : Int32) &&& 31).toUInt32).toInt32).toInt8.toInt32) &&& (255 : Int32)) <<< ((16 : Int32) &&& 31))) ||| (((((p3_.toUInt32 >>> ((8 : Int32) &&& 31).toUInt32).toInt32).toInt8.toInt32) &&& (255 : Int32)) <<< ((8 : Int32) &&& 31))) ||| ((p3_.toInt8.toInt32) &&& (255 : Int32)))] [(.int (2 : Int32)), (.int (7 : Int32)), (.ref nb2_116)] _
              refine XS.iloadN X157.here hx rfl (hb hby at_230) rfl ?_
              refine XS.iloadN X157.here hx rfl (hb hby at_231) rfl ?_
              show own_S p e below m T157 232 #[lvI p0_, lvI p1_, lvI p2_, lvI p3_, lvI (2 : Int32), lvR b111, lvR nb2_116, lvI ((((((((p3_.toUInt32 >>> ((24 : Int32) &&& 31).toUInt32).toInt32).toInt8.toInt32) &&& (255 : Int32)) <<< ((24 : Int32) &&& 31)) ||| (((((p3_.toUInt32 >>> ((16 : Int32) &&& 31).toUInt32).toInt32).toInt8.toInt32) &&& (255 : Int32)) <<< ((16 : Int32) &&& 31))) ||| (((((p3_.toUInt32 >>> ((8 : Int32) &&& 31).toUInt32).toInt32).toInt8.toInt32) &&& (255 : Int32)) <<< ((8 : Int32) &&& 31))) ||| ((p3_.toInt8.toInt32) &&& (255 : Int32)))] [(.int p1_), (.int p0_), (.int (2 : Int32)), (.int (7 : Int32)), (.ref nb2_116)] _
              refine st159 _ ?_
              show own_S p e below m T159 235 #[lvI p0_, lvI p1_, lvI p2_, lvI p3_, lvI (2 : Int32), lvR b111, lvR nb2_116, lvI ((((((((p3_.toUInt32 >>> ((24 : Int32) &&& 31).toUInt32).toInt32).toInt8.toInt32) &&& (255 : Int32)) <<< ((24 : Int32) &&& 31)) ||| (((((p3_.toUInt32 >>> ((16 : Int32) &&& 31).toUInt32).toInt32).toInt8.toInt32) &&& (255 : Int32)) <<< ((16 : Int32) &&& 31))) ||| (((((p3_.toUInt32 >>> ((8 : Int32) &&& 31).toUInt32).toInt32).toInt8.toInt32) &&& (255 : Int32)) <<< ((8 : Int32) &&& 31))) ||| ((p3_.toInt8.toInt32) &&& (255 : Int32)))] [(.int (1 : Int32))] _
              refine XS.ifNo X159.here hx rfl (hb hby at_235) rfl ((if0 _ _).trans (feq (by decide : ¬ ((1 : Int32) = (0 : Int32)))).1) ?_
              refine XS.iconst X159.here hx rfl (hb hby at_238) ?_
              refine XS.goto X159.here hx rfl (pc0 := 239) (pc' := 243) rfl (hb hby at_239) (by decide) (by decide) ?_
              exact kt
            obtain ⟨fs, hr, hrun, hended, hW, hsame⟩ := X159.leave (v := some (.int (1 : Int32))) (fun h => by rw [Bd.returns] at h; cases h)
            refine ⟨_, _, hG _ (pre161 _ (retN X159 hx (t := .boolean) Bd.returns (by simp) (hb hby at_243) hr)), hrun, hended, _, _, rfl, ?_, ⟨_, rfl⟩, hW, hsame.mono (by decide) (by decide)⟩
            show QLaw Z p0_ p1_ p2_ p3_ h0 n0 _ T159.heap _
            rw [e159']
            exact ⟨rfl, N160⟩
          · exact absurd (own_sh0 _) hq159_1_0
        · exact absurd (rfl : (((p1_.toUInt32 >>> ((8 : Int32) &&& 31).toUInt32).toInt32).toInt8.toInt32) = (((p1_.toUInt32 >>> ((8 : Int32) &&& 31).toUInt32).toInt32).toInt8.toInt32)) hq157_1_0
      · exact absurd (rfl : (((p0_.toUInt32 >>> ((16 : Int32) &&& 31).toUInt32).toInt32).toInt8.toInt32) = (((p0_.toUInt32 >>> ((16 : Int32) &&& 31).toUInt32).toInt32).toInt8.toInt32)) hq147_1_0
    · exact absurd (rfl : (((p0_.toUInt32 >>> ((24 : Int32) &&& 31).toUInt32).toInt32).toInt8.toInt32) = (((p0_.toUInt32 >>> ((24 : Int32) &&& 31).toUInt32).toInt32).toInt8.toInt32)) hq145_1_0
  · have pre163 : ∀ t, own_S p e below m s₁ 6 #[lvI p0_, lvI p1_, lvI p2_, lvI p3_, .unset, .unset, .unset, .unset] [(.int (3 : Int32))] t → G t := fun t kt => pre1 t (by rw [hv3]; exact kt)
    obtain ⟨T164, h164, X164, e164, E164, A164, D164, -, st164⟩ := newO X0 hx hZ hown (own_w hw 1 rfl) (own_w hw 2 rfl) (own_w hw 3 rfl) e0 (g := (mkF m 8 #[lvI p0_, lvI p1_, lvI p2_, lvI p3_, lvI (3 : Int32), .unset, .unset, .unset] [])) rfl (hb hby at_8) (by decide) (by decide)
    obtain ⟨b164, g164⟩ : ∃ z, z = h0.size := ⟨_, rfl⟩
    rw [← g164] at A164 D164 st164
    have ge165 : n0 ≤ b164 := Nat.le_trans (Nat.le_trans (Nat.le_of_eq O0.1.symm) O0.2.1) (Nat.le_of_eq g164.symm)
    have sz166 : h0.size ≤ b164 := Nat.le_trans K0.1 (Nat.le_of_eq g164.symm)
    have f167 : Fld Z h164 b164 cn0 "bytes" "[B" .null := D164 (Or.inl (own_w hw 12 rfl)) (ty := (.array .byte)) (by decide)
    have f168 : Fld Z h164 b164 cn0 "length" "I" (.int (0 : Int32)) := D164 (Or.inl (own_w hw 23 rfl)) (ty := .int) (by decide)
    have f170 : Old Z n0 h164 := O0.ext E164
    obtain ⟨_, _, ⟨T169, L169, k169, n169⟩, -, X169, ⟨Lc169, hQ169, l169, y169, z169⟩, st169⟩ := X164.specialBack hx (y := (⟨"com/example/stackweave/stackweave/classfile/ByteWriter", "<init>", "(I)V"⟩ : MethodName)) rfl hown (mvT hZ (own_w hw 4 rfl)) (mvT hZ (own_w hw 5 rfl)) (mvT hZ (own_w hw 6 rfl)) (by decide) (backOf (W := 1) (rminit1 l Z a0 hw [] b164 h164 n0 f170 A164 f167 f168 ge165) hZ (own_w hw 6 rfl) (own_w hw 3 rfl) (by decide) (by decide)) (g := (mkF m 14 #[lvI p0_, lvI p1_, lvI p2_, lvI p3_, lvI (3 : Int32), .unset, .unset, .unset] [(.int (8 : Int32)), (.ref b164), (.ref b164)])) rfl (by rw [hml]; rfl) (Steps.refl _) (a := b164) (argsL := [(.int (8 : Int32))]) (rest := [(.ref b164)]) (lenOf pd_0 rfl) rfl (by show 2 * 0 + _ ≤ _; exact Nat.le_of_eq rfl) (hb hby at_14) (fun _ _ => ⟨rfl, e164, (by decide : 1 + 1 ≤ _), (by decide : 2 + 8 ≤ _)⟩)
    dsimp only [Pt.U, Pt.locs, Pt.cells, Pt.slots] at X169 l169 y169 z169 st169 hQ169
    subst l169 y169 z169
    obtain ⟨h169, e169⟩ : ∃ z, T169.heap = z := ⟨_, rfl⟩
    rw [e169] at hQ169
    obtain ⟨k2_169, nb2_169, rfl, N169q, K169, sznb2_169, g169_0, g169_1, g169_2, g169_3, g169_4⟩ := hQ169
    have N171 := Fr.app N0 N169q
    have ge172 : n0 ≤ nb2_169 := Nat.le_trans (Nat.le_trans (Nat.le_of_eq f170.1.symm) f170.2.1) sznb2_169
    have f173 : Keep h0 h164 [] := K0.ext E164
    have sz174 : h0.size ≤ nb2_169 := Nat.le_trans f173.1 sznb2_169
    have ne176 : b164 ≠ nb2_169 := Nat.ne_of_lt (Nat.lt_of_lt_of_le A164.lt sznb2_169)
    have f177 : Old Z n0 h169 := f170.keep K169 (allS (ge165) all0)
    obtain ⟨cq175, kq175, q175a, q175b, q175c⟩ := isOf hZ e169 g169_0
    obtain ⟨_, _, ⟨T175, L175, k175, n175⟩, -, X175, ⟨Lc175, hQ175, l175, y175, z175⟩, st175⟩ := X169.virtualBack hx (y := (⟨"com/example/stackweave/stackweave/classfile/ByteWriter", "u4", "(I)V"⟩ : MethodName)) (z := (⟨"com/example/stackweave/stackweave/classfile/ByteWriter", "u4", "(I)V"⟩ : MethodName)) hown (mvT hZ (own_w hw 13 rfl)) (mvT hZ (own_w hw 14 rfl)) (notFace_of_selects (args := #[]) (mvT hZ (own_w hw 16 rfl))) (mvT hZ (own_w hw 16 rfl)) (mvT hZ (own_w hw 15 rfl)) (by decide) (backOf (W := 0) (rmu42 l Z a0 hw [] b164 p0_ nb2_169 k2_169 h169 n0 f177 g169_0 g169_1 g169_2 g169_3 g169_4 ge165 (Ne.symm ne176) ge172) hZ (own_w hw 17 rfl) (own_w hw 3 rfl) (by decide) (by decide)) q175a q175c (g := (mkF m 22 #[lvI p0_, lvI p1_, lvI p2_, lvI p3_, lvI (3 : Int32), lvR b164, .unset, .unset] [(.int p0_), (.ref b164)])) rfl (by rw [hml]; rfl) (Steps.refl _) (argsL := [(.int p0_)]) (rest := []) (lenOf pd_0 rfl) rfl (by show 2 * 0 + _ ≤ _; exact Nat.le_of_eq rfl) (hb hby at_22) (fun _ _ => ⟨rfl, e169, (by decide : 2 + 0 ≤ _), (by decide : 10 + 0 ≤ _)⟩)
    dsimp only [Pt.U, Pt.locs, Pt.cells, Pt.slots] at X175 l175 y175 z175 st175 hQ175
    subst l175 y175 z175
    obtain ⟨h175, e175⟩ : ∃ z, T175.heap = z := ⟨_, rfl⟩
    rw [e175] at hQ175
    obtain ⟨rfl, N175q, K175, g175_0, g175_1, g175_2, g175_3, g175_4⟩ := hQ175
    have N178 := Fr.app N171 N175q
    have f180 : Old Z n0 h175 := f177.keep K175 (allS (ge165) (allS (ge172) all0))
    obtain ⟨cq179, kq179, q179a, q179b, q179c⟩ := isOf hZ e175 g175_0
    obtain ⟨_, _, ⟨T179, L179, k179, n179⟩, -, X179, ⟨Lc179, hQ179, l179, y179, z179⟩, st179⟩ := X175.virtualBack hx (y := (⟨"com/example/stackweave/stackweave/classfile/ByteWriter", "u4", "(I)V"⟩ : MethodName)) (z := (⟨"com/example/stackweave/stackweave/classfile/ByteWriter", "u4", "(I)V"⟩ : MethodName)) hown (mvT hZ (own_w hw 13 rfl)) (mvT hZ (own_w hw 14 rfl)) (notFace_of_selects (args := #[]) (mvT hZ (own_w hw 16 rfl))) (mvT hZ (own_w hw 16 rfl)) (mvT hZ (own_w hw 15 rfl)) (by decide) (backOf (W := 0) (rmu44 l Z a0 hw [] b164 p1_ nb2_169 k2_169 (((p0_.toUInt32 >>> ((24 : Int32) &&& 31).toUInt32).toInt32).toInt8.toInt32) (((p0_.toUInt32 >>> ((16 : Int32) &&& 31).toUInt32).toInt32).toInt8.toInt32) (((p0_.toUInt32 >>> ((8 : Int32) &&& 31).toUInt32).toInt32).toInt8.toInt32) (p0_.toInt8.toInt32) h175 n0 f180 g175_0 g175_1 g175_2 g175_3 g175_4 ge165 (Ne.symm ne176) ge172) hZ (own_w hw 17 rfl) (own_w hw 3 rfl) (by decide) (by decide)) q179a q179c (g := (mkF m 28 #[lvI p0_, lvI p1_, lvI p2_, lvI p3_, lvI (3 : Int32), lvR b164, .unset, .unset] [(.int p1_), (.ref b164)])) rfl (by rw [hml]; rfl) (Steps.refl _) (argsL := [(.int p1_)]) (rest := []) (lenOf pd_0 rfl) rfl (by show 2 * 0 + _ ≤ _; exact Nat.le_of_eq rfl) (hb hby at_28) (fun _ _ => ⟨rfl, e175, (by decide : 2 + 0 ≤ _), (by decide : 10 + 0 ≤ _)⟩)
    dsimp only [Pt.U, Pt.locs, Pt.cells, Pt.slots] at X179 l179 y179 z179 st179 hQ179
    subst l179 y179 z179
    obtain ⟨h179, e179⟩ : ∃ z, T179.heap = z := ⟨_, rfl⟩
    rw [e179] at hQ179
    obtain ⟨rfl, N179q, K179, g179_0, g179_1, g179_2, g179_3, g179_4⟩ := hQ179
    have N181 := Fr.app N178 N179q
    have f183 : Old Z n0 h179 := f180.keep K179 (allS (ge165) (allS (ge172) all0))
    obtain ⟨cq182, kq182, q182a, q182b, q182c⟩ := isOf hZ e179 g179_0
    obtain ⟨_, _, ⟨T182, L182, k182, n182⟩, -, X182, ⟨Lc182, hQ182, l182, y182, z182⟩, st182⟩ := X179.virtualBack hx (y := (⟨"com/example/stackweave/stackweave/classfile/ByteWriter", "u4At", "(II)V"⟩ : MethodName)) (z := (⟨"com/example/stackweave/stackweave/classfile/ByteWriter", "u4At", "(II)V"⟩ : MethodName)) hown (mvT hZ (own_w hw 24 rfl)) (mvT hZ (own_w hw 25 rfl)) (notFace_of_selects (args := #[]) (mvT hZ (own_w hw 27 rfl))) (mvT hZ (own_w hw 27 rfl)) (mvT hZ (own_w hw 26 rfl)) (by decide) (backOf (W := 0) (rmu4At35 l Z a0 hw [] b164 p3_ nb2_169 k2_169 (((p0_.toUInt32 >>> ((24 : Int32) &&& 31).toUInt32).toInt32).toInt8.toInt32) (((p0_.toUInt32 >>> ((16 : Int32) &&& 31).toUInt32).toInt32).toInt8.toInt32) (((p0_.toUInt32 >>> ((8 : Int32) &&& 31).toUInt32).toInt32).toInt8.toInt32) (p0_.toInt8.toInt32) (((p1_.toUInt32 >>> ((24 : Int32) &&& 31).toUInt32).toInt32).toInt8.toInt32) (((p1_.toUInt32 >>> ((16 : Int32) &&& 31).toUInt32).toInt32).toInt8.toInt32) (((p1_.toUInt32 >>> ((8 : Int32) &&& 31).toUInt32).toInt32).toInt8.toInt32) (p1_.toInt8.toInt32) h179 n0 f183 g179_0 g179_1 g179_2 g179_3 g179_4 ge172 ne176) hZ (own_w hw 28 rfl) (own_w hw 3 rfl) (by decide) (by decide)) q182a q182c (g := (mkF m 36 #[lvI p0_, lvI p1_, lvI p2_, lvI p3_, lvI (3 : Int32), lvR b164, .unset, .unset] [(.int p3_), (.int (3 : Int32)), (.ref b164)])) rfl (by rw [hml]; rfl) (Steps.refl _) (argsL := [(.int (3 : Int32)), (.int p3_)]) (rest := []) (lenOf pd_1 rfl) rfl (by show 2 * 0 + _ ≤ _; exact Nat.le_of_eq rfl) (hb hby at_36) (fun _ _ => ⟨rfl, e179, (by decide : 2 + 0 ≤ _), (by decide : 10 + 0 ≤ _)⟩)
    dsimp only [Pt.U, Pt.locs, Pt.cells, Pt.slots] at X182 l182 y182 z182 st182 hQ182
    subst l182 y182 z182
    obtain ⟨h182, e182⟩ : ∃ z, T182.heap = z := ⟨_, rfl⟩
    rw [e182] at hQ182
    obtain ⟨rfl, N182q, K182, g182_0, g182_1⟩ := hQ182
    have N184 := Fr.app N181 N182q
    have f186 : Exa Z h182 b164 cn0 := g179_0.keep K182
    have f187 : Fld Z h182 b164 cn0 "bytes" "[B" (.ref nb2_169) := g179_1.keep K182 (ninS ne176 nin0)
    have f188 : Fld Z h182 b164 cn0 "length" "I" (.int (8 : Int32)) := g179_2.keep K182 (ninS ne176 nin0)
    have f189 : Old Z n0 h182 := f183.keep K182 (allS (ge172) all0)
    obtain ⟨cq185, kq185, q185a, q185b, q185c⟩ := isOf hZ e182 f186
    obtain ⟨_, _, ⟨T185, L185, k185, n185⟩, -, X185, ⟨Lc185, hQ185, l185, y185, z185⟩, st185⟩ := X182.virtualBack hx (y := (⟨"com/example/stackweave/stackweave/classfile/ByteWriter", "length", "()I"⟩ : MethodName)) (z := (⟨"com/example/stackweave/stackweave/classfile/ByteWriter", "length", "()I"⟩ : MethodName)) hown (mvT hZ (own_w hw 29 rfl)) (mvT hZ (own_w hw 30 rfl)) (notFace_of_selects (args := #[]) (mvT hZ (own_w hw 32 rfl))) (mvT hZ (own_w hw 32 rfl)) (mvT hZ (own_w hw 31 rfl)) (by decide) (backOf (W := 0) (rmlength7 l Z a0 hw [] b164 nb2_169 k2_169 (((p0_.toUInt32 >>> ((24 : Int32) &&& 31).toUInt32).toInt32).toInt8.toInt32) (((p0_.toUInt32 >>> ((16 : Int32) &&& 31).toUInt32).toInt32).toInt8.toInt32) (((p0_.toUInt32 >>> ((8 : Int32) &&& 31).toUInt32).toInt32).toInt8.toInt32) (((p3_.toUInt32 >>> ((24 : Int32) &&& 31).toUInt32).toInt32).toInt8.toInt32) (((p3_.toUInt32 >>> ((16 : Int32) &&& 31).toUInt32).toInt32).toInt8.toInt32) (((p3_.toUInt32 >>> ((8 : Int32) &&& 31).toUInt32).toInt32).toInt8.toInt32) (p3_.toInt8.toInt32) (p1_.toInt8.toInt32) h182 n0 f189 f186 f187 f188 g182_0 g182_1) hZ (own_w hw 33 rfl) (own_w hw 3 rfl) (by decide) (by decide)) q185a q185c (g := (mkF m 41 #[lvI p0_, lvI p1_, lvI p2_, lvI p3_, lvI (3 : Int32), lvR b164, .unset, .unset] [(.ref b164)])) rfl (by rw [hml]; rfl) (Steps.refl _) (argsL := []) (rest := []) (lenOf pd_2 rfl) rfl (by show 2 * 0 + _ ≤ _; exact Nat.le_of_eq rfl) (hb hby at_41) (fun _ _ => ⟨rfl, e182, (by decide : 2 + 0 ≤ _), (by decide : 10 + 0 ≤ _)⟩)
    dsimp only [Pt.U, Pt.locs, Pt.cells, Pt.slots] at X185 l185 y185 z185 st185 hQ185
    subst l185 y185 z185
    obtain ⟨h185, e185⟩ : ∃ z, T185.heap = z := ⟨_, rfl⟩
    rw [e185] at hQ185
    obtain ⟨rfl, N185q, hh185⟩ := hQ185
    have N190 := Fr.app N184 N185q
    have e185' : T185.heap = h182 := e185.trans hh185
    obtain ⟨cq191, kq191, q191a, q191b, q191c⟩ := isOf hZ e185' f186
    obtain ⟨_, _, ⟨T191, L191, k191, n191⟩, -, X191, ⟨Lc191, hQ191, l191, y191, z191⟩, st191⟩ := X185.virtualBack hx (y := (⟨"com/example/stackweave/stackweave/classfile/ByteWriter", "filledArray", "()[B"⟩ : MethodName)) (z := (⟨"com/example/stackweave/stackweave/classfile/ByteWriter", "filledArray", "()[B"⟩ : MethodName)) hown (mvT hZ (own_w hw 34 rfl)) (mvT hZ (own_w hw 35 rfl)) (notFace_of_selects (args := #[]) (mvT hZ (own_w hw 37 rfl))) (mvT hZ (own_w hw 37 rfl)) (mvT hZ (own_w hw 36 rfl)) (by decide) (backOf (W := 0) (rmfilledArray8 l Z a0 hw [] b164 nb2_169 k2_169 (((p0_.toUInt32 >>> ((24 : Int32) &&& 31).toUInt32).toInt32).toInt8.toInt32) (((p0_.toUInt32 >>> ((16 : Int32) &&& 31).toUInt32).toInt32).toInt8.toInt32) (((p0_.toUInt32 >>> ((8 : Int32) &&& 31).toUInt32).toInt32).toInt8.toInt32) (((p3_.toUInt32 >>> ((24 : Int32) &&& 31).toUInt32).toInt32).toInt8.toInt32) (((p3_.toUInt32 >>> ((16 : Int32) &&& 31).toUInt32).toInt32).toInt8.toInt32) (((p3_.toUInt32 >>> ((8 : Int32) &&& 31).toUInt32).toInt32).toInt8.toInt32) (p3_.toInt8.toInt32) (p1_.toInt8.toInt32) h182 n0 f189 f186 f187 f188 g182_0 g182_1) hZ (own_w hw 38 rfl) (own_w hw 3 rfl) (by decide) (by decide)) q191a q191c (g := (mkF m 53 #[lvI p0_, lvI p1_, lvI p2_, lvI p3_, lvI (3 : Int32), lvR b164, .unset, .unset] [(.ref b164)])) rfl (by rw [hml]; rfl) (Steps.refl _) (argsL := []) (rest := []) (lenOf pd_3 rfl) rfl (by show 2 * 0 + _ ≤ _; exact Nat.le_of_eq rfl) (hb hby at_53) (fun _ _ => ⟨rfl, e185', (by decide : 2 + 0 ≤ _), (by decide : 10 + 0 ≤ _)⟩)
    dsimp only [Pt.U, Pt.locs, Pt.cells, Pt.slots] at X191 l191 y191 z191 st191 hQ191
    subst l191 y191 z191
    obtain ⟨h191, e191⟩ : ∃ z, T191.heap = z := ⟨_, rfl⟩
    rw [e191] at hQ191
    obtain ⟨rfl, N191q, hh191⟩ := hQ191
    have N192 := Fr.app N190 N191q
    have e191' : T191.heap = h182 := e191.trans hh191
    obtain ⟨c193, r193, q193, s193, z193, y193, G193⟩ := id g182_0
    obtain ⟨c194, r194, q194, s194, z194, y194, G194⟩ := id g182_0
    have hin194 : ¬ ((3 : Int32) < 0 ∨ c194.slots.size ≤ ((3 : Int32)).toNatClampNeg) := inb_of s194 ⟨by decide, by decide⟩
    have hat194 : c194.slots[((3 : Int32)).toNatClampNeg]? = some (.int (((p3_.toUInt32 >>> ((24 : Int32) &&& 31).toUInt32).toInt32).toInt8.toInt32)) := Has.at y194 hin194 rfl
    obtain ⟨c195, r195, q195, s195, z195, y195, G195⟩ := id g182_0
    have hin195 : ¬ ((4 : Int32) < 0 ∨ c195.slots.size ≤ ((4 : Int32)).toNatClampNeg) := inb_of s195 ⟨by decide, by decide⟩
    have hat195 : c195.slots[((4 : Int32)).toNatClampNeg]? = some (.int (((p3_.toUInt32 >>> ((16 : Int32) &&& 31).toUInt32).toInt32).toInt8.toInt32)) := Has.at y195 hin195 rfl
    obtain ⟨c196, r196, q196, s196, z196, y196, G196⟩ := id g182_0
    have hin196 : ¬ ((5 : Int32) < 0 ∨ c196.slots.size ≤ ((5 : Int32)).toNatClampNeg) := inb_of s196 ⟨by decide, by decide⟩
    have hat196 : c196.slots[((5 : Int32)).toNatClampNeg]? = some (.int (((p3_.toUInt32 >>> ((8 : Int32) &&& 31).toUInt32).toInt32).toInt8.toInt32)) := Has.at y196 hin196 rfl
    obtain ⟨c197, r197, q197, s197, z197, y197, G197⟩ := id g182_0
    have hin197 : ¬ ((6 : Int32) < 0 ∨ c197.slots.size ≤ ((6 : Int32)).toNatClampNeg) := inb_of s197 ⟨by decide, by decide⟩
    have hat197 : c197.slots[((6 : Int32)).toNatClampNeg]? = some (.int (p3_.toInt8.toInt32)) := Has.at y197 hin197 rfl
    obtain ⟨_, _, ⟨T198, L198, k198, n198⟩, -, X198, ⟨Lc198, hQ198, l198, y198, z198⟩, st198⟩ := Jvm.LawKit.callS X191 hx (y := (⟨"com/example/stackweave/stackweave/classfile/ByteWriterU4AtPinLaw", "keeps", "([BIIII)Z"⟩ : MethodName)) hown (mvT hZ (own_w hw 39 rfl)) (mvT hZ (own_w hw 40 rfl)) (mvT hZ (own_w hw 41 rfl)) (mvT hZ (own_w hw 42 rfl)) (by decide) (backOf (W := 0) (rmkeeps36 l Z a0 hw [] nb2_169 p0_ p1_ k2_169 (((p0_.toUInt32 >>> ((24 : Int32) &&& 31).toUInt32).toInt32).toInt8.toInt32) (((p0_.toUInt32 >>> ((16 : Int32) &&& 31).toUInt32).toInt32).toInt8.toInt32) (((p0_.toUInt32 >>> ((8 : Int32) &&& 31).toUInt32).toInt32).toInt8.toInt32) (((p3_.toUInt32 >>> ((24 : Int32) &&& 31).toUInt32).toInt32).toInt8.toInt32) (((p3_.toUInt32 >>> ((16 : Int32) &&& 31).toUInt32).toInt32).toInt8.toInt32) (((p3_.toUInt32 >>> ((8 : Int32) &&& 31).toUInt32).toInt32).toInt8.toInt32) (p3_.toInt8.toInt32) (p1_.toInt8.toInt32) h182 n0 f189 g182_0 g182_1) hZ (own_w hw 42 rfl) (own_w hw 41 rfl) (by decide) (by decide)) (g := (mkF m 139 #[lvI p0_, lvI p1_, lvI p2_, lvI p3_, lvI (3 : Int32), lvR b164, lvR nb2_169, lvI ((((((((p3_.toUInt32 >>> ((24 : Int32) &&& 31).toUInt32).toInt32).toInt8.toInt32) &&& (255 : Int32)) <<< ((24 : Int32) &&& 31)) ||| (((((p3_.toUInt32 >>> ((16 : Int32) &&& 31).toUInt32).toInt32).toInt8.toInt32) &&& (255 : Int32)) <<< ((16 : Int32) &&& 31))) ||| (((((p3_.toUInt32 >>> ((8 : Int32) &&& 31).toUInt32).toInt32).toInt8.toInt32) &&& (255 : Int32)) <<< ((8 : Int32) &&& 31))) ||| ((p3_.toInt8.toInt32) &&& (255 : Int32)))] [(.int p1_), (.int p0_), (.int (3 : Int32)), (.int (0 : Int32)), (.ref nb2_169)])) rfl (by rw [hml]; rfl) (argsL := [(.ref nb2_169), (.int (0 : Int32)), (.int (3 : Int32)), (.int p0_), (.int p1_)]) (rest := []) (lenOf pd_4 rfl) rfl (by show 2 * 0 + _ ≤ _; exact Nat.le_of_eq rfl) (hb hby at_139) (fun _ _ => ⟨rfl, e191', (by decide : 2 + 0 ≤ _), (by decide : 10 + 0 ≤ _)⟩)
    dsimp only [Pt.U, Pt.locs, Pt.cells, Pt.slots] at X198 l198 y198 z198 st198 hQ198
    subst l198 y198 z198
    obtain ⟨h198, e198⟩ : ∃ z, T198.heap = z := ⟨_, rfl⟩
    rw [e198] at hQ198
    obtain ⟨rr198, rfl, hs198, N198q, hh198⟩ := hQ198
    have N199 := Fr.app N192 N198q
    have e198' : T198.heap = h182 := e198.trans hh198
    rcases hs198 with ⟨rfl, hq198_0_0⟩ | ⟨rfl, hq198_1_0⟩
    · obtain ⟨_, _, ⟨T200, L200, k200, n200⟩, -, X200, ⟨Lc200, hQ200, l200, y200, z200⟩, st200⟩ := Jvm.LawKit.callS X198 hx (y := (⟨"com/example/stackweave/stackweave/classfile/ByteWriterU4AtPinLaw", "keeps", "([BIIII)Z"⟩ : MethodName)) hown (mvT hZ (own_w hw 39 rfl)) (mvT hZ (own_w hw 40 rfl)) (mvT hZ (own_w hw 41 rfl)) (mvT hZ (own_w hw 42 rfl)) (by decide) (backOf (W := 0) (rmkeeps37 l Z a0 hw [] nb2_169 p0_ p1_ k2_169 (((p0_.toUInt32 >>> ((24 : Int32) &&& 31).toUInt32).toInt32).toInt8.toInt32) (((p0_.toUInt32 >>> ((16 : Int32) &&& 31).toUInt32).toInt32).toInt8.toInt32) (((p0_.toUInt32 >>> ((8 : Int32) &&& 31).toUInt32).toInt32).toInt8.toInt32) (((p3_.toUInt32 >>> ((24 : Int32) &&& 31).toUInt32).toInt32).toInt8.toInt32) (((p3_.toUInt32 >>> ((16 : Int32) &&& 31).toUInt32).toInt32).toInt8.toInt32) (((p3_.toUInt32 >>> ((8 : Int32) &&& 31).toUInt32).toInt32).toInt8.toInt32) (p3_.toInt8.toInt32) (p1_.toInt8.toInt32) h182 n0 f189 g182_0 g182_1) hZ (own_w hw 42 rfl) (own_w hw 41 rfl) (by decide) (by decide)) (g := (mkF m 152 #[lvI p0_, lvI p1_, lvI p2_, lvI p3_, lvI (3 : Int32), lvR b164, lvR nb2_169, lvI ((((((((p3_.toUInt32 >>> ((24 : Int32) &&& 31).toUInt32).toInt32).toInt8.toInt32) &&& (255 : Int32)) <<< ((24 : Int32) &&& 31)) ||| (((((p3_.toUInt32 >>> ((16 : Int32) &&& 31).toUInt32).toInt32).toInt8.toInt32) &&& (255 : Int32)) <<< ((16 : Int32) &&& 31))) ||| (((((p3_.toUInt32 >>> ((8 : Int32) &&& 31).toUInt32).toInt32).toInt8.toInt32) &&& (255 : Int32)) <<< ((8 : Int32) &&& 31))) ||| ((p3_.toInt8.toInt32) &&& (255 : Int32)))] [(.int p1_), (.int p0_), (.int (3 : Int32)), (.int (1 : Int32)), (.ref nb2_169)])) rfl (by rw [hml]; rfl) (argsL := [(.ref nb2_169), (.int (1 : Int32)), (.int (3 : Int32)), (.int p0_), (.int p1_)]) (rest := []) (lenOf pd_4 rfl) rfl (by show 2 * 0 + _ ≤ _; exact Nat.le_of_eq rfl) (hb hby at_152) (fun _ _ => ⟨rfl, e198', (by decide : 2 + 0 ≤ _), (by decide : 10 + 0 ≤ _)⟩)
      dsimp only [Pt.U, Pt.locs, Pt.cells, Pt.slots] at X200 l200 y200 z200 st200 hQ200
      subst l200 y200 z200
      obtain ⟨h200, e200⟩ : ∃ z, T200.heap = z := ⟨_, rfl⟩
      rw [e200] at hQ200
      obtain ⟨rr200, rfl, hs200, N200q, hh200⟩ := hQ200
      have N201 := Fr.app N199 N200q
      have e200' : T200.heap = h182 := e200.trans hh200
      rcases hs200 with ⟨rfl, hq200_0_0⟩ | ⟨rfl, hq200_1_0⟩
      · obtain ⟨_, _, ⟨T202, L202, k202, n202⟩, -, X202, ⟨Lc202, hQ202, l202, y202, z202⟩, st202⟩ := Jvm.LawKit.callS X200 hx (y := (⟨"com/example/stackweave/stackweave/classfile/ByteWriterU4AtPinLaw", "keeps", "([BIIII)Z"⟩ : MethodName)) hown (mvT hZ (own_w hw 39 rfl)) (mvT hZ (own_w hw 40 rfl)) (mvT hZ (own_w hw 41 rfl)) (mvT hZ (own_w hw 42 rfl)) (by decide) (backOf (W := 0) (rmkeeps38 l Z a0 hw [] nb2_169 p0_ p1_ k2_169 (((p0_.toUInt32 >>> ((24 : Int32) &&& 31).toUInt32).toInt32).toInt8.toInt32) (((p0_.toUInt32 >>> ((16 : Int32) &&& 31).toUInt32).toInt32).toInt8.toInt32) (((p0_.toUInt32 >>> ((8 : Int32) &&& 31).toUInt32).toInt32).toInt8.toInt32) (((p3_.toUInt32 >>> ((24 : Int32) &&& 31).toUInt32).toInt32).toInt8.toInt32) (((p3_.toUInt32 >>> ((16 : Int32) &&& 31).toUInt32).toInt32).toInt8.toInt32) (((p3_.toUInt32 >>> ((8 : Int32) &&& 31).toUInt32).toInt32).toInt8.toInt32) (p3_.toInt8.toInt32) (p1_.toInt8.toInt32) h182 n0 f189 g182_0 g182_1) hZ (own_w hw 42 rfl) (own_w hw 41 rfl) (by decide) (by decide)) (g := (mkF m 165 #[lvI p0_, lvI p1_, lvI p2_, lvI p3_, lvI (3 : Int32), lvR b164, lvR nb2_169, lvI ((((((((p3_.toUInt32 >>> ((24 : Int32) &&& 31).toUInt32).toInt32).toInt8.toInt32) &&& (255 : Int32)) <<< ((24 : Int32) &&& 31)) ||| (((((p3_.toUInt32 >>> ((16 : Int32) &&& 31).toUInt32).toInt32).toInt8.toInt32) &&& (255 : Int32)) <<< ((16 : Int32) &&& 31))) ||| (((((p3_.toUInt32 >>> ((8 : Int32) &&& 31).toUInt32).toInt32).toInt8.toInt32) &&& (255 : Int32)) <<< ((8 : Int32) &&& 31))) ||| ((p3_.toInt8.toInt32) &&& (255 : Int32)))] [(.int p1_), (.int p0_), (.int (3 : Int32)), (.int (2 : Int32)), (.ref nb2_169)])) rfl (by rw [hml]; rfl) (argsL := [(.ref nb2_169), (.int (2 : Int32)), (.int (3 : Int32)), (.int p0_), (.int p1_)]) (rest := []) (lenOf pd_4 rfl) rfl (by show 2 * 0 + _ ≤ _; exact Nat.le_of_eq rfl) (hb hby at_165) (fun _ _ => ⟨rfl, e200', (by decide : 2 + 0 ≤ _), (by decide : 10 + 0 ≤ _)⟩)
        dsimp only [Pt.U, Pt.locs, Pt.cells, Pt.slots] at X202 l202 y202 z202 st202 hQ202
        subst l202 y202 z202
        obtain ⟨h202, e202⟩ : ∃ z, T202.heap = z := ⟨_, rfl⟩
        rw [e202] at hQ202
        obtain ⟨rr202, rfl, hs202, N202q, hh202⟩ := hQ202
        have N203 := Fr.app N201 N202q
        have e202' : T202.heap = h182 := e202.trans hh202
        rcases hs202 with ⟨rfl, hq202_0_0⟩ | ⟨rfl, hq202_1_0⟩
        · obtain ⟨_, _, ⟨T204, L204, k204, n204⟩, -, X204, ⟨Lc204, hQ204, l204, y204, z204⟩, st204⟩ := Jvm.LawKit.callS X202 hx (y := (⟨"com/example/stackweave/stackweave/classfile/ByteWriterU4AtPinLaw", "keeps", "([BIIII)Z"⟩ : MethodName)) hown (mvT hZ (own_w hw 39 rfl)) (mvT hZ (own_w hw 40 rfl)) (mvT hZ (own_w hw 41 rfl)) (mvT hZ (own_w hw 42 rfl)) (by decide) (backOf (W := 0) (rmkeeps39 l Z a0 hw [] nb2_169 p0_ p1_ k2_169 (((p0_.toUInt32 >>> ((24 : Int32) &&& 31).toUInt32).toInt32).toInt8.toInt32) (((p0_.toUInt32 >>> ((16 : Int32) &&& 31).toUInt32).toInt32).toInt8.toInt32) (((p0_.toUInt32 >>> ((8 : Int32) &&& 31).toUInt32).toInt32).toInt8.toInt32) (((p3_.toUInt32 >>> ((24 : Int32) &&& 31).toUInt32).toInt32).toInt8.toInt32) (((p3_.toUInt32 >>> ((16 : Int32) &&& 31).toUInt32).toInt32).toInt8.toInt32) (((p3_.toUInt32 >>> ((8 : Int32) &&& 31).toUInt32).toInt32).toInt8.toInt32) (p3_.toInt8.toInt32) (p1_.toInt8.toInt32) h182 n0 f189 g182_0 g182_1) hZ (own_w hw 42 rfl) (own_w hw 41 rfl) (by decide) (by decide)) (g := (mkF m 178 #[lvI p0_, lvI p1_, lvI p2_, lvI p3_, lvI (3 : Int32), lvR b164, lvR nb2_169, lvI ((((((((p3_.toUInt32 >>> ((24 : Int32) &&& 31).toUInt32).toInt32).toInt8.toInt32) &&& (255 : Int32)) <<< ((24 : Int32) &&& 31)) ||| (((((p3_.toUInt32 >>> ((16 : Int32) &&& 31).toUInt32).toInt32).toInt8.toInt32) &&& (255 : Int32)) <<< ((16 : Int32) &&& 31))) ||| (((((p3_.toUInt32 >>> ((8 : Int32) &&& 31).toUInt32).toInt32).toInt8.toInt32) &&& (255 : Int32)) <<< ((8 : Int32) &&& 31))) ||| ((p3_.toInt8.toInt32) &&& (255 : Int32)))] [(.int p1_), (.int p0_), (.int (3 : Int32)), (.int (3 : Int32)), (.ref nb2_169)])) rfl (by rw [hml]; rfl) (argsL := [(.ref nb2_169), (.int (3 : Int32)), (.int (3 : Int32)), (.int p0_), (.int p1_)]) (rest := []) (lenOf pd_4 rfl) rfl (by show 2 * 0 + _ ≤ _; exact Nat.le_of_eq rfl) (hb hby at_178) (fun _ _ => ⟨rfl, e202', (by decide : 2 + 0 ≤ _), (by decide : 10 + 0 ≤ _)⟩)
          dsimp only [Pt.U, Pt.locs, Pt.cells, Pt.slots] at X204 l204 y204 z204 st204 hQ204
          subst l204 y204 z204
          obtain ⟨h204, e204⟩ : ∃ z, T204.heap = z := ⟨_, rfl⟩
          rw [e204] at hQ204
          obtain ⟨rfl, N204q, hh204⟩ := hQ204
          have N205 := Fr.app N203 N204q
          have e204' : T204.heap = h182 := e204.trans hh204
          obtain ⟨_, _, ⟨T206, L206, k206, n206⟩, -, X206, ⟨Lc206, hQ206, l206, y206, z206⟩, st206⟩ := Jvm.LawKit.callS X204 hx (y := (⟨"com/example/stackweave/stackweave/classfile/ByteWriterU4AtPinLaw", "keeps", "([BIIII)Z"⟩ : MethodName)) hown (mvT hZ (own_w hw 39 rfl)) (mvT hZ (own_w hw 40 rfl)) (mvT hZ (own_w hw 41 rfl)) (mvT hZ (own_w hw 42 rfl)) (by decide) (backOf (W := 0) (rmkeeps40 l Z a0 hw [] nb2_169 p0_ p1_ k2_169 (((p0_.toUInt32 >>> ((24 : Int32) &&& 31).toUInt32).toInt32).toInt8.toInt32) (((p0_.toUInt32 >>> ((16 : Int32) &&& 31).toUInt32).toInt32).toInt8.toInt32) (((p0_.toUInt32 >>> ((8 : Int32) &&& 31).toUInt32).toInt32).toInt8.toInt32) (((p3_.toUInt32 >>> ((24 : Int32) &&& 31).toUInt32).toInt32).toInt8.toInt32) (((p3_.toUInt32 >>> ((16 : Int32) &&& 31).toUInt32).toInt32).toInt8.toInt32) (((p3_.toUInt32 >>> ((8 : Int32) &&& 31).toUInt32).toInt32).toInt8.toInt32) (p3_.toInt8.toInt32) (p1_.toInt8.toInt32) h182 n0 f189 g182_0 g182_1) hZ (own_w hw 42 rfl) (own_w hw 41 rfl) (by decide) (by decide)) (g := (mkF m 191 #[lvI p0_, lvI p1_, lvI p2_, lvI p3_, lvI (3 : Int32), lvR b164, lvR nb2_169, lvI ((((((((p3_.toUInt32 >>> ((24 : Int32) &&& 31).toUInt32).toInt32).toInt8.toInt32) &&& (255 : Int32)) <<< ((24 : Int32) &&& 31)) ||| (((((p3_.toUInt32 >>> ((16 : Int32) &&& 31).toUInt32).toInt32).toInt8.toInt32) &&& (255 : Int32)) <<< ((16 : Int32) &&& 31))) ||| (((((p3_.toUInt32 >>> ((8 : Int32) &&& 31).toUInt32).toInt32).toInt8.toInt32) &&& (255 : Int32)) <<< ((8 : Int32) &&& 31))) ||| ((p3_.toInt8.toInt32) &&& (255 : Int32)))] [(.int p1_), (.int p0_), (.int (3 : Int32)), (.int (4 : Int32)), (.ref nb2_169)])) rfl (by rw [hml]; rfl) (argsL := [(.ref nb2_169), (.int (4 : Int32)), (.int (3 : Int32)), (.int p0_), (.int p1_)]) (rest := []) (lenOf pd_4 rfl) rfl (by show 2 * 0 + _ ≤ _; exact Nat.le_of_eq rfl) (hb hby at_191) (fun _ _ => ⟨rfl, e204', (by decide : 2 + 0 ≤ _), (by decide : 10 + 0 ≤ _)⟩)
          dsimp only [Pt.U, Pt.locs, Pt.cells, Pt.slots] at X206 l206 y206 z206 st206 hQ206
          subst l206 y206 z206
          obtain ⟨h206, e206⟩ : ∃ z, T206.heap = z := ⟨_, rfl⟩
          rw [e206] at hQ206
          obtain ⟨rfl, N206q, hh206⟩ := hQ206
          have N207 := Fr.app N205 N206q
          have e206' : T206.heap = h182 := e206.trans hh206
          obtain ⟨_, _, ⟨T208, L208, k208, n208⟩, -, X208, ⟨Lc208, hQ208, l208, y208, z208⟩, st208⟩ := Jvm.LawKit.callS X206 hx (y := (⟨"com/example/stackweave/stackweave/classfile/ByteWriterU4AtPinLaw", "keeps", "([BIIII)Z"⟩ : MethodName)) hown (mvT hZ (own_w hw 39 rfl)) (mvT hZ (own_w hw 40 rfl)) (mvT hZ (own_w hw 41 rfl)) (mvT hZ (own_w hw 42 rfl)) (by decide) (backOf (W := 0) (rmkeeps41 l Z a0 hw [] nb2_169 p0_ p1_ k2_169 (((p0_.toUInt32 >>> ((24 : Int32) &&& 31).toUInt32).toInt32).toInt8.toInt32) (((p0_.toUInt32 >>> ((16 : Int32) &&& 31).toUInt32).toInt32).toInt8.toInt32) (((p0_.toUInt32 >>> ((8 : Int32) &&& 31).toUInt32).toInt32).toInt8.toInt32) (((p3_.toUInt32 >>> ((24 : Int32) &&& 31).toUInt32).toInt32).toInt8.toInt32) (((p3_.toUInt32 >>> ((16 : Int32) &&& 31).toUInt32).toInt32).toInt8.toInt32) (((p3_.toUInt32 >>> ((8 : Int32) &&& 31).toUInt32).toInt32).toInt8.toInt32) (p3_.toInt8.toInt32) (p1_.toInt8.toInt32) h182 n0 f189 g182_0 g182_1) hZ (own_w hw 42 rfl) (own_w hw 41 rfl) (by decide) (by decide)) (g := (mkF m 204 #[lvI p0_, lvI p1_, lvI p2_, lvI p3_, lvI (3 : Int32), lvR b164, lvR nb2_169, lvI ((((((((p3_.toUInt32 >>> ((24 : Int32) &&& 31).toUInt32).toInt32).toInt8.toInt32) &&& (255 : Int32)) <<< ((24 : Int32) &&& 31)) ||| (((((p3_.toUInt32 >>> ((16 : Int32) &&& 31).toUInt32).toInt32).toInt8.toInt32) &&& (255 : Int32)) <<< ((16 : Int32) &&& 31))) ||| (((((p3_.toUInt32 >>> ((8 : Int32) &&& 31).toUInt32).toInt32).toInt8.toInt32) &&& (255 : Int32)) <<< ((8 : Int32) &&& 31))) ||| ((p3_.toInt8.toInt32) &&& (255 : Int32)))] [(.int p1_), (.int p0_), (.int (3 : Int32)), (.int (5 : Int32)), (.ref nb2_169)])) rfl (by rw [hml]; rfl) (argsL := [(.ref nb2_169), (.int (5 : Int32)), (.int (3 : Int32)), (.int p0_), (.int p1_)]) (rest := []) (lenOf pd_4 rfl) rfl (by show 2 * 0 + _ ≤ _; exact Nat.le_of_eq rfl) (hb hby at_204) (fun _ _ => ⟨rfl, e206', (by decide : 2 + 0 ≤ _), (by decide : 10 + 0 ≤ _)⟩)
          dsimp only [Pt.U, Pt.locs, Pt.cells, Pt.slots] at X208 l208 y208 z208 st208 hQ208
          subst l208 y208 z208
          obtain ⟨h208, e208⟩ : ∃ z, T208.heap = z := ⟨_, rfl⟩
          rw [e208] at hQ208
          obtain ⟨rfl, N208q, hh208⟩ := hQ208
          have N209 := Fr.app N207 N208q
          have e208' : T208.heap = h182 := e208.trans hh208
          obtain ⟨_, _, ⟨T210, L210, k210, n210⟩, -, X210, ⟨Lc210, hQ210, l210, y210, z210⟩, st210⟩ := Jvm.LawKit.callS X208 hx (y := (⟨"com/example/stackweave/stackweave/classfile/ByteWriterU4AtPinLaw", "keeps", "([BIIII)Z"⟩ : MethodName)) hown (mvT hZ (own_w hw 39 rfl)) (mvT hZ (own_w hw 40 rfl)) (mvT hZ (own_w hw 41 rfl)) (mvT hZ (own_w hw 42 rfl)) (by decide) (backOf (W := 0) (rmkeeps42 l Z a0 hw [] nb2_169 p0_ p1_ k2_169 (((p0_.toUInt32 >>> ((24 : Int32) &&& 31).toUInt32).toInt32).toInt8.toInt32) (((p0_.toUInt32 >>> ((16 : Int32) &&& 31).toUInt32).toInt32).toInt8.toInt32) (((p0_.toUInt32 >>> ((8 : Int32) &&& 31).toUInt32).toInt32).toInt8.toInt32) (((p3_.toUInt32 >>> ((24 : Int32) &&& 31).toUInt32).toInt32).toInt8.toInt32) (((p3_.toUInt32 >>> ((16 : Int32) &&& 31).toUInt32).toInt32).toInt8.toInt32) (((p3_.toUInt32 >>> ((8 : Int32) &&& 31).toUInt32).toInt32).toInt8.toInt32) (p3_.toInt8.toInt32) (p1_.toInt8.toInt32) h182 n0 f189 g182_0 g182_1) hZ (own_w hw 42 rfl) (own_w hw 41 rfl) (by decide) (by decide)) (g := (mkF m 218 #[lvI p0_, lvI p1_, lvI p2_, lvI p3_, lvI (3 : Int32), lvR b164, lvR nb2_169, lvI ((((((((p3_.toUInt32 >>> ((24 : Int32) &&& 31).toUInt32).toInt32).toInt8.toInt32) &&& (255 : Int32)) <<< ((24 : Int32) &&& 31)) ||| (((((p3_.toUInt32 >>> ((16 : Int32) &&& 31).toUInt32).toInt32).toInt8.toInt32) &&& (255 : Int32)) <<< ((16 : Int32) &&& 31))) ||| (((((p3_.toUInt32 >>> ((8 : Int32) &&& 31).toUInt32).toInt32).toInt8.toInt32) &&& (255 : Int32)) <<< ((8 : Int32) &&& 31))) ||| ((p3_.toInt8.toInt32) &&& (255 : Int32)))] [(.int p1_), (.int p0_), (.int (3 : Int32)), (.int (6 : Int32)), (.ref nb2_169)])) rfl (by rw [hml]; rfl) (argsL := [(.ref nb2_169), (.int (6 : Int32)), (.int (3 : Int32)), (.int p0_), (.int p1_)]) (rest := []) (lenOf pd_4 rfl) rfl (by show 2 * 0 + _ ≤ _; exact Nat.le_of_eq rfl) (hb hby at_218) (fun _ _ => ⟨rfl, e208', (by decide : 2 + 0 ≤ _), (by decide : 10 + 0 ≤ _)⟩)
          dsimp only [Pt.U, Pt.locs, Pt.cells, Pt.slots] at X210 l210 y210 z210 st210 hQ210
          subst l210 y210 z210
          obtain ⟨h210, e210⟩ : ∃ z, T210.heap = z := ⟨_, rfl⟩
          rw [e210] at hQ210
          obtain ⟨rfl, N210q, hh210⟩ := hQ210
          have N211 := Fr.app N209 N210q
          have e210' : T210.heap = h182 := e210.trans hh210
          obtain ⟨_, _, ⟨T212, L212, k212, n212⟩, -, X212, ⟨Lc212, hQ212, l212, y212, z212⟩, st212⟩ := Jvm.LawKit.callS X210 hx (y := (⟨"com/example/stackweave/stackweave/classfile/ByteWriterU4AtPinLaw", "keeps", "([BIIII)Z"⟩ : MethodName)) hown (mvT hZ (own_w hw 39 rfl)) (mvT hZ (own_w hw 40 rfl)) (mvT hZ (own_w hw 41 rfl)) (mvT hZ (own_w hw 42 rfl)) (by decide) (backOf (W := 0) (rmkeeps43 l Z a0 hw [] nb2_169 p0_ p1_ k2_169 (((p0_.toUInt32 >>> ((24 : Int32) &&& 31).toUInt32).toInt32).toInt8.toInt32) (((p0_.toUInt32 >>> ((16 : Int32) &&& 31).toUInt32).toInt32).toInt8.toInt32) (((p0_.toUInt32 >>> ((8 : Int32) &&& 31).toUInt32).toInt32).toInt8.toInt32) (((p3_.toUInt32 >>> ((24 : Int32) &&& 31).toUInt32).toInt32).toInt8.toInt32) (((p3_.toUInt32 >>> ((16 : Int32) &&& 31).toUInt32).toInt32).toInt8.toInt32) (((p3_.toUInt32 >>> ((8 : Int32) &&& 31).toUInt32).toInt32).toInt8.toInt32) (p3_.toInt8.toInt32) (p1_.toInt8.toInt32) h182 n0 f189 g182_0 g182_1) hZ (own_w hw 42 rfl) (own_w hw 41 rfl) (by decide) (by decide)) (g := (mkF m 232 #[lvI p0_, lvI p1_, lvI p2_, lvI p3_, lvI (3 : Int32), lvR b164, lvR nb2_169, lvI ((((((((p3_.toUInt32 >>> ((24 : Int32) &&& 31).toUInt32).toInt32).toInt8.toInt32) &&& (255 : Int32)) <<< ((24 : Int32) &&& 31)) ||| (((((p3_.toUInt32 >>> ((16 : Int32) &&& 31).toUInt32).toInt32).toInt8.toInt32) &&& (255 : Int32)) <<< ((16 : Int32) &&& 31))) ||| (((((p3_.toUInt32 >>> ((8 : Int32) &&& 31).toUInt32).toInt32).toInt8.toInt32) &&& (255 : Int32)) <<< ((8 : Int32) &&& 31))) ||| ((p3_.toInt8.toInt32) &&& (255 : Int32)))] [(.int p1_), (.int p0_), (.int (3 : Int32)), (.int (7 : Int32)), (.ref nb2_169)])) rfl (by rw [hml]; rfl) (argsL := [(.ref nb2_169), (.int (7 : Int32)), (.int (3 : Int32)), (.int p0_), (.int p1_)]) (rest := []) (lenOf pd_4 rfl) rfl (by show 2 * 0 + _ ≤ _; exact Nat.le_of_eq rfl) (hb hby at_232) (fun _ _ => ⟨rfl, e210', (by decide : 2 + 0 ≤ _), (by decide : 10 + 0 ≤ _)⟩)
          dsimp only [Pt.U, Pt.locs, Pt.cells, Pt.slots] at X212 l212 y212 z212 st212 hQ212
          subst l212 y212 z212
          obtain ⟨h212, e212⟩ : ∃ z, T212.heap = z := ⟨_, rfl⟩
          rw [e212] at hQ212
          obtain ⟨rr212, rfl, hs212, N212q, hh212⟩ := hQ212
          have N213 := Fr.app N211 N212q
          have e212' : T212.heap = h182 := e212.trans hh212
          rcases hs212 with ⟨rfl, hq212_0_0⟩ | ⟨rfl, hq212_1_0⟩
          · have pre214 : ∀ t, own_S p e below m T212 243 #[lvI p0_, lvI p1_, lvI p2_, lvI p3_, lvI (3 : Int32), lvR b164, lvR nb2_169, lvI ((((((((p3_.toUInt32 >>> ((24 : Int32) &&& 31).toUInt32).toInt32).toInt8.toInt32) &&& (255 : Int32)) <<< ((24 : Int32) &&& 31)) ||| (((((p3_.toUInt32 >>> ((16 : Int32) &&& 31).toUInt32).toInt32).toInt8.toInt32) &&& (255 : Int32)) <<< ((16 : Int32) &&& 31))) ||| (((((p3_.toUInt32 >>> ((8 : Int32) &&& 31).toUInt32).toInt32).toInt8.toInt32) &&& (255 : Int32)) <<< ((8 : Int32) &&& 31))) ||| ((p3_.toInt8.toInt32) &&& (255 : Int32)))] [(.int (1 : Int32))] t → G t := by
              intro t kt
              refine pre163 t ?_
              show own_S p e below m s₁ 6 #[lvI p0_, lvI p1_, lvI p2_, lvI p3_, .unset, .unset, .unset, .unset] [(.int (3 : Int32))] _
              refine XS.istore X0.here hx rfl (hb hby at_6) rfl (l' := #[lvI p0_, lvI p1_, lvI p2_, lvI p3_, lvI (3 : Int32), .unset, .unset, .unset]) rfl ?_
              show own_S p e below m s₁ 8 #[lvI p0_, lvI p1_, lvI p2_, lvI p3_, lvI (3 : Int32), .unset, .unset, .unset] [] _
              refine st164 _ ?_
              refine XS.dup X164.here hx rfl (hb hby at_11) rfl rfl ?_
              refine XS.bipush X164.here hx rfl (hb hby at_12) ?_
              show own_S p e below m T164 14 #[lvI p0_, lvI p1_, lvI p2_, lvI p3_, lvI (3 : Int32), .unset, .unset, .unset] [(.int (8 : Int32)), (.ref b164), (.ref b164)] _
              refine st169.trans ?_
              refine XS.astore X169.here hx rfl (hb hby at_17) rfl rfl (l' := #[lvI p0_, lvI p1_, lvI p2_, lvI p3_, lvI (3 : Int32), lvR b164, .unset, .unset]) rfl ?_
              refine XS.aload X169.here hx rfl (hb hby at_19) rfl rfl ?_
              refine XS.iloadN X169.here hx rfl (hb hby at_21) rfl ?_
              show own_S p e below m T169 22 #[lvI p0_, lvI p1_, lvI p2_, lvI p3_, lvI (3 : Int32), lvR b164, .unset, .unset] [(.int p0_), (.ref b164)] _
              refine st175.trans ?_
              refine XS.aload X175.here hx rfl (hb hby at_25) rfl rfl ?_
              refine XS.iloadN X175.here hx rfl (hb hby at_27) rfl ?_
              show own_S p e below m T175 28 #[lvI p0_, lvI p1_, lvI p2_, lvI p3_, lvI (3 : Int32), lvR b164, .unset, .unset] [(.int p1_), (.ref b164)] _
              refine st179.trans ?_
              refine XS.aload X179.here hx rfl (hb hby at_31) rfl rfl ?_
              refine XS.iload X179.here hx rfl (hb hby at_33) rfl ?_
              refine XS.iloadN X179.here hx rfl (hb hby at_35) rfl ?_
              show own_S p e below m T179 36 #[lvI p0_, lvI p1_, lvI p2_, lvI p3_, lvI (3 : Int32), lvR b164, .unset, .unset] [(.int p3_), (.int (3 : Int32)), (.ref b164)] _
              refine st182.trans ?_
              refine XS.aload X182.here hx rfl (hb hby at_39) rfl rfl ?_
              show own_S p e below m T182 41 #[lvI p0_, lvI p1_, lvI p2_, lvI p3_, lvI (3 : Int32), lvR b164, .unset, .unset] [(.ref b164)] _
              refine st185.trans ?_
              refine XS.bipush X185.here hx rfl (hb hby at_44) ?_
              show own_S p e below m T185 46 #[lvI p0_, lvI p1_, lvI p2_, lvI p3_, lvI (3 : Int32), lvR b164, .unset, .unset] [(.int (8 : Int32)), (.int (8 : Int32))] _
              refine XS.icmpYes X185.here hx rfl (pc0 := 46) (pc' := 51) rfl (hb hby at_46) rfl (teq (by decide : (8 : Int32) = (8 : Int32))).1 (by decide) (by decide) ?_
              refine XS.aload X185.here hx rfl (hb hby at_51) rfl rfl ?_
              show own_S p e below m T185 53 #[lvI p0_, lvI p1_, lvI p2_, lvI p3_, lvI (3 : Int32), lvR b164, .unset, .unset] [(.ref b164)] _
              refine st191.trans ?_
              refine XS.astore X191.here hx rfl (hb hby at_56) rfl rfl (l' := #[lvI p0_, lvI p1_, lvI p2_, lvI p3_, lvI (3 : Int32), lvR b164, lvR nb2_169, .unset]) rfl ?_
              refine XS.aload X191.here hx rfl (hb hby at_58) rfl rfl ?_
              show own_S p e below m T191 60 #[lvI p0_, lvI p1_, lvI p2_, lvI p3_, lvI (3 : Int32), lvR b164, lvR nb2_169, .unset] [(.ref nb2_169)] _
              refine X191.arraylength hx (by rw [e191']; exact r193.1) (State.isArrayOf_alike hZ.alike r193.2.1) (g := (mkF m 60 #[lvI p0_, lvI p1_, lvI p2_, lvI p3_, lvI (3 : Int32), lvR b164, lvR nb2_169, .unset] [(.ref nb2_169)])) rfl rfl (hb hby at_60) _ ?_
              rw [len_of s193 z193]
              refine XS.bipush X191.here hx rfl (hb hby at_61) ?_
              show own_S p e below m T191 63 #[lvI p0_, lvI p1_, lvI p2_, lvI p3_, lvI (3 : Int32), lvR b164, lvR nb2_169, .unset] [(.int (8 : Int32)), (.int (8 : Int32))] _
              refine XS.icmpYes X191.here hx rfl (pc0 := 63) (pc' := 68) rfl (hb hby at_63) rfl (teq (by decide : (8 : Int32) = (8 : Int32))).1 (by decide) (by decide) ?_
              refine XS.aload X191.here hx rfl (hb hby at_68) rfl rfl ?_
              refine XS.iload X191.here hx rfl (hb hby at_70) rfl ?_
              show own_S p e below m T191 72 #[lvI p0_, lvI p1_, lvI p2_, lvI p3_, lvI (3 : Int32), lvR b164, lvR nb2_169, .unset] [(.int (3 : Int32)), (.ref nb2_169)] _
              refine X191.baloadBytes hx (j := (3 : Int32)) (v := (.int (((p3_.toUInt32 >>> ((24 : Int32) &&& 31).toUInt32).toInt32).toInt8.toInt32))) (by rw [e191']; exact r194.1) (State.isArrayOf_alike hZ.alike r194.2.1) r194.2.2 hin194 hat194 (g := (mkF m 72 #[lvI p0_, lvI p1_, lvI p2_, lvI p3_, lvI (3 : Int32), lvR b164, lvR nb2_169, .unset] [(.int (3 : Int32)), (.ref nb2_169)])) rfl rfl (hb hby at_72) _ ?_
              refine XS.sipush X191.here hx rfl (hb hby at_73) ?_
              refine XS.iand X191.here hx rfl (hb hby at_76) rfl ?_
              refine XS.bipush X191.here hx rfl (hb hby at_77) ?_
              show own_S p e below m T191 79 #[lvI p0_, lvI p1_, lvI p2_, lvI p3_, lvI (3 : Int32), lvR b164, lvR nb2_169, .unset] [(.int (24 : Int32)), (.int ((((p3_.toUInt32 >>> ((24 : Int32) &&& 31).toUInt32).toInt32).toInt8.toInt32) &&& (255 : Int32)))] _
              refine XS.ishl X191.here hx rfl (hb hby at_79) rfl ?_
              refine XS.aload X191.here hx rfl (hb hby at_80) rfl rfl ?_
              refine XS.iload X191.here hx rfl (hb hby at_82) rfl ?_
              refine XS.iconst X191.here hx rfl (hb hby at_84) ?_
              show own_S p e below m T191 85 #[lvI p0_, lvI p1_, lvI p2_, lvI p3_, lvI (3 : Int32), lvR b164, lvR nb2_169, .unset] [(.int (1 : Int32)), (.int (3 : Int32)), (.ref nb2_169), (.int (((((p3_.toUInt32 >>> ((24 : Int32) &&& 31).toUInt32).toInt32).toInt8.toInt32) &&& (255 : Int32)) <<< ((24 : Int32) &&& 31)))] _
              refine XS.iadd X191.here hx rfl (hb hby at_85) rfl ?_
              show own_S p e below m T191 86 #[lvI p0_, lvI p1_, lvI p2_, lvI p3_, lvI (3 : Int32), lvR b164, lvR nb2_169, .unset] [(.int (4 : Int32)), (.ref nb2_169), (.int (((((p3_.toUInt32 >>> ((24 : Int32) &&& 31).toUInt32).toInt32).toInt8.toInt32) &&& (255 : Int32)) <<< ((24 : Int32) &&& 31)))] _
              refine X191.baloadBytes hx (j := (4 : Int32)) (v := (.int (((p3_.toUInt32 >>> ((16 : Int32) &&& 31).toUInt32).toInt32).toInt8.toInt32))) (by rw [e191']; exact r195.1) (State.isArrayOf_alike hZ.alike r195.2.1) r195.2.2 hin195 hat195 (g := (mkF m 86 #[lvI p0_, lvI p1_, lvI p2_, lvI p3_, lvI (3 : Int32), lvR b164, lvR nb2_169, .unset] [(.int (4 : Int32)), (.ref nb2_169), (.int (((((p3_.toUInt32 >>> ((24 : Int32) &&& 31).toUInt32).toInt32).toInt8.toInt32) &&& (255 : Int32)) <<< ((24 : Int32) &&& 31)))])) rfl rfl (hb hby at_86) _ ?_
              refine XS.sipush X191.here hx rfl (hb hby at_87) ?_
              refine XS.iand X191.here hx rfl (hb hby at_90) rfl ?_
              refine XS.bipush X191.here hx rfl (hb hby at_91) ?_
              show own_S p e below m T191 93 #[lvI p0_, lvI p1_, lvI p2_, lvI p3_, lvI (3 : Int32), lvR b164, lvR nb2_169, .unset] [(.int (16 : Int32)), (.int ((((p3_.toUInt32 >>> ((16 : Int32) &&& 31).toUInt32).toInt32).toInt8.toInt32) &&& (255 : Int32))), (.int (((((p3_.toUInt32 >>> ((24 : Int32) &&& 31).toUInt32).toInt32).toInt8.toInt32) &&& (255 : Int32)) <<< ((24 : Int32) &&& 31)))] _
              refine XS.ishl X191.here hx rfl (hb hby at_93) rfl ?_
              show own_S p e below m T191 94 #[lvI p0_, lvI p1_, lvI p2_, lvI p3_, lvI (3 : Int32), lvR b164, lvR nb2_169, .unset] [(.int (((((p3_.toUInt32 >>> ((16 : Int32) &&& 31).toUInt32).toInt32).toInt8.toInt32) &&& (255 : Int32)) <<< ((16 : Int32) &&& 31))), (.int (((((p3_.toUInt32 >>> ((24 : Int32) &&& 31).toUInt32).toInt32).toInt8.toInt32) &&& (255 : Int32)) <<< ((24 : Int32) &&& 31)))] _
              refine XS.ior X191.here hx rfl (hb hby at_94) rfl ?_
              refine XS.aload X191.here hx rfl (hb hby at_95) rfl rfl ?_
              refine XS.iload X191.here hx rfl (hb hby at_97) rfl ?_
              refine XS.iconst X191.here hx rfl (hb hby at_99) ?_
              show own_S p e below m T191 100 #[lvI p0_, lvI p1_, lvI p2_, lvI p3_, lvI (3 : Int32), lvR b164, lvR nb2_169, .unset] [(.int (2 : Int32)), (.int (3 : Int32)), (.ref nb2_169), (.int ((((((p3_.toUInt32 >>> ((24 : Int32) &&& 31).toUInt32).toInt32).toInt8.toInt32) &&& (255 : Int32)) <<< ((24 : Int32) &&& 31)) ||| (((((p3_.toUInt32 >>> ((16 : Int32) &&& 31).toUInt32).toInt32).toInt8.toInt32) &&& (255 : Int32)) <<< ((16 : Int32) &&& 31))))] _
              refine XS.iadd X191.here hx rfl (hb hby at_100) rfl ?_
              show own_S p e below m T191 101 #[lvI p0_, lvI p1_, lvI p2_, lvI p3_, lvI (3 : Int32), lvR b164, lvR nb2_169, .unset] [(.int (5 : Int32)), (.ref nb2_169), (.int ((((((p3_.toUInt32 >>> ((24 : Int32) &&& 31).toUInt32).toInt32).toInt8.toInt32) &&& (255 : Int32)) <<< ((24 : Int32) &&& 31)) ||| (((((p3_.toUInt32 >>> ((16 : Int32) &&& 31).toUInt32).toInt32).toInt8.toInt32) &&& (255 : Int32)) <<< ((16 : Int32) &&& 31))))] _
              refine X191.baloadBytes hx (j := (5 : Int32)) (v := (.int (((p3_.toUInt32 >>> ((8 : Int32) &&& 31).toUInt32).toInt32).toInt8.toInt32))) (by rw [e191']; exact r196.1) (State.isArrayOf_alike hZ.alike r196.2.1) r196.2.2 hin196 hat196 (g := (mkF m 101 #[lvI p0_, lvI p1_, lvI p2_, lvI p3_, lvI (3 : Int32), lvR b164, lvR nb2_169, .unset] [(.int (5 : Int32)), (.ref nb2_169), (.int ((((((p3_.toUInt32 >>> ((24 : Int32) &&& 31).toUInt32).toInt32).toInt8.toInt32) &&& (255 : Int32)) <<< ((24 : Int32) &&& 31)) ||| (((((p3_.toUInt32 >>> ((16 : Int32) &&& 31).toUInt32).toInt32).toInt8.toInt32) &&& (255 : Int32)) <<< ((16 : Int32) &&& 31))))])) rfl rfl (hb hby at_101) _ ?_
              refine XS.sipush X191.here hx rfl (hb hby at_102) ?_
              refine XS.iand X191.here hx rfl (hb hby at_105) rfl ?_
              refine XS.bipush X191.here hx rfl (hb hby at_106) ?_
              show own_S p e below m T191 108 #[lvI p0_, lvI p1_, lvI p2_, lvI p3_, lvI (3 : Int32), lvR b164, lvR nb2_169, .unset] [(.int (8 : Int32)), (.int ((((p3_.toUInt32 >>> ((8 : Int32) &&& 31).toUInt32).toInt32).toInt8.toInt32) &&& (255 : Int32))), (.int ((((((p3_.toUInt32 >>> ((24 : Int32) &&& 31).toUInt32).toInt32).toInt8.toInt32) &&& (255 : Int32)) <<< ((24 : Int32) &&& 31)) ||| (((((p3_.toUInt32 >>> ((16 : Int32) &&& 31).toUInt32).toInt32).toInt8.toInt32) &&& (255 : Int32)) <<< ((16 : Int32) &&& 31))))] _
              refine XS.ishl X191.here hx rfl (hb hby at_108) rfl ?_
              show own_S p e below m T191 109 #[lvI p0_, lvI p1_, lvI p2_, lvI p3_, lvI (3 : Int32), lvR b164, lvR nb2_169, .unset] [(.int (((((p3_.toUInt32 >>> ((8 : Int32) &&& 31).toUInt32).toInt32).toInt8.toInt32) &&& (255 : Int32)) <<< ((8 : Int32) &&& 31))), (.int ((((((p3_.toUInt32 >>> ((24 : Int32) &&& 31).toUInt32).toInt32).toInt8.toInt32) &&& (255 : Int32)) <<< ((24 : Int32) &&& 31)) ||| (((((p3_.toUInt32 >>> ((16 : Int32) &&& 31).toUInt32).toInt32).toInt8.toInt32) &&& (255 : Int32)) <<< ((16 : Int32) &&& 31))))] _
              refine XS.ior X191.here hx rfl (hb hby at_109) rfl ?_
              refine XS.aload X191.here hx rfl (hb hby at_110) rfl rfl ?_
              refine XS.iload X191.here hx rfl (hb hby at_112) rfl ?_
              refine XS.iconst X191.here hx rfl (hb hby at_114) ?_
              show own_S p e below m T191 115 #[lvI p0_, lvI p1_, lvI p2_, lvI p3_, lvI (3 : Int32), lvR b164, lvR nb2_169, .unset] [(.int (3 : Int32)), (.int (3 : Int32)), (.ref nb2_169), (.int (((((((p3_.toUInt32 >>> ((24 : Int32) &&& 31).toUInt32).toInt32).toInt8.toInt32) &&& (255 : Int32)) <<< ((24 : Int32) &&& 31)) ||| (((((p3_.toUInt32 >>> ((16 : Int32) &&& 31).toUInt32).toInt32).toInt8.toInt32) &&& (255 : Int32)) <<< ((16 : Int32) &&& 31))) ||| (((((p3_.toUInt32 >>> ((8 : Int32) &&& 31).toUInt32).toInt32).toInt8.toInt32) &&& (255 : Int32)) <<< ((8 : Int32) &&& 31))))] _
              refine XS.iadd X191.here hx rfl (hb hby at_115) rfl ?_
              show own_S p e below m T191 116 #[lvI p0_, lvI p1_, lvI p2_, lvI p3_, lvI (3 : Int32), lvR b164, lvR nb2_169, .unset] [(.int (6 : Int32)), (.ref nb2_169), (.int (((((((p3_.toUInt32 >>> ((24 : Int32) &&& 31).toUInt32).toInt32).toInt8.toInt32) &&& (255 : Int32)) <<< ((24 : Int32) &&& 31)) ||| (((((p3_.toUInt32 >>> ((16 : Int32) &&& 31).toUInt32).toInt32).toInt8.toInt32) &&& (255 : Int32)) <<< ((16 : Int32) &&& 31))) ||| (((((p3_.toUInt32 >>> ((8 : Int32) &&& 31).toUInt32).toInt32).toInt8.toInt32) &&& (255 : Int32)) <<< ((8 : Int32) &&& 31))))] _
              refine X191.baloadBytes hx (j := (6 : Int32)) (v := (.int (p3_.toInt8.toInt32))) (by rw [e191']; exact r197.1) (State.isArrayOf_alike hZ.alike r197.2.1) r197.2.2 hin197 hat197 (g := (mkF m 116 #[lvI p0_, lvI p1_, lvI p2_, lvI p3_, lvI (3 : Int32), lvR b164, lvR nb2_169, .unset] [(.int (6 : Int32)), (.ref nb2_169), (.int (((((((p3_.toUInt32 >>> ((24 : Int32) &&& 31).toUInt32).toInt32).toInt8.toInt32) &&& (255 : Int32)) <<< ((24 : Int32) &&& 31)) ||| (((((p3_.toUInt32 >>> ((16 : Int32) &&& 31).toUInt32).toInt32).toInt8.toInt32) &&& (255 : Int32)) <<< ((16 : Int32) &&& 31))) ||| (((((p3_.toUInt32 >>> ((8 : Int32) &&& 31).toUInt32).toInt32).toInt8.toInt32) &&& (255 : Int32)) <<< ((8 : Int32) &&& 31))))])) rfl rfl (hb hby at_116) _ ?_
              refine XS.sipush X191.here hx rfl (hb hby at_117) ?_
              refine XS.iand X191.here hx rfl (hb hby at_120) rfl ?_
              show own_S p e below m T191 121 #[lvI p0_, lvI p1_, lvI p2_, lvI p3_, lvI (3 : Int32), lvR b164, lvR nb2_169, .unset] [(.int ((p3_.toInt8.toInt32) &&& (255 : Int32))), (.int (((((((p3_.toUInt32 >>> ((24 : Int32) &&& 31).toUInt32).toInt32).toInt8.toInt32) &&& (255 : Int32)) <<< ((24 : Int32) &&& 31)) ||| (((((p3_.toUInt32 >>> ((16 : Int32) &&& 31).toUInt32).toInt32).toInt8.toInt32) &&& (255 : Int32)) <<< ((16 : Int32) &&& 31))) ||| (((((p3_.toUInt32 >>> ((8 : Int32) &&& 31).toUInt32).toInt32).toInt8.toInt32) &&& (255 : Int32)) <<< ((8 : Int32) &&& 31))))] _
              refine XS.ior X191.here hx rfl (hb hby at_121) rfl ?_
              refine XS.istore X191.here hx rfl (hb hby at_122) rfl (l' := #[lvI p0_, lvI p1_, lvI p2_, lvI p3_, lvI (3 : Int32), lvR b164, lvR nb2_169, lvI ((((((((p3_.toUInt32 >>> ((24 : Int32) &&& 31).toUInt32).toInt32).toInt8.toInt32) &&& (255 : Int32)) <<< ((24 : Int32) &&& 31)) ||| (((((p3_.toUInt32 >>> ((16 : Int32) &&& 31).toUInt32).toInt32).toInt8.toInt32) &&& (255 : Int32)) <<< ((16 : Int32) &&& 31))) ||| (((((p3_.toUInt32 >>> ((8 : Int32) &&& 31).toUInt32).toInt32).toInt8.toInt32) &&& (255 : Int32)) <<< ((8 : Int32) &&& 31))) ||| ((p3_.toInt8.toInt32) &&& (255 : Int32)))]) rfl ?_
              refine XS.iload X191.here hx rfl (hb hby at_124) rfl ?_
              refine XS.iloadN X191.here hx rfl (hb hby at_126) rfl ?_
              show own_S p e below m T191 127 #[lvI p0_, lvI p1_, lvI p2_, lvI p3_, lvI (3 : Int32), lvR b164, lvR nb2_169, lvI ((((((((p3_.toUInt32 >>> ((24 : Int32) &&& 31).toUInt32).toInt32).toInt8.toInt32) &&& (255 : Int32)) <<< ((24 : Int32) &&& 31)) ||| (((((p3_.toUInt32 >>> ((16 : Int32) &&& 31).toUInt32).toInt32).toInt8.toInt32) &&& (255 : Int32)) <<< ((16 : Int32) &&& 31))) ||| (((((p3_.toUInt32 >>> ((8 : Int32) &&& 31).toUInt32).toInt32).toInt8.toInt32) &&& (255 : Int32)) <<< ((8 : Int32) &&& 31))) ||| ((p3_.toInt8.toInt32) &&& (255 : Int32)))] [(.int p3_), (.int ((((((((p3_.toUInt32 >>> ((24 : Int32) &&& 31).toUInt32).toInt32).toInt8.toInt32) &&& (255 : Int32)) <<< ((24 : Int32) &&& 31)) ||| (((((p3_.toUInt32 >>> ((16 : Int32) &&& 31).toUInt32).toInt32).toInt8.toInt32) &&& (255 : Int32)) <<< ((16 : Int32) &&& 31))) ||| (((((p3_.toUInt32 >>> ((8 : Int32) &&& 31).toUInt32).toInt32).toInt8.toInt32) &&& (255 : Int32)) <<< ((8 : Int32) &&& 31))) ||| ((p3_.toInt8.toInt32) &&& (255 : Int32))))] _
              refine XS.icmpYes X191.here hx rfl (pc0 := 127) (pc' := 132) rfl (hb hby at_127) rfl (teq (own_read p3_)).1 (by decide) (by decide) ?_
              refine XS.aload X191.here hx rfl (hb hby at_132) rfl rfl ?_
              refine XS.iconst X191.here hx rfl (hb hby at_134) ?_
              refine XS.iload X191.here hx rfl (hb hby at_135) rfl ?_
              show own_S p e below m T191 137 #[lvI p0_, lvI p1_, lvI p2_, lvI p3_, lvI (3 : Int32), lvR b164, lvR nb2_169, lvI ((((((((p3_.toUInt32 >>> ((24 : Int32) &&& 31).toUInt32).toInt32).toInt8.toInt32) &&& (255 : Int32)) <<< ((24 : Int32) &&& 31)) ||| (((((p3_.toUInt32 >>> ((16 : Int32) &&& 31).toUInt32).toInt32).toInt8.toInt32) &&& (255 : Int32)) <<< ((16 : Int32) &&& 31))) ||| (((((p3_.toUInt32 >>> ((8 : Int32) &&& 31).toUInt32).toInt32).toInt8.toInt32) &&& (255 : Int32)) <<< ((8 : Int32) &&& 31))) ||| ((p3_.toInt8.toInt32) &&& (255 : Int32)))] [(.int (3 : Int32)), (.int (0 : Int32)), (.ref nb2_169)] _
              refine XS.iloadN X191.here hx rfl (hb hby at_137) rfl ?_
              refine XS.iloadN X191.here hx rfl (hb hby at_138) rfl ?_
              show own_S p e below m T191 139 #[lvI p0_, lvI p1_, lvI p2_, lvI p3_, lvI (3 : Int32), lvR b164, lvR nb2_169, lvI ((((((((p3_.toUInt32 >>> ((24 : Int32) &&& 31).toUInt32).toInt32).toInt8.toInt32) &&& (255 : Int32)) <<< ((24 : Int32) &&& 31)) ||| (((((p3_.toUInt32 >>> ((16 : Int32) &&& 31).toUInt32).toInt32).toInt8.toInt32) &&& (255 : Int32)) <<< ((16 : Int32) &&& 31))) ||| (((((p3_.toUInt32 >>> ((8 : Int32) &&& 31).toUInt32).toInt32).toInt8.toInt32) &&& (255 : Int32)) <<< ((8 : Int32) &&& 31))) ||| ((p3_.toInt8.toInt32) &&& (255 : Int32)))] [(.int p1_), (.int p0_), (.int (3 : Int32)), (.int (0 : Int32)), (.ref nb2_169)] _
              refine st198 _ ?_
              show own_S p e below m T198 142 #[lvI p0_, lvI p1_, lvI p2_, lvI p3_, lvI (3 : Int32), lvR b164, lvR nb2_169, lvI ((((((((p3_.toUInt32 >>> ((24 : Int32) &&& 31).toUInt32).toInt32).toInt8.toInt32) &&& (255 : Int32)) <<< ((24 : Int32) &&& 31)) ||| (((((p3_.toUInt32 >>> ((16 : Int32) &&& 31).toUInt32).toInt32).toInt8.toInt32) &&& (255 : Int32)) <<< ((16 : Int32) &&& 31))) ||| (((((p3_.toUInt32 >>> ((8 : Int32) &&& 31).toUInt32).toInt32).toInt8.toInt32) &&& (255 : Int32)) <<< ((8 : Int32) &&& 31))) ||| ((p3_.toInt8.toInt32) &&& (255 : Int32)))] [(.int (1 : Int32))] _
              refine XS.ifNo X198.here hx rfl (hb hby at_142) rfl ((if0 _ _).trans (feq (by decide : ¬ ((1 : Int32) = (0 : Int32)))).1) ?_
              refine XS.aload X198.here hx rfl (hb hby at_145) rfl rfl ?_
              refine XS.iconst X198.here hx rfl (hb hby at_147) ?_
              refine XS.iload X198.here hx rfl (hb hby at_148) rfl ?_
              show own_S p e below m T198 150 #[lvI p0_, lvI p1_, lvI p2_, lvI p3_, lvI (3 : Int32), lvR b164, lvR nb2_169, lvI ((((((((p3_.toUInt32 >>> ((24 : Int32) &&& 31).toUInt32).toInt32).toInt8.toInt32) &&& (255 : Int32)) <<< ((24 : Int32) &&& 31)) ||| (((((p3_.toUInt32 >>> ((16 : Int32) &&& 31).toUInt32).toInt32).toInt8.toInt32) &&& (255 : Int32)) <<< ((16 : Int32) &&& 31))) ||| (((((p3_.toUInt32 >>> ((8 : Int32) &&& 31).toUInt32).toInt32).toInt8.toInt32) &&& (255 : Int32)) <<< ((8 : Int32) &&& 31))) ||| ((p3_.toInt8.toInt32) &&& (255 : Int32)))] [(.int (3 : Int32)), (.int (1 : Int32)), (.ref nb2_169)] _
              refine XS.iloadN X198.here hx rfl (hb hby at_150) rfl ?_
              refine XS.iloadN X198.here hx rfl (hb hby at_151) rfl ?_
              show own_S p e below m T198 152 #[lvI p0_, lvI p1_, lvI p2_, lvI p3_, lvI (3 : Int32), lvR b164, lvR nb2_169, lvI ((((((((p3_.toUInt32 >>> ((24 : Int32) &&& 31).toUInt32).toInt32).toInt8.toInt32) &&& (255 : Int32)) <<< ((24 : Int32) &&& 31)) ||| (((((p3_.toUInt32 >>> ((16 : Int32) &&& 31).toUInt32).toInt32).toInt8.toInt32) &&& (255 : Int32)) <<< ((16 : Int32) &&& 31))) ||| (((((p3_.toUInt32 >>> ((8 : Int32) &&& 31).toUInt32).toInt32).toInt8.toInt32) &&& (255 : Int32)) <<< ((8 : Int32) &&& 31))) ||| ((p3_.toInt8.toInt32) &&& (255 : Int32)))] [(.int p1_), (.int p0_), (.int (3 : Int32)), (.int (1 : Int32)), (.ref nb2_169)] _
              refine st200 _ ?_
              show own_S p e below m T200 155 #[lvI p0_, lvI p1_, lvI p2_, lvI p3_, lvI (3 : Int32), lvR b164, lvR nb2_169, lvI ((((((((p3_.toUInt32 >>> ((24 : Int32) &&& 31).toUInt32).toInt32).toInt8.toInt32) &&& (255 : Int32)) <<< ((24 : Int32) &&& 31)) ||| (((((p3_.toUInt32 >>> ((16 : Int32) &&& 31).toUInt32).toInt32).toInt8.toInt32) &&& (255 : Int32)) <<< ((16 : Int32) &&& 31))) ||| (((((p3_.toUInt32 >>> ((8 : Int32) &&& 31).toUInt32).toInt32).toInt8.toInt32) &&& (255 : Int32)) <<< ((8 : Int32) &&& 31))) ||| ((p3_.toInt8.toInt32) &&& (255 : Int32)))] [(.int (1 : Int32))] _
              refine XS.ifNo X200.here hx rfl (hb hby at_155) rfl ((if0 _ _).trans (feq (by decide : ¬ ((1 : Int32) = (0 : Int32)))).1) ?_
              refine XS.aload X200.here hx rfl (hb hby at_158) rfl rfl ?_
              refine XS.iconst X200.here hx rfl (hb hby at_160) ?_
              refine XS.iload X200.here hx rfl (hb hby at_161) rfl ?_
              show own_S p e below m T200 163 #[lvI p0_, lvI p1_, lvI p2_, lvI p3_, lvI (3 : Int32), lvR b164, lvR nb2_169, lvI ((((((((p3_.toUInt32 >>> ((24 : Int32) &&& 31).toUInt32).toInt32).toInt8.toInt32) &&& (255 : Int32)) <<< ((24 : Int32) &&& 31)) ||| (((((p3_.toUInt32 >>> ((16 : Int32) &&& 31).toUInt32).toInt32).toInt8.toInt32) &&& (255 : Int32)) <<< ((16 : Int32) &&& 31))) ||| (((((p3_.toUInt32 >>> ((8 : Int32) &&& 31).toUInt32).toInt32).toInt8.toInt32) &&& (255 : Int32)) <<< ((8 : Int32) &&& 31))) ||| ((p3_.toInt8.toInt32) &&& (255 : Int32)))] [(.int (3 : Int32)), (.int (2 : Int32)), (.ref nb2_169)] _
              refine XS.iloadN X200.here hx rfl (hb hby at_163) rfl ?_
              refine XS.iloadN X200.here hx rfl (hb hby at_164) rfl ?_
              show own_S p e below m T200 165 #[lvI p0_, lvI p1_, lvI p2_, lvI p3_, lvI (3 : Int32), lvR b164, lvR nb2_169, lvI ((((((((p3_.toUInt32 >>> ((24 : Int32) &&& 31).toUInt32).toInt32).toInt8.toInt32) &&& (255 : Int32)) <<< ((24 : Int32) &&& 31)) ||| (((((p3_.toUInt32 >>> ((16 : Int32) &&& 31).toUInt32).toInt32).toInt8.toInt32) &&& (255 : Int32)) <<< ((16 : Int32) &&& 31))) ||| (((((p3_.toUInt32 >>> ((8 : Int32) &&& 31).toUInt32).toInt32).toInt8.toInt32) &&& (255 : Int32)) <<< ((8 : Int32) &&& 31))) ||| ((p3_.toInt8.toInt32) &&& (255 : Int32)))] [(.int p1_), (.int p0_), (.int (3 : Int32)), (.int (2 : Int32)), (.ref nb2_169)] _
              refine st202 _ ?_
              show own_S p e below m T202 168 #[lvI p0_, lvI p1_, lvI p2_, lvI p3_, lvI (3 : Int32), lvR b164, lvR nb2_169, lvI ((((((((p3_.toUInt32 >>> ((24 : Int32) &&& 31).toUInt32).toInt32).toInt8.toInt32) &&& (255 : Int32)) <<< ((24 : Int32) &&& 31)) ||| (((((p3_.toUInt32 >>> ((16 : Int32) &&& 31).toUInt32).toInt32).toInt8.toInt32) &&& (255 : Int32)) <<< ((16 : Int32) &&& 31))) ||| (((((p3_.toUInt32 >>> ((8 : Int32) &&& 31).toUInt32).toInt32).toInt8.toInt32) &&& (255 : Int32)) <<< ((8 : Int32) &&& 31))) ||| ((p3_.toInt8.toInt32) &&& (255 : Int32)))] [(.int (1 : Int32))] _
              refine XS.ifNo X202.here hx rfl (hb hby at_168) rfl ((if0 _ _).trans (feq (by decide : ¬ ((1 : Int32) = (0 : Int32)))).1) ?_
              refine XS.aload X202.here hx rfl (hb hby at_171) rfl rfl ?_
              refine XS.iconst X202.here hx rfl (hb hby at_173) ?_
              refine XS.iload X202.here hx rfl (hb hby at_174) rfl ?_
              show own_S p e below m T202 176 #[lvI p0_, lvI p1_, lvI p2_, lvI p3_, lvI (3 : Int32), lvR b164, lvR nb2_169, lvI ((((((((p3_.toUInt32 >>> ((24 : Int32) &&& 31).toUInt32).toInt32).toInt8.toInt32) &&& (255 : Int32)) <<< ((24 : Int32) &&& 31)) ||| (((((p3_.toUInt32 >>> ((16 : Int32) &&& 31).toUInt32).toInt32).toInt8.toInt32) &&& (255 : Int32)) <<< ((16 : Int32) &&& 31))) ||| (((((p3_.toUInt32 >>> ((8 : Int32) &&& 31).toUInt32).toInt32).toInt8.toInt32) &&& (255 : Int32)) <<< ((8 : Int32) &&& 31))) ||| ((p3_.toInt8.toInt32) &&& (255 : Int32)))] [(.int (3 : Int32)), (.int (3 : Int32)), (.ref nb2_169)] _
              refine XS.iloadN X202.here hx rfl (hb hby at_176) rfl ?_
              refine XS.iloadN X202.here hx rfl (hb hby at_177) rfl ?_
              show own_S p e below m T202 178 #[lvI p0_, lvI p1_, lvI p2_, lvI p3_, lvI (3 : Int32), lvR b164, lvR nb2_169, lvI ((((((((p3_.toUInt32 >>> ((24 : Int32) &&& 31).toUInt32).toInt32).toInt8.toInt32) &&& (255 : Int32)) <<< ((24 : Int32) &&& 31)) ||| (((((p3_.toUInt32 >>> ((16 : Int32) &&& 31).toUInt32).toInt32).toInt8.toInt32) &&& (255 : Int32)) <<< ((16 : Int32) &&& 31))) ||| (((((p3_.toUInt32 >>> ((8 : Int32) &&& 31).toUInt32).toInt32).toInt8.toInt32) &&& (255 : Int32)) <<< ((8 : Int32) &&& 31))) ||| ((p3_.toInt8.toInt32) &&& (255 : Int32)))] [(.int p1_), (.int p0_), (.int (3 : Int32)), (.int (3 : Int32)), (.ref nb2_169)] _
              refine st204 _ ?_
              show own_S p e below m T204 181 #[lvI p0_, lvI p1_, lvI p2_, lvI p3_, lvI (3 : Int32), lvR b164, lvR nb2_169, lvI ((((((((p3_.toUInt32 >>> ((24 : Int32) &&& 31).toUInt32).toInt32).toInt8.toInt32) &&& (255 : Int32)) <<< ((24 : Int32) &&& 31)) ||| (((((p3_.toUInt32 >>> ((16 : Int32) &&& 31).toUInt32).toInt32).toInt8.toInt32) &&& (255 : Int32)) <<< ((16 : Int32) &&& 31))) ||| (((((p3_.toUInt32 >>> ((8 : Int32) &&& 31).toUInt32).toInt32).toInt8.toInt32) &&& (255 : Int32)) <<< ((8 : Int32) &&& 31))) ||| ((p3_.toInt8.toInt32) &&& (255 : Int32)))] [(.int (1 : Int32))] _
              refine XS.ifNo X204.here hx rfl (hb hby at_181) rfl ((if0 _ _).trans (feq (by decide : ¬ ((1 : Int32) = (0 : Int32)))).1) ?_
              refine XS.aload X204.here hx rfl (hb hby at_184) rfl rfl ?_
              refine XS.iconst X204.here hx rfl (hb hby at_186) ?_
              refine XS.iload X204.here hx rfl (hb hby at_187) rfl ?_
              show own_S p e below m T204 189 #[lvI p0_, lvI p1_, lvI p2_, lvI p3_, lvI (3 : Int32), lvR b164, lvR nb2_169, lvI ((((((((p3_.toUInt32 >>> ((24 : Int32) &&& 31).toUInt32).toInt32).toInt8.toInt32) &&& (255 : Int32)) <<< ((24 : Int32) &&& 31)) ||| (((((p3_.toUInt32 >>> ((16 : Int32) &&& 31).toUInt32).toInt32).toInt8.toInt32) &&& (255 : Int32)) <<< ((16 : Int32) &&& 31))) ||| (((((p3_.toUInt32 >>> ((8 : Int32) &&& 31).toUInt32).toInt32).toInt8.toInt32) &&& (255 : Int32)) <<< ((8 : Int32) &&& 31))) ||| ((p3_.toInt8.toInt32) &&& (255 : Int32)))] [(.int (3 : Int32)), (.int (4 : Int32)), (.ref nb2_169)] _
              refine XS.iloadN X204.here hx rfl (hb hby at_189) rfl ?_
              refine XS.iloadN X204.here hx rfl (hb hby at_190) rfl ?_
              show own_S p e below m T204 191 #[lvI p0_, lvI p1_, lvI p2_, lvI p3_, lvI (3 : Int32), lvR b164, lvR nb2_169, lvI ((((((((p3_.toUInt32 >>> ((24 : Int32) &&& 31).toUInt32).toInt32).toInt8.toInt32) &&& (255 : Int32)) <<< ((24 : Int32) &&& 31)) ||| (((((p3_.toUInt32 >>> ((16 : Int32) &&& 31).toUInt32).toInt32).toInt8.toInt32) &&& (255 : Int32)) <<< ((16 : Int32) &&& 31))) ||| (((((p3_.toUInt32 >>> ((8 : Int32) &&& 31).toUInt32).toInt32).toInt8.toInt32) &&& (255 : Int32)) <<< ((8 : Int32) &&& 31))) ||| ((p3_.toInt8.toInt32) &&& (255 : Int32)))] [(.int p1_), (.int p0_), (.int (3 : Int32)), (.int (4 : Int32)), (.ref nb2_169)] _
              refine st206 _ ?_
              show own_S p e below m T206 194 #[lvI p0_, lvI p1_, lvI p2_, lvI p3_, lvI (3 : Int32), lvR b164, lvR nb2_169, lvI ((((((((p3_.toUInt32 >>> ((24 : Int32) &&& 31).toUInt32).toInt32).toInt8.toInt32) &&& (255 : Int32)) <<< ((24 : Int32) &&& 31)) ||| (((((p3_.toUInt32 >>> ((16 : Int32) &&& 31).toUInt32).toInt32).toInt8.toInt32) &&& (255 : Int32)) <<< ((16 : Int32) &&& 31))) ||| (((((p3_.toUInt32 >>> ((8 : Int32) &&& 31).toUInt32).toInt32).toInt8.toInt32) &&& (255 : Int32)) <<< ((8 : Int32) &&& 31))) ||| ((p3_.toInt8.toInt32) &&& (255 : Int32)))] [(.int (1 : Int32))] _
              refine XS.ifNo X206.here hx rfl (hb hby at_194) rfl ((if0 _ _).trans (feq (by decide : ¬ ((1 : Int32) = (0 : Int32)))).1) ?_
              refine XS.aload X206.here hx rfl (hb hby at_197) rfl rfl ?_
              refine XS.iconst X206.here hx rfl (hb hby at_199) ?_
              refine XS.iload X206.here hx rfl (hb hby at_200) rfl ?_
              show own_S p e below m T206 202 #[lvI p0_, lvI p1_, lvI p2_, lvI p3_, lvI (3 : Int32), lvR b164, lvR nb2_169, lvI ((((((((p3_.toUInt32 >>> ((24 : Int32) &&& 31).toUInt32).toInt32).toInt8.toInt32) &&& (255 : Int32)) <<< ((24 : Int32) &&& 31)) ||| (((((p3_.toUInt32 >>> ((16 : Int32) &&& 31).toUInt32).toInt32).toInt8.toInt32) &&& (255 : Int32)) <<< ((16 : Int32) &&& 31))) ||| (((((p3_.toUInt32 >>> ((8 : Int32) &&& 31).toUInt32).toInt32).toInt8.toInt32) &&& (255 : Int32)) <<< ((8 : Int32) &&& 31))) ||| ((p3_.toInt8.toInt32) &&& (255 : Int32)))] [(.int (3 : Int32)), (.int (5 : Int32)), (.ref nb2_169)] _
              refine XS.iloadN X206.here hx rfl (hb hby at_202) rfl ?_
              refine XS.iloadN X206.here hx rfl (hb hby at_203) rfl ?_
              show own_S p e below m T206 204 #[lvI p0_, lvI p1_, lvI p2_, lvI p3_, lvI (3 : Int32), lvR b164, lvR nb2_169, lvI ((((((((p3_.toUInt32 >>> ((24 : Int32) &&& 31).toUInt32).toInt32).toInt8.toInt32) &&& (255 : Int32)) <<< ((24 : Int32) &&& 31)) ||| (((((p3_.toUInt32 >>> ((16 : Int32) &&& 31).toUInt32).toInt32).toInt8.toInt32) &&& (255 : Int32)) <<< ((16 : Int32) &&& 31))) ||| (((((p3_.toUInt32 >>> ((8 : Int32) &&& 31).toUInt32).toInt32).toInt8.toInt32) &&& (255 : Int32)) <<< ((8 : Int32) &&& 31))) ||| ((p3_.toInt8.toInt32) &&& (255 : Int32)))] [(.int p1_), (.int p0_), (.int (3 : Int32)), (.int (5 : Int32)), (.ref nb2_169)] _
              refine st208 _ ?_
              show own_S p e below m T208 207 #[lvI p0_, lvI p1_, lvI p2_, lvI p3_, lvI (3 : Int32), lvR b164, lvR nb2_169, lvI ((((((((p3_.toUInt32 >>> ((24 : Int32) &&& 31).toUInt32).toInt32).toInt8.toInt32) &&& (255 : Int32)) <<< ((24 : Int32) &&& 31)) ||| (((((p3_.toUInt32 >>> ((16 : Int32) &&& 31).toUInt32).toInt32).toInt8.toInt32) &&& (255 : Int32)) <<< ((16 : Int32) &&& 31))) ||| (((((p3_.toUInt32 >>> ((8 : Int32) &&& 31).toUInt32).toInt32).toInt8.toInt32) &&& (255 : Int32)) <<< ((8 : Int32) &&& 31))) ||| ((p3_.toInt8.toInt32) &&& (255 : Int32)))] [(.int (1 : Int32))] _
              refine XS.ifNo X208.here hx rfl (hb hby at_207) rfl ((if0 _ _).trans (feq (by decide : ¬ ((1 : Int32) = (0 : Int32)))).1) ?_
              refine XS.aload X208.here hx rfl (hb hby at_210) rfl rfl ?_
              refine XS.bipush X208.here hx rfl (hb hby at_212) ?_
              refine XS.iload X208.here hx rfl (hb hby at_214) rfl ?_
              show own_S p e below m T208 216 #[lvI p0_, lvI p1_, lvI p2_, lvI p3_, lvI (3 : Int32), lvR b164, lvR nb2_169, lvI ((((((((p3_.toUInt32 >>> ((24 : Int32) &&& 31).toUInt32).toInt32).toInt8.toInt32) &&& (255 : Int32)) <<< ((24 : Int32) &&& 31)) ||| (((((p3_.toUInt32 >>> ((16 : Int32) &&& 31).toUInt32).toInt32).toInt8.toInt32) &&& (255 : Int32)) <<< ((16 : Int32) &&& 31))) ||| (((((p3_.toUInt32 >>> ((8 : Int32) &&& 31).toUInt32).toInt32).toInt8.toInt32) &&& (255 : Int32)) <<< ((8 : Int32) &&& 31))) ||| ((p3_.toInt8.toInt32) &&& (255 : Int32)))] [(.int (3 : Int32)), (.int (6 : Int32)), (.ref nb2_169)] _
              refine XS.iloadN X208.here hx rfl (hb hby at_216) rfl ?_
              refine XS.iloadN X208.here hx rfl (hb hby at_217) rfl ?_
              show own_S p e below m T208 218 #[lvI p0_, lvI p1_, lvI p2_, lvI p3_, lvI (3 : Int32), lvR b164, lvR nb2_169, lvI ((((((((p3_.toUInt32 >>> ((24 : Int32) &&& 31).toUInt32).toInt32).toInt8.toInt32) &&& (255 : Int32)) <<< ((24 : Int32) &&& 31)) ||| (((((p3_.toUInt32 >>> ((16 : Int32) &&& 31).toUInt32).toInt32).toInt8.toInt32) &&& (255 : Int32)) <<< ((16 : Int32) &&& 31))) ||| (((((p3_.toUInt32 >>> ((8 : Int32) &&& 31).toUInt32).toInt32).toInt8.toInt32) &&& (255 : Int32)) <<< ((8 : Int32) &&& 31))) ||| ((p3_.toInt8.toInt32) &&& (255 : Int32)))] [(.int p1_), (.int p0_), (.int (3 : Int32)), (.int (6 : Int32)), (.ref nb2_169)] _
              refine st210 _ ?_
              show own_S p e below m T210 221 #[lvI p0_, lvI p1_, lvI p2_, lvI p3_, lvI (3 : Int32), lvR b164, lvR nb2_169, lvI ((((((((p3_.toUInt32 >>> ((24 : Int32) &&& 31).toUInt32).toInt32).toInt8.toInt32) &&& (255 : Int32)) <<< ((24 : Int32) &&& 31)) ||| (((((p3_.toUInt32 >>> ((16 : Int32) &&& 31).toUInt32).toInt32).toInt8.toInt32) &&& (255 : Int32)) <<< ((16 : Int32) &&& 31))) ||| (((((p3_.toUInt32 >>> ((8 : Int32) &&& 31).toUInt32).toInt32).toInt8.toInt32) &&& (255 : Int32)) <<< ((8 : Int32) &&& 31))) ||| ((p3_.toInt8.toInt32) &&& (255 : Int32)))] [(.int (1 : Int32))] _
              refine XS.ifNo X210.here hx rfl (hb hby at_221) rfl ((if0 _ _).trans (feq (by decide : ¬ ((1 : Int32) = (0 : Int32)))).1) ?_
              refine XS.aload X210.here hx rfl (hb hby at_224) rfl rfl ?_
              refine XS.bipush X210.here hx rfl (hb hby at_226) ?_
              refine XS.iload X210.here hx rfl (hb hby at_228) rfl ?_
              show own_S p e below m T210 230 #[lvI p0_, lvI p1_, lvI p2_, lvI p3_, lvI (3 : Int32), lvR b164, lvR nb2_169, lvI ((((((((p3_.toUInt32 >>> ((24 : Int32) &&& 31).toUInt32).toInt32).toInt8.toInt32) &&& (255 : Int32)) <<< ((24 : Int32) &&& 31)) ||| (((((p3_.toUInt32 >>> ((16 : Int32) &&& 31).toUInt32).toInt32).toInt8.toInt32) &&& (255 : Int32)) <<< ((16 : Int32) &&& 31))) ||| (((((p3_.toUInt32 >>> ((8 : Int32) &&& 31).toUInt32).toInt32).toInt8.toInt32) &&& (255 : Int32)) <<< ((8 : Int32) &&& 31))) ||| ((p3_.toInt8.toInt32) &&& (255 : Int32)))] [(.int (3 : Int32)), (.int (7 : Int32)), (.ref nb2_169)] _
              refine XS.iloadN X210.here hx rfl (hb hby at_230) rfl ?_
              refine XS.iloadN X210.here hx rfl (hb hby at_231) rfl ?_
              show own_S p e below m T210 232 #[lvI p0_, lvI p1_, lvI p2_, lvI p3_, lvI (3 : Int32), lvR b164, lvR nb2_169, lvI ((((((((p3_.toUInt32 >>> ((24 : Int32) &&& 31).toUInt32).toInt32).toInt8.toInt32) &&& (255 : Int32)) <<< ((24 : Int32) &&& 31)) ||| (((((p3_.toUInt32 >>> ((16 : Int32) &&& 31).toUInt32).toInt32).toInt8.toInt32) &&& (255 : Int32)) <<< ((16 : Int32) &&& 31))) ||| (((((p3_.toUInt32 >>> ((8 : Int32) &&& 31).toUInt32).toInt32).toInt8.toInt32) &&& (255 : Int32)) <<< ((8 : Int32) &&& 31))) ||| ((p3_.toInt8.toInt32) &&& (255 : Int32)))] [(.int p1_), (.int p0_), (.int (3 : Int32)), (.int (7 : Int32)), (.ref nb2_169)] _
              refine st212 _ ?_
              show own_S p e below m T212 235 #[lvI p0_, lvI p1_, lvI p2_, lvI p3_, lvI (3 : Int32), lvR b164, lvR nb2_169, lvI ((((((((p3_.toUInt32 >>> ((24 : Int32) &&& 31).toUInt32).toInt32).toInt8.toInt32) &&& (255 : Int32)) <<< ((24 : Int32) &&& 31)) ||| (((((p3_.toUInt32 >>> ((16 : Int32) &&& 31).toUInt32).toInt32).toInt8.toInt32) &&& (255 : Int32)) <<< ((16 : Int32) &&& 31))) ||| (((((p3_.toUInt32 >>> ((8 : Int32) &&& 31).toUInt32).toInt32).toInt8.toInt32) &&& (255 : Int32)) <<< ((8 : Int32) &&& 31))) ||| ((p3_.toInt8.toInt32) &&& (255 : Int32)))] [(.int (1 : Int32))] _
              refine XS.ifNo X212.here hx rfl (hb hby at_235) rfl ((if0 _ _).trans (feq (by decide : ¬ ((1 : Int32) = (0 : Int32)))).1) ?_
              refine XS.iconst X212.here hx rfl (hb hby at_238) ?_
              refine XS.goto X212.here hx rfl (pc0 := 239) (pc' := 243) rfl (hb hby at_239) (by decide) (by decide) ?_
              exact kt
            obtain ⟨fs, hr, hrun, hended, hW, hsame⟩ := X212.leave (v := some (.int (1 : Int32))) (fun h => by rw [Bd.returns] at h; cases h)
            refine ⟨_, _, hG _ (pre214 _ (retN X212 hx (t := .boolean) Bd.returns (by simp) (hb hby at_243) hr)), hrun, hended, _, _, rfl, ?_, ⟨_, rfl⟩, hW, hsame.mono (by decide) (by decide)⟩
            show QLaw Z p0_ p1_ p2_ p3_ h0 n0 _ T212.heap _
            rw [e212']
            exact ⟨rfl, N213⟩
          · exact absurd (own_sh0 _) hq212_1_0
        · exact absurd (rfl : (((p0_.toUInt32 >>> ((8 : Int32) &&& 31).toUInt32).toInt32).toInt8.toInt32) = (((p0_.toUInt32 >>> ((8 : Int32) &&& 31).toUInt32).toInt32).toInt8.toInt32)) hq202_1_0
      · exact absurd (rfl : (((p0_.toUInt32 >>> ((16 : Int32) &&& 31).toUInt32).toInt32).toInt8.toInt32) = (((p0_.toUInt32 >>> ((16 : Int32) &&& 31).toUInt32).toInt32).toInt8.toInt32)) hq200_1_0
    · exact absurd (rfl : (((p0_.toUInt32 >>> ((24 : Int32) &&& 31).toUInt32).toInt32).toInt8.toInt32) = (((p0_.toUInt32 >>> ((24 : Int32) &&& 31).toUInt32).toInt32).toInt8.toInt32)) hq198_1_0
  · have pre216 : ∀ t, own_S p e below m s₁ 6 #[lvI p0_, lvI p1_, lvI p2_, lvI p3_, .unset, .unset, .unset, .unset] [(.int (4 : Int32))] t → G t := fun t kt => pre1 t (by rw [hv3]; exact kt)
    obtain ⟨T217, h217, X217, e217, E217, A217, D217, -, st217⟩ := newO X0 hx hZ hown (own_w hw 1 rfl) (own_w hw 2 rfl) (own_w hw 3 rfl) e0 (g := (mkF m 8 #[lvI p0_, lvI p1_, lvI p2_, lvI p3_, lvI (4 : Int32), .unset, .unset, .unset] [])) rfl (hb hby at_8) (by decide) (by decide)
    obtain ⟨b217, g217⟩ : ∃ z, z = h0.size := ⟨_, rfl⟩
    rw [← g217] at A217 D217 st217
    have ge218 : n0 ≤ b217 := Nat.le_trans (Nat.le_trans (Nat.le_of_eq O0.1.symm) O0.2.1) (Nat.le_of_eq g217.symm)
    have sz219 : h0.size ≤ b217 := Nat.le_trans K0.1 (Nat.le_of_eq g217.symm)
    have f220 : Fld Z h217 b217 cn0 "bytes" "[B" .null := D217 (Or.inl (own_w hw 12 rfl)) (ty := (.array .byte)) (by decide)
    have f221 : Fld Z h217 b217 cn0 "length" "I" (.int (0 : Int32)) := D217 (Or.inl (own_w hw 23 rfl)) (ty := .int) (by decide)
    have f223 : Old Z n0 h217 := O0.ext E217
    obtain ⟨_, _, ⟨T222, L222, k222, n222⟩, -, X222, ⟨Lc222, hQ222, l222, y222, z222⟩, st222⟩ := X217.specialBack hx (y := (⟨"com/example/stackweave/stackweave/classfile/ByteWriter", "<init>", "(I)V"⟩ : MethodName)) rfl hown (mvT hZ (own_w hw 4 rfl)) (mvT hZ (own_w hw 5 rfl)) (mvT hZ (own_w hw 6 rfl)) (by decide) (backOf (W := 1) (rminit1 l Z a0 hw [] b217 h217 n0 f223 A217 f220 f221 ge218) hZ (own_w hw 6 rfl) (own_w hw 3 rfl) (by decide) (by decide)) (g := (mkF m 14 #[lvI p0_, lvI p1_, lvI p2_, lvI p3_, lvI (4 : Int32), .unset, .unset, .unset] [(.int (8 : Int32)), (.ref b217), (.ref b217)])) rfl (by rw [hml]; rfl) (Steps.refl _) (a := b217) (argsL := [(.int (8 : Int32))]) (rest := [(.ref b217)]) (lenOf pd_0 rfl) rfl (by show 2 * 0 + _ ≤ _; exact Nat.le_of_eq rfl) (hb hby at_14) (fun _ _ => ⟨rfl, e217, (by decide : 1 + 1 ≤ _), (by decide : 2 + 8 ≤ _)⟩)
    dsimp only [Pt.U, Pt.locs, Pt.cells, Pt.slots] at X222 l222 y222 z222 st222 hQ222
    subst l222 y222 z222
    obtain ⟨h222, e222⟩ : ∃ z, T222.heap = z := ⟨_, rfl⟩
    rw [e222] at hQ222
    obtain ⟨k2_222, nb2_222, rfl, N222q, K222, sznb2_222, g222_0, g222_1, g222_2, g222_3, g222_4⟩ := hQ222
    have N224 := Fr.app N0 N222q
    have ge225 : n0 ≤ nb2_222 := Nat.le_trans (Nat.le_trans (Nat.le_of_eq f223.1.symm) f223.2.1) sznb2_222
    have f226 : Keep h0 h217 [] := K0.ext E217
    have sz227 : h0.size ≤ nb2_222 := Nat.le_trans f226.1 sznb2_222
    have ne229 : b217 ≠ nb2_222 := Nat.ne_of_lt (Nat.lt_of_lt_of_le A217.lt sznb2_222)
    have f230 : Old Z n0 h222 := f223.keep K222 (allS (ge218) all0)
    obtain ⟨cq228, kq228, q228a, q228b, q228c⟩ := isOf hZ e222 g222_0
    obtain ⟨_, _, ⟨T228, L228, k228, n228⟩, -, X228, ⟨Lc228, hQ228, l228, y228, z228⟩, st228⟩ := X222.virtualBack hx (y := (⟨"com/example/stackweave/stackweave/classfile/ByteWriter", "u4", "(I)V"⟩ : MethodName)) (z := (⟨"com/example/stackweave/stackweave/classfile/ByteWriter", "u4", "(I)V"⟩ : MethodName)) hown (mvT hZ (own_w hw 13 rfl)) (mvT hZ (own_w hw 14 rfl)) (notFace_of_selects (args := #[]) (mvT hZ (own_w hw 16 rfl))) (mvT hZ (own_w hw 16 rfl)) (mvT hZ (own_w hw 15 rfl)) (by decide) (backOf (W := 0) (rmu42 l Z a0 hw [] b217 p0_ nb2_222 k2_222 h222 n0 f230 g222_0 g222_1 g222_2 g222_3 g222_4 ge218 (Ne.symm ne229) ge225) hZ (own_w hw 17 rfl) (own_w hw 3 rfl) (by decide) (by decide)) q228a q228c (g := (mkF m 22 #[lvI p0_, lvI p1_, lvI p2_, lvI p3_, lvI (4 : Int32), lvR b217, .unset, .unset] [(.int p0_), (.ref b217)])) rfl (by rw [hml]; rfl) (Steps.refl _) (argsL := [(.int p0_)]) (rest := []) (lenOf pd_0 rfl) rfl (by show 2 * 0 + _ ≤ _; exact Nat.le_of_eq rfl) (hb hby at_22) (fun _ _ => ⟨rfl, e222, (by decide : 2 + 0 ≤ _), (by decide : 10 + 0 ≤ _)⟩)
    dsimp only [Pt.U, Pt.locs, Pt.cells, Pt.slots] at X228 l228 y228 z228 st228 hQ228
    subst l228 y228 z228
    obtain ⟨h228, e228⟩ : ∃ z, T228.heap = z := ⟨_, rfl⟩
    rw [e228] at hQ228
    obtain ⟨rfl, N228q, K228, g228_0, g228_1, g228_2, g228_3, g228_4⟩ := hQ228
    have N231 := Fr.app N224 N228q
    have f233 : Old Z n0 h228 := f230.keep K228 (allS (ge218) (allS (ge225) all0))
    obtain ⟨cq232, kq232, q232a, q232b, q232c⟩ := isOf hZ e228 g228_0
    obtain ⟨_, _, ⟨T232, L232, k232, n232⟩, -, X232, ⟨Lc232, hQ232, l232, y232, z232⟩, st232⟩ := X228.virtualBack hx (y := (⟨"com/example/stackweave/stackweave/classfile/ByteWriter", "u4", "(I)V"⟩ : MethodName)) (z := (⟨"com/example/stackweave/stackweave/classfile/ByteWriter", "u4", "(I)V"⟩ : MethodName)) hown (mvT hZ (own_w hw 13 rfl)) (mvT hZ (own_w hw 14 rfl)) (notFace_of_selects (args := #[]) (mvT hZ (own_w hw 16 rfl))) (mvT hZ (own_w hw 16 rfl)) (mvT hZ (own_w hw 15 rfl)) (by decide) (backOf (W := 0) (rmu44 l Z a0 hw [] b217 p1_ nb2_222 k2_222 (((p0_.toUInt32 >>> ((24 : Int32) &&& 31).toUInt32).toInt32).toInt8.toInt32) (((p0_.toUInt32 >>> ((16 : Int32) &&& 31).toUInt32).toInt32).toInt8.toInt32) (((p0_.toUInt32 >>> ((8 : Int32) &&& 31).toUInt32).toInt32).toInt8.toInt32) (p0_.toInt8.toInt32) h228 n0 f233 g228_0 g228_1 g228_2 g228_3 g228_4 ge218 (Ne.symm ne229) ge225) hZ (own_w hw 17 rfl) (own_w hw 3 rfl) (by decide) (by decide)) q232a q232c (g := (mkF m 28 #[lvI p0_, lvI p1_, lvI p2_, lvI p3_, lvI (4 : Int32), lvR b217, .unset, .unset] [(.int p1_), (.ref b217)])) rfl (by rw [hml]; rfl) (Steps.refl _) (argsL := [(.int p1_)]) (rest := []) (lenOf pd_0 rfl) rfl (by show 2 * 0 + _ ≤ _; exact Nat.le_of_eq rfl) (hb hby at_28) (fun _ _ => ⟨rfl, e228, (by decide : 2 + 0 ≤ _), (by decide : 10 + 0 ≤ _)⟩)
    dsimp only [Pt.U, Pt.locs, Pt.cells, Pt.slots] at X232 l232 y232 z232 st232 hQ232
    subst l232 y232 z232
    obtain ⟨h232, e232⟩ : ∃ z, T232.heap = z := ⟨_, rfl⟩
    rw [e232] at hQ232
    obtain ⟨rfl, N232q, K232, g232_0, g232_1, g232_2, g232_3, g232_4⟩ := hQ232
    have N234 := Fr.app N231 N232q
    have f236 : Old Z n0 h232 := f233.keep K232 (allS (ge218) (allS (ge225) all0))
    obtain ⟨cq235, kq235, q235a, q235b, q235c⟩ := isOf hZ e232 g232_0
    obtain ⟨_, _, ⟨T235, L235, k235, n235⟩, -, X235, ⟨Lc235, hQ235, l235, y235, z235⟩, st235⟩ := X232.virtualBack hx (y := (⟨"com/example/stackweave/stackweave/classfile/ByteWriter", "u4At", "(II)V"⟩ : MethodName)) (z := (⟨"com/example/stackweave/stackweave/classfile/ByteWriter", "u4At", "(II)V"⟩ : MethodName)) hown (mvT hZ (own_w hw 24 rfl)) (mvT hZ (own_w hw 25 rfl)) (notFace_of_selects (args := #[]) (mvT hZ (own_w hw 27 rfl))) (mvT hZ (own_w hw 27 rfl)) (mvT hZ (own_w hw 26 rfl)) (by decide) (backOf (W := 0) (rmu4At44 l Z a0 hw [] b217 p3_ nb2_222 k2_222 (((p0_.toUInt32 >>> ((24 : Int32) &&& 31).toUInt32).toInt32).toInt8.toInt32) (((p0_.toUInt32 >>> ((16 : Int32) &&& 31).toUInt32).toInt32).toInt8.toInt32) (((p0_.toUInt32 >>> ((8 : Int32) &&& 31).toUInt32).toInt32).toInt8.toInt32) (p0_.toInt8.toInt32) (((p1_.toUInt32 >>> ((24 : Int32) &&& 31).toUInt32).toInt32).toInt8.toInt32) (((p1_.toUInt32 >>> ((16 : Int32) &&& 31).toUInt32).toInt32).toInt8.toInt32) (((p1_.toUInt32 >>> ((8 : Int32) &&& 31).toUInt32).toInt32).toInt8.toInt32) (p1_.toInt8.toInt32) h232 n0 f236 g232_0 g232_1 g232_2 g232_3 g232_4 ge225 ne229) hZ (own_w hw 28 rfl) (own_w hw 3 rfl) (by decide) (by decide)) q235a q235c (g := (mkF m 36 #[lvI p0_, lvI p1_, lvI p2_, lvI p3_, lvI (4 : Int32), lvR b217, .unset, .unset] [(.int p3_), (.int (4 : Int32)), (.ref b217)])) rfl (by rw [hml]; rfl) (Steps.refl _) (argsL := [(.int (4 : Int32)), (.int p3_)]) (rest := []) (lenOf pd_1 rfl) rfl (by show 2 * 0 + _ ≤ _; exact Nat.le_of_eq rfl) (hb hby at_36) (fun _ _ => ⟨rfl, e232, (by decide : 2 + 0 ≤ _), (by decide : 10 + 0 ≤ _)⟩)
    dsimp only [Pt.U, Pt.locs, Pt.cells, Pt.slots] at X235 l235 y235 z235 st235 hQ235
    subst l235 y235 z235
    obtain ⟨h235, e235⟩ : ∃ z, T235.heap = z := ⟨_, rfl⟩
    rw [e235] at hQ235
    obtain ⟨rfl, N235q, K235, g235_0, g235_1⟩ := hQ235
    have N237 := Fr.app N234 N235q
    have f239 : Exa Z h235 b217 cn0 := g232_0.keep K235
    have f240 : Fld Z h235 b217 cn0 "bytes" "[B" (.ref nb2_222) := g232_1.keep K235 (ninS ne229 nin0)
    have f241 : Fld Z h235 b217 cn0 "length" "I" (.int (8 : Int32)) := g232_2.keep K235 (ninS ne229 nin0)
    have f242 : Old Z n0 h235 := f236.keep K235 (allS (ge225) all0)
    obtain ⟨cq238, kq238, q238a, q238b, q238c⟩ := isOf hZ e235 f239
    obtain ⟨_, _, ⟨T238, L238, k238, n238⟩, -, X238, ⟨Lc238, hQ238, l238, y238, z238⟩, st238⟩ := X235.virtualBack hx (y := (⟨"com/example/stackweave/stackweave/classfile/ByteWriter", "length", "()I"⟩ : MethodName)) (z := (⟨"com/example/stackweave/stackweave/classfile/ByteWriter", "length", "()I"⟩ : MethodName)) hown (mvT hZ (own_w hw 29 rfl)) (mvT hZ (own_w hw 30 rfl)) (notFace_of_selects (args := #[]) (mvT hZ (own_w hw 32 rfl))) (mvT hZ (own_w hw 32 rfl)) (mvT hZ (own_w hw 31 rfl)) (by decide) (backOf (W := 0) (rmlength7 l Z a0 hw [] b217 nb2_222 k2_222 (((p0_.toUInt32 >>> ((24 : Int32) &&& 31).toUInt32).toInt32).toInt8.toInt32) (((p0_.toUInt32 >>> ((16 : Int32) &&& 31).toUInt32).toInt32).toInt8.toInt32) (((p0_.toUInt32 >>> ((8 : Int32) &&& 31).toUInt32).toInt32).toInt8.toInt32) (p0_.toInt8.toInt32) (((p3_.toUInt32 >>> ((24 : Int32) &&& 31).toUInt32).toInt32).toInt8.toInt32) (((p3_.toUInt32 >>> ((16 : Int32) &&& 31).toUInt32).toInt32).toInt8.toInt32) (((p3_.toUInt32 >>> ((8 : Int32) &&& 31).toUInt32).toInt32).toInt8.toInt32) (p3_.toInt8.toInt32) h235 n0 f242 f239 f240 f241 g235_0 g235_1) hZ (own_w hw 33 rfl) (own_w hw 3 rfl) (by decide) (by decide)) q238a q238c (g := (mkF m 41 #[lvI p0_, lvI p1_, lvI p2_, lvI p3_, lvI (4 : Int32), lvR b217, .unset, .unset] [(.ref b217)])) rfl (by rw [hml]; rfl) (Steps.refl _) (argsL := []) (rest := []) (lenOf pd_2 rfl) rfl (by show 2 * 0 + _ ≤ _; exact Nat.le_of_eq rfl) (hb hby at_41) (fun _ _ => ⟨rfl, e235, (by decide : 2 + 0 ≤ _), (by decide : 10 + 0 ≤ _)⟩)
    dsimp only [Pt.U, Pt.locs, Pt.cells, Pt.slots] at X238 l238 y238 z238 st238 hQ238
    subst l238 y238 z238
    obtain ⟨h238, e238⟩ : ∃ z, T238.heap = z := ⟨_, rfl⟩
    rw [e238] at hQ238
    obtain ⟨rfl, N238q, hh238⟩ := hQ238
    have N243 := Fr.app N237 N238q
    have e238' : T238.heap = h235 := e238.trans hh238
    obtain ⟨cq244, kq244, q244a, q244b, q244c⟩ := isOf hZ e238' f239
    obtain ⟨_, _, ⟨T244, L244, k244, n244⟩, -, X244, ⟨Lc244, hQ244, l244, y244, z244⟩, st244⟩ := X238.virtualBack hx (y := (⟨"com/example/stackweave/stackweave/classfile/ByteWriter", "filledArray", "()[B"⟩ : MethodName)) (z := (⟨"com/example/stackweave/stackweave/classfile/ByteWriter", "filledArray", "()[B"⟩ : MethodName)) hown (mvT hZ (own_w hw 34 rfl)) (mvT hZ (own_w hw 35 rfl)) (notFace_of_selects (args := #[]) (mvT hZ (own_w hw 37 rfl))) (mvT hZ (own_w hw 37 rfl)) (mvT hZ (own_w hw 36 rfl)) (by decide) (backOf (W := 0) (rmfilledArray8 l Z a0 hw [] b217 nb2_222 k2_222 (((p0_.toUInt32 >>> ((24 : Int32) &&& 31).toUInt32).toInt32).toInt8.toInt32) (((p0_.toUInt32 >>> ((16 : Int32) &&& 31).toUInt32).toInt32).toInt8.toInt32) (((p0_.toUInt32 >>> ((8 : Int32) &&& 31).toUInt32).toInt32).toInt8.toInt32) (p0_.toInt8.toInt32) (((p3_.toUInt32 >>> ((24 : Int32) &&& 31).toUInt32).toInt32).toInt8.toInt32) (((p3_.toUInt32 >>> ((16 : Int32) &&& 31).toUInt32).toInt32).toInt8.toInt32) (((p3_.toUInt32 >>> ((8 : Int32) &&& 31).toUInt32).toInt32).toInt8.toInt32) (p3_.toInt8.toInt32) h235 n0 f242 f239 f240 f241 g235_0 g235_1) hZ (own_w hw 38 rfl) (own_w hw 3 rfl) (by decide) (by decide)) q244a q244c (g := (mkF m 53 #[lvI p0_, lvI p1_, lvI p2_, lvI p3_, lvI (4 : Int32), lvR b217, .unset, .unset] [(.ref b217)])) rfl (by rw [hml]; rfl) (Steps.refl _) (argsL := []) (rest := []) (lenOf pd_3 rfl) rfl (by show 2 * 0 + _ ≤ _; exact Nat.le_of_eq rfl) (hb hby at_53) (fun _ _ => ⟨rfl, e238', (by decide : 2 + 0 ≤ _), (by decide : 10 + 0 ≤ _)⟩)
    dsimp only [Pt.U, Pt.locs, Pt.cells, Pt.slots] at X244 l244 y244 z244 st244 hQ244
    subst l244 y244 z244
    obtain ⟨h244, e244⟩ : ∃ z, T244.heap = z := ⟨_, rfl⟩
    rw [e244] at hQ244
    obtain ⟨rfl, N244q, hh244⟩ := hQ244
    have N245 := Fr.app N243 N244q
    have e244' : T244.heap = h235 := e244.trans hh244
    obtain ⟨c246, r246, q246, s246, z246, y246, G246⟩ := id g235_0
    obtain ⟨c247, r247, q247, s247, z247, y247, G247⟩ := id g235_0
    have hin247 : ¬ ((4 : Int32) < 0 ∨ c247.slots.size ≤ ((4 : Int32)).toNatClampNeg) := inb_of s247 ⟨by decide, by decide⟩
    have hat247 : c247.slots[((4 : Int32)).toNatClampNeg]? = some (.int (((p3_.toUInt32 >>> ((24 : Int32) &&& 31).toUInt32).toInt32).toInt8.toInt32)) := Has.at y247 hin247 rfl
    obtain ⟨c248, r248, q248, s248, z248, y248, G248⟩ := id g235_0
    have hin248 : ¬ ((5 : Int32) < 0 ∨ c248.slots.size ≤ ((5 : Int32)).toNatClampNeg) := inb_of s248 ⟨by decide, by decide⟩
    have hat248 : c248.slots[((5 : Int32)).toNatClampNeg]? = some (.int (((p3_.toUInt32 >>> ((16 : Int32) &&& 31).toUInt32).toInt32).toInt8.toInt32)) := Has.at y248 hin248 rfl
    obtain ⟨c249, r249, q249, s249, z249, y249, G249⟩ := id g235_0
    have hin249 : ¬ ((6 : Int32) < 0 ∨ c249.slots.size ≤ ((6 : Int32)).toNatClampNeg) := inb_of s249 ⟨by decide, by decide⟩
    have hat249 : c249.slots[((6 : Int32)).toNatClampNeg]? = some (.int (((p3_.toUInt32 >>> ((8 : Int32) &&& 31).toUInt32).toInt32).toInt8.toInt32)) := Has.at y249 hin249 rfl
    obtain ⟨c250, r250, q250, s250, z250, y250, G250⟩ := id g235_0
    have hin250 : ¬ ((7 : Int32) < 0 ∨ c250.slots.size ≤ ((7 : Int32)).toNatClampNeg) := inb_of s250 ⟨by decide, by decide⟩
    have hat250 : c250.slots[((7 : Int32)).toNatClampNeg]? = some (.int (p3_.toInt8.toInt32)) := Has.at y250 hin250 rfl
    obtain ⟨_, _, ⟨T251, L251, k251, n251⟩, -, X251, ⟨Lc251, hQ251, l251, y251, z251⟩, st251⟩ := Jvm.LawKit.callS X244 hx (y := (⟨"com/example/stackweave/stackweave/classfile/ByteWriterU4AtPinLaw", "keeps", "([BIIII)Z"⟩ : MethodName)) hown (mvT hZ (own_w hw 39 rfl)) (mvT hZ (own_w hw 40 rfl)) (mvT hZ (own_w hw 41 rfl)) (mvT hZ (own_w hw 42 rfl)) (by decide) (backOf (W := 0) (rmkeeps45 l Z a0 hw [] nb2_222 p0_ p1_ k2_222 (((p0_.toUInt32 >>> ((24 : Int32) &&& 31).toUInt32).toInt32).toInt8.toInt32) (((p0_.toUInt32 >>> ((16 : Int32) &&& 31).toUInt32).toInt32).toInt8.toInt32) (((p0_.toUInt32 >>> ((8 : Int32) &&& 31).toUInt32).toInt32).toInt8.toInt32) (p0_.toInt8.toInt32) (((p3_.toUInt32 >>> ((24 : Int32) &&& 31).toUInt32).toInt32).toInt8.toInt32) (((p3_.toUInt32 >>> ((16 : Int32) &&& 31).toUInt32).toInt32).toInt8.toInt32) (((p3_.toUInt32 >>> ((8 : Int32) &&& 31).toUInt32).toInt32).toInt8.toInt32) (p3_.toInt8.toInt32) h235 n0 f242 g235_0 g235_1) hZ (own_w hw 42 rfl) (own_w hw 41 rfl) (by decide) (by decide)) (g := (mkF m 139 #[lvI p0_, lvI p1_, lvI p2_, lvI p3_, lvI (4 : Int32), lvR b217, lvR nb2_222, lvI ((((((((p3_.toUInt32 >>> ((24 : Int32) &&& 31).toUInt32).toInt32).toInt8.toInt32) &&& (255 : Int32)) <<< ((24 : Int32) &&& 31)) ||| (((((p3_.toUInt32 >>> ((16 : Int32) &&& 31).toUInt32).toInt32).toInt8.toInt32) &&& (255 : Int32)) <<< ((16 : Int32) &&& 31))) ||| (((((p3_.toUInt32 >>> ((8 : Int32) &&& 31).toUInt32).toInt32).toInt8.toInt32) &&& (255 : Int32)) <<< ((8 : Int32) &&& 31))) ||| ((p3_.toInt8.toInt32) &&& (255 : Int32)))] [(.int p1_), (.int p0_), (.int (4 : Int32)), (.int (0 : Int32)), (.ref nb2_222)])) rfl (by rw [hml]; rfl) (argsL := [(.ref nb2_222), (.int (0 : Int32)), (.int (4 : Int32)), (.int p0_), (.int p1_)]) (rest := []) (lenOf pd_4 rfl) rfl (by show 2 * 0 + _ ≤ _; exact Nat.le_of_eq rfl) (hb hby at_139) (fun _ _ => ⟨rfl, e244', (by decide : 2 + 0 ≤ _), (by decide : 10 + 0 ≤ _)⟩)
    dsimp only [Pt.U, Pt.locs, Pt.cells, Pt.slots] at X251 l251 y251 z251 st251 hQ251
    subst l251 y251 z251
    obtain ⟨h251, e251⟩ : ∃ z, T251.heap = z := ⟨_, rfl⟩
    rw [e251] at hQ251
    obtain ⟨rr251, rfl, hs251, N251q, hh251⟩ := hQ251
    have N252 := Fr.app N245 N251q
    have e251' : T251.heap = h235 := e251.trans hh251
    rcases hs251 with ⟨rfl, hq251_0_0⟩ | ⟨rfl, hq251_1_0⟩
    · obtain ⟨_, _, ⟨T253, L253, k253, n253⟩, -, X253, ⟨Lc253, hQ253, l253, y253, z253⟩, st253⟩ := Jvm.LawKit.callS X251 hx (y := (⟨"com/example/stackweave/stackweave/classfile/ByteWriterU4AtPinLaw", "keeps", "([BIIII)Z"⟩ : MethodName)) hown (mvT hZ (own_w hw 39 rfl)) (mvT hZ (own_w hw 40 rfl)) (mvT hZ (own_w hw 41 rfl)) (mvT hZ (own_w hw 42 rfl)) (by decide) (backOf (W := 0) (rmkeeps46 l Z a0 hw [] nb2_222 p0_ p1_ k2_222 (((p0_.toUInt32 >>> ((24 : Int32) &&& 31).toUInt32).toInt32).toInt8.toInt32) (((p0_.toUInt32 >>> ((16 : Int32) &&& 31).toUInt32).toInt32).toInt8.toInt32) (((p0_.toUInt32 >>> ((8 : Int32) &&& 31).toUInt32).toInt32).toInt8.toInt32) (p0_.toInt8.toInt32) (((p3_.toUInt32 >>> ((24 : Int32) &&& 31).toUInt32).toInt32).toInt8.toInt32) (((p3_.toUInt32 >>> ((16 : Int32) &&& 31).toUInt32).toInt32).toInt8.toInt32) (((p3_.toUInt32 >>> ((8 : Int32) &&& 31).toUInt32).toInt32).toInt8.toInt32) (p3_.toInt8.toInt32) h235 n0 f242 g235_0 g235_1) hZ (own_w hw 42 rfl) (own_w hw 41 rfl) (by decide) (by decide)) (g := (mkF m 152 #[lvI p0_, lvI p1_, lvI p2_, lvI p3_, lvI (4 : Int32), lvR b217, lvR nb2_222, lvI ((((((((p3_.toUInt32 >>> ((24 : Int32) &&& 31).toUInt32).toInt32).toInt8.toInt32) &&& (255 : Int32)) <<< ((24 : Int32) &&& 31)) ||| (((((p3_.toUInt32 >>> ((16 : Int32) &&& 31).toUInt32).toInt32).toInt8.toInt32) &&& (255 : Int32)) <<< ((16 : Int32) &&& 31))) ||| (((((p3_.toUInt32 >>> ((8 : Int32) &&& 31).toUInt32).toInt32).toInt8.toInt32) &&& (255 : Int32)) <<< ((8 : Int32) &&& 31))) ||| ((p3_.toInt8.toInt32) &&& (255 : Int32)))] [(.int p1_), (.int p0_), (.int (4 : Int32)), (.int (1 : Int32)), (.ref nb2_222)])) rfl (by rw [hml]; rfl) (argsL := [(.ref nb2_222), (.int (1 : Int32)), (.int (4 : Int32)), (.int p0_), (.int p1_)]) (rest := []) (lenOf pd_4 rfl) rfl (by show 2 * 0 + _ ≤ _; exact Nat.le_of_eq rfl) (hb hby at_152) (fun _ _ => ⟨rfl, e251', (by decide : 2 + 0 ≤ _), (by decide : 10 + 0 ≤ _)⟩)
      dsimp only [Pt.U, Pt.locs, Pt.cells, Pt.slots] at X253 l253 y253 z253 st253 hQ253
      subst l253 y253 z253
      obtain ⟨h253, e253⟩ : ∃ z, T253.heap = z := ⟨_, rfl⟩
      rw [e253] at hQ253
      obtain ⟨rr253, rfl, hs253, N253q, hh253⟩ := hQ253
      have N254 := Fr.app N252 N253q
      have e253' : T253.heap = h235 := e253.trans hh253
      rcases hs253 with ⟨rfl, hq253_0_0⟩ | ⟨rfl, hq253_1_0⟩
      · obtain ⟨_, _, ⟨T255, L255, k255, n255⟩, -, X255, ⟨Lc255, hQ255, l255, y255, z255⟩, st255⟩ := Jvm.LawKit.callS X253 hx (y := (⟨"com/example/stackweave/stackweave/classfile/ByteWriterU4AtPinLaw", "keeps", "([BIIII)Z"⟩ : MethodName)) hown (mvT hZ (own_w hw 39 rfl)) (mvT hZ (own_w hw 40 rfl)) (mvT hZ (own_w hw 41 rfl)) (mvT hZ (own_w hw 42 rfl)) (by decide) (backOf (W := 0) (rmkeeps47 l Z a0 hw [] nb2_222 p0_ p1_ k2_222 (((p0_.toUInt32 >>> ((24 : Int32) &&& 31).toUInt32).toInt32).toInt8.toInt32) (((p0_.toUInt32 >>> ((16 : Int32) &&& 31).toUInt32).toInt32).toInt8.toInt32) (((p0_.toUInt32 >>> ((8 : Int32) &&& 31).toUInt32).toInt32).toInt8.toInt32) (p0_.toInt8.toInt32) (((p3_.toUInt32 >>> ((24 : Int32) &&& 31).toUInt32).toInt32).toInt8.toInt32) (((p3_.toUInt32 >>> ((16 : Int32) &&& 31).toUInt32).toInt32).toInt8.toInt32) (((p3_.toUInt32 >>> ((8 : Int32) &&& 31).toUInt32).toInt32).toInt8.toInt32) (p3_.toInt8.toInt32) h235 n0 f242 g235_0 g235_1) hZ (own_w hw 42 rfl) (own_w hw 41 rfl) (by decide) (by decide)) (g := (mkF m 165 #[lvI p0_, lvI p1_, lvI p2_, lvI p3_, lvI (4 : Int32), lvR b217, lvR nb2_222, lvI ((((((((p3_.toUInt32 >>> ((24 : Int32) &&& 31).toUInt32).toInt32).toInt8.toInt32) &&& (255 : Int32)) <<< ((24 : Int32) &&& 31)) ||| (((((p3_.toUInt32 >>> ((16 : Int32) &&& 31).toUInt32).toInt32).toInt8.toInt32) &&& (255 : Int32)) <<< ((16 : Int32) &&& 31))) ||| (((((p3_.toUInt32 >>> ((8 : Int32) &&& 31).toUInt32).toInt32).toInt8.toInt32) &&& (255 : Int32)) <<< ((8 : Int32) &&& 31))) ||| ((p3_.toInt8.toInt32) &&& (255 : Int32)))] [(.int p1_), (.int p0_), (.int (4 : Int32)), (.int (2 : Int32)), (.ref nb2_222)])) rfl (by rw [hml]; rfl) (argsL := [(.ref nb2_222), (.int (2 : Int32)), (.int (4 : Int32)), (.int p0_), (.int p1_)]) (rest := []) (lenOf pd_4 rfl) rfl (by show 2 * 0 + _ ≤ _; exact Nat.le_of_eq rfl) (hb hby at_165) (fun _ _ => ⟨rfl, e253', (by decide : 2 + 0 ≤ _), (by decide : 10 + 0 ≤ _)⟩)
        dsimp only [Pt.U, Pt.locs, Pt.cells, Pt.slots] at X255 l255 y255 z255 st255 hQ255
        subst l255 y255 z255
        obtain ⟨h255, e255⟩ : ∃ z, T255.heap = z := ⟨_, rfl⟩
        rw [e255] at hQ255
        obtain ⟨rr255, rfl, hs255, N255q, hh255⟩ := hQ255
        have N256 := Fr.app N254 N255q
        have e255' : T255.heap = h235 := e255.trans hh255
        rcases hs255 with ⟨rfl, hq255_0_0⟩ | ⟨rfl, hq255_1_0⟩
        · obtain ⟨_, _, ⟨T257, L257, k257, n257⟩, -, X257, ⟨Lc257, hQ257, l257, y257, z257⟩, st257⟩ := Jvm.LawKit.callS X255 hx (y := (⟨"com/example/stackweave/stackweave/classfile/ByteWriterU4AtPinLaw", "keeps", "([BIIII)Z"⟩ : MethodName)) hown (mvT hZ (own_w hw 39 rfl)) (mvT hZ (own_w hw 40 rfl)) (mvT hZ (own_w hw 41 rfl)) (mvT hZ (own_w hw 42 rfl)) (by decide) (backOf (W := 0) (rmkeeps48 l Z a0 hw [] nb2_222 p0_ p1_ k2_222 (((p0_.toUInt32 >>> ((24 : Int32) &&& 31).toUInt32).toInt32).toInt8.toInt32) (((p0_.toUInt32 >>> ((16 : Int32) &&& 31).toUInt32).toInt32).toInt8.toInt32) (((p0_.toUInt32 >>> ((8 : Int32) &&& 31).toUInt32).toInt32).toInt8.toInt32) (p0_.toInt8.toInt32) (((p3_.toUInt32 >>> ((24 : Int32) &&& 31).toUInt32).toInt32).toInt8.toInt32) (((p3_.toUInt32 >>> ((16 : Int32) &&& 31).toUInt32).toInt32).toInt8.toInt32) (((p3_.toUInt32 >>> ((8 : Int32) &&& 31).toUInt32).toInt32).toInt8.toInt32) (p3_.toInt8.toInt32) h235 n0 f242 g235_0 g235_1) hZ (own_w hw 42 rfl) (own_w hw 41 rfl) (by decide) (by decide)) (g := (mkF m 178 #[lvI p0_, lvI p1_, lvI p2_, lvI p3_, lvI (4 : Int32), lvR b217, lvR nb2_222, lvI ((((((((p3_.toUInt32 >>> ((24 : Int32) &&& 31).toUInt32).toInt32).toInt8.toInt32) &&& (255 : Int32)) <<< ((24 : Int32) &&& 31)) ||| (((((p3_.toUInt32 >>> ((16 : Int32) &&& 31).toUInt32).toInt32).toInt8.toInt32) &&& (255 : Int32)) <<< ((16 : Int32) &&& 31))) ||| (((((p3_.toUInt32 >>> ((8 : Int32) &&& 31).toUInt32).toInt32).toInt8.toInt32) &&& (255 : Int32)) <<< ((8 : Int32) &&& 31))) ||| ((p3_.toInt8.toInt32) &&& (255 : Int32)))] [(.int p1_), (.int p0_), (.int (4 : Int32)), (.int (3 : Int32)), (.ref nb2_222)])) rfl (by rw [hml]; rfl) (argsL := [(.ref nb2_222), (.int (3 : Int32)), (.int (4 : Int32)), (.int p0_), (.int p1_)]) (rest := []) (lenOf pd_4 rfl) rfl (by show 2 * 0 + _ ≤ _; exact Nat.le_of_eq rfl) (hb hby at_178) (fun _ _ => ⟨rfl, e255', (by decide : 2 + 0 ≤ _), (by decide : 10 + 0 ≤ _)⟩)
          dsimp only [Pt.U, Pt.locs, Pt.cells, Pt.slots] at X257 l257 y257 z257 st257 hQ257
          subst l257 y257 z257
          obtain ⟨h257, e257⟩ : ∃ z, T257.heap = z := ⟨_, rfl⟩
          rw [e257] at hQ257
          obtain ⟨rr257, rfl, hs257, N257q, hh257⟩ := hQ257
          have N258 := Fr.app N256 N257q
          have e257' : T257.heap = h235 := e257.trans hh257
          rcases hs257 with ⟨rfl, hq257_0_0⟩ | ⟨rfl, hq257_1_0⟩
          · obtain ⟨_, _, ⟨T259, L259, k259, n259⟩, -, X259, ⟨Lc259, hQ259, l259, y259, z259⟩, st259⟩ := Jvm.LawKit.callS X257 hx (y := (⟨"com/example/stackweave/stackweave/classfile/ByteWriterU4AtPinLaw", "keeps", "([BIIII)Z"⟩ : MethodName)) hown (mvT hZ (own_w hw 39 rfl)) (mvT hZ (own_w hw 40 rfl)) (mvT hZ (own_w hw 41 rfl)) (mvT hZ (own_w hw 42 rfl)) (by decide) (backOf (W := 0) (rmkeeps49 l Z a0 hw [] nb2_222 p0_ p1_ k2_222 (((p0_.toUInt32 >>> ((24 : Int32) &&& 31).toUInt32).toInt32).toInt8.toInt32) (((p0_.toUInt32 >>> ((16 : Int32) &&& 31).toUInt32).toInt32).toInt8.toInt32) (((p0_.toUInt32 >>> ((8 : Int32) &&& 31).toUInt32).toInt32).toInt8.toInt32) (p0_.toInt8.toInt32) (((p3_.toUInt32 >>> ((24 : Int32) &&& 31).toUInt32).toInt32).toInt8.toInt32) (((p3_.toUInt32 >>> ((16 : Int32) &&& 31).toUInt32).toInt32).toInt8.toInt32) (((p3_.toUInt32 >>> ((8 : Int32) &&& 31).toUInt32).toInt32).toInt8.toInt32) (p3_.toInt8.toInt32) h235 n0 f242 g235_0 g235_1) hZ (own_w hw 42 rfl) (own_w hw 41 rfl) (by decide) (by decide)) (g := (mkF m 191 #[lvI p0_, lvI p1_, lvI p2_, lvI p3_, lvI (4 : Int32), lvR b217, lvR nb2_222, lvI ((((((((p3_.toUInt32 >>> ((24 : Int32) &&& 31).toUInt32).toInt32).toInt8.toInt32) &&& (255 : Int32)) <<< ((24 : Int32) &&& 31)) ||| (((((p3_.toUInt32 >>> ((16 : Int32) &&& 31).toUInt32).toInt32).toInt8.toInt32) &&& (255 : Int32)) <<< ((16 : Int32) &&& 31))) ||| (((((p3_.toUInt32 >>> ((8 : Int32) &&& 31).toUInt32).toInt32).toInt8.toInt32) &&& (255 : Int32)) <<< ((8 : Int32) &&& 31))) ||| ((p3_.toInt8.toInt32) &&& (255 : Int32)))] [(.int p1_), (.int p0_), (.int (4 : Int32)), (.int (4 : Int32)), (.ref nb2_222)])) rfl (by rw [hml]; rfl) (argsL := [(.ref nb2_222), (.int (4 : Int32)), (.int (4 : Int32)), (.int p0_), (.int p1_)]) (rest := []) (lenOf pd_4 rfl) rfl (by show 2 * 0 + _ ≤ _; exact Nat.le_of_eq rfl) (hb hby at_191) (fun _ _ => ⟨rfl, e257', (by decide : 2 + 0 ≤ _), (by decide : 10 + 0 ≤ _)⟩)
            dsimp only [Pt.U, Pt.locs, Pt.cells, Pt.slots] at X259 l259 y259 z259 st259 hQ259
            subst l259 y259 z259
            obtain ⟨h259, e259⟩ : ∃ z, T259.heap = z := ⟨_, rfl⟩
            rw [e259] at hQ259
            obtain ⟨rfl, N259q, hh259⟩ := hQ259
            have N260 := Fr.app N258 N259q
            have e259' : T259.heap = h235 := e259.trans hh259
            obtain ⟨_, _, ⟨T261, L261, k261, n261⟩, -, X261, ⟨Lc261, hQ261, l261, y261, z261⟩, st261⟩ := Jvm.LawKit.callS X259 hx (y := (⟨"com/example/stackweave/stackweave/classfile/ByteWriterU4AtPinLaw", "keeps", "([BIIII)Z"⟩ : MethodName)) hown (mvT hZ (own_w hw 39 rfl)) (mvT hZ (own_w hw 40 rfl)) (mvT hZ (own_w hw 41 rfl)) (mvT hZ (own_w hw 42 rfl)) (by decide) (backOf (W := 0) (rmkeeps50 l Z a0 hw [] nb2_222 p0_ p1_ k2_222 (((p0_.toUInt32 >>> ((24 : Int32) &&& 31).toUInt32).toInt32).toInt8.toInt32) (((p0_.toUInt32 >>> ((16 : Int32) &&& 31).toUInt32).toInt32).toInt8.toInt32) (((p0_.toUInt32 >>> ((8 : Int32) &&& 31).toUInt32).toInt32).toInt8.toInt32) (p0_.toInt8.toInt32) (((p3_.toUInt32 >>> ((24 : Int32) &&& 31).toUInt32).toInt32).toInt8.toInt32) (((p3_.toUInt32 >>> ((16 : Int32) &&& 31).toUInt32).toInt32).toInt8.toInt32) (((p3_.toUInt32 >>> ((8 : Int32) &&& 31).toUInt32).toInt32).toInt8.toInt32) (p3_.toInt8.toInt32) h235 n0 f242 g235_0 g235_1) hZ (own_w hw 42 rfl) (own_w hw 41 rfl) (by decide) (by decide)) (g := (mkF m 204 #[lvI p0_, lvI p1_, lvI p2_, lvI p3_, lvI (4 : Int32), lvR b217, lvR nb2_222, lvI ((((((((p3_.toUInt32 >>> ((24 : Int32) &&& 31).toUInt32).toInt32).toInt8.toInt32) &&& (255 : Int32)) <<< ((24 : Int32) &&& 31)) ||| (((((p3_.toUInt32 >>> ((16 : Int32) &&& 31).toUInt32).toInt32).toInt8.toInt32) &&& (255 : Int32)) <<< ((16 : Int32) &&& 31))) ||| (((((p3_.toUInt32 >>> ((8 : Int32) &&& 31).toUInt32).toInt32).toInt8.toInt32) &&& (255 : Int32)) <<< ((8 : Int32) &&& 31))) ||| ((p3_.toInt8.toInt32) &&& (255 : Int32)))] [(.int p1_), (.int p0_), (.int (4 : Int32)), (.int (5 : Int32)), (.ref nb2_222)])) rfl (by rw [hml]; rfl) (argsL := [(.ref nb2_222), (.int (5 : Int32)), (.int (4 : Int32)), (.int p0_), (.int p1_)]) (rest := []) (lenOf pd_4 rfl) rfl (by show 2 * 0 + _ ≤ _; exact Nat.le_of_eq rfl) (hb hby at_204) (fun _ _ => ⟨rfl, e259', (by decide : 2 + 0 ≤ _), (by decide : 10 + 0 ≤ _)⟩)
            dsimp only [Pt.U, Pt.locs, Pt.cells, Pt.slots] at X261 l261 y261 z261 st261 hQ261
            subst l261 y261 z261
            obtain ⟨h261, e261⟩ : ∃ z, T261.heap = z := ⟨_, rfl⟩
            rw [e261] at hQ261
            obtain ⟨rfl, N261q, hh261⟩ := hQ261
            have N262 := Fr.app N260 N261q
            have e261' : T261.heap = h235 := e261.trans hh261
            obtain ⟨_, _, ⟨T263, L263, k263, n263⟩, -, X263, ⟨Lc263, hQ263, l263, y263, z263⟩, st263⟩ := Jvm.LawKit.callS X261 hx (y := (⟨"com/example/stackweave/stackweave/classfile/ByteWriterU4AtPinLaw", "keeps", "([BIIII)Z"⟩ : MethodName)) hown (mvT hZ (own_w hw 39 rfl)) (mvT hZ (own_w hw 40 rfl)) (mvT hZ (own_w hw 41 rfl)) (mvT hZ (own_w hw 42 rfl)) (by decide) (backOf (W := 0) (rmkeeps51 l Z a0 hw [] nb2_222 p0_ p1_ k2_222 (((p0_.toUInt32 >>> ((24 : Int32) &&& 31).toUInt32).toInt32).toInt8.toInt32) (((p0_.toUInt32 >>> ((16 : Int32) &&& 31).toUInt32).toInt32).toInt8.toInt32) (((p0_.toUInt32 >>> ((8 : Int32) &&& 31).toUInt32).toInt32).toInt8.toInt32) (p0_.toInt8.toInt32) (((p3_.toUInt32 >>> ((24 : Int32) &&& 31).toUInt32).toInt32).toInt8.toInt32) (((p3_.toUInt32 >>> ((16 : Int32) &&& 31).toUInt32).toInt32).toInt8.toInt32) (((p3_.toUInt32 >>> ((8 : Int32) &&& 31).toUInt32).toInt32).toInt8.toInt32) (p3_.toInt8.toInt32) h235 n0 f242 g235_0 g235_1) hZ (own_w hw 42 rfl) (own_w hw 41 rfl) (by decide) (by decide)) (g := (mkF m 218 #[lvI p0_, lvI p1_, lvI p2_, lvI p3_, lvI (4 : Int32), lvR b217, lvR nb2_222, lvI ((((((((p3_.toUInt32 >>> ((24 : Int32) &&& 31).toUInt32).toInt32).toInt8.toInt32) &&& (255 : Int32)) <<< ((24 : Int32) &&& 31)) ||| (((((p3_.toUInt32 >>> ((16 : Int32) &&& 31).toUInt32).toInt32).toInt8.toInt32) &&& (255 : Int32)) <<< ((16 : Int32) &&& 31))) ||| (((((p3_.toUInt32 >>> ((8 : Int32) &&& 31).toUInt32).toInt32).toInt8.toInt32) &&& (255 : Int32)) <<< ((8 : Int32) &&& 31))) ||| ((p3_.toInt8.toInt32) &&& (255 : Int32)))] [(.int p1_), (.int p0_), (.int (4 : Int32)), (.int (6 : Int32)), (.ref nb2_222)])) rfl (by rw [hml]; rfl) (argsL := [(.ref nb2_222), (.int (6 : Int32)), (.int (4 : Int32)), (.int p0_), (.int p1_)]) (rest := []) (lenOf pd_4 rfl) rfl (by show 2 * 0 + _ ≤ _; exact Nat.le_of_eq rfl) (hb hby at_218) (fun _ _ => ⟨rfl, e261', (by decide : 2 + 0 ≤ _), (by decide : 10 + 0 ≤ _)⟩)
            dsimp only [Pt.U, Pt.locs, Pt.cells, Pt.slots] at X263 l263 y263 z263 st263 hQ263
            subst l263 y263 z263
            obtain ⟨h263, e263⟩ : ∃ z, T263.heap = z := ⟨_, rfl⟩
            rw [e263] at hQ263
            obtain ⟨rfl, N263q, hh263⟩ := hQ263
            have N264 := Fr.app N262 N263q
            have e263' : T263.heap = h235 := e263.trans hh263
            obtain ⟨_, _, ⟨T265, L265, k265, n265⟩, -, X265, ⟨Lc265, hQ265, l265, y265, z265⟩, st265⟩ := Jvm.LawKit.callS X263 hx (y := (⟨"com/example/stackweave/stackweave/classfile/ByteWriterU4AtPinLaw", "keeps", "([BIIII)Z"⟩ : MethodName)) hown (mvT hZ (own_w hw 39 rfl)) (mvT hZ (own_w hw 40 rfl)) (mvT hZ (own_w hw 41 rfl)) (mvT hZ (own_w hw 42 rfl)) (by decide) (backOf (W := 0) (rmkeeps52 l Z a0 hw [] nb2_222 p0_ p1_ k2_222 (((p0_.toUInt32 >>> ((24 : Int32) &&& 31).toUInt32).toInt32).toInt8.toInt32) (((p0_.toUInt32 >>> ((16 : Int32) &&& 31).toUInt32).toInt32).toInt8.toInt32) (((p0_.toUInt32 >>> ((8 : Int32) &&& 31).toUInt32).toInt32).toInt8.toInt32) (p0_.toInt8.toInt32) (((p3_.toUInt32 >>> ((24 : Int32) &&& 31).toUInt32).toInt32).toInt8.toInt32) (((p3_.toUInt32 >>> ((16 : Int32) &&& 31).toUInt32).toInt32).toInt8.toInt32) (((p3_.toUInt32 >>> ((8 : Int32) &&& 31).toUInt32).toInt32).toInt8.toInt32) (p3_.toInt8.toInt32) h235 n0 f242 g235_0 g235_1) hZ (own_w hw 42 rfl) (own_w hw 41 rfl) (by decide) (by decide)) (g := (mkF m 232 #[lvI p0_, lvI p1_, lvI p2_, lvI p3_, lvI (4 : Int32), lvR b217, lvR nb2_222, lvI ((((((((p3_.toUInt32 >>> ((24 : Int32) &&& 31).toUInt32).toInt32).toInt8.toInt32) &&& (255 : Int32)) <<< ((24 : Int32) &&& 31)) ||| (((((p3_.toUInt32 >>> ((16 : Int32) &&& 31).toUInt32).toInt32).toInt8.toInt32) &&& (255 : Int32)) <<< ((16 : Int32) &&& 31))) ||| (((((p3_.toUInt32 >>> ((8 : Int32) &&& 31).toUInt32).toInt32).toInt8.toInt32) &&& (255 : Int32)) <<< ((8 : Int32) &&& 31))) ||| ((p3_.toInt8.toInt32) &&& (255 : Int32)))] [(.int p1_), (.int p0_), (.int (4 : Int32)), (.int (7 : Int32)), (.ref nb2_222)])) rfl (by rw [hml]; rfl) (argsL := [(.ref nb2_222), (.int (7 : Int32)), (.int (4 : Int32)), (.int p0_), (.int p1_)]) (rest := []) (lenOf pd_4 rfl) rfl (by show 2 * 0 + _ ≤ _; exact Nat.le_of_eq rfl) (hb hby at_232) (fun _ _ => ⟨rfl, e263', (by decide : 2 + 0 ≤ _), (by decide : 10 + 0 ≤ _)⟩)
            dsimp only [Pt.U, Pt.locs, Pt.cells, Pt.slots] at X265 l265 y265 z265 st265 hQ265
            subst l265 y265 z265
            obtain ⟨h265, e265⟩ : ∃ z, T265.heap = z := ⟨_, rfl⟩
            rw [e265] at hQ265
            obtain ⟨rfl, N265q, hh265⟩ := hQ265
            have N266 := Fr.app N264 N265q
            have e265' : T265.heap = h235 := e265.trans hh265
            have pre267 : ∀ t, own_S p e below m T265 243 #[lvI p0_, lvI p1_, lvI p2_, lvI p3_, lvI (4 : Int32), lvR b217, lvR nb2_222, lvI ((((((((p3_.toUInt32 >>> ((24 : Int32) &&& 31).toUInt32).toInt32).toInt8.toInt32) &&& (255 : Int32)) <<< ((24 : Int32) &&& 31)) ||| (((((p3_.toUInt32 >>> ((16 : Int32) &&& 31).toUInt32).toInt32).toInt8.toInt32) &&& (255 : Int32)) <<< ((16 : Int32) &&& 31))) ||| (((((p3_.toUInt32 >>> ((8 : Int32) &&& 31).toUInt32).toInt32).toInt8.toInt32) &&& (255 : Int32)) <<< ((8 : Int32) &&& 31))) ||| ((p3_.toInt8.toInt32) &&& (255 : Int32)))] [(.int (1 : Int32))] t → G t := by
              intro t kt
              refine pre216 t ?_
              show own_S p e below m s₁ 6 #[lvI p0_, lvI p1_, lvI p2_, lvI p3_, .unset, .unset, .unset, .unset] [(.int (4 : Int32))] _
              refine XS.istore X0.here hx rfl (hb hby at_6) rfl (l' := #[lvI p0_, lvI p1_, lvI p2_, lvI p3_, lvI (4 : Int32), .unset, .unset, .unset]) rfl ?_
              show own_S p e below m s₁ 8 #[lvI p0_, lvI p1_, lvI p2_, lvI p3_, lvI (4 : Int32), .unset, .unset, .unset] [] _
              refine st217 _ ?_
              refine XS.dup X217.here hx rfl (hb hby at_11) rfl rfl ?_
              refine XS.bipush X217.here hx rfl (hb hby at_12) ?_
              show own_S p e below m T217 14 #[lvI p0_, lvI p1_, lvI p2_, lvI p3_, lvI (4 : Int32), .unset, .unset, .unset] [(.int (8 : Int32)), (.ref b217), (.ref b217)] _
              refine st222.trans ?_
              refine XS.astore X222.here hx rfl (hb hby at_17) rfl rfl (l' := #[lvI p0_, lvI p1_, lvI p2_, lvI p3_, lvI (4 : Int32), lvR b217, .unset, .unset]) rfl ?_
              refine XS.aload X222.here hx rfl (hb hby at_19) rfl rfl ?_
              refine XS.iloadN X222.here hx rfl (hb hby at_21) rfl ?_
              show own_S p e below m T222 22 #[lvI p0_, lvI p1_, lvI p2_, lvI p3_, lvI (4 : Int32), lvR b217, .unset, .unset] [(.int p0_), (.ref b217)] _
              refine st228.trans ?_
              refine XS.aload X228.here hx rfl (hb hby at_25) rfl rfl ?_
              refine XS.iloadN X228.here hx rfl (hb hby at_27) rfl ?_
              show own_S p e below m T228 28 #[lvI p0_, lvI p1_, lvI p2_, lvI p3_, lvI (4 : Int32), lvR b217, .unset, .unset] [(.int p1_), (.ref b217)] _
              refine st232.trans ?_
              refine XS.aload X232.here hx rfl (hb hby at_31) rfl rfl ?_
              refine XS.iload X232.here hx rfl (hb hby at_33) rfl ?_
              refine XS.iloadN X232.here hx rfl (hb hby at_35) rfl ?_
              show own_S p e below m T232 36 #[lvI p0_, lvI p1_, lvI p2_, lvI p3_, lvI (4 : Int32), lvR b217, .unset, .unset] [(.int p3_), (.int (4 : Int32)), (.ref b217)] _
              refine st235.trans ?_
              refine XS.aload X235.here hx rfl (hb hby at_39) rfl rfl ?_
              show own_S p e below m T235 41 #[lvI p0_, lvI p1_, lvI p2_, lvI p3_, lvI (4 : Int32), lvR b217, .unset, .unset] [(.ref b217)] _
              refine st238.trans ?_
              refine XS.bipush X238.here hx rfl (hb hby at_44) ?_
              show own_S p e below m T238 46 #[lvI p0_, lvI p1_, lvI p2_, lvI p3_, lvI (4 : Int32), lvR b217, .unset, .unset] [(.int (8 : Int32)), (.int (8 : Int32))] _
              refine XS.icmpYes X238.here hx rfl (pc0 := 46) (pc' := 51) rfl (hb hby at_46) rfl (teq (by decide : (8 : Int32) = (8 : Int32))).1 (by decide) (by decide) ?_
              refine XS.aload X238.here hx rfl (hb hby at_51) rfl rfl ?_
              show own_S p e below m T238 53 #[lvI p0_, lvI p1_, lvI p2_, lvI p3_, lvI (4 : Int32), lvR b217, .unset, .unset] [(.ref b217)] _
              refine st244.trans ?_
              refine XS.astore X244.here hx rfl (hb hby at_56) rfl rfl (l' := #[lvI p0_, lvI p1_, lvI p2_, lvI p3_, lvI (4 : Int32), lvR b217, lvR nb2_222, .unset]) rfl ?_
              refine XS.aload X244.here hx rfl (hb hby at_58) rfl rfl ?_
              show own_S p e below m T244 60 #[lvI p0_, lvI p1_, lvI p2_, lvI p3_, lvI (4 : Int32), lvR b217, lvR nb2_222, .unset] [(.ref nb2_222)] _
              refine X244.arraylength hx (by rw [e244']; exact r246.1) (State.isArrayOf_alike hZ.alike r246.2.1) (g := (mkF m 60 #[lvI p0_, lvI p1_, lvI p2_, lvI p3_, lvI (4 : Int32), lvR b217, lvR nb2_222, .unset] [(.ref nb2_222)])) rfl rfl (hb hby at_60) _ ?_
              rw [len_of s246 z246]
              refine XS.bipush X244.here hx rfl (hb hby at_61) ?_
              show own_S p e below m T244 63 #[lvI p0_, lvI p1_, lvI p2_, lvI p3_, lvI (4 : Int32), lvR b217, lvR nb2_222, .unset] [(.int (8 : Int32)), (.int (8 : Int32))] _
              refine XS.icmpYes X244.here hx rfl (pc0 := 63) (pc' := 68) rfl (hb hby at_63) rfl (teq (by decide : (8 : Int32) = (8 : Int32))).1 (by decide) (by decide) ?_
              refine XS.aload X244.here hx rfl (hb hby at_68) rfl rfl ?_
              refine XS.iload X244.here hx rfl (hb hby at_70) rfl ?_
              show own_S p e below m T244 72 #[lvI p0_, lvI p1_, lvI p2_, lvI p3_, lvI (4 : Int32), lvR b217, lvR nb2_222, .unset] [(.int (4 : Int32)), (.ref nb2_222)] _
              refine X244.baloadBytes hx (j := (4 : Int32)) (v := (.int (((p3_.toUInt32 >>> ((24 : Int32) &&& 31).toUInt32).toInt32).toInt8.toInt32))) (by rw [e244']; exact r247.1) (State.isArrayOf_alike hZ.alike r247.2.1) r247.2.2 hin247 hat247 (g := (mkF m 72 #[lvI p0_, lvI p1_, lvI p2_, lvI p3_, lvI (4 : Int32), lvR b217, lvR nb2_222, .unset] [(.int (4 : Int32)), (.ref nb2_222)])) rfl rfl (hb hby at_72) _ ?_
              refine XS.sipush X244.here hx rfl (hb hby at_73) ?_
              refine XS.iand X244.here hx rfl (hb hby at_76) rfl ?_
              refine XS.bipush X244.here hx rfl (hb hby at_77) ?_
              show own_S p e below m T244 79 #[lvI p0_, lvI p1_, lvI p2_, lvI p3_, lvI (4 : Int32), lvR b217, lvR nb2_222, .unset] [(.int (24 : Int32)), (.int ((((p3_.toUInt32 >>> ((24 : Int32) &&& 31).toUInt32).toInt32).toInt8.toInt32) &&& (255 : Int32)))] _
              refine XS.ishl X244.here hx rfl (hb hby at_79) rfl ?_
              refine XS.aload X244.here hx rfl (hb hby at_80) rfl rfl ?_
              refine XS.iload X244.here hx rfl (hb hby at_82) rfl ?_
              refine XS.iconst X244.here hx rfl (hb hby at_84) ?_
              show own_S p e below m T244 85 #[lvI p0_, lvI p1_, lvI p2_, lvI p3_, lvI (4 : Int32), lvR b217, lvR nb2_222, .unset] [(.int (1 : Int32)), (.int (4 : Int32)), (.ref nb2_222), (.int (((((p3_.toUInt32 >>> ((24 : Int32) &&& 31).toUInt32).toInt32).toInt8.toInt32) &&& (255 : Int32)) <<< ((24 : Int32) &&& 31)))] _
              refine XS.iadd X244.here hx rfl (hb hby at_85) rfl ?_
              show own_S p e below m T244 86 #[lvI p0_, lvI p1_, lvI p2_, lvI p3_, lvI (4 : Int32), lvR b217, lvR nb2_222, .unset] [(.int (5 : Int32)), (.ref nb2_222), (.int (((((p3_.toUInt32 >>> ((24 : Int32) &&& 31).toUInt32).toInt32).toInt8.toInt32) &&& (255 : Int32)) <<< ((24 : Int32) &&& 31)))] _
              refine X244.baloadBytes hx (j := (5 : Int32)) (v := (.int (((p3_.toUInt32 >>> ((16 : Int32) &&& 31).toUInt32).toInt32).toInt8.toInt32))) (by rw [e244']; exact r248.1) (State.isArrayOf_alike hZ.alike r248.2.1) r248.2.2 hin248 hat248 (g := (mkF m 86 #[lvI p0_, lvI p1_, lvI p2_, lvI p3_, lvI (4 : Int32), lvR b217, lvR nb2_222, .unset] [(.int (5 : Int32)), (.ref nb2_222), (.int (((((p3_.toUInt32 >>> ((24 : Int32) &&& 31).toUInt32).toInt32).toInt8.toInt32) &&& (255 : Int32)) <<< ((24 : Int32) &&& 31)))])) rfl rfl (hb hby at_86) _ ?_
              refine XS.sipush X244.here hx rfl (hb hby at_87) ?_
              refine XS.iand X244.here hx rfl (hb hby at_90) rfl ?_
              refine XS.bipush X244.here hx rfl (hb hby at_91) ?_
              show own_S p e below m T244 93 #[lvI p0_, lvI p1_, lvI p2_, lvI p3_, lvI (4 : Int32), lvR b217, lvR nb2_222, .unset] [(.int (16 : Int32)), (.int ((((p3_.toUInt32 >>> ((16 : Int32) &&& 31).toUInt32).toInt32).toInt8.toInt32) &&& (255 : Int32))), (.int (((((p3_.toUInt32 >>> ((24 : Int32) &&& 31).toUInt32).toInt32).toInt8.toInt32) &&& (255 : Int32)) <<< ((24 : Int32) &&& 31)))] _
              refine XS.ishl X244.here hx rfl (hb hby at_93) rfl ?_
              show own_S p e below m T244 94 #[lvI p0_, lvI p1_, lvI p2_, lvI p3_, lvI (4 : Int32), lvR b217, lvR nb2_222, .unset] [(.int (((((p3_.toUInt32 >>> ((16 : Int32) &&& 31).toUInt32).toInt32).toInt8.toInt32) &&& (255 : Int32)) <<< ((16 : Int32) &&& 31))), (.int (((((p3_.toUInt32 >>> ((24 : Int32) &&& 31).toUInt32).toInt32).toInt8.toInt32) &&& (255 : Int32)) <<< ((24 : Int32) &&& 31)))] _
              refine XS.ior X244.here hx rfl (hb hby at_94) rfl ?_
              refine XS.aload X244.here hx rfl (hb hby at_95) rfl rfl ?_
              refine XS.iload X244.here hx rfl (hb hby at_97) rfl ?_
              refine XS.iconst X244.here hx rfl (hb hby at_99) ?_
              show own_S p e below m T244 100 #[lvI p0_, lvI p1_, lvI p2_, lvI p3_, lvI (4 : Int32), lvR b217, lvR nb2_222, .unset] [(.int (2 : Int32)), (.int (4 : Int32)), (.ref nb2_222), (.int ((((((p3_.toUInt32 >>> ((24 : Int32) &&& 31).toUInt32).toInt32).toInt8.toInt32) &&& (255 : Int32)) <<< ((24 : Int32) &&& 31)) ||| (((((p3_.toUInt32 >>> ((16 : Int32) &&& 31).toUInt32).toInt32).toInt8.toInt32) &&& (255 : Int32)) <<< ((16 : Int32) &&& 31))))] _
              refine XS.iadd X244.here hx rfl (hb hby at_100) rfl ?_
              show own_S p e below m T244 101 #[lvI p0_, lvI p1_, lvI p2_, lvI p3_, lvI (4 : Int32), lvR b217, lvR nb2_222, .unset] [(.int (6 : Int32)), (.ref nb2_222), (.int ((((((p3_.toUInt32 >>> ((24 : Int32) &&& 31).toUInt32).toInt32).toInt8.toInt32) &&& (255 : Int32)) <<< ((24 : Int32) &&& 31)) ||| (((((p3_.toUInt32 >>> ((16 : Int32) &&& 31).toUInt32).toInt32).toInt8.toInt32) &&& (255 : Int32)) <<< ((16 : Int32) &&& 31))))] _
              refine X244.baloadBytes hx (j := (6 : Int32)) (v := (.int (((p3_.toUInt32 >>> ((8 : Int32) &&& 31).toUInt32).toInt32).toInt8.toInt32))) (by rw [e244']; exact r249.1) (State.isArrayOf_alike hZ.alike r249.2.1) r249.2.2 hin249 hat249 (g := (mkF m 101 #[lvI p0_, lvI p1_, lvI p2_, lvI p3_, lvI (4 : Int32), lvR b217, lvR nb2_222, .unset] [(.int (6 : Int32)), (.ref nb2_222), (.int ((((((p3_.toUInt32 >>> ((24 : Int32) &&& 31).toUInt32).toInt32).toInt8.toInt32) &&& (255 : Int32)) <<< ((24 : Int32) &&& 31)) ||| (((((p3_.toUInt32 >>> ((16 : Int32) &&& 31).toUInt32).toInt32).toInt8.toInt32) &&& (255 : Int32)) <<< ((16 : Int32) &&& 31))))])) rfl rfl (hb hby at_101) _ ?_
              refine XS.sipush X244.here hx rfl (hb hby at_102) ?_
              refine XS.iand X244.here hx rfl (hb hby at_105) rfl ?_
              refine XS.bipush X244.here hx rfl (hb hby at_106) ?_
              show own_S p e below m T244 108 #[lvI p0_, lvI p1_, lvI p2_, lvI p3_, lvI (4 : Int32), lvR b217, lvR nb2_222, .unset] [(.int (8 : Int32)), (.int ((((p3_.toUInt32 >>> ((8 : Int32) &&& 31).toUInt32).toInt32).toInt8.toInt32) &&& (255 : Int32))), (.int ((((((p3_.toUInt32 >>> ((24 : Int32) &&& 31).toUInt32).toInt32).toInt8.toInt32) &&& (255 : Int32)) <<< ((24 : Int32) &&& 31)) ||| (((((p3_.toUInt32 >>> ((16 : Int32) &&& 31).toUInt32).toInt32).toInt8.toInt32) &&& (255 : Int32)) <<< ((16 : Int32) &&& 31))))] _
              refine XS.ishl X244.here hx rfl (hb hby at_108) rfl ?_
              show own_S p e below m T244 109 #[lvI p0_, lvI p1_, lvI p2_, lvI p3_, lvI (4 : Int32), lvR b217, lvR nb2_222, .unset] [(.int (((((p3_.toUInt32 >>> ((8 : Int32) &&& 31).toUInt32).toInt32).toInt8.toInt32) &&& (255 : Int32)) <<< ((8 : Int32) &&& 31))), (.int ((((((p3_.toUInt32 >>> ((24 : Int32) &&& 31).toUInt32).toInt32).toInt8.toInt32) &&& (255 : Int32)) <<< ((24 : Int32) &&& 31)) ||| (((((p3_.toUInt32 >>> ((16 : Int32) &&& 31).toUInt32).toInt32).toInt8.toInt32) &&& (255 : Int32)) <<< ((16 : Int32) &&& 31))))] _
              refine XS.ior X244.here hx rfl (hb hby at_109) rfl ?_
              refine XS.aload X244.here hx rfl (hb hby at_110) rfl rfl ?_
              refine XS.iload X244.here hx rfl (hb hby at_112) rfl ?_
              refine XS.iconst X244.here hx rfl (hb hby at_114) ?_
              show own_S p e below m T244 115 #[lvI p0_, lvI p1_, lvI p2_, lvI p3_, lvI (4 : Int32), lvR b217, lvR nb2_222, .unset] [(.int (3 : Int32)), (.int (4 : Int32)), (.ref nb2_222), (.int (((((((p3_.toUInt32 >>> ((24 : Int32) &&& 31).toUInt32).toInt32).toInt8.toInt32) &&& (255 : Int32)) <<< ((24 : Int32) &&& 31)) ||| (((((p3_.toUInt32 >>> ((16 : Int32) &&& 31).toUInt32).toInt32).toInt8.toInt32) &&& (255 : Int32)) <<< ((16 : Int32) &&& 31))) ||| (((((p3_.toUInt32 >>> ((8 : Int32) &&& 31).toUInt32).toInt32).toInt8.toInt32) &&& (255 : Int32)) <<< ((8 : Int32) &&& 31))))] _
              refine XS.iadd X244.here hx rfl (hb hby at_115) rfl ?_
              show own_S p e below m T244 116 #[lvI p0_, lvI p1_, lvI p2_, lvI p3_, lvI (4 : Int32), lvR b217, lvR nb2_222, .unset] [(.int (7 : Int32)), (.ref nb2_222), (.int (((((((p3_.toUInt32 >>> ((24 : Int32) &&& 31).toUInt32).toInt32).toInt8.toInt32) &&& (255 : Int32)) <<< ((24 : Int32) &&& 31)) ||| (((((p3_.toUInt32 >>> ((16 : Int32) &&& 31).toUInt32).toInt32).toInt8.toInt32) &&& (255 : Int32)) <<< ((16 : Int32) &&& 31))) ||| (((((p3_.toUInt32 >>> ((8 : Int32) &&& 31).toUInt32).toInt32).toInt8.toInt32) &&& (255 : Int32)) <<< ((8 : Int32) &&& 31))))] _
              refine X244.baloadBytes hx (j := (7 : Int32)) (v := (.int (p3_.toInt8.toInt32))) (by rw [e244']; exact r250.1) (State.isArrayOf_alike hZ.alike r250.2.1) r250.2.2 hin250 hat250 (g := (mkF m 116 #[lvI p0_, lvI p1_, lvI p2_, lvI p3_, lvI (4 : Int32), lvR b217, lvR nb2_222, .unset] [(.int (7 : Int32)), (.ref nb2_222), (.int (((((((p3_.toUInt32 >>> ((24 : Int32) &&& 31).toUInt32).toInt32).toInt8.toInt32) &&& (255 : Int32)) <<< ((24 : Int32) &&& 31)) ||| (((((p3_.toUInt32 >>> ((16 : Int32) &&& 31).toUInt32).toInt32).toInt8.toInt32) &&& (255 : Int32)) <<< ((16 : Int32) &&& 31))) ||| (((((p3_.toUInt32 >>> ((8 : Int32) &&& 31).toUInt32).toInt32).toInt8.toInt32) &&& (255 : Int32)) <<< ((8 : Int32) &&& 31))))])) rfl rfl (hb hby at_116) _ ?_
              refine XS.sipush X244.here hx rfl (hb hby at_117) ?_
              refine XS.iand X244.here hx rfl (hb hby at_120) rfl ?_
              show own_S p e below m T244 121 #[lvI p0_, lvI p1_, lvI p2_, lvI p3_, lvI (4 : Int32), lvR b217, lvR nb2_222, .unset] [(.int ((p3_.toInt8.toInt32) &&& (255 : Int32))), (.int (((((((p3_.toUInt32 >>> ((24 : Int32) &&& 31).toUInt32).toInt32).toInt8.toInt32) &&& (255 : Int32)) <<< ((24 : Int32) &&& 31)) ||| (((((p3_.toUInt32 >>> ((16 : Int32) &&& 31).toUInt32).toInt32).toInt8.toInt32) &&& (255 : Int32)) <<< ((16 : Int32) &&& 31))) ||| (((((p3_.toUInt32 >>> ((8 : Int32) &&& 31).toUInt32).toInt32).toInt8.toInt32) &&& (255 : Int32)) <<< ((8 : Int32) &&& 31))))] _
              refine XS.ior X244.here hx rfl (hb hby at_121) rfl ?_
              refine XS.istore X244.here hx rfl (hb hby at_122) rfl (l' := #[lvI p0_, lvI p1_, lvI p2_, lvI p3_, lvI (4 : Int32), lvR b217, lvR nb2_222, lvI ((((((((p3_.toUInt32 >>> ((24 : Int32) &&& 31).toUInt32).toInt32).toInt8.toInt32) &&& (255 : Int32)) <<< ((24 : Int32) &&& 31)) ||| (((((p3_.toUInt32 >>> ((16 : Int32) &&& 31).toUInt32).toInt32).toInt8.toInt32) &&& (255 : Int32)) <<< ((16 : Int32) &&& 31))) ||| (((((p3_.toUInt32 >>> ((8 : Int32) &&& 31).toUInt32).toInt32).toInt8.toInt32) &&& (255 : Int32)) <<< ((8 : Int32) &&& 31))) ||| ((p3_.toInt8.toInt32) &&& (255 : Int32)))]) rfl ?_
              refine XS.iload X244.here hx rfl (hb hby at_124) rfl ?_
              refine XS.iloadN X244.here hx rfl (hb hby at_126) rfl ?_
              show own_S p e below m T244 127 #[lvI p0_, lvI p1_, lvI p2_, lvI p3_, lvI (4 : Int32), lvR b217, lvR nb2_222, lvI ((((((((p3_.toUInt32 >>> ((24 : Int32) &&& 31).toUInt32).toInt32).toInt8.toInt32) &&& (255 : Int32)) <<< ((24 : Int32) &&& 31)) ||| (((((p3_.toUInt32 >>> ((16 : Int32) &&& 31).toUInt32).toInt32).toInt8.toInt32) &&& (255 : Int32)) <<< ((16 : Int32) &&& 31))) ||| (((((p3_.toUInt32 >>> ((8 : Int32) &&& 31).toUInt32).toInt32).toInt8.toInt32) &&& (255 : Int32)) <<< ((8 : Int32) &&& 31))) ||| ((p3_.toInt8.toInt32) &&& (255 : Int32)))] [(.int p3_), (.int ((((((((p3_.toUInt32 >>> ((24 : Int32) &&& 31).toUInt32).toInt32).toInt8.toInt32) &&& (255 : Int32)) <<< ((24 : Int32) &&& 31)) ||| (((((p3_.toUInt32 >>> ((16 : Int32) &&& 31).toUInt32).toInt32).toInt8.toInt32) &&& (255 : Int32)) <<< ((16 : Int32) &&& 31))) ||| (((((p3_.toUInt32 >>> ((8 : Int32) &&& 31).toUInt32).toInt32).toInt8.toInt32) &&& (255 : Int32)) <<< ((8 : Int32) &&& 31))) ||| ((p3_.toInt8.toInt32) &&& (255 : Int32))))] _
              refine XS.icmpYes X244.here hx rfl (pc0 := 127) (pc' := 132) rfl (hb hby at_127) rfl (teq (own_read p3_)).1 (by decide) (by decide) ?_
              refine XS.aload X244.here hx rfl (hb hby at_132) rfl rfl ?_
              refine XS.iconst X244.here hx rfl (hb hby at_134) ?_
              refine XS.iload X244.here hx rfl (hb hby at_135) rfl ?_
              show own_S p e below m T244 137 #[lvI p0_, lvI p1_, lvI p2_, lvI p3_, lvI (4 : Int32), lvR b217, lvR nb2_222, lvI ((((((((p3_.toUInt32 >>> ((24 : Int32) &&& 31).toUInt32).toInt32).toInt8.toInt32) &&& (255 : Int32)) <<< ((24 : Int32) &&& 31)) ||| (((((p3_.toUInt32 >>> ((16 : Int32) &&& 31).toUInt32).toInt32).toInt8.toInt32) &&& (255 : Int32)) <<< ((16 : Int32) &&& 31))) ||| (((((p3_.toUInt32 >>> ((8 : Int32) &&& 31).toUInt32).toInt32).toInt8.toInt32) &&& (255 : Int32)) <<< ((8 : Int32) &&& 31))) ||| ((p3_.toInt8.toInt32) &&& (255 : Int32)))] [(.int (4 : Int32)), (.int (0 : Int32)), (.ref nb2_222)] _
              refine XS.iloadN X244.here hx rfl (hb hby at_137) rfl ?_
              refine XS.iloadN X244.here hx rfl (hb hby at_138) rfl ?_
              show own_S p e below m T244 139 #[lvI p0_, lvI p1_, lvI p2_, lvI p3_, lvI (4 : Int32), lvR b217, lvR nb2_222, lvI ((((((((p3_.toUInt32 >>> ((24 : Int32) &&& 31).toUInt32).toInt32).toInt8.toInt32) &&& (255 : Int32)) <<< ((24 : Int32) &&& 31)) ||| (((((p3_.toUInt32 >>> ((16 : Int32) &&& 31).toUInt32).toInt32).toInt8.toInt32) &&& (255 : Int32)) <<< ((16 : Int32) &&& 31))) ||| (((((p3_.toUInt32 >>> ((8 : Int32) &&& 31).toUInt32).toInt32).toInt8.toInt32) &&& (255 : Int32)) <<< ((8 : Int32) &&& 31))) ||| ((p3_.toInt8.toInt32) &&& (255 : Int32)))] [(.int p1_), (.int p0_), (.int (4 : Int32)), (.int (0 : Int32)), (.ref nb2_222)] _
              refine st251 _ ?_
              show own_S p e below m T251 142 #[lvI p0_, lvI p1_, lvI p2_, lvI p3_, lvI (4 : Int32), lvR b217, lvR nb2_222, lvI ((((((((p3_.toUInt32 >>> ((24 : Int32) &&& 31).toUInt32).toInt32).toInt8.toInt32) &&& (255 : Int32)) <<< ((24 : Int32) &&& 31)) ||| (((((p3_.toUInt32 >>> ((16 : Int32) &&& 31).toUInt32).toInt32).toInt8.toInt32) &&& (255 : Int32)) <<< ((16 : Int32) &&& 31))) ||| (((((p3_.toUInt32 >>> ((8 : Int32) &&& 31).toUInt32).toInt32).toInt8.toInt32) &&& (255 : Int32)) <<< ((8 : Int32) &&& 31))) ||| ((p3_.toInt8.toInt32) &&& (255 : Int32)))] [(.int (1 : Int32))] _
              refine XS.ifNo X251.here hx rfl (hb hby at_142) rfl ((if0 _ _).trans (feq (by decide : ¬ ((1 : Int32) = (0 : Int32)))).1) ?_
              refine XS.aload X251.here hx rfl (hb hby at_145) rfl rfl ?_
              refine XS.iconst X251.here hx rfl (hb hby at_147) ?_
              refine XS.iload X251.here hx rfl (hb hby at_148) rfl ?_
              show own_S p e below m T251 150 #[lvI p0_, lvI p1_, lvI p2_, lvI p3_, lvI (4 : Int32), lvR b217, lvR nb2_222, lvI ((((((((p3_.toUInt32 >>> ((24 : Int32) &&& 31).toUInt32).toInt32).toInt8.toInt32) &&& (255 : Int32)) <<< ((24 : Int32) &&& 31)) ||| (((((p3_.toUInt32 >>> ((16 : Int32) &&& 31).toUInt32).toInt32).toInt8.toInt32) &&& (255 : Int32)) <<< ((16 : Int32) &&& 31))) ||| (((((p3_.toUInt32 >>> ((8 : Int32) &&& 31).toUInt32).toInt32).toInt8.toInt32) &&& (255 : Int32)) <<< ((8 : Int32) &&& 31))) ||| ((p3_.toInt8.toInt32) &&& (255 : Int32)))] [(.int (4 : Int32)), (.int (1 : Int32)), (.ref nb2_222)] _
              refine XS.iloadN X251.here hx rfl (hb hby at_150) rfl ?_
              refine XS.iloadN X251.here hx rfl (hb hby at_151) rfl ?_
              show own_S p e below m T251 152 #[lvI p0_, lvI p1_, lvI p2_, lvI p3_, lvI (4 : Int32), lvR b217, lvR nb2_222, lvI ((((((((p3_.toUInt32 >>> ((24 : Int32) &&& 31).toUInt32).toInt32).toInt8.toInt32) &&& (255 : Int32)) <<< ((24 : Int32) &&& 31)) ||| (((((p3_.toUInt32 >>> ((16 : Int32) &&& 31).toUInt32).toInt32).toInt8.toInt32) &&& (255 : Int32)) <<< ((16 : Int32) &&& 31))) ||| (((((p3_.toUInt32 >>> ((8 : Int32) &&& 31).toUInt32).toInt32).toInt8.toInt32) &&& (255 : Int32)) <<< ((8 : Int32) &&& 31))) ||| ((p3_.toInt8.toInt32) &&& (255 : Int32)))] [(.int p1_), (.int p0_), (.int (4 : Int32)), (.int (1 : Int32)), (.ref nb2_222)] _
              refine st253 _ ?_
              show own_S p e below m T253 155 #[lvI p0_, lvI p1_, lvI p2_, lvI p3_, lvI (4 : Int32), lvR b217, lvR nb2_222, lvI ((((((((p3_.toUInt32 >>> ((24 : Int32) &&& 31).toUInt32).toInt32).toInt8.toInt32) &&& (255 : Int32)) <<< ((24 : Int32) &&& 31)) ||| (((((p3_.toUInt32 >>> ((16 : Int32) &&& 31).toUInt32).toInt32).toInt8.toInt32) &&& (255 : Int32)) <<< ((16 : Int32) &&& 31))) ||| (((((p3_.toUInt32 >>> ((8 : Int32) &&& 31).toUInt32).toInt32).toInt8.toInt32) &&& (255 : Int32)) <<< ((8 : Int32) &&& 31))) ||| ((p3_.toInt8.toInt32) &&& (255 : Int32)))] [(.int (1 : Int32))] _
              refine XS.ifNo X253.here hx rfl (hb hby at_155) rfl ((if0 _ _).trans (feq (by decide : ¬ ((1 : Int32) = (0 : Int32)))).1) ?_
              refine XS.aload X253.here hx rfl (hb hby at_158) rfl rfl ?_
              refine XS.iconst X253.here hx rfl (hb hby at_160) ?_
              refine XS.iload X253.here hx rfl (hb hby at_161) rfl ?_
              show own_S p e below m T253 163 #[lvI p0_, lvI p1_, lvI p2_, lvI p3_, lvI (4 : Int32), lvR b217, lvR nb2_222, lvI ((((((((p3_.toUInt32 >>> ((24 : Int32) &&& 31).toUInt32).toInt32).toInt8.toInt32) &&& (255 : Int32)) <<< ((24 : Int32) &&& 31)) ||| (((((p3_.toUInt32 >>> ((16 : Int32) &&& 31).toUInt32).toInt32).toInt8.toInt32) &&& (255 : Int32)) <<< ((16 : Int32) &&& 31))) ||| (((((p3_.toUInt32 >>> ((8 : Int32) &&& 31).toUInt32).toInt32).toInt8.toInt32) &&& (255 : Int32)) <<< ((8 : Int32) &&& 31))) ||| ((p3_.toInt8.toInt32) &&& (255 : Int32)))] [(.int (4 : Int32)), (.int (2 : Int32)), (.ref nb2_222)] _
              refine XS.iloadN X253.here hx rfl (hb hby at_163) rfl ?_
              refine XS.iloadN X253.here hx rfl (hb hby at_164) rfl ?_
              show own_S p e below m T253 165 #[lvI p0_, lvI p1_, lvI p2_, lvI p3_, lvI (4 : Int32), lvR b217, lvR nb2_222, lvI ((((((((p3_.toUInt32 >>> ((24 : Int32) &&& 31).toUInt32).toInt32).toInt8.toInt32) &&& (255 : Int32)) <<< ((24 : Int32) &&& 31)) ||| (((((p3_.toUInt32 >>> ((16 : Int32) &&& 31).toUInt32).toInt32).toInt8.toInt32) &&& (255 : Int32)) <<< ((16 : Int32) &&& 31))) ||| (((((p3_.toUInt32 >>> ((8 : Int32) &&& 31).toUInt32).toInt32).toInt8.toInt32) &&& (255 : Int32)) <<< ((8 : Int32) &&& 31))) ||| ((p3_.toInt8.toInt32) &&& (255 : Int32)))] [(.int p1_), (.int p0_), (.int (4 : Int32)), (.int (2 : Int32)), (.ref nb2_222)] _
              refine st255 _ ?_
              show own_S p e below m T255 168 #[lvI p0_, lvI p1_, lvI p2_, lvI p3_, lvI (4 : Int32), lvR b217, lvR nb2_222, lvI ((((((((p3_.toUInt32 >>> ((24 : Int32) &&& 31).toUInt32).toInt32).toInt8.toInt32) &&& (255 : Int32)) <<< ((24 : Int32) &&& 31)) ||| (((((p3_.toUInt32 >>> ((16 : Int32) &&& 31).toUInt32).toInt32).toInt8.toInt32) &&& (255 : Int32)) <<< ((16 : Int32) &&& 31))) ||| (((((p3_.toUInt32 >>> ((8 : Int32) &&& 31).toUInt32).toInt32).toInt8.toInt32) &&& (255 : Int32)) <<< ((8 : Int32) &&& 31))) ||| ((p3_.toInt8.toInt32) &&& (255 : Int32)))] [(.int (1 : Int32))] _
              refine XS.ifNo X255.here hx rfl (hb hby at_168) rfl ((if0 _ _).trans (feq (by decide : ¬ ((1 : Int32) = (0 : Int32)))).1) ?_
              refine XS.aload X255.here hx rfl (hb hby at_171) rfl rfl ?_
              refine XS.iconst X255.here hx rfl (hb hby at_173) ?_
              refine XS.iload X255.here hx rfl (hb hby at_174) rfl ?_
              show own_S p e below m T255 176 #[lvI p0_, lvI p1_, lvI p2_, lvI p3_, lvI (4 : Int32), lvR b217, lvR nb2_222, lvI ((((((((p3_.toUInt32 >>> ((24 : Int32) &&& 31).toUInt32).toInt32).toInt8.toInt32) &&& (255 : Int32)) <<< ((24 : Int32) &&& 31)) ||| (((((p3_.toUInt32 >>> ((16 : Int32) &&& 31).toUInt32).toInt32).toInt8.toInt32) &&& (255 : Int32)) <<< ((16 : Int32) &&& 31))) ||| (((((p3_.toUInt32 >>> ((8 : Int32) &&& 31).toUInt32).toInt32).toInt8.toInt32) &&& (255 : Int32)) <<< ((8 : Int32) &&& 31))) ||| ((p3_.toInt8.toInt32) &&& (255 : Int32)))] [(.int (4 : Int32)), (.int (3 : Int32)), (.ref nb2_222)] _
              refine XS.iloadN X255.here hx rfl (hb hby at_176) rfl ?_
              refine XS.iloadN X255.here hx rfl (hb hby at_177) rfl ?_
              show own_S p e below m T255 178 #[lvI p0_, lvI p1_, lvI p2_, lvI p3_, lvI (4 : Int32), lvR b217, lvR nb2_222, lvI ((((((((p3_.toUInt32 >>> ((24 : Int32) &&& 31).toUInt32).toInt32).toInt8.toInt32) &&& (255 : Int32)) <<< ((24 : Int32) &&& 31)) ||| (((((p3_.toUInt32 >>> ((16 : Int32) &&& 31).toUInt32).toInt32).toInt8.toInt32) &&& (255 : Int32)) <<< ((16 : Int32) &&& 31))) ||| (((((p3_.toUInt32 >>> ((8 : Int32) &&& 31).toUInt32).toInt32).toInt8.toInt32) &&& (255 : Int32)) <<< ((8 : Int32) &&& 31))) ||| ((p3_.toInt8.toInt32) &&& (255 : Int32)))] [(.int p1_), (.int p0_), (.int (4 : Int32)), (.int (3 : Int32)), (.ref nb2_222)] _
              refine st257 _ ?_
              show own_S p e below m T257 181 #[lvI p0_, lvI p1_, lvI p2_, lvI p3_, lvI (4 : Int32), lvR b217, lvR nb2_222, lvI ((((((((p3_.toUInt32 >>> ((24 : Int32) &&& 31).toUInt32).toInt32).toInt8.toInt32) &&& (255 : Int32)) <<< ((24 : Int32) &&& 31)) ||| (((((p3_.toUInt32 >>> ((16 : Int32) &&& 31).toUInt32).toInt32).toInt8.toInt32) &&& (255 : Int32)) <<< ((16 : Int32) &&& 31))) ||| (((((p3_.toUInt32 >>> ((8 : Int32) &&& 31).toUInt32).toInt32).toInt8.toInt32) &&& (255 : Int32)) <<< ((8 : Int32) &&& 31))) ||| ((p3_.toInt8.toInt32) &&& (255 : Int32)))] [(.int (1 : Int32))] _
              refine XS.ifNo X257.here hx rfl (hb hby at_181) rfl ((if0 _ _).trans (feq (by decide : ¬ ((1 : Int32) = (0 : Int32)))).1) ?_
              refine XS.aload X257.here hx rfl (hb hby at_184) rfl rfl ?_
              refine XS.iconst X257.here hx rfl (hb hby at_186) ?_
              refine XS.iload X257.here hx rfl (hb hby at_187) rfl ?_
              show own_S p e below m T257 189 #[lvI p0_, lvI p1_, lvI p2_, lvI p3_, lvI (4 : Int32), lvR b217, lvR nb2_222, lvI ((((((((p3_.toUInt32 >>> ((24 : Int32) &&& 31).toUInt32).toInt32).toInt8.toInt32) &&& (255 : Int32)) <<< ((24 : Int32) &&& 31)) ||| (((((p3_.toUInt32 >>> ((16 : Int32) &&& 31).toUInt32).toInt32).toInt8.toInt32) &&& (255 : Int32)) <<< ((16 : Int32) &&& 31))) ||| (((((p3_.toUInt32 >>> ((8 : Int32) &&& 31).toUInt32).toInt32).toInt8.toInt32) &&& (255 : Int32)) <<< ((8 : Int32) &&& 31))) ||| ((p3_.toInt8.toInt32) &&& (255 : Int32)))] [(.int (4 : Int32)), (.int (4 : Int32)), (.ref nb2_222)] _
              refine XS.iloadN X257.here hx rfl (hb hby at_189) rfl ?_
              refine XS.iloadN X257.here hx rfl (hb hby at_190) rfl ?_
              show own_S p e below m T257 191 #[lvI p0_, lvI p1_, lvI p2_, lvI p3_, lvI (4 : Int32), lvR b217, lvR nb2_222, lvI ((((((((p3_.toUInt32 >>> ((24 : Int32) &&& 31).toUInt32).toInt32).toInt8.toInt32) &&& (255 : Int32)) <<< ((24 : Int32) &&& 31)) ||| (((((p3_.toUInt32 >>> ((16 : Int32) &&& 31).toUInt32).toInt32).toInt8.toInt32) &&& (255 : Int32)) <<< ((16 : Int32) &&& 31))) ||| (((((p3_.toUInt32 >>> ((8 : Int32) &&& 31).toUInt32).toInt32).toInt8.toInt32) &&& (255 : Int32)) <<< ((8 : Int32) &&& 31))) ||| ((p3_.toInt8.toInt32) &&& (255 : Int32)))] [(.int p1_), (.int p0_), (.int (4 : Int32)), (.int (4 : Int32)), (.ref nb2_222)] _
              refine st259 _ ?_
              show own_S p e below m T259 194 #[lvI p0_, lvI p1_, lvI p2_, lvI p3_, lvI (4 : Int32), lvR b217, lvR nb2_222, lvI ((((((((p3_.toUInt32 >>> ((24 : Int32) &&& 31).toUInt32).toInt32).toInt8.toInt32) &&& (255 : Int32)) <<< ((24 : Int32) &&& 31)) ||| (((((p3_.toUInt32 >>> ((16 : Int32) &&& 31).toUInt32).toInt32).toInt8.toInt32) &&& (255 : Int32)) <<< ((16 : Int32) &&& 31))) ||| (((((p3_.toUInt32 >>> ((8 : Int32) &&& 31).toUInt32).toInt32).toInt8.toInt32) &&& (255 : Int32)) <<< ((8 : Int32) &&& 31))) ||| ((p3_.toInt8.toInt32) &&& (255 : Int32)))] [(.int (1 : Int32))] _
              refine XS.ifNo X259.here hx rfl (hb hby at_194) rfl ((if0 _ _).trans (feq (by decide : ¬ ((1 : Int32) = (0 : Int32)))).1) ?_
              refine XS.aload X259.here hx rfl (hb hby at_197) rfl rfl ?_
              refine XS.iconst X259.here hx rfl (hb hby at_199) ?_
              refine XS.iload X259.here hx rfl (hb hby at_200) rfl ?_
              show own_S p e below m T259 202 #[lvI p0_, lvI p1_, lvI p2_, lvI p3_, lvI (4 : Int32), lvR b217, lvR nb2_222, lvI ((((((((p3_.toUInt32 >>> ((24 : Int32) &&& 31).toUInt32).toInt32).toInt8.toInt32) &&& (255 : Int32)) <<< ((24 : Int32) &&& 31)) ||| (((((p3_.toUInt32 >>> ((16 : Int32) &&& 31).toUInt32).toInt32).toInt8.toInt32) &&& (255 : Int32)) <<< ((16 : Int32) &&& 31))) ||| (((((p3_.toUInt32 >>> ((8 : Int32) &&& 31).toUInt32).toInt32).toInt8.toInt32) &&& (255 : Int32)) <<< ((8 : Int32) &&& 31))) ||| ((p3_.toInt8.toInt32) &&& (255 : Int32)))] [(.int (4 : Int32)), (.int (5 : Int32)), (.ref nb2_222)] _
              refine XS.iloadN X259.here hx rfl (hb hby at_202) rfl ?_
              refine XS.iloadN X259.here hx rfl (hb hby at_203) rfl ?_
              show own_S p e below m T259 204 #[lvI p0_, lvI p1_, lvI p2_, lvI p3_, lvI (4 : Int32), lvR b217, lvR nb2_222, lvI ((((((((p3_.toUInt32 >>> ((24 : Int32) &&& 31).toUInt32).toInt32).toInt8.toInt32) &&& (255 : Int32)) <<< ((24 : Int32) &&& 31)) ||| (((((p3_.toUInt32 >>> ((16 : Int32) &&& 31).toUInt32).toInt32).toInt8.toInt32) &&& (255 : Int32)) <<< ((16 : Int32) &&& 31))) ||| (((((p3_.toUInt32 >>> ((8 : Int32) &&& 31).toUInt32).toInt32).toInt8.toInt32) &&& (255 : Int32)) <<< ((8 : Int32) &&& 31))) ||| ((p3_.toInt8.toInt32) &&& (255 : Int32)))] [(.int p1_), (.int p0_), (.int (4 : Int32)), (.int (5 : Int32)), (.ref nb2_222)] _
              refine st261 _ ?_
              show own_S p e below m T261 207 #[lvI p0_, lvI p1_, lvI p2_, lvI p3_, lvI (4 : Int32), lvR b217, lvR nb2_222, lvI ((((((((p3_.toUInt32 >>> ((24 : Int32) &&& 31).toUInt32).toInt32).toInt8.toInt32) &&& (255 : Int32)) <<< ((24 : Int32) &&& 31)) ||| (((((p3_.toUInt32 >>> ((16 : Int32) &&& 31).toUInt32).toInt32).toInt8.toInt32) &&& (255 : Int32)) <<< ((16 : Int32) &&& 31))) ||| (((((p3_.toUInt32 >>> ((8 : Int32) &&& 31).toUInt32).toInt32).toInt8.toInt32) &&& (255 : Int32)) <<< ((8 : Int32) &&& 31))) ||| ((p3_.toInt8.toInt32) &&& (255 : Int32)))] [(.int (1 : Int32))] _
              refine XS.ifNo X261.here hx rfl (hb hby at_207) rfl ((if0 _ _).trans (feq (by decide : ¬ ((1 : Int32) = (0 : Int32)))).1) ?_
              refine XS.aload X261.here hx rfl (hb hby at_210) rfl rfl ?_
              refine XS.bipush X261.here hx rfl (hb hby at_212) ?_
              refine XS.iload X261.here hx rfl (hb hby at_214) rfl ?_
              show own_S p e below m T261 216 #[lvI p0_, lvI p1_, lvI p2_, lvI p3_, lvI (4 : Int32), lvR b217, lvR nb2_222, lvI ((((((((p3_.toUInt32 >>> ((24 : Int32) &&& 31).toUInt32).toInt32).toInt8.toInt32) &&& (255 : Int32)) <<< ((24 : Int32) &&& 31)) ||| (((((p3_.toUInt32 >>> ((16 : Int32) &&& 31).toUInt32).toInt32).toInt8.toInt32) &&& (255 : Int32)) <<< ((16 : Int32) &&& 31))) ||| (((((p3_.toUInt32 >>> ((8 : Int32) &&& 31).toUInt32).toInt32).toInt8.toInt32) &&& (255 : Int32)) <<< ((8 : Int32) &&& 31))) ||| ((p3_.toInt8.toInt32) &&& (255 : Int32)))] [(.int (4 : Int32)), (.int (6 : Int32)), (.ref nb2_222)] _
              refine XS.iloadN X261.here hx rfl (hb hby at_216) rfl ?_
              refine XS.iloadN X261.here hx rfl (hb hby at_217) rfl ?_
              show own_S p e below m T261 218 #[lvI p0_, lvI p1_, lvI p2_, lvI p3_, lvI (4 : Int32), lvR b217, lvR nb2_222, lvI ((((((((p3_.toUInt32 >>> ((24 : Int32) &&& 31).toUInt32).toInt32).toInt8.toInt32) &&& (255 : Int32)) <<< ((24 : Int32) &&& 31)) ||| (((((p3_.toUInt32 >>> ((16 : Int32) &&& 31).toUInt32).toInt32).toInt8.toInt32) &&& (255 : Int32)) <<< ((16 : Int32) &&& 31))) ||| (((((p3_.toUInt32 >>> ((8 : Int32) &&& 31).toUInt32).toInt32).toInt8.toInt32) &&& (255 : Int32)) <<< ((8 : Int32) &&& 31))) ||| ((p3_.toInt8.toInt32) &&& (255 : Int32)))] [(.int p1_), (.int p0_), (.int (4 : Int32)), (.int (6 : Int32)), (.ref nb2_222)] _
              refine st263 _ ?_
              show own_S p e below m T263 221 #[lvI p0_, lvI p1_, lvI p2_, lvI p3_, lvI (4 : Int32), lvR b217, lvR nb2_222, lvI ((((((((p3_.toUInt32 >>> ((24 : Int32) &&& 31).toUInt32).toInt32).toInt8.toInt32) &&& (255 : Int32)) <<< ((24 : Int32) &&& 31)) ||| (((((p3_.toUInt32 >>> ((16 : Int32) &&& 31).toUInt32).toInt32).toInt8.toInt32) &&& (255 : Int32)) <<< ((16 : Int32) &&& 31))) ||| (((((p3_.toUInt32 >>> ((8 : Int32) &&& 31).toUInt32).toInt32).toInt8.toInt32) &&& (255 : Int32)) <<< ((8 : Int32) &&& 31))) ||| ((p3_.toInt8.toInt32) &&& (255 : Int32)))] [(.int (1 : Int32))] _
              refine XS.ifNo X263.here hx rfl (hb hby at_221) rfl ((if0 _ _).trans (feq (by decide : ¬ ((1 : Int32) = (0 : Int32)))).1) ?_
              refine XS.aload X263.here hx rfl (hb hby at_224) rfl rfl ?_
              refine XS.bipush X263.here hx rfl (hb hby at_226) ?_
              refine XS.iload X263.here hx rfl (hb hby at_228) rfl ?_
              show own_S p e below m T263 230 #[lvI p0_, lvI p1_, lvI p2_, lvI p3_, lvI (4 : Int32), lvR b217, lvR nb2_222, lvI ((((((((p3_.toUInt32 >>> ((24 : Int32) &&& 31).toUInt32).toInt32).toInt8.toInt32) &&& (255 : Int32)) <<< ((24 : Int32) &&& 31)) ||| (((((p3_.toUInt32 >>> ((16 : Int32) &&& 31).toUInt32).toInt32).toInt8.toInt32) &&& (255 : Int32)) <<< ((16 : Int32) &&& 31))) ||| (((((p3_.toUInt32 >>> ((8 : Int32) &&& 31).toUInt32).toInt32).toInt8.toInt32) &&& (255 : Int32)) <<< ((8 : Int32) &&& 31))) ||| ((p3_.toInt8.toInt32) &&& (255 : Int32)))] [(.int (4 : Int32)), (.int (7 : Int32)), (.ref nb2_222)] _
              refine XS.iloadN X263.here hx rfl (hb hby at_230) rfl ?_
              refine XS.iloadN X263.here hx rfl (hb hby at_231) rfl ?_
              show own_S p e below m T263 232 #[lvI p0_, lvI p1_, lvI p2_, lvI p3_, lvI (4 : Int32), lvR b217, lvR nb2_222, lvI ((((((((p3_.toUInt32 >>> ((24 : Int32) &&& 31).toUInt32).toInt32).toInt8.toInt32) &&& (255 : Int32)) <<< ((24 : Int32) &&& 31)) ||| (((((p3_.toUInt32 >>> ((16 : Int32) &&& 31).toUInt32).toInt32).toInt8.toInt32) &&& (255 : Int32)) <<< ((16 : Int32) &&& 31))) ||| (((((p3_.toUInt32 >>> ((8 : Int32) &&& 31).toUInt32).toInt32).toInt8.toInt32) &&& (255 : Int32)) <<< ((8 : Int32) &&& 31))) ||| ((p3_.toInt8.toInt32) &&& (255 : Int32)))] [(.int p1_), (.int p0_), (.int (4 : Int32)), (.int (7 : Int32)), (.ref nb2_222)] _
              refine st265 _ ?_
              show own_S p e below m T265 235 #[lvI p0_, lvI p1_, lvI p2_, lvI p3_, lvI (4 : Int32), lvR b217, lvR nb2_222, lvI ((((((((p3_.toUInt32 >>> ((24 : Int32) &&& 31).toUInt32).toInt32).toInt8.toInt32) &&& (255 : Int32)) <<< ((24 : Int32) &&& 31)) ||| (((((p3_.toUInt32 >>> ((16 : Int32) &&& 31).toUInt32).toInt32).toInt8.toInt32) &&& (255 : Int32)) <<< ((16 : Int32) &&& 31))) ||| (((((p3_.toUInt32 >>> ((8 : Int32) &&& 31).toUInt32).toInt32).toInt8.toInt32) &&& (255 : Int32)) <<< ((8 : Int32) &&& 31))) ||| ((p3_.toInt8.toInt32) &&& (255 : Int32)))] [(.int (1 : Int32))] _
              refine XS.ifNo X265.here hx rfl (hb hby at_235) rfl ((if0 _ _).trans (feq (by decide : ¬ ((1 : Int32) = (0 : Int32)))).1) ?_
              refine XS.iconst X265.here hx rfl (hb hby at_238) ?_
              refine XS.goto X265.here hx rfl (pc0 := 239) (pc' := 243) rfl (hb hby at_239) (by decide) (by decide) ?_
              exact kt
            obtain ⟨fs, hr, hrun, hended, hW, hsame⟩ := X265.leave (v := some (.int (1 : Int32))) (fun h => by rw [Bd.returns] at h; cases h)
            refine ⟨_, _, hG _ (pre267 _ (retN X265 hx (t := .boolean) Bd.returns (by simp) (hb hby at_243) hr)), hrun, hended, _, _, rfl, ?_, ⟨_, rfl⟩, hW, hsame.mono (by decide) (by decide)⟩
            show QLaw Z p0_ p1_ p2_ p3_ h0 n0 _ T265.heap _
            rw [e265']
            exact ⟨rfl, N266⟩
          · exact absurd (own_sh0 _) hq257_1_0
        · exact absurd (rfl : (((p0_.toUInt32 >>> ((8 : Int32) &&& 31).toUInt32).toInt32).toInt8.toInt32) = (((p0_.toUInt32 >>> ((8 : Int32) &&& 31).toUInt32).toInt32).toInt8.toInt32)) hq255_1_0
      · exact absurd (rfl : (((p0_.toUInt32 >>> ((16 : Int32) &&& 31).toUInt32).toInt32).toInt8.toInt32) = (((p0_.toUInt32 >>> ((16 : Int32) &&& 31).toUInt32).toInt32).toInt8.toInt32)) hq253_1_0
    · exact absurd (rfl : (((p0_.toUInt32 >>> ((24 : Int32) &&& 31).toUInt32).toInt32).toInt8.toInt32) = (((p0_.toUInt32 >>> ((24 : Int32) &&& 31).toUInt32).toInt32).toInt8.toInt32)) hq251_1_0
set_option maxRecDepth 65536 in
set_option maxHeartbeats 40000000 in
theorem comes_1 {Post : Tables → Env → Array Value → State → Outcome → State → Prop} (hpost : ∀ tb e args s v u, (limb_1_1.after args s (.returned v) u = true ∧ limb_1_2.after args s (.returned v) u = true ∧ True) → FrameEnd s (.returned v) u (Jvm.fieldLocs frame_1_writes args s ++ Jvm.arrayLocs frame_1_arrays args s ++ Jvm.staticLocs frame_1_statics s) 16 128 → Post tb e args s (.returned v) u) :
    ArmFor flags0 classFile x code maxLocals ret World_1 tables_1 room_1 Calls_1 rest_1 Pre_1 Post := by
  intro l hfl _ _ p e ha hc hk s m args below hf hA hF happ hP
  obtain ⟨hcalls, hrest, hpre⟩ := hP
  obtain ⟨-, -, -, hnamed, -, -, -, hat⟩ := (Spec.applies_iff hf).mp happ
  obtain ⟨hg, hn⟩ := and_e (Cond.before_iff.mp (show (Jvm.Cond.and given_1 narrow_1).before args s = true from hpre))
  obtain ⟨g1, g2⟩ := and_e hg
  obtain ⟨g3, g4⟩ := and_e g2
  obtain ⟨g5, g6⟩ := and_e g4
  obtain ⟨g7, g8⟩ := and_e g6
  obtain ⟨w0, w1, w2, w3, rfl⟩ : ∃ w0 w1 w2 w3 : Value, args = #[w0, w1, w2, w3] := by
    have hs : args.size = 4 := by simpa [Cond.value, given_1] using g1
    obtain ⟨L⟩ := args
    match L, hs with
    | [w0, w1, w2, w3], _ => exact ⟨w0, w1, w2, w3, rfl⟩
  have hw := fun d (hd : d ∈ tables_1) => atoms_spec (ws := Jvm.Cond.code x code maxLocals ret :: tables_1) hat d (List.mem_cons_of_mem _ hd)
  have hfit : Fit s := fun {y c} hc i hi => by
    obtain ⟨ha, rfl⟩ := Array.getElem?_eq_some_iff.mp hc
    have q := List.all_eq_true.mp ((Array.all_eq_true_iff_forall_mem.mp hF) _ (Array.getElem_mem ha)) i (List.mem_range.mpr hi)
    simpa [Array.getElem?_eq_getElem hi] using q
  obtain ⟨i0, ei0⟩ := is_v g3
  obtain rfl : w0 = (.int i0) := Option.some.inj ei0
  obtain ⟨i1, ei1⟩ := is_v g5
  obtain rfl : w1 = (.int i1) := Option.some.inj ei1
  obtain ⟨i2, ei2⟩ := is_v g7
  obtain rfl : w2 = (.int i2) := Option.some.inj ei2
  obtain ⟨i3, ei3⟩ := is_v g8
  obtain rfl : w3 = (.int i3) := Option.some.inj ei3
  obtain ⟨n, o, h1, h2, h3, _, L, rfl, ⟨rfl, N⟩, hq⟩ := rmLaw l s _ hw tables_1 i0 i1 i2 i3 s.heap s.heap.size (Old.start s)  p e ha hc hk s m _ below hf ((Spec.applies_iff_loose hf).mp happ).1 ⟨rfl, State.Warmed39.refl s, rfl⟩ trivial
  refine ⟨n, _, h1, h2, h3, hpost _ _ _ _ _ _ ⟨Cond.after_iff.mpr rfl, Cond.after_iff.mpr (eq_i res_at (Term.int_eval (1)) rfl), trivial⟩ ⟨hq.1, hq.2.1, (hq.2.2.sift fun y hy => Or.inr (N y hy)).mono (by decide) (by decide)⟩⟩
theorem main_1_1 : Claimed_1_1 := comes_1 fun _ _ _ _ _ _ h hF => ⟨h.1, hF⟩
theorem main_1_2 : Claimed_1_2 := comes_1 fun _ _ _ _ _ _ h hF => ⟨h.2.1, hF⟩
end Jvm.Pilot.@@N@@
namespace Jvm.Pilot.@@N@@
open Jvm Jvm.ClassFile Sem Op Lib Jvm.Free Jvm.Stand Jvm.Pilot.@@N@@.Jvm.D
/-! MADE BY PROGRAM (witnessworld.py) out of the Statement's table words and the real class files: 9 classes; the members and pool entries that the words name. The judged class is class 1, her method 1. -/
namespace start1
open Jvm.ClassFile
def u (s : String) : CpInfo := .utf8 (stringToUtf16 s)
/-- a pool by its gaps: so many unusable entries, then the entry; so many at the end -/
def gap : Nat → List CpInfo → List CpInfo
  | 0, r => r
  | n + 1, r => .unusable :: gap n r
def poolList (es : List (Nat × CpInfo)) (last : Nat) : List CpInfo := es.foldr (fun e r => gap e.1 (e.2 :: r)) (gap last [])
def pool (es : List (Nat × CpInfo)) (last : Nat) : Array CpInfo := ⟨poolList es last⟩
def fileOf (pool : Array CpInfo) (this : Nat) (attrs : Array Attribute := #[]) (ms : Array MethodInfo := #[]) (fl : Nat := 33) (sup : Nat := 0) (ifs : Array Nat := #[]) (fds : Array FieldInfo := #[]) : ClassFile where
  minorVersion := 0
  majorVersion := 65
  constantPool := pool
  accessFlags := fl
  thisClass := this
  superClass := sup
  interfaces := ifs
  fields := fds
  methods := ms
  attributes := attrs
def plain (name : String) (sup : Option ClassId) : Class where
  name := name
  kind := .ordinary
  loader := none
  accessFlags := 33
  super := sup
  interfaces := #[]
  cf := none
  fields := #[]
  methods := #[]
  instanceTypes := #[]
  staticTypes := #[]
  resolved := #[]
  callSites := []
  init := .initialized
  statics := none
  mirror := none

def pool0 : Array CpInfo := pool [(5, u "<init>"), (0, u "()V"), (1, .class_ 10), (1, u "java/lang/Object")] 113

def k0c0 : Code := { maxStack := 0, maxLocals := 1, code := object_method_1_code, exceptionTable := #[], attributes := #[] }
def k0m0 : Method := { name := "<init>", desc := "()V", sig := { parameters := [], returnType := none }, accessFlags := 1, code := some k0c0 }
/-- java/lang/Object -/
def k0 : Class := { plain "java/lang/Object" none with
  accessFlags := 33
  interfaces := #[]
  cf := some (fileOf pool0 8 #[] #[{ accessFlags := 1, nameIndex := 5, descriptorIndex := 6, attributes := #[] }] 33 0 #[] #[])
  fields := #[]
  methods := #[k0m0]
  instanceTypes := #[]
  staticTypes := #[]
  resolved := Array.replicate 124 none
  statics := none }

def pool1 : Array CpInfo := pool [(2, .class_ 4), (1, u "java/lang/Object"), (0, u "<init>"), (0, u "()V"), (0, .integer 2147483647), (0, .class_ 9), (0, u "com/example/stackweave/stackweave/classfile/ByteWriter"), (0, .methodref 8 11), (0, .nameAndType 5 12), (0, u "(I)V"), (0, .methodref 8 14), (0, .nameAndType 15 12), (0, u "u4"), (0, .methodref 8 17), (0, .nameAndType 18 19), (0, u "u4At"), (0, u "(II)V"), (0, .methodref 8 21), (0, .nameAndType 22 23), (0, u "length"), (0, u "()I"), (0, .methodref 8 25), (0, .nameAndType 26 27), (0, u "filledArray"), (0, u "()[B"), (0, .methodref 29 30), (0, .class_ 31), (0, .nameAndType 32 33), (0, u "com/example/stackweave/stackweave/classfile/ByteWriterU4AtPinLaw"), (0, u "keeps"), (0, u "([BIIII)Z"), (2, u "law"), (0, u "(IIII)Z")] 5

def k1m0 : Method := { name := "<init>", desc := "()V", sig := { parameters := [], returnType := none }, accessFlags := 1, code := none }
def k1c1 : Code := { maxStack := 5, maxLocals := 8, code := code, exceptionTable := #[], attributes := #[] }
def k1m1 : Method := { name := "law", desc := "(IIII)Z", sig := { parameters := [.int, .int, .int, .int], returnType := some .boolean }, accessFlags := 9, code := some k1c1 }
def k1c2 : Code := { maxStack := 4, maxLocals := 7, code := method_3_code, exceptionTable := #[], attributes := #[] }
def k1m2 : Method := { name := "keeps", desc := "([BIIII)Z", sig := { parameters := [(.array .byte), .int, .int, .int, .int], returnType := some .boolean }, accessFlags := 10, code := some k1c2 }
/-- com/example/stackweave/stackweave/classfile/ByteWriterU4AtPinLaw -/
def k1 : Class := { plain "com/example/stackweave/stackweave/classfile/ByteWriterU4AtPinLaw" (some 0) with
  accessFlags := 49
  interfaces := #[]
  cf := some (fileOf pool1 29 #[] #[{ accessFlags := 1, nameIndex := 5, descriptorIndex := 6, attributes := #[] }, { accessFlags := 9, nameIndex := 36, descriptorIndex := 37, attributes := #[] }, { accessFlags := 10, nameIndex := 32, descriptorIndex := 33, attributes := #[] }] 49 2 #[] #[])
  fields := #[]
  methods := #[k1m0, k1m1, k1m2]
  instanceTypes := #[]
  staticTypes := #[]
  resolved := Array.replicate 43 none
  statics := none }

def pool2 : Array CpInfo := pool [(2, .class_ 4), (1, u "com/example/stackweave/stackweave/classfile/ByteWriter"), (0, u "<init>"), (0, u "(I)V"), (0, .methodref 8 9), (0, .class_ 10), (0, .nameAndType 5 11), (0, u "java/lang/Object"), (0, u "()V"), (0, .fieldref 2 13), (0, .nameAndType 14 15), (0, u "bytes"), (0, u "[B"), (6, .methodref 2 23), (0, .nameAndType 24 6), (0, u "ensureCapacity"), (0, .fieldref 2 26), (0, .nameAndType 27 28), (0, u "length"), (0, u "I"), (7, u "()I"), (46, u "u4"), (1, u "(II)V"), (0, u "u4At"), (7, u "filledArray"), (0, u "()[B")] 19

def k2m0 : Method := { name := "<init>", desc := "()V", sig := { parameters := [], returnType := none }, accessFlags := 0, code := none }
def k2c1 : Code := { maxStack := 2, maxLocals := 2, code := prog_12_method_2_code, exceptionTable := #[], attributes := #[] }
def k2m1 : Method := { name := "<init>", desc := "(I)V", sig := { parameters := [.int], returnType := none }, accessFlags := 0, code := some k2c1 }
def k2c2 : Code := { maxStack := 5, maxLocals := 2, code := prog_12_method_5_code, exceptionTable := #[], attributes := #[] }
def k2m2 : Method := { name := "u4", desc := "(I)V", sig := { parameters := [.int], returnType := none }, accessFlags := 0, code := some k2c2 }
def k2c3 : Code := { maxStack := 4, maxLocals := 3, code := prog_12_method_7_code, exceptionTable := #[], attributes := #[] }
def k2m3 : Method := { name := "u4At", desc := "(II)V", sig := { parameters := [.int, .int], returnType := none }, accessFlags := 0, code := some k2c3 }
def k2c4 : Code := { maxStack := 1, maxLocals := 1, code := prog_12_method_12_code, exceptionTable := #[], attributes := #[] }
def k2m4 : Method := { name := "length", desc := "()I", sig := { parameters := [], returnType := some .int }, accessFlags := 0, code := some k2c4 }
def k2c5 : Code := { maxStack := 4, maxLocals := 1, code := prog_12_method_14_code, exceptionTable := #[], attributes := #[] }
def k2m5 : Method := { name := "filledArray", desc := "()[B", sig := { parameters := [], returnType := some (.array .byte) }, accessFlags := 0, code := some k2c5 }
def k2c6 : Code := { maxStack := 2, maxLocals := 2, code := prog_12_method_16_code, exceptionTable := #[], attributes := #[] }
def k2m6 : Method := { name := "ensureCapacity", desc := "(I)V", sig := { parameters := [.int], returnType := none }, accessFlags := 2, code := some k2c6 }
/-- com/example/stackweave/stackweave/classfile/ByteWriter -/
def k2 : Class := { plain "com/example/stackweave/stackweave/classfile/ByteWriter" (some 0) with
  accessFlags := 48
  interfaces := #[]
  cf := some (fileOf pool2 2 #[] #[{ accessFlags := 0, nameIndex := 5, descriptorIndex := 11, attributes := #[] }, { accessFlags := 0, nameIndex := 5, descriptorIndex := 6, attributes := #[] }, { accessFlags := 0, nameIndex := 83, descriptorIndex := 6, attributes := #[] }, { accessFlags := 0, nameIndex := 86, descriptorIndex := 85, attributes := #[] }, { accessFlags := 0, nameIndex := 27, descriptorIndex := 36, attributes := #[] }, { accessFlags := 0, nameIndex := 94, descriptorIndex := 95, attributes := #[] }, { accessFlags := 2, nameIndex := 24, descriptorIndex := 6, attributes := #[] }] 48 8 #[] #[{ accessFlags := 2, nameIndex := 14, descriptorIndex := 15, attributes := #[] }, { accessFlags := 2, nameIndex := 27, descriptorIndex := 28, attributes := #[] }])
  fields := #[{ name := "bytes", type := (.array .byte), accessFlags := 2, slot := 0, constantValue := 0 }, { name := "length", type := .int, accessFlags := 2, slot := 1, constantValue := 0 }]
  methods := #[k2m0, k2m1, k2m2, k2m3, k2m4, k2m5, k2m6]
  instanceTypes := #[(.array .byte), .int]
  staticTypes := #[]
  resolved := Array.replicate 115 none
  statics := none }

def pool3 : Array CpInfo := pool [(1, u "java/lang/Cloneable"), (0, .class_ 1), (0, u "java/lang/Object"), (0, .class_ 3)] 3

/-- java/lang/Cloneable -/
def k3 : Class := { plain "java/lang/Cloneable" (some 0) with
  accessFlags := 1537
  interfaces := #[]
  cf := some (fileOf pool3 2 #[] #[] 1537 4 #[] #[])
  fields := #[]
  methods := #[]
  instanceTypes := #[]
  staticTypes := #[]
  resolved := Array.replicate 8 none
  statics := none }

def pool4 : Array CpInfo := pool [(1, u "java/io/Serializable"), (0, .class_ 1), (0, u "java/lang/Object"), (0, .class_ 3)] 3

/-- java/io/Serializable -/
def k4 : Class := { plain "java/io/Serializable" (some 0) with
  accessFlags := 1537
  interfaces := #[]
  cf := some (fileOf pool4 2 #[] #[] 1537 4 #[] #[])
  fields := #[]
  methods := #[]
  instanceTypes := #[]
  staticTypes := #[]
  resolved := Array.replicate 8 none
  statics := none }

/-- the primitive byte -/
def k5 : Class := { plain "byte" none with kind := .primitive 'B', accessFlags := 0x411 }
/-- [B -/
def k6 : Class := { plain "[B" (some 0) with kind := .array 5 .byte, interfaces := #[3, 4], accessFlags := 1041 }

/-- the primitive int -/
def k7 : Class := { plain "int" none with kind := .primitive 'I', accessFlags := 0x411 }
/-- [I -/
def k8 : Class := { plain "[I" (some 0) with kind := .array 7 .int, interfaces := #[3, 4], accessFlags := 1041 }

def heap : Heap := #[]
def classes : Array Class := #[k0, k1, k2, k3, k4, k5, k6, k7, k8]
def interned : List (Array UInt16 × Addr) := []
def slotsUsed : Nat := 0
def theMethod : MethodId := ⟨1, 1⟩
def args0 : Array Value := #[.int 7, .int 1, .int 3, .int 4]
def aboutOver (below : List Frame) : State where
  vm := { classes := classes, interned := interned.toArray }
  heap := heap
  slotsUsed := slotsUsed
  threads := #[{ frames := .invoking theMethod args0 :: below }]
def below0 : List Frame := [.native { method := ⟨0, 0⟩, args := #[] }]
def about1 : State := aboutOver below0
def p0 : Program := .bare "" "" ""
def e0 : Env := launch0.env 0 0 0
theorem w_frames : about1.frames = Frame.invoking theMethod args0 :: below0 := rfl
set_option maxRecDepth 65536 in
theorem w_args : argsFit about1.vm theMethod args0 = true := by decide +kernel
set_option maxRecDepth 65536 in
theorem w_heap : heapFits about1 = true := by decide +kernel
set_option maxRecDepth 65536 in
theorem w_runnable : about1.curStatus? = some .runnable := by decide +kernel
set_option maxRecDepth 65536 in
theorem w_alone : about1.alone = true := by decide +kernel
set_option maxRecDepth 65536 in
theorem w_named : about1.methodNamed? x = some theMethod := by decide +kernel
set_option maxRecDepth 65536 in
theorem w_hears : about1.hears theMethod below0 = true := by decide +kernel
set_option maxRecDepth 65536 in
theorem w_ripe : about1.ripe theMethod args0 below0 = true := by decide +kernel
theorem w_running : about1.status = .running := rfl
set_option maxRecDepth 65536 in
theorem w_room : about1.hasRoom e0.platform room_1 = true :=
  launch0.hasRoom_least _ room_1 (by decide +kernel) (by decide +kernel) (by decide +kernel) (by decide +kernel) (by decide +kernel) (by decide +kernel)
theorem allAtoms_all (ts : List Jvm.Cond) (a : Array Jvm.Value) (st : Jvm.State) : (allAtoms ts).before a st = ts.all (fun c => c.before a st) := by
  induction ts with
  | nil => rfl
  | cons c t ih =>
    show (Jvm.Cond.and c (allAtoms t)).before a st = _
    rw [Jvm.Cond.before_and, ih, List.all_cons]
def words1 : List Jvm.Cond := Jvm.Cond.code x code maxLocals ret :: tables_1
/-- a 'code' word, met by the world's own term for the bytes: nothing is compared byte by byte -/
theorem code_word {y : MethodName} {bytes : ByteArray} {mx : Nat} {rt : Option FieldType} {a : Array Value} {s : State} {m : MethodId} {meth : Method} {c : Code} (h1 : s.methodNamed? y = some m) (h2 : s.vm.method? m = some meth) (h3 : meth.code = some c) (h4 : c.code = bytes)
    (h5 : (c.maxLocals == mx && c.exceptionTable.isEmpty && decide (c.maxStack ≤ mostOperands) && decide (meth.sig.returnType = rt) && !meth.locks && decide (parseMethodDescriptor y.desc = some meth.sig)) = true) : (Jvm.Cond.code y bytes mx rt).before a s = true := by
  simp only [Bool.and_eq_true, beq_iff_eq, Bool.not_eq_true', decide_eq_true_eq] at h5
  obtain ⟨⟨⟨⟨⟨g1, g2⟩, g3⟩, g4⟩, g5⟩, g6⟩ := h5
  simp [Cond.before, Cond.holds, Cond.value, h1, h2, h3, h4, g1, g2, g3, g4, g5, g6]
def isCode : Jvm.Cond → Bool
  | .code _ _ _ _ => true
  | _ => false
theorem all_split {L : List Jvm.Cond} {P : Jvm.Cond → Bool} (h1 : L.all (fun c => isCode c || P c) = true) (h2 : ∀ c ∈ L.filter isCode, P c = true) : L.all P = true := by
  refine List.all_eq_true.mpr fun c hc => ?_
  have h := List.all_eq_true.mp h1 c hc
  rcases Bool.eq_false_or_eq_true (isCode c) with hi | hi
  · exact h2 c (List.mem_filter.mpr ⟨hc, hi⟩)
  · simpa [hi] using h
set_option maxRecDepth 65536 in
theorem w_c0 : (Jvm.Cond.code x code maxLocals ret).before args0 about1 = true := code_word (m := ⟨1, 1⟩) (meth := k1m1) (c := k1c1) (by decide +kernel) rfl rfl rfl (by decide +kernel)
set_option maxRecDepth 65536 in
theorem w_c1 : (Jvm.Cond.code ({ cls := "com/example/stackweave/stackweave/classfile/ByteWriter", name := "<init>", desc := "(I)V" } : Jvm.MethodName) prog_12_method_2_code (2 : Nat) (Option.none : Option Jvm.ClassFile.FieldType)).before args0 about1 = true := code_word (m := ⟨2, 1⟩) (meth := k2m1) (c := k2c1) (by decide +kernel) rfl rfl rfl (by decide +kernel)
set_option maxRecDepth 65536 in
theorem w_c2 : (Jvm.Cond.code ({ cls := "java/lang/Object", name := "<init>", desc := "()V" } : Jvm.MethodName) object_method_1_code (1 : Nat) (Option.none : Option Jvm.ClassFile.FieldType)).before args0 about1 = true := code_word (m := ⟨0, 0⟩) (meth := k0m0) (c := k0c0) (by decide +kernel) rfl rfl rfl (by decide +kernel)
set_option maxRecDepth 65536 in
theorem w_c3 : (Jvm.Cond.code ({ cls := "com/example/stackweave/stackweave/classfile/ByteWriter", name := "u4", desc := "(I)V" } : Jvm.MethodName) prog_12_method_5_code (2 : Nat) (Option.none : Option Jvm.ClassFile.FieldType)).before args0 about1 = true := code_word (m := ⟨2, 2⟩) (meth := k2m2) (c := k2c2) (by decide +kernel) rfl rfl rfl (by decide +kernel)
set_option maxRecDepth 65536 in
theorem w_c4 : (Jvm.Cond.code ({ cls := "com/example/stackweave/stackweave/classfile/ByteWriter", name := "ensureCapacity", desc := "(I)V" } : Jvm.MethodName) prog_12_method_16_code (2 : Nat) (Option.none : Option Jvm.ClassFile.FieldType)).before args0 about1 = true := code_word (m := ⟨2, 6⟩) (meth := k2m6) (c := k2c6) (by decide +kernel) rfl rfl rfl (by decide +kernel)
set_option maxRecDepth 65536 in
theorem w_c5 : (Jvm.Cond.code ({ cls := "com/example/stackweave/stackweave/classfile/ByteWriter", name := "u4At", desc := "(II)V" } : Jvm.MethodName) prog_12_method_7_code (3 : Nat) (Option.none : Option Jvm.ClassFile.FieldType)).before args0 about1 = true := code_word (m := ⟨2, 3⟩) (meth := k2m3) (c := k2c3) (by decide +kernel) rfl rfl rfl (by decide +kernel)
set_option maxRecDepth 65536 in
theorem w_c6 : (Jvm.Cond.code ({ cls := "com/example/stackweave/stackweave/classfile/ByteWriter", name := "length", desc := "()I" } : Jvm.MethodName) prog_12_method_12_code (1 : Nat) (Option.some Jvm.ClassFile.FieldType.int)).before args0 about1 = true := code_word (m := ⟨2, 4⟩) (meth := k2m4) (c := k2c4) (by decide +kernel) rfl rfl rfl (by decide +kernel)
set_option maxRecDepth 65536 in
theorem w_c7 : (Jvm.Cond.code ({ cls := "com/example/stackweave/stackweave/classfile/ByteWriter", name := "filledArray", desc := "()[B" } : Jvm.MethodName) prog_12_method_14_code (1 : Nat) (Option.some (Jvm.ClassFile.FieldType.array Jvm.ClassFile.FieldType.byte))).before args0 about1 = true := code_word (m := ⟨2, 5⟩) (meth := k2m5) (c := k2c5) (by decide +kernel) rfl rfl rfl (by decide +kernel)
set_option maxRecDepth 65536 in
theorem w_c8 : (Jvm.Cond.code ({ cls := "com/example/stackweave/stackweave/classfile/ByteWriterU4AtPinLaw", name := "keeps", desc := "([BIIII)Z" } : Jvm.MethodName) method_3_code (7 : Nat) (Option.some Jvm.ClassFile.FieldType.boolean)).before args0 about1 = true := code_word (m := ⟨1, 2⟩) (meth := k1m2) (c := k1c2) (by decide +kernel) rfl rfl rfl (by decide +kernel)
def codes1 : List Jvm.Cond := [Jvm.Cond.code x code maxLocals ret, Jvm.Cond.code ({ cls := "com/example/stackweave/stackweave/classfile/ByteWriter", name := "<init>", desc := "(I)V" } : Jvm.MethodName) prog_12_method_2_code (2 : Nat) (Option.none : Option Jvm.ClassFile.FieldType), Jvm.Cond.code ({ cls := "java/lang/Object", name := "<init>", desc := "()V" } : Jvm.MethodName) object_method_1_code (1 : Nat) (Option.none : Option Jvm.ClassFile.FieldType), Jvm.Cond.code ({ cls := "com/example/stackweave/stackweave/classfile/ByteWriter", name := "u4", desc := "(I)V" } : Jvm.MethodName) prog_12_method_5_code (2 : Nat) (Option.none : Option Jvm.ClassFile.FieldType), Jvm.Cond.code ({ cls := "com/example/stackweave/stackweave/classfile/ByteWriter", name := "ensureCapacity", desc := "(I)V" } : Jvm.MethodName) prog_12_method_16_code (2 : Nat) (Option.none : Option Jvm.ClassFile.FieldType), Jvm.Cond.code ({ cls := "com/example/stackweave/stackweave/classfile/ByteWriter", name := "u4At", desc := "(II)V" } : Jvm.MethodName) prog_12_method_7_code (3 : Nat) (Option.none : Option Jvm.ClassFile.FieldType), Jvm.Cond.code ({ cls := "com/example/stackweave/stackweave/classfile/ByteWriter", name := "length", desc := "()I" } : Jvm.MethodName) prog_12_method_12_code (1 : Nat) (Option.some Jvm.ClassFile.FieldType.int), Jvm.Cond.code ({ cls := "com/example/stackweave/stackweave/classfile/ByteWriter", name := "filledArray", desc := "()[B" } : Jvm.MethodName) prog_12_method_14_code (1 : Nat) (Option.some (Jvm.ClassFile.FieldType.array Jvm.ClassFile.FieldType.byte)), Jvm.Cond.code ({ cls := "com/example/stackweave/stackweave/classfile/ByteWriterU4AtPinLaw", name := "keeps", desc := "([BIIII)Z" } : Jvm.MethodName) method_3_code (7 : Nat) (Option.some Jvm.ClassFile.FieldType.boolean)]
set_option maxRecDepth 65536 in
theorem codes_eq : words1.filter isCode = codes1 := rfl
theorem w_codes : ∀ c ∈ words1.filter isCode, c.before args0 about1 = true := by
  rw [codes_eq]
  intro c hc
  simp only [codes1, List.mem_cons, List.not_mem_nil, or_false] at hc
  rcases hc with rfl | rfl | rfl | rfl | rfl | rfl | rfl | rfl | rfl
  · exact w_c0
  · exact w_c1
  · exact w_c2
  · exact w_c3
  · exact w_c4
  · exact w_c5
  · exact w_c6
  · exact w_c7
  · exact w_c8
set_option maxRecDepth 65536 in
theorem w_t1 : (words1.take 24).all (fun c => isCode c || c.before args0 about1) = true := by decide +kernel
set_option maxRecDepth 65536 in
theorem w_t2 : (words1.drop 24).all (fun c => isCode c || c.before args0 about1) = true := by decide +kernel
theorem w_tables : (allAtoms (Jvm.Cond.code x code maxLocals ret :: tables_1)).before args0 about1 = true := by
  rw [allAtoms_all]
  show words1.all (fun c => c.before args0 about1) = true
  refine all_split ?_ w_codes
  rw [← List.take_append_drop 24 words1, List.all_append, w_t1, w_t2]
  rfl
set_option maxRecDepth 65536 in
theorem w_case : (Jvm.Cond.and given_1 narrow_1).before args0 about1 = true := by decide +kernel
theorem w_applies : (headSpec (Jvm.Cond.code x code maxLocals ret :: tables_1) room_1).applies x e0.platform about1 = true :=
  (Spec.applies_iff w_frames).mpr ⟨w_running, w_runnable, w_alone, w_named, w_hears, w_ripe, w_room, w_tables⟩
theorem atStart : AtStart classFile x code maxLocals ret World_1 tables_1 room_1 Calls_1 rest_1 Pre_1 launch0 p0 e0 about1 theMethod args0 below0 :=
  ⟨lists_1, trivial, launch0.admits_env _ _ _, launch0.least_env, fairChoices_fair.cas, fairChoices_fair.clock, w_frames, w_args, w_heap, w_applies, trivial, trivial, w_case⟩
end start1
theorem witness_1 : WitnessClaimed_1 := ⟨start1.p0, start1.e0, start1.about1, start1.theMethod, start1.args0, start1.below0, start1.atStart⟩
end Jvm.Pilot.@@N@@
