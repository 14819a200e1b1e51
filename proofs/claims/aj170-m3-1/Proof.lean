import JvmDerived
import JvmDerived.Pilot.@@N@@Statement
import JvmDerived.Pilot.@@N@@Code
set_option linter.unusedVariables false
set_option linter.unusedSimpArgs false
namespace Jvm.Pilot.@@N@@
open Jvm Jvm.ClassFile Sem Op Lib Jvm.Free Jvm.Stand Jvm.LawKit Jvm.RoadKit Bundle Jvm.Pilot.@@N@@.Jvm.D
theorem own_eqi {args : Array Value} {s : State} {t : Term} {k : Int32} (h : (Jvm.Cond.eq t (.int k)).value args s none s [] = some true) : t.eval args s none [] s = some (.int k) := by
  simp only [Cond.value, Term.eval] at h
  cases ht : t.eval args s none [] s with
  | none => simp [ht] at h
  | some x => cases x <;> simp [ht] at h ⊢ <;> exact h
theorem own_nei {args : Array Value} {s : State} {t : Term} {k x : Int32} (h : (Jvm.Cond.not (Jvm.Cond.eq t (.int k))).value args s none s [] = some true) (ht : t.eval args s none [] s = some (.int x)) : ¬ (x = k) := by
  have h1 := not_v h
  simp only [Cond.value, ht, Term.eval] at h1
  intro e
  subst e
  simp at h1
theorem own_i2b2 (x : Int32) : (x.toInt8.toInt32).toInt8.toInt32 = x.toInt8.toInt32 := by
  have h1 := c_i2b x
  have h2 := c_i2b (x.toInt8.toInt32)
  apply Int32.toInt_inj.mp
  omega
theorem own_le255 (x : Int32) : ¬ ((255 : Int32) < (x &&& (255 : Int32))) := by
  have h := c_mask x 255 8 (by decide) (by decide)
  have h2 : (255 : Int32).toInt = 255 := rfl
  rw [Int32.lt_iff_toInt_lt, h, h2]
  omega
theorem d1_0 : decode prog_38_method_1_code 0 = .ok (.aload_n 0, 1) := by decide +kernel
theorem d1_1 : decode prog_38_method_1_code 1 = .ok (.invokespecial 1, 3) := by decide +kernel
theorem d2_0 : decode jdk_30_method_1_code 0 = .ok (.aload_n 0, 1) := by decide +kernel
theorem d2_1 : decode jdk_30_method_1_code 1 = .ok (.invokespecial 1, 3) := by decide +kernel
theorem d2_4 : decode jdk_30_method_1_code 4 = .ok (.return_, 1) := by decide +kernel
theorem pn_0 : plainName "java/lang/Record" = true := by first | (simp [plainName, overriddenIn]; done) | decide +kernel
theorem efinit2 (m : MethodId) (o0_ : Addr) : entryFrame m #[(.ref o0_)] 1 = mkF m 0 #[.val (.ref o0_)] [] := by first | (simp [entryFrame, mkF, argsToLocals, Value.category]; done) | rfl
def Qinit2 (Z : State) (o0_ : Addr) (h0 : Heap) (n0 : Nat) (v : Option Value) (h : Heap) (L : List Loc) : Prop := v = none ∧ Fr n0 L ∧ h = h0
set_option maxRecDepth 65536 in
set_option maxHeartbeats 40000000 in
theorem rminit2 (l : Launch) (Z : State) (a0 : Array Value) (hw : ∀ d ∈ tables_1, d.before a0 Z = true) (ws : List Jvm.Cond) (o0_ : Addr) (h0 : Heap) (n0 : Nat) (O0 : Old Z n0 h0) (P0 : Exa Z h0 o0_ "com/example/stackweave/stackweave/classfile/VerificationType") (P1 : Fld Z h0 o0_ "com/example/stackweave/stackweave/classfile/VerificationType" "tag" "I" (.int (0 : Int32))) (P2 : Fld Z h0 o0_ "com/example/stackweave/stackweave/classfile/VerificationType" "className" "Ljava/lang/String;" .null) (P3 : Fld Z h0 o0_ "com/example/stackweave/stackweave/classfile/VerificationType" "newOffset" "I" (.int (0 : Int32))) :
    MetFree l (⟨"java/lang/Record", "<init>", "()V"⟩ : MethodName) (head1 (Jvm.Cond.code (⟨"java/lang/Record", "<init>", "()V"⟩ : MethodName) jdk_30_method_1_code 1 none :: ws) ({ frames := 1, cells := 0, slots := 0, locals := 12 } : Room)) (fun a U => a = #[(.ref o0_)] ∧ Z.Warmed39 U.vm ∧ U.heap = h0) (fun _ _ _ _ _ => True) (fun _ U o U' => ∃ v L, o = .returned v ∧ Qinit2 Z o0_ h0 n0 v U'.heap L ∧ FrameEnd U o U' L ({ frames := 1, cells := 0, slots := 0, locals := 12 } : Room).cells ({ frames := 1, cells := 0, slots := 0, locals := 12 } : Room).slots) := by
  refine MetFree.of_bodySF (plainFor_of_name pn_0) hisR ?_
  intro p e s m args below meth c s₁ Bd hml0 hP hK
  obtain ⟨rfl, hZ, hh⟩ := hP
  have hx := Bd.exec
  have hby := Bd.bytes
  have hml : c.maxLocals = 1 := hml0
  have hown : s.vm.findClass "java/lang/Record" = some m.cls := findClass_of_methodNamed Bd.named
  have hnm := (name_of_methodNamed Bd.named Bd.method).1
  have X0 : Stand p l e ({ frames := 1, cells := 0, slots := 0, locals := 12 } : Room) s m #[(.ref o0_)] below meth c s₁ [] 0 0 := Stand.of_body Bd
  have e0 : s₁.heap = h0 := by rw [← hh, Bd.state]; rfl
  have N0 := Fr.nil n0
  have pre0 : ∀ t, Steps p.tables e below (s₁.setTop (mkF m 0 #[.val (.ref o0_)] [])) t → Steps p.tables e below (s₁.setTop (entryFrame m #[(.ref o0_)] 1)) t := fun t k => castTop (efinit2 m o0_) k
  have K0 : Keep h0 h0 [] := Keep.refl _ _
  obtain ⟨T1, X1, e1, st1⟩ := initO X0 hx hZ hown (hw _ (List.mem_of_getElem? (i := 41) rfl)) (hw _ (List.mem_of_getElem? (i := 12) rfl)) (hw _ (List.mem_of_getElem? (i := 13) rfl)) e0 (g := (mkF m 1 #[.val (.ref o0_)] [(.ref o0_)])) rfl (by rw [hml]; rfl) rfl (hb hby d2_1) (by decide) (W := 0) (by show 2 * 0 + _ ≤ _; exact Nat.le_of_eq rfl) (by decide)
  have pre2 : ∀ t, Steps p.tables e below (T1.setTop (mkF m 4 #[.val (.ref o0_)] [])) t → Steps p.tables e below (s₁.setTop (entryFrame m #[(.ref o0_)] 1)) t := by
    intro t kt
    refine pre0 t ?_
    show Steps p.tables e below (s₁.setTop (mkF m 0 #[.val (.ref o0_)] [])) _
    refine XS.aloadN X0.here hx rfl (hb hby d2_0) rfl rfl ?_
    show Steps p.tables e below (s₁.setTop (mkF m 1 #[.val (.ref o0_)] [(.ref o0_)])) _
    refine st1 _ ?_
    exact kt
  obtain ⟨fs, hr, hrun, hended, hW, hsame⟩ := X1.leave (v := none) (fun _ => rfl)
  refine ⟨_, _, pre2 _ (X1.returnOut hx Bd.returns (hb hby d2_4) hr), hrun, hended, _, _, rfl, ?_, ⟨_, rfl⟩, hW, hsame.mono (by decide) (by decide)⟩
  show Qinit2 Z o0_ h0 n0 _ T1.heap _
  rw [e1]
  exact ⟨rfl, N0, rfl⟩
theorem pd_0 : parseMethodDescriptor "()V" = some ⟨[], none⟩ := by decide +kernel
theorem d1_4 : decode prog_38_method_1_code 4 = .ok (.aload_n 0, 1) := by decide +kernel
theorem d1_5 : decode prog_38_method_1_code 5 = .ok (.iload_n 1, 1) := by decide +kernel
theorem d1_6 : decode prog_38_method_1_code 6 = .ok (.putfield 7, 3) := by decide +kernel
theorem d1_9 : decode prog_38_method_1_code 9 = .ok (.aload_n 0, 1) := by decide +kernel
theorem d1_10 : decode prog_38_method_1_code 10 = .ok (.aload_n 2, 1) := by decide +kernel
theorem d1_11 : decode prog_38_method_1_code 11 = .ok (.putfield 13, 3) := by decide +kernel
theorem d1_14 : decode prog_38_method_1_code 14 = .ok (.aload_n 0, 1) := by decide +kernel
theorem d1_15 : decode prog_38_method_1_code 15 = .ok (.iload_n 3, 1) := by decide +kernel
theorem d1_16 : decode prog_38_method_1_code 16 = .ok (.putfield 17, 3) := by decide +kernel
theorem d1_19 : decode prog_38_method_1_code 19 = .ok (.return_, 1) := by decide +kernel
theorem pn_1 : plainName "com/example/stackweave/stackweave/classfile/VerificationType" = true := by first | (simp [plainName, overriddenIn]; done) | decide +kernel
theorem efinit1 (m : MethodId) (o0_ : Addr) (x0_ : Int32) (x1_ : Int32) : entryFrame m #[(.ref o0_), (.int x0_), .null, (.int x1_)] 4 = mkF m 0 #[.val (.ref o0_), .val (.int x0_), .val .null, .val (.int x1_)] [] := by first | (simp [entryFrame, mkF, argsToLocals, Value.category]; done) | rfl
def Qinit1 (Z : State) (o0_ : Addr) (x0_ : Int32) (x1_ : Int32) (h0 : Heap) (n0 : Nat) (v : Option Value) (h : Heap) (L : List Loc) : Prop := v = none ∧ Fr n0 L ∧ Keep h0 h [o0_] ∧ Exa Z h o0_ "com/example/stackweave/stackweave/classfile/VerificationType" ∧ Fld Z h o0_ "com/example/stackweave/stackweave/classfile/VerificationType" "tag" "I" (.int x0_) ∧ Fld Z h o0_ "com/example/stackweave/stackweave/classfile/VerificationType" "className" "Ljava/lang/String;" .null ∧ Fld Z h o0_ "com/example/stackweave/stackweave/classfile/VerificationType" "newOffset" "I" (.int x1_)
set_option maxRecDepth 65536 in
set_option maxHeartbeats 40000000 in
theorem rminit1 (l : Launch) (Z : State) (a0 : Array Value) (hw : ∀ d ∈ tables_1, d.before a0 Z = true) (ws : List Jvm.Cond) (o0_ : Addr) (x0_ : Int32) (x1_ : Int32) (h0 : Heap) (n0 : Nat) (O0 : Old Z n0 h0) (P0 : Exa Z h0 o0_ "com/example/stackweave/stackweave/classfile/VerificationType") (P1 : Fld Z h0 o0_ "com/example/stackweave/stackweave/classfile/VerificationType" "tag" "I" (.int (0 : Int32))) (P2 : Fld Z h0 o0_ "com/example/stackweave/stackweave/classfile/VerificationType" "className" "Ljava/lang/String;" .null) (P3 : Fld Z h0 o0_ "com/example/stackweave/stackweave/classfile/VerificationType" "newOffset" "I" (.int (0 : Int32))) (P4 : n0 ≤ o0_) :
    MetFree l (⟨"com/example/stackweave/stackweave/classfile/VerificationType", "<init>", "(ILjava/lang/String;I)V"⟩ : MethodName) (head1 (Jvm.Cond.code (⟨"com/example/stackweave/stackweave/classfile/VerificationType", "<init>", "(ILjava/lang/String;I)V"⟩ : MethodName) prog_38_method_1_code 4 none :: ws) ({ frames := 2, cells := 0, slots := 0, locals := 24 } : Room)) (fun a U => a = #[(.ref o0_), (.int x0_), .null, (.int x1_)] ∧ Z.Warmed39 U.vm ∧ U.heap = h0) (fun _ _ _ _ _ => True) (fun _ U o U' => ∃ v L, o = .returned v ∧ Qinit1 Z o0_ x0_ x1_ h0 n0 v U'.heap L ∧ FrameEnd U o U' L ({ frames := 2, cells := 0, slots := 0, locals := 24 } : Room).cells ({ frames := 2, cells := 0, slots := 0, locals := 24 } : Room).slots) := by
  refine MetFree.of_bodySF (plainFor_of_name pn_1) hisR ?_
  intro p e s m args below meth c s₁ Bd hml0 hP hK
  obtain ⟨rfl, hZ, hh⟩ := hP
  have hx := Bd.exec
  have hby := Bd.bytes
  have hml : c.maxLocals = 4 := hml0
  have hown : s.vm.findClass "com/example/stackweave/stackweave/classfile/VerificationType" = some m.cls := findClass_of_methodNamed Bd.named
  have hnm := (name_of_methodNamed Bd.named Bd.method).1
  have X0 : Stand p l e ({ frames := 2, cells := 0, slots := 0, locals := 24 } : Room) s m #[(.ref o0_), (.int x0_), .null, (.int x1_)] below meth c s₁ [] 0 0 := Stand.of_body Bd
  have e0 : s₁.heap = h0 := by rw [← hh, Bd.state]; rfl
  have N0 := Fr.nil n0
  have pre0 : ∀ t, Steps p.tables e below (s₁.setTop (mkF m 0 #[.val (.ref o0_), .val (.int x0_), .val .null, .val (.int x1_)] [])) t → Steps p.tables e below (s₁.setTop (entryFrame m #[(.ref o0_), (.int x0_), .null, (.int x1_)] 4)) t := fun t k => castTop (efinit1 m o0_ x0_ x1_) k
  have K0 : Keep h0 h0 [o0_] := Keep.refl _ _
  obtain ⟨_, _, ⟨T1, L1, k1, n1⟩, -, X1, ⟨Lc1, hQ1, l1, y1, z1⟩, st1⟩ := X0.specialBack hx (y := (⟨"java/lang/Record", "<init>", "()V"⟩ : MethodName)) rfl hown (mvT hZ (hw _ (List.mem_of_getElem? (i := 36) rfl))) (mvT hZ (hw _ (List.mem_of_getElem? (i := 37) rfl))) (mvT hZ (hw _ (List.mem_of_getElem? (i := 40) rfl))) (by decide) (backOf (W := 0) (rminit2 l Z a0 hw [] o0_ h0 n0 O0 P0 P1 P2 P3) hZ (hw _ (List.mem_of_getElem? (i := 40) rfl)) (hw _ (List.mem_of_getElem? (i := 39) rfl)) (by decide) (by decide)) (g := (mkF m 1 #[.val (.ref o0_), .val (.int x0_), .val .null, .val (.int x1_)] [(.ref o0_)])) rfl (by rw [hml]; rfl) (Steps.refl _) (a := o0_) (argsL := []) (rest := []) (lenOf pd_0 rfl) rfl (by show 2 * 0 + _ ≤ _; exact Nat.le_of_eq rfl) (hb hby d1_1) (fun _ _ => ⟨rfl, e0, (by decide : 0 + 0 ≤ _), (by decide : 0 + 0 ≤ _)⟩)
  dsimp only [Pt.U, Pt.locs, Pt.cells, Pt.slots] at X1 l1 y1 z1 st1 hQ1
  subst l1 y1 z1
  obtain ⟨h1, e1⟩ : ∃ z, T1.heap = z := ⟨_, rfl⟩
  rw [e1] at hQ1
  obtain ⟨rfl, N1q, hh1⟩ := hQ1
  have N2 := Fr.app N0 N1q
  have e1' : T1.heap = h0 := e1.trans hh1
  obtain ⟨T3, h3, X3, e3, W3, st3⟩ := putF X1 hx hZ hown (host := "") (Or.inl (hw _ (List.mem_of_getElem? (i := 42) rfl))) Via.refl e1' P1 P0 (Or.inr ⟨(hw _ (List.mem_of_getElem? (i := 43) rfl)), rfl, hnm⟩) (hw _ (List.mem_of_getElem? (i := 31) rfl)) (ty := .int) (by decide) rfl rfl (g := (mkF m 6 #[.val (.ref o0_), .val (.int x0_), .val .null, .val (.int x1_)] [(.int x0_), (.ref o0_)])) rfl rfl (hb hby d1_6)
  have N4 := Fr.snoc X3 N2 P4
  have f5 : Fld Z h3 o0_ "com/example/stackweave/stackweave/classfile/VerificationType" "tag" "I" (.int x0_) := P1.same W3
  have f6 : Fld Z h3 o0_ "com/example/stackweave/stackweave/classfile/VerificationType" "className" "Ljava/lang/String;" .null := P2.other W3 (Or.inr (slot_ne (Or.inr (hw _ (List.mem_of_getElem? (i := 45) rfl))) (Or.inr (hw _ (List.mem_of_getElem? (i := 43) rfl))) (by decide) (t := (.object "java/lang/String")) (t' := .int) (by decide) (by decide)))
  have f7 : Exa Z h3 o0_ "com/example/stackweave/stackweave/classfile/VerificationType" := P0.wr W3
  obtain ⟨T8, h8, X8, e8, W8, st8⟩ := putF X3 hx hZ hown (host := "") (Or.inl (hw _ (List.mem_of_getElem? (i := 44) rfl))) Via.refl e3 f6 f7 (Or.inr ⟨(hw _ (List.mem_of_getElem? (i := 45) rfl)), rfl, hnm⟩) (hw _ (List.mem_of_getElem? (i := 31) rfl)) (ty := (.object "java/lang/String")) (by decide) rfl rfl (g := (mkF m 11 #[.val (.ref o0_), .val (.int x0_), .val .null, .val (.int x1_)] [.null, (.ref o0_)])) rfl rfl (hb hby d1_11)
  have N9 := Fr.snoc X8 N4 P4
  have f10 : Fld Z h8 o0_ "com/example/stackweave/stackweave/classfile/VerificationType" "className" "Ljava/lang/String;" .null := f6.same W8
  have f11 : Fld Z h3 o0_ "com/example/stackweave/stackweave/classfile/VerificationType" "newOffset" "I" (.int (0 : Int32)) := P3.other W3 (Or.inr (slot_ne (Or.inr (hw _ (List.mem_of_getElem? (i := 47) rfl))) (Or.inr (hw _ (List.mem_of_getElem? (i := 43) rfl))) (by decide) (t := .int) (t' := .int) (by decide) (by decide)))
  have f12 : Fld Z h8 o0_ "com/example/stackweave/stackweave/classfile/VerificationType" "newOffset" "I" (.int (0 : Int32)) := f11.other W8 (Or.inr (slot_ne (Or.inr (hw _ (List.mem_of_getElem? (i := 47) rfl))) (Or.inr (hw _ (List.mem_of_getElem? (i := 45) rfl))) (by decide) (t := .int) (t' := (.object "java/lang/String")) (by decide) (by decide)))
  have f13 : Exa Z h8 o0_ "com/example/stackweave/stackweave/classfile/VerificationType" := f7.wr W8
  obtain ⟨T14, h14, X14, e14, W14, st14⟩ := putF X8 hx hZ hown (host := "") (Or.inl (hw _ (List.mem_of_getElem? (i := 46) rfl))) Via.refl e8 f12 f13 (Or.inr ⟨(hw _ (List.mem_of_getElem? (i := 47) rfl)), rfl, hnm⟩) (hw _ (List.mem_of_getElem? (i := 31) rfl)) (ty := .int) (by decide) rfl rfl (g := (mkF m 16 #[.val (.ref o0_), .val (.int x0_), .val .null, .val (.int x1_)] [(.int x1_), (.ref o0_)])) rfl rfl (hb hby d1_16)
  have N15 := Fr.snoc X14 N9 P4
  have f16 : Fld Z h14 o0_ "com/example/stackweave/stackweave/classfile/VerificationType" "newOffset" "I" (.int x1_) := f12.same W14
  have pre17 : ∀ t, Steps p.tables e below (T14.setTop (mkF m 19 #[.val (.ref o0_), .val (.int x0_), .val .null, .val (.int x1_)] [])) t → Steps p.tables e below (s₁.setTop (entryFrame m #[(.ref o0_), (.int x0_), .null, (.int x1_)] 4)) t := by
    intro t kt
    refine pre0 t ?_
    show Steps p.tables e below (s₁.setTop (mkF m 0 #[.val (.ref o0_), .val (.int x0_), .val .null, .val (.int x1_)] [])) _
    refine XS.aloadN X0.here hx rfl (hb hby d1_0) rfl rfl ?_
    show Steps p.tables e below (s₁.setTop (mkF m 1 #[.val (.ref o0_), .val (.int x0_), .val .null, .val (.int x1_)] [(.ref o0_)])) _
    refine st1.trans ?_
    show Steps p.tables e below (T1.setTop (mkF m 4 #[.val (.ref o0_), .val (.int x0_), .val .null, .val (.int x1_)] [])) _
    refine XS.aloadN X1.here hx rfl (hb hby d1_4) rfl rfl ?_
    show Steps p.tables e below (T1.setTop (mkF m 5 #[.val (.ref o0_), .val (.int x0_), .val .null, .val (.int x1_)] [(.ref o0_)])) _
    refine XS.iloadN X1.here hx rfl (hb hby d1_5) rfl ?_
    show Steps p.tables e below (T1.setTop (mkF m 6 #[.val (.ref o0_), .val (.int x0_), .val .null, .val (.int x1_)] [(.int x0_), (.ref o0_)])) _
    refine st3 _ ?_
    show Steps p.tables e below (T3.setTop (mkF m 9 #[.val (.ref o0_), .val (.int x0_), .val .null, .val (.int x1_)] [])) _
    refine XS.aloadN X3.here hx rfl (hb hby d1_9) rfl rfl ?_
    show Steps p.tables e below (T3.setTop (mkF m 10 #[.val (.ref o0_), .val (.int x0_), .val .null, .val (.int x1_)] [(.ref o0_)])) _
    refine XS.aloadN X3.here hx rfl (hb hby d1_10) rfl rfl ?_
    show Steps p.tables e below (T3.setTop (mkF m 11 #[.val (.ref o0_), .val (.int x0_), .val .null, .val (.int x1_)] [.null, (.ref o0_)])) _
    refine st8 _ ?_
    show Steps p.tables e below (T8.setTop (mkF m 14 #[.val (.ref o0_), .val (.int x0_), .val .null, .val (.int x1_)] [])) _
    refine XS.aloadN X8.here hx rfl (hb hby d1_14) rfl rfl ?_
    show Steps p.tables e below (T8.setTop (mkF m 15 #[.val (.ref o0_), .val (.int x0_), .val .null, .val (.int x1_)] [(.ref o0_)])) _
    refine XS.iloadN X8.here hx rfl (hb hby d1_15) rfl ?_
    show Steps p.tables e below (T8.setTop (mkF m 16 #[.val (.ref o0_), .val (.int x0_), .val .null, .val (.int x1_)] [(.int x1_), (.ref o0_)])) _
    refine st14 _ ?_
    exact kt
  have f19 : Keep h0 h3 [o0_] := K0.wr W3 (Or.inl (List.mem_of_getElem? (i := 0) rfl))
  have f20 : Keep h0 h8 [o0_] := f19.wr W8 (Or.inl (List.mem_of_getElem? (i := 0) rfl))
  have f21 : Keep h0 h14 [o0_] := f20.wr W14 (Or.inl (List.mem_of_getElem? (i := 0) rfl))
  have f22 : Exa Z h14 o0_ "com/example/stackweave/stackweave/classfile/VerificationType" := f13.wr W14
  have f23 : Fld Z h8 o0_ "com/example/stackweave/stackweave/classfile/VerificationType" "tag" "I" (.int x0_) := f5.other W8 (Or.inr (slot_ne (Or.inr (hw _ (List.mem_of_getElem? (i := 43) rfl))) (Or.inr (hw _ (List.mem_of_getElem? (i := 45) rfl))) (by decide) (t := .int) (t' := (.object "java/lang/String")) (by decide) (by decide)))
  have f24 : Fld Z h14 o0_ "com/example/stackweave/stackweave/classfile/VerificationType" "tag" "I" (.int x0_) := f23.other W14 (Or.inr (slot_ne (Or.inr (hw _ (List.mem_of_getElem? (i := 43) rfl))) (Or.inr (hw _ (List.mem_of_getElem? (i := 47) rfl))) (by decide) (t := .int) (t' := .int) (by decide) (by decide)))
  have f25 : Fld Z h14 o0_ "com/example/stackweave/stackweave/classfile/VerificationType" "className" "Ljava/lang/String;" .null := f10.other W14 (Or.inr (slot_ne (Or.inr (hw _ (List.mem_of_getElem? (i := 45) rfl))) (Or.inr (hw _ (List.mem_of_getElem? (i := 47) rfl))) (by decide) (t := (.object "java/lang/String")) (t' := .int) (by decide) (by decide)))
  obtain ⟨fs, hr, hrun, hended, hW, hsame⟩ := X14.leave (v := none) (fun _ => rfl)
  refine ⟨_, _, pre17 _ (X14.returnOut hx Bd.returns (hb hby d1_19) hr), hrun, hended, _, _, rfl, ?_, ⟨_, rfl⟩, hW, hsame.mono (by decide) (by decide)⟩
  show Qinit1 Z o0_ x0_ x1_ h0 n0 _ T14.heap _
  rw [e14]
  exact ⟨rfl, N15, f21, f22, f24, f25, f16⟩
theorem pd_1 : parseMethodDescriptor "(ILjava/lang/String;I)V" = some ⟨[.int, (.object "java/lang/String"), .int], none⟩ := by decide +kernel
theorem d3_0 : decode prog_38_method_10_code 0 = .ok (.aload_n 0, 1) := by decide +kernel
theorem d3_1 : decode prog_38_method_10_code 1 = .ok (.getfield 7, 3) := by decide +kernel
theorem d3_4 : decode prog_38_method_10_code 4 = .ok (.bipush 7, 2) := by decide +kernel
theorem d3_6 : decode prog_38_method_10_code 6 = .ok (.if_icmp .eq 11, 3) := by decide +kernel
theorem d3_17 : decode prog_38_method_10_code 17 = .ok (.iconst 1, 1) := by decide +kernel
theorem d3_18 : decode prog_38_method_10_code 18 = .ok (.goto 4, 3) := by decide +kernel
theorem d3_22 : decode prog_38_method_10_code 22 = .ok (.ireturn, 1) := by decide +kernel
theorem d3_9 : decode prog_38_method_10_code 9 = .ok (.aload_n 0, 1) := by decide +kernel
theorem d3_10 : decode prog_38_method_10_code 10 = .ok (.getfield 7, 3) := by decide +kernel
theorem d3_13 : decode prog_38_method_10_code 13 = .ok (.iconst 5, 1) := by decide +kernel
theorem d3_14 : decode prog_38_method_10_code 14 = .ok (.if_icmp .ne 7, 3) := by decide +kernel
theorem d3_21 : decode prog_38_method_10_code 21 = .ok (.iconst 0, 1) := by decide +kernel
theorem efisReference3 (m : MethodId) (o0_ : Addr) : entryFrame m #[(.ref o0_)] 1 = mkF m 0 #[.val (.ref o0_)] [] := by first | (simp [entryFrame, mkF, argsToLocals, Value.category]; done) | rfl
def QisReference3 (Z : State) (o0_ : Addr) (x0_ : Int32) (x1_ : Int32) (h0 : Heap) (n0 : Nat) (v : Option Value) (h : Heap) (L : List Loc) : Prop := ∃ r_ : Int32, v = some (.int r_) ∧ (((1 : Int32) = r_ ∧ (x0_ = (7 : Int32))) ∨ ((1 : Int32) = r_ ∧ (¬ (x0_ = (7 : Int32))) ∧ (x0_ = (5 : Int32))) ∨ ((0 : Int32) = r_ ∧ (¬ (x0_ = (7 : Int32))) ∧ (¬ (x0_ = (5 : Int32))))) ∧ Fr n0 L ∧ h = h0
set_option maxRecDepth 65536 in
set_option maxHeartbeats 40000000 in
theorem rmisReference3 (l : Launch) (Z : State) (a0 : Array Value) (hw : ∀ d ∈ tables_1, d.before a0 Z = true) (ws : List Jvm.Cond) (o0_ : Addr) (x0_ : Int32) (x1_ : Int32) (h0 : Heap) (n0 : Nat) (O0 : Old Z n0 h0) (P0 : Exa Z h0 o0_ "com/example/stackweave/stackweave/classfile/VerificationType") (P1 : Fld Z h0 o0_ "com/example/stackweave/stackweave/classfile/VerificationType" "tag" "I" (.int x0_)) (P2 : Fld Z h0 o0_ "com/example/stackweave/stackweave/classfile/VerificationType" "className" "Ljava/lang/String;" .null) (P3 : Fld Z h0 o0_ "com/example/stackweave/stackweave/classfile/VerificationType" "newOffset" "I" (.int x1_)) :
    MetFree l (⟨"com/example/stackweave/stackweave/classfile/VerificationType", "isReference", "()Z"⟩ : MethodName) (head1 (Jvm.Cond.code (⟨"com/example/stackweave/stackweave/classfile/VerificationType", "isReference", "()Z"⟩ : MethodName) prog_38_method_10_code 1 (some .boolean) :: ws) ({ frames := 0, cells := 0, slots := 0, locals := 0 } : Room)) (fun a U => a = #[(.ref o0_)] ∧ Z.Warmed39 U.vm ∧ U.heap = h0) (fun _ _ _ _ _ => True) (fun _ U o U' => ∃ v L, o = .returned v ∧ QisReference3 Z o0_ x0_ x1_ h0 n0 v U'.heap L ∧ FrameEnd U o U' L ({ frames := 0, cells := 0, slots := 0, locals := 0 } : Room).cells ({ frames := 0, cells := 0, slots := 0, locals := 0 } : Room).slots) := by
  refine MetFree.of_bodySF (plainFor_of_name pn_1) hisR ?_
  intro p e s m args below meth c s₁ Bd hml0 hP hK
  obtain ⟨rfl, hZ, hh⟩ := hP
  have hx := Bd.exec
  have hby := Bd.bytes
  have hml : c.maxLocals = 1 := hml0
  have hown : s.vm.findClass "com/example/stackweave/stackweave/classfile/VerificationType" = some m.cls := findClass_of_methodNamed Bd.named
  have hnm := (name_of_methodNamed Bd.named Bd.method).1
  have X0 : Stand p l e ({ frames := 0, cells := 0, slots := 0, locals := 0 } : Room) s m #[(.ref o0_)] below meth c s₁ [] 0 0 := Stand.of_body Bd
  have e0 : s₁.heap = h0 := by rw [← hh, Bd.state]; rfl
  have N0 := Fr.nil n0
  have pre0 : ∀ t, Steps p.tables e below (s₁.setTop (mkF m 0 #[.val (.ref o0_)] [])) t → Steps p.tables e below (s₁.setTop (entryFrame m #[(.ref o0_)] 1)) t := fun t k => castTop (efisReference3 m o0_) k
  have K0 : Keep h0 h0 [] := Keep.refl _ _
  obtain ⟨T1, X1, e1, st1⟩ := getF X0 hx hZ hown (host := "") (Or.inl (hw _ (List.mem_of_getElem? (i := 42) rfl))) Via.refl e0 P1 (g := (mkF m 1 #[.val (.ref o0_)] [(.ref o0_)])) rfl rfl (hb hby d3_1)
  have pre2 : ∀ t, Steps p.tables e below (T1.setTop (mkF m 6 #[.val (.ref o0_)] [(.int (7 : Int32)), (.int x0_)])) t → Steps p.tables e below (s₁.setTop (entryFrame m #[(.ref o0_)] 1)) t := by
    intro t kt
    refine pre0 t ?_
    show Steps p.tables e below (s₁.setTop (mkF m 0 #[.val (.ref o0_)] [])) _
    refine XS.aloadN X0.here hx rfl (hb hby d3_0) rfl rfl ?_
    show Steps p.tables e below (s₁.setTop (mkF m 1 #[.val (.ref o0_)] [(.ref o0_)])) _
    refine st1 _ ?_
    show Steps p.tables e below (T1.setTop (mkF m 4 #[.val (.ref o0_)] [(.int x0_)])) _
    refine XS.bipush X1.here hx rfl (hb hby d3_4) ?_
    exact kt
  by_cases hc3 : x0_ = (7 : Int32)
  · have pre4 : ∀ t, Steps p.tables e below (T1.setTop (mkF m 22 #[.val (.ref o0_)] [(.int (1 : Int32))])) t → Steps p.tables e below (s₁.setTop (entryFrame m #[(.ref o0_)] 1)) t := by
      intro t kt
      refine pre2 t ?_
      show Steps p.tables e below (T1.setTop (mkF m 6 #[.val (.ref o0_)] [(.int (7 : Int32)), (.int x0_)])) _
      refine XS.icmpYes X1.here hx rfl (pc0 := 6) (pc' := 17) rfl (hb hby d3_6) rfl (teq hc3).1 (by decide) (by decide) ?_
      show Steps p.tables e below (T1.setTop (mkF m 17 #[.val (.ref o0_)] [])) _
      refine XS.iconst X1.here hx rfl (hb hby d3_17) ?_
      show Steps p.tables e below (T1.setTop (mkF m 18 #[.val (.ref o0_)] [(.int (1 : Int32))])) _
      refine XS.goto X1.here hx rfl (pc0 := 18) (pc' := 22) rfl (hb hby d3_18) (by decide) (by decide) ?_
      exact kt
    obtain ⟨fs, hr, hrun, hended, hW, hsame⟩ := X1.leave (v := some (.int (1 : Int32))) (fun h => by rw [Bd.returns] at h; cases h)
    refine ⟨_, _, pre4 _ (retN X1 hx (t := .boolean) Bd.returns (by simp) (hb hby d3_22) hr), hrun, hended, _, _, rfl, ?_, ⟨_, rfl⟩, hW, hsame.mono (by decide) (by decide)⟩
    show QisReference3 Z o0_ x0_ x1_ h0 n0 _ T1.heap _
    rw [e1]
    exact ⟨(1 : Int32), rfl, (Or.inl ⟨rfl, hc3⟩), N0, rfl⟩
  · obtain ⟨T6, X6, e6, st6⟩ := getF X1 hx hZ hown (host := "") (Or.inl (hw _ (List.mem_of_getElem? (i := 42) rfl))) Via.refl e1 P1 (g := (mkF m 10 #[.val (.ref o0_)] [(.ref o0_)])) rfl rfl (hb hby d3_10)
    have pre7 : ∀ t, Steps p.tables e below (T6.setTop (mkF m 14 #[.val (.ref o0_)] [(.int (5 : Int32)), (.int x0_)])) t → Steps p.tables e below (s₁.setTop (entryFrame m #[(.ref o0_)] 1)) t := by
      intro t kt
      refine pre2 t ?_
      show Steps p.tables e below (T1.setTop (mkF m 6 #[.val (.ref o0_)] [(.int (7 : Int32)), (.int x0_)])) _
      refine XS.icmpNo X1.here hx rfl (hb hby d3_6) rfl (feq hc3).1 ?_
      show Steps p.tables e below (T1.setTop (mkF m 9 #[.val (.ref o0_)] [])) _
      refine XS.aloadN X1.here hx rfl (hb hby d3_9) rfl rfl ?_
      show Steps p.tables e below (T1.setTop (mkF m 10 #[.val (.ref o0_)] [(.ref o0_)])) _
      refine st6 _ ?_
      show Steps p.tables e below (T6.setTop (mkF m 13 #[.val (.ref o0_)] [(.int x0_)])) _
      refine XS.iconst X6.here hx rfl (hb hby d3_13) ?_
      exact kt
    by_cases hc8 : x0_ = (5 : Int32)
    · have pre9 : ∀ t, Steps p.tables e below (T6.setTop (mkF m 22 #[.val (.ref o0_)] [(.int (1 : Int32))])) t → Steps p.tables e below (s₁.setTop (entryFrame m #[(.ref o0_)] 1)) t := by
        intro t kt
        refine pre7 t ?_
        show Steps p.tables e below (T6.setTop (mkF m 14 #[.val (.ref o0_)] [(.int (5 : Int32)), (.int x0_)])) _
        refine XS.icmpNo X6.here hx rfl (hb hby d3_14) rfl (teq hc8).2 ?_
        show Steps p.tables e below (T6.setTop (mkF m 17 #[.val (.ref o0_)] [])) _
        refine XS.iconst X6.here hx rfl (hb hby d3_17) ?_
        show Steps p.tables e below (T6.setTop (mkF m 18 #[.val (.ref o0_)] [(.int (1 : Int32))])) _
        refine XS.goto X6.here hx rfl (pc0 := 18) (pc' := 22) rfl (hb hby d3_18) (by decide) (by decide) ?_
        exact kt
      obtain ⟨fs, hr, hrun, hended, hW, hsame⟩ := X6.leave (v := some (.int (1 : Int32))) (fun h => by rw [Bd.returns] at h; cases h)
      refine ⟨_, _, pre9 _ (retN X6 hx (t := .boolean) Bd.returns (by simp) (hb hby d3_22) hr), hrun, hended, _, _, rfl, ?_, ⟨_, rfl⟩, hW, hsame.mono (by decide) (by decide)⟩
      show QisReference3 Z o0_ x0_ x1_ h0 n0 _ T6.heap _
      rw [e6]
      exact ⟨(1 : Int32), rfl, (Or.inr (Or.inl ⟨rfl, hc3, hc8⟩)), N0, rfl⟩
    · have pre11 : ∀ t, Steps p.tables e below (T6.setTop (mkF m 22 #[.val (.ref o0_)] [(.int (0 : Int32))])) t → Steps p.tables e below (s₁.setTop (entryFrame m #[(.ref o0_)] 1)) t := by
        intro t kt
        refine pre7 t ?_
        show Steps p.tables e below (T6.setTop (mkF m 14 #[.val (.ref o0_)] [(.int (5 : Int32)), (.int x0_)])) _
        refine XS.icmpYes X6.here hx rfl (pc0 := 14) (pc' := 21) rfl (hb hby d3_14) rfl (feq hc8).2 (by decide) (by decide) ?_
        show Steps p.tables e below (T6.setTop (mkF m 21 #[.val (.ref o0_)] [])) _
        refine XS.iconst X6.here hx rfl (hb hby d3_21) ?_
        exact kt
      obtain ⟨fs, hr, hrun, hended, hW, hsame⟩ := X6.leave (v := some (.int (0 : Int32))) (fun h => by rw [Bd.returns] at h; cases h)
      refine ⟨_, _, pre11 _ (retN X6 hx (t := .boolean) Bd.returns (by simp) (hb hby d3_22) hr), hrun, hended, _, _, rfl, ?_, ⟨_, rfl⟩, hW, hsame.mono (by decide) (by decide)⟩
      show QisReference3 Z o0_ x0_ x1_ h0 n0 _ T6.heap _
      rw [e6]
      exact ⟨(0 : Int32), rfl, (Or.inr (Or.inr ⟨rfl, hc3, hc8⟩)), N0, rfl⟩
theorem pd_2 : parseMethodDescriptor "()Z" = some ⟨[], some .boolean⟩ := by decide +kernel
theorem d4_0 : decode prog_38_method_13_code 0 = .ok (.aload_n 0, 1) := by decide +kernel
theorem d4_1 : decode prog_38_method_13_code 1 = .ok (.getfield 7, 3) := by decide +kernel
theorem d4_4 : decode prog_38_method_13_code 4 = .ok (.tableswitch 83 1 8 #[48, 55, 62, 69, 76, 76, 76, 76], 48) := by decide +kernel
theorem d4_80 : decode prog_38_method_13_code 80 = .ok (.getstatic 119, 3) := by decide +kernel
theorem d4_83 : decode prog_38_method_13_code 83 = .ok (.astore_n 1, 1) := by decide +kernel
theorem d4_84 : decode prog_38_method_13_code 84 = .ok (.goto 13, 3) := by decide +kernel
theorem d4_97 : decode prog_38_method_13_code 97 = .ok (.aload_n 1, 1) := by decide +kernel
theorem d4_98 : decode prog_38_method_13_code 98 = .ok (.areturn, 1) := by decide +kernel
theorem efkind4 (m : MethodId) (o0_ : Addr) : entryFrame m #[(.ref o0_)] 2 = mkF m 0 #[.val (.ref o0_), .unset] [] := by first | (simp [entryFrame, mkF, argsToLocals, Value.category]; done) | rfl
def Qkind4 (Z : State) (o0_ : Addr) (x0_ : Int32) (x1_ : Int32) (o1_ : Addr) (h0 : Heap) (n0 : Nat) (v : Option Value) (h : Heap) (L : List Loc) : Prop := v = some (.ref o1_) ∧ Fr n0 L ∧ h = h0
set_option maxRecDepth 65536 in
set_option maxHeartbeats 40000000 in
theorem rmkind4 (l : Launch) (Z : State) (a0 : Array Value) (hw : ∀ d ∈ tables_1, d.before a0 Z = true) (ws : List Jvm.Cond) (o0_ : Addr) (x0_ : Int32) (x1_ : Int32) (o1_ : Addr) (h0 : Heap) (n0 : Nat) (O0 : Old Z n0 h0) (ha0 : x0_ = (7 : Int32)) (P1 : Exa Z h0 o0_ "com/example/stackweave/stackweave/classfile/VerificationType") (P2 : Fld Z h0 o0_ "com/example/stackweave/stackweave/classfile/VerificationType" "tag" "I" (.int x0_)) (P3 : Fld Z h0 o0_ "com/example/stackweave/stackweave/classfile/VerificationType" "className" "Ljava/lang/String;" .null) (P4 : Fld Z h0 o0_ "com/example/stackweave/stackweave/classfile/VerificationType" "newOffset" "I" (.int x1_)) (P5 : Exa Z Z.heap o1_ "com/example/stackweave/stackweave/classfile/ValueKind") (P6 : Fld Z Z.heap o1_ "java/lang/Enum" "ordinal" "I" (.int (4 : Int32))) (P7 : Sta Z Z.heap "com/example/stackweave/stackweave/classfile/ValueKind" "REFERENCE" "Lcom/example/stackweave/stackweave/classfile/ValueKind;" (.ref o1_)) :
    MetFree l (⟨"com/example/stackweave/stackweave/classfile/VerificationType", "kind", "()Lcom/example/stackweave/stackweave/classfile/ValueKind;"⟩ : MethodName) (head1 (Jvm.Cond.code (⟨"com/example/stackweave/stackweave/classfile/VerificationType", "kind", "()Lcom/example/stackweave/stackweave/classfile/ValueKind;"⟩ : MethodName) prog_38_method_13_code 2 (some (.object "com/example/stackweave/stackweave/classfile/ValueKind")) :: ws) ({ frames := 0, cells := 0, slots := 0, locals := 0 } : Room)) (fun a U => a = #[(.ref o0_)] ∧ Z.Warmed39 U.vm ∧ U.heap = h0) (fun _ _ _ _ _ => True) (fun _ U o U' => ∃ v L, o = .returned v ∧ Qkind4 Z o0_ x0_ x1_ o1_ h0 n0 v U'.heap L ∧ FrameEnd U o U' L ({ frames := 0, cells := 0, slots := 0, locals := 0 } : Room).cells ({ frames := 0, cells := 0, slots := 0, locals := 0 } : Room).slots) := by
  refine MetFree.of_bodySF (plainFor_of_name pn_1) hisR ?_
  intro p e s m args below meth c s₁ Bd hml0 hP hK
  obtain ⟨rfl, hZ, hh⟩ := hP
  have hx := Bd.exec
  have hby := Bd.bytes
  have hml : c.maxLocals = 2 := hml0
  have hown : s.vm.findClass "com/example/stackweave/stackweave/classfile/VerificationType" = some m.cls := findClass_of_methodNamed Bd.named
  have hnm := (name_of_methodNamed Bd.named Bd.method).1
  have X0 : Stand p l e ({ frames := 0, cells := 0, slots := 0, locals := 0 } : Room) s m #[(.ref o0_)] below meth c s₁ [] 0 0 := Stand.of_body Bd
  have e0 : s₁.heap = h0 := by rw [← hh, Bd.state]; rfl
  have N0 := Fr.nil n0
  have pre0 : ∀ t, Steps p.tables e below (s₁.setTop (mkF m 0 #[.val (.ref o0_), .unset] [])) t → Steps p.tables e below (s₁.setTop (entryFrame m #[(.ref o0_)] 2)) t := fun t k => castTop (efkind4 m o0_) k
  have K0 : Keep h0 h0 [] := Keep.refl _ _
  obtain ⟨T1, X1, e1, st1⟩ := getF X0 hx hZ hown (host := "") (Or.inl (hw _ (List.mem_of_getElem? (i := 42) rfl))) Via.refl e0 P2 (g := (mkF m 1 #[.val (.ref o0_), .unset] [(.ref o0_)])) rfl rfl (hb hby d4_1)
  have pre2 : ∀ t, Steps p.tables e below (T1.setTop (mkF m 4 #[.val (.ref o0_), .unset] [(.int x0_)])) t → Steps p.tables e below (s₁.setTop (entryFrame m #[(.ref o0_)] 2)) t := by
    intro t kt
    refine pre0 t ?_
    show Steps p.tables e below (s₁.setTop (mkF m 0 #[.val (.ref o0_), .unset] [])) _
    refine XS.aloadN X0.here hx rfl (hb hby d4_0) rfl rfl ?_
    show Steps p.tables e below (s₁.setTop (mkF m 1 #[.val (.ref o0_), .unset] [(.ref o0_)])) _
    refine st1 _ ?_
    exact kt
  by_cases hv3 : x0_ = (7 : Int32)
  · have pre4 : ∀ t, Steps p.tables e below (T1.setTop (mkF m 4 #[.val (.ref o0_), .unset] [(.int (7 : Int32))])) t → Steps p.tables e below (s₁.setTop (entryFrame m #[(.ref o0_)] 2)) t := fun t kt => pre2 t (by rw [hv3]; exact kt)
    obtain ⟨T5, X5, e5, st5⟩ := getS2 X1 hx hZ hown (host := "") (Or.inl (hw _ (List.mem_of_getElem? (i := 64) rfl))) Via.refl e1 (P7.ext O0.2) (g := (mkF m 80 #[.val (.ref o0_), .unset] [])) rfl (hb hby d4_80)
    have pre6 : ∀ t, Steps p.tables e below (T5.setTop (mkF m 98 #[.val (.ref o0_), .val (.ref o1_)] [(.ref o1_)])) t → Steps p.tables e below (s₁.setTop (entryFrame m #[(.ref o0_)] 2)) t := by
      intro t kt
      refine pre4 t ?_
      show Steps p.tables e below (T1.setTop (mkF m 4 #[.val (.ref o0_), .unset] [(.int (7 : Int32))])) _
      refine XS.tswIn X1.here hx rfl (pc0 := 4) (pc' := 80) (o := 76) rfl (hb hby d4_4) rfl (by decide) rfl (by decide) (by decide) ?_
      show Steps p.tables e below (T1.setTop (mkF m 80 #[.val (.ref o0_), .unset] [])) _
      refine st5 _ ?_
      show Steps p.tables e below (T5.setTop (mkF m 83 #[.val (.ref o0_), .unset] [(.ref o1_)])) _
      refine XS.astoreN X5.here hx rfl (hb hby d4_83) rfl rfl (l' := #[.val (.ref o0_), .val (.ref o1_)]) rfl ?_
      show Steps p.tables e below (T5.setTop (mkF m 84 #[.val (.ref o0_), .val (.ref o1_)] [])) _
      refine XS.goto X5.here hx rfl (pc0 := 84) (pc' := 97) rfl (hb hby d4_84) (by decide) (by decide) ?_
      show Steps p.tables e below (T5.setTop (mkF m 97 #[.val (.ref o0_), .val (.ref o1_)] [])) _
      refine XS.aloadN X5.here hx rfl (hb hby d4_97) rfl rfl ?_
      exact kt
    obtain ⟨fs, hr, hrun, hended, hW, hsame⟩ := X5.leave (v := some (.ref o1_)) (fun h => by rw [Bd.returns] at h; cases h)
    refine ⟨_, _, pre6 _ (retOut X5 hx Bd.returns rfl (Or.inr (Or.inr (Or.inr (Or.inr ⟨rfl, rfl, rfl⟩)))) (hb hby d4_98) hr), hrun, hended, _, _, rfl, ?_, ⟨_, rfl⟩, hW, hsame.mono (by decide) (by decide)⟩
    show Qkind4 Z o0_ x0_ x1_ o1_ h0 n0 _ T5.heap _
    rw [e5]
    exact ⟨rfl, N0, rfl⟩
  · exfalso
    have lt_0 : ((7 : Int32)).toInt = 7 := rfl
    simp only [Int32.lt_iff_toInt_lt, Int64.lt_iff_toInt_lt, ← Int32.toInt_inj, ← Int64.toInt_inj] at ha0 hv3
    omega
theorem pd_3 : parseMethodDescriptor "()Lcom/example/stackweave/stackweave/classfile/ValueKind;" = some ⟨[], some (.object "com/example/stackweave/stackweave/classfile/ValueKind")⟩ := by decide +kernel
theorem d5_0 : decode prog_38_method_11_code 0 = .ok (.aload_n 0, 1) := by decide +kernel
theorem d5_1 : decode prog_38_method_11_code 1 = .ok (.getfield 7, 3) := by decide +kernel
theorem d5_4 : decode prog_38_method_11_code 4 = .ok (.bipush 6, 2) := by decide +kernel
theorem d5_6 : decode prog_38_method_11_code 6 = .ok (.if_icmp .eq 12, 3) := by decide +kernel
theorem d5_9 : decode prog_38_method_11_code 9 = .ok (.aload_n 0, 1) := by decide +kernel
theorem d5_10 : decode prog_38_method_11_code 10 = .ok (.getfield 7, 3) := by decide +kernel
theorem d5_13 : decode prog_38_method_11_code 13 = .ok (.bipush 8, 2) := by decide +kernel
theorem d5_15 : decode prog_38_method_11_code 15 = .ok (.if_icmp .ne 7, 3) := by decide +kernel
theorem d5_22 : decode prog_38_method_11_code 22 = .ok (.iconst 0, 1) := by decide +kernel
theorem d5_23 : decode prog_38_method_11_code 23 = .ok (.ireturn, 1) := by decide +kernel
theorem efisUninitialized5 (m : MethodId) (o0_ : Addr) : entryFrame m #[(.ref o0_)] 1 = mkF m 0 #[.val (.ref o0_)] [] := by first | (simp [entryFrame, mkF, argsToLocals, Value.category]; done) | rfl
def QisUninitialized5 (Z : State) (o0_ : Addr) (x0_ : Int32) (x1_ : Int32) (h0 : Heap) (n0 : Nat) (v : Option Value) (h : Heap) (L : List Loc) : Prop := v = some (.int (0 : Int32)) ∧ Fr n0 L ∧ h = h0
set_option maxRecDepth 65536 in
set_option maxHeartbeats 40000000 in
theorem rmisUninitialized5 (l : Launch) (Z : State) (a0 : Array Value) (hw : ∀ d ∈ tables_1, d.before a0 Z = true) (ws : List Jvm.Cond) (o0_ : Addr) (x0_ : Int32) (x1_ : Int32) (h0 : Heap) (n0 : Nat) (O0 : Old Z n0 h0) (ha0 : x0_ = (7 : Int32)) (P1 : Exa Z h0 o0_ "com/example/stackweave/stackweave/classfile/VerificationType") (P2 : Fld Z h0 o0_ "com/example/stackweave/stackweave/classfile/VerificationType" "tag" "I" (.int x0_)) (P3 : Fld Z h0 o0_ "com/example/stackweave/stackweave/classfile/VerificationType" "className" "Ljava/lang/String;" .null) (P4 : Fld Z h0 o0_ "com/example/stackweave/stackweave/classfile/VerificationType" "newOffset" "I" (.int x1_)) :
    MetFree l (⟨"com/example/stackweave/stackweave/classfile/VerificationType", "isUninitialized", "()Z"⟩ : MethodName) (head1 (Jvm.Cond.code (⟨"com/example/stackweave/stackweave/classfile/VerificationType", "isUninitialized", "()Z"⟩ : MethodName) prog_38_method_11_code 1 (some .boolean) :: ws) ({ frames := 0, cells := 0, slots := 0, locals := 0 } : Room)) (fun a U => a = #[(.ref o0_)] ∧ Z.Warmed39 U.vm ∧ U.heap = h0) (fun _ _ _ _ _ => True) (fun _ U o U' => ∃ v L, o = .returned v ∧ QisUninitialized5 Z o0_ x0_ x1_ h0 n0 v U'.heap L ∧ FrameEnd U o U' L ({ frames := 0, cells := 0, slots := 0, locals := 0 } : Room).cells ({ frames := 0, cells := 0, slots := 0, locals := 0 } : Room).slots) := by
  refine MetFree.of_bodySF (plainFor_of_name pn_1) hisR ?_
  intro p e s m args below meth c s₁ Bd hml0 hP hK
  obtain ⟨rfl, hZ, hh⟩ := hP
  have hx := Bd.exec
  have hby := Bd.bytes
  have hml : c.maxLocals = 1 := hml0
  have hown : s.vm.findClass "com/example/stackweave/stackweave/classfile/VerificationType" = some m.cls := findClass_of_methodNamed Bd.named
  have hnm := (name_of_methodNamed Bd.named Bd.method).1
  have X0 : Stand p l e ({ frames := 0, cells := 0, slots := 0, locals := 0 } : Room) s m #[(.ref o0_)] below meth c s₁ [] 0 0 := Stand.of_body Bd
  have e0 : s₁.heap = h0 := by rw [← hh, Bd.state]; rfl
  have N0 := Fr.nil n0
  have pre0 : ∀ t, Steps p.tables e below (s₁.setTop (mkF m 0 #[.val (.ref o0_)] [])) t → Steps p.tables e below (s₁.setTop (entryFrame m #[(.ref o0_)] 1)) t := fun t k => castTop (efisUninitialized5 m o0_) k
  have K0 : Keep h0 h0 [] := Keep.refl _ _
  obtain ⟨T1, X1, e1, st1⟩ := getF X0 hx hZ hown (host := "") (Or.inl (hw _ (List.mem_of_getElem? (i := 42) rfl))) Via.refl e0 P2 (g := (mkF m 1 #[.val (.ref o0_)] [(.ref o0_)])) rfl rfl (hb hby d5_1)
  obtain ⟨T2, X2, e2, st2⟩ := getF X1 hx hZ hown (host := "") (Or.inl (hw _ (List.mem_of_getElem? (i := 42) rfl))) Via.refl e1 P2 (g := (mkF m 10 #[.val (.ref o0_)] [(.ref o0_)])) rfl rfl (hb hby d5_10)
  have pre3 : ∀ t, Steps p.tables e below (T2.setTop (mkF m 23 #[.val (.ref o0_)] [(.int (0 : Int32))])) t → Steps p.tables e below (s₁.setTop (entryFrame m #[(.ref o0_)] 1)) t := by
    intro t kt
    refine pre0 t ?_
    show Steps p.tables e below (s₁.setTop (mkF m 0 #[.val (.ref o0_)] [])) _
    refine XS.aloadN X0.here hx rfl (hb hby d5_0) rfl rfl ?_
    show Steps p.tables e below (s₁.setTop (mkF m 1 #[.val (.ref o0_)] [(.ref o0_)])) _
    refine st1 _ ?_
    show Steps p.tables e below (T1.setTop (mkF m 4 #[.val (.ref o0_)] [(.int x0_)])) _
    refine XS.bipush X1.here hx rfl (hb hby d5_4) ?_
    show Steps p.tables e below (T1.setTop (mkF m 6 #[.val (.ref o0_)] [(.int (6 : Int32)), (.int x0_)])) _
    refine XS.icmpNo X1.here hx rfl (hb hby d5_6) rfl (feq (by intro hz; have lt_0 : ((6 : Int32)).toInt = 6 := rfl; have lt_1 : ((7 : Int32)).toInt = 7 := rfl; simp only [Int32.lt_iff_toInt_lt, Int64.lt_iff_toInt_lt, ← Int32.toInt_inj, ← Int64.toInt_inj] at hz ha0; omega)).1 ?_
    show Steps p.tables e below (T1.setTop (mkF m 9 #[.val (.ref o0_)] [])) _
    refine XS.aloadN X1.here hx rfl (hb hby d5_9) rfl rfl ?_
    show Steps p.tables e below (T1.setTop (mkF m 10 #[.val (.ref o0_)] [(.ref o0_)])) _
    refine st2 _ ?_
    show Steps p.tables e below (T2.setTop (mkF m 13 #[.val (.ref o0_)] [(.int x0_)])) _
    refine XS.bipush X2.here hx rfl (hb hby d5_13) ?_
    show Steps p.tables e below (T2.setTop (mkF m 15 #[.val (.ref o0_)] [(.int (8 : Int32)), (.int x0_)])) _
    refine XS.icmpYes X2.here hx rfl (pc0 := 15) (pc' := 22) rfl (hb hby d5_15) rfl (feq (by intro hz; have lt_0 : ((7 : Int32)).toInt = 7 := rfl; have lt_1 : ((8 : Int32)).toInt = 8 := rfl; simp only [Int32.lt_iff_toInt_lt, Int64.lt_iff_toInt_lt, ← Int32.toInt_inj, ← Int64.toInt_inj] at hz ha0; omega)).2 (by decide) (by decide) ?_
    show Steps p.tables e below (T2.setTop (mkF m 22 #[.val (.ref o0_)] [])) _
    refine XS.iconst X2.here hx rfl (hb hby d5_22) ?_
    exact kt
  obtain ⟨fs, hr, hrun, hended, hW, hsame⟩ := X2.leave (v := some (.int (0 : Int32))) (fun h => by rw [Bd.returns] at h; cases h)
  refine ⟨_, _, pre3 _ (retN X2 hx (t := .boolean) Bd.returns (by simp) (hb hby d5_23) hr), hrun, hended, _, _, rfl, ?_, ⟨_, rfl⟩, hW, hsame.mono (by decide) (by decide)⟩
  show QisUninitialized5 Z o0_ x0_ x1_ h0 n0 _ T2.heap _
  rw [e2]
  exact ⟨rfl, N0, rfl⟩
theorem efkind6 (m : MethodId) (o0_ : Addr) : entryFrame m #[(.ref o0_)] 2 = mkF m 0 #[.val (.ref o0_), .unset] [] := by first | (simp [entryFrame, mkF, argsToLocals, Value.category]; done) | rfl
def Qkind6 (Z : State) (o0_ : Addr) (x0_ : Int32) (x1_ : Int32) (o1_ : Addr) (h0 : Heap) (n0 : Nat) (v : Option Value) (h : Heap) (L : List Loc) : Prop := v = some (.ref o1_) ∧ Fr n0 L ∧ h = h0
set_option maxRecDepth 65536 in
set_option maxHeartbeats 40000000 in
theorem rmkind6 (l : Launch) (Z : State) (a0 : Array Value) (hw : ∀ d ∈ tables_1, d.before a0 Z = true) (ws : List Jvm.Cond) (o0_ : Addr) (x0_ : Int32) (x1_ : Int32) (o1_ : Addr) (h0 : Heap) (n0 : Nat) (O0 : Old Z n0 h0) (ha0 : ¬ (x0_ = (7 : Int32))) (ha1 : x0_ = (5 : Int32)) (P2 : Exa Z h0 o0_ "com/example/stackweave/stackweave/classfile/VerificationType") (P3 : Fld Z h0 o0_ "com/example/stackweave/stackweave/classfile/VerificationType" "tag" "I" (.int x0_)) (P4 : Fld Z h0 o0_ "com/example/stackweave/stackweave/classfile/VerificationType" "className" "Ljava/lang/String;" .null) (P5 : Fld Z h0 o0_ "com/example/stackweave/stackweave/classfile/VerificationType" "newOffset" "I" (.int x1_)) (P6 : Exa Z Z.heap o1_ "com/example/stackweave/stackweave/classfile/ValueKind") (P7 : Fld Z Z.heap o1_ "java/lang/Enum" "ordinal" "I" (.int (4 : Int32))) (P8 : Sta Z Z.heap "com/example/stackweave/stackweave/classfile/ValueKind" "REFERENCE" "Lcom/example/stackweave/stackweave/classfile/ValueKind;" (.ref o1_)) :
    MetFree l (⟨"com/example/stackweave/stackweave/classfile/VerificationType", "kind", "()Lcom/example/stackweave/stackweave/classfile/ValueKind;"⟩ : MethodName) (head1 (Jvm.Cond.code (⟨"com/example/stackweave/stackweave/classfile/VerificationType", "kind", "()Lcom/example/stackweave/stackweave/classfile/ValueKind;"⟩ : MethodName) prog_38_method_13_code 2 (some (.object "com/example/stackweave/stackweave/classfile/ValueKind")) :: ws) ({ frames := 0, cells := 0, slots := 0, locals := 0 } : Room)) (fun a U => a = #[(.ref o0_)] ∧ Z.Warmed39 U.vm ∧ U.heap = h0) (fun _ _ _ _ _ => True) (fun _ U o U' => ∃ v L, o = .returned v ∧ Qkind6 Z o0_ x0_ x1_ o1_ h0 n0 v U'.heap L ∧ FrameEnd U o U' L ({ frames := 0, cells := 0, slots := 0, locals := 0 } : Room).cells ({ frames := 0, cells := 0, slots := 0, locals := 0 } : Room).slots) := by
  refine MetFree.of_bodySF (plainFor_of_name pn_1) hisR ?_
  intro p e s m args below meth c s₁ Bd hml0 hP hK
  obtain ⟨rfl, hZ, hh⟩ := hP
  have hx := Bd.exec
  have hby := Bd.bytes
  have hml : c.maxLocals = 2 := hml0
  have hown : s.vm.findClass "com/example/stackweave/stackweave/classfile/VerificationType" = some m.cls := findClass_of_methodNamed Bd.named
  have hnm := (name_of_methodNamed Bd.named Bd.method).1
  have X0 : Stand p l e ({ frames := 0, cells := 0, slots := 0, locals := 0 } : Room) s m #[(.ref o0_)] below meth c s₁ [] 0 0 := Stand.of_body Bd
  have e0 : s₁.heap = h0 := by rw [← hh, Bd.state]; rfl
  have N0 := Fr.nil n0
  have pre0 : ∀ t, Steps p.tables e below (s₁.setTop (mkF m 0 #[.val (.ref o0_), .unset] [])) t → Steps p.tables e below (s₁.setTop (entryFrame m #[(.ref o0_)] 2)) t := fun t k => castTop (efkind6 m o0_) k
  have K0 : Keep h0 h0 [] := Keep.refl _ _
  obtain ⟨T1, X1, e1, st1⟩ := getF X0 hx hZ hown (host := "") (Or.inl (hw _ (List.mem_of_getElem? (i := 42) rfl))) Via.refl e0 P3 (g := (mkF m 1 #[.val (.ref o0_), .unset] [(.ref o0_)])) rfl rfl (hb hby d4_1)
  have pre2 : ∀ t, Steps p.tables e below (T1.setTop (mkF m 4 #[.val (.ref o0_), .unset] [(.int x0_)])) t → Steps p.tables e below (s₁.setTop (entryFrame m #[(.ref o0_)] 2)) t := by
    intro t kt
    refine pre0 t ?_
    show Steps p.tables e below (s₁.setTop (mkF m 0 #[.val (.ref o0_), .unset] [])) _
    refine XS.aloadN X0.here hx rfl (hb hby d4_0) rfl rfl ?_
    show Steps p.tables e below (s₁.setTop (mkF m 1 #[.val (.ref o0_), .unset] [(.ref o0_)])) _
    refine st1 _ ?_
    exact kt
  by_cases hv3 : x0_ = (5 : Int32)
  · have pre4 : ∀ t, Steps p.tables e below (T1.setTop (mkF m 4 #[.val (.ref o0_), .unset] [(.int (5 : Int32))])) t → Steps p.tables e below (s₁.setTop (entryFrame m #[(.ref o0_)] 2)) t := fun t kt => pre2 t (by rw [hv3]; exact kt)
    obtain ⟨T5, X5, e5, st5⟩ := getS2 X1 hx hZ hown (host := "") (Or.inl (hw _ (List.mem_of_getElem? (i := 64) rfl))) Via.refl e1 (P8.ext O0.2) (g := (mkF m 80 #[.val (.ref o0_), .unset] [])) rfl (hb hby d4_80)
    have pre6 : ∀ t, Steps p.tables e below (T5.setTop (mkF m 98 #[.val (.ref o0_), .val (.ref o1_)] [(.ref o1_)])) t → Steps p.tables e below (s₁.setTop (entryFrame m #[(.ref o0_)] 2)) t := by
      intro t kt
      refine pre4 t ?_
      show Steps p.tables e below (T1.setTop (mkF m 4 #[.val (.ref o0_), .unset] [(.int (5 : Int32))])) _
      refine XS.tswIn X1.here hx rfl (pc0 := 4) (pc' := 80) (o := 76) rfl (hb hby d4_4) rfl (by decide) rfl (by decide) (by decide) ?_
      show Steps p.tables e below (T1.setTop (mkF m 80 #[.val (.ref o0_), .unset] [])) _
      refine st5 _ ?_
      show Steps p.tables e below (T5.setTop (mkF m 83 #[.val (.ref o0_), .unset] [(.ref o1_)])) _
      refine XS.astoreN X5.here hx rfl (hb hby d4_83) rfl rfl (l' := #[.val (.ref o0_), .val (.ref o1_)]) rfl ?_
      show Steps p.tables e below (T5.setTop (mkF m 84 #[.val (.ref o0_), .val (.ref o1_)] [])) _
      refine XS.goto X5.here hx rfl (pc0 := 84) (pc' := 97) rfl (hb hby d4_84) (by decide) (by decide) ?_
      show Steps p.tables e below (T5.setTop (mkF m 97 #[.val (.ref o0_), .val (.ref o1_)] [])) _
      refine XS.aloadN X5.here hx rfl (hb hby d4_97) rfl rfl ?_
      exact kt
    obtain ⟨fs, hr, hrun, hended, hW, hsame⟩ := X5.leave (v := some (.ref o1_)) (fun h => by rw [Bd.returns] at h; cases h)
    refine ⟨_, _, pre6 _ (retOut X5 hx Bd.returns rfl (Or.inr (Or.inr (Or.inr (Or.inr ⟨rfl, rfl, rfl⟩)))) (hb hby d4_98) hr), hrun, hended, _, _, rfl, ?_, ⟨_, rfl⟩, hW, hsame.mono (by decide) (by decide)⟩
    show Qkind6 Z o0_ x0_ x1_ o1_ h0 n0 _ T5.heap _
    rw [e5]
    exact ⟨rfl, N0, rfl⟩
  · exfalso
    have lt_0 : ((5 : Int32)).toInt = 5 := rfl
    have lt_1 : ((7 : Int32)).toInt = 7 := rfl
    simp only [Int32.lt_iff_toInt_lt, Int64.lt_iff_toInt_lt, ← Int32.toInt_inj, ← Int64.toInt_inj] at ha0 ha1 hv3
    omega
theorem efisUninitialized7 (m : MethodId) (o0_ : Addr) : entryFrame m #[(.ref o0_)] 1 = mkF m 0 #[.val (.ref o0_)] [] := by first | (simp [entryFrame, mkF, argsToLocals, Value.category]; done) | rfl
def QisUninitialized7 (Z : State) (o0_ : Addr) (x0_ : Int32) (x1_ : Int32) (h0 : Heap) (n0 : Nat) (v : Option Value) (h : Heap) (L : List Loc) : Prop := v = some (.int (0 : Int32)) ∧ Fr n0 L ∧ h = h0
set_option maxRecDepth 65536 in
set_option maxHeartbeats 40000000 in
theorem rmisUninitialized7 (l : Launch) (Z : State) (a0 : Array Value) (hw : ∀ d ∈ tables_1, d.before a0 Z = true) (ws : List Jvm.Cond) (o0_ : Addr) (x0_ : Int32) (x1_ : Int32) (h0 : Heap) (n0 : Nat) (O0 : Old Z n0 h0) (ha0 : ¬ (x0_ = (7 : Int32))) (ha1 : x0_ = (5 : Int32)) (P2 : Exa Z h0 o0_ "com/example/stackweave/stackweave/classfile/VerificationType") (P3 : Fld Z h0 o0_ "com/example/stackweave/stackweave/classfile/VerificationType" "tag" "I" (.int x0_)) (P4 : Fld Z h0 o0_ "com/example/stackweave/stackweave/classfile/VerificationType" "className" "Ljava/lang/String;" .null) (P5 : Fld Z h0 o0_ "com/example/stackweave/stackweave/classfile/VerificationType" "newOffset" "I" (.int x1_)) :
    MetFree l (⟨"com/example/stackweave/stackweave/classfile/VerificationType", "isUninitialized", "()Z"⟩ : MethodName) (head1 (Jvm.Cond.code (⟨"com/example/stackweave/stackweave/classfile/VerificationType", "isUninitialized", "()Z"⟩ : MethodName) prog_38_method_11_code 1 (some .boolean) :: ws) ({ frames := 0, cells := 0, slots := 0, locals := 0 } : Room)) (fun a U => a = #[(.ref o0_)] ∧ Z.Warmed39 U.vm ∧ U.heap = h0) (fun _ _ _ _ _ => True) (fun _ U o U' => ∃ v L, o = .returned v ∧ QisUninitialized7 Z o0_ x0_ x1_ h0 n0 v U'.heap L ∧ FrameEnd U o U' L ({ frames := 0, cells := 0, slots := 0, locals := 0 } : Room).cells ({ frames := 0, cells := 0, slots := 0, locals := 0 } : Room).slots) := by
  refine MetFree.of_bodySF (plainFor_of_name pn_1) hisR ?_
  intro p e s m args below meth c s₁ Bd hml0 hP hK
  obtain ⟨rfl, hZ, hh⟩ := hP
  have hx := Bd.exec
  have hby := Bd.bytes
  have hml : c.maxLocals = 1 := hml0
  have hown : s.vm.findClass "com/example/stackweave/stackweave/classfile/VerificationType" = some m.cls := findClass_of_methodNamed Bd.named
  have hnm := (name_of_methodNamed Bd.named Bd.method).1
  have X0 : Stand p l e ({ frames := 0, cells := 0, slots := 0, locals := 0 } : Room) s m #[(.ref o0_)] below meth c s₁ [] 0 0 := Stand.of_body Bd
  have e0 : s₁.heap = h0 := by rw [← hh, Bd.state]; rfl
  have N0 := Fr.nil n0
  have pre0 : ∀ t, Steps p.tables e below (s₁.setTop (mkF m 0 #[.val (.ref o0_)] [])) t → Steps p.tables e below (s₁.setTop (entryFrame m #[(.ref o0_)] 1)) t := fun t k => castTop (efisUninitialized7 m o0_) k
  have K0 : Keep h0 h0 [] := Keep.refl _ _
  obtain ⟨T1, X1, e1, st1⟩ := getF X0 hx hZ hown (host := "") (Or.inl (hw _ (List.mem_of_getElem? (i := 42) rfl))) Via.refl e0 P3 (g := (mkF m 1 #[.val (.ref o0_)] [(.ref o0_)])) rfl rfl (hb hby d5_1)
  obtain ⟨T2, X2, e2, st2⟩ := getF X1 hx hZ hown (host := "") (Or.inl (hw _ (List.mem_of_getElem? (i := 42) rfl))) Via.refl e1 P3 (g := (mkF m 10 #[.val (.ref o0_)] [(.ref o0_)])) rfl rfl (hb hby d5_10)
  have pre3 : ∀ t, Steps p.tables e below (T2.setTop (mkF m 23 #[.val (.ref o0_)] [(.int (0 : Int32))])) t → Steps p.tables e below (s₁.setTop (entryFrame m #[(.ref o0_)] 1)) t := by
    intro t kt
    refine pre0 t ?_
    show Steps p.tables e below (s₁.setTop (mkF m 0 #[.val (.ref o0_)] [])) _
    refine XS.aloadN X0.here hx rfl (hb hby d5_0) rfl rfl ?_
    show Steps p.tables e below (s₁.setTop (mkF m 1 #[.val (.ref o0_)] [(.ref o0_)])) _
    refine st1 _ ?_
    show Steps p.tables e below (T1.setTop (mkF m 4 #[.val (.ref o0_)] [(.int x0_)])) _
    refine XS.bipush X1.here hx rfl (hb hby d5_4) ?_
    show Steps p.tables e below (T1.setTop (mkF m 6 #[.val (.ref o0_)] [(.int (6 : Int32)), (.int x0_)])) _
    refine XS.icmpNo X1.here hx rfl (hb hby d5_6) rfl (feq (by intro hz; have lt_0 : ((5 : Int32)).toInt = 5 := rfl; have lt_1 : ((6 : Int32)).toInt = 6 := rfl; have lt_2 : ((7 : Int32)).toInt = 7 := rfl; simp only [Int32.lt_iff_toInt_lt, Int64.lt_iff_toInt_lt, ← Int32.toInt_inj, ← Int64.toInt_inj] at hz ha0 ha1; omega)).1 ?_
    show Steps p.tables e below (T1.setTop (mkF m 9 #[.val (.ref o0_)] [])) _
    refine XS.aloadN X1.here hx rfl (hb hby d5_9) rfl rfl ?_
    show Steps p.tables e below (T1.setTop (mkF m 10 #[.val (.ref o0_)] [(.ref o0_)])) _
    refine st2 _ ?_
    show Steps p.tables e below (T2.setTop (mkF m 13 #[.val (.ref o0_)] [(.int x0_)])) _
    refine XS.bipush X2.here hx rfl (hb hby d5_13) ?_
    show Steps p.tables e below (T2.setTop (mkF m 15 #[.val (.ref o0_)] [(.int (8 : Int32)), (.int x0_)])) _
    refine XS.icmpYes X2.here hx rfl (pc0 := 15) (pc' := 22) rfl (hb hby d5_15) rfl (feq (by intro hz; have lt_0 : ((5 : Int32)).toInt = 5 := rfl; have lt_1 : ((7 : Int32)).toInt = 7 := rfl; have lt_2 : ((8 : Int32)).toInt = 8 := rfl; simp only [Int32.lt_iff_toInt_lt, Int64.lt_iff_toInt_lt, ← Int32.toInt_inj, ← Int64.toInt_inj] at hz ha0 ha1; omega)).2 (by decide) (by decide) ?_
    show Steps p.tables e below (T2.setTop (mkF m 22 #[.val (.ref o0_)] [])) _
    refine XS.iconst X2.here hx rfl (hb hby d5_22) ?_
    exact kt
  obtain ⟨fs, hr, hrun, hended, hW, hsame⟩ := X2.leave (v := some (.int (0 : Int32))) (fun h => by rw [Bd.returns] at h; cases h)
  refine ⟨_, _, pre3 _ (retN X2 hx (t := .boolean) Bd.returns (by simp) (hb hby d5_23) hr), hrun, hended, _, _, rfl, ?_, ⟨_, rfl⟩, hW, hsame.mono (by decide) (by decide)⟩
  show QisUninitialized7 Z o0_ x0_ x1_ h0 n0 _ T2.heap _
  rw [e2]
  exact ⟨rfl, N0, rfl⟩
theorem d4_52 : decode prog_38_method_13_code 52 = .ok (.getstatic 91, 3) := by decide +kernel
theorem d4_55 : decode prog_38_method_13_code 55 = .ok (.astore_n 1, 1) := by decide +kernel
theorem d4_56 : decode prog_38_method_13_code 56 = .ok (.goto 41, 3) := by decide +kernel
theorem d4_59 : decode prog_38_method_13_code 59 = .ok (.getstatic 103, 3) := by decide +kernel
theorem d4_62 : decode prog_38_method_13_code 62 = .ok (.astore_n 1, 1) := by decide +kernel
theorem d4_63 : decode prog_38_method_13_code 63 = .ok (.goto 34, 3) := by decide +kernel
theorem d4_66 : decode prog_38_method_13_code 66 = .ok (.getstatic 108, 3) := by decide +kernel
theorem d4_69 : decode prog_38_method_13_code 69 = .ok (.astore_n 1, 1) := by decide +kernel
theorem d4_70 : decode prog_38_method_13_code 70 = .ok (.goto 27, 3) := by decide +kernel
theorem d4_73 : decode prog_38_method_13_code 73 = .ok (.getstatic 98, 3) := by decide +kernel
theorem d4_76 : decode prog_38_method_13_code 76 = .ok (.astore_n 1, 1) := by decide +kernel
theorem d4_77 : decode prog_38_method_13_code 77 = .ok (.goto 20, 3) := by decide +kernel
theorem efkind8 (m : MethodId) (o0_ : Addr) : entryFrame m #[(.ref o0_)] 2 = mkF m 0 #[.val (.ref o0_), .unset] [] := by first | (simp [entryFrame, mkF, argsToLocals, Value.category]; done) | rfl
def Qkind8 (Z : State) (o0_ : Addr) (x0_ : Int32) (x1_ : Int32) (o1_ : Addr) (o2_ : Addr) (o3_ : Addr) (o4_ : Addr) (o5_ : Addr) (h0 : Heap) (n0 : Nat) (v : Option Value) (h : Heap) (L : List Loc) : Prop := ∃ r_ : Value, v = some r_ ∧ ((((.ref o1_) : Value) = r_ ∧ (x0_ = (1 : Int32))) ∨ (((.ref o2_) : Value) = r_ ∧ (¬ (x0_ = (1 : Int32))) ∧ (x0_ = (2 : Int32))) ∨ (((.ref o3_) : Value) = r_ ∧ (¬ (x0_ = (1 : Int32))) ∧ (¬ (x0_ = (2 : Int32))) ∧ (x0_ = (3 : Int32))) ∨ (((.ref o4_) : Value) = r_ ∧ (¬ (x0_ = (1 : Int32))) ∧ (¬ (x0_ = (2 : Int32))) ∧ (¬ (x0_ = (3 : Int32))) ∧ (x0_ = (4 : Int32))) ∨ (((.ref o5_) : Value) = r_ ∧ (¬ (x0_ = (1 : Int32))) ∧ (¬ (x0_ = (2 : Int32))) ∧ (¬ (x0_ = (3 : Int32))) ∧ (¬ (x0_ = (4 : Int32))) ∧ (x0_ = (6 : Int32))) ∨ (((.ref o5_) : Value) = r_ ∧ (¬ (x0_ = (1 : Int32))) ∧ (¬ (x0_ = (2 : Int32))) ∧ (¬ (x0_ = (3 : Int32))) ∧ (¬ (x0_ = (4 : Int32))) ∧ (¬ (x0_ = (6 : Int32))) ∧ (x0_ = (8 : Int32)))) ∧ Fr n0 L ∧ h = h0
set_option maxRecDepth 65536 in
set_option maxHeartbeats 40000000 in
theorem rmkind8 (l : Launch) (Z : State) (a0 : Array Value) (hw : ∀ d ∈ tables_1, d.before a0 Z = true) (ws : List Jvm.Cond) (o0_ : Addr) (x0_ : Int32) (x1_ : Int32) (o1_ : Addr) (o2_ : Addr) (o3_ : Addr) (o4_ : Addr) (o5_ : Addr) (h0 : Heap) (n0 : Nat) (O0 : Old Z n0 h0) (ha0 : ¬ (x0_ = (7 : Int32))) (ha1 : ¬ (x0_ = (5 : Int32))) (ha2 : ¬ (x0_ < (1 : Int32))) (ha3 : ¬ ((8 : Int32) < x0_)) (P4 : Exa Z h0 o0_ "com/example/stackweave/stackweave/classfile/VerificationType") (P5 : Fld Z h0 o0_ "com/example/stackweave/stackweave/classfile/VerificationType" "tag" "I" (.int x0_)) (P6 : Fld Z h0 o0_ "com/example/stackweave/stackweave/classfile/VerificationType" "className" "Ljava/lang/String;" .null) (P7 : Fld Z h0 o0_ "com/example/stackweave/stackweave/classfile/VerificationType" "newOffset" "I" (.int x1_)) (P8 : Exa Z Z.heap o1_ "com/example/stackweave/stackweave/classfile/ValueKind") (P9 : Fld Z Z.heap o1_ "java/lang/Enum" "ordinal" "I" (.int (0 : Int32))) (P10 : Sta Z Z.heap "com/example/stackweave/stackweave/classfile/ValueKind" "INT" "Lcom/example/stackweave/stackweave/classfile/ValueKind;" (.ref o1_)) (P11 : Exa Z Z.heap o2_ "com/example/stackweave/stackweave/classfile/ValueKind") (P12 : Fld Z Z.heap o2_ "java/lang/Enum" "ordinal" "I" (.int (2 : Int32))) (P13 : Sta Z Z.heap "com/example/stackweave/stackweave/classfile/ValueKind" "FLOAT" "Lcom/example/stackweave/stackweave/classfile/ValueKind;" (.ref o2_)) (P14 : Exa Z Z.heap o3_ "com/example/stackweave/stackweave/classfile/ValueKind") (P15 : Fld Z Z.heap o3_ "java/lang/Enum" "ordinal" "I" (.int (3 : Int32))) (P16 : Sta Z Z.heap "com/example/stackweave/stackweave/classfile/ValueKind" "DOUBLE" "Lcom/example/stackweave/stackweave/classfile/ValueKind;" (.ref o3_)) (P17 : Exa Z Z.heap o4_ "com/example/stackweave/stackweave/classfile/ValueKind") (P18 : Fld Z Z.heap o4_ "java/lang/Enum" "ordinal" "I" (.int (1 : Int32))) (P19 : Sta Z Z.heap "com/example/stackweave/stackweave/classfile/ValueKind" "LONG" "Lcom/example/stackweave/stackweave/classfile/ValueKind;" (.ref o4_)) (P20 : Exa Z Z.heap o5_ "com/example/stackweave/stackweave/classfile/ValueKind") (P21 : Fld Z Z.heap o5_ "java/lang/Enum" "ordinal" "I" (.int (4 : Int32))) (P22 : Sta Z Z.heap "com/example/stackweave/stackweave/classfile/ValueKind" "REFERENCE" "Lcom/example/stackweave/stackweave/classfile/ValueKind;" (.ref o5_)) :
    MetFree l (⟨"com/example/stackweave/stackweave/classfile/VerificationType", "kind", "()Lcom/example/stackweave/stackweave/classfile/ValueKind;"⟩ : MethodName) (head1 (Jvm.Cond.code (⟨"com/example/stackweave/stackweave/classfile/VerificationType", "kind", "()Lcom/example/stackweave/stackweave/classfile/ValueKind;"⟩ : MethodName) prog_38_method_13_code 2 (some (.object "com/example/stackweave/stackweave/classfile/ValueKind")) :: ws) ({ frames := 0, cells := 0, slots := 0, locals := 0 } : Room)) (fun a U => a = #[(.ref o0_)] ∧ Z.Warmed39 U.vm ∧ U.heap = h0) (fun _ _ _ _ _ => True) (fun _ U o U' => ∃ v L, o = .returned v ∧ Qkind8 Z o0_ x0_ x1_ o1_ o2_ o3_ o4_ o5_ h0 n0 v U'.heap L ∧ FrameEnd U o U' L ({ frames := 0, cells := 0, slots := 0, locals := 0 } : Room).cells ({ frames := 0, cells := 0, slots := 0, locals := 0 } : Room).slots) := by
  refine MetFree.of_bodySF (plainFor_of_name pn_1) hisR ?_
  intro p e s m args below meth c s₁ Bd hml0 hP hK
  obtain ⟨rfl, hZ, hh⟩ := hP
  have hx := Bd.exec
  have hby := Bd.bytes
  have hml : c.maxLocals = 2 := hml0
  have hown : s.vm.findClass "com/example/stackweave/stackweave/classfile/VerificationType" = some m.cls := findClass_of_methodNamed Bd.named
  have hnm := (name_of_methodNamed Bd.named Bd.method).1
  have X0 : Stand p l e ({ frames := 0, cells := 0, slots := 0, locals := 0 } : Room) s m #[(.ref o0_)] below meth c s₁ [] 0 0 := Stand.of_body Bd
  have e0 : s₁.heap = h0 := by rw [← hh, Bd.state]; rfl
  have N0 := Fr.nil n0
  have pre0 : ∀ t, Steps p.tables e below (s₁.setTop (mkF m 0 #[.val (.ref o0_), .unset] [])) t → Steps p.tables e below (s₁.setTop (entryFrame m #[(.ref o0_)] 2)) t := fun t k => castTop (efkind8 m o0_) k
  have K0 : Keep h0 h0 [] := Keep.refl _ _
  obtain ⟨T1, X1, e1, st1⟩ := getF X0 hx hZ hown (host := "") (Or.inl (hw _ (List.mem_of_getElem? (i := 42) rfl))) Via.refl e0 P5 (g := (mkF m 1 #[.val (.ref o0_), .unset] [(.ref o0_)])) rfl rfl (hb hby d4_1)
  have pre2 : ∀ t, Steps p.tables e below (T1.setTop (mkF m 4 #[.val (.ref o0_), .unset] [(.int x0_)])) t → Steps p.tables e below (s₁.setTop (entryFrame m #[(.ref o0_)] 2)) t := by
    intro t kt
    refine pre0 t ?_
    show Steps p.tables e below (s₁.setTop (mkF m 0 #[.val (.ref o0_), .unset] [])) _
    refine XS.aloadN X0.here hx rfl (hb hby d4_0) rfl rfl ?_
    show Steps p.tables e below (s₁.setTop (mkF m 1 #[.val (.ref o0_), .unset] [(.ref o0_)])) _
    refine st1 _ ?_
    exact kt
  by_cases hv3 : x0_ = (1 : Int32)
  · have pre4 : ∀ t, Steps p.tables e below (T1.setTop (mkF m 4 #[.val (.ref o0_), .unset] [(.int (1 : Int32))])) t → Steps p.tables e below (s₁.setTop (entryFrame m #[(.ref o0_)] 2)) t := fun t kt => pre2 t (by rw [hv3]; exact kt)
    obtain ⟨T5, X5, e5, st5⟩ := getS2 X1 hx hZ hown (host := "") (Or.inl (hw _ (List.mem_of_getElem? (i := 70) rfl))) Via.refl e1 (P10.ext O0.2) (g := (mkF m 52 #[.val (.ref o0_), .unset] [])) rfl (hb hby d4_52)
    have pre6 : ∀ t, Steps p.tables e below (T5.setTop (mkF m 98 #[.val (.ref o0_), .val (.ref o1_)] [(.ref o1_)])) t → Steps p.tables e below (s₁.setTop (entryFrame m #[(.ref o0_)] 2)) t := by
      intro t kt
      refine pre4 t ?_
      show Steps p.tables e below (T1.setTop (mkF m 4 #[.val (.ref o0_), .unset] [(.int (1 : Int32))])) _
      refine XS.tswIn X1.here hx rfl (pc0 := 4) (pc' := 52) (o := 48) rfl (hb hby d4_4) rfl (by decide) rfl (by decide) (by decide) ?_
      show Steps p.tables e below (T1.setTop (mkF m 52 #[.val (.ref o0_), .unset] [])) _
      refine st5 _ ?_
      show Steps p.tables e below (T5.setTop (mkF m 55 #[.val (.ref o0_), .unset] [(.ref o1_)])) _
      refine XS.astoreN X5.here hx rfl (hb hby d4_55) rfl rfl (l' := #[.val (.ref o0_), .val (.ref o1_)]) rfl ?_
      show Steps p.tables e below (T5.setTop (mkF m 56 #[.val (.ref o0_), .val (.ref o1_)] [])) _
      refine XS.goto X5.here hx rfl (pc0 := 56) (pc' := 97) rfl (hb hby d4_56) (by decide) (by decide) ?_
      show Steps p.tables e below (T5.setTop (mkF m 97 #[.val (.ref o0_), .val (.ref o1_)] [])) _
      refine XS.aloadN X5.here hx rfl (hb hby d4_97) rfl rfl ?_
      exact kt
    obtain ⟨fs, hr, hrun, hended, hW, hsame⟩ := X5.leave (v := some (.ref o1_)) (fun h => by rw [Bd.returns] at h; cases h)
    refine ⟨_, _, pre6 _ (retOut X5 hx Bd.returns rfl (Or.inr (Or.inr (Or.inr (Or.inr ⟨rfl, rfl, rfl⟩)))) (hb hby d4_98) hr), hrun, hended, _, _, rfl, ?_, ⟨_, rfl⟩, hW, hsame.mono (by decide) (by decide)⟩
    show Qkind8 Z o0_ x0_ x1_ o1_ o2_ o3_ o4_ o5_ h0 n0 _ T5.heap _
    rw [e5]
    exact ⟨(.ref o1_), rfl, (Or.inl ⟨rfl, hv3⟩), N0, rfl⟩
  · by_cases hv8 : x0_ = (2 : Int32)
    · have pre9 : ∀ t, Steps p.tables e below (T1.setTop (mkF m 4 #[.val (.ref o0_), .unset] [(.int (2 : Int32))])) t → Steps p.tables e below (s₁.setTop (entryFrame m #[(.ref o0_)] 2)) t := fun t kt => pre2 t (by rw [hv8]; exact kt)
      obtain ⟨T10, X10, e10, st10⟩ := getS2 X1 hx hZ hown (host := "") (Or.inl (hw _ (List.mem_of_getElem? (i := 74) rfl))) Via.refl e1 (P13.ext O0.2) (g := (mkF m 59 #[.val (.ref o0_), .unset] [])) rfl (hb hby d4_59)
      have pre11 : ∀ t, Steps p.tables e below (T10.setTop (mkF m 98 #[.val (.ref o0_), .val (.ref o2_)] [(.ref o2_)])) t → Steps p.tables e below (s₁.setTop (entryFrame m #[(.ref o0_)] 2)) t := by
        intro t kt
        refine pre9 t ?_
        show Steps p.tables e below (T1.setTop (mkF m 4 #[.val (.ref o0_), .unset] [(.int (2 : Int32))])) _
        refine XS.tswIn X1.here hx rfl (pc0 := 4) (pc' := 59) (o := 55) rfl (hb hby d4_4) rfl (by decide) rfl (by decide) (by decide) ?_
        show Steps p.tables e below (T1.setTop (mkF m 59 #[.val (.ref o0_), .unset] [])) _
        refine st10 _ ?_
        show Steps p.tables e below (T10.setTop (mkF m 62 #[.val (.ref o0_), .unset] [(.ref o2_)])) _
        refine XS.astoreN X10.here hx rfl (hb hby d4_62) rfl rfl (l' := #[.val (.ref o0_), .val (.ref o2_)]) rfl ?_
        show Steps p.tables e below (T10.setTop (mkF m 63 #[.val (.ref o0_), .val (.ref o2_)] [])) _
        refine XS.goto X10.here hx rfl (pc0 := 63) (pc' := 97) rfl (hb hby d4_63) (by decide) (by decide) ?_
        show Steps p.tables e below (T10.setTop (mkF m 97 #[.val (.ref o0_), .val (.ref o2_)] [])) _
        refine XS.aloadN X10.here hx rfl (hb hby d4_97) rfl rfl ?_
        exact kt
      obtain ⟨fs, hr, hrun, hended, hW, hsame⟩ := X10.leave (v := some (.ref o2_)) (fun h => by rw [Bd.returns] at h; cases h)
      refine ⟨_, _, pre11 _ (retOut X10 hx Bd.returns rfl (Or.inr (Or.inr (Or.inr (Or.inr ⟨rfl, rfl, rfl⟩)))) (hb hby d4_98) hr), hrun, hended, _, _, rfl, ?_, ⟨_, rfl⟩, hW, hsame.mono (by decide) (by decide)⟩
      show Qkind8 Z o0_ x0_ x1_ o1_ o2_ o3_ o4_ o5_ h0 n0 _ T10.heap _
      rw [e10]
      exact ⟨(.ref o2_), rfl, (Or.inr (Or.inl ⟨rfl, hv3, hv8⟩)), N0, rfl⟩
    · by_cases hv13 : x0_ = (3 : Int32)
      · have pre14 : ∀ t, Steps p.tables e below (T1.setTop (mkF m 4 #[.val (.ref o0_), .unset] [(.int (3 : Int32))])) t → Steps p.tables e below (s₁.setTop (entryFrame m #[(.ref o0_)] 2)) t := fun t kt => pre2 t (by rw [hv13]; exact kt)
        obtain ⟨T15, X15, e15, st15⟩ := getS2 X1 hx hZ hown (host := "") (Or.inl (hw _ (List.mem_of_getElem? (i := 59) rfl))) Via.refl e1 (P16.ext O0.2) (g := (mkF m 66 #[.val (.ref o0_), .unset] [])) rfl (hb hby d4_66)
        have pre16 : ∀ t, Steps p.tables e below (T15.setTop (mkF m 98 #[.val (.ref o0_), .val (.ref o3_)] [(.ref o3_)])) t → Steps p.tables e below (s₁.setTop (entryFrame m #[(.ref o0_)] 2)) t := by
          intro t kt
          refine pre14 t ?_
          show Steps p.tables e below (T1.setTop (mkF m 4 #[.val (.ref o0_), .unset] [(.int (3 : Int32))])) _
          refine XS.tswIn X1.here hx rfl (pc0 := 4) (pc' := 66) (o := 62) rfl (hb hby d4_4) rfl (by decide) rfl (by decide) (by decide) ?_
          show Steps p.tables e below (T1.setTop (mkF m 66 #[.val (.ref o0_), .unset] [])) _
          refine st15 _ ?_
          show Steps p.tables e below (T15.setTop (mkF m 69 #[.val (.ref o0_), .unset] [(.ref o3_)])) _
          refine XS.astoreN X15.here hx rfl (hb hby d4_69) rfl rfl (l' := #[.val (.ref o0_), .val (.ref o3_)]) rfl ?_
          show Steps p.tables e below (T15.setTop (mkF m 70 #[.val (.ref o0_), .val (.ref o3_)] [])) _
          refine XS.goto X15.here hx rfl (pc0 := 70) (pc' := 97) rfl (hb hby d4_70) (by decide) (by decide) ?_
          show Steps p.tables e below (T15.setTop (mkF m 97 #[.val (.ref o0_), .val (.ref o3_)] [])) _
          refine XS.aloadN X15.here hx rfl (hb hby d4_97) rfl rfl ?_
          exact kt
        obtain ⟨fs, hr, hrun, hended, hW, hsame⟩ := X15.leave (v := some (.ref o3_)) (fun h => by rw [Bd.returns] at h; cases h)
        refine ⟨_, _, pre16 _ (retOut X15 hx Bd.returns rfl (Or.inr (Or.inr (Or.inr (Or.inr ⟨rfl, rfl, rfl⟩)))) (hb hby d4_98) hr), hrun, hended, _, _, rfl, ?_, ⟨_, rfl⟩, hW, hsame.mono (by decide) (by decide)⟩
        show Qkind8 Z o0_ x0_ x1_ o1_ o2_ o3_ o4_ o5_ h0 n0 _ T15.heap _
        rw [e15]
        exact ⟨(.ref o3_), rfl, (Or.inr (Or.inr (Or.inl ⟨rfl, hv3, hv8, hv13⟩))), N0, rfl⟩
      · by_cases hv18 : x0_ = (4 : Int32)
        · have pre19 : ∀ t, Steps p.tables e below (T1.setTop (mkF m 4 #[.val (.ref o0_), .unset] [(.int (4 : Int32))])) t → Steps p.tables e below (s₁.setTop (entryFrame m #[(.ref o0_)] 2)) t := fun t kt => pre2 t (by rw [hv18]; exact kt)
          obtain ⟨T20, X20, e20, st20⟩ := getS2 X1 hx hZ hown (host := "") (Or.inl (hw _ (List.mem_of_getElem? (i := 72) rfl))) Via.refl e1 (P19.ext O0.2) (g := (mkF m 73 #[.val (.ref o0_), .unset] [])) rfl (hb hby d4_73)
          have pre21 : ∀ t, Steps p.tables e below (T20.setTop (mkF m 98 #[.val (.ref o0_), .val (.ref o4_)] [(.ref o4_)])) t → Steps p.tables e below (s₁.setTop (entryFrame m #[(.ref o0_)] 2)) t := by
            intro t kt
            refine pre19 t ?_
            show Steps p.tables e below (T1.setTop (mkF m 4 #[.val (.ref o0_), .unset] [(.int (4 : Int32))])) _
            refine XS.tswIn X1.here hx rfl (pc0 := 4) (pc' := 73) (o := 69) rfl (hb hby d4_4) rfl (by decide) rfl (by decide) (by decide) ?_
            show Steps p.tables e below (T1.setTop (mkF m 73 #[.val (.ref o0_), .unset] [])) _
            refine st20 _ ?_
            show Steps p.tables e below (T20.setTop (mkF m 76 #[.val (.ref o0_), .unset] [(.ref o4_)])) _
            refine XS.astoreN X20.here hx rfl (hb hby d4_76) rfl rfl (l' := #[.val (.ref o0_), .val (.ref o4_)]) rfl ?_
            show Steps p.tables e below (T20.setTop (mkF m 77 #[.val (.ref o0_), .val (.ref o4_)] [])) _
            refine XS.goto X20.here hx rfl (pc0 := 77) (pc' := 97) rfl (hb hby d4_77) (by decide) (by decide) ?_
            show Steps p.tables e below (T20.setTop (mkF m 97 #[.val (.ref o0_), .val (.ref o4_)] [])) _
            refine XS.aloadN X20.here hx rfl (hb hby d4_97) rfl rfl ?_
            exact kt
          obtain ⟨fs, hr, hrun, hended, hW, hsame⟩ := X20.leave (v := some (.ref o4_)) (fun h => by rw [Bd.returns] at h; cases h)
          refine ⟨_, _, pre21 _ (retOut X20 hx Bd.returns rfl (Or.inr (Or.inr (Or.inr (Or.inr ⟨rfl, rfl, rfl⟩)))) (hb hby d4_98) hr), hrun, hended, _, _, rfl, ?_, ⟨_, rfl⟩, hW, hsame.mono (by decide) (by decide)⟩
          show Qkind8 Z o0_ x0_ x1_ o1_ o2_ o3_ o4_ o5_ h0 n0 _ T20.heap _
          rw [e20]
          exact ⟨(.ref o4_), rfl, (Or.inr (Or.inr (Or.inr (Or.inl ⟨rfl, hv3, hv8, hv13, hv18⟩)))), N0, rfl⟩
        · by_cases hv23 : x0_ = (6 : Int32)
          · have pre24 : ∀ t, Steps p.tables e below (T1.setTop (mkF m 4 #[.val (.ref o0_), .unset] [(.int (6 : Int32))])) t → Steps p.tables e below (s₁.setTop (entryFrame m #[(.ref o0_)] 2)) t := fun t kt => pre2 t (by rw [hv23]; exact kt)
            obtain ⟨T25, X25, e25, st25⟩ := getS2 X1 hx hZ hown (host := "") (Or.inl (hw _ (List.mem_of_getElem? (i := 64) rfl))) Via.refl e1 (P22.ext O0.2) (g := (mkF m 80 #[.val (.ref o0_), .unset] [])) rfl (hb hby d4_80)
            have pre26 : ∀ t, Steps p.tables e below (T25.setTop (mkF m 98 #[.val (.ref o0_), .val (.ref o5_)] [(.ref o5_)])) t → Steps p.tables e below (s₁.setTop (entryFrame m #[(.ref o0_)] 2)) t := by
              intro t kt
              refine pre24 t ?_
              show Steps p.tables e below (T1.setTop (mkF m 4 #[.val (.ref o0_), .unset] [(.int (6 : Int32))])) _
              refine XS.tswIn X1.here hx rfl (pc0 := 4) (pc' := 80) (o := 76) rfl (hb hby d4_4) rfl (by decide) rfl (by decide) (by decide) ?_
              show Steps p.tables e below (T1.setTop (mkF m 80 #[.val (.ref o0_), .unset] [])) _
              refine st25 _ ?_
              show Steps p.tables e below (T25.setTop (mkF m 83 #[.val (.ref o0_), .unset] [(.ref o5_)])) _
              refine XS.astoreN X25.here hx rfl (hb hby d4_83) rfl rfl (l' := #[.val (.ref o0_), .val (.ref o5_)]) rfl ?_
              show Steps p.tables e below (T25.setTop (mkF m 84 #[.val (.ref o0_), .val (.ref o5_)] [])) _
              refine XS.goto X25.here hx rfl (pc0 := 84) (pc' := 97) rfl (hb hby d4_84) (by decide) (by decide) ?_
              show Steps p.tables e below (T25.setTop (mkF m 97 #[.val (.ref o0_), .val (.ref o5_)] [])) _
              refine XS.aloadN X25.here hx rfl (hb hby d4_97) rfl rfl ?_
              exact kt
            obtain ⟨fs, hr, hrun, hended, hW, hsame⟩ := X25.leave (v := some (.ref o5_)) (fun h => by rw [Bd.returns] at h; cases h)
            refine ⟨_, _, pre26 _ (retOut X25 hx Bd.returns rfl (Or.inr (Or.inr (Or.inr (Or.inr ⟨rfl, rfl, rfl⟩)))) (hb hby d4_98) hr), hrun, hended, _, _, rfl, ?_, ⟨_, rfl⟩, hW, hsame.mono (by decide) (by decide)⟩
            show Qkind8 Z o0_ x0_ x1_ o1_ o2_ o3_ o4_ o5_ h0 n0 _ T25.heap _
            rw [e25]
            exact ⟨(.ref o5_), rfl, (Or.inr (Or.inr (Or.inr (Or.inr (Or.inl ⟨rfl, hv3, hv8, hv13, hv18, hv23⟩))))), N0, rfl⟩
          · by_cases hv28 : x0_ = (8 : Int32)
            · have pre29 : ∀ t, Steps p.tables e below (T1.setTop (mkF m 4 #[.val (.ref o0_), .unset] [(.int (8 : Int32))])) t → Steps p.tables e below (s₁.setTop (entryFrame m #[(.ref o0_)] 2)) t := fun t kt => pre2 t (by rw [hv28]; exact kt)
              obtain ⟨T30, X30, e30, st30⟩ := getS2 X1 hx hZ hown (host := "") (Or.inl (hw _ (List.mem_of_getElem? (i := 64) rfl))) Via.refl e1 (P22.ext O0.2) (g := (mkF m 80 #[.val (.ref o0_), .unset] [])) rfl (hb hby d4_80)
              have pre31 : ∀ t, Steps p.tables e below (T30.setTop (mkF m 98 #[.val (.ref o0_), .val (.ref o5_)] [(.ref o5_)])) t → Steps p.tables e below (s₁.setTop (entryFrame m #[(.ref o0_)] 2)) t := by
                intro t kt
                refine pre29 t ?_
                show Steps p.tables e below (T1.setTop (mkF m 4 #[.val (.ref o0_), .unset] [(.int (8 : Int32))])) _
                refine XS.tswIn X1.here hx rfl (pc0 := 4) (pc' := 80) (o := 76) rfl (hb hby d4_4) rfl (by decide) rfl (by decide) (by decide) ?_
                show Steps p.tables e below (T1.setTop (mkF m 80 #[.val (.ref o0_), .unset] [])) _
                refine st30 _ ?_
                show Steps p.tables e below (T30.setTop (mkF m 83 #[.val (.ref o0_), .unset] [(.ref o5_)])) _
                refine XS.astoreN X30.here hx rfl (hb hby d4_83) rfl rfl (l' := #[.val (.ref o0_), .val (.ref o5_)]) rfl ?_
                show Steps p.tables e below (T30.setTop (mkF m 84 #[.val (.ref o0_), .val (.ref o5_)] [])) _
                refine XS.goto X30.here hx rfl (pc0 := 84) (pc' := 97) rfl (hb hby d4_84) (by decide) (by decide) ?_
                show Steps p.tables e below (T30.setTop (mkF m 97 #[.val (.ref o0_), .val (.ref o5_)] [])) _
                refine XS.aloadN X30.here hx rfl (hb hby d4_97) rfl rfl ?_
                exact kt
              obtain ⟨fs, hr, hrun, hended, hW, hsame⟩ := X30.leave (v := some (.ref o5_)) (fun h => by rw [Bd.returns] at h; cases h)
              refine ⟨_, _, pre31 _ (retOut X30 hx Bd.returns rfl (Or.inr (Or.inr (Or.inr (Or.inr ⟨rfl, rfl, rfl⟩)))) (hb hby d4_98) hr), hrun, hended, _, _, rfl, ?_, ⟨_, rfl⟩, hW, hsame.mono (by decide) (by decide)⟩
              show Qkind8 Z o0_ x0_ x1_ o1_ o2_ o3_ o4_ o5_ h0 n0 _ T30.heap _
              rw [e30]
              exact ⟨(.ref o5_), rfl, (Or.inr (Or.inr (Or.inr (Or.inr (Or.inr ⟨rfl, hv3, hv8, hv13, hv18, hv23, hv28⟩))))), N0, rfl⟩
            · exfalso
              have lt_0 : ((1 : Int32)).toInt = 1 := rfl
              have lt_1 : ((2 : Int32)).toInt = 2 := rfl
              have lt_2 : ((3 : Int32)).toInt = 3 := rfl
              have lt_3 : ((4 : Int32)).toInt = 4 := rfl
              have lt_4 : ((5 : Int32)).toInt = 5 := rfl
              have lt_5 : ((6 : Int32)).toInt = 6 := rfl
              have lt_6 : ((7 : Int32)).toInt = 7 := rfl
              have lt_7 : ((8 : Int32)).toInt = 8 := rfl
              simp only [Int32.lt_iff_toInt_lt, Int64.lt_iff_toInt_lt, ← Int32.toInt_inj, ← Int64.toInt_inj] at ha0 ha1 ha2 ha3 hv3 hv8 hv13 hv18 hv23 hv28
              omega
theorem d5_18 : decode prog_38_method_11_code 18 = .ok (.iconst 1, 1) := by decide +kernel
theorem d5_19 : decode prog_38_method_11_code 19 = .ok (.goto 4, 3) := by decide +kernel
theorem efisUninitialized9 (m : MethodId) (o0_ : Addr) : entryFrame m #[(.ref o0_)] 1 = mkF m 0 #[.val (.ref o0_)] [] := by first | (simp [entryFrame, mkF, argsToLocals, Value.category]; done) | rfl
def QisUninitialized9 (Z : State) (o0_ : Addr) (x0_ : Int32) (x1_ : Int32) (h0 : Heap) (n0 : Nat) (v : Option Value) (h : Heap) (L : List Loc) : Prop := v = some (.int (1 : Int32)) ∧ Fr n0 L ∧ h = h0
set_option maxRecDepth 65536 in
set_option maxHeartbeats 40000000 in
theorem rmisUninitialized9 (l : Launch) (Z : State) (a0 : Array Value) (hw : ∀ d ∈ tables_1, d.before a0 Z = true) (ws : List Jvm.Cond) (o0_ : Addr) (x0_ : Int32) (x1_ : Int32) (h0 : Heap) (n0 : Nat) (O0 : Old Z n0 h0) (ha0 : ¬ (x0_ = (7 : Int32))) (ha1 : ¬ (x0_ = (5 : Int32))) (ha2 : ¬ (x0_ < (1 : Int32))) (ha3 : ¬ ((8 : Int32) < x0_)) (ha4 : ¬ (x0_ = (1 : Int32))) (ha5 : ¬ (x0_ = (2 : Int32))) (ha6 : ¬ (x0_ = (3 : Int32))) (ha7 : ¬ (x0_ = (4 : Int32))) (ha8 : x0_ = (6 : Int32)) (P9 : Exa Z h0 o0_ "com/example/stackweave/stackweave/classfile/VerificationType") (P10 : Fld Z h0 o0_ "com/example/stackweave/stackweave/classfile/VerificationType" "tag" "I" (.int x0_)) (P11 : Fld Z h0 o0_ "com/example/stackweave/stackweave/classfile/VerificationType" "className" "Ljava/lang/String;" .null) (P12 : Fld Z h0 o0_ "com/example/stackweave/stackweave/classfile/VerificationType" "newOffset" "I" (.int x1_)) :
    MetFree l (⟨"com/example/stackweave/stackweave/classfile/VerificationType", "isUninitialized", "()Z"⟩ : MethodName) (head1 (Jvm.Cond.code (⟨"com/example/stackweave/stackweave/classfile/VerificationType", "isUninitialized", "()Z"⟩ : MethodName) prog_38_method_11_code 1 (some .boolean) :: ws) ({ frames := 0, cells := 0, slots := 0, locals := 0 } : Room)) (fun a U => a = #[(.ref o0_)] ∧ Z.Warmed39 U.vm ∧ U.heap = h0) (fun _ _ _ _ _ => True) (fun _ U o U' => ∃ v L, o = .returned v ∧ QisUninitialized9 Z o0_ x0_ x1_ h0 n0 v U'.heap L ∧ FrameEnd U o U' L ({ frames := 0, cells := 0, slots := 0, locals := 0 } : Room).cells ({ frames := 0, cells := 0, slots := 0, locals := 0 } : Room).slots) := by
  refine MetFree.of_bodySF (plainFor_of_name pn_1) hisR ?_
  intro p e s m args below meth c s₁ Bd hml0 hP hK
  obtain ⟨rfl, hZ, hh⟩ := hP
  have hx := Bd.exec
  have hby := Bd.bytes
  have hml : c.maxLocals = 1 := hml0
  have hown : s.vm.findClass "com/example/stackweave/stackweave/classfile/VerificationType" = some m.cls := findClass_of_methodNamed Bd.named
  have hnm := (name_of_methodNamed Bd.named Bd.method).1
  have X0 : Stand p l e ({ frames := 0, cells := 0, slots := 0, locals := 0 } : Room) s m #[(.ref o0_)] below meth c s₁ [] 0 0 := Stand.of_body Bd
  have e0 : s₁.heap = h0 := by rw [← hh, Bd.state]; rfl
  have N0 := Fr.nil n0
  have pre0 : ∀ t, Steps p.tables e below (s₁.setTop (mkF m 0 #[.val (.ref o0_)] [])) t → Steps p.tables e below (s₁.setTop (entryFrame m #[(.ref o0_)] 1)) t := fun t k => castTop (efisUninitialized9 m o0_) k
  have K0 : Keep h0 h0 [] := Keep.refl _ _
  obtain ⟨T1, X1, e1, st1⟩ := getF X0 hx hZ hown (host := "") (Or.inl (hw _ (List.mem_of_getElem? (i := 42) rfl))) Via.refl e0 P10 (g := (mkF m 1 #[.val (.ref o0_)] [(.ref o0_)])) rfl rfl (hb hby d5_1)
  have pre2 : ∀ t, Steps p.tables e below (T1.setTop (mkF m 23 #[.val (.ref o0_)] [(.int (1 : Int32))])) t → Steps p.tables e below (s₁.setTop (entryFrame m #[(.ref o0_)] 1)) t := by
    intro t kt
    refine pre0 t ?_
    show Steps p.tables e below (s₁.setTop (mkF m 0 #[.val (.ref o0_)] [])) _
    refine XS.aloadN X0.here hx rfl (hb hby d5_0) rfl rfl ?_
    show Steps p.tables e below (s₁.setTop (mkF m 1 #[.val (.ref o0_)] [(.ref o0_)])) _
    refine st1 _ ?_
    show Steps p.tables e below (T1.setTop (mkF m 4 #[.val (.ref o0_)] [(.int x0_)])) _
    refine XS.bipush X1.here hx rfl (hb hby d5_4) ?_
    show Steps p.tables e below (T1.setTop (mkF m 6 #[.val (.ref o0_)] [(.int (6 : Int32)), (.int x0_)])) _
    refine XS.icmpYes X1.here hx rfl (pc0 := 6) (pc' := 18) rfl (hb hby d5_6) rfl (teq ha8).1 (by decide) (by decide) ?_
    show Steps p.tables e below (T1.setTop (mkF m 18 #[.val (.ref o0_)] [])) _
    refine XS.iconst X1.here hx rfl (hb hby d5_18) ?_
    show Steps p.tables e below (T1.setTop (mkF m 19 #[.val (.ref o0_)] [(.int (1 : Int32))])) _
    refine XS.goto X1.here hx rfl (pc0 := 19) (pc' := 23) rfl (hb hby d5_19) (by decide) (by decide) ?_
    exact kt
  obtain ⟨fs, hr, hrun, hended, hW, hsame⟩ := X1.leave (v := some (.int (1 : Int32))) (fun h => by rw [Bd.returns] at h; cases h)
  refine ⟨_, _, pre2 _ (retN X1 hx (t := .boolean) Bd.returns (by simp) (hb hby d5_23) hr), hrun, hended, _, _, rfl, ?_, ⟨_, rfl⟩, hW, hsame.mono (by decide) (by decide)⟩
  show QisUninitialized9 Z o0_ x0_ x1_ h0 n0 _ T1.heap _
  rw [e1]
  exact ⟨rfl, N0, rfl⟩
theorem efisUninitialized10 (m : MethodId) (o0_ : Addr) : entryFrame m #[(.ref o0_)] 1 = mkF m 0 #[.val (.ref o0_)] [] := by first | (simp [entryFrame, mkF, argsToLocals, Value.category]; done) | rfl
def QisUninitialized10 (Z : State) (o0_ : Addr) (x0_ : Int32) (x1_ : Int32) (h0 : Heap) (n0 : Nat) (v : Option Value) (h : Heap) (L : List Loc) : Prop := v = some (.int (1 : Int32)) ∧ Fr n0 L ∧ h = h0
set_option maxRecDepth 65536 in
set_option maxHeartbeats 40000000 in
theorem rmisUninitialized10 (l : Launch) (Z : State) (a0 : Array Value) (hw : ∀ d ∈ tables_1, d.before a0 Z = true) (ws : List Jvm.Cond) (o0_ : Addr) (x0_ : Int32) (x1_ : Int32) (h0 : Heap) (n0 : Nat) (O0 : Old Z n0 h0) (ha0 : ¬ (x0_ = (7 : Int32))) (ha1 : ¬ (x0_ = (5 : Int32))) (ha2 : ¬ (x0_ < (1 : Int32))) (ha3 : ¬ ((8 : Int32) < x0_)) (ha4 : ¬ (x0_ = (1 : Int32))) (ha5 : ¬ (x0_ = (2 : Int32))) (ha6 : ¬ (x0_ = (3 : Int32))) (ha7 : ¬ (x0_ = (4 : Int32))) (ha8 : ¬ (x0_ = (6 : Int32))) (ha9 : x0_ = (8 : Int32)) (P10 : Exa Z h0 o0_ "com/example/stackweave/stackweave/classfile/VerificationType") (P11 : Fld Z h0 o0_ "com/example/stackweave/stackweave/classfile/VerificationType" "tag" "I" (.int x0_)) (P12 : Fld Z h0 o0_ "com/example/stackweave/stackweave/classfile/VerificationType" "className" "Ljava/lang/String;" .null) (P13 : Fld Z h0 o0_ "com/example/stackweave/stackweave/classfile/VerificationType" "newOffset" "I" (.int x1_)) :
    MetFree l (⟨"com/example/stackweave/stackweave/classfile/VerificationType", "isUninitialized", "()Z"⟩ : MethodName) (head1 (Jvm.Cond.code (⟨"com/example/stackweave/stackweave/classfile/VerificationType", "isUninitialized", "()Z"⟩ : MethodName) prog_38_method_11_code 1 (some .boolean) :: ws) ({ frames := 0, cells := 0, slots := 0, locals := 0 } : Room)) (fun a U => a = #[(.ref o0_)] ∧ Z.Warmed39 U.vm ∧ U.heap = h0) (fun _ _ _ _ _ => True) (fun _ U o U' => ∃ v L, o = .returned v ∧ QisUninitialized10 Z o0_ x0_ x1_ h0 n0 v U'.heap L ∧ FrameEnd U o U' L ({ frames := 0, cells := 0, slots := 0, locals := 0 } : Room).cells ({ frames := 0, cells := 0, slots := 0, locals := 0 } : Room).slots) := by
  refine MetFree.of_bodySF (plainFor_of_name pn_1) hisR ?_
  intro p e s m args below meth c s₁ Bd hml0 hP hK
  obtain ⟨rfl, hZ, hh⟩ := hP
  have hx := Bd.exec
  have hby := Bd.bytes
  have hml : c.maxLocals = 1 := hml0
  have hown : s.vm.findClass "com/example/stackweave/stackweave/classfile/VerificationType" = some m.cls := findClass_of_methodNamed Bd.named
  have hnm := (name_of_methodNamed Bd.named Bd.method).1
  have X0 : Stand p l e ({ frames := 0, cells := 0, slots := 0, locals := 0 } : Room) s m #[(.ref o0_)] below meth c s₁ [] 0 0 := Stand.of_body Bd
  have e0 : s₁.heap = h0 := by rw [← hh, Bd.state]; rfl
  have N0 := Fr.nil n0
  have pre0 : ∀ t, Steps p.tables e below (s₁.setTop (mkF m 0 #[.val (.ref o0_)] [])) t → Steps p.tables e below (s₁.setTop (entryFrame m #[(.ref o0_)] 1)) t := fun t k => castTop (efisUninitialized10 m o0_) k
  have K0 : Keep h0 h0 [] := Keep.refl _ _
  obtain ⟨T1, X1, e1, st1⟩ := getF X0 hx hZ hown (host := "") (Or.inl (hw _ (List.mem_of_getElem? (i := 42) rfl))) Via.refl e0 P11 (g := (mkF m 1 #[.val (.ref o0_)] [(.ref o0_)])) rfl rfl (hb hby d5_1)
  obtain ⟨T2, X2, e2, st2⟩ := getF X1 hx hZ hown (host := "") (Or.inl (hw _ (List.mem_of_getElem? (i := 42) rfl))) Via.refl e1 P11 (g := (mkF m 10 #[.val (.ref o0_)] [(.ref o0_)])) rfl rfl (hb hby d5_10)
  have pre3 : ∀ t, Steps p.tables e below (T2.setTop (mkF m 23 #[.val (.ref o0_)] [(.int (1 : Int32))])) t → Steps p.tables e below (s₁.setTop (entryFrame m #[(.ref o0_)] 1)) t := by
    intro t kt
    refine pre0 t ?_
    show Steps p.tables e below (s₁.setTop (mkF m 0 #[.val (.ref o0_)] [])) _
    refine XS.aloadN X0.here hx rfl (hb hby d5_0) rfl rfl ?_
    show Steps p.tables e below (s₁.setTop (mkF m 1 #[.val (.ref o0_)] [(.ref o0_)])) _
    refine st1 _ ?_
    show Steps p.tables e below (T1.setTop (mkF m 4 #[.val (.ref o0_)] [(.int x0_)])) _
    refine XS.bipush X1.here hx rfl (hb hby d5_4) ?_
    show Steps p.tables e below (T1.setTop (mkF m 6 #[.val (.ref o0_)] [(.int (6 : Int32)), (.int x0_)])) _
    refine XS.icmpNo X1.here hx rfl (hb hby d5_6) rfl (feq ha8).1 ?_
    show Steps p.tables e below (T1.setTop (mkF m 9 #[.val (.ref o0_)] [])) _
    refine XS.aloadN X1.here hx rfl (hb hby d5_9) rfl rfl ?_
    show Steps p.tables e below (T1.setTop (mkF m 10 #[.val (.ref o0_)] [(.ref o0_)])) _
    refine st2 _ ?_
    show Steps p.tables e below (T2.setTop (mkF m 13 #[.val (.ref o0_)] [(.int x0_)])) _
    refine XS.bipush X2.here hx rfl (hb hby d5_13) ?_
    show Steps p.tables e below (T2.setTop (mkF m 15 #[.val (.ref o0_)] [(.int (8 : Int32)), (.int x0_)])) _
    refine XS.icmpNo X2.here hx rfl (hb hby d5_15) rfl (teq ha9).2 ?_
    show Steps p.tables e below (T2.setTop (mkF m 18 #[.val (.ref o0_)] [])) _
    refine XS.iconst X2.here hx rfl (hb hby d5_18) ?_
    show Steps p.tables e below (T2.setTop (mkF m 19 #[.val (.ref o0_)] [(.int (1 : Int32))])) _
    refine XS.goto X2.here hx rfl (pc0 := 19) (pc' := 23) rfl (hb hby d5_19) (by decide) (by decide) ?_
    exact kt
  obtain ⟨fs, hr, hrun, hended, hW, hsame⟩ := X2.leave (v := some (.int (1 : Int32))) (fun h => by rw [Bd.returns] at h; cases h)
  refine ⟨_, _, pre3 _ (retN X2 hx (t := .boolean) Bd.returns (by simp) (hb hby d5_23) hr), hrun, hended, _, _, rfl, ?_, ⟨_, rfl⟩, hW, hsame.mono (by decide) (by decide)⟩
  show QisUninitialized10 Z o0_ x0_ x1_ h0 n0 _ T2.heap _
  rw [e2]
  exact ⟨rfl, N0, rfl⟩
theorem d6_0 : decode jdk_42_method_3_code 0 = .ok (.aload_n 0, 1) := by decide +kernel
theorem d6_1 : decode jdk_42_method_3_code 1 = .ok (.aload_n 1, 1) := by decide +kernel
theorem d6_2 : decode jdk_42_method_3_code 2 = .ok (.iconst 0, 1) := by decide +kernel
theorem d6_3 : decode jdk_42_method_3_code 3 = .ok (.aload_n 1, 1) := by decide +kernel
theorem d6_4 : decode jdk_42_method_3_code 4 = .ok (.arraylength, 1) := by decide +kernel
theorem d6_5 : decode jdk_42_method_3_code 5 = .ok (.aconst_null, 1) := by decide +kernel
theorem d6_6 : decode jdk_42_method_3_code 6 = .ok (.invokespecial 27, 3) := by decide +kernel
theorem d7_0 : decode jdk_42_method_149_code 0 = .ok (.aload_n 0, 1) := by decide +kernel
theorem d7_1 : decode jdk_42_method_149_code 1 = .ok (.invokespecial 1, 3) := by decide +kernel
theorem d7_4 : decode jdk_42_method_149_code 4 = .ok (.iload_n 3, 1) := by decide +kernel
theorem d7_5 : decode jdk_42_method_149_code 5 = .ok (.ifCond .ne 22, 3) := by decide +kernel
theorem d7_27 : decode jdk_42_method_149_code 27 = .ok (.getstatic 38, 3) := by decide +kernel
theorem d7_30 : decode jdk_42_method_149_code 30 = .ok (.ifCond .eq 28, 3) := by decide +kernel
theorem d7_33 : decode jdk_42_method_149_code 33 = .ok (.aload_n 1, 1) := by decide +kernel
theorem d7_34 : decode jdk_42_method_149_code 34 = .ok (.iload_n 2, 1) := by decide +kernel
theorem d7_35 : decode jdk_42_method_149_code 35 = .ok (.iload_n 3, 1) := by decide +kernel
theorem d7_36 : decode jdk_42_method_149_code 36 = .ok (.invokestatic 177, 3) := by decide +kernel
theorem d8_0 : decode jdk_52_method_16_code 0 = .ok (.iload_n 2, 1) := by decide +kernel
theorem d8_1 : decode jdk_52_method_16_code 1 = .ok (.newarray .byte, 2) := by decide +kernel
theorem d8_3 : decode jdk_52_method_16_code 3 = .ok (.astore_n 3, 1) := by decide +kernel
theorem d8_4 : decode jdk_52_method_16_code 4 = .ok (.aload_n 0, 1) := by decide +kernel
theorem d8_5 : decode jdk_52_method_16_code 5 = .ok (.iload_n 1, 1) := by decide +kernel
theorem d8_6 : decode jdk_52_method_16_code 6 = .ok (.aload_n 3, 1) := by decide +kernel
theorem d8_7 : decode jdk_52_method_16_code 7 = .ok (.iconst 0, 1) := by decide +kernel
theorem d8_8 : decode jdk_52_method_16_code 8 = .ok (.iload_n 2, 1) := by decide +kernel
theorem d8_9 : decode jdk_52_method_16_code 9 = .ok (.invokestatic 115, 3) := by decide +kernel
theorem d9_0 : decode jdk_52_method_21_code 0 = .ok (.iconst 0, 1) := by decide +kernel
theorem d9_1 : decode jdk_52_method_21_code 1 = .ok (.istore 5, 2) := by decide +kernel
theorem d9_3 : decode jdk_52_method_21_code 3 = .ok (.iload 5, 2) := by decide +kernel
theorem d9_5 : decode jdk_52_method_21_code 5 = .ok (.iload 4, 2) := by decide +kernel
theorem d9_7 : decode jdk_52_method_21_code 7 = .ok (.if_icmp .ge 37, 3) := by decide +kernel
theorem d9_10 : decode jdk_52_method_21_code 10 = .ok (.aload_n 0, 1) := by decide +kernel
theorem d9_11 : decode jdk_52_method_21_code 11 = .ok (.iload_n 1, 1) := by decide +kernel
theorem d9_12 : decode jdk_52_method_21_code 12 = .ok (.caload, 1) := by decide +kernel
theorem d9_13 : decode jdk_52_method_21_code 13 = .ok (.istore 6, 2) := by decide +kernel
theorem d9_15 : decode jdk_52_method_21_code 15 = .ok (.iload 6, 2) := by decide +kernel
theorem d9_17 : decode jdk_52_method_21_code 17 = .ok (.sipush 255, 3) := by decide +kernel
theorem d9_20 : decode jdk_52_method_21_code 20 = .ok (.if_icmp .le 6, 3) := by decide +kernel
theorem d9_26 : decode jdk_52_method_21_code 26 = .ok (.aload_n 2, 1) := by decide +kernel
theorem d9_27 : decode jdk_52_method_21_code 27 = .ok (.iload_n 3, 1) := by decide +kernel
theorem d9_28 : decode jdk_52_method_21_code 28 = .ok (.iload 6, 2) := by decide +kernel
theorem d9_30 : decode jdk_52_method_21_code 30 = .ok (.i2b, 1) := by decide +kernel
theorem d9_31 : decode jdk_52_method_21_code 31 = .ok (.bastore, 1) := by decide +kernel
theorem d9_32 : decode jdk_52_method_21_code 32 = .ok (.iinc 1 1, 3) := by decide +kernel
theorem d9_35 : decode jdk_52_method_21_code 35 = .ok (.iinc 3 1, 3) := by decide +kernel
theorem d9_38 : decode jdk_52_method_21_code 38 = .ok (.iinc 5 1, 3) := by decide +kernel
theorem d9_41 : decode jdk_52_method_21_code 41 = .ok (.goto (-38), 3) := by decide +kernel
theorem d9_44 : decode jdk_52_method_21_code 44 = .ok (.iload 4, 2) := by decide +kernel
theorem d9_46 : decode jdk_52_method_21_code 46 = .ok (.ireturn, 1) := by decide +kernel
theorem pn_2 : plainName "java/lang/StringUTF16" = true := by first | (simp [plainName, overriddenIn]; done) | decide +kernel
theorem efcompress15 (m : MethodId) (o0_ : Addr) (o1_ : Addr) : entryFrame m #[(.ref o0_), (.int (0 : Int32)), (.ref o1_), (.int (0 : Int32)), (.int (2 : Int32))] 7 = mkF m 0 #[.val (.ref o0_), .val (.int (0 : Int32)), .val (.ref o1_), .val (.int (0 : Int32)), .val (.int (2 : Int32)), .unset, .unset] [] := by first | (simp [entryFrame, mkF, argsToLocals, Value.category]; done) | rfl
def Qcompress15 (Z : State) (o0_ : Addr) (o1_ : Addr) (ko0_ : ClassId) (x0_ : Int32) (x1_ : Int32) (ko1_ : ClassId) (h0 : Heap) (n0 : Nat) (v : Option Value) (h : Heap) (L : List Loc) : Prop := v = some (.int (2 : Int32)) ∧ Fr n0 L ∧ Keep h0 h [o1_] ∧ Arv Z h o1_ ko1_ .byte (2 : Int32) [(.int (x0_.toInt8.toInt32)), (.int (x1_.toInt8.toInt32))] (.int (0 : Int32)) ∧ Exa Z h o1_ "[B"
set_option maxRecDepth 65536 in
set_option maxHeartbeats 40000000 in
theorem rmcompress15 (l : Launch) (Z : State) (a0 : Array Value) (hw : ∀ d ∈ tables_1, d.before a0 Z = true) (ws : List Jvm.Cond) (o0_ : Addr) (o1_ : Addr) (ko0_ : ClassId) (x0_ : Int32) (x1_ : Int32) (ko1_ : ClassId) (h0 : Heap) (n0 : Nat) (O0 : Old Z n0 h0) (ha0 : ¬ ((255 : Int32) < x0_)) (ha1 : ¬ ((255 : Int32) < x1_)) (P2 : Arv Z h0 o0_ ko0_ .char (2 : Int32) [(.int x0_), (.int x1_)] (.int (0 : Int32))) (P3 : Exa Z h0 o0_ "[C") (P4 : Arv Z h0 o1_ ko1_ .byte (2 : Int32) [(.int (0 : Int32)), (.int (0 : Int32))] (.int (0 : Int32))) (P5 : Exa Z h0 o1_ "[B") (P6 : n0 ≤ o1_) (P7 : o0_ ≠ o1_) :
    MetFree l (⟨"java/lang/StringUTF16", "compress", "([CI[BII)I"⟩ : MethodName) (head1 (Jvm.Cond.code (⟨"java/lang/StringUTF16", "compress", "([CI[BII)I"⟩ : MethodName) jdk_52_method_21_code 7 (some .int) :: ws) ({ frames := 0, cells := 0, slots := 0, locals := 0 } : Room)) (fun a U => a = #[(.ref o0_), (.int (0 : Int32)), (.ref o1_), (.int (0 : Int32)), (.int (2 : Int32))] ∧ Z.Warmed39 U.vm ∧ U.heap = h0) (fun _ _ _ _ _ => True) (fun _ U o U' => ∃ v L, o = .returned v ∧ Qcompress15 Z o0_ o1_ ko0_ x0_ x1_ ko1_ h0 n0 v U'.heap L ∧ FrameEnd U o U' L ({ frames := 0, cells := 0, slots := 0, locals := 0 } : Room).cells ({ frames := 0, cells := 0, slots := 0, locals := 0 } : Room).slots) := by
  refine MetFree.of_bodySF (plainFor_of_name pn_2) hisR ?_
  intro p e s m args below meth c s₁ Bd hml0 hP hK
  obtain ⟨rfl, hZ, hh⟩ := hP
  have hx := Bd.exec
  have hby := Bd.bytes
  have hml : c.maxLocals = 7 := hml0
  have hown : s.vm.findClass "java/lang/StringUTF16" = some m.cls := findClass_of_methodNamed Bd.named
  have hnm := (name_of_methodNamed Bd.named Bd.method).1
  have X0 : Stand p l e ({ frames := 0, cells := 0, slots := 0, locals := 0 } : Room) s m #[(.ref o0_), (.int (0 : Int32)), (.ref o1_), (.int (0 : Int32)), (.int (2 : Int32))] below meth c s₁ [] 0 0 := Stand.of_body Bd
  have e0 : s₁.heap = h0 := by rw [← hh, Bd.state]; rfl
  have N0 := Fr.nil n0
  have pre0 : ∀ t, Steps p.tables e below (s₁.setTop (mkF m 0 #[.val (.ref o0_), .val (.int (0 : Int32)), .val (.ref o1_), .val (.int (0 : Int32)), .val (.int (2 : Int32)), .unset, .unset] [])) t → Steps p.tables e below (s₁.setTop (entryFrame m #[(.ref o0_), (.int (0 : Int32)), (.ref o1_), (.int (0 : Int32)), (.int (2 : Int32))] 7)) t := fun t k => castTop (efcompress15 m o0_ o1_) k
  have K0 : Keep h0 h0 [o1_] := Keep.refl _ _
  obtain ⟨c1, r1, q1, s1, z1, y1, G1⟩ := id P2
  have hin1 : ¬ ((0 : Int32) < 0 ∨ c1.slots.size ≤ ((0 : Int32)).toNatClampNeg) := inb_of s1 ⟨by decide, by decide⟩
  have hat1 : c1.slots[((0 : Int32)).toNatClampNeg]? = some (.int x0_) := Has.at y1 hin1 rfl
  obtain ⟨c2, r2, q2, s2, z2, y2, G2⟩ := id P4
  have hin2 : ¬ ((0 : Int32) < 0 ∨ c2.slots.size ≤ ((0 : Int32)).toNatClampNeg) := inb_of s2 ⟨by decide, by decide⟩
  obtain ⟨T2, h2, X2, e2, W2, st2⟩ := stB X0 hx hZ e0 r2 (j := (0 : Int32)) hin2 (g := (mkF m 31 #[.val (.ref o0_), .val (.int (0 : Int32)), .val (.ref o1_), .val (.int (0 : Int32)), .val (.int (2 : Int32)), .val (.int (0 : Int32)), .val (.int x0_)] [(.int (x0_.toInt8.toInt32)), (.int (0 : Int32)), (.ref o1_)])) rfl rfl (hb hby d9_31)
  have N3 := Fr.snoc X2 N0 P6
  have f4 : Arv Z h2 o1_ ko1_ .byte (2 : Int32) [(.int ((x0_.toInt8.toInt32).toInt8.toInt32)), (.int (0 : Int32))] (.int (0 : Int32)) := Arv.set r2 q2 s2 z2 y2 G2 (fits_nar_byte _) W2 0 rfl (Nat.le_of_ble_eq_true rfl)
  have f5 : Arv Z h2 o1_ ko1_ .byte (2 : Int32) [(.int (x0_.toInt8.toInt32)), (.int (0 : Int32))] (.int (0 : Int32)) := by have q := f4; rw [own_i2b2] at q; exact q
  have f6 : Arv Z h2 o0_ ko0_ .char (2 : Int32) [(.int x0_), (.int x1_)] (.int (0 : Int32)) := P2.other W2 P7
  obtain ⟨c7, r7, q7, s7, z7, y7, G7⟩ := id f6
  have hin7 : ¬ ((1 : Int32) < 0 ∨ c7.slots.size ≤ ((1 : Int32)).toNatClampNeg) := inb_of s7 ⟨by decide, by decide⟩
  have hat7 : c7.slots[((1 : Int32)).toNatClampNeg]? = some (.int x1_) := Has.at y7 hin7 rfl
  obtain ⟨c8, r8, q8, s8, z8, y8, G8⟩ := id f5
  have hin8 : ¬ ((1 : Int32) < 0 ∨ c8.slots.size ≤ ((1 : Int32)).toNatClampNeg) := inb_of s8 ⟨by decide, by decide⟩
  obtain ⟨T8, h8, X8, e8, W8, st8⟩ := stB X2 hx hZ e2 r8 (j := (1 : Int32)) hin8 (g := (mkF m 31 #[.val (.ref o0_), .val (.int (1 : Int32)), .val (.ref o1_), .val (.int (1 : Int32)), .val (.int (2 : Int32)), .val (.int (1 : Int32)), .val (.int x1_)] [(.int (x1_.toInt8.toInt32)), (.int (1 : Int32)), (.ref o1_)])) rfl rfl (hb hby d9_31)
  have N9 := Fr.snoc X8 N3 P6
  have f10 : Arv Z h8 o1_ ko1_ .byte (2 : Int32) [(.int (x0_.toInt8.toInt32)), (.int ((x1_.toInt8.toInt32).toInt8.toInt32))] (.int (0 : Int32)) := Arv.set r8 q8 s8 z8 y8 G8 (fits_nar_byte _) W8 1 rfl (Nat.le_of_ble_eq_true rfl)
  have f11 : Arv Z h8 o1_ ko1_ .byte (2 : Int32) [(.int (x0_.toInt8.toInt32)), (.int (x1_.toInt8.toInt32))] (.int (0 : Int32)) := by have q := f10; rw [own_i2b2] at q; exact q
  have pre12 : ∀ t, Steps p.tables e below (T8.setTop (mkF m 46 #[.val (.ref o0_), .val (.int (2 : Int32)), .val (.ref o1_), .val (.int (2 : Int32)), .val (.int (2 : Int32)), .val (.int (2 : Int32)), .val (.int x1_)] [(.int (2 : Int32))])) t → Steps p.tables e below (s₁.setTop (entryFrame m #[(.ref o0_), (.int (0 : Int32)), (.ref o1_), (.int (0 : Int32)), (.int (2 : Int32))] 7)) t := by
    intro t kt
    refine pre0 t ?_
    show Steps p.tables e below (s₁.setTop (mkF m 0 #[.val (.ref o0_), .val (.int (0 : Int32)), .val (.ref o1_), .val (.int (0 : Int32)), .val (.int (2 : Int32)), .unset, .unset] [])) _
    refine XS.iconst X0.here hx rfl (hb hby d9_0) ?_
    show Steps p.tables e below (s₁.setTop (mkF m 1 #[.val (.ref o0_), .val (.int (0 : Int32)), .val (.ref o1_), .val (.int (0 : Int32)), .val (.int (2 : Int32)), .unset, .unset] [(.int (0 : Int32))])) _
    refine XS.istore X0.here hx rfl (hb hby d9_1) rfl (l' := #[.val (.ref o0_), .val (.int (0 : Int32)), .val (.ref o1_), .val (.int (0 : Int32)), .val (.int (2 : Int32)), .val (.int (0 : Int32)), .unset]) rfl ?_
    show Steps p.tables e below (s₁.setTop (mkF m 3 #[.val (.ref o0_), .val (.int (0 : Int32)), .val (.ref o1_), .val (.int (0 : Int32)), .val (.int (2 : Int32)), .val (.int (0 : Int32)), .unset] [])) _
    refine XS.iload X0.here hx rfl (hb hby d9_3) rfl ?_
    show Steps p.tables e below (s₁.setTop (mkF m 5 #[.val (.ref o0_), .val (.int (0 : Int32)), .val (.ref o1_), .val (.int (0 : Int32)), .val (.int (2 : Int32)), .val (.int (0 : Int32)), .unset] [(.int (0 : Int32))])) _
    refine XS.iload X0.here hx rfl (hb hby d9_5) rfl ?_
    show Steps p.tables e below (s₁.setTop (mkF m 7 #[.val (.ref o0_), .val (.int (0 : Int32)), .val (.ref o1_), .val (.int (0 : Int32)), .val (.int (2 : Int32)), .val (.int (0 : Int32)), .unset] [(.int (2 : Int32)), (.int (0 : Int32))])) _
    refine XS.icmpNo X0.here hx rfl (hb hby d9_7) rfl (tlt (by decide : (0 : Int32) < (2 : Int32))).2.1 ?_
    show Steps p.tables e below (s₁.setTop (mkF m 10 #[.val (.ref o0_), .val (.int (0 : Int32)), .val (.ref o1_), .val (.int (0 : Int32)), .val (.int (2 : Int32)), .val (.int (0 : Int32)), .unset] [])) _
    refine XS.aloadN X0.here hx rfl (hb hby d9_10) rfl rfl ?_
    show Steps p.tables e below (s₁.setTop (mkF m 11 #[.val (.ref o0_), .val (.int (0 : Int32)), .val (.ref o1_), .val (.int (0 : Int32)), .val (.int (2 : Int32)), .val (.int (0 : Int32)), .unset] [(.ref o0_)])) _
    refine XS.iloadN X0.here hx rfl (hb hby d9_11) rfl ?_
    show Steps p.tables e below (s₁.setTop (mkF m 12 #[.val (.ref o0_), .val (.int (0 : Int32)), .val (.ref o1_), .val (.int (0 : Int32)), .val (.int (2 : Int32)), .val (.int (0 : Int32)), .unset] [(.int (0 : Int32)), (.ref o0_)])) _
    refine X0.caload hx (j := (0 : Int32)) (v := (.int x0_)) (by rw [e0]; exact r1.1) (State.isArrayOf_alike hZ.alike r1.2.1) r1.2.2 hin1 hat1 (g := (mkF m 12 #[.val (.ref o0_), .val (.int (0 : Int32)), .val (.ref o1_), .val (.int (0 : Int32)), .val (.int (2 : Int32)), .val (.int (0 : Int32)), .unset] [(.int (0 : Int32)), (.ref o0_)])) rfl rfl (hb hby d9_12) _ ?_
    show Steps p.tables e below (s₁.setTop (mkF m 13 #[.val (.ref o0_), .val (.int (0 : Int32)), .val (.ref o1_), .val (.int (0 : Int32)), .val (.int (2 : Int32)), .val (.int (0 : Int32)), .unset] [(.int x0_)])) _
    refine XS.istore X0.here hx rfl (hb hby d9_13) rfl (l' := #[.val (.ref o0_), .val (.int (0 : Int32)), .val (.ref o1_), .val (.int (0 : Int32)), .val (.int (2 : Int32)), .val (.int (0 : Int32)), .val (.int x0_)]) rfl ?_
    show Steps p.tables e below (s₁.setTop (mkF m 15 #[.val (.ref o0_), .val (.int (0 : Int32)), .val (.ref o1_), .val (.int (0 : Int32)), .val (.int (2 : Int32)), .val (.int (0 : Int32)), .val (.int x0_)] [])) _
    refine XS.iload X0.here hx rfl (hb hby d9_15) rfl ?_
    show Steps p.tables e below (s₁.setTop (mkF m 17 #[.val (.ref o0_), .val (.int (0 : Int32)), .val (.ref o1_), .val (.int (0 : Int32)), .val (.int (2 : Int32)), .val (.int (0 : Int32)), .val (.int x0_)] [(.int x0_)])) _
    refine XS.sipush X0.here hx rfl (hb hby d9_17) ?_
    show Steps p.tables e below (s₁.setTop (mkF m 20 #[.val (.ref o0_), .val (.int (0 : Int32)), .val (.ref o1_), .val (.int (0 : Int32)), .val (.int (2 : Int32)), .val (.int (0 : Int32)), .val (.int x0_)] [(.int (255 : Int32)), (.int x0_)])) _
    refine XS.icmpYes X0.here hx rfl (pc0 := 20) (pc' := 26) rfl (hb hby d9_20) rfl (flt ha0).2.2.2 (by decide) (by decide) ?_
    show Steps p.tables e below (s₁.setTop (mkF m 26 #[.val (.ref o0_), .val (.int (0 : Int32)), .val (.ref o1_), .val (.int (0 : Int32)), .val (.int (2 : Int32)), .val (.int (0 : Int32)), .val (.int x0_)] [])) _
    refine XS.aloadN X0.here hx rfl (hb hby d9_26) rfl rfl ?_
    show Steps p.tables e below (s₁.setTop (mkF m 27 #[.val (.ref o0_), .val (.int (0 : Int32)), .val (.ref o1_), .val (.int (0 : Int32)), .val (.int (2 : Int32)), .val (.int (0 : Int32)), .val (.int x0_)] [(.ref o1_)])) _
    refine XS.iloadN X0.here hx rfl (hb hby d9_27) rfl ?_
    show Steps p.tables e below (s₁.setTop (mkF m 28 #[.val (.ref o0_), .val (.int (0 : Int32)), .val (.ref o1_), .val (.int (0 : Int32)), .val (.int (2 : Int32)), .val (.int (0 : Int32)), .val (.int x0_)] [(.int (0 : Int32)), (.ref o1_)])) _
    refine XS.iload X0.here hx rfl (hb hby d9_28) rfl ?_
    show Steps p.tables e below (s₁.setTop (mkF m 30 #[.val (.ref o0_), .val (.int (0 : Int32)), .val (.ref o1_), .val (.int (0 : Int32)), .val (.int (2 : Int32)), .val (.int (0 : Int32)), .val (.int x0_)] [(.int x0_), (.int (0 : Int32)), (.ref o1_)])) _
    refine XS.i2b X0.here hx rfl (hb hby d9_30) rfl ?_
    show Steps p.tables e below (s₁.setTop (mkF m 31 #[.val (.ref o0_), .val (.int (0 : Int32)), .val (.ref o1_), .val (.int (0 : Int32)), .val (.int (2 : Int32)), .val (.int (0 : Int32)), .val (.int x0_)] [(.int (x0_.toInt8.toInt32)), (.int (0 : Int32)), (.ref o1_)])) _
    refine st2 _ ?_
    show Steps p.tables e below (T2.setTop (mkF m 32 #[.val (.ref o0_), .val (.int (0 : Int32)), .val (.ref o1_), .val (.int (0 : Int32)), .val (.int (2 : Int32)), .val (.int (0 : Int32)), .val (.int x0_)] [])) _
    refine XS.iinc X2.here hx rfl (hb hby d9_32) rfl (l' := #[.val (.ref o0_), .val (.int (1 : Int32)), .val (.ref o1_), .val (.int (0 : Int32)), .val (.int (2 : Int32)), .val (.int (0 : Int32)), .val (.int x0_)]) rfl ?_
    show Steps p.tables e below (T2.setTop (mkF m 35 #[.val (.ref o0_), .val (.int (1 : Int32)), .val (.ref o1_), .val (.int (0 : Int32)), .val (.int (2 : Int32)), .val (.int (0 : Int32)), .val (.int x0_)] [])) _
    refine XS.iinc X2.here hx rfl (hb hby d9_35) rfl (l' := #[.val (.ref o0_), .val (.int (1 : Int32)), .val (.ref o1_), .val (.int (1 : Int32)), .val (.int (2 : Int32)), .val (.int (0 : Int32)), .val (.int x0_)]) rfl ?_
    show Steps p.tables e below (T2.setTop (mkF m 38 #[.val (.ref o0_), .val (.int (1 : Int32)), .val (.ref o1_), .val (.int (1 : Int32)), .val (.int (2 : Int32)), .val (.int (0 : Int32)), .val (.int x0_)] [])) _
    refine XS.iinc X2.here hx rfl (hb hby d9_38) rfl (l' := #[.val (.ref o0_), .val (.int (1 : Int32)), .val (.ref o1_), .val (.int (1 : Int32)), .val (.int (2 : Int32)), .val (.int (1 : Int32)), .val (.int x0_)]) rfl ?_
    show Steps p.tables e below (T2.setTop (mkF m 41 #[.val (.ref o0_), .val (.int (1 : Int32)), .val (.ref o1_), .val (.int (1 : Int32)), .val (.int (2 : Int32)), .val (.int (1 : Int32)), .val (.int x0_)] [])) _
    refine XS.goto X2.here hx rfl (pc0 := 41) (pc' := 3) rfl (hb hby d9_41) (by decide) (by decide) ?_
    show Steps p.tables e below (T2.setTop (mkF m 3 #[.val (.ref o0_), .val (.int (1 : Int32)), .val (.ref o1_), .val (.int (1 : Int32)), .val (.int (2 : Int32)), .val (.int (1 : Int32)), .val (.int x0_)] [])) _
    refine XS.iload X2.here hx rfl (hb hby d9_3) rfl ?_
    show Steps p.tables e below (T2.setTop (mkF m 5 #[.val (.ref o0_), .val (.int (1 : Int32)), .val (.ref o1_), .val (.int (1 : Int32)), .val (.int (2 : Int32)), .val (.int (1 : Int32)), .val (.int x0_)] [(.int (1 : Int32))])) _
    refine XS.iload X2.here hx rfl (hb hby d9_5) rfl ?_
    show Steps p.tables e below (T2.setTop (mkF m 7 #[.val (.ref o0_), .val (.int (1 : Int32)), .val (.ref o1_), .val (.int (1 : Int32)), .val (.int (2 : Int32)), .val (.int (1 : Int32)), .val (.int x0_)] [(.int (2 : Int32)), (.int (1 : Int32))])) _
    refine XS.icmpNo X2.here hx rfl (hb hby d9_7) rfl (tlt (by decide : (1 : Int32) < (2 : Int32))).2.1 ?_
    show Steps p.tables e below (T2.setTop (mkF m 10 #[.val (.ref o0_), .val (.int (1 : Int32)), .val (.ref o1_), .val (.int (1 : Int32)), .val (.int (2 : Int32)), .val (.int (1 : Int32)), .val (.int x0_)] [])) _
    refine XS.aloadN X2.here hx rfl (hb hby d9_10) rfl rfl ?_
    show Steps p.tables e below (T2.setTop (mkF m 11 #[.val (.ref o0_), .val (.int (1 : Int32)), .val (.ref o1_), .val (.int (1 : Int32)), .val (.int (2 : Int32)), .val (.int (1 : Int32)), .val (.int x0_)] [(.ref o0_)])) _
    refine XS.iloadN X2.here hx rfl (hb hby d9_11) rfl ?_
    show Steps p.tables e below (T2.setTop (mkF m 12 #[.val (.ref o0_), .val (.int (1 : Int32)), .val (.ref o1_), .val (.int (1 : Int32)), .val (.int (2 : Int32)), .val (.int (1 : Int32)), .val (.int x0_)] [(.int (1 : Int32)), (.ref o0_)])) _
    refine X2.caload hx (j := (1 : Int32)) (v := (.int x1_)) (by rw [e2]; exact r7.1) (State.isArrayOf_alike hZ.alike r7.2.1) r7.2.2 hin7 hat7 (g := (mkF m 12 #[.val (.ref o0_), .val (.int (1 : Int32)), .val (.ref o1_), .val (.int (1 : Int32)), .val (.int (2 : Int32)), .val (.int (1 : Int32)), .val (.int x0_)] [(.int (1 : Int32)), (.ref o0_)])) rfl rfl (hb hby d9_12) _ ?_
    show Steps p.tables e below (T2.setTop (mkF m 13 #[.val (.ref o0_), .val (.int (1 : Int32)), .val (.ref o1_), .val (.int (1 : Int32)), .val (.int (2 : Int32)), .val (.int (1 : Int32)), .val (.int x0_)] [(.int x1_)])) _
    refine XS.istore X2.here hx rfl (hb hby d9_13) rfl (l' := #[.val (.ref o0_), .val (.int (1 : Int32)), .val (.ref o1_), .val (.int (1 : Int32)), .val (.int (2 : Int32)), .val (.int (1 : Int32)), .val (.int x1_)]) rfl ?_
    show Steps p.tables e below (T2.setTop (mkF m 15 #[.val (.ref o0_), .val (.int (1 : Int32)), .val (.ref o1_), .val (.int (1 : Int32)), .val (.int (2 : Int32)), .val (.int (1 : Int32)), .val (.int x1_)] [])) _
    refine XS.iload X2.here hx rfl (hb hby d9_15) rfl ?_
    show Steps p.tables e below (T2.setTop (mkF m 17 #[.val (.ref o0_), .val (.int (1 : Int32)), .val (.ref o1_), .val (.int (1 : Int32)), .val (.int (2 : Int32)), .val (.int (1 : Int32)), .val (.int x1_)] [(.int x1_)])) _
    refine XS.sipush X2.here hx rfl (hb hby d9_17) ?_
    show Steps p.tables e below (T2.setTop (mkF m 20 #[.val (.ref o0_), .val (.int (1 : Int32)), .val (.ref o1_), .val (.int (1 : Int32)), .val (.int (2 : Int32)), .val (.int (1 : Int32)), .val (.int x1_)] [(.int (255 : Int32)), (.int x1_)])) _
    refine XS.icmpYes X2.here hx rfl (pc0 := 20) (pc' := 26) rfl (hb hby d9_20) rfl (flt ha1).2.2.2 (by decide) (by decide) ?_
    show Steps p.tables e below (T2.setTop (mkF m 26 #[.val (.ref o0_), .val (.int (1 : Int32)), .val (.ref o1_), .val (.int (1 : Int32)), .val (.int (2 : Int32)), .val (.int (1 : Int32)), .val (.int x1_)] [])) _
    refine XS.aloadN X2.here hx rfl (hb hby d9_26) rfl rfl ?_
    show Steps p.tables e below (T2.setTop (mkF m 27 #[.val (.ref o0_), .val (.int (1 : Int32)), .val (.ref o1_), .val (.int (1 : Int32)), .val (.int (2 : Int32)), .val (.int (1 : Int32)), .val (.int x1_)] [(.ref o1_)])) _
    refine XS.iloadN X2.here hx rfl (hb hby d9_27) rfl ?_
    show Steps p.tables e below (T2.setTop (mkF m 28 #[.val (.ref o0_), .val (.int (1 : Int32)), .val (.ref o1_), .val (.int (1 : Int32)), .val (.int (2 : Int32)), .val (.int (1 : Int32)), .val (.int x1_)] [(.int (1 : Int32)), (.ref o1_)])) _
    refine XS.iload X2.here hx rfl (hb hby d9_28) rfl ?_
    show Steps p.tables e below (T2.setTop (mkF m 30 #[.val (.ref o0_), .val (.int (1 : Int32)), .val (.ref o1_), .val (.int (1 : Int32)), .val (.int (2 : Int32)), .val (.int (1 : Int32)), .val (.int x1_)] [(.int x1_), (.int (1 : Int32)), (.ref o1_)])) _
    refine XS.i2b X2.here hx rfl (hb hby d9_30) rfl ?_
    show Steps p.tables e below (T2.setTop (mkF m 31 #[.val (.ref o0_), .val (.int (1 : Int32)), .val (.ref o1_), .val (.int (1 : Int32)), .val (.int (2 : Int32)), .val (.int (1 : Int32)), .val (.int x1_)] [(.int (x1_.toInt8.toInt32)), (.int (1 : Int32)), (.ref o1_)])) _
    refine st8 _ ?_
    show Steps p.tables e below (T8.setTop (mkF m 32 #[.val (.ref o0_), .val (.int (1 : Int32)), .val (.ref o1_), .val (.int (1 : Int32)), .val (.int (2 : Int32)), .val (.int (1 : Int32)), .val (.int x1_)] [])) _
    refine XS.iinc X8.here hx rfl (hb hby d9_32) rfl (l' := #[.val (.ref o0_), .val (.int (2 : Int32)), .val (.ref o1_), .val (.int (1 : Int32)), .val (.int (2 : Int32)), .val (.int (1 : Int32)), .val (.int x1_)]) rfl ?_
    show Steps p.tables e below (T8.setTop (mkF m 35 #[.val (.ref o0_), .val (.int (2 : Int32)), .val (.ref o1_), .val (.int (1 : Int32)), .val (.int (2 : Int32)), .val (.int (1 : Int32)), .val (.int x1_)] [])) _
    refine XS.iinc X8.here hx rfl (hb hby d9_35) rfl (l' := #[.val (.ref o0_), .val (.int (2 : Int32)), .val (.ref o1_), .val (.int (2 : Int32)), .val (.int (2 : Int32)), .val (.int (1 : Int32)), .val (.int x1_)]) rfl ?_
    show Steps p.tables e below (T8.setTop (mkF m 38 #[.val (.ref o0_), .val (.int (2 : Int32)), .val (.ref o1_), .val (.int (2 : Int32)), .val (.int (2 : Int32)), .val (.int (1 : Int32)), .val (.int x1_)] [])) _
    refine XS.iinc X8.here hx rfl (hb hby d9_38) rfl (l' := #[.val (.ref o0_), .val (.int (2 : Int32)), .val (.ref o1_), .val (.int (2 : Int32)), .val (.int (2 : Int32)), .val (.int (2 : Int32)), .val (.int x1_)]) rfl ?_
    show Steps p.tables e below (T8.setTop (mkF m 41 #[.val (.ref o0_), .val (.int (2 : Int32)), .val (.ref o1_), .val (.int (2 : Int32)), .val (.int (2 : Int32)), .val (.int (2 : Int32)), .val (.int x1_)] [])) _
    refine XS.goto X8.here hx rfl (pc0 := 41) (pc' := 3) rfl (hb hby d9_41) (by decide) (by decide) ?_
    show Steps p.tables e below (T8.setTop (mkF m 3 #[.val (.ref o0_), .val (.int (2 : Int32)), .val (.ref o1_), .val (.int (2 : Int32)), .val (.int (2 : Int32)), .val (.int (2 : Int32)), .val (.int x1_)] [])) _
    refine XS.iload X8.here hx rfl (hb hby d9_3) rfl ?_
    show Steps p.tables e below (T8.setTop (mkF m 5 #[.val (.ref o0_), .val (.int (2 : Int32)), .val (.ref o1_), .val (.int (2 : Int32)), .val (.int (2 : Int32)), .val (.int (2 : Int32)), .val (.int x1_)] [(.int (2 : Int32))])) _
    refine XS.iload X8.here hx rfl (hb hby d9_5) rfl ?_
    show Steps p.tables e below (T8.setTop (mkF m 7 #[.val (.ref o0_), .val (.int (2 : Int32)), .val (.ref o1_), .val (.int (2 : Int32)), .val (.int (2 : Int32)), .val (.int (2 : Int32)), .val (.int x1_)] [(.int (2 : Int32)), (.int (2 : Int32))])) _
    refine XS.icmpYes X8.here hx rfl (pc0 := 7) (pc' := 44) rfl (hb hby d9_7) rfl (flt (by decide : ¬ ((2 : Int32) < (2 : Int32)))).2.1 (by decide) (by decide) ?_
    show Steps p.tables e below (T8.setTop (mkF m 44 #[.val (.ref o0_), .val (.int (2 : Int32)), .val (.ref o1_), .val (.int (2 : Int32)), .val (.int (2 : Int32)), .val (.int (2 : Int32)), .val (.int x1_)] [])) _
    refine XS.iload X8.here hx rfl (hb hby d9_44) rfl ?_
    exact kt
  have f14 : Keep h0 h2 [o1_] := K0.wr W2 (Or.inl (List.mem_of_getElem? (i := 0) rfl))
  have f15 : Keep h0 h8 [o1_] := f14.wr W8 (Or.inl (List.mem_of_getElem? (i := 0) rfl))
  have f16 : Exa Z h2 o1_ "[B" := P5.wr W2
  have f17 : Exa Z h8 o1_ "[B" := f16.wr W8
  obtain ⟨fs, hr, hrun, hended, hW, hsame⟩ := X8.leave (v := some (.int (2 : Int32))) (fun h => by rw [Bd.returns] at h; cases h)
  refine ⟨_, _, pre12 _ (retOut X8 hx Bd.returns rfl (Or.inl ⟨rfl, Or.inl rfl, _, rfl⟩) (hb hby d9_46) hr), hrun, hended, _, _, rfl, ?_, ⟨_, rfl⟩, hW, hsame.mono (by decide) (by decide)⟩
  show Qcompress15 Z o0_ o1_ ko0_ x0_ x1_ ko1_ h0 n0 _ T8.heap _
  rw [e8]
  exact ⟨rfl, N9, f15, f11, f17⟩
theorem pd_4 : parseMethodDescriptor "([CI[BII)I" = some ⟨[(.array .char), .int, (.array .byte), .int, .int], some .int⟩ := by decide +kernel
theorem d8_12 : decode jdk_52_method_16_code 12 = .ok (.istore 4, 2) := by decide +kernel
theorem d8_14 : decode jdk_52_method_16_code 14 = .ok (.iload 4, 2) := by decide +kernel
theorem d8_16 : decode jdk_52_method_16_code 16 = .ok (.iload_n 2, 1) := by decide +kernel
theorem d8_17 : decode jdk_52_method_16_code 17 = .ok (.if_icmp .eq 40, 3) := by decide +kernel
theorem d8_57 : decode jdk_52_method_16_code 57 = .ok (.aload_n 3, 1) := by decide +kernel
theorem d8_58 : decode jdk_52_method_16_code 58 = .ok (.areturn, 1) := by decide +kernel
theorem efcompress14 (m : MethodId) (o0_ : Addr) : entryFrame m #[(.ref o0_), (.int (0 : Int32)), (.int (2 : Int32))] 6 = mkF m 0 #[.val (.ref o0_), .val (.int (0 : Int32)), .val (.int (2 : Int32)), .unset, .unset, .unset] [] := by first | (simp [entryFrame, mkF, argsToLocals, Value.category]; done) | rfl
def Qcompress14 (Z : State) (o0_ : Addr) (ko0_ : ClassId) (x0_ : Int32) (x1_ : Int32) (h0 : Heap) (n0 : Nat) (v : Option Value) (h : Heap) (L : List Loc) : Prop := ∃ k1 : ClassId, ∃ nb1 : Addr, v = some (.ref nb1) ∧ Fr n0 L ∧ Keep h0 h [] ∧ h0.size ≤ nb1 ∧ Arv Z h nb1 k1 .byte (2 : Int32) [(.int (x0_.toInt8.toInt32)), (.int (x1_.toInt8.toInt32))] (.int (0 : Int32)) ∧ Exa Z h nb1 "[B"
set_option maxRecDepth 65536 in
set_option maxHeartbeats 40000000 in
theorem rmcompress14 (l : Launch) (Z : State) (a0 : Array Value) (hw : ∀ d ∈ tables_1, d.before a0 Z = true) (ws : List Jvm.Cond) (o0_ : Addr) (ko0_ : ClassId) (x0_ : Int32) (x1_ : Int32) (h0 : Heap) (n0 : Nat) (O0 : Old Z n0 h0) (ha0 : ¬ ((255 : Int32) < x0_)) (ha1 : ¬ ((255 : Int32) < x1_)) (P2 : Arv Z h0 o0_ ko0_ .char (2 : Int32) [(.int x0_), (.int x1_)] (.int (0 : Int32))) (P3 : Exa Z h0 o0_ "[C") :
    MetFree l (⟨"java/lang/StringUTF16", "compress", "([CII)[B"⟩ : MethodName) (head1 (Jvm.Cond.code (⟨"java/lang/StringUTF16", "compress", "([CII)[B"⟩ : MethodName) jdk_52_method_16_code 6 (some (.array .byte)) :: ws) ({ frames := 1, cells := 1, slots := 2, locals := 18 } : Room)) (fun a U => a = #[(.ref o0_), (.int (0 : Int32)), (.int (2 : Int32))] ∧ Z.Warmed39 U.vm ∧ U.heap = h0) (fun _ _ _ _ _ => True) (fun _ U o U' => ∃ v L, o = .returned v ∧ Qcompress14 Z o0_ ko0_ x0_ x1_ h0 n0 v U'.heap L ∧ FrameEnd U o U' L ({ frames := 1, cells := 1, slots := 2, locals := 18 } : Room).cells ({ frames := 1, cells := 1, slots := 2, locals := 18 } : Room).slots) := by
  refine MetFree.of_bodySF (plainFor_of_name pn_2) hisR ?_
  intro p e s m args below meth c s₁ Bd hml0 hP hK
  obtain ⟨rfl, hZ, hh⟩ := hP
  have hx := Bd.exec
  have hby := Bd.bytes
  have hml : c.maxLocals = 6 := hml0
  have hown : s.vm.findClass "java/lang/StringUTF16" = some m.cls := findClass_of_methodNamed Bd.named
  have hnm := (name_of_methodNamed Bd.named Bd.method).1
  have X0 : Stand p l e ({ frames := 1, cells := 1, slots := 2, locals := 18 } : Room) s m #[(.ref o0_), (.int (0 : Int32)), (.int (2 : Int32))] below meth c s₁ [] 0 0 := Stand.of_body Bd
  have e0 : s₁.heap = h0 := by rw [← hh, Bd.state]; rfl
  have N0 := Fr.nil n0
  have pre0 : ∀ t, Steps p.tables e below (s₁.setTop (mkF m 0 #[.val (.ref o0_), .val (.int (0 : Int32)), .val (.int (2 : Int32)), .unset, .unset, .unset] [])) t → Steps p.tables e below (s₁.setTop (entryFrame m #[(.ref o0_), (.int (0 : Int32)), (.int (2 : Int32))] 6)) t := fun t k => castTop (efcompress14 m o0_) k
  have K0 : Keep h0 h0 [] := Keep.refl _ _
  obtain ⟨T1, h1, k1, X1, e1, E1, A1, Z1, st1⟩ := newPE X0 hx hZ (hw _ (List.mem_of_getElem? (i := 19) rfl)) e0 (g := (mkF m 1 #[.val (.ref o0_), .val (.int (0 : Int32)), .val (.int (2 : Int32)), .unset, .unset, .unset] [(.int (2 : Int32))])) rfl (hb hby d8_1) rfl (by decide) (cap := 2) (by decide) (by decide) (by decide) (by decide) (ad := "[B") (by decide)
  obtain ⟨b1, g1⟩ : ∃ z, z = h0.size := ⟨_, rfl⟩
  rw [← g1] at A1 Z1 st1
  have ge2 : n0 ≤ b1 := Nat.le_trans (Nat.le_trans (Nat.le_of_eq O0.1.symm) O0.2.1) (Nat.le_of_eq g1.symm)
  have sz3 : h0.size ≤ b1 := Nat.le_trans K0.1 (Nat.le_of_eq g1.symm)
  have f4 : Arv Z h1 b1 k1 .byte (2 : Int32) [(.int (0 : Int32)), (.int (0 : Int32))] (.int (0 : Int32)) := (Arv.new A1 (by decide)).pad (pad_rep [] (.int (0 : Int32)) 2)
  have f6 : Arv Z h1 o0_ ko0_ .char (2 : Int32) [(.int x0_), (.int x1_)] (.int (0 : Int32)) := P2.ext E1
  have f7 : Exa Z h1 o0_ "[C" := P3.ext E1
  have ne8 : o0_ ≠ b1 := Nat.ne_of_lt (Nat.lt_of_lt_of_le P2.lt (Nat.le_of_eq g1.symm))
  have f9 : Old Z n0 h1 := O0.ext E1
  obtain ⟨_, _, ⟨T5, L5, k5, n5⟩, -, X5, ⟨Lc5, hQ5, l5, y5, z5⟩, st5⟩ := Jvm.LawKit.callS X1 hx (y := (⟨"java/lang/StringUTF16", "compress", "([CI[BII)I"⟩ : MethodName)) hown (mvT hZ (hw _ (List.mem_of_getElem? (i := 20) rfl))) (mvT hZ (hw _ (List.mem_of_getElem? (i := 21) rfl))) (mvT hZ (hw _ (List.mem_of_getElem? (i := 17) rfl))) (mvT hZ (hw _ (List.mem_of_getElem? (i := 22) rfl))) (by decide) (backOf (W := 0) (rmcompress15 l Z a0 hw [] o0_ b1 ko0_ x0_ x1_ k1 h1 n0 f9 ha0 ha1 f6 f7 f4 Z1 ge2 ne8) hZ (hw _ (List.mem_of_getElem? (i := 22) rfl)) (hw _ (List.mem_of_getElem? (i := 17) rfl)) (by decide) (by decide)) (g := (mkF m 9 #[.val (.ref o0_), .val (.int (0 : Int32)), .val (.int (2 : Int32)), .val (.ref b1), .unset, .unset] [(.int (2 : Int32)), (.int (0 : Int32)), (.ref b1), (.int (0 : Int32)), (.ref o0_)])) rfl (by rw [hml]; rfl) (argsL := [(.ref o0_), (.int (0 : Int32)), (.ref b1), (.int (0 : Int32)), (.int (2 : Int32))]) (rest := []) (lenOf pd_4 rfl) rfl (by show 2 * 0 + _ ≤ _; exact Nat.le_of_eq rfl) (hb hby d8_9) (fun _ _ => ⟨rfl, e1, (by decide : 1 + 0 ≤ _), (by decide : 2 + 0 ≤ _)⟩)
  dsimp only [Pt.U, Pt.locs, Pt.cells, Pt.slots] at X5 l5 y5 z5 st5 hQ5
  subst l5 y5 z5
  obtain ⟨h5, e5⟩ : ∃ z, T5.heap = z := ⟨_, rfl⟩
  rw [e5] at hQ5
  obtain ⟨rfl, N5q, K5, g5_0, g5_1⟩ := hQ5
  have N10 := Fr.app N0 N5q
  have pre11 : ∀ t, Steps p.tables e below (T5.setTop (mkF m 58 #[.val (.ref o0_), .val (.int (0 : Int32)), .val (.int (2 : Int32)), .val (.ref b1), .val (.int (2 : Int32)), .unset] [(.ref b1)])) t → Steps p.tables e below (s₁.setTop (entryFrame m #[(.ref o0_), (.int (0 : Int32)), (.int (2 : Int32))] 6)) t := by
    intro t kt
    refine pre0 t ?_
    show Steps p.tables e below (s₁.setTop (mkF m 0 #[.val (.ref o0_), .val (.int (0 : Int32)), .val (.int (2 : Int32)), .unset, .unset, .unset] [])) _
    refine XS.iloadN X0.here hx rfl (hb hby d8_0) rfl ?_
    show Steps p.tables e below (s₁.setTop (mkF m 1 #[.val (.ref o0_), .val (.int (0 : Int32)), .val (.int (2 : Int32)), .unset, .unset, .unset] [(.int (2 : Int32))])) _
    refine st1 _ ?_
    show Steps p.tables e below (T1.setTop (mkF m 3 #[.val (.ref o0_), .val (.int (0 : Int32)), .val (.int (2 : Int32)), .unset, .unset, .unset] [(.ref b1)])) _
    refine XS.astoreN X1.here hx rfl (hb hby d8_3) rfl rfl (l' := #[.val (.ref o0_), .val (.int (0 : Int32)), .val (.int (2 : Int32)), .val (.ref b1), .unset, .unset]) rfl ?_
    show Steps p.tables e below (T1.setTop (mkF m 4 #[.val (.ref o0_), .val (.int (0 : Int32)), .val (.int (2 : Int32)), .val (.ref b1), .unset, .unset] [])) _
    refine XS.aloadN X1.here hx rfl (hb hby d8_4) rfl rfl ?_
    show Steps p.tables e below (T1.setTop (mkF m 5 #[.val (.ref o0_), .val (.int (0 : Int32)), .val (.int (2 : Int32)), .val (.ref b1), .unset, .unset] [(.ref o0_)])) _
    refine XS.iloadN X1.here hx rfl (hb hby d8_5) rfl ?_
    show Steps p.tables e below (T1.setTop (mkF m 6 #[.val (.ref o0_), .val (.int (0 : Int32)), .val (.int (2 : Int32)), .val (.ref b1), .unset, .unset] [(.int (0 : Int32)), (.ref o0_)])) _
    refine XS.aloadN X1.here hx rfl (hb hby d8_6) rfl rfl ?_
    show Steps p.tables e below (T1.setTop (mkF m 7 #[.val (.ref o0_), .val (.int (0 : Int32)), .val (.int (2 : Int32)), .val (.ref b1), .unset, .unset] [(.ref b1), (.int (0 : Int32)), (.ref o0_)])) _
    refine XS.iconst X1.here hx rfl (hb hby d8_7) ?_
    show Steps p.tables e below (T1.setTop (mkF m 8 #[.val (.ref o0_), .val (.int (0 : Int32)), .val (.int (2 : Int32)), .val (.ref b1), .unset, .unset] [(.int (0 : Int32)), (.ref b1), (.int (0 : Int32)), (.ref o0_)])) _
    refine XS.iloadN X1.here hx rfl (hb hby d8_8) rfl ?_
    show Steps p.tables e below (T1.setTop (mkF m 9 #[.val (.ref o0_), .val (.int (0 : Int32)), .val (.int (2 : Int32)), .val (.ref b1), .unset, .unset] [(.int (2 : Int32)), (.int (0 : Int32)), (.ref b1), (.int (0 : Int32)), (.ref o0_)])) _
    refine st5 _ ?_
    show Steps p.tables e below (T5.setTop (mkF m 12 #[.val (.ref o0_), .val (.int (0 : Int32)), .val (.int (2 : Int32)), .val (.ref b1), .unset, .unset] [(.int (2 : Int32))])) _
    refine XS.istore X5.here hx rfl (hb hby d8_12) rfl (l' := #[.val (.ref o0_), .val (.int (0 : Int32)), .val (.int (2 : Int32)), .val (.ref b1), .val (.int (2 : Int32)), .unset]) rfl ?_
    show Steps p.tables e below (T5.setTop (mkF m 14 #[.val (.ref o0_), .val (.int (0 : Int32)), .val (.int (2 : Int32)), .val (.ref b1), .val (.int (2 : Int32)), .unset] [])) _
    refine XS.iload X5.here hx rfl (hb hby d8_14) rfl ?_
    show Steps p.tables e below (T5.setTop (mkF m 16 #[.val (.ref o0_), .val (.int (0 : Int32)), .val (.int (2 : Int32)), .val (.ref b1), .val (.int (2 : Int32)), .unset] [(.int (2 : Int32))])) _
    refine XS.iloadN X5.here hx rfl (hb hby d8_16) rfl ?_
    show Steps p.tables e below (T5.setTop (mkF m 17 #[.val (.ref o0_), .val (.int (0 : Int32)), .val (.int (2 : Int32)), .val (.ref b1), .val (.int (2 : Int32)), .unset] [(.int (2 : Int32)), (.int (2 : Int32))])) _
    refine XS.icmpYes X5.here hx rfl (pc0 := 17) (pc' := 57) rfl (hb hby d8_17) rfl (teq (by decide : (2 : Int32) = (2 : Int32))).1 (by decide) (by decide) ?_
    show Steps p.tables e below (T5.setTop (mkF m 57 #[.val (.ref o0_), .val (.int (0 : Int32)), .val (.int (2 : Int32)), .val (.ref b1), .val (.int (2 : Int32)), .unset] [])) _
    refine XS.aloadN X5.here hx rfl (hb hby d8_57) rfl rfl ?_
    exact kt
  have f13 : Keep h0 h1 [] := K0.ext E1
  have f14 : Keep h0 h5 [] := f13.trans K5 (allS (Or.inr sz3) all0)
  obtain ⟨fs, hr, hrun, hended, hW, hsame⟩ := X5.leave (v := some (.ref b1)) (fun h => by rw [Bd.returns] at h; cases h)
  refine ⟨_, _, pre11 _ (retOut X5 hx Bd.returns rfl (Or.inr (Or.inr (Or.inr (Or.inr ⟨rfl, rfl, rfl⟩)))) (hb hby d8_58) hr), hrun, hended, _, _, rfl, ?_, ⟨_, rfl⟩, hW, hsame.mono (by decide) (by decide)⟩
  show Qcompress14 Z o0_ ko0_ x0_ x1_ h0 n0 _ T5.heap _
  rw [e5]
  exact ⟨k1, b1, rfl, N10, f14, sz3, g5_0, g5_1⟩
theorem pd_5 : parseMethodDescriptor "([CII)[B" = some ⟨[(.array .char), .int, .int], some (.array .byte)⟩ := by decide +kernel
theorem d7_39 : decode jdk_42_method_149_code 39 = .ok (.astore 5, 2) := by decide +kernel
theorem d7_41 : decode jdk_42_method_149_code 41 = .ok (.aload_n 0, 1) := by decide +kernel
theorem d7_42 : decode jdk_42_method_149_code 42 = .ok (.aload 5, 2) := by decide +kernel
theorem d7_44 : decode jdk_42_method_149_code 44 = .ok (.iload_n 3, 1) := by decide +kernel
theorem d7_45 : decode jdk_42_method_149_code 45 = .ok (.invokestatic 47, 3) := by decide +kernel
theorem d10_0 : decode jdk_52_method_15_code 0 = .ok (.iload_n 1, 1) := by decide +kernel
theorem d10_1 : decode jdk_52_method_15_code 1 = .ok (.aload_n 0, 1) := by decide +kernel
theorem d10_2 : decode jdk_52_method_15_code 2 = .ok (.arraylength, 1) := by decide +kernel
theorem d10_3 : decode jdk_52_method_15_code 3 = .ok (.isub, 1) := by decide +kernel
theorem d10_4 : decode jdk_52_method_15_code 4 = .ok (.bipush 31, 2) := by decide +kernel
theorem d10_6 : decode jdk_52_method_15_code 6 = .ok (.iushr, 1) := by decide +kernel
theorem d10_7 : decode jdk_52_method_15_code 7 = .ok (.i2b, 1) := by decide +kernel
theorem d10_8 : decode jdk_52_method_15_code 8 = .ok (.ireturn, 1) := by decide +kernel
theorem efcoderFromArrayLen16 (m : MethodId) (o0_ : Addr) : entryFrame m #[(.ref o0_), (.int (2 : Int32))] 2 = mkF m 0 #[.val (.ref o0_), .val (.int (2 : Int32))] [] := by first | (simp [entryFrame, mkF, argsToLocals, Value.category]; done) | rfl
def QcoderFromArrayLen16 (Z : State) (o0_ : Addr) (ko0_ : ClassId) (x0_ : Int32) (x1_ : Int32) (h0 : Heap) (n0 : Nat) (v : Option Value) (h : Heap) (L : List Loc) : Prop := v = some (.int (0 : Int32)) ∧ Fr n0 L ∧ h = h0
set_option maxRecDepth 65536 in
set_option maxHeartbeats 40000000 in
theorem rmcoderFromArrayLen16 (l : Launch) (Z : State) (a0 : Array Value) (hw : ∀ d ∈ tables_1, d.before a0 Z = true) (ws : List Jvm.Cond) (o0_ : Addr) (ko0_ : ClassId) (x0_ : Int32) (x1_ : Int32) (h0 : Heap) (n0 : Nat) (O0 : Old Z n0 h0) (P0 : Arv Z h0 o0_ ko0_ .byte (2 : Int32) [(.int x0_), (.int x1_)] (.int (0 : Int32))) (P1 : Exa Z h0 o0_ "[B") :
    MetFree l (⟨"java/lang/StringUTF16", "coderFromArrayLen", "([BI)B"⟩ : MethodName) (head1 (Jvm.Cond.code (⟨"java/lang/StringUTF16", "coderFromArrayLen", "([BI)B"⟩ : MethodName) jdk_52_method_15_code 2 (some .byte) :: ws) ({ frames := 0, cells := 0, slots := 0, locals := 0 } : Room)) (fun a U => a = #[(.ref o0_), (.int (2 : Int32))] ∧ Z.Warmed39 U.vm ∧ U.heap = h0) (fun _ _ _ _ _ => True) (fun _ U o U' => ∃ v L, o = .returned v ∧ QcoderFromArrayLen16 Z o0_ ko0_ x0_ x1_ h0 n0 v U'.heap L ∧ FrameEnd U o U' L ({ frames := 0, cells := 0, slots := 0, locals := 0 } : Room).cells ({ frames := 0, cells := 0, slots := 0, locals := 0 } : Room).slots) := by
  refine MetFree.of_bodySF (plainFor_of_name pn_2) hisR ?_
  intro p e s m args below meth c s₁ Bd hml0 hP hK
  obtain ⟨rfl, hZ, hh⟩ := hP
  have hx := Bd.exec
  have hby := Bd.bytes
  have hml : c.maxLocals = 2 := hml0
  have hown : s.vm.findClass "java/lang/StringUTF16" = some m.cls := findClass_of_methodNamed Bd.named
  have hnm := (name_of_methodNamed Bd.named Bd.method).1
  have X0 : Stand p l e ({ frames := 0, cells := 0, slots := 0, locals := 0 } : Room) s m #[(.ref o0_), (.int (2 : Int32))] below meth c s₁ [] 0 0 := Stand.of_body Bd
  have e0 : s₁.heap = h0 := by rw [← hh, Bd.state]; rfl
  have N0 := Fr.nil n0
  have pre0 : ∀ t, Steps p.tables e below (s₁.setTop (mkF m 0 #[.val (.ref o0_), .val (.int (2 : Int32))] [])) t → Steps p.tables e below (s₁.setTop (entryFrame m #[(.ref o0_), (.int (2 : Int32))] 2)) t := fun t k => castTop (efcoderFromArrayLen16 m o0_) k
  have K0 : Keep h0 h0 [] := Keep.refl _ _
  obtain ⟨c1, r1, q1, s1, z1, y1, G1⟩ := id P0
  have pre2 : ∀ t, Steps p.tables e below (s₁.setTop (mkF m 8 #[.val (.ref o0_), .val (.int (2 : Int32))] [(.int (0 : Int32))])) t → Steps p.tables e below (s₁.setTop (entryFrame m #[(.ref o0_), (.int (2 : Int32))] 2)) t := by
    intro t kt
    refine pre0 t ?_
    show Steps p.tables e below (s₁.setTop (mkF m 0 #[.val (.ref o0_), .val (.int (2 : Int32))] [])) _
    refine XS.iloadN X0.here hx rfl (hb hby d10_0) rfl ?_
    show Steps p.tables e below (s₁.setTop (mkF m 1 #[.val (.ref o0_), .val (.int (2 : Int32))] [(.int (2 : Int32))])) _
    refine XS.aloadN X0.here hx rfl (hb hby d10_1) rfl rfl ?_
    show Steps p.tables e below (s₁.setTop (mkF m 2 #[.val (.ref o0_), .val (.int (2 : Int32))] [(.ref o0_), (.int (2 : Int32))])) _
    refine X0.arraylength hx (by rw [e0]; exact r1.1) (State.isArrayOf_alike hZ.alike r1.2.1) (g := (mkF m 2 #[.val (.ref o0_), .val (.int (2 : Int32))] [(.ref o0_), (.int (2 : Int32))])) rfl rfl (hb hby d10_2) _ ?_
    rw [len_of s1 z1]
    show Steps p.tables e below (s₁.setTop (mkF m 3 #[.val (.ref o0_), .val (.int (2 : Int32))] [(.int (2 : Int32)), (.int (2 : Int32))])) _
    refine XS.isub X0.here hx rfl (hb hby d10_3) rfl ?_
    show Steps p.tables e below (s₁.setTop (mkF m 4 #[.val (.ref o0_), .val (.int (2 : Int32))] [(.int (0 : Int32))])) _
    refine XS.bipush X0.here hx rfl (hb hby d10_4) ?_
    show Steps p.tables e below (s₁.setTop (mkF m 6 #[.val (.ref o0_), .val (.int (2 : Int32))] [(.int (31 : Int32)), (.int (0 : Int32))])) _
    refine XS.iushr X0.here hx rfl (hb hby d10_6) rfl ?_
    show Steps p.tables e below (s₁.setTop (mkF m 7 #[.val (.ref o0_), .val (.int (2 : Int32))] [(.int (0 : Int32))])) _
    refine XS.i2b X0.here hx rfl (hb hby d10_7) rfl ?_
    exact kt
  obtain ⟨fs, hr, hrun, hended, hW, hsame⟩ := X0.leave (v := some (.int (0 : Int32))) (fun h => by rw [Bd.returns] at h; cases h)
  refine ⟨_, _, pre2 _ (retN X0 hx (t := .byte) Bd.returns (by simp) (hb hby d10_8) hr), hrun, hended, _, _, rfl, ?_, ⟨_, rfl⟩, hW, hsame.mono (by decide) (by decide)⟩
  show QcoderFromArrayLen16 Z o0_ ko0_ x0_ x1_ h0 n0 _ s₁.heap _
  rw [e0]
  exact ⟨rfl, N0, rfl⟩
theorem pd_6 : parseMethodDescriptor "([BI)B" = some ⟨[(.array .byte), .int], some .byte⟩ := by decide +kernel
theorem d7_48 : decode jdk_42_method_149_code 48 = .ok (.putfield 15, 3) := by decide +kernel
theorem d7_51 : decode jdk_42_method_149_code 51 = .ok (.aload_n 0, 1) := by decide +kernel
theorem d7_52 : decode jdk_42_method_149_code 52 = .ok (.aload 5, 2) := by decide +kernel
theorem d7_54 : decode jdk_42_method_149_code 54 = .ok (.putfield 9, 3) := by decide +kernel
theorem d7_57 : decode jdk_42_method_149_code 57 = .ok (.return_, 1) := by decide +kernel
theorem pn_3 : plainName "java/lang/String" = true := by first | (simp [plainName, overriddenIn]; done) | decide +kernel
theorem efinit13 (m : MethodId) (o0_ : Addr) (o1_ : Addr) : entryFrame m #[(.ref o0_), (.ref o1_), (.int (0 : Int32)), (.int (2 : Int32)), .null] 6 = mkF m 0 #[.val (.ref o0_), .val (.ref o1_), .val (.int (0 : Int32)), .val (.int (2 : Int32)), .val .null, .unset] [] := by first | (simp [entryFrame, mkF, argsToLocals, Value.category]; done) | rfl
def Qinit13 (Z : State) (o0_ : Addr) (o1_ : Addr) (ko1_ : ClassId) (x0_ : Int32) (x1_ : Int32) (x2_ : Int32) (h0 : Heap) (n0 : Nat) (v : Option Value) (h : Heap) (L : List Loc) : Prop := ∃ k1_3 : ClassId, ∃ nnb1_3 : Addr, v = none ∧ Fr n0 L ∧ Keep h0 h [o0_] ∧ h0.size ≤ nnb1_3 ∧ Exa Z h o0_ "java/lang/String" ∧ Fld Z h o0_ "java/lang/String" "coder" "B" (.int (0 : Int32)) ∧ Fld Z h o0_ "java/lang/String" "value" "[B" (.ref nnb1_3) ∧ Arv Z h nnb1_3 k1_3 .byte (2 : Int32) [(.int (x0_.toInt8.toInt32)), (.int (x1_.toInt8.toInt32))] (.int (0 : Int32)) ∧ Exa Z h nnb1_3 "[B"
set_option maxRecDepth 65536 in
set_option maxHeartbeats 40000000 in
theorem rminit13 (l : Launch) (Z : State) (a0 : Array Value) (hw : ∀ d ∈ tables_1, d.before a0 Z = true) (ws : List Jvm.Cond) (o0_ : Addr) (o1_ : Addr) (ko1_ : ClassId) (x0_ : Int32) (x1_ : Int32) (x2_ : Int32) (h0 : Heap) (n0 : Nat) (O0 : Old Z n0 h0) (ha0 : ¬ ((255 : Int32) < x0_)) (ha1 : ¬ ((255 : Int32) < x1_)) (P2 : Exa Z h0 o0_ "java/lang/String") (P3 : Fld Z h0 o0_ "java/lang/String" "coder" "B" (.int (0 : Int32))) (P4 : Fld Z h0 o0_ "java/lang/String" "value" "[B" .null) (P5 : Arv Z h0 o1_ ko1_ .char (2 : Int32) [(.int x0_), (.int x1_)] (.int (0 : Int32))) (P6 : Exa Z h0 o1_ "[C") (P7 : ¬ (x2_ = (0 : Int32))) (P8 : Sta Z Z.heap "java/lang/String" "COMPACT_STRINGS" "Z" (.int x2_)) (P9 : n0 ≤ o0_) :
    MetFree l (⟨"java/lang/String", "<init>", "([CIILjava/lang/Void;)V"⟩ : MethodName) (head1 (Jvm.Cond.code (⟨"java/lang/String", "<init>", "([CIILjava/lang/Void;)V"⟩ : MethodName) jdk_42_method_149_code 6 none :: ws) ({ frames := 2, cells := 1, slots := 2, locals := 35 } : Room)) (fun a U => a = #[(.ref o0_), (.ref o1_), (.int (0 : Int32)), (.int (2 : Int32)), .null] ∧ Z.Warmed39 U.vm ∧ U.heap = h0) (fun _ _ _ _ _ => True) (fun _ U o U' => ∃ v L, o = .returned v ∧ Qinit13 Z o0_ o1_ ko1_ x0_ x1_ x2_ h0 n0 v U'.heap L ∧ FrameEnd U o U' L ({ frames := 2, cells := 1, slots := 2, locals := 35 } : Room).cells ({ frames := 2, cells := 1, slots := 2, locals := 35 } : Room).slots) := by
  refine MetFree.of_bodySF (plainFor_of_name pn_3) hisR ?_
  intro p e s m args below meth c s₁ Bd hml0 hP hK
  obtain ⟨rfl, hZ, hh⟩ := hP
  have hx := Bd.exec
  have hby := Bd.bytes
  have hml : c.maxLocals = 6 := hml0
  have hown : s.vm.findClass "java/lang/String" = some m.cls := findClass_of_methodNamed Bd.named
  have hnm := (name_of_methodNamed Bd.named Bd.method).1
  have X0 : Stand p l e ({ frames := 2, cells := 1, slots := 2, locals := 35 } : Room) s m #[(.ref o0_), (.ref o1_), (.int (0 : Int32)), (.int (2 : Int32)), .null] below meth c s₁ [] 0 0 := Stand.of_body Bd
  have e0 : s₁.heap = h0 := by rw [← hh, Bd.state]; rfl
  have N0 := Fr.nil n0
  have pre0 : ∀ t, Steps p.tables e below (s₁.setTop (mkF m 0 #[.val (.ref o0_), .val (.ref o1_), .val (.int (0 : Int32)), .val (.int (2 : Int32)), .val .null, .unset] [])) t → Steps p.tables e below (s₁.setTop (entryFrame m #[(.ref o0_), (.ref o1_), (.int (0 : Int32)), (.int (2 : Int32)), .null] 6)) t := fun t k => castTop (efinit13 m o0_ o1_) k
  have K0 : Keep h0 h0 [o0_] := Keep.refl _ _
  obtain ⟨T1, X1, e1, st1⟩ := initO X0 hx hZ hown (hw _ (List.mem_of_getElem? (i := 11) rfl)) (hw _ (List.mem_of_getElem? (i := 12) rfl)) (hw _ (List.mem_of_getElem? (i := 13) rfl)) e0 (g := (mkF m 1 #[.val (.ref o0_), .val (.ref o1_), .val (.int (0 : Int32)), .val (.int (2 : Int32)), .val .null, .unset] [(.ref o0_)])) rfl (by rw [hml]; rfl) rfl (hb hby d7_1) (by decide) (W := 0) (by show 2 * 0 + _ ≤ _; exact Nat.le_of_eq rfl) (by decide)
  obtain ⟨T2, X2, e2, st2⟩ := getS2 X1 hx hZ hown (host := "") (Or.inl (hw _ (List.mem_of_getElem? (i := 14) rfl))) Via.refl e1 (P8.ext O0.2) (g := (mkF m 27 #[.val (.ref o0_), .val (.ref o1_), .val (.int (0 : Int32)), .val (.int (2 : Int32)), .val .null, .unset] [])) rfl (hb hby d7_27)
  obtain ⟨_, _, ⟨T3, L3, k3, n3⟩, -, X3, ⟨Lc3, hQ3, l3, y3, z3⟩, st3⟩ := Jvm.LawKit.callS X2 hx (y := (⟨"java/lang/StringUTF16", "compress", "([CII)[B"⟩ : MethodName)) hown (mvT hZ (hw _ (List.mem_of_getElem? (i := 15) rfl))) (mvT hZ (hw _ (List.mem_of_getElem? (i := 16) rfl))) (mvT hZ (hw _ (List.mem_of_getElem? (i := 17) rfl))) (mvT hZ (hw _ (List.mem_of_getElem? (i := 18) rfl))) (by decide) (backOf (W := 0) (rmcompress14 l Z a0 hw [] o1_ ko1_ x0_ x1_ h0 n0 O0 ha0 ha1 P5 P6) hZ (hw _ (List.mem_of_getElem? (i := 18) rfl)) (hw _ (List.mem_of_getElem? (i := 17) rfl)) (by decide) (by decide)) (g := (mkF m 36 #[.val (.ref o0_), .val (.ref o1_), .val (.int (0 : Int32)), .val (.int (2 : Int32)), .val .null, .unset] [(.int (2 : Int32)), (.int (0 : Int32)), (.ref o1_)])) rfl (by rw [hml]; rfl) (argsL := [(.ref o1_), (.int (0 : Int32)), (.int (2 : Int32))]) (rest := []) (lenOf pd_5 rfl) rfl (by show 2 * 0 + _ ≤ _; exact Nat.le_of_eq rfl) (hb hby d7_36) (fun _ _ => ⟨rfl, e2, (by decide : 0 + 1 ≤ _), (by decide : 0 + 2 ≤ _)⟩)
  dsimp only [Pt.U, Pt.locs, Pt.cells, Pt.slots] at X3 l3 y3 z3 st3 hQ3
  subst l3 y3 z3
  obtain ⟨h3, e3⟩ : ∃ z, T3.heap = z := ⟨_, rfl⟩
  rw [e3] at hQ3
  obtain ⟨k1_3, nb1_3, rfl, N3q, K3, sznb1_3, g3_0, g3_1⟩ := hQ3
  have N4 := Fr.app N0 N3q
  have ge5 : n0 ≤ nb1_3 := Nat.le_trans (Nat.le_trans (Nat.le_of_eq O0.1.symm) O0.2.1) sznb1_3
  have sz6 : h0.size ≤ nb1_3 := Nat.le_trans K0.1 sznb1_3
  have f8 : Old Z n0 h3 := O0.keep K3 all0
  obtain ⟨_, _, ⟨T7, L7, k7, n7⟩, -, X7, ⟨Lc7, hQ7, l7, y7, z7⟩, st7⟩ := Jvm.LawKit.callS X3 hx (y := (⟨"java/lang/StringUTF16", "coderFromArrayLen", "([BI)B"⟩ : MethodName)) hown (mvT hZ (hw _ (List.mem_of_getElem? (i := 23) rfl))) (mvT hZ (hw _ (List.mem_of_getElem? (i := 24) rfl))) (mvT hZ (hw _ (List.mem_of_getElem? (i := 17) rfl))) (mvT hZ (hw _ (List.mem_of_getElem? (i := 25) rfl))) (by decide) (backOf (W := 1) (rmcoderFromArrayLen16 l Z a0 hw [] nb1_3 k1_3 (x0_.toInt8.toInt32) (x1_.toInt8.toInt32) h3 n0 f8 g3_0 g3_1) hZ (hw _ (List.mem_of_getElem? (i := 25) rfl)) (hw _ (List.mem_of_getElem? (i := 17) rfl)) (by decide) (by decide)) (g := (mkF m 45 #[.val (.ref o0_), .val (.ref o1_), .val (.int (0 : Int32)), .val (.int (2 : Int32)), .val .null, .val (.ref nb1_3)] [(.int (2 : Int32)), (.ref nb1_3), (.ref o0_)])) rfl (by rw [hml]; rfl) (argsL := [(.ref nb1_3), (.int (2 : Int32))]) (rest := [(.ref o0_)]) (lenOf pd_6 rfl) rfl (by show 2 * 0 + _ ≤ _; exact Nat.le_of_eq rfl) (hb hby d7_45) (fun _ _ => ⟨rfl, e3, (by decide : 1 + 0 ≤ _), (by decide : 2 + 0 ≤ _)⟩)
  dsimp only [Pt.U, Pt.locs, Pt.cells, Pt.slots] at X7 l7 y7 z7 st7 hQ7
  subst l7 y7 z7
  obtain ⟨h7, e7⟩ : ∃ z, T7.heap = z := ⟨_, rfl⟩
  rw [e7] at hQ7
  obtain ⟨rfl, N7q, hh7⟩ := hQ7
  have N9 := Fr.app N4 N7q
  have e7' : T7.heap = h3 := e7.trans hh7
  have f10 : Fld Z h3 o0_ "java/lang/String" "coder" "B" (.int (0 : Int32)) := P3.keep K3 nin0
  have f11 : Exa Z h3 o0_ "java/lang/String" := P2.keep K3
  obtain ⟨T12, h12, X12, e12, W12, st12⟩ := putF X7 hx hZ hown (host := "") (Or.inl (hw _ (List.mem_of_getElem? (i := 26) rfl))) Via.refl e7' f10 f11 (Or.inr ⟨(hw _ (List.mem_of_getElem? (i := 27) rfl)), rfl, hnm⟩) (hw _ (List.mem_of_getElem? (i := 2) rfl)) (ty := .byte) (by decide) rfl rfl (g := (mkF m 48 #[.val (.ref o0_), .val (.ref o1_), .val (.int (0 : Int32)), .val (.int (2 : Int32)), .val .null, .val (.ref nb1_3)] [(.int (0 : Int32)), (.ref o0_)])) rfl rfl (hb hby d7_48)
  have N13 := Fr.snoc X12 N9 P9
  have f14 : Fld Z h12 o0_ "java/lang/String" "coder" "B" (.int (0 : Int32)) := f10.same W12
  have f15 : Fld Z h3 o0_ "java/lang/String" "value" "[B" .null := P4.keep K3 nin0
  have f16 : Fld Z h12 o0_ "java/lang/String" "value" "[B" .null := f15.other W12 (Or.inr (slot_ne (Or.inr (hw _ (List.mem_of_getElem? (i := 29) rfl))) (Or.inr (hw _ (List.mem_of_getElem? (i := 27) rfl))) (by decide) (t := (.array .byte)) (t' := .byte) (by decide) (by decide)))
  have f17 : Exa Z h12 o0_ "java/lang/String" := f11.wr W12
  obtain ⟨T18, h18, X18, e18, W18, st18⟩ := putF X12 hx hZ hown (host := "") (Or.inl (hw _ (List.mem_of_getElem? (i := 28) rfl))) Via.refl e12 f16 f17 (Or.inr ⟨(hw _ (List.mem_of_getElem? (i := 29) rfl)), rfl, hnm⟩) (hw _ (List.mem_of_getElem? (i := 2) rfl)) (ty := (.array .byte)) (by decide) rfl rfl (g := (mkF m 54 #[.val (.ref o0_), .val (.ref o1_), .val (.int (0 : Int32)), .val (.int (2 : Int32)), .val .null, .val (.ref nb1_3)] [(.ref nb1_3), (.ref o0_)])) rfl rfl (hb hby d7_54)
  have N19 := Fr.snoc X18 N13 P9
  have f20 : Fld Z h18 o0_ "java/lang/String" "value" "[B" (.ref nb1_3) := f16.same W18
  have pre21 : ∀ t, Steps p.tables e below (T18.setTop (mkF m 57 #[.val (.ref o0_), .val (.ref o1_), .val (.int (0 : Int32)), .val (.int (2 : Int32)), .val .null, .val (.ref nb1_3)] [])) t → Steps p.tables e below (s₁.setTop (entryFrame m #[(.ref o0_), (.ref o1_), (.int (0 : Int32)), (.int (2 : Int32)), .null] 6)) t := by
    intro t kt
    refine pre0 t ?_
    show Steps p.tables e below (s₁.setTop (mkF m 0 #[.val (.ref o0_), .val (.ref o1_), .val (.int (0 : Int32)), .val (.int (2 : Int32)), .val .null, .unset] [])) _
    refine XS.aloadN X0.here hx rfl (hb hby d7_0) rfl rfl ?_
    show Steps p.tables e below (s₁.setTop (mkF m 1 #[.val (.ref o0_), .val (.ref o1_), .val (.int (0 : Int32)), .val (.int (2 : Int32)), .val .null, .unset] [(.ref o0_)])) _
    refine st1 _ ?_
    show Steps p.tables e below (T1.setTop (mkF m 4 #[.val (.ref o0_), .val (.ref o1_), .val (.int (0 : Int32)), .val (.int (2 : Int32)), .val .null, .unset] [])) _
    refine XS.iloadN X1.here hx rfl (hb hby d7_4) rfl ?_
    show Steps p.tables e below (T1.setTop (mkF m 5 #[.val (.ref o0_), .val (.ref o1_), .val (.int (0 : Int32)), .val (.int (2 : Int32)), .val .null, .unset] [(.int (2 : Int32))])) _
    refine XS.ifYes X1.here hx rfl (pc0 := 5) (pc' := 27) rfl (hb hby d7_5) rfl ((if0 _ _).trans (feq (by decide : ¬ ((2 : Int32) = (0 : Int32)))).2) (by decide) (by decide) ?_
    show Steps p.tables e below (T1.setTop (mkF m 27 #[.val (.ref o0_), .val (.ref o1_), .val (.int (0 : Int32)), .val (.int (2 : Int32)), .val .null, .unset] [])) _
    refine st2 _ ?_
    show Steps p.tables e below (T2.setTop (mkF m 30 #[.val (.ref o0_), .val (.ref o1_), .val (.int (0 : Int32)), .val (.int (2 : Int32)), .val .null, .unset] [(.int x2_)])) _
    refine XS.ifNo X2.here hx rfl (hb hby d7_30) rfl ((if0 _ _).trans (feq P7).1) ?_
    show Steps p.tables e below (T2.setTop (mkF m 33 #[.val (.ref o0_), .val (.ref o1_), .val (.int (0 : Int32)), .val (.int (2 : Int32)), .val .null, .unset] [])) _
    refine XS.aloadN X2.here hx rfl (hb hby d7_33) rfl rfl ?_
    show Steps p.tables e below (T2.setTop (mkF m 34 #[.val (.ref o0_), .val (.ref o1_), .val (.int (0 : Int32)), .val (.int (2 : Int32)), .val .null, .unset] [(.ref o1_)])) _
    refine XS.iloadN X2.here hx rfl (hb hby d7_34) rfl ?_
    show Steps p.tables e below (T2.setTop (mkF m 35 #[.val (.ref o0_), .val (.ref o1_), .val (.int (0 : Int32)), .val (.int (2 : Int32)), .val .null, .unset] [(.int (0 : Int32)), (.ref o1_)])) _
    refine XS.iloadN X2.here hx rfl (hb hby d7_35) rfl ?_
    show Steps p.tables e below (T2.setTop (mkF m 36 #[.val (.ref o0_), .val (.ref o1_), .val (.int (0 : Int32)), .val (.int (2 : Int32)), .val .null, .unset] [(.int (2 : Int32)), (.int (0 : Int32)), (.ref o1_)])) _
    refine st3 _ ?_
    show Steps p.tables e below (T3.setTop (mkF m 39 #[.val (.ref o0_), .val (.ref o1_), .val (.int (0 : Int32)), .val (.int (2 : Int32)), .val .null, .unset] [(.ref nb1_3)])) _
    refine XS.astore X3.here hx rfl (hb hby d7_39) rfl rfl (l' := #[.val (.ref o0_), .val (.ref o1_), .val (.int (0 : Int32)), .val (.int (2 : Int32)), .val .null, .val (.ref nb1_3)]) rfl ?_
    show Steps p.tables e below (T3.setTop (mkF m 41 #[.val (.ref o0_), .val (.ref o1_), .val (.int (0 : Int32)), .val (.int (2 : Int32)), .val .null, .val (.ref nb1_3)] [])) _
    refine XS.aloadN X3.here hx rfl (hb hby d7_41) rfl rfl ?_
    show Steps p.tables e below (T3.setTop (mkF m 42 #[.val (.ref o0_), .val (.ref o1_), .val (.int (0 : Int32)), .val (.int (2 : Int32)), .val .null, .val (.ref nb1_3)] [(.ref o0_)])) _
    refine XS.aload X3.here hx rfl (hb hby d7_42) rfl rfl ?_
    show Steps p.tables e below (T3.setTop (mkF m 44 #[.val (.ref o0_), .val (.ref o1_), .val (.int (0 : Int32)), .val (.int (2 : Int32)), .val .null, .val (.ref nb1_3)] [(.ref nb1_3), (.ref o0_)])) _
    refine XS.iloadN X3.here hx rfl (hb hby d7_44) rfl ?_
    show Steps p.tables e below (T3.setTop (mkF m 45 #[.val (.ref o0_), .val (.ref o1_), .val (.int (0 : Int32)), .val (.int (2 : Int32)), .val .null, .val (.ref nb1_3)] [(.int (2 : Int32)), (.ref nb1_3), (.ref o0_)])) _
    refine st7 _ ?_
    show Steps p.tables e below (T7.setTop (mkF m 48 #[.val (.ref o0_), .val (.ref o1_), .val (.int (0 : Int32)), .val (.int (2 : Int32)), .val .null, .val (.ref nb1_3)] [(.int (0 : Int32)), (.ref o0_)])) _
    refine st12 _ ?_
    show Steps p.tables e below (T12.setTop (mkF m 51 #[.val (.ref o0_), .val (.ref o1_), .val (.int (0 : Int32)), .val (.int (2 : Int32)), .val .null, .val (.ref nb1_3)] [])) _
    refine XS.aloadN X12.here hx rfl (hb hby d7_51) rfl rfl ?_
    show Steps p.tables e below (T12.setTop (mkF m 52 #[.val (.ref o0_), .val (.ref o1_), .val (.int (0 : Int32)), .val (.int (2 : Int32)), .val .null, .val (.ref nb1_3)] [(.ref o0_)])) _
    refine XS.aload X12.here hx rfl (hb hby d7_52) rfl rfl ?_
    show Steps p.tables e below (T12.setTop (mkF m 54 #[.val (.ref o0_), .val (.ref o1_), .val (.int (0 : Int32)), .val (.int (2 : Int32)), .val .null, .val (.ref nb1_3)] [(.ref nb1_3), (.ref o0_)])) _
    refine st18 _ ?_
    exact kt
  have f23 : Keep h0 h3 [o0_] := K0.trans K3 all0
  have f24 : Keep h0 h12 [o0_] := f23.wr W12 (Or.inl (List.mem_of_getElem? (i := 0) rfl))
  have f25 : Keep h0 h18 [o0_] := f24.wr W18 (Or.inl (List.mem_of_getElem? (i := 0) rfl))
  have f26 : Exa Z h18 o0_ "java/lang/String" := f17.wr W18
  have f27 : Fld Z h18 o0_ "java/lang/String" "coder" "B" (.int (0 : Int32)) := f14.other W18 (Or.inr (slot_ne (Or.inr (hw _ (List.mem_of_getElem? (i := 27) rfl))) (Or.inr (hw _ (List.mem_of_getElem? (i := 29) rfl))) (by decide) (t := .byte) (t' := (.array .byte)) (by decide) (by decide)))
  have ne29 : o0_ ≠ nb1_3 := Nat.ne_of_lt (Nat.lt_of_lt_of_le P2.lt sznb1_3)
  have f28 : Arv Z h12 nb1_3 k1_3 .byte (2 : Int32) [(.int (x0_.toInt8.toInt32)), (.int (x1_.toInt8.toInt32))] (.int (0 : Int32)) := g3_0.other W12 (Ne.symm ne29)
  have f30 : Arv Z h18 nb1_3 k1_3 .byte (2 : Int32) [(.int (x0_.toInt8.toInt32)), (.int (x1_.toInt8.toInt32))] (.int (0 : Int32)) := f28.other W18 (Ne.symm ne29)
  have f31 : Exa Z h12 nb1_3 "[B" := g3_1.wr W12
  have f32 : Exa Z h18 nb1_3 "[B" := f31.wr W18
  obtain ⟨fs, hr, hrun, hended, hW, hsame⟩ := X18.leave (v := none) (fun _ => rfl)
  refine ⟨_, _, pre21 _ (X18.returnOut hx Bd.returns (hb hby d7_57) hr), hrun, hended, _, _, rfl, ?_, ⟨_, rfl⟩, hW, hsame.mono (by decide) (by decide)⟩
  show Qinit13 Z o0_ o1_ ko1_ x0_ x1_ x2_ h0 n0 _ T18.heap _
  rw [e18]
  exact ⟨k1_3, nb1_3, rfl, N19, f25, sz6, f26, f27, f20, f30, f32⟩
theorem pd_7 : parseMethodDescriptor "([CIILjava/lang/Void;)V" = some ⟨[(.array .char), .int, .int, (.object "java/lang/Void")], none⟩ := by decide +kernel
theorem d6_9 : decode jdk_42_method_3_code 9 = .ok (.return_, 1) := by decide +kernel
theorem efinit11 (m : MethodId) (o0_ : Addr) (o1_ : Addr) : entryFrame m #[(.ref o0_), (.ref o1_)] 2 = mkF m 0 #[.val (.ref o0_), .val (.ref o1_)] [] := by first | (simp [entryFrame, mkF, argsToLocals, Value.category]; done) | rfl
def Qinit11 (Z : State) (o0_ : Addr) (o1_ : Addr) (ko1_ : ClassId) (x0_ : Int32) (x1_ : Int32) (x2_ : Int32) (h0 : Heap) (n0 : Nat) (v : Option Value) (h : Heap) (L : List Loc) : Prop := ∃ k1_3_2 : ClassId, ∃ nnnb1_3_2 : Addr, v = none ∧ Fr n0 L ∧ Keep h0 h [o0_] ∧ h0.size ≤ nnnb1_3_2 ∧ Exa Z h o0_ "java/lang/String" ∧ Fld Z h o0_ "java/lang/String" "coder" "B" (.int (0 : Int32)) ∧ Fld Z h o0_ "java/lang/String" "value" "[B" (.ref nnnb1_3_2) ∧ Arv Z h nnnb1_3_2 k1_3_2 .byte (2 : Int32) [(.int (x0_.toInt8.toInt32)), (.int (x1_.toInt8.toInt32))] (.int (0 : Int32)) ∧ Exa Z h nnnb1_3_2 "[B"
set_option maxRecDepth 65536 in
set_option maxHeartbeats 40000000 in
theorem rminit11 (l : Launch) (Z : State) (a0 : Array Value) (hw : ∀ d ∈ tables_1, d.before a0 Z = true) (ws : List Jvm.Cond) (o0_ : Addr) (o1_ : Addr) (ko1_ : ClassId) (x0_ : Int32) (x1_ : Int32) (x2_ : Int32) (h0 : Heap) (n0 : Nat) (O0 : Old Z n0 h0) (ha0 : ¬ ((255 : Int32) < x0_)) (ha1 : ¬ ((255 : Int32) < x1_)) (P2 : Exa Z h0 o0_ "java/lang/String") (P3 : Fld Z h0 o0_ "java/lang/String" "coder" "B" (.int (0 : Int32))) (P4 : Fld Z h0 o0_ "java/lang/String" "value" "[B" .null) (P5 : Arv Z h0 o1_ ko1_ .char (2 : Int32) [(.int x0_), (.int x1_)] (.int (0 : Int32))) (P6 : Exa Z h0 o1_ "[C") (P7 : ¬ (x2_ = (0 : Int32))) (P8 : Sta Z Z.heap "java/lang/String" "COMPACT_STRINGS" "Z" (.int x2_)) (P9 : n0 ≤ o0_) :
    MetFree l (⟨"java/lang/String", "<init>", "([C)V"⟩ : MethodName) (head1 (Jvm.Cond.code (⟨"java/lang/String", "<init>", "([C)V"⟩ : MethodName) jdk_42_method_3_code 2 none :: ws) ({ frames := 3, cells := 1, slots := 2, locals := 52 } : Room)) (fun a U => a = #[(.ref o0_), (.ref o1_)] ∧ Z.Warmed39 U.vm ∧ U.heap = h0) (fun _ _ _ _ _ => True) (fun _ U o U' => ∃ v L, o = .returned v ∧ Qinit11 Z o0_ o1_ ko1_ x0_ x1_ x2_ h0 n0 v U'.heap L ∧ FrameEnd U o U' L ({ frames := 3, cells := 1, slots := 2, locals := 52 } : Room).cells ({ frames := 3, cells := 1, slots := 2, locals := 52 } : Room).slots) := by
  refine MetFree.of_bodySF (plainFor_of_name pn_3) hisR ?_
  intro p e s m args below meth c s₁ Bd hml0 hP hK
  obtain ⟨rfl, hZ, hh⟩ := hP
  have hx := Bd.exec
  have hby := Bd.bytes
  have hml : c.maxLocals = 2 := hml0
  have hown : s.vm.findClass "java/lang/String" = some m.cls := findClass_of_methodNamed Bd.named
  have hnm := (name_of_methodNamed Bd.named Bd.method).1
  have X0 : Stand p l e ({ frames := 3, cells := 1, slots := 2, locals := 52 } : Room) s m #[(.ref o0_), (.ref o1_)] below meth c s₁ [] 0 0 := Stand.of_body Bd
  have e0 : s₁.heap = h0 := by rw [← hh, Bd.state]; rfl
  have N0 := Fr.nil n0
  have pre0 : ∀ t, Steps p.tables e below (s₁.setTop (mkF m 0 #[.val (.ref o0_), .val (.ref o1_)] [])) t → Steps p.tables e below (s₁.setTop (entryFrame m #[(.ref o0_), (.ref o1_)] 2)) t := fun t k => castTop (efinit11 m o0_ o1_) k
  have K0 : Keep h0 h0 [o0_] := Keep.refl _ _
  obtain ⟨c1, r1, q1, s1, z1, y1, G1⟩ := id P5
  obtain ⟨_, _, ⟨T2, L2, k2, n2⟩, -, X2, ⟨Lc2, hQ2, l2, y2, z2⟩, st2⟩ := X0.specialBack hx (y := (⟨"java/lang/String", "<init>", "([CIILjava/lang/Void;)V"⟩ : MethodName)) rfl hown (mvT hZ (hw _ (List.mem_of_getElem? (i := 7) rfl))) (mvT hZ (hw _ (List.mem_of_getElem? (i := 8) rfl))) (mvT hZ (hw _ (List.mem_of_getElem? (i := 10) rfl))) (by decide) (backOf (W := 0) (rminit13 l Z a0 hw [] o0_ o1_ ko1_ x0_ x1_ x2_ h0 n0 O0 ha0 ha1 P2 P3 P4 P5 P6 P7 P8 P9) hZ (hw _ (List.mem_of_getElem? (i := 10) rfl)) (hw _ (List.mem_of_getElem? (i := 3) rfl)) (by decide) (by decide)) (g := (mkF m 6 #[.val (.ref o0_), .val (.ref o1_)] [.null, (.int (2 : Int32)), (.int (0 : Int32)), (.ref o1_), (.ref o0_)])) rfl (by rw [hml]; rfl) (Steps.refl _) (a := o0_) (argsL := [(.ref o1_), (.int (0 : Int32)), (.int (2 : Int32)), .null]) (rest := []) (lenOf pd_7 rfl) rfl (by show 2 * 0 + _ ≤ _; exact Nat.le_of_eq rfl) (hb hby d6_6) (fun _ _ => ⟨rfl, e0, (by decide : 0 + 1 ≤ _), (by decide : 0 + 2 ≤ _)⟩)
  dsimp only [Pt.U, Pt.locs, Pt.cells, Pt.slots] at X2 l2 y2 z2 st2 hQ2
  subst l2 y2 z2
  obtain ⟨h2, e2⟩ : ∃ z, T2.heap = z := ⟨_, rfl⟩
  rw [e2] at hQ2
  obtain ⟨k1_3_2, nnb1_3_2, rfl, N2q, K2, sznnb1_3_2, g2_0, g2_1, g2_2, g2_3, g2_4⟩ := hQ2
  have N3 := Fr.app N0 N2q
  have ge4 : n0 ≤ nnb1_3_2 := Nat.le_trans (Nat.le_trans (Nat.le_of_eq O0.1.symm) O0.2.1) sznnb1_3_2
  have sz5 : h0.size ≤ nnb1_3_2 := Nat.le_trans K0.1 sznnb1_3_2
  have pre6 : ∀ t, Steps p.tables e below (T2.setTop (mkF m 9 #[.val (.ref o0_), .val (.ref o1_)] [])) t → Steps p.tables e below (s₁.setTop (entryFrame m #[(.ref o0_), (.ref o1_)] 2)) t := by
    intro t kt
    refine pre0 t ?_
    show Steps p.tables e below (s₁.setTop (mkF m 0 #[.val (.ref o0_), .val (.ref o1_)] [])) _
    refine XS.aloadN X0.here hx rfl (hb hby d6_0) rfl rfl ?_
    show Steps p.tables e below (s₁.setTop (mkF m 1 #[.val (.ref o0_), .val (.ref o1_)] [(.ref o0_)])) _
    refine XS.aloadN X0.here hx rfl (hb hby d6_1) rfl rfl ?_
    show Steps p.tables e below (s₁.setTop (mkF m 2 #[.val (.ref o0_), .val (.ref o1_)] [(.ref o1_), (.ref o0_)])) _
    refine XS.iconst X0.here hx rfl (hb hby d6_2) ?_
    show Steps p.tables e below (s₁.setTop (mkF m 3 #[.val (.ref o0_), .val (.ref o1_)] [(.int (0 : Int32)), (.ref o1_), (.ref o0_)])) _
    refine XS.aloadN X0.here hx rfl (hb hby d6_3) rfl rfl ?_
    show Steps p.tables e below (s₁.setTop (mkF m 4 #[.val (.ref o0_), .val (.ref o1_)] [(.ref o1_), (.int (0 : Int32)), (.ref o1_), (.ref o0_)])) _
    refine X0.arraylength hx (by rw [e0]; exact r1.1) (State.isArrayOf_alike hZ.alike r1.2.1) (g := (mkF m 4 #[.val (.ref o0_), .val (.ref o1_)] [(.ref o1_), (.int (0 : Int32)), (.ref o1_), (.ref o0_)])) rfl rfl (hb hby d6_4) _ ?_
    rw [len_of s1 z1]
    show Steps p.tables e below (s₁.setTop (mkF m 5 #[.val (.ref o0_), .val (.ref o1_)] [(.int (2 : Int32)), (.int (0 : Int32)), (.ref o1_), (.ref o0_)])) _
    refine XS.aconstNull X0.here hx rfl (hb hby d6_5) ?_
    show Steps p.tables e below (s₁.setTop (mkF m 6 #[.val (.ref o0_), .val (.ref o1_)] [.null, (.int (2 : Int32)), (.int (0 : Int32)), (.ref o1_), (.ref o0_)])) _
    refine st2.trans ?_
    exact kt
  have f8 : Keep h0 h2 [o0_] := K0.trans K2 (allS (Or.inl (List.mem_of_getElem? (i := 0) rfl)) all0)
  obtain ⟨fs, hr, hrun, hended, hW, hsame⟩ := X2.leave (v := none) (fun _ => rfl)
  refine ⟨_, _, pre6 _ (X2.returnOut hx Bd.returns (hb hby d6_9) hr), hrun, hended, _, _, rfl, ?_, ⟨_, rfl⟩, hW, hsame.mono (by decide) (by decide)⟩
  show Qinit11 Z o0_ o1_ ko1_ x0_ x1_ x2_ h0 n0 _ T2.heap _
  rw [e2]
  exact ⟨k1_3_2, nnb1_3_2, rfl, N3, f8, sz5, g2_0, g2_1, g2_2, g2_3, g2_4⟩
theorem pd_8 : parseMethodDescriptor "([C)V" = some ⟨[(.array .char)], none⟩ := by decide +kernel
theorem efinit17 (m : MethodId) (o0_ : Addr) (x0_ : Int32) (o1_ : Addr) (x1_ : Int32) : entryFrame m #[(.ref o0_), (.int x0_), (.ref o1_), (.int x1_)] 4 = mkF m 0 #[.val (.ref o0_), .val (.int x0_), .val (.ref o1_), .val (.int x1_)] [] := by first | (simp [entryFrame, mkF, argsToLocals, Value.category]; done) | rfl
def Qinit17 (Z : State) (o0_ : Addr) (x0_ : Int32) (o1_ : Addr) (x1_ : Int32) (o2_ : Addr) (ko2_ : ClassId) (x2_ : Int32) (x3_ : Int32) (h0 : Heap) (n0 : Nat) (v : Option Value) (h : Heap) (L : List Loc) : Prop := v = none ∧ Fr n0 L ∧ Keep h0 h [o0_] ∧ Exa Z h o0_ "com/example/stackweave/stackweave/classfile/VerificationType" ∧ Fld Z h o0_ "com/example/stackweave/stackweave/classfile/VerificationType" "tag" "I" (.int x0_) ∧ Fld Z h o0_ "com/example/stackweave/stackweave/classfile/VerificationType" "className" "Ljava/lang/String;" (.ref o1_) ∧ Fld Z h o0_ "com/example/stackweave/stackweave/classfile/VerificationType" "newOffset" "I" (.int x1_)
set_option maxRecDepth 65536 in
set_option maxHeartbeats 40000000 in
theorem rminit17 (l : Launch) (Z : State) (a0 : Array Value) (hw : ∀ d ∈ tables_1, d.before a0 Z = true) (ws : List Jvm.Cond) (o0_ : Addr) (x0_ : Int32) (o1_ : Addr) (x1_ : Int32) (o2_ : Addr) (ko2_ : ClassId) (x2_ : Int32) (x3_ : Int32) (h0 : Heap) (n0 : Nat) (O0 : Old Z n0 h0) (P0 : Exa Z h0 o0_ "com/example/stackweave/stackweave/classfile/VerificationType") (P1 : Fld Z h0 o0_ "com/example/stackweave/stackweave/classfile/VerificationType" "tag" "I" (.int (0 : Int32))) (P2 : Fld Z h0 o0_ "com/example/stackweave/stackweave/classfile/VerificationType" "className" "Ljava/lang/String;" .null) (P3 : Fld Z h0 o0_ "com/example/stackweave/stackweave/classfile/VerificationType" "newOffset" "I" (.int (0 : Int32))) (P4 : Exa Z h0 o1_ "java/lang/String") (P5 : Fld Z h0 o1_ "java/lang/String" "coder" "B" (.int (0 : Int32))) (P6 : Fld Z h0 o1_ "java/lang/String" "value" "[B" (.ref o2_)) (P7 : Arv Z h0 o2_ ko2_ .byte (2 : Int32) [(.int x2_), (.int x3_)] (.int (0 : Int32))) (P8 : Exa Z h0 o2_ "[B") (P9 : n0 ≤ o0_) :
    MetFree l (⟨"com/example/stackweave/stackweave/classfile/VerificationType", "<init>", "(ILjava/lang/String;I)V"⟩ : MethodName) (head1 (Jvm.Cond.code (⟨"com/example/stackweave/stackweave/classfile/VerificationType", "<init>", "(ILjava/lang/String;I)V"⟩ : MethodName) prog_38_method_1_code 4 none :: ws) ({ frames := 2, cells := 0, slots := 0, locals := 24 } : Room)) (fun a U => a = #[(.ref o0_), (.int x0_), (.ref o1_), (.int x1_)] ∧ Z.Warmed39 U.vm ∧ U.heap = h0) (fun _ _ _ _ _ => True) (fun _ U o U' => ∃ v L, o = .returned v ∧ Qinit17 Z o0_ x0_ o1_ x1_ o2_ ko2_ x2_ x3_ h0 n0 v U'.heap L ∧ FrameEnd U o U' L ({ frames := 2, cells := 0, slots := 0, locals := 24 } : Room).cells ({ frames := 2, cells := 0, slots := 0, locals := 24 } : Room).slots) := by
  refine MetFree.of_bodySF (plainFor_of_name pn_1) hisR ?_
  intro p e s m args below meth c s₁ Bd hml0 hP hK
  obtain ⟨rfl, hZ, hh⟩ := hP
  have hx := Bd.exec
  have hby := Bd.bytes
  have hml : c.maxLocals = 4 := hml0
  have hown : s.vm.findClass "com/example/stackweave/stackweave/classfile/VerificationType" = some m.cls := findClass_of_methodNamed Bd.named
  have hnm := (name_of_methodNamed Bd.named Bd.method).1
  have X0 : Stand p l e ({ frames := 2, cells := 0, slots := 0, locals := 24 } : Room) s m #[(.ref o0_), (.int x0_), (.ref o1_), (.int x1_)] below meth c s₁ [] 0 0 := Stand.of_body Bd
  have e0 : s₁.heap = h0 := by rw [← hh, Bd.state]; rfl
  have N0 := Fr.nil n0
  have pre0 : ∀ t, Steps p.tables e below (s₁.setTop (mkF m 0 #[.val (.ref o0_), .val (.int x0_), .val (.ref o1_), .val (.int x1_)] [])) t → Steps p.tables e below (s₁.setTop (entryFrame m #[(.ref o0_), (.int x0_), (.ref o1_), (.int x1_)] 4)) t := fun t k => castTop (efinit17 m o0_ x0_ o1_ x1_) k
  have K0 : Keep h0 h0 [o0_] := Keep.refl _ _
  obtain ⟨_, _, ⟨T1, L1, k1, n1⟩, -, X1, ⟨Lc1, hQ1, l1, y1, z1⟩, st1⟩ := X0.specialBack hx (y := (⟨"java/lang/Record", "<init>", "()V"⟩ : MethodName)) rfl hown (mvT hZ (hw _ (List.mem_of_getElem? (i := 36) rfl))) (mvT hZ (hw _ (List.mem_of_getElem? (i := 37) rfl))) (mvT hZ (hw _ (List.mem_of_getElem? (i := 40) rfl))) (by decide) (backOf (W := 0) (rminit2 l Z a0 hw [] o0_ h0 n0 O0 P0 P1 P2 P3) hZ (hw _ (List.mem_of_getElem? (i := 40) rfl)) (hw _ (List.mem_of_getElem? (i := 39) rfl)) (by decide) (by decide)) (g := (mkF m 1 #[.val (.ref o0_), .val (.int x0_), .val (.ref o1_), .val (.int x1_)] [(.ref o0_)])) rfl (by rw [hml]; rfl) (Steps.refl _) (a := o0_) (argsL := []) (rest := []) (lenOf pd_0 rfl) rfl (by show 2 * 0 + _ ≤ _; exact Nat.le_of_eq rfl) (hb hby d1_1) (fun _ _ => ⟨rfl, e0, (by decide : 0 + 0 ≤ _), (by decide : 0 + 0 ≤ _)⟩)
  dsimp only [Pt.U, Pt.locs, Pt.cells, Pt.slots] at X1 l1 y1 z1 st1 hQ1
  subst l1 y1 z1
  obtain ⟨h1, e1⟩ : ∃ z, T1.heap = z := ⟨_, rfl⟩
  rw [e1] at hQ1
  obtain ⟨rfl, N1q, hh1⟩ := hQ1
  have N2 := Fr.app N0 N1q
  have e1' : T1.heap = h0 := e1.trans hh1
  obtain ⟨T3, h3, X3, e3, W3, st3⟩ := putF X1 hx hZ hown (host := "") (Or.inl (hw _ (List.mem_of_getElem? (i := 42) rfl))) Via.refl e1' P1 P0 (Or.inr ⟨(hw _ (List.mem_of_getElem? (i := 43) rfl)), rfl, hnm⟩) (hw _ (List.mem_of_getElem? (i := 31) rfl)) (ty := .int) (by decide) rfl rfl (g := (mkF m 6 #[.val (.ref o0_), .val (.int x0_), .val (.ref o1_), .val (.int x1_)] [(.int x0_), (.ref o0_)])) rfl rfl (hb hby d1_6)
  have N4 := Fr.snoc X3 N2 P9
  have f5 : Fld Z h3 o0_ "com/example/stackweave/stackweave/classfile/VerificationType" "tag" "I" (.int x0_) := P1.same W3
  have f6 : Fld Z h3 o0_ "com/example/stackweave/stackweave/classfile/VerificationType" "className" "Ljava/lang/String;" .null := P2.other W3 (Or.inr (slot_ne (Or.inr (hw _ (List.mem_of_getElem? (i := 45) rfl))) (Or.inr (hw _ (List.mem_of_getElem? (i := 43) rfl))) (by decide) (t := (.object "java/lang/String")) (t' := .int) (by decide) (by decide)))
  have f7 : Exa Z h3 o0_ "com/example/stackweave/stackweave/classfile/VerificationType" := P0.wr W3
  obtain ⟨T8, h8, X8, e8, W8, st8⟩ := putF X3 hx hZ hown (host := "") (Or.inl (hw _ (List.mem_of_getElem? (i := 44) rfl))) Via.refl e3 f6 f7 (Or.inr ⟨(hw _ (List.mem_of_getElem? (i := 45) rfl)), rfl, hnm⟩) (hw _ (List.mem_of_getElem? (i := 31) rfl)) (ty := (.object "java/lang/String")) (by decide) rfl rfl (g := (mkF m 11 #[.val (.ref o0_), .val (.int x0_), .val (.ref o1_), .val (.int x1_)] [(.ref o1_), (.ref o0_)])) rfl rfl (hb hby d1_11)
  have N9 := Fr.snoc X8 N4 P9
  have f10 : Fld Z h8 o0_ "com/example/stackweave/stackweave/classfile/VerificationType" "className" "Ljava/lang/String;" (.ref o1_) := f6.same W8
  have f11 : Fld Z h3 o0_ "com/example/stackweave/stackweave/classfile/VerificationType" "newOffset" "I" (.int (0 : Int32)) := P3.other W3 (Or.inr (slot_ne (Or.inr (hw _ (List.mem_of_getElem? (i := 47) rfl))) (Or.inr (hw _ (List.mem_of_getElem? (i := 43) rfl))) (by decide) (t := .int) (t' := .int) (by decide) (by decide)))
  have f12 : Fld Z h8 o0_ "com/example/stackweave/stackweave/classfile/VerificationType" "newOffset" "I" (.int (0 : Int32)) := f11.other W8 (Or.inr (slot_ne (Or.inr (hw _ (List.mem_of_getElem? (i := 47) rfl))) (Or.inr (hw _ (List.mem_of_getElem? (i := 45) rfl))) (by decide) (t := .int) (t' := (.object "java/lang/String")) (by decide) (by decide)))
  have f13 : Exa Z h8 o0_ "com/example/stackweave/stackweave/classfile/VerificationType" := f7.wr W8
  obtain ⟨T14, h14, X14, e14, W14, st14⟩ := putF X8 hx hZ hown (host := "") (Or.inl (hw _ (List.mem_of_getElem? (i := 46) rfl))) Via.refl e8 f12 f13 (Or.inr ⟨(hw _ (List.mem_of_getElem? (i := 47) rfl)), rfl, hnm⟩) (hw _ (List.mem_of_getElem? (i := 31) rfl)) (ty := .int) (by decide) rfl rfl (g := (mkF m 16 #[.val (.ref o0_), .val (.int x0_), .val (.ref o1_), .val (.int x1_)] [(.int x1_), (.ref o0_)])) rfl rfl (hb hby d1_16)
  have N15 := Fr.snoc X14 N9 P9
  have f16 : Fld Z h14 o0_ "com/example/stackweave/stackweave/classfile/VerificationType" "newOffset" "I" (.int x1_) := f12.same W14
  have pre17 : ∀ t, Steps p.tables e below (T14.setTop (mkF m 19 #[.val (.ref o0_), .val (.int x0_), .val (.ref o1_), .val (.int x1_)] [])) t → Steps p.tables e below (s₁.setTop (entryFrame m #[(.ref o0_), (.int x0_), (.ref o1_), (.int x1_)] 4)) t := by
    intro t kt
    refine pre0 t ?_
    show Steps p.tables e below (s₁.setTop (mkF m 0 #[.val (.ref o0_), .val (.int x0_), .val (.ref o1_), .val (.int x1_)] [])) _
    refine XS.aloadN X0.here hx rfl (hb hby d1_0) rfl rfl ?_
    show Steps p.tables e below (s₁.setTop (mkF m 1 #[.val (.ref o0_), .val (.int x0_), .val (.ref o1_), .val (.int x1_)] [(.ref o0_)])) _
    refine st1.trans ?_
    show Steps p.tables e below (T1.setTop (mkF m 4 #[.val (.ref o0_), .val (.int x0_), .val (.ref o1_), .val (.int x1_)] [])) _
    refine XS.aloadN X1.here hx rfl (hb hby d1_4) rfl rfl ?_
    show Steps p.tables e below (T1.setTop (mkF m 5 #[.val (.ref o0_), .val (.int x0_), .val (.ref o1_), .val (.int x1_)] [(.ref o0_)])) _
    refine XS.iloadN X1.here hx rfl (hb hby d1_5) rfl ?_
    show Steps p.tables e below (T1.setTop (mkF m 6 #[.val (.ref o0_), .val (.int x0_), .val (.ref o1_), .val (.int x1_)] [(.int x0_), (.ref o0_)])) _
    refine st3 _ ?_
    show Steps p.tables e below (T3.setTop (mkF m 9 #[.val (.ref o0_), .val (.int x0_), .val (.ref o1_), .val (.int x1_)] [])) _
    refine XS.aloadN X3.here hx rfl (hb hby d1_9) rfl rfl ?_
    show Steps p.tables e below (T3.setTop (mkF m 10 #[.val (.ref o0_), .val (.int x0_), .val (.ref o1_), .val (.int x1_)] [(.ref o0_)])) _
    refine XS.aloadN X3.here hx rfl (hb hby d1_10) rfl rfl ?_
    show Steps p.tables e below (T3.setTop (mkF m 11 #[.val (.ref o0_), .val (.int x0_), .val (.ref o1_), .val (.int x1_)] [(.ref o1_), (.ref o0_)])) _
    refine st8 _ ?_
    show Steps p.tables e below (T8.setTop (mkF m 14 #[.val (.ref o0_), .val (.int x0_), .val (.ref o1_), .val (.int x1_)] [])) _
    refine XS.aloadN X8.here hx rfl (hb hby d1_14) rfl rfl ?_
    show Steps p.tables e below (T8.setTop (mkF m 15 #[.val (.ref o0_), .val (.int x0_), .val (.ref o1_), .val (.int x1_)] [(.ref o0_)])) _
    refine XS.iloadN X8.here hx rfl (hb hby d1_15) rfl ?_
    show Steps p.tables e below (T8.setTop (mkF m 16 #[.val (.ref o0_), .val (.int x0_), .val (.ref o1_), .val (.int x1_)] [(.int x1_), (.ref o0_)])) _
    refine st14 _ ?_
    exact kt
  have f19 : Keep h0 h3 [o0_] := K0.wr W3 (Or.inl (List.mem_of_getElem? (i := 0) rfl))
  have f20 : Keep h0 h8 [o0_] := f19.wr W8 (Or.inl (List.mem_of_getElem? (i := 0) rfl))
  have f21 : Keep h0 h14 [o0_] := f20.wr W14 (Or.inl (List.mem_of_getElem? (i := 0) rfl))
  have f22 : Exa Z h14 o0_ "com/example/stackweave/stackweave/classfile/VerificationType" := f13.wr W14
  have f23 : Fld Z h8 o0_ "com/example/stackweave/stackweave/classfile/VerificationType" "tag" "I" (.int x0_) := f5.other W8 (Or.inr (slot_ne (Or.inr (hw _ (List.mem_of_getElem? (i := 43) rfl))) (Or.inr (hw _ (List.mem_of_getElem? (i := 45) rfl))) (by decide) (t := .int) (t' := (.object "java/lang/String")) (by decide) (by decide)))
  have f24 : Fld Z h14 o0_ "com/example/stackweave/stackweave/classfile/VerificationType" "tag" "I" (.int x0_) := f23.other W14 (Or.inr (slot_ne (Or.inr (hw _ (List.mem_of_getElem? (i := 43) rfl))) (Or.inr (hw _ (List.mem_of_getElem? (i := 47) rfl))) (by decide) (t := .int) (t' := .int) (by decide) (by decide)))
  have f25 : Fld Z h14 o0_ "com/example/stackweave/stackweave/classfile/VerificationType" "className" "Ljava/lang/String;" (.ref o1_) := f10.other W14 (Or.inr (slot_ne (Or.inr (hw _ (List.mem_of_getElem? (i := 45) rfl))) (Or.inr (hw _ (List.mem_of_getElem? (i := 47) rfl))) (by decide) (t := (.object "java/lang/String")) (t' := .int) (by decide) (by decide)))
  obtain ⟨fs, hr, hrun, hended, hW, hsame⟩ := X14.leave (v := none) (fun _ => rfl)
  refine ⟨_, _, pre17 _ (X14.returnOut hx Bd.returns (hb hby d1_19) hr), hrun, hended, _, _, rfl, ?_, ⟨_, rfl⟩, hW, hsame.mono (by decide) (by decide)⟩
  show Qinit17 Z o0_ x0_ o1_ x1_ o2_ ko2_ x2_ x3_ h0 n0 _ T14.heap _
  rw [e14]
  exact ⟨rfl, N15, f21, f22, f24, f25, f16⟩
theorem efisReference18 (m : MethodId) (o0_ : Addr) : entryFrame m #[(.ref o0_)] 1 = mkF m 0 #[.val (.ref o0_)] [] := by first | (simp [entryFrame, mkF, argsToLocals, Value.category]; done) | rfl
def QisReference18 (Z : State) (o0_ : Addr) (x0_ : Int32) (o1_ : Addr) (x1_ : Int32) (o2_ : Addr) (ko2_ : ClassId) (x2_ : Int32) (x3_ : Int32) (h0 : Heap) (n0 : Nat) (v : Option Value) (h : Heap) (L : List Loc) : Prop := ∃ r_ : Int32, v = some (.int r_) ∧ (((1 : Int32) = r_ ∧ (x0_ = (7 : Int32))) ∨ ((1 : Int32) = r_ ∧ (¬ (x0_ = (7 : Int32))) ∧ (x0_ = (5 : Int32))) ∨ ((0 : Int32) = r_ ∧ (¬ (x0_ = (7 : Int32))) ∧ (¬ (x0_ = (5 : Int32))))) ∧ Fr n0 L ∧ h = h0
set_option maxRecDepth 65536 in
set_option maxHeartbeats 40000000 in
theorem rmisReference18 (l : Launch) (Z : State) (a0 : Array Value) (hw : ∀ d ∈ tables_1, d.before a0 Z = true) (ws : List Jvm.Cond) (o0_ : Addr) (x0_ : Int32) (o1_ : Addr) (x1_ : Int32) (o2_ : Addr) (ko2_ : ClassId) (x2_ : Int32) (x3_ : Int32) (h0 : Heap) (n0 : Nat) (O0 : Old Z n0 h0) (P0 : Exa Z h0 o0_ "com/example/stackweave/stackweave/classfile/VerificationType") (P1 : Fld Z h0 o0_ "com/example/stackweave/stackweave/classfile/VerificationType" "tag" "I" (.int x0_)) (P2 : Fld Z h0 o0_ "com/example/stackweave/stackweave/classfile/VerificationType" "className" "Ljava/lang/String;" (.ref o1_)) (P3 : Fld Z h0 o0_ "com/example/stackweave/stackweave/classfile/VerificationType" "newOffset" "I" (.int x1_)) (P4 : Exa Z h0 o1_ "java/lang/String") (P5 : Fld Z h0 o1_ "java/lang/String" "coder" "B" (.int (0 : Int32))) (P6 : Fld Z h0 o1_ "java/lang/String" "value" "[B" (.ref o2_)) (P7 : Arv Z h0 o2_ ko2_ .byte (2 : Int32) [(.int x2_), (.int x3_)] (.int (0 : Int32))) (P8 : Exa Z h0 o2_ "[B") :
    MetFree l (⟨"com/example/stackweave/stackweave/classfile/VerificationType", "isReference", "()Z"⟩ : MethodName) (head1 (Jvm.Cond.code (⟨"com/example/stackweave/stackweave/classfile/VerificationType", "isReference", "()Z"⟩ : MethodName) prog_38_method_10_code 1 (some .boolean) :: ws) ({ frames := 0, cells := 0, slots := 0, locals := 0 } : Room)) (fun a U => a = #[(.ref o0_)] ∧ Z.Warmed39 U.vm ∧ U.heap = h0) (fun _ _ _ _ _ => True) (fun _ U o U' => ∃ v L, o = .returned v ∧ QisReference18 Z o0_ x0_ o1_ x1_ o2_ ko2_ x2_ x3_ h0 n0 v U'.heap L ∧ FrameEnd U o U' L ({ frames := 0, cells := 0, slots := 0, locals := 0 } : Room).cells ({ frames := 0, cells := 0, slots := 0, locals := 0 } : Room).slots) := by
  refine MetFree.of_bodySF (plainFor_of_name pn_1) hisR ?_
  intro p e s m args below meth c s₁ Bd hml0 hP hK
  obtain ⟨rfl, hZ, hh⟩ := hP
  have hx := Bd.exec
  have hby := Bd.bytes
  have hml : c.maxLocals = 1 := hml0
  have hown : s.vm.findClass "com/example/stackweave/stackweave/classfile/VerificationType" = some m.cls := findClass_of_methodNamed Bd.named
  have hnm := (name_of_methodNamed Bd.named Bd.method).1
  have X0 : Stand p l e ({ frames := 0, cells := 0, slots := 0, locals := 0 } : Room) s m #[(.ref o0_)] below meth c s₁ [] 0 0 := Stand.of_body Bd
  have e0 : s₁.heap = h0 := by rw [← hh, Bd.state]; rfl
  have N0 := Fr.nil n0
  have pre0 : ∀ t, Steps p.tables e below (s₁.setTop (mkF m 0 #[.val (.ref o0_)] [])) t → Steps p.tables e below (s₁.setTop (entryFrame m #[(.ref o0_)] 1)) t := fun t k => castTop (efisReference18 m o0_) k
  have K0 : Keep h0 h0 [] := Keep.refl _ _
  obtain ⟨T1, X1, e1, st1⟩ := getF X0 hx hZ hown (host := "") (Or.inl (hw _ (List.mem_of_getElem? (i := 42) rfl))) Via.refl e0 P1 (g := (mkF m 1 #[.val (.ref o0_)] [(.ref o0_)])) rfl rfl (hb hby d3_1)
  have pre2 : ∀ t, Steps p.tables e below (T1.setTop (mkF m 6 #[.val (.ref o0_)] [(.int (7 : Int32)), (.int x0_)])) t → Steps p.tables e below (s₁.setTop (entryFrame m #[(.ref o0_)] 1)) t := by
    intro t kt
    refine pre0 t ?_
    show Steps p.tables e below (s₁.setTop (mkF m 0 #[.val (.ref o0_)] [])) _
    refine XS.aloadN X0.here hx rfl (hb hby d3_0) rfl rfl ?_
    show Steps p.tables e below (s₁.setTop (mkF m 1 #[.val (.ref o0_)] [(.ref o0_)])) _
    refine st1 _ ?_
    show Steps p.tables e below (T1.setTop (mkF m 4 #[.val (.ref o0_)] [(.int x0_)])) _
    refine XS.bipush X1.here hx rfl (hb hby d3_4) ?_
    exact kt
  by_cases hc3 : x0_ = (7 : Int32)
  · have pre4 : ∀ t, Steps p.tables e below (T1.setTop (mkF m 22 #[.val (.ref o0_)] [(.int (1 : Int32))])) t → Steps p.tables e below (s₁.setTop (entryFrame m #[(.ref o0_)] 1)) t := by
      intro t kt
      refine pre2 t ?_
      show Steps p.tables e below (T1.setTop (mkF m 6 #[.val (.ref o0_)] [(.int (7 : Int32)), (.int x0_)])) _
      refine XS.icmpYes X1.here hx rfl (pc0 := 6) (pc' := 17) rfl (hb hby d3_6) rfl (teq hc3).1 (by decide) (by decide) ?_
      show Steps p.tables e below (T1.setTop (mkF m 17 #[.val (.ref o0_)] [])) _
      refine XS.iconst X1.here hx rfl (hb hby d3_17) ?_
      show Steps p.tables e below (T1.setTop (mkF m 18 #[.val (.ref o0_)] [(.int (1 : Int32))])) _
      refine XS.goto X1.here hx rfl (pc0 := 18) (pc' := 22) rfl (hb hby d3_18) (by decide) (by decide) ?_
      exact kt
    obtain ⟨fs, hr, hrun, hended, hW, hsame⟩ := X1.leave (v := some (.int (1 : Int32))) (fun h => by rw [Bd.returns] at h; cases h)
    refine ⟨_, _, pre4 _ (retN X1 hx (t := .boolean) Bd.returns (by simp) (hb hby d3_22) hr), hrun, hended, _, _, rfl, ?_, ⟨_, rfl⟩, hW, hsame.mono (by decide) (by decide)⟩
    show QisReference18 Z o0_ x0_ o1_ x1_ o2_ ko2_ x2_ x3_ h0 n0 _ T1.heap _
    rw [e1]
    exact ⟨(1 : Int32), rfl, (Or.inl ⟨rfl, hc3⟩), N0, rfl⟩
  · obtain ⟨T6, X6, e6, st6⟩ := getF X1 hx hZ hown (host := "") (Or.inl (hw _ (List.mem_of_getElem? (i := 42) rfl))) Via.refl e1 P1 (g := (mkF m 10 #[.val (.ref o0_)] [(.ref o0_)])) rfl rfl (hb hby d3_10)
    have pre7 : ∀ t, Steps p.tables e below (T6.setTop (mkF m 14 #[.val (.ref o0_)] [(.int (5 : Int32)), (.int x0_)])) t → Steps p.tables e below (s₁.setTop (entryFrame m #[(.ref o0_)] 1)) t := by
      intro t kt
      refine pre2 t ?_
      show Steps p.tables e below (T1.setTop (mkF m 6 #[.val (.ref o0_)] [(.int (7 : Int32)), (.int x0_)])) _
      refine XS.icmpNo X1.here hx rfl (hb hby d3_6) rfl (feq hc3).1 ?_
      show Steps p.tables e below (T1.setTop (mkF m 9 #[.val (.ref o0_)] [])) _
      refine XS.aloadN X1.here hx rfl (hb hby d3_9) rfl rfl ?_
      show Steps p.tables e below (T1.setTop (mkF m 10 #[.val (.ref o0_)] [(.ref o0_)])) _
      refine st6 _ ?_
      show Steps p.tables e below (T6.setTop (mkF m 13 #[.val (.ref o0_)] [(.int x0_)])) _
      refine XS.iconst X6.here hx rfl (hb hby d3_13) ?_
      exact kt
    by_cases hc8 : x0_ = (5 : Int32)
    · have pre9 : ∀ t, Steps p.tables e below (T6.setTop (mkF m 22 #[.val (.ref o0_)] [(.int (1 : Int32))])) t → Steps p.tables e below (s₁.setTop (entryFrame m #[(.ref o0_)] 1)) t := by
        intro t kt
        refine pre7 t ?_
        show Steps p.tables e below (T6.setTop (mkF m 14 #[.val (.ref o0_)] [(.int (5 : Int32)), (.int x0_)])) _
        refine XS.icmpNo X6.here hx rfl (hb hby d3_14) rfl (teq hc8).2 ?_
        show Steps p.tables e below (T6.setTop (mkF m 17 #[.val (.ref o0_)] [])) _
        refine XS.iconst X6.here hx rfl (hb hby d3_17) ?_
        show Steps p.tables e below (T6.setTop (mkF m 18 #[.val (.ref o0_)] [(.int (1 : Int32))])) _
        refine XS.goto X6.here hx rfl (pc0 := 18) (pc' := 22) rfl (hb hby d3_18) (by decide) (by decide) ?_
        exact kt
      obtain ⟨fs, hr, hrun, hended, hW, hsame⟩ := X6.leave (v := some (.int (1 : Int32))) (fun h => by rw [Bd.returns] at h; cases h)
      refine ⟨_, _, pre9 _ (retN X6 hx (t := .boolean) Bd.returns (by simp) (hb hby d3_22) hr), hrun, hended, _, _, rfl, ?_, ⟨_, rfl⟩, hW, hsame.mono (by decide) (by decide)⟩
      show QisReference18 Z o0_ x0_ o1_ x1_ o2_ ko2_ x2_ x3_ h0 n0 _ T6.heap _
      rw [e6]
      exact ⟨(1 : Int32), rfl, (Or.inr (Or.inl ⟨rfl, hc3, hc8⟩)), N0, rfl⟩
    · have pre11 : ∀ t, Steps p.tables e below (T6.setTop (mkF m 22 #[.val (.ref o0_)] [(.int (0 : Int32))])) t → Steps p.tables e below (s₁.setTop (entryFrame m #[(.ref o0_)] 1)) t := by
        intro t kt
        refine pre7 t ?_
        show Steps p.tables e below (T6.setTop (mkF m 14 #[.val (.ref o0_)] [(.int (5 : Int32)), (.int x0_)])) _
        refine XS.icmpYes X6.here hx rfl (pc0 := 14) (pc' := 21) rfl (hb hby d3_14) rfl (feq hc8).2 (by decide) (by decide) ?_
        show Steps p.tables e below (T6.setTop (mkF m 21 #[.val (.ref o0_)] [])) _
        refine XS.iconst X6.here hx rfl (hb hby d3_21) ?_
        exact kt
      obtain ⟨fs, hr, hrun, hended, hW, hsame⟩ := X6.leave (v := some (.int (0 : Int32))) (fun h => by rw [Bd.returns] at h; cases h)
      refine ⟨_, _, pre11 _ (retN X6 hx (t := .boolean) Bd.returns (by simp) (hb hby d3_22) hr), hrun, hended, _, _, rfl, ?_, ⟨_, rfl⟩, hW, hsame.mono (by decide) (by decide)⟩
      show QisReference18 Z o0_ x0_ o1_ x1_ o2_ ko2_ x2_ x3_ h0 n0 _ T6.heap _
      rw [e6]
      exact ⟨(0 : Int32), rfl, (Or.inr (Or.inr ⟨rfl, hc3, hc8⟩)), N0, rfl⟩
theorem efkind19 (m : MethodId) (o0_ : Addr) : entryFrame m #[(.ref o0_)] 2 = mkF m 0 #[.val (.ref o0_), .unset] [] := by first | (simp [entryFrame, mkF, argsToLocals, Value.category]; done) | rfl
def Qkind19 (Z : State) (o0_ : Addr) (x0_ : Int32) (o1_ : Addr) (x1_ : Int32) (o2_ : Addr) (ko2_ : ClassId) (x2_ : Int32) (x3_ : Int32) (o3_ : Addr) (h0 : Heap) (n0 : Nat) (v : Option Value) (h : Heap) (L : List Loc) : Prop := v = some (.ref o3_) ∧ Fr n0 L ∧ h = h0
set_option maxRecDepth 65536 in
set_option maxHeartbeats 40000000 in
theorem rmkind19 (l : Launch) (Z : State) (a0 : Array Value) (hw : ∀ d ∈ tables_1, d.before a0 Z = true) (ws : List Jvm.Cond) (o0_ : Addr) (x0_ : Int32) (o1_ : Addr) (x1_ : Int32) (o2_ : Addr) (ko2_ : ClassId) (x2_ : Int32) (x3_ : Int32) (o3_ : Addr) (h0 : Heap) (n0 : Nat) (O0 : Old Z n0 h0) (ha0 : x0_ = (7 : Int32)) (P1 : Exa Z h0 o0_ "com/example/stackweave/stackweave/classfile/VerificationType") (P2 : Fld Z h0 o0_ "com/example/stackweave/stackweave/classfile/VerificationType" "tag" "I" (.int x0_)) (P3 : Fld Z h0 o0_ "com/example/stackweave/stackweave/classfile/VerificationType" "className" "Ljava/lang/String;" (.ref o1_)) (P4 : Fld Z h0 o0_ "com/example/stackweave/stackweave/classfile/VerificationType" "newOffset" "I" (.int x1_)) (P5 : Exa Z h0 o1_ "java/lang/String") (P6 : Fld Z h0 o1_ "java/lang/String" "coder" "B" (.int (0 : Int32))) (P7 : Fld Z h0 o1_ "java/lang/String" "value" "[B" (.ref o2_)) (P8 : Arv Z h0 o2_ ko2_ .byte (2 : Int32) [(.int x2_), (.int x3_)] (.int (0 : Int32))) (P9 : Exa Z h0 o2_ "[B") (P10 : Exa Z Z.heap o3_ "com/example/stackweave/stackweave/classfile/ValueKind") (P11 : Fld Z Z.heap o3_ "java/lang/Enum" "ordinal" "I" (.int (4 : Int32))) (P12 : Sta Z Z.heap "com/example/stackweave/stackweave/classfile/ValueKind" "REFERENCE" "Lcom/example/stackweave/stackweave/classfile/ValueKind;" (.ref o3_)) :
    MetFree l (⟨"com/example/stackweave/stackweave/classfile/VerificationType", "kind", "()Lcom/example/stackweave/stackweave/classfile/ValueKind;"⟩ : MethodName) (head1 (Jvm.Cond.code (⟨"com/example/stackweave/stackweave/classfile/VerificationType", "kind", "()Lcom/example/stackweave/stackweave/classfile/ValueKind;"⟩ : MethodName) prog_38_method_13_code 2 (some (.object "com/example/stackweave/stackweave/classfile/ValueKind")) :: ws) ({ frames := 0, cells := 0, slots := 0, locals := 0 } : Room)) (fun a U => a = #[(.ref o0_)] ∧ Z.Warmed39 U.vm ∧ U.heap = h0) (fun _ _ _ _ _ => True) (fun _ U o U' => ∃ v L, o = .returned v ∧ Qkind19 Z o0_ x0_ o1_ x1_ o2_ ko2_ x2_ x3_ o3_ h0 n0 v U'.heap L ∧ FrameEnd U o U' L ({ frames := 0, cells := 0, slots := 0, locals := 0 } : Room).cells ({ frames := 0, cells := 0, slots := 0, locals := 0 } : Room).slots) := by
  refine MetFree.of_bodySF (plainFor_of_name pn_1) hisR ?_
  intro p e s m args below meth c s₁ Bd hml0 hP hK
  obtain ⟨rfl, hZ, hh⟩ := hP
  have hx := Bd.exec
  have hby := Bd.bytes
  have hml : c.maxLocals = 2 := hml0
  have hown : s.vm.findClass "com/example/stackweave/stackweave/classfile/VerificationType" = some m.cls := findClass_of_methodNamed Bd.named
  have hnm := (name_of_methodNamed Bd.named Bd.method).1
  have X0 : Stand p l e ({ frames := 0, cells := 0, slots := 0, locals := 0 } : Room) s m #[(.ref o0_)] below meth c s₁ [] 0 0 := Stand.of_body Bd
  have e0 : s₁.heap = h0 := by rw [← hh, Bd.state]; rfl
  have N0 := Fr.nil n0
  have pre0 : ∀ t, Steps p.tables e below (s₁.setTop (mkF m 0 #[.val (.ref o0_), .unset] [])) t → Steps p.tables e below (s₁.setTop (entryFrame m #[(.ref o0_)] 2)) t := fun t k => castTop (efkind19 m o0_) k
  have K0 : Keep h0 h0 [] := Keep.refl _ _
  obtain ⟨T1, X1, e1, st1⟩ := getF X0 hx hZ hown (host := "") (Or.inl (hw _ (List.mem_of_getElem? (i := 42) rfl))) Via.refl e0 P2 (g := (mkF m 1 #[.val (.ref o0_), .unset] [(.ref o0_)])) rfl rfl (hb hby d4_1)
  have pre2 : ∀ t, Steps p.tables e below (T1.setTop (mkF m 4 #[.val (.ref o0_), .unset] [(.int x0_)])) t → Steps p.tables e below (s₁.setTop (entryFrame m #[(.ref o0_)] 2)) t := by
    intro t kt
    refine pre0 t ?_
    show Steps p.tables e below (s₁.setTop (mkF m 0 #[.val (.ref o0_), .unset] [])) _
    refine XS.aloadN X0.here hx rfl (hb hby d4_0) rfl rfl ?_
    show Steps p.tables e below (s₁.setTop (mkF m 1 #[.val (.ref o0_), .unset] [(.ref o0_)])) _
    refine st1 _ ?_
    exact kt
  by_cases hv3 : x0_ = (7 : Int32)
  · have pre4 : ∀ t, Steps p.tables e below (T1.setTop (mkF m 4 #[.val (.ref o0_), .unset] [(.int (7 : Int32))])) t → Steps p.tables e below (s₁.setTop (entryFrame m #[(.ref o0_)] 2)) t := fun t kt => pre2 t (by rw [hv3]; exact kt)
    obtain ⟨T5, X5, e5, st5⟩ := getS2 X1 hx hZ hown (host := "") (Or.inl (hw _ (List.mem_of_getElem? (i := 64) rfl))) Via.refl e1 (P12.ext O0.2) (g := (mkF m 80 #[.val (.ref o0_), .unset] [])) rfl (hb hby d4_80)
    have pre6 : ∀ t, Steps p.tables e below (T5.setTop (mkF m 98 #[.val (.ref o0_), .val (.ref o3_)] [(.ref o3_)])) t → Steps p.tables e below (s₁.setTop (entryFrame m #[(.ref o0_)] 2)) t := by
      intro t kt
      refine pre4 t ?_
      show Steps p.tables e below (T1.setTop (mkF m 4 #[.val (.ref o0_), .unset] [(.int (7 : Int32))])) _
      refine XS.tswIn X1.here hx rfl (pc0 := 4) (pc' := 80) (o := 76) rfl (hb hby d4_4) rfl (by decide) rfl (by decide) (by decide) ?_
      show Steps p.tables e below (T1.setTop (mkF m 80 #[.val (.ref o0_), .unset] [])) _
      refine st5 _ ?_
      show Steps p.tables e below (T5.setTop (mkF m 83 #[.val (.ref o0_), .unset] [(.ref o3_)])) _
      refine XS.astoreN X5.here hx rfl (hb hby d4_83) rfl rfl (l' := #[.val (.ref o0_), .val (.ref o3_)]) rfl ?_
      show Steps p.tables e below (T5.setTop (mkF m 84 #[.val (.ref o0_), .val (.ref o3_)] [])) _
      refine XS.goto X5.here hx rfl (pc0 := 84) (pc' := 97) rfl (hb hby d4_84) (by decide) (by decide) ?_
      show Steps p.tables e below (T5.setTop (mkF m 97 #[.val (.ref o0_), .val (.ref o3_)] [])) _
      refine XS.aloadN X5.here hx rfl (hb hby d4_97) rfl rfl ?_
      exact kt
    obtain ⟨fs, hr, hrun, hended, hW, hsame⟩ := X5.leave (v := some (.ref o3_)) (fun h => by rw [Bd.returns] at h; cases h)
    refine ⟨_, _, pre6 _ (retOut X5 hx Bd.returns rfl (Or.inr (Or.inr (Or.inr (Or.inr ⟨rfl, rfl, rfl⟩)))) (hb hby d4_98) hr), hrun, hended, _, _, rfl, ?_, ⟨_, rfl⟩, hW, hsame.mono (by decide) (by decide)⟩
    show Qkind19 Z o0_ x0_ o1_ x1_ o2_ ko2_ x2_ x3_ o3_ h0 n0 _ T5.heap _
    rw [e5]
    exact ⟨rfl, N0, rfl⟩
  · exfalso
    have lt_0 : ((7 : Int32)).toInt = 7 := rfl
    simp only [Int32.lt_iff_toInt_lt, Int64.lt_iff_toInt_lt, ← Int32.toInt_inj, ← Int64.toInt_inj] at ha0 hv3
    omega
theorem efisUninitialized20 (m : MethodId) (o0_ : Addr) : entryFrame m #[(.ref o0_)] 1 = mkF m 0 #[.val (.ref o0_)] [] := by first | (simp [entryFrame, mkF, argsToLocals, Value.category]; done) | rfl
def QisUninitialized20 (Z : State) (o0_ : Addr) (x0_ : Int32) (o1_ : Addr) (x1_ : Int32) (o2_ : Addr) (ko2_ : ClassId) (x2_ : Int32) (x3_ : Int32) (h0 : Heap) (n0 : Nat) (v : Option Value) (h : Heap) (L : List Loc) : Prop := v = some (.int (0 : Int32)) ∧ Fr n0 L ∧ h = h0
set_option maxRecDepth 65536 in
set_option maxHeartbeats 40000000 in
theorem rmisUninitialized20 (l : Launch) (Z : State) (a0 : Array Value) (hw : ∀ d ∈ tables_1, d.before a0 Z = true) (ws : List Jvm.Cond) (o0_ : Addr) (x0_ : Int32) (o1_ : Addr) (x1_ : Int32) (o2_ : Addr) (ko2_ : ClassId) (x2_ : Int32) (x3_ : Int32) (h0 : Heap) (n0 : Nat) (O0 : Old Z n0 h0) (ha0 : x0_ = (7 : Int32)) (P1 : Exa Z h0 o0_ "com/example/stackweave/stackweave/classfile/VerificationType") (P2 : Fld Z h0 o0_ "com/example/stackweave/stackweave/classfile/VerificationType" "tag" "I" (.int x0_)) (P3 : Fld Z h0 o0_ "com/example/stackweave/stackweave/classfile/VerificationType" "className" "Ljava/lang/String;" (.ref o1_)) (P4 : Fld Z h0 o0_ "com/example/stackweave/stackweave/classfile/VerificationType" "newOffset" "I" (.int x1_)) (P5 : Exa Z h0 o1_ "java/lang/String") (P6 : Fld Z h0 o1_ "java/lang/String" "coder" "B" (.int (0 : Int32))) (P7 : Fld Z h0 o1_ "java/lang/String" "value" "[B" (.ref o2_)) (P8 : Arv Z h0 o2_ ko2_ .byte (2 : Int32) [(.int x2_), (.int x3_)] (.int (0 : Int32))) (P9 : Exa Z h0 o2_ "[B") :
    MetFree l (⟨"com/example/stackweave/stackweave/classfile/VerificationType", "isUninitialized", "()Z"⟩ : MethodName) (head1 (Jvm.Cond.code (⟨"com/example/stackweave/stackweave/classfile/VerificationType", "isUninitialized", "()Z"⟩ : MethodName) prog_38_method_11_code 1 (some .boolean) :: ws) ({ frames := 0, cells := 0, slots := 0, locals := 0 } : Room)) (fun a U => a = #[(.ref o0_)] ∧ Z.Warmed39 U.vm ∧ U.heap = h0) (fun _ _ _ _ _ => True) (fun _ U o U' => ∃ v L, o = .returned v ∧ QisUninitialized20 Z o0_ x0_ o1_ x1_ o2_ ko2_ x2_ x3_ h0 n0 v U'.heap L ∧ FrameEnd U o U' L ({ frames := 0, cells := 0, slots := 0, locals := 0 } : Room).cells ({ frames := 0, cells := 0, slots := 0, locals := 0 } : Room).slots) := by
  refine MetFree.of_bodySF (plainFor_of_name pn_1) hisR ?_
  intro p e s m args below meth c s₁ Bd hml0 hP hK
  obtain ⟨rfl, hZ, hh⟩ := hP
  have hx := Bd.exec
  have hby := Bd.bytes
  have hml : c.maxLocals = 1 := hml0
  have hown : s.vm.findClass "com/example/stackweave/stackweave/classfile/VerificationType" = some m.cls := findClass_of_methodNamed Bd.named
  have hnm := (name_of_methodNamed Bd.named Bd.method).1
  have X0 : Stand p l e ({ frames := 0, cells := 0, slots := 0, locals := 0 } : Room) s m #[(.ref o0_)] below meth c s₁ [] 0 0 := Stand.of_body Bd
  have e0 : s₁.heap = h0 := by rw [← hh, Bd.state]; rfl
  have N0 := Fr.nil n0
  have pre0 : ∀ t, Steps p.tables e below (s₁.setTop (mkF m 0 #[.val (.ref o0_)] [])) t → Steps p.tables e below (s₁.setTop (entryFrame m #[(.ref o0_)] 1)) t := fun t k => castTop (efisUninitialized20 m o0_) k
  have K0 : Keep h0 h0 [] := Keep.refl _ _
  obtain ⟨T1, X1, e1, st1⟩ := getF X0 hx hZ hown (host := "") (Or.inl (hw _ (List.mem_of_getElem? (i := 42) rfl))) Via.refl e0 P2 (g := (mkF m 1 #[.val (.ref o0_)] [(.ref o0_)])) rfl rfl (hb hby d5_1)
  obtain ⟨T2, X2, e2, st2⟩ := getF X1 hx hZ hown (host := "") (Or.inl (hw _ (List.mem_of_getElem? (i := 42) rfl))) Via.refl e1 P2 (g := (mkF m 10 #[.val (.ref o0_)] [(.ref o0_)])) rfl rfl (hb hby d5_10)
  have pre3 : ∀ t, Steps p.tables e below (T2.setTop (mkF m 23 #[.val (.ref o0_)] [(.int (0 : Int32))])) t → Steps p.tables e below (s₁.setTop (entryFrame m #[(.ref o0_)] 1)) t := by
    intro t kt
    refine pre0 t ?_
    show Steps p.tables e below (s₁.setTop (mkF m 0 #[.val (.ref o0_)] [])) _
    refine XS.aloadN X0.here hx rfl (hb hby d5_0) rfl rfl ?_
    show Steps p.tables e below (s₁.setTop (mkF m 1 #[.val (.ref o0_)] [(.ref o0_)])) _
    refine st1 _ ?_
    show Steps p.tables e below (T1.setTop (mkF m 4 #[.val (.ref o0_)] [(.int x0_)])) _
    refine XS.bipush X1.here hx rfl (hb hby d5_4) ?_
    show Steps p.tables e below (T1.setTop (mkF m 6 #[.val (.ref o0_)] [(.int (6 : Int32)), (.int x0_)])) _
    refine XS.icmpNo X1.here hx rfl (hb hby d5_6) rfl (feq (by intro hz; have lt_0 : ((6 : Int32)).toInt = 6 := rfl; have lt_1 : ((7 : Int32)).toInt = 7 := rfl; simp only [Int32.lt_iff_toInt_lt, Int64.lt_iff_toInt_lt, ← Int32.toInt_inj, ← Int64.toInt_inj] at hz ha0; omega)).1 ?_
    show Steps p.tables e below (T1.setTop (mkF m 9 #[.val (.ref o0_)] [])) _
    refine XS.aloadN X1.here hx rfl (hb hby d5_9) rfl rfl ?_
    show Steps p.tables e below (T1.setTop (mkF m 10 #[.val (.ref o0_)] [(.ref o0_)])) _
    refine st2 _ ?_
    show Steps p.tables e below (T2.setTop (mkF m 13 #[.val (.ref o0_)] [(.int x0_)])) _
    refine XS.bipush X2.here hx rfl (hb hby d5_13) ?_
    show Steps p.tables e below (T2.setTop (mkF m 15 #[.val (.ref o0_)] [(.int (8 : Int32)), (.int x0_)])) _
    refine XS.icmpYes X2.here hx rfl (pc0 := 15) (pc' := 22) rfl (hb hby d5_15) rfl (feq (by intro hz; have lt_0 : ((7 : Int32)).toInt = 7 := rfl; have lt_1 : ((8 : Int32)).toInt = 8 := rfl; simp only [Int32.lt_iff_toInt_lt, Int64.lt_iff_toInt_lt, ← Int32.toInt_inj, ← Int64.toInt_inj] at hz ha0; omega)).2 (by decide) (by decide) ?_
    show Steps p.tables e below (T2.setTop (mkF m 22 #[.val (.ref o0_)] [])) _
    refine XS.iconst X2.here hx rfl (hb hby d5_22) ?_
    exact kt
  obtain ⟨fs, hr, hrun, hended, hW, hsame⟩ := X2.leave (v := some (.int (0 : Int32))) (fun h => by rw [Bd.returns] at h; cases h)
  refine ⟨_, _, pre3 _ (retN X2 hx (t := .boolean) Bd.returns (by simp) (hb hby d5_23) hr), hrun, hended, _, _, rfl, ?_, ⟨_, rfl⟩, hW, hsame.mono (by decide) (by decide)⟩
  show QisUninitialized20 Z o0_ x0_ o1_ x1_ o2_ ko2_ x2_ x3_ h0 n0 _ T2.heap _
  rw [e2]
  exact ⟨rfl, N0, rfl⟩
theorem efkind21 (m : MethodId) (o0_ : Addr) : entryFrame m #[(.ref o0_)] 2 = mkF m 0 #[.val (.ref o0_), .unset] [] := by first | (simp [entryFrame, mkF, argsToLocals, Value.category]; done) | rfl
def Qkind21 (Z : State) (o0_ : Addr) (x0_ : Int32) (o1_ : Addr) (x1_ : Int32) (o2_ : Addr) (ko2_ : ClassId) (x2_ : Int32) (x3_ : Int32) (o3_ : Addr) (h0 : Heap) (n0 : Nat) (v : Option Value) (h : Heap) (L : List Loc) : Prop := v = some (.ref o3_) ∧ Fr n0 L ∧ h = h0
set_option maxRecDepth 65536 in
set_option maxHeartbeats 40000000 in
theorem rmkind21 (l : Launch) (Z : State) (a0 : Array Value) (hw : ∀ d ∈ tables_1, d.before a0 Z = true) (ws : List Jvm.Cond) (o0_ : Addr) (x0_ : Int32) (o1_ : Addr) (x1_ : Int32) (o2_ : Addr) (ko2_ : ClassId) (x2_ : Int32) (x3_ : Int32) (o3_ : Addr) (h0 : Heap) (n0 : Nat) (O0 : Old Z n0 h0) (ha0 : ¬ (x0_ = (7 : Int32))) (ha1 : x0_ = (5 : Int32)) (P2 : Exa Z h0 o0_ "com/example/stackweave/stackweave/classfile/VerificationType") (P3 : Fld Z h0 o0_ "com/example/stackweave/stackweave/classfile/VerificationType" "tag" "I" (.int x0_)) (P4 : Fld Z h0 o0_ "com/example/stackweave/stackweave/classfile/VerificationType" "className" "Ljava/lang/String;" (.ref o1_)) (P5 : Fld Z h0 o0_ "com/example/stackweave/stackweave/classfile/VerificationType" "newOffset" "I" (.int x1_)) (P6 : Exa Z h0 o1_ "java/lang/String") (P7 : Fld Z h0 o1_ "java/lang/String" "coder" "B" (.int (0 : Int32))) (P8 : Fld Z h0 o1_ "java/lang/String" "value" "[B" (.ref o2_)) (P9 : Arv Z h0 o2_ ko2_ .byte (2 : Int32) [(.int x2_), (.int x3_)] (.int (0 : Int32))) (P10 : Exa Z h0 o2_ "[B") (P11 : Exa Z Z.heap o3_ "com/example/stackweave/stackweave/classfile/ValueKind") (P12 : Fld Z Z.heap o3_ "java/lang/Enum" "ordinal" "I" (.int (4 : Int32))) (P13 : Sta Z Z.heap "com/example/stackweave/stackweave/classfile/ValueKind" "REFERENCE" "Lcom/example/stackweave/stackweave/classfile/ValueKind;" (.ref o3_)) :
    MetFree l (⟨"com/example/stackweave/stackweave/classfile/VerificationType", "kind", "()Lcom/example/stackweave/stackweave/classfile/ValueKind;"⟩ : MethodName) (head1 (Jvm.Cond.code (⟨"com/example/stackweave/stackweave/classfile/VerificationType", "kind", "()Lcom/example/stackweave/stackweave/classfile/ValueKind;"⟩ : MethodName) prog_38_method_13_code 2 (some (.object "com/example/stackweave/stackweave/classfile/ValueKind")) :: ws) ({ frames := 0, cells := 0, slots := 0, locals := 0 } : Room)) (fun a U => a = #[(.ref o0_)] ∧ Z.Warmed39 U.vm ∧ U.heap = h0) (fun _ _ _ _ _ => True) (fun _ U o U' => ∃ v L, o = .returned v ∧ Qkind21 Z o0_ x0_ o1_ x1_ o2_ ko2_ x2_ x3_ o3_ h0 n0 v U'.heap L ∧ FrameEnd U o U' L ({ frames := 0, cells := 0, slots := 0, locals := 0 } : Room).cells ({ frames := 0, cells := 0, slots := 0, locals := 0 } : Room).slots) := by
  refine MetFree.of_bodySF (plainFor_of_name pn_1) hisR ?_
  intro p e s m args below meth c s₁ Bd hml0 hP hK
  obtain ⟨rfl, hZ, hh⟩ := hP
  have hx := Bd.exec
  have hby := Bd.bytes
  have hml : c.maxLocals = 2 := hml0
  have hown : s.vm.findClass "com/example/stackweave/stackweave/classfile/VerificationType" = some m.cls := findClass_of_methodNamed Bd.named
  have hnm := (name_of_methodNamed Bd.named Bd.method).1
  have X0 : Stand p l e ({ frames := 0, cells := 0, slots := 0, locals := 0 } : Room) s m #[(.ref o0_)] below meth c s₁ [] 0 0 := Stand.of_body Bd
  have e0 : s₁.heap = h0 := by rw [← hh, Bd.state]; rfl
  have N0 := Fr.nil n0
  have pre0 : ∀ t, Steps p.tables e below (s₁.setTop (mkF m 0 #[.val (.ref o0_), .unset] [])) t → Steps p.tables e below (s₁.setTop (entryFrame m #[(.ref o0_)] 2)) t := fun t k => castTop (efkind21 m o0_) k
  have K0 : Keep h0 h0 [] := Keep.refl _ _
  obtain ⟨T1, X1, e1, st1⟩ := getF X0 hx hZ hown (host := "") (Or.inl (hw _ (List.mem_of_getElem? (i := 42) rfl))) Via.refl e0 P3 (g := (mkF m 1 #[.val (.ref o0_), .unset] [(.ref o0_)])) rfl rfl (hb hby d4_1)
  have pre2 : ∀ t, Steps p.tables e below (T1.setTop (mkF m 4 #[.val (.ref o0_), .unset] [(.int x0_)])) t → Steps p.tables e below (s₁.setTop (entryFrame m #[(.ref o0_)] 2)) t := by
    intro t kt
    refine pre0 t ?_
    show Steps p.tables e below (s₁.setTop (mkF m 0 #[.val (.ref o0_), .unset] [])) _
    refine XS.aloadN X0.here hx rfl (hb hby d4_0) rfl rfl ?_
    show Steps p.tables e below (s₁.setTop (mkF m 1 #[.val (.ref o0_), .unset] [(.ref o0_)])) _
    refine st1 _ ?_
    exact kt
  by_cases hv3 : x0_ = (5 : Int32)
  · have pre4 : ∀ t, Steps p.tables e below (T1.setTop (mkF m 4 #[.val (.ref o0_), .unset] [(.int (5 : Int32))])) t → Steps p.tables e below (s₁.setTop (entryFrame m #[(.ref o0_)] 2)) t := fun t kt => pre2 t (by rw [hv3]; exact kt)
    obtain ⟨T5, X5, e5, st5⟩ := getS2 X1 hx hZ hown (host := "") (Or.inl (hw _ (List.mem_of_getElem? (i := 64) rfl))) Via.refl e1 (P13.ext O0.2) (g := (mkF m 80 #[.val (.ref o0_), .unset] [])) rfl (hb hby d4_80)
    have pre6 : ∀ t, Steps p.tables e below (T5.setTop (mkF m 98 #[.val (.ref o0_), .val (.ref o3_)] [(.ref o3_)])) t → Steps p.tables e below (s₁.setTop (entryFrame m #[(.ref o0_)] 2)) t := by
      intro t kt
      refine pre4 t ?_
      show Steps p.tables e below (T1.setTop (mkF m 4 #[.val (.ref o0_), .unset] [(.int (5 : Int32))])) _
      refine XS.tswIn X1.here hx rfl (pc0 := 4) (pc' := 80) (o := 76) rfl (hb hby d4_4) rfl (by decide) rfl (by decide) (by decide) ?_
      show Steps p.tables e below (T1.setTop (mkF m 80 #[.val (.ref o0_), .unset] [])) _
      refine st5 _ ?_
      show Steps p.tables e below (T5.setTop (mkF m 83 #[.val (.ref o0_), .unset] [(.ref o3_)])) _
      refine XS.astoreN X5.here hx rfl (hb hby d4_83) rfl rfl (l' := #[.val (.ref o0_), .val (.ref o3_)]) rfl ?_
      show Steps p.tables e below (T5.setTop (mkF m 84 #[.val (.ref o0_), .val (.ref o3_)] [])) _
      refine XS.goto X5.here hx rfl (pc0 := 84) (pc' := 97) rfl (hb hby d4_84) (by decide) (by decide) ?_
      show Steps p.tables e below (T5.setTop (mkF m 97 #[.val (.ref o0_), .val (.ref o3_)] [])) _
      refine XS.aloadN X5.here hx rfl (hb hby d4_97) rfl rfl ?_
      exact kt
    obtain ⟨fs, hr, hrun, hended, hW, hsame⟩ := X5.leave (v := some (.ref o3_)) (fun h => by rw [Bd.returns] at h; cases h)
    refine ⟨_, _, pre6 _ (retOut X5 hx Bd.returns rfl (Or.inr (Or.inr (Or.inr (Or.inr ⟨rfl, rfl, rfl⟩)))) (hb hby d4_98) hr), hrun, hended, _, _, rfl, ?_, ⟨_, rfl⟩, hW, hsame.mono (by decide) (by decide)⟩
    show Qkind21 Z o0_ x0_ o1_ x1_ o2_ ko2_ x2_ x3_ o3_ h0 n0 _ T5.heap _
    rw [e5]
    exact ⟨rfl, N0, rfl⟩
  · exfalso
    have lt_0 : ((5 : Int32)).toInt = 5 := rfl
    have lt_1 : ((7 : Int32)).toInt = 7 := rfl
    simp only [Int32.lt_iff_toInt_lt, Int64.lt_iff_toInt_lt, ← Int32.toInt_inj, ← Int64.toInt_inj] at ha0 ha1 hv3
    omega
theorem efisUninitialized22 (m : MethodId) (o0_ : Addr) : entryFrame m #[(.ref o0_)] 1 = mkF m 0 #[.val (.ref o0_)] [] := by first | (simp [entryFrame, mkF, argsToLocals, Value.category]; done) | rfl
def QisUninitialized22 (Z : State) (o0_ : Addr) (x0_ : Int32) (o1_ : Addr) (x1_ : Int32) (o2_ : Addr) (ko2_ : ClassId) (x2_ : Int32) (x3_ : Int32) (h0 : Heap) (n0 : Nat) (v : Option Value) (h : Heap) (L : List Loc) : Prop := v = some (.int (0 : Int32)) ∧ Fr n0 L ∧ h = h0
set_option maxRecDepth 65536 in
set_option maxHeartbeats 40000000 in
theorem rmisUninitialized22 (l : Launch) (Z : State) (a0 : Array Value) (hw : ∀ d ∈ tables_1, d.before a0 Z = true) (ws : List Jvm.Cond) (o0_ : Addr) (x0_ : Int32) (o1_ : Addr) (x1_ : Int32) (o2_ : Addr) (ko2_ : ClassId) (x2_ : Int32) (x3_ : Int32) (h0 : Heap) (n0 : Nat) (O0 : Old Z n0 h0) (ha0 : ¬ (x0_ = (7 : Int32))) (ha1 : x0_ = (5 : Int32)) (P2 : Exa Z h0 o0_ "com/example/stackweave/stackweave/classfile/VerificationType") (P3 : Fld Z h0 o0_ "com/example/stackweave/stackweave/classfile/VerificationType" "tag" "I" (.int x0_)) (P4 : Fld Z h0 o0_ "com/example/stackweave/stackweave/classfile/VerificationType" "className" "Ljava/lang/String;" (.ref o1_)) (P5 : Fld Z h0 o0_ "com/example/stackweave/stackweave/classfile/VerificationType" "newOffset" "I" (.int x1_)) (P6 : Exa Z h0 o1_ "java/lang/String") (P7 : Fld Z h0 o1_ "java/lang/String" "coder" "B" (.int (0 : Int32))) (P8 : Fld Z h0 o1_ "java/lang/String" "value" "[B" (.ref o2_)) (P9 : Arv Z h0 o2_ ko2_ .byte (2 : Int32) [(.int x2_), (.int x3_)] (.int (0 : Int32))) (P10 : Exa Z h0 o2_ "[B") :
    MetFree l (⟨"com/example/stackweave/stackweave/classfile/VerificationType", "isUninitialized", "()Z"⟩ : MethodName) (head1 (Jvm.Cond.code (⟨"com/example/stackweave/stackweave/classfile/VerificationType", "isUninitialized", "()Z"⟩ : MethodName) prog_38_method_11_code 1 (some .boolean) :: ws) ({ frames := 0, cells := 0, slots := 0, locals := 0 } : Room)) (fun a U => a = #[(.ref o0_)] ∧ Z.Warmed39 U.vm ∧ U.heap = h0) (fun _ _ _ _ _ => True) (fun _ U o U' => ∃ v L, o = .returned v ∧ QisUninitialized22 Z o0_ x0_ o1_ x1_ o2_ ko2_ x2_ x3_ h0 n0 v U'.heap L ∧ FrameEnd U o U' L ({ frames := 0, cells := 0, slots := 0, locals := 0 } : Room).cells ({ frames := 0, cells := 0, slots := 0, locals := 0 } : Room).slots) := by
  refine MetFree.of_bodySF (plainFor_of_name pn_1) hisR ?_
  intro p e s m args below meth c s₁ Bd hml0 hP hK
  obtain ⟨rfl, hZ, hh⟩ := hP
  have hx := Bd.exec
  have hby := Bd.bytes
  have hml : c.maxLocals = 1 := hml0
  have hown : s.vm.findClass "com/example/stackweave/stackweave/classfile/VerificationType" = some m.cls := findClass_of_methodNamed Bd.named
  have hnm := (name_of_methodNamed Bd.named Bd.method).1
  have X0 : Stand p l e ({ frames := 0, cells := 0, slots := 0, locals := 0 } : Room) s m #[(.ref o0_)] below meth c s₁ [] 0 0 := Stand.of_body Bd
  have e0 : s₁.heap = h0 := by rw [← hh, Bd.state]; rfl
  have N0 := Fr.nil n0
  have pre0 : ∀ t, Steps p.tables e below (s₁.setTop (mkF m 0 #[.val (.ref o0_)] [])) t → Steps p.tables e below (s₁.setTop (entryFrame m #[(.ref o0_)] 1)) t := fun t k => castTop (efisUninitialized22 m o0_) k
  have K0 : Keep h0 h0 [] := Keep.refl _ _
  obtain ⟨T1, X1, e1, st1⟩ := getF X0 hx hZ hown (host := "") (Or.inl (hw _ (List.mem_of_getElem? (i := 42) rfl))) Via.refl e0 P3 (g := (mkF m 1 #[.val (.ref o0_)] [(.ref o0_)])) rfl rfl (hb hby d5_1)
  obtain ⟨T2, X2, e2, st2⟩ := getF X1 hx hZ hown (host := "") (Or.inl (hw _ (List.mem_of_getElem? (i := 42) rfl))) Via.refl e1 P3 (g := (mkF m 10 #[.val (.ref o0_)] [(.ref o0_)])) rfl rfl (hb hby d5_10)
  have pre3 : ∀ t, Steps p.tables e below (T2.setTop (mkF m 23 #[.val (.ref o0_)] [(.int (0 : Int32))])) t → Steps p.tables e below (s₁.setTop (entryFrame m #[(.ref o0_)] 1)) t := by
    intro t kt
    refine pre0 t ?_
    show Steps p.tables e below (s₁.setTop (mkF m 0 #[.val (.ref o0_)] [])) _
    refine XS.aloadN X0.here hx rfl (hb hby d5_0) rfl rfl ?_
    show Steps p.tables e below (s₁.setTop (mkF m 1 #[.val (.ref o0_)] [(.ref o0_)])) _
    refine st1 _ ?_
    show Steps p.tables e below (T1.setTop (mkF m 4 #[.val (.ref o0_)] [(.int x0_)])) _
    refine XS.bipush X1.here hx rfl (hb hby d5_4) ?_
    show Steps p.tables e below (T1.setTop (mkF m 6 #[.val (.ref o0_)] [(.int (6 : Int32)), (.int x0_)])) _
    refine XS.icmpNo X1.here hx rfl (hb hby d5_6) rfl (feq (by intro hz; have lt_0 : ((5 : Int32)).toInt = 5 := rfl; have lt_1 : ((6 : Int32)).toInt = 6 := rfl; have lt_2 : ((7 : Int32)).toInt = 7 := rfl; simp only [Int32.lt_iff_toInt_lt, Int64.lt_iff_toInt_lt, ← Int32.toInt_inj, ← Int64.toInt_inj] at hz ha0 ha1; omega)).1 ?_
    show Steps p.tables e below (T1.setTop (mkF m 9 #[.val (.ref o0_)] [])) _
    refine XS.aloadN X1.here hx rfl (hb hby d5_9) rfl rfl ?_
    show Steps p.tables e below (T1.setTop (mkF m 10 #[.val (.ref o0_)] [(.ref o0_)])) _
    refine st2 _ ?_
    show Steps p.tables e below (T2.setTop (mkF m 13 #[.val (.ref o0_)] [(.int x0_)])) _
    refine XS.bipush X2.here hx rfl (hb hby d5_13) ?_
    show Steps p.tables e below (T2.setTop (mkF m 15 #[.val (.ref o0_)] [(.int (8 : Int32)), (.int x0_)])) _
    refine XS.icmpYes X2.here hx rfl (pc0 := 15) (pc' := 22) rfl (hb hby d5_15) rfl (feq (by intro hz; have lt_0 : ((5 : Int32)).toInt = 5 := rfl; have lt_1 : ((7 : Int32)).toInt = 7 := rfl; have lt_2 : ((8 : Int32)).toInt = 8 := rfl; simp only [Int32.lt_iff_toInt_lt, Int64.lt_iff_toInt_lt, ← Int32.toInt_inj, ← Int64.toInt_inj] at hz ha0 ha1; omega)).2 (by decide) (by decide) ?_
    show Steps p.tables e below (T2.setTop (mkF m 22 #[.val (.ref o0_)] [])) _
    refine XS.iconst X2.here hx rfl (hb hby d5_22) ?_
    exact kt
  obtain ⟨fs, hr, hrun, hended, hW, hsame⟩ := X2.leave (v := some (.int (0 : Int32))) (fun h => by rw [Bd.returns] at h; cases h)
  refine ⟨_, _, pre3 _ (retN X2 hx (t := .boolean) Bd.returns (by simp) (hb hby d5_23) hr), hrun, hended, _, _, rfl, ?_, ⟨_, rfl⟩, hW, hsame.mono (by decide) (by decide)⟩
  show QisUninitialized22 Z o0_ x0_ o1_ x1_ o2_ ko2_ x2_ x3_ h0 n0 _ T2.heap _
  rw [e2]
  exact ⟨rfl, N0, rfl⟩
theorem efkind23 (m : MethodId) (o0_ : Addr) : entryFrame m #[(.ref o0_)] 2 = mkF m 0 #[.val (.ref o0_), .unset] [] := by first | (simp [entryFrame, mkF, argsToLocals, Value.category]; done) | rfl
def Qkind23 (Z : State) (o0_ : Addr) (x0_ : Int32) (o1_ : Addr) (x1_ : Int32) (o2_ : Addr) (ko2_ : ClassId) (x2_ : Int32) (x3_ : Int32) (o3_ : Addr) (o4_ : Addr) (o5_ : Addr) (o6_ : Addr) (o7_ : Addr) (h0 : Heap) (n0 : Nat) (v : Option Value) (h : Heap) (L : List Loc) : Prop := ∃ r_ : Value, v = some r_ ∧ ((((.ref o3_) : Value) = r_ ∧ (x0_ = (1 : Int32))) ∨ (((.ref o4_) : Value) = r_ ∧ (¬ (x0_ = (1 : Int32))) ∧ (x0_ = (2 : Int32))) ∨ (((.ref o5_) : Value) = r_ ∧ (¬ (x0_ = (1 : Int32))) ∧ (¬ (x0_ = (2 : Int32))) ∧ (x0_ = (3 : Int32))) ∨ (((.ref o6_) : Value) = r_ ∧ (¬ (x0_ = (1 : Int32))) ∧ (¬ (x0_ = (2 : Int32))) ∧ (¬ (x0_ = (3 : Int32))) ∧ (x0_ = (4 : Int32))) ∨ (((.ref o7_) : Value) = r_ ∧ (¬ (x0_ = (1 : Int32))) ∧ (¬ (x0_ = (2 : Int32))) ∧ (¬ (x0_ = (3 : Int32))) ∧ (¬ (x0_ = (4 : Int32))) ∧ (x0_ = (6 : Int32))) ∨ (((.ref o7_) : Value) = r_ ∧ (¬ (x0_ = (1 : Int32))) ∧ (¬ (x0_ = (2 : Int32))) ∧ (¬ (x0_ = (3 : Int32))) ∧ (¬ (x0_ = (4 : Int32))) ∧ (¬ (x0_ = (6 : Int32))) ∧ (x0_ = (8 : Int32)))) ∧ Fr n0 L ∧ h = h0
set_option maxRecDepth 65536 in
set_option maxHeartbeats 40000000 in
theorem rmkind23 (l : Launch) (Z : State) (a0 : Array Value) (hw : ∀ d ∈ tables_1, d.before a0 Z = true) (ws : List Jvm.Cond) (o0_ : Addr) (x0_ : Int32) (o1_ : Addr) (x1_ : Int32) (o2_ : Addr) (ko2_ : ClassId) (x2_ : Int32) (x3_ : Int32) (o3_ : Addr) (o4_ : Addr) (o5_ : Addr) (o6_ : Addr) (o7_ : Addr) (h0 : Heap) (n0 : Nat) (O0 : Old Z n0 h0) (ha0 : ¬ (x0_ = (7 : Int32))) (ha1 : ¬ (x0_ = (5 : Int32))) (ha2 : ¬ (x0_ < (1 : Int32))) (ha3 : ¬ ((8 : Int32) < x0_)) (P4 : Exa Z h0 o0_ "com/example/stackweave/stackweave/classfile/VerificationType") (P5 : Fld Z h0 o0_ "com/example/stackweave/stackweave/classfile/VerificationType" "tag" "I" (.int x0_)) (P6 : Fld Z h0 o0_ "com/example/stackweave/stackweave/classfile/VerificationType" "className" "Ljava/lang/String;" (.ref o1_)) (P7 : Fld Z h0 o0_ "com/example/stackweave/stackweave/classfile/VerificationType" "newOffset" "I" (.int x1_)) (P8 : Exa Z h0 o1_ "java/lang/String") (P9 : Fld Z h0 o1_ "java/lang/String" "coder" "B" (.int (0 : Int32))) (P10 : Fld Z h0 o1_ "java/lang/String" "value" "[B" (.ref o2_)) (P11 : Arv Z h0 o2_ ko2_ .byte (2 : Int32) [(.int x2_), (.int x3_)] (.int (0 : Int32))) (P12 : Exa Z h0 o2_ "[B") (P13 : Exa Z Z.heap o3_ "com/example/stackweave/stackweave/classfile/ValueKind") (P14 : Fld Z Z.heap o3_ "java/lang/Enum" "ordinal" "I" (.int (0 : Int32))) (P15 : Sta Z Z.heap "com/example/stackweave/stackweave/classfile/ValueKind" "INT" "Lcom/example/stackweave/stackweave/classfile/ValueKind;" (.ref o3_)) (P16 : Exa Z Z.heap o4_ "com/example/stackweave/stackweave/classfile/ValueKind") (P17 : Fld Z Z.heap o4_ "java/lang/Enum" "ordinal" "I" (.int (2 : Int32))) (P18 : Sta Z Z.heap "com/example/stackweave/stackweave/classfile/ValueKind" "FLOAT" "Lcom/example/stackweave/stackweave/classfile/ValueKind;" (.ref o4_)) (P19 : Exa Z Z.heap o5_ "com/example/stackweave/stackweave/classfile/ValueKind") (P20 : Fld Z Z.heap o5_ "java/lang/Enum" "ordinal" "I" (.int (3 : Int32))) (P21 : Sta Z Z.heap "com/example/stackweave/stackweave/classfile/ValueKind" "DOUBLE" "Lcom/example/stackweave/stackweave/classfile/ValueKind;" (.ref o5_)) (P22 : Exa Z Z.heap o6_ "com/example/stackweave/stackweave/classfile/ValueKind") (P23 : Fld Z Z.heap o6_ "java/lang/Enum" "ordinal" "I" (.int (1 : Int32))) (P24 : Sta Z Z.heap "com/example/stackweave/stackweave/classfile/ValueKind" "LONG" "Lcom/example/stackweave/stackweave/classfile/ValueKind;" (.ref o6_)) (P25 : Exa Z Z.heap o7_ "com/example/stackweave/stackweave/classfile/ValueKind") (P26 : Fld Z Z.heap o7_ "java/lang/Enum" "ordinal" "I" (.int (4 : Int32))) (P27 : Sta Z Z.heap "com/example/stackweave/stackweave/classfile/ValueKind" "REFERENCE" "Lcom/example/stackweave/stackweave/classfile/ValueKind;" (.ref o7_)) :
    MetFree l (⟨"com/example/stackweave/stackweave/classfile/VerificationType", "kind", "()Lcom/example/stackweave/stackweave/classfile/ValueKind;"⟩ : MethodName) (head1 (Jvm.Cond.code (⟨"com/example/stackweave/stackweave/classfile/VerificationType", "kind", "()Lcom/example/stackweave/stackweave/classfile/ValueKind;"⟩ : MethodName) prog_38_method_13_code 2 (some (.object "com/example/stackweave/stackweave/classfile/ValueKind")) :: ws) ({ frames := 0, cells := 0, slots := 0, locals := 0 } : Room)) (fun a U => a = #[(.ref o0_)] ∧ Z.Warmed39 U.vm ∧ U.heap = h0) (fun _ _ _ _ _ => True) (fun _ U o U' => ∃ v L, o = .returned v ∧ Qkind23 Z o0_ x0_ o1_ x1_ o2_ ko2_ x2_ x3_ o3_ o4_ o5_ o6_ o7_ h0 n0 v U'.heap L ∧ FrameEnd U o U' L ({ frames := 0, cells := 0, slots := 0, locals := 0 } : Room).cells ({ frames := 0, cells := 0, slots := 0, locals := 0 } : Room).slots) := by
  refine MetFree.of_bodySF (plainFor_of_name pn_1) hisR ?_
  intro p e s m args below meth c s₁ Bd hml0 hP hK
  obtain ⟨rfl, hZ, hh⟩ := hP
  have hx := Bd.exec
  have hby := Bd.bytes
  have hml : c.maxLocals = 2 := hml0
  have hown : s.vm.findClass "com/example/stackweave/stackweave/classfile/VerificationType" = some m.cls := findClass_of_methodNamed Bd.named
  have hnm := (name_of_methodNamed Bd.named Bd.method).1
  have X0 : Stand p l e ({ frames := 0, cells := 0, slots := 0, locals := 0 } : Room) s m #[(.ref o0_)] below meth c s₁ [] 0 0 := Stand.of_body Bd
  have e0 : s₁.heap = h0 := by rw [← hh, Bd.state]; rfl
  have N0 := Fr.nil n0
  have pre0 : ∀ t, Steps p.tables e below (s₁.setTop (mkF m 0 #[.val (.ref o0_), .unset] [])) t → Steps p.tables e below (s₁.setTop (entryFrame m #[(.ref o0_)] 2)) t := fun t k => castTop (efkind23 m o0_) k
  have K0 : Keep h0 h0 [] := Keep.refl _ _
  obtain ⟨T1, X1, e1, st1⟩ := getF X0 hx hZ hown (host := "") (Or.inl (hw _ (List.mem_of_getElem? (i := 42) rfl))) Via.refl e0 P5 (g := (mkF m 1 #[.val (.ref o0_), .unset] [(.ref o0_)])) rfl rfl (hb hby d4_1)
  have pre2 : ∀ t, Steps p.tables e below (T1.setTop (mkF m 4 #[.val (.ref o0_), .unset] [(.int x0_)])) t → Steps p.tables e below (s₁.setTop (entryFrame m #[(.ref o0_)] 2)) t := by
    intro t kt
    refine pre0 t ?_
    show Steps p.tables e below (s₁.setTop (mkF m 0 #[.val (.ref o0_), .unset] [])) _
    refine XS.aloadN X0.here hx rfl (hb hby d4_0) rfl rfl ?_
    show Steps p.tables e below (s₁.setTop (mkF m 1 #[.val (.ref o0_), .unset] [(.ref o0_)])) _
    refine st1 _ ?_
    exact kt
  by_cases hv3 : x0_ = (1 : Int32)
  · have pre4 : ∀ t, Steps p.tables e below (T1.setTop (mkF m 4 #[.val (.ref o0_), .unset] [(.int (1 : Int32))])) t → Steps p.tables e below (s₁.setTop (entryFrame m #[(.ref o0_)] 2)) t := fun t kt => pre2 t (by rw [hv3]; exact kt)
    obtain ⟨T5, X5, e5, st5⟩ := getS2 X1 hx hZ hown (host := "") (Or.inl (hw _ (List.mem_of_getElem? (i := 70) rfl))) Via.refl e1 (P15.ext O0.2) (g := (mkF m 52 #[.val (.ref o0_), .unset] [])) rfl (hb hby d4_52)
    have pre6 : ∀ t, Steps p.tables e below (T5.setTop (mkF m 98 #[.val (.ref o0_), .val (.ref o3_)] [(.ref o3_)])) t → Steps p.tables e below (s₁.setTop (entryFrame m #[(.ref o0_)] 2)) t := by
      intro t kt
      refine pre4 t ?_
      show Steps p.tables e below (T1.setTop (mkF m 4 #[.val (.ref o0_), .unset] [(.int (1 : Int32))])) _
      refine XS.tswIn X1.here hx rfl (pc0 := 4) (pc' := 52) (o := 48) rfl (hb hby d4_4) rfl (by decide) rfl (by decide) (by decide) ?_
      show Steps p.tables e below (T1.setTop (mkF m 52 #[.val (.ref o0_), .unset] [])) _
      refine st5 _ ?_
      show Steps p.tables e below (T5.setTop (mkF m 55 #[.val (.ref o0_), .unset] [(.ref o3_)])) _
      refine XS.astoreN X5.here hx rfl (hb hby d4_55) rfl rfl (l' := #[.val (.ref o0_), .val (.ref o3_)]) rfl ?_
      show Steps p.tables e below (T5.setTop (mkF m 56 #[.val (.ref o0_), .val (.ref o3_)] [])) _
      refine XS.goto X5.here hx rfl (pc0 := 56) (pc' := 97) rfl (hb hby d4_56) (by decide) (by decide) ?_
      show Steps p.tables e below (T5.setTop (mkF m 97 #[.val (.ref o0_), .val (.ref o3_)] [])) _
      refine XS.aloadN X5.here hx rfl (hb hby d4_97) rfl rfl ?_
      exact kt
    obtain ⟨fs, hr, hrun, hended, hW, hsame⟩ := X5.leave (v := some (.ref o3_)) (fun h => by rw [Bd.returns] at h; cases h)
    refine ⟨_, _, pre6 _ (retOut X5 hx Bd.returns rfl (Or.inr (Or.inr (Or.inr (Or.inr ⟨rfl, rfl, rfl⟩)))) (hb hby d4_98) hr), hrun, hended, _, _, rfl, ?_, ⟨_, rfl⟩, hW, hsame.mono (by decide) (by decide)⟩
    show Qkind23 Z o0_ x0_ o1_ x1_ o2_ ko2_ x2_ x3_ o3_ o4_ o5_ o6_ o7_ h0 n0 _ T5.heap _
    rw [e5]
    exact ⟨(.ref o3_), rfl, (Or.inl ⟨rfl, hv3⟩), N0, rfl⟩
  · by_cases hv8 : x0_ = (2 : Int32)
    · have pre9 : ∀ t, Steps p.tables e below (T1.setTop (mkF m 4 #[.val (.ref o0_), .unset] [(.int (2 : Int32))])) t → Steps p.tables e below (s₁.setTop (entryFrame m #[(.ref o0_)] 2)) t := fun t kt => pre2 t (by rw [hv8]; exact kt)
      obtain ⟨T10, X10, e10, st10⟩ := getS2 X1 hx hZ hown (host := "") (Or.inl (hw _ (List.mem_of_getElem? (i := 74) rfl))) Via.refl e1 (P18.ext O0.2) (g := (mkF m 59 #[.val (.ref o0_), .unset] [])) rfl (hb hby d4_59)
      have pre11 : ∀ t, Steps p.tables e below (T10.setTop (mkF m 98 #[.val (.ref o0_), .val (.ref o4_)] [(.ref o4_)])) t → Steps p.tables e below (s₁.setTop (entryFrame m #[(.ref o0_)] 2)) t := by
        intro t kt
        refine pre9 t ?_
        show Steps p.tables e below (T1.setTop (mkF m 4 #[.val (.ref o0_), .unset] [(.int (2 : Int32))])) _
        refine XS.tswIn X1.here hx rfl (pc0 := 4) (pc' := 59) (o := 55) rfl (hb hby d4_4) rfl (by decide) rfl (by decide) (by decide) ?_
        show Steps p.tables e below (T1.setTop (mkF m 59 #[.val (.ref o0_), .unset] [])) _
        refine st10 _ ?_
        show Steps p.tables e below (T10.setTop (mkF m 62 #[.val (.ref o0_), .unset] [(.ref o4_)])) _
        refine XS.astoreN X10.here hx rfl (hb hby d4_62) rfl rfl (l' := #[.val (.ref o0_), .val (.ref o4_)]) rfl ?_
        show Steps p.tables e below (T10.setTop (mkF m 63 #[.val (.ref o0_), .val (.ref o4_)] [])) _
        refine XS.goto X10.here hx rfl (pc0 := 63) (pc' := 97) rfl (hb hby d4_63) (by decide) (by decide) ?_
        show Steps p.tables e below (T10.setTop (mkF m 97 #[.val (.ref o0_), .val (.ref o4_)] [])) _
        refine XS.aloadN X10.here hx rfl (hb hby d4_97) rfl rfl ?_
        exact kt
      obtain ⟨fs, hr, hrun, hended, hW, hsame⟩ := X10.leave (v := some (.ref o4_)) (fun h => by rw [Bd.returns] at h; cases h)
      refine ⟨_, _, pre11 _ (retOut X10 hx Bd.returns rfl (Or.inr (Or.inr (Or.inr (Or.inr ⟨rfl, rfl, rfl⟩)))) (hb hby d4_98) hr), hrun, hended, _, _, rfl, ?_, ⟨_, rfl⟩, hW, hsame.mono (by decide) (by decide)⟩
      show Qkind23 Z o0_ x0_ o1_ x1_ o2_ ko2_ x2_ x3_ o3_ o4_ o5_ o6_ o7_ h0 n0 _ T10.heap _
      rw [e10]
      exact ⟨(.ref o4_), rfl, (Or.inr (Or.inl ⟨rfl, hv3, hv8⟩)), N0, rfl⟩
    · by_cases hv13 : x0_ = (3 : Int32)
      · have pre14 : ∀ t, Steps p.tables e below (T1.setTop (mkF m 4 #[.val (.ref o0_), .unset] [(.int (3 : Int32))])) t → Steps p.tables e below (s₁.setTop (entryFrame m #[(.ref o0_)] 2)) t := fun t kt => pre2 t (by rw [hv13]; exact kt)
        obtain ⟨T15, X15, e15, st15⟩ := getS2 X1 hx hZ hown (host := "") (Or.inl (hw _ (List.mem_of_getElem? (i := 59) rfl))) Via.refl e1 (P21.ext O0.2) (g := (mkF m 66 #[.val (.ref o0_), .unset] [])) rfl (hb hby d4_66)
        have pre16 : ∀ t, Steps p.tables e below (T15.setTop (mkF m 98 #[.val (.ref o0_), .val (.ref o5_)] [(.ref o5_)])) t → Steps p.tables e below (s₁.setTop (entryFrame m #[(.ref o0_)] 2)) t := by
          intro t kt
          refine pre14 t ?_
          show Steps p.tables e below (T1.setTop (mkF m 4 #[.val (.ref o0_), .unset] [(.int (3 : Int32))])) _
          refine XS.tswIn X1.here hx rfl (pc0 := 4) (pc' := 66) (o := 62) rfl (hb hby d4_4) rfl (by decide) rfl (by decide) (by decide) ?_
          show Steps p.tables e below (T1.setTop (mkF m 66 #[.val (.ref o0_), .unset] [])) _
          refine st15 _ ?_
          show Steps p.tables e below (T15.setTop (mkF m 69 #[.val (.ref o0_), .unset] [(.ref o5_)])) _
          refine XS.astoreN X15.here hx rfl (hb hby d4_69) rfl rfl (l' := #[.val (.ref o0_), .val (.ref o5_)]) rfl ?_
          show Steps p.tables e below (T15.setTop (mkF m 70 #[.val (.ref o0_), .val (.ref o5_)] [])) _
          refine XS.goto X15.here hx rfl (pc0 := 70) (pc' := 97) rfl (hb hby d4_70) (by decide) (by decide) ?_
          show Steps p.tables e below (T15.setTop (mkF m 97 #[.val (.ref o0_), .val (.ref o5_)] [])) _
          refine XS.aloadN X15.here hx rfl (hb hby d4_97) rfl rfl ?_
          exact kt
        obtain ⟨fs, hr, hrun, hended, hW, hsame⟩ := X15.leave (v := some (.ref o5_)) (fun h => by rw [Bd.returns] at h; cases h)
        refine ⟨_, _, pre16 _ (retOut X15 hx Bd.returns rfl (Or.inr (Or.inr (Or.inr (Or.inr ⟨rfl, rfl, rfl⟩)))) (hb hby d4_98) hr), hrun, hended, _, _, rfl, ?_, ⟨_, rfl⟩, hW, hsame.mono (by decide) (by decide)⟩
        show Qkind23 Z o0_ x0_ o1_ x1_ o2_ ko2_ x2_ x3_ o3_ o4_ o5_ o6_ o7_ h0 n0 _ T15.heap _
        rw [e15]
        exact ⟨(.ref o5_), rfl, (Or.inr (Or.inr (Or.inl ⟨rfl, hv3, hv8, hv13⟩))), N0, rfl⟩
      · by_cases hv18 : x0_ = (4 : Int32)
        · have pre19 : ∀ t, Steps p.tables e below (T1.setTop (mkF m 4 #[.val (.ref o0_), .unset] [(.int (4 : Int32))])) t → Steps p.tables e below (s₁.setTop (entryFrame m #[(.ref o0_)] 2)) t := fun t kt => pre2 t (by rw [hv18]; exact kt)
          obtain ⟨T20, X20, e20, st20⟩ := getS2 X1 hx hZ hown (host := "") (Or.inl (hw _ (List.mem_of_getElem? (i := 72) rfl))) Via.refl e1 (P24.ext O0.2) (g := (mkF m 73 #[.val (.ref o0_), .unset] [])) rfl (hb hby d4_73)
          have pre21 : ∀ t, Steps p.tables e below (T20.setTop (mkF m 98 #[.val (.ref o0_), .val (.ref o6_)] [(.ref o6_)])) t → Steps p.tables e below (s₁.setTop (entryFrame m #[(.ref o0_)] 2)) t := by
            intro t kt
            refine pre19 t ?_
            show Steps p.tables e below (T1.setTop (mkF m 4 #[.val (.ref o0_), .unset] [(.int (4 : Int32))])) _
            refine XS.tswIn X1.here hx rfl (pc0 := 4) (pc' := 73) (o := 69) rfl (hb hby d4_4) rfl (by decide) rfl (by decide) (by decide) ?_
            show Steps p.tables e below (T1.setTop (mkF m 73 #[.val (.ref o0_), .unset] [])) _
            refine st20 _ ?_
            show Steps p.tables e below (T20.setTop (mkF m 76 #[.val (.ref o0_), .unset] [(.ref o6_)])) _
            refine XS.astoreN X20.here hx rfl (hb hby d4_76) rfl rfl (l' := #[.val (.ref o0_), .val (.ref o6_)]) rfl ?_
            show Steps p.tables e below (T20.setTop (mkF m 77 #[.val (.ref o0_), .val (.ref o6_)] [])) _
            refine XS.goto X20.here hx rfl (pc0 := 77) (pc' := 97) rfl (hb hby d4_77) (by decide) (by decide) ?_
            show Steps p.tables e below (T20.setTop (mkF m 97 #[.val (.ref o0_), .val (.ref o6_)] [])) _
            refine XS.aloadN X20.here hx rfl (hb hby d4_97) rfl rfl ?_
            exact kt
          obtain ⟨fs, hr, hrun, hended, hW, hsame⟩ := X20.leave (v := some (.ref o6_)) (fun h => by rw [Bd.returns] at h; cases h)
          refine ⟨_, _, pre21 _ (retOut X20 hx Bd.returns rfl (Or.inr (Or.inr (Or.inr (Or.inr ⟨rfl, rfl, rfl⟩)))) (hb hby d4_98) hr), hrun, hended, _, _, rfl, ?_, ⟨_, rfl⟩, hW, hsame.mono (by decide) (by decide)⟩
          show Qkind23 Z o0_ x0_ o1_ x1_ o2_ ko2_ x2_ x3_ o3_ o4_ o5_ o6_ o7_ h0 n0 _ T20.heap _
          rw [e20]
          exact ⟨(.ref o6_), rfl, (Or.inr (Or.inr (Or.inr (Or.inl ⟨rfl, hv3, hv8, hv13, hv18⟩)))), N0, rfl⟩
        · by_cases hv23 : x0_ = (6 : Int32)
          · have pre24 : ∀ t, Steps p.tables e below (T1.setTop (mkF m 4 #[.val (.ref o0_), .unset] [(.int (6 : Int32))])) t → Steps p.tables e below (s₁.setTop (entryFrame m #[(.ref o0_)] 2)) t := fun t kt => pre2 t (by rw [hv23]; exact kt)
            obtain ⟨T25, X25, e25, st25⟩ := getS2 X1 hx hZ hown (host := "") (Or.inl (hw _ (List.mem_of_getElem? (i := 64) rfl))) Via.refl e1 (P27.ext O0.2) (g := (mkF m 80 #[.val (.ref o0_), .unset] [])) rfl (hb hby d4_80)
            have pre26 : ∀ t, Steps p.tables e below (T25.setTop (mkF m 98 #[.val (.ref o0_), .val (.ref o7_)] [(.ref o7_)])) t → Steps p.tables e below (s₁.setTop (entryFrame m #[(.ref o0_)] 2)) t := by
              intro t kt
              refine pre24 t ?_
              show Steps p.tables e below (T1.setTop (mkF m 4 #[.val (.ref o0_), .unset] [(.int (6 : Int32))])) _
              refine XS.tswIn X1.here hx rfl (pc0 := 4) (pc' := 80) (o := 76) rfl (hb hby d4_4) rfl (by decide) rfl (by decide) (by decide) ?_
              show Steps p.tables e below (T1.setTop (mkF m 80 #[.val (.ref o0_), .unset] [])) _
              refine st25 _ ?_
              show Steps p.tables e below (T25.setTop (mkF m 83 #[.val (.ref o0_), .unset] [(.ref o7_)])) _
              refine XS.astoreN X25.here hx rfl (hb hby d4_83) rfl rfl (l' := #[.val (.ref o0_), .val (.ref o7_)]) rfl ?_
              show Steps p.tables e below (T25.setTop (mkF m 84 #[.val (.ref o0_), .val (.ref o7_)] [])) _
              refine XS.goto X25.here hx rfl (pc0 := 84) (pc' := 97) rfl (hb hby d4_84) (by decide) (by decide) ?_
              show Steps p.tables e below (T25.setTop (mkF m 97 #[.val (.ref o0_), .val (.ref o7_)] [])) _
              refine XS.aloadN X25.here hx rfl (hb hby d4_97) rfl rfl ?_
              exact kt
            obtain ⟨fs, hr, hrun, hended, hW, hsame⟩ := X25.leave (v := some (.ref o7_)) (fun h => by rw [Bd.returns] at h; cases h)
            refine ⟨_, _, pre26 _ (retOut X25 hx Bd.returns rfl (Or.inr (Or.inr (Or.inr (Or.inr ⟨rfl, rfl, rfl⟩)))) (hb hby d4_98) hr), hrun, hended, _, _, rfl, ?_, ⟨_, rfl⟩, hW, hsame.mono (by decide) (by decide)⟩
            show Qkind23 Z o0_ x0_ o1_ x1_ o2_ ko2_ x2_ x3_ o3_ o4_ o5_ o6_ o7_ h0 n0 _ T25.heap _
            rw [e25]
            exact ⟨(.ref o7_), rfl, (Or.inr (Or.inr (Or.inr (Or.inr (Or.inl ⟨rfl, hv3, hv8, hv13, hv18, hv23⟩))))), N0, rfl⟩
          · by_cases hv28 : x0_ = (8 : Int32)
            · have pre29 : ∀ t, Steps p.tables e below (T1.setTop (mkF m 4 #[.val (.ref o0_), .unset] [(.int (8 : Int32))])) t → Steps p.tables e below (s₁.setTop (entryFrame m #[(.ref o0_)] 2)) t := fun t kt => pre2 t (by rw [hv28]; exact kt)
              obtain ⟨T30, X30, e30, st30⟩ := getS2 X1 hx hZ hown (host := "") (Or.inl (hw _ (List.mem_of_getElem? (i := 64) rfl))) Via.refl e1 (P27.ext O0.2) (g := (mkF m 80 #[.val (.ref o0_), .unset] [])) rfl (hb hby d4_80)
              have pre31 : ∀ t, Steps p.tables e below (T30.setTop (mkF m 98 #[.val (.ref o0_), .val (.ref o7_)] [(.ref o7_)])) t → Steps p.tables e below (s₁.setTop (entryFrame m #[(.ref o0_)] 2)) t := by
                intro t kt
                refine pre29 t ?_
                show Steps p.tables e below (T1.setTop (mkF m 4 #[.val (.ref o0_), .unset] [(.int (8 : Int32))])) _
                refine XS.tswIn X1.here hx rfl (pc0 := 4) (pc' := 80) (o := 76) rfl (hb hby d4_4) rfl (by decide) rfl (by decide) (by decide) ?_
                show Steps p.tables e below (T1.setTop (mkF m 80 #[.val (.ref o0_), .unset] [])) _
                refine st30 _ ?_
                show Steps p.tables e below (T30.setTop (mkF m 83 #[.val (.ref o0_), .unset] [(.ref o7_)])) _
                refine XS.astoreN X30.here hx rfl (hb hby d4_83) rfl rfl (l' := #[.val (.ref o0_), .val (.ref o7_)]) rfl ?_
                show Steps p.tables e below (T30.setTop (mkF m 84 #[.val (.ref o0_), .val (.ref o7_)] [])) _
                refine XS.goto X30.here hx rfl (pc0 := 84) (pc' := 97) rfl (hb hby d4_84) (by decide) (by decide) ?_
                show Steps p.tables e below (T30.setTop (mkF m 97 #[.val (.ref o0_), .val (.ref o7_)] [])) _
                refine XS.aloadN X30.here hx rfl (hb hby d4_97) rfl rfl ?_
                exact kt
              obtain ⟨fs, hr, hrun, hended, hW, hsame⟩ := X30.leave (v := some (.ref o7_)) (fun h => by rw [Bd.returns] at h; cases h)
              refine ⟨_, _, pre31 _ (retOut X30 hx Bd.returns rfl (Or.inr (Or.inr (Or.inr (Or.inr ⟨rfl, rfl, rfl⟩)))) (hb hby d4_98) hr), hrun, hended, _, _, rfl, ?_, ⟨_, rfl⟩, hW, hsame.mono (by decide) (by decide)⟩
              show Qkind23 Z o0_ x0_ o1_ x1_ o2_ ko2_ x2_ x3_ o3_ o4_ o5_ o6_ o7_ h0 n0 _ T30.heap _
              rw [e30]
              exact ⟨(.ref o7_), rfl, (Or.inr (Or.inr (Or.inr (Or.inr (Or.inr ⟨rfl, hv3, hv8, hv13, hv18, hv23, hv28⟩))))), N0, rfl⟩
            · exfalso
              have lt_0 : ((1 : Int32)).toInt = 1 := rfl
              have lt_1 : ((2 : Int32)).toInt = 2 := rfl
              have lt_2 : ((3 : Int32)).toInt = 3 := rfl
              have lt_3 : ((4 : Int32)).toInt = 4 := rfl
              have lt_4 : ((5 : Int32)).toInt = 5 := rfl
              have lt_5 : ((6 : Int32)).toInt = 6 := rfl
              have lt_6 : ((7 : Int32)).toInt = 7 := rfl
              have lt_7 : ((8 : Int32)).toInt = 8 := rfl
              simp only [Int32.lt_iff_toInt_lt, Int64.lt_iff_toInt_lt, ← Int32.toInt_inj, ← Int64.toInt_inj] at ha0 ha1 ha2 ha3 hv3 hv8 hv13 hv18 hv23 hv28
              omega
theorem efisUninitialized24 (m : MethodId) (o0_ : Addr) : entryFrame m #[(.ref o0_)] 1 = mkF m 0 #[.val (.ref o0_)] [] := by first | (simp [entryFrame, mkF, argsToLocals, Value.category]; done) | rfl
def QisUninitialized24 (Z : State) (o0_ : Addr) (x0_ : Int32) (o1_ : Addr) (x1_ : Int32) (o2_ : Addr) (ko2_ : ClassId) (x2_ : Int32) (x3_ : Int32) (h0 : Heap) (n0 : Nat) (v : Option Value) (h : Heap) (L : List Loc) : Prop := v = some (.int (1 : Int32)) ∧ Fr n0 L ∧ h = h0
set_option maxRecDepth 65536 in
set_option maxHeartbeats 40000000 in
theorem rmisUninitialized24 (l : Launch) (Z : State) (a0 : Array Value) (hw : ∀ d ∈ tables_1, d.before a0 Z = true) (ws : List Jvm.Cond) (o0_ : Addr) (x0_ : Int32) (o1_ : Addr) (x1_ : Int32) (o2_ : Addr) (ko2_ : ClassId) (x2_ : Int32) (x3_ : Int32) (h0 : Heap) (n0 : Nat) (O0 : Old Z n0 h0) (ha0 : ¬ (x0_ = (7 : Int32))) (ha1 : ¬ (x0_ = (5 : Int32))) (ha2 : ¬ (x0_ < (1 : Int32))) (ha3 : ¬ ((8 : Int32) < x0_)) (ha4 : ¬ (x0_ = (1 : Int32))) (ha5 : ¬ (x0_ = (2 : Int32))) (ha6 : ¬ (x0_ = (3 : Int32))) (ha7 : ¬ (x0_ = (4 : Int32))) (ha8 : x0_ = (6 : Int32)) (P9 : Exa Z h0 o0_ "com/example/stackweave/stackweave/classfile/VerificationType") (P10 : Fld Z h0 o0_ "com/example/stackweave/stackweave/classfile/VerificationType" "tag" "I" (.int x0_)) (P11 : Fld Z h0 o0_ "com/example/stackweave/stackweave/classfile/VerificationType" "className" "Ljava/lang/String;" (.ref o1_)) (P12 : Fld Z h0 o0_ "com/example/stackweave/stackweave/classfile/VerificationType" "newOffset" "I" (.int x1_)) (P13 : Exa Z h0 o1_ "java/lang/String") (P14 : Fld Z h0 o1_ "java/lang/String" "coder" "B" (.int (0 : Int32))) (P15 : Fld Z h0 o1_ "java/lang/String" "value" "[B" (.ref o2_)) (P16 : Arv Z h0 o2_ ko2_ .byte (2 : Int32) [(.int x2_), (.int x3_)] (.int (0 : Int32))) (P17 : Exa Z h0 o2_ "[B") :
    MetFree l (⟨"com/example/stackweave/stackweave/classfile/VerificationType", "isUninitialized", "()Z"⟩ : MethodName) (head1 (Jvm.Cond.code (⟨"com/example/stackweave/stackweave/classfile/VerificationType", "isUninitialized", "()Z"⟩ : MethodName) prog_38_method_11_code 1 (some .boolean) :: ws) ({ frames := 0, cells := 0, slots := 0, locals := 0 } : Room)) (fun a U => a = #[(.ref o0_)] ∧ Z.Warmed39 U.vm ∧ U.heap = h0) (fun _ _ _ _ _ => True) (fun _ U o U' => ∃ v L, o = .returned v ∧ QisUninitialized24 Z o0_ x0_ o1_ x1_ o2_ ko2_ x2_ x3_ h0 n0 v U'.heap L ∧ FrameEnd U o U' L ({ frames := 0, cells := 0, slots := 0, locals := 0 } : Room).cells ({ frames := 0, cells := 0, slots := 0, locals := 0 } : Room).slots) := by
  refine MetFree.of_bodySF (plainFor_of_name pn_1) hisR ?_
  intro p e s m args below meth c s₁ Bd hml0 hP hK
  obtain ⟨rfl, hZ, hh⟩ := hP
  have hx := Bd.exec
  have hby := Bd.bytes
  have hml : c.maxLocals = 1 := hml0
  have hown : s.vm.findClass "com/example/stackweave/stackweave/classfile/VerificationType" = some m.cls := findClass_of_methodNamed Bd.named
  have hnm := (name_of_methodNamed Bd.named Bd.method).1
  have X0 : Stand p l e ({ frames := 0, cells := 0, slots := 0, locals := 0 } : Room) s m #[(.ref o0_)] below meth c s₁ [] 0 0 := Stand.of_body Bd
  have e0 : s₁.heap = h0 := by rw [← hh, Bd.state]; rfl
  have N0 := Fr.nil n0
  have pre0 : ∀ t, Steps p.tables e below (s₁.setTop (mkF m 0 #[.val (.ref o0_)] [])) t → Steps p.tables e below (s₁.setTop (entryFrame m #[(.ref o0_)] 1)) t := fun t k => castTop (efisUninitialized24 m o0_) k
  have K0 : Keep h0 h0 [] := Keep.refl _ _
  obtain ⟨T1, X1, e1, st1⟩ := getF X0 hx hZ hown (host := "") (Or.inl (hw _ (List.mem_of_getElem? (i := 42) rfl))) Via.refl e0 P10 (g := (mkF m 1 #[.val (.ref o0_)] [(.ref o0_)])) rfl rfl (hb hby d5_1)
  have pre2 : ∀ t, Steps p.tables e below (T1.setTop (mkF m 23 #[.val (.ref o0_)] [(.int (1 : Int32))])) t → Steps p.tables e below (s₁.setTop (entryFrame m #[(.ref o0_)] 1)) t := by
    intro t kt
    refine pre0 t ?_
    show Steps p.tables e below (s₁.setTop (mkF m 0 #[.val (.ref o0_)] [])) _
    refine XS.aloadN X0.here hx rfl (hb hby d5_0) rfl rfl ?_
    show Steps p.tables e below (s₁.setTop (mkF m 1 #[.val (.ref o0_)] [(.ref o0_)])) _
    refine st1 _ ?_
    show Steps p.tables e below (T1.setTop (mkF m 4 #[.val (.ref o0_)] [(.int x0_)])) _
    refine XS.bipush X1.here hx rfl (hb hby d5_4) ?_
    show Steps p.tables e below (T1.setTop (mkF m 6 #[.val (.ref o0_)] [(.int (6 : Int32)), (.int x0_)])) _
    refine XS.icmpYes X1.here hx rfl (pc0 := 6) (pc' := 18) rfl (hb hby d5_6) rfl (teq ha8).1 (by decide) (by decide) ?_
    show Steps p.tables e below (T1.setTop (mkF m 18 #[.val (.ref o0_)] [])) _
    refine XS.iconst X1.here hx rfl (hb hby d5_18) ?_
    show Steps p.tables e below (T1.setTop (mkF m 19 #[.val (.ref o0_)] [(.int (1 : Int32))])) _
    refine XS.goto X1.here hx rfl (pc0 := 19) (pc' := 23) rfl (hb hby d5_19) (by decide) (by decide) ?_
    exact kt
  obtain ⟨fs, hr, hrun, hended, hW, hsame⟩ := X1.leave (v := some (.int (1 : Int32))) (fun h => by rw [Bd.returns] at h; cases h)
  refine ⟨_, _, pre2 _ (retN X1 hx (t := .boolean) Bd.returns (by simp) (hb hby d5_23) hr), hrun, hended, _, _, rfl, ?_, ⟨_, rfl⟩, hW, hsame.mono (by decide) (by decide)⟩
  show QisUninitialized24 Z o0_ x0_ o1_ x1_ o2_ ko2_ x2_ x3_ h0 n0 _ T1.heap _
  rw [e1]
  exact ⟨rfl, N0, rfl⟩
theorem efisUninitialized25 (m : MethodId) (o0_ : Addr) : entryFrame m #[(.ref o0_)] 1 = mkF m 0 #[.val (.ref o0_)] [] := by first | (simp [entryFrame, mkF, argsToLocals, Value.category]; done) | rfl
def QisUninitialized25 (Z : State) (o0_ : Addr) (x0_ : Int32) (o1_ : Addr) (x1_ : Int32) (o2_ : Addr) (ko2_ : ClassId) (x2_ : Int32) (x3_ : Int32) (h0 : Heap) (n0 : Nat) (v : Option Value) (h : Heap) (L : List Loc) : Prop := v = some (.int (1 : Int32)) ∧ Fr n0 L ∧ h = h0
set_option maxRecDepth 65536 in
set_option maxHeartbeats 40000000 in
theorem rmisUninitialized25 (l : Launch) (Z : State) (a0 : Array Value) (hw : ∀ d ∈ tables_1, d.before a0 Z = true) (ws : List Jvm.Cond) (o0_ : Addr) (x0_ : Int32) (o1_ : Addr) (x1_ : Int32) (o2_ : Addr) (ko2_ : ClassId) (x2_ : Int32) (x3_ : Int32) (h0 : Heap) (n0 : Nat) (O0 : Old Z n0 h0) (ha0 : ¬ (x0_ = (7 : Int32))) (ha1 : ¬ (x0_ = (5 : Int32))) (ha2 : ¬ (x0_ < (1 : Int32))) (ha3 : ¬ ((8 : Int32) < x0_)) (ha4 : ¬ (x0_ = (1 : Int32))) (ha5 : ¬ (x0_ = (2 : Int32))) (ha6 : ¬ (x0_ = (3 : Int32))) (ha7 : ¬ (x0_ = (4 : Int32))) (ha8 : ¬ (x0_ = (6 : Int32))) (ha9 : x0_ = (8 : Int32)) (P10 : Exa Z h0 o0_ "com/example/stackweave/stackweave/classfile/VerificationType") (P11 : Fld Z h0 o0_ "com/example/stackweave/stackweave/classfile/VerificationType" "tag" "I" (.int x0_)) (P12 : Fld Z h0 o0_ "com/example/stackweave/stackweave/classfile/VerificationType" "className" "Ljava/lang/String;" (.ref o1_)) (P13 : Fld Z h0 o0_ "com/example/stackweave/stackweave/classfile/VerificationType" "newOffset" "I" (.int x1_)) (P14 : Exa Z h0 o1_ "java/lang/String") (P15 : Fld Z h0 o1_ "java/lang/String" "coder" "B" (.int (0 : Int32))) (P16 : Fld Z h0 o1_ "java/lang/String" "value" "[B" (.ref o2_)) (P17 : Arv Z h0 o2_ ko2_ .byte (2 : Int32) [(.int x2_), (.int x3_)] (.int (0 : Int32))) (P18 : Exa Z h0 o2_ "[B") :
    MetFree l (⟨"com/example/stackweave/stackweave/classfile/VerificationType", "isUninitialized", "()Z"⟩ : MethodName) (head1 (Jvm.Cond.code (⟨"com/example/stackweave/stackweave/classfile/VerificationType", "isUninitialized", "()Z"⟩ : MethodName) prog_38_method_11_code 1 (some .boolean) :: ws) ({ frames := 0, cells := 0, slots := 0, locals := 0 } : Room)) (fun a U => a = #[(.ref o0_)] ∧ Z.Warmed39 U.vm ∧ U.heap = h0) (fun _ _ _ _ _ => True) (fun _ U o U' => ∃ v L, o = .returned v ∧ QisUninitialized25 Z o0_ x0_ o1_ x1_ o2_ ko2_ x2_ x3_ h0 n0 v U'.heap L ∧ FrameEnd U o U' L ({ frames := 0, cells := 0, slots := 0, locals := 0 } : Room).cells ({ frames := 0, cells := 0, slots := 0, locals := 0 } : Room).slots) := by
  refine MetFree.of_bodySF (plainFor_of_name pn_1) hisR ?_
  intro p e s m args below meth c s₁ Bd hml0 hP hK
  obtain ⟨rfl, hZ, hh⟩ := hP
  have hx := Bd.exec
  have hby := Bd.bytes
  have hml : c.maxLocals = 1 := hml0
  have hown : s.vm.findClass "com/example/stackweave/stackweave/classfile/VerificationType" = some m.cls := findClass_of_methodNamed Bd.named
  have hnm := (name_of_methodNamed Bd.named Bd.method).1
  have X0 : Stand p l e ({ frames := 0, cells := 0, slots := 0, locals := 0 } : Room) s m #[(.ref o0_)] below meth c s₁ [] 0 0 := Stand.of_body Bd
  have e0 : s₁.heap = h0 := by rw [← hh, Bd.state]; rfl
  have N0 := Fr.nil n0
  have pre0 : ∀ t, Steps p.tables e below (s₁.setTop (mkF m 0 #[.val (.ref o0_)] [])) t → Steps p.tables e below (s₁.setTop (entryFrame m #[(.ref o0_)] 1)) t := fun t k => castTop (efisUninitialized25 m o0_) k
  have K0 : Keep h0 h0 [] := Keep.refl _ _
  obtain ⟨T1, X1, e1, st1⟩ := getF X0 hx hZ hown (host := "") (Or.inl (hw _ (List.mem_of_getElem? (i := 42) rfl))) Via.refl e0 P11 (g := (mkF m 1 #[.val (.ref o0_)] [(.ref o0_)])) rfl rfl (hb hby d5_1)
  obtain ⟨T2, X2, e2, st2⟩ := getF X1 hx hZ hown (host := "") (Or.inl (hw _ (List.mem_of_getElem? (i := 42) rfl))) Via.refl e1 P11 (g := (mkF m 10 #[.val (.ref o0_)] [(.ref o0_)])) rfl rfl (hb hby d5_10)
  have pre3 : ∀ t, Steps p.tables e below (T2.setTop (mkF m 23 #[.val (.ref o0_)] [(.int (1 : Int32))])) t → Steps p.tables e below (s₁.setTop (entryFrame m #[(.ref o0_)] 1)) t := by
    intro t kt
    refine pre0 t ?_
    show Steps p.tables e below (s₁.setTop (mkF m 0 #[.val (.ref o0_)] [])) _
    refine XS.aloadN X0.here hx rfl (hb hby d5_0) rfl rfl ?_
    show Steps p.tables e below (s₁.setTop (mkF m 1 #[.val (.ref o0_)] [(.ref o0_)])) _
    refine st1 _ ?_
    show Steps p.tables e below (T1.setTop (mkF m 4 #[.val (.ref o0_)] [(.int x0_)])) _
    refine XS.bipush X1.here hx rfl (hb hby d5_4) ?_
    show Steps p.tables e below (T1.setTop (mkF m 6 #[.val (.ref o0_)] [(.int (6 : Int32)), (.int x0_)])) _
    refine XS.icmpNo X1.here hx rfl (hb hby d5_6) rfl (feq ha8).1 ?_
    show Steps p.tables e below (T1.setTop (mkF m 9 #[.val (.ref o0_)] [])) _
    refine XS.aloadN X1.here hx rfl (hb hby d5_9) rfl rfl ?_
    show Steps p.tables e below (T1.setTop (mkF m 10 #[.val (.ref o0_)] [(.ref o0_)])) _
    refine st2 _ ?_
    show Steps p.tables e below (T2.setTop (mkF m 13 #[.val (.ref o0_)] [(.int x0_)])) _
    refine XS.bipush X2.here hx rfl (hb hby d5_13) ?_
    show Steps p.tables e below (T2.setTop (mkF m 15 #[.val (.ref o0_)] [(.int (8 : Int32)), (.int x0_)])) _
    refine XS.icmpNo X2.here hx rfl (hb hby d5_15) rfl (teq ha9).2 ?_
    show Steps p.tables e below (T2.setTop (mkF m 18 #[.val (.ref o0_)] [])) _
    refine XS.iconst X2.here hx rfl (hb hby d5_18) ?_
    show Steps p.tables e below (T2.setTop (mkF m 19 #[.val (.ref o0_)] [(.int (1 : Int32))])) _
    refine XS.goto X2.here hx rfl (pc0 := 19) (pc' := 23) rfl (hb hby d5_19) (by decide) (by decide) ?_
    exact kt
  obtain ⟨fs, hr, hrun, hended, hW, hsame⟩ := X2.leave (v := some (.int (1 : Int32))) (fun h => by rw [Bd.returns] at h; cases h)
  refine ⟨_, _, pre3 _ (retN X2 hx (t := .boolean) Bd.returns (by simp) (hb hby d5_23) hr), hrun, hended, _, _, rfl, ?_, ⟨_, rfl⟩, hW, hsame.mono (by decide) (by decide)⟩
  show QisUninitialized25 Z o0_ x0_ o1_ x1_ o2_ ko2_ x2_ x3_ h0 n0 _ T2.heap _
  rw [e2]
  exact ⟨rfl, N0, rfl⟩
theorem pn_4 : plainName "com/example/stackweave/stackweave/classfile/VerificationTypeIsReferencePinLaw" = true := by first | (simp [plainName, overriddenIn]; done) | decide +kernel
theorem efLaw (m : MethodId) (p0_ : Int32) (p1_ : Int32) (p2_ : Int32) (p3_ : Int32) (p4_ : Int32) : entryFrame m #[(.int p0_), (.int p1_), (.int p2_), (.int p3_), (.int p4_)] maxLocals = mkF m 0 #[.val (.int p0_), .val (.int p1_), .val (.int p2_), .val (.int p3_), .val (.int p4_), .unset, .unset, .unset, .unset, .unset, .unset] [] := by first | (simp [entryFrame, mkF, argsToLocals, Value.category, maxLocals]; done) | rfl
def QLaw (Z : State) (p0_ : Int32) (p1_ : Int32) (p2_ : Int32) (p3_ : Int32) (p4_ : Int32) (w_COMPACT_STRINGS : Int32) (w_FLOAT : Addr) (w_LONG : Addr) (w_INT : Addr) (w_REFERENCE : Addr) (w_DOUBLE : Addr) (h0 : Heap) (n0 : Nat) (v : Option Value) (h : Heap) (L : List Loc) : Prop := v = some (.int (1 : Int32)) ∧ Fr n0 L
set_option maxRecDepth 65536 in
set_option maxHeartbeats 40000000 in
theorem rmLaw (l : Launch) (Z : State) (a0 : Array Value) (hw : ∀ d ∈ tables_1, d.before a0 Z = true) (ws : List Jvm.Cond) (p0_ : Int32) (p1_ : Int32) (p2_ : Int32) (p3_ : Int32) (p4_ : Int32) (w_COMPACT_STRINGS : Int32) (w_FLOAT : Addr) (w_LONG : Addr) (w_INT : Addr) (w_REFERENCE : Addr) (w_DOUBLE : Addr) (h0 : Heap) (n0 : Nat) (O0 : Old Z n0 h0) (hz_0 : ¬ (w_COMPACT_STRINGS = (0 : Int32))) (P1 : Sta Z Z.heap "com/example/stackweave/stackweave/classfile/ValueKind" "DOUBLE" "Lcom/example/stackweave/stackweave/classfile/ValueKind;" (.ref w_DOUBLE)) (P2 : Exa Z Z.heap w_DOUBLE "com/example/stackweave/stackweave/classfile/ValueKind") (P3 : Sta Z Z.heap "com/example/stackweave/stackweave/classfile/ValueKind" "REFERENCE" "Lcom/example/stackweave/stackweave/classfile/ValueKind;" (.ref w_REFERENCE)) (P4 : Exa Z Z.heap w_REFERENCE "com/example/stackweave/stackweave/classfile/ValueKind") (P5 : Sta Z Z.heap "com/example/stackweave/stackweave/classfile/ValueKind" "INT" "Lcom/example/stackweave/stackweave/classfile/ValueKind;" (.ref w_INT)) (P6 : Exa Z Z.heap w_INT "com/example/stackweave/stackweave/classfile/ValueKind") (P7 : Sta Z Z.heap "com/example/stackweave/stackweave/classfile/ValueKind" "LONG" "Lcom/example/stackweave/stackweave/classfile/ValueKind;" (.ref w_LONG)) (P8 : Exa Z Z.heap w_LONG "com/example/stackweave/stackweave/classfile/ValueKind") (P9 : Sta Z Z.heap "com/example/stackweave/stackweave/classfile/ValueKind" "FLOAT" "Lcom/example/stackweave/stackweave/classfile/ValueKind;" (.ref w_FLOAT)) (P10 : Exa Z Z.heap w_FLOAT "com/example/stackweave/stackweave/classfile/ValueKind") (P11 : Sta Z Z.heap "java/lang/String" "COMPACT_STRINGS" "Z" (.int w_COMPACT_STRINGS)) (P12 : Fld Z Z.heap w_DOUBLE "java/lang/Enum" "ordinal" "I" (.int (3 : Int32))) (P13 : Fld Z Z.heap w_REFERENCE "java/lang/Enum" "ordinal" "I" (.int (4 : Int32))) (P14 : Fld Z Z.heap w_INT "java/lang/Enum" "ordinal" "I" (.int (0 : Int32))) (P15 : Fld Z Z.heap w_LONG "java/lang/Enum" "ordinal" "I" (.int (1 : Int32))) (P16 : Fld Z Z.heap w_FLOAT "java/lang/Enum" "ordinal" "I" (.int (2 : Int32))) :
    MetFree l x (head1 (Jvm.Cond.code x code maxLocals ret :: ws) room_1) (fun a U => a = #[(.int p0_), (.int p1_), (.int p2_), (.int p3_), (.int p4_)] ∧ Z.Warmed39 U.vm ∧ U.heap = h0) (fun _ _ _ _ _ => True) (fun _ U o U' => ∃ v L, o = .returned v ∧ QLaw Z p0_ p1_ p2_ p3_ p4_ w_COMPACT_STRINGS w_FLOAT w_LONG w_INT w_REFERENCE w_DOUBLE h0 n0 v U'.heap L ∧ FrameEnd U o U' L room_1.cells room_1.slots) := by
  refine MetFree.of_bodySF (plainFor_of_name pn_4) hisR ?_
  intro p e s m args below meth c s₁ Bd hml0 hP hK
  obtain ⟨rfl, hZ, hh⟩ := hP
  have hx := Bd.exec
  have hby := Bd.bytes
  have hml : c.maxLocals = 11 := hml0
  have hown : s.vm.findClass "com/example/stackweave/stackweave/classfile/VerificationTypeIsReferencePinLaw" = some m.cls := findClass_of_methodNamed Bd.named
  have hnm := (name_of_methodNamed Bd.named Bd.method).1
  have X0 : Stand p l e room_1 s m #[(.int p0_), (.int p1_), (.int p2_), (.int p3_), (.int p4_)] below meth c s₁ [] 0 0 := Stand.of_body Bd
  have e0 : s₁.heap = h0 := by rw [← hh, Bd.state]; rfl
  have N0 := Fr.nil n0
  have pre0 : ∀ t, Steps p.tables e below (s₁.setTop (mkF m 0 #[.val (.int p0_), .val (.int p1_), .val (.int p2_), .val (.int p3_), .val (.int p4_), .unset, .unset, .unset, .unset, .unset, .unset] [])) t → Steps p.tables e below (s₁.setTop (entryFrame m #[(.int p0_), (.int p1_), (.int p2_), (.int p3_), (.int p4_)] maxLocals)) t := fun t k => castTop (efLaw m p0_ p1_ p2_ p3_ p4_) k
  have K0 : Keep h0 h0 [] := Keep.refl _ _
  have pre1 : ∀ t, Steps p.tables e below (s₁.setTop (mkF m 3 #[.val (.int p0_), .val (.int p1_), .val (.int p2_), .val (.int p3_), .val (.int p4_), .unset, .unset, .unset, .unset, .unset, .unset] [(.int (p1_ &&& (1 : Int32)))])) t → Steps p.tables e below (s₁.setTop (entryFrame m #[(.int p0_), (.int p1_), (.int p2_), (.int p3_), (.int p4_)] maxLocals)) t := by
    intro t kt
    refine pre0 t ?_
    show Steps p.tables e below (s₁.setTop (mkF m 0 #[.val (.int p0_), .val (.int p1_), .val (.int p2_), .val (.int p3_), .val (.int p4_), .unset, .unset, .unset, .unset, .unset, .unset] [])) _
    refine XS.iloadN X0.here hx rfl (hb hby at_0) rfl ?_
    show Steps p.tables e below (s₁.setTop (mkF m 1 #[.val (.int p0_), .val (.int p1_), .val (.int p2_), .val (.int p3_), .val (.int p4_), .unset, .unset, .unset, .unset, .unset, .unset] [(.int p1_)])) _
    refine XS.iconst X0.here hx rfl (hb hby at_1) ?_
    show Steps p.tables e below (s₁.setTop (mkF m 2 #[.val (.int p0_), .val (.int p1_), .val (.int p2_), .val (.int p3_), .val (.int p4_), .unset, .unset, .unset, .unset, .unset, .unset] [(.int (1 : Int32)), (.int p1_)])) _
    refine XS.iand X0.here hx rfl (hb hby at_2) rfl ?_
    exact kt
  by_cases hc2 : (p1_ &&& (1 : Int32)) = (0 : Int32)
  · obtain ⟨T3, h3, k3, X3, e3, E3, A3, Z3, st3⟩ := newPE X0 hx hZ (hw _ (List.mem_of_getElem? (i := 0) rfl)) e0 (g := (mkF m 20 #[.val (.int p0_), .val (.int p1_), .val (.int p2_), .val (.int p3_), .val (.int p4_), .val (.int ((p0_ &&& (2147483647 : Int32)) % (9 : Int32))), .unset, .unset, .unset, .unset, .unset] [(.int (2 : Int32))])) rfl (hb hby at_20) rfl (by decide) (cap := 2) (by decide) (by decide) (by decide) (by decide) (ad := "[C") (by decide)
    obtain ⟨b3, g3⟩ : ∃ z, z = h0.size := ⟨_, rfl⟩
    rw [← g3] at A3 Z3 st3
    have ge4 : n0 ≤ b3 := Nat.le_trans (Nat.le_trans (Nat.le_of_eq O0.1.symm) O0.2.1) (Nat.le_of_eq g3.symm)
    have sz5 : h0.size ≤ b3 := Nat.le_trans K0.1 (Nat.le_of_eq g3.symm)
    have f6 : Arv Z h3 b3 k3 .char (2 : Int32) [(.int (0 : Int32)), (.int (0 : Int32))] (.int (0 : Int32)) := (Arv.new A3 (by decide)).pad (pad_rep [] (.int (0 : Int32)) 2)
    obtain ⟨c7, r7, q7, s7, z7, y7, G7⟩ := id f6
    have hin7 : ¬ ((0 : Int32) < 0 ∨ c7.slots.size ≤ ((0 : Int32)).toNatClampNeg) := inb_of s7 ⟨by decide, by decide⟩
    obtain ⟨T7, h7, X7, e7, W7, st7⟩ := stC X3 hx hZ e3 r7 (j := (0 : Int32)) hin7 (g := (mkF m 30 #[.val (.int p0_), .val (.int p1_), .val (.int p2_), .val (.int p3_), .val (.int p4_), .val (.int ((p0_ &&& (2147483647 : Int32)) % (9 : Int32))), .unset, .unset, .unset, .unset, .unset] [(.int (p2_ &&& (255 : Int32))), (.int (0 : Int32)), (.ref b3), (.ref b3)])) rfl rfl (hb hby at_30)
    have N8 := Fr.snoc X7 N0 ge4
    have f9 : Arv Z h7 b3 k3 .char (2 : Int32) [(.int ((p2_ &&& (255 : Int32)).toUInt32.toUInt16.toUInt32.toInt32)), (.int (0 : Int32))] (.int (0 : Int32)) := Arv.set r7 q7 s7 z7 y7 G7 (fits_nar_char _) W7 0 rfl (Nat.le_of_ble_eq_true rfl)
    have f10 : Arv Z h7 b3 k3 .char (2 : Int32) [(.int (p2_ &&& (255 : Int32))), (.int (0 : Int32))] (.int (0 : Int32)) := by have q := f9; rw [i2c_mask] at q; exact q
    obtain ⟨c11, r11, q11, s11, z11, y11, G11⟩ := id f10
    have hin11 : ¬ ((1 : Int32) < 0 ∨ c11.slots.size ≤ ((1 : Int32)).toNatClampNeg) := inb_of s11 ⟨by decide, by decide⟩
    obtain ⟨T11, h11, X11, e11, W11, st11⟩ := stC X7 hx hZ e7 r11 (j := (1 : Int32)) hin11 (g := (mkF m 39 #[.val (.int p0_), .val (.int p1_), .val (.int p2_), .val (.int p3_), .val (.int p4_), .val (.int ((p0_ &&& (2147483647 : Int32)) % (9 : Int32))), .unset, .unset, .unset, .unset, .unset] [(.int (p3_ &&& (255 : Int32))), (.int (1 : Int32)), (.ref b3), (.ref b3)])) rfl rfl (hb hby at_39)
    have N12 := Fr.snoc X11 N8 ge4
    have f13 : Arv Z h11 b3 k3 .char (2 : Int32) [(.int (p2_ &&& (255 : Int32))), (.int ((p3_ &&& (255 : Int32)).toUInt32.toUInt16.toUInt32.toInt32))] (.int (0 : Int32)) := Arv.set r11 q11 s11 z11 y11 G11 (fits_nar_char _) W11 1 rfl (Nat.le_of_ble_eq_true rfl)
    have f14 : Arv Z h11 b3 k3 .char (2 : Int32) [(.int (p2_ &&& (255 : Int32))), (.int (p3_ &&& (255 : Int32)))] (.int (0 : Int32)) := by have q := f13; rw [i2c_mask] at q; exact q
    have pre15 : ∀ t, Steps p.tables e below (T11.setTop (mkF m 45 #[.val (.int p0_), .val (.int p1_), .val (.int p2_), .val (.int p3_), .val (.int p4_), .val (.int ((p0_ &&& (2147483647 : Int32)) % (9 : Int32))), .val (.ref b3), .unset, .unset, .unset, .unset] [(.int (p1_ &&& (2 : Int32)))])) t → Steps p.tables e below (s₁.setTop (entryFrame m #[(.int p0_), (.int p1_), (.int p2_), (.int p3_), (.int p4_)] maxLocals)) t := by
      intro t kt
      refine pre1 t ?_
      show Steps p.tables e below (s₁.setTop (mkF m 3 #[.val (.int p0_), .val (.int p1_), .val (.int p2_), .val (.int p3_), .val (.int p4_), .unset, .unset, .unset, .unset, .unset, .unset] [(.int (p1_ &&& (1 : Int32)))])) _
      refine XS.ifYes X0.here hx rfl (pc0 := 3) (pc' := 10) rfl (hb hby at_3) rfl ((if0 _ _).trans (teq hc2).1) (by decide) (by decide) ?_
      show Steps p.tables e below (s₁.setTop (mkF m 10 #[.val (.int p0_), .val (.int p1_), .val (.int p2_), .val (.int p3_), .val (.int p4_), .unset, .unset, .unset, .unset, .unset, .unset] [])) _
      refine XS.iloadN X0.here hx rfl (hb hby at_10) rfl ?_
      show Steps p.tables e below (s₁.setTop (mkF m 11 #[.val (.int p0_), .val (.int p1_), .val (.int p2_), .val (.int p3_), .val (.int p4_), .unset, .unset, .unset, .unset, .unset, .unset] [(.int p0_)])) _
      refine X0.ldcInt hx hown (mvT hZ (hw _ (List.mem_of_getElem? (i := 53) rfl))) (g := (mkF m 11 #[.val (.int p0_), .val (.int p1_), .val (.int p2_), .val (.int p3_), .val (.int p4_), .unset, .unset, .unset, .unset, .unset, .unset] [(.int p0_)])) rfl (hb hby at_11) _ ?_
      show Steps p.tables e below (s₁.setTop (mkF m 13 #[.val (.int p0_), .val (.int p1_), .val (.int p2_), .val (.int p3_), .val (.int p4_), .unset, .unset, .unset, .unset, .unset, .unset] [(.int (2147483647 : Int32)), (.int p0_)])) _
      refine XS.iand X0.here hx rfl (hb hby at_13) rfl ?_
      show Steps p.tables e below (s₁.setTop (mkF m 14 #[.val (.int p0_), .val (.int p1_), .val (.int p2_), .val (.int p3_), .val (.int p4_), .unset, .unset, .unset, .unset, .unset, .unset] [(.int (p0_ &&& (2147483647 : Int32)))])) _
      refine XS.bipush X0.here hx rfl (hb hby at_14) ?_
      show Steps p.tables e below (s₁.setTop (mkF m 16 #[.val (.int p0_), .val (.int p1_), .val (.int p2_), .val (.int p3_), .val (.int p4_), .unset, .unset, .unset, .unset, .unset, .unset] [(.int (9 : Int32)), (.int (p0_ &&& (2147483647 : Int32)))])) _
      refine iremM (g := (mkF m 16 #[.val (.int p0_), .val (.int p1_), .val (.int p2_), .val (.int p3_), .val (.int p4_), .unset, .unset, .unset, .unset, .unset, .unset] [(.int (9 : Int32)), (.int (p0_ &&& (2147483647 : Int32)))])) X0 hx rfl (hb hby at_16) rfl (by decide) ?_
      show Steps p.tables e below (s₁.setTop (mkF m 17 #[.val (.int p0_), .val (.int p1_), .val (.int p2_), .val (.int p3_), .val (.int p4_), .unset, .unset, .unset, .unset, .unset, .unset] [(.int ((p0_ &&& (2147483647 : Int32)) % (9 : Int32)))])) _
      refine XS.istore X0.here hx rfl (hb hby at_17) rfl (l' := #[.val (.int p0_), .val (.int p1_), .val (.int p2_), .val (.int p3_), .val (.int p4_), .val (.int ((p0_ &&& (2147483647 : Int32)) % (9 : Int32))), .unset, .unset, .unset, .unset, .unset]) rfl ?_
      show Steps p.tables e below (s₁.setTop (mkF m 19 #[.val (.int p0_), .val (.int p1_), .val (.int p2_), .val (.int p3_), .val (.int p4_), .val (.int ((p0_ &&& (2147483647 : Int32)) % (9 : Int32))), .unset, .unset, .unset, .unset, .unset] [])) _
      refine XS.iconst X0.here hx rfl (hb hby at_19) ?_
      show Steps p.tables e below (s₁.setTop (mkF m 20 #[.val (.int p0_), .val (.int p1_), .val (.int p2_), .val (.int p3_), .val (.int p4_), .val (.int ((p0_ &&& (2147483647 : Int32)) % (9 : Int32))), .unset, .unset, .unset, .unset, .unset] [(.int (2 : Int32))])) _
      refine st3 _ ?_
      show Steps p.tables e below (T3.setTop (mkF m 22 #[.val (.int p0_), .val (.int p1_), .val (.int p2_), .val (.int p3_), .val (.int p4_), .val (.int ((p0_ &&& (2147483647 : Int32)) % (9 : Int32))), .unset, .unset, .unset, .unset, .unset] [(.ref b3)])) _
      refine XS.dup X3.here hx rfl (hb hby at_22) rfl rfl ?_
      show Steps p.tables e below (T3.setTop (mkF m 23 #[.val (.int p0_), .val (.int p1_), .val (.int p2_), .val (.int p3_), .val (.int p4_), .val (.int ((p0_ &&& (2147483647 : Int32)) % (9 : Int32))), .unset, .unset, .unset, .unset, .unset] [(.ref b3), (.ref b3)])) _
      refine XS.iconst X3.here hx rfl (hb hby at_23) ?_
      show Steps p.tables e below (T3.setTop (mkF m 24 #[.val (.int p0_), .val (.int p1_), .val (.int p2_), .val (.int p3_), .val (.int p4_), .val (.int ((p0_ &&& (2147483647 : Int32)) % (9 : Int32))), .unset, .unset, .unset, .unset, .unset] [(.int (0 : Int32)), (.ref b3), (.ref b3)])) _
      refine XS.iloadN X3.here hx rfl (hb hby at_24) rfl ?_
      show Steps p.tables e below (T3.setTop (mkF m 25 #[.val (.int p0_), .val (.int p1_), .val (.int p2_), .val (.int p3_), .val (.int p4_), .val (.int ((p0_ &&& (2147483647 : Int32)) % (9 : Int32))), .unset, .unset, .unset, .unset, .unset] [(.int p2_), (.int (0 : Int32)), (.ref b3), (.ref b3)])) _
      refine XS.sipush X3.here hx rfl (hb hby at_25) ?_
      show Steps p.tables e below (T3.setTop (mkF m 28 #[.val (.int p0_), .val (.int p1_), .val (.int p2_), .val (.int p3_), .val (.int p4_), .val (.int ((p0_ &&& (2147483647 : Int32)) % (9 : Int32))), .unset, .unset, .unset, .unset, .unset] [(.int (255 : Int32)), (.int p2_), (.int (0 : Int32)), (.ref b3), (.ref b3)])) _
      refine XS.iand X3.here hx rfl (hb hby at_28) rfl ?_
      show Steps p.tables e below (T3.setTop (mkF m 29 #[.val (.int p0_), .val (.int p1_), .val (.int p2_), .val (.int p3_), .val (.int p4_), .val (.int ((p0_ &&& (2147483647 : Int32)) % (9 : Int32))), .unset, .unset, .unset, .unset, .unset] [(.int (p2_ &&& (255 : Int32))), (.int (0 : Int32)), (.ref b3), (.ref b3)])) _
      refine XS.i2c X3.here hx rfl (hb hby at_29) rfl ?_
      show Steps p.tables e below (T3.setTop (mkF m 30 #[.val (.int p0_), .val (.int p1_), .val (.int p2_), .val (.int p3_), .val (.int p4_), .val (.int ((p0_ &&& (2147483647 : Int32)) % (9 : Int32))), .unset, .unset, .unset, .unset, .unset] [(.int ((p2_ &&& (255 : Int32)).toUInt32.toUInt16.toUInt32.toInt32)), (.int (0 : Int32)), (.ref b3), (.ref b3)])) _
      rw [i2c_mask]
      show Steps p.tables e below (T3.setTop (mkF m 30 #[.val (.int p0_), .val (.int p1_), .val (.int p2_), .val (.int p3_), .val (.int p4_), .val (.int ((p0_ &&& (2147483647 : Int32)) % (9 : Int32))), .unset, .unset, .unset, .unset, .unset] [(.int (p2_ &&& (255 : Int32))), (.int (0 : Int32)), (.ref b3), (.ref b3)])) _
      refine st7 _ ?_
      show Steps p.tables e below (T7.setTop (mkF m 31 #[.val (.int p0_), .val (.int p1_), .val (.int p2_), .val (.int p3_), .val (.int p4_), .val (.int ((p0_ &&& (2147483647 : Int32)) % (9 : Int32))), .unset, .unset, .unset, .unset, .unset] [(.ref b3)])) _
      refine XS.dup X7.here hx rfl (hb hby at_31) rfl rfl ?_
      show Steps p.tables e below (T7.setTop (mkF m 32 #[.val (.int p0_), .val (.int p1_), .val (.int p2_), .val (.int p3_), .val (.int p4_), .val (.int ((p0_ &&& (2147483647 : Int32)) % (9 : Int32))), .unset, .unset, .unset, .unset, .unset] [(.ref b3), (.ref b3)])) _
      refine XS.iconst X7.here hx rfl (hb hby at_32) ?_
      show Steps p.tables e below (T7.setTop (mkF m 33 #[.val (.int p0_), .val (.int p1_), .val (.int p2_), .val (.int p3_), .val (.int p4_), .val (.int ((p0_ &&& (2147483647 : Int32)) % (9 : Int32))), .unset, .unset, .unset, .unset, .unset] [(.int (1 : Int32)), (.ref b3), (.ref b3)])) _
      refine XS.iloadN X7.here hx rfl (hb hby at_33) rfl ?_
      show Steps p.tables e below (T7.setTop (mkF m 34 #[.val (.int p0_), .val (.int p1_), .val (.int p2_), .val (.int p3_), .val (.int p4_), .val (.int ((p0_ &&& (2147483647 : Int32)) % (9 : Int32))), .unset, .unset, .unset, .unset, .unset] [(.int p3_), (.int (1 : Int32)), (.ref b3), (.ref b3)])) _
      refine XS.sipush X7.here hx rfl (hb hby at_34) ?_
      show Steps p.tables e below (T7.setTop (mkF m 37 #[.val (.int p0_), .val (.int p1_), .val (.int p2_), .val (.int p3_), .val (.int p4_), .val (.int ((p0_ &&& (2147483647 : Int32)) % (9 : Int32))), .unset, .unset, .unset, .unset, .unset] [(.int (255 : Int32)), (.int p3_), (.int (1 : Int32)), (.ref b3), (.ref b3)])) _
      refine XS.iand X7.here hx rfl (hb hby at_37) rfl ?_
      show Steps p.tables e below (T7.setTop (mkF m 38 #[.val (.int p0_), .val (.int p1_), .val (.int p2_), .val (.int p3_), .val (.int p4_), .val (.int ((p0_ &&& (2147483647 : Int32)) % (9 : Int32))), .unset, .unset, .unset, .unset, .unset] [(.int (p3_ &&& (255 : Int32))), (.int (1 : Int32)), (.ref b3), (.ref b3)])) _
      refine XS.i2c X7.here hx rfl (hb hby at_38) rfl ?_
      show Steps p.tables e below (T7.setTop (mkF m 39 #[.val (.int p0_), .val (.int p1_), .val (.int p2_), .val (.int p3_), .val (.int p4_), .val (.int ((p0_ &&& (2147483647 : Int32)) % (9 : Int32))), .unset, .unset, .unset, .unset, .unset] [(.int ((p3_ &&& (255 : Int32)).toUInt32.toUInt16.toUInt32.toInt32)), (.int (1 : Int32)), (.ref b3), (.ref b3)])) _
      rw [i2c_mask]
      show Steps p.tables e below (T7.setTop (mkF m 39 #[.val (.int p0_), .val (.int p1_), .val (.int p2_), .val (.int p3_), .val (.int p4_), .val (.int ((p0_ &&& (2147483647 : Int32)) % (9 : Int32))), .unset, .unset, .unset, .unset, .unset] [(.int (p3_ &&& (255 : Int32))), (.int (1 : Int32)), (.ref b3), (.ref b3)])) _
      refine st11 _ ?_
      show Steps p.tables e below (T11.setTop (mkF m 40 #[.val (.int p0_), .val (.int p1_), .val (.int p2_), .val (.int p3_), .val (.int p4_), .val (.int ((p0_ &&& (2147483647 : Int32)) % (9 : Int32))), .unset, .unset, .unset, .unset, .unset] [(.ref b3)])) _
      refine XS.astore X11.here hx rfl (hb hby at_40) rfl rfl (l' := #[.val (.int p0_), .val (.int p1_), .val (.int p2_), .val (.int p3_), .val (.int p4_), .val (.int ((p0_ &&& (2147483647 : Int32)) % (9 : Int32))), .val (.ref b3), .unset, .unset, .unset, .unset]) rfl ?_
      show Steps p.tables e below (T11.setTop (mkF m 42 #[.val (.int p0_), .val (.int p1_), .val (.int p2_), .val (.int p3_), .val (.int p4_), .val (.int ((p0_ &&& (2147483647 : Int32)) % (9 : Int32))), .val (.ref b3), .unset, .unset, .unset, .unset] [])) _
      refine XS.iloadN X11.here hx rfl (hb hby at_42) rfl ?_
      show Steps p.tables e below (T11.setTop (mkF m 43 #[.val (.int p0_), .val (.int p1_), .val (.int p2_), .val (.int p3_), .val (.int p4_), .val (.int ((p0_ &&& (2147483647 : Int32)) % (9 : Int32))), .val (.ref b3), .unset, .unset, .unset, .unset] [(.int p1_)])) _
      refine XS.iconst X11.here hx rfl (hb hby at_43) ?_
      show Steps p.tables e below (T11.setTop (mkF m 44 #[.val (.int p0_), .val (.int p1_), .val (.int p2_), .val (.int p3_), .val (.int p4_), .val (.int ((p0_ &&& (2147483647 : Int32)) % (9 : Int32))), .val (.ref b3), .unset, .unset, .unset, .unset] [(.int (2 : Int32)), (.int p1_)])) _
      refine XS.iand X11.here hx rfl (hb hby at_44) rfl ?_
      exact kt
    by_cases hc16 : (p1_ &&& (2 : Int32)) = (0 : Int32)
    · obtain ⟨T17, h17, X17, e17, E17, A17, D17, -, st17⟩ := newO X11 hx hZ hown (hw _ (List.mem_of_getElem? (i := 30) rfl)) (hw _ (List.mem_of_getElem? (i := 31) rfl)) (hw _ (List.mem_of_getElem? (i := 32) rfl)) e11 (g := (mkF m 63 #[.val (.int p0_), .val (.int p1_), .val (.int p2_), .val (.int p3_), .val (.int p4_), .val (.int ((p0_ &&& (2147483647 : Int32)) % (9 : Int32))), .val (.ref b3), .val .null, .unset, .unset, .unset] [])) rfl (hb hby at_63) (by decide) (by decide)
      obtain ⟨b17, g17⟩ : ∃ z, z = h11.size := ⟨_, rfl⟩
      rw [← g17] at A17 D17 st17
      have f18 : Old Z n0 h3 := O0.ext E3
      have f19 : Old Z n0 h7 := f18.wr W7 ge4
      have f20 : Old Z n0 h11 := f19.wr W11 ge4
      have ge21 : n0 ≤ b17 := Nat.le_trans (Nat.le_trans (Nat.le_of_eq f20.1.symm) f20.2.1) (Nat.le_of_eq g17.symm)
      have f22 : Keep h0 h3 [] := K0.ext E3
      have f23 : Keep h0 h7 [] := f22.wr W7 (Or.inr sz5)
      have f24 : Keep h0 h11 [] := f23.wr W11 (Or.inr sz5)
      have sz25 : h0.size ≤ b17 := Nat.le_trans f24.1 (Nat.le_of_eq g17.symm)
      have f26 : Fld Z h17 b17 "com/example/stackweave/stackweave/classfile/VerificationType" "tag" "I" (.int (0 : Int32)) := D17 (Or.inr (hw _ (List.mem_of_getElem? (i := 43) rfl))) (ty := .int) (by decide)
      have f27 : Fld Z h17 b17 "com/example/stackweave/stackweave/classfile/VerificationType" "className" "Ljava/lang/String;" .null := D17 (Or.inr (hw _ (List.mem_of_getElem? (i := 45) rfl))) (ty := (.object "java/lang/String")) (by decide)
      have f28 : Fld Z h17 b17 "com/example/stackweave/stackweave/classfile/VerificationType" "newOffset" "I" (.int (0 : Int32)) := D17 (Or.inr (hw _ (List.mem_of_getElem? (i := 47) rfl))) (ty := .int) (by decide)
      have f30 : Old Z n0 h17 := f20.ext E17
      obtain ⟨_, _, ⟨T29, L29, k29, n29⟩, -, X29, ⟨Lc29, hQ29, l29, y29, z29⟩, st29⟩ := X17.specialBack hx (y := (⟨"com/example/stackweave/stackweave/classfile/VerificationType", "<init>", "(ILjava/lang/String;I)V"⟩ : MethodName)) rfl hown (mvT hZ (hw _ (List.mem_of_getElem? (i := 33) rfl))) (mvT hZ (hw _ (List.mem_of_getElem? (i := 34) rfl))) (mvT hZ (hw _ (List.mem_of_getElem? (i := 35) rfl))) (by decide) (backOf (W := 1) (rminit1 l Z a0 hw [] b17 ((p0_ &&& (2147483647 : Int32)) % (9 : Int32)) p4_ h17 n0 f30 A17 f26 f27 f28 ge21) hZ (hw _ (List.mem_of_getElem? (i := 35) rfl)) (hw _ (List.mem_of_getElem? (i := 32) rfl)) (by decide) (by decide)) (g := (mkF m 73 #[.val (.int p0_), .val (.int p1_), .val (.int p2_), .val (.int p3_), .val (.int p4_), .val (.int ((p0_ &&& (2147483647 : Int32)) % (9 : Int32))), .val (.ref b3), .val .null, .unset, .unset, .unset] [(.int p4_), .null, (.int ((p0_ &&& (2147483647 : Int32)) % (9 : Int32))), (.ref b17), (.ref b17)])) rfl (by rw [hml]; rfl) (Steps.refl _) (a := b17) (argsL := [(.int ((p0_ &&& (2147483647 : Int32)) % (9 : Int32))), .null, (.int p4_)]) (rest := [(.ref b17)]) (lenOf pd_1 rfl) rfl (by show 2 * 0 + _ ≤ _; exact Nat.le_of_eq rfl) (hb hby at_73) (fun _ _ => ⟨rfl, e17, (by decide : 2 + 0 ≤ _), (by decide : 5 + 0 ≤ _)⟩)
      dsimp only [Pt.U, Pt.locs, Pt.cells, Pt.slots] at X29 l29 y29 z29 st29 hQ29
      subst l29 y29 z29
      obtain ⟨h29, e29⟩ : ∃ z, T29.heap = z := ⟨_, rfl⟩
      rw [e29] at hQ29
      obtain ⟨rfl, N29q, K29, g29_0, g29_1, g29_2, g29_3⟩ := hQ29
      have N31 := Fr.app N12 N29q
      have f33 : Old Z n0 h29 := f30.keep K29 (allS (ge21) all0)
      obtain ⟨cq32, kq32, q32a, q32b, q32c⟩ := isOf hZ e29 g29_0
      obtain ⟨_, _, ⟨T32, L32, k32, n32⟩, -, X32, ⟨Lc32, hQ32, l32, y32, z32⟩, st32⟩ := X29.virtualBack hx (y := (⟨"com/example/stackweave/stackweave/classfile/VerificationType", "isReference", "()Z"⟩ : MethodName)) (z := (⟨"com/example/stackweave/stackweave/classfile/VerificationType", "isReference", "()Z"⟩ : MethodName)) hown (mvT hZ (hw _ (List.mem_of_getElem? (i := 48) rfl))) (mvT hZ (hw _ (List.mem_of_getElem? (i := 49) rfl))) (notFace_of_selects (args := #[]) (mvT hZ (hw _ (List.mem_of_getElem? (i := 51) rfl)))) (mvT hZ (hw _ (List.mem_of_getElem? (i := 51) rfl))) (mvT hZ (hw _ (List.mem_of_getElem? (i := 50) rfl))) (by decide) (backOf (W := 0) (rmisReference3 l Z a0 hw [] b17 ((p0_ &&& (2147483647 : Int32)) % (9 : Int32)) p4_ h29 n0 f33 g29_0 g29_1 g29_2 g29_3) hZ (hw _ (List.mem_of_getElem? (i := 52) rfl)) (hw _ (List.mem_of_getElem? (i := 32) rfl)) (by decide) (by decide)) q32a q32c (g := (mkF m 80 #[.val (.int p0_), .val (.int p1_), .val (.int p2_), .val (.int p3_), .val (.int p4_), .val (.int ((p0_ &&& (2147483647 : Int32)) % (9 : Int32))), .val (.ref b3), .val .null, .val (.ref b17), .unset, .unset] [(.ref b17)])) rfl (by rw [hml]; rfl) (Steps.refl _) (argsL := []) (rest := []) (lenOf pd_2 rfl) rfl (by show 2 * 0 + _ ≤ _; exact Nat.le_of_eq rfl) (hb hby at_80) (fun _ _ => ⟨rfl, e29, (by decide : 2 + 0 ≤ _), (by decide : 5 + 0 ≤ _)⟩)
      dsimp only [Pt.U, Pt.locs, Pt.cells, Pt.slots] at X32 l32 y32 z32 st32 hQ32
      subst l32 y32 z32
      obtain ⟨h32, e32⟩ : ∃ z, T32.heap = z := ⟨_, rfl⟩
      rw [e32] at hQ32
      obtain ⟨rr32, rfl, hs32, N32q, hh32⟩ := hQ32
      have N34 := Fr.app N31 N32q
      have e32' : T32.heap = h29 := e32.trans hh32
      rcases hs32 with ⟨rfl, hq32_0_0⟩ | ⟨rfl, hq32_1_0, hq32_1_1⟩ | ⟨rfl, hq32_2_0, hq32_2_1⟩
      · obtain ⟨cq35, kq35, q35a, q35b, q35c⟩ := isOf hZ e32' g29_0
        obtain ⟨_, _, ⟨T35, L35, k35, n35⟩, -, X35, ⟨Lc35, hQ35, l35, y35, z35⟩, st35⟩ := X32.virtualBack hx (y := (⟨"com/example/stackweave/stackweave/classfile/VerificationType", "kind", "()Lcom/example/stackweave/stackweave/classfile/ValueKind;"⟩ : MethodName)) (z := (⟨"com/example/stackweave/stackweave/classfile/VerificationType", "kind", "()Lcom/example/stackweave/stackweave/classfile/ValueKind;"⟩ : MethodName)) hown (mvT hZ (hw _ (List.mem_of_getElem? (i := 54) rfl))) (mvT hZ (hw _ (List.mem_of_getElem? (i := 55) rfl))) (notFace_of_selects (args := #[]) (mvT hZ (hw _ (List.mem_of_getElem? (i := 57) rfl)))) (mvT hZ (hw _ (List.mem_of_getElem? (i := 57) rfl))) (mvT hZ (hw _ (List.mem_of_getElem? (i := 56) rfl))) (by decide) (backOf (W := 0) (rmkind4 l Z a0 hw [] b17 ((p0_ &&& (2147483647 : Int32)) % (9 : Int32)) p4_ w_REFERENCE h29 n0 f33 hq32_0_0 g29_0 g29_1 g29_2 g29_3 P4 P13 P3) hZ (hw _ (List.mem_of_getElem? (i := 58) rfl)) (hw _ (List.mem_of_getElem? (i := 32) rfl)) (by decide) (by decide)) q35a q35c (g := (mkF m 100 #[.val (.int p0_), .val (.int p1_), .val (.int p2_), .val (.int p3_), .val (.int p4_), .val (.int ((p0_ &&& (2147483647 : Int32)) % (9 : Int32))), .val (.ref b3), .val .null, .val (.ref b17), .val (.int (1 : Int32)), .unset] [(.ref b17)])) rfl (by rw [hml]; rfl) (Steps.refl _) (argsL := []) (rest := []) (lenOf pd_3 rfl) rfl (by show 2 * 0 + _ ≤ _; exact Nat.le_of_eq rfl) (hb hby at_100) (fun _ _ => ⟨rfl, e32', (by decide : 2 + 0 ≤ _), (by decide : 5 + 0 ≤ _)⟩)
        dsimp only [Pt.U, Pt.locs, Pt.cells, Pt.slots] at X35 l35 y35 z35 st35 hQ35
        subst l35 y35 z35
        obtain ⟨h35, e35⟩ : ∃ z, T35.heap = z := ⟨_, rfl⟩
        rw [e35] at hQ35
        obtain ⟨rfl, N35q, hh35⟩ := hQ35
        have N36 := Fr.app N34 N35q
        have e35' : T35.heap = h29 := e35.trans hh35
        obtain ⟨T37, X37, e37, st37⟩ := getS2 X35 hx hZ hown (host := "") (Or.inl (hw _ (List.mem_of_getElem? (i := 62) rfl))) Via.refl e35' (P3.ext f33.2) (g := (mkF m 103 #[.val (.int p0_), .val (.int p1_), .val (.int p2_), .val (.int p3_), .val (.int p4_), .val (.int ((p0_ &&& (2147483647 : Int32)) % (9 : Int32))), .val (.ref b3), .val .null, .val (.ref b17), .val (.int (1 : Int32)), .unset] [(.ref w_REFERENCE)])) rfl (hb hby at_103)
        obtain ⟨cq38, kq38, q38a, q38b, q38c⟩ := isOf hZ e37 g29_0
        obtain ⟨_, _, ⟨T38, L38, k38, n38⟩, -, X38, ⟨Lc38, hQ38, l38, y38, z38⟩, st38⟩ := X37.virtualBack hx (y := (⟨"com/example/stackweave/stackweave/classfile/VerificationType", "isUninitialized", "()Z"⟩ : MethodName)) (z := (⟨"com/example/stackweave/stackweave/classfile/VerificationType", "isUninitialized", "()Z"⟩ : MethodName)) hown (mvT hZ (hw _ (List.mem_of_getElem? (i := 65) rfl))) (mvT hZ (hw _ (List.mem_of_getElem? (i := 66) rfl))) (notFace_of_selects (args := #[]) (mvT hZ (hw _ (List.mem_of_getElem? (i := 68) rfl)))) (mvT hZ (hw _ (List.mem_of_getElem? (i := 68) rfl))) (mvT hZ (hw _ (List.mem_of_getElem? (i := 67) rfl))) (by decide) (backOf (W := 0) (rmisUninitialized5 l Z a0 hw [] b17 ((p0_ &&& (2147483647 : Int32)) % (9 : Int32)) p4_ h29 n0 f33 hq32_0_0 g29_0 g29_1 g29_2 g29_3) hZ (hw _ (List.mem_of_getElem? (i := 69) rfl)) (hw _ (List.mem_of_getElem? (i := 32) rfl)) (by decide) (by decide)) q38a q38c (g := (mkF m 111 #[.val (.int p0_), .val (.int p1_), .val (.int p2_), .val (.int p3_), .val (.int p4_), .val (.int ((p0_ &&& (2147483647 : Int32)) % (9 : Int32))), .val (.ref b3), .val .null, .val (.ref b17), .val (.int (1 : Int32)), .unset] [(.ref b17)])) rfl (by rw [hml]; rfl) (Steps.refl _) (argsL := []) (rest := []) (lenOf pd_2 rfl) rfl (by show 2 * 0 + _ ≤ _; exact Nat.le_of_eq rfl) (hb hby at_111) (fun _ _ => ⟨rfl, e37, (by decide : 2 + 0 ≤ _), (by decide : 5 + 0 ≤ _)⟩)
        dsimp only [Pt.U, Pt.locs, Pt.cells, Pt.slots] at X38 l38 y38 z38 st38 hQ38
        subst l38 y38 z38
        obtain ⟨h38, e38⟩ : ∃ z, T38.heap = z := ⟨_, rfl⟩
        rw [e38] at hQ38
        obtain ⟨rfl, N38q, hh38⟩ := hQ38
        have N39 := Fr.app N36 N38q
        have e38' : T38.heap = h29 := e38.trans hh38
        have pre40 : ∀ t, Steps p.tables e below (T38.setTop (mkF m 142 #[.val (.int p0_), .val (.int p1_), .val (.int p2_), .val (.int p3_), .val (.int p4_), .val (.int ((p0_ &&& (2147483647 : Int32)) % (9 : Int32))), .val (.ref b3), .val .null, .val (.ref b17), .val (.int (1 : Int32)), .val (.int (1 : Int32))] [(.int (1 : Int32))])) t → Steps p.tables e below (s₁.setTop (entryFrame m #[(.int p0_), (.int p1_), (.int p2_), (.int p3_), (.int p4_)] maxLocals)) t := by
          intro t kt
          refine pre15 t ?_
          show Steps p.tables e below (T11.setTop (mkF m 45 #[.val (.int p0_), .val (.int p1_), .val (.int p2_), .val (.int p3_), .val (.int p4_), .val (.int ((p0_ &&& (2147483647 : Int32)) % (9 : Int32))), .val (.ref b3), .unset, .unset, .unset, .unset] [(.int (p1_ &&& (2 : Int32)))])) _
          refine XS.ifYes X11.here hx rfl (pc0 := 45) (pc' := 60) rfl (hb hby at_45) rfl ((if0 _ _).trans (teq hc16).1) (by decide) (by decide) ?_
          show Steps p.tables e below (T11.setTop (mkF m 60 #[.val (.int p0_), .val (.int p1_), .val (.int p2_), .val (.int p3_), .val (.int p4_), .val (.int ((p0_ &&& (2147483647 : Int32)) % (9 : Int32))), .val (.ref b3), .unset, .unset, .unset, .unset] [])) _
          refine XS.aconstNull X11.here hx rfl (hb hby at_60) ?_
          show Steps p.tables e below (T11.setTop (mkF m 61 #[.val (.int p0_), .val (.int p1_), .val (.int p2_), .val (.int p3_), .val (.int p4_), .val (.int ((p0_ &&& (2147483647 : Int32)) % (9 : Int32))), .val (.ref b3), .unset, .unset, .unset, .unset] [.null])) _
          refine XS.astore X11.here hx rfl (hb hby at_61) rfl rfl (l' := #[.val (.int p0_), .val (.int p1_), .val (.int p2_), .val (.int p3_), .val (.int p4_), .val (.int ((p0_ &&& (2147483647 : Int32)) % (9 : Int32))), .val (.ref b3), .val .null, .unset, .unset, .unset]) rfl ?_
          show Steps p.tables e below (T11.setTop (mkF m 63 #[.val (.int p0_), .val (.int p1_), .val (.int p2_), .val (.int p3_), .val (.int p4_), .val (.int ((p0_ &&& (2147483647 : Int32)) % (9 : Int32))), .val (.ref b3), .val .null, .unset, .unset, .unset] [])) _
          refine st17 _ ?_
          show Steps p.tables e below (T17.setTop (mkF m 66 #[.val (.int p0_), .val (.int p1_), .val (.int p2_), .val (.int p3_), .val (.int p4_), .val (.int ((p0_ &&& (2147483647 : Int32)) % (9 : Int32))), .val (.ref b3), .val .null, .unset, .unset, .unset] [(.ref b17)])) _
          refine XS.dup X17.here hx rfl (hb hby at_66) rfl rfl ?_
          show Steps p.tables e below (T17.setTop (mkF m 67 #[.val (.int p0_), .val (.int p1_), .val (.int p2_), .val (.int p3_), .val (.int p4_), .val (.int ((p0_ &&& (2147483647 : Int32)) % (9 : Int32))), .val (.ref b3), .val .null, .unset, .unset, .unset] [(.ref b17), (.ref b17)])) _
          refine XS.iload X17.here hx rfl (hb hby at_67) rfl ?_
          show Steps p.tables e below (T17.setTop (mkF m 69 #[.val (.int p0_), .val (.int p1_), .val (.int p2_), .val (.int p3_), .val (.int p4_), .val (.int ((p0_ &&& (2147483647 : Int32)) % (9 : Int32))), .val (.ref b3), .val .null, .unset, .unset, .unset] [(.int ((p0_ &&& (2147483647 : Int32)) % (9 : Int32))), (.ref b17), (.ref b17)])) _
          refine XS.aload X17.here hx rfl (hb hby at_69) rfl rfl ?_
          show Steps p.tables e below (T17.setTop (mkF m 71 #[.val (.int p0_), .val (.int p1_), .val (.int p2_), .val (.int p3_), .val (.int p4_), .val (.int ((p0_ &&& (2147483647 : Int32)) % (9 : Int32))), .val (.ref b3), .val .null, .unset, .unset, .unset] [.null, (.int ((p0_ &&& (2147483647 : Int32)) % (9 : Int32))), (.ref b17), (.ref b17)])) _
          refine XS.iload X17.here hx rfl (hb hby at_71) rfl ?_
          show Steps p.tables e below (T17.setTop (mkF m 73 #[.val (.int p0_), .val (.int p1_), .val (.int p2_), .val (.int p3_), .val (.int p4_), .val (.int ((p0_ &&& (2147483647 : Int32)) % (9 : Int32))), .val (.ref b3), .val .null, .unset, .unset, .unset] [(.int p4_), .null, (.int ((p0_ &&& (2147483647 : Int32)) % (9 : Int32))), (.ref b17), (.ref b17)])) _
          refine st29.trans ?_
          show Steps p.tables e below (T29.setTop (mkF m 76 #[.val (.int p0_), .val (.int p1_), .val (.int p2_), .val (.int p3_), .val (.int p4_), .val (.int ((p0_ &&& (2147483647 : Int32)) % (9 : Int32))), .val (.ref b3), .val .null, .unset, .unset, .unset] [(.ref b17)])) _
          refine XS.astore X29.here hx rfl (hb hby at_76) rfl rfl (l' := #[.val (.int p0_), .val (.int p1_), .val (.int p2_), .val (.int p3_), .val (.int p4_), .val (.int ((p0_ &&& (2147483647 : Int32)) % (9 : Int32))), .val (.ref b3), .val .null, .val (.ref b17), .unset, .unset]) rfl ?_
          show Steps p.tables e below (T29.setTop (mkF m 78 #[.val (.int p0_), .val (.int p1_), .val (.int p2_), .val (.int p3_), .val (.int p4_), .val (.int ((p0_ &&& (2147483647 : Int32)) % (9 : Int32))), .val (.ref b3), .val .null, .val (.ref b17), .unset, .unset] [])) _
          refine XS.aload X29.here hx rfl (hb hby at_78) rfl rfl ?_
          show Steps p.tables e below (T29.setTop (mkF m 80 #[.val (.int p0_), .val (.int p1_), .val (.int p2_), .val (.int p3_), .val (.int p4_), .val (.int ((p0_ &&& (2147483647 : Int32)) % (9 : Int32))), .val (.ref b3), .val .null, .val (.ref b17), .unset, .unset] [(.ref b17)])) _
          refine st32.trans ?_
          show Steps p.tables e below (T32.setTop (mkF m 83 #[.val (.int p0_), .val (.int p1_), .val (.int p2_), .val (.int p3_), .val (.int p4_), .val (.int ((p0_ &&& (2147483647 : Int32)) % (9 : Int32))), .val (.ref b3), .val .null, .val (.ref b17), .unset, .unset] [(.int (1 : Int32))])) _
          refine XS.istore X32.here hx rfl (hb hby at_83) rfl (l' := #[.val (.int p0_), .val (.int p1_), .val (.int p2_), .val (.int p3_), .val (.int p4_), .val (.int ((p0_ &&& (2147483647 : Int32)) % (9 : Int32))), .val (.ref b3), .val .null, .val (.ref b17), .val (.int (1 : Int32)), .unset]) rfl ?_
          show Steps p.tables e below (T32.setTop (mkF m 85 #[.val (.int p0_), .val (.int p1_), .val (.int p2_), .val (.int p3_), .val (.int p4_), .val (.int ((p0_ &&& (2147483647 : Int32)) % (9 : Int32))), .val (.ref b3), .val .null, .val (.ref b17), .val (.int (1 : Int32)), .unset] [])) _
          refine XS.iload X32.here hx rfl (hb hby at_85) rfl ?_
          show Steps p.tables e below (T32.setTop (mkF m 87 #[.val (.int p0_), .val (.int p1_), .val (.int p2_), .val (.int p3_), .val (.int p4_), .val (.int ((p0_ &&& (2147483647 : Int32)) % (9 : Int32))), .val (.ref b3), .val .null, .val (.ref b17), .val (.int (1 : Int32)), .unset] [(.int ((p0_ &&& (2147483647 : Int32)) % (9 : Int32)))])) _
          refine XS.iconst X32.here hx rfl (hb hby at_87) ?_
          show Steps p.tables e below (T32.setTop (mkF m 88 #[.val (.int p0_), .val (.int p1_), .val (.int p2_), .val (.int p3_), .val (.int p4_), .val (.int ((p0_ &&& (2147483647 : Int32)) % (9 : Int32))), .val (.ref b3), .val .null, .val (.ref b17), .val (.int (1 : Int32)), .unset] [(.int (1 : Int32)), (.int ((p0_ &&& (2147483647 : Int32)) % (9 : Int32)))])) _
          refine XS.icmpNo X32.here hx rfl (hb hby at_88) rfl (flt (by intro hz; have lt_0 : ((1 : Int32)).toInt = 1 := rfl; have lt_1 : ((2147483647 : Int32)).toInt = 2147483647 := rfl; have lt_2 : ((7 : Int32)).toInt = 7 := rfl; have lt_3 : ((9 : Int32)).toInt = 9 := rfl; simp only [Int32.lt_iff_toInt_lt, Int64.lt_iff_toInt_lt, ← Int32.toInt_inj, ← Int64.toInt_inj] at hz hq32_0_0; omega)).1 ?_
          show Steps p.tables e below (T32.setTop (mkF m 91 #[.val (.int p0_), .val (.int p1_), .val (.int p2_), .val (.int p3_), .val (.int p4_), .val (.int ((p0_ &&& (2147483647 : Int32)) % (9 : Int32))), .val (.ref b3), .val .null, .val (.ref b17), .val (.int (1 : Int32)), .unset] [])) _
          refine XS.iload X32.here hx rfl (hb hby at_91) rfl ?_
          show Steps p.tables e below (T32.setTop (mkF m 93 #[.val (.int p0_), .val (.int p1_), .val (.int p2_), .val (.int p3_), .val (.int p4_), .val (.int ((p0_ &&& (2147483647 : Int32)) % (9 : Int32))), .val (.ref b3), .val .null, .val (.ref b17), .val (.int (1 : Int32)), .unset] [(.int ((p0_ &&& (2147483647 : Int32)) % (9 : Int32)))])) _
          refine XS.bipush X32.here hx rfl (hb hby at_93) ?_
          show Steps p.tables e below (T32.setTop (mkF m 95 #[.val (.int p0_), .val (.int p1_), .val (.int p2_), .val (.int p3_), .val (.int p4_), .val (.int ((p0_ &&& (2147483647 : Int32)) % (9 : Int32))), .val (.ref b3), .val .null, .val (.ref b17), .val (.int (1 : Int32)), .unset] [(.int (8 : Int32)), (.int ((p0_ &&& (2147483647 : Int32)) % (9 : Int32)))])) _
          refine XS.icmpNo X32.here hx rfl (hb hby at_95) rfl (flt (by intro hz; have lt_0 : ((2147483647 : Int32)).toInt = 2147483647 := rfl; have lt_1 : ((7 : Int32)).toInt = 7 := rfl; have lt_2 : ((8 : Int32)).toInt = 8 := rfl; have lt_3 : ((9 : Int32)).toInt = 9 := rfl; simp only [Int32.lt_iff_toInt_lt, Int64.lt_iff_toInt_lt, ← Int32.toInt_inj, ← Int64.toInt_inj] at hz hq32_0_0; omega)).2.2.1 ?_
          show Steps p.tables e below (T32.setTop (mkF m 98 #[.val (.int p0_), .val (.int p1_), .val (.int p2_), .val (.int p3_), .val (.int p4_), .val (.int ((p0_ &&& (2147483647 : Int32)) % (9 : Int32))), .val (.ref b3), .val .null, .val (.ref b17), .val (.int (1 : Int32)), .unset] [])) _
          refine XS.aload X32.here hx rfl (hb hby at_98) rfl rfl ?_
          show Steps p.tables e below (T32.setTop (mkF m 100 #[.val (.int p0_), .val (.int p1_), .val (.int p2_), .val (.int p3_), .val (.int p4_), .val (.int ((p0_ &&& (2147483647 : Int32)) % (9 : Int32))), .val (.ref b3), .val .null, .val (.ref b17), .val (.int (1 : Int32)), .unset] [(.ref b17)])) _
          refine st35.trans ?_
          show Steps p.tables e below (T35.setTop (mkF m 103 #[.val (.int p0_), .val (.int p1_), .val (.int p2_), .val (.int p3_), .val (.int p4_), .val (.int ((p0_ &&& (2147483647 : Int32)) % (9 : Int32))), .val (.ref b3), .val .null, .val (.ref b17), .val (.int (1 : Int32)), .unset] [(.ref w_REFERENCE)])) _
          refine st37 _ ?_
          show Steps p.tables e below (T37.setTop (mkF m 106 #[.val (.int p0_), .val (.int p1_), .val (.int p2_), .val (.int p3_), .val (.int p4_), .val (.int ((p0_ &&& (2147483647 : Int32)) % (9 : Int32))), .val (.ref b3), .val .null, .val (.ref b17), .val (.int (1 : Int32)), .unset] [(.ref w_REFERENCE), (.ref w_REFERENCE)])) _
          refine Jvm.RoadKit.acmp (g := (mkF m 106 #[.val (.int p0_), .val (.int p1_), .val (.int p2_), .val (.int p3_), .val (.int p4_), .val (.int ((p0_ &&& (2147483647 : Int32)) % (9 : Int32))), .val (.ref b3), .val .null, .val (.ref b17), .val (.int (1 : Int32)), .unset] [(.ref w_REFERENCE), (.ref w_REFERENCE)])) X37 hx rfl rfl rfl (pc0 := 106) (pc' := 109) (same := true) rfl (hb hby at_106) rfl (decide_eq_true rfl) (by decide) (by decide) ?_
          show Steps p.tables e below (T37.setTop (mkF m 109 #[.val (.int p0_), .val (.int p1_), .val (.int p2_), .val (.int p3_), .val (.int p4_), .val (.int ((p0_ &&& (2147483647 : Int32)) % (9 : Int32))), .val (.ref b3), .val .null, .val (.ref b17), .val (.int (1 : Int32)), .unset] [])) _
          refine XS.aload X37.here hx rfl (hb hby at_109) rfl rfl ?_
          show Steps p.tables e below (T37.setTop (mkF m 111 #[.val (.int p0_), .val (.int p1_), .val (.int p2_), .val (.int p3_), .val (.int p4_), .val (.int ((p0_ &&& (2147483647 : Int32)) % (9 : Int32))), .val (.ref b3), .val .null, .val (.ref b17), .val (.int (1 : Int32)), .unset] [(.ref b17)])) _
          refine st38.trans ?_
          show Steps p.tables e below (T38.setTop (mkF m 114 #[.val (.int p0_), .val (.int p1_), .val (.int p2_), .val (.int p3_), .val (.int p4_), .val (.int ((p0_ &&& (2147483647 : Int32)) % (9 : Int32))), .val (.ref b3), .val .null, .val (.ref b17), .val (.int (1 : Int32)), .unset] [(.int (0 : Int32))])) _
          refine XS.ifNo X38.here hx rfl (hb hby at_114) rfl ((if0 _ _).trans (teq (by decide : (0 : Int32) = (0 : Int32))).2) ?_
          show Steps p.tables e below (T38.setTop (mkF m 117 #[.val (.int p0_), .val (.int p1_), .val (.int p2_), .val (.int p3_), .val (.int p4_), .val (.int ((p0_ &&& (2147483647 : Int32)) % (9 : Int32))), .val (.ref b3), .val .null, .val (.ref b17), .val (.int (1 : Int32)), .unset] [])) _
          refine XS.iconst X38.here hx rfl (hb hby at_117) ?_
          show Steps p.tables e below (T38.setTop (mkF m 118 #[.val (.int p0_), .val (.int p1_), .val (.int p2_), .val (.int p3_), .val (.int p4_), .val (.int ((p0_ &&& (2147483647 : Int32)) % (9 : Int32))), .val (.ref b3), .val .null, .val (.ref b17), .val (.int (1 : Int32)), .unset] [(.int (1 : Int32))])) _
          refine XS.goto X38.here hx rfl (pc0 := 118) (pc' := 122) rfl (hb hby at_118) (by decide) (by decide) ?_
          show Steps p.tables e below (T38.setTop (mkF m 122 #[.val (.int p0_), .val (.int p1_), .val (.int p2_), .val (.int p3_), .val (.int p4_), .val (.int ((p0_ &&& (2147483647 : Int32)) % (9 : Int32))), .val (.ref b3), .val .null, .val (.ref b17), .val (.int (1 : Int32)), .unset] [(.int (1 : Int32))])) _
          refine XS.istore X38.here hx rfl (hb hby at_122) rfl (l' := #[.val (.int p0_), .val (.int p1_), .val (.int p2_), .val (.int p3_), .val (.int p4_), .val (.int ((p0_ &&& (2147483647 : Int32)) % (9 : Int32))), .val (.ref b3), .val .null, .val (.ref b17), .val (.int (1 : Int32)), .val (.int (1 : Int32))]) rfl ?_
          show Steps p.tables e below (T38.setTop (mkF m 124 #[.val (.int p0_), .val (.int p1_), .val (.int p2_), .val (.int p3_), .val (.int p4_), .val (.int ((p0_ &&& (2147483647 : Int32)) % (9 : Int32))), .val (.ref b3), .val .null, .val (.ref b17), .val (.int (1 : Int32)), .val (.int (1 : Int32))] [])) _
          refine XS.goto X38.here hx rfl (pc0 := 124) (pc' := 130) rfl (hb hby at_124) (by decide) (by decide) ?_
          show Steps p.tables e below (T38.setTop (mkF m 130 #[.val (.int p0_), .val (.int p1_), .val (.int p2_), .val (.int p3_), .val (.int p4_), .val (.int ((p0_ &&& (2147483647 : Int32)) % (9 : Int32))), .val (.ref b3), .val .null, .val (.ref b17), .val (.int (1 : Int32)), .val (.int (1 : Int32))] [])) _
          refine XS.iload X38.here hx rfl (hb hby at_130) rfl ?_
          show Steps p.tables e below (T38.setTop (mkF m 132 #[.val (.int p0_), .val (.int p1_), .val (.int p2_), .val (.int p3_), .val (.int p4_), .val (.int ((p0_ &&& (2147483647 : Int32)) % (9 : Int32))), .val (.ref b3), .val .null, .val (.ref b17), .val (.int (1 : Int32)), .val (.int (1 : Int32))] [(.int (1 : Int32))])) _
          refine XS.iload X38.here hx rfl (hb hby at_132) rfl ?_
          show Steps p.tables e below (T38.setTop (mkF m 134 #[.val (.int p0_), .val (.int p1_), .val (.int p2_), .val (.int p3_), .val (.int p4_), .val (.int ((p0_ &&& (2147483647 : Int32)) % (9 : Int32))), .val (.ref b3), .val .null, .val (.ref b17), .val (.int (1 : Int32)), .val (.int (1 : Int32))] [(.int (1 : Int32)), (.int (1 : Int32))])) _
          refine XS.icmpNo X38.here hx rfl (hb hby at_134) rfl (teq (by decide : (1 : Int32) = (1 : Int32))).2 ?_
          show Steps p.tables e below (T38.setTop (mkF m 137 #[.val (.int p0_), .val (.int p1_), .val (.int p2_), .val (.int p3_), .val (.int p4_), .val (.int ((p0_ &&& (2147483647 : Int32)) % (9 : Int32))), .val (.ref b3), .val .null, .val (.ref b17), .val (.int (1 : Int32)), .val (.int (1 : Int32))] [])) _
          refine XS.iconst X38.here hx rfl (hb hby at_137) ?_
          show Steps p.tables e below (T38.setTop (mkF m 138 #[.val (.int p0_), .val (.int p1_), .val (.int p2_), .val (.int p3_), .val (.int p4_), .val (.int ((p0_ &&& (2147483647 : Int32)) % (9 : Int32))), .val (.ref b3), .val .null, .val (.ref b17), .val (.int (1 : Int32)), .val (.int (1 : Int32))] [(.int (1 : Int32))])) _
          refine XS.goto X38.here hx rfl (pc0 := 138) (pc' := 142) rfl (hb hby at_138) (by decide) (by decide) ?_
          exact kt
        obtain ⟨fs, hr, hrun, hended, hW, hsame⟩ := X38.leave (v := some (.int (1 : Int32))) (fun h => by rw [Bd.returns] at h; cases h)
        refine ⟨_, _, pre40 _ (retN X38 hx (t := .boolean) Bd.returns (by simp) (hb hby at_142) hr), hrun, hended, _, _, rfl, ?_, ⟨_, rfl⟩, hW, hsame.mono (by decide) (by decide)⟩
        show QLaw Z p0_ p1_ p2_ p3_ p4_ w_COMPACT_STRINGS w_FLOAT w_LONG w_INT w_REFERENCE w_DOUBLE h0 n0 _ T38.heap _
        rw [e38']
        exact ⟨rfl, N39⟩
      · obtain ⟨cq42, kq42, q42a, q42b, q42c⟩ := isOf hZ e32' g29_0
        obtain ⟨_, _, ⟨T42, L42, k42, n42⟩, -, X42, ⟨Lc42, hQ42, l42, y42, z42⟩, st42⟩ := X32.virtualBack hx (y := (⟨"com/example/stackweave/stackweave/classfile/VerificationType", "kind", "()Lcom/example/stackweave/stackweave/classfile/ValueKind;"⟩ : MethodName)) (z := (⟨"com/example/stackweave/stackweave/classfile/VerificationType", "kind", "()Lcom/example/stackweave/stackweave/classfile/ValueKind;"⟩ : MethodName)) hown (mvT hZ (hw _ (List.mem_of_getElem? (i := 54) rfl))) (mvT hZ (hw _ (List.mem_of_getElem? (i := 55) rfl))) (notFace_of_selects (args := #[]) (mvT hZ (hw _ (List.mem_of_getElem? (i := 57) rfl)))) (mvT hZ (hw _ (List.mem_of_getElem? (i := 57) rfl))) (mvT hZ (hw _ (List.mem_of_getElem? (i := 56) rfl))) (by decide) (backOf (W := 0) (rmkind6 l Z a0 hw [] b17 ((p0_ &&& (2147483647 : Int32)) % (9 : Int32)) p4_ w_REFERENCE h29 n0 f33 hq32_1_0 hq32_1_1 g29_0 g29_1 g29_2 g29_3 P4 P13 P3) hZ (hw _ (List.mem_of_getElem? (i := 58) rfl)) (hw _ (List.mem_of_getElem? (i := 32) rfl)) (by decide) (by decide)) q42a q42c (g := (mkF m 100 #[.val (.int p0_), .val (.int p1_), .val (.int p2_), .val (.int p3_), .val (.int p4_), .val (.int ((p0_ &&& (2147483647 : Int32)) % (9 : Int32))), .val (.ref b3), .val .null, .val (.ref b17), .val (.int (1 : Int32)), .unset] [(.ref b17)])) rfl (by rw [hml]; rfl) (Steps.refl _) (argsL := []) (rest := []) (lenOf pd_3 rfl) rfl (by show 2 * 0 + _ ≤ _; exact Nat.le_of_eq rfl) (hb hby at_100) (fun _ _ => ⟨rfl, e32', (by decide : 2 + 0 ≤ _), (by decide : 5 + 0 ≤ _)⟩)
        dsimp only [Pt.U, Pt.locs, Pt.cells, Pt.slots] at X42 l42 y42 z42 st42 hQ42
        subst l42 y42 z42
        obtain ⟨h42, e42⟩ : ∃ z, T42.heap = z := ⟨_, rfl⟩
        rw [e42] at hQ42
        obtain ⟨rfl, N42q, hh42⟩ := hQ42
        have N43 := Fr.app N34 N42q
        have e42' : T42.heap = h29 := e42.trans hh42
        obtain ⟨T44, X44, e44, st44⟩ := getS2 X42 hx hZ hown (host := "") (Or.inl (hw _ (List.mem_of_getElem? (i := 62) rfl))) Via.refl e42' (P3.ext f33.2) (g := (mkF m 103 #[.val (.int p0_), .val (.int p1_), .val (.int p2_), .val (.int p3_), .val (.int p4_), .val (.int ((p0_ &&& (2147483647 : Int32)) % (9 : Int32))), .val (.ref b3), .val .null, .val (.ref b17), .val (.int (1 : Int32)), .unset] [(.ref w_REFERENCE)])) rfl (hb hby at_103)
        obtain ⟨cq45, kq45, q45a, q45b, q45c⟩ := isOf hZ e44 g29_0
        obtain ⟨_, _, ⟨T45, L45, k45, n45⟩, -, X45, ⟨Lc45, hQ45, l45, y45, z45⟩, st45⟩ := X44.virtualBack hx (y := (⟨"com/example/stackweave/stackweave/classfile/VerificationType", "isUninitialized", "()Z"⟩ : MethodName)) (z := (⟨"com/example/stackweave/stackweave/classfile/VerificationType", "isUninitialized", "()Z"⟩ : MethodName)) hown (mvT hZ (hw _ (List.mem_of_getElem? (i := 65) rfl))) (mvT hZ (hw _ (List.mem_of_getElem? (i := 66) rfl))) (notFace_of_selects (args := #[]) (mvT hZ (hw _ (List.mem_of_getElem? (i := 68) rfl)))) (mvT hZ (hw _ (List.mem_of_getElem? (i := 68) rfl))) (mvT hZ (hw _ (List.mem_of_getElem? (i := 67) rfl))) (by decide) (backOf (W := 0) (rmisUninitialized7 l Z a0 hw [] b17 ((p0_ &&& (2147483647 : Int32)) % (9 : Int32)) p4_ h29 n0 f33 hq32_1_0 hq32_1_1 g29_0 g29_1 g29_2 g29_3) hZ (hw _ (List.mem_of_getElem? (i := 69) rfl)) (hw _ (List.mem_of_getElem? (i := 32) rfl)) (by decide) (by decide)) q45a q45c (g := (mkF m 111 #[.val (.int p0_), .val (.int p1_), .val (.int p2_), .val (.int p3_), .val (.int p4_), .val (.int ((p0_ &&& (2147483647 : Int32)) % (9 : Int32))), .val (.ref b3), .val .null, .val (.ref b17), .val (.int (1 : Int32)), .unset] [(.ref b17)])) rfl (by rw [hml]; rfl) (Steps.refl _) (argsL := []) (rest := []) (lenOf pd_2 rfl) rfl (by show 2 * 0 + _ ≤ _; exact Nat.le_of_eq rfl) (hb hby at_111) (fun _ _ => ⟨rfl, e44, (by decide : 2 + 0 ≤ _), (by decide : 5 + 0 ≤ _)⟩)
        dsimp only [Pt.U, Pt.locs, Pt.cells, Pt.slots] at X45 l45 y45 z45 st45 hQ45
        subst l45 y45 z45
        obtain ⟨h45, e45⟩ : ∃ z, T45.heap = z := ⟨_, rfl⟩
        rw [e45] at hQ45
        obtain ⟨rfl, N45q, hh45⟩ := hQ45
        have N46 := Fr.app N43 N45q
        have e45' : T45.heap = h29 := e45.trans hh45
        have pre47 : ∀ t, Steps p.tables e below (T45.setTop (mkF m 142 #[.val (.int p0_), .val (.int p1_), .val (.int p2_), .val (.int p3_), .val (.int p4_), .val (.int ((p0_ &&& (2147483647 : Int32)) % (9 : Int32))), .val (.ref b3), .val .null, .val (.ref b17), .val (.int (1 : Int32)), .val (.int (1 : Int32))] [(.int (1 : Int32))])) t → Steps p.tables e below (s₁.setTop (entryFrame m #[(.int p0_), (.int p1_), (.int p2_), (.int p3_), (.int p4_)] maxLocals)) t := by
          intro t kt
          refine pre15 t ?_
          show Steps p.tables e below (T11.setTop (mkF m 45 #[.val (.int p0_), .val (.int p1_), .val (.int p2_), .val (.int p3_), .val (.int p4_), .val (.int ((p0_ &&& (2147483647 : Int32)) % (9 : Int32))), .val (.ref b3), .unset, .unset, .unset, .unset] [(.int (p1_ &&& (2 : Int32)))])) _
          refine XS.ifYes X11.here hx rfl (pc0 := 45) (pc' := 60) rfl (hb hby at_45) rfl ((if0 _ _).trans (teq hc16).1) (by decide) (by decide) ?_
          show Steps p.tables e below (T11.setTop (mkF m 60 #[.val (.int p0_), .val (.int p1_), .val (.int p2_), .val (.int p3_), .val (.int p4_), .val (.int ((p0_ &&& (2147483647 : Int32)) % (9 : Int32))), .val (.ref b3), .unset, .unset, .unset, .unset] [])) _
          refine XS.aconstNull X11.here hx rfl (hb hby at_60) ?_
          show Steps p.tables e below (T11.setTop (mkF m 61 #[.val (.int p0_), .val (.int p1_), .val (.int p2_), .val (.int p3_), .val (.int p4_), .val (.int ((p0_ &&& (2147483647 : Int32)) % (9 : Int32))), .val (.ref b3), .unset, .unset, .unset, .unset] [.null])) _
          refine XS.astore X11.here hx rfl (hb hby at_61) rfl rfl (l' := #[.val (.int p0_), .val (.int p1_), .val (.int p2_), .val (.int p3_), .val (.int p4_), .val (.int ((p0_ &&& (2147483647 : Int32)) % (9 : Int32))), .val (.ref b3), .val .null, .unset, .unset, .unset]) rfl ?_
          show Steps p.tables e below (T11.setTop (mkF m 63 #[.val (.int p0_), .val (.int p1_), .val (.int p2_), .val (.int p3_), .val (.int p4_), .val (.int ((p0_ &&& (2147483647 : Int32)) % (9 : Int32))), .val (.ref b3), .val .null, .unset, .unset, .unset] [])) _
          refine st17 _ ?_
          show Steps p.tables e below (T17.setTop (mkF m 66 #[.val (.int p0_), .val (.int p1_), .val (.int p2_), .val (.int p3_), .val (.int p4_), .val (.int ((p0_ &&& (2147483647 : Int32)) % (9 : Int32))), .val (.ref b3), .val .null, .unset, .unset, .unset] [(.ref b17)])) _
          refine XS.dup X17.here hx rfl (hb hby at_66) rfl rfl ?_
          show Steps p.tables e below (T17.setTop (mkF m 67 #[.val (.int p0_), .val (.int p1_), .val (.int p2_), .val (.int p3_), .val (.int p4_), .val (.int ((p0_ &&& (2147483647 : Int32)) % (9 : Int32))), .val (.ref b3), .val .null, .unset, .unset, .unset] [(.ref b17), (.ref b17)])) _
          refine XS.iload X17.here hx rfl (hb hby at_67) rfl ?_
          show Steps p.tables e below (T17.setTop (mkF m 69 #[.val (.int p0_), .val (.int p1_), .val (.int p2_), .val (.int p3_), .val (.int p4_), .val (.int ((p0_ &&& (2147483647 : Int32)) % (9 : Int32))), .val (.ref b3), .val .null, .unset, .unset, .unset] [(.int ((p0_ &&& (2147483647 : Int32)) % (9 : Int32))), (.ref b17), (.ref b17)])) _
          refine XS.aload X17.here hx rfl (hb hby at_69) rfl rfl ?_
          show Steps p.tables e below (T17.setTop (mkF m 71 #[.val (.int p0_), .val (.int p1_), .val (.int p2_), .val (.int p3_), .val (.int p4_), .val (.int ((p0_ &&& (2147483647 : Int32)) % (9 : Int32))), .val (.ref b3), .val .null, .unset, .unset, .unset] [.null, (.int ((p0_ &&& (2147483647 : Int32)) % (9 : Int32))), (.ref b17), (.ref b17)])) _
          refine XS.iload X17.here hx rfl (hb hby at_71) rfl ?_
          show Steps p.tables e below (T17.setTop (mkF m 73 #[.val (.int p0_), .val (.int p1_), .val (.int p2_), .val (.int p3_), .val (.int p4_), .val (.int ((p0_ &&& (2147483647 : Int32)) % (9 : Int32))), .val (.ref b3), .val .null, .unset, .unset, .unset] [(.int p4_), .null, (.int ((p0_ &&& (2147483647 : Int32)) % (9 : Int32))), (.ref b17), (.ref b17)])) _
          refine st29.trans ?_
          show Steps p.tables e below (T29.setTop (mkF m 76 #[.val (.int p0_), .val (.int p1_), .val (.int p2_), .val (.int p3_), .val (.int p4_), .val (.int ((p0_ &&& (2147483647 : Int32)) % (9 : Int32))), .val (.ref b3), .val .null, .unset, .unset, .unset] [(.ref b17)])) _
          refine XS.astore X29.here hx rfl (hb hby at_76) rfl rfl (l' := #[.val (.int p0_), .val (.int p1_), .val (.int p2_), .val (.int p3_), .val (.int p4_), .val (.int ((p0_ &&& (2147483647 : Int32)) % (9 : Int32))), .val (.ref b3), .val .null, .val (.ref b17), .unset, .unset]) rfl ?_
          show Steps p.tables e below (T29.setTop (mkF m 78 #[.val (.int p0_), .val (.int p1_), .val (.int p2_), .val (.int p3_), .val (.int p4_), .val (.int ((p0_ &&& (2147483647 : Int32)) % (9 : Int32))), .val (.ref b3), .val .null, .val (.ref b17), .unset, .unset] [])) _
          refine XS.aload X29.here hx rfl (hb hby at_78) rfl rfl ?_
          show Steps p.tables e below (T29.setTop (mkF m 80 #[.val (.int p0_), .val (.int p1_), .val (.int p2_), .val (.int p3_), .val (.int p4_), .val (.int ((p0_ &&& (2147483647 : Int32)) % (9 : Int32))), .val (.ref b3), .val .null, .val (.ref b17), .unset, .unset] [(.ref b17)])) _
          refine st32.trans ?_
          show Steps p.tables e below (T32.setTop (mkF m 83 #[.val (.int p0_), .val (.int p1_), .val (.int p2_), .val (.int p3_), .val (.int p4_), .val (.int ((p0_ &&& (2147483647 : Int32)) % (9 : Int32))), .val (.ref b3), .val .null, .val (.ref b17), .unset, .unset] [(.int (1 : Int32))])) _
          refine XS.istore X32.here hx rfl (hb hby at_83) rfl (l' := #[.val (.int p0_), .val (.int p1_), .val (.int p2_), .val (.int p3_), .val (.int p4_), .val (.int ((p0_ &&& (2147483647 : Int32)) % (9 : Int32))), .val (.ref b3), .val .null, .val (.ref b17), .val (.int (1 : Int32)), .unset]) rfl ?_
          show Steps p.tables e below (T32.setTop (mkF m 85 #[.val (.int p0_), .val (.int p1_), .val (.int p2_), .val (.int p3_), .val (.int p4_), .val (.int ((p0_ &&& (2147483647 : Int32)) % (9 : Int32))), .val (.ref b3), .val .null, .val (.ref b17), .val (.int (1 : Int32)), .unset] [])) _
          refine XS.iload X32.here hx rfl (hb hby at_85) rfl ?_
          show Steps p.tables e below (T32.setTop (mkF m 87 #[.val (.int p0_), .val (.int p1_), .val (.int p2_), .val (.int p3_), .val (.int p4_), .val (.int ((p0_ &&& (2147483647 : Int32)) % (9 : Int32))), .val (.ref b3), .val .null, .val (.ref b17), .val (.int (1 : Int32)), .unset] [(.int ((p0_ &&& (2147483647 : Int32)) % (9 : Int32)))])) _
          refine XS.iconst X32.here hx rfl (hb hby at_87) ?_
          show Steps p.tables e below (T32.setTop (mkF m 88 #[.val (.int p0_), .val (.int p1_), .val (.int p2_), .val (.int p3_), .val (.int p4_), .val (.int ((p0_ &&& (2147483647 : Int32)) % (9 : Int32))), .val (.ref b3), .val .null, .val (.ref b17), .val (.int (1 : Int32)), .unset] [(.int (1 : Int32)), (.int ((p0_ &&& (2147483647 : Int32)) % (9 : Int32)))])) _
          refine XS.icmpNo X32.here hx rfl (hb hby at_88) rfl (flt (by intro hz; have lt_0 : ((1 : Int32)).toInt = 1 := rfl; have lt_1 : ((2147483647 : Int32)).toInt = 2147483647 := rfl; have lt_2 : ((5 : Int32)).toInt = 5 := rfl; have lt_3 : ((7 : Int32)).toInt = 7 := rfl; have lt_4 : ((9 : Int32)).toInt = 9 := rfl; simp only [Int32.lt_iff_toInt_lt, Int64.lt_iff_toInt_lt, ← Int32.toInt_inj, ← Int64.toInt_inj] at hz hq32_1_0 hq32_1_1; omega)).1 ?_
          show Steps p.tables e below (T32.setTop (mkF m 91 #[.val (.int p0_), .val (.int p1_), .val (.int p2_), .val (.int p3_), .val (.int p4_), .val (.int ((p0_ &&& (2147483647 : Int32)) % (9 : Int32))), .val (.ref b3), .val .null, .val (.ref b17), .val (.int (1 : Int32)), .unset] [])) _
          refine XS.iload X32.here hx rfl (hb hby at_91) rfl ?_
          show Steps p.tables e below (T32.setTop (mkF m 93 #[.val (.int p0_), .val (.int p1_), .val (.int p2_), .val (.int p3_), .val (.int p4_), .val (.int ((p0_ &&& (2147483647 : Int32)) % (9 : Int32))), .val (.ref b3), .val .null, .val (.ref b17), .val (.int (1 : Int32)), .unset] [(.int ((p0_ &&& (2147483647 : Int32)) % (9 : Int32)))])) _
          refine XS.bipush X32.here hx rfl (hb hby at_93) ?_
          show Steps p.tables e below (T32.setTop (mkF m 95 #[.val (.int p0_), .val (.int p1_), .val (.int p2_), .val (.int p3_), .val (.int p4_), .val (.int ((p0_ &&& (2147483647 : Int32)) % (9 : Int32))), .val (.ref b3), .val .null, .val (.ref b17), .val (.int (1 : Int32)), .unset] [(.int (8 : Int32)), (.int ((p0_ &&& (2147483647 : Int32)) % (9 : Int32)))])) _
          refine XS.icmpNo X32.here hx rfl (hb hby at_95) rfl (flt (by intro hz; have lt_0 : ((2147483647 : Int32)).toInt = 2147483647 := rfl; have lt_1 : ((5 : Int32)).toInt = 5 := rfl; have lt_2 : ((7 : Int32)).toInt = 7 := rfl; have lt_3 : ((8 : Int32)).toInt = 8 := rfl; have lt_4 : ((9 : Int32)).toInt = 9 := rfl; simp only [Int32.lt_iff_toInt_lt, Int64.lt_iff_toInt_lt, ← Int32.toInt_inj, ← Int64.toInt_inj] at hz hq32_1_0 hq32_1_1; omega)).2.2.1 ?_
          show Steps p.tables e below (T32.setTop (mkF m 98 #[.val (.int p0_), .val (.int p1_), .val (.int p2_), .val (.int p3_), .val (.int p4_), .val (.int ((p0_ &&& (2147483647 : Int32)) % (9 : Int32))), .val (.ref b3), .val .null, .val (.ref b17), .val (.int (1 : Int32)), .unset] [])) _
          refine XS.aload X32.here hx rfl (hb hby at_98) rfl rfl ?_
          show Steps p.tables e below (T32.setTop (mkF m 100 #[.val (.int p0_), .val (.int p1_), .val (.int p2_), .val (.int p3_), .val (.int p4_), .val (.int ((p0_ &&& (2147483647 : Int32)) % (9 : Int32))), .val (.ref b3), .val .null, .val (.ref b17), .val (.int (1 : Int32)), .unset] [(.ref b17)])) _
          refine st42.trans ?_
          show Steps p.tables e below (T42.setTop (mkF m 103 #[.val (.int p0_), .val (.int p1_), .val (.int p2_), .val (.int p3_), .val (.int p4_), .val (.int ((p0_ &&& (2147483647 : Int32)) % (9 : Int32))), .val (.ref b3), .val .null, .val (.ref b17), .val (.int (1 : Int32)), .unset] [(.ref w_REFERENCE)])) _
          refine st44 _ ?_
          show Steps p.tables e below (T44.setTop (mkF m 106 #[.val (.int p0_), .val (.int p1_), .val (.int p2_), .val (.int p3_), .val (.int p4_), .val (.int ((p0_ &&& (2147483647 : Int32)) % (9 : Int32))), .val (.ref b3), .val .null, .val (.ref b17), .val (.int (1 : Int32)), .unset] [(.ref w_REFERENCE), (.ref w_REFERENCE)])) _
          refine Jvm.RoadKit.acmp (g := (mkF m 106 #[.val (.int p0_), .val (.int p1_), .val (.int p2_), .val (.int p3_), .val (.int p4_), .val (.int ((p0_ &&& (2147483647 : Int32)) % (9 : Int32))), .val (.ref b3), .val .null, .val (.ref b17), .val (.int (1 : Int32)), .unset] [(.ref w_REFERENCE), (.ref w_REFERENCE)])) X44 hx rfl rfl rfl (pc0 := 106) (pc' := 109) (same := true) rfl (hb hby at_106) rfl (decide_eq_true rfl) (by decide) (by decide) ?_
          show Steps p.tables e below (T44.setTop (mkF m 109 #[.val (.int p0_), .val (.int p1_), .val (.int p2_), .val (.int p3_), .val (.int p4_), .val (.int ((p0_ &&& (2147483647 : Int32)) % (9 : Int32))), .val (.ref b3), .val .null, .val (.ref b17), .val (.int (1 : Int32)), .unset] [])) _
          refine XS.aload X44.here hx rfl (hb hby at_109) rfl rfl ?_
          show Steps p.tables e below (T44.setTop (mkF m 111 #[.val (.int p0_), .val (.int p1_), .val (.int p2_), .val (.int p3_), .val (.int p4_), .val (.int ((p0_ &&& (2147483647 : Int32)) % (9 : Int32))), .val (.ref b3), .val .null, .val (.ref b17), .val (.int (1 : Int32)), .unset] [(.ref b17)])) _
          refine st45.trans ?_
          show Steps p.tables e below (T45.setTop (mkF m 114 #[.val (.int p0_), .val (.int p1_), .val (.int p2_), .val (.int p3_), .val (.int p4_), .val (.int ((p0_ &&& (2147483647 : Int32)) % (9 : Int32))), .val (.ref b3), .val .null, .val (.ref b17), .val (.int (1 : Int32)), .unset] [(.int (0 : Int32))])) _
          refine XS.ifNo X45.here hx rfl (hb hby at_114) rfl ((if0 _ _).trans (teq (by decide : (0 : Int32) = (0 : Int32))).2) ?_
          show Steps p.tables e below (T45.setTop (mkF m 117 #[.val (.int p0_), .val (.int p1_), .val (.int p2_), .val (.int p3_), .val (.int p4_), .val (.int ((p0_ &&& (2147483647 : Int32)) % (9 : Int32))), .val (.ref b3), .val .null, .val (.ref b17), .val (.int (1 : Int32)), .unset] [])) _
          refine XS.iconst X45.here hx rfl (hb hby at_117) ?_
          show Steps p.tables e below (T45.setTop (mkF m 118 #[.val (.int p0_), .val (.int p1_), .val (.int p2_), .val (.int p3_), .val (.int p4_), .val (.int ((p0_ &&& (2147483647 : Int32)) % (9 : Int32))), .val (.ref b3), .val .null, .val (.ref b17), .val (.int (1 : Int32)), .unset] [(.int (1 : Int32))])) _
          refine XS.goto X45.here hx rfl (pc0 := 118) (pc' := 122) rfl (hb hby at_118) (by decide) (by decide) ?_
          show Steps p.tables e below (T45.setTop (mkF m 122 #[.val (.int p0_), .val (.int p1_), .val (.int p2_), .val (.int p3_), .val (.int p4_), .val (.int ((p0_ &&& (2147483647 : Int32)) % (9 : Int32))), .val (.ref b3), .val .null, .val (.ref b17), .val (.int (1 : Int32)), .unset] [(.int (1 : Int32))])) _
          refine XS.istore X45.here hx rfl (hb hby at_122) rfl (l' := #[.val (.int p0_), .val (.int p1_), .val (.int p2_), .val (.int p3_), .val (.int p4_), .val (.int ((p0_ &&& (2147483647 : Int32)) % (9 : Int32))), .val (.ref b3), .val .null, .val (.ref b17), .val (.int (1 : Int32)), .val (.int (1 : Int32))]) rfl ?_
          show Steps p.tables e below (T45.setTop (mkF m 124 #[.val (.int p0_), .val (.int p1_), .val (.int p2_), .val (.int p3_), .val (.int p4_), .val (.int ((p0_ &&& (2147483647 : Int32)) % (9 : Int32))), .val (.ref b3), .val .null, .val (.ref b17), .val (.int (1 : Int32)), .val (.int (1 : Int32))] [])) _
          refine XS.goto X45.here hx rfl (pc0 := 124) (pc' := 130) rfl (hb hby at_124) (by decide) (by decide) ?_
          show Steps p.tables e below (T45.setTop (mkF m 130 #[.val (.int p0_), .val (.int p1_), .val (.int p2_), .val (.int p3_), .val (.int p4_), .val (.int ((p0_ &&& (2147483647 : Int32)) % (9 : Int32))), .val (.ref b3), .val .null, .val (.ref b17), .val (.int (1 : Int32)), .val (.int (1 : Int32))] [])) _
          refine XS.iload X45.here hx rfl (hb hby at_130) rfl ?_
          show Steps p.tables e below (T45.setTop (mkF m 132 #[.val (.int p0_), .val (.int p1_), .val (.int p2_), .val (.int p3_), .val (.int p4_), .val (.int ((p0_ &&& (2147483647 : Int32)) % (9 : Int32))), .val (.ref b3), .val .null, .val (.ref b17), .val (.int (1 : Int32)), .val (.int (1 : Int32))] [(.int (1 : Int32))])) _
          refine XS.iload X45.here hx rfl (hb hby at_132) rfl ?_
          show Steps p.tables e below (T45.setTop (mkF m 134 #[.val (.int p0_), .val (.int p1_), .val (.int p2_), .val (.int p3_), .val (.int p4_), .val (.int ((p0_ &&& (2147483647 : Int32)) % (9 : Int32))), .val (.ref b3), .val .null, .val (.ref b17), .val (.int (1 : Int32)), .val (.int (1 : Int32))] [(.int (1 : Int32)), (.int (1 : Int32))])) _
          refine XS.icmpNo X45.here hx rfl (hb hby at_134) rfl (teq (by decide : (1 : Int32) = (1 : Int32))).2 ?_
          show Steps p.tables e below (T45.setTop (mkF m 137 #[.val (.int p0_), .val (.int p1_), .val (.int p2_), .val (.int p3_), .val (.int p4_), .val (.int ((p0_ &&& (2147483647 : Int32)) % (9 : Int32))), .val (.ref b3), .val .null, .val (.ref b17), .val (.int (1 : Int32)), .val (.int (1 : Int32))] [])) _
          refine XS.iconst X45.here hx rfl (hb hby at_137) ?_
          show Steps p.tables e below (T45.setTop (mkF m 138 #[.val (.int p0_), .val (.int p1_), .val (.int p2_), .val (.int p3_), .val (.int p4_), .val (.int ((p0_ &&& (2147483647 : Int32)) % (9 : Int32))), .val (.ref b3), .val .null, .val (.ref b17), .val (.int (1 : Int32)), .val (.int (1 : Int32))] [(.int (1 : Int32))])) _
          refine XS.goto X45.here hx rfl (pc0 := 138) (pc' := 142) rfl (hb hby at_138) (by decide) (by decide) ?_
          exact kt
        obtain ⟨fs, hr, hrun, hended, hW, hsame⟩ := X45.leave (v := some (.int (1 : Int32))) (fun h => by rw [Bd.returns] at h; cases h)
        refine ⟨_, _, pre47 _ (retN X45 hx (t := .boolean) Bd.returns (by simp) (hb hby at_142) hr), hrun, hended, _, _, rfl, ?_, ⟨_, rfl⟩, hW, hsame.mono (by decide) (by decide)⟩
        show QLaw Z p0_ p1_ p2_ p3_ p4_ w_COMPACT_STRINGS w_FLOAT w_LONG w_INT w_REFERENCE w_DOUBLE h0 n0 _ T45.heap _
        rw [e45']
        exact ⟨rfl, N46⟩
      · have pre49 : ∀ t, Steps p.tables e below (T32.setTop (mkF m 88 #[.val (.int p0_), .val (.int p1_), .val (.int p2_), .val (.int p3_), .val (.int p4_), .val (.int ((p0_ &&& (2147483647 : Int32)) % (9 : Int32))), .val (.ref b3), .val .null, .val (.ref b17), .val (.int (0 : Int32)), .unset] [(.int (1 : Int32)), (.int ((p0_ &&& (2147483647 : Int32)) % (9 : Int32)))])) t → Steps p.tables e below (s₁.setTop (entryFrame m #[(.int p0_), (.int p1_), (.int p2_), (.int p3_), (.int p4_)] maxLocals)) t := by
          intro t kt
          refine pre15 t ?_
          show Steps p.tables e below (T11.setTop (mkF m 45 #[.val (.int p0_), .val (.int p1_), .val (.int p2_), .val (.int p3_), .val (.int p4_), .val (.int ((p0_ &&& (2147483647 : Int32)) % (9 : Int32))), .val (.ref b3), .unset, .unset, .unset, .unset] [(.int (p1_ &&& (2 : Int32)))])) _
          refine XS.ifYes X11.here hx rfl (pc0 := 45) (pc' := 60) rfl (hb hby at_45) rfl ((if0 _ _).trans (teq hc16).1) (by decide) (by decide) ?_
          show Steps p.tables e below (T11.setTop (mkF m 60 #[.val (.int p0_), .val (.int p1_), .val (.int p2_), .val (.int p3_), .val (.int p4_), .val (.int ((p0_ &&& (2147483647 : Int32)) % (9 : Int32))), .val (.ref b3), .unset, .unset, .unset, .unset] [])) _
          refine XS.aconstNull X11.here hx rfl (hb hby at_60) ?_
          show Steps p.tables e below (T11.setTop (mkF m 61 #[.val (.int p0_), .val (.int p1_), .val (.int p2_), .val (.int p3_), .val (.int p4_), .val (.int ((p0_ &&& (2147483647 : Int32)) % (9 : Int32))), .val (.ref b3), .unset, .unset, .unset, .unset] [.null])) _
          refine XS.astore X11.here hx rfl (hb hby at_61) rfl rfl (l' := #[.val (.int p0_), .val (.int p1_), .val (.int p2_), .val (.int p3_), .val (.int p4_), .val (.int ((p0_ &&& (2147483647 : Int32)) % (9 : Int32))), .val (.ref b3), .val .null, .unset, .unset, .unset]) rfl ?_
          show Steps p.tables e below (T11.setTop (mkF m 63 #[.val (.int p0_), .val (.int p1_), .val (.int p2_), .val (.int p3_), .val (.int p4_), .val (.int ((p0_ &&& (2147483647 : Int32)) % (9 : Int32))), .val (.ref b3), .val .null, .unset, .unset, .unset] [])) _
          refine st17 _ ?_
          show Steps p.tables e below (T17.setTop (mkF m 66 #[.val (.int p0_), .val (.int p1_), .val (.int p2_), .val (.int p3_), .val (.int p4_), .val (.int ((p0_ &&& (2147483647 : Int32)) % (9 : Int32))), .val (.ref b3), .val .null, .unset, .unset, .unset] [(.ref b17)])) _
          refine XS.dup X17.here hx rfl (hb hby at_66) rfl rfl ?_
          show Steps p.tables e below (T17.setTop (mkF m 67 #[.val (.int p0_), .val (.int p1_), .val (.int p2_), .val (.int p3_), .val (.int p4_), .val (.int ((p0_ &&& (2147483647 : Int32)) % (9 : Int32))), .val (.ref b3), .val .null, .unset, .unset, .unset] [(.ref b17), (.ref b17)])) _
          refine XS.iload X17.here hx rfl (hb hby at_67) rfl ?_
          show Steps p.tables e below (T17.setTop (mkF m 69 #[.val (.int p0_), .val (.int p1_), .val (.int p2_), .val (.int p3_), .val (.int p4_), .val (.int ((p0_ &&& (2147483647 : Int32)) % (9 : Int32))), .val (.ref b3), .val .null, .unset, .unset, .unset] [(.int ((p0_ &&& (2147483647 : Int32)) % (9 : Int32))), (.ref b17), (.ref b17)])) _
          refine XS.aload X17.here hx rfl (hb hby at_69) rfl rfl ?_
          show Steps p.tables e below (T17.setTop (mkF m 71 #[.val (.int p0_), .val (.int p1_), .val (.int p2_), .val (.int p3_), .val (.int p4_), .val (.int ((p0_ &&& (2147483647 : Int32)) % (9 : Int32))), .val (.ref b3), .val .null, .unset, .unset, .unset] [.null, (.int ((p0_ &&& (2147483647 : Int32)) % (9 : Int32))), (.ref b17), (.ref b17)])) _
          refine XS.iload X17.here hx rfl (hb hby at_71) rfl ?_
          show Steps p.tables e below (T17.setTop (mkF m 73 #[.val (.int p0_), .val (.int p1_), .val (.int p2_), .val (.int p3_), .val (.int p4_), .val (.int ((p0_ &&& (2147483647 : Int32)) % (9 : Int32))), .val (.ref b3), .val .null, .unset, .unset, .unset] [(.int p4_), .null, (.int ((p0_ &&& (2147483647 : Int32)) % (9 : Int32))), (.ref b17), (.ref b17)])) _
          refine st29.trans ?_
          show Steps p.tables e below (T29.setTop (mkF m 76 #[.val (.int p0_), .val (.int p1_), .val (.int p2_), .val (.int p3_), .val (.int p4_), .val (.int ((p0_ &&& (2147483647 : Int32)) % (9 : Int32))), .val (.ref b3), .val .null, .unset, .unset, .unset] [(.ref b17)])) _
          refine XS.astore X29.here hx rfl (hb hby at_76) rfl rfl (l' := #[.val (.int p0_), .val (.int p1_), .val (.int p2_), .val (.int p3_), .val (.int p4_), .val (.int ((p0_ &&& (2147483647 : Int32)) % (9 : Int32))), .val (.ref b3), .val .null, .val (.ref b17), .unset, .unset]) rfl ?_
          show Steps p.tables e below (T29.setTop (mkF m 78 #[.val (.int p0_), .val (.int p1_), .val (.int p2_), .val (.int p3_), .val (.int p4_), .val (.int ((p0_ &&& (2147483647 : Int32)) % (9 : Int32))), .val (.ref b3), .val .null, .val (.ref b17), .unset, .unset] [])) _
          refine XS.aload X29.here hx rfl (hb hby at_78) rfl rfl ?_
          show Steps p.tables e below (T29.setTop (mkF m 80 #[.val (.int p0_), .val (.int p1_), .val (.int p2_), .val (.int p3_), .val (.int p4_), .val (.int ((p0_ &&& (2147483647 : Int32)) % (9 : Int32))), .val (.ref b3), .val .null, .val (.ref b17), .unset, .unset] [(.ref b17)])) _
          refine st32.trans ?_
          show Steps p.tables e below (T32.setTop (mkF m 83 #[.val (.int p0_), .val (.int p1_), .val (.int p2_), .val (.int p3_), .val (.int p4_), .val (.int ((p0_ &&& (2147483647 : Int32)) % (9 : Int32))), .val (.ref b3), .val .null, .val (.ref b17), .unset, .unset] [(.int (0 : Int32))])) _
          refine XS.istore X32.here hx rfl (hb hby at_83) rfl (l' := #[.val (.int p0_), .val (.int p1_), .val (.int p2_), .val (.int p3_), .val (.int p4_), .val (.int ((p0_ &&& (2147483647 : Int32)) % (9 : Int32))), .val (.ref b3), .val .null, .val (.ref b17), .val (.int (0 : Int32)), .unset]) rfl ?_
          show Steps p.tables e below (T32.setTop (mkF m 85 #[.val (.int p0_), .val (.int p1_), .val (.int p2_), .val (.int p3_), .val (.int p4_), .val (.int ((p0_ &&& (2147483647 : Int32)) % (9 : Int32))), .val (.ref b3), .val .null, .val (.ref b17), .val (.int (0 : Int32)), .unset] [])) _
          refine XS.iload X32.here hx rfl (hb hby at_85) rfl ?_
          show Steps p.tables e below (T32.setTop (mkF m 87 #[.val (.int p0_), .val (.int p1_), .val (.int p2_), .val (.int p3_), .val (.int p4_), .val (.int ((p0_ &&& (2147483647 : Int32)) % (9 : Int32))), .val (.ref b3), .val .null, .val (.ref b17), .val (.int (0 : Int32)), .unset] [(.int ((p0_ &&& (2147483647 : Int32)) % (9 : Int32)))])) _
          refine XS.iconst X32.here hx rfl (hb hby at_87) ?_
          exact kt
        by_cases hc50 : ((p0_ &&& (2147483647 : Int32)) % (9 : Int32)) < (1 : Int32)
        · have pre51 : ∀ t, Steps p.tables e below (T32.setTop (mkF m 142 #[.val (.int p0_), .val (.int p1_), .val (.int p2_), .val (.int p3_), .val (.int p4_), .val (.int ((p0_ &&& (2147483647 : Int32)) % (9 : Int32))), .val (.ref b3), .val .null, .val (.ref b17), .val (.int (0 : Int32)), .val (.int (0 : Int32))] [(.int (1 : Int32))])) t → Steps p.tables e below (s₁.setTop (entryFrame m #[(.int p0_), (.int p1_), (.int p2_), (.int p3_), (.int p4_)] maxLocals)) t := by
            intro t kt
            refine pre49 t ?_
            show Steps p.tables e below (T32.setTop (mkF m 88 #[.val (.int p0_), .val (.int p1_), .val (.int p2_), .val (.int p3_), .val (.int p4_), .val (.int ((p0_ &&& (2147483647 : Int32)) % (9 : Int32))), .val (.ref b3), .val .null, .val (.ref b17), .val (.int (0 : Int32)), .unset] [(.int (1 : Int32)), (.int ((p0_ &&& (2147483647 : Int32)) % (9 : Int32)))])) _
            refine XS.icmpYes X32.here hx rfl (pc0 := 88) (pc' := 127) rfl (hb hby at_88) rfl (tlt hc50).1 (by decide) (by decide) ?_
            show Steps p.tables e below (T32.setTop (mkF m 127 #[.val (.int p0_), .val (.int p1_), .val (.int p2_), .val (.int p3_), .val (.int p4_), .val (.int ((p0_ &&& (2147483647 : Int32)) % (9 : Int32))), .val (.ref b3), .val .null, .val (.ref b17), .val (.int (0 : Int32)), .unset] [])) _
            refine XS.iconst X32.here hx rfl (hb hby at_127) ?_
            show Steps p.tables e below (T32.setTop (mkF m 128 #[.val (.int p0_), .val (.int p1_), .val (.int p2_), .val (.int p3_), .val (.int p4_), .val (.int ((p0_ &&& (2147483647 : Int32)) % (9 : Int32))), .val (.ref b3), .val .null, .val (.ref b17), .val (.int (0 : Int32)), .unset] [(.int (0 : Int32))])) _
            refine XS.istore X32.here hx rfl (hb hby at_128) rfl (l' := #[.val (.int p0_), .val (.int p1_), .val (.int p2_), .val (.int p3_), .val (.int p4_), .val (.int ((p0_ &&& (2147483647 : Int32)) % (9 : Int32))), .val (.ref b3), .val .null, .val (.ref b17), .val (.int (0 : Int32)), .val (.int (0 : Int32))]) rfl ?_
            show Steps p.tables e below (T32.setTop (mkF m 130 #[.val (.int p0_), .val (.int p1_), .val (.int p2_), .val (.int p3_), .val (.int p4_), .val (.int ((p0_ &&& (2147483647 : Int32)) % (9 : Int32))), .val (.ref b3), .val .null, .val (.ref b17), .val (.int (0 : Int32)), .val (.int (0 : Int32))] [])) _
            refine XS.iload X32.here hx rfl (hb hby at_130) rfl ?_
            show Steps p.tables e below (T32.setTop (mkF m 132 #[.val (.int p0_), .val (.int p1_), .val (.int p2_), .val (.int p3_), .val (.int p4_), .val (.int ((p0_ &&& (2147483647 : Int32)) % (9 : Int32))), .val (.ref b3), .val .null, .val (.ref b17), .val (.int (0 : Int32)), .val (.int (0 : Int32))] [(.int (0 : Int32))])) _
            refine XS.iload X32.here hx rfl (hb hby at_132) rfl ?_
            show Steps p.tables e below (T32.setTop (mkF m 134 #[.val (.int p0_), .val (.int p1_), .val (.int p2_), .val (.int p3_), .val (.int p4_), .val (.int ((p0_ &&& (2147483647 : Int32)) % (9 : Int32))), .val (.ref b3), .val .null, .val (.ref b17), .val (.int (0 : Int32)), .val (.int (0 : Int32))] [(.int (0 : Int32)), (.int (0 : Int32))])) _
            refine XS.icmpNo X32.here hx rfl (hb hby at_134) rfl (teq (by decide : (0 : Int32) = (0 : Int32))).2 ?_
            show Steps p.tables e below (T32.setTop (mkF m 137 #[.val (.int p0_), .val (.int p1_), .val (.int p2_), .val (.int p3_), .val (.int p4_), .val (.int ((p0_ &&& (2147483647 : Int32)) % (9 : Int32))), .val (.ref b3), .val .null, .val (.ref b17), .val (.int (0 : Int32)), .val (.int (0 : Int32))] [])) _
            refine XS.iconst X32.here hx rfl (hb hby at_137) ?_
            show Steps p.tables e below (T32.setTop (mkF m 138 #[.val (.int p0_), .val (.int p1_), .val (.int p2_), .val (.int p3_), .val (.int p4_), .val (.int ((p0_ &&& (2147483647 : Int32)) % (9 : Int32))), .val (.ref b3), .val .null, .val (.ref b17), .val (.int (0 : Int32)), .val (.int (0 : Int32))] [(.int (1 : Int32))])) _
            refine XS.goto X32.here hx rfl (pc0 := 138) (pc' := 142) rfl (hb hby at_138) (by decide) (by decide) ?_
            exact kt
          obtain ⟨fs, hr, hrun, hended, hW, hsame⟩ := X32.leave (v := some (.int (1 : Int32))) (fun h => by rw [Bd.returns] at h; cases h)
          refine ⟨_, _, pre51 _ (retN X32 hx (t := .boolean) Bd.returns (by simp) (hb hby at_142) hr), hrun, hended, _, _, rfl, ?_, ⟨_, rfl⟩, hW, hsame.mono (by decide) (by decide)⟩
          show QLaw Z p0_ p1_ p2_ p3_ p4_ w_COMPACT_STRINGS w_FLOAT w_LONG w_INT w_REFERENCE w_DOUBLE h0 n0 _ T32.heap _
          rw [e32']
          exact ⟨rfl, N34⟩
        · have pre53 : ∀ t, Steps p.tables e below (T32.setTop (mkF m 95 #[.val (.int p0_), .val (.int p1_), .val (.int p2_), .val (.int p3_), .val (.int p4_), .val (.int ((p0_ &&& (2147483647 : Int32)) % (9 : Int32))), .val (.ref b3), .val .null, .val (.ref b17), .val (.int (0 : Int32)), .unset] [(.int (8 : Int32)), (.int ((p0_ &&& (2147483647 : Int32)) % (9 : Int32)))])) t → Steps p.tables e below (s₁.setTop (entryFrame m #[(.int p0_), (.int p1_), (.int p2_), (.int p3_), (.int p4_)] maxLocals)) t := by
            intro t kt
            refine pre49 t ?_
            show Steps p.tables e below (T32.setTop (mkF m 88 #[.val (.int p0_), .val (.int p1_), .val (.int p2_), .val (.int p3_), .val (.int p4_), .val (.int ((p0_ &&& (2147483647 : Int32)) % (9 : Int32))), .val (.ref b3), .val .null, .val (.ref b17), .val (.int (0 : Int32)), .unset] [(.int (1 : Int32)), (.int ((p0_ &&& (2147483647 : Int32)) % (9 : Int32)))])) _
            refine XS.icmpNo X32.here hx rfl (hb hby at_88) rfl (flt hc50).1 ?_
            show Steps p.tables e below (T32.setTop (mkF m 91 #[.val (.int p0_), .val (.int p1_), .val (.int p2_), .val (.int p3_), .val (.int p4_), .val (.int ((p0_ &&& (2147483647 : Int32)) % (9 : Int32))), .val (.ref b3), .val .null, .val (.ref b17), .val (.int (0 : Int32)), .unset] [])) _
            refine XS.iload X32.here hx rfl (hb hby at_91) rfl ?_
            show Steps p.tables e below (T32.setTop (mkF m 93 #[.val (.int p0_), .val (.int p1_), .val (.int p2_), .val (.int p3_), .val (.int p4_), .val (.int ((p0_ &&& (2147483647 : Int32)) % (9 : Int32))), .val (.ref b3), .val .null, .val (.ref b17), .val (.int (0 : Int32)), .unset] [(.int ((p0_ &&& (2147483647 : Int32)) % (9 : Int32)))])) _
            refine XS.bipush X32.here hx rfl (hb hby at_93) ?_
            exact kt
          by_cases hc54 : (8 : Int32) < ((p0_ &&& (2147483647 : Int32)) % (9 : Int32))
          · have pre55 : ∀ t, Steps p.tables e below (T32.setTop (mkF m 142 #[.val (.int p0_), .val (.int p1_), .val (.int p2_), .val (.int p3_), .val (.int p4_), .val (.int ((p0_ &&& (2147483647 : Int32)) % (9 : Int32))), .val (.ref b3), .val .null, .val (.ref b17), .val (.int (0 : Int32)), .val (.int (0 : Int32))] [(.int (1 : Int32))])) t → Steps p.tables e below (s₁.setTop (entryFrame m #[(.int p0_), (.int p1_), (.int p2_), (.int p3_), (.int p4_)] maxLocals)) t := by
              intro t kt
              refine pre53 t ?_
              show Steps p.tables e below (T32.setTop (mkF m 95 #[.val (.int p0_), .val (.int p1_), .val (.int p2_), .val (.int p3_), .val (.int p4_), .val (.int ((p0_ &&& (2147483647 : Int32)) % (9 : Int32))), .val (.ref b3), .val .null, .val (.ref b17), .val (.int (0 : Int32)), .unset] [(.int (8 : Int32)), (.int ((p0_ &&& (2147483647 : Int32)) % (9 : Int32)))])) _
              refine XS.icmpYes X32.here hx rfl (pc0 := 95) (pc' := 127) rfl (hb hby at_95) rfl (tlt hc54).2.2.1 (by decide) (by decide) ?_
              show Steps p.tables e below (T32.setTop (mkF m 127 #[.val (.int p0_), .val (.int p1_), .val (.int p2_), .val (.int p3_), .val (.int p4_), .val (.int ((p0_ &&& (2147483647 : Int32)) % (9 : Int32))), .val (.ref b3), .val .null, .val (.ref b17), .val (.int (0 : Int32)), .unset] [])) _
              refine XS.iconst X32.here hx rfl (hb hby at_127) ?_
              show Steps p.tables e below (T32.setTop (mkF m 128 #[.val (.int p0_), .val (.int p1_), .val (.int p2_), .val (.int p3_), .val (.int p4_), .val (.int ((p0_ &&& (2147483647 : Int32)) % (9 : Int32))), .val (.ref b3), .val .null, .val (.ref b17), .val (.int (0 : Int32)), .unset] [(.int (0 : Int32))])) _
              refine XS.istore X32.here hx rfl (hb hby at_128) rfl (l' := #[.val (.int p0_), .val (.int p1_), .val (.int p2_), .val (.int p3_), .val (.int p4_), .val (.int ((p0_ &&& (2147483647 : Int32)) % (9 : Int32))), .val (.ref b3), .val .null, .val (.ref b17), .val (.int (0 : Int32)), .val (.int (0 : Int32))]) rfl ?_
              show Steps p.tables e below (T32.setTop (mkF m 130 #[.val (.int p0_), .val (.int p1_), .val (.int p2_), .val (.int p3_), .val (.int p4_), .val (.int ((p0_ &&& (2147483647 : Int32)) % (9 : Int32))), .val (.ref b3), .val .null, .val (.ref b17), .val (.int (0 : Int32)), .val (.int (0 : Int32))] [])) _
              refine XS.iload X32.here hx rfl (hb hby at_130) rfl ?_
              show Steps p.tables e below (T32.setTop (mkF m 132 #[.val (.int p0_), .val (.int p1_), .val (.int p2_), .val (.int p3_), .val (.int p4_), .val (.int ((p0_ &&& (2147483647 : Int32)) % (9 : Int32))), .val (.ref b3), .val .null, .val (.ref b17), .val (.int (0 : Int32)), .val (.int (0 : Int32))] [(.int (0 : Int32))])) _
              refine XS.iload X32.here hx rfl (hb hby at_132) rfl ?_
              show Steps p.tables e below (T32.setTop (mkF m 134 #[.val (.int p0_), .val (.int p1_), .val (.int p2_), .val (.int p3_), .val (.int p4_), .val (.int ((p0_ &&& (2147483647 : Int32)) % (9 : Int32))), .val (.ref b3), .val .null, .val (.ref b17), .val (.int (0 : Int32)), .val (.int (0 : Int32))] [(.int (0 : Int32)), (.int (0 : Int32))])) _
              refine XS.icmpNo X32.here hx rfl (hb hby at_134) rfl (teq (by decide : (0 : Int32) = (0 : Int32))).2 ?_
              show Steps p.tables e below (T32.setTop (mkF m 137 #[.val (.int p0_), .val (.int p1_), .val (.int p2_), .val (.int p3_), .val (.int p4_), .val (.int ((p0_ &&& (2147483647 : Int32)) % (9 : Int32))), .val (.ref b3), .val .null, .val (.ref b17), .val (.int (0 : Int32)), .val (.int (0 : Int32))] [])) _
              refine XS.iconst X32.here hx rfl (hb hby at_137) ?_
              show Steps p.tables e below (T32.setTop (mkF m 138 #[.val (.int p0_), .val (.int p1_), .val (.int p2_), .val (.int p3_), .val (.int p4_), .val (.int ((p0_ &&& (2147483647 : Int32)) % (9 : Int32))), .val (.ref b3), .val .null, .val (.ref b17), .val (.int (0 : Int32)), .val (.int (0 : Int32))] [(.int (1 : Int32))])) _
              refine XS.goto X32.here hx rfl (pc0 := 138) (pc' := 142) rfl (hb hby at_138) (by decide) (by decide) ?_
              exact kt
            obtain ⟨fs, hr, hrun, hended, hW, hsame⟩ := X32.leave (v := some (.int (1 : Int32))) (fun h => by rw [Bd.returns] at h; cases h)
            refine ⟨_, _, pre55 _ (retN X32 hx (t := .boolean) Bd.returns (by simp) (hb hby at_142) hr), hrun, hended, _, _, rfl, ?_, ⟨_, rfl⟩, hW, hsame.mono (by decide) (by decide)⟩
            show QLaw Z p0_ p1_ p2_ p3_ p4_ w_COMPACT_STRINGS w_FLOAT w_LONG w_INT w_REFERENCE w_DOUBLE h0 n0 _ T32.heap _
            rw [e32']
            exact ⟨rfl, N34⟩
          · obtain ⟨cq57, kq57, q57a, q57b, q57c⟩ := isOf hZ e32' g29_0
            obtain ⟨_, _, ⟨T57, L57, k57, n57⟩, -, X57, ⟨Lc57, hQ57, l57, y57, z57⟩, st57⟩ := X32.virtualBack hx (y := (⟨"com/example/stackweave/stackweave/classfile/VerificationType", "kind", "()Lcom/example/stackweave/stackweave/classfile/ValueKind;"⟩ : MethodName)) (z := (⟨"com/example/stackweave/stackweave/classfile/VerificationType", "kind", "()Lcom/example/stackweave/stackweave/classfile/ValueKind;"⟩ : MethodName)) hown (mvT hZ (hw _ (List.mem_of_getElem? (i := 54) rfl))) (mvT hZ (hw _ (List.mem_of_getElem? (i := 55) rfl))) (notFace_of_selects (args := #[]) (mvT hZ (hw _ (List.mem_of_getElem? (i := 57) rfl)))) (mvT hZ (hw _ (List.mem_of_getElem? (i := 57) rfl))) (mvT hZ (hw _ (List.mem_of_getElem? (i := 56) rfl))) (by decide) (backOf (W := 0) (rmkind8 l Z a0 hw [] b17 ((p0_ &&& (2147483647 : Int32)) % (9 : Int32)) p4_ w_INT w_FLOAT w_DOUBLE w_LONG w_REFERENCE h29 n0 f33 hq32_2_0 hq32_2_1 hc50 hc54 g29_0 g29_1 g29_2 g29_3 P6 P14 P5 P10 P16 P9 P2 P12 P1 P8 P15 P7 P4 P13 P3) hZ (hw _ (List.mem_of_getElem? (i := 58) rfl)) (hw _ (List.mem_of_getElem? (i := 32) rfl)) (by decide) (by decide)) q57a q57c (g := (mkF m 100 #[.val (.int p0_), .val (.int p1_), .val (.int p2_), .val (.int p3_), .val (.int p4_), .val (.int ((p0_ &&& (2147483647 : Int32)) % (9 : Int32))), .val (.ref b3), .val .null, .val (.ref b17), .val (.int (0 : Int32)), .unset] [(.ref b17)])) rfl (by rw [hml]; rfl) (Steps.refl _) (argsL := []) (rest := []) (lenOf pd_3 rfl) rfl (by show 2 * 0 + _ ≤ _; exact Nat.le_of_eq rfl) (hb hby at_100) (fun _ _ => ⟨rfl, e32', (by decide : 2 + 0 ≤ _), (by decide : 5 + 0 ≤ _)⟩)
            dsimp only [Pt.U, Pt.locs, Pt.cells, Pt.slots] at X57 l57 y57 z57 st57 hQ57
            subst l57 y57 z57
            obtain ⟨h57, e57⟩ : ∃ z, T57.heap = z := ⟨_, rfl⟩
            rw [e57] at hQ57
            obtain ⟨rr57, rfl, hs57, N57q, hh57⟩ := hQ57
            have N58 := Fr.app N34 N57q
            have e57' : T57.heap = h29 := e57.trans hh57
            rcases hs57 with ⟨rfl, hq57_0_0⟩ | ⟨rfl, hq57_1_0, hq57_1_1⟩ | ⟨rfl, hq57_2_0, hq57_2_1, hq57_2_2⟩ | ⟨rfl, hq57_3_0, hq57_3_1, hq57_3_2, hq57_3_3⟩ | ⟨rfl, hq57_4_0, hq57_4_1, hq57_4_2, hq57_4_3, hq57_4_4⟩ | ⟨rfl, hq57_5_0, hq57_5_1, hq57_5_2, hq57_5_3, hq57_5_4, hq57_5_5⟩
            · obtain ⟨T59, X59, e59, st59⟩ := getS2 X57 hx hZ hown (host := "") (Or.inl (hw _ (List.mem_of_getElem? (i := 62) rfl))) Via.refl e57' (P3.ext f33.2) (g := (mkF m 103 #[.val (.int p0_), .val (.int p1_), .val (.int p2_), .val (.int p3_), .val (.int p4_), .val (.int ((p0_ &&& (2147483647 : Int32)) % (9 : Int32))), .val (.ref b3), .val .null, .val (.ref b17), .val (.int (0 : Int32)), .unset] [(.ref w_INT)])) rfl (hb hby at_103)
              have ne60 : w_INT ≠ w_REFERENCE := Fld.ne P14 P13 (fun q => absurd (Value.int.inj q) (by decide))
              have pre61 : ∀ t, Steps p.tables e below (T59.setTop (mkF m 142 #[.val (.int p0_), .val (.int p1_), .val (.int p2_), .val (.int p3_), .val (.int p4_), .val (.int ((p0_ &&& (2147483647 : Int32)) % (9 : Int32))), .val (.ref b3), .val .null, .val (.ref b17), .val (.int (0 : Int32)), .val (.int (0 : Int32))] [(.int (1 : Int32))])) t → Steps p.tables e below (s₁.setTop (entryFrame m #[(.int p0_), (.int p1_), (.int p2_), (.int p3_), (.int p4_)] maxLocals)) t := by
                intro t kt
                refine pre53 t ?_
                show Steps p.tables e below (T32.setTop (mkF m 95 #[.val (.int p0_), .val (.int p1_), .val (.int p2_), .val (.int p3_), .val (.int p4_), .val (.int ((p0_ &&& (2147483647 : Int32)) % (9 : Int32))), .val (.ref b3), .val .null, .val (.ref b17), .val (.int (0 : Int32)), .unset] [(.int (8 : Int32)), (.int ((p0_ &&& (2147483647 : Int32)) % (9 : Int32)))])) _
                refine XS.icmpNo X32.here hx rfl (hb hby at_95) rfl (flt hc54).2.2.1 ?_
                show Steps p.tables e below (T32.setTop (mkF m 98 #[.val (.int p0_), .val (.int p1_), .val (.int p2_), .val (.int p3_), .val (.int p4_), .val (.int ((p0_ &&& (2147483647 : Int32)) % (9 : Int32))), .val (.ref b3), .val .null, .val (.ref b17), .val (.int (0 : Int32)), .unset] [])) _
                refine XS.aload X32.here hx rfl (hb hby at_98) rfl rfl ?_
                show Steps p.tables e below (T32.setTop (mkF m 100 #[.val (.int p0_), .val (.int p1_), .val (.int p2_), .val (.int p3_), .val (.int p4_), .val (.int ((p0_ &&& (2147483647 : Int32)) % (9 : Int32))), .val (.ref b3), .val .null, .val (.ref b17), .val (.int (0 : Int32)), .unset] [(.ref b17)])) _
                refine st57.trans ?_
                show Steps p.tables e below (T57.setTop (mkF m 103 #[.val (.int p0_), .val (.int p1_), .val (.int p2_), .val (.int p3_), .val (.int p4_), .val (.int ((p0_ &&& (2147483647 : Int32)) % (9 : Int32))), .val (.ref b3), .val .null, .val (.ref b17), .val (.int (0 : Int32)), .unset] [(.ref w_INT)])) _
                refine st59 _ ?_
                show Steps p.tables e below (T59.setTop (mkF m 106 #[.val (.int p0_), .val (.int p1_), .val (.int p2_), .val (.int p3_), .val (.int p4_), .val (.int ((p0_ &&& (2147483647 : Int32)) % (9 : Int32))), .val (.ref b3), .val .null, .val (.ref b17), .val (.int (0 : Int32)), .unset] [(.ref w_REFERENCE), (.ref w_INT)])) _
                refine Jvm.RoadKit.acmp (g := (mkF m 106 #[.val (.int p0_), .val (.int p1_), .val (.int p2_), .val (.int p3_), .val (.int p4_), .val (.int ((p0_ &&& (2147483647 : Int32)) % (9 : Int32))), .val (.ref b3), .val .null, .val (.ref b17), .val (.int (0 : Int32)), .unset] [(.ref w_REFERENCE), (.ref w_INT)])) X59 hx rfl rfl rfl (pc0 := 106) (pc' := 121) (same := false) rfl (hb hby at_106) rfl (decide_eq_false fun q => ne60 (Value.ref.inj q)) (by decide) (by decide) ?_
                show Steps p.tables e below (T59.setTop (mkF m 121 #[.val (.int p0_), .val (.int p1_), .val (.int p2_), .val (.int p3_), .val (.int p4_), .val (.int ((p0_ &&& (2147483647 : Int32)) % (9 : Int32))), .val (.ref b3), .val .null, .val (.ref b17), .val (.int (0 : Int32)), .unset] [])) _
                refine XS.iconst X59.here hx rfl (hb hby at_121) ?_
                show Steps p.tables e below (T59.setTop (mkF m 122 #[.val (.int p0_), .val (.int p1_), .val (.int p2_), .val (.int p3_), .val (.int p4_), .val (.int ((p0_ &&& (2147483647 : Int32)) % (9 : Int32))), .val (.ref b3), .val .null, .val (.ref b17), .val (.int (0 : Int32)), .unset] [(.int (0 : Int32))])) _
                refine XS.istore X59.here hx rfl (hb hby at_122) rfl (l' := #[.val (.int p0_), .val (.int p1_), .val (.int p2_), .val (.int p3_), .val (.int p4_), .val (.int ((p0_ &&& (2147483647 : Int32)) % (9 : Int32))), .val (.ref b3), .val .null, .val (.ref b17), .val (.int (0 : Int32)), .val (.int (0 : Int32))]) rfl ?_
                show Steps p.tables e below (T59.setTop (mkF m 124 #[.val (.int p0_), .val (.int p1_), .val (.int p2_), .val (.int p3_), .val (.int p4_), .val (.int ((p0_ &&& (2147483647 : Int32)) % (9 : Int32))), .val (.ref b3), .val .null, .val (.ref b17), .val (.int (0 : Int32)), .val (.int (0 : Int32))] [])) _
                refine XS.goto X59.here hx rfl (pc0 := 124) (pc' := 130) rfl (hb hby at_124) (by decide) (by decide) ?_
                show Steps p.tables e below (T59.setTop (mkF m 130 #[.val (.int p0_), .val (.int p1_), .val (.int p2_), .val (.int p3_), .val (.int p4_), .val (.int ((p0_ &&& (2147483647 : Int32)) % (9 : Int32))), .val (.ref b3), .val .null, .val (.ref b17), .val (.int (0 : Int32)), .val (.int (0 : Int32))] [])) _
                refine XS.iload X59.here hx rfl (hb hby at_130) rfl ?_
                show Steps p.tables e below (T59.setTop (mkF m 132 #[.val (.int p0_), .val (.int p1_), .val (.int p2_), .val (.int p3_), .val (.int p4_), .val (.int ((p0_ &&& (2147483647 : Int32)) % (9 : Int32))), .val (.ref b3), .val .null, .val (.ref b17), .val (.int (0 : Int32)), .val (.int (0 : Int32))] [(.int (0 : Int32))])) _
                refine XS.iload X59.here hx rfl (hb hby at_132) rfl ?_
                show Steps p.tables e below (T59.setTop (mkF m 134 #[.val (.int p0_), .val (.int p1_), .val (.int p2_), .val (.int p3_), .val (.int p4_), .val (.int ((p0_ &&& (2147483647 : Int32)) % (9 : Int32))), .val (.ref b3), .val .null, .val (.ref b17), .val (.int (0 : Int32)), .val (.int (0 : Int32))] [(.int (0 : Int32)), (.int (0 : Int32))])) _
                refine XS.icmpNo X59.here hx rfl (hb hby at_134) rfl (teq (by decide : (0 : Int32) = (0 : Int32))).2 ?_
                show Steps p.tables e below (T59.setTop (mkF m 137 #[.val (.int p0_), .val (.int p1_), .val (.int p2_), .val (.int p3_), .val (.int p4_), .val (.int ((p0_ &&& (2147483647 : Int32)) % (9 : Int32))), .val (.ref b3), .val .null, .val (.ref b17), .val (.int (0 : Int32)), .val (.int (0 : Int32))] [])) _
                refine XS.iconst X59.here hx rfl (hb hby at_137) ?_
                show Steps p.tables e below (T59.setTop (mkF m 138 #[.val (.int p0_), .val (.int p1_), .val (.int p2_), .val (.int p3_), .val (.int p4_), .val (.int ((p0_ &&& (2147483647 : Int32)) % (9 : Int32))), .val (.ref b3), .val .null, .val (.ref b17), .val (.int (0 : Int32)), .val (.int (0 : Int32))] [(.int (1 : Int32))])) _
                refine XS.goto X59.here hx rfl (pc0 := 138) (pc' := 142) rfl (hb hby at_138) (by decide) (by decide) ?_
                exact kt
              obtain ⟨fs, hr, hrun, hended, hW, hsame⟩ := X59.leave (v := some (.int (1 : Int32))) (fun h => by rw [Bd.returns] at h; cases h)
              refine ⟨_, _, pre61 _ (retN X59 hx (t := .boolean) Bd.returns (by simp) (hb hby at_142) hr), hrun, hended, _, _, rfl, ?_, ⟨_, rfl⟩, hW, hsame.mono (by decide) (by decide)⟩
              show QLaw Z p0_ p1_ p2_ p3_ p4_ w_COMPACT_STRINGS w_FLOAT w_LONG w_INT w_REFERENCE w_DOUBLE h0 n0 _ T59.heap _
              rw [e59]
              exact ⟨rfl, N58⟩
            · obtain ⟨T63, X63, e63, st63⟩ := getS2 X57 hx hZ hown (host := "") (Or.inl (hw _ (List.mem_of_getElem? (i := 62) rfl))) Via.refl e57' (P3.ext f33.2) (g := (mkF m 103 #[.val (.int p0_), .val (.int p1_), .val (.int p2_), .val (.int p3_), .val (.int p4_), .val (.int ((p0_ &&& (2147483647 : Int32)) % (9 : Int32))), .val (.ref b3), .val .null, .val (.ref b17), .val (.int (0 : Int32)), .unset] [(.ref w_FLOAT)])) rfl (hb hby at_103)
              have ne64 : w_FLOAT ≠ w_REFERENCE := Fld.ne P16 P13 (fun q => absurd (Value.int.inj q) (by decide))
              have pre65 : ∀ t, Steps p.tables e below (T63.setTop (mkF m 142 #[.val (.int p0_), .val (.int p1_), .val (.int p2_), .val (.int p3_), .val (.int p4_), .val (.int ((p0_ &&& (2147483647 : Int32)) % (9 : Int32))), .val (.ref b3), .val .null, .val (.ref b17), .val (.int (0 : Int32)), .val (.int (0 : Int32))] [(.int (1 : Int32))])) t → Steps p.tables e below (s₁.setTop (entryFrame m #[(.int p0_), (.int p1_), (.int p2_), (.int p3_), (.int p4_)] maxLocals)) t := by
                intro t kt
                refine pre53 t ?_
                show Steps p.tables e below (T32.setTop (mkF m 95 #[.val (.int p0_), .val (.int p1_), .val (.int p2_), .val (.int p3_), .val (.int p4_), .val (.int ((p0_ &&& (2147483647 : Int32)) % (9 : Int32))), .val (.ref b3), .val .null, .val (.ref b17), .val (.int (0 : Int32)), .unset] [(.int (8 : Int32)), (.int ((p0_ &&& (2147483647 : Int32)) % (9 : Int32)))])) _
                refine XS.icmpNo X32.here hx rfl (hb hby at_95) rfl (flt hc54).2.2.1 ?_
                show Steps p.tables e below (T32.setTop (mkF m 98 #[.val (.int p0_), .val (.int p1_), .val (.int p2_), .val (.int p3_), .val (.int p4_), .val (.int ((p0_ &&& (2147483647 : Int32)) % (9 : Int32))), .val (.ref b3), .val .null, .val (.ref b17), .val (.int (0 : Int32)), .unset] [])) _
                refine XS.aload X32.here hx rfl (hb hby at_98) rfl rfl ?_
                show Steps p.tables e below (T32.setTop (mkF m 100 #[.val (.int p0_), .val (.int p1_), .val (.int p2_), .val (.int p3_), .val (.int p4_), .val (.int ((p0_ &&& (2147483647 : Int32)) % (9 : Int32))), .val (.ref b3), .val .null, .val (.ref b17), .val (.int (0 : Int32)), .unset] [(.ref b17)])) _
                refine st57.trans ?_
                show Steps p.tables e below (T57.setTop (mkF m 103 #[.val (.int p0_), .val (.int p1_), .val (.int p2_), .val (.int p3_), .val (.int p4_), .val (.int ((p0_ &&& (2147483647 : Int32)) % (9 : Int32))), .val (.ref b3), .val .null, .val (.ref b17), .val (.int (0 : Int32)), .unset] [(.ref w_FLOAT)])) _
                refine st63 _ ?_
                show Steps p.tables e below (T63.setTop (mkF m 106 #[.val (.int p0_), .val (.int p1_), .val (.int p2_), .val (.int p3_), .val (.int p4_), .val (.int ((p0_ &&& (2147483647 : Int32)) % (9 : Int32))), .val (.ref b3), .val .null, .val (.ref b17), .val (.int (0 : Int32)), .unset] [(.ref w_REFERENCE), (.ref w_FLOAT)])) _
                refine Jvm.RoadKit.acmp (g := (mkF m 106 #[.val (.int p0_), .val (.int p1_), .val (.int p2_), .val (.int p3_), .val (.int p4_), .val (.int ((p0_ &&& (2147483647 : Int32)) % (9 : Int32))), .val (.ref b3), .val .null, .val (.ref b17), .val (.int (0 : Int32)), .unset] [(.ref w_REFERENCE), (.ref w_FLOAT)])) X63 hx rfl rfl rfl (pc0 := 106) (pc' := 121) (same := false) rfl (hb hby at_106) rfl (decide_eq_false fun q => ne64 (Value.ref.inj q)) (by decide) (by decide) ?_
                show Steps p.tables e below (T63.setTop (mkF m 121 #[.val (.int p0_), .val (.int p1_), .val (.int p2_), .val (.int p3_), .val (.int p4_), .val (.int ((p0_ &&& (2147483647 : Int32)) % (9 : Int32))), .val (.ref b3), .val .null, .val (.ref b17), .val (.int (0 : Int32)), .unset] [])) _
                refine XS.iconst X63.here hx rfl (hb hby at_121) ?_
                show Steps p.tables e below (T63.setTop (mkF m 122 #[.val (.int p0_), .val (.int p1_), .val (.int p2_), .val (.int p3_), .val (.int p4_), .val (.int ((p0_ &&& (2147483647 : Int32)) % (9 : Int32))), .val (.ref b3), .val .null, .val (.ref b17), .val (.int (0 : Int32)), .unset] [(.int (0 : Int32))])) _
                refine XS.istore X63.here hx rfl (hb hby at_122) rfl (l' := #[.val (.int p0_), .val (.int p1_), .val (.int p2_), .val (.int p3_), .val (.int p4_), .val (.int ((p0_ &&& (2147483647 : Int32)) % (9 : Int32))), .val (.ref b3), .val .null, .val (.ref b17), .val (.int (0 : Int32)), .val (.int (0 : Int32))]) rfl ?_
                show Steps p.tables e below (T63.setTop (mkF m 124 #[.val (.int p0_), .val (.int p1_), .val (.int p2_), .val (.int p3_), .val (.int p4_), .val (.int ((p0_ &&& (2147483647 : Int32)) % (9 : Int32))), .val (.ref b3), .val .null, .val (.ref b17), .val (.int (0 : Int32)), .val (.int (0 : Int32))] [])) _
                refine XS.goto X63.here hx rfl (pc0 := 124) (pc' := 130) rfl (hb hby at_124) (by decide) (by decide) ?_
                show Steps p.tables e below (T63.setTop (mkF m 130 #[.val (.int p0_), .val (.int p1_), .val (.int p2_), .val (.int p3_), .val (.int p4_), .val (.int ((p0_ &&& (2147483647 : Int32)) % (9 : Int32))), .val (.ref b3), .val .null, .val (.ref b17), .val (.int (0 : Int32)), .val (.int (0 : Int32))] [])) _
                refine XS.iload X63.here hx rfl (hb hby at_130) rfl ?_
                show Steps p.tables e below (T63.setTop (mkF m 132 #[.val (.int p0_), .val (.int p1_), .val (.int p2_), .val (.int p3_), .val (.int p4_), .val (.int ((p0_ &&& (2147483647 : Int32)) % (9 : Int32))), .val (.ref b3), .val .null, .val (.ref b17), .val (.int (0 : Int32)), .val (.int (0 : Int32))] [(.int (0 : Int32))])) _
                refine XS.iload X63.here hx rfl (hb hby at_132) rfl ?_
                show Steps p.tables e below (T63.setTop (mkF m 134 #[.val (.int p0_), .val (.int p1_), .val (.int p2_), .val (.int p3_), .val (.int p4_), .val (.int ((p0_ &&& (2147483647 : Int32)) % (9 : Int32))), .val (.ref b3), .val .null, .val (.ref b17), .val (.int (0 : Int32)), .val (.int (0 : Int32))] [(.int (0 : Int32)), (.int (0 : Int32))])) _
                refine XS.icmpNo X63.here hx rfl (hb hby at_134) rfl (teq (by decide : (0 : Int32) = (0 : Int32))).2 ?_
                show Steps p.tables e below (T63.setTop (mkF m 137 #[.val (.int p0_), .val (.int p1_), .val (.int p2_), .val (.int p3_), .val (.int p4_), .val (.int ((p0_ &&& (2147483647 : Int32)) % (9 : Int32))), .val (.ref b3), .val .null, .val (.ref b17), .val (.int (0 : Int32)), .val (.int (0 : Int32))] [])) _
                refine XS.iconst X63.here hx rfl (hb hby at_137) ?_
                show Steps p.tables e below (T63.setTop (mkF m 138 #[.val (.int p0_), .val (.int p1_), .val (.int p2_), .val (.int p3_), .val (.int p4_), .val (.int ((p0_ &&& (2147483647 : Int32)) % (9 : Int32))), .val (.ref b3), .val .null, .val (.ref b17), .val (.int (0 : Int32)), .val (.int (0 : Int32))] [(.int (1 : Int32))])) _
                refine XS.goto X63.here hx rfl (pc0 := 138) (pc' := 142) rfl (hb hby at_138) (by decide) (by decide) ?_
                exact kt
              obtain ⟨fs, hr, hrun, hended, hW, hsame⟩ := X63.leave (v := some (.int (1 : Int32))) (fun h => by rw [Bd.returns] at h; cases h)
              refine ⟨_, _, pre65 _ (retN X63 hx (t := .boolean) Bd.returns (by simp) (hb hby at_142) hr), hrun, hended, _, _, rfl, ?_, ⟨_, rfl⟩, hW, hsame.mono (by decide) (by decide)⟩
              show QLaw Z p0_ p1_ p2_ p3_ p4_ w_COMPACT_STRINGS w_FLOAT w_LONG w_INT w_REFERENCE w_DOUBLE h0 n0 _ T63.heap _
              rw [e63]
              exact ⟨rfl, N58⟩
            · obtain ⟨T67, X67, e67, st67⟩ := getS2 X57 hx hZ hown (host := "") (Or.inl (hw _ (List.mem_of_getElem? (i := 62) rfl))) Via.refl e57' (P3.ext f33.2) (g := (mkF m 103 #[.val (.int p0_), .val (.int p1_), .val (.int p2_), .val (.int p3_), .val (.int p4_), .val (.int ((p0_ &&& (2147483647 : Int32)) % (9 : Int32))), .val (.ref b3), .val .null, .val (.ref b17), .val (.int (0 : Int32)), .unset] [(.ref w_DOUBLE)])) rfl (hb hby at_103)
              have ne68 : w_DOUBLE ≠ w_REFERENCE := Fld.ne P12 P13 (fun q => absurd (Value.int.inj q) (by decide))
              have pre69 : ∀ t, Steps p.tables e below (T67.setTop (mkF m 142 #[.val (.int p0_), .val (.int p1_), .val (.int p2_), .val (.int p3_), .val (.int p4_), .val (.int ((p0_ &&& (2147483647 : Int32)) % (9 : Int32))), .val (.ref b3), .val .null, .val (.ref b17), .val (.int (0 : Int32)), .val (.int (0 : Int32))] [(.int (1 : Int32))])) t → Steps p.tables e below (s₁.setTop (entryFrame m #[(.int p0_), (.int p1_), (.int p2_), (.int p3_), (.int p4_)] maxLocals)) t := by
                intro t kt
                refine pre53 t ?_
                show Steps p.tables e below (T32.setTop (mkF m 95 #[.val (.int p0_), .val (.int p1_), .val (.int p2_), .val (.int p3_), .val (.int p4_), .val (.int ((p0_ &&& (2147483647 : Int32)) % (9 : Int32))), .val (.ref b3), .val .null, .val (.ref b17), .val (.int (0 : Int32)), .unset] [(.int (8 : Int32)), (.int ((p0_ &&& (2147483647 : Int32)) % (9 : Int32)))])) _
                refine XS.icmpNo X32.here hx rfl (hb hby at_95) rfl (flt hc54).2.2.1 ?_
                show Steps p.tables e below (T32.setTop (mkF m 98 #[.val (.int p0_), .val (.int p1_), .val (.int p2_), .val (.int p3_), .val (.int p4_), .val (.int ((p0_ &&& (2147483647 : Int32)) % (9 : Int32))), .val (.ref b3), .val .null, .val (.ref b17), .val (.int (0 : Int32)), .unset] [])) _
                refine XS.aload X32.here hx rfl (hb hby at_98) rfl rfl ?_
                show Steps p.tables e below (T32.setTop (mkF m 100 #[.val (.int p0_), .val (.int p1_), .val (.int p2_), .val (.int p3_), .val (.int p4_), .val (.int ((p0_ &&& (2147483647 : Int32)) % (9 : Int32))), .val (.ref b3), .val .null, .val (.ref b17), .val (.int (0 : Int32)), .unset] [(.ref b17)])) _
                refine st57.trans ?_
                show Steps p.tables e below (T57.setTop (mkF m 103 #[.val (.int p0_), .val (.int p1_), .val (.int p2_), .val (.int p3_), .val (.int p4_), .val (.int ((p0_ &&& (2147483647 : Int32)) % (9 : Int32))), .val (.ref b3), .val .null, .val (.ref b17), .val (.int (0 : Int32)), .unset] [(.ref w_DOUBLE)])) _
                refine st67 _ ?_
                show Steps p.tables e below (T67.setTop (mkF m 106 #[.val (.int p0_), .val (.int p1_), .val (.int p2_), .val (.int p3_), .val (.int p4_), .val (.int ((p0_ &&& (2147483647 : Int32)) % (9 : Int32))), .val (.ref b3), .val .null, .val (.ref b17), .val (.int (0 : Int32)), .unset] [(.ref w_REFERENCE), (.ref w_DOUBLE)])) _
                refine Jvm.RoadKit.acmp (g := (mkF m 106 #[.val (.int p0_), .val (.int p1_), .val (.int p2_), .val (.int p3_), .val (.int p4_), .val (.int ((p0_ &&& (2147483647 : Int32)) % (9 : Int32))), .val (.ref b3), .val .null, .val (.ref b17), .val (.int (0 : Int32)), .unset] [(.ref w_REFERENCE), (.ref w_DOUBLE)])) X67 hx rfl rfl rfl (pc0 := 106) (pc' := 121) (same := false) rfl (hb hby at_106) rfl (decide_eq_false fun q => ne68 (Value.ref.inj q)) (by decide) (by decide) ?_
                show Steps p.tables e below (T67.setTop (mkF m 121 #[.val (.int p0_), .val (.int p1_), .val (.int p2_), .val (.int p3_), .val (.int p4_), .val (.int ((p0_ &&& (2147483647 : Int32)) % (9 : Int32))), .val (.ref b3), .val .null, .val (.ref b17), .val (.int (0 : Int32)), .unset] [])) _
                refine XS.iconst X67.here hx rfl (hb hby at_121) ?_
                show Steps p.tables e below (T67.setTop (mkF m 122 #[.val (.int p0_), .val (.int p1_), .val (.int p2_), .val (.int p3_), .val (.int p4_), .val (.int ((p0_ &&& (2147483647 : Int32)) % (9 : Int32))), .val (.ref b3), .val .null, .val (.ref b17), .val (.int (0 : Int32)), .unset] [(.int (0 : Int32))])) _
                refine XS.istore X67.here hx rfl (hb hby at_122) rfl (l' := #[.val (.int p0_), .val (.int p1_), .val (.int p2_), .val (.int p3_), .val (.int p4_), .val (.int ((p0_ &&& (2147483647 : Int32)) % (9 : Int32))), .val (.ref b3), .val .null, .val (.ref b17), .val (.int (0 : Int32)), .val (.int (0 : Int32))]) rfl ?_
                show Steps p.tables e below (T67.setTop (mkF m 124 #[.val (.int p0_), .val (.int p1_), .val (.int p2_), .val (.int p3_), .val (.int p4_), .val (.int ((p0_ &&& (2147483647 : Int32)) % (9 : Int32))), .val (.ref b3), .val .null, .val (.ref b17), .val (.int (0 : Int32)), .val (.int (0 : Int32))] [])) _
                refine XS.goto X67.here hx rfl (pc0 := 124) (pc' := 130) rfl (hb hby at_124) (by decide) (by decide) ?_
                show Steps p.tables e below (T67.setTop (mkF m 130 #[.val (.int p0_), .val (.int p1_), .val (.int p2_), .val (.int p3_), .val (.int p4_), .val (.int ((p0_ &&& (2147483647 : Int32)) % (9 : Int32))), .val (.ref b3), .val .null, .val (.ref b17), .val (.int (0 : Int32)), .val (.int (0 : Int32))] [])) _
                refine XS.iload X67.here hx rfl (hb hby at_130) rfl ?_
                show Steps p.tables e below (T67.setTop (mkF m 132 #[.val (.int p0_), .val (.int p1_), .val (.int p2_), .val (.int p3_), .val (.int p4_), .val (.int ((p0_ &&& (2147483647 : Int32)) % (9 : Int32))), .val (.ref b3), .val .null, .val (.ref b17), .val (.int (0 : Int32)), .val (.int (0 : Int32))] [(.int (0 : Int32))])) _
                refine XS.iload X67.here hx rfl (hb hby at_132) rfl ?_
                show Steps p.tables e below (T67.setTop (mkF m 134 #[.val (.int p0_), .val (.int p1_), .val (.int p2_), .val (.int p3_), .val (.int p4_), .val (.int ((p0_ &&& (2147483647 : Int32)) % (9 : Int32))), .val (.ref b3), .val .null, .val (.ref b17), .val (.int (0 : Int32)), .val (.int (0 : Int32))] [(.int (0 : Int32)), (.int (0 : Int32))])) _
                refine XS.icmpNo X67.here hx rfl (hb hby at_134) rfl (teq (by decide : (0 : Int32) = (0 : Int32))).2 ?_
                show Steps p.tables e below (T67.setTop (mkF m 137 #[.val (.int p0_), .val (.int p1_), .val (.int p2_), .val (.int p3_), .val (.int p4_), .val (.int ((p0_ &&& (2147483647 : Int32)) % (9 : Int32))), .val (.ref b3), .val .null, .val (.ref b17), .val (.int (0 : Int32)), .val (.int (0 : Int32))] [])) _
                refine XS.iconst X67.here hx rfl (hb hby at_137) ?_
                show Steps p.tables e below (T67.setTop (mkF m 138 #[.val (.int p0_), .val (.int p1_), .val (.int p2_), .val (.int p3_), .val (.int p4_), .val (.int ((p0_ &&& (2147483647 : Int32)) % (9 : Int32))), .val (.ref b3), .val .null, .val (.ref b17), .val (.int (0 : Int32)), .val (.int (0 : Int32))] [(.int (1 : Int32))])) _
                refine XS.goto X67.here hx rfl (pc0 := 138) (pc' := 142) rfl (hb hby at_138) (by decide) (by decide) ?_
                exact kt
              obtain ⟨fs, hr, hrun, hended, hW, hsame⟩ := X67.leave (v := some (.int (1 : Int32))) (fun h => by rw [Bd.returns] at h; cases h)
              refine ⟨_, _, pre69 _ (retN X67 hx (t := .boolean) Bd.returns (by simp) (hb hby at_142) hr), hrun, hended, _, _, rfl, ?_, ⟨_, rfl⟩, hW, hsame.mono (by decide) (by decide)⟩
              show QLaw Z p0_ p1_ p2_ p3_ p4_ w_COMPACT_STRINGS w_FLOAT w_LONG w_INT w_REFERENCE w_DOUBLE h0 n0 _ T67.heap _
              rw [e67]
              exact ⟨rfl, N58⟩
            · obtain ⟨T71, X71, e71, st71⟩ := getS2 X57 hx hZ hown (host := "") (Or.inl (hw _ (List.mem_of_getElem? (i := 62) rfl))) Via.refl e57' (P3.ext f33.2) (g := (mkF m 103 #[.val (.int p0_), .val (.int p1_), .val (.int p2_), .val (.int p3_), .val (.int p4_), .val (.int ((p0_ &&& (2147483647 : Int32)) % (9 : Int32))), .val (.ref b3), .val .null, .val (.ref b17), .val (.int (0 : Int32)), .unset] [(.ref w_LONG)])) rfl (hb hby at_103)
              have ne72 : w_LONG ≠ w_REFERENCE := Fld.ne P15 P13 (fun q => absurd (Value.int.inj q) (by decide))
              have pre73 : ∀ t, Steps p.tables e below (T71.setTop (mkF m 142 #[.val (.int p0_), .val (.int p1_), .val (.int p2_), .val (.int p3_), .val (.int p4_), .val (.int ((p0_ &&& (2147483647 : Int32)) % (9 : Int32))), .val (.ref b3), .val .null, .val (.ref b17), .val (.int (0 : Int32)), .val (.int (0 : Int32))] [(.int (1 : Int32))])) t → Steps p.tables e below (s₁.setTop (entryFrame m #[(.int p0_), (.int p1_), (.int p2_), (.int p3_), (.int p4_)] maxLocals)) t := by
                intro t kt
                refine pre53 t ?_
                show Steps p.tables e below (T32.setTop (mkF m 95 #[.val (.int p0_), .val (.int p1_), .val (.int p2_), .val (.int p3_), .val (.int p4_), .val (.int ((p0_ &&& (2147483647 : Int32)) % (9 : Int32))), .val (.ref b3), .val .null, .val (.ref b17), .val (.int (0 : Int32)), .unset] [(.int (8 : Int32)), (.int ((p0_ &&& (2147483647 : Int32)) % (9 : Int32)))])) _
                refine XS.icmpNo X32.here hx rfl (hb hby at_95) rfl (flt hc54).2.2.1 ?_
                show Steps p.tables e below (T32.setTop (mkF m 98 #[.val (.int p0_), .val (.int p1_), .val (.int p2_), .val (.int p3_), .val (.int p4_), .val (.int ((p0_ &&& (2147483647 : Int32)) % (9 : Int32))), .val (.ref b3), .val .null, .val (.ref b17), .val (.int (0 : Int32)), .unset] [])) _
                refine XS.aload X32.here hx rfl (hb hby at_98) rfl rfl ?_
                show Steps p.tables e below (T32.setTop (mkF m 100 #[.val (.int p0_), .val (.int p1_), .val (.int p2_), .val (.int p3_), .val (.int p4_), .val (.int ((p0_ &&& (2147483647 : Int32)) % (9 : Int32))), .val (.ref b3), .val .null, .val (.ref b17), .val (.int (0 : Int32)), .unset] [(.ref b17)])) _
                refine st57.trans ?_
                show Steps p.tables e below (T57.setTop (mkF m 103 #[.val (.int p0_), .val (.int p1_), .val (.int p2_), .val (.int p3_), .val (.int p4_), .val (.int ((p0_ &&& (2147483647 : Int32)) % (9 : Int32))), .val (.ref b3), .val .null, .val (.ref b17), .val (.int (0 : Int32)), .unset] [(.ref w_LONG)])) _
                refine st71 _ ?_
                show Steps p.tables e below (T71.setTop (mkF m 106 #[.val (.int p0_), .val (.int p1_), .val (.int p2_), .val (.int p3_), .val (.int p4_), .val (.int ((p0_ &&& (2147483647 : Int32)) % (9 : Int32))), .val (.ref b3), .val .null, .val (.ref b17), .val (.int (0 : Int32)), .unset] [(.ref w_REFERENCE), (.ref w_LONG)])) _
                refine Jvm.RoadKit.acmp (g := (mkF m 106 #[.val (.int p0_), .val (.int p1_), .val (.int p2_), .val (.int p3_), .val (.int p4_), .val (.int ((p0_ &&& (2147483647 : Int32)) % (9 : Int32))), .val (.ref b3), .val .null, .val (.ref b17), .val (.int (0 : Int32)), .unset] [(.ref w_REFERENCE), (.ref w_LONG)])) X71 hx rfl rfl rfl (pc0 := 106) (pc' := 121) (same := false) rfl (hb hby at_106) rfl (decide_eq_false fun q => ne72 (Value.ref.inj q)) (by decide) (by decide) ?_
                show Steps p.tables e below (T71.setTop (mkF m 121 #[.val (.int p0_), .val (.int p1_), .val (.int p2_), .val (.int p3_), .val (.int p4_), .val (.int ((p0_ &&& (2147483647 : Int32)) % (9 : Int32))), .val (.ref b3), .val .null, .val (.ref b17), .val (.int (0 : Int32)), .unset] [])) _
                refine XS.iconst X71.here hx rfl (hb hby at_121) ?_
                show Steps p.tables e below (T71.setTop (mkF m 122 #[.val (.int p0_), .val (.int p1_), .val (.int p2_), .val (.int p3_), .val (.int p4_), .val (.int ((p0_ &&& (2147483647 : Int32)) % (9 : Int32))), .val (.ref b3), .val .null, .val (.ref b17), .val (.int (0 : Int32)), .unset] [(.int (0 : Int32))])) _
                refine XS.istore X71.here hx rfl (hb hby at_122) rfl (l' := #[.val (.int p0_), .val (.int p1_), .val (.int p2_), .val (.int p3_), .val (.int p4_), .val (.int ((p0_ &&& (2147483647 : Int32)) % (9 : Int32))), .val (.ref b3), .val .null, .val (.ref b17), .val (.int (0 : Int32)), .val (.int (0 : Int32))]) rfl ?_
                show Steps p.tables e below (T71.setTop (mkF m 124 #[.val (.int p0_), .val (.int p1_), .val (.int p2_), .val (.int p3_), .val (.int p4_), .val (.int ((p0_ &&& (2147483647 : Int32)) % (9 : Int32))), .val (.ref b3), .val .null, .val (.ref b17), .val (.int (0 : Int32)), .val (.int (0 : Int32))] [])) _
                refine XS.goto X71.here hx rfl (pc0 := 124) (pc' := 130) rfl (hb hby at_124) (by decide) (by decide) ?_
                show Steps p.tables e below (T71.setTop (mkF m 130 #[.val (.int p0_), .val (.int p1_), .val (.int p2_), .val (.int p3_), .val (.int p4_), .val (.int ((p0_ &&& (2147483647 : Int32)) % (9 : Int32))), .val (.ref b3), .val .null, .val (.ref b17), .val (.int (0 : Int32)), .val (.int (0 : Int32))] [])) _
                refine XS.iload X71.here hx rfl (hb hby at_130) rfl ?_
                show Steps p.tables e below (T71.setTop (mkF m 132 #[.val (.int p0_), .val (.int p1_), .val (.int p2_), .val (.int p3_), .val (.int p4_), .val (.int ((p0_ &&& (2147483647 : Int32)) % (9 : Int32))), .val (.ref b3), .val .null, .val (.ref b17), .val (.int (0 : Int32)), .val (.int (0 : Int32))] [(.int (0 : Int32))])) _
                refine XS.iload X71.here hx rfl (hb hby at_132) rfl ?_
                show Steps p.tables e below (T71.setTop (mkF m 134 #[.val (.int p0_), .val (.int p1_), .val (.int p2_), .val (.int p3_), .val (.int p4_), .val (.int ((p0_ &&& (2147483647 : Int32)) % (9 : Int32))), .val (.ref b3), .val .null, .val (.ref b17), .val (.int (0 : Int32)), .val (.int (0 : Int32))] [(.int (0 : Int32)), (.int (0 : Int32))])) _
                refine XS.icmpNo X71.here hx rfl (hb hby at_134) rfl (teq (by decide : (0 : Int32) = (0 : Int32))).2 ?_
                show Steps p.tables e below (T71.setTop (mkF m 137 #[.val (.int p0_), .val (.int p1_), .val (.int p2_), .val (.int p3_), .val (.int p4_), .val (.int ((p0_ &&& (2147483647 : Int32)) % (9 : Int32))), .val (.ref b3), .val .null, .val (.ref b17), .val (.int (0 : Int32)), .val (.int (0 : Int32))] [])) _
                refine XS.iconst X71.here hx rfl (hb hby at_137) ?_
                show Steps p.tables e below (T71.setTop (mkF m 138 #[.val (.int p0_), .val (.int p1_), .val (.int p2_), .val (.int p3_), .val (.int p4_), .val (.int ((p0_ &&& (2147483647 : Int32)) % (9 : Int32))), .val (.ref b3), .val .null, .val (.ref b17), .val (.int (0 : Int32)), .val (.int (0 : Int32))] [(.int (1 : Int32))])) _
                refine XS.goto X71.here hx rfl (pc0 := 138) (pc' := 142) rfl (hb hby at_138) (by decide) (by decide) ?_
                exact kt
              obtain ⟨fs, hr, hrun, hended, hW, hsame⟩ := X71.leave (v := some (.int (1 : Int32))) (fun h => by rw [Bd.returns] at h; cases h)
              refine ⟨_, _, pre73 _ (retN X71 hx (t := .boolean) Bd.returns (by simp) (hb hby at_142) hr), hrun, hended, _, _, rfl, ?_, ⟨_, rfl⟩, hW, hsame.mono (by decide) (by decide)⟩
              show QLaw Z p0_ p1_ p2_ p3_ p4_ w_COMPACT_STRINGS w_FLOAT w_LONG w_INT w_REFERENCE w_DOUBLE h0 n0 _ T71.heap _
              rw [e71]
              exact ⟨rfl, N58⟩
            · obtain ⟨T75, X75, e75, st75⟩ := getS2 X57 hx hZ hown (host := "") (Or.inl (hw _ (List.mem_of_getElem? (i := 62) rfl))) Via.refl e57' (P3.ext f33.2) (g := (mkF m 103 #[.val (.int p0_), .val (.int p1_), .val (.int p2_), .val (.int p3_), .val (.int p4_), .val (.int ((p0_ &&& (2147483647 : Int32)) % (9 : Int32))), .val (.ref b3), .val .null, .val (.ref b17), .val (.int (0 : Int32)), .unset] [(.ref w_REFERENCE)])) rfl (hb hby at_103)
              obtain ⟨cq76, kq76, q76a, q76b, q76c⟩ := isOf hZ e75 g29_0
              obtain ⟨_, _, ⟨T76, L76, k76, n76⟩, -, X76, ⟨Lc76, hQ76, l76, y76, z76⟩, st76⟩ := X75.virtualBack hx (y := (⟨"com/example/stackweave/stackweave/classfile/VerificationType", "isUninitialized", "()Z"⟩ : MethodName)) (z := (⟨"com/example/stackweave/stackweave/classfile/VerificationType", "isUninitialized", "()Z"⟩ : MethodName)) hown (mvT hZ (hw _ (List.mem_of_getElem? (i := 65) rfl))) (mvT hZ (hw _ (List.mem_of_getElem? (i := 66) rfl))) (notFace_of_selects (args := #[]) (mvT hZ (hw _ (List.mem_of_getElem? (i := 68) rfl)))) (mvT hZ (hw _ (List.mem_of_getElem? (i := 68) rfl))) (mvT hZ (hw _ (List.mem_of_getElem? (i := 67) rfl))) (by decide) (backOf (W := 0) (rmisUninitialized9 l Z a0 hw [] b17 ((p0_ &&& (2147483647 : Int32)) % (9 : Int32)) p4_ h29 n0 f33 hq32_2_0 hq32_2_1 hc50 hc54 hq57_4_0 hq57_4_1 hq57_4_2 hq57_4_3 hq57_4_4 g29_0 g29_1 g29_2 g29_3) hZ (hw _ (List.mem_of_getElem? (i := 69) rfl)) (hw _ (List.mem_of_getElem? (i := 32) rfl)) (by decide) (by decide)) q76a q76c (g := (mkF m 111 #[.val (.int p0_), .val (.int p1_), .val (.int p2_), .val (.int p3_), .val (.int p4_), .val (.int ((p0_ &&& (2147483647 : Int32)) % (9 : Int32))), .val (.ref b3), .val .null, .val (.ref b17), .val (.int (0 : Int32)), .unset] [(.ref b17)])) rfl (by rw [hml]; rfl) (Steps.refl _) (argsL := []) (rest := []) (lenOf pd_2 rfl) rfl (by show 2 * 0 + _ ≤ _; exact Nat.le_of_eq rfl) (hb hby at_111) (fun _ _ => ⟨rfl, e75, (by decide : 2 + 0 ≤ _), (by decide : 5 + 0 ≤ _)⟩)
              dsimp only [Pt.U, Pt.locs, Pt.cells, Pt.slots] at X76 l76 y76 z76 st76 hQ76
              subst l76 y76 z76
              obtain ⟨h76, e76⟩ : ∃ z, T76.heap = z := ⟨_, rfl⟩
              rw [e76] at hQ76
              obtain ⟨rfl, N76q, hh76⟩ := hQ76
              have N77 := Fr.app N58 N76q
              have e76' : T76.heap = h29 := e76.trans hh76
              have pre78 : ∀ t, Steps p.tables e below (T76.setTop (mkF m 142 #[.val (.int p0_), .val (.int p1_), .val (.int p2_), .val (.int p3_), .val (.int p4_), .val (.int ((p0_ &&& (2147483647 : Int32)) % (9 : Int32))), .val (.ref b3), .val .null, .val (.ref b17), .val (.int (0 : Int32)), .val (.int (0 : Int32))] [(.int (1 : Int32))])) t → Steps p.tables e below (s₁.setTop (entryFrame m #[(.int p0_), (.int p1_), (.int p2_), (.int p3_), (.int p4_)] maxLocals)) t := by
                intro t kt
                refine pre53 t ?_
                show Steps p.tables e below (T32.setTop (mkF m 95 #[.val (.int p0_), .val (.int p1_), .val (.int p2_), .val (.int p3_), .val (.int p4_), .val (.int ((p0_ &&& (2147483647 : Int32)) % (9 : Int32))), .val (.ref b3), .val .null, .val (.ref b17), .val (.int (0 : Int32)), .unset] [(.int (8 : Int32)), (.int ((p0_ &&& (2147483647 : Int32)) % (9 : Int32)))])) _
                refine XS.icmpNo X32.here hx rfl (hb hby at_95) rfl (flt hc54).2.2.1 ?_
                show Steps p.tables e below (T32.setTop (mkF m 98 #[.val (.int p0_), .val (.int p1_), .val (.int p2_), .val (.int p3_), .val (.int p4_), .val (.int ((p0_ &&& (2147483647 : Int32)) % (9 : Int32))), .val (.ref b3), .val .null, .val (.ref b17), .val (.int (0 : Int32)), .unset] [])) _
                refine XS.aload X32.here hx rfl (hb hby at_98) rfl rfl ?_
                show Steps p.tables e below (T32.setTop (mkF m 100 #[.val (.int p0_), .val (.int p1_), .val (.int p2_), .val (.int p3_), .val (.int p4_), .val (.int ((p0_ &&& (2147483647 : Int32)) % (9 : Int32))), .val (.ref b3), .val .null, .val (.ref b17), .val (.int (0 : Int32)), .unset] [(.ref b17)])) _
                refine st57.trans ?_
                show Steps p.tables e below (T57.setTop (mkF m 103 #[.val (.int p0_), .val (.int p1_), .val (.int p2_), .val (.int p3_), .val (.int p4_), .val (.int ((p0_ &&& (2147483647 : Int32)) % (9 : Int32))), .val (.ref b3), .val .null, .val (.ref b17), .val (.int (0 : Int32)), .unset] [(.ref w_REFERENCE)])) _
                refine st75 _ ?_
                show Steps p.tables e below (T75.setTop (mkF m 106 #[.val (.int p0_), .val (.int p1_), .val (.int p2_), .val (.int p3_), .val (.int p4_), .val (.int ((p0_ &&& (2147483647 : Int32)) % (9 : Int32))), .val (.ref b3), .val .null, .val (.ref b17), .val (.int (0 : Int32)), .unset] [(.ref w_REFERENCE), (.ref w_REFERENCE)])) _
                refine Jvm.RoadKit.acmp (g := (mkF m 106 #[.val (.int p0_), .val (.int p1_), .val (.int p2_), .val (.int p3_), .val (.int p4_), .val (.int ((p0_ &&& (2147483647 : Int32)) % (9 : Int32))), .val (.ref b3), .val .null, .val (.ref b17), .val (.int (0 : Int32)), .unset] [(.ref w_REFERENCE), (.ref w_REFERENCE)])) X75 hx rfl rfl rfl (pc0 := 106) (pc' := 109) (same := true) rfl (hb hby at_106) rfl (decide_eq_true rfl) (by decide) (by decide) ?_
                show Steps p.tables e below (T75.setTop (mkF m 109 #[.val (.int p0_), .val (.int p1_), .val (.int p2_), .val (.int p3_), .val (.int p4_), .val (.int ((p0_ &&& (2147483647 : Int32)) % (9 : Int32))), .val (.ref b3), .val .null, .val (.ref b17), .val (.int (0 : Int32)), .unset] [])) _
                refine XS.aload X75.here hx rfl (hb hby at_109) rfl rfl ?_
                show Steps p.tables e below (T75.setTop (mkF m 111 #[.val (.int p0_), .val (.int p1_), .val (.int p2_), .val (.int p3_), .val (.int p4_), .val (.int ((p0_ &&& (2147483647 : Int32)) % (9 : Int32))), .val (.ref b3), .val .null, .val (.ref b17), .val (.int (0 : Int32)), .unset] [(.ref b17)])) _
                refine st76.trans ?_
                show Steps p.tables e below (T76.setTop (mkF m 114 #[.val (.int p0_), .val (.int p1_), .val (.int p2_), .val (.int p3_), .val (.int p4_), .val (.int ((p0_ &&& (2147483647 : Int32)) % (9 : Int32))), .val (.ref b3), .val .null, .val (.ref b17), .val (.int (0 : Int32)), .unset] [(.int (1 : Int32))])) _
                refine XS.ifYes X76.here hx rfl (pc0 := 114) (pc' := 121) rfl (hb hby at_114) rfl ((if0 _ _).trans (feq (by decide : ¬ ((1 : Int32) = (0 : Int32)))).2) (by decide) (by decide) ?_
                show Steps p.tables e below (T76.setTop (mkF m 121 #[.val (.int p0_), .val (.int p1_), .val (.int p2_), .val (.int p3_), .val (.int p4_), .val (.int ((p0_ &&& (2147483647 : Int32)) % (9 : Int32))), .val (.ref b3), .val .null, .val (.ref b17), .val (.int (0 : Int32)), .unset] [])) _
                refine XS.iconst X76.here hx rfl (hb hby at_121) ?_
                show Steps p.tables e below (T76.setTop (mkF m 122 #[.val (.int p0_), .val (.int p1_), .val (.int p2_), .val (.int p3_), .val (.int p4_), .val (.int ((p0_ &&& (2147483647 : Int32)) % (9 : Int32))), .val (.ref b3), .val .null, .val (.ref b17), .val (.int (0 : Int32)), .unset] [(.int (0 : Int32))])) _
                refine XS.istore X76.here hx rfl (hb hby at_122) rfl (l' := #[.val (.int p0_), .val (.int p1_), .val (.int p2_), .val (.int p3_), .val (.int p4_), .val (.int ((p0_ &&& (2147483647 : Int32)) % (9 : Int32))), .val (.ref b3), .val .null, .val (.ref b17), .val (.int (0 : Int32)), .val (.int (0 : Int32))]) rfl ?_
                show Steps p.tables e below (T76.setTop (mkF m 124 #[.val (.int p0_), .val (.int p1_), .val (.int p2_), .val (.int p3_), .val (.int p4_), .val (.int ((p0_ &&& (2147483647 : Int32)) % (9 : Int32))), .val (.ref b3), .val .null, .val (.ref b17), .val (.int (0 : Int32)), .val (.int (0 : Int32))] [])) _
                refine XS.goto X76.here hx rfl (pc0 := 124) (pc' := 130) rfl (hb hby at_124) (by decide) (by decide) ?_
                show Steps p.tables e below (T76.setTop (mkF m 130 #[.val (.int p0_), .val (.int p1_), .val (.int p2_), .val (.int p3_), .val (.int p4_), .val (.int ((p0_ &&& (2147483647 : Int32)) % (9 : Int32))), .val (.ref b3), .val .null, .val (.ref b17), .val (.int (0 : Int32)), .val (.int (0 : Int32))] [])) _
                refine XS.iload X76.here hx rfl (hb hby at_130) rfl ?_
                show Steps p.tables e below (T76.setTop (mkF m 132 #[.val (.int p0_), .val (.int p1_), .val (.int p2_), .val (.int p3_), .val (.int p4_), .val (.int ((p0_ &&& (2147483647 : Int32)) % (9 : Int32))), .val (.ref b3), .val .null, .val (.ref b17), .val (.int (0 : Int32)), .val (.int (0 : Int32))] [(.int (0 : Int32))])) _
                refine XS.iload X76.here hx rfl (hb hby at_132) rfl ?_
                show Steps p.tables e below (T76.setTop (mkF m 134 #[.val (.int p0_), .val (.int p1_), .val (.int p2_), .val (.int p3_), .val (.int p4_), .val (.int ((p0_ &&& (2147483647 : Int32)) % (9 : Int32))), .val (.ref b3), .val .null, .val (.ref b17), .val (.int (0 : Int32)), .val (.int (0 : Int32))] [(.int (0 : Int32)), (.int (0 : Int32))])) _
                refine XS.icmpNo X76.here hx rfl (hb hby at_134) rfl (teq (by decide : (0 : Int32) = (0 : Int32))).2 ?_
                show Steps p.tables e below (T76.setTop (mkF m 137 #[.val (.int p0_), .val (.int p1_), .val (.int p2_), .val (.int p3_), .val (.int p4_), .val (.int ((p0_ &&& (2147483647 : Int32)) % (9 : Int32))), .val (.ref b3), .val .null, .val (.ref b17), .val (.int (0 : Int32)), .val (.int (0 : Int32))] [])) _
                refine XS.iconst X76.here hx rfl (hb hby at_137) ?_
                show Steps p.tables e below (T76.setTop (mkF m 138 #[.val (.int p0_), .val (.int p1_), .val (.int p2_), .val (.int p3_), .val (.int p4_), .val (.int ((p0_ &&& (2147483647 : Int32)) % (9 : Int32))), .val (.ref b3), .val .null, .val (.ref b17), .val (.int (0 : Int32)), .val (.int (0 : Int32))] [(.int (1 : Int32))])) _
                refine XS.goto X76.here hx rfl (pc0 := 138) (pc' := 142) rfl (hb hby at_138) (by decide) (by decide) ?_
                exact kt
              obtain ⟨fs, hr, hrun, hended, hW, hsame⟩ := X76.leave (v := some (.int (1 : Int32))) (fun h => by rw [Bd.returns] at h; cases h)
              refine ⟨_, _, pre78 _ (retN X76 hx (t := .boolean) Bd.returns (by simp) (hb hby at_142) hr), hrun, hended, _, _, rfl, ?_, ⟨_, rfl⟩, hW, hsame.mono (by decide) (by decide)⟩
              show QLaw Z p0_ p1_ p2_ p3_ p4_ w_COMPACT_STRINGS w_FLOAT w_LONG w_INT w_REFERENCE w_DOUBLE h0 n0 _ T76.heap _
              rw [e76']
              exact ⟨rfl, N77⟩
            · obtain ⟨T80, X80, e80, st80⟩ := getS2 X57 hx hZ hown (host := "") (Or.inl (hw _ (List.mem_of_getElem? (i := 62) rfl))) Via.refl e57' (P3.ext f33.2) (g := (mkF m 103 #[.val (.int p0_), .val (.int p1_), .val (.int p2_), .val (.int p3_), .val (.int p4_), .val (.int ((p0_ &&& (2147483647 : Int32)) % (9 : Int32))), .val (.ref b3), .val .null, .val (.ref b17), .val (.int (0 : Int32)), .unset] [(.ref w_REFERENCE)])) rfl (hb hby at_103)
              obtain ⟨cq81, kq81, q81a, q81b, q81c⟩ := isOf hZ e80 g29_0
              obtain ⟨_, _, ⟨T81, L81, k81, n81⟩, -, X81, ⟨Lc81, hQ81, l81, y81, z81⟩, st81⟩ := X80.virtualBack hx (y := (⟨"com/example/stackweave/stackweave/classfile/VerificationType", "isUninitialized", "()Z"⟩ : MethodName)) (z := (⟨"com/example/stackweave/stackweave/classfile/VerificationType", "isUninitialized", "()Z"⟩ : MethodName)) hown (mvT hZ (hw _ (List.mem_of_getElem? (i := 65) rfl))) (mvT hZ (hw _ (List.mem_of_getElem? (i := 66) rfl))) (notFace_of_selects (args := #[]) (mvT hZ (hw _ (List.mem_of_getElem? (i := 68) rfl)))) (mvT hZ (hw _ (List.mem_of_getElem? (i := 68) rfl))) (mvT hZ (hw _ (List.mem_of_getElem? (i := 67) rfl))) (by decide) (backOf (W := 0) (rmisUninitialized10 l Z a0 hw [] b17 ((p0_ &&& (2147483647 : Int32)) % (9 : Int32)) p4_ h29 n0 f33 hq32_2_0 hq32_2_1 hc50 hc54 hq57_5_0 hq57_5_1 hq57_5_2 hq57_5_3 hq57_5_4 hq57_5_5 g29_0 g29_1 g29_2 g29_3) hZ (hw _ (List.mem_of_getElem? (i := 69) rfl)) (hw _ (List.mem_of_getElem? (i := 32) rfl)) (by decide) (by decide)) q81a q81c (g := (mkF m 111 #[.val (.int p0_), .val (.int p1_), .val (.int p2_), .val (.int p3_), .val (.int p4_), .val (.int ((p0_ &&& (2147483647 : Int32)) % (9 : Int32))), .val (.ref b3), .val .null, .val (.ref b17), .val (.int (0 : Int32)), .unset] [(.ref b17)])) rfl (by rw [hml]; rfl) (Steps.refl _) (argsL := []) (rest := []) (lenOf pd_2 rfl) rfl (by show 2 * 0 + _ ≤ _; exact Nat.le_of_eq rfl) (hb hby at_111) (fun _ _ => ⟨rfl, e80, (by decide : 2 + 0 ≤ _), (by decide : 5 + 0 ≤ _)⟩)
              dsimp only [Pt.U, Pt.locs, Pt.cells, Pt.slots] at X81 l81 y81 z81 st81 hQ81
              subst l81 y81 z81
              obtain ⟨h81, e81⟩ : ∃ z, T81.heap = z := ⟨_, rfl⟩
              rw [e81] at hQ81
              obtain ⟨rfl, N81q, hh81⟩ := hQ81
              have N82 := Fr.app N58 N81q
              have e81' : T81.heap = h29 := e81.trans hh81
              have pre83 : ∀ t, Steps p.tables e below (T81.setTop (mkF m 142 #[.val (.int p0_), .val (.int p1_), .val (.int p2_), .val (.int p3_), .val (.int p4_), .val (.int ((p0_ &&& (2147483647 : Int32)) % (9 : Int32))), .val (.ref b3), .val .null, .val (.ref b17), .val (.int (0 : Int32)), .val (.int (0 : Int32))] [(.int (1 : Int32))])) t → Steps p.tables e below (s₁.setTop (entryFrame m #[(.int p0_), (.int p1_), (.int p2_), (.int p3_), (.int p4_)] maxLocals)) t := by
                intro t kt
                refine pre53 t ?_
                show Steps p.tables e below (T32.setTop (mkF m 95 #[.val (.int p0_), .val (.int p1_), .val (.int p2_), .val (.int p3_), .val (.int p4_), .val (.int ((p0_ &&& (2147483647 : Int32)) % (9 : Int32))), .val (.ref b3), .val .null, .val (.ref b17), .val (.int (0 : Int32)), .unset] [(.int (8 : Int32)), (.int ((p0_ &&& (2147483647 : Int32)) % (9 : Int32)))])) _
                refine XS.icmpNo X32.here hx rfl (hb hby at_95) rfl (flt hc54).2.2.1 ?_
                show Steps p.tables e below (T32.setTop (mkF m 98 #[.val (.int p0_), .val (.int p1_), .val (.int p2_), .val (.int p3_), .val (.int p4_), .val (.int ((p0_ &&& (2147483647 : Int32)) % (9 : Int32))), .val (.ref b3), .val .null, .val (.ref b17), .val (.int (0 : Int32)), .unset] [])) _
                refine XS.aload X32.here hx rfl (hb hby at_98) rfl rfl ?_
                show Steps p.tables e below (T32.setTop (mkF m 100 #[.val (.int p0_), .val (.int p1_), .val (.int p2_), .val (.int p3_), .val (.int p4_), .val (.int ((p0_ &&& (2147483647 : Int32)) % (9 : Int32))), .val (.ref b3), .val .null, .val (.ref b17), .val (.int (0 : Int32)), .unset] [(.ref b17)])) _
                refine st57.trans ?_
                show Steps p.tables e below (T57.setTop (mkF m 103 #[.val (.int p0_), .val (.int p1_), .val (.int p2_), .val (.int p3_), .val (.int p4_), .val (.int ((p0_ &&& (2147483647 : Int32)) % (9 : Int32))), .val (.ref b3), .val .null, .val (.ref b17), .val (.int (0 : Int32)), .unset] [(.ref w_REFERENCE)])) _
                refine st80 _ ?_
                show Steps p.tables e below (T80.setTop (mkF m 106 #[.val (.int p0_), .val (.int p1_), .val (.int p2_), .val (.int p3_), .val (.int p4_), .val (.int ((p0_ &&& (2147483647 : Int32)) % (9 : Int32))), .val (.ref b3), .val .null, .val (.ref b17), .val (.int (0 : Int32)), .unset] [(.ref w_REFERENCE), (.ref w_REFERENCE)])) _
                refine Jvm.RoadKit.acmp (g := (mkF m 106 #[.val (.int p0_), .val (.int p1_), .val (.int p2_), .val (.int p3_), .val (.int p4_), .val (.int ((p0_ &&& (2147483647 : Int32)) % (9 : Int32))), .val (.ref b3), .val .null, .val (.ref b17), .val (.int (0 : Int32)), .unset] [(.ref w_REFERENCE), (.ref w_REFERENCE)])) X80 hx rfl rfl rfl (pc0 := 106) (pc' := 109) (same := true) rfl (hb hby at_106) rfl (decide_eq_true rfl) (by decide) (by decide) ?_
                show Steps p.tables e below (T80.setTop (mkF m 109 #[.val (.int p0_), .val (.int p1_), .val (.int p2_), .val (.int p3_), .val (.int p4_), .val (.int ((p0_ &&& (2147483647 : Int32)) % (9 : Int32))), .val (.ref b3), .val .null, .val (.ref b17), .val (.int (0 : Int32)), .unset] [])) _
                refine XS.aload X80.here hx rfl (hb hby at_109) rfl rfl ?_
                show Steps p.tables e below (T80.setTop (mkF m 111 #[.val (.int p0_), .val (.int p1_), .val (.int p2_), .val (.int p3_), .val (.int p4_), .val (.int ((p0_ &&& (2147483647 : Int32)) % (9 : Int32))), .val (.ref b3), .val .null, .val (.ref b17), .val (.int (0 : Int32)), .unset] [(.ref b17)])) _
                refine st81.trans ?_
                show Steps p.tables e below (T81.setTop (mkF m 114 #[.val (.int p0_), .val (.int p1_), .val (.int p2_), .val (.int p3_), .val (.int p4_), .val (.int ((p0_ &&& (2147483647 : Int32)) % (9 : Int32))), .val (.ref b3), .val .null, .val (.ref b17), .val (.int (0 : Int32)), .unset] [(.int (1 : Int32))])) _
                refine XS.ifYes X81.here hx rfl (pc0 := 114) (pc' := 121) rfl (hb hby at_114) rfl ((if0 _ _).trans (feq (by decide : ¬ ((1 : Int32) = (0 : Int32)))).2) (by decide) (by decide) ?_
                show Steps p.tables e below (T81.setTop (mkF m 121 #[.val (.int p0_), .val (.int p1_), .val (.int p2_), .val (.int p3_), .val (.int p4_), .val (.int ((p0_ &&& (2147483647 : Int32)) % (9 : Int32))), .val (.ref b3), .val .null, .val (.ref b17), .val (.int (0 : Int32)), .unset] [])) _
                refine XS.iconst X81.here hx rfl (hb hby at_121) ?_
                show Steps p.tables e below (T81.setTop (mkF m 122 #[.val (.int p0_), .val (.int p1_), .val (.int p2_), .val (.int p3_), .val (.int p4_), .val (.int ((p0_ &&& (2147483647 : Int32)) % (9 : Int32))), .val (.ref b3), .val .null, .val (.ref b17), .val (.int (0 : Int32)), .unset] [(.int (0 : Int32))])) _
                refine XS.istore X81.here hx rfl (hb hby at_122) rfl (l' := #[.val (.int p0_), .val (.int p1_), .val (.int p2_), .val (.int p3_), .val (.int p4_), .val (.int ((p0_ &&& (2147483647 : Int32)) % (9 : Int32))), .val (.ref b3), .val .null, .val (.ref b17), .val (.int (0 : Int32)), .val (.int (0 : Int32))]) rfl ?_
                show Steps p.tables e below (T81.setTop (mkF m 124 #[.val (.int p0_), .val (.int p1_), .val (.int p2_), .val (.int p3_), .val (.int p4_), .val (.int ((p0_ &&& (2147483647 : Int32)) % (9 : Int32))), .val (.ref b3), .val .null, .val (.ref b17), .val (.int (0 : Int32)), .val (.int (0 : Int32))] [])) _
                refine XS.goto X81.here hx rfl (pc0 := 124) (pc' := 130) rfl (hb hby at_124) (by decide) (by decide) ?_
                show Steps p.tables e below (T81.setTop (mkF m 130 #[.val (.int p0_), .val (.int p1_), .val (.int p2_), .val (.int p3_), .val (.int p4_), .val (.int ((p0_ &&& (2147483647 : Int32)) % (9 : Int32))), .val (.ref b3), .val .null, .val (.ref b17), .val (.int (0 : Int32)), .val (.int (0 : Int32))] [])) _
                refine XS.iload X81.here hx rfl (hb hby at_130) rfl ?_
                show Steps p.tables e below (T81.setTop (mkF m 132 #[.val (.int p0_), .val (.int p1_), .val (.int p2_), .val (.int p3_), .val (.int p4_), .val (.int ((p0_ &&& (2147483647 : Int32)) % (9 : Int32))), .val (.ref b3), .val .null, .val (.ref b17), .val (.int (0 : Int32)), .val (.int (0 : Int32))] [(.int (0 : Int32))])) _
                refine XS.iload X81.here hx rfl (hb hby at_132) rfl ?_
                show Steps p.tables e below (T81.setTop (mkF m 134 #[.val (.int p0_), .val (.int p1_), .val (.int p2_), .val (.int p3_), .val (.int p4_), .val (.int ((p0_ &&& (2147483647 : Int32)) % (9 : Int32))), .val (.ref b3), .val .null, .val (.ref b17), .val (.int (0 : Int32)), .val (.int (0 : Int32))] [(.int (0 : Int32)), (.int (0 : Int32))])) _
                refine XS.icmpNo X81.here hx rfl (hb hby at_134) rfl (teq (by decide : (0 : Int32) = (0 : Int32))).2 ?_
                show Steps p.tables e below (T81.setTop (mkF m 137 #[.val (.int p0_), .val (.int p1_), .val (.int p2_), .val (.int p3_), .val (.int p4_), .val (.int ((p0_ &&& (2147483647 : Int32)) % (9 : Int32))), .val (.ref b3), .val .null, .val (.ref b17), .val (.int (0 : Int32)), .val (.int (0 : Int32))] [])) _
                refine XS.iconst X81.here hx rfl (hb hby at_137) ?_
                show Steps p.tables e below (T81.setTop (mkF m 138 #[.val (.int p0_), .val (.int p1_), .val (.int p2_), .val (.int p3_), .val (.int p4_), .val (.int ((p0_ &&& (2147483647 : Int32)) % (9 : Int32))), .val (.ref b3), .val .null, .val (.ref b17), .val (.int (0 : Int32)), .val (.int (0 : Int32))] [(.int (1 : Int32))])) _
                refine XS.goto X81.here hx rfl (pc0 := 138) (pc' := 142) rfl (hb hby at_138) (by decide) (by decide) ?_
                exact kt
              obtain ⟨fs, hr, hrun, hended, hW, hsame⟩ := X81.leave (v := some (.int (1 : Int32))) (fun h => by rw [Bd.returns] at h; cases h)
              refine ⟨_, _, pre83 _ (retN X81 hx (t := .boolean) Bd.returns (by simp) (hb hby at_142) hr), hrun, hended, _, _, rfl, ?_, ⟨_, rfl⟩, hW, hsame.mono (by decide) (by decide)⟩
              show QLaw Z p0_ p1_ p2_ p3_ p4_ w_COMPACT_STRINGS w_FLOAT w_LONG w_INT w_REFERENCE w_DOUBLE h0 n0 _ T81.heap _
              rw [e81']
              exact ⟨rfl, N82⟩
    · obtain ⟨T85, h85, X85, e85, E85, A85, D85, -, st85⟩ := newO X11 hx hZ hown (hw _ (List.mem_of_getElem? (i := 1) rfl)) (hw _ (List.mem_of_getElem? (i := 2) rfl)) (hw _ (List.mem_of_getElem? (i := 3) rfl)) e11 (g := (mkF m 48 #[.val (.int p0_), .val (.int p1_), .val (.int p2_), .val (.int p3_), .val (.int p4_), .val (.int ((p0_ &&& (2147483647 : Int32)) % (9 : Int32))), .val (.ref b3), .unset, .unset, .unset, .unset] [])) rfl (hb hby at_48) (by decide) (by decide)
      obtain ⟨b85, g85⟩ : ∃ z, z = h11.size := ⟨_, rfl⟩
      rw [← g85] at A85 D85 st85
      have f86 : Old Z n0 h3 := O0.ext E3
      have f87 : Old Z n0 h7 := f86.wr W7 ge4
      have f88 : Old Z n0 h11 := f87.wr W11 ge4
      have ge89 : n0 ≤ b85 := Nat.le_trans (Nat.le_trans (Nat.le_of_eq f88.1.symm) f88.2.1) (Nat.le_of_eq g85.symm)
      have f90 : Keep h0 h3 [] := K0.ext E3
      have f91 : Keep h0 h7 [] := f90.wr W7 (Or.inr sz5)
      have f92 : Keep h0 h11 [] := f91.wr W11 (Or.inr sz5)
      have sz93 : h0.size ≤ b85 := Nat.le_trans f92.1 (Nat.le_of_eq g85.symm)
      have f94 : Fld Z h85 b85 "java/lang/String" "coder" "B" (.int (0 : Int32)) := D85 (Or.inr (hw _ (List.mem_of_getElem? (i := 27) rfl))) (ty := .byte) (by decide)
      have f95 : Fld Z h85 b85 "java/lang/String" "value" "[B" .null := D85 (Or.inr (hw _ (List.mem_of_getElem? (i := 29) rfl))) (ty := (.array .byte)) (by decide)
      have hn96 : ¬ ((255 : Int32) < (p2_ &&& (255 : Int32))) := own_le255 _
      have hn97 : ¬ ((255 : Int32) < (p3_ &&& (255 : Int32))) := own_le255 _
      have f99 : Arv Z h85 b3 k3 .char (2 : Int32) [(.int (p2_ &&& (255 : Int32))), (.int (p3_ &&& (255 : Int32)))] (.int (0 : Int32)) := f14.ext E85
      have f100 : Exa Z h7 b3 "[C" := Z3.wr W7
      have f101 : Exa Z h11 b3 "[C" := f100.wr W11
      have f102 : Exa Z h85 b3 "[C" := f101.ext E85
      have f103 : Old Z n0 h85 := f88.ext E85
      obtain ⟨_, _, ⟨T98, L98, k98, n98⟩, -, X98, ⟨Lc98, hQ98, l98, y98, z98⟩, st98⟩ := X85.specialBack hx (y := (⟨"java/lang/String", "<init>", "([C)V"⟩ : MethodName)) rfl hown (mvT hZ (hw _ (List.mem_of_getElem? (i := 4) rfl))) (mvT hZ (hw _ (List.mem_of_getElem? (i := 5) rfl))) (mvT hZ (hw _ (List.mem_of_getElem? (i := 6) rfl))) (by decide) (backOf (W := 1) (rminit11 l Z a0 hw [] b85 b3 k3 (p2_ &&& (255 : Int32)) (p3_ &&& (255 : Int32)) w_COMPACT_STRINGS h85 n0 f103 hn96 hn97 A85 f94 f95 f99 f102 hz_0 P11 ge89) hZ (hw _ (List.mem_of_getElem? (i := 6) rfl)) (hw _ (List.mem_of_getElem? (i := 3) rfl)) (by decide) (by decide)) (g := (mkF m 54 #[.val (.int p0_), .val (.int p1_), .val (.int p2_), .val (.int p3_), .val (.int p4_), .val (.int ((p0_ &&& (2147483647 : Int32)) % (9 : Int32))), .val (.ref b3), .unset, .unset, .unset, .unset] [(.ref b3), (.ref b85), (.ref b85)])) rfl (by rw [hml]; rfl) (Steps.refl _) (a := b85) (argsL := [(.ref b3)]) (rest := [(.ref b85)]) (lenOf pd_8 rfl) rfl (by show 2 * 0 + _ ≤ _; exact Nat.le_of_eq rfl) (hb hby at_54) (fun _ _ => ⟨rfl, e85, (by decide : 2 + 1 ≤ _), (by decide : 6 + 2 ≤ _)⟩)
      dsimp only [Pt.U, Pt.locs, Pt.cells, Pt.slots] at X98 l98 y98 z98 st98 hQ98
      subst l98 y98 z98
      obtain ⟨h98, e98⟩ : ∃ z, T98.heap = z := ⟨_, rfl⟩
      rw [e98] at hQ98
      obtain ⟨k1_3_2_98, nnnb1_3_2_98, rfl, N98q, K98, sznnnb1_3_2_98, g98_0, g98_1, g98_2, g98_3, g98_4⟩ := hQ98
      have N104 := Fr.app N12 N98q
      have ge105 : n0 ≤ nnnb1_3_2_98 := Nat.le_trans (Nat.le_trans (Nat.le_of_eq f103.1.symm) f103.2.1) sznnnb1_3_2_98
      have f106 : Keep h0 h85 [] := f92.ext E85
      have sz107 : h0.size ≤ nnnb1_3_2_98 := Nat.le_trans f106.1 sznnnb1_3_2_98
      obtain ⟨T108, h108, X108, e108, E108, A108, D108, -, st108⟩ := newO X98 hx hZ hown (hw _ (List.mem_of_getElem? (i := 30) rfl)) (hw _ (List.mem_of_getElem? (i := 31) rfl)) (hw _ (List.mem_of_getElem? (i := 32) rfl)) e98 (g := (mkF m 63 #[.val (.int p0_), .val (.int p1_), .val (.int p2_), .val (.int p3_), .val (.int p4_), .val (.int ((p0_ &&& (2147483647 : Int32)) % (9 : Int32))), .val (.ref b3), .val (.ref b85), .unset, .unset, .unset] [])) rfl (hb hby at_63) (by decide) (by decide)
      obtain ⟨b108, g108⟩ : ∃ z, z = h98.size := ⟨_, rfl⟩
      rw [← g108] at A108 D108 st108
      have f109 : Old Z n0 h98 := f103.keep K98 (allS (ge89) all0)
      have ge110 : n0 ≤ b108 := Nat.le_trans (Nat.le_trans (Nat.le_of_eq f109.1.symm) f109.2.1) (Nat.le_of_eq g108.symm)
      have f111 : Keep h0 h98 [] := f106.trans K98 (allS (Or.inr sz93) all0)
      have sz112 : h0.size ≤ b108 := Nat.le_trans f111.1 (Nat.le_of_eq g108.symm)
      have f113 : Fld Z h108 b108 "com/example/stackweave/stackweave/classfile/VerificationType" "tag" "I" (.int (0 : Int32)) := D108 (Or.inr (hw _ (List.mem_of_getElem? (i := 43) rfl))) (ty := .int) (by decide)
      have f114 : Fld Z h108 b108 "com/example/stackweave/stackweave/classfile/VerificationType" "className" "Ljava/lang/String;" .null := D108 (Or.inr (hw _ (List.mem_of_getElem? (i := 45) rfl))) (ty := (.object "java/lang/String")) (by decide)
      have f115 : Fld Z h108 b108 "com/example/stackweave/stackweave/classfile/VerificationType" "newOffset" "I" (.int (0 : Int32)) := D108 (Or.inr (hw _ (List.mem_of_getElem? (i := 47) rfl))) (ty := .int) (by decide)
      have f117 : Exa Z h108 b85 "java/lang/String" := g98_0.ext E108
      have f118 : Fld Z h108 b85 "java/lang/String" "coder" "B" (.int (0 : Int32)) := g98_1.ext E108
      have f119 : Fld Z h108 b85 "java/lang/String" "value" "[B" (.ref nnnb1_3_2_98) := g98_2.ext E108
      have f120 : Arv Z h108 nnnb1_3_2_98 k1_3_2_98 .byte (2 : Int32) [(.int ((p2_ &&& (255 : Int32)).toInt8.toInt32)), (.int ((p3_ &&& (255 : Int32)).toInt8.toInt32))] (.int (0 : Int32)) := g98_3.ext E108
      have f121 : Exa Z h108 nnnb1_3_2_98 "[B" := g98_4.ext E108
      have f122 : Old Z n0 h108 := f109.ext E108
      obtain ⟨_, _, ⟨T116, L116, k116, n116⟩, -, X116, ⟨Lc116, hQ116, l116, y116, z116⟩, st116⟩ := X108.specialBack hx (y := (⟨"com/example/stackweave/stackweave/classfile/VerificationType", "<init>", "(ILjava/lang/String;I)V"⟩ : MethodName)) rfl hown (mvT hZ (hw _ (List.mem_of_getElem? (i := 33) rfl))) (mvT hZ (hw _ (List.mem_of_getElem? (i := 34) rfl))) (mvT hZ (hw _ (List.mem_of_getElem? (i := 35) rfl))) (by decide) (backOf (W := 1) (rminit17 l Z a0 hw [] b108 ((p0_ &&& (2147483647 : Int32)) % (9 : Int32)) b85 p4_ nnnb1_3_2_98 k1_3_2_98 ((p2_ &&& (255 : Int32)).toInt8.toInt32) ((p3_ &&& (255 : Int32)).toInt8.toInt32) h108 n0 f122 A108 f113 f114 f115 f117 f118 f119 f120 f121 ge110) hZ (hw _ (List.mem_of_getElem? (i := 35) rfl)) (hw _ (List.mem_of_getElem? (i := 32) rfl)) (by decide) (by decide)) (g := (mkF m 73 #[.val (.int p0_), .val (.int p1_), .val (.int p2_), .val (.int p3_), .val (.int p4_), .val (.int ((p0_ &&& (2147483647 : Int32)) % (9 : Int32))), .val (.ref b3), .val (.ref b85), .unset, .unset, .unset] [(.int p4_), (.ref b85), (.int ((p0_ &&& (2147483647 : Int32)) % (9 : Int32))), (.ref b108), (.ref b108)])) rfl (by rw [hml]; rfl) (Steps.refl _) (a := b108) (argsL := [(.int ((p0_ &&& (2147483647 : Int32)) % (9 : Int32))), (.ref b85), (.int p4_)]) (rest := [(.ref b108)]) (lenOf pd_1 rfl) rfl (by show 2 * 0 + _ ≤ _; exact Nat.le_of_eq rfl) (hb hby at_73) (fun _ _ => ⟨rfl, e108, (by decide : 4 + 0 ≤ _), (by decide : 11 + 0 ≤ _)⟩)
      dsimp only [Pt.U, Pt.locs, Pt.cells, Pt.slots] at X116 l116 y116 z116 st116 hQ116
      subst l116 y116 z116
      obtain ⟨h116, e116⟩ : ∃ z, T116.heap = z := ⟨_, rfl⟩
      rw [e116] at hQ116
      obtain ⟨rfl, N116q, K116, g116_0, g116_1, g116_2, g116_3⟩ := hQ116
      have N123 := Fr.app N104 N116q
      have f125 : Exa Z h116 b85 "java/lang/String" := f117.keep K116
      have ne127 : b85 ≠ b108 := Nat.ne_of_lt (Nat.lt_of_lt_of_le g98_0.lt (Nat.le_of_eq g108.symm))
      have f126 : Fld Z h116 b85 "java/lang/String" "coder" "B" (.int (0 : Int32)) := f118.keep K116 (ninS ne127 nin0)
      have f128 : Fld Z h116 b85 "java/lang/String" "value" "[B" (.ref nnnb1_3_2_98) := f119.keep K116 (ninS ne127 nin0)
      have ne130 : nnnb1_3_2_98 ≠ b108 := Nat.ne_of_lt (Nat.lt_of_lt_of_le g98_3.lt (Nat.le_of_eq g108.symm))
      have f129 : Arv Z h116 nnnb1_3_2_98 k1_3_2_98 .byte (2 : Int32) [(.int ((p2_ &&& (255 : Int32)).toInt8.toInt32)), (.int ((p3_ &&& (255 : Int32)).toInt8.toInt32))] (.int (0 : Int32)) := f120.keep K116 (ninS ne130 nin0)
      have f131 : Exa Z h116 nnnb1_3_2_98 "[B" := f121.keep K116
      have f132 : Old Z n0 h116 := f122.keep K116 (allS (ge110) all0)
      obtain ⟨cq124, kq124, q124a, q124b, q124c⟩ := isOf hZ e116 g116_0
      obtain ⟨_, _, ⟨T124, L124, k124, n124⟩, -, X124, ⟨Lc124, hQ124, l124, y124, z124⟩, st124⟩ := X116.virtualBack hx (y := (⟨"com/example/stackweave/stackweave/classfile/VerificationType", "isReference", "()Z"⟩ : MethodName)) (z := (⟨"com/example/stackweave/stackweave/classfile/VerificationType", "isReference", "()Z"⟩ : MethodName)) hown (mvT hZ (hw _ (List.mem_of_getElem? (i := 48) rfl))) (mvT hZ (hw _ (List.mem_of_getElem? (i := 49) rfl))) (notFace_of_selects (args := #[]) (mvT hZ (hw _ (List.mem_of_getElem? (i := 51) rfl)))) (mvT hZ (hw _ (List.mem_of_getElem? (i := 51) rfl))) (mvT hZ (hw _ (List.mem_of_getElem? (i := 50) rfl))) (by decide) (backOf (W := 0) (rmisReference18 l Z a0 hw [] b108 ((p0_ &&& (2147483647 : Int32)) % (9 : Int32)) b85 p4_ nnnb1_3_2_98 k1_3_2_98 ((p2_ &&& (255 : Int32)).toInt8.toInt32) ((p3_ &&& (255 : Int32)).toInt8.toInt32) h116 n0 f132 g116_0 g116_1 g116_2 g116_3 f125 f126 f128 f129 f131) hZ (hw _ (List.mem_of_getElem? (i := 52) rfl)) (hw _ (List.mem_of_getElem? (i := 32) rfl)) (by decide) (by decide)) q124a q124c (g := (mkF m 80 #[.val (.int p0_), .val (.int p1_), .val (.int p2_), .val (.int p3_), .val (.int p4_), .val (.int ((p0_ &&& (2147483647 : Int32)) % (9 : Int32))), .val (.ref b3), .val (.ref b85), .val (.ref b108), .unset, .unset] [(.ref b108)])) rfl (by rw [hml]; rfl) (Steps.refl _) (argsL := []) (rest := []) (lenOf pd_2 rfl) rfl (by show 2 * 0 + _ ≤ _; exact Nat.le_of_eq rfl) (hb hby at_80) (fun _ _ => ⟨rfl, e116, (by decide : 4 + 0 ≤ _), (by decide : 11 + 0 ≤ _)⟩)
      dsimp only [Pt.U, Pt.locs, Pt.cells, Pt.slots] at X124 l124 y124 z124 st124 hQ124
      subst l124 y124 z124
      obtain ⟨h124, e124⟩ : ∃ z, T124.heap = z := ⟨_, rfl⟩
      rw [e124] at hQ124
      obtain ⟨rr124, rfl, hs124, N124q, hh124⟩ := hQ124
      have N133 := Fr.app N123 N124q
      have e124' : T124.heap = h116 := e124.trans hh124
      rcases hs124 with ⟨rfl, hq124_0_0⟩ | ⟨rfl, hq124_1_0, hq124_1_1⟩ | ⟨rfl, hq124_2_0, hq124_2_1⟩
      · obtain ⟨cq134, kq134, q134a, q134b, q134c⟩ := isOf hZ e124' g116_0
        obtain ⟨_, _, ⟨T134, L134, k134, n134⟩, -, X134, ⟨Lc134, hQ134, l134, y134, z134⟩, st134⟩ := X124.virtualBack hx (y := (⟨"com/example/stackweave/stackweave/classfile/VerificationType", "kind", "()Lcom/example/stackweave/stackweave/classfile/ValueKind;"⟩ : MethodName)) (z := (⟨"com/example/stackweave/stackweave/classfile/VerificationType", "kind", "()Lcom/example/stackweave/stackweave/classfile/ValueKind;"⟩ : MethodName)) hown (mvT hZ (hw _ (List.mem_of_getElem? (i := 54) rfl))) (mvT hZ (hw _ (List.mem_of_getElem? (i := 55) rfl))) (notFace_of_selects (args := #[]) (mvT hZ (hw _ (List.mem_of_getElem? (i := 57) rfl)))) (mvT hZ (hw _ (List.mem_of_getElem? (i := 57) rfl))) (mvT hZ (hw _ (List.mem_of_getElem? (i := 56) rfl))) (by decide) (backOf (W := 0) (rmkind19 l Z a0 hw [] b108 ((p0_ &&& (2147483647 : Int32)) % (9 : Int32)) b85 p4_ nnnb1_3_2_98 k1_3_2_98 ((p2_ &&& (255 : Int32)).toInt8.toInt32) ((p3_ &&& (255 : Int32)).toInt8.toInt32) w_REFERENCE h116 n0 f132 hq124_0_0 g116_0 g116_1 g116_2 g116_3 f125 f126 f128 f129 f131 P4 P13 P3) hZ (hw _ (List.mem_of_getElem? (i := 58) rfl)) (hw _ (List.mem_of_getElem? (i := 32) rfl)) (by decide) (by decide)) q134a q134c (g := (mkF m 100 #[.val (.int p0_), .val (.int p1_), .val (.int p2_), .val (.int p3_), .val (.int p4_), .val (.int ((p0_ &&& (2147483647 : Int32)) % (9 : Int32))), .val (.ref b3), .val (.ref b85), .val (.ref b108), .val (.int (1 : Int32)), .unset] [(.ref b108)])) rfl (by rw [hml]; rfl) (Steps.refl _) (argsL := []) (rest := []) (lenOf pd_3 rfl) rfl (by show 2 * 0 + _ ≤ _; exact Nat.le_of_eq rfl) (hb hby at_100) (fun _ _ => ⟨rfl, e124', (by decide : 4 + 0 ≤ _), (by decide : 11 + 0 ≤ _)⟩)
        dsimp only [Pt.U, Pt.locs, Pt.cells, Pt.slots] at X134 l134 y134 z134 st134 hQ134
        subst l134 y134 z134
        obtain ⟨h134, e134⟩ : ∃ z, T134.heap = z := ⟨_, rfl⟩
        rw [e134] at hQ134
        obtain ⟨rfl, N134q, hh134⟩ := hQ134
        have N135 := Fr.app N133 N134q
        have e134' : T134.heap = h116 := e134.trans hh134
        obtain ⟨T136, X136, e136, st136⟩ := getS2 X134 hx hZ hown (host := "") (Or.inl (hw _ (List.mem_of_getElem? (i := 62) rfl))) Via.refl e134' (P3.ext f132.2) (g := (mkF m 103 #[.val (.int p0_), .val (.int p1_), .val (.int p2_), .val (.int p3_), .val (.int p4_), .val (.int ((p0_ &&& (2147483647 : Int32)) % (9 : Int32))), .val (.ref b3), .val (.ref b85), .val (.ref b108), .val (.int (1 : Int32)), .unset] [(.ref w_REFERENCE)])) rfl (hb hby at_103)
        obtain ⟨cq137, kq137, q137a, q137b, q137c⟩ := isOf hZ e136 g116_0
        obtain ⟨_, _, ⟨T137, L137, k137, n137⟩, -, X137, ⟨Lc137, hQ137, l137, y137, z137⟩, st137⟩ := X136.virtualBack hx (y := (⟨"com/example/stackweave/stackweave/classfile/VerificationType", "isUninitialized", "()Z"⟩ : MethodName)) (z := (⟨"com/example/stackweave/stackweave/classfile/VerificationType", "isUninitialized", "()Z"⟩ : MethodName)) hown (mvT hZ (hw _ (List.mem_of_getElem? (i := 65) rfl))) (mvT hZ (hw _ (List.mem_of_getElem? (i := 66) rfl))) (notFace_of_selects (args := #[]) (mvT hZ (hw _ (List.mem_of_getElem? (i := 68) rfl)))) (mvT hZ (hw _ (List.mem_of_getElem? (i := 68) rfl))) (mvT hZ (hw _ (List.mem_of_getElem? (i := 67) rfl))) (by decide) (backOf (W := 0) (rmisUninitialized20 l Z a0 hw [] b108 ((p0_ &&& (2147483647 : Int32)) % (9 : Int32)) b85 p4_ nnnb1_3_2_98 k1_3_2_98 ((p2_ &&& (255 : Int32)).toInt8.toInt32) ((p3_ &&& (255 : Int32)).toInt8.toInt32) h116 n0 f132 hq124_0_0 g116_0 g116_1 g116_2 g116_3 f125 f126 f128 f129 f131) hZ (hw _ (List.mem_of_getElem? (i := 69) rfl)) (hw _ (List.mem_of_getElem? (i := 32) rfl)) (by decide) (by decide)) q137a q137c (g := (mkF m 111 #[.val (.int p0_), .val (.int p1_), .val (.int p2_), .val (.int p3_), .val (.int p4_), .val (.int ((p0_ &&& (2147483647 : Int32)) % (9 : Int32))), .val (.ref b3), .val (.ref b85), .val (.ref b108), .val (.int (1 : Int32)), .unset] [(.ref b108)])) rfl (by rw [hml]; rfl) (Steps.refl _) (argsL := []) (rest := []) (lenOf pd_2 rfl) rfl (by show 2 * 0 + _ ≤ _; exact Nat.le_of_eq rfl) (hb hby at_111) (fun _ _ => ⟨rfl, e136, (by decide : 4 + 0 ≤ _), (by decide : 11 + 0 ≤ _)⟩)
        dsimp only [Pt.U, Pt.locs, Pt.cells, Pt.slots] at X137 l137 y137 z137 st137 hQ137
        subst l137 y137 z137
        obtain ⟨h137, e137⟩ : ∃ z, T137.heap = z := ⟨_, rfl⟩
        rw [e137] at hQ137
        obtain ⟨rfl, N137q, hh137⟩ := hQ137
        have N138 := Fr.app N135 N137q
        have e137' : T137.heap = h116 := e137.trans hh137
        have pre139 : ∀ t, Steps p.tables e below (T137.setTop (mkF m 142 #[.val (.int p0_), .val (.int p1_), .val (.int p2_), .val (.int p3_), .val (.int p4_), .val (.int ((p0_ &&& (2147483647 : Int32)) % (9 : Int32))), .val (.ref b3), .val (.ref b85), .val (.ref b108), .val (.int (1 : Int32)), .val (.int (1 : Int32))] [(.int (1 : Int32))])) t → Steps p.tables e below (s₁.setTop (entryFrame m #[(.int p0_), (.int p1_), (.int p2_), (.int p3_), (.int p4_)] maxLocals)) t := by
          intro t kt
          refine pre15 t ?_
          show Steps p.tables e below (T11.setTop (mkF m 45 #[.val (.int p0_), .val (.int p1_), .val (.int p2_), .val (.int p3_), .val (.int p4_), .val (.int ((p0_ &&& (2147483647 : Int32)) % (9 : Int32))), .val (.ref b3), .unset, .unset, .unset, .unset] [(.int (p1_ &&& (2 : Int32)))])) _
          refine XS.ifNo X11.here hx rfl (hb hby at_45) rfl ((if0 _ _).trans (feq hc16).1) ?_
          show Steps p.tables e below (T11.setTop (mkF m 48 #[.val (.int p0_), .val (.int p1_), .val (.int p2_), .val (.int p3_), .val (.int p4_), .val (.int ((p0_ &&& (2147483647 : Int32)) % (9 : Int32))), .val (.ref b3), .unset, .unset, .unset, .unset] [])) _
          refine st85 _ ?_
          show Steps p.tables e below (T85.setTop (mkF m 51 #[.val (.int p0_), .val (.int p1_), .val (.int p2_), .val (.int p3_), .val (.int p4_), .val (.int ((p0_ &&& (2147483647 : Int32)) % (9 : Int32))), .val (.ref b3), .unset, .unset, .unset, .unset] [(.ref b85)])) _
          refine XS.dup X85.here hx rfl (hb hby at_51) rfl rfl ?_
          show Steps p.tables e below (T85.setTop (mkF m 52 #[.val (.int p0_), .val (.int p1_), .val (.int p2_), .val (.int p3_), .val (.int p4_), .val (.int ((p0_ &&& (2147483647 : Int32)) % (9 : Int32))), .val (.ref b3), .unset, .unset, .unset, .unset] [(.ref b85), (.ref b85)])) _
          refine XS.aload X85.here hx rfl (hb hby at_52) rfl rfl ?_
          show Steps p.tables e below (T85.setTop (mkF m 54 #[.val (.int p0_), .val (.int p1_), .val (.int p2_), .val (.int p3_), .val (.int p4_), .val (.int ((p0_ &&& (2147483647 : Int32)) % (9 : Int32))), .val (.ref b3), .unset, .unset, .unset, .unset] [(.ref b3), (.ref b85), (.ref b85)])) _
          refine st98.trans ?_
          show Steps p.tables e below (T98.setTop (mkF m 57 #[.val (.int p0_), .val (.int p1_), .val (.int p2_), .val (.int p3_), .val (.int p4_), .val (.int ((p0_ &&& (2147483647 : Int32)) % (9 : Int32))), .val (.ref b3), .unset, .unset, .unset, .unset] [(.ref b85)])) _
          refine XS.goto X98.here hx rfl (pc0 := 57) (pc' := 61) rfl (hb hby at_57) (by decide) (by decide) ?_
          show Steps p.tables e below (T98.setTop (mkF m 61 #[.val (.int p0_), .val (.int p1_), .val (.int p2_), .val (.int p3_), .val (.int p4_), .val (.int ((p0_ &&& (2147483647 : Int32)) % (9 : Int32))), .val (.ref b3), .unset, .unset, .unset, .unset] [(.ref b85)])) _
          refine XS.astore X98.here hx rfl (hb hby at_61) rfl rfl (l' := #[.val (.int p0_), .val (.int p1_), .val (.int p2_), .val (.int p3_), .val (.int p4_), .val (.int ((p0_ &&& (2147483647 : Int32)) % (9 : Int32))), .val (.ref b3), .val (.ref b85), .unset, .unset, .unset]) rfl ?_
          show Steps p.tables e below (T98.setTop (mkF m 63 #[.val (.int p0_), .val (.int p1_), .val (.int p2_), .val (.int p3_), .val (.int p4_), .val (.int ((p0_ &&& (2147483647 : Int32)) % (9 : Int32))), .val (.ref b3), .val (.ref b85), .unset, .unset, .unset] [])) _
          refine st108 _ ?_
          show Steps p.tables e below (T108.setTop (mkF m 66 #[.val (.int p0_), .val (.int p1_), .val (.int p2_), .val (.int p3_), .val (.int p4_), .val (.int ((p0_ &&& (2147483647 : Int32)) % (9 : Int32))), .val (.ref b3), .val (.ref b85), .unset, .unset, .unset] [(.ref b108)])) _
          refine XS.dup X108.here hx rfl (hb hby at_66) rfl rfl ?_
          show Steps p.tables e below (T108.setTop (mkF m 67 #[.val (.int p0_), .val (.int p1_), .val (.int p2_), .val (.int p3_), .val (.int p4_), .val (.int ((p0_ &&& (2147483647 : Int32)) % (9 : Int32))), .val (.ref b3), .val (.ref b85), .unset, .unset, .unset] [(.ref b108), (.ref b108)])) _
          refine XS.iload X108.here hx rfl (hb hby at_67) rfl ?_
          show Steps p.tables e below (T108.setTop (mkF m 69 #[.val (.int p0_), .val (.int p1_), .val (.int p2_), .val (.int p3_), .val (.int p4_), .val (.int ((p0_ &&& (2147483647 : Int32)) % (9 : Int32))), .val (.ref b3), .val (.ref b85), .unset, .unset, .unset] [(.int ((p0_ &&& (2147483647 : Int32)) % (9 : Int32))), (.ref b108), (.ref b108)])) _
          refine XS.aload X108.here hx rfl (hb hby at_69) rfl rfl ?_
          show Steps p.tables e below (T108.setTop (mkF m 71 #[.val (.int p0_), .val (.int p1_), .val (.int p2_), .val (.int p3_), .val (.int p4_), .val (.int ((p0_ &&& (2147483647 : Int32)) % (9 : Int32))), .val (.ref b3), .val (.ref b85), .unset, .unset, .unset] [(.ref b85), (.int ((p0_ &&& (2147483647 : Int32)) % (9 : Int32))), (.ref b108), (.ref b108)])) _
          refine XS.iload X108.here hx rfl (hb hby at_71) rfl ?_
          show Steps p.tables e below (T108.setTop (mkF m 73 #[.val (.int p0_), .val (.int p1_), .val (.int p2_), .val (.int p3_), .val (.int p4_), .val (.int ((p0_ &&& (2147483647 : Int32)) % (9 : Int32))), .val (.ref b3), .val (.ref b85), .unset, .unset, .unset] [(.int p4_), (.ref b85), (.int ((p0_ &&& (2147483647 : Int32)) % (9 : Int32))), (.ref b108), (.ref b108)])) _
          refine st116.trans ?_
          show Steps p.tables e below (T116.setTop (mkF m 76 #[.val (.int p0_), .val (.int p1_), .val (.int p2_), .val (.int p3_), .val (.int p4_), .val (.int ((p0_ &&& (2147483647 : Int32)) % (9 : Int32))), .val (.ref b3), .val (.ref b85), .unset, .unset, .unset] [(.ref b108)])) _
          refine XS.astore X116.here hx rfl (hb hby at_76) rfl rfl (l' := #[.val (.int p0_), .val (.int p1_), .val (.int p2_), .val (.int p3_), .val (.int p4_), .val (.int ((p0_ &&& (2147483647 : Int32)) % (9 : Int32))), .val (.ref b3), .val (.ref b85), .val (.ref b108), .unset, .unset]) rfl ?_
          show Steps p.tables e below (T116.setTop (mkF m 78 #[.val (.int p0_), .val (.int p1_), .val (.int p2_), .val (.int p3_), .val (.int p4_), .val (.int ((p0_ &&& (2147483647 : Int32)) % (9 : Int32))), .val (.ref b3), .val (.ref b85), .val (.ref b108), .unset, .unset] [])) _
          refine XS.aload X116.here hx rfl (hb hby at_78) rfl rfl ?_
          show Steps p.tables e below (T116.setTop (mkF m 80 #[.val (.int p0_), .val (.int p1_), .val (.int p2_), .val (.int p3_), .val (.int p4_), .val (.int ((p0_ &&& (2147483647 : Int32)) % (9 : Int32))), .val (.ref b3), .val (.ref b85), .val (.ref b108), .unset, .unset] [(.ref b108)])) _
          refine st124.trans ?_
          show Steps p.tables e below (T124.setTop (mkF m 83 #[.val (.int p0_), .val (.int p1_), .val (.int p2_), .val (.int p3_), .val (.int p4_), .val (.int ((p0_ &&& (2147483647 : Int32)) % (9 : Int32))), .val (.ref b3), .val (.ref b85), .val (.ref b108), .unset, .unset] [(.int (1 : Int32))])) _
          refine XS.istore X124.here hx rfl (hb hby at_83) rfl (l' := #[.val (.int p0_), .val (.int p1_), .val (.int p2_), .val (.int p3_), .val (.int p4_), .val (.int ((p0_ &&& (2147483647 : Int32)) % (9 : Int32))), .val (.ref b3), .val (.ref b85), .val (.ref b108), .val (.int (1 : Int32)), .unset]) rfl ?_
          show Steps p.tables e below (T124.setTop (mkF m 85 #[.val (.int p0_), .val (.int p1_), .val (.int p2_), .val (.int p3_), .val (.int p4_), .val (.int ((p0_ &&& (2147483647 : Int32)) % (9 : Int32))), .val (.ref b3), .val (.ref b85), .val (.ref b108), .val (.int (1 : Int32)), .unset] [])) _
          refine XS.iload X124.here hx rfl (hb hby at_85) rfl ?_
          show Steps p.tables e below (T124.setTop (mkF m 87 #[.val (.int p0_), .val (.int p1_), .val (.int p2_), .val (.int p3_), .val (.int p4_), .val (.int ((p0_ &&& (2147483647 : Int32)) % (9 : Int32))), .val (.ref b3), .val (.ref b85), .val (.ref b108), .val (.int (1 : Int32)), .unset] [(.int ((p0_ &&& (2147483647 : Int32)) % (9 : Int32)))])) _
          refine XS.iconst X124.here hx rfl (hb hby at_87) ?_
          show Steps p.tables e below (T124.setTop (mkF m 88 #[.val (.int p0_), .val (.int p1_), .val (.int p2_), .val (.int p3_), .val (.int p4_), .val (.int ((p0_ &&& (2147483647 : Int32)) % (9 : Int32))), .val (.ref b3), .val (.ref b85), .val (.ref b108), .val (.int (1 : Int32)), .unset] [(.int (1 : Int32)), (.int ((p0_ &&& (2147483647 : Int32)) % (9 : Int32)))])) _
          refine XS.icmpNo X124.here hx rfl (hb hby at_88) rfl (flt (by intro hz; have lt_0 : ((1 : Int32)).toInt = 1 := rfl; have lt_1 : ((2147483647 : Int32)).toInt = 2147483647 := rfl; have lt_2 : ((7 : Int32)).toInt = 7 := rfl; have lt_3 : ((9 : Int32)).toInt = 9 := rfl; simp only [Int32.lt_iff_toInt_lt, Int64.lt_iff_toInt_lt, ← Int32.toInt_inj, ← Int64.toInt_inj] at hz hq124_0_0; omega)).1 ?_
          show Steps p.tables e below (T124.setTop (mkF m 91 #[.val (.int p0_), .val (.int p1_), .val (.int p2_), .val (.int p3_), .val (.int p4_), .val (.int ((p0_ &&& (2147483647 : Int32)) % (9 : Int32))), .val (.ref b3), .val (.ref b85), .val (.ref b108), .val (.int (1 : Int32)), .unset] [])) _
          refine XS.iload X124.here hx rfl (hb hby at_91) rfl ?_
          show Steps p.tables e below (T124.setTop (mkF m 93 #[.val (.int p0_), .val (.int p1_), .val (.int p2_), .val (.int p3_), .val (.int p4_), .val (.int ((p0_ &&& (2147483647 : Int32)) % (9 : Int32))), .val (.ref b3), .val (.ref b85), .val (.ref b108), .val (.int (1 : Int32)), .unset] [(.int ((p0_ &&& (2147483647 : Int32)) % (9 : Int32)))])) _
          refine XS.bipush X124.here hx rfl (hb hby at_93) ?_
          show Steps p.tables e below (T124.setTop (mkF m 95 #[.val (.int p0_), .val (.int p1_), .val (.int p2_), .val (.int p3_), .val (.int p4_), .val (.int ((p0_ &&& (2147483647 : Int32)) % (9 : Int32))), .val (.ref b3), .val (.ref b85), .val (.ref b108), .val (.int (1 : Int32)), .unset] [(.int (8 : Int32)), (.int ((p0_ &&& (2147483647 : Int32)) % (9 : Int32)))])) _
          refine XS.icmpNo X124.here hx rfl (hb hby at_95) rfl (flt (by intro hz; have lt_0 : ((2147483647 : Int32)).toInt = 2147483647 := rfl; have lt_1 : ((7 : Int32)).toInt = 7 := rfl; have lt_2 : ((8 : Int32)).toInt = 8 := rfl; have lt_3 : ((9 : Int32)).toInt = 9 := rfl; simp only [Int32.lt_iff_toInt_lt, Int64.lt_iff_toInt_lt, ← Int32.toInt_inj, ← Int64.toInt_inj] at hz hq124_0_0; omega)).2.2.1 ?_
          show Steps p.tables e below (T124.setTop (mkF m 98 #[.val (.int p0_), .val (.int p1_), .val (.int p2_), .val (.int p3_), .val (.int p4_), .val (.int ((p0_ &&& (2147483647 : Int32)) % (9 : Int32))), .val (.ref b3), .val (.ref b85), .val (.ref b108), .val (.int (1 : Int32)), .unset] [])) _
          refine XS.aload X124.here hx rfl (hb hby at_98) rfl rfl ?_
          show Steps p.tables e below (T124.setTop (mkF m 100 #[.val (.int p0_), .val (.int p1_), .val (.int p2_), .val (.int p3_), .val (.int p4_), .val (.int ((p0_ &&& (2147483647 : Int32)) % (9 : Int32))), .val (.ref b3), .val (.ref b85), .val (.ref b108), .val (.int (1 : Int32)), .unset] [(.ref b108)])) _
          refine st134.trans ?_
          show Steps p.tables e below (T134.setTop (mkF m 103 #[.val (.int p0_), .val (.int p1_), .val (.int p2_), .val (.int p3_), .val (.int p4_), .val (.int ((p0_ &&& (2147483647 : Int32)) % (9 : Int32))), .val (.ref b3), .val (.ref b85), .val (.ref b108), .val (.int (1 : Int32)), .unset] [(.ref w_REFERENCE)])) _
          refine st136 _ ?_
          show Steps p.tables e below (T136.setTop (mkF m 106 #[.val (.int p0_), .val (.int p1_), .val (.int p2_), .val (.int p3_), .val (.int p4_), .val (.int ((p0_ &&& (2147483647 : Int32)) % (9 : Int32))), .val (.ref b3), .val (.ref b85), .val (.ref b108), .val (.int (1 : Int32)), .unset] [(.ref w_REFERENCE), (.ref w_REFERENCE)])) _
          refine Jvm.RoadKit.acmp (g := (mkF m 106 #[.val (.int p0_), .val (.int p1_), .val (.int p2_), .val (.int p3_), .val (.int p4_), .val (.int ((p0_ &&& (2147483647 : Int32)) % (9 : Int32))), .val (.ref b3), .val (.ref b85), .val (.ref b108), .val (.int (1 : Int32)), .unset] [(.ref w_REFERENCE), (.ref w_REFERENCE)])) X136 hx rfl rfl rfl (pc0 := 106) (pc' := 109) (same := true) rfl (hb hby at_106) rfl (decide_eq_true rfl) (by decide) (by decide) ?_
          show Steps p.tables e below (T136.setTop (mkF m 109 #[.val (.int p0_), .val (.int p1_), .val (.int p2_), .val (.int p3_), .val (.int p4_), .val (.int ((p0_ &&& (2147483647 : Int32)) % (9 : Int32))), .val (.ref b3), .val (.ref b85), .val (.ref b108), .val (.int (1 : Int32)), .unset] [])) _
          refine XS.aload X136.here hx rfl (hb hby at_109) rfl rfl ?_
          show Steps p.tables e below (T136.setTop (mkF m 111 #[.val (.int p0_), .val (.int p1_), .val (.int p2_), .val (.int p3_), .val (.int p4_), .val (.int ((p0_ &&& (2147483647 : Int32)) % (9 : Int32))), .val (.ref b3), .val (.ref b85), .val (.ref b108), .val (.int (1 : Int32)), .unset] [(.ref b108)])) _
          refine st137.trans ?_
          show Steps p.tables e below (T137.setTop (mkF m 114 #[.val (.int p0_), .val (.int p1_), .val (.int p2_), .val (.int p3_), .val (.int p4_), .val (.int ((p0_ &&& (2147483647 : Int32)) % (9 : Int32))), .val (.ref b3), .val (.ref b85), .val (.ref b108), .val (.int (1 : Int32)), .unset] [(.int (0 : Int32))])) _
          refine XS.ifNo X137.here hx rfl (hb hby at_114) rfl ((if0 _ _).trans (teq (by decide : (0 : Int32) = (0 : Int32))).2) ?_
          show Steps p.tables e below (T137.setTop (mkF m 117 #[.val (.int p0_), .val (.int p1_), .val (.int p2_), .val (.int p3_), .val (.int p4_), .val (.int ((p0_ &&& (2147483647 : Int32)) % (9 : Int32))), .val (.ref b3), .val (.ref b85), .val (.ref b108), .val (.int (1 : Int32)), .unset] [])) _
          refine XS.iconst X137.here hx rfl (hb hby at_117) ?_
          show Steps p.tables e below (T137.setTop (mkF m 118 #[.val (.int p0_), .val (.int p1_), .val (.int p2_), .val (.int p3_), .val (.int p4_), .val (.int ((p0_ &&& (2147483647 : Int32)) % (9 : Int32))), .val (.ref b3), .val (.ref b85), .val (.ref b108), .val (.int (1 : Int32)), .unset] [(.int (1 : Int32))])) _
          refine XS.goto X137.here hx rfl (pc0 := 118) (pc' := 122) rfl (hb hby at_118) (by decide) (by decide) ?_
          show Steps p.tables e below (T137.setTop (mkF m 122 #[.val (.int p0_), .val (.int p1_), .val (.int p2_), .val (.int p3_), .val (.int p4_), .val (.int ((p0_ &&& (2147483647 : Int32)) % (9 : Int32))), .val (.ref b3), .val (.ref b85), .val (.ref b108), .val (.int (1 : Int32)), .unset] [(.int (1 : Int32))])) _
          refine XS.istore X137.here hx rfl (hb hby at_122) rfl (l' := #[.val (.int p0_), .val (.int p1_), .val (.int p2_), .val (.int p3_), .val (.int p4_), .val (.int ((p0_ &&& (2147483647 : Int32)) % (9 : Int32))), .val (.ref b3), .val (.ref b85), .val (.ref b108), .val (.int (1 : Int32)), .val (.int (1 : Int32))]) rfl ?_
          show Steps p.tables e below (T137.setTop (mkF m 124 #[.val (.int p0_), .val (.int p1_), .val (.int p2_), .val (.int p3_), .val (.int p4_), .val (.int ((p0_ &&& (2147483647 : Int32)) % (9 : Int32))), .val (.ref b3), .val (.ref b85), .val (.ref b108), .val (.int (1 : Int32)), .val (.int (1 : Int32))] [])) _
          refine XS.goto X137.here hx rfl (pc0 := 124) (pc' := 130) rfl (hb hby at_124) (by decide) (by decide) ?_
          show Steps p.tables e below (T137.setTop (mkF m 130 #[.val (.int p0_), .val (.int p1_), .val (.int p2_), .val (.int p3_), .val (.int p4_), .val (.int ((p0_ &&& (2147483647 : Int32)) % (9 : Int32))), .val (.ref b3), .val (.ref b85), .val (.ref b108), .val (.int (1 : Int32)), .val (.int (1 : Int32))] [])) _
          refine XS.iload X137.here hx rfl (hb hby at_130) rfl ?_
          show Steps p.tables e below (T137.setTop (mkF m 132 #[.val (.int p0_), .val (.int p1_), .val (.int p2_), .val (.int p3_), .val (.int p4_), .val (.int ((p0_ &&& (2147483647 : Int32)) % (9 : Int32))), .val (.ref b3), .val (.ref b85), .val (.ref b108), .val (.int (1 : Int32)), .val (.int (1 : Int32))] [(.int (1 : Int32))])) _
          refine XS.iload X137.here hx rfl (hb hby at_132) rfl ?_
          show Steps p.tables e below (T137.setTop (mkF m 134 #[.val (.int p0_), .val (.int p1_), .val (.int p2_), .val (.int p3_), .val (.int p4_), .val (.int ((p0_ &&& (2147483647 : Int32)) % (9 : Int32))), .val (.ref b3), .val (.ref b85), .val (.ref b108), .val (.int (1 : Int32)), .val (.int (1 : Int32))] [(.int (1 : Int32)), (.int (1 : Int32))])) _
          refine XS.icmpNo X137.here hx rfl (hb hby at_134) rfl (teq (by decide : (1 : Int32) = (1 : Int32))).2 ?_
          show Steps p.tables e below (T137.setTop (mkF m 137 #[.val (.int p0_), .val (.int p1_), .val (.int p2_), .val (.int p3_), .val (.int p4_), .val (.int ((p0_ &&& (2147483647 : Int32)) % (9 : Int32))), .val (.ref b3), .val (.ref b85), .val (.ref b108), .val (.int (1 : Int32)), .val (.int (1 : Int32))] [])) _
          refine XS.iconst X137.here hx rfl (hb hby at_137) ?_
          show Steps p.tables e below (T137.setTop (mkF m 138 #[.val (.int p0_), .val (.int p1_), .val (.int p2_), .val (.int p3_), .val (.int p4_), .val (.int ((p0_ &&& (2147483647 : Int32)) % (9 : Int32))), .val (.ref b3), .val (.ref b85), .val (.ref b108), .val (.int (1 : Int32)), .val (.int (1 : Int32))] [(.int (1 : Int32))])) _
          refine XS.goto X137.here hx rfl (pc0 := 138) (pc' := 142) rfl (hb hby at_138) (by decide) (by decide) ?_
          exact kt
        obtain ⟨fs, hr, hrun, hended, hW, hsame⟩ := X137.leave (v := some (.int (1 : Int32))) (fun h => by rw [Bd.returns] at h; cases h)
        refine ⟨_, _, pre139 _ (retN X137 hx (t := .boolean) Bd.returns (by simp) (hb hby at_142) hr), hrun, hended, _, _, rfl, ?_, ⟨_, rfl⟩, hW, hsame.mono (by decide) (by decide)⟩
        show QLaw Z p0_ p1_ p2_ p3_ p4_ w_COMPACT_STRINGS w_FLOAT w_LONG w_INT w_REFERENCE w_DOUBLE h0 n0 _ T137.heap _
        rw [e137']
        exact ⟨rfl, N138⟩
      · obtain ⟨cq141, kq141, q141a, q141b, q141c⟩ := isOf hZ e124' g116_0
        obtain ⟨_, _, ⟨T141, L141, k141, n141⟩, -, X141, ⟨Lc141, hQ141, l141, y141, z141⟩, st141⟩ := X124.virtualBack hx (y := (⟨"com/example/stackweave/stackweave/classfile/VerificationType", "kind", "()Lcom/example/stackweave/stackweave/classfile/ValueKind;"⟩ : MethodName)) (z := (⟨"com/example/stackweave/stackweave/classfile/VerificationType", "kind", "()Lcom/example/stackweave/stackweave/classfile/ValueKind;"⟩ : MethodName)) hown (mvT hZ (hw _ (List.mem_of_getElem? (i := 54) rfl))) (mvT hZ (hw _ (List.mem_of_getElem? (i := 55) rfl))) (notFace_of_selects (args := #[]) (mvT hZ (hw _ (List.mem_of_getElem? (i := 57) rfl)))) (mvT hZ (hw _ (List.mem_of_getElem? (i := 57) rfl))) (mvT hZ (hw _ (List.mem_of_getElem? (i := 56) rfl))) (by decide) (backOf (W := 0) (rmkind21 l Z a0 hw [] b108 ((p0_ &&& (2147483647 : Int32)) % (9 : Int32)) b85 p4_ nnnb1_3_2_98 k1_3_2_98 ((p2_ &&& (255 : Int32)).toInt8.toInt32) ((p3_ &&& (255 : Int32)).toInt8.toInt32) w_REFERENCE h116 n0 f132 hq124_1_0 hq124_1_1 g116_0 g116_1 g116_2 g116_3 f125 f126 f128 f129 f131 P4 P13 P3) hZ (hw _ (List.mem_of_getElem? (i := 58) rfl)) (hw _ (List.mem_of_getElem? (i := 32) rfl)) (by decide) (by decide)) q141a q141c (g := (mkF m 100 #[.val (.int p0_), .val (.int p1_), .val (.int p2_), .val (.int p3_), .val (.int p4_), .val (.int ((p0_ &&& (2147483647 : Int32)) % (9 : Int32))), .val (.ref b3), .val (.ref b85), .val (.ref b108), .val (.int (1 : Int32)), .unset] [(.ref b108)])) rfl (by rw [hml]; rfl) (Steps.refl _) (argsL := []) (rest := []) (lenOf pd_3 rfl) rfl (by show 2 * 0 + _ ≤ _; exact Nat.le_of_eq rfl) (hb hby at_100) (fun _ _ => ⟨rfl, e124', (by decide : 4 + 0 ≤ _), (by decide : 11 + 0 ≤ _)⟩)
        dsimp only [Pt.U, Pt.locs, Pt.cells, Pt.slots] at X141 l141 y141 z141 st141 hQ141
        subst l141 y141 z141
        obtain ⟨h141, e141⟩ : ∃ z, T141.heap = z := ⟨_, rfl⟩
        rw [e141] at hQ141
        obtain ⟨rfl, N141q, hh141⟩ := hQ141
        have N142 := Fr.app N133 N141q
        have e141' : T141.heap = h116 := e141.trans hh141
        obtain ⟨T143, X143, e143, st143⟩ := getS2 X141 hx hZ hown (host := "") (Or.inl (hw _ (List.mem_of_getElem? (i := 62) rfl))) Via.refl e141' (P3.ext f132.2) (g := (mkF m 103 #[.val (.int p0_), .val (.int p1_), .val (.int p2_), .val (.int p3_), .val (.int p4_), .val (.int ((p0_ &&& (2147483647 : Int32)) % (9 : Int32))), .val (.ref b3), .val (.ref b85), .val (.ref b108), .val (.int (1 : Int32)), .unset] [(.ref w_REFERENCE)])) rfl (hb hby at_103)
        obtain ⟨cq144, kq144, q144a, q144b, q144c⟩ := isOf hZ e143 g116_0
        obtain ⟨_, _, ⟨T144, L144, k144, n144⟩, -, X144, ⟨Lc144, hQ144, l144, y144, z144⟩, st144⟩ := X143.virtualBack hx (y := (⟨"com/example/stackweave/stackweave/classfile/VerificationType", "isUninitialized", "()Z"⟩ : MethodName)) (z := (⟨"com/example/stackweave/stackweave/classfile/VerificationType", "isUninitialized", "()Z"⟩ : MethodName)) hown (mvT hZ (hw _ (List.mem_of_getElem? (i := 65) rfl))) (mvT hZ (hw _ (List.mem_of_getElem? (i := 66) rfl))) (notFace_of_selects (args := #[]) (mvT hZ (hw _ (List.mem_of_getElem? (i := 68) rfl)))) (mvT hZ (hw _ (List.mem_of_getElem? (i := 68) rfl))) (mvT hZ (hw _ (List.mem_of_getElem? (i := 67) rfl))) (by decide) (backOf (W := 0) (rmisUninitialized22 l Z a0 hw [] b108 ((p0_ &&& (2147483647 : Int32)) % (9 : Int32)) b85 p4_ nnnb1_3_2_98 k1_3_2_98 ((p2_ &&& (255 : Int32)).toInt8.toInt32) ((p3_ &&& (255 : Int32)).toInt8.toInt32) h116 n0 f132 hq124_1_0 hq124_1_1 g116_0 g116_1 g116_2 g116_3 f125 f126 f128 f129 f131) hZ (hw _ (List.mem_of_getElem? (i := 69) rfl)) (hw _ (List.mem_of_getElem? (i := 32) rfl)) (by decide) (by decide)) q144a q144c (g := (mkF m 111 #[.val (.int p0_), .val (.int p1_), .val (.int p2_), .val (.int p3_), .val (.int p4_), .val (.int ((p0_ &&& (2147483647 : Int32)) % (9 : Int32))), .val (.ref b3), .val (.ref b85), .val (.ref b108), .val (.int (1 : Int32)), .unset] [(.ref b108)])) rfl (by rw [hml]; rfl) (Steps.refl _) (argsL := []) (rest := []) (lenOf pd_2 rfl) rfl (by show 2 * 0 + _ ≤ _; exact Nat.le_of_eq rfl) (hb hby at_111) (fun _ _ => ⟨rfl, e143, (by decide : 4 + 0 ≤ _), (by decide : 11 + 0 ≤ _)⟩)
        dsimp only [Pt.U, Pt.locs, Pt.cells, Pt.slots] at X144 l144 y144 z144 st144 hQ144
        subst l144 y144 z144
        obtain ⟨h144, e144⟩ : ∃ z, T144.heap = z := ⟨_, rfl⟩
        rw [e144] at hQ144
        obtain ⟨rfl, N144q, hh144⟩ := hQ144
        have N145 := Fr.app N142 N144q
        have e144' : T144.heap = h116 := e144.trans hh144
        have pre146 : ∀ t, Steps p.tables e below (T144.setTop (mkF m 142 #[.val (.int p0_), .val (.int p1_), .val (.int p2_), .val (.int p3_), .val (.int p4_), .val (.int ((p0_ &&& (2147483647 : Int32)) % (9 : Int32))), .val (.ref b3), .val (.ref b85), .val (.ref b108), .val (.int (1 : Int32)), .val (.int (1 : Int32))] [(.int (1 : Int32))])) t → Steps p.tables e below (s₁.setTop (entryFrame m #[(.int p0_), (.int p1_), (.int p2_), (.int p3_), (.int p4_)] maxLocals)) t := by
          intro t kt
          refine pre15 t ?_
          show Steps p.tables e below (T11.setTop (mkF m 45 #[.val (.int p0_), .val (.int p1_), .val (.int p2_), .val (.int p3_), .val (.int p4_), .val (.int ((p0_ &&& (2147483647 : Int32)) % (9 : Int32))), .val (.ref b3), .unset, .unset, .unset, .unset] [(.int (p1_ &&& (2 : Int32)))])) _
          refine XS.ifNo X11.here hx rfl (hb hby at_45) rfl ((if0 _ _).trans (feq hc16).1) ?_
          show Steps p.tables e below (T11.setTop (mkF m 48 #[.val (.int p0_), .val (.int p1_), .val (.int p2_), .val (.int p3_), .val (.int p4_), .val (.int ((p0_ &&& (2147483647 : Int32)) % (9 : Int32))), .val (.ref b3), .unset, .unset, .unset, .unset] [])) _
          refine st85 _ ?_
          show Steps p.tables e below (T85.setTop (mkF m 51 #[.val (.int p0_), .val (.int p1_), .val (.int p2_), .val (.int p3_), .val (.int p4_), .val (.int ((p0_ &&& (2147483647 : Int32)) % (9 : Int32))), .val (.ref b3), .unset, .unset, .unset, .unset] [(.ref b85)])) _
          refine XS.dup X85.here hx rfl (hb hby at_51) rfl rfl ?_
          show Steps p.tables e below (T85.setTop (mkF m 52 #[.val (.int p0_), .val (.int p1_), .val (.int p2_), .val (.int p3_), .val (.int p4_), .val (.int ((p0_ &&& (2147483647 : Int32)) % (9 : Int32))), .val (.ref b3), .unset, .unset, .unset, .unset] [(.ref b85), (.ref b85)])) _
          refine XS.aload X85.here hx rfl (hb hby at_52) rfl rfl ?_
          show Steps p.tables e below (T85.setTop (mkF m 54 #[.val (.int p0_), .val (.int p1_), .val (.int p2_), .val (.int p3_), .val (.int p4_), .val (.int ((p0_ &&& (2147483647 : Int32)) % (9 : Int32))), .val (.ref b3), .unset, .unset, .unset, .unset] [(.ref b3), (.ref b85), (.ref b85)])) _
          refine st98.trans ?_
          show Steps p.tables e below (T98.setTop (mkF m 57 #[.val (.int p0_), .val (.int p1_), .val (.int p2_), .val (.int p3_), .val (.int p4_), .val (.int ((p0_ &&& (2147483647 : Int32)) % (9 : Int32))), .val (.ref b3), .unset, .unset, .unset, .unset] [(.ref b85)])) _
          refine XS.goto X98.here hx rfl (pc0 := 57) (pc' := 61) rfl (hb hby at_57) (by decide) (by decide) ?_
          show Steps p.tables e below (T98.setTop (mkF m 61 #[.val (.int p0_), .val (.int p1_), .val (.int p2_), .val (.int p3_), .val (.int p4_), .val (.int ((p0_ &&& (2147483647 : Int32)) % (9 : Int32))), .val (.ref b3), .unset, .unset, .unset, .unset] [(.ref b85)])) _
          refine XS.astore X98.here hx rfl (hb hby at_61) rfl rfl (l' := #[.val (.int p0_), .val (.int p1_), .val (.int p2_), .val (.int p3_), .val (.int p4_), .val (.int ((p0_ &&& (2147483647 : Int32)) % (9 : Int32))), .val (.ref b3), .val (.ref b85), .unset, .unset, .unset]) rfl ?_
          show Steps p.tables e below (T98.setTop (mkF m 63 #[.val (.int p0_), .val (.int p1_), .val (.int p2_), .val (.int p3_), .val (.int p4_), .val (.int ((p0_ &&& (2147483647 : Int32)) % (9 : Int32))), .val (.ref b3), .val (.ref b85), .unset, .unset, .unset] [])) _
          refine st108 _ ?_
          show Steps p.tables e below (T108.setTop (mkF m 66 #[.val (.int p0_), .val (.int p1_), .val (.int p2_), .val (.int p3_), .val (.int p4_), .val (.int ((p0_ &&& (2147483647 : Int32)) % (9 : Int32))), .val (.ref b3), .val (.ref b85), .unset, .unset, .unset] [(.ref b108)])) _
          refine XS.dup X108.here hx rfl (hb hby at_66) rfl rfl ?_
          show Steps p.tables e below (T108.setTop (mkF m 67 #[.val (.int p0_), .val (.int p1_), .val (.int p2_), .val (.int p3_), .val (.int p4_), .val (.int ((p0_ &&& (2147483647 : Int32)) % (9 : Int32))), .val (.ref b3), .val (.ref b85), .unset, .unset, .unset] [(.ref b108), (.ref b108)])) _
          refine XS.iload X108.here hx rfl (hb hby at_67) rfl ?_
          show Steps p.tables e below (T108.setTop (mkF m 69 #[.val (.int p0_), .val (.int p1_), .val (.int p2_), .val (.int p3_), .val (.int p4_), .val (.int ((p0_ &&& (2147483647 : Int32)) % (9 : Int32))), .val (.ref b3), .val (.ref b85), .unset, .unset, .unset] [(.int ((p0_ &&& (2147483647 : Int32)) % (9 : Int32))), (.ref b108), (.ref b108)])) _
          refine XS.aload X108.here hx rfl (hb hby at_69) rfl rfl ?_
          show Steps p.tables e below (T108.setTop (mkF m 71 #[.val (.int p0_), .val (.int p1_), .val (.int p2_), .val (.int p3_), .val (.int p4_), .val (.int ((p0_ &&& (2147483647 : Int32)) % (9 : Int32))), .val (.ref b3), .val (.ref b85), .unset, .unset, .unset] [(.ref b85), (.int ((p0_ &&& (2147483647 : Int32)) % (9 : Int32))), (.ref b108), (.ref b108)])) _
          refine XS.iload X108.here hx rfl (hb hby at_71) rfl ?_
          show Steps p.tables e below (T108.setTop (mkF m 73 #[.val (.int p0_), .val (.int p1_), .val (.int p2_), .val (.int p3_), .val (.int p4_), .val (.int ((p0_ &&& (2147483647 : Int32)) % (9 : Int32))), .val (.ref b3), .val (.ref b85), .unset, .unset, .unset] [(.int p4_), (.ref b85), (.int ((p0_ &&& (2147483647 : Int32)) % (9 : Int32))), (.ref b108), (.ref b108)])) _
          refine st116.trans ?_
          show Steps p.tables e below (T116.setTop (mkF m 76 #[.val (.int p0_), .val (.int p1_), .val (.int p2_), .val (.int p3_), .val (.int p4_), .val (.int ((p0_ &&& (2147483647 : Int32)) % (9 : Int32))), .val (.ref b3), .val (.ref b85), .unset, .unset, .unset] [(.ref b108)])) _
          refine XS.astore X116.here hx rfl (hb hby at_76) rfl rfl (l' := #[.val (.int p0_), .val (.int p1_), .val (.int p2_), .val (.int p3_), .val (.int p4_), .val (.int ((p0_ &&& (2147483647 : Int32)) % (9 : Int32))), .val (.ref b3), .val (.ref b85), .val (.ref b108), .unset, .unset]) rfl ?_
          show Steps p.tables e below (T116.setTop (mkF m 78 #[.val (.int p0_), .val (.int p1_), .val (.int p2_), .val (.int p3_), .val (.int p4_), .val (.int ((p0_ &&& (2147483647 : Int32)) % (9 : Int32))), .val (.ref b3), .val (.ref b85), .val (.ref b108), .unset, .unset] [])) _
          refine XS.aload X116.here hx rfl (hb hby at_78) rfl rfl ?_
          show Steps p.tables e below (T116.setTop (mkF m 80 #[.val (.int p0_), .val (.int p1_), .val (.int p2_), .val (.int p3_), .val (.int p4_), .val (.int ((p0_ &&& (2147483647 : Int32)) % (9 : Int32))), .val (.ref b3), .val (.ref b85), .val (.ref b108), .unset, .unset] [(.ref b108)])) _
          refine st124.trans ?_
          show Steps p.tables e below (T124.setTop (mkF m 83 #[.val (.int p0_), .val (.int p1_), .val (.int p2_), .val (.int p3_), .val (.int p4_), .val (.int ((p0_ &&& (2147483647 : Int32)) % (9 : Int32))), .val (.ref b3), .val (.ref b85), .val (.ref b108), .unset, .unset] [(.int (1 : Int32))])) _
          refine XS.istore X124.here hx rfl (hb hby at_83) rfl (l' := #[.val (.int p0_), .val (.int p1_), .val (.int p2_), .val (.int p3_), .val (.int p4_), .val (.int ((p0_ &&& (2147483647 : Int32)) % (9 : Int32))), .val (.ref b3), .val (.ref b85), .val (.ref b108), .val (.int (1 : Int32)), .unset]) rfl ?_
          show Steps p.tables e below (T124.setTop (mkF m 85 #[.val (.int p0_), .val (.int p1_), .val (.int p2_), .val (.int p3_), .val (.int p4_), .val (.int ((p0_ &&& (2147483647 : Int32)) % (9 : Int32))), .val (.ref b3), .val (.ref b85), .val (.ref b108), .val (.int (1 : Int32)), .unset] [])) _
          refine XS.iload X124.here hx rfl (hb hby at_85) rfl ?_
          show Steps p.tables e below (T124.setTop (mkF m 87 #[.val (.int p0_), .val (.int p1_), .val (.int p2_), .val (.int p3_), .val (.int p4_), .val (.int ((p0_ &&& (2147483647 : Int32)) % (9 : Int32))), .val (.ref b3), .val (.ref b85), .val (.ref b108), .val (.int (1 : Int32)), .unset] [(.int ((p0_ &&& (2147483647 : Int32)) % (9 : Int32)))])) _
          refine XS.iconst X124.here hx rfl (hb hby at_87) ?_
          show Steps p.tables e below (T124.setTop (mkF m 88 #[.val (.int p0_), .val (.int p1_), .val (.int p2_), .val (.int p3_), .val (.int p4_), .val (.int ((p0_ &&& (2147483647 : Int32)) % (9 : Int32))), .val (.ref b3), .val (.ref b85), .val (.ref b108), .val (.int (1 : Int32)), .unset] [(.int (1 : Int32)), (.int ((p0_ &&& (2147483647 : Int32)) % (9 : Int32)))])) _
          refine XS.icmpNo X124.here hx rfl (hb hby at_88) rfl (flt (by intro hz; have lt_0 : ((1 : Int32)).toInt = 1 := rfl; have lt_1 : ((2147483647 : Int32)).toInt = 2147483647 := rfl; have lt_2 : ((5 : Int32)).toInt = 5 := rfl; have lt_3 : ((7 : Int32)).toInt = 7 := rfl; have lt_4 : ((9 : Int32)).toInt = 9 := rfl; simp only [Int32.lt_iff_toInt_lt, Int64.lt_iff_toInt_lt, ← Int32.toInt_inj, ← Int64.toInt_inj] at hz hq124_1_0 hq124_1_1; omega)).1 ?_
          show Steps p.tables e below (T124.setTop (mkF m 91 #[.val (.int p0_), .val (.int p1_), .val (.int p2_), .val (.int p3_), .val (.int p4_), .val (.int ((p0_ &&& (2147483647 : Int32)) % (9 : Int32))), .val (.ref b3), .val (.ref b85), .val (.ref b108), .val (.int (1 : Int32)), .unset] [])) _
          refine XS.iload X124.here hx rfl (hb hby at_91) rfl ?_
          show Steps p.tables e below (T124.setTop (mkF m 93 #[.val (.int p0_), .val (.int p1_), .val (.int p2_), .val (.int p3_), .val (.int p4_), .val (.int ((p0_ &&& (2147483647 : Int32)) % (9 : Int32))), .val (.ref b3), .val (.ref b85), .val (.ref b108), .val (.int (1 : Int32)), .unset] [(.int ((p0_ &&& (2147483647 : Int32)) % (9 : Int32)))])) _
          refine XS.bipush X124.here hx rfl (hb hby at_93) ?_
          show Steps p.tables e below (T124.setTop (mkF m 95 #[.val (.int p0_), .val (.int p1_), .val (.int p2_), .val (.int p3_), .val (.int p4_), .val (.int ((p0_ &&& (2147483647 : Int32)) % (9 : Int32))), .val (.ref b3), .val (.ref b85), .val (.ref b108), .val (.int (1 : Int32)), .unset] [(.int (8 : Int32)), (.int ((p0_ &&& (2147483647 : Int32)) % (9 : Int32)))])) _
          refine XS.icmpNo X124.here hx rfl (hb hby at_95) rfl (flt (by intro hz; have lt_0 : ((2147483647 : Int32)).toInt = 2147483647 := rfl; have lt_1 : ((5 : Int32)).toInt = 5 := rfl; have lt_2 : ((7 : Int32)).toInt = 7 := rfl; have lt_3 : ((8 : Int32)).toInt = 8 := rfl; have lt_4 : ((9 : Int32)).toInt = 9 := rfl; simp only [Int32.lt_iff_toInt_lt, Int64.lt_iff_toInt_lt, ← Int32.toInt_inj, ← Int64.toInt_inj] at hz hq124_1_0 hq124_1_1; omega)).2.2.1 ?_
          show Steps p.tables e below (T124.setTop (mkF m 98 #[.val (.int p0_), .val (.int p1_), .val (.int p2_), .val (.int p3_), .val (.int p4_), .val (.int ((p0_ &&& (2147483647 : Int32)) % (9 : Int32))), .val (.ref b3), .val (.ref b85), .val (.ref b108), .val (.int (1 : Int32)), .unset] [])) _
          refine XS.aload X124.here hx rfl (hb hby at_98) rfl rfl ?_
          show Steps p.tables e below (T124.setTop (mkF m 100 #[.val (.int p0_), .val (.int p1_), .val (.int p2_), .val (.int p3_), .val (.int p4_), .val (.int ((p0_ &&& (2147483647 : Int32)) % (9 : Int32))), .val (.ref b3), .val (.ref b85), .val (.ref b108), .val (.int (1 : Int32)), .unset] [(.ref b108)])) _
          refine st141.trans ?_
          show Steps p.tables e below (T141.setTop (mkF m 103 #[.val (.int p0_), .val (.int p1_), .val (.int p2_), .val (.int p3_), .val (.int p4_), .val (.int ((p0_ &&& (2147483647 : Int32)) % (9 : Int32))), .val (.ref b3), .val (.ref b85), .val (.ref b108), .val (.int (1 : Int32)), .unset] [(.ref w_REFERENCE)])) _
          refine st143 _ ?_
          show Steps p.tables e below (T143.setTop (mkF m 106 #[.val (.int p0_), .val (.int p1_), .val (.int p2_), .val (.int p3_), .val (.int p4_), .val (.int ((p0_ &&& (2147483647 : Int32)) % (9 : Int32))), .val (.ref b3), .val (.ref b85), .val (.ref b108), .val (.int (1 : Int32)), .unset] [(.ref w_REFERENCE), (.ref w_REFERENCE)])) _
          refine Jvm.RoadKit.acmp (g := (mkF m 106 #[.val (.int p0_), .val (.int p1_), .val (.int p2_), .val (.int p3_), .val (.int p4_), .val (.int ((p0_ &&& (2147483647 : Int32)) % (9 : Int32))), .val (.ref b3), .val (.ref b85), .val (.ref b108), .val (.int (1 : Int32)), .unset] [(.ref w_REFERENCE), (.ref w_REFERENCE)])) X143 hx rfl rfl rfl (pc0 := 106) (pc' := 109) (same := true) rfl (hb hby at_106) rfl (decide_eq_true rfl) (by decide) (by decide) ?_
          show Steps p.tables e below (T143.setTop (mkF m 109 #[.val (.int p0_), .val (.int p1_), .val (.int p2_), .val (.int p3_), .val (.int p4_), .val (.int ((p0_ &&& (2147483647 : Int32)) % (9 : Int32))), .val (.ref b3), .val (.ref b85), .val (.ref b108), .val (.int (1 : Int32)), .unset] [])) _
          refine XS.aload X143.here hx rfl (hb hby at_109) rfl rfl ?_
          show Steps p.tables e below (T143.setTop (mkF m 111 #[.val (.int p0_), .val (.int p1_), .val (.int p2_), .val (.int p3_), .val (.int p4_), .val (.int ((p0_ &&& (2147483647 : Int32)) % (9 : Int32))), .val (.ref b3), .val (.ref b85), .val (.ref b108), .val (.int (1 : Int32)), .unset] [(.ref b108)])) _
          refine st144.trans ?_
          show Steps p.tables e below (T144.setTop (mkF m 114 #[.val (.int p0_), .val (.int p1_), .val (.int p2_), .val (.int p3_), .val (.int p4_), .val (.int ((p0_ &&& (2147483647 : Int32)) % (9 : Int32))), .val (.ref b3), .val (.ref b85), .val (.ref b108), .val (.int (1 : Int32)), .unset] [(.int (0 : Int32))])) _
          refine XS.ifNo X144.here hx rfl (hb hby at_114) rfl ((if0 _ _).trans (teq (by decide : (0 : Int32) = (0 : Int32))).2) ?_
          show Steps p.tables e below (T144.setTop (mkF m 117 #[.val (.int p0_), .val (.int p1_), .val (.int p2_), .val (.int p3_), .val (.int p4_), .val (.int ((p0_ &&& (2147483647 : Int32)) % (9 : Int32))), .val (.ref b3), .val (.ref b85), .val (.ref b108), .val (.int (1 : Int32)), .unset] [])) _
          refine XS.iconst X144.here hx rfl (hb hby at_117) ?_
          show Steps p.tables e below (T144.setTop (mkF m 118 #[.val (.int p0_), .val (.int p1_), .val (.int p2_), .val (.int p3_), .val (.int p4_), .val (.int ((p0_ &&& (2147483647 : Int32)) % (9 : Int32))), .val (.ref b3), .val (.ref b85), .val (.ref b108), .val (.int (1 : Int32)), .unset] [(.int (1 : Int32))])) _
          refine XS.goto X144.here hx rfl (pc0 := 118) (pc' := 122) rfl (hb hby at_118) (by decide) (by decide) ?_
          show Steps p.tables e below (T144.setTop (mkF m 122 #[.val (.int p0_), .val (.int p1_), .val (.int p2_), .val (.int p3_), .val (.int p4_), .val (.int ((p0_ &&& (2147483647 : Int32)) % (9 : Int32))), .val (.ref b3), .val (.ref b85), .val (.ref b108), .val (.int (1 : Int32)), .unset] [(.int (1 : Int32))])) _
          refine XS.istore X144.here hx rfl (hb hby at_122) rfl (l' := #[.val (.int p0_), .val (.int p1_), .val (.int p2_), .val (.int p3_), .val (.int p4_), .val (.int ((p0_ &&& (2147483647 : Int32)) % (9 : Int32))), .val (.ref b3), .val (.ref b85), .val (.ref b108), .val (.int (1 : Int32)), .val (.int (1 : Int32))]) rfl ?_
          show Steps p.tables e below (T144.setTop (mkF m 124 #[.val (.int p0_), .val (.int p1_), .val (.int p2_), .val (.int p3_), .val (.int p4_), .val (.int ((p0_ &&& (2147483647 : Int32)) % (9 : Int32))), .val (.ref b3), .val (.ref b85), .val (.ref b108), .val (.int (1 : Int32)), .val (.int (1 : Int32))] [])) _
          refine XS.goto X144.here hx rfl (pc0 := 124) (pc' := 130) rfl (hb hby at_124) (by decide) (by decide) ?_
          show Steps p.tables e below (T144.setTop (mkF m 130 #[.val (.int p0_), .val (.int p1_), .val (.int p2_), .val (.int p3_), .val (.int p4_), .val (.int ((p0_ &&& (2147483647 : Int32)) % (9 : Int32))), .val (.ref b3), .val (.ref b85), .val (.ref b108), .val (.int (1 : Int32)), .val (.int (1 : Int32))] [])) _
          refine XS.iload X144.here hx rfl (hb hby at_130) rfl ?_
          show Steps p.tables e below (T144.setTop (mkF m 132 #[.val (.int p0_), .val (.int p1_), .val (.int p2_), .val (.int p3_), .val (.int p4_), .val (.int ((p0_ &&& (2147483647 : Int32)) % (9 : Int32))), .val (.ref b3), .val (.ref b85), .val (.ref b108), .val (.int (1 : Int32)), .val (.int (1 : Int32))] [(.int (1 : Int32))])) _
          refine XS.iload X144.here hx rfl (hb hby at_132) rfl ?_
          show Steps p.tables e below (T144.setTop (mkF m 134 #[.val (.int p0_), .val (.int p1_), .val (.int p2_), .val (.int p3_), .val (.int p4_), .val (.int ((p0_ &&& (2147483647 : Int32)) % (9 : Int32))), .val (.ref b3), .val (.ref b85), .val (.ref b108), .val (.int (1 : Int32)), .val (.int (1 : Int32))] [(.int (1 : Int32)), (.int (1 : Int32))])) _
          refine XS.icmpNo X144.here hx rfl (hb hby at_134) rfl (teq (by decide : (1 : Int32) = (1 : Int32))).2 ?_
          show Steps p.tables e below (T144.setTop (mkF m 137 #[.val (.int p0_), .val (.int p1_), .val (.int p2_), .val (.int p3_), .val (.int p4_), .val (.int ((p0_ &&& (2147483647 : Int32)) % (9 : Int32))), .val (.ref b3), .val (.ref b85), .val (.ref b108), .val (.int (1 : Int32)), .val (.int (1 : Int32))] [])) _
          refine XS.iconst X144.here hx rfl (hb hby at_137) ?_
          show Steps p.tables e below (T144.setTop (mkF m 138 #[.val (.int p0_), .val (.int p1_), .val (.int p2_), .val (.int p3_), .val (.int p4_), .val (.int ((p0_ &&& (2147483647 : Int32)) % (9 : Int32))), .val (.ref b3), .val (.ref b85), .val (.ref b108), .val (.int (1 : Int32)), .val (.int (1 : Int32))] [(.int (1 : Int32))])) _
          refine XS.goto X144.here hx rfl (pc0 := 138) (pc' := 142) rfl (hb hby at_138) (by decide) (by decide) ?_
          exact kt
        obtain ⟨fs, hr, hrun, hended, hW, hsame⟩ := X144.leave (v := some (.int (1 : Int32))) (fun h => by rw [Bd.returns] at h; cases h)
        refine ⟨_, _, pre146 _ (retN X144 hx (t := .boolean) Bd.returns (by simp) (hb hby at_142) hr), hrun, hended, _, _, rfl, ?_, ⟨_, rfl⟩, hW, hsame.mono (by decide) (by decide)⟩
        show QLaw Z p0_ p1_ p2_ p3_ p4_ w_COMPACT_STRINGS w_FLOAT w_LONG w_INT w_REFERENCE w_DOUBLE h0 n0 _ T144.heap _
        rw [e144']
        exact ⟨rfl, N145⟩
      · have pre148 : ∀ t, Steps p.tables e below (T124.setTop (mkF m 88 #[.val (.int p0_), .val (.int p1_), .val (.int p2_), .val (.int p3_), .val (.int p4_), .val (.int ((p0_ &&& (2147483647 : Int32)) % (9 : Int32))), .val (.ref b3), .val (.ref b85), .val (.ref b108), .val (.int (0 : Int32)), .unset] [(.int (1 : Int32)), (.int ((p0_ &&& (2147483647 : Int32)) % (9 : Int32)))])) t → Steps p.tables e below (s₁.setTop (entryFrame m #[(.int p0_), (.int p1_), (.int p2_), (.int p3_), (.int p4_)] maxLocals)) t := by
          intro t kt
          refine pre15 t ?_
          show Steps p.tables e below (T11.setTop (mkF m 45 #[.val (.int p0_), .val (.int p1_), .val (.int p2_), .val (.int p3_), .val (.int p4_), .val (.int ((p0_ &&& (2147483647 : Int32)) % (9 : Int32))), .val (.ref b3), .unset, .unset, .unset, .unset] [(.int (p1_ &&& (2 : Int32)))])) _
          refine XS.ifNo X11.here hx rfl (hb hby at_45) rfl ((if0 _ _).trans (feq hc16).1) ?_
          show Steps p.tables e below (T11.setTop (mkF m 48 #[.val (.int p0_), .val (.int p1_), .val (.int p2_), .val (.int p3_), .val (.int p4_), .val (.int ((p0_ &&& (2147483647 : Int32)) % (9 : Int32))), .val (.ref b3), .unset, .unset, .unset, .unset] [])) _
          refine st85 _ ?_
          show Steps p.tables e below (T85.setTop (mkF m 51 #[.val (.int p0_), .val (.int p1_), .val (.int p2_), .val (.int p3_), .val (.int p4_), .val (.int ((p0_ &&& (2147483647 : Int32)) % (9 : Int32))), .val (.ref b3), .unset, .unset, .unset, .unset] [(.ref b85)])) _
          refine XS.dup X85.here hx rfl (hb hby at_51) rfl rfl ?_
          show Steps p.tables e below (T85.setTop (mkF m 52 #[.val (.int p0_), .val (.int p1_), .val (.int p2_), .val (.int p3_), .val (.int p4_), .val (.int ((p0_ &&& (2147483647 : Int32)) % (9 : Int32))), .val (.ref b3), .unset, .unset, .unset, .unset] [(.ref b85), (.ref b85)])) _
          refine XS.aload X85.here hx rfl (hb hby at_52) rfl rfl ?_
          show Steps p.tables e below (T85.setTop (mkF m 54 #[.val (.int p0_), .val (.int p1_), .val (.int p2_), .val (.int p3_), .val (.int p4_), .val (.int ((p0_ &&& (2147483647 : Int32)) % (9 : Int32))), .val (.ref b3), .unset, .unset, .unset, .unset] [(.ref b3), (.ref b85), (.ref b85)])) _
          refine st98.trans ?_
          show Steps p.tables e below (T98.setTop (mkF m 57 #[.val (.int p0_), .val (.int p1_), .val (.int p2_), .val (.int p3_), .val (.int p4_), .val (.int ((p0_ &&& (2147483647 : Int32)) % (9 : Int32))), .val (.ref b3), .unset, .unset, .unset, .unset] [(.ref b85)])) _
          refine XS.goto X98.here hx rfl (pc0 := 57) (pc' := 61) rfl (hb hby at_57) (by decide) (by decide) ?_
          show Steps p.tables e below (T98.setTop (mkF m 61 #[.val (.int p0_), .val (.int p1_), .val (.int p2_), .val (.int p3_), .val (.int p4_), .val (.int ((p0_ &&& (2147483647 : Int32)) % (9 : Int32))), .val (.ref b3), .unset, .unset, .unset, .unset] [(.ref b85)])) _
          refine XS.astore X98.here hx rfl (hb hby at_61) rfl rfl (l' := #[.val (.int p0_), .val (.int p1_), .val (.int p2_), .val (.int p3_), .val (.int p4_), .val (.int ((p0_ &&& (2147483647 : Int32)) % (9 : Int32))), .val (.ref b3), .val (.ref b85), .unset, .unset, .unset]) rfl ?_
          show Steps p.tables e below (T98.setTop (mkF m 63 #[.val (.int p0_), .val (.int p1_), .val (.int p2_), .val (.int p3_), .val (.int p4_), .val (.int ((p0_ &&& (2147483647 : Int32)) % (9 : Int32))), .val (.ref b3), .val (.ref b85), .unset, .unset, .unset] [])) _
          refine st108 _ ?_
          show Steps p.tables e below (T108.setTop (mkF m 66 #[.val (.int p0_), .val (.int p1_), .val (.int p2_), .val (.int p3_), .val (.int p4_), .val (.int ((p0_ &&& (2147483647 : Int32)) % (9 : Int32))), .val (.ref b3), .val (.ref b85), .unset, .unset, .unset] [(.ref b108)])) _
          refine XS.dup X108.here hx rfl (hb hby at_66) rfl rfl ?_
          show Steps p.tables e below (T108.setTop (mkF m 67 #[.val (.int p0_), .val (.int p1_), .val (.int p2_), .val (.int p3_), .val (.int p4_), .val (.int ((p0_ &&& (2147483647 : Int32)) % (9 : Int32))), .val (.ref b3), .val (.ref b85), .unset, .unset, .unset] [(.ref b108), (.ref b108)])) _
          refine XS.iload X108.here hx rfl (hb hby at_67) rfl ?_
          show Steps p.tables e below (T108.setTop (mkF m 69 #[.val (.int p0_), .val (.int p1_), .val (.int p2_), .val (.int p3_), .val (.int p4_), .val (.int ((p0_ &&& (2147483647 : Int32)) % (9 : Int32))), .val (.ref b3), .val (.ref b85), .unset, .unset, .unset] [(.int ((p0_ &&& (2147483647 : Int32)) % (9 : Int32))), (.ref b108), (.ref b108)])) _
          refine XS.aload X108.here hx rfl (hb hby at_69) rfl rfl ?_
          show Steps p.tables e below (T108.setTop (mkF m 71 #[.val (.int p0_), .val (.int p1_), .val (.int p2_), .val (.int p3_), .val (.int p4_), .val (.int ((p0_ &&& (2147483647 : Int32)) % (9 : Int32))), .val (.ref b3), .val (.ref b85), .unset, .unset, .unset] [(.ref b85), (.int ((p0_ &&& (2147483647 : Int32)) % (9 : Int32))), (.ref b108), (.ref b108)])) _
          refine XS.iload X108.here hx rfl (hb hby at_71) rfl ?_
          show Steps p.tables e below (T108.setTop (mkF m 73 #[.val (.int p0_), .val (.int p1_), .val (.int p2_), .val (.int p3_), .val (.int p4_), .val (.int ((p0_ &&& (2147483647 : Int32)) % (9 : Int32))), .val (.ref b3), .val (.ref b85), .unset, .unset, .unset] [(.int p4_), (.ref b85), (.int ((p0_ &&& (2147483647 : Int32)) % (9 : Int32))), (.ref b108), (.ref b108)])) _
          refine st116.trans ?_
          show Steps p.tables e below (T116.setTop (mkF m 76 #[.val (.int p0_), .val (.int p1_), .val (.int p2_), .val (.int p3_), .val (.int p4_), .val (.int ((p0_ &&& (2147483647 : Int32)) % (9 : Int32))), .val (.ref b3), .val (.ref b85), .unset, .unset, .unset] [(.ref b108)])) _
          refine XS.astore X116.here hx rfl (hb hby at_76) rfl rfl (l' := #[.val (.int p0_), .val (.int p1_), .val (.int p2_), .val (.int p3_), .val (.int p4_), .val (.int ((p0_ &&& (2147483647 : Int32)) % (9 : Int32))), .val (.ref b3), .val (.ref b85), .val (.ref b108), .unset, .unset]) rfl ?_
          show Steps p.tables e below (T116.setTop (mkF m 78 #[.val (.int p0_), .val (.int p1_), .val (.int p2_), .val (.int p3_), .val (.int p4_), .val (.int ((p0_ &&& (2147483647 : Int32)) % (9 : Int32))), .val (.ref b3), .val (.ref b85), .val (.ref b108), .unset, .unset] [])) _
          refine XS.aload X116.here hx rfl (hb hby at_78) rfl rfl ?_
          show Steps p.tables e below (T116.setTop (mkF m 80 #[.val (.int p0_), .val (.int p1_), .val (.int p2_), .val (.int p3_), .val (.int p4_), .val (.int ((p0_ &&& (2147483647 : Int32)) % (9 : Int32))), .val (.ref b3), .val (.ref b85), .val (.ref b108), .unset, .unset] [(.ref b108)])) _
          refine st124.trans ?_
          show Steps p.tables e below (T124.setTop (mkF m 83 #[.val (.int p0_), .val (.int p1_), .val (.int p2_), .val (.int p3_), .val (.int p4_), .val (.int ((p0_ &&& (2147483647 : Int32)) % (9 : Int32))), .val (.ref b3), .val (.ref b85), .val (.ref b108), .unset, .unset] [(.int (0 : Int32))])) _
          refine XS.istore X124.here hx rfl (hb hby at_83) rfl (l' := #[.val (.int p0_), .val (.int p1_), .val (.int p2_), .val (.int p3_), .val (.int p4_), .val (.int ((p0_ &&& (2147483647 : Int32)) % (9 : Int32))), .val (.ref b3), .val (.ref b85), .val (.ref b108), .val (.int (0 : Int32)), .unset]) rfl ?_
          show Steps p.tables e below (T124.setTop (mkF m 85 #[.val (.int p0_), .val (.int p1_), .val (.int p2_), .val (.int p3_), .val (.int p4_), .val (.int ((p0_ &&& (2147483647 : Int32)) % (9 : Int32))), .val (.ref b3), .val (.ref b85), .val (.ref b108), .val (.int (0 : Int32)), .unset] [])) _
          refine XS.iload X124.here hx rfl (hb hby at_85) rfl ?_
          show Steps p.tables e below (T124.setTop (mkF m 87 #[.val (.int p0_), .val (.int p1_), .val (.int p2_), .val (.int p3_), .val (.int p4_), .val (.int ((p0_ &&& (2147483647 : Int32)) % (9 : Int32))), .val (.ref b3), .val (.ref b85), .val (.ref b108), .val (.int (0 : Int32)), .unset] [(.int ((p0_ &&& (2147483647 : Int32)) % (9 : Int32)))])) _
          refine XS.iconst X124.here hx rfl (hb hby at_87) ?_
          exact kt
        by_cases hc149 : ((p0_ &&& (2147483647 : Int32)) % (9 : Int32)) < (1 : Int32)
        · have pre150 : ∀ t, Steps p.tables e below (T124.setTop (mkF m 142 #[.val (.int p0_), .val (.int p1_), .val (.int p2_), .val (.int p3_), .val (.int p4_), .val (.int ((p0_ &&& (2147483647 : Int32)) % (9 : Int32))), .val (.ref b3), .val (.ref b85), .val (.ref b108), .val (.int (0 : Int32)), .val (.int (0 : Int32))] [(.int (1 : Int32))])) t → Steps p.tables e below (s₁.setTop (entryFrame m #[(.int p0_), (.int p1_), (.int p2_), (.int p3_), (.int p4_)] maxLocals)) t := by
            intro t kt
            refine pre148 t ?_
            show Steps p.tables e below (T124.setTop (mkF m 88 #[.val (.int p0_), .val (.int p1_), .val (.int p2_), .val (.int p3_), .val (.int p4_), .val (.int ((p0_ &&& (2147483647 : Int32)) % (9 : Int32))), .val (.ref b3), .val (.ref b85), .val (.ref b108), .val (.int (0 : Int32)), .unset] [(.int (1 : Int32)), (.int ((p0_ &&& (2147483647 : Int32)) % (9 : Int32)))])) _
            refine XS.icmpYes X124.here hx rfl (pc0 := 88) (pc' := 127) rfl (hb hby at_88) rfl (tlt hc149).1 (by decide) (by decide) ?_
            show Steps p.tables e below (T124.setTop (mkF m 127 #[.val (.int p0_), .val (.int p1_), .val (.int p2_), .val (.int p3_), .val (.int p4_), .val (.int ((p0_ &&& (2147483647 : Int32)) % (9 : Int32))), .val (.ref b3), .val (.ref b85), .val (.ref b108), .val (.int (0 : Int32)), .unset] [])) _
            refine XS.iconst X124.here hx rfl (hb hby at_127) ?_
            show Steps p.tables e below (T124.setTop (mkF m 128 #[.val (.int p0_), .val (.int p1_), .val (.int p2_), .val (.int p3_), .val (.int p4_), .val (.int ((p0_ &&& (2147483647 : Int32)) % (9 : Int32))), .val (.ref b3), .val (.ref b85), .val (.ref b108), .val (.int (0 : Int32)), .unset] [(.int (0 : Int32))])) _
            refine XS.istore X124.here hx rfl (hb hby at_128) rfl (l' := #[.val (.int p0_), .val (.int p1_), .val (.int p2_), .val (.int p3_), .val (.int p4_), .val (.int ((p0_ &&& (2147483647 : Int32)) % (9 : Int32))), .val (.ref b3), .val (.ref b85), .val (.ref b108), .val (.int (0 : Int32)), .val (.int (0 : Int32))]) rfl ?_
            show Steps p.tables e below (T124.setTop (mkF m 130 #[.val (.int p0_), .val (.int p1_), .val (.int p2_), .val (.int p3_), .val (.int p4_), .val (.int ((p0_ &&& (2147483647 : Int32)) % (9 : Int32))), .val (.ref b3), .val (.ref b85), .val (.ref b108), .val (.int (0 : Int32)), .val (.int (0 : Int32))] [])) _
            refine XS.iload X124.here hx rfl (hb hby at_130) rfl ?_
            show Steps p.tables e below (T124.setTop (mkF m 132 #[.val (.int p0_), .val (.int p1_), .val (.int p2_), .val (.int p3_), .val (.int p4_), .val (.int ((p0_ &&& (2147483647 : Int32)) % (9 : Int32))), .val (.ref b3), .val (.ref b85), .val (.ref b108), .val (.int (0 : Int32)), .val (.int (0 : Int32))] [(.int (0 : Int32))])) _
            refine XS.iload X124.here hx rfl (hb hby at_132) rfl ?_
            show Steps p.tables e below (T124.setTop (mkF m 134 #[.val (.int p0_), .val (.int p1_), .val (.int p2_), .val (.int p3_), .val (.int p4_), .val (.int ((p0_ &&& (2147483647 : Int32)) % (9 : Int32))), .val (.ref b3), .val (.ref b85), .val (.ref b108), .val (.int (0 : Int32)), .val (.int (0 : Int32))] [(.int (0 : Int32)), (.int (0 : Int32))])) _
            refine XS.icmpNo X124.here hx rfl (hb hby at_134) rfl (teq (by decide : (0 : Int32) = (0 : Int32))).2 ?_
            show Steps p.tables e below (T124.setTop (mkF m 137 #[.val (.int p0_), .val (.int p1_), .val (.int p2_), .val (.int p3_), .val (.int p4_), .val (.int ((p0_ &&& (2147483647 : Int32)) % (9 : Int32))), .val (.ref b3), .val (.ref b85), .val (.ref b108), .val (.int (0 : Int32)), .val (.int (0 : Int32))] [])) _
            refine XS.iconst X124.here hx rfl (hb hby at_137) ?_
            show Steps p.tables e below (T124.setTop (mkF m 138 #[.val (.int p0_), .val (.int p1_), .val (.int p2_), .val (.int p3_), .val (.int p4_), .val (.int ((p0_ &&& (2147483647 : Int32)) % (9 : Int32))), .val (.ref b3), .val (.ref b85), .val (.ref b108), .val (.int (0 : Int32)), .val (.int (0 : Int32))] [(.int (1 : Int32))])) _
            refine XS.goto X124.here hx rfl (pc0 := 138) (pc' := 142) rfl (hb hby at_138) (by decide) (by decide) ?_
            exact kt
          obtain ⟨fs, hr, hrun, hended, hW, hsame⟩ := X124.leave (v := some (.int (1 : Int32))) (fun h => by rw [Bd.returns] at h; cases h)
          refine ⟨_, _, pre150 _ (retN X124 hx (t := .boolean) Bd.returns (by simp) (hb hby at_142) hr), hrun, hended, _, _, rfl, ?_, ⟨_, rfl⟩, hW, hsame.mono (by decide) (by decide)⟩
          show QLaw Z p0_ p1_ p2_ p3_ p4_ w_COMPACT_STRINGS w_FLOAT w_LONG w_INT w_REFERENCE w_DOUBLE h0 n0 _ T124.heap _
          rw [e124']
          exact ⟨rfl, N133⟩
        · have pre152 : ∀ t, Steps p.tables e below (T124.setTop (mkF m 95 #[.val (.int p0_), .val (.int p1_), .val (.int p2_), .val (.int p3_), .val (.int p4_), .val (.int ((p0_ &&& (2147483647 : Int32)) % (9 : Int32))), .val (.ref b3), .val (.ref b85), .val (.ref b108), .val (.int (0 : Int32)), .unset] [(.int (8 : Int32)), (.int ((p0_ &&& (2147483647 : Int32)) % (9 : Int32)))])) t → Steps p.tables e below (s₁.setTop (entryFrame m #[(.int p0_), (.int p1_), (.int p2_), (.int p3_), (.int p4_)] maxLocals)) t := by
            intro t kt
            refine pre148 t ?_
            show Steps p.tables e below (T124.setTop (mkF m 88 #[.val (.int p0_), .val (.int p1_), .val (.int p2_), .val (.int p3_), .val (.int p4_), .val (.int ((p0_ &&& (2147483647 : Int32)) % (9 : Int32))), .val (.ref b3), .val (.ref b85), .val (.ref b108), .val (.int (0 : Int32)), .unset] [(.int (1 : Int32)), (.int ((p0_ &&& (2147483647 : Int32)) % (9 : Int32)))])) _
            refine XS.icmpNo X124.here hx rfl (hb hby at_88) rfl (flt hc149).1 ?_
            show Steps p.tables e below (T124.setTop (mkF m 91 #[.val (.int p0_), .val (.int p1_), .val (.int p2_), .val (.int p3_), .val (.int p4_), .val (.int ((p0_ &&& (2147483647 : Int32)) % (9 : Int32))), .val (.ref b3), .val (.ref b85), .val (.ref b108), .val (.int (0 : Int32)), .unset] [])) _
            refine XS.iload X124.here hx rfl (hb hby at_91) rfl ?_
            show Steps p.tables e below (T124.setTop (mkF m 93 #[.val (.int p0_), .val (.int p1_), .val (.int p2_), .val (.int p3_), .val (.int p4_), .val (.int ((p0_ &&& (2147483647 : Int32)) % (9 : Int32))), .val (.ref b3), .val (.ref b85), .val (.ref b108), .val (.int (0 : Int32)), .unset] [(.int ((p0_ &&& (2147483647 : Int32)) % (9 : Int32)))])) _
            refine XS.bipush X124.here hx rfl (hb hby at_93) ?_
            exact kt
          by_cases hc153 : (8 : Int32) < ((p0_ &&& (2147483647 : Int32)) % (9 : Int32))
          · have pre154 : ∀ t, Steps p.tables e below (T124.setTop (mkF m 142 #[.val (.int p0_), .val (.int p1_), .val (.int p2_), .val (.int p3_), .val (.int p4_), .val (.int ((p0_ &&& (2147483647 : Int32)) % (9 : Int32))), .val (.ref b3), .val (.ref b85), .val (.ref b108), .val (.int (0 : Int32)), .val (.int (0 : Int32))] [(.int (1 : Int32))])) t → Steps p.tables e below (s₁.setTop (entryFrame m #[(.int p0_), (.int p1_), (.int p2_), (.int p3_), (.int p4_)] maxLocals)) t := by
              intro t kt
              refine pre152 t ?_
              show Steps p.tables e below (T124.setTop (mkF m 95 #[.val (.int p0_), .val (.int p1_), .val (.int p2_), .val (.int p3_), .val (.int p4_), .val (.int ((p0_ &&& (2147483647 : Int32)) % (9 : Int32))), .val (.ref b3), .val (.ref b85), .val (.ref b108), .val (.int (0 : Int32)), .unset] [(.int (8 : Int32)), (.int ((p0_ &&& (2147483647 : Int32)) % (9 : Int32)))])) _
              refine XS.icmpYes X124.here hx rfl (pc0 := 95) (pc' := 127) rfl (hb hby at_95) rfl (tlt hc153).2.2.1 (by decide) (by decide) ?_
              show Steps p.tables e below (T124.setTop (mkF m 127 #[.val (.int p0_), .val (.int p1_), .val (.int p2_), .val (.int p3_), .val (.int p4_), .val (.int ((p0_ &&& (2147483647 : Int32)) % (9 : Int32))), .val (.ref b3), .val (.ref b85), .val (.ref b108), .val (.int (0 : Int32)), .unset] [])) _
              refine XS.iconst X124.here hx rfl (hb hby at_127) ?_
              show Steps p.tables e below (T124.setTop (mkF m 128 #[.val (.int p0_), .val (.int p1_), .val (.int p2_), .val (.int p3_), .val (.int p4_), .val (.int ((p0_ &&& (2147483647 : Int32)) % (9 : Int32))), .val (.ref b3), .val (.ref b85), .val (.ref b108), .val (.int (0 : Int32)), .unset] [(.int (0 : Int32))])) _
              refine XS.istore X124.here hx rfl (hb hby at_128) rfl (l' := #[.val (.int p0_), .val (.int p1_), .val (.int p2_), .val (.int p3_), .val (.int p4_), .val (.int ((p0_ &&& (2147483647 : Int32)) % (9 : Int32))), .val (.ref b3), .val (.ref b85), .val (.ref b108), .val (.int (0 : Int32)), .val (.int (0 : Int32))]) rfl ?_
              show Steps p.tables e below (T124.setTop (mkF m 130 #[.val (.int p0_), .val (.int p1_), .val (.int p2_), .val (.int p3_), .val (.int p4_), .val (.int ((p0_ &&& (2147483647 : Int32)) % (9 : Int32))), .val (.ref b3), .val (.ref b85), .val (.ref b108), .val (.int (0 : Int32)), .val (.int (0 : Int32))] [])) _
              refine XS.iload X124.here hx rfl (hb hby at_130) rfl ?_
              show Steps p.tables e below (T124.setTop (mkF m 132 #[.val (.int p0_), .val (.int p1_), .val (.int p2_), .val (.int p3_), .val (.int p4_), .val (.int ((p0_ &&& (2147483647 : Int32)) % (9 : Int32))), .val (.ref b3), .val (.ref b85), .val (.ref b108), .val (.int (0 : Int32)), .val (.int (0 : Int32))] [(.int (0 : Int32))])) _
              refine XS.iload X124.here hx rfl (hb hby at_132) rfl ?_
              show Steps p.tables e below (T124.setTop (mkF m 134 #[.val (.int p0_), .val (.int p1_), .val (.int p2_), .val (.int p3_), .val (.int p4_), .val (.int ((p0_ &&& (2147483647 : Int32)) % (9 : Int32))), .val (.ref b3), .val (.ref b85), .val (.ref b108), .val (.int (0 : Int32)), .val (.int (0 : Int32))] [(.int (0 : Int32)), (.int (0 : Int32))])) _
              refine XS.icmpNo X124.here hx rfl (hb hby at_134) rfl (teq (by decide : (0 : Int32) = (0 : Int32))).2 ?_
              show Steps p.tables e below (T124.setTop (mkF m 137 #[.val (.int p0_), .val (.int p1_), .val (.int p2_), .val (.int p3_), .val (.int p4_), .val (.int ((p0_ &&& (2147483647 : Int32)) % (9 : Int32))), .val (.ref b3), .val (.ref b85), .val (.ref b108), .val (.int (0 : Int32)), .val (.int (0 : Int32))] [])) _
              refine XS.iconst X124.here hx rfl (hb hby at_137) ?_
              show Steps p.tables e below (T124.setTop (mkF m 138 #[.val (.int p0_), .val (.int p1_), .val (.int p2_), .val (.int p3_), .val (.int p4_), .val (.int ((p0_ &&& (2147483647 : Int32)) % (9 : Int32))), .val (.ref b3), .val (.ref b85), .val (.ref b108), .val (.int (0 : Int32)), .val (.int (0 : Int32))] [(.int (1 : Int32))])) _
              refine XS.goto X124.here hx rfl (pc0 := 138) (pc' := 142) rfl (hb hby at_138) (by decide) (by decide) ?_
              exact kt
            obtain ⟨fs, hr, hrun, hended, hW, hsame⟩ := X124.leave (v := some (.int (1 : Int32))) (fun h => by rw [Bd.returns] at h; cases h)
            refine ⟨_, _, pre154 _ (retN X124 hx (t := .boolean) Bd.returns (by simp) (hb hby at_142) hr), hrun, hended, _, _, rfl, ?_, ⟨_, rfl⟩, hW, hsame.mono (by decide) (by decide)⟩
            show QLaw Z p0_ p1_ p2_ p3_ p4_ w_COMPACT_STRINGS w_FLOAT w_LONG w_INT w_REFERENCE w_DOUBLE h0 n0 _ T124.heap _
            rw [e124']
            exact ⟨rfl, N133⟩
          · obtain ⟨cq156, kq156, q156a, q156b, q156c⟩ := isOf hZ e124' g116_0
            obtain ⟨_, _, ⟨T156, L156, k156, n156⟩, -, X156, ⟨Lc156, hQ156, l156, y156, z156⟩, st156⟩ := X124.virtualBack hx (y := (⟨"com/example/stackweave/stackweave/classfile/VerificationType", "kind", "()Lcom/example/stackweave/stackweave/classfile/ValueKind;"⟩ : MethodName)) (z := (⟨"com/example/stackweave/stackweave/classfile/VerificationType", "kind", "()Lcom/example/stackweave/stackweave/classfile/ValueKind;"⟩ : MethodName)) hown (mvT hZ (hw _ (List.mem_of_getElem? (i := 54) rfl))) (mvT hZ (hw _ (List.mem_of_getElem? (i := 55) rfl))) (notFace_of_selects (args := #[]) (mvT hZ (hw _ (List.mem_of_getElem? (i := 57) rfl)))) (mvT hZ (hw _ (List.mem_of_getElem? (i := 57) rfl))) (mvT hZ (hw _ (List.mem_of_getElem? (i := 56) rfl))) (by decide) (backOf (W := 0) (rmkind23 l Z a0 hw [] b108 ((p0_ &&& (2147483647 : Int32)) % (9 : Int32)) b85 p4_ nnnb1_3_2_98 k1_3_2_98 ((p2_ &&& (255 : Int32)).toInt8.toInt32) ((p3_ &&& (255 : Int32)).toInt8.toInt32) w_INT w_FLOAT w_DOUBLE w_LONG w_REFERENCE h116 n0 f132 hq124_2_0 hq124_2_1 hc149 hc153 g116_0 g116_1 g116_2 g116_3 f125 f126 f128 f129 f131 P6 P14 P5 P10 P16 P9 P2 P12 P1 P8 P15 P7 P4 P13 P3) hZ (hw _ (List.mem_of_getElem? (i := 58) rfl)) (hw _ (List.mem_of_getElem? (i := 32) rfl)) (by decide) (by decide)) q156a q156c (g := (mkF m 100 #[.val (.int p0_), .val (.int p1_), .val (.int p2_), .val (.int p3_), .val (.int p4_), .val (.int ((p0_ &&& (2147483647 : Int32)) % (9 : Int32))), .val (.ref b3), .val (.ref b85), .val (.ref b108), .val (.int (0 : Int32)), .unset] [(.ref b108)])) rfl (by rw [hml]; rfl) (Steps.refl _) (argsL := []) (rest := []) (lenOf pd_3 rfl) rfl (by show 2 * 0 + _ ≤ _; exact Nat.le_of_eq rfl) (hb hby at_100) (fun _ _ => ⟨rfl, e124', (by decide : 4 + 0 ≤ _), (by decide : 11 + 0 ≤ _)⟩)
            dsimp only [Pt.U, Pt.locs, Pt.cells, Pt.slots] at X156 l156 y156 z156 st156 hQ156
            subst l156 y156 z156
            obtain ⟨h156, e156⟩ : ∃ z, T156.heap = z := ⟨_, rfl⟩
            rw [e156] at hQ156
            obtain ⟨rr156, rfl, hs156, N156q, hh156⟩ := hQ156
            have N157 := Fr.app N133 N156q
            have e156' : T156.heap = h116 := e156.trans hh156
            rcases hs156 with ⟨rfl, hq156_0_0⟩ | ⟨rfl, hq156_1_0, hq156_1_1⟩ | ⟨rfl, hq156_2_0, hq156_2_1, hq156_2_2⟩ | ⟨rfl, hq156_3_0, hq156_3_1, hq156_3_2, hq156_3_3⟩ | ⟨rfl, hq156_4_0, hq156_4_1, hq156_4_2, hq156_4_3, hq156_4_4⟩ | ⟨rfl, hq156_5_0, hq156_5_1, hq156_5_2, hq156_5_3, hq156_5_4, hq156_5_5⟩
            · obtain ⟨T158, X158, e158, st158⟩ := getS2 X156 hx hZ hown (host := "") (Or.inl (hw _ (List.mem_of_getElem? (i := 62) rfl))) Via.refl e156' (P3.ext f132.2) (g := (mkF m 103 #[.val (.int p0_), .val (.int p1_), .val (.int p2_), .val (.int p3_), .val (.int p4_), .val (.int ((p0_ &&& (2147483647 : Int32)) % (9 : Int32))), .val (.ref b3), .val (.ref b85), .val (.ref b108), .val (.int (0 : Int32)), .unset] [(.ref w_INT)])) rfl (hb hby at_103)
              have ne159 : w_INT ≠ w_REFERENCE := Fld.ne P14 P13 (fun q => absurd (Value.int.inj q) (by decide))
              have pre160 : ∀ t, Steps p.tables e below (T158.setTop (mkF m 142 #[.val (.int p0_), .val (.int p1_), .val (.int p2_), .val (.int p3_), .val (.int p4_), .val (.int ((p0_ &&& (2147483647 : Int32)) % (9 : Int32))), .val (.ref b3), .val (.ref b85), .val (.ref b108), .val (.int (0 : Int32)), .val (.int (0 : Int32))] [(.int (1 : Int32))])) t → Steps p.tables e below (s₁.setTop (entryFrame m #[(.int p0_), (.int p1_), (.int p2_), (.int p3_), (.int p4_)] maxLocals)) t := by
                intro t kt
                refine pre152 t ?_
                show Steps p.tables e below (T124.setTop (mkF m 95 #[.val (.int p0_), .val (.int p1_), .val (.int p2_), .val (.int p3_), .val (.int p4_), .val (.int ((p0_ &&& (2147483647 : Int32)) % (9 : Int32))), .val (.ref b3), .val (.ref b85), .val (.ref b108), .val (.int (0 : Int32)), .unset] [(.int (8 : Int32)), (.int ((p0_ &&& (2147483647 : Int32)) % (9 : Int32)))])) _
                refine XS.icmpNo X124.here hx rfl (hb hby at_95) rfl (flt hc153).2.2.1 ?_
                show Steps p.tables e below (T124.setTop (mkF m 98 #[.val (.int p0_), .val (.int p1_), .val (.int p2_), .val (.int p3_), .val (.int p4_), .val (.int ((p0_ &&& (2147483647 : Int32)) % (9 : Int32))), .val (.ref b3), .val (.ref b85), .val (.ref b108), .val (.int (0 : Int32)), .unset] [])) _
                refine XS.aload X124.here hx rfl (hb hby at_98) rfl rfl ?_
                show Steps p.tables e below (T124.setTop (mkF m 100 #[.val (.int p0_), .val (.int p1_), .val (.int p2_), .val (.int p3_), .val (.int p4_), .val (.int ((p0_ &&& (2147483647 : Int32)) % (9 : Int32))), .val (.ref b3), .val (.ref b85), .val (.ref b108), .val (.int (0 : Int32)), .unset] [(.ref b108)])) _
                refine st156.trans ?_
                show Steps p.tables e below (T156.setTop (mkF m 103 #[.val (.int p0_), .val (.int p1_), .val (.int p2_), .val (.int p3_), .val (.int p4_), .val (.int ((p0_ &&& (2147483647 : Int32)) % (9 : Int32))), .val (.ref b3), .val (.ref b85), .val (.ref b108), .val (.int (0 : Int32)), .unset] [(.ref w_INT)])) _
                refine st158 _ ?_
                show Steps p.tables e below (T158.setTop (mkF m 106 #[.val (.int p0_), .val (.int p1_), .val (.int p2_), .val (.int p3_), .val (.int p4_), .val (.int ((p0_ &&& (2147483647 : Int32)) % (9 : Int32))), .val (.ref b3), .val (.ref b85), .val (.ref b108), .val (.int (0 : Int32)), .unset] [(.ref w_REFERENCE), (.ref w_INT)])) _
                refine Jvm.RoadKit.acmp (g := (mkF m 106 #[.val (.int p0_), .val (.int p1_), .val (.int p2_), .val (.int p3_), .val (.int p4_), .val (.int ((p0_ &&& (2147483647 : Int32)) % (9 : Int32))), .val (.ref b3), .val (.ref b85), .val (.ref b108), .val (.int (0 : Int32)), .unset] [(.ref w_REFERENCE), (.ref w_INT)])) X158 hx rfl rfl rfl (pc0 := 106) (pc' := 121) (same := false) rfl (hb hby at_106) rfl (decide_eq_false fun q => ne159 (Value.ref.inj q)) (by decide) (by decide) ?_
                show Steps p.tables e below (T158.setTop (mkF m 121 #[.val (.int p0_), .val (.int p1_), .val (.int p2_), .val (.int p3_), .val (.int p4_), .val (.int ((p0_ &&& (2147483647 : Int32)) % (9 : Int32))), .val (.ref b3), .val (.ref b85), .val (.ref b108), .val (.int (0 : Int32)), .unset] [])) _
                refine XS.iconst X158.here hx rfl (hb hby at_121) ?_
                show Steps p.tables e below (T158.setTop (mkF m 122 #[.val (.int p0_), .val (.int p1_), .val (.int p2_), .val (.int p3_), .val (.int p4_), .val (.int ((p0_ &&& (2147483647 : Int32)) % (9 : Int32))), .val (.ref b3), .val (.ref b85), .val (.ref b108), .val (.int (0 : Int32)), .unset] [(.int (0 : Int32))])) _
                refine XS.istore X158.here hx rfl (hb hby at_122) rfl (l' := #[.val (.int p0_), .val (.int p1_), .val (.int p2_), .val (.int p3_), .val (.int p4_), .val (.int ((p0_ &&& (2147483647 : Int32)) % (9 : Int32))), .val (.ref b3), .val (.ref b85), .val (.ref b108), .val (.int (0 : Int32)), .val (.int (0 : Int32))]) rfl ?_
                show Steps p.tables e below (T158.setTop (mkF m 124 #[.val (.int p0_), .val (.int p1_), .val (.int p2_), .val (.int p3_), .val (.int p4_), .val (.int ((p0_ &&& (2147483647 : Int32)) % (9 : Int32))), .val (.ref b3), .val (.ref b85), .val (.ref b108), .val (.int (0 : Int32)), .val (.int (0 : Int32))] [])) _
                refine XS.goto X158.here hx rfl (pc0 := 124) (pc' := 130) rfl (hb hby at_124) (by decide) (by decide) ?_
                show Steps p.tables e below (T158.setTop (mkF m 130 #[.val (.int p0_), .val (.int p1_), .val (.int p2_), .val (.int p3_), .val (.int p4_), .val (.int ((p0_ &&& (2147483647 : Int32)) % (9 : Int32))), .val (.ref b3), .val (.ref b85), .val (.ref b108), .val (.int (0 : Int32)), .val (.int (0 : Int32))] [])) _
                refine XS.iload X158.here hx rfl (hb hby at_130) rfl ?_
                show Steps p.tables e below (T158.setTop (mkF m 132 #[.val (.int p0_), .val (.int p1_), .val (.int p2_), .val (.int p3_), .val (.int p4_), .val (.int ((p0_ &&& (2147483647 : Int32)) % (9 : Int32))), .val (.ref b3), .val (.ref b85), .val (.ref b108), .val (.int (0 : Int32)), .val (.int (0 : Int32))] [(.int (0 : Int32))])) _
                refine XS.iload X158.here hx rfl (hb hby at_132) rfl ?_
                show Steps p.tables e below (T158.setTop (mkF m 134 #[.val (.int p0_), .val (.int p1_), .val (.int p2_), .val (.int p3_), .val (.int p4_), .val (.int ((p0_ &&& (2147483647 : Int32)) % (9 : Int32))), .val (.ref b3), .val (.ref b85), .val (.ref b108), .val (.int (0 : Int32)), .val (.int (0 : Int32))] [(.int (0 : Int32)), (.int (0 : Int32))])) _
                refine XS.icmpNo X158.here hx rfl (hb hby at_134) rfl (teq (by decide : (0 : Int32) = (0 : Int32))).2 ?_
                show Steps p.tables e below (T158.setTop (mkF m 137 #[.val (.int p0_), .val (.int p1_), .val (.int p2_), .val (.int p3_), .val (.int p4_), .val (.int ((p0_ &&& (2147483647 : Int32)) % (9 : Int32))), .val (.ref b3), .val (.ref b85), .val (.ref b108), .val (.int (0 : Int32)), .val (.int (0 : Int32))] [])) _
                refine XS.iconst X158.here hx rfl (hb hby at_137) ?_
                show Steps p.tables e below (T158.setTop (mkF m 138 #[.val (.int p0_), .val (.int p1_), .val (.int p2_), .val (.int p3_), .val (.int p4_), .val (.int ((p0_ &&& (2147483647 : Int32)) % (9 : Int32))), .val (.ref b3), .val (.ref b85), .val (.ref b108), .val (.int (0 : Int32)), .val (.int (0 : Int32))] [(.int (1 : Int32))])) _
                refine XS.goto X158.here hx rfl (pc0 := 138) (pc' := 142) rfl (hb hby at_138) (by decide) (by decide) ?_
                exact kt
              obtain ⟨fs, hr, hrun, hended, hW, hsame⟩ := X158.leave (v := some (.int (1 : Int32))) (fun h => by rw [Bd.returns] at h; cases h)
              refine ⟨_, _, pre160 _ (retN X158 hx (t := .boolean) Bd.returns (by simp) (hb hby at_142) hr), hrun, hended, _, _, rfl, ?_, ⟨_, rfl⟩, hW, hsame.mono (by decide) (by decide)⟩
              show QLaw Z p0_ p1_ p2_ p3_ p4_ w_COMPACT_STRINGS w_FLOAT w_LONG w_INT w_REFERENCE w_DOUBLE h0 n0 _ T158.heap _
              rw [e158]
              exact ⟨rfl, N157⟩
            · obtain ⟨T162, X162, e162, st162⟩ := getS2 X156 hx hZ hown (host := "") (Or.inl (hw _ (List.mem_of_getElem? (i := 62) rfl))) Via.refl e156' (P3.ext f132.2) (g := (mkF m 103 #[.val (.int p0_), .val (.int p1_), .val (.int p2_), .val (.int p3_), .val (.int p4_), .val (.int ((p0_ &&& (2147483647 : Int32)) % (9 : Int32))), .val (.ref b3), .val (.ref b85), .val (.ref b108), .val (.int (0 : Int32)), .unset] [(.ref w_FLOAT)])) rfl (hb hby at_103)
              have ne163 : w_FLOAT ≠ w_REFERENCE := Fld.ne P16 P13 (fun q => absurd (Value.int.inj q) (by decide))
              have pre164 : ∀ t, Steps p.tables e below (T162.setTop (mkF m 142 #[.val (.int p0_), .val (.int p1_), .val (.int p2_), .val (.int p3_), .val (.int p4_), .val (.int ((p0_ &&& (2147483647 : Int32)) % (9 : Int32))), .val (.ref b3), .val (.ref b85), .val (.ref b108), .val (.int (0 : Int32)), .val (.int (0 : Int32))] [(.int (1 : Int32))])) t → Steps p.tables e below (s₁.setTop (entryFrame m #[(.int p0_), (.int p1_), (.int p2_), (.int p3_), (.int p4_)] maxLocals)) t := by
                intro t kt
                refine pre152 t ?_
                show Steps p.tables e below (T124.setTop (mkF m 95 #[.val (.int p0_), .val (.int p1_), .val (.int p2_), .val (.int p3_), .val (.int p4_), .val (.int ((p0_ &&& (2147483647 : Int32)) % (9 : Int32))), .val (.ref b3), .val (.ref b85), .val (.ref b108), .val (.int (0 : Int32)), .unset] [(.int (8 : Int32)), (.int ((p0_ &&& (2147483647 : Int32)) % (9 : Int32)))])) _
                refine XS.icmpNo X124.here hx rfl (hb hby at_95) rfl (flt hc153).2.2.1 ?_
                show Steps p.tables e below (T124.setTop (mkF m 98 #[.val (.int p0_), .val (.int p1_), .val (.int p2_), .val (.int p3_), .val (.int p4_), .val (.int ((p0_ &&& (2147483647 : Int32)) % (9 : Int32))), .val (.ref b3), .val (.ref b85), .val (.ref b108), .val (.int (0 : Int32)), .unset] [])) _
                refine XS.aload X124.here hx rfl (hb hby at_98) rfl rfl ?_
                show Steps p.tables e below (T124.setTop (mkF m 100 #[.val (.int p0_), .val (.int p1_), .val (.int p2_), .val (.int p3_), .val (.int p4_), .val (.int ((p0_ &&& (2147483647 : Int32)) % (9 : Int32))), .val (.ref b3), .val (.ref b85), .val (.ref b108), .val (.int (0 : Int32)), .unset] [(.ref b108)])) _
                refine st156.trans ?_
                show Steps p.tables e below (T156.setTop (mkF m 103 #[.val (.int p0_), .val (.int p1_), .val (.int p2_), .val (.int p3_), .val (.int p4_), .val (.int ((p0_ &&& (2147483647 : Int32)) % (9 : Int32))), .val (.ref b3), .val (.ref b85), .val (.ref b108), .val (.int (0 : Int32)), .unset] [(.ref w_FLOAT)])) _
                refine st162 _ ?_
                show Steps p.tables e below (T162.setTop (mkF m 106 #[.val (.int p0_), .val (.int p1_), .val (.int p2_), .val (.int p3_), .val (.int p4_), .val (.int ((p0_ &&& (2147483647 : Int32)) % (9 : Int32))), .val (.ref b3), .val (.ref b85), .val (.ref b108), .val (.int (0 : Int32)), .unset] [(.ref w_REFERENCE), (.ref w_FLOAT)])) _
                refine Jvm.RoadKit.acmp (g := (mkF m 106 #[.val (.int p0_), .val (.int p1_), .val (.int p2_), .val (.int p3_), .val (.int p4_), .val (.int ((p0_ &&& (2147483647 : Int32)) % (9 : Int32))), .val (.ref b3), .val (.ref b85), .val (.ref b108), .val (.int (0 : Int32)), .unset] [(.ref w_REFERENCE), (.ref w_FLOAT)])) X162 hx rfl rfl rfl (pc0 := 106) (pc' := 121) (same := false) rfl (hb hby at_106) rfl (decide_eq_false fun q => ne163 (Value.ref.inj q)) (by decide) (by decide) ?_
                show Steps p.tables e below (T162.setTop (mkF m 121 #[.val (.int p0_), .val (.int p1_), .val (.int p2_), .val (.int p3_), .val (.int p4_), .val (.int ((p0_ &&& (2147483647 : Int32)) % (9 : Int32))), .val (.ref b3), .val (.ref b85), .val (.ref b108), .val (.int (0 : Int32)), .unset] [])) _
                refine XS.iconst X162.here hx rfl (hb hby at_121) ?_
                show Steps p.tables e below (T162.setTop (mkF m 122 #[.val (.int p0_), .val (.int p1_), .val (.int p2_), .val (.int p3_), .val (.int p4_), .val (.int ((p0_ &&& (2147483647 : Int32)) % (9 : Int32))), .val (.ref b3), .val (.ref b85), .val (.ref b108), .val (.int (0 : Int32)), .unset] [(.int (0 : Int32))])) _
                refine XS.istore X162.here hx rfl (hb hby at_122) rfl (l' := #[.val (.int p0_), .val (.int p1_), .val (.int p2_), .val (.int p3_), .val (.int p4_), .val (.int ((p0_ &&& (2147483647 : Int32)) % (9 : Int32))), .val (.ref b3), .val (.ref b85), .val (.ref b108), .val (.int (0 : Int32)), .val (.int (0 : Int32))]) rfl ?_
                show Steps p.tables e below (T162.setTop (mkF m 124 #[.val (.int p0_), .val (.int p1_), .val (.int p2_), .val (.int p3_), .val (.int p4_), .val (.int ((p0_ &&& (2147483647 : Int32)) % (9 : Int32))), .val (.ref b3), .val (.ref b85), .val (.ref b108), .val (.int (0 : Int32)), .val (.int (0 : Int32))] [])) _
                refine XS.goto X162.here hx rfl (pc0 := 124) (pc' := 130) rfl (hb hby at_124) (by decide) (by decide) ?_
                show Steps p.tables e below (T162.setTop (mkF m 130 #[.val (.int p0_), .val (.int p1_), .val (.int p2_), .val (.int p3_), .val (.int p4_), .val (.int ((p0_ &&& (2147483647 : Int32)) % (9 : Int32))), .val (.ref b3), .val (.ref b85), .val (.ref b108), .val (.int (0 : Int32)), .val (.int (0 : Int32))] [])) _
                refine XS.iload X162.here hx rfl (hb hby at_130) rfl ?_
                show Steps p.tables e below (T162.setTop (mkF m 132 #[.val (.int p0_), .val (.int p1_), .val (.int p2_), .val (.int p3_), .val (.int p4_), .val (.int ((p0_ &&& (2147483647 : Int32)) % (9 : Int32))), .val (.ref b3), .val (.ref b85), .val (.ref b108), .val (.int (0 : Int32)), .val (.int (0 : Int32))] [(.int (0 : Int32))])) _
                refine XS.iload X162.here hx rfl (hb hby at_132) rfl ?_
                show Steps p.tables e below (T162.setTop (mkF m 134 #[.val (.int p0_), .val (.int p1_), .val (.int p2_), .val (.int p3_), .val (.int p4_), .val (.int ((p0_ &&& (2147483647 : Int32)) % (9 : Int32))), .val (.ref b3), .val (.ref b85), .val (.ref b108), .val (.int (0 : Int32)), .val (.int (0 : Int32))] [(.int (0 : Int32)), (.int (0 : Int32))])) _
                refine XS.icmpNo X162.here hx rfl (hb hby at_134) rfl (teq (by decide : (0 : Int32) = (0 : Int32))).2 ?_
                show Steps p.tables e below (T162.setTop (mkF m 137 #[.val (.int p0_), .val (.int p1_), .val (.int p2_), .val (.int p3_), .val (.int p4_), .val (.int ((p0_ &&& (2147483647 : Int32)) % (9 : Int32))), .val (.ref b3), .val (.ref b85), .val (.ref b108), .val (.int (0 : Int32)), .val (.int (0 : Int32))] [])) _
                refine XS.iconst X162.here hx rfl (hb hby at_137) ?_
                show Steps p.tables e below (T162.setTop (mkF m 138 #[.val (.int p0_), .val (.int p1_), .val (.int p2_), .val (.int p3_), .val (.int p4_), .val (.int ((p0_ &&& (2147483647 : Int32)) % (9 : Int32))), .val (.ref b3), .val (.ref b85), .val (.ref b108), .val (.int (0 : Int32)), .val (.int (0 : Int32))] [(.int (1 : Int32))])) _
                refine XS.goto X162.here hx rfl (pc0 := 138) (pc' := 142) rfl (hb hby at_138) (by decide) (by decide) ?_
                exact kt
              obtain ⟨fs, hr, hrun, hended, hW, hsame⟩ := X162.leave (v := some (.int (1 : Int32))) (fun h => by rw [Bd.returns] at h; cases h)
              refine ⟨_, _, pre164 _ (retN X162 hx (t := .boolean) Bd.returns (by simp) (hb hby at_142) hr), hrun, hended, _, _, rfl, ?_, ⟨_, rfl⟩, hW, hsame.mono (by decide) (by decide)⟩
              show QLaw Z p0_ p1_ p2_ p3_ p4_ w_COMPACT_STRINGS w_FLOAT w_LONG w_INT w_REFERENCE w_DOUBLE h0 n0 _ T162.heap _
              rw [e162]
              exact ⟨rfl, N157⟩
            · obtain ⟨T166, X166, e166, st166⟩ := getS2 X156 hx hZ hown (host := "") (Or.inl (hw _ (List.mem_of_getElem? (i := 62) rfl))) Via.refl e156' (P3.ext f132.2) (g := (mkF m 103 #[.val (.int p0_), .val (.int p1_), .val (.int p2_), .val (.int p3_), .val (.int p4_), .val (.int ((p0_ &&& (2147483647 : Int32)) % (9 : Int32))), .val (.ref b3), .val (.ref b85), .val (.ref b108), .val (.int (0 : Int32)), .unset] [(.ref w_DOUBLE)])) rfl (hb hby at_103)
              have ne167 : w_DOUBLE ≠ w_REFERENCE := Fld.ne P12 P13 (fun q => absurd (Value.int.inj q) (by decide))
              have pre168 : ∀ t, Steps p.tables e below (T166.setTop (mkF m 142 #[.val (.int p0_), .val (.int p1_), .val (.int p2_), .val (.int p3_), .val (.int p4_), .val (.int ((p0_ &&& (2147483647 : Int32)) % (9 : Int32))), .val (.ref b3), .val (.ref b85), .val (.ref b108), .val (.int (0 : Int32)), .val (.int (0 : Int32))] [(.int (1 : Int32))])) t → Steps p.tables e below (s₁.setTop (entryFrame m #[(.int p0_), (.int p1_), (.int p2_), (.int p3_), (.int p4_)] maxLocals)) t := by
                intro t kt
                refine pre152 t ?_
                show Steps p.tables e below (T124.setTop (mkF m 95 #[.val (.int p0_), .val (.int p1_), .val (.int p2_), .val (.int p3_), .val (.int p4_), .val (.int ((p0_ &&& (2147483647 : Int32)) % (9 : Int32))), .val (.ref b3), .val (.ref b85), .val (.ref b108), .val (.int (0 : Int32)), .unset] [(.int (8 : Int32)), (.int ((p0_ &&& (2147483647 : Int32)) % (9 : Int32)))])) _
                refine XS.icmpNo X124.here hx rfl (hb hby at_95) rfl (flt hc153).2.2.1 ?_
                show Steps p.tables e below (T124.setTop (mkF m 98 #[.val (.int p0_), .val (.int p1_), .val (.int p2_), .val (.int p3_), .val (.int p4_), .val (.int ((p0_ &&& (2147483647 : Int32)) % (9 : Int32))), .val (.ref b3), .val (.ref b85), .val (.ref b108), .val (.int (0 : Int32)), .unset] [])) _
                refine XS.aload X124.here hx rfl (hb hby at_98) rfl rfl ?_
                show Steps p.tables e below (T124.setTop (mkF m 100 #[.val (.int p0_), .val (.int p1_), .val (.int p2_), .val (.int p3_), .val (.int p4_), .val (.int ((p0_ &&& (2147483647 : Int32)) % (9 : Int32))), .val (.ref b3), .val (.ref b85), .val (.ref b108), .val (.int (0 : Int32)), .unset] [(.ref b108)])) _
                refine st156.trans ?_
                show Steps p.tables e below (T156.setTop (mkF m 103 #[.val (.int p0_), .val (.int p1_), .val (.int p2_), .val (.int p3_), .val (.int p4_), .val (.int ((p0_ &&& (2147483647 : Int32)) % (9 : Int32))), .val (.ref b3), .val (.ref b85), .val (.ref b108), .val (.int (0 : Int32)), .unset] [(.ref w_DOUBLE)])) _
                refine st166 _ ?_
                show Steps p.tables e below (T166.setTop (mkF m 106 #[.val (.int p0_), .val (.int p1_), .val (.int p2_), .val (.int p3_), .val (.int p4_), .val (.int ((p0_ &&& (2147483647 : Int32)) % (9 : Int32))), .val (.ref b3), .val (.ref b85), .val (.ref b108), .val (.int (0 : Int32)), .unset] [(.ref w_REFERENCE), (.ref w_DOUBLE)])) _
                refine Jvm.RoadKit.acmp (g := (mkF m 106 #[.val (.int p0_), .val (.int p1_), .val (.int p2_), .val (.int p3_), .val (.int p4_), .val (.int ((p0_ &&& (2147483647 : Int32)) % (9 : Int32))), .val (.ref b3), .val (.ref b85), .val (.ref b108), .val (.int (0 : Int32)), .unset] [(.ref w_REFERENCE), (.ref w_DOUBLE)])) X166 hx rfl rfl rfl (pc0 := 106) (pc' := 121) (same := false) rfl (hb hby at_106) rfl (decide_eq_false fun q => ne167 (Value.ref.inj q)) (by decide) (by decide) ?_
                show Steps p.tables e below (T166.setTop (mkF m 121 #[.val (.int p0_), .val (.int p1_), .val (.int p2_), .val (.int p3_), .val (.int p4_), .val (.int ((p0_ &&& (2147483647 : Int32)) % (9 : Int32))), .val (.ref b3), .val (.ref b85), .val (.ref b108), .val (.int (0 : Int32)), .unset] [])) _
                refine XS.iconst X166.here hx rfl (hb hby at_121) ?_
                show Steps p.tables e below (T166.setTop (mkF m 122 #[.val (.int p0_), .val (.int p1_), .val (.int p2_), .val (.int p3_), .val (.int p4_), .val (.int ((p0_ &&& (2147483647 : Int32)) % (9 : Int32))), .val (.ref b3), .val (.ref b85), .val (.ref b108), .val (.int (0 : Int32)), .unset] [(.int (0 : Int32))])) _
                refine XS.istore X166.here hx rfl (hb hby at_122) rfl (l' := #[.val (.int p0_), .val (.int p1_), .val (.int p2_), .val (.int p3_), .val (.int p4_), .val (.int ((p0_ &&& (2147483647 : Int32)) % (9 : Int32))), .val (.ref b3), .val (.ref b85), .val (.ref b108), .val (.int (0 : Int32)), .val (.int (0 : Int32))]) rfl ?_
                show Steps p.tables e below (T166.setTop (mkF m 124 #[.val (.int p0_), .val (.int p1_), .val (.int p2_), .val (.int p3_), .val (.int p4_), .val (.int ((p0_ &&& (2147483647 : Int32)) % (9 : Int32))), .val (.ref b3), .val (.ref b85), .val (.ref b108), .val (.int (0 : Int32)), .val (.int (0 : Int32))] [])) _
                refine XS.goto X166.here hx rfl (pc0 := 124) (pc' := 130) rfl (hb hby at_124) (by decide) (by decide) ?_
                show Steps p.tables e below (T166.setTop (mkF m 130 #[.val (.int p0_), .val (.int p1_), .val (.int p2_), .val (.int p3_), .val (.int p4_), .val (.int ((p0_ &&& (2147483647 : Int32)) % (9 : Int32))), .val (.ref b3), .val (.ref b85), .val (.ref b108), .val (.int (0 : Int32)), .val (.int (0 : Int32))] [])) _
                refine XS.iload X166.here hx rfl (hb hby at_130) rfl ?_
                show Steps p.tables e below (T166.setTop (mkF m 132 #[.val (.int p0_), .val (.int p1_), .val (.int p2_), .val (.int p3_), .val (.int p4_), .val (.int ((p0_ &&& (2147483647 : Int32)) % (9 : Int32))), .val (.ref b3), .val (.ref b85), .val (.ref b108), .val (.int (0 : Int32)), .val (.int (0 : Int32))] [(.int (0 : Int32))])) _
                refine XS.iload X166.here hx rfl (hb hby at_132) rfl ?_
                show Steps p.tables e below (T166.setTop (mkF m 134 #[.val (.int p0_), .val (.int p1_), .val (.int p2_), .val (.int p3_), .val (.int p4_), .val (.int ((p0_ &&& (2147483647 : Int32)) % (9 : Int32))), .val (.ref b3), .val (.ref b85), .val (.ref b108), .val (.int (0 : Int32)), .val (.int (0 : Int32))] [(.int (0 : Int32)), (.int (0 : Int32))])) _
                refine XS.icmpNo X166.here hx rfl (hb hby at_134) rfl (teq (by decide : (0 : Int32) = (0 : Int32))).2 ?_
                show Steps p.tables e below (T166.setTop (mkF m 137 #[.val (.int p0_), .val (.int p1_), .val (.int p2_), .val (.int p3_), .val (.int p4_), .val (.int ((p0_ &&& (2147483647 : Int32)) % (9 : Int32))), .val (.ref b3), .val (.ref b85), .val (.ref b108), .val (.int (0 : Int32)), .val (.int (0 : Int32))] [])) _
                refine XS.iconst X166.here hx rfl (hb hby at_137) ?_
                show Steps p.tables e below (T166.setTop (mkF m 138 #[.val (.int p0_), .val (.int p1_), .val (.int p2_), .val (.int p3_), .val (.int p4_), .val (.int ((p0_ &&& (2147483647 : Int32)) % (9 : Int32))), .val (.ref b3), .val (.ref b85), .val (.ref b108), .val (.int (0 : Int32)), .val (.int (0 : Int32))] [(.int (1 : Int32))])) _
                refine XS.goto X166.here hx rfl (pc0 := 138) (pc' := 142) rfl (hb hby at_138) (by decide) (by decide) ?_
                exact kt
              obtain ⟨fs, hr, hrun, hended, hW, hsame⟩ := X166.leave (v := some (.int (1 : Int32))) (fun h => by rw [Bd.returns] at h; cases h)
              refine ⟨_, _, pre168 _ (retN X166 hx (t := .boolean) Bd.returns (by simp) (hb hby at_142) hr), hrun, hended, _, _, rfl, ?_, ⟨_, rfl⟩, hW, hsame.mono (by decide) (by decide)⟩
              show QLaw Z p0_ p1_ p2_ p3_ p4_ w_COMPACT_STRINGS w_FLOAT w_LONG w_INT w_REFERENCE w_DOUBLE h0 n0 _ T166.heap _
              rw [e166]
              exact ⟨rfl, N157⟩
            · obtain ⟨T170, X170, e170, st170⟩ := getS2 X156 hx hZ hown (host := "") (Or.inl (hw _ (List.mem_of_getElem? (i := 62) rfl))) Via.refl e156' (P3.ext f132.2) (g := (mkF m 103 #[.val (.int p0_), .val (.int p1_), .val (.int p2_), .val (.int p3_), .val (.int p4_), .val (.int ((p0_ &&& (2147483647 : Int32)) % (9 : Int32))), .val (.ref b3), .val (.ref b85), .val (.ref b108), .val (.int (0 : Int32)), .unset] [(.ref w_LONG)])) rfl (hb hby at_103)
              have ne171 : w_LONG ≠ w_REFERENCE := Fld.ne P15 P13 (fun q => absurd (Value.int.inj q) (by decide))
              have pre172 : ∀ t, Steps p.tables e below (T170.setTop (mkF m 142 #[.val (.int p0_), .val (.int p1_), .val (.int p2_), .val (.int p3_), .val (.int p4_), .val (.int ((p0_ &&& (2147483647 : Int32)) % (9 : Int32))), .val (.ref b3), .val (.ref b85), .val (.ref b108), .val (.int (0 : Int32)), .val (.int (0 : Int32))] [(.int (1 : Int32))])) t → Steps p.tables e below (s₁.setTop (entryFrame m #[(.int p0_), (.int p1_), (.int p2_), (.int p3_), (.int p4_)] maxLocals)) t := by
                intro t kt
                refine pre152 t ?_
                show Steps p.tables e below (T124.setTop (mkF m 95 #[.val (.int p0_), .val (.int p1_), .val (.int p2_), .val (.int p3_), .val (.int p4_), .val (.int ((p0_ &&& (2147483647 : Int32)) % (9 : Int32))), .val (.ref b3), .val (.ref b85), .val (.ref b108), .val (.int (0 : Int32)), .unset] [(.int (8 : Int32)), (.int ((p0_ &&& (2147483647 : Int32)) % (9 : Int32)))])) _
                refine XS.icmpNo X124.here hx rfl (hb hby at_95) rfl (flt hc153).2.2.1 ?_
                show Steps p.tables e below (T124.setTop (mkF m 98 #[.val (.int p0_), .val (.int p1_), .val (.int p2_), .val (.int p3_), .val (.int p4_), .val (.int ((p0_ &&& (2147483647 : Int32)) % (9 : Int32))), .val (.ref b3), .val (.ref b85), .val (.ref b108), .val (.int (0 : Int32)), .unset] [])) _
                refine XS.aload X124.here hx rfl (hb hby at_98) rfl rfl ?_
                show Steps p.tables e below (T124.setTop (mkF m 100 #[.val (.int p0_), .val (.int p1_), .val (.int p2_), .val (.int p3_), .val (.int p4_), .val (.int ((p0_ &&& (2147483647 : Int32)) % (9 : Int32))), .val (.ref b3), .val (.ref b85), .val (.ref b108), .val (.int (0 : Int32)), .unset] [(.ref b108)])) _
                refine st156.trans ?_
                show Steps p.tables e below (T156.setTop (mkF m 103 #[.val (.int p0_), .val (.int p1_), .val (.int p2_), .val (.int p3_), .val (.int p4_), .val (.int ((p0_ &&& (2147483647 : Int32)) % (9 : Int32))), .val (.ref b3), .val (.ref b85), .val (.ref b108), .val (.int (0 : Int32)), .unset] [(.ref w_LONG)])) _
                refine st170 _ ?_
                show Steps p.tables e below (T170.setTop (mkF m 106 #[.val (.int p0_), .val (.int p1_), .val (.int p2_), .val (.int p3_), .val (.int p4_), .val (.int ((p0_ &&& (2147483647 : Int32)) % (9 : Int32))), .val (.ref b3), .val (.ref b85), .val (.ref b108), .val (.int (0 : Int32)), .unset] [(.ref w_REFERENCE), (.ref w_LONG)])) _
                refine Jvm.RoadKit.acmp (g := (mkF m 106 #[.val (.int p0_), .val (.int p1_), .val (.int p2_), .val (.int p3_), .val (.int p4_), .val (.int ((p0_ &&& (2147483647 : Int32)) % (9 : Int32))), .val (.ref b3), .val (.ref b85), .val (.ref b108), .val (.int (0 : Int32)), .unset] [(.ref w_REFERENCE), (.ref w_LONG)])) X170 hx rfl rfl rfl (pc0 := 106) (pc' := 121) (same := false) rfl (hb hby at_106) rfl (decide_eq_false fun q => ne171 (Value.ref.inj q)) (by decide) (by decide) ?_
                show Steps p.tables e below (T170.setTop (mkF m 121 #[.val (.int p0_), .val (.int p1_), .val (.int p2_), .val (.int p3_), .val (.int p4_), .val (.int ((p0_ &&& (2147483647 : Int32)) % (9 : Int32))), .val (.ref b3), .val (.ref b85), .val (.ref b108), .val (.int (0 : Int32)), .unset] [])) _
                refine XS.iconst X170.here hx rfl (hb hby at_121) ?_
                show Steps p.tables e below (T170.setTop (mkF m 122 #[.val (.int p0_), .val (.int p1_), .val (.int p2_), .val (.int p3_), .val (.int p4_), .val (.int ((p0_ &&& (2147483647 : Int32)) % (9 : Int32))), .val (.ref b3), .val (.ref b85), .val (.ref b108), .val (.int (0 : Int32)), .unset] [(.int (0 : Int32))])) _
                refine XS.istore X170.here hx rfl (hb hby at_122) rfl (l' := #[.val (.int p0_), .val (.int p1_), .val (.int p2_), .val (.int p3_), .val (.int p4_), .val (.int ((p0_ &&& (2147483647 : Int32)) % (9 : Int32))), .val (.ref b3), .val (.ref b85), .val (.ref b108), .val (.int (0 : Int32)), .val (.int (0 : Int32))]) rfl ?_
                show Steps p.tables e below (T170.setTop (mkF m 124 #[.val (.int p0_), .val (.int p1_), .val (.int p2_), .val (.int p3_), .val (.int p4_), .val (.int ((p0_ &&& (2147483647 : Int32)) % (9 : Int32))), .val (.ref b3), .val (.ref b85), .val (.ref b108), .val (.int (0 : Int32)), .val (.int (0 : Int32))] [])) _
                refine XS.goto X170.here hx rfl (pc0 := 124) (pc' := 130) rfl (hb hby at_124) (by decide) (by decide) ?_
                show Steps p.tables e below (T170.setTop (mkF m 130 #[.val (.int p0_), .val (.int p1_), .val (.int p2_), .val (.int p3_), .val (.int p4_), .val (.int ((p0_ &&& (2147483647 : Int32)) % (9 : Int32))), .val (.ref b3), .val (.ref b85), .val (.ref b108), .val (.int (0 : Int32)), .val (.int (0 : Int32))] [])) _
                refine XS.iload X170.here hx rfl (hb hby at_130) rfl ?_
                show Steps p.tables e below (T170.setTop (mkF m 132 #[.val (.int p0_), .val (.int p1_), .val (.int p2_), .val (.int p3_), .val (.int p4_), .val (.int ((p0_ &&& (2147483647 : Int32)) % (9 : Int32))), .val (.ref b3), .val (.ref b85), .val (.ref b108), .val (.int (0 : Int32)), .val (.int (0 : Int32))] [(.int (0 : Int32))])) _
                refine XS.iload X170.here hx rfl (hb hby at_132) rfl ?_
                show Steps p.tables e below (T170.setTop (mkF m 134 #[.val (.int p0_), .val (.int p1_), .val (.int p2_), .val (.int p3_), .val (.int p4_), .val (.int ((p0_ &&& (2147483647 : Int32)) % (9 : Int32))), .val (.ref b3), .val (.ref b85), .val (.ref b108), .val (.int (0 : Int32)), .val (.int (0 : Int32))] [(.int (0 : Int32)), (.int (0 : Int32))])) _
                refine XS.icmpNo X170.here hx rfl (hb hby at_134) rfl (teq (by decide : (0 : Int32) = (0 : Int32))).2 ?_
                show Steps p.tables e below (T170.setTop (mkF m 137 #[.val (.int p0_), .val (.int p1_), .val (.int p2_), .val (.int p3_), .val (.int p4_), .val (.int ((p0_ &&& (2147483647 : Int32)) % (9 : Int32))), .val (.ref b3), .val (.ref b85), .val (.ref b108), .val (.int (0 : Int32)), .val (.int (0 : Int32))] [])) _
                refine XS.iconst X170.here hx rfl (hb hby at_137) ?_
                show Steps p.tables e below (T170.setTop (mkF m 138 #[.val (.int p0_), .val (.int p1_), .val (.int p2_), .val (.int p3_), .val (.int p4_), .val (.int ((p0_ &&& (2147483647 : Int32)) % (9 : Int32))), .val (.ref b3), .val (.ref b85), .val (.ref b108), .val (.int (0 : Int32)), .val (.int (0 : Int32))] [(.int (1 : Int32))])) _
                refine XS.goto X170.here hx rfl (pc0 := 138) (pc' := 142) rfl (hb hby at_138) (by decide) (by decide) ?_
                exact kt
              obtain ⟨fs, hr, hrun, hended, hW, hsame⟩ := X170.leave (v := some (.int (1 : Int32))) (fun h => by rw [Bd.returns] at h; cases h)
              refine ⟨_, _, pre172 _ (retN X170 hx (t := .boolean) Bd.returns (by simp) (hb hby at_142) hr), hrun, hended, _, _, rfl, ?_, ⟨_, rfl⟩, hW, hsame.mono (by decide) (by decide)⟩
              show QLaw Z p0_ p1_ p2_ p3_ p4_ w_COMPACT_STRINGS w_FLOAT w_LONG w_INT w_REFERENCE w_DOUBLE h0 n0 _ T170.heap _
              rw [e170]
              exact ⟨rfl, N157⟩
            · obtain ⟨T174, X174, e174, st174⟩ := getS2 X156 hx hZ hown (host := "") (Or.inl (hw _ (List.mem_of_getElem? (i := 62) rfl))) Via.refl e156' (P3.ext f132.2) (g := (mkF m 103 #[.val (.int p0_), .val (.int p1_), .val (.int p2_), .val (.int p3_), .val (.int p4_), .val (.int ((p0_ &&& (2147483647 : Int32)) % (9 : Int32))), .val (.ref b3), .val (.ref b85), .val (.ref b108), .val (.int (0 : Int32)), .unset] [(.ref w_REFERENCE)])) rfl (hb hby at_103)
              obtain ⟨cq175, kq175, q175a, q175b, q175c⟩ := isOf hZ e174 g116_0
              obtain ⟨_, _, ⟨T175, L175, k175, n175⟩, -, X175, ⟨Lc175, hQ175, l175, y175, z175⟩, st175⟩ := X174.virtualBack hx (y := (⟨"com/example/stackweave/stackweave/classfile/VerificationType", "isUninitialized", "()Z"⟩ : MethodName)) (z := (⟨"com/example/stackweave/stackweave/classfile/VerificationType", "isUninitialized", "()Z"⟩ : MethodName)) hown (mvT hZ (hw _ (List.mem_of_getElem? (i := 65) rfl))) (mvT hZ (hw _ (List.mem_of_getElem? (i := 66) rfl))) (notFace_of_selects (args := #[]) (mvT hZ (hw _ (List.mem_of_getElem? (i := 68) rfl)))) (mvT hZ (hw _ (List.mem_of_getElem? (i := 68) rfl))) (mvT hZ (hw _ (List.mem_of_getElem? (i := 67) rfl))) (by decide) (backOf (W := 0) (rmisUninitialized24 l Z a0 hw [] b108 ((p0_ &&& (2147483647 : Int32)) % (9 : Int32)) b85 p4_ nnnb1_3_2_98 k1_3_2_98 ((p2_ &&& (255 : Int32)).toInt8.toInt32) ((p3_ &&& (255 : Int32)).toInt8.toInt32) h116 n0 f132 hq124_2_0 hq124_2_1 hc149 hc153 hq156_4_0 hq156_4_1 hq156_4_2 hq156_4_3 hq156_4_4 g116_0 g116_1 g116_2 g116_3 f125 f126 f128 f129 f131) hZ (hw _ (List.mem_of_getElem? (i := 69) rfl)) (hw _ (List.mem_of_getElem? (i := 32) rfl)) (by decide) (by decide)) q175a q175c (g := (mkF m 111 #[.val (.int p0_), .val (.int p1_), .val (.int p2_), .val (.int p3_), .val (.int p4_), .val (.int ((p0_ &&& (2147483647 : Int32)) % (9 : Int32))), .val (.ref b3), .val (.ref b85), .val (.ref b108), .val (.int (0 : Int32)), .unset] [(.ref b108)])) rfl (by rw [hml]; rfl) (Steps.refl _) (argsL := []) (rest := []) (lenOf pd_2 rfl) rfl (by show 2 * 0 + _ ≤ _; exact Nat.le_of_eq rfl) (hb hby at_111) (fun _ _ => ⟨rfl, e174, (by decide : 4 + 0 ≤ _), (by decide : 11 + 0 ≤ _)⟩)
              dsimp only [Pt.U, Pt.locs, Pt.cells, Pt.slots] at X175 l175 y175 z175 st175 hQ175
              subst l175 y175 z175
              obtain ⟨h175, e175⟩ : ∃ z, T175.heap = z := ⟨_, rfl⟩
              rw [e175] at hQ175
              obtain ⟨rfl, N175q, hh175⟩ := hQ175
              have N176 := Fr.app N157 N175q
              have e175' : T175.heap = h116 := e175.trans hh175
              have pre177 : ∀ t, Steps p.tables e below (T175.setTop (mkF m 142 #[.val (.int p0_), .val (.int p1_), .val (.int p2_), .val (.int p3_), .val (.int p4_), .val (.int ((p0_ &&& (2147483647 : Int32)) % (9 : Int32))), .val (.ref b3), .val (.ref b85), .val (.ref b108), .val (.int (0 : Int32)), .val (.int (0 : Int32))] [(.int (1 : Int32))])) t → Steps p.tables e below (s₁.setTop (entryFrame m #[(.int p0_), (.int p1_), (.int p2_), (.int p3_), (.int p4_)] maxLocals)) t := by
                intro t kt
                refine pre152 t ?_
                show Steps p.tables e below (T124.setTop (mkF m 95 #[.val (.int p0_), .val (.int p1_), .val (.int p2_), .val (.int p3_), .val (.int p4_), .val (.int ((p0_ &&& (2147483647 : Int32)) % (9 : Int32))), .val (.ref b3), .val (.ref b85), .val (.ref b108), .val (.int (0 : Int32)), .unset] [(.int (8 : Int32)), (.int ((p0_ &&& (2147483647 : Int32)) % (9 : Int32)))])) _
                refine XS.icmpNo X124.here hx rfl (hb hby at_95) rfl (flt hc153).2.2.1 ?_
                show Steps p.tables e below (T124.setTop (mkF m 98 #[.val (.int p0_), .val (.int p1_), .val (.int p2_), .val (.int p3_), .val (.int p4_), .val (.int ((p0_ &&& (2147483647 : Int32)) % (9 : Int32))), .val (.ref b3), .val (.ref b85), .val (.ref b108), .val (.int (0 : Int32)), .unset] [])) _
                refine XS.aload X124.here hx rfl (hb hby at_98) rfl rfl ?_
                show Steps p.tables e below (T124.setTop (mkF m 100 #[.val (.int p0_), .val (.int p1_), .val (.int p2_), .val (.int p3_), .val (.int p4_), .val (.int ((p0_ &&& (2147483647 : Int32)) % (9 : Int32))), .val (.ref b3), .val (.ref b85), .val (.ref b108), .val (.int (0 : Int32)), .unset] [(.ref b108)])) _
                refine st156.trans ?_
                show Steps p.tables e below (T156.setTop (mkF m 103 #[.val (.int p0_), .val (.int p1_), .val (.int p2_), .val (.int p3_), .val (.int p4_), .val (.int ((p0_ &&& (2147483647 : Int32)) % (9 : Int32))), .val (.ref b3), .val (.ref b85), .val (.ref b108), .val (.int (0 : Int32)), .unset] [(.ref w_REFERENCE)])) _
                refine st174 _ ?_
                show Steps p.tables e below (T174.setTop (mkF m 106 #[.val (.int p0_), .val (.int p1_), .val (.int p2_), .val (.int p3_), .val (.int p4_), .val (.int ((p0_ &&& (2147483647 : Int32)) % (9 : Int32))), .val (.ref b3), .val (.ref b85), .val (.ref b108), .val (.int (0 : Int32)), .unset] [(.ref w_REFERENCE), (.ref w_REFERENCE)])) _
                refine Jvm.RoadKit.acmp (g := (mkF m 106 #[.val (.int p0_), .val (.int p1_), .val (.int p2_), .val (.int p3_), .val (.int p4_), .val (.int ((p0_ &&& (2147483647 : Int32)) % (9 : Int32))), .val (.ref b3), .val (.ref b85), .val (.ref b108), .val (.int (0 : Int32)), .unset] [(.ref w_REFERENCE), (.ref w_REFERENCE)])) X174 hx rfl rfl rfl (pc0 := 106) (pc' := 109) (same := true) rfl (hb hby at_106) rfl (decide_eq_true rfl) (by decide) (by decide) ?_
                show Steps p.tables e below (T174.setTop (mkF m 109 #[.val (.int p0_), .val (.int p1_), .val (.int p2_), .val (.int p3_), .val (.int p4_), .val (.int ((p0_ &&& (2147483647 : Int32)) % (9 : Int32))), .val (.ref b3), .val (.ref b85), .val (.ref b108), .val (.int (0 : Int32)), .unset] [])) _
                refine XS.aload X174.here hx rfl (hb hby at_109) rfl rfl ?_
                show Steps p.tables e below (T174.setTop (mkF m 111 #[.val (.int p0_), .val (.int p1_), .val (.int p2_), .val (.int p3_), .val (.int p4_), .val (.int ((p0_ &&& (2147483647 : Int32)) % (9 : Int32))), .val (.ref b3), .val (.ref b85), .val (.ref b108), .val (.int (0 : Int32)), .unset] [(.ref b108)])) _
                refine st175.trans ?_
                show Steps p.tables e below (T175.setTop (mkF m 114 #[.val (.int p0_), .val (.int p1_), .val (.int p2_), .val (.int p3_), .val (.int p4_), .val (.int ((p0_ &&& (2147483647 : Int32)) % (9 : Int32))), .val (.ref b3), .val (.ref b85), .val (.ref b108), .val (.int (0 : Int32)), .unset] [(.int (1 : Int32))])) _
                refine XS.ifYes X175.here hx rfl (pc0 := 114) (pc' := 121) rfl (hb hby at_114) rfl ((if0 _ _).trans (feq (by decide : ¬ ((1 : Int32) = (0 : Int32)))).2) (by decide) (by decide) ?_
                show Steps p.tables e below (T175.setTop (mkF m 121 #[.val (.int p0_), .val (.int p1_), .val (.int p2_), .val (.int p3_), .val (.int p4_), .val (.int ((p0_ &&& (2147483647 : Int32)) % (9 : Int32))), .val (.ref b3), .val (.ref b85), .val (.ref b108), .val (.int (0 : Int32)), .unset] [])) _
                refine XS.iconst X175.here hx rfl (hb hby at_121) ?_
                show Steps p.tables e below (T175.setTop (mkF m 122 #[.val (.int p0_), .val (.int p1_), .val (.int p2_), .val (.int p3_), .val (.int p4_), .val (.int ((p0_ &&& (2147483647 : Int32)) % (9 : Int32))), .val (.ref b3), .val (.ref b85), .val (.ref b108), .val (.int (0 : Int32)), .unset] [(.int (0 : Int32))])) _
                refine XS.istore X175.here hx rfl (hb hby at_122) rfl (l' := #[.val (.int p0_), .val (.int p1_), .val (.int p2_), .val (.int p3_), .val (.int p4_), .val (.int ((p0_ &&& (2147483647 : Int32)) % (9 : Int32))), .val (.ref b3), .val (.ref b85), .val (.ref b108), .val (.int (0 : Int32)), .val (.int (0 : Int32))]) rfl ?_
                show Steps p.tables e below (T175.setTop (mkF m 124 #[.val (.int p0_), .val (.int p1_), .val (.int p2_), .val (.int p3_), .val (.int p4_), .val (.int ((p0_ &&& (2147483647 : Int32)) % (9 : Int32))), .val (.ref b3), .val (.ref b85), .val (.ref b108), .val (.int (0 : Int32)), .val (.int (0 : Int32))] [])) _
                refine XS.goto X175.here hx rfl (pc0 := 124) (pc' := 130) rfl (hb hby at_124) (by decide) (by decide) ?_
                show Steps p.tables e below (T175.setTop (mkF m 130 #[.val (.int p0_), .val (.int p1_), .val (.int p2_), .val (.int p3_), .val (.int p4_), .val (.int ((p0_ &&& (2147483647 : Int32)) % (9 : Int32))), .val (.ref b3), .val (.ref b85), .val (.ref b108), .val (.int (0 : Int32)), .val (.int (0 : Int32))] [])) _
                refine XS.iload X175.here hx rfl (hb hby at_130) rfl ?_
                show Steps p.tables e below (T175.setTop (mkF m 132 #[.val (.int p0_), .val (.int p1_), .val (.int p2_), .val (.int p3_), .val (.int p4_), .val (.int ((p0_ &&& (2147483647 : Int32)) % (9 : Int32))), .val (.ref b3), .val (.ref b85), .val (.ref b108), .val (.int (0 : Int32)), .val (.int (0 : Int32))] [(.int (0 : Int32))])) _
                refine XS.iload X175.here hx rfl (hb hby at_132) rfl ?_
                show Steps p.tables e below (T175.setTop (mkF m 134 #[.val (.int p0_), .val (.int p1_), .val (.int p2_), .val (.int p3_), .val (.int p4_), .val (.int ((p0_ &&& (2147483647 : Int32)) % (9 : Int32))), .val (.ref b3), .val (.ref b85), .val (.ref b108), .val (.int (0 : Int32)), .val (.int (0 : Int32))] [(.int (0 : Int32)), (.int (0 : Int32))])) _
                refine XS.icmpNo X175.here hx rfl (hb hby at_134) rfl (teq (by decide : (0 : Int32) = (0 : Int32))).2 ?_
                show Steps p.tables e below (T175.setTop (mkF m 137 #[.val (.int p0_), .val (.int p1_), .val (.int p2_), .val (.int p3_), .val (.int p4_), .val (.int ((p0_ &&& (2147483647 : Int32)) % (9 : Int32))), .val (.ref b3), .val (.ref b85), .val (.ref b108), .val (.int (0 : Int32)), .val (.int (0 : Int32))] [])) _
                refine XS.iconst X175.here hx rfl (hb hby at_137) ?_
                show Steps p.tables e below (T175.setTop (mkF m 138 #[.val (.int p0_), .val (.int p1_), .val (.int p2_), .val (.int p3_), .val (.int p4_), .val (.int ((p0_ &&& (2147483647 : Int32)) % (9 : Int32))), .val (.ref b3), .val (.ref b85), .val (.ref b108), .val (.int (0 : Int32)), .val (.int (0 : Int32))] [(.int (1 : Int32))])) _
                refine XS.goto X175.here hx rfl (pc0 := 138) (pc' := 142) rfl (hb hby at_138) (by decide) (by decide) ?_
                exact kt
              obtain ⟨fs, hr, hrun, hended, hW, hsame⟩ := X175.leave (v := some (.int (1 : Int32))) (fun h => by rw [Bd.returns] at h; cases h)
              refine ⟨_, _, pre177 _ (retN X175 hx (t := .boolean) Bd.returns (by simp) (hb hby at_142) hr), hrun, hended, _, _, rfl, ?_, ⟨_, rfl⟩, hW, hsame.mono (by decide) (by decide)⟩
              show QLaw Z p0_ p1_ p2_ p3_ p4_ w_COMPACT_STRINGS w_FLOAT w_LONG w_INT w_REFERENCE w_DOUBLE h0 n0 _ T175.heap _
              rw [e175']
              exact ⟨rfl, N176⟩
            · obtain ⟨T179, X179, e179, st179⟩ := getS2 X156 hx hZ hown (host := "") (Or.inl (hw _ (List.mem_of_getElem? (i := 62) rfl))) Via.refl e156' (P3.ext f132.2) (g := (mkF m 103 #[.val (.int p0_), .val (.int p1_), .val (.int p2_), .val (.int p3_), .val (.int p4_), .val (.int ((p0_ &&& (2147483647 : Int32)) % (9 : Int32))), .val (.ref b3), .val (.ref b85), .val (.ref b108), .val (.int (0 : Int32)), .unset] [(.ref w_REFERENCE)])) rfl (hb hby at_103)
              obtain ⟨cq180, kq180, q180a, q180b, q180c⟩ := isOf hZ e179 g116_0
              obtain ⟨_, _, ⟨T180, L180, k180, n180⟩, -, X180, ⟨Lc180, hQ180, l180, y180, z180⟩, st180⟩ := X179.virtualBack hx (y := (⟨"com/example/stackweave/stackweave/classfile/VerificationType", "isUninitialized", "()Z"⟩ : MethodName)) (z := (⟨"com/example/stackweave/stackweave/classfile/VerificationType", "isUninitialized", "()Z"⟩ : MethodName)) hown (mvT hZ (hw _ (List.mem_of_getElem? (i := 65) rfl))) (mvT hZ (hw _ (List.mem_of_getElem? (i := 66) rfl))) (notFace_of_selects (args := #[]) (mvT hZ (hw _ (List.mem_of_getElem? (i := 68) rfl)))) (mvT hZ (hw _ (List.mem_of_getElem? (i := 68) rfl))) (mvT hZ (hw _ (List.mem_of_getElem? (i := 67) rfl))) (by decide) (backOf (W := 0) (rmisUninitialized25 l Z a0 hw [] b108 ((p0_ &&& (2147483647 : Int32)) % (9 : Int32)) b85 p4_ nnnb1_3_2_98 k1_3_2_98 ((p2_ &&& (255 : Int32)).toInt8.toInt32) ((p3_ &&& (255 : Int32)).toInt8.toInt32) h116 n0 f132 hq124_2_0 hq124_2_1 hc149 hc153 hq156_5_0 hq156_5_1 hq156_5_2 hq156_5_3 hq156_5_4 hq156_5_5 g116_0 g116_1 g116_2 g116_3 f125 f126 f128 f129 f131) hZ (hw _ (List.mem_of_getElem? (i := 69) rfl)) (hw _ (List.mem_of_getElem? (i := 32) rfl)) (by decide) (by decide)) q180a q180c (g := (mkF m 111 #[.val (.int p0_), .val (.int p1_), .val (.int p2_), .val (.int p3_), .val (.int p4_), .val (.int ((p0_ &&& (2147483647 : Int32)) % (9 : Int32))), .val (.ref b3), .val (.ref b85), .val (.ref b108), .val (.int (0 : Int32)), .unset] [(.ref b108)])) rfl (by rw [hml]; rfl) (Steps.refl _) (argsL := []) (rest := []) (lenOf pd_2 rfl) rfl (by show 2 * 0 + _ ≤ _; exact Nat.le_of_eq rfl) (hb hby at_111) (fun _ _ => ⟨rfl, e179, (by decide : 4 + 0 ≤ _), (by decide : 11 + 0 ≤ _)⟩)
              dsimp only [Pt.U, Pt.locs, Pt.cells, Pt.slots] at X180 l180 y180 z180 st180 hQ180
              subst l180 y180 z180
              obtain ⟨h180, e180⟩ : ∃ z, T180.heap = z := ⟨_, rfl⟩
              rw [e180] at hQ180
              obtain ⟨rfl, N180q, hh180⟩ := hQ180
              have N181 := Fr.app N157 N180q
              have e180' : T180.heap = h116 := e180.trans hh180
              have pre182 : ∀ t, Steps p.tables e below (T180.setTop (mkF m 142 #[.val (.int p0_), .val (.int p1_), .val (.int p2_), .val (.int p3_), .val (.int p4_), .val (.int ((p0_ &&& (2147483647 : Int32)) % (9 : Int32))), .val (.ref b3), .val (.ref b85), .val (.ref b108), .val (.int (0 : Int32)), .val (.int (0 : Int32))] [(.int (1 : Int32))])) t → Steps p.tables e below (s₁.setTop (entryFrame m #[(.int p0_), (.int p1_), (.int p2_), (.int p3_), (.int p4_)] maxLocals)) t := by
                intro t kt
                refine pre152 t ?_
                show Steps p.tables e below (T124.setTop (mkF m 95 #[.val (.int p0_), .val (.int p1_), .val (.int p2_), .val (.int p3_), .val (.int p4_), .val (.int ((p0_ &&& (2147483647 : Int32)) % (9 : Int32))), .val (.ref b3), .val (.ref b85), .val (.ref b108), .val (.int (0 : Int32)), .unset] [(.int (8 : Int32)), (.int ((p0_ &&& (2147483647 : Int32)) % (9 : Int32)))])) _
                refine XS.icmpNo X124.here hx rfl (hb hby at_95) rfl (flt hc153).2.2.1 ?_
                show Steps p.tables e below (T124.setTop (mkF m 98 #[.val (.int p0_), .val (.int p1_), .val (.int p2_), .val (.int p3_), .val (.int p4_), .val (.int ((p0_ &&& (2147483647 : Int32)) % (9 : Int32))), .val (.ref b3), .val (.ref b85), .val (.ref b108), .val (.int (0 : Int32)), .unset] [])) _
                refine XS.aload X124.here hx rfl (hb hby at_98) rfl rfl ?_
                show Steps p.tables e below (T124.setTop (mkF m 100 #[.val (.int p0_), .val (.int p1_), .val (.int p2_), .val (.int p3_), .val (.int p4_), .val (.int ((p0_ &&& (2147483647 : Int32)) % (9 : Int32))), .val (.ref b3), .val (.ref b85), .val (.ref b108), .val (.int (0 : Int32)), .unset] [(.ref b108)])) _
                refine st156.trans ?_
                show Steps p.tables e below (T156.setTop (mkF m 103 #[.val (.int p0_), .val (.int p1_), .val (.int p2_), .val (.int p3_), .val (.int p4_), .val (.int ((p0_ &&& (2147483647 : Int32)) % (9 : Int32))), .val (.ref b3), .val (.ref b85), .val (.ref b108), .val (.int (0 : Int32)), .unset] [(.ref w_REFERENCE)])) _
                refine st179 _ ?_
                show Steps p.tables e below (T179.setTop (mkF m 106 #[.val (.int p0_), .val (.int p1_), .val (.int p2_), .val (.int p3_), .val (.int p4_), .val (.int ((p0_ &&& (2147483647 : Int32)) % (9 : Int32))), .val (.ref b3), .val (.ref b85), .val (.ref b108), .val (.int (0 : Int32)), .unset] [(.ref w_REFERENCE), (.ref w_REFERENCE)])) _
                refine Jvm.RoadKit.acmp (g := (mkF m 106 #[.val (.int p0_), .val (.int p1_), .val (.int p2_), .val (.int p3_), .val (.int p4_), .val (.int ((p0_ &&& (2147483647 : Int32)) % (9 : Int32))), .val (.ref b3), .val (.ref b85), .val (.ref b108), .val (.int (0 : Int32)), .unset] [(.ref w_REFERENCE), (.ref w_REFERENCE)])) X179 hx rfl rfl rfl (pc0 := 106) (pc' := 109) (same := true) rfl (hb hby at_106) rfl (decide_eq_true rfl) (by decide) (by decide) ?_
                show Steps p.tables e below (T179.setTop (mkF m 109 #[.val (.int p0_), .val (.int p1_), .val (.int p2_), .val (.int p3_), .val (.int p4_), .val (.int ((p0_ &&& (2147483647 : Int32)) % (9 : Int32))), .val (.ref b3), .val (.ref b85), .val (.ref b108), .val (.int (0 : Int32)), .unset] [])) _
                refine XS.aload X179.here hx rfl (hb hby at_109) rfl rfl ?_
                show Steps p.tables e below (T179.setTop (mkF m 111 #[.val (.int p0_), .val (.int p1_), .val (.int p2_), .val (.int p3_), .val (.int p4_), .val (.int ((p0_ &&& (2147483647 : Int32)) % (9 : Int32))), .val (.ref b3), .val (.ref b85), .val (.ref b108), .val (.int (0 : Int32)), .unset] [(.ref b108)])) _
                refine st180.trans ?_
                show Steps p.tables e below (T180.setTop (mkF m 114 #[.val (.int p0_), .val (.int p1_), .val (.int p2_), .val (.int p3_), .val (.int p4_), .val (.int ((p0_ &&& (2147483647 : Int32)) % (9 : Int32))), .val (.ref b3), .val (.ref b85), .val (.ref b108), .val (.int (0 : Int32)), .unset] [(.int (1 : Int32))])) _
                refine XS.ifYes X180.here hx rfl (pc0 := 114) (pc' := 121) rfl (hb hby at_114) rfl ((if0 _ _).trans (feq (by decide : ¬ ((1 : Int32) = (0 : Int32)))).2) (by decide) (by decide) ?_
                show Steps p.tables e below (T180.setTop (mkF m 121 #[.val (.int p0_), .val (.int p1_), .val (.int p2_), .val (.int p3_), .val (.int p4_), .val (.int ((p0_ &&& (2147483647 : Int32)) % (9 : Int32))), .val (.ref b3), .val (.ref b85), .val (.ref b108), .val (.int (0 : Int32)), .unset] [])) _
                refine XS.iconst X180.here hx rfl (hb hby at_121) ?_
                show Steps p.tables e below (T180.setTop (mkF m 122 #[.val (.int p0_), .val (.int p1_), .val (.int p2_), .val (.int p3_), .val (.int p4_), .val (.int ((p0_ &&& (2147483647 : Int32)) % (9 : Int32))), .val (.ref b3), .val (.ref b85), .val (.ref b108), .val (.int (0 : Int32)), .unset] [(.int (0 : Int32))])) _
                refine XS.istore X180.here hx rfl (hb hby at_122) rfl (l' := #[.val (.int p0_), .val (.int p1_), .val (.int p2_), .val (.int p3_), .val (.int p4_), .val (.int ((p0_ &&& (2147483647 : Int32)) % (9 : Int32))), .val (.ref b3), .val (.ref b85), .val (.ref b108), .val (.int (0 : Int32)), .val (.int (0 : Int32))]) rfl ?_
                show Steps p.tables e below (T180.setTop (mkF m 124 #[.val (.int p0_), .val (.int p1_), .val (.int p2_), .val (.int p3_), .val (.int p4_), .val (.int ((p0_ &&& (2147483647 : Int32)) % (9 : Int32))), .val (.ref b3), .val (.ref b85), .val (.ref b108), .val (.int (0 : Int32)), .val (.int (0 : Int32))] [])) _
                refine XS.goto X180.here hx rfl (pc0 := 124) (pc' := 130) rfl (hb hby at_124) (by decide) (by decide) ?_
                show Steps p.tables e below (T180.setTop (mkF m 130 #[.val (.int p0_), .val (.int p1_), .val (.int p2_), .val (.int p3_), .val (.int p4_), .val (.int ((p0_ &&& (2147483647 : Int32)) % (9 : Int32))), .val (.ref b3), .val (.ref b85), .val (.ref b108), .val (.int (0 : Int32)), .val (.int (0 : Int32))] [])) _
                refine XS.iload X180.here hx rfl (hb hby at_130) rfl ?_
                show Steps p.tables e below (T180.setTop (mkF m 132 #[.val (.int p0_), .val (.int p1_), .val (.int p2_), .val (.int p3_), .val (.int p4_), .val (.int ((p0_ &&& (2147483647 : Int32)) % (9 : Int32))), .val (.ref b3), .val (.ref b85), .val (.ref b108), .val (.int (0 : Int32)), .val (.int (0 : Int32))] [(.int (0 : Int32))])) _
                refine XS.iload X180.here hx rfl (hb hby at_132) rfl ?_
                show Steps p.tables e below (T180.setTop (mkF m 134 #[.val (.int p0_), .val (.int p1_), .val (.int p2_), .val (.int p3_), .val (.int p4_), .val (.int ((p0_ &&& (2147483647 : Int32)) % (9 : Int32))), .val (.ref b3), .val (.ref b85), .val (.ref b108), .val (.int (0 : Int32)), .val (.int (0 : Int32))] [(.int (0 : Int32)), (.int (0 : Int32))])) _
                refine XS.icmpNo X180.here hx rfl (hb hby at_134) rfl (teq (by decide : (0 : Int32) = (0 : Int32))).2 ?_
                show Steps p.tables e below (T180.setTop (mkF m 137 #[.val (.int p0_), .val (.int p1_), .val (.int p2_), .val (.int p3_), .val (.int p4_), .val (.int ((p0_ &&& (2147483647 : Int32)) % (9 : Int32))), .val (.ref b3), .val (.ref b85), .val (.ref b108), .val (.int (0 : Int32)), .val (.int (0 : Int32))] [])) _
                refine XS.iconst X180.here hx rfl (hb hby at_137) ?_
                show Steps p.tables e below (T180.setTop (mkF m 138 #[.val (.int p0_), .val (.int p1_), .val (.int p2_), .val (.int p3_), .val (.int p4_), .val (.int ((p0_ &&& (2147483647 : Int32)) % (9 : Int32))), .val (.ref b3), .val (.ref b85), .val (.ref b108), .val (.int (0 : Int32)), .val (.int (0 : Int32))] [(.int (1 : Int32))])) _
                refine XS.goto X180.here hx rfl (pc0 := 138) (pc' := 142) rfl (hb hby at_138) (by decide) (by decide) ?_
                exact kt
              obtain ⟨fs, hr, hrun, hended, hW, hsame⟩ := X180.leave (v := some (.int (1 : Int32))) (fun h => by rw [Bd.returns] at h; cases h)
              refine ⟨_, _, pre182 _ (retN X180 hx (t := .boolean) Bd.returns (by simp) (hb hby at_142) hr), hrun, hended, _, _, rfl, ?_, ⟨_, rfl⟩, hW, hsame.mono (by decide) (by decide)⟩
              show QLaw Z p0_ p1_ p2_ p3_ p4_ w_COMPACT_STRINGS w_FLOAT w_LONG w_INT w_REFERENCE w_DOUBLE h0 n0 _ T180.heap _
              rw [e180']
              exact ⟨rfl, N181⟩
  · obtain ⟨T184, h184, k184, X184, e184, E184, A184, Z184, st184⟩ := newPE X0 hx hZ (hw _ (List.mem_of_getElem? (i := 0) rfl)) e0 (g := (mkF m 20 #[.val (.int p0_), .val (.int p1_), .val (.int p2_), .val (.int p3_), .val (.int p4_), .val (.int p0_), .unset, .unset, .unset, .unset, .unset] [(.int (2 : Int32))])) rfl (hb hby at_20) rfl (by decide) (cap := 2) (by decide) (by decide) (by decide) (by decide) (ad := "[C") (by decide)
    obtain ⟨b184, g184⟩ : ∃ z, z = h0.size := ⟨_, rfl⟩
    rw [← g184] at A184 Z184 st184
    have ge185 : n0 ≤ b184 := Nat.le_trans (Nat.le_trans (Nat.le_of_eq O0.1.symm) O0.2.1) (Nat.le_of_eq g184.symm)
    have sz186 : h0.size ≤ b184 := Nat.le_trans K0.1 (Nat.le_of_eq g184.symm)
    have f187 : Arv Z h184 b184 k184 .char (2 : Int32) [(.int (0 : Int32)), (.int (0 : Int32))] (.int (0 : Int32)) := (Arv.new A184 (by decide)).pad (pad_rep [] (.int (0 : Int32)) 2)
    obtain ⟨c188, r188, q188, s188, z188, y188, G188⟩ := id f187
    have hin188 : ¬ ((0 : Int32) < 0 ∨ c188.slots.size ≤ ((0 : Int32)).toNatClampNeg) := inb_of s188 ⟨by decide, by decide⟩
    obtain ⟨T188, h188, X188, e188, W188, st188⟩ := stC X184 hx hZ e184 r188 (j := (0 : Int32)) hin188 (g := (mkF m 30 #[.val (.int p0_), .val (.int p1_), .val (.int p2_), .val (.int p3_), .val (.int p4_), .val (.int p0_), .unset, .unset, .unset, .unset, .unset] [(.int (p2_ &&& (255 : Int32))), (.int (0 : Int32)), (.ref b184), (.ref b184)])) rfl rfl (hb hby at_30)
    have N189 := Fr.snoc X188 N0 ge185
    have f190 : Arv Z h188 b184 k184 .char (2 : Int32) [(.int ((p2_ &&& (255 : Int32)).toUInt32.toUInt16.toUInt32.toInt32)), (.int (0 : Int32))] (.int (0 : Int32)) := Arv.set r188 q188 s188 z188 y188 G188 (fits_nar_char _) W188 0 rfl (Nat.le_of_ble_eq_true rfl)
    have f191 : Arv Z h188 b184 k184 .char (2 : Int32) [(.int (p2_ &&& (255 : Int32))), (.int (0 : Int32))] (.int (0 : Int32)) := by have q := f190; rw [i2c_mask] at q; exact q
    obtain ⟨c192, r192, q192, s192, z192, y192, G192⟩ := id f191
    have hin192 : ¬ ((1 : Int32) < 0 ∨ c192.slots.size ≤ ((1 : Int32)).toNatClampNeg) := inb_of s192 ⟨by decide, by decide⟩
    obtain ⟨T192, h192, X192, e192, W192, st192⟩ := stC X188 hx hZ e188 r192 (j := (1 : Int32)) hin192 (g := (mkF m 39 #[.val (.int p0_), .val (.int p1_), .val (.int p2_), .val (.int p3_), .val (.int p4_), .val (.int p0_), .unset, .unset, .unset, .unset, .unset] [(.int (p3_ &&& (255 : Int32))), (.int (1 : Int32)), (.ref b184), (.ref b184)])) rfl rfl (hb hby at_39)
    have N193 := Fr.snoc X192 N189 ge185
    have f194 : Arv Z h192 b184 k184 .char (2 : Int32) [(.int (p2_ &&& (255 : Int32))), (.int ((p3_ &&& (255 : Int32)).toUInt32.toUInt16.toUInt32.toInt32))] (.int (0 : Int32)) := Arv.set r192 q192 s192 z192 y192 G192 (fits_nar_char _) W192 1 rfl (Nat.le_of_ble_eq_true rfl)
    have f195 : Arv Z h192 b184 k184 .char (2 : Int32) [(.int (p2_ &&& (255 : Int32))), (.int (p3_ &&& (255 : Int32)))] (.int (0 : Int32)) := by have q := f194; rw [i2c_mask] at q; exact q
    have pre196 : ∀ t, Steps p.tables e below (T192.setTop (mkF m 45 #[.val (.int p0_), .val (.int p1_), .val (.int p2_), .val (.int p3_), .val (.int p4_), .val (.int p0_), .val (.ref b184), .unset, .unset, .unset, .unset] [(.int (p1_ &&& (2 : Int32)))])) t → Steps p.tables e below (s₁.setTop (entryFrame m #[(.int p0_), (.int p1_), (.int p2_), (.int p3_), (.int p4_)] maxLocals)) t := by
      intro t kt
      refine pre1 t ?_
      show Steps p.tables e below (s₁.setTop (mkF m 3 #[.val (.int p0_), .val (.int p1_), .val (.int p2_), .val (.int p3_), .val (.int p4_), .unset, .unset, .unset, .unset, .unset, .unset] [(.int (p1_ &&& (1 : Int32)))])) _
      refine XS.ifNo X0.here hx rfl (hb hby at_3) rfl ((if0 _ _).trans (feq hc2).1) ?_
      show Steps p.tables e below (s₁.setTop (mkF m 6 #[.val (.int p0_), .val (.int p1_), .val (.int p2_), .val (.int p3_), .val (.int p4_), .unset, .unset, .unset, .unset, .unset, .unset] [])) _
      refine XS.iloadN X0.here hx rfl (hb hby at_6) rfl ?_
      show Steps p.tables e below (s₁.setTop (mkF m 7 #[.val (.int p0_), .val (.int p1_), .val (.int p2_), .val (.int p3_), .val (.int p4_), .unset, .unset, .unset, .unset, .unset, .unset] [(.int p0_)])) _
      refine XS.goto X0.here hx rfl (pc0 := 7) (pc' := 17) rfl (hb hby at_7) (by decide) (by decide) ?_
      show Steps p.tables e below (s₁.setTop (mkF m 17 #[.val (.int p0_), .val (.int p1_), .val (.int p2_), .val (.int p3_), .val (.int p4_), .unset, .unset, .unset, .unset, .unset, .unset] [(.int p0_)])) _
      refine XS.istore X0.here hx rfl (hb hby at_17) rfl (l' := #[.val (.int p0_), .val (.int p1_), .val (.int p2_), .val (.int p3_), .val (.int p4_), .val (.int p0_), .unset, .unset, .unset, .unset, .unset]) rfl ?_
      show Steps p.tables e below (s₁.setTop (mkF m 19 #[.val (.int p0_), .val (.int p1_), .val (.int p2_), .val (.int p3_), .val (.int p4_), .val (.int p0_), .unset, .unset, .unset, .unset, .unset] [])) _
      refine XS.iconst X0.here hx rfl (hb hby at_19) ?_
      show Steps p.tables e below (s₁.setTop (mkF m 20 #[.val (.int p0_), .val (.int p1_), .val (.int p2_), .val (.int p3_), .val (.int p4_), .val (.int p0_), .unset, .unset, .unset, .unset, .unset] [(.int (2 : Int32))])) _
      refine st184 _ ?_
      show Steps p.tables e below (T184.setTop (mkF m 22 #[.val (.int p0_), .val (.int p1_), .val (.int p2_), .val (.int p3_), .val (.int p4_), .val (.int p0_), .unset, .unset, .unset, .unset, .unset] [(.ref b184)])) _
      refine XS.dup X184.here hx rfl (hb hby at_22) rfl rfl ?_
      show Steps p.tables e below (T184.setTop (mkF m 23 #[.val (.int p0_), .val (.int p1_), .val (.int p2_), .val (.int p3_), .val (.int p4_), .val (.int p0_), .unset, .unset, .unset, .unset, .unset] [(.ref b184), (.ref b184)])) _
      refine XS.iconst X184.here hx rfl (hb hby at_23) ?_
      show Steps p.tables e below (T184.setTop (mkF m 24 #[.val (.int p0_), .val (.int p1_), .val (.int p2_), .val (.int p3_), .val (.int p4_), .val (.int p0_), .unset, .unset, .unset, .unset, .unset] [(.int (0 : Int32)), (.ref b184), (.ref b184)])) _
      refine XS.iloadN X184.here hx rfl (hb hby at_24) rfl ?_
      show Steps p.tables e below (T184.setTop (mkF m 25 #[.val (.int p0_), .val (.int p1_), .val (.int p2_), .val (.int p3_), .val (.int p4_), .val (.int p0_), .unset, .unset, .unset, .unset, .unset] [(.int p2_), (.int (0 : Int32)), (.ref b184), (.ref b184)])) _
      refine XS.sipush X184.here hx rfl (hb hby at_25) ?_
      show Steps p.tables e below (T184.setTop (mkF m 28 #[.val (.int p0_), .val (.int p1_), .val (.int p2_), .val (.int p3_), .val (.int p4_), .val (.int p0_), .unset, .unset, .unset, .unset, .unset] [(.int (255 : Int32)), (.int p2_), (.int (0 : Int32)), (.ref b184), (.ref b184)])) _
      refine XS.iand X184.here hx rfl (hb hby at_28) rfl ?_
      show Steps p.tables e below (T184.setTop (mkF m 29 #[.val (.int p0_), .val (.int p1_), .val (.int p2_), .val (.int p3_), .val (.int p4_), .val (.int p0_), .unset, .unset, .unset, .unset, .unset] [(.int (p2_ &&& (255 : Int32))), (.int (0 : Int32)), (.ref b184), (.ref b184)])) _
      refine XS.i2c X184.here hx rfl (hb hby at_29) rfl ?_
      show Steps p.tables e below (T184.setTop (mkF m 30 #[.val (.int p0_), .val (.int p1_), .val (.int p2_), .val (.int p3_), .val (.int p4_), .val (.int p0_), .unset, .unset, .unset, .unset, .unset] [(.int ((p2_ &&& (255 : Int32)).toUInt32.toUInt16.toUInt32.toInt32)), (.int (0 : Int32)), (.ref b184), (.ref b184)])) _
      rw [i2c_mask]
      show Steps p.tables e below (T184.setTop (mkF m 30 #[.val (.int p0_), .val (.int p1_), .val (.int p2_), .val (.int p3_), .val (.int p4_), .val (.int p0_), .unset, .unset, .unset, .unset, .unset] [(.int (p2_ &&& (255 : Int32))), (.int (0 : Int32)), (.ref b184), (.ref b184)])) _
      refine st188 _ ?_
      show Steps p.tables e below (T188.setTop (mkF m 31 #[.val (.int p0_), .val (.int p1_), .val (.int p2_), .val (.int p3_), .val (.int p4_), .val (.int p0_), .unset, .unset, .unset, .unset, .unset] [(.ref b184)])) _
      refine XS.dup X188.here hx rfl (hb hby at_31) rfl rfl ?_
      show Steps p.tables e below (T188.setTop (mkF m 32 #[.val (.int p0_), .val (.int p1_), .val (.int p2_), .val (.int p3_), .val (.int p4_), .val (.int p0_), .unset, .unset, .unset, .unset, .unset] [(.ref b184), (.ref b184)])) _
      refine XS.iconst X188.here hx rfl (hb hby at_32) ?_
      show Steps p.tables e below (T188.setTop (mkF m 33 #[.val (.int p0_), .val (.int p1_), .val (.int p2_), .val (.int p3_), .val (.int p4_), .val (.int p0_), .unset, .unset, .unset, .unset, .unset] [(.int (1 : Int32)), (.ref b184), (.ref b184)])) _
      refine XS.iloadN X188.here hx rfl (hb hby at_33) rfl ?_
      show Steps p.tables e below (T188.setTop (mkF m 34 #[.val (.int p0_), .val (.int p1_), .val (.int p2_), .val (.int p3_), .val (.int p4_), .val (.int p0_), .unset, .unset, .unset, .unset, .unset] [(.int p3_), (.int (1 : Int32)), (.ref b184), (.ref b184)])) _
      refine XS.sipush X188.here hx rfl (hb hby at_34) ?_
      show Steps p.tables e below (T188.setTop (mkF m 37 #[.val (.int p0_), .val (.int p1_), .val (.int p2_), .val (.int p3_), .val (.int p4_), .val (.int p0_), .unset, .unset, .unset, .unset, .unset] [(.int (255 : Int32)), (.int p3_), (.int (1 : Int32)), (.ref b184), (.ref b184)])) _
      refine XS.iand X188.here hx rfl (hb hby at_37) rfl ?_
      show Steps p.tables e below (T188.setTop (mkF m 38 #[.val (.int p0_), .val (.int p1_), .val (.int p2_), .val (.int p3_), .val (.int p4_), .val (.int p0_), .unset, .unset, .unset, .unset, .unset] [(.int (p3_ &&& (255 : Int32))), (.int (1 : Int32)), (.ref b184), (.ref b184)])) _
      refine XS.i2c X188.here hx rfl (hb hby at_38) rfl ?_
      show Steps p.tables e below (T188.setTop (mkF m 39 #[.val (.int p0_), .val (.int p1_), .val (.int p2_), .val (.int p3_), .val (.int p4_), .val (.int p0_), .unset, .unset, .unset, .unset, .unset] [(.int ((p3_ &&& (255 : Int32)).toUInt32.toUInt16.toUInt32.toInt32)), (.int (1 : Int32)), (.ref b184), (.ref b184)])) _
      rw [i2c_mask]
      show Steps p.tables e below (T188.setTop (mkF m 39 #[.val (.int p0_), .val (.int p1_), .val (.int p2_), .val (.int p3_), .val (.int p4_), .val (.int p0_), .unset, .unset, .unset, .unset, .unset] [(.int (p3_ &&& (255 : Int32))), (.int (1 : Int32)), (.ref b184), (.ref b184)])) _
      refine st192 _ ?_
      show Steps p.tables e below (T192.setTop (mkF m 40 #[.val (.int p0_), .val (.int p1_), .val (.int p2_), .val (.int p3_), .val (.int p4_), .val (.int p0_), .unset, .unset, .unset, .unset, .unset] [(.ref b184)])) _
      refine XS.astore X192.here hx rfl (hb hby at_40) rfl rfl (l' := #[.val (.int p0_), .val (.int p1_), .val (.int p2_), .val (.int p3_), .val (.int p4_), .val (.int p0_), .val (.ref b184), .unset, .unset, .unset, .unset]) rfl ?_
      show Steps p.tables e below (T192.setTop (mkF m 42 #[.val (.int p0_), .val (.int p1_), .val (.int p2_), .val (.int p3_), .val (.int p4_), .val (.int p0_), .val (.ref b184), .unset, .unset, .unset, .unset] [])) _
      refine XS.iloadN X192.here hx rfl (hb hby at_42) rfl ?_
      show Steps p.tables e below (T192.setTop (mkF m 43 #[.val (.int p0_), .val (.int p1_), .val (.int p2_), .val (.int p3_), .val (.int p4_), .val (.int p0_), .val (.ref b184), .unset, .unset, .unset, .unset] [(.int p1_)])) _
      refine XS.iconst X192.here hx rfl (hb hby at_43) ?_
      show Steps p.tables e below (T192.setTop (mkF m 44 #[.val (.int p0_), .val (.int p1_), .val (.int p2_), .val (.int p3_), .val (.int p4_), .val (.int p0_), .val (.ref b184), .unset, .unset, .unset, .unset] [(.int (2 : Int32)), (.int p1_)])) _
      refine XS.iand X192.here hx rfl (hb hby at_44) rfl ?_
      exact kt
    by_cases hc197 : (p1_ &&& (2 : Int32)) = (0 : Int32)
    · obtain ⟨T198, h198, X198, e198, E198, A198, D198, -, st198⟩ := newO X192 hx hZ hown (hw _ (List.mem_of_getElem? (i := 30) rfl)) (hw _ (List.mem_of_getElem? (i := 31) rfl)) (hw _ (List.mem_of_getElem? (i := 32) rfl)) e192 (g := (mkF m 63 #[.val (.int p0_), .val (.int p1_), .val (.int p2_), .val (.int p3_), .val (.int p4_), .val (.int p0_), .val (.ref b184), .val .null, .unset, .unset, .unset] [])) rfl (hb hby at_63) (by decide) (by decide)
      obtain ⟨b198, g198⟩ : ∃ z, z = h192.size := ⟨_, rfl⟩
      rw [← g198] at A198 D198 st198
      have f199 : Old Z n0 h184 := O0.ext E184
      have f200 : Old Z n0 h188 := f199.wr W188 ge185
      have f201 : Old Z n0 h192 := f200.wr W192 ge185
      have ge202 : n0 ≤ b198 := Nat.le_trans (Nat.le_trans (Nat.le_of_eq f201.1.symm) f201.2.1) (Nat.le_of_eq g198.symm)
      have f203 : Keep h0 h184 [] := K0.ext E184
      have f204 : Keep h0 h188 [] := f203.wr W188 (Or.inr sz186)
      have f205 : Keep h0 h192 [] := f204.wr W192 (Or.inr sz186)
      have sz206 : h0.size ≤ b198 := Nat.le_trans f205.1 (Nat.le_of_eq g198.symm)
      have f207 : Fld Z h198 b198 "com/example/stackweave/stackweave/classfile/VerificationType" "tag" "I" (.int (0 : Int32)) := D198 (Or.inr (hw _ (List.mem_of_getElem? (i := 43) rfl))) (ty := .int) (by decide)
      have f208 : Fld Z h198 b198 "com/example/stackweave/stackweave/classfile/VerificationType" "className" "Ljava/lang/String;" .null := D198 (Or.inr (hw _ (List.mem_of_getElem? (i := 45) rfl))) (ty := (.object "java/lang/String")) (by decide)
      have f209 : Fld Z h198 b198 "com/example/stackweave/stackweave/classfile/VerificationType" "newOffset" "I" (.int (0 : Int32)) := D198 (Or.inr (hw _ (List.mem_of_getElem? (i := 47) rfl))) (ty := .int) (by decide)
      have f211 : Old Z n0 h198 := f201.ext E198
      obtain ⟨_, _, ⟨T210, L210, k210, n210⟩, -, X210, ⟨Lc210, hQ210, l210, y210, z210⟩, st210⟩ := X198.specialBack hx (y := (⟨"com/example/stackweave/stackweave/classfile/VerificationType", "<init>", "(ILjava/lang/String;I)V"⟩ : MethodName)) rfl hown (mvT hZ (hw _ (List.mem_of_getElem? (i := 33) rfl))) (mvT hZ (hw _ (List.mem_of_getElem? (i := 34) rfl))) (mvT hZ (hw _ (List.mem_of_getElem? (i := 35) rfl))) (by decide) (backOf (W := 1) (rminit1 l Z a0 hw [] b198 p0_ p4_ h198 n0 f211 A198 f207 f208 f209 ge202) hZ (hw _ (List.mem_of_getElem? (i := 35) rfl)) (hw _ (List.mem_of_getElem? (i := 32) rfl)) (by decide) (by decide)) (g := (mkF m 73 #[.val (.int p0_), .val (.int p1_), .val (.int p2_), .val (.int p3_), .val (.int p4_), .val (.int p0_), .val (.ref b184), .val .null, .unset, .unset, .unset] [(.int p4_), .null, (.int p0_), (.ref b198), (.ref b198)])) rfl (by rw [hml]; rfl) (Steps.refl _) (a := b198) (argsL := [(.int p0_), .null, (.int p4_)]) (rest := [(.ref b198)]) (lenOf pd_1 rfl) rfl (by show 2 * 0 + _ ≤ _; exact Nat.le_of_eq rfl) (hb hby at_73) (fun _ _ => ⟨rfl, e198, (by decide : 2 + 0 ≤ _), (by decide : 5 + 0 ≤ _)⟩)
      dsimp only [Pt.U, Pt.locs, Pt.cells, Pt.slots] at X210 l210 y210 z210 st210 hQ210
      subst l210 y210 z210
      obtain ⟨h210, e210⟩ : ∃ z, T210.heap = z := ⟨_, rfl⟩
      rw [e210] at hQ210
      obtain ⟨rfl, N210q, K210, g210_0, g210_1, g210_2, g210_3⟩ := hQ210
      have N212 := Fr.app N193 N210q
      have f214 : Old Z n0 h210 := f211.keep K210 (allS (ge202) all0)
      obtain ⟨cq213, kq213, q213a, q213b, q213c⟩ := isOf hZ e210 g210_0
      obtain ⟨_, _, ⟨T213, L213, k213, n213⟩, -, X213, ⟨Lc213, hQ213, l213, y213, z213⟩, st213⟩ := X210.virtualBack hx (y := (⟨"com/example/stackweave/stackweave/classfile/VerificationType", "isReference", "()Z"⟩ : MethodName)) (z := (⟨"com/example/stackweave/stackweave/classfile/VerificationType", "isReference", "()Z"⟩ : MethodName)) hown (mvT hZ (hw _ (List.mem_of_getElem? (i := 48) rfl))) (mvT hZ (hw _ (List.mem_of_getElem? (i := 49) rfl))) (notFace_of_selects (args := #[]) (mvT hZ (hw _ (List.mem_of_getElem? (i := 51) rfl)))) (mvT hZ (hw _ (List.mem_of_getElem? (i := 51) rfl))) (mvT hZ (hw _ (List.mem_of_getElem? (i := 50) rfl))) (by decide) (backOf (W := 0) (rmisReference3 l Z a0 hw [] b198 p0_ p4_ h210 n0 f214 g210_0 g210_1 g210_2 g210_3) hZ (hw _ (List.mem_of_getElem? (i := 52) rfl)) (hw _ (List.mem_of_getElem? (i := 32) rfl)) (by decide) (by decide)) q213a q213c (g := (mkF m 80 #[.val (.int p0_), .val (.int p1_), .val (.int p2_), .val (.int p3_), .val (.int p4_), .val (.int p0_), .val (.ref b184), .val .null, .val (.ref b198), .unset, .unset] [(.ref b198)])) rfl (by rw [hml]; rfl) (Steps.refl _) (argsL := []) (rest := []) (lenOf pd_2 rfl) rfl (by show 2 * 0 + _ ≤ _; exact Nat.le_of_eq rfl) (hb hby at_80) (fun _ _ => ⟨rfl, e210, (by decide : 2 + 0 ≤ _), (by decide : 5 + 0 ≤ _)⟩)
      dsimp only [Pt.U, Pt.locs, Pt.cells, Pt.slots] at X213 l213 y213 z213 st213 hQ213
      subst l213 y213 z213
      obtain ⟨h213, e213⟩ : ∃ z, T213.heap = z := ⟨_, rfl⟩
      rw [e213] at hQ213
      obtain ⟨rr213, rfl, hs213, N213q, hh213⟩ := hQ213
      have N215 := Fr.app N212 N213q
      have e213' : T213.heap = h210 := e213.trans hh213
      rcases hs213 with ⟨rfl, hq213_0_0⟩ | ⟨rfl, hq213_1_0, hq213_1_1⟩ | ⟨rfl, hq213_2_0, hq213_2_1⟩
      · obtain ⟨cq216, kq216, q216a, q216b, q216c⟩ := isOf hZ e213' g210_0
        obtain ⟨_, _, ⟨T216, L216, k216, n216⟩, -, X216, ⟨Lc216, hQ216, l216, y216, z216⟩, st216⟩ := X213.virtualBack hx (y := (⟨"com/example/stackweave/stackweave/classfile/VerificationType", "kind", "()Lcom/example/stackweave/stackweave/classfile/ValueKind;"⟩ : MethodName)) (z := (⟨"com/example/stackweave/stackweave/classfile/VerificationType", "kind", "()Lcom/example/stackweave/stackweave/classfile/ValueKind;"⟩ : MethodName)) hown (mvT hZ (hw _ (List.mem_of_getElem? (i := 54) rfl))) (mvT hZ (hw _ (List.mem_of_getElem? (i := 55) rfl))) (notFace_of_selects (args := #[]) (mvT hZ (hw _ (List.mem_of_getElem? (i := 57) rfl)))) (mvT hZ (hw _ (List.mem_of_getElem? (i := 57) rfl))) (mvT hZ (hw _ (List.mem_of_getElem? (i := 56) rfl))) (by decide) (backOf (W := 0) (rmkind4 l Z a0 hw [] b198 p0_ p4_ w_REFERENCE h210 n0 f214 hq213_0_0 g210_0 g210_1 g210_2 g210_3 P4 P13 P3) hZ (hw _ (List.mem_of_getElem? (i := 58) rfl)) (hw _ (List.mem_of_getElem? (i := 32) rfl)) (by decide) (by decide)) q216a q216c (g := (mkF m 100 #[.val (.int p0_), .val (.int p1_), .val (.int p2_), .val (.int p3_), .val (.int p4_), .val (.int p0_), .val (.ref b184), .val .null, .val (.ref b198), .val (.int (1 : Int32)), .unset] [(.ref b198)])) rfl (by rw [hml]; rfl) (Steps.refl _) (argsL := []) (rest := []) (lenOf pd_3 rfl) rfl (by show 2 * 0 + _ ≤ _; exact Nat.le_of_eq rfl) (hb hby at_100) (fun _ _ => ⟨rfl, e213', (by decide : 2 + 0 ≤ _), (by decide : 5 + 0 ≤ _)⟩)
        dsimp only [Pt.U, Pt.locs, Pt.cells, Pt.slots] at X216 l216 y216 z216 st216 hQ216
        subst l216 y216 z216
        obtain ⟨h216, e216⟩ : ∃ z, T216.heap = z := ⟨_, rfl⟩
        rw [e216] at hQ216
        obtain ⟨rfl, N216q, hh216⟩ := hQ216
        have N217 := Fr.app N215 N216q
        have e216' : T216.heap = h210 := e216.trans hh216
        obtain ⟨T218, X218, e218, st218⟩ := getS2 X216 hx hZ hown (host := "") (Or.inl (hw _ (List.mem_of_getElem? (i := 62) rfl))) Via.refl e216' (P3.ext f214.2) (g := (mkF m 103 #[.val (.int p0_), .val (.int p1_), .val (.int p2_), .val (.int p3_), .val (.int p4_), .val (.int p0_), .val (.ref b184), .val .null, .val (.ref b198), .val (.int (1 : Int32)), .unset] [(.ref w_REFERENCE)])) rfl (hb hby at_103)
        obtain ⟨cq219, kq219, q219a, q219b, q219c⟩ := isOf hZ e218 g210_0
        obtain ⟨_, _, ⟨T219, L219, k219, n219⟩, -, X219, ⟨Lc219, hQ219, l219, y219, z219⟩, st219⟩ := X218.virtualBack hx (y := (⟨"com/example/stackweave/stackweave/classfile/VerificationType", "isUninitialized", "()Z"⟩ : MethodName)) (z := (⟨"com/example/stackweave/stackweave/classfile/VerificationType", "isUninitialized", "()Z"⟩ : MethodName)) hown (mvT hZ (hw _ (List.mem_of_getElem? (i := 65) rfl))) (mvT hZ (hw _ (List.mem_of_getElem? (i := 66) rfl))) (notFace_of_selects (args := #[]) (mvT hZ (hw _ (List.mem_of_getElem? (i := 68) rfl)))) (mvT hZ (hw _ (List.mem_of_getElem? (i := 68) rfl))) (mvT hZ (hw _ (List.mem_of_getElem? (i := 67) rfl))) (by decide) (backOf (W := 0) (rmisUninitialized5 l Z a0 hw [] b198 p0_ p4_ h210 n0 f214 hq213_0_0 g210_0 g210_1 g210_2 g210_3) hZ (hw _ (List.mem_of_getElem? (i := 69) rfl)) (hw _ (List.mem_of_getElem? (i := 32) rfl)) (by decide) (by decide)) q219a q219c (g := (mkF m 111 #[.val (.int p0_), .val (.int p1_), .val (.int p2_), .val (.int p3_), .val (.int p4_), .val (.int p0_), .val (.ref b184), .val .null, .val (.ref b198), .val (.int (1 : Int32)), .unset] [(.ref b198)])) rfl (by rw [hml]; rfl) (Steps.refl _) (argsL := []) (rest := []) (lenOf pd_2 rfl) rfl (by show 2 * 0 + _ ≤ _; exact Nat.le_of_eq rfl) (hb hby at_111) (fun _ _ => ⟨rfl, e218, (by decide : 2 + 0 ≤ _), (by decide : 5 + 0 ≤ _)⟩)
        dsimp only [Pt.U, Pt.locs, Pt.cells, Pt.slots] at X219 l219 y219 z219 st219 hQ219
        subst l219 y219 z219
        obtain ⟨h219, e219⟩ : ∃ z, T219.heap = z := ⟨_, rfl⟩
        rw [e219] at hQ219
        obtain ⟨rfl, N219q, hh219⟩ := hQ219
        have N220 := Fr.app N217 N219q
        have e219' : T219.heap = h210 := e219.trans hh219
        have pre221 : ∀ t, Steps p.tables e below (T219.setTop (mkF m 142 #[.val (.int p0_), .val (.int p1_), .val (.int p2_), .val (.int p3_), .val (.int p4_), .val (.int p0_), .val (.ref b184), .val .null, .val (.ref b198), .val (.int (1 : Int32)), .val (.int (1 : Int32))] [(.int (1 : Int32))])) t → Steps p.tables e below (s₁.setTop (entryFrame m #[(.int p0_), (.int p1_), (.int p2_), (.int p3_), (.int p4_)] maxLocals)) t := by
          intro t kt
          refine pre196 t ?_
          show Steps p.tables e below (T192.setTop (mkF m 45 #[.val (.int p0_), .val (.int p1_), .val (.int p2_), .val (.int p3_), .val (.int p4_), .val (.int p0_), .val (.ref b184), .unset, .unset, .unset, .unset] [(.int (p1_ &&& (2 : Int32)))])) _
          refine XS.ifYes X192.here hx rfl (pc0 := 45) (pc' := 60) rfl (hb hby at_45) rfl ((if0 _ _).trans (teq hc197).1) (by decide) (by decide) ?_
          show Steps p.tables e below (T192.setTop (mkF m 60 #[.val (.int p0_), .val (.int p1_), .val (.int p2_), .val (.int p3_), .val (.int p4_), .val (.int p0_), .val (.ref b184), .unset, .unset, .unset, .unset] [])) _
          refine XS.aconstNull X192.here hx rfl (hb hby at_60) ?_
          show Steps p.tables e below (T192.setTop (mkF m 61 #[.val (.int p0_), .val (.int p1_), .val (.int p2_), .val (.int p3_), .val (.int p4_), .val (.int p0_), .val (.ref b184), .unset, .unset, .unset, .unset] [.null])) _
          refine XS.astore X192.here hx rfl (hb hby at_61) rfl rfl (l' := #[.val (.int p0_), .val (.int p1_), .val (.int p2_), .val (.int p3_), .val (.int p4_), .val (.int p0_), .val (.ref b184), .val .null, .unset, .unset, .unset]) rfl ?_
          show Steps p.tables e below (T192.setTop (mkF m 63 #[.val (.int p0_), .val (.int p1_), .val (.int p2_), .val (.int p3_), .val (.int p4_), .val (.int p0_), .val (.ref b184), .val .null, .unset, .unset, .unset] [])) _
          refine st198 _ ?_
          show Steps p.tables e below (T198.setTop (mkF m 66 #[.val (.int p0_), .val (.int p1_), .val (.int p2_), .val (.int p3_), .val (.int p4_), .val (.int p0_), .val (.ref b184), .val .null, .unset, .unset, .unset] [(.ref b198)])) _
          refine XS.dup X198.here hx rfl (hb hby at_66) rfl rfl ?_
          show Steps p.tables e below (T198.setTop (mkF m 67 #[.val (.int p0_), .val (.int p1_), .val (.int p2_), .val (.int p3_), .val (.int p4_), .val (.int p0_), .val (.ref b184), .val .null, .unset, .unset, .unset] [(.ref b198), (.ref b198)])) _
          refine XS.iload X198.here hx rfl (hb hby at_67) rfl ?_
          show Steps p.tables e below (T198.setTop (mkF m 69 #[.val (.int p0_), .val (.int p1_), .val (.int p2_), .val (.int p3_), .val (.int p4_), .val (.int p0_), .val (.ref b184), .val .null, .unset, .unset, .unset] [(.int p0_), (.ref b198), (.ref b198)])) _
          refine XS.aload X198.here hx rfl (hb hby at_69) rfl rfl ?_
          show Steps p.tables e below (T198.setTop (mkF m 71 #[.val (.int p0_), .val (.int p1_), .val (.int p2_), .val (.int p3_), .val (.int p4_), .val (.int p0_), .val (.ref b184), .val .null, .unset, .unset, .unset] [.null, (.int p0_), (.ref b198), (.ref b198)])) _
          refine XS.iload X198.here hx rfl (hb hby at_71) rfl ?_
          show Steps p.tables e below (T198.setTop (mkF m 73 #[.val (.int p0_), .val (.int p1_), .val (.int p2_), .val (.int p3_), .val (.int p4_), .val (.int p0_), .val (.ref b184), .val .null, .unset, .unset, .unset] [(.int p4_), .null, (.int p0_), (.ref b198), (.ref b198)])) _
          refine st210.trans ?_
          show Steps p.tables e below (T210.setTop (mkF m 76 #[.val (.int p0_), .val (.int p1_), .val (.int p2_), .val (.int p3_), .val (.int p4_), .val (.int p0_), .val (.ref b184), .val .null, .unset, .unset, .unset] [(.ref b198)])) _
          refine XS.astore X210.here hx rfl (hb hby at_76) rfl rfl (l' := #[.val (.int p0_), .val (.int p1_), .val (.int p2_), .val (.int p3_), .val (.int p4_), .val (.int p0_), .val (.ref b184), .val .null, .val (.ref b198), .unset, .unset]) rfl ?_
          show Steps p.tables e below (T210.setTop (mkF m 78 #[.val (.int p0_), .val (.int p1_), .val (.int p2_), .val (.int p3_), .val (.int p4_), .val (.int p0_), .val (.ref b184), .val .null, .val (.ref b198), .unset, .unset] [])) _
          refine XS.aload X210.here hx rfl (hb hby at_78) rfl rfl ?_
          show Steps p.tables e below (T210.setTop (mkF m 80 #[.val (.int p0_), .val (.int p1_), .val (.int p2_), .val (.int p3_), .val (.int p4_), .val (.int p0_), .val (.ref b184), .val .null, .val (.ref b198), .unset, .unset] [(.ref b198)])) _
          refine st213.trans ?_
          show Steps p.tables e below (T213.setTop (mkF m 83 #[.val (.int p0_), .val (.int p1_), .val (.int p2_), .val (.int p3_), .val (.int p4_), .val (.int p0_), .val (.ref b184), .val .null, .val (.ref b198), .unset, .unset] [(.int (1 : Int32))])) _
          refine XS.istore X213.here hx rfl (hb hby at_83) rfl (l' := #[.val (.int p0_), .val (.int p1_), .val (.int p2_), .val (.int p3_), .val (.int p4_), .val (.int p0_), .val (.ref b184), .val .null, .val (.ref b198), .val (.int (1 : Int32)), .unset]) rfl ?_
          show Steps p.tables e below (T213.setTop (mkF m 85 #[.val (.int p0_), .val (.int p1_), .val (.int p2_), .val (.int p3_), .val (.int p4_), .val (.int p0_), .val (.ref b184), .val .null, .val (.ref b198), .val (.int (1 : Int32)), .unset] [])) _
          refine XS.iload X213.here hx rfl (hb hby at_85) rfl ?_
          show Steps p.tables e below (T213.setTop (mkF m 87 #[.val (.int p0_), .val (.int p1_), .val (.int p2_), .val (.int p3_), .val (.int p4_), .val (.int p0_), .val (.ref b184), .val .null, .val (.ref b198), .val (.int (1 : Int32)), .unset] [(.int p0_)])) _
          refine XS.iconst X213.here hx rfl (hb hby at_87) ?_
          show Steps p.tables e below (T213.setTop (mkF m 88 #[.val (.int p0_), .val (.int p1_), .val (.int p2_), .val (.int p3_), .val (.int p4_), .val (.int p0_), .val (.ref b184), .val .null, .val (.ref b198), .val (.int (1 : Int32)), .unset] [(.int (1 : Int32)), (.int p0_)])) _
          refine XS.icmpNo X213.here hx rfl (hb hby at_88) rfl (flt (by intro hz; have lt_0 : ((1 : Int32)).toInt = 1 := rfl; have lt_1 : ((7 : Int32)).toInt = 7 := rfl; simp only [Int32.lt_iff_toInt_lt, Int64.lt_iff_toInt_lt, ← Int32.toInt_inj, ← Int64.toInt_inj] at hz hq213_0_0; omega)).1 ?_
          show Steps p.tables e below (T213.setTop (mkF m 91 #[.val (.int p0_), .val (.int p1_), .val (.int p2_), .val (.int p3_), .val (.int p4_), .val (.int p0_), .val (.ref b184), .val .null, .val (.ref b198), .val (.int (1 : Int32)), .unset] [])) _
          refine XS.iload X213.here hx rfl (hb hby at_91) rfl ?_
          show Steps p.tables e below (T213.setTop (mkF m 93 #[.val (.int p0_), .val (.int p1_), .val (.int p2_), .val (.int p3_), .val (.int p4_), .val (.int p0_), .val (.ref b184), .val .null, .val (.ref b198), .val (.int (1 : Int32)), .unset] [(.int p0_)])) _
          refine XS.bipush X213.here hx rfl (hb hby at_93) ?_
          show Steps p.tables e below (T213.setTop (mkF m 95 #[.val (.int p0_), .val (.int p1_), .val (.int p2_), .val (.int p3_), .val (.int p4_), .val (.int p0_), .val (.ref b184), .val .null, .val (.ref b198), .val (.int (1 : Int32)), .unset] [(.int (8 : Int32)), (.int p0_)])) _
          refine XS.icmpNo X213.here hx rfl (hb hby at_95) rfl (flt (by intro hz; have lt_0 : ((7 : Int32)).toInt = 7 := rfl; have lt_1 : ((8 : Int32)).toInt = 8 := rfl; simp only [Int32.lt_iff_toInt_lt, Int64.lt_iff_toInt_lt, ← Int32.toInt_inj, ← Int64.toInt_inj] at hz hq213_0_0; omega)).2.2.1 ?_
          show Steps p.tables e below (T213.setTop (mkF m 98 #[.val (.int p0_), .val (.int p1_), .val (.int p2_), .val (.int p3_), .val (.int p4_), .val (.int p0_), .val (.ref b184), .val .null, .val (.ref b198), .val (.int (1 : Int32)), .unset] [])) _
          refine XS.aload X213.here hx rfl (hb hby at_98) rfl rfl ?_
          show Steps p.tables e below (T213.setTop (mkF m 100 #[.val (.int p0_), .val (.int p1_), .val (.int p2_), .val (.int p3_), .val (.int p4_), .val (.int p0_), .val (.ref b184), .val .null, .val (.ref b198), .val (.int (1 : Int32)), .unset] [(.ref b198)])) _
          refine st216.trans ?_
          show Steps p.tables e below (T216.setTop (mkF m 103 #[.val (.int p0_), .val (.int p1_), .val (.int p2_), .val (.int p3_), .val (.int p4_), .val (.int p0_), .val (.ref b184), .val .null, .val (.ref b198), .val (.int (1 : Int32)), .unset] [(.ref w_REFERENCE)])) _
          refine st218 _ ?_
          show Steps p.tables e below (T218.setTop (mkF m 106 #[.val (.int p0_), .val (.int p1_), .val (.int p2_), .val (.int p3_), .val (.int p4_), .val (.int p0_), .val (.ref b184), .val .null, .val (.ref b198), .val (.int (1 : Int32)), .unset] [(.ref w_REFERENCE), (.ref w_REFERENCE)])) _
          refine Jvm.RoadKit.acmp (g := (mkF m 106 #[.val (.int p0_), .val (.int p1_), .val (.int p2_), .val (.int p3_), .val (.int p4_), .val (.int p0_), .val (.ref b184), .val .null, .val (.ref b198), .val (.int (1 : Int32)), .unset] [(.ref w_REFERENCE), (.ref w_REFERENCE)])) X218 hx rfl rfl rfl (pc0 := 106) (pc' := 109) (same := true) rfl (hb hby at_106) rfl (decide_eq_true rfl) (by decide) (by decide) ?_
          show Steps p.tables e below (T218.setTop (mkF m 109 #[.val (.int p0_), .val (.int p1_), .val (.int p2_), .val (.int p3_), .val (.int p4_), .val (.int p0_), .val (.ref b184), .val .null, .val (.ref b198), .val (.int (1 : Int32)), .unset] [])) _
          refine XS.aload X218.here hx rfl (hb hby at_109) rfl rfl ?_
          show Steps p.tables e below (T218.setTop (mkF m 111 #[.val (.int p0_), .val (.int p1_), .val (.int p2_), .val (.int p3_), .val (.int p4_), .val (.int p0_), .val (.ref b184), .val .null, .val (.ref b198), .val (.int (1 : Int32)), .unset] [(.ref b198)])) _
          refine st219.trans ?_
          show Steps p.tables e below (T219.setTop (mkF m 114 #[.val (.int p0_), .val (.int p1_), .val (.int p2_), .val (.int p3_), .val (.int p4_), .val (.int p0_), .val (.ref b184), .val .null, .val (.ref b198), .val (.int (1 : Int32)), .unset] [(.int (0 : Int32))])) _
          refine XS.ifNo X219.here hx rfl (hb hby at_114) rfl ((if0 _ _).trans (teq (by decide : (0 : Int32) = (0 : Int32))).2) ?_
          show Steps p.tables e below (T219.setTop (mkF m 117 #[.val (.int p0_), .val (.int p1_), .val (.int p2_), .val (.int p3_), .val (.int p4_), .val (.int p0_), .val (.ref b184), .val .null, .val (.ref b198), .val (.int (1 : Int32)), .unset] [])) _
          refine XS.iconst X219.here hx rfl (hb hby at_117) ?_
          show Steps p.tables e below (T219.setTop (mkF m 118 #[.val (.int p0_), .val (.int p1_), .val (.int p2_), .val (.int p3_), .val (.int p4_), .val (.int p0_), .val (.ref b184), .val .null, .val (.ref b198), .val (.int (1 : Int32)), .unset] [(.int (1 : Int32))])) _
          refine XS.goto X219.here hx rfl (pc0 := 118) (pc' := 122) rfl (hb hby at_118) (by decide) (by decide) ?_
          show Steps p.tables e below (T219.setTop (mkF m 122 #[.val (.int p0_), .val (.int p1_), .val (.int p2_), .val (.int p3_), .val (.int p4_), .val (.int p0_), .val (.ref b184), .val .null, .val (.ref b198), .val (.int (1 : Int32)), .unset] [(.int (1 : Int32))])) _
          refine XS.istore X219.here hx rfl (hb hby at_122) rfl (l' := #[.val (.int p0_), .val (.int p1_), .val (.int p2_), .val (.int p3_), .val (.int p4_), .val (.int p0_), .val (.ref b184), .val .null, .val (.ref b198), .val (.int (1 : Int32)), .val (.int (1 : Int32))]) rfl ?_
          show Steps p.tables e below (T219.setTop (mkF m 124 #[.val (.int p0_), .val (.int p1_), .val (.int p2_), .val (.int p3_), .val (.int p4_), .val (.int p0_), .val (.ref b184), .val .null, .val (.ref b198), .val (.int (1 : Int32)), .val (.int (1 : Int32))] [])) _
          refine XS.goto X219.here hx rfl (pc0 := 124) (pc' := 130) rfl (hb hby at_124) (by decide) (by decide) ?_
          show Steps p.tables e below (T219.setTop (mkF m 130 #[.val (.int p0_), .val (.int p1_), .val (.int p2_), .val (.int p3_), .val (.int p4_), .val (.int p0_), .val (.ref b184), .val .null, .val (.ref b198), .val (.int (1 : Int32)), .val (.int (1 : Int32))] [])) _
          refine XS.iload X219.here hx rfl (hb hby at_130) rfl ?_
          show Steps p.tables e below (T219.setTop (mkF m 132 #[.val (.int p0_), .val (.int p1_), .val (.int p2_), .val (.int p3_), .val (.int p4_), .val (.int p0_), .val (.ref b184), .val .null, .val (.ref b198), .val (.int (1 : Int32)), .val (.int (1 : Int32))] [(.int (1 : Int32))])) _
          refine XS.iload X219.here hx rfl (hb hby at_132) rfl ?_
          show Steps p.tables e below (T219.setTop (mkF m 134 #[.val (.int p0_), .val (.int p1_), .val (.int p2_), .val (.int p3_), .val (.int p4_), .val (.int p0_), .val (.ref b184), .val .null, .val (.ref b198), .val (.int (1 : Int32)), .val (.int (1 : Int32))] [(.int (1 : Int32)), (.int (1 : Int32))])) _
          refine XS.icmpNo X219.here hx rfl (hb hby at_134) rfl (teq (by decide : (1 : Int32) = (1 : Int32))).2 ?_
          show Steps p.tables e below (T219.setTop (mkF m 137 #[.val (.int p0_), .val (.int p1_), .val (.int p2_), .val (.int p3_), .val (.int p4_), .val (.int p0_), .val (.ref b184), .val .null, .val (.ref b198), .val (.int (1 : Int32)), .val (.int (1 : Int32))] [])) _
          refine XS.iconst X219.here hx rfl (hb hby at_137) ?_
          show Steps p.tables e below (T219.setTop (mkF m 138 #[.val (.int p0_), .val (.int p1_), .val (.int p2_), .val (.int p3_), .val (.int p4_), .val (.int p0_), .val (.ref b184), .val .null, .val (.ref b198), .val (.int (1 : Int32)), .val (.int (1 : Int32))] [(.int (1 : Int32))])) _
          refine XS.goto X219.here hx rfl (pc0 := 138) (pc' := 142) rfl (hb hby at_138) (by decide) (by decide) ?_
          exact kt
        obtain ⟨fs, hr, hrun, hended, hW, hsame⟩ := X219.leave (v := some (.int (1 : Int32))) (fun h => by rw [Bd.returns] at h; cases h)
        refine ⟨_, _, pre221 _ (retN X219 hx (t := .boolean) Bd.returns (by simp) (hb hby at_142) hr), hrun, hended, _, _, rfl, ?_, ⟨_, rfl⟩, hW, hsame.mono (by decide) (by decide)⟩
        show QLaw Z p0_ p1_ p2_ p3_ p4_ w_COMPACT_STRINGS w_FLOAT w_LONG w_INT w_REFERENCE w_DOUBLE h0 n0 _ T219.heap _
        rw [e219']
        exact ⟨rfl, N220⟩
      · obtain ⟨cq223, kq223, q223a, q223b, q223c⟩ := isOf hZ e213' g210_0
        obtain ⟨_, _, ⟨T223, L223, k223, n223⟩, -, X223, ⟨Lc223, hQ223, l223, y223, z223⟩, st223⟩ := X213.virtualBack hx (y := (⟨"com/example/stackweave/stackweave/classfile/VerificationType", "kind", "()Lcom/example/stackweave/stackweave/classfile/ValueKind;"⟩ : MethodName)) (z := (⟨"com/example/stackweave/stackweave/classfile/VerificationType", "kind", "()Lcom/example/stackweave/stackweave/classfile/ValueKind;"⟩ : MethodName)) hown (mvT hZ (hw _ (List.mem_of_getElem? (i := 54) rfl))) (mvT hZ (hw _ (List.mem_of_getElem? (i := 55) rfl))) (notFace_of_selects (args := #[]) (mvT hZ (hw _ (List.mem_of_getElem? (i := 57) rfl)))) (mvT hZ (hw _ (List.mem_of_getElem? (i := 57) rfl))) (mvT hZ (hw _ (List.mem_of_getElem? (i := 56) rfl))) (by decide) (backOf (W := 0) (rmkind6 l Z a0 hw [] b198 p0_ p4_ w_REFERENCE h210 n0 f214 hq213_1_0 hq213_1_1 g210_0 g210_1 g210_2 g210_3 P4 P13 P3) hZ (hw _ (List.mem_of_getElem? (i := 58) rfl)) (hw _ (List.mem_of_getElem? (i := 32) rfl)) (by decide) (by decide)) q223a q223c (g := (mkF m 100 #[.val (.int p0_), .val (.int p1_), .val (.int p2_), .val (.int p3_), .val (.int p4_), .val (.int p0_), .val (.ref b184), .val .null, .val (.ref b198), .val (.int (1 : Int32)), .unset] [(.ref b198)])) rfl (by rw [hml]; rfl) (Steps.refl _) (argsL := []) (rest := []) (lenOf pd_3 rfl) rfl (by show 2 * 0 + _ ≤ _; exact Nat.le_of_eq rfl) (hb hby at_100) (fun _ _ => ⟨rfl, e213', (by decide : 2 + 0 ≤ _), (by decide : 5 + 0 ≤ _)⟩)
        dsimp only [Pt.U, Pt.locs, Pt.cells, Pt.slots] at X223 l223 y223 z223 st223 hQ223
        subst l223 y223 z223
        obtain ⟨h223, e223⟩ : ∃ z, T223.heap = z := ⟨_, rfl⟩
        rw [e223] at hQ223
        obtain ⟨rfl, N223q, hh223⟩ := hQ223
        have N224 := Fr.app N215 N223q
        have e223' : T223.heap = h210 := e223.trans hh223
        obtain ⟨T225, X225, e225, st225⟩ := getS2 X223 hx hZ hown (host := "") (Or.inl (hw _ (List.mem_of_getElem? (i := 62) rfl))) Via.refl e223' (P3.ext f214.2) (g := (mkF m 103 #[.val (.int p0_), .val (.int p1_), .val (.int p2_), .val (.int p3_), .val (.int p4_), .val (.int p0_), .val (.ref b184), .val .null, .val (.ref b198), .val (.int (1 : Int32)), .unset] [(.ref w_REFERENCE)])) rfl (hb hby at_103)
        obtain ⟨cq226, kq226, q226a, q226b, q226c⟩ := isOf hZ e225 g210_0
        obtain ⟨_, _, ⟨T226, L226, k226, n226⟩, -, X226, ⟨Lc226, hQ226, l226, y226, z226⟩, st226⟩ := X225.virtualBack hx (y := (⟨"com/example/stackweave/stackweave/classfile/VerificationType", "isUninitialized", "()Z"⟩ : MethodName)) (z := (⟨"com/example/stackweave/stackweave/classfile/VerificationType", "isUninitialized", "()Z"⟩ : MethodName)) hown (mvT hZ (hw _ (List.mem_of_getElem? (i := 65) rfl))) (mvT hZ (hw _ (List.mem_of_getElem? (i := 66) rfl))) (notFace_of_selects (args := #[]) (mvT hZ (hw _ (List.mem_of_getElem? (i := 68) rfl)))) (mvT hZ (hw _ (List.mem_of_getElem? (i := 68) rfl))) (mvT hZ (hw _ (List.mem_of_getElem? (i := 67) rfl))) (by decide) (backOf (W := 0) (rmisUninitialized7 l Z a0 hw [] b198 p0_ p4_ h210 n0 f214 hq213_1_0 hq213_1_1 g210_0 g210_1 g210_2 g210_3) hZ (hw _ (List.mem_of_getElem? (i := 69) rfl)) (hw _ (List.mem_of_getElem? (i := 32) rfl)) (by decide) (by decide)) q226a q226c (g := (mkF m 111 #[.val (.int p0_), .val (.int p1_), .val (.int p2_), .val (.int p3_), .val (.int p4_), .val (.int p0_), .val (.ref b184), .val .null, .val (.ref b198), .val (.int (1 : Int32)), .unset] [(.ref b198)])) rfl (by rw [hml]; rfl) (Steps.refl _) (argsL := []) (rest := []) (lenOf pd_2 rfl) rfl (by show 2 * 0 + _ ≤ _; exact Nat.le_of_eq rfl) (hb hby at_111) (fun _ _ => ⟨rfl, e225, (by decide : 2 + 0 ≤ _), (by decide : 5 + 0 ≤ _)⟩)
        dsimp only [Pt.U, Pt.locs, Pt.cells, Pt.slots] at X226 l226 y226 z226 st226 hQ226
        subst l226 y226 z226
        obtain ⟨h226, e226⟩ : ∃ z, T226.heap = z := ⟨_, rfl⟩
        rw [e226] at hQ226
        obtain ⟨rfl, N226q, hh226⟩ := hQ226
        have N227 := Fr.app N224 N226q
        have e226' : T226.heap = h210 := e226.trans hh226
        have pre228 : ∀ t, Steps p.tables e below (T226.setTop (mkF m 142 #[.val (.int p0_), .val (.int p1_), .val (.int p2_), .val (.int p3_), .val (.int p4_), .val (.int p0_), .val (.ref b184), .val .null, .val (.ref b198), .val (.int (1 : Int32)), .val (.int (1 : Int32))] [(.int (1 : Int32))])) t → Steps p.tables e below (s₁.setTop (entryFrame m #[(.int p0_), (.int p1_), (.int p2_), (.int p3_), (.int p4_)] maxLocals)) t := by
          intro t kt
          refine pre196 t ?_
          show Steps p.tables e below (T192.setTop (mkF m 45 #[.val (.int p0_), .val (.int p1_), .val (.int p2_), .val (.int p3_), .val (.int p4_), .val (.int p0_), .val (.ref b184), .unset, .unset, .unset, .unset] [(.int (p1_ &&& (2 : Int32)))])) _
          refine XS.ifYes X192.here hx rfl (pc0 := 45) (pc' := 60) rfl (hb hby at_45) rfl ((if0 _ _).trans (teq hc197).1) (by decide) (by decide) ?_
          show Steps p.tables e below (T192.setTop (mkF m 60 #[.val (.int p0_), .val (.int p1_), .val (.int p2_), .val (.int p3_), .val (.int p4_), .val (.int p0_), .val (.ref b184), .unset, .unset, .unset, .unset] [])) _
          refine XS.aconstNull X192.here hx rfl (hb hby at_60) ?_
          show Steps p.tables e below (T192.setTop (mkF m 61 #[.val (.int p0_), .val (.int p1_), .val (.int p2_), .val (.int p3_), .val (.int p4_), .val (.int p0_), .val (.ref b184), .unset, .unset, .unset, .unset] [.null])) _
          refine XS.astore X192.here hx rfl (hb hby at_61) rfl rfl (l' := #[.val (.int p0_), .val (.int p1_), .val (.int p2_), .val (.int p3_), .val (.int p4_), .val (.int p0_), .val (.ref b184), .val .null, .unset, .unset, .unset]) rfl ?_
          show Steps p.tables e below (T192.setTop (mkF m 63 #[.val (.int p0_), .val (.int p1_), .val (.int p2_), .val (.int p3_), .val (.int p4_), .val (.int p0_), .val (.ref b184), .val .null, .unset, .unset, .unset] [])) _
          refine st198 _ ?_
          show Steps p.tables e below (T198.setTop (mkF m 66 #[.val (.int p0_), .val (.int p1_), .val (.int p2_), .val (.int p3_), .val (.int p4_), .val (.int p0_), .val (.ref b184), .val .null, .unset, .unset, .unset] [(.ref b198)])) _
          refine XS.dup X198.here hx rfl (hb hby at_66) rfl rfl ?_
          show Steps p.tables e below (T198.setTop (mkF m 67 #[.val (.int p0_), .val (.int p1_), .val (.int p2_), .val (.int p3_), .val (.int p4_), .val (.int p0_), .val (.ref b184), .val .null, .unset, .unset, .unset] [(.ref b198), (.ref b198)])) _
          refine XS.iload X198.here hx rfl (hb hby at_67) rfl ?_
          show Steps p.tables e below (T198.setTop (mkF m 69 #[.val (.int p0_), .val (.int p1_), .val (.int p2_), .val (.int p3_), .val (.int p4_), .val (.int p0_), .val (.ref b184), .val .null, .unset, .unset, .unset] [(.int p0_), (.ref b198), (.ref b198)])) _
          refine XS.aload X198.here hx rfl (hb hby at_69) rfl rfl ?_
          show Steps p.tables e below (T198.setTop (mkF m 71 #[.val (.int p0_), .val (.int p1_), .val (.int p2_), .val (.int p3_), .val (.int p4_), .val (.int p0_), .val (.ref b184), .val .null, .unset, .unset, .unset] [.null, (.int p0_), (.ref b198), (.ref b198)])) _
          refine XS.iload X198.here hx rfl (hb hby at_71) rfl ?_
          show Steps p.tables e below (T198.setTop (mkF m 73 #[.val (.int p0_), .val (.int p1_), .val (.int p2_), .val (.int p3_), .val (.int p4_), .val (.int p0_), .val (.ref b184), .val .null, .unset, .unset, .unset] [(.int p4_), .null, (.int p0_), (.ref b198), (.ref b198)])) _
          refine st210.trans ?_
          show Steps p.tables e below (T210.setTop (mkF m 76 #[.val (.int p0_), .val (.int p1_), .val (.int p2_), .val (.int p3_), .val (.int p4_), .val (.int p0_), .val (.ref b184), .val .null, .unset, .unset, .unset] [(.ref b198)])) _
          refine XS.astore X210.here hx rfl (hb hby at_76) rfl rfl (l' := #[.val (.int p0_), .val (.int p1_), .val (.int p2_), .val (.int p3_), .val (.int p4_), .val (.int p0_), .val (.ref b184), .val .null, .val (.ref b198), .unset, .unset]) rfl ?_
          show Steps p.tables e below (T210.setTop (mkF m 78 #[.val (.int p0_), .val (.int p1_), .val (.int p2_), .val (.int p3_), .val (.int p4_), .val (.int p0_), .val (.ref b184), .val .null, .val (.ref b198), .unset, .unset] [])) _
          refine XS.aload X210.here hx rfl (hb hby at_78) rfl rfl ?_
          show Steps p.tables e below (T210.setTop (mkF m 80 #[.val (.int p0_), .val (.int p1_), .val (.int p2_), .val (.int p3_), .val (.int p4_), .val (.int p0_), .val (.ref b184), .val .null, .val (.ref b198), .unset, .unset] [(.ref b198)])) _
          refine st213.trans ?_
          show Steps p.tables e below (T213.setTop (mkF m 83 #[.val (.int p0_), .val (.int p1_), .val (.int p2_), .val (.int p3_), .val (.int p4_), .val (.int p0_), .val (.ref b184), .val .null, .val (.ref b198), .unset, .unset] [(.int (1 : Int32))])) _
          refine XS.istore X213.here hx rfl (hb hby at_83) rfl (l' := #[.val (.int p0_), .val (.int p1_), .val (.int p2_), .val (.int p3_), .val (.int p4_), .val (.int p0_), .val (.ref b184), .val .null, .val (.ref b198), .val (.int (1 : Int32)), .unset]) rfl ?_
          show Steps p.tables e below (T213.setTop (mkF m 85 #[.val (.int p0_), .val (.int p1_), .val (.int p2_), .val (.int p3_), .val (.int p4_), .val (.int p0_), .val (.ref b184), .val .null, .val (.ref b198), .val (.int (1 : Int32)), .unset] [])) _
          refine XS.iload X213.here hx rfl (hb hby at_85) rfl ?_
          show Steps p.tables e below (T213.setTop (mkF m 87 #[.val (.int p0_), .val (.int p1_), .val (.int p2_), .val (.int p3_), .val (.int p4_), .val (.int p0_), .val (.ref b184), .val .null, .val (.ref b198), .val (.int (1 : Int32)), .unset] [(.int p0_)])) _
          refine XS.iconst X213.here hx rfl (hb hby at_87) ?_
          show Steps p.tables e below (T213.setTop (mkF m 88 #[.val (.int p0_), .val (.int p1_), .val (.int p2_), .val (.int p3_), .val (.int p4_), .val (.int p0_), .val (.ref b184), .val .null, .val (.ref b198), .val (.int (1 : Int32)), .unset] [(.int (1 : Int32)), (.int p0_)])) _
          refine XS.icmpNo X213.here hx rfl (hb hby at_88) rfl (flt (by intro hz; have lt_0 : ((1 : Int32)).toInt = 1 := rfl; have lt_1 : ((5 : Int32)).toInt = 5 := rfl; have lt_2 : ((7 : Int32)).toInt = 7 := rfl; simp only [Int32.lt_iff_toInt_lt, Int64.lt_iff_toInt_lt, ← Int32.toInt_inj, ← Int64.toInt_inj] at hz hq213_1_0 hq213_1_1; omega)).1 ?_
          show Steps p.tables e below (T213.setTop (mkF m 91 #[.val (.int p0_), .val (.int p1_), .val (.int p2_), .val (.int p3_), .val (.int p4_), .val (.int p0_), .val (.ref b184), .val .null, .val (.ref b198), .val (.int (1 : Int32)), .unset] [])) _
          refine XS.iload X213.here hx rfl (hb hby at_91) rfl ?_
          show Steps p.tables e below (T213.setTop (mkF m 93 #[.val (.int p0_), .val (.int p1_), .val (.int p2_), .val (.int p3_), .val (.int p4_), .val (.int p0_), .val (.ref b184), .val .null, .val (.ref b198), .val (.int (1 : Int32)), .unset] [(.int p0_)])) _
          refine XS.bipush X213.here hx rfl (hb hby at_93) ?_
          show Steps p.tables e below (T213.setTop (mkF m 95 #[.val (.int p0_), .val (.int p1_), .val (.int p2_), .val (.int p3_), .val (.int p4_), .val (.int p0_), .val (.ref b184), .val .null, .val (.ref b198), .val (.int (1 : Int32)), .unset] [(.int (8 : Int32)), (.int p0_)])) _
          refine XS.icmpNo X213.here hx rfl (hb hby at_95) rfl (flt (by intro hz; have lt_0 : ((5 : Int32)).toInt = 5 := rfl; have lt_1 : ((7 : Int32)).toInt = 7 := rfl; have lt_2 : ((8 : Int32)).toInt = 8 := rfl; simp only [Int32.lt_iff_toInt_lt, Int64.lt_iff_toInt_lt, ← Int32.toInt_inj, ← Int64.toInt_inj] at hz hq213_1_0 hq213_1_1; omega)).2.2.1 ?_
          show Steps p.tables e below (T213.setTop (mkF m 98 #[.val (.int p0_), .val (.int p1_), .val (.int p2_), .val (.int p3_), .val (.int p4_), .val (.int p0_), .val (.ref b184), .val .null, .val (.ref b198), .val (.int (1 : Int32)), .unset] [])) _
          refine XS.aload X213.here hx rfl (hb hby at_98) rfl rfl ?_
          show Steps p.tables e below (T213.setTop (mkF m 100 #[.val (.int p0_), .val (.int p1_), .val (.int p2_), .val (.int p3_), .val (.int p4_), .val (.int p0_), .val (.ref b184), .val .null, .val (.ref b198), .val (.int (1 : Int32)), .unset] [(.ref b198)])) _
          refine st223.trans ?_
          show Steps p.tables e below (T223.setTop (mkF m 103 #[.val (.int p0_), .val (.int p1_), .val (.int p2_), .val (.int p3_), .val (.int p4_), .val (.int p0_), .val (.ref b184), .val .null, .val (.ref b198), .val (.int (1 : Int32)), .unset] [(.ref w_REFERENCE)])) _
          refine st225 _ ?_
          show Steps p.tables e below (T225.setTop (mkF m 106 #[.val (.int p0_), .val (.int p1_), .val (.int p2_), .val (.int p3_), .val (.int p4_), .val (.int p0_), .val (.ref b184), .val .null, .val (.ref b198), .val (.int (1 : Int32)), .unset] [(.ref w_REFERENCE), (.ref w_REFERENCE)])) _
          refine Jvm.RoadKit.acmp (g := (mkF m 106 #[.val (.int p0_), .val (.int p1_), .val (.int p2_), .val (.int p3_), .val (.int p4_), .val (.int p0_), .val (.ref b184), .val .null, .val (.ref b198), .val (.int (1 : Int32)), .unset] [(.ref w_REFERENCE), (.ref w_REFERENCE)])) X225 hx rfl rfl rfl (pc0 := 106) (pc' := 109) (same := true) rfl (hb hby at_106) rfl (decide_eq_true rfl) (by decide) (by decide) ?_
          show Steps p.tables e below (T225.setTop (mkF m 109 #[.val (.int p0_), .val (.int p1_), .val (.int p2_), .val (.int p3_), .val (.int p4_), .val (.int p0_), .val (.ref b184), .val .null, .val (.ref b198), .val (.int (1 : Int32)), .unset] [])) _
          refine XS.aload X225.here hx rfl (hb hby at_109) rfl rfl ?_
          show Steps p.tables e below (T225.setTop (mkF m 111 #[.val (.int p0_), .val (.int p1_), .val (.int p2_), .val (.int p3_), .val (.int p4_), .val (.int p0_), .val (.ref b184), .val .null, .val (.ref b198), .val (.int (1 : Int32)), .unset] [(.ref b198)])) _
          refine st226.trans ?_
          show Steps p.tables e below (T226.setTop (mkF m 114 #[.val (.int p0_), .val (.int p1_), .val (.int p2_), .val (.int p3_), .val (.int p4_), .val (.int p0_), .val (.ref b184), .val .null, .val (.ref b198), .val (.int (1 : Int32)), .unset] [(.int (0 : Int32))])) _
          refine XS.ifNo X226.here hx rfl (hb hby at_114) rfl ((if0 _ _).trans (teq (by decide : (0 : Int32) = (0 : Int32))).2) ?_
          show Steps p.tables e below (T226.setTop (mkF m 117 #[.val (.int p0_), .val (.int p1_), .val (.int p2_), .val (.int p3_), .val (.int p4_), .val (.int p0_), .val (.ref b184), .val .null, .val (.ref b198), .val (.int (1 : Int32)), .unset] [])) _
          refine XS.iconst X226.here hx rfl (hb hby at_117) ?_
          show Steps p.tables e below (T226.setTop (mkF m 118 #[.val (.int p0_), .val (.int p1_), .val (.int p2_), .val (.int p3_), .val (.int p4_), .val (.int p0_), .val (.ref b184), .val .null, .val (.ref b198), .val (.int (1 : Int32)), .unset] [(.int (1 : Int32))])) _
          refine XS.goto X226.here hx rfl (pc0 := 118) (pc' := 122) rfl (hb hby at_118) (by decide) (by decide) ?_
          show Steps p.tables e below (T226.setTop (mkF m 122 #[.val (.int p0_), .val (.int p1_), .val (.int p2_), .val (.int p3_), .val (.int p4_), .val (.int p0_), .val (.ref b184), .val .null, .val (.ref b198), .val (.int (1 : Int32)), .unset] [(.int (1 : Int32))])) _
          refine XS.istore X226.here hx rfl (hb hby at_122) rfl (l' := #[.val (.int p0_), .val (.int p1_), .val (.int p2_), .val (.int p3_), .val (.int p4_), .val (.int p0_), .val (.ref b184), .val .null, .val (.ref b198), .val (.int (1 : Int32)), .val (.int (1 : Int32))]) rfl ?_
          show Steps p.tables e below (T226.setTop (mkF m 124 #[.val (.int p0_), .val (.int p1_), .val (.int p2_), .val (.int p3_), .val (.int p4_), .val (.int p0_), .val (.ref b184), .val .null, .val (.ref b198), .val (.int (1 : Int32)), .val (.int (1 : Int32))] [])) _
          refine XS.goto X226.here hx rfl (pc0 := 124) (pc' := 130) rfl (hb hby at_124) (by decide) (by decide) ?_
          show Steps p.tables e below (T226.setTop (mkF m 130 #[.val (.int p0_), .val (.int p1_), .val (.int p2_), .val (.int p3_), .val (.int p4_), .val (.int p0_), .val (.ref b184), .val .null, .val (.ref b198), .val (.int (1 : Int32)), .val (.int (1 : Int32))] [])) _
          refine XS.iload X226.here hx rfl (hb hby at_130) rfl ?_
          show Steps p.tables e below (T226.setTop (mkF m 132 #[.val (.int p0_), .val (.int p1_), .val (.int p2_), .val (.int p3_), .val (.int p4_), .val (.int p0_), .val (.ref b184), .val .null, .val (.ref b198), .val (.int (1 : Int32)), .val (.int (1 : Int32))] [(.int (1 : Int32))])) _
          refine XS.iload X226.here hx rfl (hb hby at_132) rfl ?_
          show Steps p.tables e below (T226.setTop (mkF m 134 #[.val (.int p0_), .val (.int p1_), .val (.int p2_), .val (.int p3_), .val (.int p4_), .val (.int p0_), .val (.ref b184), .val .null, .val (.ref b198), .val (.int (1 : Int32)), .val (.int (1 : Int32))] [(.int (1 : Int32)), (.int (1 : Int32))])) _
          refine XS.icmpNo X226.here hx rfl (hb hby at_134) rfl (teq (by decide : (1 : Int32) = (1 : Int32))).2 ?_
          show Steps p.tables e below (T226.setTop (mkF m 137 #[.val (.int p0_), .val (.int p1_), .val (.int p2_), .val (.int p3_), .val (.int p4_), .val (.int p0_), .val (.ref b184), .val .null, .val (.ref b198), .val (.int (1 : Int32)), .val (.int (1 : Int32))] [])) _
          refine XS.iconst X226.here hx rfl (hb hby at_137) ?_
          show Steps p.tables e below (T226.setTop (mkF m 138 #[.val (.int p0_), .val (.int p1_), .val (.int p2_), .val (.int p3_), .val (.int p4_), .val (.int p0_), .val (.ref b184), .val .null, .val (.ref b198), .val (.int (1 : Int32)), .val (.int (1 : Int32))] [(.int (1 : Int32))])) _
          refine XS.goto X226.here hx rfl (pc0 := 138) (pc' := 142) rfl (hb hby at_138) (by decide) (by decide) ?_
          exact kt
        obtain ⟨fs, hr, hrun, hended, hW, hsame⟩ := X226.leave (v := some (.int (1 : Int32))) (fun h => by rw [Bd.returns] at h; cases h)
        refine ⟨_, _, pre228 _ (retN X226 hx (t := .boolean) Bd.returns (by simp) (hb hby at_142) hr), hrun, hended, _, _, rfl, ?_, ⟨_, rfl⟩, hW, hsame.mono (by decide) (by decide)⟩
        show QLaw Z p0_ p1_ p2_ p3_ p4_ w_COMPACT_STRINGS w_FLOAT w_LONG w_INT w_REFERENCE w_DOUBLE h0 n0 _ T226.heap _
        rw [e226']
        exact ⟨rfl, N227⟩
      · have pre230 : ∀ t, Steps p.tables e below (T213.setTop (mkF m 88 #[.val (.int p0_), .val (.int p1_), .val (.int p2_), .val (.int p3_), .val (.int p4_), .val (.int p0_), .val (.ref b184), .val .null, .val (.ref b198), .val (.int (0 : Int32)), .unset] [(.int (1 : Int32)), (.int p0_)])) t → Steps p.tables e below (s₁.setTop (entryFrame m #[(.int p0_), (.int p1_), (.int p2_), (.int p3_), (.int p4_)] maxLocals)) t := by
          intro t kt
          refine pre196 t ?_
          show Steps p.tables e below (T192.setTop (mkF m 45 #[.val (.int p0_), .val (.int p1_), .val (.int p2_), .val (.int p3_), .val (.int p4_), .val (.int p0_), .val (.ref b184), .unset, .unset, .unset, .unset] [(.int (p1_ &&& (2 : Int32)))])) _
          refine XS.ifYes X192.here hx rfl (pc0 := 45) (pc' := 60) rfl (hb hby at_45) rfl ((if0 _ _).trans (teq hc197).1) (by decide) (by decide) ?_
          show Steps p.tables e below (T192.setTop (mkF m 60 #[.val (.int p0_), .val (.int p1_), .val (.int p2_), .val (.int p3_), .val (.int p4_), .val (.int p0_), .val (.ref b184), .unset, .unset, .unset, .unset] [])) _
          refine XS.aconstNull X192.here hx rfl (hb hby at_60) ?_
          show Steps p.tables e below (T192.setTop (mkF m 61 #[.val (.int p0_), .val (.int p1_), .val (.int p2_), .val (.int p3_), .val (.int p4_), .val (.int p0_), .val (.ref b184), .unset, .unset, .unset, .unset] [.null])) _
          refine XS.astore X192.here hx rfl (hb hby at_61) rfl rfl (l' := #[.val (.int p0_), .val (.int p1_), .val (.int p2_), .val (.int p3_), .val (.int p4_), .val (.int p0_), .val (.ref b184), .val .null, .unset, .unset, .unset]) rfl ?_
          show Steps p.tables e below (T192.setTop (mkF m 63 #[.val (.int p0_), .val (.int p1_), .val (.int p2_), .val (.int p3_), .val (.int p4_), .val (.int p0_), .val (.ref b184), .val .null, .unset, .unset, .unset] [])) _
          refine st198 _ ?_
          show Steps p.tables e below (T198.setTop (mkF m 66 #[.val (.int p0_), .val (.int p1_), .val (.int p2_), .val (.int p3_), .val (.int p4_), .val (.int p0_), .val (.ref b184), .val .null, .unset, .unset, .unset] [(.ref b198)])) _
          refine XS.dup X198.here hx rfl (hb hby at_66) rfl rfl ?_
          show Steps p.tables e below (T198.setTop (mkF m 67 #[.val (.int p0_), .val (.int p1_), .val (.int p2_), .val (.int p3_), .val (.int p4_), .val (.int p0_), .val (.ref b184), .val .null, .unset, .unset, .unset] [(.ref b198), (.ref b198)])) _
          refine XS.iload X198.here hx rfl (hb hby at_67) rfl ?_
          show Steps p.tables e below (T198.setTop (mkF m 69 #[.val (.int p0_), .val (.int p1_), .val (.int p2_), .val (.int p3_), .val (.int p4_), .val (.int p0_), .val (.ref b184), .val .null, .unset, .unset, .unset] [(.int p0_), (.ref b198), (.ref b198)])) _
          refine XS.aload X198.here hx rfl (hb hby at_69) rfl rfl ?_
          show Steps p.tables e below (T198.setTop (mkF m 71 #[.val (.int p0_), .val (.int p1_), .val (.int p2_), .val (.int p3_), .val (.int p4_), .val (.int p0_), .val (.ref b184), .val .null, .unset, .unset, .unset] [.null, (.int p0_), (.ref b198), (.ref b198)])) _
          refine XS.iload X198.here hx rfl (hb hby at_71) rfl ?_
          show Steps p.tables e below (T198.setTop (mkF m 73 #[.val (.int p0_), .val (.int p1_), .val (.int p2_), .val (.int p3_), .val (.int p4_), .val (.int p0_), .val (.ref b184), .val .null, .unset, .unset, .unset] [(.int p4_), .null, (.int p0_), (.ref b198), (.ref b198)])) _
          refine st210.trans ?_
          show Steps p.tables e below (T210.setTop (mkF m 76 #[.val (.int p0_), .val (.int p1_), .val (.int p2_), .val (.int p3_), .val (.int p4_), .val (.int p0_), .val (.ref b184), .val .null, .unset, .unset, .unset] [(.ref b198)])) _
          refine XS.astore X210.here hx rfl (hb hby at_76) rfl rfl (l' := #[.val (.int p0_), .val (.int p1_), .val (.int p2_), .val (.int p3_), .val (.int p4_), .val (.int p0_), .val (.ref b184), .val .null, .val (.ref b198), .unset, .unset]) rfl ?_
          show Steps p.tables e below (T210.setTop (mkF m 78 #[.val (.int p0_), .val (.int p1_), .val (.int p2_), .val (.int p3_), .val (.int p4_), .val (.int p0_), .val (.ref b184), .val .null, .val (.ref b198), .unset, .unset] [])) _
          refine XS.aload X210.here hx rfl (hb hby at_78) rfl rfl ?_
          show Steps p.tables e below (T210.setTop (mkF m 80 #[.val (.int p0_), .val (.int p1_), .val (.int p2_), .val (.int p3_), .val (.int p4_), .val (.int p0_), .val (.ref b184), .val .null, .val (.ref b198), .unset, .unset] [(.ref b198)])) _
          refine st213.trans ?_
          show Steps p.tables e below (T213.setTop (mkF m 83 #[.val (.int p0_), .val (.int p1_), .val (.int p2_), .val (.int p3_), .val (.int p4_), .val (.int p0_), .val (.ref b184), .val .null, .val (.ref b198), .unset, .unset] [(.int (0 : Int32))])) _
          refine XS.istore X213.here hx rfl (hb hby at_83) rfl (l' := #[.val (.int p0_), .val (.int p1_), .val (.int p2_), .val (.int p3_), .val (.int p4_), .val (.int p0_), .val (.ref b184), .val .null, .val (.ref b198), .val (.int (0 : Int32)), .unset]) rfl ?_
          show Steps p.tables e below (T213.setTop (mkF m 85 #[.val (.int p0_), .val (.int p1_), .val (.int p2_), .val (.int p3_), .val (.int p4_), .val (.int p0_), .val (.ref b184), .val .null, .val (.ref b198), .val (.int (0 : Int32)), .unset] [])) _
          refine XS.iload X213.here hx rfl (hb hby at_85) rfl ?_
          show Steps p.tables e below (T213.setTop (mkF m 87 #[.val (.int p0_), .val (.int p1_), .val (.int p2_), .val (.int p3_), .val (.int p4_), .val (.int p0_), .val (.ref b184), .val .null, .val (.ref b198), .val (.int (0 : Int32)), .unset] [(.int p0_)])) _
          refine XS.iconst X213.here hx rfl (hb hby at_87) ?_
          exact kt
        by_cases hc231 : p0_ < (1 : Int32)
        · have pre232 : ∀ t, Steps p.tables e below (T213.setTop (mkF m 142 #[.val (.int p0_), .val (.int p1_), .val (.int p2_), .val (.int p3_), .val (.int p4_), .val (.int p0_), .val (.ref b184), .val .null, .val (.ref b198), .val (.int (0 : Int32)), .val (.int (0 : Int32))] [(.int (1 : Int32))])) t → Steps p.tables e below (s₁.setTop (entryFrame m #[(.int p0_), (.int p1_), (.int p2_), (.int p3_), (.int p4_)] maxLocals)) t := by
            intro t kt
            refine pre230 t ?_
            show Steps p.tables e below (T213.setTop (mkF m 88 #[.val (.int p0_), .val (.int p1_), .val (.int p2_), .val (.int p3_), .val (.int p4_), .val (.int p0_), .val (.ref b184), .val .null, .val (.ref b198), .val (.int (0 : Int32)), .unset] [(.int (1 : Int32)), (.int p0_)])) _
            refine XS.icmpYes X213.here hx rfl (pc0 := 88) (pc' := 127) rfl (hb hby at_88) rfl (tlt hc231).1 (by decide) (by decide) ?_
            show Steps p.tables e below (T213.setTop (mkF m 127 #[.val (.int p0_), .val (.int p1_), .val (.int p2_), .val (.int p3_), .val (.int p4_), .val (.int p0_), .val (.ref b184), .val .null, .val (.ref b198), .val (.int (0 : Int32)), .unset] [])) _
            refine XS.iconst X213.here hx rfl (hb hby at_127) ?_
            show Steps p.tables e below (T213.setTop (mkF m 128 #[.val (.int p0_), .val (.int p1_), .val (.int p2_), .val (.int p3_), .val (.int p4_), .val (.int p0_), .val (.ref b184), .val .null, .val (.ref b198), .val (.int (0 : Int32)), .unset] [(.int (0 : Int32))])) _
            refine XS.istore X213.here hx rfl (hb hby at_128) rfl (l' := #[.val (.int p0_), .val (.int p1_), .val (.int p2_), .val (.int p3_), .val (.int p4_), .val (.int p0_), .val (.ref b184), .val .null, .val (.ref b198), .val (.int (0 : Int32)), .val (.int (0 : Int32))]) rfl ?_
            show Steps p.tables e below (T213.setTop (mkF m 130 #[.val (.int p0_), .val (.int p1_), .val (.int p2_), .val (.int p3_), .val (.int p4_), .val (.int p0_), .val (.ref b184), .val .null, .val (.ref b198), .val (.int (0 : Int32)), .val (.int (0 : Int32))] [])) _
            refine XS.iload X213.here hx rfl (hb hby at_130) rfl ?_
            show Steps p.tables e below (T213.setTop (mkF m 132 #[.val (.int p0_), .val (.int p1_), .val (.int p2_), .val (.int p3_), .val (.int p4_), .val (.int p0_), .val (.ref b184), .val .null, .val (.ref b198), .val (.int (0 : Int32)), .val (.int (0 : Int32))] [(.int (0 : Int32))])) _
            refine XS.iload X213.here hx rfl (hb hby at_132) rfl ?_
            show Steps p.tables e below (T213.setTop (mkF m 134 #[.val (.int p0_), .val (.int p1_), .val (.int p2_), .val (.int p3_), .val (.int p4_), .val (.int p0_), .val (.ref b184), .val .null, .val (.ref b198), .val (.int (0 : Int32)), .val (.int (0 : Int32))] [(.int (0 : Int32)), (.int (0 : Int32))])) _
            refine XS.icmpNo X213.here hx rfl (hb hby at_134) rfl (teq (by decide : (0 : Int32) = (0 : Int32))).2 ?_
            show Steps p.tables e below (T213.setTop (mkF m 137 #[.val (.int p0_), .val (.int p1_), .val (.int p2_), .val (.int p3_), .val (.int p4_), .val (.int p0_), .val (.ref b184), .val .null, .val (.ref b198), .val (.int (0 : Int32)), .val (.int (0 : Int32))] [])) _
            refine XS.iconst X213.here hx rfl (hb hby at_137) ?_
            show Steps p.tables e below (T213.setTop (mkF m 138 #[.val (.int p0_), .val (.int p1_), .val (.int p2_), .val (.int p3_), .val (.int p4_), .val (.int p0_), .val (.ref b184), .val .null, .val (.ref b198), .val (.int (0 : Int32)), .val (.int (0 : Int32))] [(.int (1 : Int32))])) _
            refine XS.goto X213.here hx rfl (pc0 := 138) (pc' := 142) rfl (hb hby at_138) (by decide) (by decide) ?_
            exact kt
          obtain ⟨fs, hr, hrun, hended, hW, hsame⟩ := X213.leave (v := some (.int (1 : Int32))) (fun h => by rw [Bd.returns] at h; cases h)
          refine ⟨_, _, pre232 _ (retN X213 hx (t := .boolean) Bd.returns (by simp) (hb hby at_142) hr), hrun, hended, _, _, rfl, ?_, ⟨_, rfl⟩, hW, hsame.mono (by decide) (by decide)⟩
          show QLaw Z p0_ p1_ p2_ p3_ p4_ w_COMPACT_STRINGS w_FLOAT w_LONG w_INT w_REFERENCE w_DOUBLE h0 n0 _ T213.heap _
          rw [e213']
          exact ⟨rfl, N215⟩
        · have pre234 : ∀ t, Steps p.tables e below (T213.setTop (mkF m 95 #[.val (.int p0_), .val (.int p1_), .val (.int p2_), .val (.int p3_), .val (.int p4_), .val (.int p0_), .val (.ref b184), .val .null, .val (.ref b198), .val (.int (0 : Int32)), .unset] [(.int (8 : Int32)), (.int p0_)])) t → Steps p.tables e below (s₁.setTop (entryFrame m #[(.int p0_), (.int p1_), (.int p2_), (.int p3_), (.int p4_)] maxLocals)) t := by
            intro t kt
            refine pre230 t ?_
            show Steps p.tables e below (T213.setTop (mkF m 88 #[.val (.int p0_), .val (.int p1_), .val (.int p2_), .val (.int p3_), .val (.int p4_), .val (.int p0_), .val (.ref b184), .val .null, .val (.ref b198), .val (.int (0 : Int32)), .unset] [(.int (1 : Int32)), (.int p0_)])) _
            refine XS.icmpNo X213.here hx rfl (hb hby at_88) rfl (flt hc231).1 ?_
            show Steps p.tables e below (T213.setTop (mkF m 91 #[.val (.int p0_), .val (.int p1_), .val (.int p2_), .val (.int p3_), .val (.int p4_), .val (.int p0_), .val (.ref b184), .val .null, .val (.ref b198), .val (.int (0 : Int32)), .unset] [])) _
            refine XS.iload X213.here hx rfl (hb hby at_91) rfl ?_
            show Steps p.tables e below (T213.setTop (mkF m 93 #[.val (.int p0_), .val (.int p1_), .val (.int p2_), .val (.int p3_), .val (.int p4_), .val (.int p0_), .val (.ref b184), .val .null, .val (.ref b198), .val (.int (0 : Int32)), .unset] [(.int p0_)])) _
            refine XS.bipush X213.here hx rfl (hb hby at_93) ?_
            exact kt
          by_cases hc235 : (8 : Int32) < p0_
          · have pre236 : ∀ t, Steps p.tables e below (T213.setTop (mkF m 142 #[.val (.int p0_), .val (.int p1_), .val (.int p2_), .val (.int p3_), .val (.int p4_), .val (.int p0_), .val (.ref b184), .val .null, .val (.ref b198), .val (.int (0 : Int32)), .val (.int (0 : Int32))] [(.int (1 : Int32))])) t → Steps p.tables e below (s₁.setTop (entryFrame m #[(.int p0_), (.int p1_), (.int p2_), (.int p3_), (.int p4_)] maxLocals)) t := by
              intro t kt
              refine pre234 t ?_
              show Steps p.tables e below (T213.setTop (mkF m 95 #[.val (.int p0_), .val (.int p1_), .val (.int p2_), .val (.int p3_), .val (.int p4_), .val (.int p0_), .val (.ref b184), .val .null, .val (.ref b198), .val (.int (0 : Int32)), .unset] [(.int (8 : Int32)), (.int p0_)])) _
              refine XS.icmpYes X213.here hx rfl (pc0 := 95) (pc' := 127) rfl (hb hby at_95) rfl (tlt hc235).2.2.1 (by decide) (by decide) ?_
              show Steps p.tables e below (T213.setTop (mkF m 127 #[.val (.int p0_), .val (.int p1_), .val (.int p2_), .val (.int p3_), .val (.int p4_), .val (.int p0_), .val (.ref b184), .val .null, .val (.ref b198), .val (.int (0 : Int32)), .unset] [])) _
              refine XS.iconst X213.here hx rfl (hb hby at_127) ?_
              show Steps p.tables e below (T213.setTop (mkF m 128 #[.val (.int p0_), .val (.int p1_), .val (.int p2_), .val (.int p3_), .val (.int p4_), .val (.int p0_), .val (.ref b184), .val .null, .val (.ref b198), .val (.int (0 : Int32)), .unset] [(.int (0 : Int32))])) _
              refine XS.istore X213.here hx rfl (hb hby at_128) rfl (l' := #[.val (.int p0_), .val (.int p1_), .val (.int p2_), .val (.int p3_), .val (.int p4_), .val (.int p0_), .val (.ref b184), .val .null, .val (.ref b198), .val (.int (0 : Int32)), .val (.int (0 : Int32))]) rfl ?_
              show Steps p.tables e below (T213.setTop (mkF m 130 #[.val (.int p0_), .val (.int p1_), .val (.int p2_), .val (.int p3_), .val (.int p4_), .val (.int p0_), .val (.ref b184), .val .null, .val (.ref b198), .val (.int (0 : Int32)), .val (.int (0 : Int32))] [])) _
              refine XS.iload X213.here hx rfl (hb hby at_130) rfl ?_
              show Steps p.tables e below (T213.setTop (mkF m 132 #[.val (.int p0_), .val (.int p1_), .val (.int p2_), .val (.int p3_), .val (.int p4_), .val (.int p0_), .val (.ref b184), .val .null, .val (.ref b198), .val (.int (0 : Int32)), .val (.int (0 : Int32))] [(.int (0 : Int32))])) _
              refine XS.iload X213.here hx rfl (hb hby at_132) rfl ?_
              show Steps p.tables e below (T213.setTop (mkF m 134 #[.val (.int p0_), .val (.int p1_), .val (.int p2_), .val (.int p3_), .val (.int p4_), .val (.int p0_), .val (.ref b184), .val .null, .val (.ref b198), .val (.int (0 : Int32)), .val (.int (0 : Int32))] [(.int (0 : Int32)), (.int (0 : Int32))])) _
              refine XS.icmpNo X213.here hx rfl (hb hby at_134) rfl (teq (by decide : (0 : Int32) = (0 : Int32))).2 ?_
              show Steps p.tables e below (T213.setTop (mkF m 137 #[.val (.int p0_), .val (.int p1_), .val (.int p2_), .val (.int p3_), .val (.int p4_), .val (.int p0_), .val (.ref b184), .val .null, .val (.ref b198), .val (.int (0 : Int32)), .val (.int (0 : Int32))] [])) _
              refine XS.iconst X213.here hx rfl (hb hby at_137) ?_
              show Steps p.tables e below (T213.setTop (mkF m 138 #[.val (.int p0_), .val (.int p1_), .val (.int p2_), .val (.int p3_), .val (.int p4_), .val (.int p0_), .val (.ref b184), .val .null, .val (.ref b198), .val (.int (0 : Int32)), .val (.int (0 : Int32))] [(.int (1 : Int32))])) _
              refine XS.goto X213.here hx rfl (pc0 := 138) (pc' := 142) rfl (hb hby at_138) (by decide) (by decide) ?_
              exact kt
            obtain ⟨fs, hr, hrun, hended, hW, hsame⟩ := X213.leave (v := some (.int (1 : Int32))) (fun h => by rw [Bd.returns] at h; cases h)
            refine ⟨_, _, pre236 _ (retN X213 hx (t := .boolean) Bd.returns (by simp) (hb hby at_142) hr), hrun, hended, _, _, rfl, ?_, ⟨_, rfl⟩, hW, hsame.mono (by decide) (by decide)⟩
            show QLaw Z p0_ p1_ p2_ p3_ p4_ w_COMPACT_STRINGS w_FLOAT w_LONG w_INT w_REFERENCE w_DOUBLE h0 n0 _ T213.heap _
            rw [e213']
            exact ⟨rfl, N215⟩
          · obtain ⟨cq238, kq238, q238a, q238b, q238c⟩ := isOf hZ e213' g210_0
            obtain ⟨_, _, ⟨T238, L238, k238, n238⟩, -, X238, ⟨Lc238, hQ238, l238, y238, z238⟩, st238⟩ := X213.virtualBack hx (y := (⟨"com/example/stackweave/stackweave/classfile/VerificationType", "kind", "()Lcom/example/stackweave/stackweave/classfile/ValueKind;"⟩ : MethodName)) (z := (⟨"com/example/stackweave/stackweave/classfile/VerificationType", "kind", "()Lcom/example/stackweave/stackweave/classfile/ValueKind;"⟩ : MethodName)) hown (mvT hZ (hw _ (List.mem_of_getElem? (i := 54) rfl))) (mvT hZ (hw _ (List.mem_of_getElem? (i := 55) rfl))) (notFace_of_selects (args := #[]) (mvT hZ (hw _ (List.mem_of_getElem? (i := 57) rfl)))) (mvT hZ (hw _ (List.mem_of_getElem? (i := 57) rfl))) (mvT hZ (hw _ (List.mem_of_getElem? (i := 56) rfl))) (by decide) (backOf (W := 0) (rmkind8 l Z a0 hw [] b198 p0_ p4_ w_INT w_FLOAT w_DOUBLE w_LONG w_REFERENCE h210 n0 f214 hq213_2_0 hq213_2_1 hc231 hc235 g210_0 g210_1 g210_2 g210_3 P6 P14 P5 P10 P16 P9 P2 P12 P1 P8 P15 P7 P4 P13 P3) hZ (hw _ (List.mem_of_getElem? (i := 58) rfl)) (hw _ (List.mem_of_getElem? (i := 32) rfl)) (by decide) (by decide)) q238a q238c (g := (mkF m 100 #[.val (.int p0_), .val (.int p1_), .val (.int p2_), .val (.int p3_), .val (.int p4_), .val (.int p0_), .val (.ref b184), .val .null, .val (.ref b198), .val (.int (0 : Int32)), .unset] [(.ref b198)])) rfl (by rw [hml]; rfl) (Steps.refl _) (argsL := []) (rest := []) (lenOf pd_3 rfl) rfl (by show 2 * 0 + _ ≤ _; exact Nat.le_of_eq rfl) (hb hby at_100) (fun _ _ => ⟨rfl, e213', (by decide : 2 + 0 ≤ _), (by decide : 5 + 0 ≤ _)⟩)
            dsimp only [Pt.U, Pt.locs, Pt.cells, Pt.slots] at X238 l238 y238 z238 st238 hQ238
            subst l238 y238 z238
            obtain ⟨h238, e238⟩ : ∃ z, T238.heap = z := ⟨_, rfl⟩
            rw [e238] at hQ238
            obtain ⟨rr238, rfl, hs238, N238q, hh238⟩ := hQ238
            have N239 := Fr.app N215 N238q
            have e238' : T238.heap = h210 := e238.trans hh238
            rcases hs238 with ⟨rfl, hq238_0_0⟩ | ⟨rfl, hq238_1_0, hq238_1_1⟩ | ⟨rfl, hq238_2_0, hq238_2_1, hq238_2_2⟩ | ⟨rfl, hq238_3_0, hq238_3_1, hq238_3_2, hq238_3_3⟩ | ⟨rfl, hq238_4_0, hq238_4_1, hq238_4_2, hq238_4_3, hq238_4_4⟩ | ⟨rfl, hq238_5_0, hq238_5_1, hq238_5_2, hq238_5_3, hq238_5_4, hq238_5_5⟩
            · obtain ⟨T240, X240, e240, st240⟩ := getS2 X238 hx hZ hown (host := "") (Or.inl (hw _ (List.mem_of_getElem? (i := 62) rfl))) Via.refl e238' (P3.ext f214.2) (g := (mkF m 103 #[.val (.int p0_), .val (.int p1_), .val (.int p2_), .val (.int p3_), .val (.int p4_), .val (.int p0_), .val (.ref b184), .val .null, .val (.ref b198), .val (.int (0 : Int32)), .unset] [(.ref w_INT)])) rfl (hb hby at_103)
              have ne241 : w_INT ≠ w_REFERENCE := Fld.ne P14 P13 (fun q => absurd (Value.int.inj q) (by decide))
              have pre242 : ∀ t, Steps p.tables e below (T240.setTop (mkF m 142 #[.val (.int p0_), .val (.int p1_), .val (.int p2_), .val (.int p3_), .val (.int p4_), .val (.int p0_), .val (.ref b184), .val .null, .val (.ref b198), .val (.int (0 : Int32)), .val (.int (0 : Int32))] [(.int (1 : Int32))])) t → Steps p.tables e below (s₁.setTop (entryFrame m #[(.int p0_), (.int p1_), (.int p2_), (.int p3_), (.int p4_)] maxLocals)) t := by
                intro t kt
                refine pre234 t ?_
                show Steps p.tables e below (T213.setTop (mkF m 95 #[.val (.int p0_), .val (.int p1_), .val (.int p2_), .val (.int p3_), .val (.int p4_), .val (.int p0_), .val (.ref b184), .val .null, .val (.ref b198), .val (.int (0 : Int32)), .unset] [(.int (8 : Int32)), (.int p0_)])) _
                refine XS.icmpNo X213.here hx rfl (hb hby at_95) rfl (flt hc235).2.2.1 ?_
                show Steps p.tables e below (T213.setTop (mkF m 98 #[.val (.int p0_), .val (.int p1_), .val (.int p2_), .val (.int p3_), .val (.int p4_), .val (.int p0_), .val (.ref b184), .val .null, .val (.ref b198), .val (.int (0 : Int32)), .unset] [])) _
                refine XS.aload X213.here hx rfl (hb hby at_98) rfl rfl ?_
                show Steps p.tables e below (T213.setTop (mkF m 100 #[.val (.int p0_), .val (.int p1_), .val (.int p2_), .val (.int p3_), .val (.int p4_), .val (.int p0_), .val (.ref b184), .val .null, .val (.ref b198), .val (.int (0 : Int32)), .unset] [(.ref b198)])) _
                refine st238.trans ?_
                show Steps p.tables e below (T238.setTop (mkF m 103 #[.val (.int p0_), .val (.int p1_), .val (.int p2_), .val (.int p3_), .val (.int p4_), .val (.int p0_), .val (.ref b184), .val .null, .val (.ref b198), .val (.int (0 : Int32)), .unset] [(.ref w_INT)])) _
                refine st240 _ ?_
                show Steps p.tables e below (T240.setTop (mkF m 106 #[.val (.int p0_), .val (.int p1_), .val (.int p2_), .val (.int p3_), .val (.int p4_), .val (.int p0_), .val (.ref b184), .val .null, .val (.ref b198), .val (.int (0 : Int32)), .unset] [(.ref w_REFERENCE), (.ref w_INT)])) _
                refine Jvm.RoadKit.acmp (g := (mkF m 106 #[.val (.int p0_), .val (.int p1_), .val (.int p2_), .val (.int p3_), .val (.int p4_), .val (.int p0_), .val (.ref b184), .val .null, .val (.ref b198), .val (.int (0 : Int32)), .unset] [(.ref w_REFERENCE), (.ref w_INT)])) X240 hx rfl rfl rfl (pc0 := 106) (pc' := 121) (same := false) rfl (hb hby at_106) rfl (decide_eq_false fun q => ne241 (Value.ref.inj q)) (by decide) (by decide) ?_
                show Steps p.tables e below (T240.setTop (mkF m 121 #[.val (.int p0_), .val (.int p1_), .val (.int p2_), .val (.int p3_), .val (.int p4_), .val (.int p0_), .val (.ref b184), .val .null, .val (.ref b198), .val (.int (0 : Int32)), .unset] [])) _
                refine XS.iconst X240.here hx rfl (hb hby at_121) ?_
                show Steps p.tables e below (T240.setTop (mkF m 122 #[.val (.int p0_), .val (.int p1_), .val (.int p2_), .val (.int p3_), .val (.int p4_), .val (.int p0_), .val (.ref b184), .val .null, .val (.ref b198), .val (.int (0 : Int32)), .unset] [(.int (0 : Int32))])) _
                refine XS.istore X240.here hx rfl (hb hby at_122) rfl (l' := #[.val (.int p0_), .val (.int p1_), .val (.int p2_), .val (.int p3_), .val (.int p4_), .val (.int p0_), .val (.ref b184), .val .null, .val (.ref b198), .val (.int (0 : Int32)), .val (.int (0 : Int32))]) rfl ?_
                show Steps p.tables e below (T240.setTop (mkF m 124 #[.val (.int p0_), .val (.int p1_), .val (.int p2_), .val (.int p3_), .val (.int p4_), .val (.int p0_), .val (.ref b184), .val .null, .val (.ref b198), .val (.int (0 : Int32)), .val (.int (0 : Int32))] [])) _
                refine XS.goto X240.here hx rfl (pc0 := 124) (pc' := 130) rfl (hb hby at_124) (by decide) (by decide) ?_
                show Steps p.tables e below (T240.setTop (mkF m 130 #[.val (.int p0_), .val (.int p1_), .val (.int p2_), .val (.int p3_), .val (.int p4_), .val (.int p0_), .val (.ref b184), .val .null, .val (.ref b198), .val (.int (0 : Int32)), .val (.int (0 : Int32))] [])) _
                refine XS.iload X240.here hx rfl (hb hby at_130) rfl ?_
                show Steps p.tables e below (T240.setTop (mkF m 132 #[.val (.int p0_), .val (.int p1_), .val (.int p2_), .val (.int p3_), .val (.int p4_), .val (.int p0_), .val (.ref b184), .val .null, .val (.ref b198), .val (.int (0 : Int32)), .val (.int (0 : Int32))] [(.int (0 : Int32))])) _
                refine XS.iload X240.here hx rfl (hb hby at_132) rfl ?_
                show Steps p.tables e below (T240.setTop (mkF m 134 #[.val (.int p0_), .val (.int p1_), .val (.int p2_), .val (.int p3_), .val (.int p4_), .val (.int p0_), .val (.ref b184), .val .null, .val (.ref b198), .val (.int (0 : Int32)), .val (.int (0 : Int32))] [(.int (0 : Int32)), (.int (0 : Int32))])) _
                refine XS.icmpNo X240.here hx rfl (hb hby at_134) rfl (teq (by decide : (0 : Int32) = (0 : Int32))).2 ?_
                show Steps p.tables e below (T240.setTop (mkF m 137 #[.val (.int p0_), .val (.int p1_), .val (.int p2_), .val (.int p3_), .val (.int p4_), .val (.int p0_), .val (.ref b184), .val .null, .val (.ref b198), .val (.int (0 : Int32)), .val (.int (0 : Int32))] [])) _
                refine XS.iconst X240.here hx rfl (hb hby at_137) ?_
                show Steps p.tables e below (T240.setTop (mkF m 138 #[.val (.int p0_), .val (.int p1_), .val (.int p2_), .val (.int p3_), .val (.int p4_), .val (.int p0_), .val (.ref b184), .val .null, .val (.ref b198), .val (.int (0 : Int32)), .val (.int (0 : Int32))] [(.int (1 : Int32))])) _
                refine XS.goto X240.here hx rfl (pc0 := 138) (pc' := 142) rfl (hb hby at_138) (by decide) (by decide) ?_
                exact kt
              obtain ⟨fs, hr, hrun, hended, hW, hsame⟩ := X240.leave (v := some (.int (1 : Int32))) (fun h => by rw [Bd.returns] at h; cases h)
              refine ⟨_, _, pre242 _ (retN X240 hx (t := .boolean) Bd.returns (by simp) (hb hby at_142) hr), hrun, hended, _, _, rfl, ?_, ⟨_, rfl⟩, hW, hsame.mono (by decide) (by decide)⟩
              show QLaw Z p0_ p1_ p2_ p3_ p4_ w_COMPACT_STRINGS w_FLOAT w_LONG w_INT w_REFERENCE w_DOUBLE h0 n0 _ T240.heap _
              rw [e240]
              exact ⟨rfl, N239⟩
            · obtain ⟨T244, X244, e244, st244⟩ := getS2 X238 hx hZ hown (host := "") (Or.inl (hw _ (List.mem_of_getElem? (i := 62) rfl))) Via.refl e238' (P3.ext f214.2) (g := (mkF m 103 #[.val (.int p0_), .val (.int p1_), .val (.int p2_), .val (.int p3_), .val (.int p4_), .val (.int p0_), .val (.ref b184), .val .null, .val (.ref b198), .val (.int (0 : Int32)), .unset] [(.ref w_FLOAT)])) rfl (hb hby at_103)
              have ne245 : w_FLOAT ≠ w_REFERENCE := Fld.ne P16 P13 (fun q => absurd (Value.int.inj q) (by decide))
              have pre246 : ∀ t, Steps p.tables e below (T244.setTop (mkF m 142 #[.val (.int p0_), .val (.int p1_), .val (.int p2_), .val (.int p3_), .val (.int p4_), .val (.int p0_), .val (.ref b184), .val .null, .val (.ref b198), .val (.int (0 : Int32)), .val (.int (0 : Int32))] [(.int (1 : Int32))])) t → Steps p.tables e below (s₁.setTop (entryFrame m #[(.int p0_), (.int p1_), (.int p2_), (.int p3_), (.int p4_)] maxLocals)) t := by
                intro t kt
                refine pre234 t ?_
                show Steps p.tables e below (T213.setTop (mkF m 95 #[.val (.int p0_), .val (.int p1_), .val (.int p2_), .val (.int p3_), .val (.int p4_), .val (.int p0_), .val (.ref b184), .val .null, .val (.ref b198), .val (.int (0 : Int32)), .unset] [(.int (8 : Int32)), (.int p0_)])) _
                refine XS.icmpNo X213.here hx rfl (hb hby at_95) rfl (flt hc235).2.2.1 ?_
                show Steps p.tables e below (T213.setTop (mkF m 98 #[.val (.int p0_), .val (.int p1_), .val (.int p2_), .val (.int p3_), .val (.int p4_), .val (.int p0_), .val (.ref b184), .val .null, .val (.ref b198), .val (.int (0 : Int32)), .unset] [])) _
                refine XS.aload X213.here hx rfl (hb hby at_98) rfl rfl ?_
                show Steps p.tables e below (T213.setTop (mkF m 100 #[.val (.int p0_), .val (.int p1_), .val (.int p2_), .val (.int p3_), .val (.int p4_), .val (.int p0_), .val (.ref b184), .val .null, .val (.ref b198), .val (.int (0 : Int32)), .unset] [(.ref b198)])) _
                refine st238.trans ?_
                show Steps p.tables e below (T238.setTop (mkF m 103 #[.val (.int p0_), .val (.int p1_), .val (.int p2_), .val (.int p3_), .val (.int p4_), .val (.int p0_), .val (.ref b184), .val .null, .val (.ref b198), .val (.int (0 : Int32)), .unset] [(.ref w_FLOAT)])) _
                refine st244 _ ?_
                show Steps p.tables e below (T244.setTop (mkF m 106 #[.val (.int p0_), .val (.int p1_), .val (.int p2_), .val (.int p3_), .val (.int p4_), .val (.int p0_), .val (.ref b184), .val .null, .val (.ref b198), .val (.int (0 : Int32)), .unset] [(.ref w_REFERENCE), (.ref w_FLOAT)])) _
                refine Jvm.RoadKit.acmp (g := (mkF m 106 #[.val (.int p0_), .val (.int p1_), .val (.int p2_), .val (.int p3_), .val (.int p4_), .val (.int p0_), .val (.ref b184), .val .null, .val (.ref b198), .val (.int (0 : Int32)), .unset] [(.ref w_REFERENCE), (.ref w_FLOAT)])) X244 hx rfl rfl rfl (pc0 := 106) (pc' := 121) (same := false) rfl (hb hby at_106) rfl (decide_eq_false fun q => ne245 (Value.ref.inj q)) (by decide) (by decide) ?_
                show Steps p.tables e below (T244.setTop (mkF m 121 #[.val (.int p0_), .val (.int p1_), .val (.int p2_), .val (.int p3_), .val (.int p4_), .val (.int p0_), .val (.ref b184), .val .null, .val (.ref b198), .val (.int (0 : Int32)), .unset] [])) _
                refine XS.iconst X244.here hx rfl (hb hby at_121) ?_
                show Steps p.tables e below (T244.setTop (mkF m 122 #[.val (.int p0_), .val (.int p1_), .val (.int p2_), .val (.int p3_), .val (.int p4_), .val (.int p0_), .val (.ref b184), .val .null, .val (.ref b198), .val (.int (0 : Int32)), .unset] [(.int (0 : Int32))])) _
                refine XS.istore X244.here hx rfl (hb hby at_122) rfl (l' := #[.val (.int p0_), .val (.int p1_), .val (.int p2_), .val (.int p3_), .val (.int p4_), .val (.int p0_), .val (.ref b184), .val .null, .val (.ref b198), .val (.int (0 : Int32)), .val (.int (0 : Int32))]) rfl ?_
                show Steps p.tables e below (T244.setTop (mkF m 124 #[.val (.int p0_), .val (.int p1_), .val (.int p2_), .val (.int p3_), .val (.int p4_), .val (.int p0_), .val (.ref b184), .val .null, .val (.ref b198), .val (.int (0 : Int32)), .val (.int (0 : Int32))] [])) _
                refine XS.goto X244.here hx rfl (pc0 := 124) (pc' := 130) rfl (hb hby at_124) (by decide) (by decide) ?_
                show Steps p.tables e below (T244.setTop (mkF m 130 #[.val (.int p0_), .val (.int p1_), .val (.int p2_), .val (.int p3_), .val (.int p4_), .val (.int p0_), .val (.ref b184), .val .null, .val (.ref b198), .val (.int (0 : Int32)), .val (.int (0 : Int32))] [])) _
                refine XS.iload X244.here hx rfl (hb hby at_130) rfl ?_
                show Steps p.tables e below (T244.setTop (mkF m 132 #[.val (.int p0_), .val (.int p1_), .val (.int p2_), .val (.int p3_), .val (.int p4_), .val (.int p0_), .val (.ref b184), .val .null, .val (.ref b198), .val (.int (0 : Int32)), .val (.int (0 : Int32))] [(.int (0 : Int32))])) _
                refine XS.iload X244.here hx rfl (hb hby at_132) rfl ?_
                show Steps p.tables e below (T244.setTop (mkF m 134 #[.val (.int p0_), .val (.int p1_), .val (.int p2_), .val (.int p3_), .val (.int p4_), .val (.int p0_), .val (.ref b184), .val .null, .val (.ref b198), .val (.int (0 : Int32)), .val (.int (0 : Int32))] [(.int (0 : Int32)), (.int (0 : Int32))])) _
                refine XS.icmpNo X244.here hx rfl (hb hby at_134) rfl (teq (by decide : (0 : Int32) = (0 : Int32))).2 ?_
                show Steps p.tables e below (T244.setTop (mkF m 137 #[.val (.int p0_), .val (.int p1_), .val (.int p2_), .val (.int p3_), .val (.int p4_), .val (.int p0_), .val (.ref b184), .val .null, .val (.ref b198), .val (.int (0 : Int32)), .val (.int (0 : Int32))] [])) _
                refine XS.iconst X244.here hx rfl (hb hby at_137) ?_
                show Steps p.tables e below (T244.setTop (mkF m 138 #[.val (.int p0_), .val (.int p1_), .val (.int p2_), .val (.int p3_), .val (.int p4_), .val (.int p0_), .val (.ref b184), .val .null, .val (.ref b198), .val (.int (0 : Int32)), .val (.int (0 : Int32))] [(.int (1 : Int32))])) _
                refine XS.goto X244.here hx rfl (pc0 := 138) (pc' := 142) rfl (hb hby at_138) (by decide) (by decide) ?_
                exact kt
              obtain ⟨fs, hr, hrun, hended, hW, hsame⟩ := X244.leave (v := some (.int (1 : Int32))) (fun h => by rw [Bd.returns] at h; cases h)
              refine ⟨_, _, pre246 _ (retN X244 hx (t := .boolean) Bd.returns (by simp) (hb hby at_142) hr), hrun, hended, _, _, rfl, ?_, ⟨_, rfl⟩, hW, hsame.mono (by decide) (by decide)⟩
              show QLaw Z p0_ p1_ p2_ p3_ p4_ w_COMPACT_STRINGS w_FLOAT w_LONG w_INT w_REFERENCE w_DOUBLE h0 n0 _ T244.heap _
              rw [e244]
              exact ⟨rfl, N239⟩
            · obtain ⟨T248, X248, e248, st248⟩ := getS2 X238 hx hZ hown (host := "") (Or.inl (hw _ (List.mem_of_getElem? (i := 62) rfl))) Via.refl e238' (P3.ext f214.2) (g := (mkF m 103 #[.val (.int p0_), .val (.int p1_), .val (.int p2_), .val (.int p3_), .val (.int p4_), .val (.int p0_), .val (.ref b184), .val .null, .val (.ref b198), .val (.int (0 : Int32)), .unset] [(.ref w_DOUBLE)])) rfl (hb hby at_103)
              have ne249 : w_DOUBLE ≠ w_REFERENCE := Fld.ne P12 P13 (fun q => absurd (Value.int.inj q) (by decide))
              have pre250 : ∀ t, Steps p.tables e below (T248.setTop (mkF m 142 #[.val (.int p0_), .val (.int p1_), .val (.int p2_), .val (.int p3_), .val (.int p4_), .val (.int p0_), .val (.ref b184), .val .null, .val (.ref b198), .val (.int (0 : Int32)), .val (.int (0 : Int32))] [(.int (1 : Int32))])) t → Steps p.tables e below (s₁.setTop (entryFrame m #[(.int p0_), (.int p1_), (.int p2_), (.int p3_), (.int p4_)] maxLocals)) t := by
                intro t kt
                refine pre234 t ?_
                show Steps p.tables e below (T213.setTop (mkF m 95 #[.val (.int p0_), .val (.int p1_), .val (.int p2_), .val (.int p3_), .val (.int p4_), .val (.int p0_), .val (.ref b184), .val .null, .val (.ref b198), .val (.int (0 : Int32)), .unset] [(.int (8 : Int32)), (.int p0_)])) _
                refine XS.icmpNo X213.here hx rfl (hb hby at_95) rfl (flt hc235).2.2.1 ?_
                show Steps p.tables e below (T213.setTop (mkF m 98 #[.val (.int p0_), .val (.int p1_), .val (.int p2_), .val (.int p3_), .val (.int p4_), .val (.int p0_), .val (.ref b184), .val .null, .val (.ref b198), .val (.int (0 : Int32)), .unset] [])) _
                refine XS.aload X213.here hx rfl (hb hby at_98) rfl rfl ?_
                show Steps p.tables e below (T213.setTop (mkF m 100 #[.val (.int p0_), .val (.int p1_), .val (.int p2_), .val (.int p3_), .val (.int p4_), .val (.int p0_), .val (.ref b184), .val .null, .val (.ref b198), .val (.int (0 : Int32)), .unset] [(.ref b198)])) _
                refine st238.trans ?_
                show Steps p.tables e below (T238.setTop (mkF m 103 #[.val (.int p0_), .val (.int p1_), .val (.int p2_), .val (.int p3_), .val (.int p4_), .val (.int p0_), .val (.ref b184), .val .null, .val (.ref b198), .val (.int (0 : Int32)), .unset] [(.ref w_DOUBLE)])) _
                refine st248 _ ?_
                show Steps p.tables e below (T248.setTop (mkF m 106 #[.val (.int p0_), .val (.int p1_), .val (.int p2_), .val (.int p3_), .val (.int p4_), .val (.int p0_), .val (.ref b184), .val .null, .val (.ref b198), .val (.int (0 : Int32)), .unset] [(.ref w_REFERENCE), (.ref w_DOUBLE)])) _
                refine Jvm.RoadKit.acmp (g := (mkF m 106 #[.val (.int p0_), .val (.int p1_), .val (.int p2_), .val (.int p3_), .val (.int p4_), .val (.int p0_), .val (.ref b184), .val .null, .val (.ref b198), .val (.int (0 : Int32)), .unset] [(.ref w_REFERENCE), (.ref w_DOUBLE)])) X248 hx rfl rfl rfl (pc0 := 106) (pc' := 121) (same := false) rfl (hb hby at_106) rfl (decide_eq_false fun q => ne249 (Value.ref.inj q)) (by decide) (by decide) ?_
                show Steps p.tables e below (T248.setTop (mkF m 121 #[.val (.int p0_), .val (.int p1_), .val (.int p2_), .val (.int p3_), .val (.int p4_), .val (.int p0_), .val (.ref b184), .val .null, .val (.ref b198), .val (.int (0 : Int32)), .unset] [])) _
                refine XS.iconst X248.here hx rfl (hb hby at_121) ?_
                show Steps p.tables e below (T248.setTop (mkF m 122 #[.val (.int p0_), .val (.int p1_), .val (.int p2_), .val (.int p3_), .val (.int p4_), .val (.int p0_), .val (.ref b184), .val .null, .val (.ref b198), .val (.int (0 : Int32)), .unset] [(.int (0 : Int32))])) _
                refine XS.istore X248.here hx rfl (hb hby at_122) rfl (l' := #[.val (.int p0_), .val (.int p1_), .val (.int p2_), .val (.int p3_), .val (.int p4_), .val (.int p0_), .val (.ref b184), .val .null, .val (.ref b198), .val (.int (0 : Int32)), .val (.int (0 : Int32))]) rfl ?_
                show Steps p.tables e below (T248.setTop (mkF m 124 #[.val (.int p0_), .val (.int p1_), .val (.int p2_), .val (.int p3_), .val (.int p4_), .val (.int p0_), .val (.ref b184), .val .null, .val (.ref b198), .val (.int (0 : Int32)), .val (.int (0 : Int32))] [])) _
                refine XS.goto X248.here hx rfl (pc0 := 124) (pc' := 130) rfl (hb hby at_124) (by decide) (by decide) ?_
                show Steps p.tables e below (T248.setTop (mkF m 130 #[.val (.int p0_), .val (.int p1_), .val (.int p2_), .val (.int p3_), .val (.int p4_), .val (.int p0_), .val (.ref b184), .val .null, .val (.ref b198), .val (.int (0 : Int32)), .val (.int (0 : Int32))] [])) _
                refine XS.iload X248.here hx rfl (hb hby at_130) rfl ?_
                show Steps p.tables e below (T248.setTop (mkF m 132 #[.val (.int p0_), .val (.int p1_), .val (.int p2_), .val (.int p3_), .val (.int p4_), .val (.int p0_), .val (.ref b184), .val .null, .val (.ref b198), .val (.int (0 : Int32)), .val (.int (0 : Int32))] [(.int (0 : Int32))])) _
                refine XS.iload X248.here hx rfl (hb hby at_132) rfl ?_
                show Steps p.tables e below (T248.setTop (mkF m 134 #[.val (.int p0_), .val (.int p1_), .val (.int p2_), .val (.int p3_), .val (.int p4_), .val (.int p0_), .val (.ref b184), .val .null, .val (.ref b198), .val (.int (0 : Int32)), .val (.int (0 : Int32))] [(.int (0 : Int32)), (.int (0 : Int32))])) _
                refine XS.icmpNo X248.here hx rfl (hb hby at_134) rfl (teq (by decide : (0 : Int32) = (0 : Int32))).2 ?_
                show Steps p.tables e below (T248.setTop (mkF m 137 #[.val (.int p0_), .val (.int p1_), .val (.int p2_), .val (.int p3_), .val (.int p4_), .val (.int p0_), .val (.ref b184), .val .null, .val (.ref b198), .val (.int (0 : Int32)), .val (.int (0 : Int32))] [])) _
                refine XS.iconst X248.here hx rfl (hb hby at_137) ?_
                show Steps p.tables e below (T248.setTop (mkF m 138 #[.val (.int p0_), .val (.int p1_), .val (.int p2_), .val (.int p3_), .val (.int p4_), .val (.int p0_), .val (.ref b184), .val .null, .val (.ref b198), .val (.int (0 : Int32)), .val (.int (0 : Int32))] [(.int (1 : Int32))])) _
                refine XS.goto X248.here hx rfl (pc0 := 138) (pc' := 142) rfl (hb hby at_138) (by decide) (by decide) ?_
                exact kt
              obtain ⟨fs, hr, hrun, hended, hW, hsame⟩ := X248.leave (v := some (.int (1 : Int32))) (fun h => by rw [Bd.returns] at h; cases h)
              refine ⟨_, _, pre250 _ (retN X248 hx (t := .boolean) Bd.returns (by simp) (hb hby at_142) hr), hrun, hended, _, _, rfl, ?_, ⟨_, rfl⟩, hW, hsame.mono (by decide) (by decide)⟩
              show QLaw Z p0_ p1_ p2_ p3_ p4_ w_COMPACT_STRINGS w_FLOAT w_LONG w_INT w_REFERENCE w_DOUBLE h0 n0 _ T248.heap _
              rw [e248]
              exact ⟨rfl, N239⟩
            · obtain ⟨T252, X252, e252, st252⟩ := getS2 X238 hx hZ hown (host := "") (Or.inl (hw _ (List.mem_of_getElem? (i := 62) rfl))) Via.refl e238' (P3.ext f214.2) (g := (mkF m 103 #[.val (.int p0_), .val (.int p1_), .val (.int p2_), .val (.int p3_), .val (.int p4_), .val (.int p0_), .val (.ref b184), .val .null, .val (.ref b198), .val (.int (0 : Int32)), .unset] [(.ref w_LONG)])) rfl (hb hby at_103)
              have ne253 : w_LONG ≠ w_REFERENCE := Fld.ne P15 P13 (fun q => absurd (Value.int.inj q) (by decide))
              have pre254 : ∀ t, Steps p.tables e below (T252.setTop (mkF m 142 #[.val (.int p0_), .val (.int p1_), .val (.int p2_), .val (.int p3_), .val (.int p4_), .val (.int p0_), .val (.ref b184), .val .null, .val (.ref b198), .val (.int (0 : Int32)), .val (.int (0 : Int32))] [(.int (1 : Int32))])) t → Steps p.tables e below (s₁.setTop (entryFrame m #[(.int p0_), (.int p1_), (.int p2_), (.int p3_), (.int p4_)] maxLocals)) t := by
                intro t kt
                refine pre234 t ?_
                show Steps p.tables e below (T213.setTop (mkF m 95 #[.val (.int p0_), .val (.int p1_), .val (.int p2_), .val (.int p3_), .val (.int p4_), .val (.int p0_), .val (.ref b184), .val .null, .val (.ref b198), .val (.int (0 : Int32)), .unset] [(.int (8 : Int32)), (.int p0_)])) _
                refine XS.icmpNo X213.here hx rfl (hb hby at_95) rfl (flt hc235).2.2.1 ?_
                show Steps p.tables e below (T213.setTop (mkF m 98 #[.val (.int p0_), .val (.int p1_), .val (.int p2_), .val (.int p3_), .val (.int p4_), .val (.int p0_), .val (.ref b184), .val .null, .val (.ref b198), .val (.int (0 : Int32)), .unset] [])) _
                refine XS.aload X213.here hx rfl (hb hby at_98) rfl rfl ?_
                show Steps p.tables e below (T213.setTop (mkF m 100 #[.val (.int p0_), .val (.int p1_), .val (.int p2_), .val (.int p3_), .val (.int p4_), .val (.int p0_), .val (.ref b184), .val .null, .val (.ref b198), .val (.int (0 : Int32)), .unset] [(.ref b198)])) _
                refine st238.trans ?_
                show Steps p.tables e below (T238.setTop (mkF m 103 #[.val (.int p0_), .val (.int p1_), .val (.int p2_), .val (.int p3_), .val (.int p4_), .val (.int p0_), .val (.ref b184), .val .null, .val (.ref b198), .val (.int (0 : Int32)), .unset] [(.ref w_LONG)])) _
                refine st252 _ ?_
                show Steps p.tables e below (T252.setTop (mkF m 106 #[.val (.int p0_), .val (.int p1_), .val (.int p2_), .val (.int p3_), .val (.int p4_), .val (.int p0_), .val (.ref b184), .val .null, .val (.ref b198), .val (.int (0 : Int32)), .unset] [(.ref w_REFERENCE), (.ref w_LONG)])) _
                refine Jvm.RoadKit.acmp (g := (mkF m 106 #[.val (.int p0_), .val (.int p1_), .val (.int p2_), .val (.int p3_), .val (.int p4_), .val (.int p0_), .val (.ref b184), .val .null, .val (.ref b198), .val (.int (0 : Int32)), .unset] [(.ref w_REFERENCE), (.ref w_LONG)])) X252 hx rfl rfl rfl (pc0 := 106) (pc' := 121) (same := false) rfl (hb hby at_106) rfl (decide_eq_false fun q => ne253 (Value.ref.inj q)) (by decide) (by decide) ?_
                show Steps p.tables e below (T252.setTop (mkF m 121 #[.val (.int p0_), .val (.int p1_), .val (.int p2_), .val (.int p3_), .val (.int p4_), .val (.int p0_), .val (.ref b184), .val .null, .val (.ref b198), .val (.int (0 : Int32)), .unset] [])) _
                refine XS.iconst X252.here hx rfl (hb hby at_121) ?_
                show Steps p.tables e below (T252.setTop (mkF m 122 #[.val (.int p0_), .val (.int p1_), .val (.int p2_), .val (.int p3_), .val (.int p4_), .val (.int p0_), .val (.ref b184), .val .null, .val (.ref b198), .val (.int (0 : Int32)), .unset] [(.int (0 : Int32))])) _
                refine XS.istore X252.here hx rfl (hb hby at_122) rfl (l' := #[.val (.int p0_), .val (.int p1_), .val (.int p2_), .val (.int p3_), .val (.int p4_), .val (.int p0_), .val (.ref b184), .val .null, .val (.ref b198), .val (.int (0 : Int32)), .val (.int (0 : Int32))]) rfl ?_
                show Steps p.tables e below (T252.setTop (mkF m 124 #[.val (.int p0_), .val (.int p1_), .val (.int p2_), .val (.int p3_), .val (.int p4_), .val (.int p0_), .val (.ref b184), .val .null, .val (.ref b198), .val (.int (0 : Int32)), .val (.int (0 : Int32))] [])) _
                refine XS.goto X252.here hx rfl (pc0 := 124) (pc' := 130) rfl (hb hby at_124) (by decide) (by decide) ?_
                show Steps p.tables e below (T252.setTop (mkF m 130 #[.val (.int p0_), .val (.int p1_), .val (.int p2_), .val (.int p3_), .val (.int p4_), .val (.int p0_), .val (.ref b184), .val .null, .val (.ref b198), .val (.int (0 : Int32)), .val (.int (0 : Int32))] [])) _
                refine XS.iload X252.here hx rfl (hb hby at_130) rfl ?_
                show Steps p.tables e below (T252.setTop (mkF m 132 #[.val (.int p0_), .val (.int p1_), .val (.int p2_), .val (.int p3_), .val (.int p4_), .val (.int p0_), .val (.ref b184), .val .null, .val (.ref b198), .val (.int (0 : Int32)), .val (.int (0 : Int32))] [(.int (0 : Int32))])) _
                refine XS.iload X252.here hx rfl (hb hby at_132) rfl ?_
                show Steps p.tables e below (T252.setTop (mkF m 134 #[.val (.int p0_), .val (.int p1_), .val (.int p2_), .val (.int p3_), .val (.int p4_), .val (.int p0_), .val (.ref b184), .val .null, .val (.ref b198), .val (.int (0 : Int32)), .val (.int (0 : Int32))] [(.int (0 : Int32)), (.int (0 : Int32))])) _
                refine XS.icmpNo X252.here hx rfl (hb hby at_134) rfl (teq (by decide : (0 : Int32) = (0 : Int32))).2 ?_
                show Steps p.tables e below (T252.setTop (mkF m 137 #[.val (.int p0_), .val (.int p1_), .val (.int p2_), .val (.int p3_), .val (.int p4_), .val (.int p0_), .val (.ref b184), .val .null, .val (.ref b198), .val (.int (0 : Int32)), .val (.int (0 : Int32))] [])) _
                refine XS.iconst X252.here hx rfl (hb hby at_137) ?_
                show Steps p.tables e below (T252.setTop (mkF m 138 #[.val (.int p0_), .val (.int p1_), .val (.int p2_), .val (.int p3_), .val (.int p4_), .val (.int p0_), .val (.ref b184), .val .null, .val (.ref b198), .val (.int (0 : Int32)), .val (.int (0 : Int32))] [(.int (1 : Int32))])) _
                refine XS.goto X252.here hx rfl (pc0 := 138) (pc' := 142) rfl (hb hby at_138) (by decide) (by decide) ?_
                exact kt
              obtain ⟨fs, hr, hrun, hended, hW, hsame⟩ := X252.leave (v := some (.int (1 : Int32))) (fun h => by rw [Bd.returns] at h; cases h)
              refine ⟨_, _, pre254 _ (retN X252 hx (t := .boolean) Bd.returns (by simp) (hb hby at_142) hr), hrun, hended, _, _, rfl, ?_, ⟨_, rfl⟩, hW, hsame.mono (by decide) (by decide)⟩
              show QLaw Z p0_ p1_ p2_ p3_ p4_ w_COMPACT_STRINGS w_FLOAT w_LONG w_INT w_REFERENCE w_DOUBLE h0 n0 _ T252.heap _
              rw [e252]
              exact ⟨rfl, N239⟩
            · obtain ⟨T256, X256, e256, st256⟩ := getS2 X238 hx hZ hown (host := "") (Or.inl (hw _ (List.mem_of_getElem? (i := 62) rfl))) Via.refl e238' (P3.ext f214.2) (g := (mkF m 103 #[.val (.int p0_), .val (.int p1_), .val (.int p2_), .val (.int p3_), .val (.int p4_), .val (.int p0_), .val (.ref b184), .val .null, .val (.ref b198), .val (.int (0 : Int32)), .unset] [(.ref w_REFERENCE)])) rfl (hb hby at_103)
              obtain ⟨cq257, kq257, q257a, q257b, q257c⟩ := isOf hZ e256 g210_0
              obtain ⟨_, _, ⟨T257, L257, k257, n257⟩, -, X257, ⟨Lc257, hQ257, l257, y257, z257⟩, st257⟩ := X256.virtualBack hx (y := (⟨"com/example/stackweave/stackweave/classfile/VerificationType", "isUninitialized", "()Z"⟩ : MethodName)) (z := (⟨"com/example/stackweave/stackweave/classfile/VerificationType", "isUninitialized", "()Z"⟩ : MethodName)) hown (mvT hZ (hw _ (List.mem_of_getElem? (i := 65) rfl))) (mvT hZ (hw _ (List.mem_of_getElem? (i := 66) rfl))) (notFace_of_selects (args := #[]) (mvT hZ (hw _ (List.mem_of_getElem? (i := 68) rfl)))) (mvT hZ (hw _ (List.mem_of_getElem? (i := 68) rfl))) (mvT hZ (hw _ (List.mem_of_getElem? (i := 67) rfl))) (by decide) (backOf (W := 0) (rmisUninitialized9 l Z a0 hw [] b198 p0_ p4_ h210 n0 f214 hq213_2_0 hq213_2_1 hc231 hc235 hq238_4_0 hq238_4_1 hq238_4_2 hq238_4_3 hq238_4_4 g210_0 g210_1 g210_2 g210_3) hZ (hw _ (List.mem_of_getElem? (i := 69) rfl)) (hw _ (List.mem_of_getElem? (i := 32) rfl)) (by decide) (by decide)) q257a q257c (g := (mkF m 111 #[.val (.int p0_), .val (.int p1_), .val (.int p2_), .val (.int p3_), .val (.int p4_), .val (.int p0_), .val (.ref b184), .val .null, .val (.ref b198), .val (.int (0 : Int32)), .unset] [(.ref b198)])) rfl (by rw [hml]; rfl) (Steps.refl _) (argsL := []) (rest := []) (lenOf pd_2 rfl) rfl (by show 2 * 0 + _ ≤ _; exact Nat.le_of_eq rfl) (hb hby at_111) (fun _ _ => ⟨rfl, e256, (by decide : 2 + 0 ≤ _), (by decide : 5 + 0 ≤ _)⟩)
              dsimp only [Pt.U, Pt.locs, Pt.cells, Pt.slots] at X257 l257 y257 z257 st257 hQ257
              subst l257 y257 z257
              obtain ⟨h257, e257⟩ : ∃ z, T257.heap = z := ⟨_, rfl⟩
              rw [e257] at hQ257
              obtain ⟨rfl, N257q, hh257⟩ := hQ257
              have N258 := Fr.app N239 N257q
              have e257' : T257.heap = h210 := e257.trans hh257
              have pre259 : ∀ t, Steps p.tables e below (T257.setTop (mkF m 142 #[.val (.int p0_), .val (.int p1_), .val (.int p2_), .val (.int p3_), .val (.int p4_), .val (.int p0_), .val (.ref b184), .val .null, .val (.ref b198), .val (.int (0 : Int32)), .val (.int (0 : Int32))] [(.int (1 : Int32))])) t → Steps p.tables e below (s₁.setTop (entryFrame m #[(.int p0_), (.int p1_), (.int p2_), (.int p3_), (.int p4_)] maxLocals)) t := by
                intro t kt
                refine pre234 t ?_
                show Steps p.tables e below (T213.setTop (mkF m 95 #[.val (.int p0_), .val (.int p1_), .val (.int p2_), .val (.int p3_), .val (.int p4_), .val (.int p0_), .val (.ref b184), .val .null, .val (.ref b198), .val (.int (0 : Int32)), .unset] [(.int (8 : Int32)), (.int p0_)])) _
                refine XS.icmpNo X213.here hx rfl (hb hby at_95) rfl (flt hc235).2.2.1 ?_
                show Steps p.tables e below (T213.setTop (mkF m 98 #[.val (.int p0_), .val (.int p1_), .val (.int p2_), .val (.int p3_), .val (.int p4_), .val (.int p0_), .val (.ref b184), .val .null, .val (.ref b198), .val (.int (0 : Int32)), .unset] [])) _
                refine XS.aload X213.here hx rfl (hb hby at_98) rfl rfl ?_
                show Steps p.tables e below (T213.setTop (mkF m 100 #[.val (.int p0_), .val (.int p1_), .val (.int p2_), .val (.int p3_), .val (.int p4_), .val (.int p0_), .val (.ref b184), .val .null, .val (.ref b198), .val (.int (0 : Int32)), .unset] [(.ref b198)])) _
                refine st238.trans ?_
                show Steps p.tables e below (T238.setTop (mkF m 103 #[.val (.int p0_), .val (.int p1_), .val (.int p2_), .val (.int p3_), .val (.int p4_), .val (.int p0_), .val (.ref b184), .val .null, .val (.ref b198), .val (.int (0 : Int32)), .unset] [(.ref w_REFERENCE)])) _
                refine st256 _ ?_
                show Steps p.tables e below (T256.setTop (mkF m 106 #[.val (.int p0_), .val (.int p1_), .val (.int p2_), .val (.int p3_), .val (.int p4_), .val (.int p0_), .val (.ref b184), .val .null, .val (.ref b198), .val (.int (0 : Int32)), .unset] [(.ref w_REFERENCE), (.ref w_REFERENCE)])) _
                refine Jvm.RoadKit.acmp (g := (mkF m 106 #[.val (.int p0_), .val (.int p1_), .val (.int p2_), .val (.int p3_), .val (.int p4_), .val (.int p0_), .val (.ref b184), .val .null, .val (.ref b198), .val (.int (0 : Int32)), .unset] [(.ref w_REFERENCE), (.ref w_REFERENCE)])) X256 hx rfl rfl rfl (pc0 := 106) (pc' := 109) (same := true) rfl (hb hby at_106) rfl (decide_eq_true rfl) (by decide) (by decide) ?_
                show Steps p.tables e below (T256.setTop (mkF m 109 #[.val (.int p0_), .val (.int p1_), .val (.int p2_), .val (.int p3_), .val (.int p4_), .val (.int p0_), .val (.ref b184), .val .null, .val (.ref b198), .val (.int (0 : Int32)), .unset] [])) _
                refine XS.aload X256.here hx rfl (hb hby at_109) rfl rfl ?_
                show Steps p.tables e below (T256.setTop (mkF m 111 #[.val (.int p0_), .val (.int p1_), .val (.int p2_), .val (.int p3_), .val (.int p4_), .val (.int p0_), .val (.ref b184), .val .null, .val (.ref b198), .val (.int (0 : Int32)), .unset] [(.ref b198)])) _
                refine st257.trans ?_
                show Steps p.tables e below (T257.setTop (mkF m 114 #[.val (.int p0_), .val (.int p1_), .val (.int p2_), .val (.int p3_), .val (.int p4_), .val (.int p0_), .val (.ref b184), .val .null, .val (.ref b198), .val (.int (0 : Int32)), .unset] [(.int (1 : Int32))])) _
                refine XS.ifYes X257.here hx rfl (pc0 := 114) (pc' := 121) rfl (hb hby at_114) rfl ((if0 _ _).trans (feq (by decide : ¬ ((1 : Int32) = (0 : Int32)))).2) (by decide) (by decide) ?_
                show Steps p.tables e below (T257.setTop (mkF m 121 #[.val (.int p0_), .val (.int p1_), .val (.int p2_), .val (.int p3_), .val (.int p4_), .val (.int p0_), .val (.ref b184), .val .null, .val (.ref b198), .val (.int (0 : Int32)), .unset] [])) _
                refine XS.iconst X257.here hx rfl (hb hby at_121) ?_
                show Steps p.tables e below (T257.setTop (mkF m 122 #[.val (.int p0_), .val (.int p1_), .val (.int p2_), .val (.int p3_), .val (.int p4_), .val (.int p0_), .val (.ref b184), .val .null, .val (.ref b198), .val (.int (0 : Int32)), .unset] [(.int (0 : Int32))])) _
                refine XS.istore X257.here hx rfl (hb hby at_122) rfl (l' := #[.val (.int p0_), .val (.int p1_), .val (.int p2_), .val (.int p3_), .val (.int p4_), .val (.int p0_), .val (.ref b184), .val .null, .val (.ref b198), .val (.int (0 : Int32)), .val (.int (0 : Int32))]) rfl ?_
                show Steps p.tables e below (T257.setTop (mkF m 124 #[.val (.int p0_), .val (.int p1_), .val (.int p2_), .val (.int p3_), .val (.int p4_), .val (.int p0_), .val (.ref b184), .val .null, .val (.ref b198), .val (.int (0 : Int32)), .val (.int (0 : Int32))] [])) _
                refine XS.goto X257.here hx rfl (pc0 := 124) (pc' := 130) rfl (hb hby at_124) (by decide) (by decide) ?_
                show Steps p.tables e below (T257.setTop (mkF m 130 #[.val (.int p0_), .val (.int p1_), .val (.int p2_), .val (.int p3_), .val (.int p4_), .val (.int p0_), .val (.ref b184), .val .null, .val (.ref b198), .val (.int (0 : Int32)), .val (.int (0 : Int32))] [])) _
                refine XS.iload X257.here hx rfl (hb hby at_130) rfl ?_
                show Steps p.tables e below (T257.setTop (mkF m 132 #[.val (.int p0_), .val (.int p1_), .val (.int p2_), .val (.int p3_), .val (.int p4_), .val (.int p0_), .val (.ref b184), .val .null, .val (.ref b198), .val (.int (0 : Int32)), .val (.int (0 : Int32))] [(.int (0 : Int32))])) _
                refine XS.iload X257.here hx rfl (hb hby at_132) rfl ?_
                show Steps p.tables e below (T257.setTop (mkF m 134 #[.val (.int p0_), .val (.int p1_), .val (.int p2_), .val (.int p3_), .val (.int p4_), .val (.int p0_), .val (.ref b184), .val .null, .val (.ref b198), .val (.int (0 : Int32)), .val (.int (0 : Int32))] [(.int (0 : Int32)), (.int (0 : Int32))])) _
                refine XS.icmpNo X257.here hx rfl (hb hby at_134) rfl (teq (by decide : (0 : Int32) = (0 : Int32))).2 ?_
                show Steps p.tables e below (T257.setTop (mkF m 137 #[.val (.int p0_), .val (.int p1_), .val (.int p2_), .val (.int p3_), .val (.int p4_), .val (.int p0_), .val (.ref b184), .val .null, .val (.ref b198), .val (.int (0 : Int32)), .val (.int (0 : Int32))] [])) _
                refine XS.iconst X257.here hx rfl (hb hby at_137) ?_
                show Steps p.tables e below (T257.setTop (mkF m 138 #[.val (.int p0_), .val (.int p1_), .val (.int p2_), .val (.int p3_), .val (.int p4_), .val (.int p0_), .val (.ref b184), .val .null, .val (.ref b198), .val (.int (0 : Int32)), .val (.int (0 : Int32))] [(.int (1 : Int32))])) _
                refine XS.goto X257.here hx rfl (pc0 := 138) (pc' := 142) rfl (hb hby at_138) (by decide) (by decide) ?_
                exact kt
              obtain ⟨fs, hr, hrun, hended, hW, hsame⟩ := X257.leave (v := some (.int (1 : Int32))) (fun h => by rw [Bd.returns] at h; cases h)
              refine ⟨_, _, pre259 _ (retN X257 hx (t := .boolean) Bd.returns (by simp) (hb hby at_142) hr), hrun, hended, _, _, rfl, ?_, ⟨_, rfl⟩, hW, hsame.mono (by decide) (by decide)⟩
              show QLaw Z p0_ p1_ p2_ p3_ p4_ w_COMPACT_STRINGS w_FLOAT w_LONG w_INT w_REFERENCE w_DOUBLE h0 n0 _ T257.heap _
              rw [e257']
              exact ⟨rfl, N258⟩
            · obtain ⟨T261, X261, e261, st261⟩ := getS2 X238 hx hZ hown (host := "") (Or.inl (hw _ (List.mem_of_getElem? (i := 62) rfl))) Via.refl e238' (P3.ext f214.2) (g := (mkF m 103 #[.val (.int p0_), .val (.int p1_), .val (.int p2_), .val (.int p3_), .val (.int p4_), .val (.int p0_), .val (.ref b184), .val .null, .val (.ref b198), .val (.int (0 : Int32)), .unset] [(.ref w_REFERENCE)])) rfl (hb hby at_103)
              obtain ⟨cq262, kq262, q262a, q262b, q262c⟩ := isOf hZ e261 g210_0
              obtain ⟨_, _, ⟨T262, L262, k262, n262⟩, -, X262, ⟨Lc262, hQ262, l262, y262, z262⟩, st262⟩ := X261.virtualBack hx (y := (⟨"com/example/stackweave/stackweave/classfile/VerificationType", "isUninitialized", "()Z"⟩ : MethodName)) (z := (⟨"com/example/stackweave/stackweave/classfile/VerificationType", "isUninitialized", "()Z"⟩ : MethodName)) hown (mvT hZ (hw _ (List.mem_of_getElem? (i := 65) rfl))) (mvT hZ (hw _ (List.mem_of_getElem? (i := 66) rfl))) (notFace_of_selects (args := #[]) (mvT hZ (hw _ (List.mem_of_getElem? (i := 68) rfl)))) (mvT hZ (hw _ (List.mem_of_getElem? (i := 68) rfl))) (mvT hZ (hw _ (List.mem_of_getElem? (i := 67) rfl))) (by decide) (backOf (W := 0) (rmisUninitialized10 l Z a0 hw [] b198 p0_ p4_ h210 n0 f214 hq213_2_0 hq213_2_1 hc231 hc235 hq238_5_0 hq238_5_1 hq238_5_2 hq238_5_3 hq238_5_4 hq238_5_5 g210_0 g210_1 g210_2 g210_3) hZ (hw _ (List.mem_of_getElem? (i := 69) rfl)) (hw _ (List.mem_of_getElem? (i := 32) rfl)) (by decide) (by decide)) q262a q262c (g := (mkF m 111 #[.val (.int p0_), .val (.int p1_), .val (.int p2_), .val (.int p3_), .val (.int p4_), .val (.int p0_), .val (.ref b184), .val .null, .val (.ref b198), .val (.int (0 : Int32)), .unset] [(.ref b198)])) rfl (by rw [hml]; rfl) (Steps.refl _) (argsL := []) (rest := []) (lenOf pd_2 rfl) rfl (by show 2 * 0 + _ ≤ _; exact Nat.le_of_eq rfl) (hb hby at_111) (fun _ _ => ⟨rfl, e261, (by decide : 2 + 0 ≤ _), (by decide : 5 + 0 ≤ _)⟩)
              dsimp only [Pt.U, Pt.locs, Pt.cells, Pt.slots] at X262 l262 y262 z262 st262 hQ262
              subst l262 y262 z262
              obtain ⟨h262, e262⟩ : ∃ z, T262.heap = z := ⟨_, rfl⟩
              rw [e262] at hQ262
              obtain ⟨rfl, N262q, hh262⟩ := hQ262
              have N263 := Fr.app N239 N262q
              have e262' : T262.heap = h210 := e262.trans hh262
              have pre264 : ∀ t, Steps p.tables e below (T262.setTop (mkF m 142 #[.val (.int p0_), .val (.int p1_), .val (.int p2_), .val (.int p3_), .val (.int p4_), .val (.int p0_), .val (.ref b184), .val .null, .val (.ref b198), .val (.int (0 : Int32)), .val (.int (0 : Int32))] [(.int (1 : Int32))])) t → Steps p.tables e below (s₁.setTop (entryFrame m #[(.int p0_), (.int p1_), (.int p2_), (.int p3_), (.int p4_)] maxLocals)) t := by
                intro t kt
                refine pre234 t ?_
                show Steps p.tables e below (T213.setTop (mkF m 95 #[.val (.int p0_), .val (.int p1_), .val (.int p2_), .val (.int p3_), .val (.int p4_), .val (.int p0_), .val (.ref b184), .val .null, .val (.ref b198), .val (.int (0 : Int32)), .unset] [(.int (8 : Int32)), (.int p0_)])) _
                refine XS.icmpNo X213.here hx rfl (hb hby at_95) rfl (flt hc235).2.2.1 ?_
                show Steps p.tables e below (T213.setTop (mkF m 98 #[.val (.int p0_), .val (.int p1_), .val (.int p2_), .val (.int p3_), .val (.int p4_), .val (.int p0_), .val (.ref b184), .val .null, .val (.ref b198), .val (.int (0 : Int32)), .unset] [])) _
                refine XS.aload X213.here hx rfl (hb hby at_98) rfl rfl ?_
                show Steps p.tables e below (T213.setTop (mkF m 100 #[.val (.int p0_), .val (.int p1_), .val (.int p2_), .val (.int p3_), .val (.int p4_), .val (.int p0_), .val (.ref b184), .val .null, .val (.ref b198), .val (.int (0 : Int32)), .unset] [(.ref b198)])) _
                refine st238.trans ?_
                show Steps p.tables e below (T238.setTop (mkF m 103 #[.val (.int p0_), .val (.int p1_), .val (.int p2_), .val (.int p3_), .val (.int p4_), .val (.int p0_), .val (.ref b184), .val .null, .val (.ref b198), .val (.int (0 : Int32)), .unset] [(.ref w_REFERENCE)])) _
                refine st261 _ ?_
                show Steps p.tables e below (T261.setTop (mkF m 106 #[.val (.int p0_), .val (.int p1_), .val (.int p2_), .val (.int p3_), .val (.int p4_), .val (.int p0_), .val (.ref b184), .val .null, .val (.ref b198), .val (.int (0 : Int32)), .unset] [(.ref w_REFERENCE), (.ref w_REFERENCE)])) _
                refine Jvm.RoadKit.acmp (g := (mkF m 106 #[.val (.int p0_), .val (.int p1_), .val (.int p2_), .val (.int p3_), .val (.int p4_), .val (.int p0_), .val (.ref b184), .val .null, .val (.ref b198), .val (.int (0 : Int32)), .unset] [(.ref w_REFERENCE), (.ref w_REFERENCE)])) X261 hx rfl rfl rfl (pc0 := 106) (pc' := 109) (same := true) rfl (hb hby at_106) rfl (decide_eq_true rfl) (by decide) (by decide) ?_
                show Steps p.tables e below (T261.setTop (mkF m 109 #[.val (.int p0_), .val (.int p1_), .val (.int p2_), .val (.int p3_), .val (.int p4_), .val (.int p0_), .val (.ref b184), .val .null, .val (.ref b198), .val (.int (0 : Int32)), .unset] [])) _
                refine XS.aload X261.here hx rfl (hb hby at_109) rfl rfl ?_
                show Steps p.tables e below (T261.setTop (mkF m 111 #[.val (.int p0_), .val (.int p1_), .val (.int p2_), .val (.int p3_), .val (.int p4_), .val (.int p0_), .val (.ref b184), .val .null, .val (.ref b198), .val (.int (0 : Int32)), .unset] [(.ref b198)])) _
                refine st262.trans ?_
                show Steps p.tables e below (T262.setTop (mkF m 114 #[.val (.int p0_), .val (.int p1_), .val (.int p2_), .val (.int p3_), .val (.int p4_), .val (.int p0_), .val (.ref b184), .val .null, .val (.ref b198), .val (.int (0 : Int32)), .unset] [(.int (1 : Int32))])) _
                refine XS.ifYes X262.here hx rfl (pc0 := 114) (pc' := 121) rfl (hb hby at_114) rfl ((if0 _ _).trans (feq (by decide : ¬ ((1 : Int32) = (0 : Int32)))).2) (by decide) (by decide) ?_
                show Steps p.tables e below (T262.setTop (mkF m 121 #[.val (.int p0_), .val (.int p1_), .val (.int p2_), .val (.int p3_), .val (.int p4_), .val (.int p0_), .val (.ref b184), .val .null, .val (.ref b198), .val (.int (0 : Int32)), .unset] [])) _
                refine XS.iconst X262.here hx rfl (hb hby at_121) ?_
                show Steps p.tables e below (T262.setTop (mkF m 122 #[.val (.int p0_), .val (.int p1_), .val (.int p2_), .val (.int p3_), .val (.int p4_), .val (.int p0_), .val (.ref b184), .val .null, .val (.ref b198), .val (.int (0 : Int32)), .unset] [(.int (0 : Int32))])) _
                refine XS.istore X262.here hx rfl (hb hby at_122) rfl (l' := #[.val (.int p0_), .val (.int p1_), .val (.int p2_), .val (.int p3_), .val (.int p4_), .val (.int p0_), .val (.ref b184), .val .null, .val (.ref b198), .val (.int (0 : Int32)), .val (.int (0 : Int32))]) rfl ?_
                show Steps p.tables e below (T262.setTop (mkF m 124 #[.val (.int p0_), .val (.int p1_), .val (.int p2_), .val (.int p3_), .val (.int p4_), .val (.int p0_), .val (.ref b184), .val .null, .val (.ref b198), .val (.int (0 : Int32)), .val (.int (0 : Int32))] [])) _
                refine XS.goto X262.here hx rfl (pc0 := 124) (pc' := 130) rfl (hb hby at_124) (by decide) (by decide) ?_
                show Steps p.tables e below (T262.setTop (mkF m 130 #[.val (.int p0_), .val (.int p1_), .val (.int p2_), .val (.int p3_), .val (.int p4_), .val (.int p0_), .val (.ref b184), .val .null, .val (.ref b198), .val (.int (0 : Int32)), .val (.int (0 : Int32))] [])) _
                refine XS.iload X262.here hx rfl (hb hby at_130) rfl ?_
                show Steps p.tables e below (T262.setTop (mkF m 132 #[.val (.int p0_), .val (.int p1_), .val (.int p2_), .val (.int p3_), .val (.int p4_), .val (.int p0_), .val (.ref b184), .val .null, .val (.ref b198), .val (.int (0 : Int32)), .val (.int (0 : Int32))] [(.int (0 : Int32))])) _
                refine XS.iload X262.here hx rfl (hb hby at_132) rfl ?_
                show Steps p.tables e below (T262.setTop (mkF m 134 #[.val (.int p0_), .val (.int p1_), .val (.int p2_), .val (.int p3_), .val (.int p4_), .val (.int p0_), .val (.ref b184), .val .null, .val (.ref b198), .val (.int (0 : Int32)), .val (.int (0 : Int32))] [(.int (0 : Int32)), (.int (0 : Int32))])) _
                refine XS.icmpNo X262.here hx rfl (hb hby at_134) rfl (teq (by decide : (0 : Int32) = (0 : Int32))).2 ?_
                show Steps p.tables e below (T262.setTop (mkF m 137 #[.val (.int p0_), .val (.int p1_), .val (.int p2_), .val (.int p3_), .val (.int p4_), .val (.int p0_), .val (.ref b184), .val .null, .val (.ref b198), .val (.int (0 : Int32)), .val (.int (0 : Int32))] [])) _
                refine XS.iconst X262.here hx rfl (hb hby at_137) ?_
                show Steps p.tables e below (T262.setTop (mkF m 138 #[.val (.int p0_), .val (.int p1_), .val (.int p2_), .val (.int p3_), .val (.int p4_), .val (.int p0_), .val (.ref b184), .val .null, .val (.ref b198), .val (.int (0 : Int32)), .val (.int (0 : Int32))] [(.int (1 : Int32))])) _
                refine XS.goto X262.here hx rfl (pc0 := 138) (pc' := 142) rfl (hb hby at_138) (by decide) (by decide) ?_
                exact kt
              obtain ⟨fs, hr, hrun, hended, hW, hsame⟩ := X262.leave (v := some (.int (1 : Int32))) (fun h => by rw [Bd.returns] at h; cases h)
              refine ⟨_, _, pre264 _ (retN X262 hx (t := .boolean) Bd.returns (by simp) (hb hby at_142) hr), hrun, hended, _, _, rfl, ?_, ⟨_, rfl⟩, hW, hsame.mono (by decide) (by decide)⟩
              show QLaw Z p0_ p1_ p2_ p3_ p4_ w_COMPACT_STRINGS w_FLOAT w_LONG w_INT w_REFERENCE w_DOUBLE h0 n0 _ T262.heap _
              rw [e262']
              exact ⟨rfl, N263⟩
    · obtain ⟨T266, h266, X266, e266, E266, A266, D266, -, st266⟩ := newO X192 hx hZ hown (hw _ (List.mem_of_getElem? (i := 1) rfl)) (hw _ (List.mem_of_getElem? (i := 2) rfl)) (hw _ (List.mem_of_getElem? (i := 3) rfl)) e192 (g := (mkF m 48 #[.val (.int p0_), .val (.int p1_), .val (.int p2_), .val (.int p3_), .val (.int p4_), .val (.int p0_), .val (.ref b184), .unset, .unset, .unset, .unset] [])) rfl (hb hby at_48) (by decide) (by decide)
      obtain ⟨b266, g266⟩ : ∃ z, z = h192.size := ⟨_, rfl⟩
      rw [← g266] at A266 D266 st266
      have f267 : Old Z n0 h184 := O0.ext E184
      have f268 : Old Z n0 h188 := f267.wr W188 ge185
      have f269 : Old Z n0 h192 := f268.wr W192 ge185
      have ge270 : n0 ≤ b266 := Nat.le_trans (Nat.le_trans (Nat.le_of_eq f269.1.symm) f269.2.1) (Nat.le_of_eq g266.symm)
      have f271 : Keep h0 h184 [] := K0.ext E184
      have f272 : Keep h0 h188 [] := f271.wr W188 (Or.inr sz186)
      have f273 : Keep h0 h192 [] := f272.wr W192 (Or.inr sz186)
      have sz274 : h0.size ≤ b266 := Nat.le_trans f273.1 (Nat.le_of_eq g266.symm)
      have f275 : Fld Z h266 b266 "java/lang/String" "coder" "B" (.int (0 : Int32)) := D266 (Or.inr (hw _ (List.mem_of_getElem? (i := 27) rfl))) (ty := .byte) (by decide)
      have f276 : Fld Z h266 b266 "java/lang/String" "value" "[B" .null := D266 (Or.inr (hw _ (List.mem_of_getElem? (i := 29) rfl))) (ty := (.array .byte)) (by decide)
      have hn277 : ¬ ((255 : Int32) < (p2_ &&& (255 : Int32))) := own_le255 _
      have hn278 : ¬ ((255 : Int32) < (p3_ &&& (255 : Int32))) := own_le255 _
      have f280 : Arv Z h266 b184 k184 .char (2 : Int32) [(.int (p2_ &&& (255 : Int32))), (.int (p3_ &&& (255 : Int32)))] (.int (0 : Int32)) := f195.ext E266
      have f281 : Exa Z h188 b184 "[C" := Z184.wr W188
      have f282 : Exa Z h192 b184 "[C" := f281.wr W192
      have f283 : Exa Z h266 b184 "[C" := f282.ext E266
      have f284 : Old Z n0 h266 := f269.ext E266
      obtain ⟨_, _, ⟨T279, L279, k279, n279⟩, -, X279, ⟨Lc279, hQ279, l279, y279, z279⟩, st279⟩ := X266.specialBack hx (y := (⟨"java/lang/String", "<init>", "([C)V"⟩ : MethodName)) rfl hown (mvT hZ (hw _ (List.mem_of_getElem? (i := 4) rfl))) (mvT hZ (hw _ (List.mem_of_getElem? (i := 5) rfl))) (mvT hZ (hw _ (List.mem_of_getElem? (i := 6) rfl))) (by decide) (backOf (W := 1) (rminit11 l Z a0 hw [] b266 b184 k184 (p2_ &&& (255 : Int32)) (p3_ &&& (255 : Int32)) w_COMPACT_STRINGS h266 n0 f284 hn277 hn278 A266 f275 f276 f280 f283 hz_0 P11 ge270) hZ (hw _ (List.mem_of_getElem? (i := 6) rfl)) (hw _ (List.mem_of_getElem? (i := 3) rfl)) (by decide) (by decide)) (g := (mkF m 54 #[.val (.int p0_), .val (.int p1_), .val (.int p2_), .val (.int p3_), .val (.int p4_), .val (.int p0_), .val (.ref b184), .unset, .unset, .unset, .unset] [(.ref b184), (.ref b266), (.ref b266)])) rfl (by rw [hml]; rfl) (Steps.refl _) (a := b266) (argsL := [(.ref b184)]) (rest := [(.ref b266)]) (lenOf pd_8 rfl) rfl (by show 2 * 0 + _ ≤ _; exact Nat.le_of_eq rfl) (hb hby at_54) (fun _ _ => ⟨rfl, e266, (by decide : 2 + 1 ≤ _), (by decide : 6 + 2 ≤ _)⟩)
      dsimp only [Pt.U, Pt.locs, Pt.cells, Pt.slots] at X279 l279 y279 z279 st279 hQ279
      subst l279 y279 z279
      obtain ⟨h279, e279⟩ : ∃ z, T279.heap = z := ⟨_, rfl⟩
      rw [e279] at hQ279
      obtain ⟨k1_3_2_279, nnnb1_3_2_279, rfl, N279q, K279, sznnnb1_3_2_279, g279_0, g279_1, g279_2, g279_3, g279_4⟩ := hQ279
      have N285 := Fr.app N193 N279q
      have ge286 : n0 ≤ nnnb1_3_2_279 := Nat.le_trans (Nat.le_trans (Nat.le_of_eq f284.1.symm) f284.2.1) sznnnb1_3_2_279
      have f287 : Keep h0 h266 [] := f273.ext E266
      have sz288 : h0.size ≤ nnnb1_3_2_279 := Nat.le_trans f287.1 sznnnb1_3_2_279
      obtain ⟨T289, h289, X289, e289, E289, A289, D289, -, st289⟩ := newO X279 hx hZ hown (hw _ (List.mem_of_getElem? (i := 30) rfl)) (hw _ (List.mem_of_getElem? (i := 31) rfl)) (hw _ (List.mem_of_getElem? (i := 32) rfl)) e279 (g := (mkF m 63 #[.val (.int p0_), .val (.int p1_), .val (.int p2_), .val (.int p3_), .val (.int p4_), .val (.int p0_), .val (.ref b184), .val (.ref b266), .unset, .unset, .unset] [])) rfl (hb hby at_63) (by decide) (by decide)
      obtain ⟨b289, g289⟩ : ∃ z, z = h279.size := ⟨_, rfl⟩
      rw [← g289] at A289 D289 st289
      have f290 : Old Z n0 h279 := f284.keep K279 (allS (ge270) all0)
      have ge291 : n0 ≤ b289 := Nat.le_trans (Nat.le_trans (Nat.le_of_eq f290.1.symm) f290.2.1) (Nat.le_of_eq g289.symm)
      have f292 : Keep h0 h279 [] := f287.trans K279 (allS (Or.inr sz274) all0)
      have sz293 : h0.size ≤ b289 := Nat.le_trans f292.1 (Nat.le_of_eq g289.symm)
      have f294 : Fld Z h289 b289 "com/example/stackweave/stackweave/classfile/VerificationType" "tag" "I" (.int (0 : Int32)) := D289 (Or.inr (hw _ (List.mem_of_getElem? (i := 43) rfl))) (ty := .int) (by decide)
      have f295 : Fld Z h289 b289 "com/example/stackweave/stackweave/classfile/VerificationType" "className" "Ljava/lang/String;" .null := D289 (Or.inr (hw _ (List.mem_of_getElem? (i := 45) rfl))) (ty := (.object "java/lang/String")) (by decide)
      have f296 : Fld Z h289 b289 "com/example/stackweave/stackweave/classfile/VerificationType" "newOffset" "I" (.int (0 : Int32)) := D289 (Or.inr (hw _ (List.mem_of_getElem? (i := 47) rfl))) (ty := .int) (by decide)
      have f298 : Exa Z h289 b266 "java/lang/String" := g279_0.ext E289
      have f299 : Fld Z h289 b266 "java/lang/String" "coder" "B" (.int (0 : Int32)) := g279_1.ext E289
      have f300 : Fld Z h289 b266 "java/lang/String" "value" "[B" (.ref nnnb1_3_2_279) := g279_2.ext E289
      have f301 : Arv Z h289 nnnb1_3_2_279 k1_3_2_279 .byte (2 : Int32) [(.int ((p2_ &&& (255 : Int32)).toInt8.toInt32)), (.int ((p3_ &&& (255 : Int32)).toInt8.toInt32))] (.int (0 : Int32)) := g279_3.ext E289
      have f302 : Exa Z h289 nnnb1_3_2_279 "[B" := g279_4.ext E289
      have f303 : Old Z n0 h289 := f290.ext E289
      obtain ⟨_, _, ⟨T297, L297, k297, n297⟩, -, X297, ⟨Lc297, hQ297, l297, y297, z297⟩, st297⟩ := X289.specialBack hx (y := (⟨"com/example/stackweave/stackweave/classfile/VerificationType", "<init>", "(ILjava/lang/String;I)V"⟩ : MethodName)) rfl hown (mvT hZ (hw _ (List.mem_of_getElem? (i := 33) rfl))) (mvT hZ (hw _ (List.mem_of_getElem? (i := 34) rfl))) (mvT hZ (hw _ (List.mem_of_getElem? (i := 35) rfl))) (by decide) (backOf (W := 1) (rminit17 l Z a0 hw [] b289 p0_ b266 p4_ nnnb1_3_2_279 k1_3_2_279 ((p2_ &&& (255 : Int32)).toInt8.toInt32) ((p3_ &&& (255 : Int32)).toInt8.toInt32) h289 n0 f303 A289 f294 f295 f296 f298 f299 f300 f301 f302 ge291) hZ (hw _ (List.mem_of_getElem? (i := 35) rfl)) (hw _ (List.mem_of_getElem? (i := 32) rfl)) (by decide) (by decide)) (g := (mkF m 73 #[.val (.int p0_), .val (.int p1_), .val (.int p2_), .val (.int p3_), .val (.int p4_), .val (.int p0_), .val (.ref b184), .val (.ref b266), .unset, .unset, .unset] [(.int p4_), (.ref b266), (.int p0_), (.ref b289), (.ref b289)])) rfl (by rw [hml]; rfl) (Steps.refl _) (a := b289) (argsL := [(.int p0_), (.ref b266), (.int p4_)]) (rest := [(.ref b289)]) (lenOf pd_1 rfl) rfl (by show 2 * 0 + _ ≤ _; exact Nat.le_of_eq rfl) (hb hby at_73) (fun _ _ => ⟨rfl, e289, (by decide : 4 + 0 ≤ _), (by decide : 11 + 0 ≤ _)⟩)
      dsimp only [Pt.U, Pt.locs, Pt.cells, Pt.slots] at X297 l297 y297 z297 st297 hQ297
      subst l297 y297 z297
      obtain ⟨h297, e297⟩ : ∃ z, T297.heap = z := ⟨_, rfl⟩
      rw [e297] at hQ297
      obtain ⟨rfl, N297q, K297, g297_0, g297_1, g297_2, g297_3⟩ := hQ297
      have N304 := Fr.app N285 N297q
      have f306 : Exa Z h297 b266 "java/lang/String" := f298.keep K297
      have ne308 : b266 ≠ b289 := Nat.ne_of_lt (Nat.lt_of_lt_of_le g279_0.lt (Nat.le_of_eq g289.symm))
      have f307 : Fld Z h297 b266 "java/lang/String" "coder" "B" (.int (0 : Int32)) := f299.keep K297 (ninS ne308 nin0)
      have f309 : Fld Z h297 b266 "java/lang/String" "value" "[B" (.ref nnnb1_3_2_279) := f300.keep K297 (ninS ne308 nin0)
      have ne311 : nnnb1_3_2_279 ≠ b289 := Nat.ne_of_lt (Nat.lt_of_lt_of_le g279_3.lt (Nat.le_of_eq g289.symm))
      have f310 : Arv Z h297 nnnb1_3_2_279 k1_3_2_279 .byte (2 : Int32) [(.int ((p2_ &&& (255 : Int32)).toInt8.toInt32)), (.int ((p3_ &&& (255 : Int32)).toInt8.toInt32))] (.int (0 : Int32)) := f301.keep K297 (ninS ne311 nin0)
      have f312 : Exa Z h297 nnnb1_3_2_279 "[B" := f302.keep K297
      have f313 : Old Z n0 h297 := f303.keep K297 (allS (ge291) all0)
      obtain ⟨cq305, kq305, q305a, q305b, q305c⟩ := isOf hZ e297 g297_0
      obtain ⟨_, _, ⟨T305, L305, k305, n305⟩, -, X305, ⟨Lc305, hQ305, l305, y305, z305⟩, st305⟩ := X297.virtualBack hx (y := (⟨"com/example/stackweave/stackweave/classfile/VerificationType", "isReference", "()Z"⟩ : MethodName)) (z := (⟨"com/example/stackweave/stackweave/classfile/VerificationType", "isReference", "()Z"⟩ : MethodName)) hown (mvT hZ (hw _ (List.mem_of_getElem? (i := 48) rfl))) (mvT hZ (hw _ (List.mem_of_getElem? (i := 49) rfl))) (notFace_of_selects (args := #[]) (mvT hZ (hw _ (List.mem_of_getElem? (i := 51) rfl)))) (mvT hZ (hw _ (List.mem_of_getElem? (i := 51) rfl))) (mvT hZ (hw _ (List.mem_of_getElem? (i := 50) rfl))) (by decide) (backOf (W := 0) (rmisReference18 l Z a0 hw [] b289 p0_ b266 p4_ nnnb1_3_2_279 k1_3_2_279 ((p2_ &&& (255 : Int32)).toInt8.toInt32) ((p3_ &&& (255 : Int32)).toInt8.toInt32) h297 n0 f313 g297_0 g297_1 g297_2 g297_3 f306 f307 f309 f310 f312) hZ (hw _ (List.mem_of_getElem? (i := 52) rfl)) (hw _ (List.mem_of_getElem? (i := 32) rfl)) (by decide) (by decide)) q305a q305c (g := (mkF m 80 #[.val (.int p0_), .val (.int p1_), .val (.int p2_), .val (.int p3_), .val (.int p4_), .val (.int p0_), .val (.ref b184), .val (.ref b266), .val (.ref b289), .unset, .unset] [(.ref b289)])) rfl (by rw [hml]; rfl) (Steps.refl _) (argsL := []) (rest := []) (lenOf pd_2 rfl) rfl (by show 2 * 0 + _ ≤ _; exact Nat.le_of_eq rfl) (hb hby at_80) (fun _ _ => ⟨rfl, e297, (by decide : 4 + 0 ≤ _), (by decide : 11 + 0 ≤ _)⟩)
      dsimp only [Pt.U, Pt.locs, Pt.cells, Pt.slots] at X305 l305 y305 z305 st305 hQ305
      subst l305 y305 z305
      obtain ⟨h305, e305⟩ : ∃ z, T305.heap = z := ⟨_, rfl⟩
      rw [e305] at hQ305
      obtain ⟨rr305, rfl, hs305, N305q, hh305⟩ := hQ305
      have N314 := Fr.app N304 N305q
      have e305' : T305.heap = h297 := e305.trans hh305
      rcases hs305 with ⟨rfl, hq305_0_0⟩ | ⟨rfl, hq305_1_0, hq305_1_1⟩ | ⟨rfl, hq305_2_0, hq305_2_1⟩
      · obtain ⟨cq315, kq315, q315a, q315b, q315c⟩ := isOf hZ e305' g297_0
        obtain ⟨_, _, ⟨T315, L315, k315, n315⟩, -, X315, ⟨Lc315, hQ315, l315, y315, z315⟩, st315⟩ := X305.virtualBack hx (y := (⟨"com/example/stackweave/stackweave/classfile/VerificationType", "kind", "()Lcom/example/stackweave/stackweave/classfile/ValueKind;"⟩ : MethodName)) (z := (⟨"com/example/stackweave/stackweave/classfile/VerificationType", "kind", "()Lcom/example/stackweave/stackweave/classfile/ValueKind;"⟩ : MethodName)) hown (mvT hZ (hw _ (List.mem_of_getElem? (i := 54) rfl))) (mvT hZ (hw _ (List.mem_of_getElem? (i := 55) rfl))) (notFace_of_selects (args := #[]) (mvT hZ (hw _ (List.mem_of_getElem? (i := 57) rfl)))) (mvT hZ (hw _ (List.mem_of_getElem? (i := 57) rfl))) (mvT hZ (hw _ (List.mem_of_getElem? (i := 56) rfl))) (by decide) (backOf (W := 0) (rmkind19 l Z a0 hw [] b289 p0_ b266 p4_ nnnb1_3_2_279 k1_3_2_279 ((p2_ &&& (255 : Int32)).toInt8.toInt32) ((p3_ &&& (255 : Int32)).toInt8.toInt32) w_REFERENCE h297 n0 f313 hq305_0_0 g297_0 g297_1 g297_2 g297_3 f306 f307 f309 f310 f312 P4 P13 P3) hZ (hw _ (List.mem_of_getElem? (i := 58) rfl)) (hw _ (List.mem_of_getElem? (i := 32) rfl)) (by decide) (by decide)) q315a q315c (g := (mkF m 100 #[.val (.int p0_), .val (.int p1_), .val (.int p2_), .val (.int p3_), .val (.int p4_), .val (.int p0_), .val (.ref b184), .val (.ref b266), .val (.ref b289), .val (.int (1 : Int32)), .unset] [(.ref b289)])) rfl (by rw [hml]; rfl) (Steps.refl _) (argsL := []) (rest := []) (lenOf pd_3 rfl) rfl (by show 2 * 0 + _ ≤ _; exact Nat.le_of_eq rfl) (hb hby at_100) (fun _ _ => ⟨rfl, e305', (by decide : 4 + 0 ≤ _), (by decide : 11 + 0 ≤ _)⟩)
        dsimp only [Pt.U, Pt.locs, Pt.cells, Pt.slots] at X315 l315 y315 z315 st315 hQ315
        subst l315 y315 z315
        obtain ⟨h315, e315⟩ : ∃ z, T315.heap = z := ⟨_, rfl⟩
        rw [e315] at hQ315
        obtain ⟨rfl, N315q, hh315⟩ := hQ315
        have N316 := Fr.app N314 N315q
        have e315' : T315.heap = h297 := e315.trans hh315
        obtain ⟨T317, X317, e317, st317⟩ := getS2 X315 hx hZ hown (host := "") (Or.inl (hw _ (List.mem_of_getElem? (i := 62) rfl))) Via.refl e315' (P3.ext f313.2) (g := (mkF m 103 #[.val (.int p0_), .val (.int p1_), .val (.int p2_), .val (.int p3_), .val (.int p4_), .val (.int p0_), .val (.ref b184), .val (.ref b266), .val (.ref b289), .val (.int (1 : Int32)), .unset] [(.ref w_REFERENCE)])) rfl (hb hby at_103)
        obtain ⟨cq318, kq318, q318a, q318b, q318c⟩ := isOf hZ e317 g297_0
        obtain ⟨_, _, ⟨T318, L318, k318, n318⟩, -, X318, ⟨Lc318, hQ318, l318, y318, z318⟩, st318⟩ := X317.virtualBack hx (y := (⟨"com/example/stackweave/stackweave/classfile/VerificationType", "isUninitialized", "()Z"⟩ : MethodName)) (z := (⟨"com/example/stackweave/stackweave/classfile/VerificationType", "isUninitialized", "()Z"⟩ : MethodName)) hown (mvT hZ (hw _ (List.mem_of_getElem? (i := 65) rfl))) (mvT hZ (hw _ (List.mem_of_getElem? (i := 66) rfl))) (notFace_of_selects (args := #[]) (mvT hZ (hw _ (List.mem_of_getElem? (i := 68) rfl)))) (mvT hZ (hw _ (List.mem_of_getElem? (i := 68) rfl))) (mvT hZ (hw _ (List.mem_of_getElem? (i := 67) rfl))) (by decide) (backOf (W := 0) (rmisUninitialized20 l Z a0 hw [] b289 p0_ b266 p4_ nnnb1_3_2_279 k1_3_2_279 ((p2_ &&& (255 : Int32)).toInt8.toInt32) ((p3_ &&& (255 : Int32)).toInt8.toInt32) h297 n0 f313 hq305_0_0 g297_0 g297_1 g297_2 g297_3 f306 f307 f309 f310 f312) hZ (hw _ (List.mem_of_getElem? (i := 69) rfl)) (hw _ (List.mem_of_getElem? (i := 32) rfl)) (by decide) (by decide)) q318a q318c (g := (mkF m 111 #[.val (.int p0_), .val (.int p1_), .val (.int p2_), .val (.int p3_), .val (.int p4_), .val (.int p0_), .val (.ref b184), .val (.ref b266), .val (.ref b289), .val (.int (1 : Int32)), .unset] [(.ref b289)])) rfl (by rw [hml]; rfl) (Steps.refl _) (argsL := []) (rest := []) (lenOf pd_2 rfl) rfl (by show 2 * 0 + _ ≤ _; exact Nat.le_of_eq rfl) (hb hby at_111) (fun _ _ => ⟨rfl, e317, (by decide : 4 + 0 ≤ _), (by decide : 11 + 0 ≤ _)⟩)
        dsimp only [Pt.U, Pt.locs, Pt.cells, Pt.slots] at X318 l318 y318 z318 st318 hQ318
        subst l318 y318 z318
        obtain ⟨h318, e318⟩ : ∃ z, T318.heap = z := ⟨_, rfl⟩
        rw [e318] at hQ318
        obtain ⟨rfl, N318q, hh318⟩ := hQ318
        have N319 := Fr.app N316 N318q
        have e318' : T318.heap = h297 := e318.trans hh318
        have pre320 : ∀ t, Steps p.tables e below (T318.setTop (mkF m 142 #[.val (.int p0_), .val (.int p1_), .val (.int p2_), .val (.int p3_), .val (.int p4_), .val (.int p0_), .val (.ref b184), .val (.ref b266), .val (.ref b289), .val (.int (1 : Int32)), .val (.int (1 : Int32))] [(.int (1 : Int32))])) t → Steps p.tables e below (s₁.setTop (entryFrame m #[(.int p0_), (.int p1_), (.int p2_), (.int p3_), (.int p4_)] maxLocals)) t := by
          intro t kt
          refine pre196 t ?_
          show Steps p.tables e below (T192.setTop (mkF m 45 #[.val (.int p0_), .val (.int p1_), .val (.int p2_), .val (.int p3_), .val (.int p4_), .val (.int p0_), .val (.ref b184), .unset, .unset, .unset, .unset] [(.int (p1_ &&& (2 : Int32)))])) _
          refine XS.ifNo X192.here hx rfl (hb hby at_45) rfl ((if0 _ _).trans (feq hc197).1) ?_
          show Steps p.tables e below (T192.setTop (mkF m 48 #[.val (.int p0_), .val (.int p1_), .val (.int p2_), .val (.int p3_), .val (.int p4_), .val (.int p0_), .val (.ref b184), .unset, .unset, .unset, .unset] [])) _
          refine st266 _ ?_
          show Steps p.tables e below (T266.setTop (mkF m 51 #[.val (.int p0_), .val (.int p1_), .val (.int p2_), .val (.int p3_), .val (.int p4_), .val (.int p0_), .val (.ref b184), .unset, .unset, .unset, .unset] [(.ref b266)])) _
          refine XS.dup X266.here hx rfl (hb hby at_51) rfl rfl ?_
          show Steps p.tables e below (T266.setTop (mkF m 52 #[.val (.int p0_), .val (.int p1_), .val (.int p2_), .val (.int p3_), .val (.int p4_), .val (.int p0_), .val (.ref b184), .unset, .unset, .unset, .unset] [(.ref b266), (.ref b266)])) _
          refine XS.aload X266.here hx rfl (hb hby at_52) rfl rfl ?_
          show Steps p.tables e below (T266.setTop (mkF m 54 #[.val (.int p0_), .val (.int p1_), .val (.int p2_), .val (.int p3_), .val (.int p4_), .val (.int p0_), .val (.ref b184), .unset, .unset, .unset, .unset] [(.ref b184), (.ref b266), (.ref b266)])) _
          refine st279.trans ?_
          show Steps p.tables e below (T279.setTop (mkF m 57 #[.val (.int p0_), .val (.int p1_), .val (.int p2_), .val (.int p3_), .val (.int p4_), .val (.int p0_), .val (.ref b184), .unset, .unset, .unset, .unset] [(.ref b266)])) _
          refine XS.goto X279.here hx rfl (pc0 := 57) (pc' := 61) rfl (hb hby at_57) (by decide) (by decide) ?_
          show Steps p.tables e below (T279.setTop (mkF m 61 #[.val (.int p0_), .val (.int p1_), .val (.int p2_), .val (.int p3_), .val (.int p4_), .val (.int p0_), .val (.ref b184), .unset, .unset, .unset, .unset] [(.ref b266)])) _
          refine XS.astore X279.here hx rfl (hb hby at_61) rfl rfl (l' := #[.val (.int p0_), .val (.int p1_), .val (.int p2_), .val (.int p3_), .val (.int p4_), .val (.int p0_), .val (.ref b184), .val (.ref b266), .unset, .unset, .unset]) rfl ?_
          show Steps p.tables e below (T279.setTop (mkF m 63 #[.val (.int p0_), .val (.int p1_), .val (.int p2_), .val (.int p3_), .val (.int p4_), .val (.int p0_), .val (.ref b184), .val (.ref b266), .unset, .unset, .unset] [])) _
          refine st289 _ ?_
          show Steps p.tables e below (T289.setTop (mkF m 66 #[.val (.int p0_), .val (.int p1_), .val (.int p2_), .val (.int p3_), .val (.int p4_), .val (.int p0_), .val (.ref b184), .val (.ref b266), .unset, .unset, .unset] [(.ref b289)])) _
          refine XS.dup X289.here hx rfl (hb hby at_66) rfl rfl ?_
          show Steps p.tables e below (T289.setTop (mkF m 67 #[.val (.int p0_), .val (.int p1_), .val (.int p2_), .val (.int p3_), .val (.int p4_), .val (.int p0_), .val (.ref b184), .val (.ref b266), .unset, .unset, .unset] [(.ref b289), (.ref b289)])) _
          refine XS.iload X289.here hx rfl (hb hby at_67) rfl ?_
          show Steps p.tables e below (T289.setTop (mkF m 69 #[.val (.int p0_), .val (.int p1_), .val (.int p2_), .val (.int p3_), .val (.int p4_), .val (.int p0_), .val (.ref b184), .val (.ref b266), .unset, .unset, .unset] [(.int p0_), (.ref b289), (.ref b289)])) _
          refine XS.aload X289.here hx rfl (hb hby at_69) rfl rfl ?_
          show Steps p.tables e below (T289.setTop (mkF m 71 #[.val (.int p0_), .val (.int p1_), .val (.int p2_), .val (.int p3_), .val (.int p4_), .val (.int p0_), .val (.ref b184), .val (.ref b266), .unset, .unset, .unset] [(.ref b266), (.int p0_), (.ref b289), (.ref b289)])) _
          refine XS.iload X289.here hx rfl (hb hby at_71) rfl ?_
          show Steps p.tables e below (T289.setTop (mkF m 73 #[.val (.int p0_), .val (.int p1_), .val (.int p2_), .val (.int p3_), .val (.int p4_), .val (.int p0_), .val (.ref b184), .val (.ref b266), .unset, .unset, .unset] [(.int p4_), (.ref b266), (.int p0_), (.ref b289), (.ref b289)])) _
          refine st297.trans ?_
          show Steps p.tables e below (T297.setTop (mkF m 76 #[.val (.int p0_), .val (.int p1_), .val (.int p2_), .val (.int p3_), .val (.int p4_), .val (.int p0_), .val (.ref b184), .val (.ref b266), .unset, .unset, .unset] [(.ref b289)])) _
          refine XS.astore X297.here hx rfl (hb hby at_76) rfl rfl (l' := #[.val (.int p0_), .val (.int p1_), .val (.int p2_), .val (.int p3_), .val (.int p4_), .val (.int p0_), .val (.ref b184), .val (.ref b266), .val (.ref b289), .unset, .unset]) rfl ?_
          show Steps p.tables e below (T297.setTop (mkF m 78 #[.val (.int p0_), .val (.int p1_), .val (.int p2_), .val (.int p3_), .val (.int p4_), .val (.int p0_), .val (.ref b184), .val (.ref b266), .val (.ref b289), .unset, .unset] [])) _
          refine XS.aload X297.here hx rfl (hb hby at_78) rfl rfl ?_
          show Steps p.tables e below (T297.setTop (mkF m 80 #[.val (.int p0_), .val (.int p1_), .val (.int p2_), .val (.int p3_), .val (.int p4_), .val (.int p0_), .val (.ref b184), .val (.ref b266), .val (.ref b289), .unset, .unset] [(.ref b289)])) _
          refine st305.trans ?_
          show Steps p.tables e below (T305.setTop (mkF m 83 #[.val (.int p0_), .val (.int p1_), .val (.int p2_), .val (.int p3_), .val (.int p4_), .val (.int p0_), .val (.ref b184), .val (.ref b266), .val (.ref b289), .unset, .unset] [(.int (1 : Int32))])) _
          refine XS.istore X305.here hx rfl (hb hby at_83) rfl (l' := #[.val (.int p0_), .val (.int p1_), .val (.int p2_), .val (.int p3_), .val (.int p4_), .val (.int p0_), .val (.ref b184), .val (.ref b266), .val (.ref b289), .val (.int (1 : Int32)), .unset]) rfl ?_
          show Steps p.tables e below (T305.setTop (mkF m 85 #[.val (.int p0_), .val (.int p1_), .val (.int p2_), .val (.int p3_), .val (.int p4_), .val (.int p0_), .val (.ref b184), .val (.ref b266), .val (.ref b289), .val (.int (1 : Int32)), .unset] [])) _
          refine XS.iload X305.here hx rfl (hb hby at_85) rfl ?_
          show Steps p.tables e below (T305.setTop (mkF m 87 #[.val (.int p0_), .val (.int p1_), .val (.int p2_), .val (.int p3_), .val (.int p4_), .val (.int p0_), .val (.ref b184), .val (.ref b266), .val (.ref b289), .val (.int (1 : Int32)), .unset] [(.int p0_)])) _
          refine XS.iconst X305.here hx rfl (hb hby at_87) ?_
          show Steps p.tables e below (T305.setTop (mkF m 88 #[.val (.int p0_), .val (.int p1_), .val (.int p2_), .val (.int p3_), .val (.int p4_), .val (.int p0_), .val (.ref b184), .val (.ref b266), .val (.ref b289), .val (.int (1 : Int32)), .unset] [(.int (1 : Int32)), (.int p0_)])) _
          refine XS.icmpNo X305.here hx rfl (hb hby at_88) rfl (flt (by intro hz; have lt_0 : ((1 : Int32)).toInt = 1 := rfl; have lt_1 : ((7 : Int32)).toInt = 7 := rfl; simp only [Int32.lt_iff_toInt_lt, Int64.lt_iff_toInt_lt, ← Int32.toInt_inj, ← Int64.toInt_inj] at hz hq305_0_0; omega)).1 ?_
          show Steps p.tables e below (T305.setTop (mkF m 91 #[.val (.int p0_), .val (.int p1_), .val (.int p2_), .val (.int p3_), .val (.int p4_), .val (.int p0_), .val (.ref b184), .val (.ref b266), .val (.ref b289), .val (.int (1 : Int32)), .unset] [])) _
          refine XS.iload X305.here hx rfl (hb hby at_91) rfl ?_
          show Steps p.tables e below (T305.setTop (mkF m 93 #[.val (.int p0_), .val (.int p1_), .val (.int p2_), .val (.int p3_), .val (.int p4_), .val (.int p0_), .val (.ref b184), .val (.ref b266), .val (.ref b289), .val (.int (1 : Int32)), .unset] [(.int p0_)])) _
          refine XS.bipush X305.here hx rfl (hb hby at_93) ?_
          show Steps p.tables e below (T305.setTop (mkF m 95 #[.val (.int p0_), .val (.int p1_), .val (.int p2_), .val (.int p3_), .val (.int p4_), .val (.int p0_), .val (.ref b184), .val (.ref b266), .val (.ref b289), .val (.int (1 : Int32)), .unset] [(.int (8 : Int32)), (.int p0_)])) _
          refine XS.icmpNo X305.here hx rfl (hb hby at_95) rfl (flt (by intro hz; have lt_0 : ((7 : Int32)).toInt = 7 := rfl; have lt_1 : ((8 : Int32)).toInt = 8 := rfl; simp only [Int32.lt_iff_toInt_lt, Int64.lt_iff_toInt_lt, ← Int32.toInt_inj, ← Int64.toInt_inj] at hz hq305_0_0; omega)).2.2.1 ?_
          show Steps p.tables e below (T305.setTop (mkF m 98 #[.val (.int p0_), .val (.int p1_), .val (.int p2_), .val (.int p3_), .val (.int p4_), .val (.int p0_), .val (.ref b184), .val (.ref b266), .val (.ref b289), .val (.int (1 : Int32)), .unset] [])) _
          refine XS.aload X305.here hx rfl (hb hby at_98) rfl rfl ?_
          show Steps p.tables e below (T305.setTop (mkF m 100 #[.val (.int p0_), .val (.int p1_), .val (.int p2_), .val (.int p3_), .val (.int p4_), .val (.int p0_), .val (.ref b184), .val (.ref b266), .val (.ref b289), .val (.int (1 : Int32)), .unset] [(.ref b289)])) _
          refine st315.trans ?_
          show Steps p.tables e below (T315.setTop (mkF m 103 #[.val (.int p0_), .val (.int p1_), .val (.int p2_), .val (.int p3_), .val (.int p4_), .val (.int p0_), .val (.ref b184), .val (.ref b266), .val (.ref b289), .val (.int (1 : Int32)), .unset] [(.ref w_REFERENCE)])) _
          refine st317 _ ?_
          show Steps p.tables e below (T317.setTop (mkF m 106 #[.val (.int p0_), .val (.int p1_), .val (.int p2_), .val (.int p3_), .val (.int p4_), .val (.int p0_), .val (.ref b184), .val (.ref b266), .val (.ref b289), .val (.int (1 : Int32)), .unset] [(.ref w_REFERENCE), (.ref w_REFERENCE)])) _
          refine Jvm.RoadKit.acmp (g := (mkF m 106 #[.val (.int p0_), .val (.int p1_), .val (.int p2_), .val (.int p3_), .val (.int p4_), .val (.int p0_), .val (.ref b184), .val (.ref b266), .val (.ref b289), .val (.int (1 : Int32)), .unset] [(.ref w_REFERENCE), (.ref w_REFERENCE)])) X317 hx rfl rfl rfl (pc0 := 106) (pc' := 109) (same := true) rfl (hb hby at_106) rfl (decide_eq_true rfl) (by decide) (by decide) ?_
          show Steps p.tables e below (T317.setTop (mkF m 109 #[.val (.int p0_), .val (.int p1_), .val (.int p2_), .val (.int p3_), .val (.int p4_), .val (.int p0_), .val (.ref b184), .val (.ref b266), .val (.ref b289), .val (.int (1 : Int32)), .unset] [])) _
          refine XS.aload X317.here hx rfl (hb hby at_109) rfl rfl ?_
          show Steps p.tables e below (T317.setTop (mkF m 111 #[.val (.int p0_), .val (.int p1_), .val (.int p2_), .val (.int p3_), .val (.int p4_), .val (.int p0_), .val (.ref b184), .val (.ref b266), .val (.ref b289), .val (.int (1 : Int32)), .unset] [(.ref b289)])) _
          refine st318.trans ?_
          show Steps p.tables e below (T318.setTop (mkF m 114 #[.val (.int p0_), .val (.int p1_), .val (.int p2_), .val (.int p3_), .val (.int p4_), .val (.int p0_), .val (.ref b184), .val (.ref b266), .val (.ref b289), .val (.int (1 : Int32)), .unset] [(.int (0 : Int32))])) _
          refine XS.ifNo X318.here hx rfl (hb hby at_114) rfl ((if0 _ _).trans (teq (by decide : (0 : Int32) = (0 : Int32))).2) ?_
          show Steps p.tables e below (T318.setTop (mkF m 117 #[.val (.int p0_), .val (.int p1_), .val (.int p2_), .val (.int p3_), .val (.int p4_), .val (.int p0_), .val (.ref b184), .val (.ref b266), .val (.ref b289), .val (.int (1 : Int32)), .unset] [])) _
          refine XS.iconst X318.here hx rfl (hb hby at_117) ?_
          show Steps p.tables e below (T318.setTop (mkF m 118 #[.val (.int p0_), .val (.int p1_), .val (.int p2_), .val (.int p3_), .val (.int p4_), .val (.int p0_), .val (.ref b184), .val (.ref b266), .val (.ref b289), .val (.int (1 : Int32)), .unset] [(.int (1 : Int32))])) _
          refine XS.goto X318.here hx rfl (pc0 := 118) (pc' := 122) rfl (hb hby at_118) (by decide) (by decide) ?_
          show Steps p.tables e below (T318.setTop (mkF m 122 #[.val (.int p0_), .val (.int p1_), .val (.int p2_), .val (.int p3_), .val (.int p4_), .val (.int p0_), .val (.ref b184), .val (.ref b266), .val (.ref b289), .val (.int (1 : Int32)), .unset] [(.int (1 : Int32))])) _
          refine XS.istore X318.here hx rfl (hb hby at_122) rfl (l' := #[.val (.int p0_), .val (.int p1_), .val (.int p2_), .val (.int p3_), .val (.int p4_), .val (.int p0_), .val (.ref b184), .val (.ref b266), .val (.ref b289), .val (.int (1 : Int32)), .val (.int (1 : Int32))]) rfl ?_
          show Steps p.tables e below (T318.setTop (mkF m 124 #[.val (.int p0_), .val (.int p1_), .val (.int p2_), .val (.int p3_), .val (.int p4_), .val (.int p0_), .val (.ref b184), .val (.ref b266), .val (.ref b289), .val (.int (1 : Int32)), .val (.int (1 : Int32))] [])) _
          refine XS.goto X318.here hx rfl (pc0 := 124) (pc' := 130) rfl (hb hby at_124) (by decide) (by decide) ?_
          show Steps p.tables e below (T318.setTop (mkF m 130 #[.val (.int p0_), .val (.int p1_), .val (.int p2_), .val (.int p3_), .val (.int p4_), .val (.int p0_), .val (.ref b184), .val (.ref b266), .val (.ref b289), .val (.int (1 : Int32)), .val (.int (1 : Int32))] [])) _
          refine XS.iload X318.here hx rfl (hb hby at_130) rfl ?_
          show Steps p.tables e below (T318.setTop (mkF m 132 #[.val (.int p0_), .val (.int p1_), .val (.int p2_), .val (.int p3_), .val (.int p4_), .val (.int p0_), .val (.ref b184), .val (.ref b266), .val (.ref b289), .val (.int (1 : Int32)), .val (.int (1 : Int32))] [(.int (1 : Int32))])) _
          refine XS.iload X318.here hx rfl (hb hby at_132) rfl ?_
          show Steps p.tables e below (T318.setTop (mkF m 134 #[.val (.int p0_), .val (.int p1_), .val (.int p2_), .val (.int p3_), .val (.int p4_), .val (.int p0_), .val (.ref b184), .val (.ref b266), .val (.ref b289), .val (.int (1 : Int32)), .val (.int (1 : Int32))] [(.int (1 : Int32)), (.int (1 : Int32))])) _
          refine XS.icmpNo X318.here hx rfl (hb hby at_134) rfl (teq (by decide : (1 : Int32) = (1 : Int32))).2 ?_
          show Steps p.tables e below (T318.setTop (mkF m 137 #[.val (.int p0_), .val (.int p1_), .val (.int p2_), .val (.int p3_), .val (.int p4_), .val (.int p0_), .val (.ref b184), .val (.ref b266), .val (.ref b289), .val (.int (1 : Int32)), .val (.int (1 : Int32))] [])) _
          refine XS.iconst X318.here hx rfl (hb hby at_137) ?_
          show Steps p.tables e below (T318.setTop (mkF m 138 #[.val (.int p0_), .val (.int p1_), .val (.int p2_), .val (.int p3_), .val (.int p4_), .val (.int p0_), .val (.ref b184), .val (.ref b266), .val (.ref b289), .val (.int (1 : Int32)), .val (.int (1 : Int32))] [(.int (1 : Int32))])) _
          refine XS.goto X318.here hx rfl (pc0 := 138) (pc' := 142) rfl (hb hby at_138) (by decide) (by decide) ?_
          exact kt
        obtain ⟨fs, hr, hrun, hended, hW, hsame⟩ := X318.leave (v := some (.int (1 : Int32))) (fun h => by rw [Bd.returns] at h; cases h)
        refine ⟨_, _, pre320 _ (retN X318 hx (t := .boolean) Bd.returns (by simp) (hb hby at_142) hr), hrun, hended, _, _, rfl, ?_, ⟨_, rfl⟩, hW, hsame.mono (by decide) (by decide)⟩
        show QLaw Z p0_ p1_ p2_ p3_ p4_ w_COMPACT_STRINGS w_FLOAT w_LONG w_INT w_REFERENCE w_DOUBLE h0 n0 _ T318.heap _
        rw [e318']
        exact ⟨rfl, N319⟩
      · obtain ⟨cq322, kq322, q322a, q322b, q322c⟩ := isOf hZ e305' g297_0
        obtain ⟨_, _, ⟨T322, L322, k322, n322⟩, -, X322, ⟨Lc322, hQ322, l322, y322, z322⟩, st322⟩ := X305.virtualBack hx (y := (⟨"com/example/stackweave/stackweave/classfile/VerificationType", "kind", "()Lcom/example/stackweave/stackweave/classfile/ValueKind;"⟩ : MethodName)) (z := (⟨"com/example/stackweave/stackweave/classfile/VerificationType", "kind", "()Lcom/example/stackweave/stackweave/classfile/ValueKind;"⟩ : MethodName)) hown (mvT hZ (hw _ (List.mem_of_getElem? (i := 54) rfl))) (mvT hZ (hw _ (List.mem_of_getElem? (i := 55) rfl))) (notFace_of_selects (args := #[]) (mvT hZ (hw _ (List.mem_of_getElem? (i := 57) rfl)))) (mvT hZ (hw _ (List.mem_of_getElem? (i := 57) rfl))) (mvT hZ (hw _ (List.mem_of_getElem? (i := 56) rfl))) (by decide) (backOf (W := 0) (rmkind21 l Z a0 hw [] b289 p0_ b266 p4_ nnnb1_3_2_279 k1_3_2_279 ((p2_ &&& (255 : Int32)).toInt8.toInt32) ((p3_ &&& (255 : Int32)).toInt8.toInt32) w_REFERENCE h297 n0 f313 hq305_1_0 hq305_1_1 g297_0 g297_1 g297_2 g297_3 f306 f307 f309 f310 f312 P4 P13 P3) hZ (hw _ (List.mem_of_getElem? (i := 58) rfl)) (hw _ (List.mem_of_getElem? (i := 32) rfl)) (by decide) (by decide)) q322a q322c (g := (mkF m 100 #[.val (.int p0_), .val (.int p1_), .val (.int p2_), .val (.int p3_), .val (.int p4_), .val (.int p0_), .val (.ref b184), .val (.ref b266), .val (.ref b289), .val (.int (1 : Int32)), .unset] [(.ref b289)])) rfl (by rw [hml]; rfl) (Steps.refl _) (argsL := []) (rest := []) (lenOf pd_3 rfl) rfl (by show 2 * 0 + _ ≤ _; exact Nat.le_of_eq rfl) (hb hby at_100) (fun _ _ => ⟨rfl, e305', (by decide : 4 + 0 ≤ _), (by decide : 11 + 0 ≤ _)⟩)
        dsimp only [Pt.U, Pt.locs, Pt.cells, Pt.slots] at X322 l322 y322 z322 st322 hQ322
        subst l322 y322 z322
        obtain ⟨h322, e322⟩ : ∃ z, T322.heap = z := ⟨_, rfl⟩
        rw [e322] at hQ322
        obtain ⟨rfl, N322q, hh322⟩ := hQ322
        have N323 := Fr.app N314 N322q
        have e322' : T322.heap = h297 := e322.trans hh322
        obtain ⟨T324, X324, e324, st324⟩ := getS2 X322 hx hZ hown (host := "") (Or.inl (hw _ (List.mem_of_getElem? (i := 62) rfl))) Via.refl e322' (P3.ext f313.2) (g := (mkF m 103 #[.val (.int p0_), .val (.int p1_), .val (.int p2_), .val (.int p3_), .val (.int p4_), .val (.int p0_), .val (.ref b184), .val (.ref b266), .val (.ref b289), .val (.int (1 : Int32)), .unset] [(.ref w_REFERENCE)])) rfl (hb hby at_103)
        obtain ⟨cq325, kq325, q325a, q325b, q325c⟩ := isOf hZ e324 g297_0
        obtain ⟨_, _, ⟨T325, L325, k325, n325⟩, -, X325, ⟨Lc325, hQ325, l325, y325, z325⟩, st325⟩ := X324.virtualBack hx (y := (⟨"com/example/stackweave/stackweave/classfile/VerificationType", "isUninitialized", "()Z"⟩ : MethodName)) (z := (⟨"com/example/stackweave/stackweave/classfile/VerificationType", "isUninitialized", "()Z"⟩ : MethodName)) hown (mvT hZ (hw _ (List.mem_of_getElem? (i := 65) rfl))) (mvT hZ (hw _ (List.mem_of_getElem? (i := 66) rfl))) (notFace_of_selects (args := #[]) (mvT hZ (hw _ (List.mem_of_getElem? (i := 68) rfl)))) (mvT hZ (hw _ (List.mem_of_getElem? (i := 68) rfl))) (mvT hZ (hw _ (List.mem_of_getElem? (i := 67) rfl))) (by decide) (backOf (W := 0) (rmisUninitialized22 l Z a0 hw [] b289 p0_ b266 p4_ nnnb1_3_2_279 k1_3_2_279 ((p2_ &&& (255 : Int32)).toInt8.toInt32) ((p3_ &&& (255 : Int32)).toInt8.toInt32) h297 n0 f313 hq305_1_0 hq305_1_1 g297_0 g297_1 g297_2 g297_3 f306 f307 f309 f310 f312) hZ (hw _ (List.mem_of_getElem? (i := 69) rfl)) (hw _ (List.mem_of_getElem? (i := 32) rfl)) (by decide) (by decide)) q325a q325c (g := (mkF m 111 #[.val (.int p0_), .val (.int p1_), .val (.int p2_), .val (.int p3_), .val (.int p4_), .val (.int p0_), .val (.ref b184), .val (.ref b266), .val (.ref b289), .val (.int (1 : Int32)), .unset] [(.ref b289)])) rfl (by rw [hml]; rfl) (Steps.refl _) (argsL := []) (rest := []) (lenOf pd_2 rfl) rfl (by show 2 * 0 + _ ≤ _; exact Nat.le_of_eq rfl) (hb hby at_111) (fun _ _ => ⟨rfl, e324, (by decide : 4 + 0 ≤ _), (by decide : 11 + 0 ≤ _)⟩)
        dsimp only [Pt.U, Pt.locs, Pt.cells, Pt.slots] at X325 l325 y325 z325 st325 hQ325
        subst l325 y325 z325
        obtain ⟨h325, e325⟩ : ∃ z, T325.heap = z := ⟨_, rfl⟩
        rw [e325] at hQ325
        obtain ⟨rfl, N325q, hh325⟩ := hQ325
        have N326 := Fr.app N323 N325q
        have e325' : T325.heap = h297 := e325.trans hh325
        have pre327 : ∀ t, Steps p.tables e below (T325.setTop (mkF m 142 #[.val (.int p0_), .val (.int p1_), .val (.int p2_), .val (.int p3_), .val (.int p4_), .val (.int p0_), .val (.ref b184), .val (.ref b266), .val (.ref b289), .val (.int (1 : Int32)), .val (.int (1 : Int32))] [(.int (1 : Int32))])) t → Steps p.tables e below (s₁.setTop (entryFrame m #[(.int p0_), (.int p1_), (.int p2_), (.int p3_), (.int p4_)] maxLocals)) t := by
          intro t kt
          refine pre196 t ?_
          show Steps p.tables e below (T192.setTop (mkF m 45 #[.val (.int p0_), .val (.int p1_), .val (.int p2_), .val (.int p3_), .val (.int p4_), .val (.int p0_), .val (.ref b184), .unset, .unset, .unset, .unset] [(.int (p1_ &&& (2 : Int32)))])) _
          refine XS.ifNo X192.here hx rfl (hb hby at_45) rfl ((if0 _ _).trans (feq hc197).1) ?_
          show Steps p.tables e below (T192.setTop (mkF m 48 #[.val (.int p0_), .val (.int p1_), .val (.int p2_), .val (.int p3_), .val (.int p4_), .val (.int p0_), .val (.ref b184), .unset, .unset, .unset, .unset] [])) _
          refine st266 _ ?_
          show Steps p.tables e below (T266.setTop (mkF m 51 #[.val (.int p0_), .val (.int p1_), .val (.int p2_), .val (.int p3_), .val (.int p4_), .val (.int p0_), .val (.ref b184), .unset, .unset, .unset, .unset] [(.ref b266)])) _
          refine XS.dup X266.here hx rfl (hb hby at_51) rfl rfl ?_
          show Steps p.tables e below (T266.setTop (mkF m 52 #[.val (.int p0_), .val (.int p1_), .val (.int p2_), .val (.int p3_), .val (.int p4_), .val (.int p0_), .val (.ref b184), .unset, .unset, .unset, .unset] [(.ref b266), (.ref b266)])) _
          refine XS.aload X266.here hx rfl (hb hby at_52) rfl rfl ?_
          show Steps p.tables e below (T266.setTop (mkF m 54 #[.val (.int p0_), .val (.int p1_), .val (.int p2_), .val (.int p3_), .val (.int p4_), .val (.int p0_), .val (.ref b184), .unset, .unset, .unset, .unset] [(.ref b184), (.ref b266), (.ref b266)])) _
          refine st279.trans ?_
          show Steps p.tables e below (T279.setTop (mkF m 57 #[.val (.int p0_), .val (.int p1_), .val (.int p2_), .val (.int p3_), .val (.int p4_), .val (.int p0_), .val (.ref b184), .unset, .unset, .unset, .unset] [(.ref b266)])) _
          refine XS.goto X279.here hx rfl (pc0 := 57) (pc' := 61) rfl (hb hby at_57) (by decide) (by decide) ?_
          show Steps p.tables e below (T279.setTop (mkF m 61 #[.val (.int p0_), .val (.int p1_), .val (.int p2_), .val (.int p3_), .val (.int p4_), .val (.int p0_), .val (.ref b184), .unset, .unset, .unset, .unset] [(.ref b266)])) _
          refine XS.astore X279.here hx rfl (hb hby at_61) rfl rfl (l' := #[.val (.int p0_), .val (.int p1_), .val (.int p2_), .val (.int p3_), .val (.int p4_), .val (.int p0_), .val (.ref b184), .val (.ref b266), .unset, .unset, .unset]) rfl ?_
          show Steps p.tables e below (T279.setTop (mkF m 63 #[.val (.int p0_), .val (.int p1_), .val (.int p2_), .val (.int p3_), .val (.int p4_), .val (.int p0_), .val (.ref b184), .val (.ref b266), .unset, .unset, .unset] [])) _
          refine st289 _ ?_
          show Steps p.tables e below (T289.setTop (mkF m 66 #[.val (.int p0_), .val (.int p1_), .val (.int p2_), .val (.int p3_), .val (.int p4_), .val (.int p0_), .val (.ref b184), .val (.ref b266), .unset, .unset, .unset] [(.ref b289)])) _
          refine XS.dup X289.here hx rfl (hb hby at_66) rfl rfl ?_
          show Steps p.tables e below (T289.setTop (mkF m 67 #[.val (.int p0_), .val (.int p1_), .val (.int p2_), .val (.int p3_), .val (.int p4_), .val (.int p0_), .val (.ref b184), .val (.ref b266), .unset, .unset, .unset] [(.ref b289), (.ref b289)])) _
          refine XS.iload X289.here hx rfl (hb hby at_67) rfl ?_
          show Steps p.tables e below (T289.setTop (mkF m 69 #[.val (.int p0_), .val (.int p1_), .val (.int p2_), .val (.int p3_), .val (.int p4_), .val (.int p0_), .val (.ref b184), .val (.ref b266), .unset, .unset, .unset] [(.int p0_), (.ref b289), (.ref b289)])) _
          refine XS.aload X289.here hx rfl (hb hby at_69) rfl rfl ?_
          show Steps p.tables e below (T289.setTop (mkF m 71 #[.val (.int p0_), .val (.int p1_), .val (.int p2_), .val (.int p3_), .val (.int p4_), .val (.int p0_), .val (.ref b184), .val (.ref b266), .unset, .unset, .unset] [(.ref b266), (.int p0_), (.ref b289), (.ref b289)])) _
          refine XS.iload X289.here hx rfl (hb hby at_71) rfl ?_
          show Steps p.tables e below (T289.setTop (mkF m 73 #[.val (.int p0_), .val (.int p1_), .val (.int p2_), .val (.int p3_), .val (.int p4_), .val (.int p0_), .val (.ref b184), .val (.ref b266), .unset, .unset, .unset] [(.int p4_), (.ref b266), (.int p0_), (.ref b289), (.ref b289)])) _
          refine st297.trans ?_
          show Steps p.tables e below (T297.setTop (mkF m 76 #[.val (.int p0_), .val (.int p1_), .val (.int p2_), .val (.int p3_), .val (.int p4_), .val (.int p0_), .val (.ref b184), .val (.ref b266), .unset, .unset, .unset] [(.ref b289)])) _
          refine XS.astore X297.here hx rfl (hb hby at_76) rfl rfl (l' := #[.val (.int p0_), .val (.int p1_), .val (.int p2_), .val (.int p3_), .val (.int p4_), .val (.int p0_), .val (.ref b184), .val (.ref b266), .val (.ref b289), .unset, .unset]) rfl ?_
          show Steps p.tables e below (T297.setTop (mkF m 78 #[.val (.int p0_), .val (.int p1_), .val (.int p2_), .val (.int p3_), .val (.int p4_), .val (.int p0_), .val (.ref b184), .val (.ref b266), .val (.ref b289), .unset, .unset] [])) _
          refine XS.aload X297.here hx rfl (hb hby at_78) rfl rfl ?_
          show Steps p.tables e below (T297.setTop (mkF m 80 #[.val (.int p0_), .val (.int p1_), .val (.int p2_), .val (.int p3_), .val (.int p4_), .val (.int p0_), .val (.ref b184), .val (.ref b266), .val (.ref b289), .unset, .unset] [(.ref b289)])) _
          refine st305.trans ?_
          show Steps p.tables e below (T305.setTop (mkF m 83 #[.val (.int p0_), .val (.int p1_), .val (.int p2_), .val (.int p3_), .val (.int p4_), .val (.int p0_), .val (.ref b184), .val (.ref b266), .val (.ref b289), .unset, .unset] [(.int (1 : Int32))])) _
          refine XS.istore X305.here hx rfl (hb hby at_83) rfl (l' := #[.val (.int p0_), .val (.int p1_), .val (.int p2_), .val (.int p3_), .val (.int p4_), .val (.int p0_), .val (.ref b184), .val (.ref b266), .val (.ref b289), .val (.int (1 : Int32)), .unset]) rfl ?_
          show Steps p.tables e below (T305.setTop (mkF m 85 #[.val (.int p0_), .val (.int p1_), .val (.int p2_), .val (.int p3_), .val (.int p4_), .val (.int p0_), .val (.ref b184), .val (.ref b266), .val (.ref b289), .val (.int (1 : Int32)), .unset] [])) _
          refine XS.iload X305.here hx rfl (hb hby at_85) rfl ?_
          show Steps p.tables e below (T305.setTop (mkF m 87 #[.val (.int p0_), .val (.int p1_), .val (.int p2_), .val (.int p3_), .val (.int p4_), .val (.int p0_), .val (.ref b184), .val (.ref b266), .val (.ref b289), .val (.int (1 : Int32)), .unset] [(.int p0_)])) _
          refine XS.iconst X305.here hx rfl (hb hby at_87) ?_
          show Steps p.tables e below (T305.setTop (mkF m 88 #[.val (.int p0_), .val (.int p1_), .val (.int p2_), .val (.int p3_), .val (.int p4_), .val (.int p0_), .val (.ref b184), .val (.ref b266), .val (.ref b289), .val (.int (1 : Int32)), .unset] [(.int (1 : Int32)), (.int p0_)])) _
          refine XS.icmpNo X305.here hx rfl (hb hby at_88) rfl (flt (by intro hz; have lt_0 : ((1 : Int32)).toInt = 1 := rfl; have lt_1 : ((5 : Int32)).toInt = 5 := rfl; have lt_2 : ((7 : Int32)).toInt = 7 := rfl; simp only [Int32.lt_iff_toInt_lt, Int64.lt_iff_toInt_lt, ← Int32.toInt_inj, ← Int64.toInt_inj] at hz hq305_1_0 hq305_1_1; omega)).1 ?_
          show Steps p.tables e below (T305.setTop (mkF m 91 #[.val (.int p0_), .val (.int p1_), .val (.int p2_), .val (.int p3_), .val (.int p4_), .val (.int p0_), .val (.ref b184), .val (.ref b266), .val (.ref b289), .val (.int (1 : Int32)), .unset] [])) _
          refine XS.iload X305.here hx rfl (hb hby at_91) rfl ?_
          show Steps p.tables e below (T305.setTop (mkF m 93 #[.val (.int p0_), .val (.int p1_), .val (.int p2_), .val (.int p3_), .val (.int p4_), .val (.int p0_), .val (.ref b184), .val (.ref b266), .val (.ref b289), .val (.int (1 : Int32)), .unset] [(.int p0_)])) _
          refine XS.bipush X305.here hx rfl (hb hby at_93) ?_
          show Steps p.tables e below (T305.setTop (mkF m 95 #[.val (.int p0_), .val (.int p1_), .val (.int p2_), .val (.int p3_), .val (.int p4_), .val (.int p0_), .val (.ref b184), .val (.ref b266), .val (.ref b289), .val (.int (1 : Int32)), .unset] [(.int (8 : Int32)), (.int p0_)])) _
          refine XS.icmpNo X305.here hx rfl (hb hby at_95) rfl (flt (by intro hz; have lt_0 : ((5 : Int32)).toInt = 5 := rfl; have lt_1 : ((7 : Int32)).toInt = 7 := rfl; have lt_2 : ((8 : Int32)).toInt = 8 := rfl; simp only [Int32.lt_iff_toInt_lt, Int64.lt_iff_toInt_lt, ← Int32.toInt_inj, ← Int64.toInt_inj] at hz hq305_1_0 hq305_1_1; omega)).2.2.1 ?_
          show Steps p.tables e below (T305.setTop (mkF m 98 #[.val (.int p0_), .val (.int p1_), .val (.int p2_), .val (.int p3_), .val (.int p4_), .val (.int p0_), .val (.ref b184), .val (.ref b266), .val (.ref b289), .val (.int (1 : Int32)), .unset] [])) _
          refine XS.aload X305.here hx rfl (hb hby at_98) rfl rfl ?_
          show Steps p.tables e below (T305.setTop (mkF m 100 #[.val (.int p0_), .val (.int p1_), .val (.int p2_), .val (.int p3_), .val (.int p4_), .val (.int p0_), .val (.ref b184), .val (.ref b266), .val (.ref b289), .val (.int (1 : Int32)), .unset] [(.ref b289)])) _
          refine st322.trans ?_
          show Steps p.tables e below (T322.setTop (mkF m 103 #[.val (.int p0_), .val (.int p1_), .val (.int p2_), .val (.int p3_), .val (.int p4_), .val (.int p0_), .val (.ref b184), .val (.ref b266), .val (.ref b289), .val (.int (1 : Int32)), .unset] [(.ref w_REFERENCE)])) _
          refine st324 _ ?_
          show Steps p.tables e below (T324.setTop (mkF m 106 #[.val (.int p0_), .val (.int p1_), .val (.int p2_), .val (.int p3_), .val (.int p4_), .val (.int p0_), .val (.ref b184), .val (.ref b266), .val (.ref b289), .val (.int (1 : Int32)), .unset] [(.ref w_REFERENCE), (.ref w_REFERENCE)])) _
          refine Jvm.RoadKit.acmp (g := (mkF m 106 #[.val (.int p0_), .val (.int p1_), .val (.int p2_), .val (.int p3_), .val (.int p4_), .val (.int p0_), .val (.ref b184), .val (.ref b266), .val (.ref b289), .val (.int (1 : Int32)), .unset] [(.ref w_REFERENCE), (.ref w_REFERENCE)])) X324 hx rfl rfl rfl (pc0 := 106) (pc' := 109) (same := true) rfl (hb hby at_106) rfl (decide_eq_true rfl) (by decide) (by decide) ?_
          show Steps p.tables e below (T324.setTop (mkF m 109 #[.val (.int p0_), .val (.int p1_), .val (.int p2_), .val (.int p3_), .val (.int p4_), .val (.int p0_), .val (.ref b184), .val (.ref b266), .val (.ref b289), .val (.int (1 : Int32)), .unset] [])) _
          refine XS.aload X324.here hx rfl (hb hby at_109) rfl rfl ?_
          show Steps p.tables e below (T324.setTop (mkF m 111 #[.val (.int p0_), .val (.int p1_), .val (.int p2_), .val (.int p3_), .val (.int p4_), .val (.int p0_), .val (.ref b184), .val (.ref b266), .val (.ref b289), .val (.int (1 : Int32)), .unset] [(.ref b289)])) _
          refine st325.trans ?_
          show Steps p.tables e below (T325.setTop (mkF m 114 #[.val (.int p0_), .val (.int p1_), .val (.int p2_), .val (.int p3_), .val (.int p4_), .val (.int p0_), .val (.ref b184), .val (.ref b266), .val (.ref b289), .val (.int (1 : Int32)), .unset] [(.int (0 : Int32))])) _
          refine XS.ifNo X325.here hx rfl (hb hby at_114) rfl ((if0 _ _).trans (teq (by decide : (0 : Int32) = (0 : Int32))).2) ?_
          show Steps p.tables e below (T325.setTop (mkF m 117 #[.val (.int p0_), .val (.int p1_), .val (.int p2_), .val (.int p3_), .val (.int p4_), .val (.int p0_), .val (.ref b184), .val (.ref b266), .val (.ref b289), .val (.int (1 : Int32)), .unset] [])) _
          refine XS.iconst X325.here hx rfl (hb hby at_117) ?_
          show Steps p.tables e below (T325.setTop (mkF m 118 #[.val (.int p0_), .val (.int p1_), .val (.int p2_), .val (.int p3_), .val (.int p4_), .val (.int p0_), .val (.ref b184), .val (.ref b266), .val (.ref b289), .val (.int (1 : Int32)), .unset] [(.int (1 : Int32))])) _
          refine XS.goto X325.here hx rfl (pc0 := 118) (pc' := 122) rfl (hb hby at_118) (by decide) (by decide) ?_
          show Steps p.tables e below (T325.setTop (mkF m 122 #[.val (.int p0_), .val (.int p1_), .val (.int p2_), .val (.int p3_), .val (.int p4_), .val (.int p0_), .val (.ref b184), .val (.ref b266), .val (.ref b289), .val (.int (1 : Int32)), .unset] [(.int (1 : Int32))])) _
          refine XS.istore X325.here hx rfl (hb hby at_122) rfl (l' := #[.val (.int p0_), .val (.int p1_), .val (.int p2_), .val (.int p3_), .val (.int p4_), .val (.int p0_), .val (.ref b184), .val (.ref b266), .val (.ref b289), .val (.int (1 : Int32)), .val (.int (1 : Int32))]) rfl ?_
          show Steps p.tables e below (T325.setTop (mkF m 124 #[.val (.int p0_), .val (.int p1_), .val (.int p2_), .val (.int p3_), .val (.int p4_), .val (.int p0_), .val (.ref b184), .val (.ref b266), .val (.ref b289), .val (.int (1 : Int32)), .val (.int (1 : Int32))] [])) _
          refine XS.goto X325.here hx rfl (pc0 := 124) (pc' := 130) rfl (hb hby at_124) (by decide) (by decide) ?_
          show Steps p.tables e below (T325.setTop (mkF m 130 #[.val (.int p0_), .val (.int p1_), .val (.int p2_), .val (.int p3_), .val (.int p4_), .val (.int p0_), .val (.ref b184), .val (.ref b266), .val (.ref b289), .val (.int (1 : Int32)), .val (.int (1 : Int32))] [])) _
          refine XS.iload X325.here hx rfl (hb hby at_130) rfl ?_
          show Steps p.tables e below (T325.setTop (mkF m 132 #[.val (.int p0_), .val (.int p1_), .val (.int p2_), .val (.int p3_), .val (.int p4_), .val (.int p0_), .val (.ref b184), .val (.ref b266), .val (.ref b289), .val (.int (1 : Int32)), .val (.int (1 : Int32))] [(.int (1 : Int32))])) _
          refine XS.iload X325.here hx rfl (hb hby at_132) rfl ?_
          show Steps p.tables e below (T325.setTop (mkF m 134 #[.val (.int p0_), .val (.int p1_), .val (.int p2_), .val (.int p3_), .val (.int p4_), .val (.int p0_), .val (.ref b184), .val (.ref b266), .val (.ref b289), .val (.int (1 : Int32)), .val (.int (1 : Int32))] [(.int (1 : Int32)), (.int (1 : Int32))])) _
          refine XS.icmpNo X325.here hx rfl (hb hby at_134) rfl (teq (by decide : (1 : Int32) = (1 : Int32))).2 ?_
          show Steps p.tables e below (T325.setTop (mkF m 137 #[.val (.int p0_), .val (.int p1_), .val (.int p2_), .val (.int p3_), .val (.int p4_), .val (.int p0_), .val (.ref b184), .val (.ref b266), .val (.ref b289), .val (.int (1 : Int32)), .val (.int (1 : Int32))] [])) _
          refine XS.iconst X325.here hx rfl (hb hby at_137) ?_
          show Steps p.tables e below (T325.setTop (mkF m 138 #[.val (.int p0_), .val (.int p1_), .val (.int p2_), .val (.int p3_), .val (.int p4_), .val (.int p0_), .val (.ref b184), .val (.ref b266), .val (.ref b289), .val (.int (1 : Int32)), .val (.int (1 : Int32))] [(.int (1 : Int32))])) _
          refine XS.goto X325.here hx rfl (pc0 := 138) (pc' := 142) rfl (hb hby at_138) (by decide) (by decide) ?_
          exact kt
        obtain ⟨fs, hr, hrun, hended, hW, hsame⟩ := X325.leave (v := some (.int (1 : Int32))) (fun h => by rw [Bd.returns] at h; cases h)
        refine ⟨_, _, pre327 _ (retN X325 hx (t := .boolean) Bd.returns (by simp) (hb hby at_142) hr), hrun, hended, _, _, rfl, ?_, ⟨_, rfl⟩, hW, hsame.mono (by decide) (by decide)⟩
        show QLaw Z p0_ p1_ p2_ p3_ p4_ w_COMPACT_STRINGS w_FLOAT w_LONG w_INT w_REFERENCE w_DOUBLE h0 n0 _ T325.heap _
        rw [e325']
        exact ⟨rfl, N326⟩
      · have pre329 : ∀ t, Steps p.tables e below (T305.setTop (mkF m 88 #[.val (.int p0_), .val (.int p1_), .val (.int p2_), .val (.int p3_), .val (.int p4_), .val (.int p0_), .val (.ref b184), .val (.ref b266), .val (.ref b289), .val (.int (0 : Int32)), .unset] [(.int (1 : Int32)), (.int p0_)])) t → Steps p.tables e below (s₁.setTop (entryFrame m #[(.int p0_), (.int p1_), (.int p2_), (.int p3_), (.int p4_)] maxLocals)) t := by
          intro t kt
          refine pre196 t ?_
          show Steps p.tables e below (T192.setTop (mkF m 45 #[.val (.int p0_), .val (.int p1_), .val (.int p2_), .val (.int p3_), .val (.int p4_), .val (.int p0_), .val (.ref b184), .unset, .unset, .unset, .unset] [(.int (p1_ &&& (2 : Int32)))])) _
          refine XS.ifNo X192.here hx rfl (hb hby at_45) rfl ((if0 _ _).trans (feq hc197).1) ?_
          show Steps p.tables e below (T192.setTop (mkF m 48 #[.val (.int p0_), .val (.int p1_), .val (.int p2_), .val (.int p3_), .val (.int p4_), .val (.int p0_), .val (.ref b184), .unset, .unset, .unset, .unset] [])) _
          refine st266 _ ?_
          show Steps p.tables e below (T266.setTop (mkF m 51 #[.val (.int p0_), .val (.int p1_), .val (.int p2_), .val (.int p3_), .val (.int p4_), .val (.int p0_), .val (.ref b184), .unset, .unset, .unset, .unset] [(.ref b266)])) _
          refine XS.dup X266.here hx rfl (hb hby at_51) rfl rfl ?_
          show Steps p.tables e below (T266.setTop (mkF m 52 #[.val (.int p0_), .val (.int p1_), .val (.int p2_), .val (.int p3_), .val (.int p4_), .val (.int p0_), .val (.ref b184), .unset, .unset, .unset, .unset] [(.ref b266), (.ref b266)])) _
          refine XS.aload X266.here hx rfl (hb hby at_52) rfl rfl ?_
          show Steps p.tables e below (T266.setTop (mkF m 54 #[.val (.int p0_), .val (.int p1_), .val (.int p2_), .val (.int p3_), .val (.int p4_), .val (.int p0_), .val (.ref b184), .unset, .unset, .unset, .unset] [(.ref b184), (.ref b266), (.ref b266)])) _
          refine st279.trans ?_
          show Steps p.tables e below (T279.setTop (mkF m 57 #[.val (.int p0_), .val (.int p1_), .val (.int p2_), .val (.int p3_), .val (.int p4_), .val (.int p0_), .val (.ref b184), .unset, .unset, .unset, .unset] [(.ref b266)])) _
          refine XS.goto X279.here hx rfl (pc0 := 57) (pc' := 61) rfl (hb hby at_57) (by decide) (by decide) ?_
          show Steps p.tables e below (T279.setTop (mkF m 61 #[.val (.int p0_), .val (.int p1_), .val (.int p2_), .val (.int p3_), .val (.int p4_), .val (.int p0_), .val (.ref b184), .unset, .unset, .unset, .unset] [(.ref b266)])) _
          refine XS.astore X279.here hx rfl (hb hby at_61) rfl rfl (l' := #[.val (.int p0_), .val (.int p1_), .val (.int p2_), .val (.int p3_), .val (.int p4_), .val (.int p0_), .val (.ref b184), .val (.ref b266), .unset, .unset, .unset]) rfl ?_
          show Steps p.tables e below (T279.setTop (mkF m 63 #[.val (.int p0_), .val (.int p1_), .val (.int p2_), .val (.int p3_), .val (.int p4_), .val (.int p0_), .val (.ref b184), .val (.ref b266), .unset, .unset, .unset] [])) _
          refine st289 _ ?_
          show Steps p.tables e below (T289.setTop (mkF m 66 #[.val (.int p0_), .val (.int p1_), .val (.int p2_), .val (.int p3_), .val (.int p4_), .val (.int p0_), .val (.ref b184), .val (.ref b266), .unset, .unset, .unset] [(.ref b289)])) _
          refine XS.dup X289.here hx rfl (hb hby at_66) rfl rfl ?_
          show Steps p.tables e below (T289.setTop (mkF m 67 #[.val (.int p0_), .val (.int p1_), .val (.int p2_), .val (.int p3_), .val (.int p4_), .val (.int p0_), .val (.ref b184), .val (.ref b266), .unset, .unset, .unset] [(.ref b289), (.ref b289)])) _
          refine XS.iload X289.here hx rfl (hb hby at_67) rfl ?_
          show Steps p.tables e below (T289.setTop (mkF m 69 #[.val (.int p0_), .val (.int p1_), .val (.int p2_), .val (.int p3_), .val (.int p4_), .val (.int p0_), .val (.ref b184), .val (.ref b266), .unset, .unset, .unset] [(.int p0_), (.ref b289), (.ref b289)])) _
          refine XS.aload X289.here hx rfl (hb hby at_69) rfl rfl ?_
          show Steps p.tables e below (T289.setTop (mkF m 71 #[.val (.int p0_), .val (.int p1_), .val (.int p2_), .val (.int p3_), .val (.int p4_), .val (.int p0_), .val (.ref b184), .val (.ref b266), .unset, .unset, .unset] [(.ref b266), (.int p0_), (.ref b289), (.ref b289)])) _
          refine XS.iload X289.here hx rfl (hb hby at_71) rfl ?_
          show Steps p.tables e below (T289.setTop (mkF m 73 #[.val (.int p0_), .val (.int p1_), .val (.int p2_), .val (.int p3_), .val (.int p4_), .val (.int p0_), .val (.ref b184), .val (.ref b266), .unset, .unset, .unset] [(.int p4_), (.ref b266), (.int p0_), (.ref b289), (.ref b289)])) _
          refine st297.trans ?_
          show Steps p.tables e below (T297.setTop (mkF m 76 #[.val (.int p0_), .val (.int p1_), .val (.int p2_), .val (.int p3_), .val (.int p4_), .val (.int p0_), .val (.ref b184), .val (.ref b266), .unset, .unset, .unset] [(.ref b289)])) _
          refine XS.astore X297.here hx rfl (hb hby at_76) rfl rfl (l' := #[.val (.int p0_), .val (.int p1_), .val (.int p2_), .val (.int p3_), .val (.int p4_), .val (.int p0_), .val (.ref b184), .val (.ref b266), .val (.ref b289), .unset, .unset]) rfl ?_
          show Steps p.tables e below (T297.setTop (mkF m 78 #[.val (.int p0_), .val (.int p1_), .val (.int p2_), .val (.int p3_), .val (.int p4_), .val (.int p0_), .val (.ref b184), .val (.ref b266), .val (.ref b289), .unset, .unset] [])) _
          refine XS.aload X297.here hx rfl (hb hby at_78) rfl rfl ?_
          show Steps p.tables e below (T297.setTop (mkF m 80 #[.val (.int p0_), .val (.int p1_), .val (.int p2_), .val (.int p3_), .val (.int p4_), .val (.int p0_), .val (.ref b184), .val (.ref b266), .val (.ref b289), .unset, .unset] [(.ref b289)])) _
          refine st305.trans ?_
          show Steps p.tables e below (T305.setTop (mkF m 83 #[.val (.int p0_), .val (.int p1_), .val (.int p2_), .val (.int p3_), .val (.int p4_), .val (.int p0_), .val (.ref b184), .val (.ref b266), .val (.ref b289), .unset, .unset] [(.int (0 : Int32))])) _
          refine XS.istore X305.here hx rfl (hb hby at_83) rfl (l' := #[.val (.int p0_), .val (.int p1_), .val (.int p2_), .val (.int p3_), .val (.int p4_), .val (.int p0_), .val (.ref b184), .val (.ref b266), .val (.ref b289), .val (.int (0 : Int32)), .unset]) rfl ?_
          show Steps p.tables e below (T305.setTop (mkF m 85 #[.val (.int p0_), .val (.int p1_), .val (.int p2_), .val (.int p3_), .val (.int p4_), .val (.int p0_), .val (.ref b184), .val (.ref b266), .val (.ref b289), .val (.int (0 : Int32)), .unset] [])) _
          refine XS.iload X305.here hx rfl (hb hby at_85) rfl ?_
          show Steps p.tables e below (T305.setTop (mkF m 87 #[.val (.int p0_), .val (.int p1_), .val (.int p2_), .val (.int p3_), .val (.int p4_), .val (.int p0_), .val (.ref b184), .val (.ref b266), .val (.ref b289), .val (.int (0 : Int32)), .unset] [(.int p0_)])) _
          refine XS.iconst X305.here hx rfl (hb hby at_87) ?_
          exact kt
        by_cases hc330 : p0_ < (1 : Int32)
        · have pre331 : ∀ t, Steps p.tables e below (T305.setTop (mkF m 142 #[.val (.int p0_), .val (.int p1_), .val (.int p2_), .val (.int p3_), .val (.int p4_), .val (.int p0_), .val (.ref b184), .val (.ref b266), .val (.ref b289), .val (.int (0 : Int32)), .val (.int (0 : Int32))] [(.int (1 : Int32))])) t → Steps p.tables e below (s₁.setTop (entryFrame m #[(.int p0_), (.int p1_), (.int p2_), (.int p3_), (.int p4_)] maxLocals)) t := by
            intro t kt
            refine pre329 t ?_
            show Steps p.tables e below (T305.setTop (mkF m 88 #[.val (.int p0_), .val (.int p1_), .val (.int p2_), .val (.int p3_), .val (.int p4_), .val (.int p0_), .val (.ref b184), .val (.ref b266), .val (.ref b289), .val (.int (0 : Int32)), .unset] [(.int (1 : Int32)), (.int p0_)])) _
            refine XS.icmpYes X305.here hx rfl (pc0 := 88) (pc' := 127) rfl (hb hby at_88) rfl (tlt hc330).1 (by decide) (by decide) ?_
            show Steps p.tables e below (T305.setTop (mkF m 127 #[.val (.int p0_), .val (.int p1_), .val (.int p2_), .val (.int p3_), .val (.int p4_), .val (.int p0_), .val (.ref b184), .val (.ref b266), .val (.ref b289), .val (.int (0 : Int32)), .unset] [])) _
            refine XS.iconst X305.here hx rfl (hb hby at_127) ?_
            show Steps p.tables e below (T305.setTop (mkF m 128 #[.val (.int p0_), .val (.int p1_), .val (.int p2_), .val (.int p3_), .val (.int p4_), .val (.int p0_), .val (.ref b184), .val (.ref b266), .val (.ref b289), .val (.int (0 : Int32)), .unset] [(.int (0 : Int32))])) _
            refine XS.istore X305.here hx rfl (hb hby at_128) rfl (l' := #[.val (.int p0_), .val (.int p1_), .val (.int p2_), .val (.int p3_), .val (.int p4_), .val (.int p0_), .val (.ref b184), .val (.ref b266), .val (.ref b289), .val (.int (0 : Int32)), .val (.int (0 : Int32))]) rfl ?_
            show Steps p.tables e below (T305.setTop (mkF m 130 #[.val (.int p0_), .val (.int p1_), .val (.int p2_), .val (.int p3_), .val (.int p4_), .val (.int p0_), .val (.ref b184), .val (.ref b266), .val (.ref b289), .val (.int (0 : Int32)), .val (.int (0 : Int32))] [])) _
            refine XS.iload X305.here hx rfl (hb hby at_130) rfl ?_
            show Steps p.tables e below (T305.setTop (mkF m 132 #[.val (.int p0_), .val (.int p1_), .val (.int p2_), .val (.int p3_), .val (.int p4_), .val (.int p0_), .val (.ref b184), .val (.ref b266), .val (.ref b289), .val (.int (0 : Int32)), .val (.int (0 : Int32))] [(.int (0 : Int32))])) _
            refine XS.iload X305.here hx rfl (hb hby at_132) rfl ?_
            show Steps p.tables e below (T305.setTop (mkF m 134 #[.val (.int p0_), .val (.int p1_), .val (.int p2_), .val (.int p3_), .val (.int p4_), .val (.int p0_), .val (.ref b184), .val (.ref b266), .val (.ref b289), .val (.int (0 : Int32)), .val (.int (0 : Int32))] [(.int (0 : Int32)), (.int (0 : Int32))])) _
            refine XS.icmpNo X305.here hx rfl (hb hby at_134) rfl (teq (by decide : (0 : Int32) = (0 : Int32))).2 ?_
            show Steps p.tables e below (T305.setTop (mkF m 137 #[.val (.int p0_), .val (.int p1_), .val (.int p2_), .val (.int p3_), .val (.int p4_), .val (.int p0_), .val (.ref b184), .val (.ref b266), .val (.ref b289), .val (.int (0 : Int32)), .val (.int (0 : Int32))] [])) _
            refine XS.iconst X305.here hx rfl (hb hby at_137) ?_
            show Steps p.tables e below (T305.setTop (mkF m 138 #[.val (.int p0_), .val (.int p1_), .val (.int p2_), .val (.int p3_), .val (.int p4_), .val (.int p0_), .val (.ref b184), .val (.ref b266), .val (.ref b289), .val (.int (0 : Int32)), .val (.int (0 : Int32))] [(.int (1 : Int32))])) _
            refine XS.goto X305.here hx rfl (pc0 := 138) (pc' := 142) rfl (hb hby at_138) (by decide) (by decide) ?_
            exact kt
          obtain ⟨fs, hr, hrun, hended, hW, hsame⟩ := X305.leave (v := some (.int (1 : Int32))) (fun h => by rw [Bd.returns] at h; cases h)
          refine ⟨_, _, pre331 _ (retN X305 hx (t := .boolean) Bd.returns (by simp) (hb hby at_142) hr), hrun, hended, _, _, rfl, ?_, ⟨_, rfl⟩, hW, hsame.mono (by decide) (by decide)⟩
          show QLaw Z p0_ p1_ p2_ p3_ p4_ w_COMPACT_STRINGS w_FLOAT w_LONG w_INT w_REFERENCE w_DOUBLE h0 n0 _ T305.heap _
          rw [e305']
          exact ⟨rfl, N314⟩
        · have pre333 : ∀ t, Steps p.tables e below (T305.setTop (mkF m 95 #[.val (.int p0_), .val (.int p1_), .val (.int p2_), .val (.int p3_), .val (.int p4_), .val (.int p0_), .val (.ref b184), .val (.ref b266), .val (.ref b289), .val (.int (0 : Int32)), .unset] [(.int (8 : Int32)), (.int p0_)])) t → Steps p.tables e below (s₁.setTop (entryFrame m #[(.int p0_), (.int p1_), (.int p2_), (.int p3_), (.int p4_)] maxLocals)) t := by
            intro t kt
            refine pre329 t ?_
            show Steps p.tables e below (T305.setTop (mkF m 88 #[.val (.int p0_), .val (.int p1_), .val (.int p2_), .val (.int p3_), .val (.int p4_), .val (.int p0_), .val (.ref b184), .val (.ref b266), .val (.ref b289), .val (.int (0 : Int32)), .unset] [(.int (1 : Int32)), (.int p0_)])) _
            refine XS.icmpNo X305.here hx rfl (hb hby at_88) rfl (flt hc330).1 ?_
            show Steps p.tables e below (T305.setTop (mkF m 91 #[.val (.int p0_), .val (.int p1_), .val (.int p2_), .val (.int p3_), .val (.int p4_), .val (.int p0_), .val (.ref b184), .val (.ref b266), .val (.ref b289), .val (.int (0 : Int32)), .unset] [])) _
            refine XS.iload X305.here hx rfl (hb hby at_91) rfl ?_
            show Steps p.tables e below (T305.setTop (mkF m 93 #[.val (.int p0_), .val (.int p1_), .val (.int p2_), .val (.int p3_), .val (.int p4_), .val (.int p0_), .val (.ref b184), .val (.ref b266), .val (.ref b289), .val (.int (0 : Int32)), .unset] [(.int p0_)])) _
            refine XS.bipush X305.here hx rfl (hb hby at_93) ?_
            exact kt
          by_cases hc334 : (8 : Int32) < p0_
          · have pre335 : ∀ t, Steps p.tables e below (T305.setTop (mkF m 142 #[.val (.int p0_), .val (.int p1_), .val (.int p2_), .val (.int p3_), .val (.int p4_), .val (.int p0_), .val (.ref b184), .val (.ref b266), .val (.ref b289), .val (.int (0 : Int32)), .val (.int (0 : Int32))] [(.int (1 : Int32))])) t → Steps p.tables e below (s₁.setTop (entryFrame m #[(.int p0_), (.int p1_), (.int p2_), (.int p3_), (.int p4_)] maxLocals)) t := by
              intro t kt
              refine pre333 t ?_
              show Steps p.tables e below (T305.setTop (mkF m 95 #[.val (.int p0_), .val (.int p1_), .val (.int p2_), .val (.int p3_), .val (.int p4_), .val (.int p0_), .val (.ref b184), .val (.ref b266), .val (.ref b289), .val (.int (0 : Int32)), .unset] [(.int (8 : Int32)), (.int p0_)])) _
              refine XS.icmpYes X305.here hx rfl (pc0 := 95) (pc' := 127) rfl (hb hby at_95) rfl (tlt hc334).2.2.1 (by decide) (by decide) ?_
              show Steps p.tables e below (T305.setTop (mkF m 127 #[.val (.int p0_), .val (.int p1_), .val (.int p2_), .val (.int p3_), .val (.int p4_), .val (.int p0_), .val (.ref b184), .val (.ref b266), .val (.ref b289), .val (.int (0 : Int32)), .unset] [])) _
              refine XS.iconst X305.here hx rfl (hb hby at_127) ?_
              show Steps p.tables e below (T305.setTop (mkF m 128 #[.val (.int p0_), .val (.int p1_), .val (.int p2_), .val (.int p3_), .val (.int p4_), .val (.int p0_), .val (.ref b184), .val (.ref b266), .val (.ref b289), .val (.int (0 : Int32)), .unset] [(.int (0 : Int32))])) _
              refine XS.istore X305.here hx rfl (hb hby at_128) rfl (l' := #[.val (.int p0_), .val (.int p1_), .val (.int p2_), .val (.int p3_), .val (.int p4_), .val (.int p0_), .val (.ref b184), .val (.ref b266), .val (.ref b289), .val (.int (0 : Int32)), .val (.int (0 : Int32))]) rfl ?_
              show Steps p.tables e below (T305.setTop (mkF m 130 #[.val (.int p0_), .val (.int p1_), .val (.int p2_), .val (.int p3_), .val (.int p4_), .val (.int p0_), .val (.ref b184), .val (.ref b266), .val (.ref b289), .val (.int (0 : Int32)), .val (.int (0 : Int32))] [])) _
              refine XS.iload X305.here hx rfl (hb hby at_130) rfl ?_
              show Steps p.tables e below (T305.setTop (mkF m 132 #[.val (.int p0_), .val (.int p1_), .val (.int p2_), .val (.int p3_), .val (.int p4_), .val (.int p0_), .val (.ref b184), .val (.ref b266), .val (.ref b289), .val (.int (0 : Int32)), .val (.int (0 : Int32))] [(.int (0 : Int32))])) _
              refine XS.iload X305.here hx rfl (hb hby at_132) rfl ?_
              show Steps p.tables e below (T305.setTop (mkF m 134 #[.val (.int p0_), .val (.int p1_), .val (.int p2_), .val (.int p3_), .val (.int p4_), .val (.int p0_), .val (.ref b184), .val (.ref b266), .val (.ref b289), .val (.int (0 : Int32)), .val (.int (0 : Int32))] [(.int (0 : Int32)), (.int (0 : Int32))])) _
              refine XS.icmpNo X305.here hx rfl (hb hby at_134) rfl (teq (by decide : (0 : Int32) = (0 : Int32))).2 ?_
              show Steps p.tables e below (T305.setTop (mkF m 137 #[.val (.int p0_), .val (.int p1_), .val (.int p2_), .val (.int p3_), .val (.int p4_), .val (.int p0_), .val (.ref b184), .val (.ref b266), .val (.ref b289), .val (.int (0 : Int32)), .val (.int (0 : Int32))] [])) _
              refine XS.iconst X305.here hx rfl (hb hby at_137) ?_
              show Steps p.tables e below (T305.setTop (mkF m 138 #[.val (.int p0_), .val (.int p1_), .val (.int p2_), .val (.int p3_), .val (.int p4_), .val (.int p0_), .val (.ref b184), .val (.ref b266), .val (.ref b289), .val (.int (0 : Int32)), .val (.int (0 : Int32))] [(.int (1 : Int32))])) _
              refine XS.goto X305.here hx rfl (pc0 := 138) (pc' := 142) rfl (hb hby at_138) (by decide) (by decide) ?_
              exact kt
            obtain ⟨fs, hr, hrun, hended, hW, hsame⟩ := X305.leave (v := some (.int (1 : Int32))) (fun h => by rw [Bd.returns] at h; cases h)
            refine ⟨_, _, pre335 _ (retN X305 hx (t := .boolean) Bd.returns (by simp) (hb hby at_142) hr), hrun, hended, _, _, rfl, ?_, ⟨_, rfl⟩, hW, hsame.mono (by decide) (by decide)⟩
            show QLaw Z p0_ p1_ p2_ p3_ p4_ w_COMPACT_STRINGS w_FLOAT w_LONG w_INT w_REFERENCE w_DOUBLE h0 n0 _ T305.heap _
            rw [e305']
            exact ⟨rfl, N314⟩
          · obtain ⟨cq337, kq337, q337a, q337b, q337c⟩ := isOf hZ e305' g297_0
            obtain ⟨_, _, ⟨T337, L337, k337, n337⟩, -, X337, ⟨Lc337, hQ337, l337, y337, z337⟩, st337⟩ := X305.virtualBack hx (y := (⟨"com/example/stackweave/stackweave/classfile/VerificationType", "kind", "()Lcom/example/stackweave/stackweave/classfile/ValueKind;"⟩ : MethodName)) (z := (⟨"com/example/stackweave/stackweave/classfile/VerificationType", "kind", "()Lcom/example/stackweave/stackweave/classfile/ValueKind;"⟩ : MethodName)) hown (mvT hZ (hw _ (List.mem_of_getElem? (i := 54) rfl))) (mvT hZ (hw _ (List.mem_of_getElem? (i := 55) rfl))) (notFace_of_selects (args := #[]) (mvT hZ (hw _ (List.mem_of_getElem? (i := 57) rfl)))) (mvT hZ (hw _ (List.mem_of_getElem? (i := 57) rfl))) (mvT hZ (hw _ (List.mem_of_getElem? (i := 56) rfl))) (by decide) (backOf (W := 0) (rmkind23 l Z a0 hw [] b289 p0_ b266 p4_ nnnb1_3_2_279 k1_3_2_279 ((p2_ &&& (255 : Int32)).toInt8.toInt32) ((p3_ &&& (255 : Int32)).toInt8.toInt32) w_INT w_FLOAT w_DOUBLE w_LONG w_REFERENCE h297 n0 f313 hq305_2_0 hq305_2_1 hc330 hc334 g297_0 g297_1 g297_2 g297_3 f306 f307 f309 f310 f312 P6 P14 P5 P10 P16 P9 P2 P12 P1 P8 P15 P7 P4 P13 P3) hZ (hw _ (List.mem_of_getElem? (i := 58) rfl)) (hw _ (List.mem_of_getElem? (i := 32) rfl)) (by decide) (by decide)) q337a q337c (g := (mkF m 100 #[.val (.int p0_), .val (.int p1_), .val (.int p2_), .val (.int p3_), .val (.int p4_), .val (.int p0_), .val (.ref b184), .val (.ref b266), .val (.ref b289), .val (.int (0 : Int32)), .unset] [(.ref b289)])) rfl (by rw [hml]; rfl) (Steps.refl _) (argsL := []) (rest := []) (lenOf pd_3 rfl) rfl (by show 2 * 0 + _ ≤ _; exact Nat.le_of_eq rfl) (hb hby at_100) (fun _ _ => ⟨rfl, e305', (by decide : 4 + 0 ≤ _), (by decide : 11 + 0 ≤ _)⟩)
            dsimp only [Pt.U, Pt.locs, Pt.cells, Pt.slots] at X337 l337 y337 z337 st337 hQ337
            subst l337 y337 z337
            obtain ⟨h337, e337⟩ : ∃ z, T337.heap = z := ⟨_, rfl⟩
            rw [e337] at hQ337
            obtain ⟨rr337, rfl, hs337, N337q, hh337⟩ := hQ337
            have N338 := Fr.app N314 N337q
            have e337' : T337.heap = h297 := e337.trans hh337
            rcases hs337 with ⟨rfl, hq337_0_0⟩ | ⟨rfl, hq337_1_0, hq337_1_1⟩ | ⟨rfl, hq337_2_0, hq337_2_1, hq337_2_2⟩ | ⟨rfl, hq337_3_0, hq337_3_1, hq337_3_2, hq337_3_3⟩ | ⟨rfl, hq337_4_0, hq337_4_1, hq337_4_2, hq337_4_3, hq337_4_4⟩ | ⟨rfl, hq337_5_0, hq337_5_1, hq337_5_2, hq337_5_3, hq337_5_4, hq337_5_5⟩
            · obtain ⟨T339, X339, e339, st339⟩ := getS2 X337 hx hZ hown (host := "") (Or.inl (hw _ (List.mem_of_getElem? (i := 62) rfl))) Via.refl e337' (P3.ext f313.2) (g := (mkF m 103 #[.val (.int p0_), .val (.int p1_), .val (.int p2_), .val (.int p3_), .val (.int p4_), .val (.int p0_), .val (.ref b184), .val (.ref b266), .val (.ref b289), .val (.int (0 : Int32)), .unset] [(.ref w_INT)])) rfl (hb hby at_103)
              have ne340 : w_INT ≠ w_REFERENCE := Fld.ne P14 P13 (fun q => absurd (Value.int.inj q) (by decide))
              have pre341 : ∀ t, Steps p.tables e below (T339.setTop (mkF m 142 #[.val (.int p0_), .val (.int p1_), .val (.int p2_), .val (.int p3_), .val (.int p4_), .val (.int p0_), .val (.ref b184), .val (.ref b266), .val (.ref b289), .val (.int (0 : Int32)), .val (.int (0 : Int32))] [(.int (1 : Int32))])) t → Steps p.tables e below (s₁.setTop (entryFrame m #[(.int p0_), (.int p1_), (.int p2_), (.int p3_), (.int p4_)] maxLocals)) t := by
                intro t kt
                refine pre333 t ?_
                show Steps p.tables e below (T305.setTop (mkF m 95 #[.val (.int p0_), .val (.int p1_), .val (.int p2_), .val (.int p3_), .val (.int p4_), .val (.int p0_), .val (.ref b184), .val (.ref b266), .val (.ref b289), .val (.int (0 : Int32)), .unset] [(.int (8 : Int32)), (.int p0_)])) _
                refine XS.icmpNo X305.here hx rfl (hb hby at_95) rfl (flt hc334).2.2.1 ?_
                show Steps p.tables e below (T305.setTop (mkF m 98 #[.val (.int p0_), .val (.int p1_), .val (.int p2_), .val (.int p3_), .val (.int p4_), .val (.int p0_), .val (.ref b184), .val (.ref b266), .val (.ref b289), .val (.int (0 : Int32)), .unset] [])) _
                refine XS.aload X305.here hx rfl (hb hby at_98) rfl rfl ?_
                show Steps p.tables e below (T305.setTop (mkF m 100 #[.val (.int p0_), .val (.int p1_), .val (.int p2_), .val (.int p3_), .val (.int p4_), .val (.int p0_), .val (.ref b184), .val (.ref b266), .val (.ref b289), .val (.int (0 : Int32)), .unset] [(.ref b289)])) _
                refine st337.trans ?_
                show Steps p.tables e below (T337.setTop (mkF m 103 #[.val (.int p0_), .val (.int p1_), .val (.int p2_), .val (.int p3_), .val (.int p4_), .val (.int p0_), .val (.ref b184), .val (.ref b266), .val (.ref b289), .val (.int (0 : Int32)), .unset] [(.ref w_INT)])) _
                refine st339 _ ?_
                show Steps p.tables e below (T339.setTop (mkF m 106 #[.val (.int p0_), .val (.int p1_), .val (.int p2_), .val (.int p3_), .val (.int p4_), .val (.int p0_), .val (.ref b184), .val (.ref b266), .val (.ref b289), .val (.int (0 : Int32)), .unset] [(.ref w_REFERENCE), (.ref w_INT)])) _
                refine Jvm.RoadKit.acmp (g := (mkF m 106 #[.val (.int p0_), .val (.int p1_), .val (.int p2_), .val (.int p3_), .val (.int p4_), .val (.int p0_), .val (.ref b184), .val (.ref b266), .val (.ref b289), .val (.int (0 : Int32)), .unset] [(.ref w_REFERENCE), (.ref w_INT)])) X339 hx rfl rfl rfl (pc0 := 106) (pc' := 121) (same := false) rfl (hb hby at_106) rfl (decide_eq_false fun q => ne340 (Value.ref.inj q)) (by decide) (by decide) ?_
                show Steps p.tables e below (T339.setTop (mkF m 121 #[.val (.int p0_), .val (.int p1_), .val (.int p2_), .val (.int p3_), .val (.int p4_), .val (.int p0_), .val (.ref b184), .val (.ref b266), .val (.ref b289), .val (.int (0 : Int32)), .unset] [])) _
                refine XS.iconst X339.here hx rfl (hb hby at_121) ?_
                show Steps p.tables e below (T339.setTop (mkF m 122 #[.val (.int p0_), .val (.int p1_), .val (.int p2_), .val (.int p3_), .val (.int p4_), .val (.int p0_), .val (.ref b184), .val (.ref b266), .val (.ref b289), .val (.int (0 : Int32)), .unset] [(.int (0 : Int32))])) _
                refine XS.istore X339.here hx rfl (hb hby at_122) rfl (l' := #[.val (.int p0_), .val (.int p1_), .val (.int p2_), .val (.int p3_), .val (.int p4_), .val (.int p0_), .val (.ref b184), .val (.ref b266), .val (.ref b289), .val (.int (0 : Int32)), .val (.int (0 : Int32))]) rfl ?_
                show Steps p.tables e below (T339.setTop (mkF m 124 #[.val (.int p0_), .val (.int p1_), .val (.int p2_), .val (.int p3_), .val (.int p4_), .val (.int p0_), .val (.ref b184), .val (.ref b266), .val (.ref b289), .val (.int (0 : Int32)), .val (.int (0 : Int32))] [])) _
                refine XS.goto X339.here hx rfl (pc0 := 124) (pc' := 130) rfl (hb hby at_124) (by decide) (by decide) ?_
                show Steps p.tables e below (T339.setTop (mkF m 130 #[.val (.int p0_), .val (.int p1_), .val (.int p2_), .val (.int p3_), .val (.int p4_), .val (.int p0_), .val (.ref b184), .val (.ref b266), .val (.ref b289), .val (.int (0 : Int32)), .val (.int (0 : Int32))] [])) _
                refine XS.iload X339.here hx rfl (hb hby at_130) rfl ?_
                show Steps p.tables e below (T339.setTop (mkF m 132 #[.val (.int p0_), .val (.int p1_), .val (.int p2_), .val (.int p3_), .val (.int p4_), .val (.int p0_), .val (.ref b184), .val (.ref b266), .val (.ref b289), .val (.int (0 : Int32)), .val (.int (0 : Int32))] [(.int (0 : Int32))])) _
                refine XS.iload X339.here hx rfl (hb hby at_132) rfl ?_
                show Steps p.tables e below (T339.setTop (mkF m 134 #[.val (.int p0_), .val (.int p1_), .val (.int p2_), .val (.int p3_), .val (.int p4_), .val (.int p0_), .val (.ref b184), .val (.ref b266), .val (.ref b289), .val (.int (0 : Int32)), .val (.int (0 : Int32))] [(.int (0 : Int32)), (.int (0 : Int32))])) _
                refine XS.icmpNo X339.here hx rfl (hb hby at_134) rfl (teq (by decide : (0 : Int32) = (0 : Int32))).2 ?_
                show Steps p.tables e below (T339.setTop (mkF m 137 #[.val (.int p0_), .val (.int p1_), .val (.int p2_), .val (.int p3_), .val (.int p4_), .val (.int p0_), .val (.ref b184), .val (.ref b266), .val (.ref b289), .val (.int (0 : Int32)), .val (.int (0 : Int32))] [])) _
                refine XS.iconst X339.here hx rfl (hb hby at_137) ?_
                show Steps p.tables e below (T339.setTop (mkF m 138 #[.val (.int p0_), .val (.int p1_), .val (.int p2_), .val (.int p3_), .val (.int p4_), .val (.int p0_), .val (.ref b184), .val (.ref b266), .val (.ref b289), .val (.int (0 : Int32)), .val (.int (0 : Int32))] [(.int (1 : Int32))])) _
                refine XS.goto X339.here hx rfl (pc0 := 138) (pc' := 142) rfl (hb hby at_138) (by decide) (by decide) ?_
                exact kt
              obtain ⟨fs, hr, hrun, hended, hW, hsame⟩ := X339.leave (v := some (.int (1 : Int32))) (fun h => by rw [Bd.returns] at h; cases h)
              refine ⟨_, _, pre341 _ (retN X339 hx (t := .boolean) Bd.returns (by simp) (hb hby at_142) hr), hrun, hended, _, _, rfl, ?_, ⟨_, rfl⟩, hW, hsame.mono (by decide) (by decide)⟩
              show QLaw Z p0_ p1_ p2_ p3_ p4_ w_COMPACT_STRINGS w_FLOAT w_LONG w_INT w_REFERENCE w_DOUBLE h0 n0 _ T339.heap _
              rw [e339]
              exact ⟨rfl, N338⟩
            · obtain ⟨T343, X343, e343, st343⟩ := getS2 X337 hx hZ hown (host := "") (Or.inl (hw _ (List.mem_of_getElem? (i := 62) rfl))) Via.refl e337' (P3.ext f313.2) (g := (mkF m 103 #[.val (.int p0_), .val (.int p1_), .val (.int p2_), .val (.int p3_), .val (.int p4_), .val (.int p0_), .val (.ref b184), .val (.ref b266), .val (.ref b289), .val (.int (0 : Int32)), .unset] [(.ref w_FLOAT)])) rfl (hb hby at_103)
              have ne344 : w_FLOAT ≠ w_REFERENCE := Fld.ne P16 P13 (fun q => absurd (Value.int.inj q) (by decide))
              have pre345 : ∀ t, Steps p.tables e below (T343.setTop (mkF m 142 #[.val (.int p0_), .val (.int p1_), .val (.int p2_), .val (.int p3_), .val (.int p4_), .val (.int p0_), .val (.ref b184), .val (.ref b266), .val (.ref b289), .val (.int (0 : Int32)), .val (.int (0 : Int32))] [(.int (1 : Int32))])) t → Steps p.tables e below (s₁.setTop (entryFrame m #[(.int p0_), (.int p1_), (.int p2_), (.int p3_), (.int p4_)] maxLocals)) t := by
                intro t kt
                refine pre333 t ?_
                show Steps p.tables e below (T305.setTop (mkF m 95 #[.val (.int p0_), .val (.int p1_), .val (.int p2_), .val (.int p3_), .val (.int p4_), .val (.int p0_), .val (.ref b184), .val (.ref b266), .val (.ref b289), .val (.int (0 : Int32)), .unset] [(.int (8 : Int32)), (.int p0_)])) _
                refine XS.icmpNo X305.here hx rfl (hb hby at_95) rfl (flt hc334).2.2.1 ?_
                show Steps p.tables e below (T305.setTop (mkF m 98 #[.val (.int p0_), .val (.int p1_), .val (.int p2_), .val (.int p3_), .val (.int p4_), .val (.int p0_), .val (.ref b184), .val (.ref b266), .val (.ref b289), .val (.int (0 : Int32)), .unset] [])) _
                refine XS.aload X305.here hx rfl (hb hby at_98) rfl rfl ?_
                show Steps p.tables e below (T305.setTop (mkF m 100 #[.val (.int p0_), .val (.int p1_), .val (.int p2_), .val (.int p3_), .val (.int p4_), .val (.int p0_), .val (.ref b184), .val (.ref b266), .val (.ref b289), .val (.int (0 : Int32)), .unset] [(.ref b289)])) _
                refine st337.trans ?_
                show Steps p.tables e below (T337.setTop (mkF m 103 #[.val (.int p0_), .val (.int p1_), .val (.int p2_), .val (.int p3_), .val (.int p4_), .val (.int p0_), .val (.ref b184), .val (.ref b266), .val (.ref b289), .val (.int (0 : Int32)), .unset] [(.ref w_FLOAT)])) _
                refine st343 _ ?_
                show Steps p.tables e below (T343.setTop (mkF m 106 #[.val (.int p0_), .val (.int p1_), .val (.int p2_), .val (.int p3_), .val (.int p4_), .val (.int p0_), .val (.ref b184), .val (.ref b266), .val (.ref b289), .val (.int (0 : Int32)), .unset] [(.ref w_REFERENCE), (.ref w_FLOAT)])) _
                refine Jvm.RoadKit.acmp (g := (mkF m 106 #[.val (.int p0_), .val (.int p1_), .val (.int p2_), .val (.int p3_), .val (.int p4_), .val (.int p0_), .val (.ref b184), .val (.ref b266), .val (.ref b289), .val (.int (0 : Int32)), .unset] [(.ref w_REFERENCE), (.ref w_FLOAT)])) X343 hx rfl rfl rfl (pc0 := 106) (pc' := 121) (same := false) rfl (hb hby at_106) rfl (decide_eq_false fun q => ne344 (Value.ref.inj q)) (by decide) (by decide) ?_
                show Steps p.tables e below (T343.setTop (mkF m 121 #[.val (.int p0_), .val (.int p1_), .val (.int p2_), .val (.int p3_), .val (.int p4_), .val (.int p0_), .val (.ref b184), .val (.ref b266), .val (.ref b289), .val (.int (0 : Int32)), .unset] [])) _
                refine XS.iconst X343.here hx rfl (hb hby at_121) ?_
                show Steps p.tables e below (T343.setTop (mkF m 122 #[.val (.int p0_), .val (.int p1_), .val (.int p2_), .val (.int p3_), .val (.int p4_), .val (.int p0_), .val (.ref b184), .val (.ref b266), .val (.ref b289), .val (.int (0 : Int32)), .unset] [(.int (0 : Int32))])) _
                refine XS.istore X343.here hx rfl (hb hby at_122) rfl (l' := #[.val (.int p0_), .val (.int p1_), .val (.int p2_), .val (.int p3_), .val (.int p4_), .val (.int p0_), .val (.ref b184), .val (.ref b266), .val (.ref b289), .val (.int (0 : Int32)), .val (.int (0 : Int32))]) rfl ?_
                show Steps p.tables e below (T343.setTop (mkF m 124 #[.val (.int p0_), .val (.int p1_), .val (.int p2_), .val (.int p3_), .val (.int p4_), .val (.int p0_), .val (.ref b184), .val (.ref b266), .val (.ref b289), .val (.int (0 : Int32)), .val (.int (0 : Int32))] [])) _
                refine XS.goto X343.here hx rfl (pc0 := 124) (pc' := 130) rfl (hb hby at_124) (by decide) (by decide) ?_
                show Steps p.tables e below (T343.setTop (mkF m 130 #[.val (.int p0_), .val (.int p1_), .val (.int p2_), .val (.int p3_), .val (.int p4_), .val (.int p0_), .val (.ref b184), .val (.ref b266), .val (.ref b289), .val (.int (0 : Int32)), .val (.int (0 : Int32))] [])) _
                refine XS.iload X343.here hx rfl (hb hby at_130) rfl ?_
                show Steps p.tables e below (T343.setTop (mkF m 132 #[.val (.int p0_), .val (.int p1_), .val (.int p2_), .val (.int p3_), .val (.int p4_), .val (.int p0_), .val (.ref b184), .val (.ref b266), .val (.ref b289), .val (.int (0 : Int32)), .val (.int (0 : Int32))] [(.int (0 : Int32))])) _
                refine XS.iload X343.here hx rfl (hb hby at_132) rfl ?_
                show Steps p.tables e below (T343.setTop (mkF m 134 #[.val (.int p0_), .val (.int p1_), .val (.int p2_), .val (.int p3_), .val (.int p4_), .val (.int p0_), .val (.ref b184), .val (.ref b266), .val (.ref b289), .val (.int (0 : Int32)), .val (.int (0 : Int32))] [(.int (0 : Int32)), (.int (0 : Int32))])) _
                refine XS.icmpNo X343.here hx rfl (hb hby at_134) rfl (teq (by decide : (0 : Int32) = (0 : Int32))).2 ?_
                show Steps p.tables e below (T343.setTop (mkF m 137 #[.val (.int p0_), .val (.int p1_), .val (.int p2_), .val (.int p3_), .val (.int p4_), .val (.int p0_), .val (.ref b184), .val (.ref b266), .val (.ref b289), .val (.int (0 : Int32)), .val (.int (0 : Int32))] [])) _
                refine XS.iconst X343.here hx rfl (hb hby at_137) ?_
                show Steps p.tables e below (T343.setTop (mkF m 138 #[.val (.int p0_), .val (.int p1_), .val (.int p2_), .val (.int p3_), .val (.int p4_), .val (.int p0_), .val (.ref b184), .val (.ref b266), .val (.ref b289), .val (.int (0 : Int32)), .val (.int (0 : Int32))] [(.int (1 : Int32))])) _
                refine XS.goto X343.here hx rfl (pc0 := 138) (pc' := 142) rfl (hb hby at_138) (by decide) (by decide) ?_
                exact kt
              obtain ⟨fs, hr, hrun, hended, hW, hsame⟩ := X343.leave (v := some (.int (1 : Int32))) (fun h => by rw [Bd.returns] at h; cases h)
              refine ⟨_, _, pre345 _ (retN X343 hx (t := .boolean) Bd.returns (by simp) (hb hby at_142) hr), hrun, hended, _, _, rfl, ?_, ⟨_, rfl⟩, hW, hsame.mono (by decide) (by decide)⟩
              show QLaw Z p0_ p1_ p2_ p3_ p4_ w_COMPACT_STRINGS w_FLOAT w_LONG w_INT w_REFERENCE w_DOUBLE h0 n0 _ T343.heap _
              rw [e343]
              exact ⟨rfl, N338⟩
            · obtain ⟨T347, X347, e347, st347⟩ := getS2 X337 hx hZ hown (host := "") (Or.inl (hw _ (List.mem_of_getElem? (i := 62) rfl))) Via.refl e337' (P3.ext f313.2) (g := (mkF m 103 #[.val (.int p0_), .val (.int p1_), .val (.int p2_), .val (.int p3_), .val (.int p4_), .val (.int p0_), .val (.ref b184), .val (.ref b266), .val (.ref b289), .val (.int (0 : Int32)), .unset] [(.ref w_DOUBLE)])) rfl (hb hby at_103)
              have ne348 : w_DOUBLE ≠ w_REFERENCE := Fld.ne P12 P13 (fun q => absurd (Value.int.inj q) (by decide))
              have pre349 : ∀ t, Steps p.tables e below (T347.setTop (mkF m 142 #[.val (.int p0_), .val (.int p1_), .val (.int p2_), .val (.int p3_), .val (.int p4_), .val (.int p0_), .val (.ref b184), .val (.ref b266), .val (.ref b289), .val (.int (0 : Int32)), .val (.int (0 : Int32))] [(.int (1 : Int32))])) t → Steps p.tables e below (s₁.setTop (entryFrame m #[(.int p0_), (.int p1_), (.int p2_), (.int p3_), (.int p4_)] maxLocals)) t := by
                intro t kt
                refine pre333 t ?_
                show Steps p.tables e below (T305.setTop (mkF m 95 #[.val (.int p0_), .val (.int p1_), .val (.int p2_), .val (.int p3_), .val (.int p4_), .val (.int p0_), .val (.ref b184), .val (.ref b266), .val (.ref b289), .val (.int (0 : Int32)), .unset] [(.int (8 : Int32)), (.int p0_)])) _
                refine XS.icmpNo X305.here hx rfl (hb hby at_95) rfl (flt hc334).2.2.1 ?_
                show Steps p.tables e below (T305.setTop (mkF m 98 #[.val (.int p0_), .val (.int p1_), .val (.int p2_), .val (.int p3_), .val (.int p4_), .val (.int p0_), .val (.ref b184), .val (.ref b266), .val (.ref b289), .val (.int (0 : Int32)), .unset] [])) _
                refine XS.aload X305.here hx rfl (hb hby at_98) rfl rfl ?_
                show Steps p.tables e below (T305.setTop (mkF m 100 #[.val (.int p0_), .val (.int p1_), .val (.int p2_), .val (.int p3_), .val (.int p4_), .val (.int p0_), .val (.ref b184), .val (.ref b266), .val (.ref b289), .val (.int (0 : Int32)), .unset] [(.ref b289)])) _
                refine st337.trans ?_
                show Steps p.tables e below (T337.setTop (mkF m 103 #[.val (.int p0_), .val (.int p1_), .val (.int p2_), .val (.int p3_), .val (.int p4_), .val (.int p0_), .val (.ref b184), .val (.ref b266), .val (.ref b289), .val (.int (0 : Int32)), .unset] [(.ref w_DOUBLE)])) _
                refine st347 _ ?_
                show Steps p.tables e below (T347.setTop (mkF m 106 #[.val (.int p0_), .val (.int p1_), .val (.int p2_), .val (.int p3_), .val (.int p4_), .val (.int p0_), .val (.ref b184), .val (.ref b266), .val (.ref b289), .val (.int (0 : Int32)), .unset] [(.ref w_REFERENCE), (.ref w_DOUBLE)])) _
                refine Jvm.RoadKit.acmp (g := (mkF m 106 #[.val (.int p0_), .val (.int p1_), .val (.int p2_), .val (.int p3_), .val (.int p4_), .val (.int p0_), .val (.ref b184), .val (.ref b266), .val (.ref b289), .val (.int (0 : Int32)), .unset] [(.ref w_REFERENCE), (.ref w_DOUBLE)])) X347 hx rfl rfl rfl (pc0 := 106) (pc' := 121) (same := false) rfl (hb hby at_106) rfl (decide_eq_false fun q => ne348 (Value.ref.inj q)) (by decide) (by decide) ?_
                show Steps p.tables e below (T347.setTop (mkF m 121 #[.val (.int p0_), .val (.int p1_), .val (.int p2_), .val (.int p3_), .val (.int p4_), .val (.int p0_), .val (.ref b184), .val (.ref b266), .val (.ref b289), .val (.int (0 : Int32)), .unset] [])) _
                refine XS.iconst X347.here hx rfl (hb hby at_121) ?_
                show Steps p.tables e below (T347.setTop (mkF m 122 #[.val (.int p0_), .val (.int p1_), .val (.int p2_), .val (.int p3_), .val (.int p4_), .val (.int p0_), .val (.ref b184), .val (.ref b266), .val (.ref b289), .val (.int (0 : Int32)), .unset] [(.int (0 : Int32))])) _
                refine XS.istore X347.here hx rfl (hb hby at_122) rfl (l' := #[.val (.int p0_), .val (.int p1_), .val (.int p2_), .val (.int p3_), .val (.int p4_), .val (.int p0_), .val (.ref b184), .val (.ref b266), .val (.ref b289), .val (.int (0 : Int32)), .val (.int (0 : Int32))]) rfl ?_
                show Steps p.tables e below (T347.setTop (mkF m 124 #[.val (.int p0_), .val (.int p1_), .val (.int p2_), .val (.int p3_), .val (.int p4_), .val (.int p0_), .val (.ref b184), .val (.ref b266), .val (.ref b289), .val (.int (0 : Int32)), .val (.int (0 : Int32))] [])) _
                refine XS.goto X347.here hx rfl (pc0 := 124) (pc' := 130) rfl (hb hby at_124) (by decide) (by decide) ?_
                show Steps p.tables e below (T347.setTop (mkF m 130 #[.val (.int p0_), .val (.int p1_), .val (.int p2_), .val (.int p3_), .val (.int p4_), .val (.int p0_), .val (.ref b184), .val (.ref b266), .val (.ref b289), .val (.int (0 : Int32)), .val (.int (0 : Int32))] [])) _
                refine XS.iload X347.here hx rfl (hb hby at_130) rfl ?_
                show Steps p.tables e below (T347.setTop (mkF m 132 #[.val (.int p0_), .val (.int p1_), .val (.int p2_), .val (.int p3_), .val (.int p4_), .val (.int p0_), .val (.ref b184), .val (.ref b266), .val (.ref b289), .val (.int (0 : Int32)), .val (.int (0 : Int32))] [(.int (0 : Int32))])) _
                refine XS.iload X347.here hx rfl (hb hby at_132) rfl ?_
                show Steps p.tables e below (T347.setTop (mkF m 134 #[.val (.int p0_), .val (.int p1_), .val (.int p2_), .val (.int p3_), .val (.int p4_), .val (.int p0_), .val (.ref b184), .val (.ref b266), .val (.ref b289), .val (.int (0 : Int32)), .val (.int (0 : Int32))] [(.int (0 : Int32)), (.int (0 : Int32))])) _
                refine XS.icmpNo X347.here hx rfl (hb hby at_134) rfl (teq (by decide : (0 : Int32) = (0 : Int32))).2 ?_
                show Steps p.tables e below (T347.setTop (mkF m 137 #[.val (.int p0_), .val (.int p1_), .val (.int p2_), .val (.int p3_), .val (.int p4_), .val (.int p0_), .val (.ref b184), .val (.ref b266), .val (.ref b289), .val (.int (0 : Int32)), .val (.int (0 : Int32))] [])) _
                refine XS.iconst X347.here hx rfl (hb hby at_137) ?_
                show Steps p.tables e below (T347.setTop (mkF m 138 #[.val (.int p0_), .val (.int p1_), .val (.int p2_), .val (.int p3_), .val (.int p4_), .val (.int p0_), .val (.ref b184), .val (.ref b266), .val (.ref b289), .val (.int (0 : Int32)), .val (.int (0 : Int32))] [(.int (1 : Int32))])) _
                refine XS.goto X347.here hx rfl (pc0 := 138) (pc' := 142) rfl (hb hby at_138) (by decide) (by decide) ?_
                exact kt
              obtain ⟨fs, hr, hrun, hended, hW, hsame⟩ := X347.leave (v := some (.int (1 : Int32))) (fun h => by rw [Bd.returns] at h; cases h)
              refine ⟨_, _, pre349 _ (retN X347 hx (t := .boolean) Bd.returns (by simp) (hb hby at_142) hr), hrun, hended, _, _, rfl, ?_, ⟨_, rfl⟩, hW, hsame.mono (by decide) (by decide)⟩
              show QLaw Z p0_ p1_ p2_ p3_ p4_ w_COMPACT_STRINGS w_FLOAT w_LONG w_INT w_REFERENCE w_DOUBLE h0 n0 _ T347.heap _
              rw [e347]
              exact ⟨rfl, N338⟩
            · obtain ⟨T351, X351, e351, st351⟩ := getS2 X337 hx hZ hown (host := "") (Or.inl (hw _ (List.mem_of_getElem? (i := 62) rfl))) Via.refl e337' (P3.ext f313.2) (g := (mkF m 103 #[.val (.int p0_), .val (.int p1_), .val (.int p2_), .val (.int p3_), .val (.int p4_), .val (.int p0_), .val (.ref b184), .val (.ref b266), .val (.ref b289), .val (.int (0 : Int32)), .unset] [(.ref w_LONG)])) rfl (hb hby at_103)
              have ne352 : w_LONG ≠ w_REFERENCE := Fld.ne P15 P13 (fun q => absurd (Value.int.inj q) (by decide))
              have pre353 : ∀ t, Steps p.tables e below (T351.setTop (mkF m 142 #[.val (.int p0_), .val (.int p1_), .val (.int p2_), .val (.int p3_), .val (.int p4_), .val (.int p0_), .val (.ref b184), .val (.ref b266), .val (.ref b289), .val (.int (0 : Int32)), .val (.int (0 : Int32))] [(.int (1 : Int32))])) t → Steps p.tables e below (s₁.setTop (entryFrame m #[(.int p0_), (.int p1_), (.int p2_), (.int p3_), (.int p4_)] maxLocals)) t := by
                intro t kt
                refine pre333 t ?_
                show Steps p.tables e below (T305.setTop (mkF m 95 #[.val (.int p0_), .val (.int p1_), .val (.int p2_), .val (.int p3_), .val (.int p4_), .val (.int p0_), .val (.ref b184), .val (.ref b266), .val (.ref b289), .val (.int (0 : Int32)), .unset] [(.int (8 : Int32)), (.int p0_)])) _
                refine XS.icmpNo X305.here hx rfl (hb hby at_95) rfl (flt hc334).2.2.1 ?_
                show Steps p.tables e below (T305.setTop (mkF m 98 #[.val (.int p0_), .val (.int p1_), .val (.int p2_), .val (.int p3_), .val (.int p4_), .val (.int p0_), .val (.ref b184), .val (.ref b266), .val (.ref b289), .val (.int (0 : Int32)), .unset] [])) _
                refine XS.aload X305.here hx rfl (hb hby at_98) rfl rfl ?_
                show Steps p.tables e below (T305.setTop (mkF m 100 #[.val (.int p0_), .val (.int p1_), .val (.int p2_), .val (.int p3_), .val (.int p4_), .val (.int p0_), .val (.ref b184), .val (.ref b266), .val (.ref b289), .val (.int (0 : Int32)), .unset] [(.ref b289)])) _
                refine st337.trans ?_
                show Steps p.tables e below (T337.setTop (mkF m 103 #[.val (.int p0_), .val (.int p1_), .val (.int p2_), .val (.int p3_), .val (.int p4_), .val (.int p0_), .val (.ref b184), .val (.ref b266), .val (.ref b289), .val (.int (0 : Int32)), .unset] [(.ref w_LONG)])) _
                refine st351 _ ?_
                show Steps p.tables e below (T351.setTop (mkF m 106 #[.val (.int p0_), .val (.int p1_), .val (.int p2_), .val (.int p3_), .val (.int p4_), .val (.int p0_), .val (.ref b184), .val (.ref b266), .val (.ref b289), .val (.int (0 : Int32)), .unset] [(.ref w_REFERENCE), (.ref w_LONG)])) _
                refine Jvm.RoadKit.acmp (g := (mkF m 106 #[.val (.int p0_), .val (.int p1_), .val (.int p2_), .val (.int p3_), .val (.int p4_), .val (.int p0_), .val (.ref b184), .val (.ref b266), .val (.ref b289), .val (.int (0 : Int32)), .unset] [(.ref w_REFERENCE), (.ref w_LONG)])) X351 hx rfl rfl rfl (pc0 := 106) (pc' := 121) (same := false) rfl (hb hby at_106) rfl (decide_eq_false fun q => ne352 (Value.ref.inj q)) (by decide) (by decide) ?_
                show Steps p.tables e below (T351.setTop (mkF m 121 #[.val (.int p0_), .val (.int p1_), .val (.int p2_), .val (.int p3_), .val (.int p4_), .val (.int p0_), .val (.ref b184), .val (.ref b266), .val (.ref b289), .val (.int (0 : Int32)), .unset] [])) _
                refine XS.iconst X351.here hx rfl (hb hby at_121) ?_
                show Steps p.tables e below (T351.setTop (mkF m 122 #[.val (.int p0_), .val (.int p1_), .val (.int p2_), .val (.int p3_), .val (.int p4_), .val (.int p0_), .val (.ref b184), .val (.ref b266), .val (.ref b289), .val (.int (0 : Int32)), .unset] [(.int (0 : Int32))])) _
                refine XS.istore X351.here hx rfl (hb hby at_122) rfl (l' := #[.val (.int p0_), .val (.int p1_), .val (.int p2_), .val (.int p3_), .val (.int p4_), .val (.int p0_), .val (.ref b184), .val (.ref b266), .val (.ref b289), .val (.int (0 : Int32)), .val (.int (0 : Int32))]) rfl ?_
                show Steps p.tables e below (T351.setTop (mkF m 124 #[.val (.int p0_), .val (.int p1_), .val (.int p2_), .val (.int p3_), .val (.int p4_), .val (.int p0_), .val (.ref b184), .val (.ref b266), .val (.ref b289), .val (.int (0 : Int32)), .val (.int (0 : Int32))] [])) _
                refine XS.goto X351.here hx rfl (pc0 := 124) (pc' := 130) rfl (hb hby at_124) (by decide) (by decide) ?_
                show Steps p.tables e below (T351.setTop (mkF m 130 #[.val (.int p0_), .val (.int p1_), .val (.int p2_), .val (.int p3_), .val (.int p4_), .val (.int p0_), .val (.ref b184), .val (.ref b266), .val (.ref b289), .val (.int (0 : Int32)), .val (.int (0 : Int32))] [])) _
                refine XS.iload X351.here hx rfl (hb hby at_130) rfl ?_
                show Steps p.tables e below (T351.setTop (mkF m 132 #[.val (.int p0_), .val (.int p1_), .val (.int p2_), .val (.int p3_), .val (.int p4_), .val (.int p0_), .val (.ref b184), .val (.ref b266), .val (.ref b289), .val (.int (0 : Int32)), .val (.int (0 : Int32))] [(.int (0 : Int32))])) _
                refine XS.iload X351.here hx rfl (hb hby at_132) rfl ?_
                show Steps p.tables e below (T351.setTop (mkF m 134 #[.val (.int p0_), .val (.int p1_), .val (.int p2_), .val (.int p3_), .val (.int p4_), .val (.int p0_), .val (.ref b184), .val (.ref b266), .val (.ref b289), .val (.int (0 : Int32)), .val (.int (0 : Int32))] [(.int (0 : Int32)), (.int (0 : Int32))])) _
                refine XS.icmpNo X351.here hx rfl (hb hby at_134) rfl (teq (by decide : (0 : Int32) = (0 : Int32))).2 ?_
                show Steps p.tables e below (T351.setTop (mkF m 137 #[.val (.int p0_), .val (.int p1_), .val (.int p2_), .val (.int p3_), .val (.int p4_), .val (.int p0_), .val (.ref b184), .val (.ref b266), .val (.ref b289), .val (.int (0 : Int32)), .val (.int (0 : Int32))] [])) _
                refine XS.iconst X351.here hx rfl (hb hby at_137) ?_
                show Steps p.tables e below (T351.setTop (mkF m 138 #[.val (.int p0_), .val (.int p1_), .val (.int p2_), .val (.int p3_), .val (.int p4_), .val (.int p0_), .val (.ref b184), .val (.ref b266), .val (.ref b289), .val (.int (0 : Int32)), .val (.int (0 : Int32))] [(.int (1 : Int32))])) _
                refine XS.goto X351.here hx rfl (pc0 := 138) (pc' := 142) rfl (hb hby at_138) (by decide) (by decide) ?_
                exact kt
              obtain ⟨fs, hr, hrun, hended, hW, hsame⟩ := X351.leave (v := some (.int (1 : Int32))) (fun h => by rw [Bd.returns] at h; cases h)
              refine ⟨_, _, pre353 _ (retN X351 hx (t := .boolean) Bd.returns (by simp) (hb hby at_142) hr), hrun, hended, _, _, rfl, ?_, ⟨_, rfl⟩, hW, hsame.mono (by decide) (by decide)⟩
              show QLaw Z p0_ p1_ p2_ p3_ p4_ w_COMPACT_STRINGS w_FLOAT w_LONG w_INT w_REFERENCE w_DOUBLE h0 n0 _ T351.heap _
              rw [e351]
              exact ⟨rfl, N338⟩
            · obtain ⟨T355, X355, e355, st355⟩ := getS2 X337 hx hZ hown (host := "") (Or.inl (hw _ (List.mem_of_getElem? (i := 62) rfl))) Via.refl e337' (P3.ext f313.2) (g := (mkF m 103 #[.val (.int p0_), .val (.int p1_), .val (.int p2_), .val (.int p3_), .val (.int p4_), .val (.int p0_), .val (.ref b184), .val (.ref b266), .val (.ref b289), .val (.int (0 : Int32)), .unset] [(.ref w_REFERENCE)])) rfl (hb hby at_103)
              obtain ⟨cq356, kq356, q356a, q356b, q356c⟩ := isOf hZ e355 g297_0
              obtain ⟨_, _, ⟨T356, L356, k356, n356⟩, -, X356, ⟨Lc356, hQ356, l356, y356, z356⟩, st356⟩ := X355.virtualBack hx (y := (⟨"com/example/stackweave/stackweave/classfile/VerificationType", "isUninitialized", "()Z"⟩ : MethodName)) (z := (⟨"com/example/stackweave/stackweave/classfile/VerificationType", "isUninitialized", "()Z"⟩ : MethodName)) hown (mvT hZ (hw _ (List.mem_of_getElem? (i := 65) rfl))) (mvT hZ (hw _ (List.mem_of_getElem? (i := 66) rfl))) (notFace_of_selects (args := #[]) (mvT hZ (hw _ (List.mem_of_getElem? (i := 68) rfl)))) (mvT hZ (hw _ (List.mem_of_getElem? (i := 68) rfl))) (mvT hZ (hw _ (List.mem_of_getElem? (i := 67) rfl))) (by decide) (backOf (W := 0) (rmisUninitialized24 l Z a0 hw [] b289 p0_ b266 p4_ nnnb1_3_2_279 k1_3_2_279 ((p2_ &&& (255 : Int32)).toInt8.toInt32) ((p3_ &&& (255 : Int32)).toInt8.toInt32) h297 n0 f313 hq305_2_0 hq305_2_1 hc330 hc334 hq337_4_0 hq337_4_1 hq337_4_2 hq337_4_3 hq337_4_4 g297_0 g297_1 g297_2 g297_3 f306 f307 f309 f310 f312) hZ (hw _ (List.mem_of_getElem? (i := 69) rfl)) (hw _ (List.mem_of_getElem? (i := 32) rfl)) (by decide) (by decide)) q356a q356c (g := (mkF m 111 #[.val (.int p0_), .val (.int p1_), .val (.int p2_), .val (.int p3_), .val (.int p4_), .val (.int p0_), .val (.ref b184), .val (.ref b266), .val (.ref b289), .val (.int (0 : Int32)), .unset] [(.ref b289)])) rfl (by rw [hml]; rfl) (Steps.refl _) (argsL := []) (rest := []) (lenOf pd_2 rfl) rfl (by show 2 * 0 + _ ≤ _; exact Nat.le_of_eq rfl) (hb hby at_111) (fun _ _ => ⟨rfl, e355, (by decide : 4 + 0 ≤ _), (by decide : 11 + 0 ≤ _)⟩)
              dsimp only [Pt.U, Pt.locs, Pt.cells, Pt.slots] at X356 l356 y356 z356 st356 hQ356
              subst l356 y356 z356
              obtain ⟨h356, e356⟩ : ∃ z, T356.heap = z := ⟨_, rfl⟩
              rw [e356] at hQ356
              obtain ⟨rfl, N356q, hh356⟩ := hQ356
              have N357 := Fr.app N338 N356q
              have e356' : T356.heap = h297 := e356.trans hh356
              have pre358 : ∀ t, Steps p.tables e below (T356.setTop (mkF m 142 #[.val (.int p0_), .val (.int p1_), .val (.int p2_), .val (.int p3_), .val (.int p4_), .val (.int p0_), .val (.ref b184), .val (.ref b266), .val (.ref b289), .val (.int (0 : Int32)), .val (.int (0 : Int32))] [(.int (1 : Int32))])) t → Steps p.tables e below (s₁.setTop (entryFrame m #[(.int p0_), (.int p1_), (.int p2_), (.int p3_), (.int p4_)] maxLocals)) t := by
                intro t kt
                refine pre333 t ?_
                show Steps p.tables e below (T305.setTop (mkF m 95 #[.val (.int p0_), .val (.int p1_), .val (.int p2_), .val (.int p3_), .val (.int p4_), .val (.int p0_), .val (.ref b184), .val (.ref b266), .val (.ref b289), .val (.int (0 : Int32)), .unset] [(.int (8 : Int32)), (.int p0_)])) _
                refine XS.icmpNo X305.here hx rfl (hb hby at_95) rfl (flt hc334).2.2.1 ?_
                show Steps p.tables e below (T305.setTop (mkF m 98 #[.val (.int p0_), .val (.int p1_), .val (.int p2_), .val (.int p3_), .val (.int p4_), .val (.int p0_), .val (.ref b184), .val (.ref b266), .val (.ref b289), .val (.int (0 : Int32)), .unset] [])) _
                refine XS.aload X305.here hx rfl (hb hby at_98) rfl rfl ?_
                show Steps p.tables e below (T305.setTop (mkF m 100 #[.val (.int p0_), .val (.int p1_), .val (.int p2_), .val (.int p3_), .val (.int p4_), .val (.int p0_), .val (.ref b184), .val (.ref b266), .val (.ref b289), .val (.int (0 : Int32)), .unset] [(.ref b289)])) _
                refine st337.trans ?_
                show Steps p.tables e below (T337.setTop (mkF m 103 #[.val (.int p0_), .val (.int p1_), .val (.int p2_), .val (.int p3_), .val (.int p4_), .val (.int p0_), .val (.ref b184), .val (.ref b266), .val (.ref b289), .val (.int (0 : Int32)), .unset] [(.ref w_REFERENCE)])) _
                refine st355 _ ?_
                show Steps p.tables e below (T355.setTop (mkF m 106 #[.val (.int p0_), .val (.int p1_), .val (.int p2_), .val (.int p3_), .val (.int p4_), .val (.int p0_), .val (.ref b184), .val (.ref b266), .val (.ref b289), .val (.int (0 : Int32)), .unset] [(.ref w_REFERENCE), (.ref w_REFERENCE)])) _
                refine Jvm.RoadKit.acmp (g := (mkF m 106 #[.val (.int p0_), .val (.int p1_), .val (.int p2_), .val (.int p3_), .val (.int p4_), .val (.int p0_), .val (.ref b184), .val (.ref b266), .val (.ref b289), .val (.int (0 : Int32)), .unset] [(.ref w_REFERENCE), (.ref w_REFERENCE)])) X355 hx rfl rfl rfl (pc0 := 106) (pc' := 109) (same := true) rfl (hb hby at_106) rfl (decide_eq_true rfl) (by decide) (by decide) ?_
                show Steps p.tables e below (T355.setTop (mkF m 109 #[.val (.int p0_), .val (.int p1_), .val (.int p2_), .val (.int p3_), .val (.int p4_), .val (.int p0_), .val (.ref b184), .val (.ref b266), .val (.ref b289), .val (.int (0 : Int32)), .unset] [])) _
                refine XS.aload X355.here hx rfl (hb hby at_109) rfl rfl ?_
                show Steps p.tables e below (T355.setTop (mkF m 111 #[.val (.int p0_), .val (.int p1_), .val (.int p2_), .val (.int p3_), .val (.int p4_), .val (.int p0_), .val (.ref b184), .val (.ref b266), .val (.ref b289), .val (.int (0 : Int32)), .unset] [(.ref b289)])) _
                refine st356.trans ?_
                show Steps p.tables e below (T356.setTop (mkF m 114 #[.val (.int p0_), .val (.int p1_), .val (.int p2_), .val (.int p3_), .val (.int p4_), .val (.int p0_), .val (.ref b184), .val (.ref b266), .val (.ref b289), .val (.int (0 : Int32)), .unset] [(.int (1 : Int32))])) _
                refine XS.ifYes X356.here hx rfl (pc0 := 114) (pc' := 121) rfl (hb hby at_114) rfl ((if0 _ _).trans (feq (by decide : ¬ ((1 : Int32) = (0 : Int32)))).2) (by decide) (by decide) ?_
                show Steps p.tables e below (T356.setTop (mkF m 121 #[.val (.int p0_), .val (.int p1_), .val (.int p2_), .val (.int p3_), .val (.int p4_), .val (.int p0_), .val (.ref b184), .val (.ref b266), .val (.ref b289), .val (.int (0 : Int32)), .unset] [])) _
                refine XS.iconst X356.here hx rfl (hb hby at_121) ?_
                show Steps p.tables e below (T356.setTop (mkF m 122 #[.val (.int p0_), .val (.int p1_), .val (.int p2_), .val (.int p3_), .val (.int p4_), .val (.int p0_), .val (.ref b184), .val (.ref b266), .val (.ref b289), .val (.int (0 : Int32)), .unset] [(.int (0 : Int32))])) _
                refine XS.istore X356.here hx rfl (hb hby at_122) rfl (l' := #[.val (.int p0_), .val (.int p1_), .val (.int p2_), .val (.int p3_), .val (.int p4_), .val (.int p0_), .val (.ref b184), .val (.ref b266), .val (.ref b289), .val (.int (0 : Int32)), .val (.int (0 : Int32))]) rfl ?_
                show Steps p.tables e below (T356.setTop (mkF m 124 #[.val (.int p0_), .val (.int p1_), .val (.int p2_), .val (.int p3_), .val (.int p4_), .val (.int p0_), .val (.ref b184), .val (.ref b266), .val (.ref b289), .val (.int (0 : Int32)), .val (.int (0 : Int32))] [])) _
                refine XS.goto X356.here hx rfl (pc0 := 124) (pc' := 130) rfl (hb hby at_124) (by decide) (by decide) ?_
                show Steps p.tables e below (T356.setTop (mkF m 130 #[.val (.int p0_), .val (.int p1_), .val (.int p2_), .val (.int p3_), .val (.int p4_), .val (.int p0_), .val (.ref b184), .val (.ref b266), .val (.ref b289), .val (.int (0 : Int32)), .val (.int (0 : Int32))] [])) _
                refine XS.iload X356.here hx rfl (hb hby at_130) rfl ?_
                show Steps p.tables e below (T356.setTop (mkF m 132 #[.val (.int p0_), .val (.int p1_), .val (.int p2_), .val (.int p3_), .val (.int p4_), .val (.int p0_), .val (.ref b184), .val (.ref b266), .val (.ref b289), .val (.int (0 : Int32)), .val (.int (0 : Int32))] [(.int (0 : Int32))])) _
                refine XS.iload X356.here hx rfl (hb hby at_132) rfl ?_
                show Steps p.tables e below (T356.setTop (mkF m 134 #[.val (.int p0_), .val (.int p1_), .val (.int p2_), .val (.int p3_), .val (.int p4_), .val (.int p0_), .val (.ref b184), .val (.ref b266), .val (.ref b289), .val (.int (0 : Int32)), .val (.int (0 : Int32))] [(.int (0 : Int32)), (.int (0 : Int32))])) _
                refine XS.icmpNo X356.here hx rfl (hb hby at_134) rfl (teq (by decide : (0 : Int32) = (0 : Int32))).2 ?_
                show Steps p.tables e below (T356.setTop (mkF m 137 #[.val (.int p0_), .val (.int p1_), .val (.int p2_), .val (.int p3_), .val (.int p4_), .val (.int p0_), .val (.ref b184), .val (.ref b266), .val (.ref b289), .val (.int (0 : Int32)), .val (.int (0 : Int32))] [])) _
                refine XS.iconst X356.here hx rfl (hb hby at_137) ?_
                show Steps p.tables e below (T356.setTop (mkF m 138 #[.val (.int p0_), .val (.int p1_), .val (.int p2_), .val (.int p3_), .val (.int p4_), .val (.int p0_), .val (.ref b184), .val (.ref b266), .val (.ref b289), .val (.int (0 : Int32)), .val (.int (0 : Int32))] [(.int (1 : Int32))])) _
                refine XS.goto X356.here hx rfl (pc0 := 138) (pc' := 142) rfl (hb hby at_138) (by decide) (by decide) ?_
                exact kt
              obtain ⟨fs, hr, hrun, hended, hW, hsame⟩ := X356.leave (v := some (.int (1 : Int32))) (fun h => by rw [Bd.returns] at h; cases h)
              refine ⟨_, _, pre358 _ (retN X356 hx (t := .boolean) Bd.returns (by simp) (hb hby at_142) hr), hrun, hended, _, _, rfl, ?_, ⟨_, rfl⟩, hW, hsame.mono (by decide) (by decide)⟩
              show QLaw Z p0_ p1_ p2_ p3_ p4_ w_COMPACT_STRINGS w_FLOAT w_LONG w_INT w_REFERENCE w_DOUBLE h0 n0 _ T356.heap _
              rw [e356']
              exact ⟨rfl, N357⟩
            · obtain ⟨T360, X360, e360, st360⟩ := getS2 X337 hx hZ hown (host := "") (Or.inl (hw _ (List.mem_of_getElem? (i := 62) rfl))) Via.refl e337' (P3.ext f313.2) (g := (mkF m 103 #[.val (.int p0_), .val (.int p1_), .val (.int p2_), .val (.int p3_), .val (.int p4_), .val (.int p0_), .val (.ref b184), .val (.ref b266), .val (.ref b289), .val (.int (0 : Int32)), .unset] [(.ref w_REFERENCE)])) rfl (hb hby at_103)
              obtain ⟨cq361, kq361, q361a, q361b, q361c⟩ := isOf hZ e360 g297_0
              obtain ⟨_, _, ⟨T361, L361, k361, n361⟩, -, X361, ⟨Lc361, hQ361, l361, y361, z361⟩, st361⟩ := X360.virtualBack hx (y := (⟨"com/example/stackweave/stackweave/classfile/VerificationType", "isUninitialized", "()Z"⟩ : MethodName)) (z := (⟨"com/example/stackweave/stackweave/classfile/VerificationType", "isUninitialized", "()Z"⟩ : MethodName)) hown (mvT hZ (hw _ (List.mem_of_getElem? (i := 65) rfl))) (mvT hZ (hw _ (List.mem_of_getElem? (i := 66) rfl))) (notFace_of_selects (args := #[]) (mvT hZ (hw _ (List.mem_of_getElem? (i := 68) rfl)))) (mvT hZ (hw _ (List.mem_of_getElem? (i := 68) rfl))) (mvT hZ (hw _ (List.mem_of_getElem? (i := 67) rfl))) (by decide) (backOf (W := 0) (rmisUninitialized25 l Z a0 hw [] b289 p0_ b266 p4_ nnnb1_3_2_279 k1_3_2_279 ((p2_ &&& (255 : Int32)).toInt8.toInt32) ((p3_ &&& (255 : Int32)).toInt8.toInt32) h297 n0 f313 hq305_2_0 hq305_2_1 hc330 hc334 hq337_5_0 hq337_5_1 hq337_5_2 hq337_5_3 hq337_5_4 hq337_5_5 g297_0 g297_1 g297_2 g297_3 f306 f307 f309 f310 f312) hZ (hw _ (List.mem_of_getElem? (i := 69) rfl)) (hw _ (List.mem_of_getElem? (i := 32) rfl)) (by decide) (by decide)) q361a q361c (g := (mkF m 111 #[.val (.int p0_), .val (.int p1_), .val (.int p2_), .val (.int p3_), .val (.int p4_), .val (.int p0_), .val (.ref b184), .val (.ref b266), .val (.ref b289), .val (.int (0 : Int32)), .unset] [(.ref b289)])) rfl (by rw [hml]; rfl) (Steps.refl _) (argsL := []) (rest := []) (lenOf pd_2 rfl) rfl (by show 2 * 0 + _ ≤ _; exact Nat.le_of_eq rfl) (hb hby at_111) (fun _ _ => ⟨rfl, e360, (by decide : 4 + 0 ≤ _), (by decide : 11 + 0 ≤ _)⟩)
              dsimp only [Pt.U, Pt.locs, Pt.cells, Pt.slots] at X361 l361 y361 z361 st361 hQ361
              subst l361 y361 z361
              obtain ⟨h361, e361⟩ : ∃ z, T361.heap = z := ⟨_, rfl⟩
              rw [e361] at hQ361
              obtain ⟨rfl, N361q, hh361⟩ := hQ361
              have N362 := Fr.app N338 N361q
              have e361' : T361.heap = h297 := e361.trans hh361
              have pre363 : ∀ t, Steps p.tables e below (T361.setTop (mkF m 142 #[.val (.int p0_), .val (.int p1_), .val (.int p2_), .val (.int p3_), .val (.int p4_), .val (.int p0_), .val (.ref b184), .val (.ref b266), .val (.ref b289), .val (.int (0 : Int32)), .val (.int (0 : Int32))] [(.int (1 : Int32))])) t → Steps p.tables e below (s₁.setTop (entryFrame m #[(.int p0_), (.int p1_), (.int p2_), (.int p3_), (.int p4_)] maxLocals)) t := by
                intro t kt
                refine pre333 t ?_
                show Steps p.tables e below (T305.setTop (mkF m 95 #[.val (.int p0_), .val (.int p1_), .val (.int p2_), .val (.int p3_), .val (.int p4_), .val (.int p0_), .val (.ref b184), .val (.ref b266), .val (.ref b289), .val (.int (0 : Int32)), .unset] [(.int (8 : Int32)), (.int p0_)])) _
                refine XS.icmpNo X305.here hx rfl (hb hby at_95) rfl (flt hc334).2.2.1 ?_
                show Steps p.tables e below (T305.setTop (mkF m 98 #[.val (.int p0_), .val (.int p1_), .val (.int p2_), .val (.int p3_), .val (.int p4_), .val (.int p0_), .val (.ref b184), .val (.ref b266), .val (.ref b289), .val (.int (0 : Int32)), .unset] [])) _
                refine XS.aload X305.here hx rfl (hb hby at_98) rfl rfl ?_
                show Steps p.tables e below (T305.setTop (mkF m 100 #[.val (.int p0_), .val (.int p1_), .val (.int p2_), .val (.int p3_), .val (.int p4_), .val (.int p0_), .val (.ref b184), .val (.ref b266), .val (.ref b289), .val (.int (0 : Int32)), .unset] [(.ref b289)])) _
                refine st337.trans ?_
                show Steps p.tables e below (T337.setTop (mkF m 103 #[.val (.int p0_), .val (.int p1_), .val (.int p2_), .val (.int p3_), .val (.int p4_), .val (.int p0_), .val (.ref b184), .val (.ref b266), .val (.ref b289), .val (.int (0 : Int32)), .unset] [(.ref w_REFERENCE)])) _
                refine st360 _ ?_
                show Steps p.tables e below (T360.setTop (mkF m 106 #[.val (.int p0_), .val (.int p1_), .val (.int p2_), .val (.int p3_), .val (.int p4_), .val (.int p0_), .val (.ref b184), .val (.ref b266), .val (.ref b289), .val (.int (0 : Int32)), .unset] [(.ref w_REFERENCE), (.ref w_REFERENCE)])) _
                refine Jvm.RoadKit.acmp (g := (mkF m 106 #[.val (.int p0_), .val (.int p1_), .val (.int p2_), .val (.int p3_), .val (.int p4_), .val (.int p0_), .val (.ref b184), .val (.ref b266), .val (.ref b289), .val (.int (0 : Int32)), .unset] [(.ref w_REFERENCE), (.ref w_REFERENCE)])) X360 hx rfl rfl rfl (pc0 := 106) (pc' := 109) (same := true) rfl (hb hby at_106) rfl (decide_eq_true rfl) (by decide) (by decide) ?_
                show Steps p.tables e below (T360.setTop (mkF m 109 #[.val (.int p0_), .val (.int p1_), .val (.int p2_), .val (.int p3_), .val (.int p4_), .val (.int p0_), .val (.ref b184), .val (.ref b266), .val (.ref b289), .val (.int (0 : Int32)), .unset] [])) _
                refine XS.aload X360.here hx rfl (hb hby at_109) rfl rfl ?_
                show Steps p.tables e below (T360.setTop (mkF m 111 #[.val (.int p0_), .val (.int p1_), .val (.int p2_), .val (.int p3_), .val (.int p4_), .val (.int p0_), .val (.ref b184), .val (.ref b266), .val (.ref b289), .val (.int (0 : Int32)), .unset] [(.ref b289)])) _
                refine st361.trans ?_
                show Steps p.tables e below (T361.setTop (mkF m 114 #[.val (.int p0_), .val (.int p1_), .val (.int p2_), .val (.int p3_), .val (.int p4_), .val (.int p0_), .val (.ref b184), .val (.ref b266), .val (.ref b289), .val (.int (0 : Int32)), .unset] [(.int (1 : Int32))])) _
                refine XS.ifYes X361.here hx rfl (pc0 := 114) (pc' := 121) rfl (hb hby at_114) rfl ((if0 _ _).trans (feq (by decide : ¬ ((1 : Int32) = (0 : Int32)))).2) (by decide) (by decide) ?_
                show Steps p.tables e below (T361.setTop (mkF m 121 #[.val (.int p0_), .val (.int p1_), .val (.int p2_), .val (.int p3_), .val (.int p4_), .val (.int p0_), .val (.ref b184), .val (.ref b266), .val (.ref b289), .val (.int (0 : Int32)), .unset] [])) _
                refine XS.iconst X361.here hx rfl (hb hby at_121) ?_
                show Steps p.tables e below (T361.setTop (mkF m 122 #[.val (.int p0_), .val (.int p1_), .val (.int p2_), .val (.int p3_), .val (.int p4_), .val (.int p0_), .val (.ref b184), .val (.ref b266), .val (.ref b289), .val (.int (0 : Int32)), .unset] [(.int (0 : Int32))])) _
                refine XS.istore X361.here hx rfl (hb hby at_122) rfl (l' := #[.val (.int p0_), .val (.int p1_), .val (.int p2_), .val (.int p3_), .val (.int p4_), .val (.int p0_), .val (.ref b184), .val (.ref b266), .val (.ref b289), .val (.int (0 : Int32)), .val (.int (0 : Int32))]) rfl ?_
                show Steps p.tables e below (T361.setTop (mkF m 124 #[.val (.int p0_), .val (.int p1_), .val (.int p2_), .val (.int p3_), .val (.int p4_), .val (.int p0_), .val (.ref b184), .val (.ref b266), .val (.ref b289), .val (.int (0 : Int32)), .val (.int (0 : Int32))] [])) _
                refine XS.goto X361.here hx rfl (pc0 := 124) (pc' := 130) rfl (hb hby at_124) (by decide) (by decide) ?_
                show Steps p.tables e below (T361.setTop (mkF m 130 #[.val (.int p0_), .val (.int p1_), .val (.int p2_), .val (.int p3_), .val (.int p4_), .val (.int p0_), .val (.ref b184), .val (.ref b266), .val (.ref b289), .val (.int (0 : Int32)), .val (.int (0 : Int32))] [])) _
                refine XS.iload X361.here hx rfl (hb hby at_130) rfl ?_
                show Steps p.tables e below (T361.setTop (mkF m 132 #[.val (.int p0_), .val (.int p1_), .val (.int p2_), .val (.int p3_), .val (.int p4_), .val (.int p0_), .val (.ref b184), .val (.ref b266), .val (.ref b289), .val (.int (0 : Int32)), .val (.int (0 : Int32))] [(.int (0 : Int32))])) _
                refine XS.iload X361.here hx rfl (hb hby at_132) rfl ?_
                show Steps p.tables e below (T361.setTop (mkF m 134 #[.val (.int p0_), .val (.int p1_), .val (.int p2_), .val (.int p3_), .val (.int p4_), .val (.int p0_), .val (.ref b184), .val (.ref b266), .val (.ref b289), .val (.int (0 : Int32)), .val (.int (0 : Int32))] [(.int (0 : Int32)), (.int (0 : Int32))])) _
                refine XS.icmpNo X361.here hx rfl (hb hby at_134) rfl (teq (by decide : (0 : Int32) = (0 : Int32))).2 ?_
                show Steps p.tables e below (T361.setTop (mkF m 137 #[.val (.int p0_), .val (.int p1_), .val (.int p2_), .val (.int p3_), .val (.int p4_), .val (.int p0_), .val (.ref b184), .val (.ref b266), .val (.ref b289), .val (.int (0 : Int32)), .val (.int (0 : Int32))] [])) _
                refine XS.iconst X361.here hx rfl (hb hby at_137) ?_
                show Steps p.tables e below (T361.setTop (mkF m 138 #[.val (.int p0_), .val (.int p1_), .val (.int p2_), .val (.int p3_), .val (.int p4_), .val (.int p0_), .val (.ref b184), .val (.ref b266), .val (.ref b289), .val (.int (0 : Int32)), .val (.int (0 : Int32))] [(.int (1 : Int32))])) _
                refine XS.goto X361.here hx rfl (pc0 := 138) (pc' := 142) rfl (hb hby at_138) (by decide) (by decide) ?_
                exact kt
              obtain ⟨fs, hr, hrun, hended, hW, hsame⟩ := X361.leave (v := some (.int (1 : Int32))) (fun h => by rw [Bd.returns] at h; cases h)
              refine ⟨_, _, pre363 _ (retN X361 hx (t := .boolean) Bd.returns (by simp) (hb hby at_142) hr), hrun, hended, _, _, rfl, ?_, ⟨_, rfl⟩, hW, hsame.mono (by decide) (by decide)⟩
              show QLaw Z p0_ p1_ p2_ p3_ p4_ w_COMPACT_STRINGS w_FLOAT w_LONG w_INT w_REFERENCE w_DOUBLE h0 n0 _ T361.heap _
              rw [e361']
              exact ⟨rfl, N362⟩
set_option maxRecDepth 65536 in
set_option maxHeartbeats 40000000 in
theorem comes_1 {Post : Tables → Env → Array Value → State → Outcome → State → Prop} (hpost : ∀ tb e args s v u, (limb_1_1.after args s (.returned v) u = true ∧ limb_1_2.after args s (.returned v) u = true ∧ True) → FrameEnd s (.returned v) u (Jvm.fieldLocs frame_1_writes args s ++ Jvm.arrayLocs frame_1_arrays args s ++ Jvm.staticLocs frame_1_statics s) 16 128 → Post tb e args s (.returned v) u) :
    ArmFor flags0 classFile x code maxLocals ret World_1 tables_1 room_1 Calls_1 rest_1 Pre_1 Post := by
  intro l hfl _ _ p e ha hc hk s m args below hf hA hF happ hP
  obtain ⟨hcalls, hrest, hpre⟩ := hP
  obtain ⟨-, -, -, hnamed, -, -, -, hat⟩ := (Spec.applies_iff hf).mp happ
  obtain ⟨hg, hn⟩ := and_e (Cond.before_iff.mp (show (Jvm.Cond.and given_1 narrow_1).before args s = true from hpre))
  obtain ⟨g1, g2⟩ := and_e hg
  obtain ⟨g3, g4⟩ := and_e g2
  obtain ⟨g5, g6⟩ := and_e g4
  obtain ⟨g7, g8⟩ := and_e g6
  obtain ⟨g9, g10⟩ := and_e g8
  obtain ⟨w0, w1, w2, w3, w4, rfl⟩ : ∃ w0 w1 w2 w3 w4 : Value, args = #[w0, w1, w2, w3, w4] := by
    have hs : args.size = 5 := by simpa [Cond.value, given_1] using g1
    obtain ⟨L⟩ := args
    match L, hs with
    | [w0, w1, w2, w3, w4], _ => exact ⟨w0, w1, w2, w3, w4, rfl⟩
  have hw := fun d (hd : d ∈ tables_1) => atoms_spec (ws := Jvm.Cond.code x code maxLocals ret :: tables_1) hat d (List.mem_cons_of_mem _ hd)
  have hfit : Fit s := fun {y c} hc i hi => by
    obtain ⟨ha, rfl⟩ := Array.getElem?_eq_some_iff.mp hc
    have q := List.all_eq_true.mp ((Array.all_eq_true_iff_forall_mem.mp hF) _ (Array.getElem_mem ha)) i (List.mem_range.mpr hi)
    simpa [Array.getElem?_eq_getElem hi] using q
  obtain ⟨i0, ei0⟩ := is_v g3
  obtain rfl : w0 = (.int i0) := Option.some.inj ei0
  obtain ⟨i1, ei1⟩ := is_v g5
  obtain rfl : w1 = (.int i1) := Option.some.inj ei1
  obtain ⟨i2, ei2⟩ := is_v g7
  obtain rfl : w2 = (.int i2) := Option.some.inj ei2
  obtain ⟨i3, ei3⟩ := is_v g9
  obtain rfl : w3 = (.int i3) := Option.some.inj ei3
  obtain ⟨i4, ei4⟩ := is_v g10
  obtain rfl : w4 = (.int i4) := Option.some.inj ei4
  obtain ⟨g11, g12⟩ := and_e hn
  obtain ⟨g13, g14⟩ := and_e g12
  obtain ⟨g15, g16⟩ := and_e g14
  obtain ⟨g17, g18⟩ := and_e g16
  obtain ⟨g19, g20⟩ := and_e g18
  obtain ⟨g21, g22⟩ := and_e g20
  obtain ⟨g23, g24⟩ := and_e g22
  obtain ⟨g25, g26⟩ := and_e g24
  obtain ⟨g27, g28⟩ := and_e g26
  have hr0 := Cond.before_iff.mp (show rest_1_c.before _ s = true from hrest)
  obtain ⟨g29, g30⟩ := and_e hr0
  obtain ⟨g31, g32⟩ := and_e g30
  obtain ⟨g33, g34⟩ := and_e g32
  obtain ⟨g35, g36⟩ := and_e g34
  obtain ⟨g37, g38⟩ := and_e g36
  obtain ⟨g39, g40⟩ := and_e g38
  obtain ⟨g41, g42⟩ := and_e g40
  obtain ⟨g43, g44⟩ := and_e g42
  obtain ⟨g45, g46⟩ := and_e g44
  obtain ⟨w_DOUBLE, ev_w_DOUBLE⟩ := exa_v g11
  have S_w_DOUBLE := Sta.start ev_w_DOUBLE (Or.inr ⟨(hw _ (List.mem_of_getElem? (i := 60) rfl)), (hw _ (List.mem_of_getElem? (i := 61) rfl))⟩)
  have E_w_DOUBLE := Exa.start ev_w_DOUBLE g11
  obtain ⟨w_REFERENCE, ev_w_REFERENCE⟩ := exa_v g13
  have S_w_REFERENCE := Sta.start ev_w_REFERENCE (Or.inr ⟨(hw _ (List.mem_of_getElem? (i := 60) rfl)), (hw _ (List.mem_of_getElem? (i := 63) rfl))⟩)
  have E_w_REFERENCE := Exa.start ev_w_REFERENCE g13
  obtain ⟨w_INT, ev_w_INT⟩ := exa_v g19
  have S_w_INT := Sta.start ev_w_INT (Or.inr ⟨(hw _ (List.mem_of_getElem? (i := 60) rfl)), (hw _ (List.mem_of_getElem? (i := 71) rfl))⟩)
  have E_w_INT := Exa.start ev_w_INT g19
  obtain ⟨w_LONG, ev_w_LONG⟩ := exa_v g23
  have S_w_LONG := Sta.start ev_w_LONG (Or.inr ⟨(hw _ (List.mem_of_getElem? (i := 60) rfl)), (hw _ (List.mem_of_getElem? (i := 73) rfl))⟩)
  have E_w_LONG := Exa.start ev_w_LONG g23
  obtain ⟨w_FLOAT, ev_w_FLOAT⟩ := exa_v g27
  have S_w_FLOAT := Sta.start ev_w_FLOAT (Or.inr ⟨(hw _ (List.mem_of_getElem? (i := 60) rfl)), (hw _ (List.mem_of_getElem? (i := 75) rfl))⟩)
  have E_w_FLOAT := Exa.start ev_w_FLOAT g27
  obtain ⟨w_COMPACT_STRINGS, ev_w_COMPACT_STRINGS⟩ := is_v g31
  have S_w_COMPACT_STRINGS := Sta.start ev_w_COMPACT_STRINGS (Or.inl (Cond.before_iff.mpr g29))
  have F_ordinal_w_DOUBLE := Fld.start ((fld_at ev_w_DOUBLE).symm.trans (own_eqi g15))
  have F_ordinal_w_REFERENCE := Fld.start ((fld_at ev_w_REFERENCE).symm.trans (own_eqi g17))
  have F_ordinal_w_INT := Fld.start ((fld_at ev_w_INT).symm.trans (own_eqi g21))
  have F_ordinal_w_LONG := Fld.start ((fld_at ev_w_LONG).symm.trans (own_eqi g25))
  have F_ordinal_w_FLOAT := Fld.start ((fld_at ev_w_FLOAT).symm.trans (own_eqi g28))
  obtain ⟨n, o, h1, h2, h3, _, L, rfl, ⟨rfl, N⟩, hq⟩ := rmLaw l s _ hw tables_1 i0 i1 i2 i3 i4 w_COMPACT_STRINGS w_FLOAT w_LONG w_INT w_REFERENCE w_DOUBLE s.heap s.heap.size (Old.start s) (own_nei g33 ev_w_COMPACT_STRINGS) S_w_DOUBLE E_w_DOUBLE S_w_REFERENCE E_w_REFERENCE S_w_INT E_w_INT S_w_LONG E_w_LONG S_w_FLOAT E_w_FLOAT S_w_COMPACT_STRINGS F_ordinal_w_DOUBLE F_ordinal_w_REFERENCE F_ordinal_w_INT F_ordinal_w_LONG F_ordinal_w_FLOAT p e ha hc hk s m _ below hf ((Spec.applies_iff_loose hf).mp happ).1 ⟨rfl, State.Warmed39.refl s, rfl⟩ trivial
  refine ⟨n, _, h1, h2, h3, hpost _ _ _ _ _ _ ⟨Cond.after_iff.mpr rfl, Cond.after_iff.mpr (eq_i res_at (Term.int_eval (1)) rfl), trivial⟩ ⟨hq.1, hq.2.1, (hq.2.2.sift fun y hy => Or.inr (N y hy)).mono (by decide) (by decide)⟩⟩
theorem main_1_1 : Claimed_1_1 := comes_1 fun _ _ _ _ _ _ h hF => ⟨h.1, hF⟩
theorem main_1_2 : Claimed_1_2 := comes_1 fun _ _ _ _ _ _ h hF => ⟨h.2.1, hF⟩
end Jvm.Pilot.@@N@@
namespace Jvm.Pilot.@@N@@
open Jvm Jvm.ClassFile Sem Op Lib Jvm.Free Jvm.Stand Jvm.Pilot.@@N@@.Jvm.D
/-! MADE BY PROGRAM (witnessworld.py) out of the Statement's table words and the real class files: 23 classes; the members and pool entries that the words name. The judged class is class 1, her method 1. -/
namespace start1
open Jvm.ClassFile
def u (s : String) : CpInfo := .utf8 (stringToUtf16 s)
/-- a pool by its gaps: so many unusable entries, then the entry; so many at the end -/
def gap : Nat → List CpInfo → List CpInfo
  | 0, r => r
  | n + 1, r => .unusable :: gap n r
def poolList (es : List (Nat × CpInfo)) (last : Nat) : List CpInfo := es.foldr (fun e r => gap e.1 (e.2 :: r)) (gap last [])
def pool (es : List (Nat × CpInfo)) (last : Nat) : Array CpInfo := ⟨poolList es last⟩
def fileOf (pool : Array CpInfo) (this : Nat) (attrs : Array Attribute := #[]) (ms : Array MethodInfo := #[]) (fl : Nat := 33) (sup : Nat := 0) (ifs : Array Nat := #[]) (fds : Array FieldInfo := #[]) : ClassFile where
  minorVersion := 0
  majorVersion := 65
  constantPool := pool
  accessFlags := fl
  thisClass := this
  superClass := sup
  interfaces := ifs
  fields := fds
  methods := ms
  attributes := attrs
def plain (name : String) (sup : Option ClassId) : Class where
  name := name
  kind := .ordinary
  loader := none
  accessFlags := 33
  super := sup
  interfaces := #[]
  cf := none
  fields := #[]
  methods := #[]
  instanceTypes := #[]
  staticTypes := #[]
  resolved := #[]
  callSites := []
  init := .initialized
  statics := none
  mirror := none

def pool0 : Array CpInfo := pool [(5, u "<init>"), (0, u "()V"), (1, .class_ 10), (1, u "java/lang/Object")] 113

def k0c0 : Code := { maxStack := 0, maxLocals := 1, code := object_method_1_code, exceptionTable := #[], attributes := #[] }
def k0m0 : Method := { name := "<init>", desc := "()V", sig := { parameters := [], returnType := none }, accessFlags := 1, code := some k0c0 }
/-- java/lang/Object -/
def k0 : Class := { plain "java/lang/Object" none with
  accessFlags := 33
  interfaces := #[]
  cf := some (fileOf pool0 8 #[] #[{ accessFlags := 1, nameIndex := 5, descriptorIndex := 6, attributes := #[] }] 33 0 #[] #[])
  fields := #[]
  methods := #[k0m0]
  instanceTypes := #[]
  staticTypes := #[]
  resolved := Array.replicate 124 none
  statics := none }

def pool1 : Array CpInfo := pool [(2, .class_ 4), (1, u "java/lang/Object"), (0, u "<init>"), (0, u "()V"), (0, .integer 2147483647), (0, .class_ 9), (0, u "java/lang/String"), (0, .methodref 8 11), (0, .nameAndType 5 12), (0, u "([C)V"), (0, .class_ 14), (0, u "com/example/stackweave/stackweave/classfile/VerificationType"), (0, .methodref 13 16), (0, .nameAndType 5 17), (0, u "(ILjava/lang/String;I)V"), (0, .methodref 13 19), (0, .nameAndType 20 21), (0, u "isReference"), (0, u "()Z"), (0, .methodref 13 23), (0, .nameAndType 24 25), (0, u "kind"), (0, u "()Lcom/example/stackweave/stackweave/classfile/ValueKind;"), (0, .fieldref 27 28), (0, .class_ 29), (0, .nameAndType 30 31), (0, u "com/example/stackweave/stackweave/classfile/ValueKind"), (0, u "REFERENCE"), (0, u "Lcom/example/stackweave/stackweave/classfile/ValueKind;"), (0, .methodref 13 33), (0, .nameAndType 34 21), (0, u "isUninitialized"), (0, .class_ 36), (0, u "com/example/stackweave/stackweave/classfile/VerificationTypeIsReferencePinLaw"), (2, u "law"), (0, u "(IIIII)Z")] 5

def k1m0 : Method := { name := "<init>", desc := "()V", sig := { parameters := [], returnType := none }, accessFlags := 1, code := none }
def k1c1 : Code := { maxStack := 5, maxLocals := 11, code := code, exceptionTable := #[], attributes := #[] }
def k1m1 : Method := { name := "law", desc := "(IIIII)Z", sig := { parameters := [.int, .int, .int, .int, .int], returnType := some .boolean }, accessFlags := 9, code := some k1c1 }
/-- com/example/stackweave/stackweave/classfile/VerificationTypeIsReferencePinLaw -/
def k1 : Class := { plain "com/example/stackweave/stackweave/classfile/VerificationTypeIsReferencePinLaw" (some 0) with
  accessFlags := 49
  interfaces := #[]
  cf := some (fileOf pool1 35 #[] #[{ accessFlags := 1, nameIndex := 5, descriptorIndex := 6, attributes := #[] }, { accessFlags := 9, nameIndex := 39, descriptorIndex := 40, attributes := #[] }] 49 2 #[] #[])
  fields := #[]
  methods := #[k1m0, k1m1]
  instanceTypes := #[]
  staticTypes := #[]
  resolved := Array.replicate 46 none
  statics := none }

def pool2 : Array CpInfo := pool [(1, .class_ 2), (0, u "java/io/Serializable"), (0, .class_ 4), (0, u "java/lang/Object")] 2

/-- java/io/Serializable -/
def k2 : Class := { plain "java/io/Serializable" (some 0) with
  accessFlags := 1537
  interfaces := #[]
  cf := some (fileOf pool2 1 #[] #[] 1537 3 #[] #[])
  fields := #[]
  methods := #[]
  instanceTypes := #[]
  staticTypes := #[]
  resolved := Array.replicate 7 none
  statics := none }

def pool3 : Array CpInfo := pool [(1, .class_ 2), (0, u "java/lang/Comparable"), (0, .class_ 4), (0, u "java/lang/Object")] 7

/-- java/lang/Comparable -/
def k3 : Class := { plain "java/lang/Comparable" (some 0) with
  accessFlags := 1537
  interfaces := #[]
  cf := some (fileOf pool3 1 #[] #[] 1537 3 #[] #[])
  fields := #[]
  methods := #[]
  instanceTypes := #[]
  staticTypes := #[]
  resolved := Array.replicate 12 none
  statics := none }

def pool4 : Array CpInfo := pool [(2, .class_ 4), (1, u "java/lang/CharSequence"), (42, .class_ 48), (0, u "java/lang/CharSequence$1CodePointIterator"), (10, .class_ 60), (0, u "java/lang/CharSequence$1CharIterator"), (5, .class_ 67), (0, u "java/lang/Object")] 63

/-- java/lang/CharSequence -/
def k4 : Class := { plain "java/lang/CharSequence" (some 0) with
  accessFlags := 1537
  interfaces := #[]
  cf := some (fileOf pool4 2 #[.nestMembers #[47, 59]] #[] 1537 66 #[] #[])
  fields := #[]
  methods := #[]
  instanceTypes := #[]
  staticTypes := #[]
  resolved := Array.replicate 131 none
  statics := none }

def pool5 : Array CpInfo := pool [(1, .class_ 2), (0, u "java/lang/constant/Constable"), (0, .class_ 4), (0, u "java/lang/Object")] 6

/-- java/lang/constant/Constable -/
def k5 : Class := { plain "java/lang/constant/Constable" (some 0) with
  accessFlags := 1537
  interfaces := #[]
  cf := some (fileOf pool5 1 #[] #[] 1537 3 #[] #[])
  fields := #[]
  methods := #[]
  instanceTypes := #[]
  staticTypes := #[]
  resolved := Array.replicate 11 none
  statics := none }

def pool6 : Array CpInfo := pool [(1, .class_ 2), (0, u "java/lang/constant/ConstantDesc"), (0, .class_ 4), (0, u "java/lang/Object")] 32

/-- java/lang/constant/ConstantDesc -/
def k6 : Class := { plain "java/lang/constant/ConstantDesc" (some 0) with
  accessFlags := 1537
  interfaces := #[]
  cf := some (fileOf pool6 1 #[] #[] 1537 3 #[] #[])
  fields := #[]
  methods := #[]
  instanceTypes := #[]
  staticTypes := #[]
  resolved := Array.replicate 37 none
  statics := none }

def pool7 : Array CpInfo := pool [(1, .methodref 2 3), (0, .class_ 4), (0, .nameAndType 5 6), (0, u "java/lang/Object"), (0, u "<init>"), (0, u "()V"), (2, .fieldref 10 11), (0, .class_ 12), (0, .nameAndType 13 14), (0, u "java/lang/String"), (0, u "value"), (0, u "[B"), (0, .fieldref 10 16), (0, .nameAndType 17 18), (0, u "coder"), (0, u "B"), (2, u "hash"), (0, u "I"), (2, u "hashIsZero"), (0, u "Z"), (0, .methodref 10 28), (0, .nameAndType 5 29), (0, u "([CIILjava/lang/Void;)V"), (8, .fieldref 10 39), (0, .nameAndType 40 26), (0, u "COMPACT_STRINGS"), (1, .class_ 44), (1, u "java/lang/StringUTF16"), (0, u "compress"), (1, .methodref 42 48), (0, .nameAndType 49 50), (0, u "coderFromArrayLen"), (0, u "([BI)B"), (126, .methodref 42 178), (0, .nameAndType 45 179), (0, u "([CII)[B"), (395, .class_ 576), (0, u "java/lang/CharSequence"), (22, u "CASE_INSENSITIVE_ORDER"), (0, u "Ljava/util/Comparator;"), (409, u "([C)V"), (90, u "serialPersistentFields"), (0, u "[Ljava/io/ObjectStreamField;"), (0, .class_ 1104), (0, u "java/lang/String$CaseInsensitiveComparator"), (1, .class_ 1107), (0, u "java/io/Serializable"), (0, .class_ 1109), (0, u "java/lang/Comparable"), (0, .class_ 1111), (0, u "java/lang/constant/Constable"), (0, .class_ 1113), (0, u "java/lang/constant/ConstantDesc"), (2, u "serialVersionUID"), (0, u "J"), (3, u "REPL"), (0, u "C"), (2, u "LATIN1"), (1, u "UTF16")] 323

def k7m0 : Method := { name := "<init>", desc := "()V", sig := { parameters := [], returnType := none }, accessFlags := 1, code := none }
def k7c1 : Code := { maxStack := 5, maxLocals := 2, code := jdk_42_method_3_code, exceptionTable := #[], attributes := #[] }
def k7m1 : Method := { name := "<init>", desc := "([C)V", sig := { parameters := [(.array .char)], returnType := none }, accessFlags := 1, code := some k7c1 }
def k7c2 : Code := { maxStack := 4, maxLocals := 6, code := jdk_42_method_149_code, exceptionTable := #[], attributes := #[] }
def k7m2 : Method := { name := "<init>", desc := "([CIILjava/lang/Void;)V", sig := { parameters := [(.array .char), .int, .int, (.object "java/lang/Void")], returnType := none }, accessFlags := 2, code := some k7c2 }
/-- java/lang/String -/
def k7 : Class := { plain "java/lang/String" (some 0) with
  accessFlags := 49
  interfaces := #[2, 3, 4, 5, 6]
  cf := some (fileOf pool7 10 #[.nestMembers #[1103]] #[{ accessFlags := 1, nameIndex := 5, descriptorIndex := 6, attributes := #[] }, { accessFlags := 1, nameIndex := 5, descriptorIndex := 1010, attributes := #[] }, { accessFlags := 2, nameIndex := 5, descriptorIndex := 29, attributes := #[] }] 49 2 #[1106, 1108, 575, 1110, 1112] #[{ accessFlags := 18, nameIndex := 13, descriptorIndex := 14, attributes := #[] }, { accessFlags := 18, nameIndex := 17, descriptorIndex := 18, attributes := #[] }, { accessFlags := 2, nameIndex := 21, descriptorIndex := 22, attributes := #[] }, { accessFlags := 2, nameIndex := 25, descriptorIndex := 26, attributes := #[] }, { accessFlags := 26, nameIndex := 1116, descriptorIndex := 1117, attributes := #[] }, { accessFlags := 24, nameIndex := 40, descriptorIndex := 26, attributes := #[] }, { accessFlags := 26, nameIndex := 1101, descriptorIndex := 1102, attributes := #[] }, { accessFlags := 26, nameIndex := 1121, descriptorIndex := 1122, attributes := #[] }, { accessFlags := 25, nameIndex := 599, descriptorIndex := 600, attributes := #[] }, { accessFlags := 24, nameIndex := 1125, descriptorIndex := 18, attributes := #[] }, { accessFlags := 24, nameIndex := 1127, descriptorIndex := 18, attributes := #[] }])
  fields := #[{ name := "value", type := (.array .byte), accessFlags := 18, slot := 0, constantValue := 0 }, { name := "coder", type := .byte, accessFlags := 18, slot := 1, constantValue := 0 }, { name := "hash", type := .int, accessFlags := 2, slot := 2, constantValue := 0 }, { name := "hashIsZero", type := .boolean, accessFlags := 2, slot := 3, constantValue := 0 }, { name := "serialVersionUID", type := .long, accessFlags := 26, slot := 0, constantValue := 0 }, { name := "COMPACT_STRINGS", type := .boolean, accessFlags := 24, slot := 1, constantValue := 0 }, { name := "serialPersistentFields", type := (.array (.object "java/io/ObjectStreamField")), accessFlags := 26, slot := 2, constantValue := 0 }, { name := "REPL", type := .char, accessFlags := 26, slot := 3, constantValue := 0 }, { name := "CASE_INSENSITIVE_ORDER", type := (.object "java/util/Comparator"), accessFlags := 25, slot := 4, constantValue := 0 }, { name := "LATIN1", type := .byte, accessFlags := 24, slot := 5, constantValue := 0 }, { name := "UTF16", type := .byte, accessFlags := 24, slot := 6, constantValue := 0 }]
  methods := #[k7m0, k7m1, k7m2]
  instanceTypes := #[(.array .byte), .byte, .int, .boolean]
  staticTypes := #[.long, .boolean, (.array (.object "java/io/ObjectStreamField")), .char, (.object "java/util/Comparator"), .byte, .byte]
  resolved := Array.replicate 1451 none
  statics := some 0 }

def pool8 : Array CpInfo := pool [(6, .class_ 8), (1, u "java/lang/Object"), (0, u "<init>"), (0, u "()V"), (1, .class_ 14), (1, u "java/lang/StringUTF16"), (31, u "$assertionsDisabled"), (0, u "Z"), (13, u "HI_BYTE_SHIFT"), (0, u "I"), (2, u "LO_BYTE_SHIFT"), (49, .methodref 12 116), (0, .nameAndType 117 118), (0, u "compress"), (0, u "([CI[BII)I"), (3, u "([CII)[B"), (138, u "coderFromArrayLen"), (0, u "([BI)B"), (106, .class_ 371), (1, u "java/lang/StringUTF16$LinesSpliterator"), (58, u "MAX_LENGTH"), (196, .class_ 628), (0, u "java/lang/StringUTF16$CodePointsSpliterator"), (0, .class_ 630), (0, u "java/lang/StringUTF16$CharsSpliterator")] 4

def k8m0 : Method := { name := "<init>", desc := "()V", sig := { parameters := [], returnType := none }, accessFlags := 0, code := none }
def k8c1 : Code := { maxStack := 2, maxLocals := 2, code := jdk_52_method_15_code, exceptionTable := #[], attributes := #[] }
def k8m1 : Method := { name := "coderFromArrayLen", desc := "([BI)B", sig := { parameters := [(.array .byte), .int], returnType := some .byte }, accessFlags := 8, code := some k8c1 }
def k8c2 : Code := { maxStack := 5, maxLocals := 6, code := jdk_52_method_16_code, exceptionTable := #[], attributes := #[] }
def k8m2 : Method := { name := "compress", desc := "([CII)[B", sig := { parameters := [(.array .char), .int, .int], returnType := some (.array .byte) }, accessFlags := 9, code := some k8c2 }
def k8c3 : Code := { maxStack := 3, maxLocals := 7, code := jdk_52_method_21_code, exceptionTable := #[], attributes := #[] }
def k8m3 : Method := { name := "compress", desc := "([CI[BII)I", sig := { parameters := [(.array .char), .int, (.array .byte), .int, .int], returnType := some .int }, accessFlags := 9, code := some k8c3 }
/-- java/lang/StringUTF16 -/
def k8 : Class := { plain "java/lang/StringUTF16" (some 0) with
  accessFlags := 48
  interfaces := #[]
  cf := some (fileOf pool8 12 #[.nestMembers #[627, 629, 369]] #[{ accessFlags := 0, nameIndex := 9, descriptorIndex := 10, attributes := #[] }, { accessFlags := 8, nameIndex := 261, descriptorIndex := 262, attributes := #[] }, { accessFlags := 9, nameIndex := 117, descriptorIndex := 122, attributes := #[] }, { accessFlags := 9, nameIndex := 117, descriptorIndex := 118, attributes := #[] }] 48 6 #[] #[{ accessFlags := 26, nameIndex := 61, descriptorIndex := 62, attributes := #[] }, { accessFlags := 26, nameIndex := 65, descriptorIndex := 62, attributes := #[] }, { accessFlags := 24, nameIndex := 430, descriptorIndex := 62, attributes := #[] }, { accessFlags := 4120, nameIndex := 46, descriptorIndex := 47, attributes := #[] }])
  fields := #[{ name := "HI_BYTE_SHIFT", type := .int, accessFlags := 26, slot := 0, constantValue := 0 }, { name := "LO_BYTE_SHIFT", type := .int, accessFlags := 26, slot := 1, constantValue := 0 }, { name := "MAX_LENGTH", type := .int, accessFlags := 24, slot := 2, constantValue := 0 }, { name := "$assertionsDisabled", type := .boolean, accessFlags := 4120, slot := 3, constantValue := 0 }]
  methods := #[k8m0, k8m1, k8m2, k8m3]
  instanceTypes := #[]
  staticTypes := #[.int, .int, .int, .boolean]
  resolved := Array.replicate 635 none
  statics := none }

def pool9 : Array CpInfo := pool [(1, .methodref 2 3), (0, .class_ 4), (0, .nameAndType 5 6), (0, u "java/lang/Object"), (0, u "<init>"), (0, u "()V"), (0, .class_ 8), (0, u "java/lang/Record")] 13

def k9c0 : Code := { maxStack := 1, maxLocals := 1, code := jdk_30_method_1_code, exceptionTable := #[], attributes := #[] }
def k9m0 : Method := { name := "<init>", desc := "()V", sig := { parameters := [], returnType := none }, accessFlags := 4, code := some k9c0 }
/-- java/lang/Record -/
def k9 : Class := { plain "java/lang/Record" (some 0) with
  accessFlags := 1057
  interfaces := #[]
  cf := some (fileOf pool9 7 #[] #[{ accessFlags := 4, nameIndex := 5, descriptorIndex := 6, attributes := #[] }] 1057 2 #[] #[])
  fields := #[]
  methods := #[k9m0]
  instanceTypes := #[]
  staticTypes := #[]
  resolved := Array.replicate 22 none
  statics := none }

def pool10 : Array CpInfo := pool [(1, .methodref 2 3), (0, .class_ 4), (0, .nameAndType 5 6), (0, u "java/lang/Record"), (0, u "<init>"), (0, u "()V"), (0, .fieldref 8 9), (0, .class_ 10), (0, .nameAndType 11 12), (0, u "com/example/stackweave/stackweave/classfile/VerificationType"), (0, u "tag"), (0, u "I"), (0, .fieldref 8 14), (0, .nameAndType 15 16), (0, u "className"), (0, u "Ljava/lang/String;"), (0, .fieldref 8 18), (0, .nameAndType 19 12), (0, u "newOffset"), (2, u "(ILjava/lang/String;I)V"), (5, u "()Z"), (1, .class_ 32), (1, u "com/example/stackweave/stackweave/classfile/ValueKind"), (7, u "REFERENCES"), (0, u "Lcom/example/stackweave/stackweave/classfile/IdentityCache;"), (26, u "isReference"), (2, u "NULL"), (0, u "Lcom/example/stackweave/stackweave/classfile/VerificationType;"), (2, u "OBJECT"), (15, .fieldref 30 92), (0, .nameAndType 93 94), (0, u "INT"), (0, u "Lcom/example/stackweave/stackweave/classfile/ValueKind;"), (2, u "INTEGER"), (0, .fieldref 30 99), (0, .nameAndType 100 94), (0, u "LONG"), (2, .fieldref 30 104), (0, .nameAndType 105 94), (0, u "FLOAT"), (2, .fieldref 30 109), (0, .nameAndType 110 94), (0, u "DOUBLE"), (8, .fieldref 30 120), (0, .nameAndType 121 94), (0, u "REFERENCE"), (15, u "TOP"), (20, u "OBJECT_ARRAY"), (0, u "ITEM_TOP"), (2, u "ITEM_INTEGER"), (1, u "ITEM_FLOAT"), (1, u "ITEM_DOUBLE"), (1, u "ITEM_LONG"), (1, u "ITEM_NULL"), (1, u "ITEM_UNINITIALIZED_THIS"), (1, u "ITEM_OBJECT"), (1, u "ITEM_UNINITIALIZED"), (15, u "isUninitialized"), (2, u "kind"), (0, u "()Lcom/example/stackweave/stackweave/classfile/ValueKind;")] 47

def k10c0 : Code := { maxStack := 2, maxLocals := 4, code := prog_38_method_1_code, exceptionTable := #[], attributes := #[] }
def k10m0 : Method := { name := "<init>", desc := "(ILjava/lang/String;I)V", sig := { parameters := [.int, (.object "java/lang/String"), .int], returnType := none }, accessFlags := 0, code := some k10c0 }
def k10c1 : Code := { maxStack := 2, maxLocals := 1, code := prog_38_method_10_code, exceptionTable := #[], attributes := #[] }
def k10m1 : Method := { name := "isReference", desc := "()Z", sig := { parameters := [], returnType := some .boolean }, accessFlags := 0, code := some k10c1 }
def k10c2 : Code := { maxStack := 2, maxLocals := 1, code := prog_38_method_11_code, exceptionTable := #[], attributes := #[] }
def k10m2 : Method := { name := "isUninitialized", desc := "()Z", sig := { parameters := [], returnType := some .boolean }, accessFlags := 0, code := some k10c2 }
def k10c3 : Code := { maxStack := 3, maxLocals := 2, code := prog_38_method_13_code, exceptionTable := #[], attributes := #[] }
def k10m3 : Method := { name := "kind", desc := "()Lcom/example/stackweave/stackweave/classfile/ValueKind;", sig := { parameters := [], returnType := some (.object "com/example/stackweave/stackweave/classfile/ValueKind") }, accessFlags := 0, code := some k10c3 }
/-- com/example/stackweave/stackweave/classfile/VerificationType -/
def k10 : Class := { plain "com/example/stackweave/stackweave/classfile/VerificationType" (some 9) with
  accessFlags := 48
  interfaces := #[]
  cf := some (fileOf pool10 8 #[] #[{ accessFlags := 0, nameIndex := 5, descriptorIndex := 22, attributes := #[] }, { accessFlags := 0, nameIndex := 68, descriptorIndex := 28, attributes := #[] }, { accessFlags := 0, nameIndex := 192, descriptorIndex := 28, attributes := #[] }, { accessFlags := 0, nameIndex := 195, descriptorIndex := 196, attributes := #[] }] 48 2 #[] #[{ accessFlags := 18, nameIndex := 11, descriptorIndex := 12, attributes := #[] }, { accessFlags := 18, nameIndex := 15, descriptorIndex := 16, attributes := #[] }, { accessFlags := 18, nameIndex := 19, descriptorIndex := 12, attributes := #[] }, { accessFlags := 24, nameIndex := 159, descriptorIndex := 12, attributes := #[] }, { accessFlags := 24, nameIndex := 162, descriptorIndex := 12, attributes := #[] }, { accessFlags := 24, nameIndex := 164, descriptorIndex := 12, attributes := #[] }, { accessFlags := 24, nameIndex := 166, descriptorIndex := 12, attributes := #[] }, { accessFlags := 24, nameIndex := 168, descriptorIndex := 12, attributes := #[] }, { accessFlags := 24, nameIndex := 170, descriptorIndex := 12, attributes := #[] }, { accessFlags := 24, nameIndex := 172, descriptorIndex := 12, attributes := #[] }, { accessFlags := 24, nameIndex := 174, descriptorIndex := 12, attributes := #[] }, { accessFlags := 24, nameIndex := 176, descriptorIndex := 12, attributes := #[] }, { accessFlags := 24, nameIndex := 137, descriptorIndex := 72, attributes := #[] }, { accessFlags := 24, nameIndex := 97, descriptorIndex := 72, attributes := #[] }, { accessFlags := 24, nameIndex := 105, descriptorIndex := 72, attributes := #[] }, { accessFlags := 24, nameIndex := 110, descriptorIndex := 72, attributes := #[] }, { accessFlags := 24, nameIndex := 100, descriptorIndex := 72, attributes := #[] }, { accessFlags := 24, nameIndex := 71, descriptorIndex := 72, attributes := #[] }, { accessFlags := 24, nameIndex := 75, descriptorIndex := 72, attributes := #[] }, { accessFlags := 26, nameIndex := 40, descriptorIndex := 41, attributes := #[] }, { accessFlags := 24, nameIndex := 158, descriptorIndex := 72, attributes := #[] }])
  fields := #[{ name := "tag", type := .int, accessFlags := 18, slot := 0, constantValue := 0 }, { name := "className", type := (.object "java/lang/String"), accessFlags := 18, slot := 1, constantValue := 0 }, { name := "newOffset", type := .int, accessFlags := 18, slot := 2, constantValue := 0 }, { name := "ITEM_TOP", type := .int, accessFlags := 24, slot := 0, constantValue := 0 }, { name := "ITEM_INTEGER", type := .int, accessFlags := 24, slot := 1, constantValue := 0 }, { name := "ITEM_FLOAT", type := .int, accessFlags := 24, slot := 2, constantValue := 0 }, { name := "ITEM_DOUBLE", type := .int, accessFlags := 24, slot := 3, constantValue := 0 }, { name := "ITEM_LONG", type := .int, accessFlags := 24, slot := 4, constantValue := 0 }, { name := "ITEM_NULL", type := .int, accessFlags := 24, slot := 5, constantValue := 0 }, { name := "ITEM_UNINITIALIZED_THIS", type := .int, accessFlags := 24, slot := 6, constantValue := 0 }, { name := "ITEM_OBJECT", type := .int, accessFlags := 24, slot := 7, constantValue := 0 }, { name := "ITEM_UNINITIALIZED", type := .int, accessFlags := 24, slot := 8, constantValue := 0 }, { name := "TOP", type := (.object "com/example/stackweave/stackweave/classfile/VerificationType"), accessFlags := 24, slot := 9, constantValue := 0 }, { name := "INTEGER", type := (.object "com/example/stackweave/stackweave/classfile/VerificationType"), accessFlags := 24, slot := 10, constantValue := 0 }, { name := "FLOAT", type := (.object "com/example/stackweave/stackweave/classfile/VerificationType"), accessFlags := 24, slot := 11, constantValue := 0 }, { name := "DOUBLE", type := (.object "com/example/stackweave/stackweave/classfile/VerificationType"), accessFlags := 24, slot := 12, constantValue := 0 }, { name := "LONG", type := (.object "com/example/stackweave/stackweave/classfile/VerificationType"), accessFlags := 24, slot := 13, constantValue := 0 }, { name := "NULL", type := (.object "com/example/stackweave/stackweave/classfile/VerificationType"), accessFlags := 24, slot := 14, constantValue := 0 }, { name := "OBJECT", type := (.object "com/example/stackweave/stackweave/classfile/VerificationType"), accessFlags := 24, slot := 15, constantValue := 0 }, { name := "REFERENCES", type := (.object "com/example/stackweave/stackweave/classfile/IdentityCache"), accessFlags := 26, slot := 16, constantValue := 0 }, { name := "OBJECT_ARRAY", type := (.object "com/example/stackweave/stackweave/classfile/VerificationType"), accessFlags := 24, slot := 17, constantValue := 0 }]
  methods := #[k10m0, k10m1, k10m2, k10m3]
  instanceTypes := #[.int, (.object "java/lang/String"), .int]
  staticTypes := #[.int, .int, .int, .int, .int, .int, .int, .int, .int, (.object "com/example/stackweave/stackweave/classfile/VerificationType"), (.object "com/example/stackweave/stackweave/classfile/VerificationType"), (.object "com/example/stackweave/stackweave/classfile/VerificationType"), (.object "com/example/stackweave/stackweave/classfile/VerificationType"), (.object "com/example/stackweave/stackweave/classfile/VerificationType"), (.object "com/example/stackweave/stackweave/classfile/VerificationType"), (.object "com/example/stackweave/stackweave/classfile/VerificationType"), (.object "com/example/stackweave/stackweave/classfile/IdentityCache"), (.object "com/example/stackweave/stackweave/classfile/VerificationType")]
  resolved := Array.replicate 244 none
  statics := none }

def pool11 : Array CpInfo := pool [(2, .class_ 4), (1, u "java/lang/Enum"), (0, u "name"), (0, u "Ljava/lang/String;"), (2, u "ordinal"), (0, u "I"), (1, .class_ 14), (1, u "java/lang/Object"), (4, u "hash"), (86, .class_ 108), (1, u "java/lang/Enum$EnumDesc"), (2, .class_ 112), (0, u "java/lang/constant/Constable"), (0, .class_ 114), (0, u "java/lang/Comparable"), (0, .class_ 116), (0, u "java/io/Serializable")] 87

/-- java/lang/Enum -/
def k11 : Class := { plain "java/lang/Enum" (some 0) with
  accessFlags := 1057
  interfaces := #[5, 3, 2]
  cf := some (fileOf pool11 2 #[.nestMembers #[106]] #[] 1057 12 #[111, 113, 115] #[{ accessFlags := 18, nameIndex := 5, descriptorIndex := 6, attributes := #[] }, { accessFlags := 18, nameIndex := 9, descriptorIndex := 10, attributes := #[] }, { accessFlags := 2, nameIndex := 19, descriptorIndex := 10, attributes := #[] }])
  fields := #[{ name := "name", type := (.object "java/lang/String"), accessFlags := 18, slot := 0, constantValue := 0 }, { name := "ordinal", type := .int, accessFlags := 18, slot := 1, constantValue := 0 }, { name := "hash", type := .int, accessFlags := 2, slot := 2, constantValue := 0 }]
  methods := #[]
  instanceTypes := #[(.object "java/lang/String"), .int, .int]
  staticTypes := #[]
  resolved := Array.replicate 204 none
  statics := none }

def pool12 : Array CpInfo := pool [(1, .class_ 2), (0, u "com/example/stackweave/stackweave/classfile/ValueKind"), (2, u "INT"), (0, u "Lcom/example/stackweave/stackweave/classfile/ValueKind;"), (2, u "LONG"), (2, u "FLOAT"), (2, u "DOUBLE"), (2, u "REFERENCE"), (2, u "VOID"), (2, u "$VALUES"), (0, u "[Lcom/example/stackweave/stackweave/classfile/ValueKind;"), (6, .class_ 34), (1, u "java/lang/Enum"), (8, u "slots"), (0, u "I"), (2, u "load"), (2, u "loadFromSlot0"), (2, u "store"), (2, u "storeToSlot0"), (2, u "returnValue"), (2, u "loadDefault"), (2, u "numericOffset")] 68

/-- com/example/stackweave/stackweave/classfile/ValueKind -/
def k12 : Class := { plain "com/example/stackweave/stackweave/classfile/ValueKind" (some 11) with
  accessFlags := 16433
  interfaces := #[]
  cf := some (fileOf pool12 1 #[] #[] 16433 32 #[] #[{ accessFlags := 16409, nameIndex := 5, descriptorIndex := 6, attributes := #[] }, { accessFlags := 16409, nameIndex := 9, descriptorIndex := 6, attributes := #[] }, { accessFlags := 16409, nameIndex := 12, descriptorIndex := 6, attributes := #[] }, { accessFlags := 16409, nameIndex := 15, descriptorIndex := 6, attributes := #[] }, { accessFlags := 16409, nameIndex := 18, descriptorIndex := 6, attributes := #[] }, { accessFlags := 16409, nameIndex := 21, descriptorIndex := 6, attributes := #[] }, { accessFlags := 18, nameIndex := 43, descriptorIndex := 44, attributes := #[] }, { accessFlags := 18, nameIndex := 47, descriptorIndex := 44, attributes := #[] }, { accessFlags := 18, nameIndex := 50, descriptorIndex := 44, attributes := #[] }, { accessFlags := 18, nameIndex := 53, descriptorIndex := 44, attributes := #[] }, { accessFlags := 18, nameIndex := 56, descriptorIndex := 44, attributes := #[] }, { accessFlags := 18, nameIndex := 59, descriptorIndex := 44, attributes := #[] }, { accessFlags := 18, nameIndex := 62, descriptorIndex := 44, attributes := #[] }, { accessFlags := 18, nameIndex := 65, descriptorIndex := 44, attributes := #[] }, { accessFlags := 4122, nameIndex := 24, descriptorIndex := 25, attributes := #[] }])
  fields := #[{ name := "INT", type := (.object "com/example/stackweave/stackweave/classfile/ValueKind"), accessFlags := 16409, slot := 0, constantValue := 0 }, { name := "LONG", type := (.object "com/example/stackweave/stackweave/classfile/ValueKind"), accessFlags := 16409, slot := 1, constantValue := 0 }, { name := "FLOAT", type := (.object "com/example/stackweave/stackweave/classfile/ValueKind"), accessFlags := 16409, slot := 2, constantValue := 0 }, { name := "DOUBLE", type := (.object "com/example/stackweave/stackweave/classfile/ValueKind"), accessFlags := 16409, slot := 3, constantValue := 0 }, { name := "REFERENCE", type := (.object "com/example/stackweave/stackweave/classfile/ValueKind"), accessFlags := 16409, slot := 4, constantValue := 0 }, { name := "VOID", type := (.object "com/example/stackweave/stackweave/classfile/ValueKind"), accessFlags := 16409, slot := 5, constantValue := 0 }, { name := "slots", type := .int, accessFlags := 18, slot := 3, constantValue := 0 }, { name := "load", type := .int, accessFlags := 18, slot := 4, constantValue := 0 }, { name := "loadFromSlot0", type := .int, accessFlags := 18, slot := 5, constantValue := 0 }, { name := "store", type := .int, accessFlags := 18, slot := 6, constantValue := 0 }, { name := "storeToSlot0", type := .int, accessFlags := 18, slot := 7, constantValue := 0 }, { name := "returnValue", type := .int, accessFlags := 18, slot := 8, constantValue := 0 }, { name := "loadDefault", type := .int, accessFlags := 18, slot := 9, constantValue := 0 }, { name := "numericOffset", type := .int, accessFlags := 18, slot := 10, constantValue := 0 }, { name := "$VALUES", type := (.array (.object "com/example/stackweave/stackweave/classfile/ValueKind")), accessFlags := 4122, slot := 6, constantValue := 0 }]
  methods := #[]
  instanceTypes := #[(.object "java/lang/String"), .int, .int, .int, .int, .int, .int, .int, .int, .int, .int]
  staticTypes := #[(.object "com/example/stackweave/stackweave/classfile/ValueKind"), (.object "com/example/stackweave/stackweave/classfile/ValueKind"), (.object "com/example/stackweave/stackweave/classfile/ValueKind"), (.object "com/example/stackweave/stackweave/classfile/ValueKind"), (.object "com/example/stackweave/stackweave/classfile/ValueKind"), (.object "com/example/stackweave/stackweave/classfile/ValueKind"), (.array (.object "com/example/stackweave/stackweave/classfile/ValueKind"))]
  resolved := Array.replicate 134 none
  statics := some 1 }

def pool13 : Array CpInfo := pool [(4, .class_ 6), (1, u "java/lang/Object"), (0, u "<init>"), (0, u "()V"), (5, .class_ 16), (1, u "java/lang/StringLatin1"), (104, u "$assertionsDisabled"), (0, u "Z"), (98, .class_ 223), (1, u "java/lang/StringLatin1$LinesSpliterator"), (166, .class_ 391), (0, u "java/lang/StringLatin1$CharsSpliterator")] 3

def k13m0 : Method := { name := "<init>", desc := "()V", sig := { parameters := [], returnType := none }, accessFlags := 0, code := none }
/-- java/lang/StringLatin1 -/
def k13 : Class := { plain "java/lang/StringLatin1" (some 0) with
  accessFlags := 48
  interfaces := #[]
  cf := some (fileOf pool13 14 #[.nestMembers #[390, 221]] #[{ accessFlags := 0, nameIndex := 7, descriptorIndex := 8, attributes := #[] }] 48 4 #[] #[{ accessFlags := 4120, nameIndex := 121, descriptorIndex := 122, attributes := #[] }])
  fields := #[{ name := "$assertionsDisabled", type := .boolean, accessFlags := 4120, slot := 0, constantValue := 0 }]
  methods := #[k13m0]
  instanceTypes := #[]
  staticTypes := #[.boolean]
  resolved := Array.replicate 395 none
  statics := none }

def pool14 : Array CpInfo := pool [(2, .class_ 4), (1, u "java/lang/Object"), (0, u "<init>"), (0, u "()V"), (17, .class_ 26), (1, u "jdk/internal/util/Preconditions"), (28, .class_ 56), (0, u "jdk/internal/util/Preconditions$4"), (57, .class_ 115), (0, u "jdk/internal/util/Preconditions$1"), (7, u "SIOOBE_FORMATTER"), (0, u "Ljava/util/function/BiFunction;"), (0, .class_ 126), (0, u "jdk/internal/util/Preconditions$2"), (3, u "AIOOBE_FORMATTER"), (0, .class_ 132), (0, u "jdk/internal/util/Preconditions$3"), (3, u "IOOBE_FORMATTER")] 57

def k14m0 : Method := { name := "<init>", desc := "()V", sig := { parameters := [], returnType := none }, accessFlags := 1, code := none }
/-- jdk/internal/util/Preconditions -/
def k14 : Class := { plain "jdk/internal/util/Preconditions" (some 0) with
  accessFlags := 33
  interfaces := #[]
  cf := some (fileOf pool14 24 #[.nestMembers #[55, 131, 125, 114]] #[{ accessFlags := 1, nameIndex := 5, descriptorIndex := 6, attributes := #[] }] 33 2 #[] #[{ accessFlags := 25, nameIndex := 123, descriptorIndex := 124, attributes := #[] }, { accessFlags := 25, nameIndex := 130, descriptorIndex := 124, attributes := #[] }, { accessFlags := 25, nameIndex := 136, descriptorIndex := 124, attributes := #[] }])
  fields := #[{ name := "SIOOBE_FORMATTER", type := (.object "java/util/function/BiFunction"), accessFlags := 25, slot := 0, constantValue := 0 }, { name := "AIOOBE_FORMATTER", type := (.object "java/util/function/BiFunction"), accessFlags := 25, slot := 1, constantValue := 0 }, { name := "IOOBE_FORMATTER", type := (.object "java/util/function/BiFunction"), accessFlags := 25, slot := 2, constantValue := 0 }]
  methods := #[k14m0]
  instanceTypes := #[]
  staticTypes := #[(.object "java/util/function/BiFunction"), (.object "java/util/function/BiFunction"), (.object "java/util/function/BiFunction")]
  resolved := Array.replicate 194 none
  statics := some 2 }

def pool15 : Array CpInfo := pool [(9, u "<init>"), (6, .class_ 18), (1, u "java/lang/Object"), (0, u "()V"), (1, .class_ 23), (1, u "jdk/internal/util/ArraysSupport"), (0, u "LOG2_ARRAY_LONG_INDEX_SCALE"), (0, u "I"), (2, u "U"), (0, u "Ljdk/internal/misc/Unsafe;"), (8, u "BIG_ENDIAN"), (0, u "Z"), (8, u "LOG2_BYTE_BIT_SIZE"), (4, u "LOG2_ARRAY_INT_INDEX_SCALE"), (54, u "JLA"), (0, u "Ljdk/internal/access/JavaLangAccess;"), (11, u "LOG2_ARRAY_BOOLEAN_INDEX_SCALE"), (9, u "LOG2_ARRAY_BYTE_INDEX_SCALE"), (5, u "LOG2_ARRAY_CHAR_INDEX_SCALE"), (5, u "LOG2_ARRAY_SHORT_INDEX_SCALE"), (18, u "LOG2_ARRAY_FLOAT_INDEX_SCALE"), (24, u "LOG2_ARRAY_DOUBLE_INDEX_SCALE"), (89, u "T_BOOLEAN"), (2, u "T_CHAR"), (1, u "T_FLOAT"), (1, u "T_DOUBLE"), (1, u "T_BYTE"), (1, u "T_SHORT"), (1, u "T_INT"), (1, u "T_LONG"), (1, u "SOFT_MAX_ARRAY_LENGTH")] 83

def k15m0 : Method := { name := "<init>", desc := "()V", sig := { parameters := [], returnType := none }, accessFlags := 2, code := none }
/-- jdk/internal/util/ArraysSupport -/
def k15 : Class := { plain "jdk/internal/util/ArraysSupport" (some 0) with
  accessFlags := 33
  interfaces := #[]
  cf := some (fileOf pool15 21 #[] #[{ accessFlags := 2, nameIndex := 9, descriptorIndex := 19, attributes := #[] }] 33 16 #[] #[{ accessFlags := 24, nameIndex := 28, descriptorIndex := 29, attributes := #[] }, { accessFlags := 26, nameIndex := 38, descriptorIndex := 39, attributes := #[] }, { accessFlags := 25, nameIndex := 121, descriptorIndex := 25, attributes := #[] }, { accessFlags := 25, nameIndex := 131, descriptorIndex := 25, attributes := #[] }, { accessFlags := 25, nameIndex := 137, descriptorIndex := 25, attributes := #[] }, { accessFlags := 25, nameIndex := 143, descriptorIndex := 25, attributes := #[] }, { accessFlags := 25, nameIndex := 53, descriptorIndex := 25, attributes := #[] }, { accessFlags := 25, nameIndex := 24, descriptorIndex := 25, attributes := #[] }, { accessFlags := 25, nameIndex := 162, descriptorIndex := 25, attributes := #[] }, { accessFlags := 25, nameIndex := 187, descriptorIndex := 25, attributes := #[] }, { accessFlags := 26, nameIndex := 48, descriptorIndex := 25, attributes := #[] }, { accessFlags := 25, nameIndex := 277, descriptorIndex := 25, attributes := #[] }, { accessFlags := 25, nameIndex := 280, descriptorIndex := 25, attributes := #[] }, { accessFlags := 25, nameIndex := 282, descriptorIndex := 25, attributes := #[] }, { accessFlags := 25, nameIndex := 284, descriptorIndex := 25, attributes := #[] }, { accessFlags := 25, nameIndex := 286, descriptorIndex := 25, attributes := #[] }, { accessFlags := 25, nameIndex := 288, descriptorIndex := 25, attributes := #[] }, { accessFlags := 25, nameIndex := 290, descriptorIndex := 25, attributes := #[] }, { accessFlags := 25, nameIndex := 292, descriptorIndex := 25, attributes := #[] }, { accessFlags := 26, nameIndex := 108, descriptorIndex := 109, attributes := #[] }, { accessFlags := 25, nameIndex := 294, descriptorIndex := 25, attributes := #[] }])
  fields := #[{ name := "U", type := (.object "jdk/internal/misc/Unsafe"), accessFlags := 24, slot := 0, constantValue := 0 }, { name := "BIG_ENDIAN", type := .boolean, accessFlags := 26, slot := 1, constantValue := 0 }, { name := "LOG2_ARRAY_BOOLEAN_INDEX_SCALE", type := .int, accessFlags := 25, slot := 2, constantValue := 0 }, { name := "LOG2_ARRAY_BYTE_INDEX_SCALE", type := .int, accessFlags := 25, slot := 3, constantValue := 0 }, { name := "LOG2_ARRAY_CHAR_INDEX_SCALE", type := .int, accessFlags := 25, slot := 4, constantValue := 0 }, { name := "LOG2_ARRAY_SHORT_INDEX_SCALE", type := .int, accessFlags := 25, slot := 5, constantValue := 0 }, { name := "LOG2_ARRAY_INT_INDEX_SCALE", type := .int, accessFlags := 25, slot := 6, constantValue := 0 }, { name := "LOG2_ARRAY_LONG_INDEX_SCALE", type := .int, accessFlags := 25, slot := 7, constantValue := 0 }, { name := "LOG2_ARRAY_FLOAT_INDEX_SCALE", type := .int, accessFlags := 25, slot := 8, constantValue := 0 }, { name := "LOG2_ARRAY_DOUBLE_INDEX_SCALE", type := .int, accessFlags := 25, slot := 9, constantValue := 0 }, { name := "LOG2_BYTE_BIT_SIZE", type := .int, accessFlags := 26, slot := 10, constantValue := 0 }, { name := "T_BOOLEAN", type := .int, accessFlags := 25, slot := 11, constantValue := 0 }, { name := "T_CHAR", type := .int, accessFlags := 25, slot := 12, constantValue := 0 }, { name := "T_FLOAT", type := .int, accessFlags := 25, slot := 13, constantValue := 0 }, { name := "T_DOUBLE", type := .int, accessFlags := 25, slot := 14, constantValue := 0 }, { name := "T_BYTE", type := .int, accessFlags := 25, slot := 15, constantValue := 0 }, { name := "T_SHORT", type := .int, accessFlags := 25, slot := 16, constantValue := 0 }, { name := "T_INT", type := .int, accessFlags := 25, slot := 17, constantValue := 0 }, { name := "T_LONG", type := .int, accessFlags := 25, slot := 18, constantValue := 0 }, { name := "JLA", type := (.object "jdk/internal/access/JavaLangAccess"), accessFlags := 26, slot := 19, constantValue := 0 }, { name := "SOFT_MAX_ARRAY_LENGTH", type := .int, accessFlags := 25, slot := 20, constantValue := 0 }]
  methods := #[k15m0]
  instanceTypes := #[]
  staticTypes := #[(.object "jdk/internal/misc/Unsafe"), .boolean, .int, .int, .int, .int, .int, .int, .int, .int, .int, .int, .int, .int, .int, .int, .int, .int, .int, (.object "jdk/internal/access/JavaLangAccess"), .int]
  resolved := Array.replicate 378 none
  statics := none }

def pool16 : Array CpInfo := pool [(1, u "java/lang/Cloneable"), (0, .class_ 1), (0, u "java/lang/Object"), (0, .class_ 3)] 3

/-- java/lang/Cloneable -/
def k16 : Class := { plain "java/lang/Cloneable" (some 0) with
  accessFlags := 1537
  interfaces := #[]
  cf := some (fileOf pool16 2 #[] #[] 1537 4 #[] #[])
  fields := #[]
  methods := #[]
  instanceTypes := #[]
  staticTypes := #[]
  resolved := Array.replicate 8 none
  statics := none }

/-- the primitive byte -/
def k17 : Class := { plain "byte" none with kind := .primitive 'B', accessFlags := 0x411 }
/-- [B -/
def k18 : Class := { plain "[B" (some 0) with kind := .array 17 .byte, interfaces := #[16, 2], accessFlags := 1041 }

/-- the primitive char -/
def k19 : Class := { plain "char" none with kind := .primitive 'C', accessFlags := 0x411 }
/-- [C -/
def k20 : Class := { plain "[C" (some 0) with kind := .array 19 .char, interfaces := #[16, 2], accessFlags := 1041 }

/-- the primitive int -/
def k21 : Class := { plain "int" none with kind := .primitive 'I', accessFlags := 0x411 }
/-- [I -/
def k22 : Class := { plain "[I" (some 0) with kind := .array 21 .int, interfaces := #[16, 2], accessFlags := 1041 }

def heap : Heap := #[{ cls := 7, slots := #[.long 0, .int 1, .null, .int 0, .null, .int 0, .int 0], vm := .statics 7 },
  { cls := 12, slots := #[.ref 5, .ref 6, .ref 7, .ref 3, .ref 4, .null, .null], vm := .statics 12 },
  { cls := 14, slots := #[.null, .null, .null], vm := .statics 14 },
  { cls := 12, slots := #[.null, .int 3, .int 0, .int 0, .int 0, .int 0, .int 0, .int 0, .int 0, .int 0, .int 0], vm := .none },
  { cls := 12, slots := #[.null, .int 4, .int 0, .int 0, .int 0, .int 0, .int 0, .int 0, .int 0, .int 0, .int 0], vm := .none },
  { cls := 12, slots := #[.null, .int 0, .int 0, .int 0, .int 0, .int 0, .int 0, .int 0, .int 0, .int 0, .int 0], vm := .none },
  { cls := 12, slots := #[.null, .int 1, .int 0, .int 0, .int 0, .int 0, .int 0, .int 0, .int 0, .int 0, .int 0], vm := .none },
  { cls := 12, slots := #[.null, .int 2, .int 0, .int 0, .int 0, .int 0, .int 0, .int 0, .int 0, .int 0, .int 0], vm := .none }]
def classes : Array Class := #[k0, k1, k2, k3, k4, k5, k6, k7, k8, k9, k10, k11, k12, k13, k14, k15, k16, k17, k18, k19, k20, k21, k22]
def interned : List (Array UInt16 × Addr) := []
def slotsUsed : Nat := 72
def theMethod : MethodId := ⟨1, 1⟩
def args0 : Array Value := #[.int 7, .int 1, .int 3, .int 1, .int 2]
def aboutOver (below : List Frame) : State where
  vm := { classes := classes, interned := interned.toArray }
  heap := heap
  slotsUsed := slotsUsed
  threads := #[{ frames := .invoking theMethod args0 :: below }]
def below0 : List Frame := [.native { method := ⟨0, 0⟩, args := #[] }]
def about1 : State := aboutOver below0
def p0 : Program := .bare "" "" ""
def e0 : Env := launch0.env 0 0 0
theorem w_frames : about1.frames = Frame.invoking theMethod args0 :: below0 := rfl
set_option maxRecDepth 65536 in
theorem w_args : argsFit about1.vm theMethod args0 = true := by decide +kernel
set_option maxRecDepth 65536 in
theorem w_heap : heapFits about1 = true := by decide +kernel
set_option maxRecDepth 65536 in
theorem w_runnable : about1.curStatus? = some .runnable := by decide +kernel
set_option maxRecDepth 65536 in
theorem w_alone : about1.alone = true := by decide +kernel
set_option maxRecDepth 65536 in
theorem w_named : about1.methodNamed? x = some theMethod := by decide +kernel
set_option maxRecDepth 65536 in
theorem w_hears : about1.hears theMethod below0 = true := by decide +kernel
set_option maxRecDepth 65536 in
theorem w_ripe : about1.ripe theMethod args0 below0 = true := by decide +kernel
theorem w_running : about1.status = .running := rfl
set_option maxRecDepth 65536 in
theorem w_room : about1.hasRoom e0.platform room_1 = true :=
  launch0.hasRoom_least _ room_1 (by decide +kernel) (by decide +kernel) (by decide +kernel) (by decide +kernel) (by decide +kernel) (by decide +kernel)
theorem allAtoms_all (ts : List Jvm.Cond) (a : Array Jvm.Value) (st : Jvm.State) : (allAtoms ts).before a st = ts.all (fun c => c.before a st) := by
  induction ts with
  | nil => rfl
  | cons c t ih =>
    show (Jvm.Cond.and c (allAtoms t)).before a st = _
    rw [Jvm.Cond.before_and, ih, List.all_cons]
def words1 : List Jvm.Cond := Jvm.Cond.code x code maxLocals ret :: tables_1
/-- a 'code' word, met by the world's own term for the bytes: nothing is compared byte by byte -/
theorem code_word {y : MethodName} {bytes : ByteArray} {mx : Nat} {rt : Option FieldType} {a : Array Value} {s : State} {m : MethodId} {meth : Method} {c : Code} (h1 : s.methodNamed? y = some m) (h2 : s.vm.method? m = some meth) (h3 : meth.code = some c) (h4 : c.code = bytes)
    (h5 : (c.maxLocals == mx && c.exceptionTable.isEmpty && decide (c.maxStack ≤ mostOperands) && decide (meth.sig.returnType = rt) && !meth.locks && decide (parseMethodDescriptor y.desc = some meth.sig)) = true) : (Jvm.Cond.code y bytes mx rt).before a s = true := by
  simp only [Bool.and_eq_true, beq_iff_eq, Bool.not_eq_true', decide_eq_true_eq] at h5
  obtain ⟨⟨⟨⟨⟨g1, g2⟩, g3⟩, g4⟩, g5⟩, g6⟩ := h5
  simp [Cond.before, Cond.holds, Cond.value, h1, h2, h3, h4, g1, g2, g3, g4, g5, g6]
def isCode : Jvm.Cond → Bool
  | .code _ _ _ _ => true
  | _ => false
theorem all_split {L : List Jvm.Cond} {P : Jvm.Cond → Bool} (h1 : L.all (fun c => isCode c || P c) = true) (h2 : ∀ c ∈ L.filter isCode, P c = true) : L.all P = true := by
  refine List.all_eq_true.mpr fun c hc => ?_
  have h := List.all_eq_true.mp h1 c hc
  rcases Bool.eq_false_or_eq_true (isCode c) with hi | hi
  · exact h2 c (List.mem_filter.mpr ⟨hc, hi⟩)
  · simpa [hi] using h
set_option maxRecDepth 65536 in
theorem w_c0 : (Jvm.Cond.code x code maxLocals ret).before args0 about1 = true := code_word (m := ⟨1, 1⟩) (meth := k1m1) (c := k1c1) (by decide +kernel) rfl rfl rfl (by decide +kernel)
set_option maxRecDepth 65536 in
theorem w_c1 : (Jvm.Cond.code ({ cls := "java/lang/String", name := "<init>", desc := "([C)V" } : Jvm.MethodName) jdk_42_method_3_code (2 : Nat) (Option.none : Option Jvm.ClassFile.FieldType)).before args0 about1 = true := code_word (m := ⟨7, 1⟩) (meth := k7m1) (c := k7c1) (by decide +kernel) rfl rfl rfl (by decide +kernel)
set_option maxRecDepth 65536 in
theorem w_c2 : (Jvm.Cond.code ({ cls := "java/lang/String", name := "<init>", desc := "([CIILjava/lang/Void;)V" } : Jvm.MethodName) jdk_42_method_149_code (6 : Nat) (Option.none : Option Jvm.ClassFile.FieldType)).before args0 about1 = true := code_word (m := ⟨7, 2⟩) (meth := k7m2) (c := k7c2) (by decide +kernel) rfl rfl rfl (by decide +kernel)
set_option maxRecDepth 65536 in
theorem w_c3 : (Jvm.Cond.code ({ cls := "java/lang/Object", name := "<init>", desc := "()V" } : Jvm.MethodName) object_method_1_code (1 : Nat) (Option.none : Option Jvm.ClassFile.FieldType)).before args0 about1 = true := code_word (m := ⟨0, 0⟩) (meth := k0m0) (c := k0c0) (by decide +kernel) rfl rfl rfl (by decide +kernel)
set_option maxRecDepth 65536 in
theorem w_c4 : (Jvm.Cond.code ({ cls := "java/lang/StringUTF16", name := "compress", desc := "([CII)[B" } : Jvm.MethodName) jdk_52_method_16_code (6 : Nat) (Option.some (Jvm.ClassFile.FieldType.array Jvm.ClassFile.FieldType.byte))).before args0 about1 = true := code_word (m := ⟨8, 2⟩) (meth := k8m2) (c := k8c2) (by decide +kernel) rfl rfl rfl (by decide +kernel)
set_option maxRecDepth 65536 in
theorem w_c5 : (Jvm.Cond.code ({ cls := "java/lang/StringUTF16", name := "compress", desc := "([CI[BII)I" } : Jvm.MethodName) jdk_52_method_21_code (7 : Nat) (Option.some Jvm.ClassFile.FieldType.int)).before args0 about1 = true := code_word (m := ⟨8, 3⟩) (meth := k8m3) (c := k8c3) (by decide +kernel) rfl rfl rfl (by decide +kernel)
set_option maxRecDepth 65536 in
theorem w_c6 : (Jvm.Cond.code ({ cls := "java/lang/StringUTF16", name := "coderFromArrayLen", desc := "([BI)B" } : Jvm.MethodName) jdk_52_method_15_code (2 : Nat) (Option.some Jvm.ClassFile.FieldType.byte)).before args0 about1 = true := code_word (m := ⟨8, 1⟩) (meth := k8m1) (c := k8c1) (by decide +kernel) rfl rfl rfl (by decide +kernel)
set_option maxRecDepth 65536 in
theorem w_c7 : (Jvm.Cond.code ({ cls := "com/example/stackweave/stackweave/classfile/VerificationType", name := "<init>", desc := "(ILjava/lang/String;I)V" } : Jvm.MethodName) prog_38_method_1_code (4 : Nat) (Option.none : Option Jvm.ClassFile.FieldType)).before args0 about1 = true := code_word (m := ⟨10, 0⟩) (meth := k10m0) (c := k10c0) (by decide +kernel) rfl rfl rfl (by decide +kernel)
set_option maxRecDepth 65536 in
theorem w_c8 : (Jvm.Cond.code ({ cls := "java/lang/Record", name := "<init>", desc := "()V" } : Jvm.MethodName) jdk_30_method_1_code (1 : Nat) (Option.none : Option Jvm.ClassFile.FieldType)).before args0 about1 = true := code_word (m := ⟨9, 0⟩) (meth := k9m0) (c := k9c0) (by decide +kernel) rfl rfl rfl (by decide +kernel)
set_option maxRecDepth 65536 in
theorem w_c9 : (Jvm.Cond.code ({ cls := "com/example/stackweave/stackweave/classfile/VerificationType", name := "isReference", desc := "()Z" } : Jvm.MethodName) prog_38_method_10_code (1 : Nat) (Option.some Jvm.ClassFile.FieldType.boolean)).before args0 about1 = true := code_word (m := ⟨10, 1⟩) (meth := k10m1) (c := k10c1) (by decide +kernel) rfl rfl rfl (by decide +kernel)
set_option maxRecDepth 65536 in
theorem w_c10 : (Jvm.Cond.code ({ cls := "com/example/stackweave/stackweave/classfile/VerificationType", name := "kind", desc := "()Lcom/example/stackweave/stackweave/classfile/ValueKind;" } : Jvm.MethodName) prog_38_method_13_code (2 : Nat) (Option.some (Jvm.ClassFile.FieldType.object "com/example/stackweave/stackweave/classfile/ValueKind"))).before args0 about1 = true := code_word (m := ⟨10, 3⟩) (meth := k10m3) (c := k10c3) (by decide +kernel) rfl rfl rfl (by decide +kernel)
set_option maxRecDepth 65536 in
theorem w_c11 : (Jvm.Cond.code ({ cls := "com/example/stackweave/stackweave/classfile/VerificationType", name := "isUninitialized", desc := "()Z" } : Jvm.MethodName) prog_38_method_11_code (1 : Nat) (Option.some Jvm.ClassFile.FieldType.boolean)).before args0 about1 = true := code_word (m := ⟨10, 2⟩) (meth := k10m2) (c := k10c2) (by decide +kernel) rfl rfl rfl (by decide +kernel)
def codes1 : List Jvm.Cond := [Jvm.Cond.code x code maxLocals ret, Jvm.Cond.code ({ cls := "java/lang/String", name := "<init>", desc := "([C)V" } : Jvm.MethodName) jdk_42_method_3_code (2 : Nat) (Option.none : Option Jvm.ClassFile.FieldType), Jvm.Cond.code ({ cls := "java/lang/String", name := "<init>", desc := "([CIILjava/lang/Void;)V" } : Jvm.MethodName) jdk_42_method_149_code (6 : Nat) (Option.none : Option Jvm.ClassFile.FieldType), Jvm.Cond.code ({ cls := "java/lang/Object", name := "<init>", desc := "()V" } : Jvm.MethodName) object_method_1_code (1 : Nat) (Option.none : Option Jvm.ClassFile.FieldType), Jvm.Cond.code ({ cls := "java/lang/StringUTF16", name := "compress", desc := "([CII)[B" } : Jvm.MethodName) jdk_52_method_16_code (6 : Nat) (Option.some (Jvm.ClassFile.FieldType.array Jvm.ClassFile.FieldType.byte)), Jvm.Cond.code ({ cls := "java/lang/StringUTF16", name := "compress", desc := "([CI[BII)I" } : Jvm.MethodName) jdk_52_method_21_code (7 : Nat) (Option.some Jvm.ClassFile.FieldType.int), Jvm.Cond.code ({ cls := "java/lang/StringUTF16", name := "coderFromArrayLen", desc := "([BI)B" } : Jvm.MethodName) jdk_52_method_15_code (2 : Nat) (Option.some Jvm.ClassFile.FieldType.byte), Jvm.Cond.code ({ cls := "com/example/stackweave/stackweave/classfile/VerificationType", name := "<init>", desc := "(ILjava/lang/String;I)V" } : Jvm.MethodName) prog_38_method_1_code (4 : Nat) (Option.none : Option Jvm.ClassFile.FieldType), Jvm.Cond.code ({ cls := "java/lang/Record", name := "<init>", desc := "()V" } : Jvm.MethodName) jdk_30_method_1_code (1 : Nat) (Option.none : Option Jvm.ClassFile.FieldType), Jvm.Cond.code ({ cls := "com/example/stackweave/stackweave/classfile/VerificationType", name := "isReference", desc := "()Z" } : Jvm.MethodName) prog_38_method_10_code (1 : Nat) (Option.some Jvm.ClassFile.FieldType.boolean), Jvm.Cond.code ({ cls := "com/example/stackweave/stackweave/classfile/VerificationType", name := "kind", desc := "()Lcom/example/stackweave/stackweave/classfile/ValueKind;" } : Jvm.MethodName) prog_38_method_13_code (2 : Nat) (Option.some (Jvm.ClassFile.FieldType.object "com/example/stackweave/stackweave/classfile/ValueKind")), Jvm.Cond.code ({ cls := "com/example/stackweave/stackweave/classfile/VerificationType", name := "isUninitialized", desc := "()Z" } : Jvm.MethodName) prog_38_method_11_code (1 : Nat) (Option.some Jvm.ClassFile.FieldType.boolean)]
set_option maxRecDepth 65536 in
theorem codes_eq : words1.filter isCode = codes1 := rfl
theorem w_codes : ∀ c ∈ words1.filter isCode, c.before args0 about1 = true := by
  rw [codes_eq]
  intro c hc
  simp only [codes1, List.mem_cons, List.not_mem_nil, or_false] at hc
  rcases hc with rfl | rfl | rfl | rfl | rfl | rfl | rfl | rfl | rfl | rfl | rfl | rfl
  · exact w_c0
  · exact w_c1
  · exact w_c2
  · exact w_c3
  · exact w_c4
  · exact w_c5
  · exact w_c6
  · exact w_c7
  · exact w_c8
  · exact w_c9
  · exact w_c10
  · exact w_c11
set_option maxRecDepth 65536 in
theorem w_t1 : (words1.take 24).all (fun c => isCode c || c.before args0 about1) = true := by decide +kernel
set_option maxRecDepth 65536 in
theorem w_t2 : ((words1.drop 24).take 24).all (fun c => isCode c || c.before args0 about1) = true := by decide +kernel
set_option maxRecDepth 65536 in
theorem w_t3 : (((words1.drop 24).drop 24).take 24).all (fun c => isCode c || c.before args0 about1) = true := by decide +kernel
set_option maxRecDepth 65536 in
theorem w_t4 : (((words1.drop 24).drop 24).drop 24).all (fun c => isCode c || c.before args0 about1) = true := by decide +kernel
theorem w_tables : (allAtoms (Jvm.Cond.code x code maxLocals ret :: tables_1)).before args0 about1 = true := by
  rw [allAtoms_all]
  show words1.all (fun c => c.before args0 about1) = true
  refine all_split ?_ w_codes
  rw [← List.take_append_drop 24 words1, List.all_append, w_t1, ← List.take_append_drop 24 (words1.drop 24), List.all_append, w_t2, ← List.take_append_drop 24 ((words1.drop 24).drop 24), List.all_append, w_t3, w_t4]
  rfl
set_option maxRecDepth 65536 in
theorem w_rest : rest_1_c.before args0 about1 = true := by decide +kernel
set_option maxRecDepth 65536 in
theorem w_case : (Jvm.Cond.and given_1 narrow_1).before args0 about1 = true := by decide +kernel
theorem w_applies : (headSpec (Jvm.Cond.code x code maxLocals ret :: tables_1) room_1).applies x e0.platform about1 = true :=
  (Spec.applies_iff w_frames).mpr ⟨w_running, w_runnable, w_alone, w_named, w_hears, w_ripe, w_room, w_tables⟩
theorem atStart : AtStart classFile x code maxLocals ret World_1 tables_1 room_1 Calls_1 rest_1 Pre_1 launch0 p0 e0 about1 theMethod args0 below0 :=
  ⟨lists_1, trivial, launch0.admits_env _ _ _, launch0.least_env, fairChoices_fair.cas, fairChoices_fair.clock, w_frames, w_args, w_heap, w_applies, trivial, w_rest, w_case⟩
end start1
theorem witness_1 : WitnessClaimed_1 := ⟨start1.p0, start1.e0, start1.about1, start1.theMethod, start1.args0, start1.below0, start1.atStart⟩
end Jvm.Pilot.@@N@@
