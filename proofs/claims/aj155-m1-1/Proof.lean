import JvmDerived
import JvmDerived.Pilot.@@N@@Statement
import JvmDerived.Pilot.@@N@@Code
set_option linter.unusedVariables false
set_option linter.unusedSimpArgs false
namespace Jvm.Pilot.@@N@@
open Jvm Jvm.ClassFile Sem Op Lib Jvm.Free Jvm.Stand Jvm.LawKit Jvm.RoadKit Bundle Jvm.Pilot.@@N@@.Jvm.D

theorem own_and3 (x : Int32) : (x &&& (3 : Int32)) = (0 : Int32) ∨ (x &&& (3 : Int32)) = (1 : Int32) ∨ (x &&& (3 : Int32)) = (2 : Int32) ∨ (x &&& (3 : Int32)) = (3 : Int32) := by
  have h1 := c_mask x 3 2 (by decide) (by decide)
  have h3 : (x &&& (3 : Int32)).toInt = 0 ∨ (x &&& (3 : Int32)).toInt = 1 ∨ (x &&& (3 : Int32)).toInt = 2 ∨ (x &&& (3 : Int32)).toInt = 3 := by rw [h1]; omega
  rcases h3 with h | h | h | h
  · exact (Or.inl (Int32.toInt_inj.mp h))
  · exact (Or.inr (Or.inl (Int32.toInt_inj.mp h)))
  · exact (Or.inr (Or.inr (Or.inl (Int32.toInt_inj.mp h))))
  · exact (Or.inr (Or.inr (Or.inr (Int32.toInt_inj.mp h))))
theorem own_node (x : Int32) : ¬ ((x &&& (2147483647 : Int32)) < (0 : Int32)) := by
  have h := c_mask x 2147483647 31 (by decide) (by decide)
  rw [Int32.lt_iff_toInt_lt, h]
  show ¬ (_ < (0 : Int))
  omega
theorem d1_0 : decode prog_31_method_2_code 0 = .ok (.new 8, 3) := by decide +kernel
theorem d1_3 : decode prog_31_method_2_code 3 = .ok (.dup, 1) := by decide +kernel
theorem d1_4 : decode prog_31_method_2_code 4 = .ok (.aload_n 0, 1) := by decide +kernel
theorem d1_5 : decode prog_31_method_2_code 5 = .ok (.invokevirtual 13, 3) := by decide +kernel
theorem d1_8 : decode prog_31_method_2_code 8 = .ok (.checkcast 14, 3) := by decide +kernel
theorem d1_11 : decode prog_31_method_2_code 11 = .ok (.invokespecial 18, 3) := by decide +kernel
theorem d2_0 : decode prog_31_method_1_code 0 = .ok (.aload_n 0, 1) := by decide +kernel
theorem d2_1 : decode prog_31_method_1_code 1 = .ok (.invokespecial 1, 3) := by decide +kernel
theorem d2_4 : decode prog_31_method_1_code 4 = .ok (.aload_n 0, 1) := by decide +kernel
theorem d2_5 : decode prog_31_method_1_code 5 = .ok (.aload_n 1, 1) := by decide +kernel
theorem d2_6 : decode prog_31_method_1_code 6 = .ok (.putfield 7, 3) := by decide +kernel
theorem d2_9 : decode prog_31_method_1_code 9 = .ok (.return_, 1) := by decide +kernel
theorem pn_0 : plainName "com/example/latchkey/latchkey/LockTokens" = true := by first | (simp [plainName, overriddenIn]; done) | decide +kernel
theorem efinit2 (m : MethodId) (o0_ : Addr) (o1_ : Addr) : entryFrame m #[(.ref o0_), (.ref o1_)] 2 = mkF m 0 #[.val (.ref o0_), .val (.ref o1_)] [] := by first | (simp [entryFrame, mkF, argsToLocals, Value.category]; done) | rfl
def Qinit2 (Z : State) (o0_ : Addr) (o1_ : Addr) (ko1_ : ClassId) (h0 : Heap) (n0 : Nat) (v : Option Value) (h : Heap) (L : List Loc) : Prop := v = none ∧ Fr n0 L ∧ Keep h0 h [o0_] ∧ Exa Z h o0_ "com/example/latchkey/latchkey/LockTokens" ∧ Fld Z h o0_ "com/example/latchkey/latchkey/LockTokens" "tokens" "[J" (.ref o1_)
set_option maxRecDepth 65536 in
set_option maxHeartbeats 40000000 in
theorem rminit2 (l : Launch) (Z : State) (a0 : Array Value) (hw : ∀ d ∈ tables_1, d.before a0 Z = true) (ws : List Jvm.Cond) (o0_ : Addr) (o1_ : Addr) (ko1_ : ClassId) (h0 : Heap) (n0 : Nat) (O0 : Old Z n0 h0) (P0 : Exa Z h0 o0_ "com/example/latchkey/latchkey/LockTokens") (P1 : Fld Z h0 o0_ "com/example/latchkey/latchkey/LockTokens" "tokens" "[J" .null) (P2 : Arv Z h0 o1_ ko1_ .long (0 : Int32) [] (.long (0 : Int64))) (P3 : Exa Z h0 o1_ "[J") (P4 : n0 ≤ o0_) :
    MetFree l (⟨"com/example/latchkey/latchkey/LockTokens", "<init>", "([J)V"⟩ : MethodName) (head1 (Jvm.Cond.code (⟨"com/example/latchkey/latchkey/LockTokens", "<init>", "([J)V"⟩ : MethodName) prog_31_method_1_code 2 none :: ws) ({ frames := 1, cells := 0, slots := 0, locals := 12 } : Room)) (fun a U => a = #[(.ref o0_), (.ref o1_)] ∧ Z.Warmed39 U.vm ∧ U.heap = h0) (fun _ _ _ _ _ => True) (fun _ U o U' => ∃ v L, o = .returned v ∧ Qinit2 Z o0_ o1_ ko1_ h0 n0 v U'.heap L ∧ FrameEnd U o U' L ({ frames := 1, cells := 0, slots := 0, locals := 12 } : Room).cells ({ frames := 1, cells := 0, slots := 0, locals := 12 } : Room).slots) := by
  refine MetFree.of_bodySF (plainFor_of_name pn_0) hisR ?_
  intro p e s m args below meth c s₁ Bd hml0 hP hK
  obtain ⟨rfl, hZ, hh⟩ := hP
  have hx := Bd.exec
  have hby := Bd.bytes
  have hml : c.maxLocals = 2 := hml0
  have hown : s.vm.findClass "com/example/latchkey/latchkey/LockTokens" = some m.cls := findClass_of_methodNamed Bd.named
  have hnm := (name_of_methodNamed Bd.named Bd.method).1
  have X0 : Stand p l e ({ frames := 1, cells := 0, slots := 0, locals := 12 } : Room) s m #[(.ref o0_), (.ref o1_)] below meth c s₁ [] 0 0 := Stand.of_body Bd
  have e0 : s₁.heap = h0 := by rw [← hh, Bd.state]; rfl
  have N0 := Fr.nil n0
  have pre0 : ∀ t, Steps p.tables e below (s₁.setTop (mkF m 0 #[.val (.ref o0_), .val (.ref o1_)] [])) t → Steps p.tables e below (s₁.setTop (entryFrame m #[(.ref o0_), (.ref o1_)] 2)) t := fun t k => castTop (efinit2 m o0_ o1_) k
  have K0 : Keep h0 h0 [o0_] := Keep.refl _ _
  obtain ⟨T1, X1, e1, st1⟩ := initO X0 hx hZ hown (hw _ (List.mem_of_getElem? (i := 19) rfl)) (hw _ (List.mem_of_getElem? (i := 20) rfl)) (hw _ (List.mem_of_getElem? (i := 21) rfl)) e0 (g := (mkF m 1 #[.val (.ref o0_), .val (.ref o1_)] [(.ref o0_)])) rfl (by rw [hml]; rfl) rfl (hb hby d2_1) (by decide) (W := 0) (by show 2 * 0 + _ ≤ _; exact Nat.le_of_eq rfl) (by decide)
  obtain ⟨T2, h2, X2, e2, W2, st2⟩ := putF X1 hx hZ hown (host := "") (Or.inl (hw _ (List.mem_of_getElem? (i := 22) rfl))) Via.refl e1 P1 P0 (Or.inr ⟨(hw _ (List.mem_of_getElem? (i := 23) rfl)), rfl, hnm⟩) (hw _ (List.mem_of_getElem? (i := 6) rfl)) (ty := (.array .long)) (by decide) rfl rfl (g := (mkF m 6 #[.val (.ref o0_), .val (.ref o1_)] [(.ref o1_), (.ref o0_)])) rfl rfl (hb hby d2_6)
  have N3 := Fr.snoc X2 N0 P4
  have f4 : Fld Z h2 o0_ "com/example/latchkey/latchkey/LockTokens" "tokens" "[J" (.ref o1_) := P1.same W2
  have pre5 : ∀ t, Steps p.tables e below (T2.setTop (mkF m 9 #[.val (.ref o0_), .val (.ref o1_)] [])) t → Steps p.tables e below (s₁.setTop (entryFrame m #[(.ref o0_), (.ref o1_)] 2)) t := by
    intro t kt
    refine pre0 t ?_
    show Steps p.tables e below (s₁.setTop (mkF m 0 #[.val (.ref o0_), .val (.ref o1_)] [])) _
    refine XS.aloadN X0.here hx rfl (hb hby d2_0) rfl rfl ?_
    show Steps p.tables e below (s₁.setTop (mkF m 1 #[.val (.ref o0_), .val (.ref o1_)] [(.ref o0_)])) _
    refine st1 _ ?_
    show Steps p.tables e below (T1.setTop (mkF m 4 #[.val (.ref o0_), .val (.ref o1_)] [])) _
    refine XS.aloadN X1.here hx rfl (hb hby d2_4) rfl rfl ?_
    show Steps p.tables e below (T1.setTop (mkF m 5 #[.val (.ref o0_), .val (.ref o1_)] [(.ref o0_)])) _
    refine XS.aloadN X1.here hx rfl (hb hby d2_5) rfl rfl ?_
    show Steps p.tables e below (T1.setTop (mkF m 6 #[.val (.ref o0_), .val (.ref o1_)] [(.ref o1_), (.ref o0_)])) _
    refine st2 _ ?_
    exact kt
  have f7 : Keep h0 h2 [o0_] := K0.wr W2 (Or.inl (List.mem_of_getElem? (i := 0) rfl))
  have f8 : Exa Z h2 o0_ "com/example/latchkey/latchkey/LockTokens" := P0.wr W2
  obtain ⟨fs, hr, hrun, hended, hW, hsame⟩ := X2.leave (v := none) (fun _ => rfl)
  refine ⟨_, _, pre5 _ (X2.returnOut hx Bd.returns (hb hby d2_9) hr), hrun, hended, _, _, rfl, ?_, ⟨_, rfl⟩, hW, hsame.mono (by decide) (by decide)⟩
  show Qinit2 Z o0_ o1_ ko1_ h0 n0 _ T2.heap _
  rw [e2]
  exact ⟨rfl, N3, f7, f8, f4⟩
theorem pd_0 : parseMethodDescriptor "([J)V" = some ⟨[(.array .long)], none⟩ := by decide +kernel
theorem d1_14 : decode prog_31_method_2_code 14 = .ok (.areturn, 1) := by decide +kernel
theorem efof1 (m : MethodId) (o0_ : Addr) : entryFrame m #[(.ref o0_)] 1 = mkF m 0 #[.val (.ref o0_)] [] := by first | (simp [entryFrame, mkF, argsToLocals, Value.category]; done) | rfl
def Qof1 (Z : State) (o0_ : Addr) (ko0_ : ClassId) (h0 : Heap) (n0 : Nat) (v : Option Value) (h : Heap) (L : List Loc) : Prop := ∃ nb1 : Addr, ∃ nb5 : Addr, v = some (.ref nb1) ∧ Fr n0 L ∧ Keep h0 h [] ∧ h0.size ≤ nb1 ∧ h0.size ≤ nb5 ∧ Exa Z h nb1 "com/example/latchkey/latchkey/LockTokens" ∧ Fld Z h nb1 "com/example/latchkey/latchkey/LockTokens" "tokens" "[J" (.ref nb5) ∧ Arv Z h nb5 ko0_ .long (0 : Int32) [] (.long (0 : Int64)) ∧ Exa Z h nb5 "[J"
set_option maxRecDepth 65536 in
set_option maxHeartbeats 40000000 in
theorem rmof1 (l : Launch) (Z : State) (a0 : Array Value) (hw : ∀ d ∈ tables_1, d.before a0 Z = true) (ws : List Jvm.Cond) (o0_ : Addr) (ko0_ : ClassId) (h0 : Heap) (n0 : Nat) (O0 : Old Z n0 h0) (P0 : Arv Z h0 o0_ ko0_ .long (0 : Int32) [] (.long (0 : Int64))) (P1 : Exa Z h0 o0_ "[J") :
    MetFree l (⟨"com/example/latchkey/latchkey/LockTokens", "of", "([J)Lcom/example/latchkey/latchkey/LockTokens;"⟩ : MethodName) (head1 (Jvm.Cond.code (⟨"com/example/latchkey/latchkey/LockTokens", "of", "([J)Lcom/example/latchkey/latchkey/LockTokens;"⟩ : MethodName) prog_31_method_2_code 1 (some (.object "com/example/latchkey/latchkey/LockTokens")) :: ws) ({ frames := 2, cells := 2, slots := 1, locals := 26 } : Room)) (fun a U => a = #[(.ref o0_)] ∧ Z.Warmed39 U.vm ∧ U.heap = h0) (fun _ _ _ _ _ => True) (fun _ U o U' => ∃ v L, o = .returned v ∧ Qof1 Z o0_ ko0_ h0 n0 v U'.heap L ∧ FrameEnd U o U' L ({ frames := 2, cells := 2, slots := 1, locals := 26 } : Room).cells ({ frames := 2, cells := 2, slots := 1, locals := 26 } : Room).slots) := by
  refine MetFree.of_bodySF (plainFor_of_name pn_0) hisR ?_
  intro p e s m args below meth c s₁ Bd hml0 hP hK
  obtain ⟨rfl, hZ, hh⟩ := hP
  have hx := Bd.exec
  have hby := Bd.bytes
  have hml : c.maxLocals = 1 := hml0
  have hown : s.vm.findClass "com/example/latchkey/latchkey/LockTokens" = some m.cls := findClass_of_methodNamed Bd.named
  have hnm := (name_of_methodNamed Bd.named Bd.method).1
  have X0 : Stand p l e ({ frames := 2, cells := 2, slots := 1, locals := 26 } : Room) s m #[(.ref o0_)] below meth c s₁ [] 0 0 := Stand.of_body Bd
  have e0 : s₁.heap = h0 := by rw [← hh, Bd.state]; rfl
  have N0 := Fr.nil n0
  have pre0 : ∀ t, Steps p.tables e below (s₁.setTop (mkF m 0 #[.val (.ref o0_)] [])) t → Steps p.tables e below (s₁.setTop (entryFrame m #[(.ref o0_)] 1)) t := fun t k => castTop (efof1 m o0_) k
  have K0 : Keep h0 h0 [] := Keep.refl _ _
  obtain ⟨T1, h1, X1, e1, E1, A1, D1, -, st1⟩ := newO X0 hx hZ hown (hw _ (List.mem_of_getElem? (i := 5) rfl)) (hw _ (List.mem_of_getElem? (i := 6) rfl)) (hw _ (List.mem_of_getElem? (i := 3) rfl)) e0 (g := (mkF m 0 #[.val (.ref o0_)] [])) rfl (hb hby d1_0) (by decide) (by decide)
  obtain ⟨b1, g1⟩ : ∃ z, z = h0.size := ⟨_, rfl⟩
  rw [← g1] at A1 D1 st1
  have ge2 : n0 ≤ b1 := Nat.le_trans (Nat.le_trans (Nat.le_of_eq O0.1.symm) O0.2.1) (Nat.le_of_eq g1.symm)
  have sz3 : h0.size ≤ b1 := Nat.le_trans K0.1 (Nat.le_of_eq g1.symm)
  have f4 : Fld Z h1 b1 "com/example/latchkey/latchkey/LockTokens" "tokens" "[J" .null := D1 (Or.inr (hw _ (List.mem_of_getElem? (i := 23) rfl))) (ty := (.array .long)) (by decide)
  have f6 : Arv Z h1 o0_ ko0_ .long (0 : Int32) [] (.long (0 : Int64)) := P0.ext E1
  have f7 : Exa Z h1 o0_ "[J" := P1.ext E1
  obtain ⟨T5, h5, X5, e5, E5, A5, Z5, st5⟩ := cloneH X1 hx hZ hown (hw _ (List.mem_of_getElem? (i := 7) rfl)) (hw _ (List.mem_of_getElem? (i := 8) rfl)) (hw _ (List.mem_of_getElem? (i := 12) rfl)) (hw _ (List.mem_of_getElem? (i := 10) rfl)) (hw _ (List.mem_of_getElem? (i := 11) rfl)) (hw _ (List.mem_of_getElem? (i := 13) rfl)) e1 f6.arh f7 (g := (mkF m 5 #[.val (.ref o0_)] [(.ref o0_), (.ref b1), (.ref b1)])) rfl (by rw [hml]; rfl) rfl (hb hby d1_5) (by decide) (W := 2) (cap := 0) (by show 2 * 0 + _ ≤ _; exact Nat.le_of_eq rfl) (by decide) (by decide) (by decide) (by decide)
  obtain ⟨b5, g5⟩ : ∃ z, z = h1.size := ⟨_, rfl⟩
  rw [← g5] at A5 Z5 st5
  have f8 : Old Z n0 h1 := O0.ext E1
  have ge9 : n0 ≤ b5 := Nat.le_trans (Nat.le_trans (Nat.le_of_eq f8.1.symm) f8.2.1) (Nat.le_of_eq g5.symm)
  have f10 : Keep h0 h1 [] := K0.ext E1
  have sz11 : h0.size ≤ b5 := Nat.le_trans f10.1 (Nat.le_of_eq g5.symm)
  have f12 : Arv Z h5 b5 ko0_ .long (0 : Int32) [] (.long (0 : Int64)) := A5
  obtain ⟨T13, X13, e13, st13⟩ := castY X5 hx hZ hown (hw _ (List.mem_of_getElem? (i := 14) rfl)) e5 (Ins.self Z5) (g := (mkF m 8 #[.val (.ref o0_)] [(.ref b5), (.ref b1), (.ref b1)])) rfl rfl (hb hby d1_8)
  have f15 : Exa Z h5 b1 "com/example/latchkey/latchkey/LockTokens" := A1.ext E5
  have f16 : Fld Z h5 b1 "com/example/latchkey/latchkey/LockTokens" "tokens" "[J" .null := f4.ext E5
  have f17 : Old Z n0 h5 := f8.ext E5
  obtain ⟨_, _, ⟨T14, L14, k14, n14⟩, -, X14, ⟨Lc14, hQ14, l14, y14, z14⟩, st14⟩ := X13.specialBack hx (y := (⟨"com/example/latchkey/latchkey/LockTokens", "<init>", "([J)V"⟩ : MethodName)) rfl hown (mvT hZ (hw _ (List.mem_of_getElem? (i := 16) rfl))) (mvT hZ (hw _ (List.mem_of_getElem? (i := 17) rfl))) (mvT hZ (hw _ (List.mem_of_getElem? (i := 18) rfl))) (by decide) (backOf (W := 1) (rminit2 l Z a0 hw [] b1 b5 ko0_ h5 n0 f17 f15 f16 f12 Z5 ge2) hZ (hw _ (List.mem_of_getElem? (i := 18) rfl)) (hw _ (List.mem_of_getElem? (i := 3) rfl)) (by decide) (by decide)) (g := (mkF m 11 #[.val (.ref o0_)] [(.ref b5), (.ref b1), (.ref b1)])) rfl (by rw [hml]; rfl) (Steps.refl _) (a := b1) (argsL := [(.ref b5)]) (rest := [(.ref b1)]) (lenOf pd_0 rfl) rfl (by show 2 * 0 + _ ≤ _; exact Nat.le_of_eq rfl) (hb hby d1_11) (fun _ _ => ⟨rfl, e13, (by decide : 2 + 0 ≤ _), (by decide : 1 + 0 ≤ _)⟩)
  dsimp only [Pt.U, Pt.locs, Pt.cells, Pt.slots] at X14 l14 y14 z14 st14 hQ14
  subst l14 y14 z14
  obtain ⟨h14, e14⟩ : ∃ z, T14.heap = z := ⟨_, rfl⟩
  rw [e14] at hQ14
  obtain ⟨rfl, N14q, K14, g14_0, g14_1⟩ := hQ14
  have N18 := Fr.app N0 N14q
  have pre19 : ∀ t, Steps p.tables e below (T14.setTop (mkF m 14 #[.val (.ref o0_)] [(.ref b1)])) t → Steps p.tables e below (s₁.setTop (entryFrame m #[(.ref o0_)] 1)) t := by
    intro t kt
    refine pre0 t ?_
    show Steps p.tables e below (s₁.setTop (mkF m 0 #[.val (.ref o0_)] [])) _
    refine st1 _ ?_
    show Steps p.tables e below (T1.setTop (mkF m 3 #[.val (.ref o0_)] [(.ref b1)])) _
    refine XS.dup X1.here hx rfl (hb hby d1_3) rfl rfl ?_
    show Steps p.tables e below (T1.setTop (mkF m 4 #[.val (.ref o0_)] [(.ref b1), (.ref b1)])) _
    refine XS.aloadN X1.here hx rfl (hb hby d1_4) rfl rfl ?_
    show Steps p.tables e below (T1.setTop (mkF m 5 #[.val (.ref o0_)] [(.ref o0_), (.ref b1), (.ref b1)])) _
    refine st5 _ ?_
    show Steps p.tables e below (T5.setTop (mkF m 8 #[.val (.ref o0_)] [(.ref b5), (.ref b1), (.ref b1)])) _
    refine st13 _ ?_
    show Steps p.tables e below (T13.setTop (mkF m 11 #[.val (.ref o0_)] [(.ref b5), (.ref b1), (.ref b1)])) _
    refine st14.trans ?_
    exact kt
  have f21 : Keep h0 h5 [] := f10.ext E5
  have f22 : Keep h0 h14 [] := f21.trans K14 (allS (Or.inr sz3) all0)
  have ne24 : b1 ≠ b5 := Nat.ne_of_lt (Nat.lt_of_lt_of_le A1.lt (Nat.le_of_eq g5.symm))
  have f23 : Arv Z h14 b5 ko0_ .long (0 : Int32) [] (.long (0 : Int64)) := f12.keep K14 (ninS (Ne.symm ne24) nin0)
  have f25 : Exa Z h14 b5 "[J" := Z5.keep K14
  obtain ⟨fs, hr, hrun, hended, hW, hsame⟩ := X14.leave (v := some (.ref b1)) (fun h => by rw [Bd.returns] at h; cases h)
  refine ⟨_, _, pre19 _ (retOut X14 hx Bd.returns rfl (Or.inr (Or.inr (Or.inr (Or.inr ⟨rfl, rfl, rfl⟩)))) (hb hby d1_14) hr), hrun, hended, _, _, rfl, ?_, ⟨_, rfl⟩, hW, hsame.mono (by decide) (by decide)⟩
  show Qof1 Z o0_ ko0_ h0 n0 _ T14.heap _
  rw [e14]
  exact ⟨b1, b5, rfl, N18, f22, sz3, sz11, g14_0, g14_1, f23, f25⟩
theorem pd_1 : parseMethodDescriptor "([J)Lcom/example/latchkey/latchkey/LockTokens;" = some ⟨[(.array .long)], some (.object "com/example/latchkey/latchkey/LockTokens")⟩ := by decide +kernel
theorem d3_0 : decode prog_31_method_3_code 0 = .ok (.iload_n 1, 1) := by decide +kernel
theorem d3_1 : decode prog_31_method_3_code 1 = .ok (.aload_n 0, 1) := by decide +kernel
theorem d3_2 : decode prog_31_method_3_code 2 = .ok (.getfield 7, 3) := by decide +kernel
theorem d3_5 : decode prog_31_method_3_code 5 = .ok (.arraylength, 1) := by decide +kernel
theorem d3_6 : decode prog_31_method_3_code 6 = .ok (.if_icmp .ge 12, 3) := by decide +kernel
theorem d3_18 : decode prog_31_method_3_code 18 = .ok (.lconst 0, 1) := by decide +kernel
theorem d3_19 : decode prog_31_method_3_code 19 = .ok (.lreturn, 1) := by decide +kernel
theorem efget3 (m : MethodId) (o0_ : Addr) : entryFrame m #[(.ref o0_), (.int (0 : Int32))] 2 = mkF m 0 #[.val (.ref o0_), .val (.int (0 : Int32))] [] := by first | (simp [entryFrame, mkF, argsToLocals, Value.category]; done) | rfl
def Qget3 (Z : State) (o0_ : Addr) (o1_ : Addr) (ko1_ : ClassId) (h0 : Heap) (n0 : Nat) (v : Option Value) (h : Heap) (L : List Loc) : Prop := v = some (.long (0 : Int64)) ∧ Fr n0 L ∧ h = h0
set_option maxRecDepth 65536 in
set_option maxHeartbeats 40000000 in
theorem rmget3 (l : Launch) (Z : State) (a0 : Array Value) (hw : ∀ d ∈ tables_1, d.before a0 Z = true) (ws : List Jvm.Cond) (o0_ : Addr) (o1_ : Addr) (ko1_ : ClassId) (h0 : Heap) (n0 : Nat) (O0 : Old Z n0 h0) (P0 : Exa Z h0 o0_ "com/example/latchkey/latchkey/LockTokens") (P1 : Fld Z h0 o0_ "com/example/latchkey/latchkey/LockTokens" "tokens" "[J" (.ref o1_)) (P2 : Arv Z h0 o1_ ko1_ .long (0 : Int32) [] (.long (0 : Int64))) (P3 : Exa Z h0 o1_ "[J") :
    MetFree l (⟨"com/example/latchkey/latchkey/LockTokens", "get", "(I)J"⟩ : MethodName) (head1 (Jvm.Cond.code (⟨"com/example/latchkey/latchkey/LockTokens", "get", "(I)J"⟩ : MethodName) prog_31_method_3_code 2 (some .long) :: ws) ({ frames := 0, cells := 0, slots := 0, locals := 0 } : Room)) (fun a U => a = #[(.ref o0_), (.int (0 : Int32))] ∧ Z.Warmed39 U.vm ∧ U.heap = h0) (fun _ _ _ _ _ => True) (fun _ U o U' => ∃ v L, o = .returned v ∧ Qget3 Z o0_ o1_ ko1_ h0 n0 v U'.heap L ∧ FrameEnd U o U' L ({ frames := 0, cells := 0, slots := 0, locals := 0 } : Room).cells ({ frames := 0, cells := 0, slots := 0, locals := 0 } : Room).slots) := by
  refine MetFree.of_bodySF (plainFor_of_name pn_0) hisR ?_
  intro p e s m args below meth c s₁ Bd hml0 hP hK
  obtain ⟨rfl, hZ, hh⟩ := hP
  have hx := Bd.exec
  have hby := Bd.bytes
  have hml : c.maxLocals = 2 := hml0
  have hown : s.vm.findClass "com/example/latchkey/latchkey/LockTokens" = some m.cls := findClass_of_methodNamed Bd.named
  have hnm := (name_of_methodNamed Bd.named Bd.method).1
  have X0 : Stand p l e ({ frames := 0, cells := 0, slots := 0, locals := 0 } : Room) s m #[(.ref o0_), (.int (0 : Int32))] below meth c s₁ [] 0 0 := Stand.of_body Bd
  have e0 : s₁.heap = h0 := by rw [← hh, Bd.state]; rfl
  have N0 := Fr.nil n0
  have pre0 : ∀ t, Steps p.tables e below (s₁.setTop (mkF m 0 #[.val (.ref o0_), .val (.int (0 : Int32))] [])) t → Steps p.tables e below (s₁.setTop (entryFrame m #[(.ref o0_), (.int (0 : Int32))] 2)) t := fun t k => castTop (efget3 m o0_) k
  have K0 : Keep h0 h0 [] := Keep.refl _ _
  obtain ⟨T1, X1, e1, st1⟩ := getF X0 hx hZ hown (host := "") (Or.inl (hw _ (List.mem_of_getElem? (i := 22) rfl))) Via.refl e0 P1 (g := (mkF m 2 #[.val (.ref o0_), .val (.int (0 : Int32))] [(.ref o0_), (.int (0 : Int32))])) rfl rfl (hb hby d3_2)
  obtain ⟨c2, r2, q2, s2, z2, y2, G2⟩ := id P2
  have pre3 : ∀ t, Steps p.tables e below (T1.setTop (mkF m 19 #[.val (.ref o0_), .val (.int (0 : Int32))] [(.long (0 : Int64))])) t → Steps p.tables e below (s₁.setTop (entryFrame m #[(.ref o0_), (.int (0 : Int32))] 2)) t := by
    intro t kt
    refine pre0 t ?_
    show Steps p.tables e below (s₁.setTop (mkF m 0 #[.val (.ref o0_), .val (.int (0 : Int32))] [])) _
    refine XS.iloadN X0.here hx rfl (hb hby d3_0) rfl ?_
    show Steps p.tables e below (s₁.setTop (mkF m 1 #[.val (.ref o0_), .val (.int (0 : Int32))] [(.int (0 : Int32))])) _
    refine XS.aloadN X0.here hx rfl (hb hby d3_1) rfl rfl ?_
    show Steps p.tables e below (s₁.setTop (mkF m 2 #[.val (.ref o0_), .val (.int (0 : Int32))] [(.ref o0_), (.int (0 : Int32))])) _
    refine st1 _ ?_
    show Steps p.tables e below (T1.setTop (mkF m 5 #[.val (.ref o0_), .val (.int (0 : Int32))] [(.ref o1_), (.int (0 : Int32))])) _
    refine X1.arraylength hx (by rw [e1]; exact r2.1) (State.isArrayOf_alike hZ.alike r2.2.1) (g := (mkF m 5 #[.val (.ref o0_), .val (.int (0 : Int32))] [(.ref o1_), (.int (0 : Int32))])) rfl rfl (hb hby d3_5) _ ?_
    rw [len_of s2 z2]
    show Steps p.tables e below (T1.setTop (mkF m 6 #[.val (.ref o0_), .val (.int (0 : Int32))] [(.int (0 : Int32)), (.int (0 : Int32))])) _
    refine XS.icmpYes X1.here hx rfl (pc0 := 6) (pc' := 18) rfl (hb hby d3_6) rfl (flt (by decide : ¬ ((0 : Int32) < (0 : Int32)))).2.1 (by decide) (by decide) ?_
    show Steps p.tables e below (T1.setTop (mkF m 18 #[.val (.ref o0_), .val (.int (0 : Int32))] [])) _
    refine XS.lconst X1.here hx rfl (hb hby d3_18) ?_
    exact kt
  obtain ⟨fs, hr, hrun, hended, hW, hsame⟩ := X1.leave (v := some (.long (0 : Int64))) (fun h => by rw [Bd.returns] at h; cases h)
  refine ⟨_, _, pre3 _ (retOut X1 hx Bd.returns rfl (Or.inr (Or.inl ⟨rfl, rfl, _, rfl⟩)) (hb hby d3_19) hr), hrun, hended, _, _, rfl, ?_, ⟨_, rfl⟩, hW, hsame.mono (by decide) (by decide)⟩
  show Qget3 Z o0_ o1_ ko1_ h0 n0 _ T1.heap _
  rw [e1]
  exact ⟨rfl, N0, rfl⟩
theorem pd_2 : parseMethodDescriptor "(I)J" = some ⟨[.int], some .long⟩ := by decide +kernel
theorem d4_0 : decode method_3_code 0 = .ok (.iload_n 0, 1) := by decide +kernel
theorem d4_1 : decode method_3_code 1 = .ok (.iload_n 1, 1) := by decide +kernel
theorem d4_2 : decode method_3_code 2 = .ok (.if_icmp .lt 5, 3) := by decide +kernel
theorem d4_5 : decode method_3_code 5 = .ok (.lconst 0, 1) := by decide +kernel
theorem d4_6 : decode method_3_code 6 = .ok (.lreturn, 1) := by decide +kernel
theorem pn_1 : plainName "com/example/latchkey/latchkey/LockTokensOfPinLaw" = true := by first | (simp [plainName, overriddenIn]; done) | decide +kernel
theorem efexpected4 (m : MethodId) (y0_ : Int64) (y1_ : Int64) (y2_ : Int64) : entryFrame m #[(.int (0 : Int32)), (.int (0 : Int32)), (.long y0_), (.long y1_), (.long y2_)] 8 = mkF m 0 #[.val (.int (0 : Int32)), .val (.int (0 : Int32)), .val (.long y0_), .second, .val (.long y1_), .second, .val (.long y2_), .second] [] := by first | (simp [entryFrame, mkF, argsToLocals, Value.category]; done) | rfl
def Qexpected4 (Z : State) (y0_ : Int64) (y1_ : Int64) (y2_ : Int64) (h0 : Heap) (n0 : Nat) (v : Option Value) (h : Heap) (L : List Loc) : Prop := v = some (.long (0 : Int64)) ∧ Fr n0 L ∧ h = h0
set_option maxRecDepth 65536 in
set_option maxHeartbeats 40000000 in
theorem rmexpected4 (l : Launch) (Z : State) (a0 : Array Value) (hw : ∀ d ∈ tables_1, d.before a0 Z = true) (ws : List Jvm.Cond) (y0_ : Int64) (y1_ : Int64) (y2_ : Int64) (h0 : Heap) (n0 : Nat) (O0 : Old Z n0 h0)  :
    MetFree l (⟨"com/example/latchkey/latchkey/LockTokensOfPinLaw", "expected", "(IIJJJ)J"⟩ : MethodName) (head1 (Jvm.Cond.code (⟨"com/example/latchkey/latchkey/LockTokensOfPinLaw", "expected", "(IIJJJ)J"⟩ : MethodName) method_3_code 8 (some .long) :: ws) ({ frames := 0, cells := 0, slots := 0, locals := 0 } : Room)) (fun a U => a = #[(.int (0 : Int32)), (.int (0 : Int32)), (.long y0_), (.long y1_), (.long y2_)] ∧ Z.Warmed39 U.vm ∧ U.heap = h0) (fun _ _ _ _ _ => True) (fun _ U o U' => ∃ v L, o = .returned v ∧ Qexpected4 Z y0_ y1_ y2_ h0 n0 v U'.heap L ∧ FrameEnd U o U' L ({ frames := 0, cells := 0, slots := 0, locals := 0 } : Room).cells ({ frames := 0, cells := 0, slots := 0, locals := 0 } : Room).slots) := by
  refine MetFree.of_bodySF (plainFor_of_name pn_1) hisR ?_
  intro p e s m args below meth c s₁ Bd hml0 hP hK
  obtain ⟨rfl, hZ, hh⟩ := hP
  have hx := Bd.exec
  have hby := Bd.bytes
  have hml : c.maxLocals = 8 := hml0
  have hown : s.vm.findClass "com/example/latchkey/latchkey/LockTokensOfPinLaw" = some m.cls := findClass_of_methodNamed Bd.named
  have hnm := (name_of_methodNamed Bd.named Bd.method).1
  have X0 : Stand p l e ({ frames := 0, cells := 0, slots := 0, locals := 0 } : Room) s m #[(.int (0 : Int32)), (.int (0 : Int32)), (.long y0_), (.long y1_), (.long y2_)] below meth c s₁ [] 0 0 := Stand.of_body Bd
  have e0 : s₁.heap = h0 := by rw [← hh, Bd.state]; rfl
  have N0 := Fr.nil n0
  have pre0 : ∀ t, Steps p.tables e below (s₁.setTop (mkF m 0 #[.val (.int (0 : Int32)), .val (.int (0 : Int32)), .val (.long y0_), .second, .val (.long y1_), .second, .val (.long y2_), .second] [])) t → Steps p.tables e below (s₁.setTop (entryFrame m #[(.int (0 : Int32)), (.int (0 : Int32)), (.long y0_), (.long y1_), (.long y2_)] 8)) t := fun t k => castTop (efexpected4 m y0_ y1_ y2_) k
  have K0 : Keep h0 h0 [] := Keep.refl _ _
  have pre1 : ∀ t, Steps p.tables e below (s₁.setTop (mkF m 6 #[.val (.int (0 : Int32)), .val (.int (0 : Int32)), .val (.long y0_), .second, .val (.long y1_), .second, .val (.long y2_), .second] [(.long (0 : Int64))])) t → Steps p.tables e below (s₁.setTop (entryFrame m #[(.int (0 : Int32)), (.int (0 : Int32)), (.long y0_), (.long y1_), (.long y2_)] 8)) t := by
    intro t kt
    refine pre0 t ?_
    show Steps p.tables e below (s₁.setTop (mkF m 0 #[.val (.int (0 : Int32)), .val (.int (0 : Int32)), .val (.long y0_), .second, .val (.long y1_), .second, .val (.long y2_), .second] [])) _
    refine XS.iloadN X0.here hx rfl (hb hby d4_0) rfl ?_
    show Steps p.tables e below (s₁.setTop (mkF m 1 #[.val (.int (0 : Int32)), .val (.int (0 : Int32)), .val (.long y0_), .second, .val (.long y1_), .second, .val (.long y2_), .second] [(.int (0 : Int32))])) _
    refine XS.iloadN X0.here hx rfl (hb hby d4_1) rfl ?_
    show Steps p.tables e below (s₁.setTop (mkF m 2 #[.val (.int (0 : Int32)), .val (.int (0 : Int32)), .val (.long y0_), .second, .val (.long y1_), .second, .val (.long y2_), .second] [(.int (0 : Int32)), (.int (0 : Int32))])) _
    refine XS.icmpNo X0.here hx rfl (hb hby d4_2) rfl (flt (by decide : ¬ ((0 : Int32) < (0 : Int32)))).1 ?_
    show Steps p.tables e below (s₁.setTop (mkF m 5 #[.val (.int (0 : Int32)), .val (.int (0 : Int32)), .val (.long y0_), .second, .val (.long y1_), .second, .val (.long y2_), .second] [])) _
    refine XS.lconst X0.here hx rfl (hb hby d4_5) ?_
    exact kt
  obtain ⟨fs, hr, hrun, hended, hW, hsame⟩ := X0.leave (v := some (.long (0 : Int64))) (fun h => by rw [Bd.returns] at h; cases h)
  refine ⟨_, _, pre1 _ (retOut X0 hx Bd.returns rfl (Or.inr (Or.inl ⟨rfl, rfl, _, rfl⟩)) (hb hby d4_6) hr), hrun, hended, _, _, rfl, ?_, ⟨_, rfl⟩, hW, hsame.mono (by decide) (by decide)⟩
  show Qexpected4 Z y0_ y1_ y2_ h0 n0 _ s₁.heap _
  rw [e0]
  exact ⟨rfl, N0, rfl⟩
theorem pd_3 : parseMethodDescriptor "(IIJJJ)J" = some ⟨[.int, .int, .long, .long, .long], some .long⟩ := by decide +kernel
theorem efget5 (m : MethodId) (o0_ : Addr) : entryFrame m #[(.ref o0_), (.int (1 : Int32))] 2 = mkF m 0 #[.val (.ref o0_), .val (.int (1 : Int32))] [] := by first | (simp [entryFrame, mkF, argsToLocals, Value.category]; done) | rfl
def Qget5 (Z : State) (o0_ : Addr) (o1_ : Addr) (ko1_ : ClassId) (h0 : Heap) (n0 : Nat) (v : Option Value) (h : Heap) (L : List Loc) : Prop := v = some (.long (0 : Int64)) ∧ Fr n0 L ∧ h = h0
set_option maxRecDepth 65536 in
set_option maxHeartbeats 40000000 in
theorem rmget5 (l : Launch) (Z : State) (a0 : Array Value) (hw : ∀ d ∈ tables_1, d.before a0 Z = true) (ws : List Jvm.Cond) (o0_ : Addr) (o1_ : Addr) (ko1_ : ClassId) (h0 : Heap) (n0 : Nat) (O0 : Old Z n0 h0) (P0 : Exa Z h0 o0_ "com/example/latchkey/latchkey/LockTokens") (P1 : Fld Z h0 o0_ "com/example/latchkey/latchkey/LockTokens" "tokens" "[J" (.ref o1_)) (P2 : Arv Z h0 o1_ ko1_ .long (0 : Int32) [] (.long (0 : Int64))) (P3 : Exa Z h0 o1_ "[J") :
    MetFree l (⟨"com/example/latchkey/latchkey/LockTokens", "get", "(I)J"⟩ : MethodName) (head1 (Jvm.Cond.code (⟨"com/example/latchkey/latchkey/LockTokens", "get", "(I)J"⟩ : MethodName) prog_31_method_3_code 2 (some .long) :: ws) ({ frames := 0, cells := 0, slots := 0, locals := 0 } : Room)) (fun a U => a = #[(.ref o0_), (.int (1 : Int32))] ∧ Z.Warmed39 U.vm ∧ U.heap = h0) (fun _ _ _ _ _ => True) (fun _ U o U' => ∃ v L, o = .returned v ∧ Qget5 Z o0_ o1_ ko1_ h0 n0 v U'.heap L ∧ FrameEnd U o U' L ({ frames := 0, cells := 0, slots := 0, locals := 0 } : Room).cells ({ frames := 0, cells := 0, slots := 0, locals := 0 } : Room).slots) := by
  refine MetFree.of_bodySF (plainFor_of_name pn_0) hisR ?_
  intro p e s m args below meth c s₁ Bd hml0 hP hK
  obtain ⟨rfl, hZ, hh⟩ := hP
  have hx := Bd.exec
  have hby := Bd.bytes
  have hml : c.maxLocals = 2 := hml0
  have hown : s.vm.findClass "com/example/latchkey/latchkey/LockTokens" = some m.cls := findClass_of_methodNamed Bd.named
  have hnm := (name_of_methodNamed Bd.named Bd.method).1
  have X0 : Stand p l e ({ frames := 0, cells := 0, slots := 0, locals := 0 } : Room) s m #[(.ref o0_), (.int (1 : Int32))] below meth c s₁ [] 0 0 := Stand.of_body Bd
  have e0 : s₁.heap = h0 := by rw [← hh, Bd.state]; rfl
  have N0 := Fr.nil n0
  have pre0 : ∀ t, Steps p.tables e below (s₁.setTop (mkF m 0 #[.val (.ref o0_), .val (.int (1 : Int32))] [])) t → Steps p.tables e below (s₁.setTop (entryFrame m #[(.ref o0_), (.int (1 : Int32))] 2)) t := fun t k => castTop (efget5 m o0_) k
  have K0 : Keep h0 h0 [] := Keep.refl _ _
  obtain ⟨T1, X1, e1, st1⟩ := getF X0 hx hZ hown (host := "") (Or.inl (hw _ (List.mem_of_getElem? (i := 22) rfl))) Via.refl e0 P1 (g := (mkF m 2 #[.val (.ref o0_), .val (.int (1 : Int32))] [(.ref o0_), (.int (1 : Int32))])) rfl rfl (hb hby d3_2)
  obtain ⟨c2, r2, q2, s2, z2, y2, G2⟩ := id P2
  have pre3 : ∀ t, Steps p.tables e below (T1.setTop (mkF m 19 #[.val (.ref o0_), .val (.int (1 : Int32))] [(.long (0 : Int64))])) t → Steps p.tables e below (s₁.setTop (entryFrame m #[(.ref o0_), (.int (1 : Int32))] 2)) t := by
    intro t kt
    refine pre0 t ?_
    show Steps p.tables e below (s₁.setTop (mkF m 0 #[.val (.ref o0_), .val (.int (1 : Int32))] [])) _
    refine XS.iloadN X0.here hx rfl (hb hby d3_0) rfl ?_
    show Steps p.tables e below (s₁.setTop (mkF m 1 #[.val (.ref o0_), .val (.int (1 : Int32))] [(.int (1 : Int32))])) _
    refine XS.aloadN X0.here hx rfl (hb hby d3_1) rfl rfl ?_
    show Steps p.tables e below (s₁.setTop (mkF m 2 #[.val (.ref o0_), .val (.int (1 : Int32))] [(.ref o0_), (.int (1 : Int32))])) _
    refine st1 _ ?_
    show Steps p.tables e below (T1.setTop (mkF m 5 #[.val (.ref o0_), .val (.int (1 : Int32))] [(.ref o1_), (.int (1 : Int32))])) _
    refine X1.arraylength hx (by rw [e1]; exact r2.1) (State.isArrayOf_alike hZ.alike r2.2.1) (g := (mkF m 5 #[.val (.ref o0_), .val (.int (1 : Int32))] [(.ref o1_), (.int (1 : Int32))])) rfl rfl (hb hby d3_5) _ ?_
    rw [len_of s2 z2]
    show Steps p.tables e below (T1.setTop (mkF m 6 #[.val (.ref o0_), .val (.int (1 : Int32))] [(.int (0 : Int32)), (.int (1 : Int32))])) _
    refine XS.icmpYes X1.here hx rfl (pc0 := 6) (pc' := 18) rfl (hb hby d3_6) rfl (flt (by decide : ¬ ((1 : Int32) < (0 : Int32)))).2.1 (by decide) (by decide) ?_
    show Steps p.tables e below (T1.setTop (mkF m 18 #[.val (.ref o0_), .val (.int (1 : Int32))] [])) _
    refine XS.lconst X1.here hx rfl (hb hby d3_18) ?_
    exact kt
  obtain ⟨fs, hr, hrun, hended, hW, hsame⟩ := X1.leave (v := some (.long (0 : Int64))) (fun h => by rw [Bd.returns] at h; cases h)
  refine ⟨_, _, pre3 _ (retOut X1 hx Bd.returns rfl (Or.inr (Or.inl ⟨rfl, rfl, _, rfl⟩)) (hb hby d3_19) hr), hrun, hended, _, _, rfl, ?_, ⟨_, rfl⟩, hW, hsame.mono (by decide) (by decide)⟩
  show Qget5 Z o0_ o1_ ko1_ h0 n0 _ T1.heap _
  rw [e1]
  exact ⟨rfl, N0, rfl⟩
theorem efexpected6 (m : MethodId) (y0_ : Int64) (y1_ : Int64) (y2_ : Int64) : entryFrame m #[(.int (1 : Int32)), (.int (0 : Int32)), (.long y0_), (.long y1_), (.long y2_)] 8 = mkF m 0 #[.val (.int (1 : Int32)), .val (.int (0 : Int32)), .val (.long y0_), .second, .val (.long y1_), .second, .val (.long y2_), .second] [] := by first | (simp [entryFrame, mkF, argsToLocals, Value.category]; done) | rfl
def Qexpected6 (Z : State) (y0_ : Int64) (y1_ : Int64) (y2_ : Int64) (h0 : Heap) (n0 : Nat) (v : Option Value) (h : Heap) (L : List Loc) : Prop := v = some (.long (0 : Int64)) ∧ Fr n0 L ∧ h = h0
set_option maxRecDepth 65536 in
set_option maxHeartbeats 40000000 in
theorem rmexpected6 (l : Launch) (Z : State) (a0 : Array Value) (hw : ∀ d ∈ tables_1, d.before a0 Z = true) (ws : List Jvm.Cond) (y0_ : Int64) (y1_ : Int64) (y2_ : Int64) (h0 : Heap) (n0 : Nat) (O0 : Old Z n0 h0)  :
    MetFree l (⟨"com/example/latchkey/latchkey/LockTokensOfPinLaw", "expected", "(IIJJJ)J"⟩ : MethodName) (head1 (Jvm.Cond.code (⟨"com/example/latchkey/latchkey/LockTokensOfPinLaw", "expected", "(IIJJJ)J"⟩ : MethodName) method_3_code 8 (some .long) :: ws) ({ frames := 0, cells := 0, slots := 0, locals := 0 } : Room)) (fun a U => a = #[(.int (1 : Int32)), (.int (0 : Int32)), (.long y0_), (.long y1_), (.long y2_)] ∧ Z.Warmed39 U.vm ∧ U.heap = h0) (fun _ _ _ _ _ => True) (fun _ U o U' => ∃ v L, o = .returned v ∧ Qexpected6 Z y0_ y1_ y2_ h0 n0 v U'.heap L ∧ FrameEnd U o U' L ({ frames := 0, cells := 0, slots := 0, locals := 0 } : Room).cells ({ frames := 0, cells := 0, slots := 0, locals := 0 } : Room).slots) := by
  refine MetFree.of_bodySF (plainFor_of_name pn_1) hisR ?_
  intro p e s m args below meth c s₁ Bd hml0 hP hK
  obtain ⟨rfl, hZ, hh⟩ := hP
  have hx := Bd.exec
  have hby := Bd.bytes
  have hml : c.maxLocals = 8 := hml0
  have hown : s.vm.findClass "com/example/latchkey/latchkey/LockTokensOfPinLaw" = some m.cls := findClass_of_methodNamed Bd.named
  have hnm := (name_of_methodNamed Bd.named Bd.method).1
  have X0 : Stand p l e ({ frames := 0, cells := 0, slots := 0, locals := 0 } : Room) s m #[(.int (1 : Int32)), (.int (0 : Int32)), (.long y0_), (.long y1_), (.long y2_)] below meth c s₁ [] 0 0 := Stand.of_body Bd
  have e0 : s₁.heap = h0 := by rw [← hh, Bd.state]; rfl
  have N0 := Fr.nil n0
  have pre0 : ∀ t, Steps p.tables e below (s₁.setTop (mkF m 0 #[.val (.int (1 : Int32)), .val (.int (0 : Int32)), .val (.long y0_), .second, .val (.long y1_), .second, .val (.long y2_), .second] [])) t → Steps p.tables e below (s₁.setTop (entryFrame m #[(.int (1 : Int32)), (.int (0 : Int32)), (.long y0_), (.long y1_), (.long y2_)] 8)) t := fun t k => castTop (efexpected6 m y0_ y1_ y2_) k
  have K0 : Keep h0 h0 [] := Keep.refl _ _
  have pre1 : ∀ t, Steps p.tables e below (s₁.setTop (mkF m 6 #[.val (.int (1 : Int32)), .val (.int (0 : Int32)), .val (.long y0_), .second, .val (.long y1_), .second, .val (.long y2_), .second] [(.long (0 : Int64))])) t → Steps p.tables e below (s₁.setTop (entryFrame m #[(.int (1 : Int32)), (.int (0 : Int32)), (.long y0_), (.long y1_), (.long y2_)] 8)) t := by
    intro t kt
    refine pre0 t ?_
    show Steps p.tables e below (s₁.setTop (mkF m 0 #[.val (.int (1 : Int32)), .val (.int (0 : Int32)), .val (.long y0_), .second, .val (.long y1_), .second, .val (.long y2_), .second] [])) _
    refine XS.iloadN X0.here hx rfl (hb hby d4_0) rfl ?_
    show Steps p.tables e below (s₁.setTop (mkF m 1 #[.val (.int (1 : Int32)), .val (.int (0 : Int32)), .val (.long y0_), .second, .val (.long y1_), .second, .val (.long y2_), .second] [(.int (1 : Int32))])) _
    refine XS.iloadN X0.here hx rfl (hb hby d4_1) rfl ?_
    show Steps p.tables e below (s₁.setTop (mkF m 2 #[.val (.int (1 : Int32)), .val (.int (0 : Int32)), .val (.long y0_), .second, .val (.long y1_), .second, .val (.long y2_), .second] [(.int (0 : Int32)), (.int (1 : Int32))])) _
    refine XS.icmpNo X0.here hx rfl (hb hby d4_2) rfl (flt (by decide : ¬ ((1 : Int32) < (0 : Int32)))).1 ?_
    show Steps p.tables e below (s₁.setTop (mkF m 5 #[.val (.int (1 : Int32)), .val (.int (0 : Int32)), .val (.long y0_), .second, .val (.long y1_), .second, .val (.long y2_), .second] [])) _
    refine XS.lconst X0.here hx rfl (hb hby d4_5) ?_
    exact kt
  obtain ⟨fs, hr, hrun, hended, hW, hsame⟩ := X0.leave (v := some (.long (0 : Int64))) (fun h => by rw [Bd.returns] at h; cases h)
  refine ⟨_, _, pre1 _ (retOut X0 hx Bd.returns rfl (Or.inr (Or.inl ⟨rfl, rfl, _, rfl⟩)) (hb hby d4_6) hr), hrun, hended, _, _, rfl, ?_, ⟨_, rfl⟩, hW, hsame.mono (by decide) (by decide)⟩
  show Qexpected6 Z y0_ y1_ y2_ h0 n0 _ s₁.heap _
  rw [e0]
  exact ⟨rfl, N0, rfl⟩
theorem efget7 (m : MethodId) (o0_ : Addr) : entryFrame m #[(.ref o0_), (.int (2 : Int32))] 2 = mkF m 0 #[.val (.ref o0_), .val (.int (2 : Int32))] [] := by first | (simp [entryFrame, mkF, argsToLocals, Value.category]; done) | rfl
def Qget7 (Z : State) (o0_ : Addr) (o1_ : Addr) (ko1_ : ClassId) (h0 : Heap) (n0 : Nat) (v : Option Value) (h : Heap) (L : List Loc) : Prop := v = some (.long (0 : Int64)) ∧ Fr n0 L ∧ h = h0
set_option maxRecDepth 65536 in
set_option maxHeartbeats 40000000 in
theorem rmget7 (l : Launch) (Z : State) (a0 : Array Value) (hw : ∀ d ∈ tables_1, d.before a0 Z = true) (ws : List Jvm.Cond) (o0_ : Addr) (o1_ : Addr) (ko1_ : ClassId) (h0 : Heap) (n0 : Nat) (O0 : Old Z n0 h0) (P0 : Exa Z h0 o0_ "com/example/latchkey/latchkey/LockTokens") (P1 : Fld Z h0 o0_ "com/example/latchkey/latchkey/LockTokens" "tokens" "[J" (.ref o1_)) (P2 : Arv Z h0 o1_ ko1_ .long (0 : Int32) [] (.long (0 : Int64))) (P3 : Exa Z h0 o1_ "[J") :
    MetFree l (⟨"com/example/latchkey/latchkey/LockTokens", "get", "(I)J"⟩ : MethodName) (head1 (Jvm.Cond.code (⟨"com/example/latchkey/latchkey/LockTokens", "get", "(I)J"⟩ : MethodName) prog_31_method_3_code 2 (some .long) :: ws) ({ frames := 0, cells := 0, slots := 0, locals := 0 } : Room)) (fun a U => a = #[(.ref o0_), (.int (2 : Int32))] ∧ Z.Warmed39 U.vm ∧ U.heap = h0) (fun _ _ _ _ _ => True) (fun _ U o U' => ∃ v L, o = .returned v ∧ Qget7 Z o0_ o1_ ko1_ h0 n0 v U'.heap L ∧ FrameEnd U o U' L ({ frames := 0, cells := 0, slots := 0, locals := 0 } : Room).cells ({ frames := 0, cells := 0, slots := 0, locals := 0 } : Room).slots) := by
  refine MetFree.of_bodySF (plainFor_of_name pn_0) hisR ?_
  intro p e s m args below meth c s₁ Bd hml0 hP hK
  obtain ⟨rfl, hZ, hh⟩ := hP
  have hx := Bd.exec
  have hby := Bd.bytes
  have hml : c.maxLocals = 2 := hml0
  have hown : s.vm.findClass "com/example/latchkey/latchkey/LockTokens" = some m.cls := findClass_of_methodNamed Bd.named
  have hnm := (name_of_methodNamed Bd.named Bd.method).1
  have X0 : Stand p l e ({ frames := 0, cells := 0, slots := 0, locals := 0 } : Room) s m #[(.ref o0_), (.int (2 : Int32))] below meth c s₁ [] 0 0 := Stand.of_body Bd
  have e0 : s₁.heap = h0 := by rw [← hh, Bd.state]; rfl
  have N0 := Fr.nil n0
  have pre0 : ∀ t, Steps p.tables e below (s₁.setTop (mkF m 0 #[.val (.ref o0_), .val (.int (2 : Int32))] [])) t → Steps p.tables e below (s₁.setTop (entryFrame m #[(.ref o0_), (.int (2 : Int32))] 2)) t := fun t k => castTop (efget7 m o0_) k
  have K0 : Keep h0 h0 [] := Keep.refl _ _
  obtain ⟨T1, X1, e1, st1⟩ := getF X0 hx hZ hown (host := "") (Or.inl (hw _ (List.mem_of_getElem? (i := 22) rfl))) Via.refl e0 P1 (g := (mkF m 2 #[.val (.ref o0_), .val (.int (2 : Int32))] [(.ref o0_), (.int (2 : Int32))])) rfl rfl (hb hby d3_2)
  obtain ⟨c2, r2, q2, s2, z2, y2, G2⟩ := id P2
  have pre3 : ∀ t, Steps p.tables e below (T1.setTop (mkF m 19 #[.val (.ref o0_), .val (.int (2 : Int32))] [(.long (0 : Int64))])) t → Steps p.tables e below (s₁.setTop (entryFrame m #[(.ref o0_), (.int (2 : Int32))] 2)) t := by
    intro t kt
    refine pre0 t ?_
    show Steps p.tables e below (s₁.setTop (mkF m 0 #[.val (.ref o0_), .val (.int (2 : Int32))] [])) _
    refine XS.iloadN X0.here hx rfl (hb hby d3_0) rfl ?_
    show Steps p.tables e below (s₁.setTop (mkF m 1 #[.val (.ref o0_), .val (.int (2 : Int32))] [(.int (2 : Int32))])) _
    refine XS.aloadN X0.here hx rfl (hb hby d3_1) rfl rfl ?_
    show Steps p.tables e below (s₁.setTop (mkF m 2 #[.val (.ref o0_), .val (.int (2 : Int32))] [(.ref o0_), (.int (2 : Int32))])) _
    refine st1 _ ?_
    show Steps p.tables e below (T1.setTop (mkF m 5 #[.val (.ref o0_), .val (.int (2 : Int32))] [(.ref o1_), (.int (2 : Int32))])) _
    refine X1.arraylength hx (by rw [e1]; exact r2.1) (State.isArrayOf_alike hZ.alike r2.2.1) (g := (mkF m 5 #[.val (.ref o0_), .val (.int (2 : Int32))] [(.ref o1_), (.int (2 : Int32))])) rfl rfl (hb hby d3_5) _ ?_
    rw [len_of s2 z2]
    show Steps p.tables e below (T1.setTop (mkF m 6 #[.val (.ref o0_), .val (.int (2 : Int32))] [(.int (0 : Int32)), (.int (2 : Int32))])) _
    refine XS.icmpYes X1.here hx rfl (pc0 := 6) (pc' := 18) rfl (hb hby d3_6) rfl (flt (by decide : ¬ ((2 : Int32) < (0 : Int32)))).2.1 (by decide) (by decide) ?_
    show Steps p.tables e below (T1.setTop (mkF m 18 #[.val (.ref o0_), .val (.int (2 : Int32))] [])) _
    refine XS.lconst X1.here hx rfl (hb hby d3_18) ?_
    exact kt
  obtain ⟨fs, hr, hrun, hended, hW, hsame⟩ := X1.leave (v := some (.long (0 : Int64))) (fun h => by rw [Bd.returns] at h; cases h)
  refine ⟨_, _, pre3 _ (retOut X1 hx Bd.returns rfl (Or.inr (Or.inl ⟨rfl, rfl, _, rfl⟩)) (hb hby d3_19) hr), hrun, hended, _, _, rfl, ?_, ⟨_, rfl⟩, hW, hsame.mono (by decide) (by decide)⟩
  show Qget7 Z o0_ o1_ ko1_ h0 n0 _ T1.heap _
  rw [e1]
  exact ⟨rfl, N0, rfl⟩
theorem efexpected8 (m : MethodId) (y0_ : Int64) (y1_ : Int64) (y2_ : Int64) : entryFrame m #[(.int (2 : Int32)), (.int (0 : Int32)), (.long y0_), (.long y1_), (.long y2_)] 8 = mkF m 0 #[.val (.int (2 : Int32)), .val (.int (0 : Int32)), .val (.long y0_), .second, .val (.long y1_), .second, .val (.long y2_), .second] [] := by first | (simp [entryFrame, mkF, argsToLocals, Value.category]; done) | rfl
def Qexpected8 (Z : State) (y0_ : Int64) (y1_ : Int64) (y2_ : Int64) (h0 : Heap) (n0 : Nat) (v : Option Value) (h : Heap) (L : List Loc) : Prop := v = some (.long (0 : Int64)) ∧ Fr n0 L ∧ h = h0
set_option maxRecDepth 65536 in
set_option maxHeartbeats 40000000 in
theorem rmexpected8 (l : Launch) (Z : State) (a0 : Array Value) (hw : ∀ d ∈ tables_1, d.before a0 Z = true) (ws : List Jvm.Cond) (y0_ : Int64) (y1_ : Int64) (y2_ : Int64) (h0 : Heap) (n0 : Nat) (O0 : Old Z n0 h0)  :
    MetFree l (⟨"com/example/latchkey/latchkey/LockTokensOfPinLaw", "expected", "(IIJJJ)J"⟩ : MethodName) (head1 (Jvm.Cond.code (⟨"com/example/latchkey/latchkey/LockTokensOfPinLaw", "expected", "(IIJJJ)J"⟩ : MethodName) method_3_code 8 (some .long) :: ws) ({ frames := 0, cells := 0, slots := 0, locals := 0 } : Room)) (fun a U => a = #[(.int (2 : Int32)), (.int (0 : Int32)), (.long y0_), (.long y1_), (.long y2_)] ∧ Z.Warmed39 U.vm ∧ U.heap = h0) (fun _ _ _ _ _ => True) (fun _ U o U' => ∃ v L, o = .returned v ∧ Qexpected8 Z y0_ y1_ y2_ h0 n0 v U'.heap L ∧ FrameEnd U o U' L ({ frames := 0, cells := 0, slots := 0, locals := 0 } : Room).cells ({ frames := 0, cells := 0, slots := 0, locals := 0 } : Room).slots) := by
  refine MetFree.of_bodySF (plainFor_of_name pn_1) hisR ?_
  intro p e s m args below meth c s₁ Bd hml0 hP hK
  obtain ⟨rfl, hZ, hh⟩ := hP
  have hx := Bd.exec
  have hby := Bd.bytes
  have hml : c.maxLocals = 8 := hml0
  have hown : s.vm.findClass "com/example/latchkey/latchkey/LockTokensOfPinLaw" = some m.cls := findClass_of_methodNamed Bd.named
  have hnm := (name_of_methodNamed Bd.named Bd.method).1
  have X0 : Stand p l e ({ frames := 0, cells := 0, slots := 0, locals := 0 } : Room) s m #[(.int (2 : Int32)), (.int (0 : Int32)), (.long y0_), (.long y1_), (.long y2_)] below meth c s₁ [] 0 0 := Stand.of_body Bd
  have e0 : s₁.heap = h0 := by rw [← hh, Bd.state]; rfl
  have N0 := Fr.nil n0
  have pre0 : ∀ t, Steps p.tables e below (s₁.setTop (mkF m 0 #[.val (.int (2 : Int32)), .val (.int (0 : Int32)), .val (.long y0_), .second, .val (.long y1_), .second, .val (.long y2_), .second] [])) t → Steps p.tables e below (s₁.setTop (entryFrame m #[(.int (2 : Int32)), (.int (0 : Int32)), (.long y0_), (.long y1_), (.long y2_)] 8)) t := fun t k => castTop (efexpected8 m y0_ y1_ y2_) k
  have K0 : Keep h0 h0 [] := Keep.refl _ _
  have pre1 : ∀ t, Steps p.tables e below (s₁.setTop (mkF m 6 #[.val (.int (2 : Int32)), .val (.int (0 : Int32)), .val (.long y0_), .second, .val (.long y1_), .second, .val (.long y2_), .second] [(.long (0 : Int64))])) t → Steps p.tables e below (s₁.setTop (entryFrame m #[(.int (2 : Int32)), (.int (0 : Int32)), (.long y0_), (.long y1_), (.long y2_)] 8)) t := by
    intro t kt
    refine pre0 t ?_
    show Steps p.tables e below (s₁.setTop (mkF m 0 #[.val (.int (2 : Int32)), .val (.int (0 : Int32)), .val (.long y0_), .second, .val (.long y1_), .second, .val (.long y2_), .second] [])) _
    refine XS.iloadN X0.here hx rfl (hb hby d4_0) rfl ?_
    show Steps p.tables e below (s₁.setTop (mkF m 1 #[.val (.int (2 : Int32)), .val (.int (0 : Int32)), .val (.long y0_), .second, .val (.long y1_), .second, .val (.long y2_), .second] [(.int (2 : Int32))])) _
    refine XS.iloadN X0.here hx rfl (hb hby d4_1) rfl ?_
    show Steps p.tables e below (s₁.setTop (mkF m 2 #[.val (.int (2 : Int32)), .val (.int (0 : Int32)), .val (.long y0_), .second, .val (.long y1_), .second, .val (.long y2_), .second] [(.int (0 : Int32)), (.int (2 : Int32))])) _
    refine XS.icmpNo X0.here hx rfl (hb hby d4_2) rfl (flt (by decide : ¬ ((2 : Int32) < (0 : Int32)))).1 ?_
    show Steps p.tables e below (s₁.setTop (mkF m 5 #[.val (.int (2 : Int32)), .val (.int (0 : Int32)), .val (.long y0_), .second, .val (.long y1_), .second, .val (.long y2_), .second] [])) _
    refine XS.lconst X0.here hx rfl (hb hby d4_5) ?_
    exact kt
  obtain ⟨fs, hr, hrun, hended, hW, hsame⟩ := X0.leave (v := some (.long (0 : Int64))) (fun h => by rw [Bd.returns] at h; cases h)
  refine ⟨_, _, pre1 _ (retOut X0 hx Bd.returns rfl (Or.inr (Or.inl ⟨rfl, rfl, _, rfl⟩)) (hb hby d4_6) hr), hrun, hended, _, _, rfl, ?_, ⟨_, rfl⟩, hW, hsame.mono (by decide) (by decide)⟩
  show Qexpected8 Z y0_ y1_ y2_ h0 n0 _ s₁.heap _
  rw [e0]
  exact ⟨rfl, N0, rfl⟩
theorem efget9 (m : MethodId) (o0_ : Addr) : entryFrame m #[(.ref o0_), (.int (3 : Int32))] 2 = mkF m 0 #[.val (.ref o0_), .val (.int (3 : Int32))] [] := by first | (simp [entryFrame, mkF, argsToLocals, Value.category]; done) | rfl
def Qget9 (Z : State) (o0_ : Addr) (o1_ : Addr) (ko1_ : ClassId) (h0 : Heap) (n0 : Nat) (v : Option Value) (h : Heap) (L : List Loc) : Prop := v = some (.long (0 : Int64)) ∧ Fr n0 L ∧ h = h0
set_option maxRecDepth 65536 in
set_option maxHeartbeats 40000000 in
theorem rmget9 (l : Launch) (Z : State) (a0 : Array Value) (hw : ∀ d ∈ tables_1, d.before a0 Z = true) (ws : List Jvm.Cond) (o0_ : Addr) (o1_ : Addr) (ko1_ : ClassId) (h0 : Heap) (n0 : Nat) (O0 : Old Z n0 h0) (P0 : Exa Z h0 o0_ "com/example/latchkey/latchkey/LockTokens") (P1 : Fld Z h0 o0_ "com/example/latchkey/latchkey/LockTokens" "tokens" "[J" (.ref o1_)) (P2 : Arv Z h0 o1_ ko1_ .long (0 : Int32) [] (.long (0 : Int64))) (P3 : Exa Z h0 o1_ "[J") :
    MetFree l (⟨"com/example/latchkey/latchkey/LockTokens", "get", "(I)J"⟩ : MethodName) (head1 (Jvm.Cond.code (⟨"com/example/latchkey/latchkey/LockTokens", "get", "(I)J"⟩ : MethodName) prog_31_method_3_code 2 (some .long) :: ws) ({ frames := 0, cells := 0, slots := 0, locals := 0 } : Room)) (fun a U => a = #[(.ref o0_), (.int (3 : Int32))] ∧ Z.Warmed39 U.vm ∧ U.heap = h0) (fun _ _ _ _ _ => True) (fun _ U o U' => ∃ v L, o = .returned v ∧ Qget9 Z o0_ o1_ ko1_ h0 n0 v U'.heap L ∧ FrameEnd U o U' L ({ frames := 0, cells := 0, slots := 0, locals := 0 } : Room).cells ({ frames := 0, cells := 0, slots := 0, locals := 0 } : Room).slots) := by
  refine MetFree.of_bodySF (plainFor_of_name pn_0) hisR ?_
  intro p e s m args below meth c s₁ Bd hml0 hP hK
  obtain ⟨rfl, hZ, hh⟩ := hP
  have hx := Bd.exec
  have hby := Bd.bytes
  have hml : c.maxLocals = 2 := hml0
  have hown : s.vm.findClass "com/example/latchkey/latchkey/LockTokens" = some m.cls := findClass_of_methodNamed Bd.named
  have hnm := (name_of_methodNamed Bd.named Bd.method).1
  have X0 : Stand p l e ({ frames := 0, cells := 0, slots := 0, locals := 0 } : Room) s m #[(.ref o0_), (.int (3 : Int32))] below meth c s₁ [] 0 0 := Stand.of_body Bd
  have e0 : s₁.heap = h0 := by rw [← hh, Bd.state]; rfl
  have N0 := Fr.nil n0
  have pre0 : ∀ t, Steps p.tables e below (s₁.setTop (mkF m 0 #[.val (.ref o0_), .val (.int (3 : Int32))] [])) t → Steps p.tables e below (s₁.setTop (entryFrame m #[(.ref o0_), (.int (3 : Int32))] 2)) t := fun t k => castTop (efget9 m o0_) k
  have K0 : Keep h0 h0 [] := Keep.refl _ _
  obtain ⟨T1, X1, e1, st1⟩ := getF X0 hx hZ hown (host := "") (Or.inl (hw _ (List.mem_of_getElem? (i := 22) rfl))) Via.refl e0 P1 (g := (mkF m 2 #[.val (.ref o0_), .val (.int (3 : Int32))] [(.ref o0_), (.int (3 : Int32))])) rfl rfl (hb hby d3_2)
  obtain ⟨c2, r2, q2, s2, z2, y2, G2⟩ := id P2
  have pre3 : ∀ t, Steps p.tables e below (T1.setTop (mkF m 19 #[.val (.ref o0_), .val (.int (3 : Int32))] [(.long (0 : Int64))])) t → Steps p.tables e below (s₁.setTop (entryFrame m #[(.ref o0_), (.int (3 : Int32))] 2)) t := by
    intro t kt
    refine pre0 t ?_
    show Steps p.tables e below (s₁.setTop (mkF m 0 #[.val (.ref o0_), .val (.int (3 : Int32))] [])) _
    refine XS.iloadN X0.here hx rfl (hb hby d3_0) rfl ?_
    show Steps p.tables e below (s₁.setTop (mkF m 1 #[.val (.ref o0_), .val (.int (3 : Int32))] [(.int (3 : Int32))])) _
    refine XS.aloadN X0.here hx rfl (hb hby d3_1) rfl rfl ?_
    show Steps p.tables e below (s₁.setTop (mkF m 2 #[.val (.ref o0_), .val (.int (3 : Int32))] [(.ref o0_), (.int (3 : Int32))])) _
    refine st1 _ ?_
    show Steps p.tables e below (T1.setTop (mkF m 5 #[.val (.ref o0_), .val (.int (3 : Int32))] [(.ref o1_), (.int (3 : Int32))])) _
    refine X1.arraylength hx (by rw [e1]; exact r2.1) (State.isArrayOf_alike hZ.alike r2.2.1) (g := (mkF m 5 #[.val (.ref o0_), .val (.int (3 : Int32))] [(.ref o1_), (.int (3 : Int32))])) rfl rfl (hb hby d3_5) _ ?_
    rw [len_of s2 z2]
    show Steps p.tables e below (T1.setTop (mkF m 6 #[.val (.ref o0_), .val (.int (3 : Int32))] [(.int (0 : Int32)), (.int (3 : Int32))])) _
    refine XS.icmpYes X1.here hx rfl (pc0 := 6) (pc' := 18) rfl (hb hby d3_6) rfl (flt (by decide : ¬ ((3 : Int32) < (0 : Int32)))).2.1 (by decide) (by decide) ?_
    show Steps p.tables e below (T1.setTop (mkF m 18 #[.val (.ref o0_), .val (.int (3 : Int32))] [])) _
    refine XS.lconst X1.here hx rfl (hb hby d3_18) ?_
    exact kt
  obtain ⟨fs, hr, hrun, hended, hW, hsame⟩ := X1.leave (v := some (.long (0 : Int64))) (fun h => by rw [Bd.returns] at h; cases h)
  refine ⟨_, _, pre3 _ (retOut X1 hx Bd.returns rfl (Or.inr (Or.inl ⟨rfl, rfl, _, rfl⟩)) (hb hby d3_19) hr), hrun, hended, _, _, rfl, ?_, ⟨_, rfl⟩, hW, hsame.mono (by decide) (by decide)⟩
  show Qget9 Z o0_ o1_ ko1_ h0 n0 _ T1.heap _
  rw [e1]
  exact ⟨rfl, N0, rfl⟩
theorem efexpected10 (m : MethodId) (y0_ : Int64) (y1_ : Int64) (y2_ : Int64) : entryFrame m #[(.int (3 : Int32)), (.int (0 : Int32)), (.long y0_), (.long y1_), (.long y2_)] 8 = mkF m 0 #[.val (.int (3 : Int32)), .val (.int (0 : Int32)), .val (.long y0_), .second, .val (.long y1_), .second, .val (.long y2_), .second] [] := by first | (simp [entryFrame, mkF, argsToLocals, Value.category]; done) | rfl
def Qexpected10 (Z : State) (y0_ : Int64) (y1_ : Int64) (y2_ : Int64) (h0 : Heap) (n0 : Nat) (v : Option Value) (h : Heap) (L : List Loc) : Prop := v = some (.long (0 : Int64)) ∧ Fr n0 L ∧ h = h0
set_option maxRecDepth 65536 in
set_option maxHeartbeats 40000000 in
theorem rmexpected10 (l : Launch) (Z : State) (a0 : Array Value) (hw : ∀ d ∈ tables_1, d.before a0 Z = true) (ws : List Jvm.Cond) (y0_ : Int64) (y1_ : Int64) (y2_ : Int64) (h0 : Heap) (n0 : Nat) (O0 : Old Z n0 h0)  :
    MetFree l (⟨"com/example/latchkey/latchkey/LockTokensOfPinLaw", "expected", "(IIJJJ)J"⟩ : MethodName) (head1 (Jvm.Cond.code (⟨"com/example/latchkey/latchkey/LockTokensOfPinLaw", "expected", "(IIJJJ)J"⟩ : MethodName) method_3_code 8 (some .long) :: ws) ({ frames := 0, cells := 0, slots := 0, locals := 0 } : Room)) (fun a U => a = #[(.int (3 : Int32)), (.int (0 : Int32)), (.long y0_), (.long y1_), (.long y2_)] ∧ Z.Warmed39 U.vm ∧ U.heap = h0) (fun _ _ _ _ _ => True) (fun _ U o U' => ∃ v L, o = .returned v ∧ Qexpected10 Z y0_ y1_ y2_ h0 n0 v U'.heap L ∧ FrameEnd U o U' L ({ frames := 0, cells := 0, slots := 0, locals := 0 } : Room).cells ({ frames := 0, cells := 0, slots := 0, locals := 0 } : Room).slots) := by
  refine MetFree.of_bodySF (plainFor_of_name pn_1) hisR ?_
  intro p e s m args below meth c s₁ Bd hml0 hP hK
  obtain ⟨rfl, hZ, hh⟩ := hP
  have hx := Bd.exec
  have hby := Bd.bytes
  have hml : c.maxLocals = 8 := hml0
  have hown : s.vm.findClass "com/example/latchkey/latchkey/LockTokensOfPinLaw" = some m.cls := findClass_of_methodNamed Bd.named
  have hnm := (name_of_methodNamed Bd.named Bd.method).1
  have X0 : Stand p l e ({ frames := 0, cells := 0, slots := 0, locals := 0 } : Room) s m #[(.int (3 : Int32)), (.int (0 : Int32)), (.long y0_), (.long y1_), (.long y2_)] below meth c s₁ [] 0 0 := Stand.of_body Bd
  have e0 : s₁.heap = h0 := by rw [← hh, Bd.state]; rfl
  have N0 := Fr.nil n0
  have pre0 : ∀ t, Steps p.tables e below (s₁.setTop (mkF m 0 #[.val (.int (3 : Int32)), .val (.int (0 : Int32)), .val (.long y0_), .second, .val (.long y1_), .second, .val (.long y2_), .second] [])) t → Steps p.tables e below (s₁.setTop (entryFrame m #[(.int (3 : Int32)), (.int (0 : Int32)), (.long y0_), (.long y1_), (.long y2_)] 8)) t := fun t k => castTop (efexpected10 m y0_ y1_ y2_) k
  have K0 : Keep h0 h0 [] := Keep.refl _ _
  have pre1 : ∀ t, Steps p.tables e below (s₁.setTop (mkF m 6 #[.val (.int (3 : Int32)), .val (.int (0 : Int32)), .val (.long y0_), .second, .val (.long y1_), .second, .val (.long y2_), .second] [(.long (0 : Int64))])) t → Steps p.tables e below (s₁.setTop (entryFrame m #[(.int (3 : Int32)), (.int (0 : Int32)), (.long y0_), (.long y1_), (.long y2_)] 8)) t := by
    intro t kt
    refine pre0 t ?_
    show Steps p.tables e below (s₁.setTop (mkF m 0 #[.val (.int (3 : Int32)), .val (.int (0 : Int32)), .val (.long y0_), .second, .val (.long y1_), .second, .val (.long y2_), .second] [])) _
    refine XS.iloadN X0.here hx rfl (hb hby d4_0) rfl ?_
    show Steps p.tables e below (s₁.setTop (mkF m 1 #[.val (.int (3 : Int32)), .val (.int (0 : Int32)), .val (.long y0_), .second, .val (.long y1_), .second, .val (.long y2_), .second] [(.int (3 : Int32))])) _
    refine XS.iloadN X0.here hx rfl (hb hby d4_1) rfl ?_
    show Steps p.tables e below (s₁.setTop (mkF m 2 #[.val (.int (3 : Int32)), .val (.int (0 : Int32)), .val (.long y0_), .second, .val (.long y1_), .second, .val (.long y2_), .second] [(.int (0 : Int32)), (.int (3 : Int32))])) _
    refine XS.icmpNo X0.here hx rfl (hb hby d4_2) rfl (flt (by decide : ¬ ((3 : Int32) < (0 : Int32)))).1 ?_
    show Steps p.tables e below (s₁.setTop (mkF m 5 #[.val (.int (3 : Int32)), .val (.int (0 : Int32)), .val (.long y0_), .second, .val (.long y1_), .second, .val (.long y2_), .second] [])) _
    refine XS.lconst X0.here hx rfl (hb hby d4_5) ?_
    exact kt
  obtain ⟨fs, hr, hrun, hended, hW, hsame⟩ := X0.leave (v := some (.long (0 : Int64))) (fun h => by rw [Bd.returns] at h; cases h)
  refine ⟨_, _, pre1 _ (retOut X0 hx Bd.returns rfl (Or.inr (Or.inl ⟨rfl, rfl, _, rfl⟩)) (hb hby d4_6) hr), hrun, hended, _, _, rfl, ?_, ⟨_, rfl⟩, hW, hsame.mono (by decide) (by decide)⟩
  show Qexpected10 Z y0_ y1_ y2_ h0 n0 _ s₁.heap _
  rw [e0]
  exact ⟨rfl, N0, rfl⟩
theorem efget11 (m : MethodId) (o0_ : Addr) (x0_ : Int32) : entryFrame m #[(.ref o0_), (.int x0_)] 2 = mkF m 0 #[.val (.ref o0_), .val (.int x0_)] [] := by first | (simp [entryFrame, mkF, argsToLocals, Value.category]; done) | rfl
def Qget11 (Z : State) (o0_ : Addr) (x0_ : Int32) (o1_ : Addr) (ko1_ : ClassId) (h0 : Heap) (n0 : Nat) (v : Option Value) (h : Heap) (L : List Loc) : Prop := v = some (.long (0 : Int64)) ∧ Fr n0 L ∧ h = h0
set_option maxRecDepth 65536 in
set_option maxHeartbeats 40000000 in
theorem rmget11 (l : Launch) (Z : State) (a0 : Array Value) (hw : ∀ d ∈ tables_1, d.before a0 Z = true) (ws : List Jvm.Cond) (o0_ : Addr) (x0_ : Int32) (o1_ : Addr) (ko1_ : ClassId) (h0 : Heap) (n0 : Nat) (O0 : Old Z n0 h0) (ha0 : ¬ (x0_ < (0 : Int32))) (P1 : Exa Z h0 o0_ "com/example/latchkey/latchkey/LockTokens") (P2 : Fld Z h0 o0_ "com/example/latchkey/latchkey/LockTokens" "tokens" "[J" (.ref o1_)) (P3 : Arv Z h0 o1_ ko1_ .long (0 : Int32) [] (.long (0 : Int64))) (P4 : Exa Z h0 o1_ "[J") :
    MetFree l (⟨"com/example/latchkey/latchkey/LockTokens", "get", "(I)J"⟩ : MethodName) (head1 (Jvm.Cond.code (⟨"com/example/latchkey/latchkey/LockTokens", "get", "(I)J"⟩ : MethodName) prog_31_method_3_code 2 (some .long) :: ws) ({ frames := 0, cells := 0, slots := 0, locals := 0 } : Room)) (fun a U => a = #[(.ref o0_), (.int x0_)] ∧ Z.Warmed39 U.vm ∧ U.heap = h0) (fun _ _ _ _ _ => True) (fun _ U o U' => ∃ v L, o = .returned v ∧ Qget11 Z o0_ x0_ o1_ ko1_ h0 n0 v U'.heap L ∧ FrameEnd U o U' L ({ frames := 0, cells := 0, slots := 0, locals := 0 } : Room).cells ({ frames := 0, cells := 0, slots := 0, locals := 0 } : Room).slots) := by
  refine MetFree.of_bodySF (plainFor_of_name pn_0) hisR ?_
  intro p e s m args below meth c s₁ Bd hml0 hP hK
  obtain ⟨rfl, hZ, hh⟩ := hP
  have hx := Bd.exec
  have hby := Bd.bytes
  have hml : c.maxLocals = 2 := hml0
  have hown : s.vm.findClass "com/example/latchkey/latchkey/LockTokens" = some m.cls := findClass_of_methodNamed Bd.named
  have hnm := (name_of_methodNamed Bd.named Bd.method).1
  have X0 : Stand p l e ({ frames := 0, cells := 0, slots := 0, locals := 0 } : Room) s m #[(.ref o0_), (.int x0_)] below meth c s₁ [] 0 0 := Stand.of_body Bd
  have e0 : s₁.heap = h0 := by rw [← hh, Bd.state]; rfl
  have N0 := Fr.nil n0
  have pre0 : ∀ t, Steps p.tables e below (s₁.setTop (mkF m 0 #[.val (.ref o0_), .val (.int x0_)] [])) t → Steps p.tables e below (s₁.setTop (entryFrame m #[(.ref o0_), (.int x0_)] 2)) t := fun t k => castTop (efget11 m o0_ x0_) k
  have K0 : Keep h0 h0 [] := Keep.refl _ _
  obtain ⟨T1, X1, e1, st1⟩ := getF X0 hx hZ hown (host := "") (Or.inl (hw _ (List.mem_of_getElem? (i := 22) rfl))) Via.refl e0 P2 (g := (mkF m 2 #[.val (.ref o0_), .val (.int x0_)] [(.ref o0_), (.int x0_)])) rfl rfl (hb hby d3_2)
  obtain ⟨c2, r2, q2, s2, z2, y2, G2⟩ := id P3
  have pre3 : ∀ t, Steps p.tables e below (T1.setTop (mkF m 19 #[.val (.ref o0_), .val (.int x0_)] [(.long (0 : Int64))])) t → Steps p.tables e below (s₁.setTop (entryFrame m #[(.ref o0_), (.int x0_)] 2)) t := by
    intro t kt
    refine pre0 t ?_
    show Steps p.tables e below (s₁.setTop (mkF m 0 #[.val (.ref o0_), .val (.int x0_)] [])) _
    refine XS.iloadN X0.here hx rfl (hb hby d3_0) rfl ?_
    show Steps p.tables e below (s₁.setTop (mkF m 1 #[.val (.ref o0_), .val (.int x0_)] [(.int x0_)])) _
    refine XS.aloadN X0.here hx rfl (hb hby d3_1) rfl rfl ?_
    show Steps p.tables e below (s₁.setTop (mkF m 2 #[.val (.ref o0_), .val (.int x0_)] [(.ref o0_), (.int x0_)])) _
    refine st1 _ ?_
    show Steps p.tables e below (T1.setTop (mkF m 5 #[.val (.ref o0_), .val (.int x0_)] [(.ref o1_), (.int x0_)])) _
    refine X1.arraylength hx (by rw [e1]; exact r2.1) (State.isArrayOf_alike hZ.alike r2.2.1) (g := (mkF m 5 #[.val (.ref o0_), .val (.int x0_)] [(.ref o1_), (.int x0_)])) rfl rfl (hb hby d3_5) _ ?_
    rw [len_of s2 z2]
    show Steps p.tables e below (T1.setTop (mkF m 6 #[.val (.ref o0_), .val (.int x0_)] [(.int (0 : Int32)), (.int x0_)])) _
    refine XS.icmpYes X1.here hx rfl (pc0 := 6) (pc' := 18) rfl (hb hby d3_6) rfl (flt ha0).2.1 (by decide) (by decide) ?_
    show Steps p.tables e below (T1.setTop (mkF m 18 #[.val (.ref o0_), .val (.int x0_)] [])) _
    refine XS.lconst X1.here hx rfl (hb hby d3_18) ?_
    exact kt
  obtain ⟨fs, hr, hrun, hended, hW, hsame⟩ := X1.leave (v := some (.long (0 : Int64))) (fun h => by rw [Bd.returns] at h; cases h)
  refine ⟨_, _, pre3 _ (retOut X1 hx Bd.returns rfl (Or.inr (Or.inl ⟨rfl, rfl, _, rfl⟩)) (hb hby d3_19) hr), hrun, hended, _, _, rfl, ?_, ⟨_, rfl⟩, hW, hsame.mono (by decide) (by decide)⟩
  show Qget11 Z o0_ x0_ o1_ ko1_ h0 n0 _ T1.heap _
  rw [e1]
  exact ⟨rfl, N0, rfl⟩
theorem d4_7 : decode method_3_code 7 = .ok (.iload_n 0, 1) := by decide +kernel
theorem d4_8 : decode method_3_code 8 = .ok (.ifCond .ne 5, 3) := by decide +kernel
theorem d4_13 : decode method_3_code 13 = .ok (.iload_n 0, 1) := by decide +kernel
theorem d4_14 : decode method_3_code 14 = .ok (.iconst 1, 1) := by decide +kernel
theorem d4_15 : decode method_3_code 15 = .ok (.if_icmp .ne 6, 3) := by decide +kernel
theorem d4_21 : decode method_3_code 21 = .ok (.lload 6, 2) := by decide +kernel
theorem d4_23 : decode method_3_code 23 = .ok (.lreturn, 1) := by decide +kernel
theorem efexpected12 (m : MethodId) (x0_ : Int32) (y1_ : Int64) (y2_ : Int64) (y3_ : Int64) : entryFrame m #[(.int x0_), (.int (0 : Int32)), (.long y1_), (.long y2_), (.long y3_)] 8 = mkF m 0 #[.val (.int x0_), .val (.int (0 : Int32)), .val (.long y1_), .second, .val (.long y2_), .second, .val (.long y3_), .second] [] := by first | (simp [entryFrame, mkF, argsToLocals, Value.category]; done) | rfl
def Qexpected12 (Z : State) (x0_ : Int32) (y1_ : Int64) (y2_ : Int64) (y3_ : Int64) (h0 : Heap) (n0 : Nat) (v : Option Value) (h : Heap) (L : List Loc) : Prop := ∃ r_ : Int64, v = some (.long r_) ∧ ((y3_ = r_ ∧ (x0_ < (0 : Int32))) ∨ ((0 : Int64) = r_ ∧ (¬ (x0_ < (0 : Int32))))) ∧ Fr n0 L ∧ h = h0
set_option maxRecDepth 65536 in
set_option maxHeartbeats 40000000 in
theorem rmexpected12 (l : Launch) (Z : State) (a0 : Array Value) (hw : ∀ d ∈ tables_1, d.before a0 Z = true) (ws : List Jvm.Cond) (x0_ : Int32) (y1_ : Int64) (y2_ : Int64) (y3_ : Int64) (h0 : Heap) (n0 : Nat) (O0 : Old Z n0 h0)  :
    MetFree l (⟨"com/example/latchkey/latchkey/LockTokensOfPinLaw", "expected", "(IIJJJ)J"⟩ : MethodName) (head1 (Jvm.Cond.code (⟨"com/example/latchkey/latchkey/LockTokensOfPinLaw", "expected", "(IIJJJ)J"⟩ : MethodName) method_3_code 8 (some .long) :: ws) ({ frames := 0, cells := 0, slots := 0, locals := 0 } : Room)) (fun a U => a = #[(.int x0_), (.int (0 : Int32)), (.long y1_), (.long y2_), (.long y3_)] ∧ Z.Warmed39 U.vm ∧ U.heap = h0) (fun _ _ _ _ _ => True) (fun _ U o U' => ∃ v L, o = .returned v ∧ Qexpected12 Z x0_ y1_ y2_ y3_ h0 n0 v U'.heap L ∧ FrameEnd U o U' L ({ frames := 0, cells := 0, slots := 0, locals := 0 } : Room).cells ({ frames := 0, cells := 0, slots := 0, locals := 0 } : Room).slots) := by
  refine MetFree.of_bodySF (plainFor_of_name pn_1) hisR ?_
  intro p e s m args below meth c s₁ Bd hml0 hP hK
  obtain ⟨rfl, hZ, hh⟩ := hP
  have hx := Bd.exec
  have hby := Bd.bytes
  have hml : c.maxLocals = 8 := hml0
  have hown : s.vm.findClass "com/example/latchkey/latchkey/LockTokensOfPinLaw" = some m.cls := findClass_of_methodNamed Bd.named
  have hnm := (name_of_methodNamed Bd.named Bd.method).1
  have X0 : Stand p l e ({ frames := 0, cells := 0, slots := 0, locals := 0 } : Room) s m #[(.int x0_), (.int (0 : Int32)), (.long y1_), (.long y2_), (.long y3_)] below meth c s₁ [] 0 0 := Stand.of_body Bd
  have e0 : s₁.heap = h0 := by rw [← hh, Bd.state]; rfl
  have N0 := Fr.nil n0
  have pre0 : ∀ t, Steps p.tables e below (s₁.setTop (mkF m 0 #[.val (.int x0_), .val (.int (0 : Int32)), .val (.long y1_), .second, .val (.long y2_), .second, .val (.long y3_), .second] [])) t → Steps p.tables e below (s₁.setTop (entryFrame m #[(.int x0_), (.int (0 : Int32)), (.long y1_), (.long y2_), (.long y3_)] 8)) t := fun t k => castTop (efexpected12 m x0_ y1_ y2_ y3_) k
  have K0 : Keep h0 h0 [] := Keep.refl _ _
  have pre1 : ∀ t, Steps p.tables e below (s₁.setTop (mkF m 2 #[.val (.int x0_), .val (.int (0 : Int32)), .val (.long y1_), .second, .val (.long y2_), .second, .val (.long y3_), .second] [(.int (0 : Int32)), (.int x0_)])) t → Steps p.tables e below (s₁.setTop (entryFrame m #[(.int x0_), (.int (0 : Int32)), (.long y1_), (.long y2_), (.long y3_)] 8)) t := by
    intro t kt
    refine pre0 t ?_
    show Steps p.tables e below (s₁.setTop (mkF m 0 #[.val (.int x0_), .val (.int (0 : Int32)), .val (.long y1_), .second, .val (.long y2_), .second, .val (.long y3_), .second] [])) _
    refine XS.iloadN X0.here hx rfl (hb hby d4_0) rfl ?_
    show Steps p.tables e below (s₁.setTop (mkF m 1 #[.val (.int x0_), .val (.int (0 : Int32)), .val (.long y1_), .second, .val (.long y2_), .second, .val (.long y3_), .second] [(.int x0_)])) _
    refine XS.iloadN X0.here hx rfl (hb hby d4_1) rfl ?_
    exact kt
  by_cases hc2 : x0_ < (0 : Int32)
  · have pre3 : ∀ t, Steps p.tables e below (s₁.setTop (mkF m 23 #[.val (.int x0_), .val (.int (0 : Int32)), .val (.long y1_), .second, .val (.long y2_), .second, .val (.long y3_), .second] [(.long y3_)])) t → Steps p.tables e below (s₁.setTop (entryFrame m #[(.int x0_), (.int (0 : Int32)), (.long y1_), (.long y2_), (.long y3_)] 8)) t := by
      intro t kt
      refine pre1 t ?_
      show Steps p.tables e below (s₁.setTop (mkF m 2 #[.val (.int x0_), .val (.int (0 : Int32)), .val (.long y1_), .second, .val (.long y2_), .second, .val (.long y3_), .second] [(.int (0 : Int32)), (.int x0_)])) _
      refine XS.icmpYes X0.here hx rfl (pc0 := 2) (pc' := 7) rfl (hb hby d4_2) rfl (tlt hc2).1 (by decide) (by decide) ?_
      show Steps p.tables e below (s₁.setTop (mkF m 7 #[.val (.int x0_), .val (.int (0 : Int32)), .val (.long y1_), .second, .val (.long y2_), .second, .val (.long y3_), .second] [])) _
      refine XS.iloadN X0.here hx rfl (hb hby d4_7) rfl ?_
      show Steps p.tables e below (s₁.setTop (mkF m 8 #[.val (.int x0_), .val (.int (0 : Int32)), .val (.long y1_), .second, .val (.long y2_), .second, .val (.long y3_), .second] [(.int x0_)])) _
      refine XS.ifYes X0.here hx rfl (pc0 := 8) (pc' := 13) rfl (hb hby d4_8) rfl ((if0 _ _).trans (feq (by intro hz; have lt_0 : ((0 : Int32)).toInt = 0 := rfl; simp only [Int32.lt_iff_toInt_lt, Int64.lt_iff_toInt_lt, ← Int32.toInt_inj, ← Int64.toInt_inj] at hz hc2; omega)).2) (by decide) (by decide) ?_
      show Steps p.tables e below (s₁.setTop (mkF m 13 #[.val (.int x0_), .val (.int (0 : Int32)), .val (.long y1_), .second, .val (.long y2_), .second, .val (.long y3_), .second] [])) _
      refine XS.iloadN X0.here hx rfl (hb hby d4_13) rfl ?_
      show Steps p.tables e below (s₁.setTop (mkF m 14 #[.val (.int x0_), .val (.int (0 : Int32)), .val (.long y1_), .second, .val (.long y2_), .second, .val (.long y3_), .second] [(.int x0_)])) _
      refine XS.iconst X0.here hx rfl (hb hby d4_14) ?_
      show Steps p.tables e below (s₁.setTop (mkF m 15 #[.val (.int x0_), .val (.int (0 : Int32)), .val (.long y1_), .second, .val (.long y2_), .second, .val (.long y3_), .second] [(.int (1 : Int32)), (.int x0_)])) _
      refine XS.icmpYes X0.here hx rfl (pc0 := 15) (pc' := 21) rfl (hb hby d4_15) rfl (feq (by intro hz; have lt_0 : ((0 : Int32)).toInt = 0 := rfl; have lt_1 : ((1 : Int32)).toInt = 1 := rfl; simp only [Int32.lt_iff_toInt_lt, Int64.lt_iff_toInt_lt, ← Int32.toInt_inj, ← Int64.toInt_inj] at hz hc2; omega)).2 (by decide) (by decide) ?_
      show Steps p.tables e below (s₁.setTop (mkF m 21 #[.val (.int x0_), .val (.int (0 : Int32)), .val (.long y1_), .second, .val (.long y2_), .second, .val (.long y3_), .second] [])) _
      refine XS.lload X0.here hx rfl (hb hby d4_21) rfl ?_
      exact kt
    obtain ⟨fs, hr, hrun, hended, hW, hsame⟩ := X0.leave (v := some (.long y3_)) (fun h => by rw [Bd.returns] at h; cases h)
    refine ⟨_, _, pre3 _ (retOut X0 hx Bd.returns rfl (Or.inr (Or.inl ⟨rfl, rfl, _, rfl⟩)) (hb hby d4_23) hr), hrun, hended, _, _, rfl, ?_, ⟨_, rfl⟩, hW, hsame.mono (by decide) (by decide)⟩
    show Qexpected12 Z x0_ y1_ y2_ y3_ h0 n0 _ s₁.heap _
    rw [e0]
    exact ⟨y3_, rfl, (Or.inl ⟨rfl, hc2⟩), N0, rfl⟩
  · have pre5 : ∀ t, Steps p.tables e below (s₁.setTop (mkF m 6 #[.val (.int x0_), .val (.int (0 : Int32)), .val (.long y1_), .second, .val (.long y2_), .second, .val (.long y3_), .second] [(.long (0 : Int64))])) t → Steps p.tables e below (s₁.setTop (entryFrame m #[(.int x0_), (.int (0 : Int32)), (.long y1_), (.long y2_), (.long y3_)] 8)) t := by
      intro t kt
      refine pre1 t ?_
      show Steps p.tables e below (s₁.setTop (mkF m 2 #[.val (.int x0_), .val (.int (0 : Int32)), .val (.long y1_), .second, .val (.long y2_), .second, .val (.long y3_), .second] [(.int (0 : Int32)), (.int x0_)])) _
      refine XS.icmpNo X0.here hx rfl (hb hby d4_2) rfl (flt hc2).1 ?_
      show Steps p.tables e below (s₁.setTop (mkF m 5 #[.val (.int x0_), .val (.int (0 : Int32)), .val (.long y1_), .second, .val (.long y2_), .second, .val (.long y3_), .second] [])) _
      refine XS.lconst X0.here hx rfl (hb hby d4_5) ?_
      exact kt
    obtain ⟨fs, hr, hrun, hended, hW, hsame⟩ := X0.leave (v := some (.long (0 : Int64))) (fun h => by rw [Bd.returns] at h; cases h)
    refine ⟨_, _, pre5 _ (retOut X0 hx Bd.returns rfl (Or.inr (Or.inl ⟨rfl, rfl, _, rfl⟩)) (hb hby d4_6) hr), hrun, hended, _, _, rfl, ?_, ⟨_, rfl⟩, hW, hsame.mono (by decide) (by decide)⟩
    show Qexpected12 Z x0_ y1_ y2_ y3_ h0 n0 _ s₁.heap _
    rw [e0]
    exact ⟨(0 : Int64), rfl, (Or.inr ⟨rfl, hc2⟩), N0, rfl⟩
theorem efinit14 (m : MethodId) (o0_ : Addr) (o1_ : Addr) : entryFrame m #[(.ref o0_), (.ref o1_)] 2 = mkF m 0 #[.val (.ref o0_), .val (.ref o1_)] [] := by first | (simp [entryFrame, mkF, argsToLocals, Value.category]; done) | rfl
def Qinit14 (Z : State) (o0_ : Addr) (o1_ : Addr) (ko1_ : ClassId) (y0_ : Int64) (h0 : Heap) (n0 : Nat) (v : Option Value) (h : Heap) (L : List Loc) : Prop := v = none ∧ Fr n0 L ∧ Keep h0 h [o0_] ∧ Exa Z h o0_ "com/example/latchkey/latchkey/LockTokens" ∧ Fld Z h o0_ "com/example/latchkey/latchkey/LockTokens" "tokens" "[J" (.ref o1_)
set_option maxRecDepth 65536 in
set_option maxHeartbeats 40000000 in
theorem rminit14 (l : Launch) (Z : State) (a0 : Array Value) (hw : ∀ d ∈ tables_1, d.before a0 Z = true) (ws : List Jvm.Cond) (o0_ : Addr) (o1_ : Addr) (ko1_ : ClassId) (y0_ : Int64) (h0 : Heap) (n0 : Nat) (O0 : Old Z n0 h0) (P0 : Exa Z h0 o0_ "com/example/latchkey/latchkey/LockTokens") (P1 : Fld Z h0 o0_ "com/example/latchkey/latchkey/LockTokens" "tokens" "[J" .null) (P2 : Arv Z h0 o1_ ko1_ .long (1 : Int32) [(.long y0_)] (.long (0 : Int64))) (P3 : Exa Z h0 o1_ "[J") (P4 : n0 ≤ o0_) :
    MetFree l (⟨"com/example/latchkey/latchkey/LockTokens", "<init>", "([J)V"⟩ : MethodName) (head1 (Jvm.Cond.code (⟨"com/example/latchkey/latchkey/LockTokens", "<init>", "([J)V"⟩ : MethodName) prog_31_method_1_code 2 none :: ws) ({ frames := 1, cells := 0, slots := 0, locals := 12 } : Room)) (fun a U => a = #[(.ref o0_), (.ref o1_)] ∧ Z.Warmed39 U.vm ∧ U.heap = h0) (fun _ _ _ _ _ => True) (fun _ U o U' => ∃ v L, o = .returned v ∧ Qinit14 Z o0_ o1_ ko1_ y0_ h0 n0 v U'.heap L ∧ FrameEnd U o U' L ({ frames := 1, cells := 0, slots := 0, locals := 12 } : Room).cells ({ frames := 1, cells := 0, slots := 0, locals := 12 } : Room).slots) := by
  refine MetFree.of_bodySF (plainFor_of_name pn_0) hisR ?_
  intro p e s m args below meth c s₁ Bd hml0 hP hK
  obtain ⟨rfl, hZ, hh⟩ := hP
  have hx := Bd.exec
  have hby := Bd.bytes
  have hml : c.maxLocals = 2 := hml0
  have hown : s.vm.findClass "com/example/latchkey/latchkey/LockTokens" = some m.cls := findClass_of_methodNamed Bd.named
  have hnm := (name_of_methodNamed Bd.named Bd.method).1
  have X0 : Stand p l e ({ frames := 1, cells := 0, slots := 0, locals := 12 } : Room) s m #[(.ref o0_), (.ref o1_)] below meth c s₁ [] 0 0 := Stand.of_body Bd
  have e0 : s₁.heap = h0 := by rw [← hh, Bd.state]; rfl
  have N0 := Fr.nil n0
  have pre0 : ∀ t, Steps p.tables e below (s₁.setTop (mkF m 0 #[.val (.ref o0_), .val (.ref o1_)] [])) t → Steps p.tables e below (s₁.setTop (entryFrame m #[(.ref o0_), (.ref o1_)] 2)) t := fun t k => castTop (efinit14 m o0_ o1_) k
  have K0 : Keep h0 h0 [o0_] := Keep.refl _ _
  obtain ⟨T1, X1, e1, st1⟩ := initO X0 hx hZ hown (hw _ (List.mem_of_getElem? (i := 19) rfl)) (hw _ (List.mem_of_getElem? (i := 20) rfl)) (hw _ (List.mem_of_getElem? (i := 21) rfl)) e0 (g := (mkF m 1 #[.val (.ref o0_), .val (.ref o1_)] [(.ref o0_)])) rfl (by rw [hml]; rfl) rfl (hb hby d2_1) (by decide) (W := 0) (by show 2 * 0 + _ ≤ _; exact Nat.le_of_eq rfl) (by decide)
  obtain ⟨T2, h2, X2, e2, W2, st2⟩ := putF X1 hx hZ hown (host := "") (Or.inl (hw _ (List.mem_of_getElem? (i := 22) rfl))) Via.refl e1 P1 P0 (Or.inr ⟨(hw _ (List.mem_of_getElem? (i := 23) rfl)), rfl, hnm⟩) (hw _ (List.mem_of_getElem? (i := 6) rfl)) (ty := (.array .long)) (by decide) rfl rfl (g := (mkF m 6 #[.val (.ref o0_), .val (.ref o1_)] [(.ref o1_), (.ref o0_)])) rfl rfl (hb hby d2_6)
  have N3 := Fr.snoc X2 N0 P4
  have f4 : Fld Z h2 o0_ "com/example/latchkey/latchkey/LockTokens" "tokens" "[J" (.ref o1_) := P1.same W2
  have pre5 : ∀ t, Steps p.tables e below (T2.setTop (mkF m 9 #[.val (.ref o0_), .val (.ref o1_)] [])) t → Steps p.tables e below (s₁.setTop (entryFrame m #[(.ref o0_), (.ref o1_)] 2)) t := by
    intro t kt
    refine pre0 t ?_
    show Steps p.tables e below (s₁.setTop (mkF m 0 #[.val (.ref o0_), .val (.ref o1_)] [])) _
    refine XS.aloadN X0.here hx rfl (hb hby d2_0) rfl rfl ?_
    show Steps p.tables e below (s₁.setTop (mkF m 1 #[.val (.ref o0_), .val (.ref o1_)] [(.ref o0_)])) _
    refine st1 _ ?_
    show Steps p.tables e below (T1.setTop (mkF m 4 #[.val (.ref o0_), .val (.ref o1_)] [])) _
    refine XS.aloadN X1.here hx rfl (hb hby d2_4) rfl rfl ?_
    show Steps p.tables e below (T1.setTop (mkF m 5 #[.val (.ref o0_), .val (.ref o1_)] [(.ref o0_)])) _
    refine XS.aloadN X1.here hx rfl (hb hby d2_5) rfl rfl ?_
    show Steps p.tables e below (T1.setTop (mkF m 6 #[.val (.ref o0_), .val (.ref o1_)] [(.ref o1_), (.ref o0_)])) _
    refine st2 _ ?_
    exact kt
  have f7 : Keep h0 h2 [o0_] := K0.wr W2 (Or.inl (List.mem_of_getElem? (i := 0) rfl))
  have f8 : Exa Z h2 o0_ "com/example/latchkey/latchkey/LockTokens" := P0.wr W2
  obtain ⟨fs, hr, hrun, hended, hW, hsame⟩ := X2.leave (v := none) (fun _ => rfl)
  refine ⟨_, _, pre5 _ (X2.returnOut hx Bd.returns (hb hby d2_9) hr), hrun, hended, _, _, rfl, ?_, ⟨_, rfl⟩, hW, hsame.mono (by decide) (by decide)⟩
  show Qinit14 Z o0_ o1_ ko1_ y0_ h0 n0 _ T2.heap _
  rw [e2]
  exact ⟨rfl, N3, f7, f8, f4⟩
theorem efof13 (m : MethodId) (o0_ : Addr) : entryFrame m #[(.ref o0_)] 1 = mkF m 0 #[.val (.ref o0_)] [] := by first | (simp [entryFrame, mkF, argsToLocals, Value.category]; done) | rfl
def Qof13 (Z : State) (o0_ : Addr) (ko0_ : ClassId) (y0_ : Int64) (h0 : Heap) (n0 : Nat) (v : Option Value) (h : Heap) (L : List Loc) : Prop := ∃ nb1 : Addr, ∃ nb5 : Addr, v = some (.ref nb1) ∧ Fr n0 L ∧ Keep h0 h [] ∧ h0.size ≤ nb1 ∧ h0.size ≤ nb5 ∧ Exa Z h nb1 "com/example/latchkey/latchkey/LockTokens" ∧ Fld Z h nb1 "com/example/latchkey/latchkey/LockTokens" "tokens" "[J" (.ref nb5) ∧ Arv Z h nb5 ko0_ .long (1 : Int32) [(.long y0_)] (.long (0 : Int64)) ∧ Exa Z h nb5 "[J"
set_option maxRecDepth 65536 in
set_option maxHeartbeats 40000000 in
theorem rmof13 (l : Launch) (Z : State) (a0 : Array Value) (hw : ∀ d ∈ tables_1, d.before a0 Z = true) (ws : List Jvm.Cond) (o0_ : Addr) (ko0_ : ClassId) (y0_ : Int64) (h0 : Heap) (n0 : Nat) (O0 : Old Z n0 h0) (P0 : Arv Z h0 o0_ ko0_ .long (1 : Int32) [(.long y0_)] (.long (0 : Int64))) (P1 : Exa Z h0 o0_ "[J") :
    MetFree l (⟨"com/example/latchkey/latchkey/LockTokens", "of", "([J)Lcom/example/latchkey/latchkey/LockTokens;"⟩ : MethodName) (head1 (Jvm.Cond.code (⟨"com/example/latchkey/latchkey/LockTokens", "of", "([J)Lcom/example/latchkey/latchkey/LockTokens;"⟩ : MethodName) prog_31_method_2_code 1 (some (.object "com/example/latchkey/latchkey/LockTokens")) :: ws) ({ frames := 2, cells := 2, slots := 2, locals := 26 } : Room)) (fun a U => a = #[(.ref o0_)] ∧ Z.Warmed39 U.vm ∧ U.heap = h0) (fun _ _ _ _ _ => True) (fun _ U o U' => ∃ v L, o = .returned v ∧ Qof13 Z o0_ ko0_ y0_ h0 n0 v U'.heap L ∧ FrameEnd U o U' L ({ frames := 2, cells := 2, slots := 2, locals := 26 } : Room).cells ({ frames := 2, cells := 2, slots := 2, locals := 26 } : Room).slots) := by
  refine MetFree.of_bodySF (plainFor_of_name pn_0) hisR ?_
  intro p e s m args below meth c s₁ Bd hml0 hP hK
  obtain ⟨rfl, hZ, hh⟩ := hP
  have hx := Bd.exec
  have hby := Bd.bytes
  have hml : c.maxLocals = 1 := hml0
  have hown : s.vm.findClass "com/example/latchkey/latchkey/LockTokens" = some m.cls := findClass_of_methodNamed Bd.named
  have hnm := (name_of_methodNamed Bd.named Bd.method).1
  have X0 : Stand p l e ({ frames := 2, cells := 2, slots := 2, locals := 26 } : Room) s m #[(.ref o0_)] below meth c s₁ [] 0 0 := Stand.of_body Bd
  have e0 : s₁.heap = h0 := by rw [← hh, Bd.state]; rfl
  have N0 := Fr.nil n0
  have pre0 : ∀ t, Steps p.tables e below (s₁.setTop (mkF m 0 #[.val (.ref o0_)] [])) t → Steps p.tables e below (s₁.setTop (entryFrame m #[(.ref o0_)] 1)) t := fun t k => castTop (efof13 m o0_) k
  have K0 : Keep h0 h0 [] := Keep.refl _ _
  obtain ⟨T1, h1, X1, e1, E1, A1, D1, -, st1⟩ := newO X0 hx hZ hown (hw _ (List.mem_of_getElem? (i := 5) rfl)) (hw _ (List.mem_of_getElem? (i := 6) rfl)) (hw _ (List.mem_of_getElem? (i := 3) rfl)) e0 (g := (mkF m 0 #[.val (.ref o0_)] [])) rfl (hb hby d1_0) (by decide) (by decide)
  obtain ⟨b1, g1⟩ : ∃ z, z = h0.size := ⟨_, rfl⟩
  rw [← g1] at A1 D1 st1
  have ge2 : n0 ≤ b1 := Nat.le_trans (Nat.le_trans (Nat.le_of_eq O0.1.symm) O0.2.1) (Nat.le_of_eq g1.symm)
  have sz3 : h0.size ≤ b1 := Nat.le_trans K0.1 (Nat.le_of_eq g1.symm)
  have f4 : Fld Z h1 b1 "com/example/latchkey/latchkey/LockTokens" "tokens" "[J" .null := D1 (Or.inr (hw _ (List.mem_of_getElem? (i := 23) rfl))) (ty := (.array .long)) (by decide)
  have f6 : Arv Z h1 o0_ ko0_ .long (1 : Int32) [(.long y0_)] (.long (0 : Int64)) := P0.ext E1
  have f7 : Exa Z h1 o0_ "[J" := P1.ext E1
  obtain ⟨T5, h5, X5, e5, E5, A5, Z5, st5⟩ := cloneH X1 hx hZ hown (hw _ (List.mem_of_getElem? (i := 7) rfl)) (hw _ (List.mem_of_getElem? (i := 8) rfl)) (hw _ (List.mem_of_getElem? (i := 12) rfl)) (hw _ (List.mem_of_getElem? (i := 10) rfl)) (hw _ (List.mem_of_getElem? (i := 11) rfl)) (hw _ (List.mem_of_getElem? (i := 13) rfl)) e1 f6.arh f7 (g := (mkF m 5 #[.val (.ref o0_)] [(.ref o0_), (.ref b1), (.ref b1)])) rfl (by rw [hml]; rfl) rfl (hb hby d1_5) (by decide) (W := 2) (cap := 1) (by show 2 * 0 + _ ≤ _; exact Nat.le_of_eq rfl) (by decide) (by decide) (by decide) (by decide)
  obtain ⟨b5, g5⟩ : ∃ z, z = h1.size := ⟨_, rfl⟩
  rw [← g5] at A5 Z5 st5
  have f8 : Old Z n0 h1 := O0.ext E1
  have ge9 : n0 ≤ b5 := Nat.le_trans (Nat.le_trans (Nat.le_of_eq f8.1.symm) f8.2.1) (Nat.le_of_eq g5.symm)
  have f10 : Keep h0 h1 [] := K0.ext E1
  have sz11 : h0.size ≤ b5 := Nat.le_trans f10.1 (Nat.le_of_eq g5.symm)
  have f12 : Arv Z h5 b5 ko0_ .long (1 : Int32) [(.long y0_)] (.long (0 : Int64)) := A5
  obtain ⟨T13, X13, e13, st13⟩ := castY X5 hx hZ hown (hw _ (List.mem_of_getElem? (i := 14) rfl)) e5 (Ins.self Z5) (g := (mkF m 8 #[.val (.ref o0_)] [(.ref b5), (.ref b1), (.ref b1)])) rfl rfl (hb hby d1_8)
  have f15 : Exa Z h5 b1 "com/example/latchkey/latchkey/LockTokens" := A1.ext E5
  have f16 : Fld Z h5 b1 "com/example/latchkey/latchkey/LockTokens" "tokens" "[J" .null := f4.ext E5
  have f17 : Old Z n0 h5 := f8.ext E5
  obtain ⟨_, _, ⟨T14, L14, k14, n14⟩, -, X14, ⟨Lc14, hQ14, l14, y14, z14⟩, st14⟩ := X13.specialBack hx (y := (⟨"com/example/latchkey/latchkey/LockTokens", "<init>", "([J)V"⟩ : MethodName)) rfl hown (mvT hZ (hw _ (List.mem_of_getElem? (i := 16) rfl))) (mvT hZ (hw _ (List.mem_of_getElem? (i := 17) rfl))) (mvT hZ (hw _ (List.mem_of_getElem? (i := 18) rfl))) (by decide) (backOf (W := 1) (rminit14 l Z a0 hw [] b1 b5 ko0_ y0_ h5 n0 f17 f15 f16 f12 Z5 ge2) hZ (hw _ (List.mem_of_getElem? (i := 18) rfl)) (hw _ (List.mem_of_getElem? (i := 3) rfl)) (by decide) (by decide)) (g := (mkF m 11 #[.val (.ref o0_)] [(.ref b5), (.ref b1), (.ref b1)])) rfl (by rw [hml]; rfl) (Steps.refl _) (a := b1) (argsL := [(.ref b5)]) (rest := [(.ref b1)]) (lenOf pd_0 rfl) rfl (by show 2 * 0 + _ ≤ _; exact Nat.le_of_eq rfl) (hb hby d1_11) (fun _ _ => ⟨rfl, e13, (by decide : 2 + 0 ≤ _), (by decide : 2 + 0 ≤ _)⟩)
  dsimp only [Pt.U, Pt.locs, Pt.cells, Pt.slots] at X14 l14 y14 z14 st14 hQ14
  subst l14 y14 z14
  obtain ⟨h14, e14⟩ : ∃ z, T14.heap = z := ⟨_, rfl⟩
  rw [e14] at hQ14
  obtain ⟨rfl, N14q, K14, g14_0, g14_1⟩ := hQ14
  have N18 := Fr.app N0 N14q
  have pre19 : ∀ t, Steps p.tables e below (T14.setTop (mkF m 14 #[.val (.ref o0_)] [(.ref b1)])) t → Steps p.tables e below (s₁.setTop (entryFrame m #[(.ref o0_)] 1)) t := by
    intro t kt
    refine pre0 t ?_
    show Steps p.tables e below (s₁.setTop (mkF m 0 #[.val (.ref o0_)] [])) _
    refine st1 _ ?_
    show Steps p.tables e below (T1.setTop (mkF m 3 #[.val (.ref o0_)] [(.ref b1)])) _
    refine XS.dup X1.here hx rfl (hb hby d1_3) rfl rfl ?_
    show Steps p.tables e below (T1.setTop (mkF m 4 #[.val (.ref o0_)] [(.ref b1), (.ref b1)])) _
    refine XS.aloadN X1.here hx rfl (hb hby d1_4) rfl rfl ?_
    show Steps p.tables e below (T1.setTop (mkF m 5 #[.val (.ref o0_)] [(.ref o0_), (.ref b1), (.ref b1)])) _
    refine st5 _ ?_
    show Steps p.tables e below (T5.setTop (mkF m 8 #[.val (.ref o0_)] [(.ref b5), (.ref b1), (.ref b1)])) _
    refine st13 _ ?_
    show Steps p.tables e below (T13.setTop (mkF m 11 #[.val (.ref o0_)] [(.ref b5), (.ref b1), (.ref b1)])) _
    refine st14.trans ?_
    exact kt
  have f21 : Keep h0 h5 [] := f10.ext E5
  have f22 : Keep h0 h14 [] := f21.trans K14 (allS (Or.inr sz3) all0)
  have ne24 : b1 ≠ b5 := Nat.ne_of_lt (Nat.lt_of_lt_of_le A1.lt (Nat.le_of_eq g5.symm))
  have f23 : Arv Z h14 b5 ko0_ .long (1 : Int32) [(.long y0_)] (.long (0 : Int64)) := f12.keep K14 (ninS (Ne.symm ne24) nin0)
  have f25 : Exa Z h14 b5 "[J" := Z5.keep K14
  obtain ⟨fs, hr, hrun, hended, hW, hsame⟩ := X14.leave (v := some (.ref b1)) (fun h => by rw [Bd.returns] at h; cases h)
  refine ⟨_, _, pre19 _ (retOut X14 hx Bd.returns rfl (Or.inr (Or.inr (Or.inr (Or.inr ⟨rfl, rfl, rfl⟩)))) (hb hby d1_14) hr), hrun, hended, _, _, rfl, ?_, ⟨_, rfl⟩, hW, hsame.mono (by decide) (by decide)⟩
  show Qof13 Z o0_ ko0_ y0_ h0 n0 _ T14.heap _
  rw [e14]
  exact ⟨b1, b5, rfl, N18, f22, sz3, sz11, g14_0, g14_1, f23, f25⟩
theorem d3_9 : decode prog_31_method_3_code 9 = .ok (.aload_n 0, 1) := by decide +kernel
theorem d3_10 : decode prog_31_method_3_code 10 = .ok (.getfield 7, 3) := by decide +kernel
theorem d3_13 : decode prog_31_method_3_code 13 = .ok (.iload_n 1, 1) := by decide +kernel
theorem d3_14 : decode prog_31_method_3_code 14 = .ok (.laload, 1) := by decide +kernel
theorem d3_15 : decode prog_31_method_3_code 15 = .ok (.goto 4, 3) := by decide +kernel
theorem efget15 (m : MethodId) (o0_ : Addr) : entryFrame m #[(.ref o0_), (.int (0 : Int32))] 2 = mkF m 0 #[.val (.ref o0_), .val (.int (0 : Int32))] [] := by first | (simp [entryFrame, mkF, argsToLocals, Value.category]; done) | rfl
def Qget15 (Z : State) (o0_ : Addr) (o1_ : Addr) (ko1_ : ClassId) (y0_ : Int64) (h0 : Heap) (n0 : Nat) (v : Option Value) (h : Heap) (L : List Loc) : Prop := v = some (.long y0_) ∧ Fr n0 L ∧ h = h0
set_option maxRecDepth 65536 in
set_option maxHeartbeats 40000000 in
theorem rmget15 (l : Launch) (Z : State) (a0 : Array Value) (hw : ∀ d ∈ tables_1, d.before a0 Z = true) (ws : List Jvm.Cond) (o0_ : Addr) (o1_ : Addr) (ko1_ : ClassId) (y0_ : Int64) (h0 : Heap) (n0 : Nat) (O0 : Old Z n0 h0) (P0 : Exa Z h0 o0_ "com/example/latchkey/latchkey/LockTokens") (P1 : Fld Z h0 o0_ "com/example/latchkey/latchkey/LockTokens" "tokens" "[J" (.ref o1_)) (P2 : Arv Z h0 o1_ ko1_ .long (1 : Int32) [(.long y0_)] (.long (0 : Int64))) (P3 : Exa Z h0 o1_ "[J") :
    MetFree l (⟨"com/example/latchkey/latchkey/LockTokens", "get", "(I)J"⟩ : MethodName) (head1 (Jvm.Cond.code (⟨"com/example/latchkey/latchkey/LockTokens", "get", "(I)J"⟩ : MethodName) prog_31_method_3_code 2 (some .long) :: ws) ({ frames := 0, cells := 0, slots := 0, locals := 0 } : Room)) (fun a U => a = #[(.ref o0_), (.int (0 : Int32))] ∧ Z.Warmed39 U.vm ∧ U.heap = h0) (fun _ _ _ _ _ => True) (fun _ U o U' => ∃ v L, o = .returned v ∧ Qget15 Z o0_ o1_ ko1_ y0_ h0 n0 v U'.heap L ∧ FrameEnd U o U' L ({ frames := 0, cells := 0, slots := 0, locals := 0 } : Room).cells ({ frames := 0, cells := 0, slots := 0, locals := 0 } : Room).slots) := by
  refine MetFree.of_bodySF (plainFor_of_name pn_0) hisR ?_
  intro p e s m args below meth c s₁ Bd hml0 hP hK
  obtain ⟨rfl, hZ, hh⟩ := hP
  have hx := Bd.exec
  have hby := Bd.bytes
  have hml : c.maxLocals = 2 := hml0
  have hown : s.vm.findClass "com/example/latchkey/latchkey/LockTokens" = some m.cls := findClass_of_methodNamed Bd.named
  have hnm := (name_of_methodNamed Bd.named Bd.method).1
  have X0 : Stand p l e ({ frames := 0, cells := 0, slots := 0, locals := 0 } : Room) s m #[(.ref o0_), (.int (0 : Int32))] below meth c s₁ [] 0 0 := Stand.of_body Bd
  have e0 : s₁.heap = h0 := by rw [← hh, Bd.state]; rfl
  have N0 := Fr.nil n0
  have pre0 : ∀ t, Steps p.tables e below (s₁.setTop (mkF m 0 #[.val (.ref o0_), .val (.int (0 : Int32))] [])) t → Steps p.tables e below (s₁.setTop (entryFrame m #[(.ref o0_), (.int (0 : Int32))] 2)) t := fun t k => castTop (efget15 m o0_) k
  have K0 : Keep h0 h0 [] := Keep.refl _ _
  obtain ⟨T1, X1, e1, st1⟩ := getF X0 hx hZ hown (host := "") (Or.inl (hw _ (List.mem_of_getElem? (i := 22) rfl))) Via.refl e0 P1 (g := (mkF m 2 #[.val (.ref o0_), .val (.int (0 : Int32))] [(.ref o0_), (.int (0 : Int32))])) rfl rfl (hb hby d3_2)
  obtain ⟨c2, r2, q2, s2, z2, y2, G2⟩ := id P2
  obtain ⟨T3, X3, e3, st3⟩ := getF X1 hx hZ hown (host := "") (Or.inl (hw _ (List.mem_of_getElem? (i := 22) rfl))) Via.refl e1 P1 (g := (mkF m 10 #[.val (.ref o0_), .val (.int (0 : Int32))] [(.ref o0_)])) rfl rfl (hb hby d3_10)
  obtain ⟨c4, r4, q4, s4, z4, y4, G4⟩ := id P2
  have hin4 : ¬ ((0 : Int32) < 0 ∨ c4.slots.size ≤ ((0 : Int32)).toNatClampNeg) := inb_of s4 ⟨by decide, by decide⟩
  have hat4 : c4.slots[((0 : Int32)).toNatClampNeg]? = some (.long y0_) := Has.at y4 hin4 rfl
  have pre5 : ∀ t, Steps p.tables e below (T3.setTop (mkF m 19 #[.val (.ref o0_), .val (.int (0 : Int32))] [(.long y0_)])) t → Steps p.tables e below (s₁.setTop (entryFrame m #[(.ref o0_), (.int (0 : Int32))] 2)) t := by
    intro t kt
    refine pre0 t ?_
    show Steps p.tables e below (s₁.setTop (mkF m 0 #[.val (.ref o0_), .val (.int (0 : Int32))] [])) _
    refine XS.iloadN X0.here hx rfl (hb hby d3_0) rfl ?_
    show Steps p.tables e below (s₁.setTop (mkF m 1 #[.val (.ref o0_), .val (.int (0 : Int32))] [(.int (0 : Int32))])) _
    refine XS.aloadN X0.here hx rfl (hb hby d3_1) rfl rfl ?_
    show Steps p.tables e below (s₁.setTop (mkF m 2 #[.val (.ref o0_), .val (.int (0 : Int32))] [(.ref o0_), (.int (0 : Int32))])) _
    refine st1 _ ?_
    show Steps p.tables e below (T1.setTop (mkF m 5 #[.val (.ref o0_), .val (.int (0 : Int32))] [(.ref o1_), (.int (0 : Int32))])) _
    refine X1.arraylength hx (by rw [e1]; exact r2.1) (State.isArrayOf_alike hZ.alike r2.2.1) (g := (mkF m 5 #[.val (.ref o0_), .val (.int (0 : Int32))] [(.ref o1_), (.int (0 : Int32))])) rfl rfl (hb hby d3_5) _ ?_
    rw [len_of s2 z2]
    show Steps p.tables e below (T1.setTop (mkF m 6 #[.val (.ref o0_), .val (.int (0 : Int32))] [(.int (1 : Int32)), (.int (0 : Int32))])) _
    refine XS.icmpNo X1.here hx rfl (hb hby d3_6) rfl (tlt (by decide : (0 : Int32) < (1 : Int32))).2.1 ?_
    show Steps p.tables e below (T1.setTop (mkF m 9 #[.val (.ref o0_), .val (.int (0 : Int32))] [])) _
    refine XS.aloadN X1.here hx rfl (hb hby d3_9) rfl rfl ?_
    show Steps p.tables e below (T1.setTop (mkF m 10 #[.val (.ref o0_), .val (.int (0 : Int32))] [(.ref o0_)])) _
    refine st3 _ ?_
    show Steps p.tables e below (T3.setTop (mkF m 13 #[.val (.ref o0_), .val (.int (0 : Int32))] [(.ref o1_)])) _
    refine XS.iloadN X3.here hx rfl (hb hby d3_13) rfl ?_
    show Steps p.tables e below (T3.setTop (mkF m 14 #[.val (.ref o0_), .val (.int (0 : Int32))] [(.int (0 : Int32)), (.ref o1_)])) _
    refine X3.laload hx (j := (0 : Int32)) (v := (.long y0_)) (by rw [e3]; exact r4.1) (State.isArrayOf_alike hZ.alike r4.2.1) r4.2.2 hin4 hat4 (g := (mkF m 14 #[.val (.ref o0_), .val (.int (0 : Int32))] [(.int (0 : Int32)), (.ref o1_)])) rfl rfl (hb hby d3_14) _ ?_
    show Steps p.tables e below (T3.setTop (mkF m 15 #[.val (.ref o0_), .val (.int (0 : Int32))] [(.long y0_)])) _
    refine XS.goto X3.here hx rfl (pc0 := 15) (pc' := 19) rfl (hb hby d3_15) (by decide) (by decide) ?_
    exact kt
  obtain ⟨fs, hr, hrun, hended, hW, hsame⟩ := X3.leave (v := some (.long y0_)) (fun h => by rw [Bd.returns] at h; cases h)
  refine ⟨_, _, pre5 _ (retOut X3 hx Bd.returns rfl (Or.inr (Or.inl ⟨rfl, rfl, _, rfl⟩)) (hb hby d3_19) hr), hrun, hended, _, _, rfl, ?_, ⟨_, rfl⟩, hW, hsame.mono (by decide) (by decide)⟩
  show Qget15 Z o0_ o1_ ko1_ y0_ h0 n0 _ T3.heap _
  rw [e3]
  exact ⟨rfl, N0, rfl⟩
theorem d4_11 : decode method_3_code 11 = .ok (.lload_n 2, 1) := by decide +kernel
theorem d4_12 : decode method_3_code 12 = .ok (.lreturn, 1) := by decide +kernel
theorem efexpected16 (m : MethodId) (y0_ : Int64) (y1_ : Int64) (y2_ : Int64) : entryFrame m #[(.int (0 : Int32)), (.int (1 : Int32)), (.long y0_), (.long y1_), (.long y2_)] 8 = mkF m 0 #[.val (.int (0 : Int32)), .val (.int (1 : Int32)), .val (.long y0_), .second, .val (.long y1_), .second, .val (.long y2_), .second] [] := by first | (simp [entryFrame, mkF, argsToLocals, Value.category]; done) | rfl
def Qexpected16 (Z : State) (y0_ : Int64) (y1_ : Int64) (y2_ : Int64) (h0 : Heap) (n0 : Nat) (v : Option Value) (h : Heap) (L : List Loc) : Prop := v = some (.long y0_) ∧ Fr n0 L ∧ h = h0
set_option maxRecDepth 65536 in
set_option maxHeartbeats 40000000 in
theorem rmexpected16 (l : Launch) (Z : State) (a0 : Array Value) (hw : ∀ d ∈ tables_1, d.before a0 Z = true) (ws : List Jvm.Cond) (y0_ : Int64) (y1_ : Int64) (y2_ : Int64) (h0 : Heap) (n0 : Nat) (O0 : Old Z n0 h0)  :
    MetFree l (⟨"com/example/latchkey/latchkey/LockTokensOfPinLaw", "expected", "(IIJJJ)J"⟩ : MethodName) (head1 (Jvm.Cond.code (⟨"com/example/latchkey/latchkey/LockTokensOfPinLaw", "expected", "(IIJJJ)J"⟩ : MethodName) method_3_code 8 (some .long) :: ws) ({ frames := 0, cells := 0, slots := 0, locals := 0 } : Room)) (fun a U => a = #[(.int (0 : Int32)), (.int (1 : Int32)), (.long y0_), (.long y1_), (.long y2_)] ∧ Z.Warmed39 U.vm ∧ U.heap = h0) (fun _ _ _ _ _ => True) (fun _ U o U' => ∃ v L, o = .returned v ∧ Qexpected16 Z y0_ y1_ y2_ h0 n0 v U'.heap L ∧ FrameEnd U o U' L ({ frames := 0, cells := 0, slots := 0, locals := 0 } : Room).cells ({ frames := 0, cells := 0, slots := 0, locals := 0 } : Room).slots) := by
  refine MetFree.of_bodySF (plainFor_of_name pn_1) hisR ?_
  intro p e s m args below meth c s₁ Bd hml0 hP hK
  obtain ⟨rfl, hZ, hh⟩ := hP
  have hx := Bd.exec
  have hby := Bd.bytes
  have hml : c.maxLocals = 8 := hml0
  have hown : s.vm.findClass "com/example/latchkey/latchkey/LockTokensOfPinLaw" = some m.cls := findClass_of_methodNamed Bd.named
  have hnm := (name_of_methodNamed Bd.named Bd.method).1
  have X0 : Stand p l e ({ frames := 0, cells := 0, slots := 0, locals := 0 } : Room) s m #[(.int (0 : Int32)), (.int (1 : Int32)), (.long y0_), (.long y1_), (.long y2_)] below meth c s₁ [] 0 0 := Stand.of_body Bd
  have e0 : s₁.heap = h0 := by rw [← hh, Bd.state]; rfl
  have N0 := Fr.nil n0
  have pre0 : ∀ t, Steps p.tables e below (s₁.setTop (mkF m 0 #[.val (.int (0 : Int32)), .val (.int (1 : Int32)), .val (.long y0_), .second, .val (.long y1_), .second, .val (.long y2_), .second] [])) t → Steps p.tables e below (s₁.setTop (entryFrame m #[(.int (0 : Int32)), (.int (1 : Int32)), (.long y0_), (.long y1_), (.long y2_)] 8)) t := fun t k => castTop (efexpected16 m y0_ y1_ y2_) k
  have K0 : Keep h0 h0 [] := Keep.refl _ _
  have pre1 : ∀ t, Steps p.tables e below (s₁.setTop (mkF m 12 #[.val (.int (0 : Int32)), .val (.int (1 : Int32)), .val (.long y0_), .second, .val (.long y1_), .second, .val (.long y2_), .second] [(.long y0_)])) t → Steps p.tables e below (s₁.setTop (entryFrame m #[(.int (0 : Int32)), (.int (1 : Int32)), (.long y0_), (.long y1_), (.long y2_)] 8)) t := by
    intro t kt
    refine pre0 t ?_
    show Steps p.tables e below (s₁.setTop (mkF m 0 #[.val (.int (0 : Int32)), .val (.int (1 : Int32)), .val (.long y0_), .second, .val (.long y1_), .second, .val (.long y2_), .second] [])) _
    refine XS.iloadN X0.here hx rfl (hb hby d4_0) rfl ?_
    show Steps p.tables e below (s₁.setTop (mkF m 1 #[.val (.int (0 : Int32)), .val (.int (1 : Int32)), .val (.long y0_), .second, .val (.long y1_), .second, .val (.long y2_), .second] [(.int (0 : Int32))])) _
    refine XS.iloadN X0.here hx rfl (hb hby d4_1) rfl ?_
    show Steps p.tables e below (s₁.setTop (mkF m 2 #[.val (.int (0 : Int32)), .val (.int (1 : Int32)), .val (.long y0_), .second, .val (.long y1_), .second, .val (.long y2_), .second] [(.int (1 : Int32)), (.int (0 : Int32))])) _
    refine XS.icmpYes X0.here hx rfl (pc0 := 2) (pc' := 7) rfl (hb hby d4_2) rfl (tlt (by decide : (0 : Int32) < (1 : Int32))).1 (by decide) (by decide) ?_
    show Steps p.tables e below (s₁.setTop (mkF m 7 #[.val (.int (0 : Int32)), .val (.int (1 : Int32)), .val (.long y0_), .second, .val (.long y1_), .second, .val (.long y2_), .second] [])) _
    refine XS.iloadN X0.here hx rfl (hb hby d4_7) rfl ?_
    show Steps p.tables e below (s₁.setTop (mkF m 8 #[.val (.int (0 : Int32)), .val (.int (1 : Int32)), .val (.long y0_), .second, .val (.long y1_), .second, .val (.long y2_), .second] [(.int (0 : Int32))])) _
    refine XS.ifNo X0.here hx rfl (hb hby d4_8) rfl ((if0 _ _).trans (teq (by decide : (0 : Int32) = (0 : Int32))).2) ?_
    show Steps p.tables e below (s₁.setTop (mkF m 11 #[.val (.int (0 : Int32)), .val (.int (1 : Int32)), .val (.long y0_), .second, .val (.long y1_), .second, .val (.long y2_), .second] [])) _
    refine XS.lloadN X0.here hx rfl (hb hby d4_11) rfl ?_
    exact kt
  obtain ⟨fs, hr, hrun, hended, hW, hsame⟩ := X0.leave (v := some (.long y0_)) (fun h => by rw [Bd.returns] at h; cases h)
  refine ⟨_, _, pre1 _ (retOut X0 hx Bd.returns rfl (Or.inr (Or.inl ⟨rfl, rfl, _, rfl⟩)) (hb hby d4_12) hr), hrun, hended, _, _, rfl, ?_, ⟨_, rfl⟩, hW, hsame.mono (by decide) (by decide)⟩
  show Qexpected16 Z y0_ y1_ y2_ h0 n0 _ s₁.heap _
  rw [e0]
  exact ⟨rfl, N0, rfl⟩
theorem efget17 (m : MethodId) (o0_ : Addr) : entryFrame m #[(.ref o0_), (.int (1 : Int32))] 2 = mkF m 0 #[.val (.ref o0_), .val (.int (1 : Int32))] [] := by first | (simp [entryFrame, mkF, argsToLocals, Value.category]; done) | rfl
def Qget17 (Z : State) (o0_ : Addr) (o1_ : Addr) (ko1_ : ClassId) (y0_ : Int64) (h0 : Heap) (n0 : Nat) (v : Option Value) (h : Heap) (L : List Loc) : Prop := v = some (.long (0 : Int64)) ∧ Fr n0 L ∧ h = h0
set_option maxRecDepth 65536 in
set_option maxHeartbeats 40000000 in
theorem rmget17 (l : Launch) (Z : State) (a0 : Array Value) (hw : ∀ d ∈ tables_1, d.before a0 Z = true) (ws : List Jvm.Cond) (o0_ : Addr) (o1_ : Addr) (ko1_ : ClassId) (y0_ : Int64) (h0 : Heap) (n0 : Nat) (O0 : Old Z n0 h0) (P0 : Exa Z h0 o0_ "com/example/latchkey/latchkey/LockTokens") (P1 : Fld Z h0 o0_ "com/example/latchkey/latchkey/LockTokens" "tokens" "[J" (.ref o1_)) (P2 : Arv Z h0 o1_ ko1_ .long (1 : Int32) [(.long y0_)] (.long (0 : Int64))) (P3 : Exa Z h0 o1_ "[J") :
    MetFree l (⟨"com/example/latchkey/latchkey/LockTokens", "get", "(I)J"⟩ : MethodName) (head1 (Jvm.Cond.code (⟨"com/example/latchkey/latchkey/LockTokens", "get", "(I)J"⟩ : MethodName) prog_31_method_3_code 2 (some .long) :: ws) ({ frames := 0, cells := 0, slots := 0, locals := 0 } : Room)) (fun a U => a = #[(.ref o0_), (.int (1 : Int32))] ∧ Z.Warmed39 U.vm ∧ U.heap = h0) (fun _ _ _ _ _ => True) (fun _ U o U' => ∃ v L, o = .returned v ∧ Qget17 Z o0_ o1_ ko1_ y0_ h0 n0 v U'.heap L ∧ FrameEnd U o U' L ({ frames := 0, cells := 0, slots := 0, locals := 0 } : Room).cells ({ frames := 0, cells := 0, slots := 0, locals := 0 } : Room).slots) := by
  refine MetFree.of_bodySF (plainFor_of_name pn_0) hisR ?_
  intro p e s m args below meth c s₁ Bd hml0 hP hK
  obtain ⟨rfl, hZ, hh⟩ := hP
  have hx := Bd.exec
  have hby := Bd.bytes
  have hml : c.maxLocals = 2 := hml0
  have hown : s.vm.findClass "com/example/latchkey/latchkey/LockTokens" = some m.cls := findClass_of_methodNamed Bd.named
  have hnm := (name_of_methodNamed Bd.named Bd.method).1
  have X0 : Stand p l e ({ frames := 0, cells := 0, slots := 0, locals := 0 } : Room) s m #[(.ref o0_), (.int (1 : Int32))] below meth c s₁ [] 0 0 := Stand.of_body Bd
  have e0 : s₁.heap = h0 := by rw [← hh, Bd.state]; rfl
  have N0 := Fr.nil n0
  have pre0 : ∀ t, Steps p.tables e below (s₁.setTop (mkF m 0 #[.val (.ref o0_), .val (.int (1 : Int32))] [])) t → Steps p.tables e below (s₁.setTop (entryFrame m #[(.ref o0_), (.int (1 : Int32))] 2)) t := fun t k => castTop (efget17 m o0_) k
  have K0 : Keep h0 h0 [] := Keep.refl _ _
  obtain ⟨T1, X1, e1, st1⟩ := getF X0 hx hZ hown (host := "") (Or.inl (hw _ (List.mem_of_getElem? (i := 22) rfl))) Via.refl e0 P1 (g := (mkF m 2 #[.val (.ref o0_), .val (.int (1 : Int32))] [(.ref o0_), (.int (1 : Int32))])) rfl rfl (hb hby d3_2)
  obtain ⟨c2, r2, q2, s2, z2, y2, G2⟩ := id P2
  have pre3 : ∀ t, Steps p.tables e below (T1.setTop (mkF m 19 #[.val (.ref o0_), .val (.int (1 : Int32))] [(.long (0 : Int64))])) t → Steps p.tables e below (s₁.setTop (entryFrame m #[(.ref o0_), (.int (1 : Int32))] 2)) t := by
    intro t kt
    refine pre0 t ?_
    show Steps p.tables e below (s₁.setTop (mkF m 0 #[.val (.ref o0_), .val (.int (1 : Int32))] [])) _
    refine XS.iloadN X0.here hx rfl (hb hby d3_0) rfl ?_
    show Steps p.tables e below (s₁.setTop (mkF m 1 #[.val (.ref o0_), .val (.int (1 : Int32))] [(.int (1 : Int32))])) _
    refine XS.aloadN X0.here hx rfl (hb hby d3_1) rfl rfl ?_
    show Steps p.tables e below (s₁.setTop (mkF m 2 #[.val (.ref o0_), .val (.int (1 : Int32))] [(.ref o0_), (.int (1 : Int32))])) _
    refine st1 _ ?_
    show Steps p.tables e below (T1.setTop (mkF m 5 #[.val (.ref o0_), .val (.int (1 : Int32))] [(.ref o1_), (.int (1 : Int32))])) _
    refine X1.arraylength hx (by rw [e1]; exact r2.1) (State.isArrayOf_alike hZ.alike r2.2.1) (g := (mkF m 5 #[.val (.ref o0_), .val (.int (1 : Int32))] [(.ref o1_), (.int (1 : Int32))])) rfl rfl (hb hby d3_5) _ ?_
    rw [len_of s2 z2]
    show Steps p.tables e below (T1.setTop (mkF m 6 #[.val (.ref o0_), .val (.int (1 : Int32))] [(.int (1 : Int32)), (.int (1 : Int32))])) _
    refine XS.icmpYes X1.here hx rfl (pc0 := 6) (pc' := 18) rfl (hb hby d3_6) rfl (flt (by decide : ¬ ((1 : Int32) < (1 : Int32)))).2.1 (by decide) (by decide) ?_
    show Steps p.tables e below (T1.setTop (mkF m 18 #[.val (.ref o0_), .val (.int (1 : Int32))] [])) _
    refine XS.lconst X1.here hx rfl (hb hby d3_18) ?_
    exact kt
  obtain ⟨fs, hr, hrun, hended, hW, hsame⟩ := X1.leave (v := some (.long (0 : Int64))) (fun h => by rw [Bd.returns] at h; cases h)
  refine ⟨_, _, pre3 _ (retOut X1 hx Bd.returns rfl (Or.inr (Or.inl ⟨rfl, rfl, _, rfl⟩)) (hb hby d3_19) hr), hrun, hended, _, _, rfl, ?_, ⟨_, rfl⟩, hW, hsame.mono (by decide) (by decide)⟩
  show Qget17 Z o0_ o1_ ko1_ y0_ h0 n0 _ T1.heap _
  rw [e1]
  exact ⟨rfl, N0, rfl⟩
theorem efexpected18 (m : MethodId) (y0_ : Int64) (y1_ : Int64) (y2_ : Int64) : entryFrame m #[(.int (1 : Int32)), (.int (1 : Int32)), (.long y0_), (.long y1_), (.long y2_)] 8 = mkF m 0 #[.val (.int (1 : Int32)), .val (.int (1 : Int32)), .val (.long y0_), .second, .val (.long y1_), .second, .val (.long y2_), .second] [] := by first | (simp [entryFrame, mkF, argsToLocals, Value.category]; done) | rfl
def Qexpected18 (Z : State) (y0_ : Int64) (y1_ : Int64) (y2_ : Int64) (h0 : Heap) (n0 : Nat) (v : Option Value) (h : Heap) (L : List Loc) : Prop := v = some (.long (0 : Int64)) ∧ Fr n0 L ∧ h = h0
set_option maxRecDepth 65536 in
set_option maxHeartbeats 40000000 in
theorem rmexpected18 (l : Launch) (Z : State) (a0 : Array Value) (hw : ∀ d ∈ tables_1, d.before a0 Z = true) (ws : List Jvm.Cond) (y0_ : Int64) (y1_ : Int64) (y2_ : Int64) (h0 : Heap) (n0 : Nat) (O0 : Old Z n0 h0)  :
    MetFree l (⟨"com/example/latchkey/latchkey/LockTokensOfPinLaw", "expected", "(IIJJJ)J"⟩ : MethodName) (head1 (Jvm.Cond.code (⟨"com/example/latchkey/latchkey/LockTokensOfPinLaw", "expected", "(IIJJJ)J"⟩ : MethodName) method_3_code 8 (some .long) :: ws) ({ frames := 0, cells := 0, slots := 0, locals := 0 } : Room)) (fun a U => a = #[(.int (1 : Int32)), (.int (1 : Int32)), (.long y0_), (.long y1_), (.long y2_)] ∧ Z.Warmed39 U.vm ∧ U.heap = h0) (fun _ _ _ _ _ => True) (fun _ U o U' => ∃ v L, o = .returned v ∧ Qexpected18 Z y0_ y1_ y2_ h0 n0 v U'.heap L ∧ FrameEnd U o U' L ({ frames := 0, cells := 0, slots := 0, locals := 0 } : Room).cells ({ frames := 0, cells := 0, slots := 0, locals := 0 } : Room).slots) := by
  refine MetFree.of_bodySF (plainFor_of_name pn_1) hisR ?_
  intro p e s m args below meth c s₁ Bd hml0 hP hK
  obtain ⟨rfl, hZ, hh⟩ := hP
  have hx := Bd.exec
  have hby := Bd.bytes
  have hml : c.maxLocals = 8 := hml0
  have hown : s.vm.findClass "com/example/latchkey/latchkey/LockTokensOfPinLaw" = some m.cls := findClass_of_methodNamed Bd.named
  have hnm := (name_of_methodNamed Bd.named Bd.method).1
  have X0 : Stand p l e ({ frames := 0, cells := 0, slots := 0, locals := 0 } : Room) s m #[(.int (1 : Int32)), (.int (1 : Int32)), (.long y0_), (.long y1_), (.long y2_)] below meth c s₁ [] 0 0 := Stand.of_body Bd
  have e0 : s₁.heap = h0 := by rw [← hh, Bd.state]; rfl
  have N0 := Fr.nil n0
  have pre0 : ∀ t, Steps p.tables e below (s₁.setTop (mkF m 0 #[.val (.int (1 : Int32)), .val (.int (1 : Int32)), .val (.long y0_), .second, .val (.long y1_), .second, .val (.long y2_), .second] [])) t → Steps p.tables e below (s₁.setTop (entryFrame m #[(.int (1 : Int32)), (.int (1 : Int32)), (.long y0_), (.long y1_), (.long y2_)] 8)) t := fun t k => castTop (efexpected18 m y0_ y1_ y2_) k
  have K0 : Keep h0 h0 [] := Keep.refl _ _
  have pre1 : ∀ t, Steps p.tables e below (s₁.setTop (mkF m 6 #[.val (.int (1 : Int32)), .val (.int (1 : Int32)), .val (.long y0_), .second, .val (.long y1_), .second, .val (.long y2_), .second] [(.long (0 : Int64))])) t → Steps p.tables e below (s₁.setTop (entryFrame m #[(.int (1 : Int32)), (.int (1 : Int32)), (.long y0_), (.long y1_), (.long y2_)] 8)) t := by
    intro t kt
    refine pre0 t ?_
    show Steps p.tables e below (s₁.setTop (mkF m 0 #[.val (.int (1 : Int32)), .val (.int (1 : Int32)), .val (.long y0_), .second, .val (.long y1_), .second, .val (.long y2_), .second] [])) _
    refine XS.iloadN X0.here hx rfl (hb hby d4_0) rfl ?_
    show Steps p.tables e below (s₁.setTop (mkF m 1 #[.val (.int (1 : Int32)), .val (.int (1 : Int32)), .val (.long y0_), .second, .val (.long y1_), .second, .val (.long y2_), .second] [(.int (1 : Int32))])) _
    refine XS.iloadN X0.here hx rfl (hb hby d4_1) rfl ?_
    show Steps p.tables e below (s₁.setTop (mkF m 2 #[.val (.int (1 : Int32)), .val (.int (1 : Int32)), .val (.long y0_), .second, .val (.long y1_), .second, .val (.long y2_), .second] [(.int (1 : Int32)), (.int (1 : Int32))])) _
    refine XS.icmpNo X0.here hx rfl (hb hby d4_2) rfl (flt (by decide : ¬ ((1 : Int32) < (1 : Int32)))).1 ?_
    show Steps p.tables e below (s₁.setTop (mkF m 5 #[.val (.int (1 : Int32)), .val (.int (1 : Int32)), .val (.long y0_), .second, .val (.long y1_), .second, .val (.long y2_), .second] [])) _
    refine XS.lconst X0.here hx rfl (hb hby d4_5) ?_
    exact kt
  obtain ⟨fs, hr, hrun, hended, hW, hsame⟩ := X0.leave (v := some (.long (0 : Int64))) (fun h => by rw [Bd.returns] at h; cases h)
  refine ⟨_, _, pre1 _ (retOut X0 hx Bd.returns rfl (Or.inr (Or.inl ⟨rfl, rfl, _, rfl⟩)) (hb hby d4_6) hr), hrun, hended, _, _, rfl, ?_, ⟨_, rfl⟩, hW, hsame.mono (by decide) (by decide)⟩
  show Qexpected18 Z y0_ y1_ y2_ h0 n0 _ s₁.heap _
  rw [e0]
  exact ⟨rfl, N0, rfl⟩
theorem efget19 (m : MethodId) (o0_ : Addr) : entryFrame m #[(.ref o0_), (.int (2 : Int32))] 2 = mkF m 0 #[.val (.ref o0_), .val (.int (2 : Int32))] [] := by first | (simp [entryFrame, mkF, argsToLocals, Value.category]; done) | rfl
def Qget19 (Z : State) (o0_ : Addr) (o1_ : Addr) (ko1_ : ClassId) (y0_ : Int64) (h0 : Heap) (n0 : Nat) (v : Option Value) (h : Heap) (L : List Loc) : Prop := v = some (.long (0 : Int64)) ∧ Fr n0 L ∧ h = h0
set_option maxRecDepth 65536 in
set_option maxHeartbeats 40000000 in
theorem rmget19 (l : Launch) (Z : State) (a0 : Array Value) (hw : ∀ d ∈ tables_1, d.before a0 Z = true) (ws : List Jvm.Cond) (o0_ : Addr) (o1_ : Addr) (ko1_ : ClassId) (y0_ : Int64) (h0 : Heap) (n0 : Nat) (O0 : Old Z n0 h0) (P0 : Exa Z h0 o0_ "com/example/latchkey/latchkey/LockTokens") (P1 : Fld Z h0 o0_ "com/example/latchkey/latchkey/LockTokens" "tokens" "[J" (.ref o1_)) (P2 : Arv Z h0 o1_ ko1_ .long (1 : Int32) [(.long y0_)] (.long (0 : Int64))) (P3 : Exa Z h0 o1_ "[J") :
    MetFree l (⟨"com/example/latchkey/latchkey/LockTokens", "get", "(I)J"⟩ : MethodName) (head1 (Jvm.Cond.code (⟨"com/example/latchkey/latchkey/LockTokens", "get", "(I)J"⟩ : MethodName) prog_31_method_3_code 2 (some .long) :: ws) ({ frames := 0, cells := 0, slots := 0, locals := 0 } : Room)) (fun a U => a = #[(.ref o0_), (.int (2 : Int32))] ∧ Z.Warmed39 U.vm ∧ U.heap = h0) (fun _ _ _ _ _ => True) (fun _ U o U' => ∃ v L, o = .returned v ∧ Qget19 Z o0_ o1_ ko1_ y0_ h0 n0 v U'.heap L ∧ FrameEnd U o U' L ({ frames := 0, cells := 0, slots := 0, locals := 0 } : Room).cells ({ frames := 0, cells := 0, slots := 0, locals := 0 } : Room).slots) := by
  refine MetFree.of_bodySF (plainFor_of_name pn_0) hisR ?_
  intro p e s m args below meth c s₁ Bd hml0 hP hK
  obtain ⟨rfl, hZ, hh⟩ := hP
  have hx := Bd.exec
  have hby := Bd.bytes
  have hml : c.maxLocals = 2 := hml0
  have hown : s.vm.findClass "com/example/latchkey/latchkey/LockTokens" = some m.cls := findClass_of_methodNamed Bd.named
  have hnm := (name_of_methodNamed Bd.named Bd.method).1
  have X0 : Stand p l e ({ frames := 0, cells := 0, slots := 0, locals := 0 } : Room) s m #[(.ref o0_), (.int (2 : Int32))] below meth c s₁ [] 0 0 := Stand.of_body Bd
  have e0 : s₁.heap = h0 := by rw [← hh, Bd.state]; rfl
  have N0 := Fr.nil n0
  have pre0 : ∀ t, Steps p.tables e below (s₁.setTop (mkF m 0 #[.val (.ref o0_), .val (.int (2 : Int32))] [])) t → Steps p.tables e below (s₁.setTop (entryFrame m #[(.ref o0_), (.int (2 : Int32))] 2)) t := fun t k => castTop (efget19 m o0_) k
  have K0 : Keep h0 h0 [] := Keep.refl _ _
  obtain ⟨T1, X1, e1, st1⟩ := getF X0 hx hZ hown (host := "") (Or.inl (hw _ (List.mem_of_getElem? (i := 22) rfl))) Via.refl e0 P1 (g := (mkF m 2 #[.val (.ref o0_), .val (.int (2 : Int32))] [(.ref o0_), (.int (2 : Int32))])) rfl rfl (hb hby d3_2)
  obtain ⟨c2, r2, q2, s2, z2, y2, G2⟩ := id P2
  have pre3 : ∀ t, Steps p.tables e below (T1.setTop (mkF m 19 #[.val (.ref o0_), .val (.int (2 : Int32))] [(.long (0 : Int64))])) t → Steps p.tables e below (s₁.setTop (entryFrame m #[(.ref o0_), (.int (2 : Int32))] 2)) t := by
    intro t kt
    refine pre0 t ?_
    show Steps p.tables e below (s₁.setTop (mkF m 0 #[.val (.ref o0_), .val (.int (2 : Int32))] [])) _
    refine XS.iloadN X0.here hx rfl (hb hby d3_0) rfl ?_
    show Steps p.tables e below (s₁.setTop (mkF m 1 #[.val (.ref o0_), .val (.int (2 : Int32))] [(.int (2 : Int32))])) _
    refine XS.aloadN X0.here hx rfl (hb hby d3_1) rfl rfl ?_
    show Steps p.tables e below (s₁.setTop (mkF m 2 #[.val (.ref o0_), .val (.int (2 : Int32))] [(.ref o0_), (.int (2 : Int32))])) _
    refine st1 _ ?_
    show Steps p.tables e below (T1.setTop (mkF m 5 #[.val (.ref o0_), .val (.int (2 : Int32))] [(.ref o1_), (.int (2 : Int32))])) _
    refine X1.arraylength hx (by rw [e1]; exact r2.1) (State.isArrayOf_alike hZ.alike r2.2.1) (g := (mkF m 5 #[.val (.ref o0_), .val (.int (2 : Int32))] [(.ref o1_), (.int (2 : Int32))])) rfl rfl (hb hby d3_5) _ ?_
    rw [len_of s2 z2]
    show Steps p.tables e below (T1.setTop (mkF m 6 #[.val (.ref o0_), .val (.int (2 : Int32))] [(.int (1 : Int32)), (.int (2 : Int32))])) _
    refine XS.icmpYes X1.here hx rfl (pc0 := 6) (pc' := 18) rfl (hb hby d3_6) rfl (flt (by decide : ¬ ((2 : Int32) < (1 : Int32)))).2.1 (by decide) (by decide) ?_
    show Steps p.tables e below (T1.setTop (mkF m 18 #[.val (.ref o0_), .val (.int (2 : Int32))] [])) _
    refine XS.lconst X1.here hx rfl (hb hby d3_18) ?_
    exact kt
  obtain ⟨fs, hr, hrun, hended, hW, hsame⟩ := X1.leave (v := some (.long (0 : Int64))) (fun h => by rw [Bd.returns] at h; cases h)
  refine ⟨_, _, pre3 _ (retOut X1 hx Bd.returns rfl (Or.inr (Or.inl ⟨rfl, rfl, _, rfl⟩)) (hb hby d3_19) hr), hrun, hended, _, _, rfl, ?_, ⟨_, rfl⟩, hW, hsame.mono (by decide) (by decide)⟩
  show Qget19 Z o0_ o1_ ko1_ y0_ h0 n0 _ T1.heap _
  rw [e1]
  exact ⟨rfl, N0, rfl⟩
theorem efexpected20 (m : MethodId) (y0_ : Int64) (y1_ : Int64) (y2_ : Int64) : entryFrame m #[(.int (2 : Int32)), (.int (1 : Int32)), (.long y0_), (.long y1_), (.long y2_)] 8 = mkF m 0 #[.val (.int (2 : Int32)), .val (.int (1 : Int32)), .val (.long y0_), .second, .val (.long y1_), .second, .val (.long y2_), .second] [] := by first | (simp [entryFrame, mkF, argsToLocals, Value.category]; done) | rfl
def Qexpected20 (Z : State) (y0_ : Int64) (y1_ : Int64) (y2_ : Int64) (h0 : Heap) (n0 : Nat) (v : Option Value) (h : Heap) (L : List Loc) : Prop := v = some (.long (0 : Int64)) ∧ Fr n0 L ∧ h = h0
set_option maxRecDepth 65536 in
set_option maxHeartbeats 40000000 in
theorem rmexpected20 (l : Launch) (Z : State) (a0 : Array Value) (hw : ∀ d ∈ tables_1, d.before a0 Z = true) (ws : List Jvm.Cond) (y0_ : Int64) (y1_ : Int64) (y2_ : Int64) (h0 : Heap) (n0 : Nat) (O0 : Old Z n0 h0)  :
    MetFree l (⟨"com/example/latchkey/latchkey/LockTokensOfPinLaw", "expected", "(IIJJJ)J"⟩ : MethodName) (head1 (Jvm.Cond.code (⟨"com/example/latchkey/latchkey/LockTokensOfPinLaw", "expected", "(IIJJJ)J"⟩ : MethodName) method_3_code 8 (some .long) :: ws) ({ frames := 0, cells := 0, slots := 0, locals := 0 } : Room)) (fun a U => a = #[(.int (2 : Int32)), (.int (1 : Int32)), (.long y0_), (.long y1_), (.long y2_)] ∧ Z.Warmed39 U.vm ∧ U.heap = h0) (fun _ _ _ _ _ => True) (fun _ U o U' => ∃ v L, o = .returned v ∧ Qexpected20 Z y0_ y1_ y2_ h0 n0 v U'.heap L ∧ FrameEnd U o U' L ({ frames := 0, cells := 0, slots := 0, locals := 0 } : Room).cells ({ frames := 0, cells := 0, slots := 0, locals := 0 } : Room).slots) := by
  refine MetFree.of_bodySF (plainFor_of_name pn_1) hisR ?_
  intro p e s m args below meth c s₁ Bd hml0 hP hK
  obtain ⟨rfl, hZ, hh⟩ := hP
  have hx := Bd.exec
  have hby := Bd.bytes
  have hml : c.maxLocals = 8 := hml0
  have hown : s.vm.findClass "com/example/latchkey/latchkey/LockTokensOfPinLaw" = some m.cls := findClass_of_methodNamed Bd.named
  have hnm := (name_of_methodNamed Bd.named Bd.method).1
  have X0 : Stand p l e ({ frames := 0, cells := 0, slots := 0, locals := 0 } : Room) s m #[(.int (2 : Int32)), (.int (1 : Int32)), (.long y0_), (.long y1_), (.long y2_)] below meth c s₁ [] 0 0 := Stand.of_body Bd
  have e0 : s₁.heap = h0 := by rw [← hh, Bd.state]; rfl
  have N0 := Fr.nil n0
  have pre0 : ∀ t, Steps p.tables e below (s₁.setTop (mkF m 0 #[.val (.int (2 : Int32)), .val (.int (1 : Int32)), .val (.long y0_), .second, .val (.long y1_), .second, .val (.long y2_), .second] [])) t → Steps p.tables e below (s₁.setTop (entryFrame m #[(.int (2 : Int32)), (.int (1 : Int32)), (.long y0_), (.long y1_), (.long y2_)] 8)) t := fun t k => castTop (efexpected20 m y0_ y1_ y2_) k
  have K0 : Keep h0 h0 [] := Keep.refl _ _
  have pre1 : ∀ t, Steps p.tables e below (s₁.setTop (mkF m 6 #[.val (.int (2 : Int32)), .val (.int (1 : Int32)), .val (.long y0_), .second, .val (.long y1_), .second, .val (.long y2_), .second] [(.long (0 : Int64))])) t → Steps p.tables e below (s₁.setTop (entryFrame m #[(.int (2 : Int32)), (.int (1 : Int32)), (.long y0_), (.long y1_), (.long y2_)] 8)) t := by
    intro t kt
    refine pre0 t ?_
    show Steps p.tables e below (s₁.setTop (mkF m 0 #[.val (.int (2 : Int32)), .val (.int (1 : Int32)), .val (.long y0_), .second, .val (.long y1_), .second, .val (.long y2_), .second] [])) _
    refine XS.iloadN X0.here hx rfl (hb hby d4_0) rfl ?_
    show Steps p.tables e below (s₁.setTop (mkF m 1 #[.val (.int (2 : Int32)), .val (.int (1 : Int32)), .val (.long y0_), .second, .val (.long y1_), .second, .val (.long y2_), .second] [(.int (2 : Int32))])) _
    refine XS.iloadN X0.here hx rfl (hb hby d4_1) rfl ?_
    show Steps p.tables e below (s₁.setTop (mkF m 2 #[.val (.int (2 : Int32)), .val (.int (1 : Int32)), .val (.long y0_), .second, .val (.long y1_), .second, .val (.long y2_), .second] [(.int (1 : Int32)), (.int (2 : Int32))])) _
    refine XS.icmpNo X0.here hx rfl (hb hby d4_2) rfl (flt (by decide : ¬ ((2 : Int32) < (1 : Int32)))).1 ?_
    show Steps p.tables e below (s₁.setTop (mkF m 5 #[.val (.int (2 : Int32)), .val (.int (1 : Int32)), .val (.long y0_), .second, .val (.long y1_), .second, .val (.long y2_), .second] [])) _
    refine XS.lconst X0.here hx rfl (hb hby d4_5) ?_
    exact kt
  obtain ⟨fs, hr, hrun, hended, hW, hsame⟩ := X0.leave (v := some (.long (0 : Int64))) (fun h => by rw [Bd.returns] at h; cases h)
  refine ⟨_, _, pre1 _ (retOut X0 hx Bd.returns rfl (Or.inr (Or.inl ⟨rfl, rfl, _, rfl⟩)) (hb hby d4_6) hr), hrun, hended, _, _, rfl, ?_, ⟨_, rfl⟩, hW, hsame.mono (by decide) (by decide)⟩
  show Qexpected20 Z y0_ y1_ y2_ h0 n0 _ s₁.heap _
  rw [e0]
  exact ⟨rfl, N0, rfl⟩
theorem efget21 (m : MethodId) (o0_ : Addr) : entryFrame m #[(.ref o0_), (.int (3 : Int32))] 2 = mkF m 0 #[.val (.ref o0_), .val (.int (3 : Int32))] [] := by first | (simp [entryFrame, mkF, argsToLocals, Value.category]; done) | rfl
def Qget21 (Z : State) (o0_ : Addr) (o1_ : Addr) (ko1_ : ClassId) (y0_ : Int64) (h0 : Heap) (n0 : Nat) (v : Option Value) (h : Heap) (L : List Loc) : Prop := v = some (.long (0 : Int64)) ∧ Fr n0 L ∧ h = h0
set_option maxRecDepth 65536 in
set_option maxHeartbeats 40000000 in
theorem rmget21 (l : Launch) (Z : State) (a0 : Array Value) (hw : ∀ d ∈ tables_1, d.before a0 Z = true) (ws : List Jvm.Cond) (o0_ : Addr) (o1_ : Addr) (ko1_ : ClassId) (y0_ : Int64) (h0 : Heap) (n0 : Nat) (O0 : Old Z n0 h0) (P0 : Exa Z h0 o0_ "com/example/latchkey/latchkey/LockTokens") (P1 : Fld Z h0 o0_ "com/example/latchkey/latchkey/LockTokens" "tokens" "[J" (.ref o1_)) (P2 : Arv Z h0 o1_ ko1_ .long (1 : Int32) [(.long y0_)] (.long (0 : Int64))) (P3 : Exa Z h0 o1_ "[J") :
    MetFree l (⟨"com/example/latchkey/latchkey/LockTokens", "get", "(I)J"⟩ : MethodName) (head1 (Jvm.Cond.code (⟨"com/example/latchkey/latchkey/LockTokens", "get", "(I)J"⟩ : MethodName) prog_31_method_3_code 2 (some .long) :: ws) ({ frames := 0, cells := 0, slots := 0, locals := 0 } : Room)) (fun a U => a = #[(.ref o0_), (.int (3 : Int32))] ∧ Z.Warmed39 U.vm ∧ U.heap = h0) (fun _ _ _ _ _ => True) (fun _ U o U' => ∃ v L, o = .returned v ∧ Qget21 Z o0_ o1_ ko1_ y0_ h0 n0 v U'.heap L ∧ FrameEnd U o U' L ({ frames := 0, cells := 0, slots := 0, locals := 0 } : Room).cells ({ frames := 0, cells := 0, slots := 0, locals := 0 } : Room).slots) := by
  refine MetFree.of_bodySF (plainFor_of_name pn_0) hisR ?_
  intro p e s m args below meth c s₁ Bd hml0 hP hK
  obtain ⟨rfl, hZ, hh⟩ := hP
  have hx := Bd.exec
  have hby := Bd.bytes
  have hml : c.maxLocals = 2 := hml0
  have hown : s.vm.findClass "com/example/latchkey/latchkey/LockTokens" = some m.cls := findClass_of_methodNamed Bd.named
  have hnm := (name_of_methodNamed Bd.named Bd.method).1
  have X0 : Stand p l e ({ frames := 0, cells := 0, slots := 0, locals := 0 } : Room) s m #[(.ref o0_), (.int (3 : Int32))] below meth c s₁ [] 0 0 := Stand.of_body Bd
  have e0 : s₁.heap = h0 := by rw [← hh, Bd.state]; rfl
  have N0 := Fr.nil n0
  have pre0 : ∀ t, Steps p.tables e below (s₁.setTop (mkF m 0 #[.val (.ref o0_), .val (.int (3 : Int32))] [])) t → Steps p.tables e below (s₁.setTop (entryFrame m #[(.ref o0_), (.int (3 : Int32))] 2)) t := fun t k => castTop (efget21 m o0_) k
  have K0 : Keep h0 h0 [] := Keep.refl _ _
  obtain ⟨T1, X1, e1, st1⟩ := getF X0 hx hZ hown (host := "") (Or.inl (hw _ (List.mem_of_getElem? (i := 22) rfl))) Via.refl e0 P1 (g := (mkF m 2 #[.val (.ref o0_), .val (.int (3 : Int32))] [(.ref o0_), (.int (3 : Int32))])) rfl rfl (hb hby d3_2)
  obtain ⟨c2, r2, q2, s2, z2, y2, G2⟩ := id P2
  have pre3 : ∀ t, Steps p.tables e below (T1.setTop (mkF m 19 #[.val (.ref o0_), .val (.int (3 : Int32))] [(.long (0 : Int64))])) t → Steps p.tables e below (s₁.setTop (entryFrame m #[(.ref o0_), (.int (3 : Int32))] 2)) t := by
    intro t kt
    refine pre0 t ?_
    show Steps p.tables e below (s₁.setTop (mkF m 0 #[.val (.ref o0_), .val (.int (3 : Int32))] [])) _
    refine XS.iloadN X0.here hx rfl (hb hby d3_0) rfl ?_
    show Steps p.tables e below (s₁.setTop (mkF m 1 #[.val (.ref o0_), .val (.int (3 : Int32))] [(.int (3 : Int32))])) _
    refine XS.aloadN X0.here hx rfl (hb hby d3_1) rfl rfl ?_
    show Steps p.tables e below (s₁.setTop (mkF m 2 #[.val (.ref o0_), .val (.int (3 : Int32))] [(.ref o0_), (.int (3 : Int32))])) _
    refine st1 _ ?_
    show Steps p.tables e below (T1.setTop (mkF m 5 #[.val (.ref o0_), .val (.int (3 : Int32))] [(.ref o1_), (.int (3 : Int32))])) _
    refine X1.arraylength hx (by rw [e1]; exact r2.1) (State.isArrayOf_alike hZ.alike r2.2.1) (g := (mkF m 5 #[.val (.ref o0_), .val (.int (3 : Int32))] [(.ref o1_), (.int (3 : Int32))])) rfl rfl (hb hby d3_5) _ ?_
    rw [len_of s2 z2]
    show Steps p.tables e below (T1.setTop (mkF m 6 #[.val (.ref o0_), .val (.int (3 : Int32))] [(.int (1 : Int32)), (.int (3 : Int32))])) _
    refine XS.icmpYes X1.here hx rfl (pc0 := 6) (pc' := 18) rfl (hb hby d3_6) rfl (flt (by decide : ¬ ((3 : Int32) < (1 : Int32)))).2.1 (by decide) (by decide) ?_
    show Steps p.tables e below (T1.setTop (mkF m 18 #[.val (.ref o0_), .val (.int (3 : Int32))] [])) _
    refine XS.lconst X1.here hx rfl (hb hby d3_18) ?_
    exact kt
  obtain ⟨fs, hr, hrun, hended, hW, hsame⟩ := X1.leave (v := some (.long (0 : Int64))) (fun h => by rw [Bd.returns] at h; cases h)
  refine ⟨_, _, pre3 _ (retOut X1 hx Bd.returns rfl (Or.inr (Or.inl ⟨rfl, rfl, _, rfl⟩)) (hb hby d3_19) hr), hrun, hended, _, _, rfl, ?_, ⟨_, rfl⟩, hW, hsame.mono (by decide) (by decide)⟩
  show Qget21 Z o0_ o1_ ko1_ y0_ h0 n0 _ T1.heap _
  rw [e1]
  exact ⟨rfl, N0, rfl⟩
theorem efexpected22 (m : MethodId) (y0_ : Int64) (y1_ : Int64) (y2_ : Int64) : entryFrame m #[(.int (3 : Int32)), (.int (1 : Int32)), (.long y0_), (.long y1_), (.long y2_)] 8 = mkF m 0 #[.val (.int (3 : Int32)), .val (.int (1 : Int32)), .val (.long y0_), .second, .val (.long y1_), .second, .val (.long y2_), .second] [] := by first | (simp [entryFrame, mkF, argsToLocals, Value.category]; done) | rfl
def Qexpected22 (Z : State) (y0_ : Int64) (y1_ : Int64) (y2_ : Int64) (h0 : Heap) (n0 : Nat) (v : Option Value) (h : Heap) (L : List Loc) : Prop := v = some (.long (0 : Int64)) ∧ Fr n0 L ∧ h = h0
set_option maxRecDepth 65536 in
set_option maxHeartbeats 40000000 in
theorem rmexpected22 (l : Launch) (Z : State) (a0 : Array Value) (hw : ∀ d ∈ tables_1, d.before a0 Z = true) (ws : List Jvm.Cond) (y0_ : Int64) (y1_ : Int64) (y2_ : Int64) (h0 : Heap) (n0 : Nat) (O0 : Old Z n0 h0)  :
    MetFree l (⟨"com/example/latchkey/latchkey/LockTokensOfPinLaw", "expected", "(IIJJJ)J"⟩ : MethodName) (head1 (Jvm.Cond.code (⟨"com/example/latchkey/latchkey/LockTokensOfPinLaw", "expected", "(IIJJJ)J"⟩ : MethodName) method_3_code 8 (some .long) :: ws) ({ frames := 0, cells := 0, slots := 0, locals := 0 } : Room)) (fun a U => a = #[(.int (3 : Int32)), (.int (1 : Int32)), (.long y0_), (.long y1_), (.long y2_)] ∧ Z.Warmed39 U.vm ∧ U.heap = h0) (fun _ _ _ _ _ => True) (fun _ U o U' => ∃ v L, o = .returned v ∧ Qexpected22 Z y0_ y1_ y2_ h0 n0 v U'.heap L ∧ FrameEnd U o U' L ({ frames := 0, cells := 0, slots := 0, locals := 0 } : Room).cells ({ frames := 0, cells := 0, slots := 0, locals := 0 } : Room).slots) := by
  refine MetFree.of_bodySF (plainFor_of_name pn_1) hisR ?_
  intro p e s m args below meth c s₁ Bd hml0 hP hK
  obtain ⟨rfl, hZ, hh⟩ := hP
  have hx := Bd.exec
  have hby := Bd.bytes
  have hml : c.maxLocals = 8 := hml0
  have hown : s.vm.findClass "com/example/latchkey/latchkey/LockTokensOfPinLaw" = some m.cls := findClass_of_methodNamed Bd.named
  have hnm := (name_of_methodNamed Bd.named Bd.method).1
  have X0 : Stand p l e ({ frames := 0, cells := 0, slots := 0, locals := 0 } : Room) s m #[(.int (3 : Int32)), (.int (1 : Int32)), (.long y0_), (.long y1_), (.long y2_)] below meth c s₁ [] 0 0 := Stand.of_body Bd
  have e0 : s₁.heap = h0 := by rw [← hh, Bd.state]; rfl
  have N0 := Fr.nil n0
  have pre0 : ∀ t, Steps p.tables e below (s₁.setTop (mkF m 0 #[.val (.int (3 : Int32)), .val (.int (1 : Int32)), .val (.long y0_), .second, .val (.long y1_), .second, .val (.long y2_), .second] [])) t → Steps p.tables e below (s₁.setTop (entryFrame m #[(.int (3 : Int32)), (.int (1 : Int32)), (.long y0_), (.long y1_), (.long y2_)] 8)) t := fun t k => castTop (efexpected22 m y0_ y1_ y2_) k
  have K0 : Keep h0 h0 [] := Keep.refl _ _
  have pre1 : ∀ t, Steps p.tables e below (s₁.setTop (mkF m 6 #[.val (.int (3 : Int32)), .val (.int (1 : Int32)), .val (.long y0_), .second, .val (.long y1_), .second, .val (.long y2_), .second] [(.long (0 : Int64))])) t → Steps p.tables e below (s₁.setTop (entryFrame m #[(.int (3 : Int32)), (.int (1 : Int32)), (.long y0_), (.long y1_), (.long y2_)] 8)) t := by
    intro t kt
    refine pre0 t ?_
    show Steps p.tables e below (s₁.setTop (mkF m 0 #[.val (.int (3 : Int32)), .val (.int (1 : Int32)), .val (.long y0_), .second, .val (.long y1_), .second, .val (.long y2_), .second] [])) _
    refine XS.iloadN X0.here hx rfl (hb hby d4_0) rfl ?_
    show Steps p.tables e below (s₁.setTop (mkF m 1 #[.val (.int (3 : Int32)), .val (.int (1 : Int32)), .val (.long y0_), .second, .val (.long y1_), .second, .val (.long y2_), .second] [(.int (3 : Int32))])) _
    refine XS.iloadN X0.here hx rfl (hb hby d4_1) rfl ?_
    show Steps p.tables e below (s₁.setTop (mkF m 2 #[.val (.int (3 : Int32)), .val (.int (1 : Int32)), .val (.long y0_), .second, .val (.long y1_), .second, .val (.long y2_), .second] [(.int (1 : Int32)), (.int (3 : Int32))])) _
    refine XS.icmpNo X0.here hx rfl (hb hby d4_2) rfl (flt (by decide : ¬ ((3 : Int32) < (1 : Int32)))).1 ?_
    show Steps p.tables e below (s₁.setTop (mkF m 5 #[.val (.int (3 : Int32)), .val (.int (1 : Int32)), .val (.long y0_), .second, .val (.long y1_), .second, .val (.long y2_), .second] [])) _
    refine XS.lconst X0.here hx rfl (hb hby d4_5) ?_
    exact kt
  obtain ⟨fs, hr, hrun, hended, hW, hsame⟩ := X0.leave (v := some (.long (0 : Int64))) (fun h => by rw [Bd.returns] at h; cases h)
  refine ⟨_, _, pre1 _ (retOut X0 hx Bd.returns rfl (Or.inr (Or.inl ⟨rfl, rfl, _, rfl⟩)) (hb hby d4_6) hr), hrun, hended, _, _, rfl, ?_, ⟨_, rfl⟩, hW, hsame.mono (by decide) (by decide)⟩
  show Qexpected22 Z y0_ y1_ y2_ h0 n0 _ s₁.heap _
  rw [e0]
  exact ⟨rfl, N0, rfl⟩
theorem efget23 (m : MethodId) (o0_ : Addr) (x0_ : Int32) : entryFrame m #[(.ref o0_), (.int x0_)] 2 = mkF m 0 #[.val (.ref o0_), .val (.int x0_)] [] := by first | (simp [entryFrame, mkF, argsToLocals, Value.category]; done) | rfl
def Qget23 (Z : State) (o0_ : Addr) (x0_ : Int32) (o1_ : Addr) (ko1_ : ClassId) (y1_ : Int64) (h0 : Heap) (n0 : Nat) (v : Option Value) (h : Heap) (L : List Loc) : Prop := v = some (.long (0 : Int64)) ∧ Fr n0 L ∧ h = h0
set_option maxRecDepth 65536 in
set_option maxHeartbeats 40000000 in
theorem rmget23 (l : Launch) (Z : State) (a0 : Array Value) (hw : ∀ d ∈ tables_1, d.before a0 Z = true) (ws : List Jvm.Cond) (o0_ : Addr) (x0_ : Int32) (o1_ : Addr) (ko1_ : ClassId) (y1_ : Int64) (h0 : Heap) (n0 : Nat) (O0 : Old Z n0 h0) (ha0 : ¬ (x0_ < (0 : Int32))) (ha1 : ¬ (x0_ = (0 : Int32))) (ha2 : ¬ (x0_ < (1 : Int32))) (P3 : Exa Z h0 o0_ "com/example/latchkey/latchkey/LockTokens") (P4 : Fld Z h0 o0_ "com/example/latchkey/latchkey/LockTokens" "tokens" "[J" (.ref o1_)) (P5 : Arv Z h0 o1_ ko1_ .long (1 : Int32) [(.long y1_)] (.long (0 : Int64))) (P6 : Exa Z h0 o1_ "[J") :
    MetFree l (⟨"com/example/latchkey/latchkey/LockTokens", "get", "(I)J"⟩ : MethodName) (head1 (Jvm.Cond.code (⟨"com/example/latchkey/latchkey/LockTokens", "get", "(I)J"⟩ : MethodName) prog_31_method_3_code 2 (some .long) :: ws) ({ frames := 0, cells := 0, slots := 0, locals := 0 } : Room)) (fun a U => a = #[(.ref o0_), (.int x0_)] ∧ Z.Warmed39 U.vm ∧ U.heap = h0) (fun _ _ _ _ _ => True) (fun _ U o U' => ∃ v L, o = .returned v ∧ Qget23 Z o0_ x0_ o1_ ko1_ y1_ h0 n0 v U'.heap L ∧ FrameEnd U o U' L ({ frames := 0, cells := 0, slots := 0, locals := 0 } : Room).cells ({ frames := 0, cells := 0, slots := 0, locals := 0 } : Room).slots) := by
  refine MetFree.of_bodySF (plainFor_of_name pn_0) hisR ?_
  intro p e s m args below meth c s₁ Bd hml0 hP hK
  obtain ⟨rfl, hZ, hh⟩ := hP
  have hx := Bd.exec
  have hby := Bd.bytes
  have hml : c.maxLocals = 2 := hml0
  have hown : s.vm.findClass "com/example/latchkey/latchkey/LockTokens" = some m.cls := findClass_of_methodNamed Bd.named
  have hnm := (name_of_methodNamed Bd.named Bd.method).1
  have X0 : Stand p l e ({ frames := 0, cells := 0, slots := 0, locals := 0 } : Room) s m #[(.ref o0_), (.int x0_)] below meth c s₁ [] 0 0 := Stand.of_body Bd
  have e0 : s₁.heap = h0 := by rw [← hh, Bd.state]; rfl
  have N0 := Fr.nil n0
  have pre0 : ∀ t, Steps p.tables e below (s₁.setTop (mkF m 0 #[.val (.ref o0_), .val (.int x0_)] [])) t → Steps p.tables e below (s₁.setTop (entryFrame m #[(.ref o0_), (.int x0_)] 2)) t := fun t k => castTop (efget23 m o0_ x0_) k
  have K0 : Keep h0 h0 [] := Keep.refl _ _
  obtain ⟨T1, X1, e1, st1⟩ := getF X0 hx hZ hown (host := "") (Or.inl (hw _ (List.mem_of_getElem? (i := 22) rfl))) Via.refl e0 P4 (g := (mkF m 2 #[.val (.ref o0_), .val (.int x0_)] [(.ref o0_), (.int x0_)])) rfl rfl (hb hby d3_2)
  obtain ⟨c2, r2, q2, s2, z2, y2, G2⟩ := id P5
  have pre3 : ∀ t, Steps p.tables e below (T1.setTop (mkF m 19 #[.val (.ref o0_), .val (.int x0_)] [(.long (0 : Int64))])) t → Steps p.tables e below (s₁.setTop (entryFrame m #[(.ref o0_), (.int x0_)] 2)) t := by
    intro t kt
    refine pre0 t ?_
    show Steps p.tables e below (s₁.setTop (mkF m 0 #[.val (.ref o0_), .val (.int x0_)] [])) _
    refine XS.iloadN X0.here hx rfl (hb hby d3_0) rfl ?_
    show Steps p.tables e below (s₁.setTop (mkF m 1 #[.val (.ref o0_), .val (.int x0_)] [(.int x0_)])) _
    refine XS.aloadN X0.here hx rfl (hb hby d3_1) rfl rfl ?_
    show Steps p.tables e below (s₁.setTop (mkF m 2 #[.val (.ref o0_), .val (.int x0_)] [(.ref o0_), (.int x0_)])) _
    refine st1 _ ?_
    show Steps p.tables e below (T1.setTop (mkF m 5 #[.val (.ref o0_), .val (.int x0_)] [(.ref o1_), (.int x0_)])) _
    refine X1.arraylength hx (by rw [e1]; exact r2.1) (State.isArrayOf_alike hZ.alike r2.2.1) (g := (mkF m 5 #[.val (.ref o0_), .val (.int x0_)] [(.ref o1_), (.int x0_)])) rfl rfl (hb hby d3_5) _ ?_
    rw [len_of s2 z2]
    show Steps p.tables e below (T1.setTop (mkF m 6 #[.val (.ref o0_), .val (.int x0_)] [(.int (1 : Int32)), (.int x0_)])) _
    refine XS.icmpYes X1.here hx rfl (pc0 := 6) (pc' := 18) rfl (hb hby d3_6) rfl (flt ha2).2.1 (by decide) (by decide) ?_
    show Steps p.tables e below (T1.setTop (mkF m 18 #[.val (.ref o0_), .val (.int x0_)] [])) _
    refine XS.lconst X1.here hx rfl (hb hby d3_18) ?_
    exact kt
  obtain ⟨fs, hr, hrun, hended, hW, hsame⟩ := X1.leave (v := some (.long (0 : Int64))) (fun h => by rw [Bd.returns] at h; cases h)
  refine ⟨_, _, pre3 _ (retOut X1 hx Bd.returns rfl (Or.inr (Or.inl ⟨rfl, rfl, _, rfl⟩)) (hb hby d3_19) hr), hrun, hended, _, _, rfl, ?_, ⟨_, rfl⟩, hW, hsame.mono (by decide) (by decide)⟩
  show Qget23 Z o0_ x0_ o1_ ko1_ y1_ h0 n0 _ T1.heap _
  rw [e1]
  exact ⟨rfl, N0, rfl⟩
theorem efexpected24 (m : MethodId) (x0_ : Int32) (y1_ : Int64) (y2_ : Int64) (y3_ : Int64) : entryFrame m #[(.int x0_), (.int (1 : Int32)), (.long y1_), (.long y2_), (.long y3_)] 8 = mkF m 0 #[.val (.int x0_), .val (.int (1 : Int32)), .val (.long y1_), .second, .val (.long y2_), .second, .val (.long y3_), .second] [] := by first | (simp [entryFrame, mkF, argsToLocals, Value.category]; done) | rfl
def Qexpected24 (Z : State) (x0_ : Int32) (y1_ : Int64) (y2_ : Int64) (y3_ : Int64) (h0 : Heap) (n0 : Nat) (v : Option Value) (h : Heap) (L : List Loc) : Prop := ∃ r_ : Int64, v = some (.long r_) ∧ ((y1_ = r_ ∧ (x0_ < (1 : Int32)) ∧ (x0_ = (0 : Int32))) ∨ (y3_ = r_ ∧ (x0_ < (1 : Int32)) ∧ (¬ (x0_ = (0 : Int32)))) ∨ ((0 : Int64) = r_ ∧ (¬ (x0_ < (1 : Int32))))) ∧ Fr n0 L ∧ h = h0
set_option maxRecDepth 65536 in
set_option maxHeartbeats 40000000 in
theorem rmexpected24 (l : Launch) (Z : State) (a0 : Array Value) (hw : ∀ d ∈ tables_1, d.before a0 Z = true) (ws : List Jvm.Cond) (x0_ : Int32) (y1_ : Int64) (y2_ : Int64) (y3_ : Int64) (h0 : Heap) (n0 : Nat) (O0 : Old Z n0 h0)  :
    MetFree l (⟨"com/example/latchkey/latchkey/LockTokensOfPinLaw", "expected", "(IIJJJ)J"⟩ : MethodName) (head1 (Jvm.Cond.code (⟨"com/example/latchkey/latchkey/LockTokensOfPinLaw", "expected", "(IIJJJ)J"⟩ : MethodName) method_3_code 8 (some .long) :: ws) ({ frames := 0, cells := 0, slots := 0, locals := 0 } : Room)) (fun a U => a = #[(.int x0_), (.int (1 : Int32)), (.long y1_), (.long y2_), (.long y3_)] ∧ Z.Warmed39 U.vm ∧ U.heap = h0) (fun _ _ _ _ _ => True) (fun _ U o U' => ∃ v L, o = .returned v ∧ Qexpected24 Z x0_ y1_ y2_ y3_ h0 n0 v U'.heap L ∧ FrameEnd U o U' L ({ frames := 0, cells := 0, slots := 0, locals := 0 } : Room).cells ({ frames := 0, cells := 0, slots := 0, locals := 0 } : Room).slots) := by
  refine MetFree.of_bodySF (plainFor_of_name pn_1) hisR ?_
  intro p e s m args below meth c s₁ Bd hml0 hP hK
  obtain ⟨rfl, hZ, hh⟩ := hP
  have hx := Bd.exec
  have hby := Bd.bytes
  have hml : c.maxLocals = 8 := hml0
  have hown : s.vm.findClass "com/example/latchkey/latchkey/LockTokensOfPinLaw" = some m.cls := findClass_of_methodNamed Bd.named
  have hnm := (name_of_methodNamed Bd.named Bd.method).1
  have X0 : Stand p l e ({ frames := 0, cells := 0, slots := 0, locals := 0 } : Room) s m #[(.int x0_), (.int (1 : Int32)), (.long y1_), (.long y2_), (.long y3_)] below meth c s₁ [] 0 0 := Stand.of_body Bd
  have e0 : s₁.heap = h0 := by rw [← hh, Bd.state]; rfl
  have N0 := Fr.nil n0
  have pre0 : ∀ t, Steps p.tables e below (s₁.setTop (mkF m 0 #[.val (.int x0_), .val (.int (1 : Int32)), .val (.long y1_), .second, .val (.long y2_), .second, .val (.long y3_), .second] [])) t → Steps p.tables e below (s₁.setTop (entryFrame m #[(.int x0_), (.int (1 : Int32)), (.long y1_), (.long y2_), (.long y3_)] 8)) t := fun t k => castTop (efexpected24 m x0_ y1_ y2_ y3_) k
  have K0 : Keep h0 h0 [] := Keep.refl _ _
  have pre1 : ∀ t, Steps p.tables e below (s₁.setTop (mkF m 2 #[.val (.int x0_), .val (.int (1 : Int32)), .val (.long y1_), .second, .val (.long y2_), .second, .val (.long y3_), .second] [(.int (1 : Int32)), (.int x0_)])) t → Steps p.tables e below (s₁.setTop (entryFrame m #[(.int x0_), (.int (1 : Int32)), (.long y1_), (.long y2_), (.long y3_)] 8)) t := by
    intro t kt
    refine pre0 t ?_
    show Steps p.tables e below (s₁.setTop (mkF m 0 #[.val (.int x0_), .val (.int (1 : Int32)), .val (.long y1_), .second, .val (.long y2_), .second, .val (.long y3_), .second] [])) _
    refine XS.iloadN X0.here hx rfl (hb hby d4_0) rfl ?_
    show Steps p.tables e below (s₁.setTop (mkF m 1 #[.val (.int x0_), .val (.int (1 : Int32)), .val (.long y1_), .second, .val (.long y2_), .second, .val (.long y3_), .second] [(.int x0_)])) _
    refine XS.iloadN X0.here hx rfl (hb hby d4_1) rfl ?_
    exact kt
  by_cases hc2 : x0_ < (1 : Int32)
  · have pre3 : ∀ t, Steps p.tables e below (s₁.setTop (mkF m 8 #[.val (.int x0_), .val (.int (1 : Int32)), .val (.long y1_), .second, .val (.long y2_), .second, .val (.long y3_), .second] [(.int x0_)])) t → Steps p.tables e below (s₁.setTop (entryFrame m #[(.int x0_), (.int (1 : Int32)), (.long y1_), (.long y2_), (.long y3_)] 8)) t := by
      intro t kt
      refine pre1 t ?_
      show Steps p.tables e below (s₁.setTop (mkF m 2 #[.val (.int x0_), .val (.int (1 : Int32)), .val (.long y1_), .second, .val (.long y2_), .second, .val (.long y3_), .second] [(.int (1 : Int32)), (.int x0_)])) _
      refine XS.icmpYes X0.here hx rfl (pc0 := 2) (pc' := 7) rfl (hb hby d4_2) rfl (tlt hc2).1 (by decide) (by decide) ?_
      show Steps p.tables e below (s₁.setTop (mkF m 7 #[.val (.int x0_), .val (.int (1 : Int32)), .val (.long y1_), .second, .val (.long y2_), .second, .val (.long y3_), .second] [])) _
      refine XS.iloadN X0.here hx rfl (hb hby d4_7) rfl ?_
      exact kt
    by_cases hc4 : x0_ = (0 : Int32)
    · have pre5 : ∀ t, Steps p.tables e below (s₁.setTop (mkF m 12 #[.val (.int x0_), .val (.int (1 : Int32)), .val (.long y1_), .second, .val (.long y2_), .second, .val (.long y3_), .second] [(.long y1_)])) t → Steps p.tables e below (s₁.setTop (entryFrame m #[(.int x0_), (.int (1 : Int32)), (.long y1_), (.long y2_), (.long y3_)] 8)) t := by
        intro t kt
        refine pre3 t ?_
        show Steps p.tables e below (s₁.setTop (mkF m 8 #[.val (.int x0_), .val (.int (1 : Int32)), .val (.long y1_), .second, .val (.long y2_), .second, .val (.long y3_), .second] [(.int x0_)])) _
        refine XS.ifNo X0.here hx rfl (hb hby d4_8) rfl ((if0 _ _).trans (teq hc4).2) ?_
        show Steps p.tables e below (s₁.setTop (mkF m 11 #[.val (.int x0_), .val (.int (1 : Int32)), .val (.long y1_), .second, .val (.long y2_), .second, .val (.long y3_), .second] [])) _
        refine XS.lloadN X0.here hx rfl (hb hby d4_11) rfl ?_
        exact kt
      obtain ⟨fs, hr, hrun, hended, hW, hsame⟩ := X0.leave (v := some (.long y1_)) (fun h => by rw [Bd.returns] at h; cases h)
      refine ⟨_, _, pre5 _ (retOut X0 hx Bd.returns rfl (Or.inr (Or.inl ⟨rfl, rfl, _, rfl⟩)) (hb hby d4_12) hr), hrun, hended, _, _, rfl, ?_, ⟨_, rfl⟩, hW, hsame.mono (by decide) (by decide)⟩
      show Qexpected24 Z x0_ y1_ y2_ y3_ h0 n0 _ s₁.heap _
      rw [e0]
      exact ⟨y1_, rfl, (Or.inl ⟨rfl, hc2, hc4⟩), N0, rfl⟩
    · have pre7 : ∀ t, Steps p.tables e below (s₁.setTop (mkF m 23 #[.val (.int x0_), .val (.int (1 : Int32)), .val (.long y1_), .second, .val (.long y2_), .second, .val (.long y3_), .second] [(.long y3_)])) t → Steps p.tables e below (s₁.setTop (entryFrame m #[(.int x0_), (.int (1 : Int32)), (.long y1_), (.long y2_), (.long y3_)] 8)) t := by
        intro t kt
        refine pre3 t ?_
        show Steps p.tables e below (s₁.setTop (mkF m 8 #[.val (.int x0_), .val (.int (1 : Int32)), .val (.long y1_), .second, .val (.long y2_), .second, .val (.long y3_), .second] [(.int x0_)])) _
        refine XS.ifYes X0.here hx rfl (pc0 := 8) (pc' := 13) rfl (hb hby d4_8) rfl ((if0 _ _).trans (feq hc4).2) (by decide) (by decide) ?_
        show Steps p.tables e below (s₁.setTop (mkF m 13 #[.val (.int x0_), .val (.int (1 : Int32)), .val (.long y1_), .second, .val (.long y2_), .second, .val (.long y3_), .second] [])) _
        refine XS.iloadN X0.here hx rfl (hb hby d4_13) rfl ?_
        show Steps p.tables e below (s₁.setTop (mkF m 14 #[.val (.int x0_), .val (.int (1 : Int32)), .val (.long y1_), .second, .val (.long y2_), .second, .val (.long y3_), .second] [(.int x0_)])) _
        refine XS.iconst X0.here hx rfl (hb hby d4_14) ?_
        show Steps p.tables e below (s₁.setTop (mkF m 15 #[.val (.int x0_), .val (.int (1 : Int32)), .val (.long y1_), .second, .val (.long y2_), .second, .val (.long y3_), .second] [(.int (1 : Int32)), (.int x0_)])) _
        refine XS.icmpYes X0.here hx rfl (pc0 := 15) (pc' := 21) rfl (hb hby d4_15) rfl (feq (by intro hz; have lt_0 : ((0 : Int32)).toInt = 0 := rfl; have lt_1 : ((1 : Int32)).toInt = 1 := rfl; simp only [Int32.lt_iff_toInt_lt, Int64.lt_iff_toInt_lt, ← Int32.toInt_inj, ← Int64.toInt_inj] at hz hc2 hc4; omega)).2 (by decide) (by decide) ?_
        show Steps p.tables e below (s₁.setTop (mkF m 21 #[.val (.int x0_), .val (.int (1 : Int32)), .val (.long y1_), .second, .val (.long y2_), .second, .val (.long y3_), .second] [])) _
        refine XS.lload X0.here hx rfl (hb hby d4_21) rfl ?_
        exact kt
      obtain ⟨fs, hr, hrun, hended, hW, hsame⟩ := X0.leave (v := some (.long y3_)) (fun h => by rw [Bd.returns] at h; cases h)
      refine ⟨_, _, pre7 _ (retOut X0 hx Bd.returns rfl (Or.inr (Or.inl ⟨rfl, rfl, _, rfl⟩)) (hb hby d4_23) hr), hrun, hended, _, _, rfl, ?_, ⟨_, rfl⟩, hW, hsame.mono (by decide) (by decide)⟩
      show Qexpected24 Z x0_ y1_ y2_ y3_ h0 n0 _ s₁.heap _
      rw [e0]
      exact ⟨y3_, rfl, (Or.inr (Or.inl ⟨rfl, hc2, hc4⟩)), N0, rfl⟩
  · have pre9 : ∀ t, Steps p.tables e below (s₁.setTop (mkF m 6 #[.val (.int x0_), .val (.int (1 : Int32)), .val (.long y1_), .second, .val (.long y2_), .second, .val (.long y3_), .second] [(.long (0 : Int64))])) t → Steps p.tables e below (s₁.setTop (entryFrame m #[(.int x0_), (.int (1 : Int32)), (.long y1_), (.long y2_), (.long y3_)] 8)) t := by
      intro t kt
      refine pre1 t ?_
      show Steps p.tables e below (s₁.setTop (mkF m 2 #[.val (.int x0_), .val (.int (1 : Int32)), .val (.long y1_), .second, .val (.long y2_), .second, .val (.long y3_), .second] [(.int (1 : Int32)), (.int x0_)])) _
      refine XS.icmpNo X0.here hx rfl (hb hby d4_2) rfl (flt hc2).1 ?_
      show Steps p.tables e below (s₁.setTop (mkF m 5 #[.val (.int x0_), .val (.int (1 : Int32)), .val (.long y1_), .second, .val (.long y2_), .second, .val (.long y3_), .second] [])) _
      refine XS.lconst X0.here hx rfl (hb hby d4_5) ?_
      exact kt
    obtain ⟨fs, hr, hrun, hended, hW, hsame⟩ := X0.leave (v := some (.long (0 : Int64))) (fun h => by rw [Bd.returns] at h; cases h)
    refine ⟨_, _, pre9 _ (retOut X0 hx Bd.returns rfl (Or.inr (Or.inl ⟨rfl, rfl, _, rfl⟩)) (hb hby d4_6) hr), hrun, hended, _, _, rfl, ?_, ⟨_, rfl⟩, hW, hsame.mono (by decide) (by decide)⟩
    show Qexpected24 Z x0_ y1_ y2_ y3_ h0 n0 _ s₁.heap _
    rw [e0]
    exact ⟨(0 : Int64), rfl, (Or.inr (Or.inr ⟨rfl, hc2⟩)), N0, rfl⟩
theorem efinit26 (m : MethodId) (o0_ : Addr) (o1_ : Addr) : entryFrame m #[(.ref o0_), (.ref o1_)] 2 = mkF m 0 #[.val (.ref o0_), .val (.ref o1_)] [] := by first | (simp [entryFrame, mkF, argsToLocals, Value.category]; done) | rfl
def Qinit26 (Z : State) (o0_ : Addr) (o1_ : Addr) (ko1_ : ClassId) (y0_ : Int64) (y1_ : Int64) (h0 : Heap) (n0 : Nat) (v : Option Value) (h : Heap) (L : List Loc) : Prop := v = none ∧ Fr n0 L ∧ Keep h0 h [o0_] ∧ Exa Z h o0_ "com/example/latchkey/latchkey/LockTokens" ∧ Fld Z h o0_ "com/example/latchkey/latchkey/LockTokens" "tokens" "[J" (.ref o1_)
set_option maxRecDepth 65536 in
set_option maxHeartbeats 40000000 in
theorem rminit26 (l : Launch) (Z : State) (a0 : Array Value) (hw : ∀ d ∈ tables_1, d.before a0 Z = true) (ws : List Jvm.Cond) (o0_ : Addr) (o1_ : Addr) (ko1_ : ClassId) (y0_ : Int64) (y1_ : Int64) (h0 : Heap) (n0 : Nat) (O0 : Old Z n0 h0) (P0 : Exa Z h0 o0_ "com/example/latchkey/latchkey/LockTokens") (P1 : Fld Z h0 o0_ "com/example/latchkey/latchkey/LockTokens" "tokens" "[J" .null) (P2 : Arv Z h0 o1_ ko1_ .long (2 : Int32) [(.long y0_), (.long y1_)] (.long (0 : Int64))) (P3 : Exa Z h0 o1_ "[J") (P4 : n0 ≤ o0_) :
    MetFree l (⟨"com/example/latchkey/latchkey/LockTokens", "<init>", "([J)V"⟩ : MethodName) (head1 (Jvm.Cond.code (⟨"com/example/latchkey/latchkey/LockTokens", "<init>", "([J)V"⟩ : MethodName) prog_31_method_1_code 2 none :: ws) ({ frames := 1, cells := 0, slots := 0, locals := 12 } : Room)) (fun a U => a = #[(.ref o0_), (.ref o1_)] ∧ Z.Warmed39 U.vm ∧ U.heap = h0) (fun _ _ _ _ _ => True) (fun _ U o U' => ∃ v L, o = .returned v ∧ Qinit26 Z o0_ o1_ ko1_ y0_ y1_ h0 n0 v U'.heap L ∧ FrameEnd U o U' L ({ frames := 1, cells := 0, slots := 0, locals := 12 } : Room).cells ({ frames := 1, cells := 0, slots := 0, locals := 12 } : Room).slots) := by
  refine MetFree.of_bodySF (plainFor_of_name pn_0) hisR ?_
  intro p e s m args below meth c s₁ Bd hml0 hP hK
  obtain ⟨rfl, hZ, hh⟩ := hP
  have hx := Bd.exec
  have hby := Bd.bytes
  have hml : c.maxLocals = 2 := hml0
  have hown : s.vm.findClass "com/example/latchkey/latchkey/LockTokens" = some m.cls := findClass_of_methodNamed Bd.named
  have hnm := (name_of_methodNamed Bd.named Bd.method).1
  have X0 : Stand p l e ({ frames := 1, cells := 0, slots := 0, locals := 12 } : Room) s m #[(.ref o0_), (.ref o1_)] below meth c s₁ [] 0 0 := Stand.of_body Bd
  have e0 : s₁.heap = h0 := by rw [← hh, Bd.state]; rfl
  have N0 := Fr.nil n0
  have pre0 : ∀ t, Steps p.tables e below (s₁.setTop (mkF m 0 #[.val (.ref o0_), .val (.ref o1_)] [])) t → Steps p.tables e below (s₁.setTop (entryFrame m #[(.ref o0_), (.ref o1_)] 2)) t := fun t k => castTop (efinit26 m o0_ o1_) k
  have K0 : Keep h0 h0 [o0_] := Keep.refl _ _
  obtain ⟨T1, X1, e1, st1⟩ := initO X0 hx hZ hown (hw _ (List.mem_of_getElem? (i := 19) rfl)) (hw _ (List.mem_of_getElem? (i := 20) rfl)) (hw _ (List.mem_of_getElem? (i := 21) rfl)) e0 (g := (mkF m 1 #[.val (.ref o0_), .val (.ref o1_)] [(.ref o0_)])) rfl (by rw [hml]; rfl) rfl (hb hby d2_1) (by decide) (W := 0) (by show 2 * 0 + _ ≤ _; exact Nat.le_of_eq rfl) (by decide)
  obtain ⟨T2, h2, X2, e2, W2, st2⟩ := putF X1 hx hZ hown (host := "") (Or.inl (hw _ (List.mem_of_getElem? (i := 22) rfl))) Via.refl e1 P1 P0 (Or.inr ⟨(hw _ (List.mem_of_getElem? (i := 23) rfl)), rfl, hnm⟩) (hw _ (List.mem_of_getElem? (i := 6) rfl)) (ty := (.array .long)) (by decide) rfl rfl (g := (mkF m 6 #[.val (.ref o0_), .val (.ref o1_)] [(.ref o1_), (.ref o0_)])) rfl rfl (hb hby d2_6)
  have N3 := Fr.snoc X2 N0 P4
  have f4 : Fld Z h2 o0_ "com/example/latchkey/latchkey/LockTokens" "tokens" "[J" (.ref o1_) := P1.same W2
  have pre5 : ∀ t, Steps p.tables e below (T2.setTop (mkF m 9 #[.val (.ref o0_), .val (.ref o1_)] [])) t → Steps p.tables e below (s₁.setTop (entryFrame m #[(.ref o0_), (.ref o1_)] 2)) t := by
    intro t kt
    refine pre0 t ?_
    show Steps p.tables e below (s₁.setTop (mkF m 0 #[.val (.ref o0_), .val (.ref o1_)] [])) _
    refine XS.aloadN X0.here hx rfl (hb hby d2_0) rfl rfl ?_
    show Steps p.tables e below (s₁.setTop (mkF m 1 #[.val (.ref o0_), .val (.ref o1_)] [(.ref o0_)])) _
    refine st1 _ ?_
    show Steps p.tables e below (T1.setTop (mkF m 4 #[.val (.ref o0_), .val (.ref o1_)] [])) _
    refine XS.aloadN X1.here hx rfl (hb hby d2_4) rfl rfl ?_
    show Steps p.tables e below (T1.setTop (mkF m 5 #[.val (.ref o0_), .val (.ref o1_)] [(.ref o0_)])) _
    refine XS.aloadN X1.here hx rfl (hb hby d2_5) rfl rfl ?_
    show Steps p.tables e below (T1.setTop (mkF m 6 #[.val (.ref o0_), .val (.ref o1_)] [(.ref o1_), (.ref o0_)])) _
    refine st2 _ ?_
    exact kt
  have f7 : Keep h0 h2 [o0_] := K0.wr W2 (Or.inl (List.mem_of_getElem? (i := 0) rfl))
  have f8 : Exa Z h2 o0_ "com/example/latchkey/latchkey/LockTokens" := P0.wr W2
  obtain ⟨fs, hr, hrun, hended, hW, hsame⟩ := X2.leave (v := none) (fun _ => rfl)
  refine ⟨_, _, pre5 _ (X2.returnOut hx Bd.returns (hb hby d2_9) hr), hrun, hended, _, _, rfl, ?_, ⟨_, rfl⟩, hW, hsame.mono (by decide) (by decide)⟩
  show Qinit26 Z o0_ o1_ ko1_ y0_ y1_ h0 n0 _ T2.heap _
  rw [e2]
  exact ⟨rfl, N3, f7, f8, f4⟩
theorem efof25 (m : MethodId) (o0_ : Addr) : entryFrame m #[(.ref o0_)] 1 = mkF m 0 #[.val (.ref o0_)] [] := by first | (simp [entryFrame, mkF, argsToLocals, Value.category]; done) | rfl
def Qof25 (Z : State) (o0_ : Addr) (ko0_ : ClassId) (y0_ : Int64) (y1_ : Int64) (h0 : Heap) (n0 : Nat) (v : Option Value) (h : Heap) (L : List Loc) : Prop := ∃ nb1 : Addr, ∃ nb5 : Addr, v = some (.ref nb1) ∧ Fr n0 L ∧ Keep h0 h [] ∧ h0.size ≤ nb1 ∧ h0.size ≤ nb5 ∧ Exa Z h nb1 "com/example/latchkey/latchkey/LockTokens" ∧ Fld Z h nb1 "com/example/latchkey/latchkey/LockTokens" "tokens" "[J" (.ref nb5) ∧ Arv Z h nb5 ko0_ .long (2 : Int32) [(.long y0_), (.long y1_)] (.long (0 : Int64)) ∧ Exa Z h nb5 "[J"
set_option maxRecDepth 65536 in
set_option maxHeartbeats 40000000 in
theorem rmof25 (l : Launch) (Z : State) (a0 : Array Value) (hw : ∀ d ∈ tables_1, d.before a0 Z = true) (ws : List Jvm.Cond) (o0_ : Addr) (ko0_ : ClassId) (y0_ : Int64) (y1_ : Int64) (h0 : Heap) (n0 : Nat) (O0 : Old Z n0 h0) (P0 : Arv Z h0 o0_ ko0_ .long (2 : Int32) [(.long y0_), (.long y1_)] (.long (0 : Int64))) (P1 : Exa Z h0 o0_ "[J") :
    MetFree l (⟨"com/example/latchkey/latchkey/LockTokens", "of", "([J)Lcom/example/latchkey/latchkey/LockTokens;"⟩ : MethodName) (head1 (Jvm.Cond.code (⟨"com/example/latchkey/latchkey/LockTokens", "of", "([J)Lcom/example/latchkey/latchkey/LockTokens;"⟩ : MethodName) prog_31_method_2_code 1 (some (.object "com/example/latchkey/latchkey/LockTokens")) :: ws) ({ frames := 2, cells := 2, slots := 3, locals := 26 } : Room)) (fun a U => a = #[(.ref o0_)] ∧ Z.Warmed39 U.vm ∧ U.heap = h0) (fun _ _ _ _ _ => True) (fun _ U o U' => ∃ v L, o = .returned v ∧ Qof25 Z o0_ ko0_ y0_ y1_ h0 n0 v U'.heap L ∧ FrameEnd U o U' L ({ frames := 2, cells := 2, slots := 3, locals := 26 } : Room).cells ({ frames := 2, cells := 2, slots := 3, locals := 26 } : Room).slots) := by
  refine MetFree.of_bodySF (plainFor_of_name pn_0) hisR ?_
  intro p e s m args below meth c s₁ Bd hml0 hP hK
  obtain ⟨rfl, hZ, hh⟩ := hP
  have hx := Bd.exec
  have hby := Bd.bytes
  have hml : c.maxLocals = 1 := hml0
  have hown : s.vm.findClass "com/example/latchkey/latchkey/LockTokens" = some m.cls := findClass_of_methodNamed Bd.named
  have hnm := (name_of_methodNamed Bd.named Bd.method).1
  have X0 : Stand p l e ({ frames := 2, cells := 2, slots := 3, locals := 26 } : Room) s m #[(.ref o0_)] below meth c s₁ [] 0 0 := Stand.of_body Bd
  have e0 : s₁.heap = h0 := by rw [← hh, Bd.state]; rfl
  have N0 := Fr.nil n0
  have pre0 : ∀ t, Steps p.tables e below (s₁.setTop (mkF m 0 #[.val (.ref o0_)] [])) t → Steps p.tables e below (s₁.setTop (entryFrame m #[(.ref o0_)] 1)) t := fun t k => castTop (efof25 m o0_) k
  have K0 : Keep h0 h0 [] := Keep.refl _ _
  obtain ⟨T1, h1, X1, e1, E1, A1, D1, -, st1⟩ := newO X0 hx hZ hown (hw _ (List.mem_of_getElem? (i := 5) rfl)) (hw _ (List.mem_of_getElem? (i := 6) rfl)) (hw _ (List.mem_of_getElem? (i := 3) rfl)) e0 (g := (mkF m 0 #[.val (.ref o0_)] [])) rfl (hb hby d1_0) (by decide) (by decide)
  obtain ⟨b1, g1⟩ : ∃ z, z = h0.size := ⟨_, rfl⟩
  rw [← g1] at A1 D1 st1
  have ge2 : n0 ≤ b1 := Nat.le_trans (Nat.le_trans (Nat.le_of_eq O0.1.symm) O0.2.1) (Nat.le_of_eq g1.symm)
  have sz3 : h0.size ≤ b1 := Nat.le_trans K0.1 (Nat.le_of_eq g1.symm)
  have f4 : Fld Z h1 b1 "com/example/latchkey/latchkey/LockTokens" "tokens" "[J" .null := D1 (Or.inr (hw _ (List.mem_of_getElem? (i := 23) rfl))) (ty := (.array .long)) (by decide)
  have f6 : Arv Z h1 o0_ ko0_ .long (2 : Int32) [(.long y0_), (.long y1_)] (.long (0 : Int64)) := P0.ext E1
  have f7 : Exa Z h1 o0_ "[J" := P1.ext E1
  obtain ⟨T5, h5, X5, e5, E5, A5, Z5, st5⟩ := cloneH X1 hx hZ hown (hw _ (List.mem_of_getElem? (i := 7) rfl)) (hw _ (List.mem_of_getElem? (i := 8) rfl)) (hw _ (List.mem_of_getElem? (i := 12) rfl)) (hw _ (List.mem_of_getElem? (i := 10) rfl)) (hw _ (List.mem_of_getElem? (i := 11) rfl)) (hw _ (List.mem_of_getElem? (i := 13) rfl)) e1 f6.arh f7 (g := (mkF m 5 #[.val (.ref o0_)] [(.ref o0_), (.ref b1), (.ref b1)])) rfl (by rw [hml]; rfl) rfl (hb hby d1_5) (by decide) (W := 2) (cap := 2) (by show 2 * 0 + _ ≤ _; exact Nat.le_of_eq rfl) (by decide) (by decide) (by decide) (by decide)
  obtain ⟨b5, g5⟩ : ∃ z, z = h1.size := ⟨_, rfl⟩
  rw [← g5] at A5 Z5 st5
  have f8 : Old Z n0 h1 := O0.ext E1
  have ge9 : n0 ≤ b5 := Nat.le_trans (Nat.le_trans (Nat.le_of_eq f8.1.symm) f8.2.1) (Nat.le_of_eq g5.symm)
  have f10 : Keep h0 h1 [] := K0.ext E1
  have sz11 : h0.size ≤ b5 := Nat.le_trans f10.1 (Nat.le_of_eq g5.symm)
  have f12 : Arv Z h5 b5 ko0_ .long (2 : Int32) [(.long y0_), (.long y1_)] (.long (0 : Int64)) := A5
  obtain ⟨T13, X13, e13, st13⟩ := castY X5 hx hZ hown (hw _ (List.mem_of_getElem? (i := 14) rfl)) e5 (Ins.self Z5) (g := (mkF m 8 #[.val (.ref o0_)] [(.ref b5), (.ref b1), (.ref b1)])) rfl rfl (hb hby d1_8)
  have f15 : Exa Z h5 b1 "com/example/latchkey/latchkey/LockTokens" := A1.ext E5
  have f16 : Fld Z h5 b1 "com/example/latchkey/latchkey/LockTokens" "tokens" "[J" .null := f4.ext E5
  have f17 : Old Z n0 h5 := f8.ext E5
  obtain ⟨_, _, ⟨T14, L14, k14, n14⟩, -, X14, ⟨Lc14, hQ14, l14, y14, z14⟩, st14⟩ := X13.specialBack hx (y := (⟨"com/example/latchkey/latchkey/LockTokens", "<init>", "([J)V"⟩ : MethodName)) rfl hown (mvT hZ (hw _ (List.mem_of_getElem? (i := 16) rfl))) (mvT hZ (hw _ (List.mem_of_getElem? (i := 17) rfl))) (mvT hZ (hw _ (List.mem_of_getElem? (i := 18) rfl))) (by decide) (backOf (W := 1) (rminit26 l Z a0 hw [] b1 b5 ko0_ y0_ y1_ h5 n0 f17 f15 f16 f12 Z5 ge2) hZ (hw _ (List.mem_of_getElem? (i := 18) rfl)) (hw _ (List.mem_of_getElem? (i := 3) rfl)) (by decide) (by decide)) (g := (mkF m 11 #[.val (.ref o0_)] [(.ref b5), (.ref b1), (.ref b1)])) rfl (by rw [hml]; rfl) (Steps.refl _) (a := b1) (argsL := [(.ref b5)]) (rest := [(.ref b1)]) (lenOf pd_0 rfl) rfl (by show 2 * 0 + _ ≤ _; exact Nat.le_of_eq rfl) (hb hby d1_11) (fun _ _ => ⟨rfl, e13, (by decide : 2 + 0 ≤ _), (by decide : 3 + 0 ≤ _)⟩)
  dsimp only [Pt.U, Pt.locs, Pt.cells, Pt.slots] at X14 l14 y14 z14 st14 hQ14
  subst l14 y14 z14
  obtain ⟨h14, e14⟩ : ∃ z, T14.heap = z := ⟨_, rfl⟩
  rw [e14] at hQ14
  obtain ⟨rfl, N14q, K14, g14_0, g14_1⟩ := hQ14
  have N18 := Fr.app N0 N14q
  have pre19 : ∀ t, Steps p.tables e below (T14.setTop (mkF m 14 #[.val (.ref o0_)] [(.ref b1)])) t → Steps p.tables e below (s₁.setTop (entryFrame m #[(.ref o0_)] 1)) t := by
    intro t kt
    refine pre0 t ?_
    show Steps p.tables e below (s₁.setTop (mkF m 0 #[.val (.ref o0_)] [])) _
    refine st1 _ ?_
    show Steps p.tables e below (T1.setTop (mkF m 3 #[.val (.ref o0_)] [(.ref b1)])) _
    refine XS.dup X1.here hx rfl (hb hby d1_3) rfl rfl ?_
    show Steps p.tables e below (T1.setTop (mkF m 4 #[.val (.ref o0_)] [(.ref b1), (.ref b1)])) _
    refine XS.aloadN X1.here hx rfl (hb hby d1_4) rfl rfl ?_
    show Steps p.tables e below (T1.setTop (mkF m 5 #[.val (.ref o0_)] [(.ref o0_), (.ref b1), (.ref b1)])) _
    refine st5 _ ?_
    show Steps p.tables e below (T5.setTop (mkF m 8 #[.val (.ref o0_)] [(.ref b5), (.ref b1), (.ref b1)])) _
    refine st13 _ ?_
    show Steps p.tables e below (T13.setTop (mkF m 11 #[.val (.ref o0_)] [(.ref b5), (.ref b1), (.ref b1)])) _
    refine st14.trans ?_
    exact kt
  have f21 : Keep h0 h5 [] := f10.ext E5
  have f22 : Keep h0 h14 [] := f21.trans K14 (allS (Or.inr sz3) all0)
  have ne24 : b1 ≠ b5 := Nat.ne_of_lt (Nat.lt_of_lt_of_le A1.lt (Nat.le_of_eq g5.symm))
  have f23 : Arv Z h14 b5 ko0_ .long (2 : Int32) [(.long y0_), (.long y1_)] (.long (0 : Int64)) := f12.keep K14 (ninS (Ne.symm ne24) nin0)
  have f25 : Exa Z h14 b5 "[J" := Z5.keep K14
  obtain ⟨fs, hr, hrun, hended, hW, hsame⟩ := X14.leave (v := some (.ref b1)) (fun h => by rw [Bd.returns] at h; cases h)
  refine ⟨_, _, pre19 _ (retOut X14 hx Bd.returns rfl (Or.inr (Or.inr (Or.inr (Or.inr ⟨rfl, rfl, rfl⟩)))) (hb hby d1_14) hr), hrun, hended, _, _, rfl, ?_, ⟨_, rfl⟩, hW, hsame.mono (by decide) (by decide)⟩
  show Qof25 Z o0_ ko0_ y0_ y1_ h0 n0 _ T14.heap _
  rw [e14]
  exact ⟨b1, b5, rfl, N18, f22, sz3, sz11, g14_0, g14_1, f23, f25⟩
theorem efget27 (m : MethodId) (o0_ : Addr) : entryFrame m #[(.ref o0_), (.int (0 : Int32))] 2 = mkF m 0 #[.val (.ref o0_), .val (.int (0 : Int32))] [] := by first | (simp [entryFrame, mkF, argsToLocals, Value.category]; done) | rfl
def Qget27 (Z : State) (o0_ : Addr) (o1_ : Addr) (ko1_ : ClassId) (y0_ : Int64) (y1_ : Int64) (h0 : Heap) (n0 : Nat) (v : Option Value) (h : Heap) (L : List Loc) : Prop := v = some (.long y0_) ∧ Fr n0 L ∧ h = h0
set_option maxRecDepth 65536 in
set_option maxHeartbeats 40000000 in
theorem rmget27 (l : Launch) (Z : State) (a0 : Array Value) (hw : ∀ d ∈ tables_1, d.before a0 Z = true) (ws : List Jvm.Cond) (o0_ : Addr) (o1_ : Addr) (ko1_ : ClassId) (y0_ : Int64) (y1_ : Int64) (h0 : Heap) (n0 : Nat) (O0 : Old Z n0 h0) (P0 : Exa Z h0 o0_ "com/example/latchkey/latchkey/LockTokens") (P1 : Fld Z h0 o0_ "com/example/latchkey/latchkey/LockTokens" "tokens" "[J" (.ref o1_)) (P2 : Arv Z h0 o1_ ko1_ .long (2 : Int32) [(.long y0_), (.long y1_)] (.long (0 : Int64))) (P3 : Exa Z h0 o1_ "[J") :
    MetFree l (⟨"com/example/latchkey/latchkey/LockTokens", "get", "(I)J"⟩ : MethodName) (head1 (Jvm.Cond.code (⟨"com/example/latchkey/latchkey/LockTokens", "get", "(I)J"⟩ : MethodName) prog_31_method_3_code 2 (some .long) :: ws) ({ frames := 0, cells := 0, slots := 0, locals := 0 } : Room)) (fun a U => a = #[(.ref o0_), (.int (0 : Int32))] ∧ Z.Warmed39 U.vm ∧ U.heap = h0) (fun _ _ _ _ _ => True) (fun _ U o U' => ∃ v L, o = .returned v ∧ Qget27 Z o0_ o1_ ko1_ y0_ y1_ h0 n0 v U'.heap L ∧ FrameEnd U o U' L ({ frames := 0, cells := 0, slots := 0, locals := 0 } : Room).cells ({ frames := 0, cells := 0, slots := 0, locals := 0 } : Room).slots) := by
  refine MetFree.of_bodySF (plainFor_of_name pn_0) hisR ?_
  intro p e s m args below meth c s₁ Bd hml0 hP hK
  obtain ⟨rfl, hZ, hh⟩ := hP
  have hx := Bd.exec
  have hby := Bd.bytes
  have hml : c.maxLocals = 2 := hml0
  have hown : s.vm.findClass "com/example/latchkey/latchkey/LockTokens" = some m.cls := findClass_of_methodNamed Bd.named
  have hnm := (name_of_methodNamed Bd.named Bd.method).1
  have X0 : Stand p l e ({ frames := 0, cells := 0, slots := 0, locals := 0 } : Room) s m #[(.ref o0_), (.int (0 : Int32))] below meth c s₁ [] 0 0 := Stand.of_body Bd
  have e0 : s₁.heap = h0 := by rw [← hh, Bd.state]; rfl
  have N0 := Fr.nil n0
  have pre0 : ∀ t, Steps p.tables e below (s₁.setTop (mkF m 0 #[.val (.ref o0_), .val (.int (0 : Int32))] [])) t → Steps p.tables e below (s₁.setTop (entryFrame m #[(.ref o0_), (.int (0 : Int32))] 2)) t := fun t k => castTop (efget27 m o0_) k
  have K0 : Keep h0 h0 [] := Keep.refl _ _
  obtain ⟨T1, X1, e1, st1⟩ := getF X0 hx hZ hown (host := "") (Or.inl (hw _ (List.mem_of_getElem? (i := 22) rfl))) Via.refl e0 P1 (g := (mkF m 2 #[.val (.ref o0_), .val (.int (0 : Int32))] [(.ref o0_), (.int (0 : Int32))])) rfl rfl (hb hby d3_2)
  obtain ⟨c2, r2, q2, s2, z2, y2, G2⟩ := id P2
  obtain ⟨T3, X3, e3, st3⟩ := getF X1 hx hZ hown (host := "") (Or.inl (hw _ (List.mem_of_getElem? (i := 22) rfl))) Via.refl e1 P1 (g := (mkF m 10 #[.val (.ref o0_), .val (.int (0 : Int32))] [(.ref o0_)])) rfl rfl (hb hby d3_10)
  obtain ⟨c4, r4, q4, s4, z4, y4, G4⟩ := id P2
  have hin4 : ¬ ((0 : Int32) < 0 ∨ c4.slots.size ≤ ((0 : Int32)).toNatClampNeg) := inb_of s4 ⟨by decide, by decide⟩
  have hat4 : c4.slots[((0 : Int32)).toNatClampNeg]? = some (.long y0_) := Has.at y4 hin4 rfl
  have pre5 : ∀ t, Steps p.tables e below (T3.setTop (mkF m 19 #[.val (.ref o0_), .val (.int (0 : Int32))] [(.long y0_)])) t → Steps p.tables e below (s₁.setTop (entryFrame m #[(.ref o0_), (.int (0 : Int32))] 2)) t := by
    intro t kt
    refine pre0 t ?_
    show Steps p.tables e below (s₁.setTop (mkF m 0 #[.val (.ref o0_), .val (.int (0 : Int32))] [])) _
    refine XS.iloadN X0.here hx rfl (hb hby d3_0) rfl ?_
    show Steps p.tables e below (s₁.setTop (mkF m 1 #[.val (.ref o0_), .val (.int (0 : Int32))] [(.int (0 : Int32))])) _
    refine XS.aloadN X0.here hx rfl (hb hby d3_1) rfl rfl ?_
    show Steps p.tables e below (s₁.setTop (mkF m 2 #[.val (.ref o0_), .val (.int (0 : Int32))] [(.ref o0_), (.int (0 : Int32))])) _
    refine st1 _ ?_
    show Steps p.tables e below (T1.setTop (mkF m 5 #[.val (.ref o0_), .val (.int (0 : Int32))] [(.ref o1_), (.int (0 : Int32))])) _
    refine X1.arraylength hx (by rw [e1]; exact r2.1) (State.isArrayOf_alike hZ.alike r2.2.1) (g := (mkF m 5 #[.val (.ref o0_), .val (.int (0 : Int32))] [(.ref o1_), (.int (0 : Int32))])) rfl rfl (hb hby d3_5) _ ?_
    rw [len_of s2 z2]
    show Steps p.tables e below (T1.setTop (mkF m 6 #[.val (.ref o0_), .val (.int (0 : Int32))] [(.int (2 : Int32)), (.int (0 : Int32))])) _
    refine XS.icmpNo X1.here hx rfl (hb hby d3_6) rfl (tlt (by decide : (0 : Int32) < (2 : Int32))).2.1 ?_
    show Steps p.tables e below (T1.setTop (mkF m 9 #[.val (.ref o0_), .val (.int (0 : Int32))] [])) _
    refine XS.aloadN X1.here hx rfl (hb hby d3_9) rfl rfl ?_
    show Steps p.tables e below (T1.setTop (mkF m 10 #[.val (.ref o0_), .val (.int (0 : Int32))] [(.ref o0_)])) _
    refine st3 _ ?_
    show Steps p.tables e below (T3.setTop (mkF m 13 #[.val (.ref o0_), .val (.int (0 : Int32))] [(.ref o1_)])) _
    refine XS.iloadN X3.here hx rfl (hb hby d3_13) rfl ?_
    show Steps p.tables e below (T3.setTop (mkF m 14 #[.val (.ref o0_), .val (.int (0 : Int32))] [(.int (0 : Int32)), (.ref o1_)])) _
    refine X3.laload hx (j := (0 : Int32)) (v := (.long y0_)) (by rw [e3]; exact r4.1) (State.isArrayOf_alike hZ.alike r4.2.1) r4.2.2 hin4 hat4 (g := (mkF m 14 #[.val (.ref o0_), .val (.int (0 : Int32))] [(.int (0 : Int32)), (.ref o1_)])) rfl rfl (hb hby d3_14) _ ?_
    show Steps p.tables e below (T3.setTop (mkF m 15 #[.val (.ref o0_), .val (.int (0 : Int32))] [(.long y0_)])) _
    refine XS.goto X3.here hx rfl (pc0 := 15) (pc' := 19) rfl (hb hby d3_15) (by decide) (by decide) ?_
    exact kt
  obtain ⟨fs, hr, hrun, hended, hW, hsame⟩ := X3.leave (v := some (.long y0_)) (fun h => by rw [Bd.returns] at h; cases h)
  refine ⟨_, _, pre5 _ (retOut X3 hx Bd.returns rfl (Or.inr (Or.inl ⟨rfl, rfl, _, rfl⟩)) (hb hby d3_19) hr), hrun, hended, _, _, rfl, ?_, ⟨_, rfl⟩, hW, hsame.mono (by decide) (by decide)⟩
  show Qget27 Z o0_ o1_ ko1_ y0_ y1_ h0 n0 _ T3.heap _
  rw [e3]
  exact ⟨rfl, N0, rfl⟩
theorem efexpected28 (m : MethodId) (y0_ : Int64) (y1_ : Int64) (y2_ : Int64) : entryFrame m #[(.int (0 : Int32)), (.int (2 : Int32)), (.long y0_), (.long y1_), (.long y2_)] 8 = mkF m 0 #[.val (.int (0 : Int32)), .val (.int (2 : Int32)), .val (.long y0_), .second, .val (.long y1_), .second, .val (.long y2_), .second] [] := by first | (simp [entryFrame, mkF, argsToLocals, Value.category]; done) | rfl
def Qexpected28 (Z : State) (y0_ : Int64) (y1_ : Int64) (y2_ : Int64) (h0 : Heap) (n0 : Nat) (v : Option Value) (h : Heap) (L : List Loc) : Prop := v = some (.long y0_) ∧ Fr n0 L ∧ h = h0
set_option maxRecDepth 65536 in
set_option maxHeartbeats 40000000 in
theorem rmexpected28 (l : Launch) (Z : State) (a0 : Array Value) (hw : ∀ d ∈ tables_1, d.before a0 Z = true) (ws : List Jvm.Cond) (y0_ : Int64) (y1_ : Int64) (y2_ : Int64) (h0 : Heap) (n0 : Nat) (O0 : Old Z n0 h0)  :
    MetFree l (⟨"com/example/latchkey/latchkey/LockTokensOfPinLaw", "expected", "(IIJJJ)J"⟩ : MethodName) (head1 (Jvm.Cond.code (⟨"com/example/latchkey/latchkey/LockTokensOfPinLaw", "expected", "(IIJJJ)J"⟩ : MethodName) method_3_code 8 (some .long) :: ws) ({ frames := 0, cells := 0, slots := 0, locals := 0 } : Room)) (fun a U => a = #[(.int (0 : Int32)), (.int (2 : Int32)), (.long y0_), (.long y1_), (.long y2_)] ∧ Z.Warmed39 U.vm ∧ U.heap = h0) (fun _ _ _ _ _ => True) (fun _ U o U' => ∃ v L, o = .returned v ∧ Qexpected28 Z y0_ y1_ y2_ h0 n0 v U'.heap L ∧ FrameEnd U o U' L ({ frames := 0, cells := 0, slots := 0, locals := 0 } : Room).cells ({ frames := 0, cells := 0, slots := 0, locals := 0 } : Room).slots) := by
  refine MetFree.of_bodySF (plainFor_of_name pn_1) hisR ?_
  intro p e s m args below meth c s₁ Bd hml0 hP hK
  obtain ⟨rfl, hZ, hh⟩ := hP
  have hx := Bd.exec
  have hby := Bd.bytes
  have hml : c.maxLocals = 8 := hml0
  have hown : s.vm.findClass "com/example/latchkey/latchkey/LockTokensOfPinLaw" = some m.cls := findClass_of_methodNamed Bd.named
  have hnm := (name_of_methodNamed Bd.named Bd.method).1
  have X0 : Stand p l e ({ frames := 0, cells := 0, slots := 0, locals := 0 } : Room) s m #[(.int (0 : Int32)), (.int (2 : Int32)), (.long y0_), (.long y1_), (.long y2_)] below meth c s₁ [] 0 0 := Stand.of_body Bd
  have e0 : s₁.heap = h0 := by rw [← hh, Bd.state]; rfl
  have N0 := Fr.nil n0
  have pre0 : ∀ t, Steps p.tables e below (s₁.setTop (mkF m 0 #[.val (.int (0 : Int32)), .val (.int (2 : Int32)), .val (.long y0_), .second, .val (.long y1_), .second, .val (.long y2_), .second] [])) t → Steps p.tables e below (s₁.setTop (entryFrame m #[(.int (0 : Int32)), (.int (2 : Int32)), (.long y0_), (.long y1_), (.long y2_)] 8)) t := fun t k => castTop (efexpected28 m y0_ y1_ y2_) k
  have K0 : Keep h0 h0 [] := Keep.refl _ _
  have pre1 : ∀ t, Steps p.tables e below (s₁.setTop (mkF m 12 #[.val (.int (0 : Int32)), .val (.int (2 : Int32)), .val (.long y0_), .second, .val (.long y1_), .second, .val (.long y2_), .second] [(.long y0_)])) t → Steps p.tables e below (s₁.setTop (entryFrame m #[(.int (0 : Int32)), (.int (2 : Int32)), (.long y0_), (.long y1_), (.long y2_)] 8)) t := by
    intro t kt
    refine pre0 t ?_
    show Steps p.tables e below (s₁.setTop (mkF m 0 #[.val (.int (0 : Int32)), .val (.int (2 : Int32)), .val (.long y0_), .second, .val (.long y1_), .second, .val (.long y2_), .second] [])) _
    refine XS.iloadN X0.here hx rfl (hb hby d4_0) rfl ?_
    show Steps p.tables e below (s₁.setTop (mkF m 1 #[.val (.int (0 : Int32)), .val (.int (2 : Int32)), .val (.long y0_), .second, .val (.long y1_), .second, .val (.long y2_), .second] [(.int (0 : Int32))])) _
    refine XS.iloadN X0.here hx rfl (hb hby d4_1) rfl ?_
    show Steps p.tables e below (s₁.setTop (mkF m 2 #[.val (.int (0 : Int32)), .val (.int (2 : Int32)), .val (.long y0_), .second, .val (.long y1_), .second, .val (.long y2_), .second] [(.int (2 : Int32)), (.int (0 : Int32))])) _
    refine XS.icmpYes X0.here hx rfl (pc0 := 2) (pc' := 7) rfl (hb hby d4_2) rfl (tlt (by decide : (0 : Int32) < (2 : Int32))).1 (by decide) (by decide) ?_
    show Steps p.tables e below (s₁.setTop (mkF m 7 #[.val (.int (0 : Int32)), .val (.int (2 : Int32)), .val (.long y0_), .second, .val (.long y1_), .second, .val (.long y2_), .second] [])) _
    refine XS.iloadN X0.here hx rfl (hb hby d4_7) rfl ?_
    show Steps p.tables e below (s₁.setTop (mkF m 8 #[.val (.int (0 : Int32)), .val (.int (2 : Int32)), .val (.long y0_), .second, .val (.long y1_), .second, .val (.long y2_), .second] [(.int (0 : Int32))])) _
    refine XS.ifNo X0.here hx rfl (hb hby d4_8) rfl ((if0 _ _).trans (teq (by decide : (0 : Int32) = (0 : Int32))).2) ?_
    show Steps p.tables e below (s₁.setTop (mkF m 11 #[.val (.int (0 : Int32)), .val (.int (2 : Int32)), .val (.long y0_), .second, .val (.long y1_), .second, .val (.long y2_), .second] [])) _
    refine XS.lloadN X0.here hx rfl (hb hby d4_11) rfl ?_
    exact kt
  obtain ⟨fs, hr, hrun, hended, hW, hsame⟩ := X0.leave (v := some (.long y0_)) (fun h => by rw [Bd.returns] at h; cases h)
  refine ⟨_, _, pre1 _ (retOut X0 hx Bd.returns rfl (Or.inr (Or.inl ⟨rfl, rfl, _, rfl⟩)) (hb hby d4_12) hr), hrun, hended, _, _, rfl, ?_, ⟨_, rfl⟩, hW, hsame.mono (by decide) (by decide)⟩
  show Qexpected28 Z y0_ y1_ y2_ h0 n0 _ s₁.heap _
  rw [e0]
  exact ⟨rfl, N0, rfl⟩
theorem efget29 (m : MethodId) (o0_ : Addr) : entryFrame m #[(.ref o0_), (.int (1 : Int32))] 2 = mkF m 0 #[.val (.ref o0_), .val (.int (1 : Int32))] [] := by first | (simp [entryFrame, mkF, argsToLocals, Value.category]; done) | rfl
def Qget29 (Z : State) (o0_ : Addr) (o1_ : Addr) (ko1_ : ClassId) (y0_ : Int64) (y1_ : Int64) (h0 : Heap) (n0 : Nat) (v : Option Value) (h : Heap) (L : List Loc) : Prop := v = some (.long y1_) ∧ Fr n0 L ∧ h = h0
set_option maxRecDepth 65536 in
set_option maxHeartbeats 40000000 in
theorem rmget29 (l : Launch) (Z : State) (a0 : Array Value) (hw : ∀ d ∈ tables_1, d.before a0 Z = true) (ws : List Jvm.Cond) (o0_ : Addr) (o1_ : Addr) (ko1_ : ClassId) (y0_ : Int64) (y1_ : Int64) (h0 : Heap) (n0 : Nat) (O0 : Old Z n0 h0) (P0 : Exa Z h0 o0_ "com/example/latchkey/latchkey/LockTokens") (P1 : Fld Z h0 o0_ "com/example/latchkey/latchkey/LockTokens" "tokens" "[J" (.ref o1_)) (P2 : Arv Z h0 o1_ ko1_ .long (2 : Int32) [(.long y0_), (.long y1_)] (.long (0 : Int64))) (P3 : Exa Z h0 o1_ "[J") :
    MetFree l (⟨"com/example/latchkey/latchkey/LockTokens", "get", "(I)J"⟩ : MethodName) (head1 (Jvm.Cond.code (⟨"com/example/latchkey/latchkey/LockTokens", "get", "(I)J"⟩ : MethodName) prog_31_method_3_code 2 (some .long) :: ws) ({ frames := 0, cells := 0, slots := 0, locals := 0 } : Room)) (fun a U => a = #[(.ref o0_), (.int (1 : Int32))] ∧ Z.Warmed39 U.vm ∧ U.heap = h0) (fun _ _ _ _ _ => True) (fun _ U o U' => ∃ v L, o = .returned v ∧ Qget29 Z o0_ o1_ ko1_ y0_ y1_ h0 n0 v U'.heap L ∧ FrameEnd U o U' L ({ frames := 0, cells := 0, slots := 0, locals := 0 } : Room).cells ({ frames := 0, cells := 0, slots := 0, locals := 0 } : Room).slots) := by
  refine MetFree.of_bodySF (plainFor_of_name pn_0) hisR ?_
  intro p e s m args below meth c s₁ Bd hml0 hP hK
  obtain ⟨rfl, hZ, hh⟩ := hP
  have hx := Bd.exec
  have hby := Bd.bytes
  have hml : c.maxLocals = 2 := hml0
  have hown : s.vm.findClass "com/example/latchkey/latchkey/LockTokens" = some m.cls := findClass_of_methodNamed Bd.named
  have hnm := (name_of_methodNamed Bd.named Bd.method).1
  have X0 : Stand p l e ({ frames := 0, cells := 0, slots := 0, locals := 0 } : Room) s m #[(.ref o0_), (.int (1 : Int32))] below meth c s₁ [] 0 0 := Stand.of_body Bd
  have e0 : s₁.heap = h0 := by rw [← hh, Bd.state]; rfl
  have N0 := Fr.nil n0
  have pre0 : ∀ t, Steps p.tables e below (s₁.setTop (mkF m 0 #[.val (.ref o0_), .val (.int (1 : Int32))] [])) t → Steps p.tables e below (s₁.setTop (entryFrame m #[(.ref o0_), (.int (1 : Int32))] 2)) t := fun t k => castTop (efget29 m o0_) k
  have K0 : Keep h0 h0 [] := Keep.refl _ _
  obtain ⟨T1, X1, e1, st1⟩ := getF X0 hx hZ hown (host := "") (Or.inl (hw _ (List.mem_of_getElem? (i := 22) rfl))) Via.refl e0 P1 (g := (mkF m 2 #[.val (.ref o0_), .val (.int (1 : Int32))] [(.ref o0_), (.int (1 : Int32))])) rfl rfl (hb hby d3_2)
  obtain ⟨c2, r2, q2, s2, z2, y2, G2⟩ := id P2
  obtain ⟨T3, X3, e3, st3⟩ := getF X1 hx hZ hown (host := "") (Or.inl (hw _ (List.mem_of_getElem? (i := 22) rfl))) Via.refl e1 P1 (g := (mkF m 10 #[.val (.ref o0_), .val (.int (1 : Int32))] [(.ref o0_)])) rfl rfl (hb hby d3_10)
  obtain ⟨c4, r4, q4, s4, z4, y4, G4⟩ := id P2
  have hin4 : ¬ ((1 : Int32) < 0 ∨ c4.slots.size ≤ ((1 : Int32)).toNatClampNeg) := inb_of s4 ⟨by decide, by decide⟩
  have hat4 : c4.slots[((1 : Int32)).toNatClampNeg]? = some (.long y1_) := Has.at y4 hin4 rfl
  have pre5 : ∀ t, Steps p.tables e below (T3.setTop (mkF m 19 #[.val (.ref o0_), .val (.int (1 : Int32))] [(.long y1_)])) t → Steps p.tables e below (s₁.setTop (entryFrame m #[(.ref o0_), (.int (1 : Int32))] 2)) t := by
    intro t kt
    refine pre0 t ?_
    show Steps p.tables e below (s₁.setTop (mkF m 0 #[.val (.ref o0_), .val (.int (1 : Int32))] [])) _
    refine XS.iloadN X0.here hx rfl (hb hby d3_0) rfl ?_
    show Steps p.tables e below (s₁.setTop (mkF m 1 #[.val (.ref o0_), .val (.int (1 : Int32))] [(.int (1 : Int32))])) _
    refine XS.aloadN X0.here hx rfl (hb hby d3_1) rfl rfl ?_
    show Steps p.tables e below (s₁.setTop (mkF m 2 #[.val (.ref o0_), .val (.int (1 : Int32))] [(.ref o0_), (.int (1 : Int32))])) _
    refine st1 _ ?_
    show Steps p.tables e below (T1.setTop (mkF m 5 #[.val (.ref o0_), .val (.int (1 : Int32))] [(.ref o1_), (.int (1 : Int32))])) _
    refine X1.arraylength hx (by rw [e1]; exact r2.1) (State.isArrayOf_alike hZ.alike r2.2.1) (g := (mkF m 5 #[.val (.ref o0_), .val (.int (1 : Int32))] [(.ref o1_), (.int (1 : Int32))])) rfl rfl (hb hby d3_5) _ ?_
    rw [len_of s2 z2]
    show Steps p.tables e below (T1.setTop (mkF m 6 #[.val (.ref o0_), .val (.int (1 : Int32))] [(.int (2 : Int32)), (.int (1 : Int32))])) _
    refine XS.icmpNo X1.here hx rfl (hb hby d3_6) rfl (tlt (by decide : (1 : Int32) < (2 : Int32))).2.1 ?_
    show Steps p.tables e below (T1.setTop (mkF m 9 #[.val (.ref o0_), .val (.int (1 : Int32))] [])) _
    refine XS.aloadN X1.here hx rfl (hb hby d3_9) rfl rfl ?_
    show Steps p.tables e below (T1.setTop (mkF m 10 #[.val (.ref o0_), .val (.int (1 : Int32))] [(.ref o0_)])) _
    refine st3 _ ?_
    show Steps p.tables e below (T3.setTop (mkF m 13 #[.val (.ref o0_), .val (.int (1 : Int32))] [(.ref o1_)])) _
    refine XS.iloadN X3.here hx rfl (hb hby d3_13) rfl ?_
    show Steps p.tables e below (T3.setTop (mkF m 14 #[.val (.ref o0_), .val (.int (1 : Int32))] [(.int (1 : Int32)), (.ref o1_)])) _
    refine X3.laload hx (j := (1 : Int32)) (v := (.long y1_)) (by rw [e3]; exact r4.1) (State.isArrayOf_alike hZ.alike r4.2.1) r4.2.2 hin4 hat4 (g := (mkF m 14 #[.val (.ref o0_), .val (.int (1 : Int32))] [(.int (1 : Int32)), (.ref o1_)])) rfl rfl (hb hby d3_14) _ ?_
    show Steps p.tables e below (T3.setTop (mkF m 15 #[.val (.ref o0_), .val (.int (1 : Int32))] [(.long y1_)])) _
    refine XS.goto X3.here hx rfl (pc0 := 15) (pc' := 19) rfl (hb hby d3_15) (by decide) (by decide) ?_
    exact kt
  obtain ⟨fs, hr, hrun, hended, hW, hsame⟩ := X3.leave (v := some (.long y1_)) (fun h => by rw [Bd.returns] at h; cases h)
  refine ⟨_, _, pre5 _ (retOut X3 hx Bd.returns rfl (Or.inr (Or.inl ⟨rfl, rfl, _, rfl⟩)) (hb hby d3_19) hr), hrun, hended, _, _, rfl, ?_, ⟨_, rfl⟩, hW, hsame.mono (by decide) (by decide)⟩
  show Qget29 Z o0_ o1_ ko1_ y0_ y1_ h0 n0 _ T3.heap _
  rw [e3]
  exact ⟨rfl, N0, rfl⟩
theorem d4_18 : decode method_3_code 18 = .ok (.lload 4, 2) := by decide +kernel
theorem d4_20 : decode method_3_code 20 = .ok (.lreturn, 1) := by decide +kernel
theorem efexpected30 (m : MethodId) (y0_ : Int64) (y1_ : Int64) (y2_ : Int64) : entryFrame m #[(.int (1 : Int32)), (.int (2 : Int32)), (.long y0_), (.long y1_), (.long y2_)] 8 = mkF m 0 #[.val (.int (1 : Int32)), .val (.int (2 : Int32)), .val (.long y0_), .second, .val (.long y1_), .second, .val (.long y2_), .second] [] := by first | (simp [entryFrame, mkF, argsToLocals, Value.category]; done) | rfl
def Qexpected30 (Z : State) (y0_ : Int64) (y1_ : Int64) (y2_ : Int64) (h0 : Heap) (n0 : Nat) (v : Option Value) (h : Heap) (L : List Loc) : Prop := v = some (.long y1_) ∧ Fr n0 L ∧ h = h0
set_option maxRecDepth 65536 in
set_option maxHeartbeats 40000000 in
theorem rmexpected30 (l : Launch) (Z : State) (a0 : Array Value) (hw : ∀ d ∈ tables_1, d.before a0 Z = true) (ws : List Jvm.Cond) (y0_ : Int64) (y1_ : Int64) (y2_ : Int64) (h0 : Heap) (n0 : Nat) (O0 : Old Z n0 h0)  :
    MetFree l (⟨"com/example/latchkey/latchkey/LockTokensOfPinLaw", "expected", "(IIJJJ)J"⟩ : MethodName) (head1 (Jvm.Cond.code (⟨"com/example/latchkey/latchkey/LockTokensOfPinLaw", "expected", "(IIJJJ)J"⟩ : MethodName) method_3_code 8 (some .long) :: ws) ({ frames := 0, cells := 0, slots := 0, locals := 0 } : Room)) (fun a U => a = #[(.int (1 : Int32)), (.int (2 : Int32)), (.long y0_), (.long y1_), (.long y2_)] ∧ Z.Warmed39 U.vm ∧ U.heap = h0) (fun _ _ _ _ _ => True) (fun _ U o U' => ∃ v L, o = .returned v ∧ Qexpected30 Z y0_ y1_ y2_ h0 n0 v U'.heap L ∧ FrameEnd U o U' L ({ frames := 0, cells := 0, slots := 0, locals := 0 } : Room).cells ({ frames := 0, cells := 0, slots := 0, locals := 0 } : Room).slots) := by
  refine MetFree.of_bodySF (plainFor_of_name pn_1) hisR ?_
  intro p e s m args below meth c s₁ Bd hml0 hP hK
  obtain ⟨rfl, hZ, hh⟩ := hP
  have hx := Bd.exec
  have hby := Bd.bytes
  have hml : c.maxLocals = 8 := hml0
  have hown : s.vm.findClass "com/example/latchkey/latchkey/LockTokensOfPinLaw" = some m.cls := findClass_of_methodNamed Bd.named
  have hnm := (name_of_methodNamed Bd.named Bd.method).1
  have X0 : Stand p l e ({ frames := 0, cells := 0, slots := 0, locals := 0 } : Room) s m #[(.int (1 : Int32)), (.int (2 : Int32)), (.long y0_), (.long y1_), (.long y2_)] below meth c s₁ [] 0 0 := Stand.of_body Bd
  have e0 : s₁.heap = h0 := by rw [← hh, Bd.state]; rfl
  have N0 := Fr.nil n0
  have pre0 : ∀ t, Steps p.tables e below (s₁.setTop (mkF m 0 #[.val (.int (1 : Int32)), .val (.int (2 : Int32)), .val (.long y0_), .second, .val (.long y1_), .second, .val (.long y2_), .second] [])) t → Steps p.tables e below (s₁.setTop (entryFrame m #[(.int (1 : Int32)), (.int (2 : Int32)), (.long y0_), (.long y1_), (.long y2_)] 8)) t := fun t k => castTop (efexpected30 m y0_ y1_ y2_) k
  have K0 : Keep h0 h0 [] := Keep.refl _ _
  have pre1 : ∀ t, Steps p.tables e below (s₁.setTop (mkF m 20 #[.val (.int (1 : Int32)), .val (.int (2 : Int32)), .val (.long y0_), .second, .val (.long y1_), .second, .val (.long y2_), .second] [(.long y1_)])) t → Steps p.tables e below (s₁.setTop (entryFrame m #[(.int (1 : Int32)), (.int (2 : Int32)), (.long y0_), (.long y1_), (.long y2_)] 8)) t := by
    intro t kt
    refine pre0 t ?_
    show Steps p.tables e below (s₁.setTop (mkF m 0 #[.val (.int (1 : Int32)), .val (.int (2 : Int32)), .val (.long y0_), .second, .val (.long y1_), .second, .val (.long y2_), .second] [])) _
    refine XS.iloadN X0.here hx rfl (hb hby d4_0) rfl ?_
    show Steps p.tables e below (s₁.setTop (mkF m 1 #[.val (.int (1 : Int32)), .val (.int (2 : Int32)), .val (.long y0_), .second, .val (.long y1_), .second, .val (.long y2_), .second] [(.int (1 : Int32))])) _
    refine XS.iloadN X0.here hx rfl (hb hby d4_1) rfl ?_
    show Steps p.tables e below (s₁.setTop (mkF m 2 #[.val (.int (1 : Int32)), .val (.int (2 : Int32)), .val (.long y0_), .second, .val (.long y1_), .second, .val (.long y2_), .second] [(.int (2 : Int32)), (.int (1 : Int32))])) _
    refine XS.icmpYes X0.here hx rfl (pc0 := 2) (pc' := 7) rfl (hb hby d4_2) rfl (tlt (by decide : (1 : Int32) < (2 : Int32))).1 (by decide) (by decide) ?_
    show Steps p.tables e below (s₁.setTop (mkF m 7 #[.val (.int (1 : Int32)), .val (.int (2 : Int32)), .val (.long y0_), .second, .val (.long y1_), .second, .val (.long y2_), .second] [])) _
    refine XS.iloadN X0.here hx rfl (hb hby d4_7) rfl ?_
    show Steps p.tables e below (s₁.setTop (mkF m 8 #[.val (.int (1 : Int32)), .val (.int (2 : Int32)), .val (.long y0_), .second, .val (.long y1_), .second, .val (.long y2_), .second] [(.int (1 : Int32))])) _
    refine XS.ifYes X0.here hx rfl (pc0 := 8) (pc' := 13) rfl (hb hby d4_8) rfl ((if0 _ _).trans (feq (by decide : ¬ ((1 : Int32) = (0 : Int32)))).2) (by decide) (by decide) ?_
    show Steps p.tables e below (s₁.setTop (mkF m 13 #[.val (.int (1 : Int32)), .val (.int (2 : Int32)), .val (.long y0_), .second, .val (.long y1_), .second, .val (.long y2_), .second] [])) _
    refine XS.iloadN X0.here hx rfl (hb hby d4_13) rfl ?_
    show Steps p.tables e below (s₁.setTop (mkF m 14 #[.val (.int (1 : Int32)), .val (.int (2 : Int32)), .val (.long y0_), .second, .val (.long y1_), .second, .val (.long y2_), .second] [(.int (1 : Int32))])) _
    refine XS.iconst X0.here hx rfl (hb hby d4_14) ?_
    show Steps p.tables e below (s₁.setTop (mkF m 15 #[.val (.int (1 : Int32)), .val (.int (2 : Int32)), .val (.long y0_), .second, .val (.long y1_), .second, .val (.long y2_), .second] [(.int (1 : Int32)), (.int (1 : Int32))])) _
    refine XS.icmpNo X0.here hx rfl (hb hby d4_15) rfl (teq (by decide : (1 : Int32) = (1 : Int32))).2 ?_
    show Steps p.tables e below (s₁.setTop (mkF m 18 #[.val (.int (1 : Int32)), .val (.int (2 : Int32)), .val (.long y0_), .second, .val (.long y1_), .second, .val (.long y2_), .second] [])) _
    refine XS.lload X0.here hx rfl (hb hby d4_18) rfl ?_
    exact kt
  obtain ⟨fs, hr, hrun, hended, hW, hsame⟩ := X0.leave (v := some (.long y1_)) (fun h => by rw [Bd.returns] at h; cases h)
  refine ⟨_, _, pre1 _ (retOut X0 hx Bd.returns rfl (Or.inr (Or.inl ⟨rfl, rfl, _, rfl⟩)) (hb hby d4_20) hr), hrun, hended, _, _, rfl, ?_, ⟨_, rfl⟩, hW, hsame.mono (by decide) (by decide)⟩
  show Qexpected30 Z y0_ y1_ y2_ h0 n0 _ s₁.heap _
  rw [e0]
  exact ⟨rfl, N0, rfl⟩
theorem efget31 (m : MethodId) (o0_ : Addr) : entryFrame m #[(.ref o0_), (.int (2 : Int32))] 2 = mkF m 0 #[.val (.ref o0_), .val (.int (2 : Int32))] [] := by first | (simp [entryFrame, mkF, argsToLocals, Value.category]; done) | rfl
def Qget31 (Z : State) (o0_ : Addr) (o1_ : Addr) (ko1_ : ClassId) (y0_ : Int64) (y1_ : Int64) (h0 : Heap) (n0 : Nat) (v : Option Value) (h : Heap) (L : List Loc) : Prop := v = some (.long (0 : Int64)) ∧ Fr n0 L ∧ h = h0
set_option maxRecDepth 65536 in
set_option maxHeartbeats 40000000 in
theorem rmget31 (l : Launch) (Z : State) (a0 : Array Value) (hw : ∀ d ∈ tables_1, d.before a0 Z = true) (ws : List Jvm.Cond) (o0_ : Addr) (o1_ : Addr) (ko1_ : ClassId) (y0_ : Int64) (y1_ : Int64) (h0 : Heap) (n0 : Nat) (O0 : Old Z n0 h0) (P0 : Exa Z h0 o0_ "com/example/latchkey/latchkey/LockTokens") (P1 : Fld Z h0 o0_ "com/example/latchkey/latchkey/LockTokens" "tokens" "[J" (.ref o1_)) (P2 : Arv Z h0 o1_ ko1_ .long (2 : Int32) [(.long y0_), (.long y1_)] (.long (0 : Int64))) (P3 : Exa Z h0 o1_ "[J") :
    MetFree l (⟨"com/example/latchkey/latchkey/LockTokens", "get", "(I)J"⟩ : MethodName) (head1 (Jvm.Cond.code (⟨"com/example/latchkey/latchkey/LockTokens", "get", "(I)J"⟩ : MethodName) prog_31_method_3_code 2 (some .long) :: ws) ({ frames := 0, cells := 0, slots := 0, locals := 0 } : Room)) (fun a U => a = #[(.ref o0_), (.int (2 : Int32))] ∧ Z.Warmed39 U.vm ∧ U.heap = h0) (fun _ _ _ _ _ => True) (fun _ U o U' => ∃ v L, o = .returned v ∧ Qget31 Z o0_ o1_ ko1_ y0_ y1_ h0 n0 v U'.heap L ∧ FrameEnd U o U' L ({ frames := 0, cells := 0, slots := 0, locals := 0 } : Room).cells ({ frames := 0, cells := 0, slots := 0, locals := 0 } : Room).slots) := by
  refine MetFree.of_bodySF (plainFor_of_name pn_0) hisR ?_
  intro p e s m args below meth c s₁ Bd hml0 hP hK
  obtain ⟨rfl, hZ, hh⟩ := hP
  have hx := Bd.exec
  have hby := Bd.bytes
  have hml : c.maxLocals = 2 := hml0
  have hown : s.vm.findClass "com/example/latchkey/latchkey/LockTokens" = some m.cls := findClass_of_methodNamed Bd.named
  have hnm := (name_of_methodNamed Bd.named Bd.method).1
  have X0 : Stand p l e ({ frames := 0, cells := 0, slots := 0, locals := 0 } : Room) s m #[(.ref o0_), (.int (2 : Int32))] below meth c s₁ [] 0 0 := Stand.of_body Bd
  have e0 : s₁.heap = h0 := by rw [← hh, Bd.state]; rfl
  have N0 := Fr.nil n0
  have pre0 : ∀ t, Steps p.tables e below (s₁.setTop (mkF m 0 #[.val (.ref o0_), .val (.int (2 : Int32))] [])) t → Steps p.tables e below (s₁.setTop (entryFrame m #[(.ref o0_), (.int (2 : Int32))] 2)) t := fun t k => castTop (efget31 m o0_) k
  have K0 : Keep h0 h0 [] := Keep.refl _ _
  obtain ⟨T1, X1, e1, st1⟩ := getF X0 hx hZ hown (host := "") (Or.inl (hw _ (List.mem_of_getElem? (i := 22) rfl))) Via.refl e0 P1 (g := (mkF m 2 #[.val (.ref o0_), .val (.int (2 : Int32))] [(.ref o0_), (.int (2 : Int32))])) rfl rfl (hb hby d3_2)
  obtain ⟨c2, r2, q2, s2, z2, y2, G2⟩ := id P2
  have pre3 : ∀ t, Steps p.tables e below (T1.setTop (mkF m 19 #[.val (.ref o0_), .val (.int (2 : Int32))] [(.long (0 : Int64))])) t → Steps p.tables e below (s₁.setTop (entryFrame m #[(.ref o0_), (.int (2 : Int32))] 2)) t := by
    intro t kt
    refine pre0 t ?_
    show Steps p.tables e below (s₁.setTop (mkF m 0 #[.val (.ref o0_), .val (.int (2 : Int32))] [])) _
    refine XS.iloadN X0.here hx rfl (hb hby d3_0) rfl ?_
    show Steps p.tables e below (s₁.setTop (mkF m 1 #[.val (.ref o0_), .val (.int (2 : Int32))] [(.int (2 : Int32))])) _
    refine XS.aloadN X0.here hx rfl (hb hby d3_1) rfl rfl ?_
    show Steps p.tables e below (s₁.setTop (mkF m 2 #[.val (.ref o0_), .val (.int (2 : Int32))] [(.ref o0_), (.int (2 : Int32))])) _
    refine st1 _ ?_
    show Steps p.tables e below (T1.setTop (mkF m 5 #[.val (.ref o0_), .val (.int (2 : Int32))] [(.ref o1_), (.int (2 : Int32))])) _
    refine X1.arraylength hx (by rw [e1]; exact r2.1) (State.isArrayOf_alike hZ.alike r2.2.1) (g := (mkF m 5 #[.val (.ref o0_), .val (.int (2 : Int32))] [(.ref o1_), (.int (2 : Int32))])) rfl rfl (hb hby d3_5) _ ?_
    rw [len_of s2 z2]
    show Steps p.tables e below (T1.setTop (mkF m 6 #[.val (.ref o0_), .val (.int (2 : Int32))] [(.int (2 : Int32)), (.int (2 : Int32))])) _
    refine XS.icmpYes X1.here hx rfl (pc0 := 6) (pc' := 18) rfl (hb hby d3_6) rfl (flt (by decide : ¬ ((2 : Int32) < (2 : Int32)))).2.1 (by decide) (by decide) ?_
    show Steps p.tables e below (T1.setTop (mkF m 18 #[.val (.ref o0_), .val (.int (2 : Int32))] [])) _
    refine XS.lconst X1.here hx rfl (hb hby d3_18) ?_
    exact kt
  obtain ⟨fs, hr, hrun, hended, hW, hsame⟩ := X1.leave (v := some (.long (0 : Int64))) (fun h => by rw [Bd.returns] at h; cases h)
  refine ⟨_, _, pre3 _ (retOut X1 hx Bd.returns rfl (Or.inr (Or.inl ⟨rfl, rfl, _, rfl⟩)) (hb hby d3_19) hr), hrun, hended, _, _, rfl, ?_, ⟨_, rfl⟩, hW, hsame.mono (by decide) (by decide)⟩
  show Qget31 Z o0_ o1_ ko1_ y0_ y1_ h0 n0 _ T1.heap _
  rw [e1]
  exact ⟨rfl, N0, rfl⟩
theorem efexpected32 (m : MethodId) (y0_ : Int64) (y1_ : Int64) (y2_ : Int64) : entryFrame m #[(.int (2 : Int32)), (.int (2 : Int32)), (.long y0_), (.long y1_), (.long y2_)] 8 = mkF m 0 #[.val (.int (2 : Int32)), .val (.int (2 : Int32)), .val (.long y0_), .second, .val (.long y1_), .second, .val (.long y2_), .second] [] := by first | (simp [entryFrame, mkF, argsToLocals, Value.category]; done) | rfl
def Qexpected32 (Z : State) (y0_ : Int64) (y1_ : Int64) (y2_ : Int64) (h0 : Heap) (n0 : Nat) (v : Option Value) (h : Heap) (L : List Loc) : Prop := v = some (.long (0 : Int64)) ∧ Fr n0 L ∧ h = h0
set_option maxRecDepth 65536 in
set_option maxHeartbeats 40000000 in
theorem rmexpected32 (l : Launch) (Z : State) (a0 : Array Value) (hw : ∀ d ∈ tables_1, d.before a0 Z = true) (ws : List Jvm.Cond) (y0_ : Int64) (y1_ : Int64) (y2_ : Int64) (h0 : Heap) (n0 : Nat) (O0 : Old Z n0 h0)  :
    MetFree l (⟨"com/example/latchkey/latchkey/LockTokensOfPinLaw", "expected", "(IIJJJ)J"⟩ : MethodName) (head1 (Jvm.Cond.code (⟨"com/example/latchkey/latchkey/LockTokensOfPinLaw", "expected", "(IIJJJ)J"⟩ : MethodName) method_3_code 8 (some .long) :: ws) ({ frames := 0, cells := 0, slots := 0, locals := 0 } : Room)) (fun a U => a = #[(.int (2 : Int32)), (.int (2 : Int32)), (.long y0_), (.long y1_), (.long y2_)] ∧ Z.Warmed39 U.vm ∧ U.heap = h0) (fun _ _ _ _ _ => True) (fun _ U o U' => ∃ v L, o = .returned v ∧ Qexpected32 Z y0_ y1_ y2_ h0 n0 v U'.heap L ∧ FrameEnd U o U' L ({ frames := 0, cells := 0, slots := 0, locals := 0 } : Room).cells ({ frames := 0, cells := 0, slots := 0, locals := 0 } : Room).slots) := by
  refine MetFree.of_bodySF (plainFor_of_name pn_1) hisR ?_
  intro p e s m args below meth c s₁ Bd hml0 hP hK
  obtain ⟨rfl, hZ, hh⟩ := hP
  have hx := Bd.exec
  have hby := Bd.bytes
  have hml : c.maxLocals = 8 := hml0
  have hown : s.vm.findClass "com/example/latchkey/latchkey/LockTokensOfPinLaw" = some m.cls := findClass_of_methodNamed Bd.named
  have hnm := (name_of_methodNamed Bd.named Bd.method).1
  have X0 : Stand p l e ({ frames := 0, cells := 0, slots := 0, locals := 0 } : Room) s m #[(.int (2 : Int32)), (.int (2 : Int32)), (.long y0_), (.long y1_), (.long y2_)] below meth c s₁ [] 0 0 := Stand.of_body Bd
  have e0 : s₁.heap = h0 := by rw [← hh, Bd.state]; rfl
  have N0 := Fr.nil n0
  have pre0 : ∀ t, Steps p.tables e below (s₁.setTop (mkF m 0 #[.val (.int (2 : Int32)), .val (.int (2 : Int32)), .val (.long y0_), .second, .val (.long y1_), .second, .val (.long y2_), .second] [])) t → Steps p.tables e below (s₁.setTop (entryFrame m #[(.int (2 : Int32)), (.int (2 : Int32)), (.long y0_), (.long y1_), (.long y2_)] 8)) t := fun t k => castTop (efexpected32 m y0_ y1_ y2_) k
  have K0 : Keep h0 h0 [] := Keep.refl _ _
  have pre1 : ∀ t, Steps p.tables e below (s₁.setTop (mkF m 6 #[.val (.int (2 : Int32)), .val (.int (2 : Int32)), .val (.long y0_), .second, .val (.long y1_), .second, .val (.long y2_), .second] [(.long (0 : Int64))])) t → Steps p.tables e below (s₁.setTop (entryFrame m #[(.int (2 : Int32)), (.int (2 : Int32)), (.long y0_), (.long y1_), (.long y2_)] 8)) t := by
    intro t kt
    refine pre0 t ?_
    show Steps p.tables e below (s₁.setTop (mkF m 0 #[.val (.int (2 : Int32)), .val (.int (2 : Int32)), .val (.long y0_), .second, .val (.long y1_), .second, .val (.long y2_), .second] [])) _
    refine XS.iloadN X0.here hx rfl (hb hby d4_0) rfl ?_
    show Steps p.tables e below (s₁.setTop (mkF m 1 #[.val (.int (2 : Int32)), .val (.int (2 : Int32)), .val (.long y0_), .second, .val (.long y1_), .second, .val (.long y2_), .second] [(.int (2 : Int32))])) _
    refine XS.iloadN X0.here hx rfl (hb hby d4_1) rfl ?_
    show Steps p.tables e below (s₁.setTop (mkF m 2 #[.val (.int (2 : Int32)), .val (.int (2 : Int32)), .val (.long y0_), .second, .val (.long y1_), .second, .val (.long y2_), .second] [(.int (2 : Int32)), (.int (2 : Int32))])) _
    refine XS.icmpNo X0.here hx rfl (hb hby d4_2) rfl (flt (by decide : ¬ ((2 : Int32) < (2 : Int32)))).1 ?_
    show Steps p.tables e below (s₁.setTop (mkF m 5 #[.val (.int (2 : Int32)), .val (.int (2 : Int32)), .val (.long y0_), .second, .val (.long y1_), .second, .val (.long y2_), .second] [])) _
    refine XS.lconst X0.here hx rfl (hb hby d4_5) ?_
    exact kt
  obtain ⟨fs, hr, hrun, hended, hW, hsame⟩ := X0.leave (v := some (.long (0 : Int64))) (fun h => by rw [Bd.returns] at h; cases h)
  refine ⟨_, _, pre1 _ (retOut X0 hx Bd.returns rfl (Or.inr (Or.inl ⟨rfl, rfl, _, rfl⟩)) (hb hby d4_6) hr), hrun, hended, _, _, rfl, ?_, ⟨_, rfl⟩, hW, hsame.mono (by decide) (by decide)⟩
  show Qexpected32 Z y0_ y1_ y2_ h0 n0 _ s₁.heap _
  rw [e0]
  exact ⟨rfl, N0, rfl⟩
theorem efget33 (m : MethodId) (o0_ : Addr) : entryFrame m #[(.ref o0_), (.int (3 : Int32))] 2 = mkF m 0 #[.val (.ref o0_), .val (.int (3 : Int32))] [] := by first | (simp [entryFrame, mkF, argsToLocals, Value.category]; done) | rfl
def Qget33 (Z : State) (o0_ : Addr) (o1_ : Addr) (ko1_ : ClassId) (y0_ : Int64) (y1_ : Int64) (h0 : Heap) (n0 : Nat) (v : Option Value) (h : Heap) (L : List Loc) : Prop := v = some (.long (0 : Int64)) ∧ Fr n0 L ∧ h = h0
set_option maxRecDepth 65536 in
set_option maxHeartbeats 40000000 in
theorem rmget33 (l : Launch) (Z : State) (a0 : Array Value) (hw : ∀ d ∈ tables_1, d.before a0 Z = true) (ws : List Jvm.Cond) (o0_ : Addr) (o1_ : Addr) (ko1_ : ClassId) (y0_ : Int64) (y1_ : Int64) (h0 : Heap) (n0 : Nat) (O0 : Old Z n0 h0) (P0 : Exa Z h0 o0_ "com/example/latchkey/latchkey/LockTokens") (P1 : Fld Z h0 o0_ "com/example/latchkey/latchkey/LockTokens" "tokens" "[J" (.ref o1_)) (P2 : Arv Z h0 o1_ ko1_ .long (2 : Int32) [(.long y0_), (.long y1_)] (.long (0 : Int64))) (P3 : Exa Z h0 o1_ "[J") :
    MetFree l (⟨"com/example/latchkey/latchkey/LockTokens", "get", "(I)J"⟩ : MethodName) (head1 (Jvm.Cond.code (⟨"com/example/latchkey/latchkey/LockTokens", "get", "(I)J"⟩ : MethodName) prog_31_method_3_code 2 (some .long) :: ws) ({ frames := 0, cells := 0, slots := 0, locals := 0 } : Room)) (fun a U => a = #[(.ref o0_), (.int (3 : Int32))] ∧ Z.Warmed39 U.vm ∧ U.heap = h0) (fun _ _ _ _ _ => True) (fun _ U o U' => ∃ v L, o = .returned v ∧ Qget33 Z o0_ o1_ ko1_ y0_ y1_ h0 n0 v U'.heap L ∧ FrameEnd U o U' L ({ frames := 0, cells := 0, slots := 0, locals := 0 } : Room).cells ({ frames := 0, cells := 0, slots := 0, locals := 0 } : Room).slots) := by
  refine MetFree.of_bodySF (plainFor_of_name pn_0) hisR ?_
  intro p e s m args below meth c s₁ Bd hml0 hP hK
  obtain ⟨rfl, hZ, hh⟩ := hP
  have hx := Bd.exec
  have hby := Bd.bytes
  have hml : c.maxLocals = 2 := hml0
  have hown : s.vm.findClass "com/example/latchkey/latchkey/LockTokens" = some m.cls := findClass_of_methodNamed Bd.named
  have hnm := (name_of_methodNamed Bd.named Bd.method).1
  have X0 : Stand p l e ({ frames := 0, cells := 0, slots := 0, locals := 0 } : Room) s m #[(.ref o0_), (.int (3 : Int32))] below meth c s₁ [] 0 0 := Stand.of_body Bd
  have e0 : s₁.heap = h0 := by rw [← hh, Bd.state]; rfl
  have N0 := Fr.nil n0
  have pre0 : ∀ t, Steps p.tables e below (s₁.setTop (mkF m 0 #[.val (.ref o0_), .val (.int (3 : Int32))] [])) t → Steps p.tables e below (s₁.setTop (entryFrame m #[(.ref o0_), (.int (3 : Int32))] 2)) t := fun t k => castTop (efget33 m o0_) k
  have K0 : Keep h0 h0 [] := Keep.refl _ _
  obtain ⟨T1, X1, e1, st1⟩ := getF X0 hx hZ hown (host := "") (Or.inl (hw _ (List.mem_of_getElem? (i := 22) rfl))) Via.refl e0 P1 (g := (mkF m 2 #[.val (.ref o0_), .val (.int (3 : Int32))] [(.ref o0_), (.int (3 : Int32))])) rfl rfl (hb hby d3_2)
  obtain ⟨c2, r2, q2, s2, z2, y2, G2⟩ := id P2
  have pre3 : ∀ t, Steps p.tables e below (T1.setTop (mkF m 19 #[.val (.ref o0_), .val (.int (3 : Int32))] [(.long (0 : Int64))])) t → Steps p.tables e below (s₁.setTop (entryFrame m #[(.ref o0_), (.int (3 : Int32))] 2)) t := by
    intro t kt
    refine pre0 t ?_
    show Steps p.tables e below (s₁.setTop (mkF m 0 #[.val (.ref o0_), .val (.int (3 : Int32))] [])) _
    refine XS.iloadN X0.here hx rfl (hb hby d3_0) rfl ?_
    show Steps p.tables e below (s₁.setTop (mkF m 1 #[.val (.ref o0_), .val (.int (3 : Int32))] [(.int (3 : Int32))])) _
    refine XS.aloadN X0.here hx rfl (hb hby d3_1) rfl rfl ?_
    show Steps p.tables e below (s₁.setTop (mkF m 2 #[.val (.ref o0_), .val (.int (3 : Int32))] [(.ref o0_), (.int (3 : Int32))])) _
    refine st1 _ ?_
    show Steps p.tables e below (T1.setTop (mkF m 5 #[.val (.ref o0_), .val (.int (3 : Int32))] [(.ref o1_), (.int (3 : Int32))])) _
    refine X1.arraylength hx (by rw [e1]; exact r2.1) (State.isArrayOf_alike hZ.alike r2.2.1) (g := (mkF m 5 #[.val (.ref o0_), .val (.int (3 : Int32))] [(.ref o1_), (.int (3 : Int32))])) rfl rfl (hb hby d3_5) _ ?_
    rw [len_of s2 z2]
    show Steps p.tables e below (T1.setTop (mkF m 6 #[.val (.ref o0_), .val (.int (3 : Int32))] [(.int (2 : Int32)), (.int (3 : Int32))])) _
    refine XS.icmpYes X1.here hx rfl (pc0 := 6) (pc' := 18) rfl (hb hby d3_6) rfl (flt (by decide : ¬ ((3 : Int32) < (2 : Int32)))).2.1 (by decide) (by decide) ?_
    show Steps p.tables e below (T1.setTop (mkF m 18 #[.val (.ref o0_), .val (.int (3 : Int32))] [])) _
    refine XS.lconst X1.here hx rfl (hb hby d3_18) ?_
    exact kt
  obtain ⟨fs, hr, hrun, hended, hW, hsame⟩ := X1.leave (v := some (.long (0 : Int64))) (fun h => by rw [Bd.returns] at h; cases h)
  refine ⟨_, _, pre3 _ (retOut X1 hx Bd.returns rfl (Or.inr (Or.inl ⟨rfl, rfl, _, rfl⟩)) (hb hby d3_19) hr), hrun, hended, _, _, rfl, ?_, ⟨_, rfl⟩, hW, hsame.mono (by decide) (by decide)⟩
  show Qget33 Z o0_ o1_ ko1_ y0_ y1_ h0 n0 _ T1.heap _
  rw [e1]
  exact ⟨rfl, N0, rfl⟩
theorem efexpected34 (m : MethodId) (y0_ : Int64) (y1_ : Int64) (y2_ : Int64) : entryFrame m #[(.int (3 : Int32)), (.int (2 : Int32)), (.long y0_), (.long y1_), (.long y2_)] 8 = mkF m 0 #[.val (.int (3 : Int32)), .val (.int (2 : Int32)), .val (.long y0_), .second, .val (.long y1_), .second, .val (.long y2_), .second] [] := by first | (simp [entryFrame, mkF, argsToLocals, Value.category]; done) | rfl
def Qexpected34 (Z : State) (y0_ : Int64) (y1_ : Int64) (y2_ : Int64) (h0 : Heap) (n0 : Nat) (v : Option Value) (h : Heap) (L : List Loc) : Prop := v = some (.long (0 : Int64)) ∧ Fr n0 L ∧ h = h0
set_option maxRecDepth 65536 in
set_option maxHeartbeats 40000000 in
theorem rmexpected34 (l : Launch) (Z : State) (a0 : Array Value) (hw : ∀ d ∈ tables_1, d.before a0 Z = true) (ws : List Jvm.Cond) (y0_ : Int64) (y1_ : Int64) (y2_ : Int64) (h0 : Heap) (n0 : Nat) (O0 : Old Z n0 h0)  :
    MetFree l (⟨"com/example/latchkey/latchkey/LockTokensOfPinLaw", "expected", "(IIJJJ)J"⟩ : MethodName) (head1 (Jvm.Cond.code (⟨"com/example/latchkey/latchkey/LockTokensOfPinLaw", "expected", "(IIJJJ)J"⟩ : MethodName) method_3_code 8 (some .long) :: ws) ({ frames := 0, cells := 0, slots := 0, locals := 0 } : Room)) (fun a U => a = #[(.int (3 : Int32)), (.int (2 : Int32)), (.long y0_), (.long y1_), (.long y2_)] ∧ Z.Warmed39 U.vm ∧ U.heap = h0) (fun _ _ _ _ _ => True) (fun _ U o U' => ∃ v L, o = .returned v ∧ Qexpected34 Z y0_ y1_ y2_ h0 n0 v U'.heap L ∧ FrameEnd U o U' L ({ frames := 0, cells := 0, slots := 0, locals := 0 } : Room).cells ({ frames := 0, cells := 0, slots := 0, locals := 0 } : Room).slots) := by
  refine MetFree.of_bodySF (plainFor_of_name pn_1) hisR ?_
  intro p e s m args below meth c s₁ Bd hml0 hP hK
  obtain ⟨rfl, hZ, hh⟩ := hP
  have hx := Bd.exec
  have hby := Bd.bytes
  have hml : c.maxLocals = 8 := hml0
  have hown : s.vm.findClass "com/example/latchkey/latchkey/LockTokensOfPinLaw" = some m.cls := findClass_of_methodNamed Bd.named
  have hnm := (name_of_methodNamed Bd.named Bd.method).1
  have X0 : Stand p l e ({ frames := 0, cells := 0, slots := 0, locals := 0 } : Room) s m #[(.int (3 : Int32)), (.int (2 : Int32)), (.long y0_), (.long y1_), (.long y2_)] below meth c s₁ [] 0 0 := Stand.of_body Bd
  have e0 : s₁.heap = h0 := by rw [← hh, Bd.state]; rfl
  have N0 := Fr.nil n0
  have pre0 : ∀ t, Steps p.tables e below (s₁.setTop (mkF m 0 #[.val (.int (3 : Int32)), .val (.int (2 : Int32)), .val (.long y0_), .second, .val (.long y1_), .second, .val (.long y2_), .second] [])) t → Steps p.tables e below (s₁.setTop (entryFrame m #[(.int (3 : Int32)), (.int (2 : Int32)), (.long y0_), (.long y1_), (.long y2_)] 8)) t := fun t k => castTop (efexpected34 m y0_ y1_ y2_) k
  have K0 : Keep h0 h0 [] := Keep.refl _ _
  have pre1 : ∀ t, Steps p.tables e below (s₁.setTop (mkF m 6 #[.val (.int (3 : Int32)), .val (.int (2 : Int32)), .val (.long y0_), .second, .val (.long y1_), .second, .val (.long y2_), .second] [(.long (0 : Int64))])) t → Steps p.tables e below (s₁.setTop (entryFrame m #[(.int (3 : Int32)), (.int (2 : Int32)), (.long y0_), (.long y1_), (.long y2_)] 8)) t := by
    intro t kt
    refine pre0 t ?_
    show Steps p.tables e below (s₁.setTop (mkF m 0 #[.val (.int (3 : Int32)), .val (.int (2 : Int32)), .val (.long y0_), .second, .val (.long y1_), .second, .val (.long y2_), .second] [])) _
    refine XS.iloadN X0.here hx rfl (hb hby d4_0) rfl ?_
    show Steps p.tables e below (s₁.setTop (mkF m 1 #[.val (.int (3 : Int32)), .val (.int (2 : Int32)), .val (.long y0_), .second, .val (.long y1_), .second, .val (.long y2_), .second] [(.int (3 : Int32))])) _
    refine XS.iloadN X0.here hx rfl (hb hby d4_1) rfl ?_
    show Steps p.tables e below (s₁.setTop (mkF m 2 #[.val (.int (3 : Int32)), .val (.int (2 : Int32)), .val (.long y0_), .second, .val (.long y1_), .second, .val (.long y2_), .second] [(.int (2 : Int32)), (.int (3 : Int32))])) _
    refine XS.icmpNo X0.here hx rfl (hb hby d4_2) rfl (flt (by decide : ¬ ((3 : Int32) < (2 : Int32)))).1 ?_
    show Steps p.tables e below (s₁.setTop (mkF m 5 #[.val (.int (3 : Int32)), .val (.int (2 : Int32)), .val (.long y0_), .second, .val (.long y1_), .second, .val (.long y2_), .second] [])) _
    refine XS.lconst X0.here hx rfl (hb hby d4_5) ?_
    exact kt
  obtain ⟨fs, hr, hrun, hended, hW, hsame⟩ := X0.leave (v := some (.long (0 : Int64))) (fun h => by rw [Bd.returns] at h; cases h)
  refine ⟨_, _, pre1 _ (retOut X0 hx Bd.returns rfl (Or.inr (Or.inl ⟨rfl, rfl, _, rfl⟩)) (hb hby d4_6) hr), hrun, hended, _, _, rfl, ?_, ⟨_, rfl⟩, hW, hsame.mono (by decide) (by decide)⟩
  show Qexpected34 Z y0_ y1_ y2_ h0 n0 _ s₁.heap _
  rw [e0]
  exact ⟨rfl, N0, rfl⟩
theorem efget35 (m : MethodId) (o0_ : Addr) (x0_ : Int32) : entryFrame m #[(.ref o0_), (.int x0_)] 2 = mkF m 0 #[.val (.ref o0_), .val (.int x0_)] [] := by first | (simp [entryFrame, mkF, argsToLocals, Value.category]; done) | rfl
def Qget35 (Z : State) (o0_ : Addr) (x0_ : Int32) (o1_ : Addr) (ko1_ : ClassId) (y1_ : Int64) (y2_ : Int64) (h0 : Heap) (n0 : Nat) (v : Option Value) (h : Heap) (L : List Loc) : Prop := v = some (.long (0 : Int64)) ∧ Fr n0 L ∧ h = h0
set_option maxRecDepth 65536 in
set_option maxHeartbeats 40000000 in
theorem rmget35 (l : Launch) (Z : State) (a0 : Array Value) (hw : ∀ d ∈ tables_1, d.before a0 Z = true) (ws : List Jvm.Cond) (o0_ : Addr) (x0_ : Int32) (o1_ : Addr) (ko1_ : ClassId) (y1_ : Int64) (y2_ : Int64) (h0 : Heap) (n0 : Nat) (O0 : Old Z n0 h0) (ha0 : ¬ (x0_ < (0 : Int32))) (ha1 : ¬ (x0_ = (0 : Int32))) (ha2 : ¬ (x0_ = (1 : Int32))) (ha3 : ¬ (x0_ < (2 : Int32))) (P4 : Exa Z h0 o0_ "com/example/latchkey/latchkey/LockTokens") (P5 : Fld Z h0 o0_ "com/example/latchkey/latchkey/LockTokens" "tokens" "[J" (.ref o1_)) (P6 : Arv Z h0 o1_ ko1_ .long (2 : Int32) [(.long y1_), (.long y2_)] (.long (0 : Int64))) (P7 : Exa Z h0 o1_ "[J") :
    MetFree l (⟨"com/example/latchkey/latchkey/LockTokens", "get", "(I)J"⟩ : MethodName) (head1 (Jvm.Cond.code (⟨"com/example/latchkey/latchkey/LockTokens", "get", "(I)J"⟩ : MethodName) prog_31_method_3_code 2 (some .long) :: ws) ({ frames := 0, cells := 0, slots := 0, locals := 0 } : Room)) (fun a U => a = #[(.ref o0_), (.int x0_)] ∧ Z.Warmed39 U.vm ∧ U.heap = h0) (fun _ _ _ _ _ => True) (fun _ U o U' => ∃ v L, o = .returned v ∧ Qget35 Z o0_ x0_ o1_ ko1_ y1_ y2_ h0 n0 v U'.heap L ∧ FrameEnd U o U' L ({ frames := 0, cells := 0, slots := 0, locals := 0 } : Room).cells ({ frames := 0, cells := 0, slots := 0, locals := 0 } : Room).slots) := by
  refine MetFree.of_bodySF (plainFor_of_name pn_0) hisR ?_
  intro p e s m args below meth c s₁ Bd hml0 hP hK
  obtain ⟨rfl, hZ, hh⟩ := hP
  have hx := Bd.exec
  have hby := Bd.bytes
  have hml : c.maxLocals = 2 := hml0
  have hown : s.vm.findClass "com/example/latchkey/latchkey/LockTokens" = some m.cls := findClass_of_methodNamed Bd.named
  have hnm := (name_of_methodNamed Bd.named Bd.method).1
  have X0 : Stand p l e ({ frames := 0, cells := 0, slots := 0, locals := 0 } : Room) s m #[(.ref o0_), (.int x0_)] below meth c s₁ [] 0 0 := Stand.of_body Bd
  have e0 : s₁.heap = h0 := by rw [← hh, Bd.state]; rfl
  have N0 := Fr.nil n0
  have pre0 : ∀ t, Steps p.tables e below (s₁.setTop (mkF m 0 #[.val (.ref o0_), .val (.int x0_)] [])) t → Steps p.tables e below (s₁.setTop (entryFrame m #[(.ref o0_), (.int x0_)] 2)) t := fun t k => castTop (efget35 m o0_ x0_) k
  have K0 : Keep h0 h0 [] := Keep.refl _ _
  obtain ⟨T1, X1, e1, st1⟩ := getF X0 hx hZ hown (host := "") (Or.inl (hw _ (List.mem_of_getElem? (i := 22) rfl))) Via.refl e0 P5 (g := (mkF m 2 #[.val (.ref o0_), .val (.int x0_)] [(.ref o0_), (.int x0_)])) rfl rfl (hb hby d3_2)
  obtain ⟨c2, r2, q2, s2, z2, y2, G2⟩ := id P6
  have pre3 : ∀ t, Steps p.tables e below (T1.setTop (mkF m 19 #[.val (.ref o0_), .val (.int x0_)] [(.long (0 : Int64))])) t → Steps p.tables e below (s₁.setTop (entryFrame m #[(.ref o0_), (.int x0_)] 2)) t := by
    intro t kt
    refine pre0 t ?_
    show Steps p.tables e below (s₁.setTop (mkF m 0 #[.val (.ref o0_), .val (.int x0_)] [])) _
    refine XS.iloadN X0.here hx rfl (hb hby d3_0) rfl ?_
    show Steps p.tables e below (s₁.setTop (mkF m 1 #[.val (.ref o0_), .val (.int x0_)] [(.int x0_)])) _
    refine XS.aloadN X0.here hx rfl (hb hby d3_1) rfl rfl ?_
    show Steps p.tables e below (s₁.setTop (mkF m 2 #[.val (.ref o0_), .val (.int x0_)] [(.ref o0_), (.int x0_)])) _
    refine st1 _ ?_
    show Steps p.tables e below (T1.setTop (mkF m 5 #[.val (.ref o0_), .val (.int x0_)] [(.ref o1_), (.int x0_)])) _
    refine X1.arraylength hx (by rw [e1]; exact r2.1) (State.isArrayOf_alike hZ.alike r2.2.1) (g := (mkF m 5 #[.val (.ref o0_), .val (.int x0_)] [(.ref o1_), (.int x0_)])) rfl rfl (hb hby d3_5) _ ?_
    rw [len_of s2 z2]
    show Steps p.tables e below (T1.setTop (mkF m 6 #[.val (.ref o0_), .val (.int x0_)] [(.int (2 : Int32)), (.int x0_)])) _
    refine XS.icmpYes X1.here hx rfl (pc0 := 6) (pc' := 18) rfl (hb hby d3_6) rfl (flt ha3).2.1 (by decide) (by decide) ?_
    show Steps p.tables e below (T1.setTop (mkF m 18 #[.val (.ref o0_), .val (.int x0_)] [])) _
    refine XS.lconst X1.here hx rfl (hb hby d3_18) ?_
    exact kt
  obtain ⟨fs, hr, hrun, hended, hW, hsame⟩ := X1.leave (v := some (.long (0 : Int64))) (fun h => by rw [Bd.returns] at h; cases h)
  refine ⟨_, _, pre3 _ (retOut X1 hx Bd.returns rfl (Or.inr (Or.inl ⟨rfl, rfl, _, rfl⟩)) (hb hby d3_19) hr), hrun, hended, _, _, rfl, ?_, ⟨_, rfl⟩, hW, hsame.mono (by decide) (by decide)⟩
  show Qget35 Z o0_ x0_ o1_ ko1_ y1_ y2_ h0 n0 _ T1.heap _
  rw [e1]
  exact ⟨rfl, N0, rfl⟩
theorem efexpected36 (m : MethodId) (x0_ : Int32) (y1_ : Int64) (y2_ : Int64) (y3_ : Int64) : entryFrame m #[(.int x0_), (.int (2 : Int32)), (.long y1_), (.long y2_), (.long y3_)] 8 = mkF m 0 #[.val (.int x0_), .val (.int (2 : Int32)), .val (.long y1_), .second, .val (.long y2_), .second, .val (.long y3_), .second] [] := by first | (simp [entryFrame, mkF, argsToLocals, Value.category]; done) | rfl
def Qexpected36 (Z : State) (x0_ : Int32) (y1_ : Int64) (y2_ : Int64) (y3_ : Int64) (h0 : Heap) (n0 : Nat) (v : Option Value) (h : Heap) (L : List Loc) : Prop := ∃ r_ : Int64, v = some (.long r_) ∧ ((y1_ = r_ ∧ (x0_ < (2 : Int32)) ∧ (x0_ = (0 : Int32))) ∨ (y2_ = r_ ∧ (x0_ < (2 : Int32)) ∧ (¬ (x0_ = (0 : Int32))) ∧ (x0_ = (1 : Int32))) ∨ (y3_ = r_ ∧ (x0_ < (2 : Int32)) ∧ (¬ (x0_ = (0 : Int32))) ∧ (¬ (x0_ = (1 : Int32)))) ∨ ((0 : Int64) = r_ ∧ (¬ (x0_ < (2 : Int32))))) ∧ Fr n0 L ∧ h = h0
set_option maxRecDepth 65536 in
set_option maxHeartbeats 40000000 in
theorem rmexpected36 (l : Launch) (Z : State) (a0 : Array Value) (hw : ∀ d ∈ tables_1, d.before a0 Z = true) (ws : List Jvm.Cond) (x0_ : Int32) (y1_ : Int64) (y2_ : Int64) (y3_ : Int64) (h0 : Heap) (n0 : Nat) (O0 : Old Z n0 h0)  :
    MetFree l (⟨"com/example/latchkey/latchkey/LockTokensOfPinLaw", "expected", "(IIJJJ)J"⟩ : MethodName) (head1 (Jvm.Cond.code (⟨"com/example/latchkey/latchkey/LockTokensOfPinLaw", "expected", "(IIJJJ)J"⟩ : MethodName) method_3_code 8 (some .long) :: ws) ({ frames := 0, cells := 0, slots := 0, locals := 0 } : Room)) (fun a U => a = #[(.int x0_), (.int (2 : Int32)), (.long y1_), (.long y2_), (.long y3_)] ∧ Z.Warmed39 U.vm ∧ U.heap = h0) (fun _ _ _ _ _ => True) (fun _ U o U' => ∃ v L, o = .returned v ∧ Qexpected36 Z x0_ y1_ y2_ y3_ h0 n0 v U'.heap L ∧ FrameEnd U o U' L ({ frames := 0, cells := 0, slots := 0, locals := 0 } : Room).cells ({ frames := 0, cells := 0, slots := 0, locals := 0 } : Room).slots) := by
  refine MetFree.of_bodySF (plainFor_of_name pn_1) hisR ?_
  intro p e s m args below meth c s₁ Bd hml0 hP hK
  obtain ⟨rfl, hZ, hh⟩ := hP
  have hx := Bd.exec
  have hby := Bd.bytes
  have hml : c.maxLocals = 8 := hml0
  have hown : s.vm.findClass "com/example/latchkey/latchkey/LockTokensOfPinLaw" = some m.cls := findClass_of_methodNamed Bd.named
  have hnm := (name_of_methodNamed Bd.named Bd.method).1
  have X0 : Stand p l e ({ frames := 0, cells := 0, slots := 0, locals := 0 } : Room) s m #[(.int x0_), (.int (2 : Int32)), (.long y1_), (.long y2_), (.long y3_)] below meth c s₁ [] 0 0 := Stand.of_body Bd
  have e0 : s₁.heap = h0 := by rw [← hh, Bd.state]; rfl
  have N0 := Fr.nil n0
  have pre0 : ∀ t, Steps p.tables e below (s₁.setTop (mkF m 0 #[.val (.int x0_), .val (.int (2 : Int32)), .val (.long y1_), .second, .val (.long y2_), .second, .val (.long y3_), .second] [])) t → Steps p.tables e below (s₁.setTop (entryFrame m #[(.int x0_), (.int (2 : Int32)), (.long y1_), (.long y2_), (.long y3_)] 8)) t := fun t k => castTop (efexpected36 m x0_ y1_ y2_ y3_) k
  have K0 : Keep h0 h0 [] := Keep.refl _ _
  have pre1 : ∀ t, Steps p.tables e below (s₁.setTop (mkF m 2 #[.val (.int x0_), .val (.int (2 : Int32)), .val (.long y1_), .second, .val (.long y2_), .second, .val (.long y3_), .second] [(.int (2 : Int32)), (.int x0_)])) t → Steps p.tables e below (s₁.setTop (entryFrame m #[(.int x0_), (.int (2 : Int32)), (.long y1_), (.long y2_), (.long y3_)] 8)) t := by
    intro t kt
    refine pre0 t ?_
    show Steps p.tables e below (s₁.setTop (mkF m 0 #[.val (.int x0_), .val (.int (2 : Int32)), .val (.long y1_), .second, .val (.long y2_), .second, .val (.long y3_), .second] [])) _
    refine XS.iloadN X0.here hx rfl (hb hby d4_0) rfl ?_
    show Steps p.tables e below (s₁.setTop (mkF m 1 #[.val (.int x0_), .val (.int (2 : Int32)), .val (.long y1_), .second, .val (.long y2_), .second, .val (.long y3_), .second] [(.int x0_)])) _
    refine XS.iloadN X0.here hx rfl (hb hby d4_1) rfl ?_
    exact kt
  by_cases hc2 : x0_ < (2 : Int32)
  · have pre3 : ∀ t, Steps p.tables e below (s₁.setTop (mkF m 8 #[.val (.int x0_), .val (.int (2 : Int32)), .val (.long y1_), .second, .val (.long y2_), .second, .val (.long y3_), .second] [(.int x0_)])) t → Steps p.tables e below (s₁.setTop (entryFrame m #[(.int x0_), (.int (2 : Int32)), (.long y1_), (.long y2_), (.long y3_)] 8)) t := by
      intro t kt
      refine pre1 t ?_
      show Steps p.tables e below (s₁.setTop (mkF m 2 #[.val (.int x0_), .val (.int (2 : Int32)), .val (.long y1_), .second, .val (.long y2_), .second, .val (.long y3_), .second] [(.int (2 : Int32)), (.int x0_)])) _
      refine XS.icmpYes X0.here hx rfl (pc0 := 2) (pc' := 7) rfl (hb hby d4_2) rfl (tlt hc2).1 (by decide) (by decide) ?_
      show Steps p.tables e below (s₁.setTop (mkF m 7 #[.val (.int x0_), .val (.int (2 : Int32)), .val (.long y1_), .second, .val (.long y2_), .second, .val (.long y3_), .second] [])) _
      refine XS.iloadN X0.here hx rfl (hb hby d4_7) rfl ?_
      exact kt
    by_cases hc4 : x0_ = (0 : Int32)
    · have pre5 : ∀ t, Steps p.tables e below (s₁.setTop (mkF m 12 #[.val (.int x0_), .val (.int (2 : Int32)), .val (.long y1_), .second, .val (.long y2_), .second, .val (.long y3_), .second] [(.long y1_)])) t → Steps p.tables e below (s₁.setTop (entryFrame m #[(.int x0_), (.int (2 : Int32)), (.long y1_), (.long y2_), (.long y3_)] 8)) t := by
        intro t kt
        refine pre3 t ?_
        show Steps p.tables e below (s₁.setTop (mkF m 8 #[.val (.int x0_), .val (.int (2 : Int32)), .val (.long y1_), .second, .val (.long y2_), .second, .val (.long y3_), .second] [(.int x0_)])) _
        refine XS.ifNo X0.here hx rfl (hb hby d4_8) rfl ((if0 _ _).trans (teq hc4).2) ?_
        show Steps p.tables e below (s₁.setTop (mkF m 11 #[.val (.int x0_), .val (.int (2 : Int32)), .val (.long y1_), .second, .val (.long y2_), .second, .val (.long y3_), .second] [])) _
        refine XS.lloadN X0.here hx rfl (hb hby d4_11) rfl ?_
        exact kt
      obtain ⟨fs, hr, hrun, hended, hW, hsame⟩ := X0.leave (v := some (.long y1_)) (fun h => by rw [Bd.returns] at h; cases h)
      refine ⟨_, _, pre5 _ (retOut X0 hx Bd.returns rfl (Or.inr (Or.inl ⟨rfl, rfl, _, rfl⟩)) (hb hby d4_12) hr), hrun, hended, _, _, rfl, ?_, ⟨_, rfl⟩, hW, hsame.mono (by decide) (by decide)⟩
      show Qexpected36 Z x0_ y1_ y2_ y3_ h0 n0 _ s₁.heap _
      rw [e0]
      exact ⟨y1_, rfl, (Or.inl ⟨rfl, hc2, hc4⟩), N0, rfl⟩
    · have pre7 : ∀ t, Steps p.tables e below (s₁.setTop (mkF m 15 #[.val (.int x0_), .val (.int (2 : Int32)), .val (.long y1_), .second, .val (.long y2_), .second, .val (.long y3_), .second] [(.int (1 : Int32)), (.int x0_)])) t → Steps p.tables e below (s₁.setTop (entryFrame m #[(.int x0_), (.int (2 : Int32)), (.long y1_), (.long y2_), (.long y3_)] 8)) t := by
        intro t kt
        refine pre3 t ?_
        show Steps p.tables e below (s₁.setTop (mkF m 8 #[.val (.int x0_), .val (.int (2 : Int32)), .val (.long y1_), .second, .val (.long y2_), .second, .val (.long y3_), .second] [(.int x0_)])) _
        refine XS.ifYes X0.here hx rfl (pc0 := 8) (pc' := 13) rfl (hb hby d4_8) rfl ((if0 _ _).trans (feq hc4).2) (by decide) (by decide) ?_
        show Steps p.tables e below (s₁.setTop (mkF m 13 #[.val (.int x0_), .val (.int (2 : Int32)), .val (.long y1_), .second, .val (.long y2_), .second, .val (.long y3_), .second] [])) _
        refine XS.iloadN X0.here hx rfl (hb hby d4_13) rfl ?_
        show Steps p.tables e below (s₁.setTop (mkF m 14 #[.val (.int x0_), .val (.int (2 : Int32)), .val (.long y1_), .second, .val (.long y2_), .second, .val (.long y3_), .second] [(.int x0_)])) _
        refine XS.iconst X0.here hx rfl (hb hby d4_14) ?_
        exact kt
      by_cases hc8 : x0_ = (1 : Int32)
      · have pre9 : ∀ t, Steps p.tables e below (s₁.setTop (mkF m 20 #[.val (.int x0_), .val (.int (2 : Int32)), .val (.long y1_), .second, .val (.long y2_), .second, .val (.long y3_), .second] [(.long y2_)])) t → Steps p.tables e below (s₁.setTop (entryFrame m #[(.int x0_), (.int (2 : Int32)), (.long y1_), (.long y2_), (.long y3_)] 8)) t := by
          intro t kt
          refine pre7 t ?_
          show Steps p.tables e below (s₁.setTop (mkF m 15 #[.val (.int x0_), .val (.int (2 : Int32)), .val (.long y1_), .second, .val (.long y2_), .second, .val (.long y3_), .second] [(.int (1 : Int32)), (.int x0_)])) _
          refine XS.icmpNo X0.here hx rfl (hb hby d4_15) rfl (teq hc8).2 ?_
          show Steps p.tables e below (s₁.setTop (mkF m 18 #[.val (.int x0_), .val (.int (2 : Int32)), .val (.long y1_), .second, .val (.long y2_), .second, .val (.long y3_), .second] [])) _
          refine XS.lload X0.here hx rfl (hb hby d4_18) rfl ?_
          exact kt
        obtain ⟨fs, hr, hrun, hended, hW, hsame⟩ := X0.leave (v := some (.long y2_)) (fun h => by rw [Bd.returns] at h; cases h)
        refine ⟨_, _, pre9 _ (retOut X0 hx Bd.returns rfl (Or.inr (Or.inl ⟨rfl, rfl, _, rfl⟩)) (hb hby d4_20) hr), hrun, hended, _, _, rfl, ?_, ⟨_, rfl⟩, hW, hsame.mono (by decide) (by decide)⟩
        show Qexpected36 Z x0_ y1_ y2_ y3_ h0 n0 _ s₁.heap _
        rw [e0]
        exact ⟨y2_, rfl, (Or.inr (Or.inl ⟨rfl, hc2, hc4, hc8⟩)), N0, rfl⟩
      · have pre11 : ∀ t, Steps p.tables e below (s₁.setTop (mkF m 23 #[.val (.int x0_), .val (.int (2 : Int32)), .val (.long y1_), .second, .val (.long y2_), .second, .val (.long y3_), .second] [(.long y3_)])) t → Steps p.tables e below (s₁.setTop (entryFrame m #[(.int x0_), (.int (2 : Int32)), (.long y1_), (.long y2_), (.long y3_)] 8)) t := by
          intro t kt
          refine pre7 t ?_
          show Steps p.tables e below (s₁.setTop (mkF m 15 #[.val (.int x0_), .val (.int (2 : Int32)), .val (.long y1_), .second, .val (.long y2_), .second, .val (.long y3_), .second] [(.int (1 : Int32)), (.int x0_)])) _
          refine XS.icmpYes X0.here hx rfl (pc0 := 15) (pc' := 21) rfl (hb hby d4_15) rfl (feq hc8).2 (by decide) (by decide) ?_
          show Steps p.tables e below (s₁.setTop (mkF m 21 #[.val (.int x0_), .val (.int (2 : Int32)), .val (.long y1_), .second, .val (.long y2_), .second, .val (.long y3_), .second] [])) _
          refine XS.lload X0.here hx rfl (hb hby d4_21) rfl ?_
          exact kt
        obtain ⟨fs, hr, hrun, hended, hW, hsame⟩ := X0.leave (v := some (.long y3_)) (fun h => by rw [Bd.returns] at h; cases h)
        refine ⟨_, _, pre11 _ (retOut X0 hx Bd.returns rfl (Or.inr (Or.inl ⟨rfl, rfl, _, rfl⟩)) (hb hby d4_23) hr), hrun, hended, _, _, rfl, ?_, ⟨_, rfl⟩, hW, hsame.mono (by decide) (by decide)⟩
        show Qexpected36 Z x0_ y1_ y2_ y3_ h0 n0 _ s₁.heap _
        rw [e0]
        exact ⟨y3_, rfl, (Or.inr (Or.inr (Or.inl ⟨rfl, hc2, hc4, hc8⟩))), N0, rfl⟩
  · have pre13 : ∀ t, Steps p.tables e below (s₁.setTop (mkF m 6 #[.val (.int x0_), .val (.int (2 : Int32)), .val (.long y1_), .second, .val (.long y2_), .second, .val (.long y3_), .second] [(.long (0 : Int64))])) t → Steps p.tables e below (s₁.setTop (entryFrame m #[(.int x0_), (.int (2 : Int32)), (.long y1_), (.long y2_), (.long y3_)] 8)) t := by
      intro t kt
      refine pre1 t ?_
      show Steps p.tables e below (s₁.setTop (mkF m 2 #[.val (.int x0_), .val (.int (2 : Int32)), .val (.long y1_), .second, .val (.long y2_), .second, .val (.long y3_), .second] [(.int (2 : Int32)), (.int x0_)])) _
      refine XS.icmpNo X0.here hx rfl (hb hby d4_2) rfl (flt hc2).1 ?_
      show Steps p.tables e below (s₁.setTop (mkF m 5 #[.val (.int x0_), .val (.int (2 : Int32)), .val (.long y1_), .second, .val (.long y2_), .second, .val (.long y3_), .second] [])) _
      refine XS.lconst X0.here hx rfl (hb hby d4_5) ?_
      exact kt
    obtain ⟨fs, hr, hrun, hended, hW, hsame⟩ := X0.leave (v := some (.long (0 : Int64))) (fun h => by rw [Bd.returns] at h; cases h)
    refine ⟨_, _, pre13 _ (retOut X0 hx Bd.returns rfl (Or.inr (Or.inl ⟨rfl, rfl, _, rfl⟩)) (hb hby d4_6) hr), hrun, hended, _, _, rfl, ?_, ⟨_, rfl⟩, hW, hsame.mono (by decide) (by decide)⟩
    show Qexpected36 Z x0_ y1_ y2_ y3_ h0 n0 _ s₁.heap _
    rw [e0]
    exact ⟨(0 : Int64), rfl, (Or.inr (Or.inr (Or.inr ⟨rfl, hc2⟩))), N0, rfl⟩
theorem efinit38 (m : MethodId) (o0_ : Addr) (o1_ : Addr) : entryFrame m #[(.ref o0_), (.ref o1_)] 2 = mkF m 0 #[.val (.ref o0_), .val (.ref o1_)] [] := by first | (simp [entryFrame, mkF, argsToLocals, Value.category]; done) | rfl
def Qinit38 (Z : State) (o0_ : Addr) (o1_ : Addr) (ko1_ : ClassId) (y0_ : Int64) (y1_ : Int64) (y2_ : Int64) (h0 : Heap) (n0 : Nat) (v : Option Value) (h : Heap) (L : List Loc) : Prop := v = none ∧ Fr n0 L ∧ Keep h0 h [o0_] ∧ Exa Z h o0_ "com/example/latchkey/latchkey/LockTokens" ∧ Fld Z h o0_ "com/example/latchkey/latchkey/LockTokens" "tokens" "[J" (.ref o1_)
set_option maxRecDepth 65536 in
set_option maxHeartbeats 40000000 in
theorem rminit38 (l : Launch) (Z : State) (a0 : Array Value) (hw : ∀ d ∈ tables_1, d.before a0 Z = true) (ws : List Jvm.Cond) (o0_ : Addr) (o1_ : Addr) (ko1_ : ClassId) (y0_ : Int64) (y1_ : Int64) (y2_ : Int64) (h0 : Heap) (n0 : Nat) (O0 : Old Z n0 h0) (P0 : Exa Z h0 o0_ "com/example/latchkey/latchkey/LockTokens") (P1 : Fld Z h0 o0_ "com/example/latchkey/latchkey/LockTokens" "tokens" "[J" .null) (P2 : Arv Z h0 o1_ ko1_ .long (3 : Int32) [(.long y0_), (.long y1_), (.long y2_)] (.long (0 : Int64))) (P3 : Exa Z h0 o1_ "[J") (P4 : n0 ≤ o0_) :
    MetFree l (⟨"com/example/latchkey/latchkey/LockTokens", "<init>", "([J)V"⟩ : MethodName) (head1 (Jvm.Cond.code (⟨"com/example/latchkey/latchkey/LockTokens", "<init>", "([J)V"⟩ : MethodName) prog_31_method_1_code 2 none :: ws) ({ frames := 1, cells := 0, slots := 0, locals := 12 } : Room)) (fun a U => a = #[(.ref o0_), (.ref o1_)] ∧ Z.Warmed39 U.vm ∧ U.heap = h0) (fun _ _ _ _ _ => True) (fun _ U o U' => ∃ v L, o = .returned v ∧ Qinit38 Z o0_ o1_ ko1_ y0_ y1_ y2_ h0 n0 v U'.heap L ∧ FrameEnd U o U' L ({ frames := 1, cells := 0, slots := 0, locals := 12 } : Room).cells ({ frames := 1, cells := 0, slots := 0, locals := 12 } : Room).slots) := by
  refine MetFree.of_bodySF (plainFor_of_name pn_0) hisR ?_
  intro p e s m args below meth c s₁ Bd hml0 hP hK
  obtain ⟨rfl, hZ, hh⟩ := hP
  have hx := Bd.exec
  have hby := Bd.bytes
  have hml : c.maxLocals = 2 := hml0
  have hown : s.vm.findClass "com/example/latchkey/latchkey/LockTokens" = some m.cls := findClass_of_methodNamed Bd.named
  have hnm := (name_of_methodNamed Bd.named Bd.method).1
  have X0 : Stand p l e ({ frames := 1, cells := 0, slots := 0, locals := 12 } : Room) s m #[(.ref o0_), (.ref o1_)] below meth c s₁ [] 0 0 := Stand.of_body Bd
  have e0 : s₁.heap = h0 := by rw [← hh, Bd.state]; rfl
  have N0 := Fr.nil n0
  have pre0 : ∀ t, Steps p.tables e below (s₁.setTop (mkF m 0 #[.val (.ref o0_), .val (.ref o1_)] [])) t → Steps p.tables e below (s₁.setTop (entryFrame m #[(.ref o0_), (.ref o1_)] 2)) t := fun t k => castTop (efinit38 m o0_ o1_) k
  have K0 : Keep h0 h0 [o0_] := Keep.refl _ _
  obtain ⟨T1, X1, e1, st1⟩ := initO X0 hx hZ hown (hw _ (List.mem_of_getElem? (i := 19) rfl)) (hw _ (List.mem_of_getElem? (i := 20) rfl)) (hw _ (List.mem_of_getElem? (i := 21) rfl)) e0 (g := (mkF m 1 #[.val (.ref o0_), .val (.ref o1_)] [(.ref o0_)])) rfl (by rw [hml]; rfl) rfl (hb hby d2_1) (by decide) (W := 0) (by show 2 * 0 + _ ≤ _; exact Nat.le_of_eq rfl) (by decide)
  obtain ⟨T2, h2, X2, e2, W2, st2⟩ := putF X1 hx hZ hown (host := "") (Or.inl (hw _ (List.mem_of_getElem? (i := 22) rfl))) Via.refl e1 P1 P0 (Or.inr ⟨(hw _ (List.mem_of_getElem? (i := 23) rfl)), rfl, hnm⟩) (hw _ (List.mem_of_getElem? (i := 6) rfl)) (ty := (.array .long)) (by decide) rfl rfl (g := (mkF m 6 #[.val (.ref o0_), .val (.ref o1_)] [(.ref o1_), (.ref o0_)])) rfl rfl (hb hby d2_6)
  have N3 := Fr.snoc X2 N0 P4
  have f4 : Fld Z h2 o0_ "com/example/latchkey/latchkey/LockTokens" "tokens" "[J" (.ref o1_) := P1.same W2
  have pre5 : ∀ t, Steps p.tables e below (T2.setTop (mkF m 9 #[.val (.ref o0_), .val (.ref o1_)] [])) t → Steps p.tables e below (s₁.setTop (entryFrame m #[(.ref o0_), (.ref o1_)] 2)) t := by
    intro t kt
    refine pre0 t ?_
    show Steps p.tables e below (s₁.setTop (mkF m 0 #[.val (.ref o0_), .val (.ref o1_)] [])) _
    refine XS.aloadN X0.here hx rfl (hb hby d2_0) rfl rfl ?_
    show Steps p.tables e below (s₁.setTop (mkF m 1 #[.val (.ref o0_), .val (.ref o1_)] [(.ref o0_)])) _
    refine st1 _ ?_
    show Steps p.tables e below (T1.setTop (mkF m 4 #[.val (.ref o0_), .val (.ref o1_)] [])) _
    refine XS.aloadN X1.here hx rfl (hb hby d2_4) rfl rfl ?_
    show Steps p.tables e below (T1.setTop (mkF m 5 #[.val (.ref o0_), .val (.ref o1_)] [(.ref o0_)])) _
    refine XS.aloadN X1.here hx rfl (hb hby d2_5) rfl rfl ?_
    show Steps p.tables e below (T1.setTop (mkF m 6 #[.val (.ref o0_), .val (.ref o1_)] [(.ref o1_), (.ref o0_)])) _
    refine st2 _ ?_
    exact kt
  have f7 : Keep h0 h2 [o0_] := K0.wr W2 (Or.inl (List.mem_of_getElem? (i := 0) rfl))
  have f8 : Exa Z h2 o0_ "com/example/latchkey/latchkey/LockTokens" := P0.wr W2
  obtain ⟨fs, hr, hrun, hended, hW, hsame⟩ := X2.leave (v := none) (fun _ => rfl)
  refine ⟨_, _, pre5 _ (X2.returnOut hx Bd.returns (hb hby d2_9) hr), hrun, hended, _, _, rfl, ?_, ⟨_, rfl⟩, hW, hsame.mono (by decide) (by decide)⟩
  show Qinit38 Z o0_ o1_ ko1_ y0_ y1_ y2_ h0 n0 _ T2.heap _
  rw [e2]
  exact ⟨rfl, N3, f7, f8, f4⟩
theorem efof37 (m : MethodId) (o0_ : Addr) : entryFrame m #[(.ref o0_)] 1 = mkF m 0 #[.val (.ref o0_)] [] := by first | (simp [entryFrame, mkF, argsToLocals, Value.category]; done) | rfl
def Qof37 (Z : State) (o0_ : Addr) (ko0_ : ClassId) (y0_ : Int64) (y1_ : Int64) (y2_ : Int64) (h0 : Heap) (n0 : Nat) (v : Option Value) (h : Heap) (L : List Loc) : Prop := ∃ nb1 : Addr, ∃ nb5 : Addr, v = some (.ref nb1) ∧ Fr n0 L ∧ Keep h0 h [] ∧ h0.size ≤ nb1 ∧ h0.size ≤ nb5 ∧ Exa Z h nb1 "com/example/latchkey/latchkey/LockTokens" ∧ Fld Z h nb1 "com/example/latchkey/latchkey/LockTokens" "tokens" "[J" (.ref nb5) ∧ Arv Z h nb5 ko0_ .long (3 : Int32) [(.long y0_), (.long y1_), (.long y2_)] (.long (0 : Int64)) ∧ Exa Z h nb5 "[J"
set_option maxRecDepth 65536 in
set_option maxHeartbeats 40000000 in
theorem rmof37 (l : Launch) (Z : State) (a0 : Array Value) (hw : ∀ d ∈ tables_1, d.before a0 Z = true) (ws : List Jvm.Cond) (o0_ : Addr) (ko0_ : ClassId) (y0_ : Int64) (y1_ : Int64) (y2_ : Int64) (h0 : Heap) (n0 : Nat) (O0 : Old Z n0 h0) (P0 : Arv Z h0 o0_ ko0_ .long (3 : Int32) [(.long y0_), (.long y1_), (.long y2_)] (.long (0 : Int64))) (P1 : Exa Z h0 o0_ "[J") :
    MetFree l (⟨"com/example/latchkey/latchkey/LockTokens", "of", "([J)Lcom/example/latchkey/latchkey/LockTokens;"⟩ : MethodName) (head1 (Jvm.Cond.code (⟨"com/example/latchkey/latchkey/LockTokens", "of", "([J)Lcom/example/latchkey/latchkey/LockTokens;"⟩ : MethodName) prog_31_method_2_code 1 (some (.object "com/example/latchkey/latchkey/LockTokens")) :: ws) ({ frames := 2, cells := 2, slots := 4, locals := 26 } : Room)) (fun a U => a = #[(.ref o0_)] ∧ Z.Warmed39 U.vm ∧ U.heap = h0) (fun _ _ _ _ _ => True) (fun _ U o U' => ∃ v L, o = .returned v ∧ Qof37 Z o0_ ko0_ y0_ y1_ y2_ h0 n0 v U'.heap L ∧ FrameEnd U o U' L ({ frames := 2, cells := 2, slots := 4, locals := 26 } : Room).cells ({ frames := 2, cells := 2, slots := 4, locals := 26 } : Room).slots) := by
  refine MetFree.of_bodySF (plainFor_of_name pn_0) hisR ?_
  intro p e s m args below meth c s₁ Bd hml0 hP hK
  obtain ⟨rfl, hZ, hh⟩ := hP
  have hx := Bd.exec
  have hby := Bd.bytes
  have hml : c.maxLocals = 1 := hml0
  have hown : s.vm.findClass "com/example/latchkey/latchkey/LockTokens" = some m.cls := findClass_of_methodNamed Bd.named
  have hnm := (name_of_methodNamed Bd.named Bd.method).1
  have X0 : Stand p l e ({ frames := 2, cells := 2, slots := 4, locals := 26 } : Room) s m #[(.ref o0_)] below meth c s₁ [] 0 0 := Stand.of_body Bd
  have e0 : s₁.heap = h0 := by rw [← hh, Bd.state]; rfl
  have N0 := Fr.nil n0
  have pre0 : ∀ t, Steps p.tables e below (s₁.setTop (mkF m 0 #[.val (.ref o0_)] [])) t → Steps p.tables e below (s₁.setTop (entryFrame m #[(.ref o0_)] 1)) t := fun t k => castTop (efof37 m o0_) k
  have K0 : Keep h0 h0 [] := Keep.refl _ _
  obtain ⟨T1, h1, X1, e1, E1, A1, D1, -, st1⟩ := newO X0 hx hZ hown (hw _ (List.mem_of_getElem? (i := 5) rfl)) (hw _ (List.mem_of_getElem? (i := 6) rfl)) (hw _ (List.mem_of_getElem? (i := 3) rfl)) e0 (g := (mkF m 0 #[.val (.ref o0_)] [])) rfl (hb hby d1_0) (by decide) (by decide)
  obtain ⟨b1, g1⟩ : ∃ z, z = h0.size := ⟨_, rfl⟩
  rw [← g1] at A1 D1 st1
  have ge2 : n0 ≤ b1 := Nat.le_trans (Nat.le_trans (Nat.le_of_eq O0.1.symm) O0.2.1) (Nat.le_of_eq g1.symm)
  have sz3 : h0.size ≤ b1 := Nat.le_trans K0.1 (Nat.le_of_eq g1.symm)
  have f4 : Fld Z h1 b1 "com/example/latchkey/latchkey/LockTokens" "tokens" "[J" .null := D1 (Or.inr (hw _ (List.mem_of_getElem? (i := 23) rfl))) (ty := (.array .long)) (by decide)
  have f6 : Arv Z h1 o0_ ko0_ .long (3 : Int32) [(.long y0_), (.long y1_), (.long y2_)] (.long (0 : Int64)) := P0.ext E1
  have f7 : Exa Z h1 o0_ "[J" := P1.ext E1
  obtain ⟨T5, h5, X5, e5, E5, A5, Z5, st5⟩ := cloneH X1 hx hZ hown (hw _ (List.mem_of_getElem? (i := 7) rfl)) (hw _ (List.mem_of_getElem? (i := 8) rfl)) (hw _ (List.mem_of_getElem? (i := 12) rfl)) (hw _ (List.mem_of_getElem? (i := 10) rfl)) (hw _ (List.mem_of_getElem? (i := 11) rfl)) (hw _ (List.mem_of_getElem? (i := 13) rfl)) e1 f6.arh f7 (g := (mkF m 5 #[.val (.ref o0_)] [(.ref o0_), (.ref b1), (.ref b1)])) rfl (by rw [hml]; rfl) rfl (hb hby d1_5) (by decide) (W := 2) (cap := 3) (by show 2 * 0 + _ ≤ _; exact Nat.le_of_eq rfl) (by decide) (by decide) (by decide) (by decide)
  obtain ⟨b5, g5⟩ : ∃ z, z = h1.size := ⟨_, rfl⟩
  rw [← g5] at A5 Z5 st5
  have f8 : Old Z n0 h1 := O0.ext E1
  have ge9 : n0 ≤ b5 := Nat.le_trans (Nat.le_trans (Nat.le_of_eq f8.1.symm) f8.2.1) (Nat.le_of_eq g5.symm)
  have f10 : Keep h0 h1 [] := K0.ext E1
  have sz11 : h0.size ≤ b5 := Nat.le_trans f10.1 (Nat.le_of_eq g5.symm)
  have f12 : Arv Z h5 b5 ko0_ .long (3 : Int32) [(.long y0_), (.long y1_), (.long y2_)] (.long (0 : Int64)) := A5
  obtain ⟨T13, X13, e13, st13⟩ := castY X5 hx hZ hown (hw _ (List.mem_of_getElem? (i := 14) rfl)) e5 (Ins.self Z5) (g := (mkF m 8 #[.val (.ref o0_)] [(.ref b5), (.ref b1), (.ref b1)])) rfl rfl (hb hby d1_8)
  have f15 : Exa Z h5 b1 "com/example/latchkey/latchkey/LockTokens" := A1.ext E5
  have f16 : Fld Z h5 b1 "com/example/latchkey/latchkey/LockTokens" "tokens" "[J" .null := f4.ext E5
  have f17 : Old Z n0 h5 := f8.ext E5
  obtain ⟨_, _, ⟨T14, L14, k14, n14⟩, -, X14, ⟨Lc14, hQ14, l14, y14, z14⟩, st14⟩ := X13.specialBack hx (y := (⟨"com/example/latchkey/latchkey/LockTokens", "<init>", "([J)V"⟩ : MethodName)) rfl hown (mvT hZ (hw _ (List.mem_of_getElem? (i := 16) rfl))) (mvT hZ (hw _ (List.mem_of_getElem? (i := 17) rfl))) (mvT hZ (hw _ (List.mem_of_getElem? (i := 18) rfl))) (by decide) (backOf (W := 1) (rminit38 l Z a0 hw [] b1 b5 ko0_ y0_ y1_ y2_ h5 n0 f17 f15 f16 f12 Z5 ge2) hZ (hw _ (List.mem_of_getElem? (i := 18) rfl)) (hw _ (List.mem_of_getElem? (i := 3) rfl)) (by decide) (by decide)) (g := (mkF m 11 #[.val (.ref o0_)] [(.ref b5), (.ref b1), (.ref b1)])) rfl (by rw [hml]; rfl) (Steps.refl _) (a := b1) (argsL := [(.ref b5)]) (rest := [(.ref b1)]) (lenOf pd_0 rfl) rfl (by show 2 * 0 + _ ≤ _; exact Nat.le_of_eq rfl) (hb hby d1_11) (fun _ _ => ⟨rfl, e13, (by decide : 2 + 0 ≤ _), (by decide : 4 + 0 ≤ _)⟩)
  dsimp only [Pt.U, Pt.locs, Pt.cells, Pt.slots] at X14 l14 y14 z14 st14 hQ14
  subst l14 y14 z14
  obtain ⟨h14, e14⟩ : ∃ z, T14.heap = z := ⟨_, rfl⟩
  rw [e14] at hQ14
  obtain ⟨rfl, N14q, K14, g14_0, g14_1⟩ := hQ14
  have N18 := Fr.app N0 N14q
  have pre19 : ∀ t, Steps p.tables e below (T14.setTop (mkF m 14 #[.val (.ref o0_)] [(.ref b1)])) t → Steps p.tables e below (s₁.setTop (entryFrame m #[(.ref o0_)] 1)) t := by
    intro t kt
    refine pre0 t ?_
    show Steps p.tables e below (s₁.setTop (mkF m 0 #[.val (.ref o0_)] [])) _
    refine st1 _ ?_
    show Steps p.tables e below (T1.setTop (mkF m 3 #[.val (.ref o0_)] [(.ref b1)])) _
    refine XS.dup X1.here hx rfl (hb hby d1_3) rfl rfl ?_
    show Steps p.tables e below (T1.setTop (mkF m 4 #[.val (.ref o0_)] [(.ref b1), (.ref b1)])) _
    refine XS.aloadN X1.here hx rfl (hb hby d1_4) rfl rfl ?_
    show Steps p.tables e below (T1.setTop (mkF m 5 #[.val (.ref o0_)] [(.ref o0_), (.ref b1), (.ref b1)])) _
    refine st5 _ ?_
    show Steps p.tables e below (T5.setTop (mkF m 8 #[.val (.ref o0_)] [(.ref b5), (.ref b1), (.ref b1)])) _
    refine st13 _ ?_
    show Steps p.tables e below (T13.setTop (mkF m 11 #[.val (.ref o0_)] [(.ref b5), (.ref b1), (.ref b1)])) _
    refine st14.trans ?_
    exact kt
  have f21 : Keep h0 h5 [] := f10.ext E5
  have f22 : Keep h0 h14 [] := f21.trans K14 (allS (Or.inr sz3) all0)
  have ne24 : b1 ≠ b5 := Nat.ne_of_lt (Nat.lt_of_lt_of_le A1.lt (Nat.le_of_eq g5.symm))
  have f23 : Arv Z h14 b5 ko0_ .long (3 : Int32) [(.long y0_), (.long y1_), (.long y2_)] (.long (0 : Int64)) := f12.keep K14 (ninS (Ne.symm ne24) nin0)
  have f25 : Exa Z h14 b5 "[J" := Z5.keep K14
  obtain ⟨fs, hr, hrun, hended, hW, hsame⟩ := X14.leave (v := some (.ref b1)) (fun h => by rw [Bd.returns] at h; cases h)
  refine ⟨_, _, pre19 _ (retOut X14 hx Bd.returns rfl (Or.inr (Or.inr (Or.inr (Or.inr ⟨rfl, rfl, rfl⟩)))) (hb hby d1_14) hr), hrun, hended, _, _, rfl, ?_, ⟨_, rfl⟩, hW, hsame.mono (by decide) (by decide)⟩
  show Qof37 Z o0_ ko0_ y0_ y1_ y2_ h0 n0 _ T14.heap _
  rw [e14]
  exact ⟨b1, b5, rfl, N18, f22, sz3, sz11, g14_0, g14_1, f23, f25⟩
theorem efget39 (m : MethodId) (o0_ : Addr) : entryFrame m #[(.ref o0_), (.int (0 : Int32))] 2 = mkF m 0 #[.val (.ref o0_), .val (.int (0 : Int32))] [] := by first | (simp [entryFrame, mkF, argsToLocals, Value.category]; done) | rfl
def Qget39 (Z : State) (o0_ : Addr) (o1_ : Addr) (ko1_ : ClassId) (y0_ : Int64) (y1_ : Int64) (y2_ : Int64) (h0 : Heap) (n0 : Nat) (v : Option Value) (h : Heap) (L : List Loc) : Prop := v = some (.long y0_) ∧ Fr n0 L ∧ h = h0
set_option maxRecDepth 65536 in
set_option maxHeartbeats 40000000 in
theorem rmget39 (l : Launch) (Z : State) (a0 : Array Value) (hw : ∀ d ∈ tables_1, d.before a0 Z = true) (ws : List Jvm.Cond) (o0_ : Addr) (o1_ : Addr) (ko1_ : ClassId) (y0_ : Int64) (y1_ : Int64) (y2_ : Int64) (h0 : Heap) (n0 : Nat) (O0 : Old Z n0 h0) (P0 : Exa Z h0 o0_ "com/example/latchkey/latchkey/LockTokens") (P1 : Fld Z h0 o0_ "com/example/latchkey/latchkey/LockTokens" "tokens" "[J" (.ref o1_)) (P2 : Arv Z h0 o1_ ko1_ .long (3 : Int32) [(.long y0_), (.long y1_), (.long y2_)] (.long (0 : Int64))) (P3 : Exa Z h0 o1_ "[J") :
    MetFree l (⟨"com/example/latchkey/latchkey/LockTokens", "get", "(I)J"⟩ : MethodName) (head1 (Jvm.Cond.code (⟨"com/example/latchkey/latchkey/LockTokens", "get", "(I)J"⟩ : MethodName) prog_31_method_3_code 2 (some .long) :: ws) ({ frames := 0, cells := 0, slots := 0, locals := 0 } : Room)) (fun a U => a = #[(.ref o0_), (.int (0 : Int32))] ∧ Z.Warmed39 U.vm ∧ U.heap = h0) (fun _ _ _ _ _ => True) (fun _ U o U' => ∃ v L, o = .returned v ∧ Qget39 Z o0_ o1_ ko1_ y0_ y1_ y2_ h0 n0 v U'.heap L ∧ FrameEnd U o U' L ({ frames := 0, cells := 0, slots := 0, locals := 0 } : Room).cells ({ frames := 0, cells := 0, slots := 0, locals := 0 } : Room).slots) := by
  refine MetFree.of_bodySF (plainFor_of_name pn_0) hisR ?_
  intro p e s m args below meth c s₁ Bd hml0 hP hK
  obtain ⟨rfl, hZ, hh⟩ := hP
  have hx := Bd.exec
  have hby := Bd.bytes
  have hml : c.maxLocals = 2 := hml0
  have hown : s.vm.findClass "com/example/latchkey/latchkey/LockTokens" = some m.cls := findClass_of_methodNamed Bd.named
  have hnm := (name_of_methodNamed Bd.named Bd.method).1
  have X0 : Stand p l e ({ frames := 0, cells := 0, slots := 0, locals := 0 } : Room) s m #[(.ref o0_), (.int (0 : Int32))] below meth c s₁ [] 0 0 := Stand.of_body Bd
  have e0 : s₁.heap = h0 := by rw [← hh, Bd.state]; rfl
  have N0 := Fr.nil n0
  have pre0 : ∀ t, Steps p.tables e below (s₁.setTop (mkF m 0 #[.val (.ref o0_), .val (.int (0 : Int32))] [])) t → Steps p.tables e below (s₁.setTop (entryFrame m #[(.ref o0_), (.int (0 : Int32))] 2)) t := fun t k => castTop (efget39 m o0_) k
  have K0 : Keep h0 h0 [] := Keep.refl _ _
  obtain ⟨T1, X1, e1, st1⟩ := getF X0 hx hZ hown (host := "") (Or.inl (hw _ (List.mem_of_getElem? (i := 22) rfl))) Via.refl e0 P1 (g := (mkF m 2 #[.val (.ref o0_), .val (.int (0 : Int32))] [(.ref o0_), (.int (0 : Int32))])) rfl rfl (hb hby d3_2)
  obtain ⟨c2, r2, q2, s2, z2, y2, G2⟩ := id P2
  obtain ⟨T3, X3, e3, st3⟩ := getF X1 hx hZ hown (host := "") (Or.inl (hw _ (List.mem_of_getElem? (i := 22) rfl))) Via.refl e1 P1 (g := (mkF m 10 #[.val (.ref o0_), .val (.int (0 : Int32))] [(.ref o0_)])) rfl rfl (hb hby d3_10)
  obtain ⟨c4, r4, q4, s4, z4, y4, G4⟩ := id P2
  have hin4 : ¬ ((0 : Int32) < 0 ∨ c4.slots.size ≤ ((0 : Int32)).toNatClampNeg) := inb_of s4 ⟨by decide, by decide⟩
  have hat4 : c4.slots[((0 : Int32)).toNatClampNeg]? = some (.long y0_) := Has.at y4 hin4 rfl
  have pre5 : ∀ t, Steps p.tables e below (T3.setTop (mkF m 19 #[.val (.ref o0_), .val (.int (0 : Int32))] [(.long y0_)])) t → Steps p.tables e below (s₁.setTop (entryFrame m #[(.ref o0_), (.int (0 : Int32))] 2)) t := by
    intro t kt
    refine pre0 t ?_
    show Steps p.tables e below (s₁.setTop (mkF m 0 #[.val (.ref o0_), .val (.int (0 : Int32))] [])) _
    refine XS.iloadN X0.here hx rfl (hb hby d3_0) rfl ?_
    show Steps p.tables e below (s₁.setTop (mkF m 1 #[.val (.ref o0_), .val (.int (0 : Int32))] [(.int (0 : Int32))])) _
    refine XS.aloadN X0.here hx rfl (hb hby d3_1) rfl rfl ?_
    show Steps p.tables e below (s₁.setTop (mkF m 2 #[.val (.ref o0_), .val (.int (0 : Int32))] [(.ref o0_), (.int (0 : Int32))])) _
    refine st1 _ ?_
    show Steps p.tables e below (T1.setTop (mkF m 5 #[.val (.ref o0_), .val (.int (0 : Int32))] [(.ref o1_), (.int (0 : Int32))])) _
    refine X1.arraylength hx (by rw [e1]; exact r2.1) (State.isArrayOf_alike hZ.alike r2.2.1) (g := (mkF m 5 #[.val (.ref o0_), .val (.int (0 : Int32))] [(.ref o1_), (.int (0 : Int32))])) rfl rfl (hb hby d3_5) _ ?_
    rw [len_of s2 z2]
    show Steps p.tables e below (T1.setTop (mkF m 6 #[.val (.ref o0_), .val (.int (0 : Int32))] [(.int (3 : Int32)), (.int (0 : Int32))])) _
    refine XS.icmpNo X1.here hx rfl (hb hby d3_6) rfl (tlt (by decide : (0 : Int32) < (3 : Int32))).2.1 ?_
    show Steps p.tables e below (T1.setTop (mkF m 9 #[.val (.ref o0_), .val (.int (0 : Int32))] [])) _
    refine XS.aloadN X1.here hx rfl (hb hby d3_9) rfl rfl ?_
    show Steps p.tables e below (T1.setTop (mkF m 10 #[.val (.ref o0_), .val (.int (0 : Int32))] [(.ref o0_)])) _
    refine st3 _ ?_
    show Steps p.tables e below (T3.setTop (mkF m 13 #[.val (.ref o0_), .val (.int (0 : Int32))] [(.ref o1_)])) _
    refine XS.iloadN X3.here hx rfl (hb hby d3_13) rfl ?_
    show Steps p.tables e below (T3.setTop (mkF m 14 #[.val (.ref o0_), .val (.int (0 : Int32))] [(.int (0 : Int32)), (.ref o1_)])) _
    refine X3.laload hx (j := (0 : Int32)) (v := (.long y0_)) (by rw [e3]; exact r4.1) (State.isArrayOf_alike hZ.alike r4.2.1) r4.2.2 hin4 hat4 (g := (mkF m 14 #[.val (.ref o0_), .val (.int (0 : Int32))] [(.int (0 : Int32)), (.ref o1_)])) rfl rfl (hb hby d3_14) _ ?_
    show Steps p.tables e below (T3.setTop (mkF m 15 #[.val (.ref o0_), .val (.int (0 : Int32))] [(.long y0_)])) _
    refine XS.goto X3.here hx rfl (pc0 := 15) (pc' := 19) rfl (hb hby d3_15) (by decide) (by decide) ?_
    exact kt
  obtain ⟨fs, hr, hrun, hended, hW, hsame⟩ := X3.leave (v := some (.long y0_)) (fun h => by rw [Bd.returns] at h; cases h)
  refine ⟨_, _, pre5 _ (retOut X3 hx Bd.returns rfl (Or.inr (Or.inl ⟨rfl, rfl, _, rfl⟩)) (hb hby d3_19) hr), hrun, hended, _, _, rfl, ?_, ⟨_, rfl⟩, hW, hsame.mono (by decide) (by decide)⟩
  show Qget39 Z o0_ o1_ ko1_ y0_ y1_ y2_ h0 n0 _ T3.heap _
  rw [e3]
  exact ⟨rfl, N0, rfl⟩
theorem efexpected40 (m : MethodId) (y0_ : Int64) (y1_ : Int64) (y2_ : Int64) : entryFrame m #[(.int (0 : Int32)), (.int (3 : Int32)), (.long y0_), (.long y1_), (.long y2_)] 8 = mkF m 0 #[.val (.int (0 : Int32)), .val (.int (3 : Int32)), .val (.long y0_), .second, .val (.long y1_), .second, .val (.long y2_), .second] [] := by first | (simp [entryFrame, mkF, argsToLocals, Value.category]; done) | rfl
def Qexpected40 (Z : State) (y0_ : Int64) (y1_ : Int64) (y2_ : Int64) (h0 : Heap) (n0 : Nat) (v : Option Value) (h : Heap) (L : List Loc) : Prop := v = some (.long y0_) ∧ Fr n0 L ∧ h = h0
set_option maxRecDepth 65536 in
set_option maxHeartbeats 40000000 in
theorem rmexpected40 (l : Launch) (Z : State) (a0 : Array Value) (hw : ∀ d ∈ tables_1, d.before a0 Z = true) (ws : List Jvm.Cond) (y0_ : Int64) (y1_ : Int64) (y2_ : Int64) (h0 : Heap) (n0 : Nat) (O0 : Old Z n0 h0)  :
    MetFree l (⟨"com/example/latchkey/latchkey/LockTokensOfPinLaw", "expected", "(IIJJJ)J"⟩ : MethodName) (head1 (Jvm.Cond.code (⟨"com/example/latchkey/latchkey/LockTokensOfPinLaw", "expected", "(IIJJJ)J"⟩ : MethodName) method_3_code 8 (some .long) :: ws) ({ frames := 0, cells := 0, slots := 0, locals := 0 } : Room)) (fun a U => a = #[(.int (0 : Int32)), (.int (3 : Int32)), (.long y0_), (.long y1_), (.long y2_)] ∧ Z.Warmed39 U.vm ∧ U.heap = h0) (fun _ _ _ _ _ => True) (fun _ U o U' => ∃ v L, o = .returned v ∧ Qexpected40 Z y0_ y1_ y2_ h0 n0 v U'.heap L ∧ FrameEnd U o U' L ({ frames := 0, cells := 0, slots := 0, locals := 0 } : Room).cells ({ frames := 0, cells := 0, slots := 0, locals := 0 } : Room).slots) := by
  refine MetFree.of_bodySF (plainFor_of_name pn_1) hisR ?_
  intro p e s m args below meth c s₁ Bd hml0 hP hK
  obtain ⟨rfl, hZ, hh⟩ := hP
  have hx := Bd.exec
  have hby := Bd.bytes
  have hml : c.maxLocals = 8 := hml0
  have hown : s.vm.findClass "com/example/latchkey/latchkey/LockTokensOfPinLaw" = some m.cls := findClass_of_methodNamed Bd.named
  have hnm := (name_of_methodNamed Bd.named Bd.method).1
  have X0 : Stand p l e ({ frames := 0, cells := 0, slots := 0, locals := 0 } : Room) s m #[(.int (0 : Int32)), (.int (3 : Int32)), (.long y0_), (.long y1_), (.long y2_)] below meth c s₁ [] 0 0 := Stand.of_body Bd
  have e0 : s₁.heap = h0 := by rw [← hh, Bd.state]; rfl
  have N0 := Fr.nil n0
  have pre0 : ∀ t, Steps p.tables e below (s₁.setTop (mkF m 0 #[.val (.int (0 : Int32)), .val (.int (3 : Int32)), .val (.long y0_), .second, .val (.long y1_), .second, .val (.long y2_), .second] [])) t → Steps p.tables e below (s₁.setTop (entryFrame m #[(.int (0 : Int32)), (.int (3 : Int32)), (.long y0_), (.long y1_), (.long y2_)] 8)) t := fun t k => castTop (efexpected40 m y0_ y1_ y2_) k
  have K0 : Keep h0 h0 [] := Keep.refl _ _
  have pre1 : ∀ t, Steps p.tables e below (s₁.setTop (mkF m 12 #[.val (.int (0 : Int32)), .val (.int (3 : Int32)), .val (.long y0_), .second, .val (.long y1_), .second, .val (.long y2_), .second] [(.long y0_)])) t → Steps p.tables e below (s₁.setTop (entryFrame m #[(.int (0 : Int32)), (.int (3 : Int32)), (.long y0_), (.long y1_), (.long y2_)] 8)) t := by
    intro t kt
    refine pre0 t ?_
    show Steps p.tables e below (s₁.setTop (mkF m 0 #[.val (.int (0 : Int32)), .val (.int (3 : Int32)), .val (.long y0_), .second, .val (.long y1_), .second, .val (.long y2_), .second] [])) _
    refine XS.iloadN X0.here hx rfl (hb hby d4_0) rfl ?_
    show Steps p.tables e below (s₁.setTop (mkF m 1 #[.val (.int (0 : Int32)), .val (.int (3 : Int32)), .val (.long y0_), .second, .val (.long y1_), .second, .val (.long y2_), .second] [(.int (0 : Int32))])) _
    refine XS.iloadN X0.here hx rfl (hb hby d4_1) rfl ?_
    show Steps p.tables e below (s₁.setTop (mkF m 2 #[.val (.int (0 : Int32)), .val (.int (3 : Int32)), .val (.long y0_), .second, .val (.long y1_), .second, .val (.long y2_), .second] [(.int (3 : Int32)), (.int (0 : Int32))])) _
    refine XS.icmpYes X0.here hx rfl (pc0 := 2) (pc' := 7) rfl (hb hby d4_2) rfl (tlt (by decide : (0 : Int32) < (3 : Int32))).1 (by decide) (by decide) ?_
    show Steps p.tables e below (s₁.setTop (mkF m 7 #[.val (.int (0 : Int32)), .val (.int (3 : Int32)), .val (.long y0_), .second, .val (.long y1_), .second, .val (.long y2_), .second] [])) _
    refine XS.iloadN X0.here hx rfl (hb hby d4_7) rfl ?_
    show Steps p.tables e below (s₁.setTop (mkF m 8 #[.val (.int (0 : Int32)), .val (.int (3 : Int32)), .val (.long y0_), .second, .val (.long y1_), .second, .val (.long y2_), .second] [(.int (0 : Int32))])) _
    refine XS.ifNo X0.here hx rfl (hb hby d4_8) rfl ((if0 _ _).trans (teq (by decide : (0 : Int32) = (0 : Int32))).2) ?_
    show Steps p.tables e below (s₁.setTop (mkF m 11 #[.val (.int (0 : Int32)), .val (.int (3 : Int32)), .val (.long y0_), .second, .val (.long y1_), .second, .val (.long y2_), .second] [])) _
    refine XS.lloadN X0.here hx rfl (hb hby d4_11) rfl ?_
    exact kt
  obtain ⟨fs, hr, hrun, hended, hW, hsame⟩ := X0.leave (v := some (.long y0_)) (fun h => by rw [Bd.returns] at h; cases h)
  refine ⟨_, _, pre1 _ (retOut X0 hx Bd.returns rfl (Or.inr (Or.inl ⟨rfl, rfl, _, rfl⟩)) (hb hby d4_12) hr), hrun, hended, _, _, rfl, ?_, ⟨_, rfl⟩, hW, hsame.mono (by decide) (by decide)⟩
  show Qexpected40 Z y0_ y1_ y2_ h0 n0 _ s₁.heap _
  rw [e0]
  exact ⟨rfl, N0, rfl⟩
theorem efget41 (m : MethodId) (o0_ : Addr) : entryFrame m #[(.ref o0_), (.int (1 : Int32))] 2 = mkF m 0 #[.val (.ref o0_), .val (.int (1 : Int32))] [] := by first | (simp [entryFrame, mkF, argsToLocals, Value.category]; done) | rfl
def Qget41 (Z : State) (o0_ : Addr) (o1_ : Addr) (ko1_ : ClassId) (y0_ : Int64) (y1_ : Int64) (y2_ : Int64) (h0 : Heap) (n0 : Nat) (v : Option Value) (h : Heap) (L : List Loc) : Prop := v = some (.long y1_) ∧ Fr n0 L ∧ h = h0
set_option maxRecDepth 65536 in
set_option maxHeartbeats 40000000 in
theorem rmget41 (l : Launch) (Z : State) (a0 : Array Value) (hw : ∀ d ∈ tables_1, d.before a0 Z = true) (ws : List Jvm.Cond) (o0_ : Addr) (o1_ : Addr) (ko1_ : ClassId) (y0_ : Int64) (y1_ : Int64) (y2_ : Int64) (h0 : Heap) (n0 : Nat) (O0 : Old Z n0 h0) (P0 : Exa Z h0 o0_ "com/example/latchkey/latchkey/LockTokens") (P1 : Fld Z h0 o0_ "com/example/latchkey/latchkey/LockTokens" "tokens" "[J" (.ref o1_)) (P2 : Arv Z h0 o1_ ko1_ .long (3 : Int32) [(.long y0_), (.long y1_), (.long y2_)] (.long (0 : Int64))) (P3 : Exa Z h0 o1_ "[J") :
    MetFree l (⟨"com/example/latchkey/latchkey/LockTokens", "get", "(I)J"⟩ : MethodName) (head1 (Jvm.Cond.code (⟨"com/example/latchkey/latchkey/LockTokens", "get", "(I)J"⟩ : MethodName) prog_31_method_3_code 2 (some .long) :: ws) ({ frames := 0, cells := 0, slots := 0, locals := 0 } : Room)) (fun a U => a = #[(.ref o0_), (.int (1 : Int32))] ∧ Z.Warmed39 U.vm ∧ U.heap = h0) (fun _ _ _ _ _ => True) (fun _ U o U' => ∃ v L, o = .returned v ∧ Qget41 Z o0_ o1_ ko1_ y0_ y1_ y2_ h0 n0 v U'.heap L ∧ FrameEnd U o U' L ({ frames := 0, cells := 0, slots := 0, locals := 0 } : Room).cells ({ frames := 0, cells := 0, slots := 0, locals := 0 } : Room).slots) := by
  refine MetFree.of_bodySF (plainFor_of_name pn_0) hisR ?_
  intro p e s m args below meth c s₁ Bd hml0 hP hK
  obtain ⟨rfl, hZ, hh⟩ := hP
  have hx := Bd.exec
  have hby := Bd.bytes
  have hml : c.maxLocals = 2 := hml0
  have hown : s.vm.findClass "com/example/latchkey/latchkey/LockTokens" = some m.cls := findClass_of_methodNamed Bd.named
  have hnm := (name_of_methodNamed Bd.named Bd.method).1
  have X0 : Stand p l e ({ frames := 0, cells := 0, slots := 0, locals := 0 } : Room) s m #[(.ref o0_), (.int (1 : Int32))] below meth c s₁ [] 0 0 := Stand.of_body Bd
  have e0 : s₁.heap = h0 := by rw [← hh, Bd.state]; rfl
  have N0 := Fr.nil n0
  have pre0 : ∀ t, Steps p.tables e below (s₁.setTop (mkF m 0 #[.val (.ref o0_), .val (.int (1 : Int32))] [])) t → Steps p.tables e below (s₁.setTop (entryFrame m #[(.ref o0_), (.int (1 : Int32))] 2)) t := fun t k => castTop (efget41 m o0_) k
  have K0 : Keep h0 h0 [] := Keep.refl _ _
  obtain ⟨T1, X1, e1, st1⟩ := getF X0 hx hZ hown (host := "") (Or.inl (hw _ (List.mem_of_getElem? (i := 22) rfl))) Via.refl e0 P1 (g := (mkF m 2 #[.val (.ref o0_), .val (.int (1 : Int32))] [(.ref o0_), (.int (1 : Int32))])) rfl rfl (hb hby d3_2)
  obtain ⟨c2, r2, q2, s2, z2, y2, G2⟩ := id P2
  obtain ⟨T3, X3, e3, st3⟩ := getF X1 hx hZ hown (host := "") (Or.inl (hw _ (List.mem_of_getElem? (i := 22) rfl))) Via.refl e1 P1 (g := (mkF m 10 #[.val (.ref o0_), .val (.int (1 : Int32))] [(.ref o0_)])) rfl rfl (hb hby d3_10)
  obtain ⟨c4, r4, q4, s4, z4, y4, G4⟩ := id P2
  have hin4 : ¬ ((1 : Int32) < 0 ∨ c4.slots.size ≤ ((1 : Int32)).toNatClampNeg) := inb_of s4 ⟨by decide, by decide⟩
  have hat4 : c4.slots[((1 : Int32)).toNatClampNeg]? = some (.long y1_) := Has.at y4 hin4 rfl
  have pre5 : ∀ t, Steps p.tables e below (T3.setTop (mkF m 19 #[.val (.ref o0_), .val (.int (1 : Int32))] [(.long y1_)])) t → Steps p.tables e below (s₁.setTop (entryFrame m #[(.ref o0_), (.int (1 : Int32))] 2)) t := by
    intro t kt
    refine pre0 t ?_
    show Steps p.tables e below (s₁.setTop (mkF m 0 #[.val (.ref o0_), .val (.int (1 : Int32))] [])) _
    refine XS.iloadN X0.here hx rfl (hb hby d3_0) rfl ?_
    show Steps p.tables e below (s₁.setTop (mkF m 1 #[.val (.ref o0_), .val (.int (1 : Int32))] [(.int (1 : Int32))])) _
    refine XS.aloadN X0.here hx rfl (hb hby d3_1) rfl rfl ?_
    show Steps p.tables e below (s₁.setTop (mkF m 2 #[.val (.ref o0_), .val (.int (1 : Int32))] [(.ref o0_), (.int (1 : Int32))])) _
    refine st1 _ ?_
    show Steps p.tables e below (T1.setTop (mkF m 5 #[.val (.ref o0_), .val (.int (1 : Int32))] [(.ref o1_), (.int (1 : Int32))])) _
    refine X1.arraylength hx (by rw [e1]; exact r2.1) (State.isArrayOf_alike hZ.alike r2.2.1) (g := (mkF m 5 #[.val (.ref o0_), .val (.int (1 : Int32))] [(.ref o1_), (.int (1 : Int32))])) rfl rfl (hb hby d3_5) _ ?_
    rw [len_of s2 z2]
    show Steps p.tables e below (T1.setTop (mkF m 6 #[.val (.ref o0_), .val (.int (1 : Int32))] [(.int (3 : Int32)), (.int (1 : Int32))])) _
    refine XS.icmpNo X1.here hx rfl (hb hby d3_6) rfl (tlt (by decide : (1 : Int32) < (3 : Int32))).2.1 ?_
    show Steps p.tables e below (T1.setTop (mkF m 9 #[.val (.ref o0_), .val (.int (1 : Int32))] [])) _
    refine XS.aloadN X1.here hx rfl (hb hby d3_9) rfl rfl ?_
    show Steps p.tables e below (T1.setTop (mkF m 10 #[.val (.ref o0_), .val (.int (1 : Int32))] [(.ref o0_)])) _
    refine st3 _ ?_
    show Steps p.tables e below (T3.setTop (mkF m 13 #[.val (.ref o0_), .val (.int (1 : Int32))] [(.ref o1_)])) _
    refine XS.iloadN X3.here hx rfl (hb hby d3_13) rfl ?_
    show Steps p.tables e below (T3.setTop (mkF m 14 #[.val (.ref o0_), .val (.int (1 : Int32))] [(.int (1 : Int32)), (.ref o1_)])) _
    refine X3.laload hx (j := (1 : Int32)) (v := (.long y1_)) (by rw [e3]; exact r4.1) (State.isArrayOf_alike hZ.alike r4.2.1) r4.2.2 hin4 hat4 (g := (mkF m 14 #[.val (.ref o0_), .val (.int (1 : Int32))] [(.int (1 : Int32)), (.ref o1_)])) rfl rfl (hb hby d3_14) _ ?_
    show Steps p.tables e below (T3.setTop (mkF m 15 #[.val (.ref o0_), .val (.int (1 : Int32))] [(.long y1_)])) _
    refine XS.goto X3.here hx rfl (pc0 := 15) (pc' := 19) rfl (hb hby d3_15) (by decide) (by decide) ?_
    exact kt
  obtain ⟨fs, hr, hrun, hended, hW, hsame⟩ := X3.leave (v := some (.long y1_)) (fun h => by rw [Bd.returns] at h; cases h)
  refine ⟨_, _, pre5 _ (retOut X3 hx Bd.returns rfl (Or.inr (Or.inl ⟨rfl, rfl, _, rfl⟩)) (hb hby d3_19) hr), hrun, hended, _, _, rfl, ?_, ⟨_, rfl⟩, hW, hsame.mono (by decide) (by decide)⟩
  show Qget41 Z o0_ o1_ ko1_ y0_ y1_ y2_ h0 n0 _ T3.heap _
  rw [e3]
  exact ⟨rfl, N0, rfl⟩
theorem efexpected42 (m : MethodId) (y0_ : Int64) (y1_ : Int64) (y2_ : Int64) : entryFrame m #[(.int (1 : Int32)), (.int (3 : Int32)), (.long y0_), (.long y1_), (.long y2_)] 8 = mkF m 0 #[.val (.int (1 : Int32)), .val (.int (3 : Int32)), .val (.long y0_), .second, .val (.long y1_), .second, .val (.long y2_), .second] [] := by first | (simp [entryFrame, mkF, argsToLocals, Value.category]; done) | rfl
def Qexpected42 (Z : State) (y0_ : Int64) (y1_ : Int64) (y2_ : Int64) (h0 : Heap) (n0 : Nat) (v : Option Value) (h : Heap) (L : List Loc) : Prop := v = some (.long y1_) ∧ Fr n0 L ∧ h = h0
set_option maxRecDepth 65536 in
set_option maxHeartbeats 40000000 in
theorem rmexpected42 (l : Launch) (Z : State) (a0 : Array Value) (hw : ∀ d ∈ tables_1, d.before a0 Z = true) (ws : List Jvm.Cond) (y0_ : Int64) (y1_ : Int64) (y2_ : Int64) (h0 : Heap) (n0 : Nat) (O0 : Old Z n0 h0)  :
    MetFree l (⟨"com/example/latchkey/latchkey/LockTokensOfPinLaw", "expected", "(IIJJJ)J"⟩ : MethodName) (head1 (Jvm.Cond.code (⟨"com/example/latchkey/latchkey/LockTokensOfPinLaw", "expected", "(IIJJJ)J"⟩ : MethodName) method_3_code 8 (some .long) :: ws) ({ frames := 0, cells := 0, slots := 0, locals := 0 } : Room)) (fun a U => a = #[(.int (1 : Int32)), (.int (3 : Int32)), (.long y0_), (.long y1_), (.long y2_)] ∧ Z.Warmed39 U.vm ∧ U.heap = h0) (fun _ _ _ _ _ => True) (fun _ U o U' => ∃ v L, o = .returned v ∧ Qexpected42 Z y0_ y1_ y2_ h0 n0 v U'.heap L ∧ FrameEnd U o U' L ({ frames := 0, cells := 0, slots := 0, locals := 0 } : Room).cells ({ frames := 0, cells := 0, slots := 0, locals := 0 } : Room).slots) := by
  refine MetFree.of_bodySF (plainFor_of_name pn_1) hisR ?_
  intro p e s m args below meth c s₁ Bd hml0 hP hK
  obtain ⟨rfl, hZ, hh⟩ := hP
  have hx := Bd.exec
  have hby := Bd.bytes
  have hml : c.maxLocals = 8 := hml0
  have hown : s.vm.findClass "com/example/latchkey/latchkey/LockTokensOfPinLaw" = some m.cls := findClass_of_methodNamed Bd.named
  have hnm := (name_of_methodNamed Bd.named Bd.method).1
  have X0 : Stand p l e ({ frames := 0, cells := 0, slots := 0, locals := 0 } : Room) s m #[(.int (1 : Int32)), (.int (3 : Int32)), (.long y0_), (.long y1_), (.long y2_)] below meth c s₁ [] 0 0 := Stand.of_body Bd
  have e0 : s₁.heap = h0 := by rw [← hh, Bd.state]; rfl
  have N0 := Fr.nil n0
  have pre0 : ∀ t, Steps p.tables e below (s₁.setTop (mkF m 0 #[.val (.int (1 : Int32)), .val (.int (3 : Int32)), .val (.long y0_), .second, .val (.long y1_), .second, .val (.long y2_), .second] [])) t → Steps p.tables e below (s₁.setTop (entryFrame m #[(.int (1 : Int32)), (.int (3 : Int32)), (.long y0_), (.long y1_), (.long y2_)] 8)) t := fun t k => castTop (efexpected42 m y0_ y1_ y2_) k
  have K0 : Keep h0 h0 [] := Keep.refl _ _
  have pre1 : ∀ t, Steps p.tables e below (s₁.setTop (mkF m 20 #[.val (.int (1 : Int32)), .val (.int (3 : Int32)), .val (.long y0_), .second, .val (.long y1_), .second, .val (.long y2_), .second] [(.long y1_)])) t → Steps p.tables e below (s₁.setTop (entryFrame m #[(.int (1 : Int32)), (.int (3 : Int32)), (.long y0_), (.long y1_), (.long y2_)] 8)) t := by
    intro t kt
    refine pre0 t ?_
    show Steps p.tables e below (s₁.setTop (mkF m 0 #[.val (.int (1 : Int32)), .val (.int (3 : Int32)), .val (.long y0_), .second, .val (.long y1_), .second, .val (.long y2_), .second] [])) _
    refine XS.iloadN X0.here hx rfl (hb hby d4_0) rfl ?_
    show Steps p.tables e below (s₁.setTop (mkF m 1 #[.val (.int (1 : Int32)), .val (.int (3 : Int32)), .val (.long y0_), .second, .val (.long y1_), .second, .val (.long y2_), .second] [(.int (1 : Int32))])) _
    refine XS.iloadN X0.here hx rfl (hb hby d4_1) rfl ?_
    show Steps p.tables e below (s₁.setTop (mkF m 2 #[.val (.int (1 : Int32)), .val (.int (3 : Int32)), .val (.long y0_), .second, .val (.long y1_), .second, .val (.long y2_), .second] [(.int (3 : Int32)), (.int (1 : Int32))])) _
    refine XS.icmpYes X0.here hx rfl (pc0 := 2) (pc' := 7) rfl (hb hby d4_2) rfl (tlt (by decide : (1 : Int32) < (3 : Int32))).1 (by decide) (by decide) ?_
    show Steps p.tables e below (s₁.setTop (mkF m 7 #[.val (.int (1 : Int32)), .val (.int (3 : Int32)), .val (.long y0_), .second, .val (.long y1_), .second, .val (.long y2_), .second] [])) _
    refine XS.iloadN X0.here hx rfl (hb hby d4_7) rfl ?_
    show Steps p.tables e below (s₁.setTop (mkF m 8 #[.val (.int (1 : Int32)), .val (.int (3 : Int32)), .val (.long y0_), .second, .val (.long y1_), .second, .val (.long y2_), .second] [(.int (1 : Int32))])) _
    refine XS.ifYes X0.here hx rfl (pc0 := 8) (pc' := 13) rfl (hb hby d4_8) rfl ((if0 _ _).trans (feq (by decide : ¬ ((1 : Int32) = (0 : Int32)))).2) (by decide) (by decide) ?_
    show Steps p.tables e below (s₁.setTop (mkF m 13 #[.val (.int (1 : Int32)), .val (.int (3 : Int32)), .val (.long y0_), .second, .val (.long y1_), .second, .val (.long y2_), .second] [])) _
    refine XS.iloadN X0.here hx rfl (hb hby d4_13) rfl ?_
    show Steps p.tables e below (s₁.setTop (mkF m 14 #[.val (.int (1 : Int32)), .val (.int (3 : Int32)), .val (.long y0_), .second, .val (.long y1_), .second, .val (.long y2_), .second] [(.int (1 : Int32))])) _
    refine XS.iconst X0.here hx rfl (hb hby d4_14) ?_
    show Steps p.tables e below (s₁.setTop (mkF m 15 #[.val (.int (1 : Int32)), .val (.int (3 : Int32)), .val (.long y0_), .second, .val (.long y1_), .second, .val (.long y2_), .second] [(.int (1 : Int32)), (.int (1 : Int32))])) _
    refine XS.icmpNo X0.here hx rfl (hb hby d4_15) rfl (teq (by decide : (1 : Int32) = (1 : Int32))).2 ?_
    show Steps p.tables e below (s₁.setTop (mkF m 18 #[.val (.int (1 : Int32)), .val (.int (3 : Int32)), .val (.long y0_), .second, .val (.long y1_), .second, .val (.long y2_), .second] [])) _
    refine XS.lload X0.here hx rfl (hb hby d4_18) rfl ?_
    exact kt
  obtain ⟨fs, hr, hrun, hended, hW, hsame⟩ := X0.leave (v := some (.long y1_)) (fun h => by rw [Bd.returns] at h; cases h)
  refine ⟨_, _, pre1 _ (retOut X0 hx Bd.returns rfl (Or.inr (Or.inl ⟨rfl, rfl, _, rfl⟩)) (hb hby d4_20) hr), hrun, hended, _, _, rfl, ?_, ⟨_, rfl⟩, hW, hsame.mono (by decide) (by decide)⟩
  show Qexpected42 Z y0_ y1_ y2_ h0 n0 _ s₁.heap _
  rw [e0]
  exact ⟨rfl, N0, rfl⟩
theorem efget43 (m : MethodId) (o0_ : Addr) : entryFrame m #[(.ref o0_), (.int (2 : Int32))] 2 = mkF m 0 #[.val (.ref o0_), .val (.int (2 : Int32))] [] := by first | (simp [entryFrame, mkF, argsToLocals, Value.category]; done) | rfl
def Qget43 (Z : State) (o0_ : Addr) (o1_ : Addr) (ko1_ : ClassId) (y0_ : Int64) (y1_ : Int64) (y2_ : Int64) (h0 : Heap) (n0 : Nat) (v : Option Value) (h : Heap) (L : List Loc) : Prop := v = some (.long y2_) ∧ Fr n0 L ∧ h = h0
set_option maxRecDepth 65536 in
set_option maxHeartbeats 40000000 in
theorem rmget43 (l : Launch) (Z : State) (a0 : Array Value) (hw : ∀ d ∈ tables_1, d.before a0 Z = true) (ws : List Jvm.Cond) (o0_ : Addr) (o1_ : Addr) (ko1_ : ClassId) (y0_ : Int64) (y1_ : Int64) (y2_ : Int64) (h0 : Heap) (n0 : Nat) (O0 : Old Z n0 h0) (P0 : Exa Z h0 o0_ "com/example/latchkey/latchkey/LockTokens") (P1 : Fld Z h0 o0_ "com/example/latchkey/latchkey/LockTokens" "tokens" "[J" (.ref o1_)) (P2 : Arv Z h0 o1_ ko1_ .long (3 : Int32) [(.long y0_), (.long y1_), (.long y2_)] (.long (0 : Int64))) (P3 : Exa Z h0 o1_ "[J") :
    MetFree l (⟨"com/example/latchkey/latchkey/LockTokens", "get", "(I)J"⟩ : MethodName) (head1 (Jvm.Cond.code (⟨"com/example/latchkey/latchkey/LockTokens", "get", "(I)J"⟩ : MethodName) prog_31_method_3_code 2 (some .long) :: ws) ({ frames := 0, cells := 0, slots := 0, locals := 0 } : Room)) (fun a U => a = #[(.ref o0_), (.int (2 : Int32))] ∧ Z.Warmed39 U.vm ∧ U.heap = h0) (fun _ _ _ _ _ => True) (fun _ U o U' => ∃ v L, o = .returned v ∧ Qget43 Z o0_ o1_ ko1_ y0_ y1_ y2_ h0 n0 v U'.heap L ∧ FrameEnd U o U' L ({ frames := 0, cells := 0, slots := 0, locals := 0 } : Room).cells ({ frames := 0, cells := 0, slots := 0, locals := 0 } : Room).slots) := by
  refine MetFree.of_bodySF (plainFor_of_name pn_0) hisR ?_
  intro p e s m args below meth c s₁ Bd hml0 hP hK
  obtain ⟨rfl, hZ, hh⟩ := hP
  have hx := Bd.exec
  have hby := Bd.bytes
  have hml : c.maxLocals = 2 := hml0
  have hown : s.vm.findClass "com/example/latchkey/latchkey/LockTokens" = some m.cls := findClass_of_methodNamed Bd.named
  have hnm := (name_of_methodNamed Bd.named Bd.method).1
  have X0 : Stand p l e ({ frames := 0, cells := 0, slots := 0, locals := 0 } : Room) s m #[(.ref o0_), (.int (2 : Int32))] below meth c s₁ [] 0 0 := Stand.of_body Bd
  have e0 : s₁.heap = h0 := by rw [← hh, Bd.state]; rfl
  have N0 := Fr.nil n0
  have pre0 : ∀ t, Steps p.tables e below (s₁.setTop (mkF m 0 #[.val (.ref o0_), .val (.int (2 : Int32))] [])) t → Steps p.tables e below (s₁.setTop (entryFrame m #[(.ref o0_), (.int (2 : Int32))] 2)) t := fun t k => castTop (efget43 m o0_) k
  have K0 : Keep h0 h0 [] := Keep.refl _ _
  obtain ⟨T1, X1, e1, st1⟩ := getF X0 hx hZ hown (host := "") (Or.inl (hw _ (List.mem_of_getElem? (i := 22) rfl))) Via.refl e0 P1 (g := (mkF m 2 #[.val (.ref o0_), .val (.int (2 : Int32))] [(.ref o0_), (.int (2 : Int32))])) rfl rfl (hb hby d3_2)
  obtain ⟨c2, r2, q2, s2, z2, y2, G2⟩ := id P2
  obtain ⟨T3, X3, e3, st3⟩ := getF X1 hx hZ hown (host := "") (Or.inl (hw _ (List.mem_of_getElem? (i := 22) rfl))) Via.refl e1 P1 (g := (mkF m 10 #[.val (.ref o0_), .val (.int (2 : Int32))] [(.ref o0_)])) rfl rfl (hb hby d3_10)
  obtain ⟨c4, r4, q4, s4, z4, y4, G4⟩ := id P2
  have hin4 : ¬ ((2 : Int32) < 0 ∨ c4.slots.size ≤ ((2 : Int32)).toNatClampNeg) := inb_of s4 ⟨by decide, by decide⟩
  have hat4 : c4.slots[((2 : Int32)).toNatClampNeg]? = some (.long y2_) := Has.at y4 hin4 rfl
  have pre5 : ∀ t, Steps p.tables e below (T3.setTop (mkF m 19 #[.val (.ref o0_), .val (.int (2 : Int32))] [(.long y2_)])) t → Steps p.tables e below (s₁.setTop (entryFrame m #[(.ref o0_), (.int (2 : Int32))] 2)) t := by
    intro t kt
    refine pre0 t ?_
    show Steps p.tables e below (s₁.setTop (mkF m 0 #[.val (.ref o0_), .val (.int (2 : Int32))] [])) _
    refine XS.iloadN X0.here hx rfl (hb hby d3_0) rfl ?_
    show Steps p.tables e below (s₁.setTop (mkF m 1 #[.val (.ref o0_), .val (.int (2 : Int32))] [(.int (2 : Int32))])) _
    refine XS.aloadN X0.here hx rfl (hb hby d3_1) rfl rfl ?_
    show Steps p.tables e below (s₁.setTop (mkF m 2 #[.val (.ref o0_), .val (.int (2 : Int32))] [(.ref o0_), (.int (2 : Int32))])) _
    refine st1 _ ?_
    show Steps p.tables e below (T1.setTop (mkF m 5 #[.val (.ref o0_), .val (.int (2 : Int32))] [(.ref o1_), (.int (2 : Int32))])) _
    refine X1.arraylength hx (by rw [e1]; exact r2.1) (State.isArrayOf_alike hZ.alike r2.2.1) (g := (mkF m 5 #[.val (.ref o0_), .val (.int (2 : Int32))] [(.ref o1_), (.int (2 : Int32))])) rfl rfl (hb hby d3_5) _ ?_
    rw [len_of s2 z2]
    show Steps p.tables e below (T1.setTop (mkF m 6 #[.val (.ref o0_), .val (.int (2 : Int32))] [(.int (3 : Int32)), (.int (2 : Int32))])) _
    refine XS.icmpNo X1.here hx rfl (hb hby d3_6) rfl (tlt (by decide : (2 : Int32) < (3 : Int32))).2.1 ?_
    show Steps p.tables e below (T1.setTop (mkF m 9 #[.val (.ref o0_), .val (.int (2 : Int32))] [])) _
    refine XS.aloadN X1.here hx rfl (hb hby d3_9) rfl rfl ?_
    show Steps p.tables e below (T1.setTop (mkF m 10 #[.val (.ref o0_), .val (.int (2 : Int32))] [(.ref o0_)])) _
    refine st3 _ ?_
    show Steps p.tables e below (T3.setTop (mkF m 13 #[.val (.ref o0_), .val (.int (2 : Int32))] [(.ref o1_)])) _
    refine XS.iloadN X3.here hx rfl (hb hby d3_13) rfl ?_
    show Steps p.tables e below (T3.setTop (mkF m 14 #[.val (.ref o0_), .val (.int (2 : Int32))] [(.int (2 : Int32)), (.ref o1_)])) _
    refine X3.laload hx (j := (2 : Int32)) (v := (.long y2_)) (by rw [e3]; exact r4.1) (State.isArrayOf_alike hZ.alike r4.2.1) r4.2.2 hin4 hat4 (g := (mkF m 14 #[.val (.ref o0_), .val (.int (2 : Int32))] [(.int (2 : Int32)), (.ref o1_)])) rfl rfl (hb hby d3_14) _ ?_
    show Steps p.tables e below (T3.setTop (mkF m 15 #[.val (.ref o0_), .val (.int (2 : Int32))] [(.long y2_)])) _
    refine XS.goto X3.here hx rfl (pc0 := 15) (pc' := 19) rfl (hb hby d3_15) (by decide) (by decide) ?_
    exact kt
  obtain ⟨fs, hr, hrun, hended, hW, hsame⟩ := X3.leave (v := some (.long y2_)) (fun h => by rw [Bd.returns] at h; cases h)
  refine ⟨_, _, pre5 _ (retOut X3 hx Bd.returns rfl (Or.inr (Or.inl ⟨rfl, rfl, _, rfl⟩)) (hb hby d3_19) hr), hrun, hended, _, _, rfl, ?_, ⟨_, rfl⟩, hW, hsame.mono (by decide) (by decide)⟩
  show Qget43 Z o0_ o1_ ko1_ y0_ y1_ y2_ h0 n0 _ T3.heap _
  rw [e3]
  exact ⟨rfl, N0, rfl⟩
theorem efexpected44 (m : MethodId) (y0_ : Int64) (y1_ : Int64) (y2_ : Int64) : entryFrame m #[(.int (2 : Int32)), (.int (3 : Int32)), (.long y0_), (.long y1_), (.long y2_)] 8 = mkF m 0 #[.val (.int (2 : Int32)), .val (.int (3 : Int32)), .val (.long y0_), .second, .val (.long y1_), .second, .val (.long y2_), .second] [] := by first | (simp [entryFrame, mkF, argsToLocals, Value.category]; done) | rfl
def Qexpected44 (Z : State) (y0_ : Int64) (y1_ : Int64) (y2_ : Int64) (h0 : Heap) (n0 : Nat) (v : Option Value) (h : Heap) (L : List Loc) : Prop := v = some (.long y2_) ∧ Fr n0 L ∧ h = h0
set_option maxRecDepth 65536 in
set_option maxHeartbeats 40000000 in
theorem rmexpected44 (l : Launch) (Z : State) (a0 : Array Value) (hw : ∀ d ∈ tables_1, d.before a0 Z = true) (ws : List Jvm.Cond) (y0_ : Int64) (y1_ : Int64) (y2_ : Int64) (h0 : Heap) (n0 : Nat) (O0 : Old Z n0 h0)  :
    MetFree l (⟨"com/example/latchkey/latchkey/LockTokensOfPinLaw", "expected", "(IIJJJ)J"⟩ : MethodName) (head1 (Jvm.Cond.code (⟨"com/example/latchkey/latchkey/LockTokensOfPinLaw", "expected", "(IIJJJ)J"⟩ : MethodName) method_3_code 8 (some .long) :: ws) ({ frames := 0, cells := 0, slots := 0, locals := 0 } : Room)) (fun a U => a = #[(.int (2 : Int32)), (.int (3 : Int32)), (.long y0_), (.long y1_), (.long y2_)] ∧ Z.Warmed39 U.vm ∧ U.heap = h0) (fun _ _ _ _ _ => True) (fun _ U o U' => ∃ v L, o = .returned v ∧ Qexpected44 Z y0_ y1_ y2_ h0 n0 v U'.heap L ∧ FrameEnd U o U' L ({ frames := 0, cells := 0, slots := 0, locals := 0 } : Room).cells ({ frames := 0, cells := 0, slots := 0, locals := 0 } : Room).slots) := by
  refine MetFree.of_bodySF (plainFor_of_name pn_1) hisR ?_
  intro p e s m args below meth c s₁ Bd hml0 hP hK
  obtain ⟨rfl, hZ, hh⟩ := hP
  have hx := Bd.exec
  have hby := Bd.bytes
  have hml : c.maxLocals = 8 := hml0
  have hown : s.vm.findClass "com/example/latchkey/latchkey/LockTokensOfPinLaw" = some m.cls := findClass_of_methodNamed Bd.named
  have hnm := (name_of_methodNamed Bd.named Bd.method).1
  have X0 : Stand p l e ({ frames := 0, cells := 0, slots := 0, locals := 0 } : Room) s m #[(.int (2 : Int32)), (.int (3 : Int32)), (.long y0_), (.long y1_), (.long y2_)] below meth c s₁ [] 0 0 := Stand.of_body Bd
  have e0 : s₁.heap = h0 := by rw [← hh, Bd.state]; rfl
  have N0 := Fr.nil n0
  have pre0 : ∀ t, Steps p.tables e below (s₁.setTop (mkF m 0 #[.val (.int (2 : Int32)), .val (.int (3 : Int32)), .val (.long y0_), .second, .val (.long y1_), .second, .val (.long y2_), .second] [])) t → Steps p.tables e below (s₁.setTop (entryFrame m #[(.int (2 : Int32)), (.int (3 : Int32)), (.long y0_), (.long y1_), (.long y2_)] 8)) t := fun t k => castTop (efexpected44 m y0_ y1_ y2_) k
  have K0 : Keep h0 h0 [] := Keep.refl _ _
  have pre1 : ∀ t, Steps p.tables e below (s₁.setTop (mkF m 23 #[.val (.int (2 : Int32)), .val (.int (3 : Int32)), .val (.long y0_), .second, .val (.long y1_), .second, .val (.long y2_), .second] [(.long y2_)])) t → Steps p.tables e below (s₁.setTop (entryFrame m #[(.int (2 : Int32)), (.int (3 : Int32)), (.long y0_), (.long y1_), (.long y2_)] 8)) t := by
    intro t kt
    refine pre0 t ?_
    show Steps p.tables e below (s₁.setTop (mkF m 0 #[.val (.int (2 : Int32)), .val (.int (3 : Int32)), .val (.long y0_), .second, .val (.long y1_), .second, .val (.long y2_), .second] [])) _
    refine XS.iloadN X0.here hx rfl (hb hby d4_0) rfl ?_
    show Steps p.tables e below (s₁.setTop (mkF m 1 #[.val (.int (2 : Int32)), .val (.int (3 : Int32)), .val (.long y0_), .second, .val (.long y1_), .second, .val (.long y2_), .second] [(.int (2 : Int32))])) _
    refine XS.iloadN X0.here hx rfl (hb hby d4_1) rfl ?_
    show Steps p.tables e below (s₁.setTop (mkF m 2 #[.val (.int (2 : Int32)), .val (.int (3 : Int32)), .val (.long y0_), .second, .val (.long y1_), .second, .val (.long y2_), .second] [(.int (3 : Int32)), (.int (2 : Int32))])) _
    refine XS.icmpYes X0.here hx rfl (pc0 := 2) (pc' := 7) rfl (hb hby d4_2) rfl (tlt (by decide : (2 : Int32) < (3 : Int32))).1 (by decide) (by decide) ?_
    show Steps p.tables e below (s₁.setTop (mkF m 7 #[.val (.int (2 : Int32)), .val (.int (3 : Int32)), .val (.long y0_), .second, .val (.long y1_), .second, .val (.long y2_), .second] [])) _
    refine XS.iloadN X0.here hx rfl (hb hby d4_7) rfl ?_
    show Steps p.tables e below (s₁.setTop (mkF m 8 #[.val (.int (2 : Int32)), .val (.int (3 : Int32)), .val (.long y0_), .second, .val (.long y1_), .second, .val (.long y2_), .second] [(.int (2 : Int32))])) _
    refine XS.ifYes X0.here hx rfl (pc0 := 8) (pc' := 13) rfl (hb hby d4_8) rfl ((if0 _ _).trans (feq (by decide : ¬ ((2 : Int32) = (0 : Int32)))).2) (by decide) (by decide) ?_
    show Steps p.tables e below (s₁.setTop (mkF m 13 #[.val (.int (2 : Int32)), .val (.int (3 : Int32)), .val (.long y0_), .second, .val (.long y1_), .second, .val (.long y2_), .second] [])) _
    refine XS.iloadN X0.here hx rfl (hb hby d4_13) rfl ?_
    show Steps p.tables e below (s₁.setTop (mkF m 14 #[.val (.int (2 : Int32)), .val (.int (3 : Int32)), .val (.long y0_), .second, .val (.long y1_), .second, .val (.long y2_), .second] [(.int (2 : Int32))])) _
    refine XS.iconst X0.here hx rfl (hb hby d4_14) ?_
    show Steps p.tables e below (s₁.setTop (mkF m 15 #[.val (.int (2 : Int32)), .val (.int (3 : Int32)), .val (.long y0_), .second, .val (.long y1_), .second, .val (.long y2_), .second] [(.int (1 : Int32)), (.int (2 : Int32))])) _
    refine XS.icmpYes X0.here hx rfl (pc0 := 15) (pc' := 21) rfl (hb hby d4_15) rfl (feq (by decide : ¬ ((2 : Int32) = (1 : Int32)))).2 (by decide) (by decide) ?_
    show Steps p.tables e below (s₁.setTop (mkF m 21 #[.val (.int (2 : Int32)), .val (.int (3 : Int32)), .val (.long y0_), .second, .val (.long y1_), .second, .val (.long y2_), .second] [])) _
    refine XS.lload X0.here hx rfl (hb hby d4_21) rfl ?_
    exact kt
  obtain ⟨fs, hr, hrun, hended, hW, hsame⟩ := X0.leave (v := some (.long y2_)) (fun h => by rw [Bd.returns] at h; cases h)
  refine ⟨_, _, pre1 _ (retOut X0 hx Bd.returns rfl (Or.inr (Or.inl ⟨rfl, rfl, _, rfl⟩)) (hb hby d4_23) hr), hrun, hended, _, _, rfl, ?_, ⟨_, rfl⟩, hW, hsame.mono (by decide) (by decide)⟩
  show Qexpected44 Z y0_ y1_ y2_ h0 n0 _ s₁.heap _
  rw [e0]
  exact ⟨rfl, N0, rfl⟩
theorem efget45 (m : MethodId) (o0_ : Addr) : entryFrame m #[(.ref o0_), (.int (3 : Int32))] 2 = mkF m 0 #[.val (.ref o0_), .val (.int (3 : Int32))] [] := by first | (simp [entryFrame, mkF, argsToLocals, Value.category]; done) | rfl
def Qget45 (Z : State) (o0_ : Addr) (o1_ : Addr) (ko1_ : ClassId) (y0_ : Int64) (y1_ : Int64) (y2_ : Int64) (h0 : Heap) (n0 : Nat) (v : Option Value) (h : Heap) (L : List Loc) : Prop := v = some (.long (0 : Int64)) ∧ Fr n0 L ∧ h = h0
set_option maxRecDepth 65536 in
set_option maxHeartbeats 40000000 in
theorem rmget45 (l : Launch) (Z : State) (a0 : Array Value) (hw : ∀ d ∈ tables_1, d.before a0 Z = true) (ws : List Jvm.Cond) (o0_ : Addr) (o1_ : Addr) (ko1_ : ClassId) (y0_ : Int64) (y1_ : Int64) (y2_ : Int64) (h0 : Heap) (n0 : Nat) (O0 : Old Z n0 h0) (P0 : Exa Z h0 o0_ "com/example/latchkey/latchkey/LockTokens") (P1 : Fld Z h0 o0_ "com/example/latchkey/latchkey/LockTokens" "tokens" "[J" (.ref o1_)) (P2 : Arv Z h0 o1_ ko1_ .long (3 : Int32) [(.long y0_), (.long y1_), (.long y2_)] (.long (0 : Int64))) (P3 : Exa Z h0 o1_ "[J") :
    MetFree l (⟨"com/example/latchkey/latchkey/LockTokens", "get", "(I)J"⟩ : MethodName) (head1 (Jvm.Cond.code (⟨"com/example/latchkey/latchkey/LockTokens", "get", "(I)J"⟩ : MethodName) prog_31_method_3_code 2 (some .long) :: ws) ({ frames := 0, cells := 0, slots := 0, locals := 0 } : Room)) (fun a U => a = #[(.ref o0_), (.int (3 : Int32))] ∧ Z.Warmed39 U.vm ∧ U.heap = h0) (fun _ _ _ _ _ => True) (fun _ U o U' => ∃ v L, o = .returned v ∧ Qget45 Z o0_ o1_ ko1_ y0_ y1_ y2_ h0 n0 v U'.heap L ∧ FrameEnd U o U' L ({ frames := 0, cells := 0, slots := 0, locals := 0 } : Room).cells ({ frames := 0, cells := 0, slots := 0, locals := 0 } : Room).slots) := by
  refine MetFree.of_bodySF (plainFor_of_name pn_0) hisR ?_
  intro p e s m args below meth c s₁ Bd hml0 hP hK
  obtain ⟨rfl, hZ, hh⟩ := hP
  have hx := Bd.exec
  have hby := Bd.bytes
  have hml : c.maxLocals = 2 := hml0
  have hown : s.vm.findClass "com/example/latchkey/latchkey/LockTokens" = some m.cls := findClass_of_methodNamed Bd.named
  have hnm := (name_of_methodNamed Bd.named Bd.method).1
  have X0 : Stand p l e ({ frames := 0, cells := 0, slots := 0, locals := 0 } : Room) s m #[(.ref o0_), (.int (3 : Int32))] below meth c s₁ [] 0 0 := Stand.of_body Bd
  have e0 : s₁.heap = h0 := by rw [← hh, Bd.state]; rfl
  have N0 := Fr.nil n0
  have pre0 : ∀ t, Steps p.tables e below (s₁.setTop (mkF m 0 #[.val (.ref o0_), .val (.int (3 : Int32))] [])) t → Steps p.tables e below (s₁.setTop (entryFrame m #[(.ref o0_), (.int (3 : Int32))] 2)) t := fun t k => castTop (efget45 m o0_) k
  have K0 : Keep h0 h0 [] := Keep.refl _ _
  obtain ⟨T1, X1, e1, st1⟩ := getF X0 hx hZ hown (host := "") (Or.inl (hw _ (List.mem_of_getElem? (i := 22) rfl))) Via.refl e0 P1 (g := (mkF m 2 #[.val (.ref o0_), .val (.int (3 : Int32))] [(.ref o0_), (.int (3 : Int32))])) rfl rfl (hb hby d3_2)
  obtain ⟨c2, r2, q2, s2, z2, y2, G2⟩ := id P2
  have pre3 : ∀ t, Steps p.tables e below (T1.setTop (mkF m 19 #[.val (.ref o0_), .val (.int (3 : Int32))] [(.long (0 : Int64))])) t → Steps p.tables e below (s₁.setTop (entryFrame m #[(.ref o0_), (.int (3 : Int32))] 2)) t := by
    intro t kt
    refine pre0 t ?_
    show Steps p.tables e below (s₁.setTop (mkF m 0 #[.val (.ref o0_), .val (.int (3 : Int32))] [])) _
    refine XS.iloadN X0.here hx rfl (hb hby d3_0) rfl ?_
    show Steps p.tables e below (s₁.setTop (mkF m 1 #[.val (.ref o0_), .val (.int (3 : Int32))] [(.int (3 : Int32))])) _
    refine XS.aloadN X0.here hx rfl (hb hby d3_1) rfl rfl ?_
    show Steps p.tables e below (s₁.setTop (mkF m 2 #[.val (.ref o0_), .val (.int (3 : Int32))] [(.ref o0_), (.int (3 : Int32))])) _
    refine st1 _ ?_
    show Steps p.tables e below (T1.setTop (mkF m 5 #[.val (.ref o0_), .val (.int (3 : Int32))] [(.ref o1_), (.int (3 : Int32))])) _
    refine X1.arraylength hx (by rw [e1]; exact r2.1) (State.isArrayOf_alike hZ.alike r2.2.1) (g := (mkF m 5 #[.val (.ref o0_), .val (.int (3 : Int32))] [(.ref o1_), (.int (3 : Int32))])) rfl rfl (hb hby d3_5) _ ?_
    rw [len_of s2 z2]
    show Steps p.tables e below (T1.setTop (mkF m 6 #[.val (.ref o0_), .val (.int (3 : Int32))] [(.int (3 : Int32)), (.int (3 : Int32))])) _
    refine XS.icmpYes X1.here hx rfl (pc0 := 6) (pc' := 18) rfl (hb hby d3_6) rfl (flt (by decide : ¬ ((3 : Int32) < (3 : Int32)))).2.1 (by decide) (by decide) ?_
    show Steps p.tables e below (T1.setTop (mkF m 18 #[.val (.ref o0_), .val (.int (3 : Int32))] [])) _
    refine XS.lconst X1.here hx rfl (hb hby d3_18) ?_
    exact kt
  obtain ⟨fs, hr, hrun, hended, hW, hsame⟩ := X1.leave (v := some (.long (0 : Int64))) (fun h => by rw [Bd.returns] at h; cases h)
  refine ⟨_, _, pre3 _ (retOut X1 hx Bd.returns rfl (Or.inr (Or.inl ⟨rfl, rfl, _, rfl⟩)) (hb hby d3_19) hr), hrun, hended, _, _, rfl, ?_, ⟨_, rfl⟩, hW, hsame.mono (by decide) (by decide)⟩
  show Qget45 Z o0_ o1_ ko1_ y0_ y1_ y2_ h0 n0 _ T1.heap _
  rw [e1]
  exact ⟨rfl, N0, rfl⟩
theorem efexpected46 (m : MethodId) (y0_ : Int64) (y1_ : Int64) (y2_ : Int64) : entryFrame m #[(.int (3 : Int32)), (.int (3 : Int32)), (.long y0_), (.long y1_), (.long y2_)] 8 = mkF m 0 #[.val (.int (3 : Int32)), .val (.int (3 : Int32)), .val (.long y0_), .second, .val (.long y1_), .second, .val (.long y2_), .second] [] := by first | (simp [entryFrame, mkF, argsToLocals, Value.category]; done) | rfl
def Qexpected46 (Z : State) (y0_ : Int64) (y1_ : Int64) (y2_ : Int64) (h0 : Heap) (n0 : Nat) (v : Option Value) (h : Heap) (L : List Loc) : Prop := v = some (.long (0 : Int64)) ∧ Fr n0 L ∧ h = h0
set_option maxRecDepth 65536 in
set_option maxHeartbeats 40000000 in
theorem rmexpected46 (l : Launch) (Z : State) (a0 : Array Value) (hw : ∀ d ∈ tables_1, d.before a0 Z = true) (ws : List Jvm.Cond) (y0_ : Int64) (y1_ : Int64) (y2_ : Int64) (h0 : Heap) (n0 : Nat) (O0 : Old Z n0 h0)  :
    MetFree l (⟨"com/example/latchkey/latchkey/LockTokensOfPinLaw", "expected", "(IIJJJ)J"⟩ : MethodName) (head1 (Jvm.Cond.code (⟨"com/example/latchkey/latchkey/LockTokensOfPinLaw", "expected", "(IIJJJ)J"⟩ : MethodName) method_3_code 8 (some .long) :: ws) ({ frames := 0, cells := 0, slots := 0, locals := 0 } : Room)) (fun a U => a = #[(.int (3 : Int32)), (.int (3 : Int32)), (.long y0_), (.long y1_), (.long y2_)] ∧ Z.Warmed39 U.vm ∧ U.heap = h0) (fun _ _ _ _ _ => True) (fun _ U o U' => ∃ v L, o = .returned v ∧ Qexpected46 Z y0_ y1_ y2_ h0 n0 v U'.heap L ∧ FrameEnd U o U' L ({ frames := 0, cells := 0, slots := 0, locals := 0 } : Room).cells ({ frames := 0, cells := 0, slots := 0, locals := 0 } : Room).slots) := by
  refine MetFree.of_bodySF (plainFor_of_name pn_1) hisR ?_
  intro p e s m args below meth c s₁ Bd hml0 hP hK
  obtain ⟨rfl, hZ, hh⟩ := hP
  have hx := Bd.exec
  have hby := Bd.bytes
  have hml : c.maxLocals = 8 := hml0
  have hown : s.vm.findClass "com/example/latchkey/latchkey/LockTokensOfPinLaw" = some m.cls := findClass_of_methodNamed Bd.named
  have hnm := (name_of_methodNamed Bd.named Bd.method).1
  have X0 : Stand p l e ({ frames := 0, cells := 0, slots := 0, locals := 0 } : Room) s m #[(.int (3 : Int32)), (.int (3 : Int32)), (.long y0_), (.long y1_), (.long y2_)] below meth c s₁ [] 0 0 := Stand.of_body Bd
  have e0 : s₁.heap = h0 := by rw [← hh, Bd.state]; rfl
  have N0 := Fr.nil n0
  have pre0 : ∀ t, Steps p.tables e below (s₁.setTop (mkF m 0 #[.val (.int (3 : Int32)), .val (.int (3 : Int32)), .val (.long y0_), .second, .val (.long y1_), .second, .val (.long y2_), .second] [])) t → Steps p.tables e below (s₁.setTop (entryFrame m #[(.int (3 : Int32)), (.int (3 : Int32)), (.long y0_), (.long y1_), (.long y2_)] 8)) t := fun t k => castTop (efexpected46 m y0_ y1_ y2_) k
  have K0 : Keep h0 h0 [] := Keep.refl _ _
  have pre1 : ∀ t, Steps p.tables e below (s₁.setTop (mkF m 6 #[.val (.int (3 : Int32)), .val (.int (3 : Int32)), .val (.long y0_), .second, .val (.long y1_), .second, .val (.long y2_), .second] [(.long (0 : Int64))])) t → Steps p.tables e below (s₁.setTop (entryFrame m #[(.int (3 : Int32)), (.int (3 : Int32)), (.long y0_), (.long y1_), (.long y2_)] 8)) t := by
    intro t kt
    refine pre0 t ?_
    show Steps p.tables e below (s₁.setTop (mkF m 0 #[.val (.int (3 : Int32)), .val (.int (3 : Int32)), .val (.long y0_), .second, .val (.long y1_), .second, .val (.long y2_), .second] [])) _
    refine XS.iloadN X0.here hx rfl (hb hby d4_0) rfl ?_
    show Steps p.tables e below (s₁.setTop (mkF m 1 #[.val (.int (3 : Int32)), .val (.int (3 : Int32)), .val (.long y0_), .second, .val (.long y1_), .second, .val (.long y2_), .second] [(.int (3 : Int32))])) _
    refine XS.iloadN X0.here hx rfl (hb hby d4_1) rfl ?_
    show Steps p.tables e below (s₁.setTop (mkF m 2 #[.val (.int (3 : Int32)), .val (.int (3 : Int32)), .val (.long y0_), .second, .val (.long y1_), .second, .val (.long y2_), .second] [(.int (3 : Int32)), (.int (3 : Int32))])) _
    refine XS.icmpNo X0.here hx rfl (hb hby d4_2) rfl (flt (by decide : ¬ ((3 : Int32) < (3 : Int32)))).1 ?_
    show Steps p.tables e below (s₁.setTop (mkF m 5 #[.val (.int (3 : Int32)), .val (.int (3 : Int32)), .val (.long y0_), .second, .val (.long y1_), .second, .val (.long y2_), .second] [])) _
    refine XS.lconst X0.here hx rfl (hb hby d4_5) ?_
    exact kt
  obtain ⟨fs, hr, hrun, hended, hW, hsame⟩ := X0.leave (v := some (.long (0 : Int64))) (fun h => by rw [Bd.returns] at h; cases h)
  refine ⟨_, _, pre1 _ (retOut X0 hx Bd.returns rfl (Or.inr (Or.inl ⟨rfl, rfl, _, rfl⟩)) (hb hby d4_6) hr), hrun, hended, _, _, rfl, ?_, ⟨_, rfl⟩, hW, hsame.mono (by decide) (by decide)⟩
  show Qexpected46 Z y0_ y1_ y2_ h0 n0 _ s₁.heap _
  rw [e0]
  exact ⟨rfl, N0, rfl⟩
theorem efget47 (m : MethodId) (o0_ : Addr) (x0_ : Int32) : entryFrame m #[(.ref o0_), (.int x0_)] 2 = mkF m 0 #[.val (.ref o0_), .val (.int x0_)] [] := by first | (simp [entryFrame, mkF, argsToLocals, Value.category]; done) | rfl
def Qget47 (Z : State) (o0_ : Addr) (x0_ : Int32) (o1_ : Addr) (ko1_ : ClassId) (y1_ : Int64) (y2_ : Int64) (y3_ : Int64) (h0 : Heap) (n0 : Nat) (v : Option Value) (h : Heap) (L : List Loc) : Prop := v = some (.long (0 : Int64)) ∧ Fr n0 L ∧ h = h0
set_option maxRecDepth 65536 in
set_option maxHeartbeats 40000000 in
theorem rmget47 (l : Launch) (Z : State) (a0 : Array Value) (hw : ∀ d ∈ tables_1, d.before a0 Z = true) (ws : List Jvm.Cond) (o0_ : Addr) (x0_ : Int32) (o1_ : Addr) (ko1_ : ClassId) (y1_ : Int64) (y2_ : Int64) (y3_ : Int64) (h0 : Heap) (n0 : Nat) (O0 : Old Z n0 h0) (ha0 : ¬ (x0_ < (0 : Int32))) (ha1 : ¬ (x0_ = (0 : Int32))) (ha2 : ¬ (x0_ = (1 : Int32))) (ha3 : ¬ (x0_ = (2 : Int32))) (ha4 : ¬ (x0_ < (3 : Int32))) (P5 : Exa Z h0 o0_ "com/example/latchkey/latchkey/LockTokens") (P6 : Fld Z h0 o0_ "com/example/latchkey/latchkey/LockTokens" "tokens" "[J" (.ref o1_)) (P7 : Arv Z h0 o1_ ko1_ .long (3 : Int32) [(.long y1_), (.long y2_), (.long y3_)] (.long (0 : Int64))) (P8 : Exa Z h0 o1_ "[J") :
    MetFree l (⟨"com/example/latchkey/latchkey/LockTokens", "get", "(I)J"⟩ : MethodName) (head1 (Jvm.Cond.code (⟨"com/example/latchkey/latchkey/LockTokens", "get", "(I)J"⟩ : MethodName) prog_31_method_3_code 2 (some .long) :: ws) ({ frames := 0, cells := 0, slots := 0, locals := 0 } : Room)) (fun a U => a = #[(.ref o0_), (.int x0_)] ∧ Z.Warmed39 U.vm ∧ U.heap = h0) (fun _ _ _ _ _ => True) (fun _ U o U' => ∃ v L, o = .returned v ∧ Qget47 Z o0_ x0_ o1_ ko1_ y1_ y2_ y3_ h0 n0 v U'.heap L ∧ FrameEnd U o U' L ({ frames := 0, cells := 0, slots := 0, locals := 0 } : Room).cells ({ frames := 0, cells := 0, slots := 0, locals := 0 } : Room).slots) := by
  refine MetFree.of_bodySF (plainFor_of_name pn_0) hisR ?_
  intro p e s m args below meth c s₁ Bd hml0 hP hK
  obtain ⟨rfl, hZ, hh⟩ := hP
  have hx := Bd.exec
  have hby := Bd.bytes
  have hml : c.maxLocals = 2 := hml0
  have hown : s.vm.findClass "com/example/latchkey/latchkey/LockTokens" = some m.cls := findClass_of_methodNamed Bd.named
  have hnm := (name_of_methodNamed Bd.named Bd.method).1
  have X0 : Stand p l e ({ frames := 0, cells := 0, slots := 0, locals := 0 } : Room) s m #[(.ref o0_), (.int x0_)] below meth c s₁ [] 0 0 := Stand.of_body Bd
  have e0 : s₁.heap = h0 := by rw [← hh, Bd.state]; rfl
  have N0 := Fr.nil n0
  have pre0 : ∀ t, Steps p.tables e below (s₁.setTop (mkF m 0 #[.val (.ref o0_), .val (.int x0_)] [])) t → Steps p.tables e below (s₁.setTop (entryFrame m #[(.ref o0_), (.int x0_)] 2)) t := fun t k => castTop (efget47 m o0_ x0_) k
  have K0 : Keep h0 h0 [] := Keep.refl _ _
  obtain ⟨T1, X1, e1, st1⟩ := getF X0 hx hZ hown (host := "") (Or.inl (hw _ (List.mem_of_getElem? (i := 22) rfl))) Via.refl e0 P6 (g := (mkF m 2 #[.val (.ref o0_), .val (.int x0_)] [(.ref o0_), (.int x0_)])) rfl rfl (hb hby d3_2)
  obtain ⟨c2, r2, q2, s2, z2, y2, G2⟩ := id P7
  have pre3 : ∀ t, Steps p.tables e below (T1.setTop (mkF m 19 #[.val (.ref o0_), .val (.int x0_)] [(.long (0 : Int64))])) t → Steps p.tables e below (s₁.setTop (entryFrame m #[(.ref o0_), (.int x0_)] 2)) t := by
    intro t kt
    refine pre0 t ?_
    show Steps p.tables e below (s₁.setTop (mkF m 0 #[.val (.ref o0_), .val (.int x0_)] [])) _
    refine XS.iloadN X0.here hx rfl (hb hby d3_0) rfl ?_
    show Steps p.tables e below (s₁.setTop (mkF m 1 #[.val (.ref o0_), .val (.int x0_)] [(.int x0_)])) _
    refine XS.aloadN X0.here hx rfl (hb hby d3_1) rfl rfl ?_
    show Steps p.tables e below (s₁.setTop (mkF m 2 #[.val (.ref o0_), .val (.int x0_)] [(.ref o0_), (.int x0_)])) _
    refine st1 _ ?_
    show Steps p.tables e below (T1.setTop (mkF m 5 #[.val (.ref o0_), .val (.int x0_)] [(.ref o1_), (.int x0_)])) _
    refine X1.arraylength hx (by rw [e1]; exact r2.1) (State.isArrayOf_alike hZ.alike r2.2.1) (g := (mkF m 5 #[.val (.ref o0_), .val (.int x0_)] [(.ref o1_), (.int x0_)])) rfl rfl (hb hby d3_5) _ ?_
    rw [len_of s2 z2]
    show Steps p.tables e below (T1.setTop (mkF m 6 #[.val (.ref o0_), .val (.int x0_)] [(.int (3 : Int32)), (.int x0_)])) _
    refine XS.icmpYes X1.here hx rfl (pc0 := 6) (pc' := 18) rfl (hb hby d3_6) rfl (flt ha4).2.1 (by decide) (by decide) ?_
    show Steps p.tables e below (T1.setTop (mkF m 18 #[.val (.ref o0_), .val (.int x0_)] [])) _
    refine XS.lconst X1.here hx rfl (hb hby d3_18) ?_
    exact kt
  obtain ⟨fs, hr, hrun, hended, hW, hsame⟩ := X1.leave (v := some (.long (0 : Int64))) (fun h => by rw [Bd.returns] at h; cases h)
  refine ⟨_, _, pre3 _ (retOut X1 hx Bd.returns rfl (Or.inr (Or.inl ⟨rfl, rfl, _, rfl⟩)) (hb hby d3_19) hr), hrun, hended, _, _, rfl, ?_, ⟨_, rfl⟩, hW, hsame.mono (by decide) (by decide)⟩
  show Qget47 Z o0_ x0_ o1_ ko1_ y1_ y2_ y3_ h0 n0 _ T1.heap _
  rw [e1]
  exact ⟨rfl, N0, rfl⟩
theorem efexpected48 (m : MethodId) (x0_ : Int32) (y1_ : Int64) (y2_ : Int64) (y3_ : Int64) : entryFrame m #[(.int x0_), (.int (3 : Int32)), (.long y1_), (.long y2_), (.long y3_)] 8 = mkF m 0 #[.val (.int x0_), .val (.int (3 : Int32)), .val (.long y1_), .second, .val (.long y2_), .second, .val (.long y3_), .second] [] := by first | (simp [entryFrame, mkF, argsToLocals, Value.category]; done) | rfl
def Qexpected48 (Z : State) (x0_ : Int32) (y1_ : Int64) (y2_ : Int64) (y3_ : Int64) (h0 : Heap) (n0 : Nat) (v : Option Value) (h : Heap) (L : List Loc) : Prop := ∃ r_ : Int64, v = some (.long r_) ∧ ((y1_ = r_ ∧ (x0_ < (3 : Int32)) ∧ (x0_ = (0 : Int32))) ∨ (y2_ = r_ ∧ (x0_ < (3 : Int32)) ∧ (¬ (x0_ = (0 : Int32))) ∧ (x0_ = (1 : Int32))) ∨ (y3_ = r_ ∧ (x0_ < (3 : Int32)) ∧ (¬ (x0_ = (0 : Int32))) ∧ (¬ (x0_ = (1 : Int32)))) ∨ ((0 : Int64) = r_ ∧ (¬ (x0_ < (3 : Int32))))) ∧ Fr n0 L ∧ h = h0
set_option maxRecDepth 65536 in
set_option maxHeartbeats 40000000 in
theorem rmexpected48 (l : Launch) (Z : State) (a0 : Array Value) (hw : ∀ d ∈ tables_1, d.before a0 Z = true) (ws : List Jvm.Cond) (x0_ : Int32) (y1_ : Int64) (y2_ : Int64) (y3_ : Int64) (h0 : Heap) (n0 : Nat) (O0 : Old Z n0 h0)  :
    MetFree l (⟨"com/example/latchkey/latchkey/LockTokensOfPinLaw", "expected", "(IIJJJ)J"⟩ : MethodName) (head1 (Jvm.Cond.code (⟨"com/example/latchkey/latchkey/LockTokensOfPinLaw", "expected", "(IIJJJ)J"⟩ : MethodName) method_3_code 8 (some .long) :: ws) ({ frames := 0, cells := 0, slots := 0, locals := 0 } : Room)) (fun a U => a = #[(.int x0_), (.int (3 : Int32)), (.long y1_), (.long y2_), (.long y3_)] ∧ Z.Warmed39 U.vm ∧ U.heap = h0) (fun _ _ _ _ _ => True) (fun _ U o U' => ∃ v L, o = .returned v ∧ Qexpected48 Z x0_ y1_ y2_ y3_ h0 n0 v U'.heap L ∧ FrameEnd U o U' L ({ frames := 0, cells := 0, slots := 0, locals := 0 } : Room).cells ({ frames := 0, cells := 0, slots := 0, locals := 0 } : Room).slots) := by
  refine MetFree.of_bodySF (plainFor_of_name pn_1) hisR ?_
  intro p e s m args below meth c s₁ Bd hml0 hP hK
  obtain ⟨rfl, hZ, hh⟩ := hP
  have hx := Bd.exec
  have hby := Bd.bytes
  have hml : c.maxLocals = 8 := hml0
  have hown : s.vm.findClass "com/example/latchkey/latchkey/LockTokensOfPinLaw" = some m.cls := findClass_of_methodNamed Bd.named
  have hnm := (name_of_methodNamed Bd.named Bd.method).1
  have X0 : Stand p l e ({ frames := 0, cells := 0, slots := 0, locals := 0 } : Room) s m #[(.int x0_), (.int (3 : Int32)), (.long y1_), (.long y2_), (.long y3_)] below meth c s₁ [] 0 0 := Stand.of_body Bd
  have e0 : s₁.heap = h0 := by rw [← hh, Bd.state]; rfl
  have N0 := Fr.nil n0
  have pre0 : ∀ t, Steps p.tables e below (s₁.setTop (mkF m 0 #[.val (.int x0_), .val (.int (3 : Int32)), .val (.long y1_), .second, .val (.long y2_), .second, .val (.long y3_), .second] [])) t → Steps p.tables e below (s₁.setTop (entryFrame m #[(.int x0_), (.int (3 : Int32)), (.long y1_), (.long y2_), (.long y3_)] 8)) t := fun t k => castTop (efexpected48 m x0_ y1_ y2_ y3_) k
  have K0 : Keep h0 h0 [] := Keep.refl _ _
  have pre1 : ∀ t, Steps p.tables e below (s₁.setTop (mkF m 2 #[.val (.int x0_), .val (.int (3 : Int32)), .val (.long y1_), .second, .val (.long y2_), .second, .val (.long y3_), .second] [(.int (3 : Int32)), (.int x0_)])) t → Steps p.tables e below (s₁.setTop (entryFrame m #[(.int x0_), (.int (3 : Int32)), (.long y1_), (.long y2_), (.long y3_)] 8)) t := by
    intro t kt
    refine pre0 t ?_
    show Steps p.tables e below (s₁.setTop (mkF m 0 #[.val (.int x0_), .val (.int (3 : Int32)), .val (.long y1_), .second, .val (.long y2_), .second, .val (.long y3_), .second] [])) _
    refine XS.iloadN X0.here hx rfl (hb hby d4_0) rfl ?_
    show Steps p.tables e below (s₁.setTop (mkF m 1 #[.val (.int x0_), .val (.int (3 : Int32)), .val (.long y1_), .second, .val (.long y2_), .second, .val (.long y3_), .second] [(.int x0_)])) _
    refine XS.iloadN X0.here hx rfl (hb hby d4_1) rfl ?_
    exact kt
  by_cases hc2 : x0_ < (3 : Int32)
  · have pre3 : ∀ t, Steps p.tables e below (s₁.setTop (mkF m 8 #[.val (.int x0_), .val (.int (3 : Int32)), .val (.long y1_), .second, .val (.long y2_), .second, .val (.long y3_), .second] [(.int x0_)])) t → Steps p.tables e below (s₁.setTop (entryFrame m #[(.int x0_), (.int (3 : Int32)), (.long y1_), (.long y2_), (.long y3_)] 8)) t := by
      intro t kt
      refine pre1 t ?_
      show Steps p.tables e below (s₁.setTop (mkF m 2 #[.val (.int x0_), .val (.int (3 : Int32)), .val (.long y1_), .second, .val (.long y2_), .second, .val (.long y3_), .second] [(.int (3 : Int32)), (.int x0_)])) _
      refine XS.icmpYes X0.here hx rfl (pc0 := 2) (pc' := 7) rfl (hb hby d4_2) rfl (tlt hc2).1 (by decide) (by decide) ?_
      show Steps p.tables e below (s₁.setTop (mkF m 7 #[.val (.int x0_), .val (.int (3 : Int32)), .val (.long y1_), .second, .val (.long y2_), .second, .val (.long y3_), .second] [])) _
      refine XS.iloadN X0.here hx rfl (hb hby d4_7) rfl ?_
      exact kt
    by_cases hc4 : x0_ = (0 : Int32)
    · have pre5 : ∀ t, Steps p.tables e below (s₁.setTop (mkF m 12 #[.val (.int x0_), .val (.int (3 : Int32)), .val (.long y1_), .second, .val (.long y2_), .second, .val (.long y3_), .second] [(.long y1_)])) t → Steps p.tables e below (s₁.setTop (entryFrame m #[(.int x0_), (.int (3 : Int32)), (.long y1_), (.long y2_), (.long y3_)] 8)) t := by
        intro t kt
        refine pre3 t ?_
        show Steps p.tables e below (s₁.setTop (mkF m 8 #[.val (.int x0_), .val (.int (3 : Int32)), .val (.long y1_), .second, .val (.long y2_), .second, .val (.long y3_), .second] [(.int x0_)])) _
        refine XS.ifNo X0.here hx rfl (hb hby d4_8) rfl ((if0 _ _).trans (teq hc4).2) ?_
        show Steps p.tables e below (s₁.setTop (mkF m 11 #[.val (.int x0_), .val (.int (3 : Int32)), .val (.long y1_), .second, .val (.long y2_), .second, .val (.long y3_), .second] [])) _
        refine XS.lloadN X0.here hx rfl (hb hby d4_11) rfl ?_
        exact kt
      obtain ⟨fs, hr, hrun, hended, hW, hsame⟩ := X0.leave (v := some (.long y1_)) (fun h => by rw [Bd.returns] at h; cases h)
      refine ⟨_, _, pre5 _ (retOut X0 hx Bd.returns rfl (Or.inr (Or.inl ⟨rfl, rfl, _, rfl⟩)) (hb hby d4_12) hr), hrun, hended, _, _, rfl, ?_, ⟨_, rfl⟩, hW, hsame.mono (by decide) (by decide)⟩
      show Qexpected48 Z x0_ y1_ y2_ y3_ h0 n0 _ s₁.heap _
      rw [e0]
      exact ⟨y1_, rfl, (Or.inl ⟨rfl, hc2, hc4⟩), N0, rfl⟩
    · have pre7 : ∀ t, Steps p.tables e below (s₁.setTop (mkF m 15 #[.val (.int x0_), .val (.int (3 : Int32)), .val (.long y1_), .second, .val (.long y2_), .second, .val (.long y3_), .second] [(.int (1 : Int32)), (.int x0_)])) t → Steps p.tables e below (s₁.setTop (entryFrame m #[(.int x0_), (.int (3 : Int32)), (.long y1_), (.long y2_), (.long y3_)] 8)) t := by
        intro t kt
        refine pre3 t ?_
        show Steps p.tables e below (s₁.setTop (mkF m 8 #[.val (.int x0_), .val (.int (3 : Int32)), .val (.long y1_), .second, .val (.long y2_), .second, .val (.long y3_), .second] [(.int x0_)])) _
        refine XS.ifYes X0.here hx rfl (pc0 := 8) (pc' := 13) rfl (hb hby d4_8) rfl ((if0 _ _).trans (feq hc4).2) (by decide) (by decide) ?_
        show Steps p.tables e below (s₁.setTop (mkF m 13 #[.val (.int x0_), .val (.int (3 : Int32)), .val (.long y1_), .second, .val (.long y2_), .second, .val (.long y3_), .second] [])) _
        refine XS.iloadN X0.here hx rfl (hb hby d4_13) rfl ?_
        show Steps p.tables e below (s₁.setTop (mkF m 14 #[.val (.int x0_), .val (.int (3 : Int32)), .val (.long y1_), .second, .val (.long y2_), .second, .val (.long y3_), .second] [(.int x0_)])) _
        refine XS.iconst X0.here hx rfl (hb hby d4_14) ?_
        exact kt
      by_cases hc8 : x0_ = (1 : Int32)
      · have pre9 : ∀ t, Steps p.tables e below (s₁.setTop (mkF m 20 #[.val (.int x0_), .val (.int (3 : Int32)), .val (.long y1_), .second, .val (.long y2_), .second, .val (.long y3_), .second] [(.long y2_)])) t → Steps p.tables e below (s₁.setTop (entryFrame m #[(.int x0_), (.int (3 : Int32)), (.long y1_), (.long y2_), (.long y3_)] 8)) t := by
          intro t kt
          refine pre7 t ?_
          show Steps p.tables e below (s₁.setTop (mkF m 15 #[.val (.int x0_), .val (.int (3 : Int32)), .val (.long y1_), .second, .val (.long y2_), .second, .val (.long y3_), .second] [(.int (1 : Int32)), (.int x0_)])) _
          refine XS.icmpNo X0.here hx rfl (hb hby d4_15) rfl (teq hc8).2 ?_
          show Steps p.tables e below (s₁.setTop (mkF m 18 #[.val (.int x0_), .val (.int (3 : Int32)), .val (.long y1_), .second, .val (.long y2_), .second, .val (.long y3_), .second] [])) _
          refine XS.lload X0.here hx rfl (hb hby d4_18) rfl ?_
          exact kt
        obtain ⟨fs, hr, hrun, hended, hW, hsame⟩ := X0.leave (v := some (.long y2_)) (fun h => by rw [Bd.returns] at h; cases h)
        refine ⟨_, _, pre9 _ (retOut X0 hx Bd.returns rfl (Or.inr (Or.inl ⟨rfl, rfl, _, rfl⟩)) (hb hby d4_20) hr), hrun, hended, _, _, rfl, ?_, ⟨_, rfl⟩, hW, hsame.mono (by decide) (by decide)⟩
        show Qexpected48 Z x0_ y1_ y2_ y3_ h0 n0 _ s₁.heap _
        rw [e0]
        exact ⟨y2_, rfl, (Or.inr (Or.inl ⟨rfl, hc2, hc4, hc8⟩)), N0, rfl⟩
      · have pre11 : ∀ t, Steps p.tables e below (s₁.setTop (mkF m 23 #[.val (.int x0_), .val (.int (3 : Int32)), .val (.long y1_), .second, .val (.long y2_), .second, .val (.long y3_), .second] [(.long y3_)])) t → Steps p.tables e below (s₁.setTop (entryFrame m #[(.int x0_), (.int (3 : Int32)), (.long y1_), (.long y2_), (.long y3_)] 8)) t := by
          intro t kt
          refine pre7 t ?_
          show Steps p.tables e below (s₁.setTop (mkF m 15 #[.val (.int x0_), .val (.int (3 : Int32)), .val (.long y1_), .second, .val (.long y2_), .second, .val (.long y3_), .second] [(.int (1 : Int32)), (.int x0_)])) _
          refine XS.icmpYes X0.here hx rfl (pc0 := 15) (pc' := 21) rfl (hb hby d4_15) rfl (feq hc8).2 (by decide) (by decide) ?_
          show Steps p.tables e below (s₁.setTop (mkF m 21 #[.val (.int x0_), .val (.int (3 : Int32)), .val (.long y1_), .second, .val (.long y2_), .second, .val (.long y3_), .second] [])) _
          refine XS.lload X0.here hx rfl (hb hby d4_21) rfl ?_
          exact kt
        obtain ⟨fs, hr, hrun, hended, hW, hsame⟩ := X0.leave (v := some (.long y3_)) (fun h => by rw [Bd.returns] at h; cases h)
        refine ⟨_, _, pre11 _ (retOut X0 hx Bd.returns rfl (Or.inr (Or.inl ⟨rfl, rfl, _, rfl⟩)) (hb hby d4_23) hr), hrun, hended, _, _, rfl, ?_, ⟨_, rfl⟩, hW, hsame.mono (by decide) (by decide)⟩
        show Qexpected48 Z x0_ y1_ y2_ y3_ h0 n0 _ s₁.heap _
        rw [e0]
        exact ⟨y3_, rfl, (Or.inr (Or.inr (Or.inl ⟨rfl, hc2, hc4, hc8⟩))), N0, rfl⟩
  · have pre13 : ∀ t, Steps p.tables e below (s₁.setTop (mkF m 6 #[.val (.int x0_), .val (.int (3 : Int32)), .val (.long y1_), .second, .val (.long y2_), .second, .val (.long y3_), .second] [(.long (0 : Int64))])) t → Steps p.tables e below (s₁.setTop (entryFrame m #[(.int x0_), (.int (3 : Int32)), (.long y1_), (.long y2_), (.long y3_)] 8)) t := by
      intro t kt
      refine pre1 t ?_
      show Steps p.tables e below (s₁.setTop (mkF m 2 #[.val (.int x0_), .val (.int (3 : Int32)), .val (.long y1_), .second, .val (.long y2_), .second, .val (.long y3_), .second] [(.int (3 : Int32)), (.int x0_)])) _
      refine XS.icmpNo X0.here hx rfl (hb hby d4_2) rfl (flt hc2).1 ?_
      show Steps p.tables e below (s₁.setTop (mkF m 5 #[.val (.int x0_), .val (.int (3 : Int32)), .val (.long y1_), .second, .val (.long y2_), .second, .val (.long y3_), .second] [])) _
      refine XS.lconst X0.here hx rfl (hb hby d4_5) ?_
      exact kt
    obtain ⟨fs, hr, hrun, hended, hW, hsame⟩ := X0.leave (v := some (.long (0 : Int64))) (fun h => by rw [Bd.returns] at h; cases h)
    refine ⟨_, _, pre13 _ (retOut X0 hx Bd.returns rfl (Or.inr (Or.inl ⟨rfl, rfl, _, rfl⟩)) (hb hby d4_6) hr), hrun, hended, _, _, rfl, ?_, ⟨_, rfl⟩, hW, hsame.mono (by decide) (by decide)⟩
    show Qexpected48 Z x0_ y1_ y2_ y3_ h0 n0 _ s₁.heap _
    rw [e0]
    exact ⟨(0 : Int64), rfl, (Or.inr (Or.inr (Or.inr ⟨rfl, hc2⟩))), N0, rfl⟩
theorem efLaw (m : MethodId) (q0_ : Int64) (q1_ : Int64) (q2_ : Int64) (p3_ : Int32) (p4_ : Int32) : entryFrame m #[(.long q0_), (.long q1_), (.long q2_), (.int p3_), (.int p4_)] maxLocals = mkF m 0 #[.val (.long q0_), .second, .val (.long q1_), .second, .val (.long q2_), .second, .val (.int p3_), .val (.int p4_), .unset, .unset, .unset, .unset] [] := by first | (simp [entryFrame, mkF, argsToLocals, Value.category, maxLocals]; done) | rfl
def QLaw (Z : State) (q0_ : Int64) (q1_ : Int64) (q2_ : Int64) (p3_ : Int32) (p4_ : Int32) (h0 : Heap) (n0 : Nat) (v : Option Value) (h : Heap) (L : List Loc) : Prop := v = some (.int (1 : Int32)) ∧ Fr n0 L
set_option maxRecDepth 65536 in
set_option maxHeartbeats 40000000 in
theorem rmLaw (l : Launch) (Z : State) (a0 : Array Value) (hw : ∀ d ∈ tables_1, d.before a0 Z = true) (ws : List Jvm.Cond) (q0_ : Int64) (q1_ : Int64) (q2_ : Int64) (p3_ : Int32) (p4_ : Int32) (h0 : Heap) (n0 : Nat) (O0 : Old Z n0 h0)  :
    MetFree l x (head1 (Jvm.Cond.code x code maxLocals ret :: ws) room_1) (fun a U => a = #[(.long q0_), (.long q1_), (.long q2_), (.int p3_), (.int p4_)] ∧ Z.Warmed39 U.vm ∧ U.heap = h0) (fun _ _ _ _ _ => True) (fun _ U o U' => ∃ v L, o = .returned v ∧ QLaw Z q0_ q1_ q2_ p3_ p4_ h0 n0 v U'.heap L ∧ FrameEnd U o U' L room_1.cells room_1.slots) := by
  refine MetFree.of_bodySF (plainFor_of_name pn_1) hisR ?_
  intro p e s m args below meth c s₁ Bd hml0 hP hK
  obtain ⟨rfl, hZ, hh⟩ := hP
  have hx := Bd.exec
  have hby := Bd.bytes
  have hml : c.maxLocals = 12 := hml0
  have hown : s.vm.findClass "com/example/latchkey/latchkey/LockTokensOfPinLaw" = some m.cls := findClass_of_methodNamed Bd.named
  have hnm := (name_of_methodNamed Bd.named Bd.method).1
  have X0 : Stand p l e room_1 s m #[(.long q0_), (.long q1_), (.long q2_), (.int p3_), (.int p4_)] below meth c s₁ [] 0 0 := Stand.of_body Bd
  have e0 : s₁.heap = h0 := by rw [← hh, Bd.state]; rfl
  have N0 := Fr.nil n0
  have pre0 : ∀ t, Steps p.tables e below (s₁.setTop (mkF m 0 #[.val (.long q0_), .second, .val (.long q1_), .second, .val (.long q2_), .second, .val (.int p3_), .val (.int p4_), .unset, .unset, .unset, .unset] [])) t → Steps p.tables e below (s₁.setTop (entryFrame m #[(.long q0_), (.long q1_), (.long q2_), (.int p3_), (.int p4_)] maxLocals)) t := fun t k => castTop (efLaw m q0_ q1_ q2_ p3_ p4_) k
  have K0 : Keep h0 h0 [] := Keep.refl _ _
  have pre1 : ∀ t, Steps p.tables e below (s₁.setTop (mkF m 6 #[.val (.long q0_), .second, .val (.long q1_), .second, .val (.long q2_), .second, .val (.int p3_), .val (.int p4_), .val (.int (p3_ &&& (3 : Int32))), .unset, .unset, .unset] [])) t → Steps p.tables e below (s₁.setTop (entryFrame m #[(.long q0_), (.long q1_), (.long q2_), (.int p3_), (.int p4_)] maxLocals)) t := by
    intro t kt
    refine pre0 t ?_
    show Steps p.tables e below (s₁.setTop (mkF m 0 #[.val (.long q0_), .second, .val (.long q1_), .second, .val (.long q2_), .second, .val (.int p3_), .val (.int p4_), .unset, .unset, .unset, .unset] [])) _
    refine XS.iload X0.here hx rfl (hb hby at_0) rfl ?_
    show Steps p.tables e below (s₁.setTop (mkF m 2 #[.val (.long q0_), .second, .val (.long q1_), .second, .val (.long q2_), .second, .val (.int p3_), .val (.int p4_), .unset, .unset, .unset, .unset] [(.int p3_)])) _
    refine XS.iconst X0.here hx rfl (hb hby at_2) ?_
    show Steps p.tables e below (s₁.setTop (mkF m 3 #[.val (.long q0_), .second, .val (.long q1_), .second, .val (.long q2_), .second, .val (.int p3_), .val (.int p4_), .unset, .unset, .unset, .unset] [(.int (3 : Int32)), (.int p3_)])) _
    refine XS.iand X0.here hx rfl (hb hby at_3) rfl ?_
    show Steps p.tables e below (s₁.setTop (mkF m 4 #[.val (.long q0_), .second, .val (.long q1_), .second, .val (.long q2_), .second, .val (.int p3_), .val (.int p4_), .unset, .unset, .unset, .unset] [(.int (p3_ &&& (3 : Int32)))])) _
    refine XS.istore X0.here hx rfl (hb hby at_4) rfl (l' := #[.val (.long q0_), .second, .val (.long q1_), .second, .val (.long q2_), .second, .val (.int p3_), .val (.int p4_), .val (.int (p3_ &&& (3 : Int32))), .unset, .unset, .unset]) rfl ?_
    exact kt
  have hv2 : (p3_ &&& (3 : Int32)) = (0 : Int32) ∨ (p3_ &&& (3 : Int32)) = (1 : Int32) ∨ (p3_ &&& (3 : Int32)) = (2 : Int32) ∨ (p3_ &&& (3 : Int32)) = (3 : Int32) := own_and3 _
  rcases hv2 with hv3 | hv3 | hv3 | hv3
  · have pre4 : ∀ t, Steps p.tables e below (s₁.setTop (mkF m 6 #[.val (.long q0_), .second, .val (.long q1_), .second, .val (.long q2_), .second, .val (.int p3_), .val (.int p4_), .val (.int (0 : Int32)), .unset, .unset, .unset] [])) t → Steps p.tables e below (s₁.setTop (entryFrame m #[(.long q0_), (.long q1_), (.long q2_), (.int p3_), (.int p4_)] maxLocals)) t := fun t kt => pre1 t (by rw [hv3]; exact kt)
    obtain ⟨T5, h5, k5, X5, e5, E5, A5, Z5, st5⟩ := newPE X0 hx hZ (hw _ (List.mem_of_getElem? (i := 0) rfl)) e0 (g := (mkF m 12 #[.val (.long q0_), .second, .val (.long q1_), .second, .val (.long q2_), .second, .val (.int p3_), .val (.int p4_), .val (.int (0 : Int32)), .unset, .unset, .unset] [(.int (0 : Int32))])) rfl (hb hby at_12) rfl (by decide) (cap := 0) (by decide) (by decide) (by decide) (by decide) (ad := "[J") (by decide)
    obtain ⟨b5, g5⟩ : ∃ z, z = h0.size := ⟨_, rfl⟩
    rw [← g5] at A5 Z5 st5
    have ge6 : n0 ≤ b5 := Nat.le_trans (Nat.le_trans (Nat.le_of_eq O0.1.symm) O0.2.1) (Nat.le_of_eq g5.symm)
    have sz7 : h0.size ≤ b5 := Nat.le_trans K0.1 (Nat.le_of_eq g5.symm)
    have f8 : Arv Z h5 b5 k5 .long (0 : Int32) [] (.long (0 : Int64)) := (Arv.new A5 (by decide)).pad (pad_rep [] (.long (0 : Int64)) 0)
    have f10 : Old Z n0 h5 := O0.ext E5
    obtain ⟨_, _, ⟨T9, L9, k9, n9⟩, -, X9, ⟨Lc9, hQ9, l9, y9, z9⟩, st9⟩ := Jvm.LawKit.callS X5 hx (y := (⟨"com/example/latchkey/latchkey/LockTokens", "of", "([J)Lcom/example/latchkey/latchkey/LockTokens;"⟩ : MethodName)) hown (mvT hZ (hw _ (List.mem_of_getElem? (i := 1) rfl))) (mvT hZ (hw _ (List.mem_of_getElem? (i := 2) rfl))) (mvT hZ (hw _ (List.mem_of_getElem? (i := 3) rfl))) (mvT hZ (hw _ (List.mem_of_getElem? (i := 4) rfl))) (by decide) (backOf (W := 0) (rmof1 l Z a0 hw [] b5 k5 h5 n0 f10 f8 Z5) hZ (hw _ (List.mem_of_getElem? (i := 4) rfl)) (hw _ (List.mem_of_getElem? (i := 3) rfl)) (by decide) (by decide)) (g := (mkF m 79 #[.val (.long q0_), .second, .val (.long q1_), .second, .val (.long q2_), .second, .val (.int p3_), .val (.int p4_), .val (.int (0 : Int32)), .val (.ref b5), .unset, .unset] [(.ref b5)])) rfl (by rw [hml]; rfl) (argsL := [(.ref b5)]) (rest := []) (lenOf pd_1 rfl) rfl (by show 2 * 0 + _ ≤ _; exact Nat.le_of_eq rfl) (hb hby at_79) (fun _ _ => ⟨rfl, e5, (by decide : 1 + 2 ≤ _), (by decide : 0 + 1 ≤ _)⟩)
    dsimp only [Pt.U, Pt.locs, Pt.cells, Pt.slots] at X9 l9 y9 z9 st9 hQ9
    subst l9 y9 z9
    obtain ⟨h9, e9⟩ : ∃ z, T9.heap = z := ⟨_, rfl⟩
    rw [e9] at hQ9
    obtain ⟨nb1_9, nb5_9, rfl, N9q, K9, sznb1_9, sznb5_9, g9_0, g9_1, g9_2, g9_3⟩ := hQ9
    have N11 := Fr.app N0 N9q
    have ge12 : n0 ≤ nb1_9 := Nat.le_trans (Nat.le_trans (Nat.le_of_eq f10.1.symm) f10.2.1) sznb1_9
    have f13 : Keep h0 h5 [] := K0.ext E5
    have sz14 : h0.size ≤ nb1_9 := Nat.le_trans f13.1 sznb1_9
    have ge15 : n0 ≤ nb5_9 := Nat.le_trans (Nat.le_trans (Nat.le_of_eq f10.1.symm) f10.2.1) sznb5_9
    have sz16 : h0.size ≤ nb5_9 := Nat.le_trans f13.1 sznb5_9
    have f18 : Old Z n0 h9 := f10.keep K9 all0
    obtain ⟨cq17, kq17, q17a, q17b, q17c⟩ := isOf hZ e9 g9_0
    obtain ⟨_, _, ⟨T17, L17, k17, n17⟩, -, X17, ⟨Lc17, hQ17, l17, y17, z17⟩, st17⟩ := X9.virtualBack hx (y := (⟨"com/example/latchkey/latchkey/LockTokens", "get", "(I)J"⟩ : MethodName)) (z := (⟨"com/example/latchkey/latchkey/LockTokens", "get", "(I)J"⟩ : MethodName)) hown (mvT hZ (hw _ (List.mem_of_getElem? (i := 26) rfl))) (mvT hZ (hw _ (List.mem_of_getElem? (i := 27) rfl))) (notFace_of_selects (args := #[]) (mvT hZ (hw _ (List.mem_of_getElem? (i := 29) rfl)))) (mvT hZ (hw _ (List.mem_of_getElem? (i := 29) rfl))) (mvT hZ (hw _ (List.mem_of_getElem? (i := 28) rfl))) (by decide) (backOf (W := 0) (rmget3 l Z a0 hw [] nb1_9 nb5_9 k5 h9 n0 f18 g9_0 g9_1 g9_2 g9_3) hZ (hw _ (List.mem_of_getElem? (i := 30) rfl)) (hw _ (List.mem_of_getElem? (i := 3) rfl)) (by decide) (by decide)) q17a q17c (g := (mkF m 147 #[.val (.long q0_), .second, .val (.long q1_), .second, .val (.long q2_), .second, .val (.int p3_), .val (.int p4_), .val (.int (0 : Int32)), .val (.ref b5), .val (.ref nb1_9), .val (.int (p4_ &&& (2147483647 : Int32)))] [(.int (0 : Int32)), (.ref nb1_9)])) rfl (by rw [hml]; rfl) (Steps.refl _) (argsL := [(.int (0 : Int32))]) (rest := []) (lenOf pd_2 rfl) rfl (by show 2 * 0 + _ ≤ _; exact Nat.le_of_eq rfl) (hb hby at_147) (fun _ _ => ⟨rfl, e9, (by decide : 3 + 0 ≤ _), (by decide : 1 + 0 ≤ _)⟩)
    dsimp only [Pt.U, Pt.locs, Pt.cells, Pt.slots] at X17 l17 y17 z17 st17 hQ17
    subst l17 y17 z17
    obtain ⟨h17, e17⟩ : ∃ z, T17.heap = z := ⟨_, rfl⟩
    rw [e17] at hQ17
    obtain ⟨rfl, N17q, hh17⟩ := hQ17
    have N19 := Fr.app N11 N17q
    have e17' : T17.heap = h9 := e17.trans hh17
    obtain ⟨_, _, ⟨T20, L20, k20, n20⟩, -, X20, ⟨Lc20, hQ20, l20, y20, z20⟩, st20⟩ := Jvm.LawKit.callS X17 hx (y := (⟨"com/example/latchkey/latchkey/LockTokensOfPinLaw", "expected", "(IIJJJ)J"⟩ : MethodName)) hown (mvT hZ (hw _ (List.mem_of_getElem? (i := 31) rfl))) (mvT hZ (hw _ (List.mem_of_getElem? (i := 32) rfl))) (mvT hZ (hw _ (List.mem_of_getElem? (i := 33) rfl))) (mvT hZ (hw _ (List.mem_of_getElem? (i := 34) rfl))) (by decide) (backOf (W := 2) (rmexpected4 l Z a0 hw [] q0_ q1_ q2_ h9 n0 f18 ) hZ (hw _ (List.mem_of_getElem? (i := 34) rfl)) (hw _ (List.mem_of_getElem? (i := 33) rfl)) (by decide) (by decide)) (g := (mkF m 157 #[.val (.long q0_), .second, .val (.long q1_), .second, .val (.long q2_), .second, .val (.int p3_), .val (.int p4_), .val (.int (0 : Int32)), .val (.ref b5), .val (.ref nb1_9), .val (.int (p4_ &&& (2147483647 : Int32)))] [(.long q2_), (.long q1_), (.long q0_), (.int (0 : Int32)), (.int (0 : Int32)), (.long (0 : Int64))])) rfl (by rw [hml]; rfl) (argsL := [(.int (0 : Int32)), (.int (0 : Int32)), (.long q0_), (.long q1_), (.long q2_)]) (rest := [(.long (0 : Int64))]) (lenOf pd_3 rfl) rfl (by show 2 * 0 + _ ≤ _; exact Nat.le_of_eq rfl) (hb hby at_157) (fun _ _ => ⟨rfl, e17', (by decide : 3 + 0 ≤ _), (by decide : 1 + 0 ≤ _)⟩)
    dsimp only [Pt.U, Pt.locs, Pt.cells, Pt.slots] at X20 l20 y20 z20 st20 hQ20
    subst l20 y20 z20
    obtain ⟨h20, e20⟩ : ∃ z, T20.heap = z := ⟨_, rfl⟩
    rw [e20] at hQ20
    obtain ⟨rfl, N20q, hh20⟩ := hQ20
    have N21 := Fr.app N19 N20q
    have e20' : T20.heap = h9 := e20.trans hh20
    obtain ⟨cq22, kq22, q22a, q22b, q22c⟩ := isOf hZ e20' g9_0
    obtain ⟨_, _, ⟨T22, L22, k22, n22⟩, -, X22, ⟨Lc22, hQ22, l22, y22, z22⟩, st22⟩ := X20.virtualBack hx (y := (⟨"com/example/latchkey/latchkey/LockTokens", "get", "(I)J"⟩ : MethodName)) (z := (⟨"com/example/latchkey/latchkey/LockTokens", "get", "(I)J"⟩ : MethodName)) hown (mvT hZ (hw _ (List.mem_of_getElem? (i := 26) rfl))) (mvT hZ (hw _ (List.mem_of_getElem? (i := 27) rfl))) (notFace_of_selects (args := #[]) (mvT hZ (hw _ (List.mem_of_getElem? (i := 29) rfl)))) (mvT hZ (hw _ (List.mem_of_getElem? (i := 29) rfl))) (mvT hZ (hw _ (List.mem_of_getElem? (i := 28) rfl))) (by decide) (backOf (W := 0) (rmget5 l Z a0 hw [] nb1_9 nb5_9 k5 h9 n0 f18 g9_0 g9_1 g9_2 g9_3) hZ (hw _ (List.mem_of_getElem? (i := 30) rfl)) (hw _ (List.mem_of_getElem? (i := 3) rfl)) (by decide) (by decide)) q22a q22c (g := (mkF m 167 #[.val (.long q0_), .second, .val (.long q1_), .second, .val (.long q2_), .second, .val (.int p3_), .val (.int p4_), .val (.int (0 : Int32)), .val (.ref b5), .val (.ref nb1_9), .val (.int (p4_ &&& (2147483647 : Int32)))] [(.int (1 : Int32)), (.ref nb1_9)])) rfl (by rw [hml]; rfl) (Steps.refl _) (argsL := [(.int (1 : Int32))]) (rest := []) (lenOf pd_2 rfl) rfl (by show 2 * 0 + _ ≤ _; exact Nat.le_of_eq rfl) (hb hby at_167) (fun _ _ => ⟨rfl, e20', (by decide : 3 + 0 ≤ _), (by decide : 1 + 0 ≤ _)⟩)
    dsimp only [Pt.U, Pt.locs, Pt.cells, Pt.slots] at X22 l22 y22 z22 st22 hQ22
    subst l22 y22 z22
    obtain ⟨h22, e22⟩ : ∃ z, T22.heap = z := ⟨_, rfl⟩
    rw [e22] at hQ22
    obtain ⟨rfl, N22q, hh22⟩ := hQ22
    have N23 := Fr.app N21 N22q
    have e22' : T22.heap = h9 := e22.trans hh22
    obtain ⟨_, _, ⟨T24, L24, k24, n24⟩, -, X24, ⟨Lc24, hQ24, l24, y24, z24⟩, st24⟩ := Jvm.LawKit.callS X22 hx (y := (⟨"com/example/latchkey/latchkey/LockTokensOfPinLaw", "expected", "(IIJJJ)J"⟩ : MethodName)) hown (mvT hZ (hw _ (List.mem_of_getElem? (i := 31) rfl))) (mvT hZ (hw _ (List.mem_of_getElem? (i := 32) rfl))) (mvT hZ (hw _ (List.mem_of_getElem? (i := 33) rfl))) (mvT hZ (hw _ (List.mem_of_getElem? (i := 34) rfl))) (by decide) (backOf (W := 2) (rmexpected6 l Z a0 hw [] q0_ q1_ q2_ h9 n0 f18 ) hZ (hw _ (List.mem_of_getElem? (i := 34) rfl)) (hw _ (List.mem_of_getElem? (i := 33) rfl)) (by decide) (by decide)) (g := (mkF m 177 #[.val (.long q0_), .second, .val (.long q1_), .second, .val (.long q2_), .second, .val (.int p3_), .val (.int p4_), .val (.int (0 : Int32)), .val (.ref b5), .val (.ref nb1_9), .val (.int (p4_ &&& (2147483647 : Int32)))] [(.long q2_), (.long q1_), (.long q0_), (.int (0 : Int32)), (.int (1 : Int32)), (.long (0 : Int64))])) rfl (by rw [hml]; rfl) (argsL := [(.int (1 : Int32)), (.int (0 : Int32)), (.long q0_), (.long q1_), (.long q2_)]) (rest := [(.long (0 : Int64))]) (lenOf pd_3 rfl) rfl (by show 2 * 0 + _ ≤ _; exact Nat.le_of_eq rfl) (hb hby at_177) (fun _ _ => ⟨rfl, e22', (by decide : 3 + 0 ≤ _), (by decide : 1 + 0 ≤ _)⟩)
    dsimp only [Pt.U, Pt.locs, Pt.cells, Pt.slots] at X24 l24 y24 z24 st24 hQ24
    subst l24 y24 z24
    obtain ⟨h24, e24⟩ : ∃ z, T24.heap = z := ⟨_, rfl⟩
    rw [e24] at hQ24
    obtain ⟨rfl, N24q, hh24⟩ := hQ24
    have N25 := Fr.app N23 N24q
    have e24' : T24.heap = h9 := e24.trans hh24
    obtain ⟨cq26, kq26, q26a, q26b, q26c⟩ := isOf hZ e24' g9_0
    obtain ⟨_, _, ⟨T26, L26, k26, n26⟩, -, X26, ⟨Lc26, hQ26, l26, y26, z26⟩, st26⟩ := X24.virtualBack hx (y := (⟨"com/example/latchkey/latchkey/LockTokens", "get", "(I)J"⟩ : MethodName)) (z := (⟨"com/example/latchkey/latchkey/LockTokens", "get", "(I)J"⟩ : MethodName)) hown (mvT hZ (hw _ (List.mem_of_getElem? (i := 26) rfl))) (mvT hZ (hw _ (List.mem_of_getElem? (i := 27) rfl))) (notFace_of_selects (args := #[]) (mvT hZ (hw _ (List.mem_of_getElem? (i := 29) rfl)))) (mvT hZ (hw _ (List.mem_of_getElem? (i := 29) rfl))) (mvT hZ (hw _ (List.mem_of_getElem? (i := 28) rfl))) (by decide) (backOf (W := 0) (rmget7 l Z a0 hw [] nb1_9 nb5_9 k5 h9 n0 f18 g9_0 g9_1 g9_2 g9_3) hZ (hw _ (List.mem_of_getElem? (i := 30) rfl)) (hw _ (List.mem_of_getElem? (i := 3) rfl)) (by decide) (by decide)) q26a q26c (g := (mkF m 187 #[.val (.long q0_), .second, .val (.long q1_), .second, .val (.long q2_), .second, .val (.int p3_), .val (.int p4_), .val (.int (0 : Int32)), .val (.ref b5), .val (.ref nb1_9), .val (.int (p4_ &&& (2147483647 : Int32)))] [(.int (2 : Int32)), (.ref nb1_9)])) rfl (by rw [hml]; rfl) (Steps.refl _) (argsL := [(.int (2 : Int32))]) (rest := []) (lenOf pd_2 rfl) rfl (by show 2 * 0 + _ ≤ _; exact Nat.le_of_eq rfl) (hb hby at_187) (fun _ _ => ⟨rfl, e24', (by decide : 3 + 0 ≤ _), (by decide : 1 + 0 ≤ _)⟩)
    dsimp only [Pt.U, Pt.locs, Pt.cells, Pt.slots] at X26 l26 y26 z26 st26 hQ26
    subst l26 y26 z26
    obtain ⟨h26, e26⟩ : ∃ z, T26.heap = z := ⟨_, rfl⟩
    rw [e26] at hQ26
    obtain ⟨rfl, N26q, hh26⟩ := hQ26
    have N27 := Fr.app N25 N26q
    have e26' : T26.heap = h9 := e26.trans hh26
    obtain ⟨_, _, ⟨T28, L28, k28, n28⟩, -, X28, ⟨Lc28, hQ28, l28, y28, z28⟩, st28⟩ := Jvm.LawKit.callS X26 hx (y := (⟨"com/example/latchkey/latchkey/LockTokensOfPinLaw", "expected", "(IIJJJ)J"⟩ : MethodName)) hown (mvT hZ (hw _ (List.mem_of_getElem? (i := 31) rfl))) (mvT hZ (hw _ (List.mem_of_getElem? (i := 32) rfl))) (mvT hZ (hw _ (List.mem_of_getElem? (i := 33) rfl))) (mvT hZ (hw _ (List.mem_of_getElem? (i := 34) rfl))) (by decide) (backOf (W := 2) (rmexpected8 l Z a0 hw [] q0_ q1_ q2_ h9 n0 f18 ) hZ (hw _ (List.mem_of_getElem? (i := 34) rfl)) (hw _ (List.mem_of_getElem? (i := 33) rfl)) (by decide) (by decide)) (g := (mkF m 197 #[.val (.long q0_), .second, .val (.long q1_), .second, .val (.long q2_), .second, .val (.int p3_), .val (.int p4_), .val (.int (0 : Int32)), .val (.ref b5), .val (.ref nb1_9), .val (.int (p4_ &&& (2147483647 : Int32)))] [(.long q2_), (.long q1_), (.long q0_), (.int (0 : Int32)), (.int (2 : Int32)), (.long (0 : Int64))])) rfl (by rw [hml]; rfl) (argsL := [(.int (2 : Int32)), (.int (0 : Int32)), (.long q0_), (.long q1_), (.long q2_)]) (rest := [(.long (0 : Int64))]) (lenOf pd_3 rfl) rfl (by show 2 * 0 + _ ≤ _; exact Nat.le_of_eq rfl) (hb hby at_197) (fun _ _ => ⟨rfl, e26', (by decide : 3 + 0 ≤ _), (by decide : 1 + 0 ≤ _)⟩)
    dsimp only [Pt.U, Pt.locs, Pt.cells, Pt.slots] at X28 l28 y28 z28 st28 hQ28
    subst l28 y28 z28
    obtain ⟨h28, e28⟩ : ∃ z, T28.heap = z := ⟨_, rfl⟩
    rw [e28] at hQ28
    obtain ⟨rfl, N28q, hh28⟩ := hQ28
    have N29 := Fr.app N27 N28q
    have e28' : T28.heap = h9 := e28.trans hh28
    obtain ⟨cq30, kq30, q30a, q30b, q30c⟩ := isOf hZ e28' g9_0
    obtain ⟨_, _, ⟨T30, L30, k30, n30⟩, -, X30, ⟨Lc30, hQ30, l30, y30, z30⟩, st30⟩ := X28.virtualBack hx (y := (⟨"com/example/latchkey/latchkey/LockTokens", "get", "(I)J"⟩ : MethodName)) (z := (⟨"com/example/latchkey/latchkey/LockTokens", "get", "(I)J"⟩ : MethodName)) hown (mvT hZ (hw _ (List.mem_of_getElem? (i := 26) rfl))) (mvT hZ (hw _ (List.mem_of_getElem? (i := 27) rfl))) (notFace_of_selects (args := #[]) (mvT hZ (hw _ (List.mem_of_getElem? (i := 29) rfl)))) (mvT hZ (hw _ (List.mem_of_getElem? (i := 29) rfl))) (mvT hZ (hw _ (List.mem_of_getElem? (i := 28) rfl))) (by decide) (backOf (W := 0) (rmget9 l Z a0 hw [] nb1_9 nb5_9 k5 h9 n0 f18 g9_0 g9_1 g9_2 g9_3) hZ (hw _ (List.mem_of_getElem? (i := 30) rfl)) (hw _ (List.mem_of_getElem? (i := 3) rfl)) (by decide) (by decide)) q30a q30c (g := (mkF m 207 #[.val (.long q0_), .second, .val (.long q1_), .second, .val (.long q2_), .second, .val (.int p3_), .val (.int p4_), .val (.int (0 : Int32)), .val (.ref b5), .val (.ref nb1_9), .val (.int (p4_ &&& (2147483647 : Int32)))] [(.int (3 : Int32)), (.ref nb1_9)])) rfl (by rw [hml]; rfl) (Steps.refl _) (argsL := [(.int (3 : Int32))]) (rest := []) (lenOf pd_2 rfl) rfl (by show 2 * 0 + _ ≤ _; exact Nat.le_of_eq rfl) (hb hby at_207) (fun _ _ => ⟨rfl, e28', (by decide : 3 + 0 ≤ _), (by decide : 1 + 0 ≤ _)⟩)
    dsimp only [Pt.U, Pt.locs, Pt.cells, Pt.slots] at X30 l30 y30 z30 st30 hQ30
    subst l30 y30 z30
    obtain ⟨h30, e30⟩ : ∃ z, T30.heap = z := ⟨_, rfl⟩
    rw [e30] at hQ30
    obtain ⟨rfl, N30q, hh30⟩ := hQ30
    have N31 := Fr.app N29 N30q
    have e30' : T30.heap = h9 := e30.trans hh30
    obtain ⟨_, _, ⟨T32, L32, k32, n32⟩, -, X32, ⟨Lc32, hQ32, l32, y32, z32⟩, st32⟩ := Jvm.LawKit.callS X30 hx (y := (⟨"com/example/latchkey/latchkey/LockTokensOfPinLaw", "expected", "(IIJJJ)J"⟩ : MethodName)) hown (mvT hZ (hw _ (List.mem_of_getElem? (i := 31) rfl))) (mvT hZ (hw _ (List.mem_of_getElem? (i := 32) rfl))) (mvT hZ (hw _ (List.mem_of_getElem? (i := 33) rfl))) (mvT hZ (hw _ (List.mem_of_getElem? (i := 34) rfl))) (by decide) (backOf (W := 2) (rmexpected10 l Z a0 hw [] q0_ q1_ q2_ h9 n0 f18 ) hZ (hw _ (List.mem_of_getElem? (i := 34) rfl)) (hw _ (List.mem_of_getElem? (i := 33) rfl)) (by decide) (by decide)) (g := (mkF m 217 #[.val (.long q0_), .second, .val (.long q1_), .second, .val (.long q2_), .second, .val (.int p3_), .val (.int p4_), .val (.int (0 : Int32)), .val (.ref b5), .val (.ref nb1_9), .val (.int (p4_ &&& (2147483647 : Int32)))] [(.long q2_), (.long q1_), (.long q0_), (.int (0 : Int32)), (.int (3 : Int32)), (.long (0 : Int64))])) rfl (by rw [hml]; rfl) (argsL := [(.int (3 : Int32)), (.int (0 : Int32)), (.long q0_), (.long q1_), (.long q2_)]) (rest := [(.long (0 : Int64))]) (lenOf pd_3 rfl) rfl (by show 2 * 0 + _ ≤ _; exact Nat.le_of_eq rfl) (hb hby at_217) (fun _ _ => ⟨rfl, e30', (by decide : 3 + 0 ≤ _), (by decide : 1 + 0 ≤ _)⟩)
    dsimp only [Pt.U, Pt.locs, Pt.cells, Pt.slots] at X32 l32 y32 z32 st32 hQ32
    subst l32 y32 z32
    obtain ⟨h32, e32⟩ : ∃ z, T32.heap = z := ⟨_, rfl⟩
    rw [e32] at hQ32
    obtain ⟨rfl, N32q, hh32⟩ := hQ32
    have N33 := Fr.app N31 N32q
    have e32' : T32.heap = h9 := e32.trans hh32
    have hn34 : ¬ ((p4_ &&& (2147483647 : Int32)) < (0 : Int32)) := own_node _
    obtain ⟨cq35, kq35, q35a, q35b, q35c⟩ := isOf hZ e32' g9_0
    obtain ⟨_, _, ⟨T35, L35, k35, n35⟩, -, X35, ⟨Lc35, hQ35, l35, y35, z35⟩, st35⟩ := X32.virtualBack hx (y := (⟨"com/example/latchkey/latchkey/LockTokens", "get", "(I)J"⟩ : MethodName)) (z := (⟨"com/example/latchkey/latchkey/LockTokens", "get", "(I)J"⟩ : MethodName)) hown (mvT hZ (hw _ (List.mem_of_getElem? (i := 26) rfl))) (mvT hZ (hw _ (List.mem_of_getElem? (i := 27) rfl))) (notFace_of_selects (args := #[]) (mvT hZ (hw _ (List.mem_of_getElem? (i := 29) rfl)))) (mvT hZ (hw _ (List.mem_of_getElem? (i := 29) rfl))) (mvT hZ (hw _ (List.mem_of_getElem? (i := 28) rfl))) (by decide) (backOf (W := 0) (rmget11 l Z a0 hw [] nb1_9 (p4_ &&& (2147483647 : Int32)) nb5_9 k5 h9 n0 f18 hn34 g9_0 g9_1 g9_2 g9_3) hZ (hw _ (List.mem_of_getElem? (i := 30) rfl)) (hw _ (List.mem_of_getElem? (i := 3) rfl)) (by decide) (by decide)) q35a q35c (g := (mkF m 228 #[.val (.long q0_), .second, .val (.long q1_), .second, .val (.long q2_), .second, .val (.int p3_), .val (.int p4_), .val (.int (0 : Int32)), .val (.ref b5), .val (.ref nb1_9), .val (.int (p4_ &&& (2147483647 : Int32)))] [(.int (p4_ &&& (2147483647 : Int32))), (.ref nb1_9)])) rfl (by rw [hml]; rfl) (Steps.refl _) (argsL := [(.int (p4_ &&& (2147483647 : Int32)))]) (rest := []) (lenOf pd_2 rfl) rfl (by show 2 * 0 + _ ≤ _; exact Nat.le_of_eq rfl) (hb hby at_228) (fun _ _ => ⟨rfl, e32', (by decide : 3 + 0 ≤ _), (by decide : 1 + 0 ≤ _)⟩)
    dsimp only [Pt.U, Pt.locs, Pt.cells, Pt.slots] at X35 l35 y35 z35 st35 hQ35
    subst l35 y35 z35
    obtain ⟨h35, e35⟩ : ∃ z, T35.heap = z := ⟨_, rfl⟩
    rw [e35] at hQ35
    obtain ⟨rfl, N35q, hh35⟩ := hQ35
    have N36 := Fr.app N33 N35q
    have e35' : T35.heap = h9 := e35.trans hh35
    obtain ⟨_, _, ⟨T37, L37, k37, n37⟩, -, X37, ⟨Lc37, hQ37, l37, y37, z37⟩, st37⟩ := Jvm.LawKit.callS X35 hx (y := (⟨"com/example/latchkey/latchkey/LockTokensOfPinLaw", "expected", "(IIJJJ)J"⟩ : MethodName)) hown (mvT hZ (hw _ (List.mem_of_getElem? (i := 31) rfl))) (mvT hZ (hw _ (List.mem_of_getElem? (i := 32) rfl))) (mvT hZ (hw _ (List.mem_of_getElem? (i := 33) rfl))) (mvT hZ (hw _ (List.mem_of_getElem? (i := 34) rfl))) (by decide) (backOf (W := 2) (rmexpected12 l Z a0 hw [] (p4_ &&& (2147483647 : Int32)) q0_ q1_ q2_ h9 n0 f18 ) hZ (hw _ (List.mem_of_getElem? (i := 34) rfl)) (hw _ (List.mem_of_getElem? (i := 33) rfl)) (by decide) (by decide)) (g := (mkF m 239 #[.val (.long q0_), .second, .val (.long q1_), .second, .val (.long q2_), .second, .val (.int p3_), .val (.int p4_), .val (.int (0 : Int32)), .val (.ref b5), .val (.ref nb1_9), .val (.int (p4_ &&& (2147483647 : Int32)))] [(.long q2_), (.long q1_), (.long q0_), (.int (0 : Int32)), (.int (p4_ &&& (2147483647 : Int32))), (.long (0 : Int64))])) rfl (by rw [hml]; rfl) (argsL := [(.int (p4_ &&& (2147483647 : Int32))), (.int (0 : Int32)), (.long q0_), (.long q1_), (.long q2_)]) (rest := [(.long (0 : Int64))]) (lenOf pd_3 rfl) rfl (by show 2 * 0 + _ ≤ _; exact Nat.le_of_eq rfl) (hb hby at_239) (fun _ _ => ⟨rfl, e35', (by decide : 3 + 0 ≤ _), (by decide : 1 + 0 ≤ _)⟩)
    dsimp only [Pt.U, Pt.locs, Pt.cells, Pt.slots] at X37 l37 y37 z37 st37 hQ37
    subst l37 y37 z37
    obtain ⟨h37, e37⟩ : ∃ z, T37.heap = z := ⟨_, rfl⟩
    rw [e37] at hQ37
    obtain ⟨rr37, rfl, hs37, N37q, hh37⟩ := hQ37
    have N38 := Fr.app N36 N37q
    have e37' : T37.heap = h9 := e37.trans hh37
    rcases hs37 with ⟨rfl, hq37_0_0⟩ | ⟨rfl, hq37_1_0⟩
    · exact absurd hq37_0_0 (by intro hz; have lt_0 : ((0 : Int32)).toInt = 0 := rfl; have lt_1 : ((2147483647 : Int32)).toInt = 2147483647 := rfl; simp only [Int32.lt_iff_toInt_lt, Int64.lt_iff_toInt_lt, ← Int32.toInt_inj, ← Int64.toInt_inj] at hz hn34; omega)
    · have pre39 : ∀ t, Steps p.tables e below (T37.setTop (mkF m 251 #[.val (.long q0_), .second, .val (.long q1_), .second, .val (.long q2_), .second, .val (.int p3_), .val (.int p4_), .val (.int (0 : Int32)), .val (.ref b5), .val (.ref nb1_9), .val (.int (p4_ &&& (2147483647 : Int32)))] [(.int (1 : Int32))])) t → Steps p.tables e below (s₁.setTop (entryFrame m #[(.long q0_), (.long q1_), (.long q2_), (.int p3_), (.int p4_)] maxLocals)) t := by
        intro t kt
        refine pre4 t ?_
        show Steps p.tables e below (s₁.setTop (mkF m 6 #[.val (.long q0_), .second, .val (.long q1_), .second, .val (.long q2_), .second, .val (.int p3_), .val (.int p4_), .val (.int (0 : Int32)), .unset, .unset, .unset] [])) _
        refine XS.iload X0.here hx rfl (hb hby at_6) rfl ?_
        show Steps p.tables e below (s₁.setTop (mkF m 8 #[.val (.long q0_), .second, .val (.long q1_), .second, .val (.long q2_), .second, .val (.int p3_), .val (.int p4_), .val (.int (0 : Int32)), .unset, .unset, .unset] [(.int (0 : Int32))])) _
        refine XS.ifNo X0.here hx rfl (hb hby at_8) rfl ((if0 _ _).trans (teq (by decide : (0 : Int32) = (0 : Int32))).2) ?_
        show Steps p.tables e below (s₁.setTop (mkF m 11 #[.val (.long q0_), .second, .val (.long q1_), .second, .val (.long q2_), .second, .val (.int p3_), .val (.int p4_), .val (.int (0 : Int32)), .unset, .unset, .unset] [])) _
        refine XS.iconst X0.here hx rfl (hb hby at_11) ?_
        show Steps p.tables e below (s₁.setTop (mkF m 12 #[.val (.long q0_), .second, .val (.long q1_), .second, .val (.long q2_), .second, .val (.int p3_), .val (.int p4_), .val (.int (0 : Int32)), .unset, .unset, .unset] [(.int (0 : Int32))])) _
        refine st5 _ ?_
        show Steps p.tables e below (T5.setTop (mkF m 14 #[.val (.long q0_), .second, .val (.long q1_), .second, .val (.long q2_), .second, .val (.int p3_), .val (.int p4_), .val (.int (0 : Int32)), .unset, .unset, .unset] [(.ref b5)])) _
        refine XS.astore X5.here hx rfl (hb hby at_14) rfl rfl (l' := #[.val (.long q0_), .second, .val (.long q1_), .second, .val (.long q2_), .second, .val (.int p3_), .val (.int p4_), .val (.int (0 : Int32)), .val (.ref b5), .unset, .unset]) rfl ?_
        show Steps p.tables e below (T5.setTop (mkF m 16 #[.val (.long q0_), .second, .val (.long q1_), .second, .val (.long q2_), .second, .val (.int p3_), .val (.int p4_), .val (.int (0 : Int32)), .val (.ref b5), .unset, .unset] [])) _
        refine XS.goto X5.here hx rfl (pc0 := 16) (pc' := 77) rfl (hb hby at_16) (by decide) (by decide) ?_
        show Steps p.tables e below (T5.setTop (mkF m 77 #[.val (.long q0_), .second, .val (.long q1_), .second, .val (.long q2_), .second, .val (.int p3_), .val (.int p4_), .val (.int (0 : Int32)), .val (.ref b5), .unset, .unset] [])) _
        refine XS.aload X5.here hx rfl (hb hby at_77) rfl rfl ?_
        show Steps p.tables e below (T5.setTop (mkF m 79 #[.val (.long q0_), .second, .val (.long q1_), .second, .val (.long q2_), .second, .val (.int p3_), .val (.int p4_), .val (.int (0 : Int32)), .val (.ref b5), .unset, .unset] [(.ref b5)])) _
        refine st9 _ ?_
        show Steps p.tables e below (T9.setTop (mkF m 82 #[.val (.long q0_), .second, .val (.long q1_), .second, .val (.long q2_), .second, .val (.int p3_), .val (.int p4_), .val (.int (0 : Int32)), .val (.ref b5), .unset, .unset] [(.ref nb1_9)])) _
        refine XS.astore X9.here hx rfl (hb hby at_82) rfl rfl (l' := #[.val (.long q0_), .second, .val (.long q1_), .second, .val (.long q2_), .second, .val (.int p3_), .val (.int p4_), .val (.int (0 : Int32)), .val (.ref b5), .val (.ref nb1_9), .unset]) rfl ?_
        show Steps p.tables e below (T9.setTop (mkF m 84 #[.val (.long q0_), .second, .val (.long q1_), .second, .val (.long q2_), .second, .val (.int p3_), .val (.int p4_), .val (.int (0 : Int32)), .val (.ref b5), .val (.ref nb1_9), .unset] [])) _
        refine XS.iload X9.here hx rfl (hb hby at_84) rfl ?_
        show Steps p.tables e below (T9.setTop (mkF m 86 #[.val (.long q0_), .second, .val (.long q1_), .second, .val (.long q2_), .second, .val (.int p3_), .val (.int p4_), .val (.int (0 : Int32)), .val (.ref b5), .val (.ref nb1_9), .unset] [(.int (0 : Int32))])) _
        refine XS.ifYes X9.here hx rfl (pc0 := 86) (pc' := 101) rfl (hb hby at_86) rfl ((if0 _ _).trans (flt (by decide : ¬ ((0 : Int32) < (0 : Int32)))).2.2.2) (by decide) (by decide) ?_
        show Steps p.tables e below (T9.setTop (mkF m 101 #[.val (.long q0_), .second, .val (.long q1_), .second, .val (.long q2_), .second, .val (.int p3_), .val (.int p4_), .val (.int (0 : Int32)), .val (.ref b5), .val (.ref nb1_9), .unset] [])) _
        refine XS.iload X9.here hx rfl (hb hby at_101) rfl ?_
        show Steps p.tables e below (T9.setTop (mkF m 103 #[.val (.long q0_), .second, .val (.long q1_), .second, .val (.long q2_), .second, .val (.int p3_), .val (.int p4_), .val (.int (0 : Int32)), .val (.ref b5), .val (.ref nb1_9), .unset] [(.int (0 : Int32))])) _
        refine XS.iconst X9.here hx rfl (hb hby at_103) ?_
        show Steps p.tables e below (T9.setTop (mkF m 104 #[.val (.long q0_), .second, .val (.long q1_), .second, .val (.long q2_), .second, .val (.int p3_), .val (.int p4_), .val (.int (0 : Int32)), .val (.ref b5), .val (.ref nb1_9), .unset] [(.int (1 : Int32)), (.int (0 : Int32))])) _
        refine XS.icmpYes X9.here hx rfl (pc0 := 104) (pc' := 119) rfl (hb hby at_104) rfl (flt (by decide : ¬ ((1 : Int32) < (0 : Int32)))).2.2.2 (by decide) (by decide) ?_
        show Steps p.tables e below (T9.setTop (mkF m 119 #[.val (.long q0_), .second, .val (.long q1_), .second, .val (.long q2_), .second, .val (.int p3_), .val (.int p4_), .val (.int (0 : Int32)), .val (.ref b5), .val (.ref nb1_9), .unset] [])) _
        refine XS.iload X9.here hx rfl (hb hby at_119) rfl ?_
        show Steps p.tables e below (T9.setTop (mkF m 121 #[.val (.long q0_), .second, .val (.long q1_), .second, .val (.long q2_), .second, .val (.int p3_), .val (.int p4_), .val (.int (0 : Int32)), .val (.ref b5), .val (.ref nb1_9), .unset] [(.int (0 : Int32))])) _
        refine XS.iconst X9.here hx rfl (hb hby at_121) ?_
        show Steps p.tables e below (T9.setTop (mkF m 122 #[.val (.long q0_), .second, .val (.long q1_), .second, .val (.long q2_), .second, .val (.int p3_), .val (.int p4_), .val (.int (0 : Int32)), .val (.ref b5), .val (.ref nb1_9), .unset] [(.int (2 : Int32)), (.int (0 : Int32))])) _
        refine XS.icmpYes X9.here hx rfl (pc0 := 122) (pc' := 137) rfl (hb hby at_122) rfl (flt (by decide : ¬ ((2 : Int32) < (0 : Int32)))).2.2.2 (by decide) (by decide) ?_
        show Steps p.tables e below (T9.setTop (mkF m 137 #[.val (.long q0_), .second, .val (.long q1_), .second, .val (.long q2_), .second, .val (.int p3_), .val (.int p4_), .val (.int (0 : Int32)), .val (.ref b5), .val (.ref nb1_9), .unset] [])) _
        refine XS.iload X9.here hx rfl (hb hby at_137) rfl ?_
        show Steps p.tables e below (T9.setTop (mkF m 139 #[.val (.long q0_), .second, .val (.long q1_), .second, .val (.long q2_), .second, .val (.int p3_), .val (.int p4_), .val (.int (0 : Int32)), .val (.ref b5), .val (.ref nb1_9), .unset] [(.int p4_)])) _
        refine X9.ldcInt hx hown (mvT hZ (hw _ (List.mem_of_getElem? (i := 25) rfl))) (g := (mkF m 139 #[.val (.long q0_), .second, .val (.long q1_), .second, .val (.long q2_), .second, .val (.int p3_), .val (.int p4_), .val (.int (0 : Int32)), .val (.ref b5), .val (.ref nb1_9), .unset] [(.int p4_)])) rfl (hb hby at_139) _ ?_
        show Steps p.tables e below (T9.setTop (mkF m 141 #[.val (.long q0_), .second, .val (.long q1_), .second, .val (.long q2_), .second, .val (.int p3_), .val (.int p4_), .val (.int (0 : Int32)), .val (.ref b5), .val (.ref nb1_9), .unset] [(.int (2147483647 : Int32)), (.int p4_)])) _
        refine XS.iand X9.here hx rfl (hb hby at_141) rfl ?_
        show Steps p.tables e below (T9.setTop (mkF m 142 #[.val (.long q0_), .second, .val (.long q1_), .second, .val (.long q2_), .second, .val (.int p3_), .val (.int p4_), .val (.int (0 : Int32)), .val (.ref b5), .val (.ref nb1_9), .unset] [(.int (p4_ &&& (2147483647 : Int32)))])) _
        refine XS.istore X9.here hx rfl (hb hby at_142) rfl (l' := #[.val (.long q0_), .second, .val (.long q1_), .second, .val (.long q2_), .second, .val (.int p3_), .val (.int p4_), .val (.int (0 : Int32)), .val (.ref b5), .val (.ref nb1_9), .val (.int (p4_ &&& (2147483647 : Int32)))]) rfl ?_
        show Steps p.tables e below (T9.setTop (mkF m 144 #[.val (.long q0_), .second, .val (.long q1_), .second, .val (.long q2_), .second, .val (.int p3_), .val (.int p4_), .val (.int (0 : Int32)), .val (.ref b5), .val (.ref nb1_9), .val (.int (p4_ &&& (2147483647 : Int32)))] [])) _
        refine XS.aload X9.here hx rfl (hb hby at_144) rfl rfl ?_
        show Steps p.tables e below (T9.setTop (mkF m 146 #[.val (.long q0_), .second, .val (.long q1_), .second, .val (.long q2_), .second, .val (.int p3_), .val (.int p4_), .val (.int (0 : Int32)), .val (.ref b5), .val (.ref nb1_9), .val (.int (p4_ &&& (2147483647 : Int32)))] [(.ref nb1_9)])) _
        refine XS.iconst X9.here hx rfl (hb hby at_146) ?_
        show Steps p.tables e below (T9.setTop (mkF m 147 #[.val (.long q0_), .second, .val (.long q1_), .second, .val (.long q2_), .second, .val (.int p3_), .val (.int p4_), .val (.int (0 : Int32)), .val (.ref b5), .val (.ref nb1_9), .val (.int (p4_ &&& (2147483647 : Int32)))] [(.int (0 : Int32)), (.ref nb1_9)])) _
        refine st17.trans ?_
        show Steps p.tables e below (T17.setTop (mkF m 150 #[.val (.long q0_), .second, .val (.long q1_), .second, .val (.long q2_), .second, .val (.int p3_), .val (.int p4_), .val (.int (0 : Int32)), .val (.ref b5), .val (.ref nb1_9), .val (.int (p4_ &&& (2147483647 : Int32)))] [(.long (0 : Int64))])) _
        refine XS.iconst X17.here hx rfl (hb hby at_150) ?_
        show Steps p.tables e below (T17.setTop (mkF m 151 #[.val (.long q0_), .second, .val (.long q1_), .second, .val (.long q2_), .second, .val (.int p3_), .val (.int p4_), .val (.int (0 : Int32)), .val (.ref b5), .val (.ref nb1_9), .val (.int (p4_ &&& (2147483647 : Int32)))] [(.int (0 : Int32)), (.long (0 : Int64))])) _
        refine XS.iload X17.here hx rfl (hb hby at_151) rfl ?_
        show Steps p.tables e below (T17.setTop (mkF m 153 #[.val (.long q0_), .second, .val (.long q1_), .second, .val (.long q2_), .second, .val (.int p3_), .val (.int p4_), .val (.int (0 : Int32)), .val (.ref b5), .val (.ref nb1_9), .val (.int (p4_ &&& (2147483647 : Int32)))] [(.int (0 : Int32)), (.int (0 : Int32)), (.long (0 : Int64))])) _
        refine XS.lloadN X17.here hx rfl (hb hby at_153) rfl ?_
        show Steps p.tables e below (T17.setTop (mkF m 154 #[.val (.long q0_), .second, .val (.long q1_), .second, .val (.long q2_), .second, .val (.int p3_), .val (.int p4_), .val (.int (0 : Int32)), .val (.ref b5), .val (.ref nb1_9), .val (.int (p4_ &&& (2147483647 : Int32)))] [(.long q0_), (.int (0 : Int32)), (.int (0 : Int32)), (.long (0 : Int64))])) _
        refine XS.lloadN X17.here hx rfl (hb hby at_154) rfl ?_
        show Steps p.tables e below (T17.setTop (mkF m 155 #[.val (.long q0_), .second, .val (.long q1_), .second, .val (.long q2_), .second, .val (.int p3_), .val (.int p4_), .val (.int (0 : Int32)), .val (.ref b5), .val (.ref nb1_9), .val (.int (p4_ &&& (2147483647 : Int32)))] [(.long q1_), (.long q0_), (.int (0 : Int32)), (.int (0 : Int32)), (.long (0 : Int64))])) _
        refine XS.lload X17.here hx rfl (hb hby at_155) rfl ?_
        show Steps p.tables e below (T17.setTop (mkF m 157 #[.val (.long q0_), .second, .val (.long q1_), .second, .val (.long q2_), .second, .val (.int p3_), .val (.int p4_), .val (.int (0 : Int32)), .val (.ref b5), .val (.ref nb1_9), .val (.int (p4_ &&& (2147483647 : Int32)))] [(.long q2_), (.long q1_), (.long q0_), (.int (0 : Int32)), (.int (0 : Int32)), (.long (0 : Int64))])) _
        refine st20 _ ?_
        show Steps p.tables e below (T20.setTop (mkF m 160 #[.val (.long q0_), .second, .val (.long q1_), .second, .val (.long q2_), .second, .val (.int p3_), .val (.int p4_), .val (.int (0 : Int32)), .val (.ref b5), .val (.ref nb1_9), .val (.int (p4_ &&& (2147483647 : Int32)))] [(.long (0 : Int64)), (.long (0 : Int64))])) _
        refine XS.lcmp X20.here hx rfl (hb hby at_160) rfl ?_
        show Steps p.tables e below (T20.setTop (mkF m 161 #[.val (.long q0_), .second, .val (.long q1_), .second, .val (.long q2_), .second, .val (.int p3_), .val (.int p4_), .val (.int (0 : Int32)), .val (.ref b5), .val (.ref nb1_9), .val (.int (p4_ &&& (2147483647 : Int32)))] [(.int (lcmpW (0 : Int64) (0 : Int64)))])) _
        refine XS.ifNo X20.here hx rfl (hb hby at_161) rfl ((if0 _ _).trans (teq ((lw_eq _ _).mpr (by decide : (0 : Int64) = (0 : Int64)))).2) ?_
        show Steps p.tables e below (T20.setTop (mkF m 164 #[.val (.long q0_), .second, .val (.long q1_), .second, .val (.long q2_), .second, .val (.int p3_), .val (.int p4_), .val (.int (0 : Int32)), .val (.ref b5), .val (.ref nb1_9), .val (.int (p4_ &&& (2147483647 : Int32)))] [])) _
        refine XS.aload X20.here hx rfl (hb hby at_164) rfl rfl ?_
        show Steps p.tables e below (T20.setTop (mkF m 166 #[.val (.long q0_), .second, .val (.long q1_), .second, .val (.long q2_), .second, .val (.int p3_), .val (.int p4_), .val (.int (0 : Int32)), .val (.ref b5), .val (.ref nb1_9), .val (.int (p4_ &&& (2147483647 : Int32)))] [(.ref nb1_9)])) _
        refine XS.iconst X20.here hx rfl (hb hby at_166) ?_
        show Steps p.tables e below (T20.setTop (mkF m 167 #[.val (.long q0_), .second, .val (.long q1_), .second, .val (.long q2_), .second, .val (.int p3_), .val (.int p4_), .val (.int (0 : Int32)), .val (.ref b5), .val (.ref nb1_9), .val (.int (p4_ &&& (2147483647 : Int32)))] [(.int (1 : Int32)), (.ref nb1_9)])) _
        refine st22.trans ?_
        show Steps p.tables e below (T22.setTop (mkF m 170 #[.val (.long q0_), .second, .val (.long q1_), .second, .val (.long q2_), .second, .val (.int p3_), .val (.int p4_), .val (.int (0 : Int32)), .val (.ref b5), .val (.ref nb1_9), .val (.int (p4_ &&& (2147483647 : Int32)))] [(.long (0 : Int64))])) _
        refine XS.iconst X22.here hx rfl (hb hby at_170) ?_
        show Steps p.tables e below (T22.setTop (mkF m 171 #[.val (.long q0_), .second, .val (.long q1_), .second, .val (.long q2_), .second, .val (.int p3_), .val (.int p4_), .val (.int (0 : Int32)), .val (.ref b5), .val (.ref nb1_9), .val (.int (p4_ &&& (2147483647 : Int32)))] [(.int (1 : Int32)), (.long (0 : Int64))])) _
        refine XS.iload X22.here hx rfl (hb hby at_171) rfl ?_
        show Steps p.tables e below (T22.setTop (mkF m 173 #[.val (.long q0_), .second, .val (.long q1_), .second, .val (.long q2_), .second, .val (.int p3_), .val (.int p4_), .val (.int (0 : Int32)), .val (.ref b5), .val (.ref nb1_9), .val (.int (p4_ &&& (2147483647 : Int32)))] [(.int (0 : Int32)), (.int (1 : Int32)), (.long (0 : Int64))])) _
        refine XS.lloadN X22.here hx rfl (hb hby at_173) rfl ?_
        show Steps p.tables e below (T22.setTop (mkF m 174 #[.val (.long q0_), .second, .val (.long q1_), .second, .val (.long q2_), .second, .val (.int p3_), .val (.int p4_), .val (.int (0 : Int32)), .val (.ref b5), .val (.ref nb1_9), .val (.int (p4_ &&& (2147483647 : Int32)))] [(.long q0_), (.int (0 : Int32)), (.int (1 : Int32)), (.long (0 : Int64))])) _
        refine XS.lloadN X22.here hx rfl (hb hby at_174) rfl ?_
        show Steps p.tables e below (T22.setTop (mkF m 175 #[.val (.long q0_), .second, .val (.long q1_), .second, .val (.long q2_), .second, .val (.int p3_), .val (.int p4_), .val (.int (0 : Int32)), .val (.ref b5), .val (.ref nb1_9), .val (.int (p4_ &&& (2147483647 : Int32)))] [(.long q1_), (.long q0_), (.int (0 : Int32)), (.int (1 : Int32)), (.long (0 : Int64))])) _
        refine XS.lload X22.here hx rfl (hb hby at_175) rfl ?_
        show Steps p.tables e below (T22.setTop (mkF m 177 #[.val (.long q0_), .second, .val (.long q1_), .second, .val (.long q2_), .second, .val (.int p3_), .val (.int p4_), .val (.int (0 : Int32)), .val (.ref b5), .val (.ref nb1_9), .val (.int (p4_ &&& (2147483647 : Int32)))] [(.long q2_), (.long q1_), (.long q0_), (.int (0 : Int32)), (.int (1 : Int32)), (.long (0 : Int64))])) _
        refine st24 _ ?_
        show Steps p.tables e below (T24.setTop (mkF m 180 #[.val (.long q0_), .second, .val (.long q1_), .second, .val (.long q2_), .second, .val (.int p3_), .val (.int p4_), .val (.int (0 : Int32)), .val (.ref b5), .val (.ref nb1_9), .val (.int (p4_ &&& (2147483647 : Int32)))] [(.long (0 : Int64)), (.long (0 : Int64))])) _
        refine XS.lcmp X24.here hx rfl (hb hby at_180) rfl ?_
        show Steps p.tables e below (T24.setTop (mkF m 181 #[.val (.long q0_), .second, .val (.long q1_), .second, .val (.long q2_), .second, .val (.int p3_), .val (.int p4_), .val (.int (0 : Int32)), .val (.ref b5), .val (.ref nb1_9), .val (.int (p4_ &&& (2147483647 : Int32)))] [(.int (lcmpW (0 : Int64) (0 : Int64)))])) _
        refine XS.ifNo X24.here hx rfl (hb hby at_181) rfl ((if0 _ _).trans (teq ((lw_eq _ _).mpr (by decide : (0 : Int64) = (0 : Int64)))).2) ?_
        show Steps p.tables e below (T24.setTop (mkF m 184 #[.val (.long q0_), .second, .val (.long q1_), .second, .val (.long q2_), .second, .val (.int p3_), .val (.int p4_), .val (.int (0 : Int32)), .val (.ref b5), .val (.ref nb1_9), .val (.int (p4_ &&& (2147483647 : Int32)))] [])) _
        refine XS.aload X24.here hx rfl (hb hby at_184) rfl rfl ?_
        show Steps p.tables e below (T24.setTop (mkF m 186 #[.val (.long q0_), .second, .val (.long q1_), .second, .val (.long q2_), .second, .val (.int p3_), .val (.int p4_), .val (.int (0 : Int32)), .val (.ref b5), .val (.ref nb1_9), .val (.int (p4_ &&& (2147483647 : Int32)))] [(.ref nb1_9)])) _
        refine XS.iconst X24.here hx rfl (hb hby at_186) ?_
        show Steps p.tables e below (T24.setTop (mkF m 187 #[.val (.long q0_), .second, .val (.long q1_), .second, .val (.long q2_), .second, .val (.int p3_), .val (.int p4_), .val (.int (0 : Int32)), .val (.ref b5), .val (.ref nb1_9), .val (.int (p4_ &&& (2147483647 : Int32)))] [(.int (2 : Int32)), (.ref nb1_9)])) _
        refine st26.trans ?_
        show Steps p.tables e below (T26.setTop (mkF m 190 #[.val (.long q0_), .second, .val (.long q1_), .second, .val (.long q2_), .second, .val (.int p3_), .val (.int p4_), .val (.int (0 : Int32)), .val (.ref b5), .val (.ref nb1_9), .val (.int (p4_ &&& (2147483647 : Int32)))] [(.long (0 : Int64))])) _
        refine XS.iconst X26.here hx rfl (hb hby at_190) ?_
        show Steps p.tables e below (T26.setTop (mkF m 191 #[.val (.long q0_), .second, .val (.long q1_), .second, .val (.long q2_), .second, .val (.int p3_), .val (.int p4_), .val (.int (0 : Int32)), .val (.ref b5), .val (.ref nb1_9), .val (.int (p4_ &&& (2147483647 : Int32)))] [(.int (2 : Int32)), (.long (0 : Int64))])) _
        refine XS.iload X26.here hx rfl (hb hby at_191) rfl ?_
        show Steps p.tables e below (T26.setTop (mkF m 193 #[.val (.long q0_), .second, .val (.long q1_), .second, .val (.long q2_), .second, .val (.int p3_), .val (.int p4_), .val (.int (0 : Int32)), .val (.ref b5), .val (.ref nb1_9), .val (.int (p4_ &&& (2147483647 : Int32)))] [(.int (0 : Int32)), (.int (2 : Int32)), (.long (0 : Int64))])) _
        refine XS.lloadN X26.here hx rfl (hb hby at_193) rfl ?_
        show Steps p.tables e below (T26.setTop (mkF m 194 #[.val (.long q0_), .second, .val (.long q1_), .second, .val (.long q2_), .second, .val (.int p3_), .val (.int p4_), .val (.int (0 : Int32)), .val (.ref b5), .val (.ref nb1_9), .val (.int (p4_ &&& (2147483647 : Int32)))] [(.long q0_), (.int (0 : Int32)), (.int (2 : Int32)), (.long (0 : Int64))])) _
        refine XS.lloadN X26.here hx rfl (hb hby at_194) rfl ?_
        show Steps p.tables e below (T26.setTop (mkF m 195 #[.val (.long q0_), .second, .val (.long q1_), .second, .val (.long q2_), .second, .val (.int p3_), .val (.int p4_), .val (.int (0 : Int32)), .val (.ref b5), .val (.ref nb1_9), .val (.int (p4_ &&& (2147483647 : Int32)))] [(.long q1_), (.long q0_), (.int (0 : Int32)), (.int (2 : Int32)), (.long (0 : Int64))])) _
        refine XS.lload X26.here hx rfl (hb hby at_195) rfl ?_
        show Steps p.tables e below (T26.setTop (mkF m 197 #[.val (.long q0_), .second, .val (.long q1_), .second, .val (.long q2_), .second, .val (.int p3_), .val (.int p4_), .val (.int (0 : Int32)), .val (.ref b5), .val (.ref nb1_9), .val (.int (p4_ &&& (2147483647 : Int32)))] [(.long q2_), (.long q1_), (.long q0_), (.int (0 : Int32)), (.int (2 : Int32)), (.long (0 : Int64))])) _
        refine st28 _ ?_
        show Steps p.tables e below (T28.setTop (mkF m 200 #[.val (.long q0_), .second, .val (.long q1_), .second, .val (.long q2_), .second, .val (.int p3_), .val (.int p4_), .val (.int (0 : Int32)), .val (.ref b5), .val (.ref nb1_9), .val (.int (p4_ &&& (2147483647 : Int32)))] [(.long (0 : Int64)), (.long (0 : Int64))])) _
        refine XS.lcmp X28.here hx rfl (hb hby at_200) rfl ?_
        show Steps p.tables e below (T28.setTop (mkF m 201 #[.val (.long q0_), .second, .val (.long q1_), .second, .val (.long q2_), .second, .val (.int p3_), .val (.int p4_), .val (.int (0 : Int32)), .val (.ref b5), .val (.ref nb1_9), .val (.int (p4_ &&& (2147483647 : Int32)))] [(.int (lcmpW (0 : Int64) (0 : Int64)))])) _
        refine XS.ifNo X28.here hx rfl (hb hby at_201) rfl ((if0 _ _).trans (teq ((lw_eq _ _).mpr (by decide : (0 : Int64) = (0 : Int64)))).2) ?_
        show Steps p.tables e below (T28.setTop (mkF m 204 #[.val (.long q0_), .second, .val (.long q1_), .second, .val (.long q2_), .second, .val (.int p3_), .val (.int p4_), .val (.int (0 : Int32)), .val (.ref b5), .val (.ref nb1_9), .val (.int (p4_ &&& (2147483647 : Int32)))] [])) _
        refine XS.aload X28.here hx rfl (hb hby at_204) rfl rfl ?_
        show Steps p.tables e below (T28.setTop (mkF m 206 #[.val (.long q0_), .second, .val (.long q1_), .second, .val (.long q2_), .second, .val (.int p3_), .val (.int p4_), .val (.int (0 : Int32)), .val (.ref b5), .val (.ref nb1_9), .val (.int (p4_ &&& (2147483647 : Int32)))] [(.ref nb1_9)])) _
        refine XS.iconst X28.here hx rfl (hb hby at_206) ?_
        show Steps p.tables e below (T28.setTop (mkF m 207 #[.val (.long q0_), .second, .val (.long q1_), .second, .val (.long q2_), .second, .val (.int p3_), .val (.int p4_), .val (.int (0 : Int32)), .val (.ref b5), .val (.ref nb1_9), .val (.int (p4_ &&& (2147483647 : Int32)))] [(.int (3 : Int32)), (.ref nb1_9)])) _
        refine st30.trans ?_
        show Steps p.tables e below (T30.setTop (mkF m 210 #[.val (.long q0_), .second, .val (.long q1_), .second, .val (.long q2_), .second, .val (.int p3_), .val (.int p4_), .val (.int (0 : Int32)), .val (.ref b5), .val (.ref nb1_9), .val (.int (p4_ &&& (2147483647 : Int32)))] [(.long (0 : Int64))])) _
        refine XS.iconst X30.here hx rfl (hb hby at_210) ?_
        show Steps p.tables e below (T30.setTop (mkF m 211 #[.val (.long q0_), .second, .val (.long q1_), .second, .val (.long q2_), .second, .val (.int p3_), .val (.int p4_), .val (.int (0 : Int32)), .val (.ref b5), .val (.ref nb1_9), .val (.int (p4_ &&& (2147483647 : Int32)))] [(.int (3 : Int32)), (.long (0 : Int64))])) _
        refine XS.iload X30.here hx rfl (hb hby at_211) rfl ?_
        show Steps p.tables e below (T30.setTop (mkF m 213 #[.val (.long q0_), .second, .val (.long q1_), .second, .val (.long q2_), .second, .val (.int p3_), .val (.int p4_), .val (.int (0 : Int32)), .val (.ref b5), .val (.ref nb1_9), .val (.int (p4_ &&& (2147483647 : Int32)))] [(.int (0 : Int32)), (.int (3 : Int32)), (.long (0 : Int64))])) _
        refine XS.lloadN X30.here hx rfl (hb hby at_213) rfl ?_
        show Steps p.tables e below (T30.setTop (mkF m 214 #[.val (.long q0_), .second, .val (.long q1_), .second, .val (.long q2_), .second, .val (.int p3_), .val (.int p4_), .val (.int (0 : Int32)), .val (.ref b5), .val (.ref nb1_9), .val (.int (p4_ &&& (2147483647 : Int32)))] [(.long q0_), (.int (0 : Int32)), (.int (3 : Int32)), (.long (0 : Int64))])) _
        refine XS.lloadN X30.here hx rfl (hb hby at_214) rfl ?_
        show Steps p.tables e below (T30.setTop (mkF m 215 #[.val (.long q0_), .second, .val (.long q1_), .second, .val (.long q2_), .second, .val (.int p3_), .val (.int p4_), .val (.int (0 : Int32)), .val (.ref b5), .val (.ref nb1_9), .val (.int (p4_ &&& (2147483647 : Int32)))] [(.long q1_), (.long q0_), (.int (0 : Int32)), (.int (3 : Int32)), (.long (0 : Int64))])) _
        refine XS.lload X30.here hx rfl (hb hby at_215) rfl ?_
        show Steps p.tables e below (T30.setTop (mkF m 217 #[.val (.long q0_), .second, .val (.long q1_), .second, .val (.long q2_), .second, .val (.int p3_), .val (.int p4_), .val (.int (0 : Int32)), .val (.ref b5), .val (.ref nb1_9), .val (.int (p4_ &&& (2147483647 : Int32)))] [(.long q2_), (.long q1_), (.long q0_), (.int (0 : Int32)), (.int (3 : Int32)), (.long (0 : Int64))])) _
        refine st32 _ ?_
        show Steps p.tables e below (T32.setTop (mkF m 220 #[.val (.long q0_), .second, .val (.long q1_), .second, .val (.long q2_), .second, .val (.int p3_), .val (.int p4_), .val (.int (0 : Int32)), .val (.ref b5), .val (.ref nb1_9), .val (.int (p4_ &&& (2147483647 : Int32)))] [(.long (0 : Int64)), (.long (0 : Int64))])) _
        refine XS.lcmp X32.here hx rfl (hb hby at_220) rfl ?_
        show Steps p.tables e below (T32.setTop (mkF m 221 #[.val (.long q0_), .second, .val (.long q1_), .second, .val (.long q2_), .second, .val (.int p3_), .val (.int p4_), .val (.int (0 : Int32)), .val (.ref b5), .val (.ref nb1_9), .val (.int (p4_ &&& (2147483647 : Int32)))] [(.int (lcmpW (0 : Int64) (0 : Int64)))])) _
        refine XS.ifNo X32.here hx rfl (hb hby at_221) rfl ((if0 _ _).trans (teq ((lw_eq _ _).mpr (by decide : (0 : Int64) = (0 : Int64)))).2) ?_
        show Steps p.tables e below (T32.setTop (mkF m 224 #[.val (.long q0_), .second, .val (.long q1_), .second, .val (.long q2_), .second, .val (.int p3_), .val (.int p4_), .val (.int (0 : Int32)), .val (.ref b5), .val (.ref nb1_9), .val (.int (p4_ &&& (2147483647 : Int32)))] [])) _
        refine XS.aload X32.here hx rfl (hb hby at_224) rfl rfl ?_
        show Steps p.tables e below (T32.setTop (mkF m 226 #[.val (.long q0_), .second, .val (.long q1_), .second, .val (.long q2_), .second, .val (.int p3_), .val (.int p4_), .val (.int (0 : Int32)), .val (.ref b5), .val (.ref nb1_9), .val (.int (p4_ &&& (2147483647 : Int32)))] [(.ref nb1_9)])) _
        refine XS.iload X32.here hx rfl (hb hby at_226) rfl ?_
        show Steps p.tables e below (T32.setTop (mkF m 228 #[.val (.long q0_), .second, .val (.long q1_), .second, .val (.long q2_), .second, .val (.int p3_), .val (.int p4_), .val (.int (0 : Int32)), .val (.ref b5), .val (.ref nb1_9), .val (.int (p4_ &&& (2147483647 : Int32)))] [(.int (p4_ &&& (2147483647 : Int32))), (.ref nb1_9)])) _
        refine st35.trans ?_
        show Steps p.tables e below (T35.setTop (mkF m 231 #[.val (.long q0_), .second, .val (.long q1_), .second, .val (.long q2_), .second, .val (.int p3_), .val (.int p4_), .val (.int (0 : Int32)), .val (.ref b5), .val (.ref nb1_9), .val (.int (p4_ &&& (2147483647 : Int32)))] [(.long (0 : Int64))])) _
        refine XS.iload X35.here hx rfl (hb hby at_231) rfl ?_
        show Steps p.tables e below (T35.setTop (mkF m 233 #[.val (.long q0_), .second, .val (.long q1_), .second, .val (.long q2_), .second, .val (.int p3_), .val (.int p4_), .val (.int (0 : Int32)), .val (.ref b5), .val (.ref nb1_9), .val (.int (p4_ &&& (2147483647 : Int32)))] [(.int (p4_ &&& (2147483647 : Int32))), (.long (0 : Int64))])) _
        refine XS.iload X35.here hx rfl (hb hby at_233) rfl ?_
        show Steps p.tables e below (T35.setTop (mkF m 235 #[.val (.long q0_), .second, .val (.long q1_), .second, .val (.long q2_), .second, .val (.int p3_), .val (.int p4_), .val (.int (0 : Int32)), .val (.ref b5), .val (.ref nb1_9), .val (.int (p4_ &&& (2147483647 : Int32)))] [(.int (0 : Int32)), (.int (p4_ &&& (2147483647 : Int32))), (.long (0 : Int64))])) _
        refine XS.lloadN X35.here hx rfl (hb hby at_235) rfl ?_
        show Steps p.tables e below (T35.setTop (mkF m 236 #[.val (.long q0_), .second, .val (.long q1_), .second, .val (.long q2_), .second, .val (.int p3_), .val (.int p4_), .val (.int (0 : Int32)), .val (.ref b5), .val (.ref nb1_9), .val (.int (p4_ &&& (2147483647 : Int32)))] [(.long q0_), (.int (0 : Int32)), (.int (p4_ &&& (2147483647 : Int32))), (.long (0 : Int64))])) _
        refine XS.lloadN X35.here hx rfl (hb hby at_236) rfl ?_
        show Steps p.tables e below (T35.setTop (mkF m 237 #[.val (.long q0_), .second, .val (.long q1_), .second, .val (.long q2_), .second, .val (.int p3_), .val (.int p4_), .val (.int (0 : Int32)), .val (.ref b5), .val (.ref nb1_9), .val (.int (p4_ &&& (2147483647 : Int32)))] [(.long q1_), (.long q0_), (.int (0 : Int32)), (.int (p4_ &&& (2147483647 : Int32))), (.long (0 : Int64))])) _
        refine XS.lload X35.here hx rfl (hb hby at_237) rfl ?_
        show Steps p.tables e below (T35.setTop (mkF m 239 #[.val (.long q0_), .second, .val (.long q1_), .second, .val (.long q2_), .second, .val (.int p3_), .val (.int p4_), .val (.int (0 : Int32)), .val (.ref b5), .val (.ref nb1_9), .val (.int (p4_ &&& (2147483647 : Int32)))] [(.long q2_), (.long q1_), (.long q0_), (.int (0 : Int32)), (.int (p4_ &&& (2147483647 : Int32))), (.long (0 : Int64))])) _
        refine st37 _ ?_
        show Steps p.tables e below (T37.setTop (mkF m 242 #[.val (.long q0_), .second, .val (.long q1_), .second, .val (.long q2_), .second, .val (.int p3_), .val (.int p4_), .val (.int (0 : Int32)), .val (.ref b5), .val (.ref nb1_9), .val (.int (p4_ &&& (2147483647 : Int32)))] [(.long (0 : Int64)), (.long (0 : Int64))])) _
        refine XS.lcmp X37.here hx rfl (hb hby at_242) rfl ?_
        show Steps p.tables e below (T37.setTop (mkF m 243 #[.val (.long q0_), .second, .val (.long q1_), .second, .val (.long q2_), .second, .val (.int p3_), .val (.int p4_), .val (.int (0 : Int32)), .val (.ref b5), .val (.ref nb1_9), .val (.int (p4_ &&& (2147483647 : Int32)))] [(.int (lcmpW (0 : Int64) (0 : Int64)))])) _
        refine XS.ifNo X37.here hx rfl (hb hby at_243) rfl ((if0 _ _).trans (teq ((lw_eq _ _).mpr (by decide : (0 : Int64) = (0 : Int64)))).2) ?_
        show Steps p.tables e below (T37.setTop (mkF m 246 #[.val (.long q0_), .second, .val (.long q1_), .second, .val (.long q2_), .second, .val (.int p3_), .val (.int p4_), .val (.int (0 : Int32)), .val (.ref b5), .val (.ref nb1_9), .val (.int (p4_ &&& (2147483647 : Int32)))] [])) _
        refine XS.iconst X37.here hx rfl (hb hby at_246) ?_
        show Steps p.tables e below (T37.setTop (mkF m 247 #[.val (.long q0_), .second, .val (.long q1_), .second, .val (.long q2_), .second, .val (.int p3_), .val (.int p4_), .val (.int (0 : Int32)), .val (.ref b5), .val (.ref nb1_9), .val (.int (p4_ &&& (2147483647 : Int32)))] [(.int (1 : Int32))])) _
        refine XS.goto X37.here hx rfl (pc0 := 247) (pc' := 251) rfl (hb hby at_247) (by decide) (by decide) ?_
        exact kt
      obtain ⟨fs, hr, hrun, hended, hW, hsame⟩ := X37.leave (v := some (.int (1 : Int32))) (fun h => by rw [Bd.returns] at h; cases h)
      refine ⟨_, _, pre39 _ (retN X37 hx (t := .boolean) Bd.returns (by simp) (hb hby at_251) hr), hrun, hended, _, _, rfl, ?_, ⟨_, rfl⟩, hW, hsame.mono (by decide) (by decide)⟩
      show QLaw Z q0_ q1_ q2_ p3_ p4_ h0 n0 _ T37.heap _
      rw [e37']
      exact ⟨rfl, N38⟩
  · have pre41 : ∀ t, Steps p.tables e below (s₁.setTop (mkF m 6 #[.val (.long q0_), .second, .val (.long q1_), .second, .val (.long q2_), .second, .val (.int p3_), .val (.int p4_), .val (.int (1 : Int32)), .unset, .unset, .unset] [])) t → Steps p.tables e below (s₁.setTop (entryFrame m #[(.long q0_), (.long q1_), (.long q2_), (.int p3_), (.int p4_)] maxLocals)) t := fun t kt => pre1 t (by rw [hv3]; exact kt)
    obtain ⟨T42, h42, k42, X42, e42, E42, A42, Z42, st42⟩ := newPE X0 hx hZ (hw _ (List.mem_of_getElem? (i := 0) rfl)) e0 (g := (mkF m 26 #[.val (.long q0_), .second, .val (.long q1_), .second, .val (.long q2_), .second, .val (.int p3_), .val (.int p4_), .val (.int (1 : Int32)), .unset, .unset, .unset] [(.int (1 : Int32))])) rfl (hb hby at_26) rfl (by decide) (cap := 1) (by decide) (by decide) (by decide) (by decide) (ad := "[J") (by decide)
    obtain ⟨b42, g42⟩ : ∃ z, z = h0.size := ⟨_, rfl⟩
    rw [← g42] at A42 Z42 st42
    have ge43 : n0 ≤ b42 := Nat.le_trans (Nat.le_trans (Nat.le_of_eq O0.1.symm) O0.2.1) (Nat.le_of_eq g42.symm)
    have sz44 : h0.size ≤ b42 := Nat.le_trans K0.1 (Nat.le_of_eq g42.symm)
    have f45 : Arv Z h42 b42 k42 .long (1 : Int32) [(.long (0 : Int64))] (.long (0 : Int64)) := (Arv.new A42 (by decide)).pad (pad_rep [] (.long (0 : Int64)) 1)
    obtain ⟨c46, r46, q46, s46, z46, y46, G46⟩ := id f45
    have hin46 : ¬ ((0 : Int32) < 0 ∨ c46.slots.size ≤ ((0 : Int32)).toNatClampNeg) := inb_of s46 ⟨by decide, by decide⟩
    obtain ⟨T46, h46, X46, e46, W46, st46⟩ := stJ X42 hx hZ e42 r46 (j := (0 : Int32)) hin46 (g := (mkF m 31 #[.val (.long q0_), .second, .val (.long q1_), .second, .val (.long q2_), .second, .val (.int p3_), .val (.int p4_), .val (.int (1 : Int32)), .unset, .unset, .unset] [(.long q0_), (.int (0 : Int32)), (.ref b42), (.ref b42)])) rfl rfl (hb hby at_31)
    have N47 := Fr.snoc X46 N0 ge43
    have f48 : Arv Z h46 b42 k42 .long (1 : Int32) [(.long q0_)] (.long (0 : Int64)) := Arv.set r46 q46 s46 z46 y46 G46 rfl W46 0 rfl (Nat.le_of_ble_eq_true rfl)
    have f50 : Exa Z h46 b42 "[J" := Z42.wr W46
    have f51 : Old Z n0 h42 := O0.ext E42
    have f52 : Old Z n0 h46 := f51.wr W46 ge43
    obtain ⟨_, _, ⟨T49, L49, k49, n49⟩, -, X49, ⟨Lc49, hQ49, l49, y49, z49⟩, st49⟩ := Jvm.LawKit.callS X46 hx (y := (⟨"com/example/latchkey/latchkey/LockTokens", "of", "([J)Lcom/example/latchkey/latchkey/LockTokens;"⟩ : MethodName)) hown (mvT hZ (hw _ (List.mem_of_getElem? (i := 1) rfl))) (mvT hZ (hw _ (List.mem_of_getElem? (i := 2) rfl))) (mvT hZ (hw _ (List.mem_of_getElem? (i := 3) rfl))) (mvT hZ (hw _ (List.mem_of_getElem? (i := 4) rfl))) (by decide) (backOf (W := 0) (rmof13 l Z a0 hw [] b42 k42 q0_ h46 n0 f52 f48 f50) hZ (hw _ (List.mem_of_getElem? (i := 4) rfl)) (hw _ (List.mem_of_getElem? (i := 3) rfl)) (by decide) (by decide)) (g := (mkF m 79 #[.val (.long q0_), .second, .val (.long q1_), .second, .val (.long q2_), .second, .val (.int p3_), .val (.int p4_), .val (.int (1 : Int32)), .val (.ref b42), .unset, .unset] [(.ref b42)])) rfl (by rw [hml]; rfl) (argsL := [(.ref b42)]) (rest := []) (lenOf pd_1 rfl) rfl (by show 2 * 0 + _ ≤ _; exact Nat.le_of_eq rfl) (hb hby at_79) (fun _ _ => ⟨rfl, e46, (by decide : 1 + 2 ≤ _), (by decide : 1 + 2 ≤ _)⟩)
    dsimp only [Pt.U, Pt.locs, Pt.cells, Pt.slots] at X49 l49 y49 z49 st49 hQ49
    subst l49 y49 z49
    obtain ⟨h49, e49⟩ : ∃ z, T49.heap = z := ⟨_, rfl⟩
    rw [e49] at hQ49
    obtain ⟨nb1_49, nb5_49, rfl, N49q, K49, sznb1_49, sznb5_49, g49_0, g49_1, g49_2, g49_3⟩ := hQ49
    have N53 := Fr.app N47 N49q
    have ge54 : n0 ≤ nb1_49 := Nat.le_trans (Nat.le_trans (Nat.le_of_eq f52.1.symm) f52.2.1) sznb1_49
    have f55 : Keep h0 h42 [] := K0.ext E42
    have f56 : Keep h0 h46 [] := f55.wr W46 (Or.inr sz44)
    have sz57 : h0.size ≤ nb1_49 := Nat.le_trans f56.1 sznb1_49
    have ge58 : n0 ≤ nb5_49 := Nat.le_trans (Nat.le_trans (Nat.le_of_eq f52.1.symm) f52.2.1) sznb5_49
    have sz59 : h0.size ≤ nb5_49 := Nat.le_trans f56.1 sznb5_49
    have f60 : Arv Z h49 b42 k42 .long (1 : Int32) [(.long q0_)] (.long (0 : Int64)) := f48.keep K49 nin0
    obtain ⟨c61, r61, q61, s61, z61, y61, G61⟩ := id f60
    have hin61 : ¬ ((0 : Int32) < 0 ∨ c61.slots.size ≤ ((0 : Int32)).toNatClampNeg) := inb_of s61 ⟨by decide, by decide⟩
    have hat61 : c61.slots[((0 : Int32)).toNatClampNeg]? = some (.long q0_) := Has.at y61 hin61 rfl
    obtain ⟨c62, r62, q62, s62, z62, y62, G62⟩ := id f60
    have hin62 : ¬ ((0 : Int32) < 0 ∨ c62.slots.size ≤ ((0 : Int32)).toNatClampNeg) := inb_of s62 ⟨by decide, by decide⟩
    obtain ⟨T62, h62, X62, e62, W62, st62⟩ := stJ X49 hx hZ e49 r62 (j := (0 : Int32)) hin62 (g := (mkF m 100 #[.val (.long q0_), .second, .val (.long q1_), .second, .val (.long q2_), .second, .val (.int p3_), .val (.int p4_), .val (.int (1 : Int32)), .val (.ref b42), .val (.ref nb1_49), .unset] [(.long (q0_ ^^^ (-1 : Int64))), (.int (0 : Int32)), (.ref b42)])) rfl rfl (hb hby at_100)
    have N63 := Fr.snoc X62 N53 ge43
    have f64 : Arv Z h62 b42 k42 .long (1 : Int32) [(.long (q0_ ^^^ (-1 : Int64)))] (.long (0 : Int64)) := Arv.set r62 q62 s62 z62 y62 G62 rfl W62 0 rfl (Nat.le_of_ble_eq_true rfl)
    have f66 : Exa Z h62 nb1_49 "com/example/latchkey/latchkey/LockTokens" := g49_0.wr W62
    have ne68 : b42 ≠ nb1_49 := Nat.ne_of_lt (Nat.lt_of_lt_of_le f48.lt sznb1_49)
    have f67 : Fld Z h62 nb1_49 "com/example/latchkey/latchkey/LockTokens" "tokens" "[J" (.ref nb5_49) := g49_1.other W62 (Or.inl (Ne.symm ne68))
    have ne70 : b42 ≠ nb5_49 := Nat.ne_of_lt (Nat.lt_of_lt_of_le f48.lt sznb5_49)
    have f69 : Arv Z h62 nb5_49 k42 .long (1 : Int32) [(.long q0_)] (.long (0 : Int64)) := g49_2.other W62 (Ne.symm ne70)
    have f71 : Exa Z h62 nb5_49 "[J" := g49_3.wr W62
    have f72 : Old Z n0 h49 := f52.keep K49 all0
    have f73 : Old Z n0 h62 := f72.wr W62 ge43
    obtain ⟨cq65, kq65, q65a, q65b, q65c⟩ := isOf hZ e62 f66
    obtain ⟨_, _, ⟨T65, L65, k65, n65⟩, -, X65, ⟨Lc65, hQ65, l65, y65, z65⟩, st65⟩ := X62.virtualBack hx (y := (⟨"com/example/latchkey/latchkey/LockTokens", "get", "(I)J"⟩ : MethodName)) (z := (⟨"com/example/latchkey/latchkey/LockTokens", "get", "(I)J"⟩ : MethodName)) hown (mvT hZ (hw _ (List.mem_of_getElem? (i := 26) rfl))) (mvT hZ (hw _ (List.mem_of_getElem? (i := 27) rfl))) (notFace_of_selects (args := #[]) (mvT hZ (hw _ (List.mem_of_getElem? (i := 29) rfl)))) (mvT hZ (hw _ (List.mem_of_getElem? (i := 29) rfl))) (mvT hZ (hw _ (List.mem_of_getElem? (i := 28) rfl))) (by decide) (backOf (W := 0) (rmget15 l Z a0 hw [] nb1_49 nb5_49 k42 q0_ h62 n0 f73 f66 f67 f69 f71) hZ (hw _ (List.mem_of_getElem? (i := 30) rfl)) (hw _ (List.mem_of_getElem? (i := 3) rfl)) (by decide) (by decide)) q65a q65c (g := (mkF m 147 #[.val (.long q0_), .second, .val (.long q1_), .second, .val (.long q2_), .second, .val (.int p3_), .val (.int p4_), .val (.int (1 : Int32)), .val (.ref b42), .val (.ref nb1_49), .val (.int (p4_ &&& (2147483647 : Int32)))] [(.int (0 : Int32)), (.ref nb1_49)])) rfl (by rw [hml]; rfl) (Steps.refl _) (argsL := [(.int (0 : Int32))]) (rest := []) (lenOf pd_2 rfl) rfl (by show 2 * 0 + _ ≤ _; exact Nat.le_of_eq rfl) (hb hby at_147) (fun _ _ => ⟨rfl, e62, (by decide : 3 + 0 ≤ _), (by decide : 3 + 0 ≤ _)⟩)
    dsimp only [Pt.U, Pt.locs, Pt.cells, Pt.slots] at X65 l65 y65 z65 st65 hQ65
    subst l65 y65 z65
    obtain ⟨h65, e65⟩ : ∃ z, T65.heap = z := ⟨_, rfl⟩
    rw [e65] at hQ65
    obtain ⟨rfl, N65q, hh65⟩ := hQ65
    have N74 := Fr.app N63 N65q
    have e65' : T65.heap = h62 := e65.trans hh65
    obtain ⟨_, _, ⟨T75, L75, k75, n75⟩, -, X75, ⟨Lc75, hQ75, l75, y75, z75⟩, st75⟩ := Jvm.LawKit.callS X65 hx (y := (⟨"com/example/latchkey/latchkey/LockTokensOfPinLaw", "expected", "(IIJJJ)J"⟩ : MethodName)) hown (mvT hZ (hw _ (List.mem_of_getElem? (i := 31) rfl))) (mvT hZ (hw _ (List.mem_of_getElem? (i := 32) rfl))) (mvT hZ (hw _ (List.mem_of_getElem? (i := 33) rfl))) (mvT hZ (hw _ (List.mem_of_getElem? (i := 34) rfl))) (by decide) (backOf (W := 2) (rmexpected16 l Z a0 hw [] q0_ q1_ q2_ h62 n0 f73 ) hZ (hw _ (List.mem_of_getElem? (i := 34) rfl)) (hw _ (List.mem_of_getElem? (i := 33) rfl)) (by decide) (by decide)) (g := (mkF m 157 #[.val (.long q0_), .second, .val (.long q1_), .second, .val (.long q2_), .second, .val (.int p3_), .val (.int p4_), .val (.int (1 : Int32)), .val (.ref b42), .val (.ref nb1_49), .val (.int (p4_ &&& (2147483647 : Int32)))] [(.long q2_), (.long q1_), (.long q0_), (.int (1 : Int32)), (.int (0 : Int32)), (.long q0_)])) rfl (by rw [hml]; rfl) (argsL := [(.int (0 : Int32)), (.int (1 : Int32)), (.long q0_), (.long q1_), (.long q2_)]) (rest := [(.long q0_)]) (lenOf pd_3 rfl) rfl (by show 2 * 0 + _ ≤ _; exact Nat.le_of_eq rfl) (hb hby at_157) (fun _ _ => ⟨rfl, e65', (by decide : 3 + 0 ≤ _), (by decide : 3 + 0 ≤ _)⟩)
    dsimp only [Pt.U, Pt.locs, Pt.cells, Pt.slots] at X75 l75 y75 z75 st75 hQ75
    subst l75 y75 z75
    obtain ⟨h75, e75⟩ : ∃ z, T75.heap = z := ⟨_, rfl⟩
    rw [e75] at hQ75
    obtain ⟨rfl, N75q, hh75⟩ := hQ75
    have N76 := Fr.app N74 N75q
    have e75' : T75.heap = h62 := e75.trans hh75
    obtain ⟨cq77, kq77, q77a, q77b, q77c⟩ := isOf hZ e75' f66
    obtain ⟨_, _, ⟨T77, L77, k77, n77⟩, -, X77, ⟨Lc77, hQ77, l77, y77, z77⟩, st77⟩ := X75.virtualBack hx (y := (⟨"com/example/latchkey/latchkey/LockTokens", "get", "(I)J"⟩ : MethodName)) (z := (⟨"com/example/latchkey/latchkey/LockTokens", "get", "(I)J"⟩ : MethodName)) hown (mvT hZ (hw _ (List.mem_of_getElem? (i := 26) rfl))) (mvT hZ (hw _ (List.mem_of_getElem? (i := 27) rfl))) (notFace_of_selects (args := #[]) (mvT hZ (hw _ (List.mem_of_getElem? (i := 29) rfl)))) (mvT hZ (hw _ (List.mem_of_getElem? (i := 29) rfl))) (mvT hZ (hw _ (List.mem_of_getElem? (i := 28) rfl))) (by decide) (backOf (W := 0) (rmget17 l Z a0 hw [] nb1_49 nb5_49 k42 q0_ h62 n0 f73 f66 f67 f69 f71) hZ (hw _ (List.mem_of_getElem? (i := 30) rfl)) (hw _ (List.mem_of_getElem? (i := 3) rfl)) (by decide) (by decide)) q77a q77c (g := (mkF m 167 #[.val (.long q0_), .second, .val (.long q1_), .second, .val (.long q2_), .second, .val (.int p3_), .val (.int p4_), .val (.int (1 : Int32)), .val (.ref b42), .val (.ref nb1_49), .val (.int (p4_ &&& (2147483647 : Int32)))] [(.int (1 : Int32)), (.ref nb1_49)])) rfl (by rw [hml]; rfl) (Steps.refl _) (argsL := [(.int (1 : Int32))]) (rest := []) (lenOf pd_2 rfl) rfl (by show 2 * 0 + _ ≤ _; exact Nat.le_of_eq rfl) (hb hby at_167) (fun _ _ => ⟨rfl, e75', (by decide : 3 + 0 ≤ _), (by decide : 3 + 0 ≤ _)⟩)
    dsimp only [Pt.U, Pt.locs, Pt.cells, Pt.slots] at X77 l77 y77 z77 st77 hQ77
    subst l77 y77 z77
    obtain ⟨h77, e77⟩ : ∃ z, T77.heap = z := ⟨_, rfl⟩
    rw [e77] at hQ77
    obtain ⟨rfl, N77q, hh77⟩ := hQ77
    have N78 := Fr.app N76 N77q
    have e77' : T77.heap = h62 := e77.trans hh77
    obtain ⟨_, _, ⟨T79, L79, k79, n79⟩, -, X79, ⟨Lc79, hQ79, l79, y79, z79⟩, st79⟩ := Jvm.LawKit.callS X77 hx (y := (⟨"com/example/latchkey/latchkey/LockTokensOfPinLaw", "expected", "(IIJJJ)J"⟩ : MethodName)) hown (mvT hZ (hw _ (List.mem_of_getElem? (i := 31) rfl))) (mvT hZ (hw _ (List.mem_of_getElem? (i := 32) rfl))) (mvT hZ (hw _ (List.mem_of_getElem? (i := 33) rfl))) (mvT hZ (hw _ (List.mem_of_getElem? (i := 34) rfl))) (by decide) (backOf (W := 2) (rmexpected18 l Z a0 hw [] q0_ q1_ q2_ h62 n0 f73 ) hZ (hw _ (List.mem_of_getElem? (i := 34) rfl)) (hw _ (List.mem_of_getElem? (i := 33) rfl)) (by decide) (by decide)) (g := (mkF m 177 #[.val (.long q0_), .second, .val (.long q1_), .second, .val (.long q2_), .second, .val (.int p3_), .val (.int p4_), .val (.int (1 : Int32)), .val (.ref b42), .val (.ref nb1_49), .val (.int (p4_ &&& (2147483647 : Int32)))] [(.long q2_), (.long q1_), (.long q0_), (.int (1 : Int32)), (.int (1 : Int32)), (.long (0 : Int64))])) rfl (by rw [hml]; rfl) (argsL := [(.int (1 : Int32)), (.int (1 : Int32)), (.long q0_), (.long q1_), (.long q2_)]) (rest := [(.long (0 : Int64))]) (lenOf pd_3 rfl) rfl (by show 2 * 0 + _ ≤ _; exact Nat.le_of_eq rfl) (hb hby at_177) (fun _ _ => ⟨rfl, e77', (by decide : 3 + 0 ≤ _), (by decide : 3 + 0 ≤ _)⟩)
    dsimp only [Pt.U, Pt.locs, Pt.cells, Pt.slots] at X79 l79 y79 z79 st79 hQ79
    subst l79 y79 z79
    obtain ⟨h79, e79⟩ : ∃ z, T79.heap = z := ⟨_, rfl⟩
    rw [e79] at hQ79
    obtain ⟨rfl, N79q, hh79⟩ := hQ79
    have N80 := Fr.app N78 N79q
    have e79' : T79.heap = h62 := e79.trans hh79
    obtain ⟨cq81, kq81, q81a, q81b, q81c⟩ := isOf hZ e79' f66
    obtain ⟨_, _, ⟨T81, L81, k81, n81⟩, -, X81, ⟨Lc81, hQ81, l81, y81, z81⟩, st81⟩ := X79.virtualBack hx (y := (⟨"com/example/latchkey/latchkey/LockTokens", "get", "(I)J"⟩ : MethodName)) (z := (⟨"com/example/latchkey/latchkey/LockTokens", "get", "(I)J"⟩ : MethodName)) hown (mvT hZ (hw _ (List.mem_of_getElem? (i := 26) rfl))) (mvT hZ (hw _ (List.mem_of_getElem? (i := 27) rfl))) (notFace_of_selects (args := #[]) (mvT hZ (hw _ (List.mem_of_getElem? (i := 29) rfl)))) (mvT hZ (hw _ (List.mem_of_getElem? (i := 29) rfl))) (mvT hZ (hw _ (List.mem_of_getElem? (i := 28) rfl))) (by decide) (backOf (W := 0) (rmget19 l Z a0 hw [] nb1_49 nb5_49 k42 q0_ h62 n0 f73 f66 f67 f69 f71) hZ (hw _ (List.mem_of_getElem? (i := 30) rfl)) (hw _ (List.mem_of_getElem? (i := 3) rfl)) (by decide) (by decide)) q81a q81c (g := (mkF m 187 #[.val (.long q0_), .second, .val (.long q1_), .second, .val (.long q2_), .second, .val (.int p3_), .val (.int p4_), .val (.int (1 : Int32)), .val (.ref b42), .val (.ref nb1_49), .val (.int (p4_ &&& (2147483647 : Int32)))] [(.int (2 : Int32)), (.ref nb1_49)])) rfl (by rw [hml]; rfl) (Steps.refl _) (argsL := [(.int (2 : Int32))]) (rest := []) (lenOf pd_2 rfl) rfl (by show 2 * 0 + _ ≤ _; exact Nat.le_of_eq rfl) (hb hby at_187) (fun _ _ => ⟨rfl, e79', (by decide : 3 + 0 ≤ _), (by decide : 3 + 0 ≤ _)⟩)
    dsimp only [Pt.U, Pt.locs, Pt.cells, Pt.slots] at X81 l81 y81 z81 st81 hQ81
    subst l81 y81 z81
    obtain ⟨h81, e81⟩ : ∃ z, T81.heap = z := ⟨_, rfl⟩
    rw [e81] at hQ81
    obtain ⟨rfl, N81q, hh81⟩ := hQ81
    have N82 := Fr.app N80 N81q
    have e81' : T81.heap = h62 := e81.trans hh81
    obtain ⟨_, _, ⟨T83, L83, k83, n83⟩, -, X83, ⟨Lc83, hQ83, l83, y83, z83⟩, st83⟩ := Jvm.LawKit.callS X81 hx (y := (⟨"com/example/latchkey/latchkey/LockTokensOfPinLaw", "expected", "(IIJJJ)J"⟩ : MethodName)) hown (mvT hZ (hw _ (List.mem_of_getElem? (i := 31) rfl))) (mvT hZ (hw _ (List.mem_of_getElem? (i := 32) rfl))) (mvT hZ (hw _ (List.mem_of_getElem? (i := 33) rfl))) (mvT hZ (hw _ (List.mem_of_getElem? (i := 34) rfl))) (by decide) (backOf (W := 2) (rmexpected20 l Z a0 hw [] q0_ q1_ q2_ h62 n0 f73 ) hZ (hw _ (List.mem_of_getElem? (i := 34) rfl)) (hw _ (List.mem_of_getElem? (i := 33) rfl)) (by decide) (by decide)) (g := (mkF m 197 #[.val (.long q0_), .second, .val (.long q1_), .second, .val (.long q2_), .second, .val (.int p3_), .val (.int p4_), .val (.int (1 : Int32)), .val (.ref b42), .val (.ref nb1_49), .val (.int (p4_ &&& (2147483647 : Int32)))] [(.long q2_), (.long q1_), (.long q0_), (.int (1 : Int32)), (.int (2 : Int32)), (.long (0 : Int64))])) rfl (by rw [hml]; rfl) (argsL := [(.int (2 : Int32)), (.int (1 : Int32)), (.long q0_), (.long q1_), (.long q2_)]) (rest := [(.long (0 : Int64))]) (lenOf pd_3 rfl) rfl (by show 2 * 0 + _ ≤ _; exact Nat.le_of_eq rfl) (hb hby at_197) (fun _ _ => ⟨rfl, e81', (by decide : 3 + 0 ≤ _), (by decide : 3 + 0 ≤ _)⟩)
    dsimp only [Pt.U, Pt.locs, Pt.cells, Pt.slots] at X83 l83 y83 z83 st83 hQ83
    subst l83 y83 z83
    obtain ⟨h83, e83⟩ : ∃ z, T83.heap = z := ⟨_, rfl⟩
    rw [e83] at hQ83
    obtain ⟨rfl, N83q, hh83⟩ := hQ83
    have N84 := Fr.app N82 N83q
    have e83' : T83.heap = h62 := e83.trans hh83
    obtain ⟨cq85, kq85, q85a, q85b, q85c⟩ := isOf hZ e83' f66
    obtain ⟨_, _, ⟨T85, L85, k85, n85⟩, -, X85, ⟨Lc85, hQ85, l85, y85, z85⟩, st85⟩ := X83.virtualBack hx (y := (⟨"com/example/latchkey/latchkey/LockTokens", "get", "(I)J"⟩ : MethodName)) (z := (⟨"com/example/latchkey/latchkey/LockTokens", "get", "(I)J"⟩ : MethodName)) hown (mvT hZ (hw _ (List.mem_of_getElem? (i := 26) rfl))) (mvT hZ (hw _ (List.mem_of_getElem? (i := 27) rfl))) (notFace_of_selects (args := #[]) (mvT hZ (hw _ (List.mem_of_getElem? (i := 29) rfl)))) (mvT hZ (hw _ (List.mem_of_getElem? (i := 29) rfl))) (mvT hZ (hw _ (List.mem_of_getElem? (i := 28) rfl))) (by decide) (backOf (W := 0) (rmget21 l Z a0 hw [] nb1_49 nb5_49 k42 q0_ h62 n0 f73 f66 f67 f69 f71) hZ (hw _ (List.mem_of_getElem? (i := 30) rfl)) (hw _ (List.mem_of_getElem? (i := 3) rfl)) (by decide) (by decide)) q85a q85c (g := (mkF m 207 #[.val (.long q0_), .second, .val (.long q1_), .second, .val (.long q2_), .second, .val (.int p3_), .val (.int p4_), .val (.int (1 : Int32)), .val (.ref b42), .val (.ref nb1_49), .val (.int (p4_ &&& (2147483647 : Int32)))] [(.int (3 : Int32)), (.ref nb1_49)])) rfl (by rw [hml]; rfl) (Steps.refl _) (argsL := [(.int (3 : Int32))]) (rest := []) (lenOf pd_2 rfl) rfl (by show 2 * 0 + _ ≤ _; exact Nat.le_of_eq rfl) (hb hby at_207) (fun _ _ => ⟨rfl, e83', (by decide : 3 + 0 ≤ _), (by decide : 3 + 0 ≤ _)⟩)
    dsimp only [Pt.U, Pt.locs, Pt.cells, Pt.slots] at X85 l85 y85 z85 st85 hQ85
    subst l85 y85 z85
    obtain ⟨h85, e85⟩ : ∃ z, T85.heap = z := ⟨_, rfl⟩
    rw [e85] at hQ85
    obtain ⟨rfl, N85q, hh85⟩ := hQ85
    have N86 := Fr.app N84 N85q
    have e85' : T85.heap = h62 := e85.trans hh85
    obtain ⟨_, _, ⟨T87, L87, k87, n87⟩, -, X87, ⟨Lc87, hQ87, l87, y87, z87⟩, st87⟩ := Jvm.LawKit.callS X85 hx (y := (⟨"com/example/latchkey/latchkey/LockTokensOfPinLaw", "expected", "(IIJJJ)J"⟩ : MethodName)) hown (mvT hZ (hw _ (List.mem_of_getElem? (i := 31) rfl))) (mvT hZ (hw _ (List.mem_of_getElem? (i := 32) rfl))) (mvT hZ (hw _ (List.mem_of_getElem? (i := 33) rfl))) (mvT hZ (hw _ (List.mem_of_getElem? (i := 34) rfl))) (by decide) (backOf (W := 2) (rmexpected22 l Z a0 hw [] q0_ q1_ q2_ h62 n0 f73 ) hZ (hw _ (List.mem_of_getElem? (i := 34) rfl)) (hw _ (List.mem_of_getElem? (i := 33) rfl)) (by decide) (by decide)) (g := (mkF m 217 #[.val (.long q0_), .second, .val (.long q1_), .second, .val (.long q2_), .second, .val (.int p3_), .val (.int p4_), .val (.int (1 : Int32)), .val (.ref b42), .val (.ref nb1_49), .val (.int (p4_ &&& (2147483647 : Int32)))] [(.long q2_), (.long q1_), (.long q0_), (.int (1 : Int32)), (.int (3 : Int32)), (.long (0 : Int64))])) rfl (by rw [hml]; rfl) (argsL := [(.int (3 : Int32)), (.int (1 : Int32)), (.long q0_), (.long q1_), (.long q2_)]) (rest := [(.long (0 : Int64))]) (lenOf pd_3 rfl) rfl (by show 2 * 0 + _ ≤ _; exact Nat.le_of_eq rfl) (hb hby at_217) (fun _ _ => ⟨rfl, e85', (by decide : 3 + 0 ≤ _), (by decide : 3 + 0 ≤ _)⟩)
    dsimp only [Pt.U, Pt.locs, Pt.cells, Pt.slots] at X87 l87 y87 z87 st87 hQ87
    subst l87 y87 z87
    obtain ⟨h87, e87⟩ : ∃ z, T87.heap = z := ⟨_, rfl⟩
    rw [e87] at hQ87
    obtain ⟨rfl, N87q, hh87⟩ := hQ87
    have N88 := Fr.app N86 N87q
    have e87' : T87.heap = h62 := e87.trans hh87
    have hn89 : ¬ ((p4_ &&& (2147483647 : Int32)) < (0 : Int32)) := own_node _
    have pre90 : ∀ t, Steps p.tables e below (T87.setTop (mkF m 224 #[.val (.long q0_), .second, .val (.long q1_), .second, .val (.long q2_), .second, .val (.int p3_), .val (.int p4_), .val (.int (1 : Int32)), .val (.ref b42), .val (.ref nb1_49), .val (.int (p4_ &&& (2147483647 : Int32)))] [])) t → Steps p.tables e below (s₁.setTop (entryFrame m #[(.long q0_), (.long q1_), (.long q2_), (.int p3_), (.int p4_)] maxLocals)) t := by
      intro t kt
      refine pre41 t ?_
      show Steps p.tables e below (s₁.setTop (mkF m 6 #[.val (.long q0_), .second, .val (.long q1_), .second, .val (.long q2_), .second, .val (.int p3_), .val (.int p4_), .val (.int (1 : Int32)), .unset, .unset, .unset] [])) _
      refine XS.iload X0.here hx rfl (hb hby at_6) rfl ?_
      show Steps p.tables e below (s₁.setTop (mkF m 8 #[.val (.long q0_), .second, .val (.long q1_), .second, .val (.long q2_), .second, .val (.int p3_), .val (.int p4_), .val (.int (1 : Int32)), .unset, .unset, .unset] [(.int (1 : Int32))])) _
      refine XS.ifYes X0.here hx rfl (pc0 := 8) (pc' := 19) rfl (hb hby at_8) rfl ((if0 _ _).trans (feq (by decide : ¬ ((1 : Int32) = (0 : Int32)))).2) (by decide) (by decide) ?_
      show Steps p.tables e below (s₁.setTop (mkF m 19 #[.val (.long q0_), .second, .val (.long q1_), .second, .val (.long q2_), .second, .val (.int p3_), .val (.int p4_), .val (.int (1 : Int32)), .unset, .unset, .unset] [])) _
      refine XS.iload X0.here hx rfl (hb hby at_19) rfl ?_
      show Steps p.tables e below (s₁.setTop (mkF m 21 #[.val (.long q0_), .second, .val (.long q1_), .second, .val (.long q2_), .second, .val (.int p3_), .val (.int p4_), .val (.int (1 : Int32)), .unset, .unset, .unset] [(.int (1 : Int32))])) _
      refine XS.iconst X0.here hx rfl (hb hby at_21) ?_
      show Steps p.tables e below (s₁.setTop (mkF m 22 #[.val (.long q0_), .second, .val (.long q1_), .second, .val (.long q2_), .second, .val (.int p3_), .val (.int p4_), .val (.int (1 : Int32)), .unset, .unset, .unset] [(.int (1 : Int32)), (.int (1 : Int32))])) _
      refine XS.icmpNo X0.here hx rfl (hb hby at_22) rfl (teq (by decide : (1 : Int32) = (1 : Int32))).2 ?_
      show Steps p.tables e below (s₁.setTop (mkF m 25 #[.val (.long q0_), .second, .val (.long q1_), .second, .val (.long q2_), .second, .val (.int p3_), .val (.int p4_), .val (.int (1 : Int32)), .unset, .unset, .unset] [])) _
      refine XS.iconst X0.here hx rfl (hb hby at_25) ?_
      show Steps p.tables e below (s₁.setTop (mkF m 26 #[.val (.long q0_), .second, .val (.long q1_), .second, .val (.long q2_), .second, .val (.int p3_), .val (.int p4_), .val (.int (1 : Int32)), .unset, .unset, .unset] [(.int (1 : Int32))])) _
      refine st42 _ ?_
      show Steps p.tables e below (T42.setTop (mkF m 28 #[.val (.long q0_), .second, .val (.long q1_), .second, .val (.long q2_), .second, .val (.int p3_), .val (.int p4_), .val (.int (1 : Int32)), .unset, .unset, .unset] [(.ref b42)])) _
      refine XS.dup X42.here hx rfl (hb hby at_28) rfl rfl ?_
      show Steps p.tables e below (T42.setTop (mkF m 29 #[.val (.long q0_), .second, .val (.long q1_), .second, .val (.long q2_), .second, .val (.int p3_), .val (.int p4_), .val (.int (1 : Int32)), .unset, .unset, .unset] [(.ref b42), (.ref b42)])) _
      refine XS.iconst X42.here hx rfl (hb hby at_29) ?_
      show Steps p.tables e below (T42.setTop (mkF m 30 #[.val (.long q0_), .second, .val (.long q1_), .second, .val (.long q2_), .second, .val (.int p3_), .val (.int p4_), .val (.int (1 : Int32)), .unset, .unset, .unset] [(.int (0 : Int32)), (.ref b42), (.ref b42)])) _
      refine XS.lloadN X42.here hx rfl (hb hby at_30) rfl ?_
      show Steps p.tables e below (T42.setTop (mkF m 31 #[.val (.long q0_), .second, .val (.long q1_), .second, .val (.long q2_), .second, .val (.int p3_), .val (.int p4_), .val (.int (1 : Int32)), .unset, .unset, .unset] [(.long q0_), (.int (0 : Int32)), (.ref b42), (.ref b42)])) _
      refine st46 _ ?_
      show Steps p.tables e below (T46.setTop (mkF m 32 #[.val (.long q0_), .second, .val (.long q1_), .second, .val (.long q2_), .second, .val (.int p3_), .val (.int p4_), .val (.int (1 : Int32)), .unset, .unset, .unset] [(.ref b42)])) _
      refine XS.astore X46.here hx rfl (hb hby at_32) rfl rfl (l' := #[.val (.long q0_), .second, .val (.long q1_), .second, .val (.long q2_), .second, .val (.int p3_), .val (.int p4_), .val (.int (1 : Int32)), .val (.ref b42), .unset, .unset]) rfl ?_
      show Steps p.tables e below (T46.setTop (mkF m 34 #[.val (.long q0_), .second, .val (.long q1_), .second, .val (.long q2_), .second, .val (.int p3_), .val (.int p4_), .val (.int (1 : Int32)), .val (.ref b42), .unset, .unset] [])) _
      refine XS.goto X46.here hx rfl (pc0 := 34) (pc' := 77) rfl (hb hby at_34) (by decide) (by decide) ?_
      show Steps p.tables e below (T46.setTop (mkF m 77 #[.val (.long q0_), .second, .val (.long q1_), .second, .val (.long q2_), .second, .val (.int p3_), .val (.int p4_), .val (.int (1 : Int32)), .val (.ref b42), .unset, .unset] [])) _
      refine XS.aload X46.here hx rfl (hb hby at_77) rfl rfl ?_
      show Steps p.tables e below (T46.setTop (mkF m 79 #[.val (.long q0_), .second, .val (.long q1_), .second, .val (.long q2_), .second, .val (.int p3_), .val (.int p4_), .val (.int (1 : Int32)), .val (.ref b42), .unset, .unset] [(.ref b42)])) _
      refine st49 _ ?_
      show Steps p.tables e below (T49.setTop (mkF m 82 #[.val (.long q0_), .second, .val (.long q1_), .second, .val (.long q2_), .second, .val (.int p3_), .val (.int p4_), .val (.int (1 : Int32)), .val (.ref b42), .unset, .unset] [(.ref nb1_49)])) _
      refine XS.astore X49.here hx rfl (hb hby at_82) rfl rfl (l' := #[.val (.long q0_), .second, .val (.long q1_), .second, .val (.long q2_), .second, .val (.int p3_), .val (.int p4_), .val (.int (1 : Int32)), .val (.ref b42), .val (.ref nb1_49), .unset]) rfl ?_
      show Steps p.tables e below (T49.setTop (mkF m 84 #[.val (.long q0_), .second, .val (.long q1_), .second, .val (.long q2_), .second, .val (.int p3_), .val (.int p4_), .val (.int (1 : Int32)), .val (.ref b42), .val (.ref nb1_49), .unset] [])) _
      refine XS.iload X49.here hx rfl (hb hby at_84) rfl ?_
      show Steps p.tables e below (T49.setTop (mkF m 86 #[.val (.long q0_), .second, .val (.long q1_), .second, .val (.long q2_), .second, .val (.int p3_), .val (.int p4_), .val (.int (1 : Int32)), .val (.ref b42), .val (.ref nb1_49), .unset] [(.int (1 : Int32))])) _
      refine XS.ifNo X49.here hx rfl (hb hby at_86) rfl ((if0 _ _).trans (tlt (by decide : (0 : Int32) < (1 : Int32))).2.2.2) ?_
      show Steps p.tables e below (T49.setTop (mkF m 89 #[.val (.long q0_), .second, .val (.long q1_), .second, .val (.long q2_), .second, .val (.int p3_), .val (.int p4_), .val (.int (1 : Int32)), .val (.ref b42), .val (.ref nb1_49), .unset] [])) _
      refine XS.aload X49.here hx rfl (hb hby at_89) rfl rfl ?_
      show Steps p.tables e below (T49.setTop (mkF m 91 #[.val (.long q0_), .second, .val (.long q1_), .second, .val (.long q2_), .second, .val (.int p3_), .val (.int p4_), .val (.int (1 : Int32)), .val (.ref b42), .val (.ref nb1_49), .unset] [(.ref b42)])) _
      refine XS.iconst X49.here hx rfl (hb hby at_91) ?_
      show Steps p.tables e below (T49.setTop (mkF m 92 #[.val (.long q0_), .second, .val (.long q1_), .second, .val (.long q2_), .second, .val (.int p3_), .val (.int p4_), .val (.int (1 : Int32)), .val (.ref b42), .val (.ref nb1_49), .unset] [(.int (0 : Int32)), (.ref b42)])) _
      refine XS.aload X49.here hx rfl (hb hby at_92) rfl rfl ?_
      show Steps p.tables e below (T49.setTop (mkF m 94 #[.val (.long q0_), .second, .val (.long q1_), .second, .val (.long q2_), .second, .val (.int p3_), .val (.int p4_), .val (.int (1 : Int32)), .val (.ref b42), .val (.ref nb1_49), .unset] [(.ref b42), (.int (0 : Int32)), (.ref b42)])) _
      refine XS.iconst X49.here hx rfl (hb hby at_94) ?_
      show Steps p.tables e below (T49.setTop (mkF m 95 #[.val (.long q0_), .second, .val (.long q1_), .second, .val (.long q2_), .second, .val (.int p3_), .val (.int p4_), .val (.int (1 : Int32)), .val (.ref b42), .val (.ref nb1_49), .unset] [(.int (0 : Int32)), (.ref b42), (.int (0 : Int32)), (.ref b42)])) _
      refine X49.laload hx (j := (0 : Int32)) (v := (.long q0_)) (by rw [e49]; exact r61.1) (State.isArrayOf_alike hZ.alike r61.2.1) r61.2.2 hin61 hat61 (g := (mkF m 95 #[.val (.long q0_), .second, .val (.long q1_), .second, .val (.long q2_), .second, .val (.int p3_), .val (.int p4_), .val (.int (1 : Int32)), .val (.ref b42), .val (.ref nb1_49), .unset] [(.int (0 : Int32)), (.ref b42), (.int (0 : Int32)), (.ref b42)])) rfl rfl (hb hby at_95) _ ?_
      show Steps p.tables e below (T49.setTop (mkF m 96 #[.val (.long q0_), .second, .val (.long q1_), .second, .val (.long q2_), .second, .val (.int p3_), .val (.int p4_), .val (.int (1 : Int32)), .val (.ref b42), .val (.ref nb1_49), .unset] [(.long q0_), (.int (0 : Int32)), (.ref b42)])) _
      refine X49.ldc2Long hx hown (mvT hZ (hw _ (List.mem_of_getElem? (i := 24) rfl))) (g := (mkF m 96 #[.val (.long q0_), .second, .val (.long q1_), .second, .val (.long q2_), .second, .val (.int p3_), .val (.int p4_), .val (.int (1 : Int32)), .val (.ref b42), .val (.ref nb1_49), .unset] [(.long q0_), (.int (0 : Int32)), (.ref b42)])) rfl (hb hby at_96) _ ?_
      show Steps p.tables e below (T49.setTop (mkF m 99 #[.val (.long q0_), .second, .val (.long q1_), .second, .val (.long q2_), .second, .val (.int p3_), .val (.int p4_), .val (.int (1 : Int32)), .val (.ref b42), .val (.ref nb1_49), .unset] [(.long (-1 : Int64)), (.long q0_), (.int (0 : Int32)), (.ref b42)])) _
      refine XS.lxor X49.here hx rfl (hb hby at_99) rfl ?_
      show Steps p.tables e below (T49.setTop (mkF m 100 #[.val (.long q0_), .second, .val (.long q1_), .second, .val (.long q2_), .second, .val (.int p3_), .val (.int p4_), .val (.int (1 : Int32)), .val (.ref b42), .val (.ref nb1_49), .unset] [(.long (q0_ ^^^ (-1 : Int64))), (.int (0 : Int32)), (.ref b42)])) _
      refine st62 _ ?_
      show Steps p.tables e below (T62.setTop (mkF m 101 #[.val (.long q0_), .second, .val (.long q1_), .second, .val (.long q2_), .second, .val (.int p3_), .val (.int p4_), .val (.int (1 : Int32)), .val (.ref b42), .val (.ref nb1_49), .unset] [])) _
      refine XS.iload X62.here hx rfl (hb hby at_101) rfl ?_
      show Steps p.tables e below (T62.setTop (mkF m 103 #[.val (.long q0_), .second, .val (.long q1_), .second, .val (.long q2_), .second, .val (.int p3_), .val (.int p4_), .val (.int (1 : Int32)), .val (.ref b42), .val (.ref nb1_49), .unset] [(.int (1 : Int32))])) _
      refine XS.iconst X62.here hx rfl (hb hby at_103) ?_
      show Steps p.tables e below (T62.setTop (mkF m 104 #[.val (.long q0_), .second, .val (.long q1_), .second, .val (.long q2_), .second, .val (.int p3_), .val (.int p4_), .val (.int (1 : Int32)), .val (.ref b42), .val (.ref nb1_49), .unset] [(.int (1 : Int32)), (.int (1 : Int32))])) _
      refine XS.icmpYes X62.here hx rfl (pc0 := 104) (pc' := 119) rfl (hb hby at_104) rfl (flt (by decide : ¬ ((1 : Int32) < (1 : Int32)))).2.2.2 (by decide) (by decide) ?_
      show Steps p.tables e below (T62.setTop (mkF m 119 #[.val (.long q0_), .second, .val (.long q1_), .second, .val (.long q2_), .second, .val (.int p3_), .val (.int p4_), .val (.int (1 : Int32)), .val (.ref b42), .val (.ref nb1_49), .unset] [])) _
      refine XS.iload X62.here hx rfl (hb hby at_119) rfl ?_
      show Steps p.tables e below (T62.setTop (mkF m 121 #[.val (.long q0_), .second, .val (.long q1_), .second, .val (.long q2_), .second, .val (.int p3_), .val (.int p4_), .val (.int (1 : Int32)), .val (.ref b42), .val (.ref nb1_49), .unset] [(.int (1 : Int32))])) _
      refine XS.iconst X62.here hx rfl (hb hby at_121) ?_
      show Steps p.tables e below (T62.setTop (mkF m 122 #[.val (.long q0_), .second, .val (.long q1_), .second, .val (.long q2_), .second, .val (.int p3_), .val (.int p4_), .val (.int (1 : Int32)), .val (.ref b42), .val (.ref nb1_49), .unset] [(.int (2 : Int32)), (.int (1 : Int32))])) _
      refine XS.icmpYes X62.here hx rfl (pc0 := 122) (pc' := 137) rfl (hb hby at_122) rfl (flt (by decide : ¬ ((2 : Int32) < (1 : Int32)))).2.2.2 (by decide) (by decide) ?_
      show Steps p.tables e below (T62.setTop (mkF m 137 #[.val (.long q0_), .second, .val (.long q1_), .second, .val (.long q2_), .second, .val (.int p3_), .val (.int p4_), .val (.int (1 : Int32)), .val (.ref b42), .val (.ref nb1_49), .unset] [])) _
      refine XS.iload X62.here hx rfl (hb hby at_137) rfl ?_
      show Steps p.tables e below (T62.setTop (mkF m 139 #[.val (.long q0_), .second, .val (.long q1_), .second, .val (.long q2_), .second, .val (.int p3_), .val (.int p4_), .val (.int (1 : Int32)), .val (.ref b42), .val (.ref nb1_49), .unset] [(.int p4_)])) _
      refine X62.ldcInt hx hown (mvT hZ (hw _ (List.mem_of_getElem? (i := 25) rfl))) (g := (mkF m 139 #[.val (.long q0_), .second, .val (.long q1_), .second, .val (.long q2_), .second, .val (.int p3_), .val (.int p4_), .val (.int (1 : Int32)), .val (.ref b42), .val (.ref nb1_49), .unset] [(.int p4_)])) rfl (hb hby at_139) _ ?_
      show Steps p.tables e below (T62.setTop (mkF m 141 #[.val (.long q0_), .second, .val (.long q1_), .second, .val (.long q2_), .second, .val (.int p3_), .val (.int p4_), .val (.int (1 : Int32)), .val (.ref b42), .val (.ref nb1_49), .unset] [(.int (2147483647 : Int32)), (.int p4_)])) _
      refine XS.iand X62.here hx rfl (hb hby at_141) rfl ?_
      show Steps p.tables e below (T62.setTop (mkF m 142 #[.val (.long q0_), .second, .val (.long q1_), .second, .val (.long q2_), .second, .val (.int p3_), .val (.int p4_), .val (.int (1 : Int32)), .val (.ref b42), .val (.ref nb1_49), .unset] [(.int (p4_ &&& (2147483647 : Int32)))])) _
      refine XS.istore X62.here hx rfl (hb hby at_142) rfl (l' := #[.val (.long q0_), .second, .val (.long q1_), .second, .val (.long q2_), .second, .val (.int p3_), .val (.int p4_), .val (.int (1 : Int32)), .val (.ref b42), .val (.ref nb1_49), .val (.int (p4_ &&& (2147483647 : Int32)))]) rfl ?_
      show Steps p.tables e below (T62.setTop (mkF m 144 #[.val (.long q0_), .second, .val (.long q1_), .second, .val (.long q2_), .second, .val (.int p3_), .val (.int p4_), .val (.int (1 : Int32)), .val (.ref b42), .val (.ref nb1_49), .val (.int (p4_ &&& (2147483647 : Int32)))] [])) _
      refine XS.aload X62.here hx rfl (hb hby at_144) rfl rfl ?_
      show Steps p.tables e below (T62.setTop (mkF m 146 #[.val (.long q0_), .second, .val (.long q1_), .second, .val (.long q2_), .second, .val (.int p3_), .val (.int p4_), .val (.int (1 : Int32)), .val (.ref b42), .val (.ref nb1_49), .val (.int (p4_ &&& (2147483647 : Int32)))] [(.ref nb1_49)])) _
      refine XS.iconst X62.here hx rfl (hb hby at_146) ?_
      show Steps p.tables e below (T62.setTop (mkF m 147 #[.val (.long q0_), .second, .val (.long q1_), .second, .val (.long q2_), .second, .val (.int p3_), .val (.int p4_), .val (.int (1 : Int32)), .val (.ref b42), .val (.ref nb1_49), .val (.int (p4_ &&& (2147483647 : Int32)))] [(.int (0 : Int32)), (.ref nb1_49)])) _
      refine st65.trans ?_
      show Steps p.tables e below (T65.setTop (mkF m 150 #[.val (.long q0_), .second, .val (.long q1_), .second, .val (.long q2_), .second, .val (.int p3_), .val (.int p4_), .val (.int (1 : Int32)), .val (.ref b42), .val (.ref nb1_49), .val (.int (p4_ &&& (2147483647 : Int32)))] [(.long q0_)])) _
      refine XS.iconst X65.here hx rfl (hb hby at_150) ?_
      show Steps p.tables e below (T65.setTop (mkF m 151 #[.val (.long q0_), .second, .val (.long q1_), .second, .val (.long q2_), .second, .val (.int p3_), .val (.int p4_), .val (.int (1 : Int32)), .val (.ref b42), .val (.ref nb1_49), .val (.int (p4_ &&& (2147483647 : Int32)))] [(.int (0 : Int32)), (.long q0_)])) _
      refine XS.iload X65.here hx rfl (hb hby at_151) rfl ?_
      show Steps p.tables e below (T65.setTop (mkF m 153 #[.val (.long q0_), .second, .val (.long q1_), .second, .val (.long q2_), .second, .val (.int p3_), .val (.int p4_), .val (.int (1 : Int32)), .val (.ref b42), .val (.ref nb1_49), .val (.int (p4_ &&& (2147483647 : Int32)))] [(.int (1 : Int32)), (.int (0 : Int32)), (.long q0_)])) _
      refine XS.lloadN X65.here hx rfl (hb hby at_153) rfl ?_
      show Steps p.tables e below (T65.setTop (mkF m 154 #[.val (.long q0_), .second, .val (.long q1_), .second, .val (.long q2_), .second, .val (.int p3_), .val (.int p4_), .val (.int (1 : Int32)), .val (.ref b42), .val (.ref nb1_49), .val (.int (p4_ &&& (2147483647 : Int32)))] [(.long q0_), (.int (1 : Int32)), (.int (0 : Int32)), (.long q0_)])) _
      refine XS.lloadN X65.here hx rfl (hb hby at_154) rfl ?_
      show Steps p.tables e below (T65.setTop (mkF m 155 #[.val (.long q0_), .second, .val (.long q1_), .second, .val (.long q2_), .second, .val (.int p3_), .val (.int p4_), .val (.int (1 : Int32)), .val (.ref b42), .val (.ref nb1_49), .val (.int (p4_ &&& (2147483647 : Int32)))] [(.long q1_), (.long q0_), (.int (1 : Int32)), (.int (0 : Int32)), (.long q0_)])) _
      refine XS.lload X65.here hx rfl (hb hby at_155) rfl ?_
      show Steps p.tables e below (T65.setTop (mkF m 157 #[.val (.long q0_), .second, .val (.long q1_), .second, .val (.long q2_), .second, .val (.int p3_), .val (.int p4_), .val (.int (1 : Int32)), .val (.ref b42), .val (.ref nb1_49), .val (.int (p4_ &&& (2147483647 : Int32)))] [(.long q2_), (.long q1_), (.long q0_), (.int (1 : Int32)), (.int (0 : Int32)), (.long q0_)])) _
      refine st75 _ ?_
      show Steps p.tables e below (T75.setTop (mkF m 160 #[.val (.long q0_), .second, .val (.long q1_), .second, .val (.long q2_), .second, .val (.int p3_), .val (.int p4_), .val (.int (1 : Int32)), .val (.ref b42), .val (.ref nb1_49), .val (.int (p4_ &&& (2147483647 : Int32)))] [(.long q0_), (.long q0_)])) _
      refine XS.lcmp X75.here hx rfl (hb hby at_160) rfl ?_
      show Steps p.tables e below (T75.setTop (mkF m 161 #[.val (.long q0_), .second, .val (.long q1_), .second, .val (.long q2_), .second, .val (.int p3_), .val (.int p4_), .val (.int (1 : Int32)), .val (.ref b42), .val (.ref nb1_49), .val (.int (p4_ &&& (2147483647 : Int32)))] [(.int (lcmpW q0_ q0_))])) _
      refine XS.ifNo X75.here hx rfl (hb hby at_161) rfl ((if0 _ _).trans (teq ((lw_eq _ _).mpr (rfl : q0_ = q0_))).2) ?_
      show Steps p.tables e below (T75.setTop (mkF m 164 #[.val (.long q0_), .second, .val (.long q1_), .second, .val (.long q2_), .second, .val (.int p3_), .val (.int p4_), .val (.int (1 : Int32)), .val (.ref b42), .val (.ref nb1_49), .val (.int (p4_ &&& (2147483647 : Int32)))] [])) _
      refine XS.aload X75.here hx rfl (hb hby at_164) rfl rfl ?_
      show Steps p.tables e below (T75.setTop (mkF m 166 #[.val (.long q0_), .second, .val (.long q1_), .second, .val (.long q2_), .second, .val (.int p3_), .val (.int p4_), .val (.int (1 : Int32)), .val (.ref b42), .val (.ref nb1_49), .val (.int (p4_ &&& (2147483647 : Int32)))] [(.ref nb1_49)])) _
      refine XS.iconst X75.here hx rfl (hb hby at_166) ?_
      show Steps p.tables e below (T75.setTop (mkF m 167 #[.val (.long q0_), .second, .val (.long q1_), .second, .val (.long q2_), .second, .val (.int p3_), .val (.int p4_), .val (.int (1 : Int32)), .val (.ref b42), .val (.ref nb1_49), .val (.int (p4_ &&& (2147483647 : Int32)))] [(.int (1 : Int32)), (.ref nb1_49)])) _
      refine st77.trans ?_
      show Steps p.tables e below (T77.setTop (mkF m 170 #[.val (.long q0_), .second, .val (.long q1_), .second, .val (.long q2_), .second, .val (.int p3_), .val (.int p4_), .val (.int (1 : Int32)), .val (.ref b42), .val (.ref nb1_49), .val (.int (p4_ &&& (2147483647 : Int32)))] [(.long (0 : Int64))])) _
      refine XS.iconst X77.here hx rfl (hb hby at_170) ?_
      show Steps p.tables e below (T77.setTop (mkF m 171 #[.val (.long q0_), .second, .val (.long q1_), .second, .val (.long q2_), .second, .val (.int p3_), .val (.int p4_), .val (.int (1 : Int32)), .val (.ref b42), .val (.ref nb1_49), .val (.int (p4_ &&& (2147483647 : Int32)))] [(.int (1 : Int32)), (.long (0 : Int64))])) _
      refine XS.iload X77.here hx rfl (hb hby at_171) rfl ?_
      show Steps p.tables e below (T77.setTop (mkF m 173 #[.val (.long q0_), .second, .val (.long q1_), .second, .val (.long q2_), .second, .val (.int p3_), .val (.int p4_), .val (.int (1 : Int32)), .val (.ref b42), .val (.ref nb1_49), .val (.int (p4_ &&& (2147483647 : Int32)))] [(.int (1 : Int32)), (.int (1 : Int32)), (.long (0 : Int64))])) _
      refine XS.lloadN X77.here hx rfl (hb hby at_173) rfl ?_
      show Steps p.tables e below (T77.setTop (mkF m 174 #[.val (.long q0_), .second, .val (.long q1_), .second, .val (.long q2_), .second, .val (.int p3_), .val (.int p4_), .val (.int (1 : Int32)), .val (.ref b42), .val (.ref nb1_49), .val (.int (p4_ &&& (2147483647 : Int32)))] [(.long q0_), (.int (1 : Int32)), (.int (1 : Int32)), (.long (0 : Int64))])) _
      refine XS.lloadN X77.here hx rfl (hb hby at_174) rfl ?_
      show Steps p.tables e below (T77.setTop (mkF m 175 #[.val (.long q0_), .second, .val (.long q1_), .second, .val (.long q2_), .second, .val (.int p3_), .val (.int p4_), .val (.int (1 : Int32)), .val (.ref b42), .val (.ref nb1_49), .val (.int (p4_ &&& (2147483647 : Int32)))] [(.long q1_), (.long q0_), (.int (1 : Int32)), (.int (1 : Int32)), (.long (0 : Int64))])) _
      refine XS.lload X77.here hx rfl (hb hby at_175) rfl ?_
      show Steps p.tables e below (T77.setTop (mkF m 177 #[.val (.long q0_), .second, .val (.long q1_), .second, .val (.long q2_), .second, .val (.int p3_), .val (.int p4_), .val (.int (1 : Int32)), .val (.ref b42), .val (.ref nb1_49), .val (.int (p4_ &&& (2147483647 : Int32)))] [(.long q2_), (.long q1_), (.long q0_), (.int (1 : Int32)), (.int (1 : Int32)), (.long (0 : Int64))])) _
      refine st79 _ ?_
      show Steps p.tables e below (T79.setTop (mkF m 180 #[.val (.long q0_), .second, .val (.long q1_), .second, .val (.long q2_), .second, .val (.int p3_), .val (.int p4_), .val (.int (1 : Int32)), .val (.ref b42), .val (.ref nb1_49), .val (.int (p4_ &&& (2147483647 : Int32)))] [(.long (0 : Int64)), (.long (0 : Int64))])) _
      refine XS.lcmp X79.here hx rfl (hb hby at_180) rfl ?_
      show Steps p.tables e below (T79.setTop (mkF m 181 #[.val (.long q0_), .second, .val (.long q1_), .second, .val (.long q2_), .second, .val (.int p3_), .val (.int p4_), .val (.int (1 : Int32)), .val (.ref b42), .val (.ref nb1_49), .val (.int (p4_ &&& (2147483647 : Int32)))] [(.int (lcmpW (0 : Int64) (0 : Int64)))])) _
      refine XS.ifNo X79.here hx rfl (hb hby at_181) rfl ((if0 _ _).trans (teq ((lw_eq _ _).mpr (by decide : (0 : Int64) = (0 : Int64)))).2) ?_
      show Steps p.tables e below (T79.setTop (mkF m 184 #[.val (.long q0_), .second, .val (.long q1_), .second, .val (.long q2_), .second, .val (.int p3_), .val (.int p4_), .val (.int (1 : Int32)), .val (.ref b42), .val (.ref nb1_49), .val (.int (p4_ &&& (2147483647 : Int32)))] [])) _
      refine XS.aload X79.here hx rfl (hb hby at_184) rfl rfl ?_
      show Steps p.tables e below (T79.setTop (mkF m 186 #[.val (.long q0_), .second, .val (.long q1_), .second, .val (.long q2_), .second, .val (.int p3_), .val (.int p4_), .val (.int (1 : Int32)), .val (.ref b42), .val (.ref nb1_49), .val (.int (p4_ &&& (2147483647 : Int32)))] [(.ref nb1_49)])) _
      refine XS.iconst X79.here hx rfl (hb hby at_186) ?_
      show Steps p.tables e below (T79.setTop (mkF m 187 #[.val (.long q0_), .second, .val (.long q1_), .second, .val (.long q2_), .second, .val (.int p3_), .val (.int p4_), .val (.int (1 : Int32)), .val (.ref b42), .val (.ref nb1_49), .val (.int (p4_ &&& (2147483647 : Int32)))] [(.int (2 : Int32)), (.ref nb1_49)])) _
      refine st81.trans ?_
      show Steps p.tables e below (T81.setTop (mkF m 190 #[.val (.long q0_), .second, .val (.long q1_), .second, .val (.long q2_), .second, .val (.int p3_), .val (.int p4_), .val (.int (1 : Int32)), .val (.ref b42), .val (.ref nb1_49), .val (.int (p4_ &&& (2147483647 : Int32)))] [(.long (0 : Int64))])) _
      refine XS.iconst X81.here hx rfl (hb hby at_190) ?_
      show Steps p.tables e below (T81.setTop (mkF m 191 #[.val (.long q0_), .second, .val (.long q1_), .second, .val (.long q2_), .second, .val (.int p3_), .val (.int p4_), .val (.int (1 : Int32)), .val (.ref b42), .val (.ref nb1_49), .val (.int (p4_ &&& (2147483647 : Int32)))] [(.int (2 : Int32)), (.long (0 : Int64))])) _
      refine XS.iload X81.here hx rfl (hb hby at_191) rfl ?_
      show Steps p.tables e below (T81.setTop (mkF m 193 #[.val (.long q0_), .second, .val (.long q1_), .second, .val (.long q2_), .second, .val (.int p3_), .val (.int p4_), .val (.int (1 : Int32)), .val (.ref b42), .val (.ref nb1_49), .val (.int (p4_ &&& (2147483647 : Int32)))] [(.int (1 : Int32)), (.int (2 : Int32)), (.long (0 : Int64))])) _
      refine XS.lloadN X81.here hx rfl (hb hby at_193) rfl ?_
      show Steps p.tables e below (T81.setTop (mkF m 194 #[.val (.long q0_), .second, .val (.long q1_), .second, .val (.long q2_), .second, .val (.int p3_), .val (.int p4_), .val (.int (1 : Int32)), .val (.ref b42), .val (.ref nb1_49), .val (.int (p4_ &&& (2147483647 : Int32)))] [(.long q0_), (.int (1 : Int32)), (.int (2 : Int32)), (.long (0 : Int64))])) _
      refine XS.lloadN X81.here hx rfl (hb hby at_194) rfl ?_
      show Steps p.tables e below (T81.setTop (mkF m 195 #[.val (.long q0_), .second, .val (.long q1_), .second, .val (.long q2_), .second, .val (.int p3_), .val (.int p4_), .val (.int (1 : Int32)), .val (.ref b42), .val (.ref nb1_49), .val (.int (p4_ &&& (2147483647 : Int32)))] [(.long q1_), (.long q0_), (.int (1 : Int32)), (.int (2 : Int32)), (.long (0 : Int64))])) _
      refine XS.lload X81.here hx rfl (hb hby at_195) rfl ?_
      show Steps p.tables e below (T81.setTop (mkF m 197 #[.val (.long q0_), .second, .val (.long q1_), .second, .val (.long q2_), .second, .val (.int p3_), .val (.int p4_), .val (.int (1 : Int32)), .val (.ref b42), .val (.ref nb1_49), .val (.int (p4_ &&& (2147483647 : Int32)))] [(.long q2_), (.long q1_), (.long q0_), (.int (1 : Int32)), (.int (2 : Int32)), (.long (0 : Int64))])) _
      refine st83 _ ?_
      show Steps p.tables e below (T83.setTop (mkF m 200 #[.val (.long q0_), .second, .val (.long q1_), .second, .val (.long q2_), .second, .val (.int p3_), .val (.int p4_), .val (.int (1 : Int32)), .val (.ref b42), .val (.ref nb1_49), .val (.int (p4_ &&& (2147483647 : Int32)))] [(.long (0 : Int64)), (.long (0 : Int64))])) _
      refine XS.lcmp X83.here hx rfl (hb hby at_200) rfl ?_
      show Steps p.tables e below (T83.setTop (mkF m 201 #[.val (.long q0_), .second, .val (.long q1_), .second, .val (.long q2_), .second, .val (.int p3_), .val (.int p4_), .val (.int (1 : Int32)), .val (.ref b42), .val (.ref nb1_49), .val (.int (p4_ &&& (2147483647 : Int32)))] [(.int (lcmpW (0 : Int64) (0 : Int64)))])) _
      refine XS.ifNo X83.here hx rfl (hb hby at_201) rfl ((if0 _ _).trans (teq ((lw_eq _ _).mpr (by decide : (0 : Int64) = (0 : Int64)))).2) ?_
      show Steps p.tables e below (T83.setTop (mkF m 204 #[.val (.long q0_), .second, .val (.long q1_), .second, .val (.long q2_), .second, .val (.int p3_), .val (.int p4_), .val (.int (1 : Int32)), .val (.ref b42), .val (.ref nb1_49), .val (.int (p4_ &&& (2147483647 : Int32)))] [])) _
      refine XS.aload X83.here hx rfl (hb hby at_204) rfl rfl ?_
      show Steps p.tables e below (T83.setTop (mkF m 206 #[.val (.long q0_), .second, .val (.long q1_), .second, .val (.long q2_), .second, .val (.int p3_), .val (.int p4_), .val (.int (1 : Int32)), .val (.ref b42), .val (.ref nb1_49), .val (.int (p4_ &&& (2147483647 : Int32)))] [(.ref nb1_49)])) _
      refine XS.iconst X83.here hx rfl (hb hby at_206) ?_
      show Steps p.tables e below (T83.setTop (mkF m 207 #[.val (.long q0_), .second, .val (.long q1_), .second, .val (.long q2_), .second, .val (.int p3_), .val (.int p4_), .val (.int (1 : Int32)), .val (.ref b42), .val (.ref nb1_49), .val (.int (p4_ &&& (2147483647 : Int32)))] [(.int (3 : Int32)), (.ref nb1_49)])) _
      refine st85.trans ?_
      show Steps p.tables e below (T85.setTop (mkF m 210 #[.val (.long q0_), .second, .val (.long q1_), .second, .val (.long q2_), .second, .val (.int p3_), .val (.int p4_), .val (.int (1 : Int32)), .val (.ref b42), .val (.ref nb1_49), .val (.int (p4_ &&& (2147483647 : Int32)))] [(.long (0 : Int64))])) _
      refine XS.iconst X85.here hx rfl (hb hby at_210) ?_
      show Steps p.tables e below (T85.setTop (mkF m 211 #[.val (.long q0_), .second, .val (.long q1_), .second, .val (.long q2_), .second, .val (.int p3_), .val (.int p4_), .val (.int (1 : Int32)), .val (.ref b42), .val (.ref nb1_49), .val (.int (p4_ &&& (2147483647 : Int32)))] [(.int (3 : Int32)), (.long (0 : Int64))])) _
      refine XS.iload X85.here hx rfl (hb hby at_211) rfl ?_
      show Steps p.tables e below (T85.setTop (mkF m 213 #[.val (.long q0_), .second, .val (.long q1_), .second, .val (.long q2_), .second, .val (.int p3_), .val (.int p4_), .val (.int (1 : Int32)), .val (.ref b42), .val (.ref nb1_49), .val (.int (p4_ &&& (2147483647 : Int32)))] [(.int (1 : Int32)), (.int (3 : Int32)), (.long (0 : Int64))])) _
      refine XS.lloadN X85.here hx rfl (hb hby at_213) rfl ?_
      show Steps p.tables e below (T85.setTop (mkF m 214 #[.val (.long q0_), .second, .val (.long q1_), .second, .val (.long q2_), .second, .val (.int p3_), .val (.int p4_), .val (.int (1 : Int32)), .val (.ref b42), .val (.ref nb1_49), .val (.int (p4_ &&& (2147483647 : Int32)))] [(.long q0_), (.int (1 : Int32)), (.int (3 : Int32)), (.long (0 : Int64))])) _
      refine XS.lloadN X85.here hx rfl (hb hby at_214) rfl ?_
      show Steps p.tables e below (T85.setTop (mkF m 215 #[.val (.long q0_), .second, .val (.long q1_), .second, .val (.long q2_), .second, .val (.int p3_), .val (.int p4_), .val (.int (1 : Int32)), .val (.ref b42), .val (.ref nb1_49), .val (.int (p4_ &&& (2147483647 : Int32)))] [(.long q1_), (.long q0_), (.int (1 : Int32)), (.int (3 : Int32)), (.long (0 : Int64))])) _
      refine XS.lload X85.here hx rfl (hb hby at_215) rfl ?_
      show Steps p.tables e below (T85.setTop (mkF m 217 #[.val (.long q0_), .second, .val (.long q1_), .second, .val (.long q2_), .second, .val (.int p3_), .val (.int p4_), .val (.int (1 : Int32)), .val (.ref b42), .val (.ref nb1_49), .val (.int (p4_ &&& (2147483647 : Int32)))] [(.long q2_), (.long q1_), (.long q0_), (.int (1 : Int32)), (.int (3 : Int32)), (.long (0 : Int64))])) _
      refine st87 _ ?_
      show Steps p.tables e below (T87.setTop (mkF m 220 #[.val (.long q0_), .second, .val (.long q1_), .second, .val (.long q2_), .second, .val (.int p3_), .val (.int p4_), .val (.int (1 : Int32)), .val (.ref b42), .val (.ref nb1_49), .val (.int (p4_ &&& (2147483647 : Int32)))] [(.long (0 : Int64)), (.long (0 : Int64))])) _
      refine XS.lcmp X87.here hx rfl (hb hby at_220) rfl ?_
      show Steps p.tables e below (T87.setTop (mkF m 221 #[.val (.long q0_), .second, .val (.long q1_), .second, .val (.long q2_), .second, .val (.int p3_), .val (.int p4_), .val (.int (1 : Int32)), .val (.ref b42), .val (.ref nb1_49), .val (.int (p4_ &&& (2147483647 : Int32)))] [(.int (lcmpW (0 : Int64) (0 : Int64)))])) _
      refine XS.ifNo X87.here hx rfl (hb hby at_221) rfl ((if0 _ _).trans (teq ((lw_eq _ _).mpr (by decide : (0 : Int64) = (0 : Int64)))).2) ?_
      exact kt
    by_cases hv91 : (p4_ &&& (2147483647 : Int32)) = (0 : Int32)
    · have pre92 : ∀ t, Steps p.tables e below (T87.setTop (mkF m 224 #[.val (.long q0_), .second, .val (.long q1_), .second, .val (.long q2_), .second, .val (.int p3_), .val (.int p4_), .val (.int (1 : Int32)), .val (.ref b42), .val (.ref nb1_49), .val (.int (0 : Int32))] [])) t → Steps p.tables e below (s₁.setTop (entryFrame m #[(.long q0_), (.long q1_), (.long q2_), (.int p3_), (.int p4_)] maxLocals)) t := fun t kt => pre90 t (by rw [hv91]; exact kt)
      obtain ⟨cq93, kq93, q93a, q93b, q93c⟩ := isOf hZ e87' f66
      obtain ⟨_, _, ⟨T93, L93, k93, n93⟩, -, X93, ⟨Lc93, hQ93, l93, y93, z93⟩, st93⟩ := X87.virtualBack hx (y := (⟨"com/example/latchkey/latchkey/LockTokens", "get", "(I)J"⟩ : MethodName)) (z := (⟨"com/example/latchkey/latchkey/LockTokens", "get", "(I)J"⟩ : MethodName)) hown (mvT hZ (hw _ (List.mem_of_getElem? (i := 26) rfl))) (mvT hZ (hw _ (List.mem_of_getElem? (i := 27) rfl))) (notFace_of_selects (args := #[]) (mvT hZ (hw _ (List.mem_of_getElem? (i := 29) rfl)))) (mvT hZ (hw _ (List.mem_of_getElem? (i := 29) rfl))) (mvT hZ (hw _ (List.mem_of_getElem? (i := 28) rfl))) (by decide) (backOf (W := 0) (rmget15 l Z a0 hw [] nb1_49 nb5_49 k42 q0_ h62 n0 f73 f66 f67 f69 f71) hZ (hw _ (List.mem_of_getElem? (i := 30) rfl)) (hw _ (List.mem_of_getElem? (i := 3) rfl)) (by decide) (by decide)) q93a q93c (g := (mkF m 228 #[.val (.long q0_), .second, .val (.long q1_), .second, .val (.long q2_), .second, .val (.int p3_), .val (.int p4_), .val (.int (1 : Int32)), .val (.ref b42), .val (.ref nb1_49), .val (.int (0 : Int32))] [(.int (0 : Int32)), (.ref nb1_49)])) rfl (by rw [hml]; rfl) (Steps.refl _) (argsL := [(.int (0 : Int32))]) (rest := []) (lenOf pd_2 rfl) rfl (by show 2 * 0 + _ ≤ _; exact Nat.le_of_eq rfl) (hb hby at_228) (fun _ _ => ⟨rfl, e87', (by decide : 3 + 0 ≤ _), (by decide : 3 + 0 ≤ _)⟩)
      dsimp only [Pt.U, Pt.locs, Pt.cells, Pt.slots] at X93 l93 y93 z93 st93 hQ93
      subst l93 y93 z93
      obtain ⟨h93, e93⟩ : ∃ z, T93.heap = z := ⟨_, rfl⟩
      rw [e93] at hQ93
      obtain ⟨rfl, N93q, hh93⟩ := hQ93
      have N94 := Fr.app N88 N93q
      have e93' : T93.heap = h62 := e93.trans hh93
      obtain ⟨_, _, ⟨T95, L95, k95, n95⟩, -, X95, ⟨Lc95, hQ95, l95, y95, z95⟩, st95⟩ := Jvm.LawKit.callS X93 hx (y := (⟨"com/example/latchkey/latchkey/LockTokensOfPinLaw", "expected", "(IIJJJ)J"⟩ : MethodName)) hown (mvT hZ (hw _ (List.mem_of_getElem? (i := 31) rfl))) (mvT hZ (hw _ (List.mem_of_getElem? (i := 32) rfl))) (mvT hZ (hw _ (List.mem_of_getElem? (i := 33) rfl))) (mvT hZ (hw _ (List.mem_of_getElem? (i := 34) rfl))) (by decide) (backOf (W := 2) (rmexpected16 l Z a0 hw [] q0_ q1_ q2_ h62 n0 f73 ) hZ (hw _ (List.mem_of_getElem? (i := 34) rfl)) (hw _ (List.mem_of_getElem? (i := 33) rfl)) (by decide) (by decide)) (g := (mkF m 239 #[.val (.long q0_), .second, .val (.long q1_), .second, .val (.long q2_), .second, .val (.int p3_), .val (.int p4_), .val (.int (1 : Int32)), .val (.ref b42), .val (.ref nb1_49), .val (.int (0 : Int32))] [(.long q2_), (.long q1_), (.long q0_), (.int (1 : Int32)), (.int (0 : Int32)), (.long q0_)])) rfl (by rw [hml]; rfl) (argsL := [(.int (0 : Int32)), (.int (1 : Int32)), (.long q0_), (.long q1_), (.long q2_)]) (rest := [(.long q0_)]) (lenOf pd_3 rfl) rfl (by show 2 * 0 + _ ≤ _; exact Nat.le_of_eq rfl) (hb hby at_239) (fun _ _ => ⟨rfl, e93', (by decide : 3 + 0 ≤ _), (by decide : 3 + 0 ≤ _)⟩)
      dsimp only [Pt.U, Pt.locs, Pt.cells, Pt.slots] at X95 l95 y95 z95 st95 hQ95
      subst l95 y95 z95
      obtain ⟨h95, e95⟩ : ∃ z, T95.heap = z := ⟨_, rfl⟩
      rw [e95] at hQ95
      obtain ⟨rfl, N95q, hh95⟩ := hQ95
      have N96 := Fr.app N94 N95q
      have e95' : T95.heap = h62 := e95.trans hh95
      have pre97 : ∀ t, Steps p.tables e below (T95.setTop (mkF m 251 #[.val (.long q0_), .second, .val (.long q1_), .second, .val (.long q2_), .second, .val (.int p3_), .val (.int p4_), .val (.int (1 : Int32)), .val (.ref b42), .val (.ref nb1_49), .val (.int (0 : Int32))] [(.int (1 : Int32))])) t → Steps p.tables e below (s₁.setTop (entryFrame m #[(.long q0_), (.long q1_), (.long q2_), (.int p3_), (.int p4_)] maxLocals)) t := by
        intro t kt
        refine pre92 t ?_
        show Steps p.tables e below (T87.setTop (mkF m 224 #[.val (.long q0_), .second, .val (.long q1_), .second, .val (.long q2_), .second, .val (.int p3_), .val (.int p4_), .val (.int (1 : Int32)), .val (.ref b42), .val (.ref nb1_49), .val (.int (0 : Int32))] [])) _
        refine XS.aload X87.here hx rfl (hb hby at_224) rfl rfl ?_
        show Steps p.tables e below (T87.setTop (mkF m 226 #[.val (.long q0_), .second, .val (.long q1_), .second, .val (.long q2_), .second, .val (.int p3_), .val (.int p4_), .val (.int (1 : Int32)), .val (.ref b42), .val (.ref nb1_49), .val (.int (0 : Int32))] [(.ref nb1_49)])) _
        refine XS.iload X87.here hx rfl (hb hby at_226) rfl ?_
        show Steps p.tables e below (T87.setTop (mkF m 228 #[.val (.long q0_), .second, .val (.long q1_), .second, .val (.long q2_), .second, .val (.int p3_), .val (.int p4_), .val (.int (1 : Int32)), .val (.ref b42), .val (.ref nb1_49), .val (.int (0 : Int32))] [(.int (0 : Int32)), (.ref nb1_49)])) _
        refine st93.trans ?_
        show Steps p.tables e below (T93.setTop (mkF m 231 #[.val (.long q0_), .second, .val (.long q1_), .second, .val (.long q2_), .second, .val (.int p3_), .val (.int p4_), .val (.int (1 : Int32)), .val (.ref b42), .val (.ref nb1_49), .val (.int (0 : Int32))] [(.long q0_)])) _
        refine XS.iload X93.here hx rfl (hb hby at_231) rfl ?_
        show Steps p.tables e below (T93.setTop (mkF m 233 #[.val (.long q0_), .second, .val (.long q1_), .second, .val (.long q2_), .second, .val (.int p3_), .val (.int p4_), .val (.int (1 : Int32)), .val (.ref b42), .val (.ref nb1_49), .val (.int (0 : Int32))] [(.int (0 : Int32)), (.long q0_)])) _
        refine XS.iload X93.here hx rfl (hb hby at_233) rfl ?_
        show Steps p.tables e below (T93.setTop (mkF m 235 #[.val (.long q0_), .second, .val (.long q1_), .second, .val (.long q2_), .second, .val (.int p3_), .val (.int p4_), .val (.int (1 : Int32)), .val (.ref b42), .val (.ref nb1_49), .val (.int (0 : Int32))] [(.int (1 : Int32)), (.int (0 : Int32)), (.long q0_)])) _
        refine XS.lloadN X93.here hx rfl (hb hby at_235) rfl ?_
        show Steps p.tables e below (T93.setTop (mkF m 236 #[.val (.long q0_), .second, .val (.long q1_), .second, .val (.long q2_), .second, .val (.int p3_), .val (.int p4_), .val (.int (1 : Int32)), .val (.ref b42), .val (.ref nb1_49), .val (.int (0 : Int32))] [(.long q0_), (.int (1 : Int32)), (.int (0 : Int32)), (.long q0_)])) _
        refine XS.lloadN X93.here hx rfl (hb hby at_236) rfl ?_
        show Steps p.tables e below (T93.setTop (mkF m 237 #[.val (.long q0_), .second, .val (.long q1_), .second, .val (.long q2_), .second, .val (.int p3_), .val (.int p4_), .val (.int (1 : Int32)), .val (.ref b42), .val (.ref nb1_49), .val (.int (0 : Int32))] [(.long q1_), (.long q0_), (.int (1 : Int32)), (.int (0 : Int32)), (.long q0_)])) _
        refine XS.lload X93.here hx rfl (hb hby at_237) rfl ?_
        show Steps p.tables e below (T93.setTop (mkF m 239 #[.val (.long q0_), .second, .val (.long q1_), .second, .val (.long q2_), .second, .val (.int p3_), .val (.int p4_), .val (.int (1 : Int32)), .val (.ref b42), .val (.ref nb1_49), .val (.int (0 : Int32))] [(.long q2_), (.long q1_), (.long q0_), (.int (1 : Int32)), (.int (0 : Int32)), (.long q0_)])) _
        refine st95 _ ?_
        show Steps p.tables e below (T95.setTop (mkF m 242 #[.val (.long q0_), .second, .val (.long q1_), .second, .val (.long q2_), .second, .val (.int p3_), .val (.int p4_), .val (.int (1 : Int32)), .val (.ref b42), .val (.ref nb1_49), .val (.int (0 : Int32))] [(.long q0_), (.long q0_)])) _
        refine XS.lcmp X95.here hx rfl (hb hby at_242) rfl ?_
        show Steps p.tables e below (T95.setTop (mkF m 243 #[.val (.long q0_), .second, .val (.long q1_), .second, .val (.long q2_), .second, .val (.int p3_), .val (.int p4_), .val (.int (1 : Int32)), .val (.ref b42), .val (.ref nb1_49), .val (.int (0 : Int32))] [(.int (lcmpW q0_ q0_))])) _
        refine XS.ifNo X95.here hx rfl (hb hby at_243) rfl ((if0 _ _).trans (teq ((lw_eq _ _).mpr (rfl : q0_ = q0_))).2) ?_
        show Steps p.tables e below (T95.setTop (mkF m 246 #[.val (.long q0_), .second, .val (.long q1_), .second, .val (.long q2_), .second, .val (.int p3_), .val (.int p4_), .val (.int (1 : Int32)), .val (.ref b42), .val (.ref nb1_49), .val (.int (0 : Int32))] [])) _
        refine XS.iconst X95.here hx rfl (hb hby at_246) ?_
        show Steps p.tables e below (T95.setTop (mkF m 247 #[.val (.long q0_), .second, .val (.long q1_), .second, .val (.long q2_), .second, .val (.int p3_), .val (.int p4_), .val (.int (1 : Int32)), .val (.ref b42), .val (.ref nb1_49), .val (.int (0 : Int32))] [(.int (1 : Int32))])) _
        refine XS.goto X95.here hx rfl (pc0 := 247) (pc' := 251) rfl (hb hby at_247) (by decide) (by decide) ?_
        exact kt
      obtain ⟨fs, hr, hrun, hended, hW, hsame⟩ := X95.leave (v := some (.int (1 : Int32))) (fun h => by rw [Bd.returns] at h; cases h)
      refine ⟨_, _, pre97 _ (retN X95 hx (t := .boolean) Bd.returns (by simp) (hb hby at_251) hr), hrun, hended, _, _, rfl, ?_, ⟨_, rfl⟩, hW, hsame.mono (by decide) (by decide)⟩
      show QLaw Z q0_ q1_ q2_ p3_ p4_ h0 n0 _ T95.heap _
      rw [e95']
      exact ⟨rfl, N96⟩
    · have hn99 : ¬ ((p4_ &&& (2147483647 : Int32)) < (1 : Int32)) := by
        intro hz
        have lt_0 : ((0 : Int32)).toInt = 0 := rfl
        have lt_1 : ((1 : Int32)).toInt = 1 := rfl
        have lt_2 : ((2147483647 : Int32)).toInt = 2147483647 := rfl
        simp only [Int32.lt_iff_toInt_lt, Int64.lt_iff_toInt_lt, ← Int32.toInt_inj, ← Int64.toInt_inj] at hz hn89 hv91
        omega
      obtain ⟨cq100, kq100, q100a, q100b, q100c⟩ := isOf hZ e87' f66
      obtain ⟨_, _, ⟨T100, L100, k100, n100⟩, -, X100, ⟨Lc100, hQ100, l100, y100, z100⟩, st100⟩ := X87.virtualBack hx (y := (⟨"com/example/latchkey/latchkey/LockTokens", "get", "(I)J"⟩ : MethodName)) (z := (⟨"com/example/latchkey/latchkey/LockTokens", "get", "(I)J"⟩ : MethodName)) hown (mvT hZ (hw _ (List.mem_of_getElem? (i := 26) rfl))) (mvT hZ (hw _ (List.mem_of_getElem? (i := 27) rfl))) (notFace_of_selects (args := #[]) (mvT hZ (hw _ (List.mem_of_getElem? (i := 29) rfl)))) (mvT hZ (hw _ (List.mem_of_getElem? (i := 29) rfl))) (mvT hZ (hw _ (List.mem_of_getElem? (i := 28) rfl))) (by decide) (backOf (W := 0) (rmget23 l Z a0 hw [] nb1_49 (p4_ &&& (2147483647 : Int32)) nb5_49 k42 q0_ h62 n0 f73 hn89 hv91 hn99 f66 f67 f69 f71) hZ (hw _ (List.mem_of_getElem? (i := 30) rfl)) (hw _ (List.mem_of_getElem? (i := 3) rfl)) (by decide) (by decide)) q100a q100c (g := (mkF m 228 #[.val (.long q0_), .second, .val (.long q1_), .second, .val (.long q2_), .second, .val (.int p3_), .val (.int p4_), .val (.int (1 : Int32)), .val (.ref b42), .val (.ref nb1_49), .val (.int (p4_ &&& (2147483647 : Int32)))] [(.int (p4_ &&& (2147483647 : Int32))), (.ref nb1_49)])) rfl (by rw [hml]; rfl) (Steps.refl _) (argsL := [(.int (p4_ &&& (2147483647 : Int32)))]) (rest := []) (lenOf pd_2 rfl) rfl (by show 2 * 0 + _ ≤ _; exact Nat.le_of_eq rfl) (hb hby at_228) (fun _ _ => ⟨rfl, e87', (by decide : 3 + 0 ≤ _), (by decide : 3 + 0 ≤ _)⟩)
      dsimp only [Pt.U, Pt.locs, Pt.cells, Pt.slots] at X100 l100 y100 z100 st100 hQ100
      subst l100 y100 z100
      obtain ⟨h100, e100⟩ : ∃ z, T100.heap = z := ⟨_, rfl⟩
      rw [e100] at hQ100
      obtain ⟨rfl, N100q, hh100⟩ := hQ100
      have N101 := Fr.app N88 N100q
      have e100' : T100.heap = h62 := e100.trans hh100
      obtain ⟨_, _, ⟨T102, L102, k102, n102⟩, -, X102, ⟨Lc102, hQ102, l102, y102, z102⟩, st102⟩ := Jvm.LawKit.callS X100 hx (y := (⟨"com/example/latchkey/latchkey/LockTokensOfPinLaw", "expected", "(IIJJJ)J"⟩ : MethodName)) hown (mvT hZ (hw _ (List.mem_of_getElem? (i := 31) rfl))) (mvT hZ (hw _ (List.mem_of_getElem? (i := 32) rfl))) (mvT hZ (hw _ (List.mem_of_getElem? (i := 33) rfl))) (mvT hZ (hw _ (List.mem_of_getElem? (i := 34) rfl))) (by decide) (backOf (W := 2) (rmexpected24 l Z a0 hw [] (p4_ &&& (2147483647 : Int32)) q0_ q1_ q2_ h62 n0 f73 ) hZ (hw _ (List.mem_of_getElem? (i := 34) rfl)) (hw _ (List.mem_of_getElem? (i := 33) rfl)) (by decide) (by decide)) (g := (mkF m 239 #[.val (.long q0_), .second, .val (.long q1_), .second, .val (.long q2_), .second, .val (.int p3_), .val (.int p4_), .val (.int (1 : Int32)), .val (.ref b42), .val (.ref nb1_49), .val (.int (p4_ &&& (2147483647 : Int32)))] [(.long q2_), (.long q1_), (.long q0_), (.int (1 : Int32)), (.int (p4_ &&& (2147483647 : Int32))), (.long (0 : Int64))])) rfl (by rw [hml]; rfl) (argsL := [(.int (p4_ &&& (2147483647 : Int32))), (.int (1 : Int32)), (.long q0_), (.long q1_), (.long q2_)]) (rest := [(.long (0 : Int64))]) (lenOf pd_3 rfl) rfl (by show 2 * 0 + _ ≤ _; exact Nat.le_of_eq rfl) (hb hby at_239) (fun _ _ => ⟨rfl, e100', (by decide : 3 + 0 ≤ _), (by decide : 3 + 0 ≤ _)⟩)
      dsimp only [Pt.U, Pt.locs, Pt.cells, Pt.slots] at X102 l102 y102 z102 st102 hQ102
      subst l102 y102 z102
      obtain ⟨h102, e102⟩ : ∃ z, T102.heap = z := ⟨_, rfl⟩
      rw [e102] at hQ102
      obtain ⟨rr102, rfl, hs102, N102q, hh102⟩ := hQ102
      have N103 := Fr.app N101 N102q
      have e102' : T102.heap = h62 := e102.trans hh102
      rcases hs102 with ⟨rfl, hq102_0_0, hq102_0_1⟩ | ⟨rfl, hq102_1_0, hq102_1_1⟩ | ⟨rfl, hq102_2_0⟩
      · exact absurd hq102_0_1 (by intro hz; have lt_0 : ((0 : Int32)).toInt = 0 := rfl; have lt_1 : ((1 : Int32)).toInt = 1 := rfl; have lt_2 : ((2147483647 : Int32)).toInt = 2147483647 := rfl; simp only [Int32.lt_iff_toInt_lt, Int64.lt_iff_toInt_lt, ← Int32.toInt_inj, ← Int64.toInt_inj] at hz hn89 hv91 hn99 hq102_0_0; omega)
      · exact absurd hq102_1_0 (by intro hz; have lt_0 : ((0 : Int32)).toInt = 0 := rfl; have lt_1 : ((1 : Int32)).toInt = 1 := rfl; have lt_2 : ((2147483647 : Int32)).toInt = 2147483647 := rfl; simp only [Int32.lt_iff_toInt_lt, Int64.lt_iff_toInt_lt, ← Int32.toInt_inj, ← Int64.toInt_inj] at hz hn89 hv91 hn99; omega)
      · have pre104 : ∀ t, Steps p.tables e below (T102.setTop (mkF m 251 #[.val (.long q0_), .second, .val (.long q1_), .second, .val (.long q2_), .second, .val (.int p3_), .val (.int p4_), .val (.int (1 : Int32)), .val (.ref b42), .val (.ref nb1_49), .val (.int (p4_ &&& (2147483647 : Int32)))] [(.int (1 : Int32))])) t → Steps p.tables e below (s₁.setTop (entryFrame m #[(.long q0_), (.long q1_), (.long q2_), (.int p3_), (.int p4_)] maxLocals)) t := by
          intro t kt
          refine pre90 t ?_
          show Steps p.tables e below (T87.setTop (mkF m 224 #[.val (.long q0_), .second, .val (.long q1_), .second, .val (.long q2_), .second, .val (.int p3_), .val (.int p4_), .val (.int (1 : Int32)), .val (.ref b42), .val (.ref nb1_49), .val (.int (p4_ &&& (2147483647 : Int32)))] [])) _
          refine XS.aload X87.here hx rfl (hb hby at_224) rfl rfl ?_
          show Steps p.tables e below (T87.setTop (mkF m 226 #[.val (.long q0_), .second, .val (.long q1_), .second, .val (.long q2_), .second, .val (.int p3_), .val (.int p4_), .val (.int (1 : Int32)), .val (.ref b42), .val (.ref nb1_49), .val (.int (p4_ &&& (2147483647 : Int32)))] [(.ref nb1_49)])) _
          refine XS.iload X87.here hx rfl (hb hby at_226) rfl ?_
          show Steps p.tables e below (T87.setTop (mkF m 228 #[.val (.long q0_), .second, .val (.long q1_), .second, .val (.long q2_), .second, .val (.int p3_), .val (.int p4_), .val (.int (1 : Int32)), .val (.ref b42), .val (.ref nb1_49), .val (.int (p4_ &&& (2147483647 : Int32)))] [(.int (p4_ &&& (2147483647 : Int32))), (.ref nb1_49)])) _
          refine st100.trans ?_
          show Steps p.tables e below (T100.setTop (mkF m 231 #[.val (.long q0_), .second, .val (.long q1_), .second, .val (.long q2_), .second, .val (.int p3_), .val (.int p4_), .val (.int (1 : Int32)), .val (.ref b42), .val (.ref nb1_49), .val (.int (p4_ &&& (2147483647 : Int32)))] [(.long (0 : Int64))])) _
          refine XS.iload X100.here hx rfl (hb hby at_231) rfl ?_
          show Steps p.tables e below (T100.setTop (mkF m 233 #[.val (.long q0_), .second, .val (.long q1_), .second, .val (.long q2_), .second, .val (.int p3_), .val (.int p4_), .val (.int (1 : Int32)), .val (.ref b42), .val (.ref nb1_49), .val (.int (p4_ &&& (2147483647 : Int32)))] [(.int (p4_ &&& (2147483647 : Int32))), (.long (0 : Int64))])) _
          refine XS.iload X100.here hx rfl (hb hby at_233) rfl ?_
          show Steps p.tables e below (T100.setTop (mkF m 235 #[.val (.long q0_), .second, .val (.long q1_), .second, .val (.long q2_), .second, .val (.int p3_), .val (.int p4_), .val (.int (1 : Int32)), .val (.ref b42), .val (.ref nb1_49), .val (.int (p4_ &&& (2147483647 : Int32)))] [(.int (1 : Int32)), (.int (p4_ &&& (2147483647 : Int32))), (.long (0 : Int64))])) _
          refine XS.lloadN X100.here hx rfl (hb hby at_235) rfl ?_
          show Steps p.tables e below (T100.setTop (mkF m 236 #[.val (.long q0_), .second, .val (.long q1_), .second, .val (.long q2_), .second, .val (.int p3_), .val (.int p4_), .val (.int (1 : Int32)), .val (.ref b42), .val (.ref nb1_49), .val (.int (p4_ &&& (2147483647 : Int32)))] [(.long q0_), (.int (1 : Int32)), (.int (p4_ &&& (2147483647 : Int32))), (.long (0 : Int64))])) _
          refine XS.lloadN X100.here hx rfl (hb hby at_236) rfl ?_
          show Steps p.tables e below (T100.setTop (mkF m 237 #[.val (.long q0_), .second, .val (.long q1_), .second, .val (.long q2_), .second, .val (.int p3_), .val (.int p4_), .val (.int (1 : Int32)), .val (.ref b42), .val (.ref nb1_49), .val (.int (p4_ &&& (2147483647 : Int32)))] [(.long q1_), (.long q0_), (.int (1 : Int32)), (.int (p4_ &&& (2147483647 : Int32))), (.long (0 : Int64))])) _
          refine XS.lload X100.here hx rfl (hb hby at_237) rfl ?_
          show Steps p.tables e below (T100.setTop (mkF m 239 #[.val (.long q0_), .second, .val (.long q1_), .second, .val (.long q2_), .second, .val (.int p3_), .val (.int p4_), .val (.int (1 : Int32)), .val (.ref b42), .val (.ref nb1_49), .val (.int (p4_ &&& (2147483647 : Int32)))] [(.long q2_), (.long q1_), (.long q0_), (.int (1 : Int32)), (.int (p4_ &&& (2147483647 : Int32))), (.long (0 : Int64))])) _
          refine st102 _ ?_
          show Steps p.tables e below (T102.setTop (mkF m 242 #[.val (.long q0_), .second, .val (.long q1_), .second, .val (.long q2_), .second, .val (.int p3_), .val (.int p4_), .val (.int (1 : Int32)), .val (.ref b42), .val (.ref nb1_49), .val (.int (p4_ &&& (2147483647 : Int32)))] [(.long (0 : Int64)), (.long (0 : Int64))])) _
          refine XS.lcmp X102.here hx rfl (hb hby at_242) rfl ?_
          show Steps p.tables e below (T102.setTop (mkF m 243 #[.val (.long q0_), .second, .val (.long q1_), .second, .val (.long q2_), .second, .val (.int p3_), .val (.int p4_), .val (.int (1 : Int32)), .val (.ref b42), .val (.ref nb1_49), .val (.int (p4_ &&& (2147483647 : Int32)))] [(.int (lcmpW (0 : Int64) (0 : Int64)))])) _
          refine XS.ifNo X102.here hx rfl (hb hby at_243) rfl ((if0 _ _).trans (teq ((lw_eq _ _).mpr (by decide : (0 : Int64) = (0 : Int64)))).2) ?_
          show Steps p.tables e below (T102.setTop (mkF m 246 #[.val (.long q0_), .second, .val (.long q1_), .second, .val (.long q2_), .second, .val (.int p3_), .val (.int p4_), .val (.int (1 : Int32)), .val (.ref b42), .val (.ref nb1_49), .val (.int (p4_ &&& (2147483647 : Int32)))] [])) _
          refine XS.iconst X102.here hx rfl (hb hby at_246) ?_
          show Steps p.tables e below (T102.setTop (mkF m 247 #[.val (.long q0_), .second, .val (.long q1_), .second, .val (.long q2_), .second, .val (.int p3_), .val (.int p4_), .val (.int (1 : Int32)), .val (.ref b42), .val (.ref nb1_49), .val (.int (p4_ &&& (2147483647 : Int32)))] [(.int (1 : Int32))])) _
          refine XS.goto X102.here hx rfl (pc0 := 247) (pc' := 251) rfl (hb hby at_247) (by decide) (by decide) ?_
          exact kt
        obtain ⟨fs, hr, hrun, hended, hW, hsame⟩ := X102.leave (v := some (.int (1 : Int32))) (fun h => by rw [Bd.returns] at h; cases h)
        refine ⟨_, _, pre104 _ (retN X102 hx (t := .boolean) Bd.returns (by simp) (hb hby at_251) hr), hrun, hended, _, _, rfl, ?_, ⟨_, rfl⟩, hW, hsame.mono (by decide) (by decide)⟩
        show QLaw Z q0_ q1_ q2_ p3_ p4_ h0 n0 _ T102.heap _
        rw [e102']
        exact ⟨rfl, N103⟩
  · have pre106 : ∀ t, Steps p.tables e below (s₁.setTop (mkF m 6 #[.val (.long q0_), .second, .val (.long q1_), .second, .val (.long q2_), .second, .val (.int p3_), .val (.int p4_), .val (.int (2 : Int32)), .unset, .unset, .unset] [])) t → Steps p.tables e below (s₁.setTop (entryFrame m #[(.long q0_), (.long q1_), (.long q2_), (.int p3_), (.int p4_)] maxLocals)) t := fun t kt => pre1 t (by rw [hv3]; exact kt)
    obtain ⟨T107, h107, k107, X107, e107, E107, A107, Z107, st107⟩ := newPE X0 hx hZ (hw _ (List.mem_of_getElem? (i := 0) rfl)) e0 (g := (mkF m 44 #[.val (.long q0_), .second, .val (.long q1_), .second, .val (.long q2_), .second, .val (.int p3_), .val (.int p4_), .val (.int (2 : Int32)), .unset, .unset, .unset] [(.int (2 : Int32))])) rfl (hb hby at_44) rfl (by decide) (cap := 2) (by decide) (by decide) (by decide) (by decide) (ad := "[J") (by decide)
    obtain ⟨b107, g107⟩ : ∃ z, z = h0.size := ⟨_, rfl⟩
    rw [← g107] at A107 Z107 st107
    have ge108 : n0 ≤ b107 := Nat.le_trans (Nat.le_trans (Nat.le_of_eq O0.1.symm) O0.2.1) (Nat.le_of_eq g107.symm)
    have sz109 : h0.size ≤ b107 := Nat.le_trans K0.1 (Nat.le_of_eq g107.symm)
    have f110 : Arv Z h107 b107 k107 .long (2 : Int32) [(.long (0 : Int64)), (.long (0 : Int64))] (.long (0 : Int64)) := (Arv.new A107 (by decide)).pad (pad_rep [] (.long (0 : Int64)) 2)
    obtain ⟨c111, r111, q111, s111, z111, y111, G111⟩ := id f110
    have hin111 : ¬ ((0 : Int32) < 0 ∨ c111.slots.size ≤ ((0 : Int32)).toNatClampNeg) := inb_of s111 ⟨by decide, by decide⟩
    obtain ⟨T111, h111, X111, e111, W111, st111⟩ := stJ X107 hx hZ e107 r111 (j := (0 : Int32)) hin111 (g := (mkF m 49 #[.val (.long q0_), .second, .val (.long q1_), .second, .val (.long q2_), .second, .val (.int p3_), .val (.int p4_), .val (.int (2 : Int32)), .unset, .unset, .unset] [(.long q0_), (.int (0 : Int32)), (.ref b107), (.ref b107)])) rfl rfl (hb hby at_49)
    have N112 := Fr.snoc X111 N0 ge108
    have f113 : Arv Z h111 b107 k107 .long (2 : Int32) [(.long q0_), (.long (0 : Int64))] (.long (0 : Int64)) := Arv.set r111 q111 s111 z111 y111 G111 rfl W111 0 rfl (Nat.le_of_ble_eq_true rfl)
    obtain ⟨c114, r114, q114, s114, z114, y114, G114⟩ := id f113
    have hin114 : ¬ ((1 : Int32) < 0 ∨ c114.slots.size ≤ ((1 : Int32)).toNatClampNeg) := inb_of s114 ⟨by decide, by decide⟩
    obtain ⟨T114, h114, X114, e114, W114, st114⟩ := stJ X111 hx hZ e111 r114 (j := (1 : Int32)) hin114 (g := (mkF m 53 #[.val (.long q0_), .second, .val (.long q1_), .second, .val (.long q2_), .second, .val (.int p3_), .val (.int p4_), .val (.int (2 : Int32)), .unset, .unset, .unset] [(.long q1_), (.int (1 : Int32)), (.ref b107), (.ref b107)])) rfl rfl (hb hby at_53)
    have N115 := Fr.snoc X114 N112 ge108
    have f116 : Arv Z h114 b107 k107 .long (2 : Int32) [(.long q0_), (.long q1_)] (.long (0 : Int64)) := Arv.set r114 q114 s114 z114 y114 G114 rfl W114 1 rfl (Nat.le_of_ble_eq_true rfl)
    have f118 : Exa Z h111 b107 "[J" := Z107.wr W111
    have f119 : Exa Z h114 b107 "[J" := f118.wr W114
    have f120 : Old Z n0 h107 := O0.ext E107
    have f121 : Old Z n0 h111 := f120.wr W111 ge108
    have f122 : Old Z n0 h114 := f121.wr W114 ge108
    obtain ⟨_, _, ⟨T117, L117, k117, n117⟩, -, X117, ⟨Lc117, hQ117, l117, y117, z117⟩, st117⟩ := Jvm.LawKit.callS X114 hx (y := (⟨"com/example/latchkey/latchkey/LockTokens", "of", "([J)Lcom/example/latchkey/latchkey/LockTokens;"⟩ : MethodName)) hown (mvT hZ (hw _ (List.mem_of_getElem? (i := 1) rfl))) (mvT hZ (hw _ (List.mem_of_getElem? (i := 2) rfl))) (mvT hZ (hw _ (List.mem_of_getElem? (i := 3) rfl))) (mvT hZ (hw _ (List.mem_of_getElem? (i := 4) rfl))) (by decide) (backOf (W := 0) (rmof25 l Z a0 hw [] b107 k107 q0_ q1_ h114 n0 f122 f116 f119) hZ (hw _ (List.mem_of_getElem? (i := 4) rfl)) (hw _ (List.mem_of_getElem? (i := 3) rfl)) (by decide) (by decide)) (g := (mkF m 79 #[.val (.long q0_), .second, .val (.long q1_), .second, .val (.long q2_), .second, .val (.int p3_), .val (.int p4_), .val (.int (2 : Int32)), .val (.ref b107), .unset, .unset] [(.ref b107)])) rfl (by rw [hml]; rfl) (argsL := [(.ref b107)]) (rest := []) (lenOf pd_1 rfl) rfl (by show 2 * 0 + _ ≤ _; exact Nat.le_of_eq rfl) (hb hby at_79) (fun _ _ => ⟨rfl, e114, (by decide : 1 + 2 ≤ _), (by decide : 2 + 3 ≤ _)⟩)
    dsimp only [Pt.U, Pt.locs, Pt.cells, Pt.slots] at X117 l117 y117 z117 st117 hQ117
    subst l117 y117 z117
    obtain ⟨h117, e117⟩ : ∃ z, T117.heap = z := ⟨_, rfl⟩
    rw [e117] at hQ117
    obtain ⟨nb1_117, nb5_117, rfl, N117q, K117, sznb1_117, sznb5_117, g117_0, g117_1, g117_2, g117_3⟩ := hQ117
    have N123 := Fr.app N115 N117q
    have ge124 : n0 ≤ nb1_117 := Nat.le_trans (Nat.le_trans (Nat.le_of_eq f122.1.symm) f122.2.1) sznb1_117
    have f125 : Keep h0 h107 [] := K0.ext E107
    have f126 : Keep h0 h111 [] := f125.wr W111 (Or.inr sz109)
    have f127 : Keep h0 h114 [] := f126.wr W114 (Or.inr sz109)
    have sz128 : h0.size ≤ nb1_117 := Nat.le_trans f127.1 sznb1_117
    have ge129 : n0 ≤ nb5_117 := Nat.le_trans (Nat.le_trans (Nat.le_of_eq f122.1.symm) f122.2.1) sznb5_117
    have sz130 : h0.size ≤ nb5_117 := Nat.le_trans f127.1 sznb5_117
    have f131 : Arv Z h117 b107 k107 .long (2 : Int32) [(.long q0_), (.long q1_)] (.long (0 : Int64)) := f116.keep K117 nin0
    obtain ⟨c132, r132, q132, s132, z132, y132, G132⟩ := id f131
    have hin132 : ¬ ((0 : Int32) < 0 ∨ c132.slots.size ≤ ((0 : Int32)).toNatClampNeg) := inb_of s132 ⟨by decide, by decide⟩
    have hat132 : c132.slots[((0 : Int32)).toNatClampNeg]? = some (.long q0_) := Has.at y132 hin132 rfl
    obtain ⟨c133, r133, q133, s133, z133, y133, G133⟩ := id f131
    have hin133 : ¬ ((0 : Int32) < 0 ∨ c133.slots.size ≤ ((0 : Int32)).toNatClampNeg) := inb_of s133 ⟨by decide, by decide⟩
    obtain ⟨T133, h133, X133, e133, W133, st133⟩ := stJ X117 hx hZ e117 r133 (j := (0 : Int32)) hin133 (g := (mkF m 100 #[.val (.long q0_), .second, .val (.long q1_), .second, .val (.long q2_), .second, .val (.int p3_), .val (.int p4_), .val (.int (2 : Int32)), .val (.ref b107), .val (.ref nb1_117), .unset] [(.long (q0_ ^^^ (-1 : Int64))), (.int (0 : Int32)), (.ref b107)])) rfl rfl (hb hby at_100)
    have N134 := Fr.snoc X133 N123 ge108
    have f135 : Arv Z h133 b107 k107 .long (2 : Int32) [(.long (q0_ ^^^ (-1 : Int64))), (.long q1_)] (.long (0 : Int64)) := Arv.set r133 q133 s133 z133 y133 G133 rfl W133 0 rfl (Nat.le_of_ble_eq_true rfl)
    obtain ⟨c136, r136, q136, s136, z136, y136, G136⟩ := id f135
    have hin136 : ¬ ((1 : Int32) < 0 ∨ c136.slots.size ≤ ((1 : Int32)).toNatClampNeg) := inb_of s136 ⟨by decide, by decide⟩
    have hat136 : c136.slots[((1 : Int32)).toNatClampNeg]? = some (.long q1_) := Has.at y136 hin136 rfl
    obtain ⟨c137, r137, q137, s137, z137, y137, G137⟩ := id f135
    have hin137 : ¬ ((1 : Int32) < 0 ∨ c137.slots.size ≤ ((1 : Int32)).toNatClampNeg) := inb_of s137 ⟨by decide, by decide⟩
    obtain ⟨T137, h137, X137, e137, W137, st137⟩ := stJ X133 hx hZ e133 r137 (j := (1 : Int32)) hin137 (g := (mkF m 118 #[.val (.long q0_), .second, .val (.long q1_), .second, .val (.long q2_), .second, .val (.int p3_), .val (.int p4_), .val (.int (2 : Int32)), .val (.ref b107), .val (.ref nb1_117), .unset] [(.long (q1_ ^^^ (-1 : Int64))), (.int (1 : Int32)), (.ref b107)])) rfl rfl (hb hby at_118)
    have N138 := Fr.snoc X137 N134 ge108
    have f139 : Arv Z h137 b107 k107 .long (2 : Int32) [(.long (q0_ ^^^ (-1 : Int64))), (.long (q1_ ^^^ (-1 : Int64)))] (.long (0 : Int64)) := Arv.set r137 q137 s137 z137 y137 G137 rfl W137 1 rfl (Nat.le_of_ble_eq_true rfl)
    have f141 : Exa Z h133 nb1_117 "com/example/latchkey/latchkey/LockTokens" := g117_0.wr W133
    have f142 : Exa Z h137 nb1_117 "com/example/latchkey/latchkey/LockTokens" := f141.wr W137
    have ne144 : b107 ≠ nb1_117 := Nat.ne_of_lt (Nat.lt_of_lt_of_le f116.lt sznb1_117)
    have f143 : Fld Z h133 nb1_117 "com/example/latchkey/latchkey/LockTokens" "tokens" "[J" (.ref nb5_117) := g117_1.other W133 (Or.inl (Ne.symm ne144))
    have f145 : Fld Z h137 nb1_117 "com/example/latchkey/latchkey/LockTokens" "tokens" "[J" (.ref nb5_117) := f143.other W137 (Or.inl (Ne.symm ne144))
    have ne147 : b107 ≠ nb5_117 := Nat.ne_of_lt (Nat.lt_of_lt_of_le f116.lt sznb5_117)
    have f146 : Arv Z h133 nb5_117 k107 .long (2 : Int32) [(.long q0_), (.long q1_)] (.long (0 : Int64)) := g117_2.other W133 (Ne.symm ne147)
    have f148 : Arv Z h137 nb5_117 k107 .long (2 : Int32) [(.long q0_), (.long q1_)] (.long (0 : Int64)) := f146.other W137 (Ne.symm ne147)
    have f149 : Exa Z h133 nb5_117 "[J" := g117_3.wr W133
    have f150 : Exa Z h137 nb5_117 "[J" := f149.wr W137
    have f151 : Old Z n0 h117 := f122.keep K117 all0
    have f152 : Old Z n0 h133 := f151.wr W133 ge108
    have f153 : Old Z n0 h137 := f152.wr W137 ge108
    obtain ⟨cq140, kq140, q140a, q140b, q140c⟩ := isOf hZ e137 f142
    obtain ⟨_, _, ⟨T140, L140, k140, n140⟩, -, X140, ⟨Lc140, hQ140, l140, y140, z140⟩, st140⟩ := X137.virtualBack hx (y := (⟨"com/example/latchkey/latchkey/LockTokens", "get", "(I)J"⟩ : MethodName)) (z := (⟨"com/example/latchkey/latchkey/LockTokens", "get", "(I)J"⟩ : MethodName)) hown (mvT hZ (hw _ (List.mem_of_getElem? (i := 26) rfl))) (mvT hZ (hw _ (List.mem_of_getElem? (i := 27) rfl))) (notFace_of_selects (args := #[]) (mvT hZ (hw _ (List.mem_of_getElem? (i := 29) rfl)))) (mvT hZ (hw _ (List.mem_of_getElem? (i := 29) rfl))) (mvT hZ (hw _ (List.mem_of_getElem? (i := 28) rfl))) (by decide) (backOf (W := 0) (rmget27 l Z a0 hw [] nb1_117 nb5_117 k107 q0_ q1_ h137 n0 f153 f142 f145 f148 f150) hZ (hw _ (List.mem_of_getElem? (i := 30) rfl)) (hw _ (List.mem_of_getElem? (i := 3) rfl)) (by decide) (by decide)) q140a q140c (g := (mkF m 147 #[.val (.long q0_), .second, .val (.long q1_), .second, .val (.long q2_), .second, .val (.int p3_), .val (.int p4_), .val (.int (2 : Int32)), .val (.ref b107), .val (.ref nb1_117), .val (.int (p4_ &&& (2147483647 : Int32)))] [(.int (0 : Int32)), (.ref nb1_117)])) rfl (by rw [hml]; rfl) (Steps.refl _) (argsL := [(.int (0 : Int32))]) (rest := []) (lenOf pd_2 rfl) rfl (by show 2 * 0 + _ ≤ _; exact Nat.le_of_eq rfl) (hb hby at_147) (fun _ _ => ⟨rfl, e137, (by decide : 3 + 0 ≤ _), (by decide : 5 + 0 ≤ _)⟩)
    dsimp only [Pt.U, Pt.locs, Pt.cells, Pt.slots] at X140 l140 y140 z140 st140 hQ140
    subst l140 y140 z140
    obtain ⟨h140, e140⟩ : ∃ z, T140.heap = z := ⟨_, rfl⟩
    rw [e140] at hQ140
    obtain ⟨rfl, N140q, hh140⟩ := hQ140
    have N154 := Fr.app N138 N140q
    have e140' : T140.heap = h137 := e140.trans hh140
    obtain ⟨_, _, ⟨T155, L155, k155, n155⟩, -, X155, ⟨Lc155, hQ155, l155, y155, z155⟩, st155⟩ := Jvm.LawKit.callS X140 hx (y := (⟨"com/example/latchkey/latchkey/LockTokensOfPinLaw", "expected", "(IIJJJ)J"⟩ : MethodName)) hown (mvT hZ (hw _ (List.mem_of_getElem? (i := 31) rfl))) (mvT hZ (hw _ (List.mem_of_getElem? (i := 32) rfl))) (mvT hZ (hw _ (List.mem_of_getElem? (i := 33) rfl))) (mvT hZ (hw _ (List.mem_of_getElem? (i := 34) rfl))) (by decide) (backOf (W := 2) (rmexpected28 l Z a0 hw [] q0_ q1_ q2_ h137 n0 f153 ) hZ (hw _ (List.mem_of_getElem? (i := 34) rfl)) (hw _ (List.mem_of_getElem? (i := 33) rfl)) (by decide) (by decide)) (g := (mkF m 157 #[.val (.long q0_), .second, .val (.long q1_), .second, .val (.long q2_), .second, .val (.int p3_), .val (.int p4_), .val (.int (2 : Int32)), .val (.ref b107), .val (.ref nb1_117), .val (.int (p4_ &&& (2147483647 : Int32)))] [(.long q2_), (.long q1_), (.long q0_), (.int (2 : Int32)), (.int (0 : Int32)), (.long q0_)])) rfl (by rw [hml]; rfl) (argsL := [(.int (0 : Int32)), (.int (2 : Int32)), (.long q0_), (.long q1_), (.long q2_)]) (rest := [(.long q0_)]) (lenOf pd_3 rfl) rfl (by show 2 * 0 + _ ≤ _; exact Nat.le_of_eq rfl) (hb hby at_157) (fun _ _ => ⟨rfl, e140', (by decide : 3 + 0 ≤ _), (by decide : 5 + 0 ≤ _)⟩)
    dsimp only [Pt.U, Pt.locs, Pt.cells, Pt.slots] at X155 l155 y155 z155 st155 hQ155
    subst l155 y155 z155
    obtain ⟨h155, e155⟩ : ∃ z, T155.heap = z := ⟨_, rfl⟩
    rw [e155] at hQ155
    obtain ⟨rfl, N155q, hh155⟩ := hQ155
    have N156 := Fr.app N154 N155q
    have e155' : T155.heap = h137 := e155.trans hh155
    obtain ⟨cq157, kq157, q157a, q157b, q157c⟩ := isOf hZ e155' f142
    obtain ⟨_, _, ⟨T157, L157, k157, n157⟩, -, X157, ⟨Lc157, hQ157, l157, y157, z157⟩, st157⟩ := X155.virtualBack hx (y := (⟨"com/example/latchkey/latchkey/LockTokens", "get", "(I)J"⟩ : MethodName)) (z := (⟨"com/example/latchkey/latchkey/LockTokens", "get", "(I)J"⟩ : MethodName)) hown (mvT hZ (hw _ (List.mem_of_getElem? (i := 26) rfl))) (mvT hZ (hw _ (List.mem_of_getElem? (i := 27) rfl))) (notFace_of_selects (args := #[]) (mvT hZ (hw _ (List.mem_of_getElem? (i := 29) rfl)))) (mvT hZ (hw _ (List.mem_of_getElem? (i := 29) rfl))) (mvT hZ (hw _ (List.mem_of_getElem? (i := 28) rfl))) (by decide) (backOf (W := 0) (rmget29 l Z a0 hw [] nb1_117 nb5_117 k107 q0_ q1_ h137 n0 f153 f142 f145 f148 f150) hZ (hw _ (List.mem_of_getElem? (i := 30) rfl)) (hw _ (List.mem_of_getElem? (i := 3) rfl)) (by decide) (by decide)) q157a q157c (g := (mkF m 167 #[.val (.long q0_), .second, .val (.long q1_), .second, .val (.long q2_), .second, .val (.int p3_), .val (.int p4_), .val (.int (2 : Int32)), .val (.ref b107), .val (.ref nb1_117), .val (.int (p4_ &&& (2147483647 : Int32)))] [(.int (1 : Int32)), (.ref nb1_117)])) rfl (by rw [hml]; rfl) (Steps.refl _) (argsL := [(.int (1 : Int32))]) (rest := []) (lenOf pd_2 rfl) rfl (by show 2 * 0 + _ ≤ _; exact Nat.le_of_eq rfl) (hb hby at_167) (fun _ _ => ⟨rfl, e155', (by decide : 3 + 0 ≤ _), (by decide : 5 + 0 ≤ _)⟩)
    dsimp only [Pt.U, Pt.locs, Pt.cells, Pt.slots] at X157 l157 y157 z157 st157 hQ157
    subst l157 y157 z157
    obtain ⟨h157, e157⟩ : ∃ z, T157.heap = z := ⟨_, rfl⟩
    rw [e157] at hQ157
    obtain ⟨rfl, N157q, hh157⟩ := hQ157
    have N158 := Fr.app N156 N157q
    have e157' : T157.heap = h137 := e157.trans hh157
    obtain ⟨_, _, ⟨T159, L159, k159, n159⟩, -, X159, ⟨Lc159, hQ159, l159, y159, z159⟩, st159⟩ := Jvm.LawKit.callS X157 hx (y := (⟨"com/example/latchkey/latchkey/LockTokensOfPinLaw", "expected", "(IIJJJ)J"⟩ : MethodName)) hown (mvT hZ (hw _ (List.mem_of_getElem? (i := 31) rfl))) (mvT hZ (hw _ (List.mem_of_getElem? (i := 32) rfl))) (mvT hZ (hw _ (List.mem_of_getElem? (i := 33) rfl))) (mvT hZ (hw _ (List.mem_of_getElem? (i := 34) rfl))) (by decide) (backOf (W := 2) (rmexpected30 l Z a0 hw [] q0_ q1_ q2_ h137 n0 f153 ) hZ (hw _ (List.mem_of_getElem? (i := 34) rfl)) (hw _ (List.mem_of_getElem? (i := 33) rfl)) (by decide) (by decide)) (g := (mkF m 177 #[.val (.long q0_), .second, .val (.long q1_), .second, .val (.long q2_), .second, .val (.int p3_), .val (.int p4_), .val (.int (2 : Int32)), .val (.ref b107), .val (.ref nb1_117), .val (.int (p4_ &&& (2147483647 : Int32)))] [(.long q2_), (.long q1_), (.long q0_), (.int (2 : Int32)), (.int (1 : Int32)), (.long q1_)])) rfl (by rw [hml]; rfl) (argsL := [(.int (1 : Int32)), (.int (2 : Int32)), (.long q0_), (.long q1_), (.long q2_)]) (rest := [(.long q1_)]) (lenOf pd_3 rfl) rfl (by show 2 * 0 + _ ≤ _; exact Nat.le_of_eq rfl) (hb hby at_177) (fun _ _ => ⟨rfl, e157', (by decide : 3 + 0 ≤ _), (by decide : 5 + 0 ≤ _)⟩)
    dsimp only [Pt.U, Pt.locs, Pt.cells, Pt.slots] at X159 l159 y159 z159 st159 hQ159
    subst l159 y159 z159
    obtain ⟨h159, e159⟩ : ∃ z, T159.heap = z := ⟨_, rfl⟩
    rw [e159] at hQ159
    obtain ⟨rfl, N159q, hh159⟩ := hQ159
    have N160 := Fr.app N158 N159q
    have e159' : T159.heap = h137 := e159.trans hh159
    obtain ⟨cq161, kq161, q161a, q161b, q161c⟩ := isOf hZ e159' f142
    obtain ⟨_, _, ⟨T161, L161, k161, n161⟩, -, X161, ⟨Lc161, hQ161, l161, y161, z161⟩, st161⟩ := X159.virtualBack hx (y := (⟨"com/example/latchkey/latchkey/LockTokens", "get", "(I)J"⟩ : MethodName)) (z := (⟨"com/example/latchkey/latchkey/LockTokens", "get", "(I)J"⟩ : MethodName)) hown (mvT hZ (hw _ (List.mem_of_getElem? (i := 26) rfl))) (mvT hZ (hw _ (List.mem_of_getElem? (i := 27) rfl))) (notFace_of_selects (args := #[]) (mvT hZ (hw _ (List.mem_of_getElem? (i := 29) rfl)))) (mvT hZ (hw _ (List.mem_of_getElem? (i := 29) rfl))) (mvT hZ (hw _ (List.mem_of_getElem? (i := 28) rfl))) (by decide) (backOf (W := 0) (rmget31 l Z a0 hw [] nb1_117 nb5_117 k107 q0_ q1_ h137 n0 f153 f142 f145 f148 f150) hZ (hw _ (List.mem_of_getElem? (i := 30) rfl)) (hw _ (List.mem_of_getElem? (i := 3) rfl)) (by decide) (by decide)) q161a q161c (g := (mkF m 187 #[.val (.long q0_), .second, .val (.long q1_), .second, .val (.long q2_), .second, .val (.int p3_), .val (.int p4_), .val (.int (2 : Int32)), .val (.ref b107), .val (.ref nb1_117), .val (.int (p4_ &&& (2147483647 : Int32)))] [(.int (2 : Int32)), (.ref nb1_117)])) rfl (by rw [hml]; rfl) (Steps.refl _) (argsL := [(.int (2 : Int32))]) (rest := []) (lenOf pd_2 rfl) rfl (by show 2 * 0 + _ ≤ _; exact Nat.le_of_eq rfl) (hb hby at_187) (fun _ _ => ⟨rfl, e159', (by decide : 3 + 0 ≤ _), (by decide : 5 + 0 ≤ _)⟩)
    dsimp only [Pt.U, Pt.locs, Pt.cells, Pt.slots] at X161 l161 y161 z161 st161 hQ161
    subst l161 y161 z161
    obtain ⟨h161, e161⟩ : ∃ z, T161.heap = z := ⟨_, rfl⟩
    rw [e161] at hQ161
    obtain ⟨rfl, N161q, hh161⟩ := hQ161
    have N162 := Fr.app N160 N161q
    have e161' : T161.heap = h137 := e161.trans hh161
    obtain ⟨_, _, ⟨T163, L163, k163, n163⟩, -, X163, ⟨Lc163, hQ163, l163, y163, z163⟩, st163⟩ := Jvm.LawKit.callS X161 hx (y := (⟨"com/example/latchkey/latchkey/LockTokensOfPinLaw", "expected", "(IIJJJ)J"⟩ : MethodName)) hown (mvT hZ (hw _ (List.mem_of_getElem? (i := 31) rfl))) (mvT hZ (hw _ (List.mem_of_getElem? (i := 32) rfl))) (mvT hZ (hw _ (List.mem_of_getElem? (i := 33) rfl))) (mvT hZ (hw _ (List.mem_of_getElem? (i := 34) rfl))) (by decide) (backOf (W := 2) (rmexpected32 l Z a0 hw [] q0_ q1_ q2_ h137 n0 f153 ) hZ (hw _ (List.mem_of_getElem? (i := 34) rfl)) (hw _ (List.mem_of_getElem? (i := 33) rfl)) (by decide) (by decide)) (g := (mkF m 197 #[.val (.long q0_), .second, .val (.long q1_), .second, .val (.long q2_), .second, .val (.int p3_), .val (.int p4_), .val (.int (2 : Int32)), .val (.ref b107), .val (.ref nb1_117), .val (.int (p4_ &&& (2147483647 : Int32)))] [(.long q2_), (.long q1_), (.long q0_), (.int (2 : Int32)), (.int (2 : Int32)), (.long (0 : Int64))])) rfl (by rw [hml]; rfl) (argsL := [(.int (2 : Int32)), (.int (2 : Int32)), (.long q0_), (.long q1_), (.long q2_)]) (rest := [(.long (0 : Int64))]) (lenOf pd_3 rfl) rfl (by show 2 * 0 + _ ≤ _; exact Nat.le_of_eq rfl) (hb hby at_197) (fun _ _ => ⟨rfl, e161', (by decide : 3 + 0 ≤ _), (by decide : 5 + 0 ≤ _)⟩)
    dsimp only [Pt.U, Pt.locs, Pt.cells, Pt.slots] at X163 l163 y163 z163 st163 hQ163
    subst l163 y163 z163
    obtain ⟨h163, e163⟩ : ∃ z, T163.heap = z := ⟨_, rfl⟩
    rw [e163] at hQ163
    obtain ⟨rfl, N163q, hh163⟩ := hQ163
    have N164 := Fr.app N162 N163q
    have e163' : T163.heap = h137 := e163.trans hh163
    obtain ⟨cq165, kq165, q165a, q165b, q165c⟩ := isOf hZ e163' f142
    obtain ⟨_, _, ⟨T165, L165, k165, n165⟩, -, X165, ⟨Lc165, hQ165, l165, y165, z165⟩, st165⟩ := X163.virtualBack hx (y := (⟨"com/example/latchkey/latchkey/LockTokens", "get", "(I)J"⟩ : MethodName)) (z := (⟨"com/example/latchkey/latchkey/LockTokens", "get", "(I)J"⟩ : MethodName)) hown (mvT hZ (hw _ (List.mem_of_getElem? (i := 26) rfl))) (mvT hZ (hw _ (List.mem_of_getElem? (i := 27) rfl))) (notFace_of_selects (args := #[]) (mvT hZ (hw _ (List.mem_of_getElem? (i := 29) rfl)))) (mvT hZ (hw _ (List.mem_of_getElem? (i := 29) rfl))) (mvT hZ (hw _ (List.mem_of_getElem? (i := 28) rfl))) (by decide) (backOf (W := 0) (rmget33 l Z a0 hw [] nb1_117 nb5_117 k107 q0_ q1_ h137 n0 f153 f142 f145 f148 f150) hZ (hw _ (List.mem_of_getElem? (i := 30) rfl)) (hw _ (List.mem_of_getElem? (i := 3) rfl)) (by decide) (by decide)) q165a q165c (g := (mkF m 207 #[.val (.long q0_), .second, .val (.long q1_), .second, .val (.long q2_), .second, .val (.int p3_), .val (.int p4_), .val (.int (2 : Int32)), .val (.ref b107), .val (.ref nb1_117), .val (.int (p4_ &&& (2147483647 : Int32)))] [(.int (3 : Int32)), (.ref nb1_117)])) rfl (by rw [hml]; rfl) (Steps.refl _) (argsL := [(.int (3 : Int32))]) (rest := []) (lenOf pd_2 rfl) rfl (by show 2 * 0 + _ ≤ _; exact Nat.le_of_eq rfl) (hb hby at_207) (fun _ _ => ⟨rfl, e163', (by decide : 3 + 0 ≤ _), (by decide : 5 + 0 ≤ _)⟩)
    dsimp only [Pt.U, Pt.locs, Pt.cells, Pt.slots] at X165 l165 y165 z165 st165 hQ165
    subst l165 y165 z165
    obtain ⟨h165, e165⟩ : ∃ z, T165.heap = z := ⟨_, rfl⟩
    rw [e165] at hQ165
    obtain ⟨rfl, N165q, hh165⟩ := hQ165
    have N166 := Fr.app N164 N165q
    have e165' : T165.heap = h137 := e165.trans hh165
    obtain ⟨_, _, ⟨T167, L167, k167, n167⟩, -, X167, ⟨Lc167, hQ167, l167, y167, z167⟩, st167⟩ := Jvm.LawKit.callS X165 hx (y := (⟨"com/example/latchkey/latchkey/LockTokensOfPinLaw", "expected", "(IIJJJ)J"⟩ : MethodName)) hown (mvT hZ (hw _ (List.mem_of_getElem? (i := 31) rfl))) (mvT hZ (hw _ (List.mem_of_getElem? (i := 32) rfl))) (mvT hZ (hw _ (List.mem_of_getElem? (i := 33) rfl))) (mvT hZ (hw _ (List.mem_of_getElem? (i := 34) rfl))) (by decide) (backOf (W := 2) (rmexpected34 l Z a0 hw [] q0_ q1_ q2_ h137 n0 f153 ) hZ (hw _ (List.mem_of_getElem? (i := 34) rfl)) (hw _ (List.mem_of_getElem? (i := 33) rfl)) (by decide) (by decide)) (g := (mkF m 217 #[.val (.long q0_), .second, .val (.long q1_), .second, .val (.long q2_), .second, .val (.int p3_), .val (.int p4_), .val (.int (2 : Int32)), .val (.ref b107), .val (.ref nb1_117), .val (.int (p4_ &&& (2147483647 : Int32)))] [(.long q2_), (.long q1_), (.long q0_), (.int (2 : Int32)), (.int (3 : Int32)), (.long (0 : Int64))])) rfl (by rw [hml]; rfl) (argsL := [(.int (3 : Int32)), (.int (2 : Int32)), (.long q0_), (.long q1_), (.long q2_)]) (rest := [(.long (0 : Int64))]) (lenOf pd_3 rfl) rfl (by show 2 * 0 + _ ≤ _; exact Nat.le_of_eq rfl) (hb hby at_217) (fun _ _ => ⟨rfl, e165', (by decide : 3 + 0 ≤ _), (by decide : 5 + 0 ≤ _)⟩)
    dsimp only [Pt.U, Pt.locs, Pt.cells, Pt.slots] at X167 l167 y167 z167 st167 hQ167
    subst l167 y167 z167
    obtain ⟨h167, e167⟩ : ∃ z, T167.heap = z := ⟨_, rfl⟩
    rw [e167] at hQ167
    obtain ⟨rfl, N167q, hh167⟩ := hQ167
    have N168 := Fr.app N166 N167q
    have e167' : T167.heap = h137 := e167.trans hh167
    have hn169 : ¬ ((p4_ &&& (2147483647 : Int32)) < (0 : Int32)) := own_node _
    have pre170 : ∀ t, Steps p.tables e below (T167.setTop (mkF m 224 #[.val (.long q0_), .second, .val (.long q1_), .second, .val (.long q2_), .second, .val (.int p3_), .val (.int p4_), .val (.int (2 : Int32)), .val (.ref b107), .val (.ref nb1_117), .val (.int (p4_ &&& (2147483647 : Int32)))] [])) t → Steps p.tables e below (s₁.setTop (entryFrame m #[(.long q0_), (.long q1_), (.long q2_), (.int p3_), (.int p4_)] maxLocals)) t := by
      intro t kt
      refine pre106 t ?_
      show Steps p.tables e below (s₁.setTop (mkF m 6 #[.val (.long q0_), .second, .val (.long q1_), .second, .val (.long q2_), .second, .val (.int p3_), .val (.int p4_), .val (.int (2 : Int32)), .unset, .unset, .unset] [])) _
      refine XS.iload X0.here hx rfl (hb hby at_6) rfl ?_
      show Steps p.tables e below (s₁.setTop (mkF m 8 #[.val (.long q0_), .second, .val (.long q1_), .second, .val (.long q2_), .second, .val (.int p3_), .val (.int p4_), .val (.int (2 : Int32)), .unset, .unset, .unset] [(.int (2 : Int32))])) _
      refine XS.ifYes X0.here hx rfl (pc0 := 8) (pc' := 19) rfl (hb hby at_8) rfl ((if0 _ _).trans (feq (by decide : ¬ ((2 : Int32) = (0 : Int32)))).2) (by decide) (by decide) ?_
      show Steps p.tables e below (s₁.setTop (mkF m 19 #[.val (.long q0_), .second, .val (.long q1_), .second, .val (.long q2_), .second, .val (.int p3_), .val (.int p4_), .val (.int (2 : Int32)), .unset, .unset, .unset] [])) _
      refine XS.iload X0.here hx rfl (hb hby at_19) rfl ?_
      show Steps p.tables e below (s₁.setTop (mkF m 21 #[.val (.long q0_), .second, .val (.long q1_), .second, .val (.long q2_), .second, .val (.int p3_), .val (.int p4_), .val (.int (2 : Int32)), .unset, .unset, .unset] [(.int (2 : Int32))])) _
      refine XS.iconst X0.here hx rfl (hb hby at_21) ?_
      show Steps p.tables e below (s₁.setTop (mkF m 22 #[.val (.long q0_), .second, .val (.long q1_), .second, .val (.long q2_), .second, .val (.int p3_), .val (.int p4_), .val (.int (2 : Int32)), .unset, .unset, .unset] [(.int (1 : Int32)), (.int (2 : Int32))])) _
      refine XS.icmpYes X0.here hx rfl (pc0 := 22) (pc' := 37) rfl (hb hby at_22) rfl (feq (by decide : ¬ ((2 : Int32) = (1 : Int32)))).2 (by decide) (by decide) ?_
      show Steps p.tables e below (s₁.setTop (mkF m 37 #[.val (.long q0_), .second, .val (.long q1_), .second, .val (.long q2_), .second, .val (.int p3_), .val (.int p4_), .val (.int (2 : Int32)), .unset, .unset, .unset] [])) _
      refine XS.iload X0.here hx rfl (hb hby at_37) rfl ?_
      show Steps p.tables e below (s₁.setTop (mkF m 39 #[.val (.long q0_), .second, .val (.long q1_), .second, .val (.long q2_), .second, .val (.int p3_), .val (.int p4_), .val (.int (2 : Int32)), .unset, .unset, .unset] [(.int (2 : Int32))])) _
      refine XS.iconst X0.here hx rfl (hb hby at_39) ?_
      show Steps p.tables e below (s₁.setTop (mkF m 40 #[.val (.long q0_), .second, .val (.long q1_), .second, .val (.long q2_), .second, .val (.int p3_), .val (.int p4_), .val (.int (2 : Int32)), .unset, .unset, .unset] [(.int (2 : Int32)), (.int (2 : Int32))])) _
      refine XS.icmpNo X0.here hx rfl (hb hby at_40) rfl (teq (by decide : (2 : Int32) = (2 : Int32))).2 ?_
      show Steps p.tables e below (s₁.setTop (mkF m 43 #[.val (.long q0_), .second, .val (.long q1_), .second, .val (.long q2_), .second, .val (.int p3_), .val (.int p4_), .val (.int (2 : Int32)), .unset, .unset, .unset] [])) _
      refine XS.iconst X0.here hx rfl (hb hby at_43) ?_
      show Steps p.tables e below (s₁.setTop (mkF m 44 #[.val (.long q0_), .second, .val (.long q1_), .second, .val (.long q2_), .second, .val (.int p3_), .val (.int p4_), .val (.int (2 : Int32)), .unset, .unset, .unset] [(.int (2 : Int32))])) _
      refine st107 _ ?_
      show Steps p.tables e below (T107.setTop (mkF m 46 #[.val (.long q0_), .second, .val (.long q1_), .second, .val (.long q2_), .second, .val (.int p3_), .val (.int p4_), .val (.int (2 : Int32)), .unset, .unset, .unset] [(.ref b107)])) _
      refine XS.dup X107.here hx rfl (hb hby at_46) rfl rfl ?_
      show Steps p.tables e below (T107.setTop (mkF m 47 #[.val (.long q0_), .second, .val (.long q1_), .second, .val (.long q2_), .second, .val (.int p3_), .val (.int p4_), .val (.int (2 : Int32)), .unset, .unset, .unset] [(.ref b107), (.ref b107)])) _
      refine XS.iconst X107.here hx rfl (hb hby at_47) ?_
      show Steps p.tables e below (T107.setTop (mkF m 48 #[.val (.long q0_), .second, .val (.long q1_), .second, .val (.long q2_), .second, .val (.int p3_), .val (.int p4_), .val (.int (2 : Int32)), .unset, .unset, .unset] [(.int (0 : Int32)), (.ref b107), (.ref b107)])) _
      refine XS.lloadN X107.here hx rfl (hb hby at_48) rfl ?_
      show Steps p.tables e below (T107.setTop (mkF m 49 #[.val (.long q0_), .second, .val (.long q1_), .second, .val (.long q2_), .second, .val (.int p3_), .val (.int p4_), .val (.int (2 : Int32)), .unset, .unset, .unset] [(.long q0_), (.int (0 : Int32)), (.ref b107), (.ref b107)])) _
      refine st111 _ ?_
      show Steps p.tables e below (T111.setTop (mkF m 50 #[.val (.long q0_), .second, .val (.long q1_), .second, .val (.long q2_), .second, .val (.int p3_), .val (.int p4_), .val (.int (2 : Int32)), .unset, .unset, .unset] [(.ref b107)])) _
      refine XS.dup X111.here hx rfl (hb hby at_50) rfl rfl ?_
      show Steps p.tables e below (T111.setTop (mkF m 51 #[.val (.long q0_), .second, .val (.long q1_), .second, .val (.long q2_), .second, .val (.int p3_), .val (.int p4_), .val (.int (2 : Int32)), .unset, .unset, .unset] [(.ref b107), (.ref b107)])) _
      refine XS.iconst X111.here hx rfl (hb hby at_51) ?_
      show Steps p.tables e below (T111.setTop (mkF m 52 #[.val (.long q0_), .second, .val (.long q1_), .second, .val (.long q2_), .second, .val (.int p3_), .val (.int p4_), .val (.int (2 : Int32)), .unset, .unset, .unset] [(.int (1 : Int32)), (.ref b107), (.ref b107)])) _
      refine XS.lloadN X111.here hx rfl (hb hby at_52) rfl ?_
      show Steps p.tables e below (T111.setTop (mkF m 53 #[.val (.long q0_), .second, .val (.long q1_), .second, .val (.long q2_), .second, .val (.int p3_), .val (.int p4_), .val (.int (2 : Int32)), .unset, .unset, .unset] [(.long q1_), (.int (1 : Int32)), (.ref b107), (.ref b107)])) _
      refine st114 _ ?_
      show Steps p.tables e below (T114.setTop (mkF m 54 #[.val (.long q0_), .second, .val (.long q1_), .second, .val (.long q2_), .second, .val (.int p3_), .val (.int p4_), .val (.int (2 : Int32)), .unset, .unset, .unset] [(.ref b107)])) _
      refine XS.astore X114.here hx rfl (hb hby at_54) rfl rfl (l' := #[.val (.long q0_), .second, .val (.long q1_), .second, .val (.long q2_), .second, .val (.int p3_), .val (.int p4_), .val (.int (2 : Int32)), .val (.ref b107), .unset, .unset]) rfl ?_
      show Steps p.tables e below (T114.setTop (mkF m 56 #[.val (.long q0_), .second, .val (.long q1_), .second, .val (.long q2_), .second, .val (.int p3_), .val (.int p4_), .val (.int (2 : Int32)), .val (.ref b107), .unset, .unset] [])) _
      refine XS.goto X114.here hx rfl (pc0 := 56) (pc' := 77) rfl (hb hby at_56) (by decide) (by decide) ?_
      show Steps p.tables e below (T114.setTop (mkF m 77 #[.val (.long q0_), .second, .val (.long q1_), .second, .val (.long q2_), .second, .val (.int p3_), .val (.int p4_), .val (.int (2 : Int32)), .val (.ref b107), .unset, .unset] [])) _
      refine XS.aload X114.here hx rfl (hb hby at_77) rfl rfl ?_
      show Steps p.tables e below (T114.setTop (mkF m 79 #[.val (.long q0_), .second, .val (.long q1_), .second, .val (.long q2_), .second, .val (.int p3_), .val (.int p4_), .val (.int (2 : Int32)), .val (.ref b107), .unset, .unset] [(.ref b107)])) _
      refine st117 _ ?_
      show Steps p.tables e below (T117.setTop (mkF m 82 #[.val (.long q0_), .second, .val (.long q1_), .second, .val (.long q2_), .second, .val (.int p3_), .val (.int p4_), .val (.int (2 : Int32)), .val (.ref b107), .unset, .unset] [(.ref nb1_117)])) _
      refine XS.astore X117.here hx rfl (hb hby at_82) rfl rfl (l' := #[.val (.long q0_), .second, .val (.long q1_), .second, .val (.long q2_), .second, .val (.int p3_), .val (.int p4_), .val (.int (2 : Int32)), .val (.ref b107), .val (.ref nb1_117), .unset]) rfl ?_
      show Steps p.tables e below (T117.setTop (mkF m 84 #[.val (.long q0_), .second, .val (.long q1_), .second, .val (.long q2_), .second, .val (.int p3_), .val (.int p4_), .val (.int (2 : Int32)), .val (.ref b107), .val (.ref nb1_117), .unset] [])) _
      refine XS.iload X117.here hx rfl (hb hby at_84) rfl ?_
      show Steps p.tables e below (T117.setTop (mkF m 86 #[.val (.long q0_), .second, .val (.long q1_), .second, .val (.long q2_), .second, .val (.int p3_), .val (.int p4_), .val (.int (2 : Int32)), .val (.ref b107), .val (.ref nb1_117), .unset] [(.int (2 : Int32))])) _
      refine XS.ifNo X117.here hx rfl (hb hby at_86) rfl ((if0 _ _).trans (tlt (by decide : (0 : Int32) < (2 : Int32))).2.2.2) ?_
      show Steps p.tables e below (T117.setTop (mkF m 89 #[.val (.long q0_), .second, .val (.long q1_), .second, .val (.long q2_), .second, .val (.int p3_), .val (.int p4_), .val (.int (2 : Int32)), .val (.ref b107), .val (.ref nb1_117), .unset] [])) _
      refine XS.aload X117.here hx rfl (hb hby at_89) rfl rfl ?_
      show Steps p.tables e below (T117.setTop (mkF m 91 #[.val (.long q0_), .second, .val (.long q1_), .second, .val (.long q2_), .second, .val (.int p3_), .val (.int p4_), .val (.int (2 : Int32)), .val (.ref b107), .val (.ref nb1_117), .unset] [(.ref b107)])) _
      refine XS.iconst X117.here hx rfl (hb hby at_91) ?_
      show Steps p.tables e below (T117.setTop (mkF m 92 #[.val (.long q0_), .second, .val (.long q1_), .second, .val (.long q2_), .second, .val (.int p3_), .val (.int p4_), .val (.int (2 : Int32)), .val (.ref b107), .val (.ref nb1_117), .unset] [(.int (0 : Int32)), (.ref b107)])) _
      refine XS.aload X117.here hx rfl (hb hby at_92) rfl rfl ?_
      show Steps p.tables e below (T117.setTop (mkF m 94 #[.val (.long q0_), .second, .val (.long q1_), .second, .val (.long q2_), .second, .val (.int p3_), .val (.int p4_), .val (.int (2 : Int32)), .val (.ref b107), .val (.ref nb1_117), .unset] [(.ref b107), (.int (0 : Int32)), (.ref b107)])) _
      refine XS.iconst X117.here hx rfl (hb hby at_94) ?_
      show Steps p.tables e below (T117.setTop (mkF m 95 #[.val (.long q0_), .second, .val (.long q1_), .second, .val (.long q2_), .second, .val (.int p3_), .val (.int p4_), .val (.int (2 : Int32)), .val (.ref b107), .val (.ref nb1_117), .unset] [(.int (0 : Int32)), (.ref b107), (.int (0 : Int32)), (.ref b107)])) _
      refine X117.laload hx (j := (0 : Int32)) (v := (.long q0_)) (by rw [e117]; exact r132.1) (State.isArrayOf_alike hZ.alike r132.2.1) r132.2.2 hin132 hat132 (g := (mkF m 95 #[.val (.long q0_), .second, .val (.long q1_), .second, .val (.long q2_), .second, .val (.int p3_), .val (.int p4_), .val (.int (2 : Int32)), .val (.ref b107), .val (.ref nb1_117), .unset] [(.int (0 : Int32)), (.ref b107), (.int (0 : Int32)), (.ref b107)])) rfl rfl (hb hby at_95) _ ?_
      show Steps p.tables e below (T117.setTop (mkF m 96 #[.val (.long q0_), .second, .val (.long q1_), .second, .val (.long q2_), .second, .val (.int p3_), .val (.int p4_), .val (.int (2 : Int32)), .val (.ref b107), .val (.ref nb1_117), .unset] [(.long q0_), (.int (0 : Int32)), (.ref b107)])) _
      refine X117.ldc2Long hx hown (mvT hZ (hw _ (List.mem_of_getElem? (i := 24) rfl))) (g := (mkF m 96 #[.val (.long q0_), .second, .val (.long q1_), .second, .val (.long q2_), .second, .val (.int p3_), .val (.int p4_), .val (.int (2 : Int32)), .val (.ref b107), .val (.ref nb1_117), .unset] [(.long q0_), (.int (0 : Int32)), (.ref b107)])) rfl (hb hby at_96) _ ?_
      show Steps p.tables e below (T117.setTop (mkF m 99 #[.val (.long q0_), .second, .val (.long q1_), .second, .val (.long q2_), .second, .val (.int p3_), .val (.int p4_), .val (.int (2 : Int32)), .val (.ref b107), .val (.ref nb1_117), .unset] [(.long (-1 : Int64)), (.long q0_), (.int (0 : Int32)), (.ref b107)])) _
      refine XS.lxor X117.here hx rfl (hb hby at_99) rfl ?_
      show Steps p.tables e below (T117.setTop (mkF m 100 #[.val (.long q0_), .second, .val (.long q1_), .second, .val (.long q2_), .second, .val (.int p3_), .val (.int p4_), .val (.int (2 : Int32)), .val (.ref b107), .val (.ref nb1_117), .unset] [(.long (q0_ ^^^ (-1 : Int64))), (.int (0 : Int32)), (.ref b107)])) _
      refine st133 _ ?_
      show Steps p.tables e below (T133.setTop (mkF m 101 #[.val (.long q0_), .second, .val (.long q1_), .second, .val (.long q2_), .second, .val (.int p3_), .val (.int p4_), .val (.int (2 : Int32)), .val (.ref b107), .val (.ref nb1_117), .unset] [])) _
      refine XS.iload X133.here hx rfl (hb hby at_101) rfl ?_
      show Steps p.tables e below (T133.setTop (mkF m 103 #[.val (.long q0_), .second, .val (.long q1_), .second, .val (.long q2_), .second, .val (.int p3_), .val (.int p4_), .val (.int (2 : Int32)), .val (.ref b107), .val (.ref nb1_117), .unset] [(.int (2 : Int32))])) _
      refine XS.iconst X133.here hx rfl (hb hby at_103) ?_
      show Steps p.tables e below (T133.setTop (mkF m 104 #[.val (.long q0_), .second, .val (.long q1_), .second, .val (.long q2_), .second, .val (.int p3_), .val (.int p4_), .val (.int (2 : Int32)), .val (.ref b107), .val (.ref nb1_117), .unset] [(.int (1 : Int32)), (.int (2 : Int32))])) _
      refine XS.icmpNo X133.here hx rfl (hb hby at_104) rfl (tlt (by decide : (1 : Int32) < (2 : Int32))).2.2.2 ?_
      show Steps p.tables e below (T133.setTop (mkF m 107 #[.val (.long q0_), .second, .val (.long q1_), .second, .val (.long q2_), .second, .val (.int p3_), .val (.int p4_), .val (.int (2 : Int32)), .val (.ref b107), .val (.ref nb1_117), .unset] [])) _
      refine XS.aload X133.here hx rfl (hb hby at_107) rfl rfl ?_
      show Steps p.tables e below (T133.setTop (mkF m 109 #[.val (.long q0_), .second, .val (.long q1_), .second, .val (.long q2_), .second, .val (.int p3_), .val (.int p4_), .val (.int (2 : Int32)), .val (.ref b107), .val (.ref nb1_117), .unset] [(.ref b107)])) _
      refine XS.iconst X133.here hx rfl (hb hby at_109) ?_
      show Steps p.tables e below (T133.setTop (mkF m 110 #[.val (.long q0_), .second, .val (.long q1_), .second, .val (.long q2_), .second, .val (.int p3_), .val (.int p4_), .val (.int (2 : Int32)), .val (.ref b107), .val (.ref nb1_117), .unset] [(.int (1 : Int32)), (.ref b107)])) _
      refine XS.aload X133.here hx rfl (hb hby at_110) rfl rfl ?_
      show Steps p.tables e below (T133.setTop (mkF m 112 #[.val (.long q0_), .second, .val (.long q1_), .second, .val (.long q2_), .second, .val (.int p3_), .val (.int p4_), .val (.int (2 : Int32)), .val (.ref b107), .val (.ref nb1_117), .unset] [(.ref b107), (.int (1 : Int32)), (.ref b107)])) _
      refine XS.iconst X133.here hx rfl (hb hby at_112) ?_
      show Steps p.tables e below (T133.setTop (mkF m 113 #[.val (.long q0_), .second, .val (.long q1_), .second, .val (.long q2_), .second, .val (.int p3_), .val (.int p4_), .val (.int (2 : Int32)), .val (.ref b107), .val (.ref nb1_117), .unset] [(.int (1 : Int32)), (.ref b107), (.int (1 : Int32)), (.ref b107)])) _
      refine X133.laload hx (j := (1 : Int32)) (v := (.long q1_)) (by rw [e133]; exact r136.1) (State.isArrayOf_alike hZ.alike r136.2.1) r136.2.2 hin136 hat136 (g := (mkF m 113 #[.val (.long q0_), .second, .val (.long q1_), .second, .val (.long q2_), .second, .val (.int p3_), .val (.int p4_), .val (.int (2 : Int32)), .val (.ref b107), .val (.ref nb1_117), .unset] [(.int (1 : Int32)), (.ref b107), (.int (1 : Int32)), (.ref b107)])) rfl rfl (hb hby at_113) _ ?_
      show Steps p.tables e below (T133.setTop (mkF m 114 #[.val (.long q0_), .second, .val (.long q1_), .second, .val (.long q2_), .second, .val (.int p3_), .val (.int p4_), .val (.int (2 : Int32)), .val (.ref b107), .val (.ref nb1_117), .unset] [(.long q1_), (.int (1 : Int32)), (.ref b107)])) _
      refine X133.ldc2Long hx hown (mvT hZ (hw _ (List.mem_of_getElem? (i := 24) rfl))) (g := (mkF m 114 #[.val (.long q0_), .second, .val (.long q1_), .second, .val (.long q2_), .second, .val (.int p3_), .val (.int p4_), .val (.int (2 : Int32)), .val (.ref b107), .val (.ref nb1_117), .unset] [(.long q1_), (.int (1 : Int32)), (.ref b107)])) rfl (hb hby at_114) _ ?_
      show Steps p.tables e below (T133.setTop (mkF m 117 #[.val (.long q0_), .second, .val (.long q1_), .second, .val (.long q2_), .second, .val (.int p3_), .val (.int p4_), .val (.int (2 : Int32)), .val (.ref b107), .val (.ref nb1_117), .unset] [(.long (-1 : Int64)), (.long q1_), (.int (1 : Int32)), (.ref b107)])) _
      refine XS.lxor X133.here hx rfl (hb hby at_117) rfl ?_
      show Steps p.tables e below (T133.setTop (mkF m 118 #[.val (.long q0_), .second, .val (.long q1_), .second, .val (.long q2_), .second, .val (.int p3_), .val (.int p4_), .val (.int (2 : Int32)), .val (.ref b107), .val (.ref nb1_117), .unset] [(.long (q1_ ^^^ (-1 : Int64))), (.int (1 : Int32)), (.ref b107)])) _
      refine st137 _ ?_
      show Steps p.tables e below (T137.setTop (mkF m 119 #[.val (.long q0_), .second, .val (.long q1_), .second, .val (.long q2_), .second, .val (.int p3_), .val (.int p4_), .val (.int (2 : Int32)), .val (.ref b107), .val (.ref nb1_117), .unset] [])) _
      refine XS.iload X137.here hx rfl (hb hby at_119) rfl ?_
      show Steps p.tables e below (T137.setTop (mkF m 121 #[.val (.long q0_), .second, .val (.long q1_), .second, .val (.long q2_), .second, .val (.int p3_), .val (.int p4_), .val (.int (2 : Int32)), .val (.ref b107), .val (.ref nb1_117), .unset] [(.int (2 : Int32))])) _
      refine XS.iconst X137.here hx rfl (hb hby at_121) ?_
      show Steps p.tables e below (T137.setTop (mkF m 122 #[.val (.long q0_), .second, .val (.long q1_), .second, .val (.long q2_), .second, .val (.int p3_), .val (.int p4_), .val (.int (2 : Int32)), .val (.ref b107), .val (.ref nb1_117), .unset] [(.int (2 : Int32)), (.int (2 : Int32))])) _
      refine XS.icmpYes X137.here hx rfl (pc0 := 122) (pc' := 137) rfl (hb hby at_122) rfl (flt (by decide : ¬ ((2 : Int32) < (2 : Int32)))).2.2.2 (by decide) (by decide) ?_
      show Steps p.tables e below (T137.setTop (mkF m 137 #[.val (.long q0_), .second, .val (.long q1_), .second, .val (.long q2_), .second, .val (.int p3_), .val (.int p4_), .val (.int (2 : Int32)), .val (.ref b107), .val (.ref nb1_117), .unset] [])) _
      refine XS.iload X137.here hx rfl (hb hby at_137) rfl ?_
      show Steps p.tables e below (T137.setTop (mkF m 139 #[.val (.long q0_), .second, .val (.long q1_), .second, .val (.long q2_), .second, .val (.int p3_), .val (.int p4_), .val (.int (2 : Int32)), .val (.ref b107), .val (.ref nb1_117), .unset] [(.int p4_)])) _
      refine X137.ldcInt hx hown (mvT hZ (hw _ (List.mem_of_getElem? (i := 25) rfl))) (g := (mkF m 139 #[.val (.long q0_), .second, .val (.long q1_), .second, .val (.long q2_), .second, .val (.int p3_), .val (.int p4_), .val (.int (2 : Int32)), .val (.ref b107), .val (.ref nb1_117), .unset] [(.int p4_)])) rfl (hb hby at_139) _ ?_
      show Steps p.tables e below (T137.setTop (mkF m 141 #[.val (.long q0_), .second, .val (.long q1_), .second, .val (.long q2_), .second, .val (.int p3_), .val (.int p4_), .val (.int (2 : Int32)), .val (.ref b107), .val (.ref nb1_117), .unset] [(.int (2147483647 : Int32)), (.int p4_)])) _
      refine XS.iand X137.here hx rfl (hb hby at_141) rfl ?_
      show Steps p.tables e below (T137.setTop (mkF m 142 #[.val (.long q0_), .second, .val (.long q1_), .second, .val (.long q2_), .second, .val (.int p3_), .val (.int p4_), .val (.int (2 : Int32)), .val (.ref b107), .val (.ref nb1_117), .unset] [(.int (p4_ &&& (2147483647 : Int32)))])) _
      refine XS.istore X137.here hx rfl (hb hby at_142) rfl (l' := #[.val (.long q0_), .second, .val (.long q1_), .second, .val (.long q2_), .second, .val (.int p3_), .val (.int p4_), .val (.int (2 : Int32)), .val (.ref b107), .val (.ref nb1_117), .val (.int (p4_ &&& (2147483647 : Int32)))]) rfl ?_
      show Steps p.tables e below (T137.setTop (mkF m 144 #[.val (.long q0_), .second, .val (.long q1_), .second, .val (.long q2_), .second, .val (.int p3_), .val (.int p4_), .val (.int (2 : Int32)), .val (.ref b107), .val (.ref nb1_117), .val (.int (p4_ &&& (2147483647 : Int32)))] [])) _
      refine XS.aload X137.here hx rfl (hb hby at_144) rfl rfl ?_
      show Steps p.tables e below (T137.setTop (mkF m 146 #[.val (.long q0_), .second, .val (.long q1_), .second, .val (.long q2_), .second, .val (.int p3_), .val (.int p4_), .val (.int (2 : Int32)), .val (.ref b107), .val (.ref nb1_117), .val (.int (p4_ &&& (2147483647 : Int32)))] [(.ref nb1_117)])) _
      refine XS.iconst X137.here hx rfl (hb hby at_146) ?_
      show Steps p.tables e below (T137.setTop (mkF m 147 #[.val (.long q0_), .second, .val (.long q1_), .second, .val (.long q2_), .second, .val (.int p3_), .val (.int p4_), .val (.int (2 : Int32)), .val (.ref b107), .val (.ref nb1_117), .val (.int (p4_ &&& (2147483647 : Int32)))] [(.int (0 : Int32)), (.ref nb1_117)])) _
      refine st140.trans ?_
      show Steps p.tables e below (T140.setTop (mkF m 150 #[.val (.long q0_), .second, .val (.long q1_), .second, .val (.long q2_), .second, .val (.int p3_), .val (.int p4_), .val (.int (2 : Int32)), .val (.ref b107), .val (.ref nb1_117), .val (.int (p4_ &&& (2147483647 : Int32)))] [(.long q0_)])) _
      refine XS.iconst X140.here hx rfl (hb hby at_150) ?_
      show Steps p.tables e below (T140.setTop (mkF m 151 #[.val (.long q0_), .second, .val (.long q1_), .second, .val (.long q2_), .second, .val (.int p3_), .val (.int p4_), .val (.int (2 : Int32)), .val (.ref b107), .val (.ref nb1_117), .val (.int (p4_ &&& (2147483647 : Int32)))] [(.int (0 : Int32)), (.long q0_)])) _
      refine XS.iload X140.here hx rfl (hb hby at_151) rfl ?_
      show Steps p.tables e below (T140.setTop (mkF m 153 #[.val (.long q0_), .second, .val (.long q1_), .second, .val (.long q2_), .second, .val (.int p3_), .val (.int p4_), .val (.int (2 : Int32)), .val (.ref b107), .val (.ref nb1_117), .val (.int (p4_ &&& (2147483647 : Int32)))] [(.int (2 : Int32)), (.int (0 : Int32)), (.long q0_)])) _
      refine XS.lloadN X140.here hx rfl (hb hby at_153) rfl ?_
      show Steps p.tables e below (T140.setTop (mkF m 154 #[.val (.long q0_), .second, .val (.long q1_), .second, .val (.long q2_), .second, .val (.int p3_), .val (.int p4_), .val (.int (2 : Int32)), .val (.ref b107), .val (.ref nb1_117), .val (.int (p4_ &&& (2147483647 : Int32)))] [(.long q0_), (.int (2 : Int32)), (.int (0 : Int32)), (.long q0_)])) _
      refine XS.lloadN X140.here hx rfl (hb hby at_154) rfl ?_
      show Steps p.tables e below (T140.setTop (mkF m 155 #[.val (.long q0_), .second, .val (.long q1_), .second, .val (.long q2_), .second, .val (.int p3_), .val (.int p4_), .val (.int (2 : Int32)), .val (.ref b107), .val (.ref nb1_117), .val (.int (p4_ &&& (2147483647 : Int32)))] [(.long q1_), (.long q0_), (.int (2 : Int32)), (.int (0 : Int32)), (.long q0_)])) _
      refine XS.lload X140.here hx rfl (hb hby at_155) rfl ?_
      show Steps p.tables e below (T140.setTop (mkF m 157 #[.val (.long q0_), .second, .val (.long q1_), .second, .val (.long q2_), .second, .val (.int p3_), .val (.int p4_), .val (.int (2 : Int32)), .val (.ref b107), .val (.ref nb1_117), .val (.int (p4_ &&& (2147483647 : Int32)))] [(.long q2_), (.long q1_), (.long q0_), (.int (2 : Int32)), (.int (0 : Int32)), (.long q0_)])) _
      refine st155 _ ?_
      show Steps p.tables e below (T155.setTop (mkF m 160 #[.val (.long q0_), .second, .val (.long q1_), .second, .val (.long q2_), .second, .val (.int p3_), .val (.int p4_), .val (.int (2 : Int32)), .val (.ref b107), .val (.ref nb1_117), .val (.int (p4_ &&& (2147483647 : Int32)))] [(.long q0_), (.long q0_)])) _
      refine XS.lcmp X155.here hx rfl (hb hby at_160) rfl ?_
      show Steps p.tables e below (T155.setTop (mkF m 161 #[.val (.long q0_), .second, .val (.long q1_), .second, .val (.long q2_), .second, .val (.int p3_), .val (.int p4_), .val (.int (2 : Int32)), .val (.ref b107), .val (.ref nb1_117), .val (.int (p4_ &&& (2147483647 : Int32)))] [(.int (lcmpW q0_ q0_))])) _
      refine XS.ifNo X155.here hx rfl (hb hby at_161) rfl ((if0 _ _).trans (teq ((lw_eq _ _).mpr (rfl : q0_ = q0_))).2) ?_
      show Steps p.tables e below (T155.setTop (mkF m 164 #[.val (.long q0_), .second, .val (.long q1_), .second, .val (.long q2_), .second, .val (.int p3_), .val (.int p4_), .val (.int (2 : Int32)), .val (.ref b107), .val (.ref nb1_117), .val (.int (p4_ &&& (2147483647 : Int32)))] [])) _
      refine XS.aload X155.here hx rfl (hb hby at_164) rfl rfl ?_
      show Steps p.tables e below (T155.setTop (mkF m 166 #[.val (.long q0_), .second, .val (.long q1_), .second, .val (.long q2_), .second, .val (.int p3_), .val (.int p4_), .val (.int (2 : Int32)), .val (.ref b107), .val (.ref nb1_117), .val (.int (p4_ &&& (2147483647 : Int32)))] [(.ref nb1_117)])) _
      refine XS.iconst X155.here hx rfl (hb hby at_166) ?_
      show Steps p.tables e below (T155.setTop (mkF m 167 #[.val (.long q0_), .second, .val (.long q1_), .second, .val (.long q2_), .second, .val (.int p3_), .val (.int p4_), .val (.int (2 : Int32)), .val (.ref b107), .val (.ref nb1_117), .val (.int (p4_ &&& (2147483647 : Int32)))] [(.int (1 : Int32)), (.ref nb1_117)])) _
      refine st157.trans ?_
      show Steps p.tables e below (T157.setTop (mkF m 170 #[.val (.long q0_), .second, .val (.long q1_), .second, .val (.long q2_), .second, .val (.int p3_), .val (.int p4_), .val (.int (2 : Int32)), .val (.ref b107), .val (.ref nb1_117), .val (.int (p4_ &&& (2147483647 : Int32)))] [(.long q1_)])) _
      refine XS.iconst X157.here hx rfl (hb hby at_170) ?_
      show Steps p.tables e below (T157.setTop (mkF m 171 #[.val (.long q0_), .second, .val (.long q1_), .second, .val (.long q2_), .second, .val (.int p3_), .val (.int p4_), .val (.int (2 : Int32)), .val (.ref b107), .val (.ref nb1_117), .val (.int (p4_ &&& (2147483647 : Int32)))] [(.int (1 : Int32)), (.long q1_)])) _
      refine XS.iload X157.here hx rfl (hb hby at_171) rfl ?_
      show Steps p.tables e below (T157.setTop (mkF m 173 #[.val (.long q0_), .second, .val (.long q1_), .second, .val (.long q2_), .second, .val (.int p3_), .val (.int p4_), .val (.int (2 : Int32)), .val (.ref b107), .val (.ref nb1_117), .val (.int (p4_ &&& (2147483647 : Int32)))] [(.int (2 : Int32)), (.int (1 : Int32)), (.long q1_)])) _
      refine XS.lloadN X157.here hx rfl (hb hby at_173) rfl ?_
      show Steps p.tables e below (T157.setTop (mkF m 174 #[.val (.long q0_), .second, .val (.long q1_), .second, .val (.long q2_), .second, .val (.int p3_), .val (.int p4_), .val (.int (2 : Int32)), .val (.ref b107), .val (.ref nb1_117), .val (.int (p4_ &&& (2147483647 : Int32)))] [(.long q0_), (.int (2 : Int32)), (.int (1 : Int32)), (.long q1_)])) _
      refine XS.lloadN X157.here hx rfl (hb hby at_174) rfl ?_
      show Steps p.tables e below (T157.setTop (mkF m 175 #[.val (.long q0_), .second, .val (.long q1_), .second, .val (.long q2_), .second, .val (.int p3_), .val (.int p4_), .val (.int (2 : Int32)), .val (.ref b107), .val (.ref nb1_117), .val (.int (p4_ &&& (2147483647 : Int32)))] [(.long q1_), (.long q0_), (.int (2 : Int32)), (.int (1 : Int32)), (.long q1_)])) _
      refine XS.lload X157.here hx rfl (hb hby at_175) rfl ?_
      show Steps p.tables e below (T157.setTop (mkF m 177 #[.val (.long q0_), .second, .val (.long q1_), .second, .val (.long q2_), .second, .val (.int p3_), .val (.int p4_), .val (.int (2 : Int32)), .val (.ref b107), .val (.ref nb1_117), .val (.int (p4_ &&& (2147483647 : Int32)))] [(.long q2_), (.long q1_), (.long q0_), (.int (2 : Int32)), (.int (1 : Int32)), (.long q1_)])) _
      refine st159 _ ?_
      show Steps p.tables e below (T159.setTop (mkF m 180 #[.val (.long q0_), .second, .val (.long q1_), .second, .val (.long q2_), .second, .val (.int p3_), .val (.int p4_), .val (.int (2 : Int32)), .val (.ref b107), .val (.ref nb1_117), .val (.int (p4_ &&& (2147483647 : Int32)))] [(.long q1_), (.long q1_)])) _
      refine XS.lcmp X159.here hx rfl (hb hby at_180) rfl ?_
      show Steps p.tables e below (T159.setTop (mkF m 181 #[.val (.long q0_), .second, .val (.long q1_), .second, .val (.long q2_), .second, .val (.int p3_), .val (.int p4_), .val (.int (2 : Int32)), .val (.ref b107), .val (.ref nb1_117), .val (.int (p4_ &&& (2147483647 : Int32)))] [(.int (lcmpW q1_ q1_))])) _
      refine XS.ifNo X159.here hx rfl (hb hby at_181) rfl ((if0 _ _).trans (teq ((lw_eq _ _).mpr (rfl : q1_ = q1_))).2) ?_
      show Steps p.tables e below (T159.setTop (mkF m 184 #[.val (.long q0_), .second, .val (.long q1_), .second, .val (.long q2_), .second, .val (.int p3_), .val (.int p4_), .val (.int (2 : Int32)), .val (.ref b107), .val (.ref nb1_117), .val (.int (p4_ &&& (2147483647 : Int32)))] [])) _
      refine XS.aload X159.here hx rfl (hb hby at_184) rfl rfl ?_
      show Steps p.tables e below (T159.setTop (mkF m 186 #[.val (.long q0_), .second, .val (.long q1_), .second, .val (.long q2_), .second, .val (.int p3_), .val (.int p4_), .val (.int (2 : Int32)), .val (.ref b107), .val (.ref nb1_117), .val (.int (p4_ &&& (2147483647 : Int32)))] [(.ref nb1_117)])) _
      refine XS.iconst X159.here hx rfl (hb hby at_186) ?_
      show Steps p.tables e below (T159.setTop (mkF m 187 #[.val (.long q0_), .second, .val (.long q1_), .second, .val (.long q2_), .second, .val (.int p3_), .val (.int p4_), .val (.int (2 : Int32)), .val (.ref b107), .val (.ref nb1_117), .val (.int (p4_ &&& (2147483647 : Int32)))] [(.int (2 : Int32)), (.ref nb1_117)])) _
      refine st161.trans ?_
      show Steps p.tables e below (T161.setTop (mkF m 190 #[.val (.long q0_), .second, .val (.long q1_), .second, .val (.long q2_), .second, .val (.int p3_), .val (.int p4_), .val (.int (2 : Int32)), .val (.ref b107), .val (.ref nb1_117), .val (.int (p4_ &&& (2147483647 : Int32)))] [(.long (0 : Int64))])) _
      refine XS.iconst X161.here hx rfl (hb hby at_190) ?_
      show Steps p.tables e below (T161.setTop (mkF m 191 #[.val (.long q0_), .second, .val (.long q1_), .second, .val (.long q2_), .second, .val (.int p3_), .val (.int p4_), .val (.int (2 : Int32)), .val (.ref b107), .val (.ref nb1_117), .val (.int (p4_ &&& (2147483647 : Int32)))] [(.int (2 : Int32)), (.long (0 : Int64))])) _
      refine XS.iload X161.here hx rfl (hb hby at_191) rfl ?_
      show Steps p.tables e below (T161.setTop (mkF m 193 #[.val (.long q0_), .second, .val (.long q1_), .second, .val (.long q2_), .second, .val (.int p3_), .val (.int p4_), .val (.int (2 : Int32)), .val (.ref b107), .val (.ref nb1_117), .val (.int (p4_ &&& (2147483647 : Int32)))] [(.int (2 : Int32)), (.int (2 : Int32)), (.long (0 : Int64))])) _
      refine XS.lloadN X161.here hx rfl (hb hby at_193) rfl ?_
      show Steps p.tables e below (T161.setTop (mkF m 194 #[.val (.long q0_), .second, .val (.long q1_), .second, .val (.long q2_), .second, .val (.int p3_), .val (.int p4_), .val (.int (2 : Int32)), .val (.ref b107), .val (.ref nb1_117), .val (.int (p4_ &&& (2147483647 : Int32)))] [(.long q0_), (.int (2 : Int32)), (.int (2 : Int32)), (.long (0 : Int64))])) _
      refine XS.lloadN X161.here hx rfl (hb hby at_194) rfl ?_
      show Steps p.tables e below (T161.setTop (mkF m 195 #[.val (.long q0_), .second, .val (.long q1_), .second, .val (.long q2_), .second, .val (.int p3_), .val (.int p4_), .val (.int (2 : Int32)), .val (.ref b107), .val (.ref nb1_117), .val (.int (p4_ &&& (2147483647 : Int32)))] [(.long q1_), (.long q0_), (.int (2 : Int32)), (.int (2 : Int32)), (.long (0 : Int64))])) _
      refine XS.lload X161.here hx rfl (hb hby at_195) rfl ?_
      show Steps p.tables e below (T161.setTop (mkF m 197 #[.val (.long q0_), .second, .val (.long q1_), .second, .val (.long q2_), .second, .val (.int p3_), .val (.int p4_), .val (.int (2 : Int32)), .val (.ref b107), .val (.ref nb1_117), .val (.int (p4_ &&& (2147483647 : Int32)))] [(.long q2_), (.long q1_), (.long q0_), (.int (2 : Int32)), (.int (2 : Int32)), (.long (0 : Int64))])) _
      refine st163 _ ?_
      show Steps p.tables e below (T163.setTop (mkF m 200 #[.val (.long q0_), .second, .val (.long q1_), .second, .val (.long q2_), .second, .val (.int p3_), .val (.int p4_), .val (.int (2 : Int32)), .val (.ref b107), .val (.ref nb1_117), .val (.int (p4_ &&& (2147483647 : Int32)))] [(.long (0 : Int64)), (.long (0 : Int64))])) _
      refine XS.lcmp X163.here hx rfl (hb hby at_200) rfl ?_
      show Steps p.tables e below (T163.setTop (mkF m 201 #[.val (.long q0_), .second, .val (.long q1_), .second, .val (.long q2_), .second, .val (.int p3_), .val (.int p4_), .val (.int (2 : Int32)), .val (.ref b107), .val (.ref nb1_117), .val (.int (p4_ &&& (2147483647 : Int32)))] [(.int (lcmpW (0 : Int64) (0 : Int64)))])) _
      refine XS.ifNo X163.here hx rfl (hb hby at_201) rfl ((if0 _ _).trans (teq ((lw_eq _ _).mpr (by decide : (0 : Int64) = (0 : Int64)))).2) ?_
      show Steps p.tables e below (T163.setTop (mkF m 204 #[.val (.long q0_), .second, .val (.long q1_), .second, .val (.long q2_), .second, .val (.int p3_), .val (.int p4_), .val (.int (2 : Int32)), .val (.ref b107), .val (.ref nb1_117), .val (.int (p4_ &&& (2147483647 : Int32)))] [])) _
      refine XS.aload X163.here hx rfl (hb hby at_204) rfl rfl ?_
      show Steps p.tables e below (T163.setTop (mkF m 206 #[.val (.long q0_), .second, .val (.long q1_), .second, .val (.long q2_), .second, .val (.int p3_), .val (.int p4_), .val (.int (2 : Int32)), .val (.ref b107), .val (.ref nb1_117), .val (.int (p4_ &&& (2147483647 : Int32)))] [(.ref nb1_117)])) _
      refine XS.iconst X163.here hx rfl (hb hby at_206) ?_
      show Steps p.tables e below (T163.setTop (mkF m 207 #[.val (.long q0_), .second, .val (.long q1_), .second, .val (.long q2_), .second, .val (.int p3_), .val (.int p4_), .val (.int (2 : Int32)), .val (.ref b107), .val (.ref nb1_117), .val (.int (p4_ &&& (2147483647 : Int32)))] [(.int (3 : Int32)), (.ref nb1_117)])) _
      refine st165.trans ?_
      show Steps p.tables e below (T165.setTop (mkF m 210 #[.val (.long q0_), .second, .val (.long q1_), .second, .val (.long q2_), .second, .val (.int p3_), .val (.int p4_), .val (.int (2 : Int32)), .val (.ref b107), .val (.ref nb1_117), .val (.int (p4_ &&& (2147483647 : Int32)))] [(.long (0 : Int64))])) _
      refine XS.iconst X165.here hx rfl (hb hby at_210) ?_
      show Steps p.tables e below (T165.setTop (mkF m 211 #[.val (.long q0_), .second, .val (.long q1_), .second, .val (.long q2_), .second, .val (.int p3_), .val (.int p4_), .val (.int (2 : Int32)), .val (.ref b107), .val (.ref nb1_117), .val (.int (p4_ &&& (2147483647 : Int32)))] [(.int (3 : Int32)), (.long (0 : Int64))])) _
      refine XS.iload X165.here hx rfl (hb hby at_211) rfl ?_
      show Steps p.tables e below (T165.setTop (mkF m 213 #[.val (.long q0_), .second, .val (.long q1_), .second, .val (.long q2_), .second, .val (.int p3_), .val (.int p4_), .val (.int (2 : Int32)), .val (.ref b107), .val (.ref nb1_117), .val (.int (p4_ &&& (2147483647 : Int32)))] [(.int (2 : Int32)), (.int (3 : Int32)), (.long (0 : Int64))])) _
      refine XS.lloadN X165.here hx rfl (hb hby at_213) rfl ?_
      show Steps p.tables e below (T165.setTop (mkF m 214 #[.val (.long q0_), .second, .val (.long q1_), .second, .val (.long q2_), .second, .val (.int p3_), .val (.int p4_), .val (.int (2 : Int32)), .val (.ref b107), .val (.ref nb1_117), .val (.int (p4_ &&& (2147483647 : Int32)))] [(.long q0_), (.int (2 : Int32)), (.int (3 : Int32)), (.long (0 : Int64))])) _
      refine XS.lloadN X165.here hx rfl (hb hby at_214) rfl ?_
      show Steps p.tables e below (T165.setTop (mkF m 215 #[.val (.long q0_), .second, .val (.long q1_), .second, .val (.long q2_), .second, .val (.int p3_), .val (.int p4_), .val (.int (2 : Int32)), .val (.ref b107), .val (.ref nb1_117), .val (.int (p4_ &&& (2147483647 : Int32)))] [(.long q1_), (.long q0_), (.int (2 : Int32)), (.int (3 : Int32)), (.long (0 : Int64))])) _
      refine XS.lload X165.here hx rfl (hb hby at_215) rfl ?_
      show Steps p.tables e below (T165.setTop (mkF m 217 #[.val (.long q0_), .second, .val (.long q1_), .second, .val (.long q2_), .second, .val (.int p3_), .val (.int p4_), .val (.int (2 : Int32)), .val (.ref b107), .val (.ref nb1_117), .val (.int (p4_ &&& (2147483647 : Int32)))] [(.long q2_), (.long q1_), (.long q0_), (.int (2 : Int32)), (.int (3 : Int32)), (.long (0 : Int64))])) _
      refine st167 _ ?_
      show Steps p.tables e below (T167.setTop (mkF m 220 #[.val (.long q0_), .second, .val (.long q1_), .second, .val (.long q2_), .second, .val (.int p3_), .val (.int p4_), .val (.int (2 : Int32)), .val (.ref b107), .val (.ref nb1_117), .val (.int (p4_ &&& (2147483647 : Int32)))] [(.long (0 : Int64)), (.long (0 : Int64))])) _
      refine XS.lcmp X167.here hx rfl (hb hby at_220) rfl ?_
      show Steps p.tables e below (T167.setTop (mkF m 221 #[.val (.long q0_), .second, .val (.long q1_), .second, .val (.long q2_), .second, .val (.int p3_), .val (.int p4_), .val (.int (2 : Int32)), .val (.ref b107), .val (.ref nb1_117), .val (.int (p4_ &&& (2147483647 : Int32)))] [(.int (lcmpW (0 : Int64) (0 : Int64)))])) _
      refine XS.ifNo X167.here hx rfl (hb hby at_221) rfl ((if0 _ _).trans (teq ((lw_eq _ _).mpr (by decide : (0 : Int64) = (0 : Int64)))).2) ?_
      exact kt
    by_cases hv171 : (p4_ &&& (2147483647 : Int32)) = (0 : Int32)
    · have pre172 : ∀ t, Steps p.tables e below (T167.setTop (mkF m 224 #[.val (.long q0_), .second, .val (.long q1_), .second, .val (.long q2_), .second, .val (.int p3_), .val (.int p4_), .val (.int (2 : Int32)), .val (.ref b107), .val (.ref nb1_117), .val (.int (0 : Int32))] [])) t → Steps p.tables e below (s₁.setTop (entryFrame m #[(.long q0_), (.long q1_), (.long q2_), (.int p3_), (.int p4_)] maxLocals)) t := fun t kt => pre170 t (by rw [hv171]; exact kt)
      obtain ⟨cq173, kq173, q173a, q173b, q173c⟩ := isOf hZ e167' f142
      obtain ⟨_, _, ⟨T173, L173, k173, n173⟩, -, X173, ⟨Lc173, hQ173, l173, y173, z173⟩, st173⟩ := X167.virtualBack hx (y := (⟨"com/example/latchkey/latchkey/LockTokens", "get", "(I)J"⟩ : MethodName)) (z := (⟨"com/example/latchkey/latchkey/LockTokens", "get", "(I)J"⟩ : MethodName)) hown (mvT hZ (hw _ (List.mem_of_getElem? (i := 26) rfl))) (mvT hZ (hw _ (List.mem_of_getElem? (i := 27) rfl))) (notFace_of_selects (args := #[]) (mvT hZ (hw _ (List.mem_of_getElem? (i := 29) rfl)))) (mvT hZ (hw _ (List.mem_of_getElem? (i := 29) rfl))) (mvT hZ (hw _ (List.mem_of_getElem? (i := 28) rfl))) (by decide) (backOf (W := 0) (rmget27 l Z a0 hw [] nb1_117 nb5_117 k107 q0_ q1_ h137 n0 f153 f142 f145 f148 f150) hZ (hw _ (List.mem_of_getElem? (i := 30) rfl)) (hw _ (List.mem_of_getElem? (i := 3) rfl)) (by decide) (by decide)) q173a q173c (g := (mkF m 228 #[.val (.long q0_), .second, .val (.long q1_), .second, .val (.long q2_), .second, .val (.int p3_), .val (.int p4_), .val (.int (2 : Int32)), .val (.ref b107), .val (.ref nb1_117), .val (.int (0 : Int32))] [(.int (0 : Int32)), (.ref nb1_117)])) rfl (by rw [hml]; rfl) (Steps.refl _) (argsL := [(.int (0 : Int32))]) (rest := []) (lenOf pd_2 rfl) rfl (by show 2 * 0 + _ ≤ _; exact Nat.le_of_eq rfl) (hb hby at_228) (fun _ _ => ⟨rfl, e167', (by decide : 3 + 0 ≤ _), (by decide : 5 + 0 ≤ _)⟩)
      dsimp only [Pt.U, Pt.locs, Pt.cells, Pt.slots] at X173 l173 y173 z173 st173 hQ173
      subst l173 y173 z173
      obtain ⟨h173, e173⟩ : ∃ z, T173.heap = z := ⟨_, rfl⟩
      rw [e173] at hQ173
      obtain ⟨rfl, N173q, hh173⟩ := hQ173
      have N174 := Fr.app N168 N173q
      have e173' : T173.heap = h137 := e173.trans hh173
      obtain ⟨_, _, ⟨T175, L175, k175, n175⟩, -, X175, ⟨Lc175, hQ175, l175, y175, z175⟩, st175⟩ := Jvm.LawKit.callS X173 hx (y := (⟨"com/example/latchkey/latchkey/LockTokensOfPinLaw", "expected", "(IIJJJ)J"⟩ : MethodName)) hown (mvT hZ (hw _ (List.mem_of_getElem? (i := 31) rfl))) (mvT hZ (hw _ (List.mem_of_getElem? (i := 32) rfl))) (mvT hZ (hw _ (List.mem_of_getElem? (i := 33) rfl))) (mvT hZ (hw _ (List.mem_of_getElem? (i := 34) rfl))) (by decide) (backOf (W := 2) (rmexpected28 l Z a0 hw [] q0_ q1_ q2_ h137 n0 f153 ) hZ (hw _ (List.mem_of_getElem? (i := 34) rfl)) (hw _ (List.mem_of_getElem? (i := 33) rfl)) (by decide) (by decide)) (g := (mkF m 239 #[.val (.long q0_), .second, .val (.long q1_), .second, .val (.long q2_), .second, .val (.int p3_), .val (.int p4_), .val (.int (2 : Int32)), .val (.ref b107), .val (.ref nb1_117), .val (.int (0 : Int32))] [(.long q2_), (.long q1_), (.long q0_), (.int (2 : Int32)), (.int (0 : Int32)), (.long q0_)])) rfl (by rw [hml]; rfl) (argsL := [(.int (0 : Int32)), (.int (2 : Int32)), (.long q0_), (.long q1_), (.long q2_)]) (rest := [(.long q0_)]) (lenOf pd_3 rfl) rfl (by show 2 * 0 + _ ≤ _; exact Nat.le_of_eq rfl) (hb hby at_239) (fun _ _ => ⟨rfl, e173', (by decide : 3 + 0 ≤ _), (by decide : 5 + 0 ≤ _)⟩)
      dsimp only [Pt.U, Pt.locs, Pt.cells, Pt.slots] at X175 l175 y175 z175 st175 hQ175
      subst l175 y175 z175
      obtain ⟨h175, e175⟩ : ∃ z, T175.heap = z := ⟨_, rfl⟩
      rw [e175] at hQ175
      obtain ⟨rfl, N175q, hh175⟩ := hQ175
      have N176 := Fr.app N174 N175q
      have e175' : T175.heap = h137 := e175.trans hh175
      have pre177 : ∀ t, Steps p.tables e below (T175.setTop (mkF m 251 #[.val (.long q0_), .second, .val (.long q1_), .second, .val (.long q2_), .second, .val (.int p3_), .val (.int p4_), .val (.int (2 : Int32)), .val (.ref b107), .val (.ref nb1_117), .val (.int (0 : Int32))] [(.int (1 : Int32))])) t → Steps p.tables e below (s₁.setTop (entryFrame m #[(.long q0_), (.long q1_), (.long q2_), (.int p3_), (.int p4_)] maxLocals)) t := by
        intro t kt
        refine pre172 t ?_
        show Steps p.tables e below (T167.setTop (mkF m 224 #[.val (.long q0_), .second, .val (.long q1_), .second, .val (.long q2_), .second, .val (.int p3_), .val (.int p4_), .val (.int (2 : Int32)), .val (.ref b107), .val (.ref nb1_117), .val (.int (0 : Int32))] [])) _
        refine XS.aload X167.here hx rfl (hb hby at_224) rfl rfl ?_
        show Steps p.tables e below (T167.setTop (mkF m 226 #[.val (.long q0_), .second, .val (.long q1_), .second, .val (.long q2_), .second, .val (.int p3_), .val (.int p4_), .val (.int (2 : Int32)), .val (.ref b107), .val (.ref nb1_117), .val (.int (0 : Int32))] [(.ref nb1_117)])) _
        refine XS.iload X167.here hx rfl (hb hby at_226) rfl ?_
        show Steps p.tables e below (T167.setTop (mkF m 228 #[.val (.long q0_), .second, .val (.long q1_), .second, .val (.long q2_), .second, .val (.int p3_), .val (.int p4_), .val (.int (2 : Int32)), .val (.ref b107), .val (.ref nb1_117), .val (.int (0 : Int32))] [(.int (0 : Int32)), (.ref nb1_117)])) _
        refine st173.trans ?_
        show Steps p.tables e below (T173.setTop (mkF m 231 #[.val (.long q0_), .second, .val (.long q1_), .second, .val (.long q2_), .second, .val (.int p3_), .val (.int p4_), .val (.int (2 : Int32)), .val (.ref b107), .val (.ref nb1_117), .val (.int (0 : Int32))] [(.long q0_)])) _
        refine XS.iload X173.here hx rfl (hb hby at_231) rfl ?_
        show Steps p.tables e below (T173.setTop (mkF m 233 #[.val (.long q0_), .second, .val (.long q1_), .second, .val (.long q2_), .second, .val (.int p3_), .val (.int p4_), .val (.int (2 : Int32)), .val (.ref b107), .val (.ref nb1_117), .val (.int (0 : Int32))] [(.int (0 : Int32)), (.long q0_)])) _
        refine XS.iload X173.here hx rfl (hb hby at_233) rfl ?_
        show Steps p.tables e below (T173.setTop (mkF m 235 #[.val (.long q0_), .second, .val (.long q1_), .second, .val (.long q2_), .second, .val (.int p3_), .val (.int p4_), .val (.int (2 : Int32)), .val (.ref b107), .val (.ref nb1_117), .val (.int (0 : Int32))] [(.int (2 : Int32)), (.int (0 : Int32)), (.long q0_)])) _
        refine XS.lloadN X173.here hx rfl (hb hby at_235) rfl ?_
        show Steps p.tables e below (T173.setTop (mkF m 236 #[.val (.long q0_), .second, .val (.long q1_), .second, .val (.long q2_), .second, .val (.int p3_), .val (.int p4_), .val (.int (2 : Int32)), .val (.ref b107), .val (.ref nb1_117), .val (.int (0 : Int32))] [(.long q0_), (.int (2 : Int32)), (.int (0 : Int32)), (.long q0_)])) _
        refine XS.lloadN X173.here hx rfl (hb hby at_236) rfl ?_
        show Steps p.tables e below (T173.setTop (mkF m 237 #[.val (.long q0_), .second, .val (.long q1_), .second, .val (.long q2_), .second, .val (.int p3_), .val (.int p4_), .val (.int (2 : Int32)), .val (.ref b107), .val (.ref nb1_117), .val (.int (0 : Int32))] [(.long q1_), (.long q0_), (.int (2 : Int32)), (.int (0 : Int32)), (.long q0_)])) _
        refine XS.lload X173.here hx rfl (hb hby at_237) rfl ?_
        show Steps p.tables e below (T173.setTop (mkF m 239 #[.val (.long q0_), .second, .val (.long q1_), .second, .val (.long q2_), .second, .val (.int p3_), .val (.int p4_), .val (.int (2 : Int32)), .val (.ref b107), .val (.ref nb1_117), .val (.int (0 : Int32))] [(.long q2_), (.long q1_), (.long q0_), (.int (2 : Int32)), (.int (0 : Int32)), (.long q0_)])) _
        refine st175 _ ?_
        show Steps p.tables e below (T175.setTop (mkF m 242 #[.val (.long q0_), .second, .val (.long q1_), .second, .val (.long q2_), .second, .val (.int p3_), .val (.int p4_), .val (.int (2 : Int32)), .val (.ref b107), .val (.ref nb1_117), .val (.int (0 : Int32))] [(.long q0_), (.long q0_)])) _
        refine XS.lcmp X175.here hx rfl (hb hby at_242) rfl ?_
        show Steps p.tables e below (T175.setTop (mkF m 243 #[.val (.long q0_), .second, .val (.long q1_), .second, .val (.long q2_), .second, .val (.int p3_), .val (.int p4_), .val (.int (2 : Int32)), .val (.ref b107), .val (.ref nb1_117), .val (.int (0 : Int32))] [(.int (lcmpW q0_ q0_))])) _
        refine XS.ifNo X175.here hx rfl (hb hby at_243) rfl ((if0 _ _).trans (teq ((lw_eq _ _).mpr (rfl : q0_ = q0_))).2) ?_
        show Steps p.tables e below (T175.setTop (mkF m 246 #[.val (.long q0_), .second, .val (.long q1_), .second, .val (.long q2_), .second, .val (.int p3_), .val (.int p4_), .val (.int (2 : Int32)), .val (.ref b107), .val (.ref nb1_117), .val (.int (0 : Int32))] [])) _
        refine XS.iconst X175.here hx rfl (hb hby at_246) ?_
        show Steps p.tables e below (T175.setTop (mkF m 247 #[.val (.long q0_), .second, .val (.long q1_), .second, .val (.long q2_), .second, .val (.int p3_), .val (.int p4_), .val (.int (2 : Int32)), .val (.ref b107), .val (.ref nb1_117), .val (.int (0 : Int32))] [(.int (1 : Int32))])) _
        refine XS.goto X175.here hx rfl (pc0 := 247) (pc' := 251) rfl (hb hby at_247) (by decide) (by decide) ?_
        exact kt
      obtain ⟨fs, hr, hrun, hended, hW, hsame⟩ := X175.leave (v := some (.int (1 : Int32))) (fun h => by rw [Bd.returns] at h; cases h)
      refine ⟨_, _, pre177 _ (retN X175 hx (t := .boolean) Bd.returns (by simp) (hb hby at_251) hr), hrun, hended, _, _, rfl, ?_, ⟨_, rfl⟩, hW, hsame.mono (by decide) (by decide)⟩
      show QLaw Z q0_ q1_ q2_ p3_ p4_ h0 n0 _ T175.heap _
      rw [e175']
      exact ⟨rfl, N176⟩
    · by_cases hv179 : (p4_ &&& (2147483647 : Int32)) = (1 : Int32)
      · have pre180 : ∀ t, Steps p.tables e below (T167.setTop (mkF m 224 #[.val (.long q0_), .second, .val (.long q1_), .second, .val (.long q2_), .second, .val (.int p3_), .val (.int p4_), .val (.int (2 : Int32)), .val (.ref b107), .val (.ref nb1_117), .val (.int (1 : Int32))] [])) t → Steps p.tables e below (s₁.setTop (entryFrame m #[(.long q0_), (.long q1_), (.long q2_), (.int p3_), (.int p4_)] maxLocals)) t := fun t kt => pre170 t (by rw [hv179]; exact kt)
        obtain ⟨cq181, kq181, q181a, q181b, q181c⟩ := isOf hZ e167' f142
        obtain ⟨_, _, ⟨T181, L181, k181, n181⟩, -, X181, ⟨Lc181, hQ181, l181, y181, z181⟩, st181⟩ := X167.virtualBack hx (y := (⟨"com/example/latchkey/latchkey/LockTokens", "get", "(I)J"⟩ : MethodName)) (z := (⟨"com/example/latchkey/latchkey/LockTokens", "get", "(I)J"⟩ : MethodName)) hown (mvT hZ (hw _ (List.mem_of_getElem? (i := 26) rfl))) (mvT hZ (hw _ (List.mem_of_getElem? (i := 27) rfl))) (notFace_of_selects (args := #[]) (mvT hZ (hw _ (List.mem_of_getElem? (i := 29) rfl)))) (mvT hZ (hw _ (List.mem_of_getElem? (i := 29) rfl))) (mvT hZ (hw _ (List.mem_of_getElem? (i := 28) rfl))) (by decide) (backOf (W := 0) (rmget29 l Z a0 hw [] nb1_117 nb5_117 k107 q0_ q1_ h137 n0 f153 f142 f145 f148 f150) hZ (hw _ (List.mem_of_getElem? (i := 30) rfl)) (hw _ (List.mem_of_getElem? (i := 3) rfl)) (by decide) (by decide)) q181a q181c (g := (mkF m 228 #[.val (.long q0_), .second, .val (.long q1_), .second, .val (.long q2_), .second, .val (.int p3_), .val (.int p4_), .val (.int (2 : Int32)), .val (.ref b107), .val (.ref nb1_117), .val (.int (1 : Int32))] [(.int (1 : Int32)), (.ref nb1_117)])) rfl (by rw [hml]; rfl) (Steps.refl _) (argsL := [(.int (1 : Int32))]) (rest := []) (lenOf pd_2 rfl) rfl (by show 2 * 0 + _ ≤ _; exact Nat.le_of_eq rfl) (hb hby at_228) (fun _ _ => ⟨rfl, e167', (by decide : 3 + 0 ≤ _), (by decide : 5 + 0 ≤ _)⟩)
        dsimp only [Pt.U, Pt.locs, Pt.cells, Pt.slots] at X181 l181 y181 z181 st181 hQ181
        subst l181 y181 z181
        obtain ⟨h181, e181⟩ : ∃ z, T181.heap = z := ⟨_, rfl⟩
        rw [e181] at hQ181
        obtain ⟨rfl, N181q, hh181⟩ := hQ181
        have N182 := Fr.app N168 N181q
        have e181' : T181.heap = h137 := e181.trans hh181
        obtain ⟨_, _, ⟨T183, L183, k183, n183⟩, -, X183, ⟨Lc183, hQ183, l183, y183, z183⟩, st183⟩ := Jvm.LawKit.callS X181 hx (y := (⟨"com/example/latchkey/latchkey/LockTokensOfPinLaw", "expected", "(IIJJJ)J"⟩ : MethodName)) hown (mvT hZ (hw _ (List.mem_of_getElem? (i := 31) rfl))) (mvT hZ (hw _ (List.mem_of_getElem? (i := 32) rfl))) (mvT hZ (hw _ (List.mem_of_getElem? (i := 33) rfl))) (mvT hZ (hw _ (List.mem_of_getElem? (i := 34) rfl))) (by decide) (backOf (W := 2) (rmexpected30 l Z a0 hw [] q0_ q1_ q2_ h137 n0 f153 ) hZ (hw _ (List.mem_of_getElem? (i := 34) rfl)) (hw _ (List.mem_of_getElem? (i := 33) rfl)) (by decide) (by decide)) (g := (mkF m 239 #[.val (.long q0_), .second, .val (.long q1_), .second, .val (.long q2_), .second, .val (.int p3_), .val (.int p4_), .val (.int (2 : Int32)), .val (.ref b107), .val (.ref nb1_117), .val (.int (1 : Int32))] [(.long q2_), (.long q1_), (.long q0_), (.int (2 : Int32)), (.int (1 : Int32)), (.long q1_)])) rfl (by rw [hml]; rfl) (argsL := [(.int (1 : Int32)), (.int (2 : Int32)), (.long q0_), (.long q1_), (.long q2_)]) (rest := [(.long q1_)]) (lenOf pd_3 rfl) rfl (by show 2 * 0 + _ ≤ _; exact Nat.le_of_eq rfl) (hb hby at_239) (fun _ _ => ⟨rfl, e181', (by decide : 3 + 0 ≤ _), (by decide : 5 + 0 ≤ _)⟩)
        dsimp only [Pt.U, Pt.locs, Pt.cells, Pt.slots] at X183 l183 y183 z183 st183 hQ183
        subst l183 y183 z183
        obtain ⟨h183, e183⟩ : ∃ z, T183.heap = z := ⟨_, rfl⟩
        rw [e183] at hQ183
        obtain ⟨rfl, N183q, hh183⟩ := hQ183
        have N184 := Fr.app N182 N183q
        have e183' : T183.heap = h137 := e183.trans hh183
        have pre185 : ∀ t, Steps p.tables e below (T183.setTop (mkF m 251 #[.val (.long q0_), .second, .val (.long q1_), .second, .val (.long q2_), .second, .val (.int p3_), .val (.int p4_), .val (.int (2 : Int32)), .val (.ref b107), .val (.ref nb1_117), .val (.int (1 : Int32))] [(.int (1 : Int32))])) t → Steps p.tables e below (s₁.setTop (entryFrame m #[(.long q0_), (.long q1_), (.long q2_), (.int p3_), (.int p4_)] maxLocals)) t := by
          intro t kt
          refine pre180 t ?_
          show Steps p.tables e below (T167.setTop (mkF m 224 #[.val (.long q0_), .second, .val (.long q1_), .second, .val (.long q2_), .second, .val (.int p3_), .val (.int p4_), .val (.int (2 : Int32)), .val (.ref b107), .val (.ref nb1_117), .val (.int (1 : Int32))] [])) _
          refine XS.aload X167.here hx rfl (hb hby at_224) rfl rfl ?_
          show Steps p.tables e below (T167.setTop (mkF m 226 #[.val (.long q0_), .second, .val (.long q1_), .second, .val (.long q2_), .second, .val (.int p3_), .val (.int p4_), .val (.int (2 : Int32)), .val (.ref b107), .val (.ref nb1_117), .val (.int (1 : Int32))] [(.ref nb1_117)])) _
          refine XS.iload X167.here hx rfl (hb hby at_226) rfl ?_
          show Steps p.tables e below (T167.setTop (mkF m 228 #[.val (.long q0_), .second, .val (.long q1_), .second, .val (.long q2_), .second, .val (.int p3_), .val (.int p4_), .val (.int (2 : Int32)), .val (.ref b107), .val (.ref nb1_117), .val (.int (1 : Int32))] [(.int (1 : Int32)), (.ref nb1_117)])) _
          refine st181.trans ?_
          show Steps p.tables e below (T181.setTop (mkF m 231 #[.val (.long q0_), .second, .val (.long q1_), .second, .val (.long q2_), .second, .val (.int p3_), .val (.int p4_), .val (.int (2 : Int32)), .val (.ref b107), .val (.ref nb1_117), .val (.int (1 : Int32))] [(.long q1_)])) _
          refine XS.iload X181.here hx rfl (hb hby at_231) rfl ?_
          show Steps p.tables e below (T181.setTop (mkF m 233 #[.val (.long q0_), .second, .val (.long q1_), .second, .val (.long q2_), .second, .val (.int p3_), .val (.int p4_), .val (.int (2 : Int32)), .val (.ref b107), .val (.ref nb1_117), .val (.int (1 : Int32))] [(.int (1 : Int32)), (.long q1_)])) _
          refine XS.iload X181.here hx rfl (hb hby at_233) rfl ?_
          show Steps p.tables e below (T181.setTop (mkF m 235 #[.val (.long q0_), .second, .val (.long q1_), .second, .val (.long q2_), .second, .val (.int p3_), .val (.int p4_), .val (.int (2 : Int32)), .val (.ref b107), .val (.ref nb1_117), .val (.int (1 : Int32))] [(.int (2 : Int32)), (.int (1 : Int32)), (.long q1_)])) _
          refine XS.lloadN X181.here hx rfl (hb hby at_235) rfl ?_
          show Steps p.tables e below (T181.setTop (mkF m 236 #[.val (.long q0_), .second, .val (.long q1_), .second, .val (.long q2_), .second, .val (.int p3_), .val (.int p4_), .val (.int (2 : Int32)), .val (.ref b107), .val (.ref nb1_117), .val (.int (1 : Int32))] [(.long q0_), (.int (2 : Int32)), (.int (1 : Int32)), (.long q1_)])) _
          refine XS.lloadN X181.here hx rfl (hb hby at_236) rfl ?_
          show Steps p.tables e below (T181.setTop (mkF m 237 #[.val (.long q0_), .second, .val (.long q1_), .second, .val (.long q2_), .second, .val (.int p3_), .val (.int p4_), .val (.int (2 : Int32)), .val (.ref b107), .val (.ref nb1_117), .val (.int (1 : Int32))] [(.long q1_), (.long q0_), (.int (2 : Int32)), (.int (1 : Int32)), (.long q1_)])) _
          refine XS.lload X181.here hx rfl (hb hby at_237) rfl ?_
          show Steps p.tables e below (T181.setTop (mkF m 239 #[.val (.long q0_), .second, .val (.long q1_), .second, .val (.long q2_), .second, .val (.int p3_), .val (.int p4_), .val (.int (2 : Int32)), .val (.ref b107), .val (.ref nb1_117), .val (.int (1 : Int32))] [(.long q2_), (.long q1_), (.long q0_), (.int (2 : Int32)), (.int (1 : Int32)), (.long q1_)])) _
          refine st183 _ ?_
          show Steps p.tables e below (T183.setTop (mkF m 242 #[.val (.long q0_), .second, .val (.long q1_), .second, .val (.long q2_), .second, .val (.int p3_), .val (.int p4_), .val (.int (2 : Int32)), .val (.ref b107), .val (.ref nb1_117), .val (.int (1 : Int32))] [(.long q1_), (.long q1_)])) _
          refine XS.lcmp X183.here hx rfl (hb hby at_242) rfl ?_
          show Steps p.tables e below (T183.setTop (mkF m 243 #[.val (.long q0_), .second, .val (.long q1_), .second, .val (.long q2_), .second, .val (.int p3_), .val (.int p4_), .val (.int (2 : Int32)), .val (.ref b107), .val (.ref nb1_117), .val (.int (1 : Int32))] [(.int (lcmpW q1_ q1_))])) _
          refine XS.ifNo X183.here hx rfl (hb hby at_243) rfl ((if0 _ _).trans (teq ((lw_eq _ _).mpr (rfl : q1_ = q1_))).2) ?_
          show Steps p.tables e below (T183.setTop (mkF m 246 #[.val (.long q0_), .second, .val (.long q1_), .second, .val (.long q2_), .second, .val (.int p3_), .val (.int p4_), .val (.int (2 : Int32)), .val (.ref b107), .val (.ref nb1_117), .val (.int (1 : Int32))] [])) _
          refine XS.iconst X183.here hx rfl (hb hby at_246) ?_
          show Steps p.tables e below (T183.setTop (mkF m 247 #[.val (.long q0_), .second, .val (.long q1_), .second, .val (.long q2_), .second, .val (.int p3_), .val (.int p4_), .val (.int (2 : Int32)), .val (.ref b107), .val (.ref nb1_117), .val (.int (1 : Int32))] [(.int (1 : Int32))])) _
          refine XS.goto X183.here hx rfl (pc0 := 247) (pc' := 251) rfl (hb hby at_247) (by decide) (by decide) ?_
          exact kt
        obtain ⟨fs, hr, hrun, hended, hW, hsame⟩ := X183.leave (v := some (.int (1 : Int32))) (fun h => by rw [Bd.returns] at h; cases h)
        refine ⟨_, _, pre185 _ (retN X183 hx (t := .boolean) Bd.returns (by simp) (hb hby at_251) hr), hrun, hended, _, _, rfl, ?_, ⟨_, rfl⟩, hW, hsame.mono (by decide) (by decide)⟩
        show QLaw Z q0_ q1_ q2_ p3_ p4_ h0 n0 _ T183.heap _
        rw [e183']
        exact ⟨rfl, N184⟩
      · have hn187 : ¬ ((p4_ &&& (2147483647 : Int32)) < (2 : Int32)) := by
          intro hz
          have lt_0 : ((0 : Int32)).toInt = 0 := rfl
          have lt_1 : ((1 : Int32)).toInt = 1 := rfl
          have lt_2 : ((2 : Int32)).toInt = 2 := rfl
          have lt_3 : ((2147483647 : Int32)).toInt = 2147483647 := rfl
          simp only [Int32.lt_iff_toInt_lt, Int64.lt_iff_toInt_lt, ← Int32.toInt_inj, ← Int64.toInt_inj] at hz hn169 hv171 hv179
          omega
        obtain ⟨cq188, kq188, q188a, q188b, q188c⟩ := isOf hZ e167' f142
        obtain ⟨_, _, ⟨T188, L188, k188, n188⟩, -, X188, ⟨Lc188, hQ188, l188, y188, z188⟩, st188⟩ := X167.virtualBack hx (y := (⟨"com/example/latchkey/latchkey/LockTokens", "get", "(I)J"⟩ : MethodName)) (z := (⟨"com/example/latchkey/latchkey/LockTokens", "get", "(I)J"⟩ : MethodName)) hown (mvT hZ (hw _ (List.mem_of_getElem? (i := 26) rfl))) (mvT hZ (hw _ (List.mem_of_getElem? (i := 27) rfl))) (notFace_of_selects (args := #[]) (mvT hZ (hw _ (List.mem_of_getElem? (i := 29) rfl)))) (mvT hZ (hw _ (List.mem_of_getElem? (i := 29) rfl))) (mvT hZ (hw _ (List.mem_of_getElem? (i := 28) rfl))) (by decide) (backOf (W := 0) (rmget35 l Z a0 hw [] nb1_117 (p4_ &&& (2147483647 : Int32)) nb5_117 k107 q0_ q1_ h137 n0 f153 hn169 hv171 hv179 hn187 f142 f145 f148 f150) hZ (hw _ (List.mem_of_getElem? (i := 30) rfl)) (hw _ (List.mem_of_getElem? (i := 3) rfl)) (by decide) (by decide)) q188a q188c (g := (mkF m 228 #[.val (.long q0_), .second, .val (.long q1_), .second, .val (.long q2_), .second, .val (.int p3_), .val (.int p4_), .val (.int (2 : Int32)), .val (.ref b107), .val (.ref nb1_117), .val (.int (p4_ &&& (2147483647 : Int32)))] [(.int (p4_ &&& (2147483647 : Int32))), (.ref nb1_117)])) rfl (by rw [hml]; rfl) (Steps.refl _) (argsL := [(.int (p4_ &&& (2147483647 : Int32)))]) (rest := []) (lenOf pd_2 rfl) rfl (by show 2 * 0 + _ ≤ _; exact Nat.le_of_eq rfl) (hb hby at_228) (fun _ _ => ⟨rfl, e167', (by decide : 3 + 0 ≤ _), (by decide : 5 + 0 ≤ _)⟩)
        dsimp only [Pt.U, Pt.locs, Pt.cells, Pt.slots] at X188 l188 y188 z188 st188 hQ188
        subst l188 y188 z188
        obtain ⟨h188, e188⟩ : ∃ z, T188.heap = z := ⟨_, rfl⟩
        rw [e188] at hQ188
        obtain ⟨rfl, N188q, hh188⟩ := hQ188
        have N189 := Fr.app N168 N188q
        have e188' : T188.heap = h137 := e188.trans hh188
        obtain ⟨_, _, ⟨T190, L190, k190, n190⟩, -, X190, ⟨Lc190, hQ190, l190, y190, z190⟩, st190⟩ := Jvm.LawKit.callS X188 hx (y := (⟨"com/example/latchkey/latchkey/LockTokensOfPinLaw", "expected", "(IIJJJ)J"⟩ : MethodName)) hown (mvT hZ (hw _ (List.mem_of_getElem? (i := 31) rfl))) (mvT hZ (hw _ (List.mem_of_getElem? (i := 32) rfl))) (mvT hZ (hw _ (List.mem_of_getElem? (i := 33) rfl))) (mvT hZ (hw _ (List.mem_of_getElem? (i := 34) rfl))) (by decide) (backOf (W := 2) (rmexpected36 l Z a0 hw [] (p4_ &&& (2147483647 : Int32)) q0_ q1_ q2_ h137 n0 f153 ) hZ (hw _ (List.mem_of_getElem? (i := 34) rfl)) (hw _ (List.mem_of_getElem? (i := 33) rfl)) (by decide) (by decide)) (g := (mkF m 239 #[.val (.long q0_), .second, .val (.long q1_), .second, .val (.long q2_), .second, .val (.int p3_), .val (.int p4_), .val (.int (2 : Int32)), .val (.ref b107), .val (.ref nb1_117), .val (.int (p4_ &&& (2147483647 : Int32)))] [(.long q2_), (.long q1_), (.long q0_), (.int (2 : Int32)), (.int (p4_ &&& (2147483647 : Int32))), (.long (0 : Int64))])) rfl (by rw [hml]; rfl) (argsL := [(.int (p4_ &&& (2147483647 : Int32))), (.int (2 : Int32)), (.long q0_), (.long q1_), (.long q2_)]) (rest := [(.long (0 : Int64))]) (lenOf pd_3 rfl) rfl (by show 2 * 0 + _ ≤ _; exact Nat.le_of_eq rfl) (hb hby at_239) (fun _ _ => ⟨rfl, e188', (by decide : 3 + 0 ≤ _), (by decide : 5 + 0 ≤ _)⟩)
        dsimp only [Pt.U, Pt.locs, Pt.cells, Pt.slots] at X190 l190 y190 z190 st190 hQ190
        subst l190 y190 z190
        obtain ⟨h190, e190⟩ : ∃ z, T190.heap = z := ⟨_, rfl⟩
        rw [e190] at hQ190
        obtain ⟨rr190, rfl, hs190, N190q, hh190⟩ := hQ190
        have N191 := Fr.app N189 N190q
        have e190' : T190.heap = h137 := e190.trans hh190
        rcases hs190 with ⟨rfl, hq190_0_0, hq190_0_1⟩ | ⟨rfl, hq190_1_0, hq190_1_1, hq190_1_2⟩ | ⟨rfl, hq190_2_0, hq190_2_1, hq190_2_2⟩ | ⟨rfl, hq190_3_0⟩
        · exact absurd hq190_0_1 (by intro hz; have lt_0 : ((0 : Int32)).toInt = 0 := rfl; have lt_1 : ((1 : Int32)).toInt = 1 := rfl; have lt_2 : ((2 : Int32)).toInt = 2 := rfl; have lt_3 : ((2147483647 : Int32)).toInt = 2147483647 := rfl; simp only [Int32.lt_iff_toInt_lt, Int64.lt_iff_toInt_lt, ← Int32.toInt_inj, ← Int64.toInt_inj] at hz hn169 hv171 hv179 hn187 hq190_0_0; omega)
        · exact absurd hq190_1_2 (by intro hz; have lt_0 : ((0 : Int32)).toInt = 0 := rfl; have lt_1 : ((1 : Int32)).toInt = 1 := rfl; have lt_2 : ((2 : Int32)).toInt = 2 := rfl; have lt_3 : ((2147483647 : Int32)).toInt = 2147483647 := rfl; simp only [Int32.lt_iff_toInt_lt, Int64.lt_iff_toInt_lt, ← Int32.toInt_inj, ← Int64.toInt_inj] at hz hn169 hq190_1_1 hv179 hn187 hq190_1_0; omega)
        · exact absurd hq190_2_0 (by intro hz; have lt_0 : ((0 : Int32)).toInt = 0 := rfl; have lt_1 : ((1 : Int32)).toInt = 1 := rfl; have lt_2 : ((2 : Int32)).toInt = 2 := rfl; have lt_3 : ((2147483647 : Int32)).toInt = 2147483647 := rfl; simp only [Int32.lt_iff_toInt_lt, Int64.lt_iff_toInt_lt, ← Int32.toInt_inj, ← Int64.toInt_inj] at hz hn169 hv171 hv179 hn187; omega)
        · have pre192 : ∀ t, Steps p.tables e below (T190.setTop (mkF m 251 #[.val (.long q0_), .second, .val (.long q1_), .second, .val (.long q2_), .second, .val (.int p3_), .val (.int p4_), .val (.int (2 : Int32)), .val (.ref b107), .val (.ref nb1_117), .val (.int (p4_ &&& (2147483647 : Int32)))] [(.int (1 : Int32))])) t → Steps p.tables e below (s₁.setTop (entryFrame m #[(.long q0_), (.long q1_), (.long q2_), (.int p3_), (.int p4_)] maxLocals)) t := by
            intro t kt
            refine pre170 t ?_
            show Steps p.tables e below (T167.setTop (mkF m 224 #[.val (.long q0_), .second, .val (.long q1_), .second, .val (.long q2_), .second, .val (.int p3_), .val (.int p4_), .val (.int (2 : Int32)), .val (.ref b107), .val (.ref nb1_117), .val (.int (p4_ &&& (2147483647 : Int32)))] [])) _
            refine XS.aload X167.here hx rfl (hb hby at_224) rfl rfl ?_
            show Steps p.tables e below (T167.setTop (mkF m 226 #[.val (.long q0_), .second, .val (.long q1_), .second, .val (.long q2_), .second, .val (.int p3_), .val (.int p4_), .val (.int (2 : Int32)), .val (.ref b107), .val (.ref nb1_117), .val (.int (p4_ &&& (2147483647 : Int32)))] [(.ref nb1_117)])) _
            refine XS.iload X167.here hx rfl (hb hby at_226) rfl ?_
            show Steps p.tables e below (T167.setTop (mkF m 228 #[.val (.long q0_), .second, .val (.long q1_), .second, .val (.long q2_), .second, .val (.int p3_), .val (.int p4_), .val (.int (2 : Int32)), .val (.ref b107), .val (.ref nb1_117), .val (.int (p4_ &&& (2147483647 : Int32)))] [(.int (p4_ &&& (2147483647 : Int32))), (.ref nb1_117)])) _
            refine st188.trans ?_
            show Steps p.tables e below (T188.setTop (mkF m 231 #[.val (.long q0_), .second, .val (.long q1_), .second, .val (.long q2_), .second, .val (.int p3_), .val (.int p4_), .val (.int (2 : Int32)), .val (.ref b107), .val (.ref nb1_117), .val (.int (p4_ &&& (2147483647 : Int32)))] [(.long (0 : Int64))])) _
            refine XS.iload X188.here hx rfl (hb hby at_231) rfl ?_
            show Steps p.tables e below (T188.setTop (mkF m 233 #[.val (.long q0_), .second, .val (.long q1_), .second, .val (.long q2_), .second, .val (.int p3_), .val (.int p4_), .val (.int (2 : Int32)), .val (.ref b107), .val (.ref nb1_117), .val (.int (p4_ &&& (2147483647 : Int32)))] [(.int (p4_ &&& (2147483647 : Int32))), (.long (0 : Int64))])) _
            refine XS.iload X188.here hx rfl (hb hby at_233) rfl ?_
            show Steps p.tables e below (T188.setTop (mkF m 235 #[.val (.long q0_), .second, .val (.long q1_), .second, .val (.long q2_), .second, .val (.int p3_), .val (.int p4_), .val (.int (2 : Int32)), .val (.ref b107), .val (.ref nb1_117), .val (.int (p4_ &&& (2147483647 : Int32)))] [(.int (2 : Int32)), (.int (p4_ &&& (2147483647 : Int32))), (.long (0 : Int64))])) _
            refine XS.lloadN X188.here hx rfl (hb hby at_235) rfl ?_
            show Steps p.tables e below (T188.setTop (mkF m 236 #[.val (.long q0_), .second, .val (.long q1_), .second, .val (.long q2_), .second, .val (.int p3_), .val (.int p4_), .val (.int (2 : Int32)), .val (.ref b107), .val (.ref nb1_117), .val (.int (p4_ &&& (2147483647 : Int32)))] [(.long q0_), (.int (2 : Int32)), (.int (p4_ &&& (2147483647 : Int32))), (.long (0 : Int64))])) _
            refine XS.lloadN X188.here hx rfl (hb hby at_236) rfl ?_
            show Steps p.tables e below (T188.setTop (mkF m 237 #[.val (.long q0_), .second, .val (.long q1_), .second, .val (.long q2_), .second, .val (.int p3_), .val (.int p4_), .val (.int (2 : Int32)), .val (.ref b107), .val (.ref nb1_117), .val (.int (p4_ &&& (2147483647 : Int32)))] [(.long q1_), (.long q0_), (.int (2 : Int32)), (.int (p4_ &&& (2147483647 : Int32))), (.long (0 : Int64))])) _
            refine XS.lload X188.here hx rfl (hb hby at_237) rfl ?_
            show Steps p.tables e below (T188.setTop (mkF m 239 #[.val (.long q0_), .second, .val (.long q1_), .second, .val (.long q2_), .second, .val (.int p3_), .val (.int p4_), .val (.int (2 : Int32)), .val (.ref b107), .val (.ref nb1_117), .val (.int (p4_ &&& (2147483647 : Int32)))] [(.long q2_), (.long q1_), (.long q0_), (.int (2 : Int32)), (.int (p4_ &&& (2147483647 : Int32))), (.long (0 : Int64))])) _
            refine st190 _ ?_
            show Steps p.tables e below (T190.setTop (mkF m 242 #[.val (.long q0_), .second, .val (.long q1_), .second, .val (.long q2_), .second, .val (.int p3_), .val (.int p4_), .val (.int (2 : Int32)), .val (.ref b107), .val (.ref nb1_117), .val (.int (p4_ &&& (2147483647 : Int32)))] [(.long (0 : Int64)), (.long (0 : Int64))])) _
            refine XS.lcmp X190.here hx rfl (hb hby at_242) rfl ?_
            show Steps p.tables e below (T190.setTop (mkF m 243 #[.val (.long q0_), .second, .val (.long q1_), .second, .val (.long q2_), .second, .val (.int p3_), .val (.int p4_), .val (.int (2 : Int32)), .val (.ref b107), .val (.ref nb1_117), .val (.int (p4_ &&& (2147483647 : Int32)))] [(.int (lcmpW (0 : Int64) (0 : Int64)))])) _
            refine XS.ifNo X190.here hx rfl (hb hby at_243) rfl ((if0 _ _).trans (teq ((lw_eq _ _).mpr (by decide : (0 : Int64) = (0 : Int64)))).2) ?_
            show Steps p.tables e below (T190.setTop (mkF m 246 #[.val (.long q0_), .second, .val (.long q1_), .second, .val (.long q2_), .second, .val (.int p3_), .val (.int p4_), .val (.int (2 : Int32)), .val (.ref b107), .val (.ref nb1_117), .val (.int (p4_ &&& (2147483647 : Int32)))] [])) _
            refine XS.iconst X190.here hx rfl (hb hby at_246) ?_
            show Steps p.tables e below (T190.setTop (mkF m 247 #[.val (.long q0_), .second, .val (.long q1_), .second, .val (.long q2_), .second, .val (.int p3_), .val (.int p4_), .val (.int (2 : Int32)), .val (.ref b107), .val (.ref nb1_117), .val (.int (p4_ &&& (2147483647 : Int32)))] [(.int (1 : Int32))])) _
            refine XS.goto X190.here hx rfl (pc0 := 247) (pc' := 251) rfl (hb hby at_247) (by decide) (by decide) ?_
            exact kt
          obtain ⟨fs, hr, hrun, hended, hW, hsame⟩ := X190.leave (v := some (.int (1 : Int32))) (fun h => by rw [Bd.returns] at h; cases h)
          refine ⟨_, _, pre192 _ (retN X190 hx (t := .boolean) Bd.returns (by simp) (hb hby at_251) hr), hrun, hended, _, _, rfl, ?_, ⟨_, rfl⟩, hW, hsame.mono (by decide) (by decide)⟩
          show QLaw Z q0_ q1_ q2_ p3_ p4_ h0 n0 _ T190.heap _
          rw [e190']
          exact ⟨rfl, N191⟩
  · have pre194 : ∀ t, Steps p.tables e below (s₁.setTop (mkF m 6 #[.val (.long q0_), .second, .val (.long q1_), .second, .val (.long q2_), .second, .val (.int p3_), .val (.int p4_), .val (.int (3 : Int32)), .unset, .unset, .unset] [])) t → Steps p.tables e below (s₁.setTop (entryFrame m #[(.long q0_), (.long q1_), (.long q2_), (.int p3_), (.int p4_)] maxLocals)) t := fun t kt => pre1 t (by rw [hv3]; exact kt)
    obtain ⟨T195, h195, k195, X195, e195, E195, A195, Z195, st195⟩ := newPE X0 hx hZ (hw _ (List.mem_of_getElem? (i := 0) rfl)) e0 (g := (mkF m 60 #[.val (.long q0_), .second, .val (.long q1_), .second, .val (.long q2_), .second, .val (.int p3_), .val (.int p4_), .val (.int (3 : Int32)), .unset, .unset, .unset] [(.int (3 : Int32))])) rfl (hb hby at_60) rfl (by decide) (cap := 3) (by decide) (by decide) (by decide) (by decide) (ad := "[J") (by decide)
    obtain ⟨b195, g195⟩ : ∃ z, z = h0.size := ⟨_, rfl⟩
    rw [← g195] at A195 Z195 st195
    have ge196 : n0 ≤ b195 := Nat.le_trans (Nat.le_trans (Nat.le_of_eq O0.1.symm) O0.2.1) (Nat.le_of_eq g195.symm)
    have sz197 : h0.size ≤ b195 := Nat.le_trans K0.1 (Nat.le_of_eq g195.symm)
    have f198 : Arv Z h195 b195 k195 .long (3 : Int32) [(.long (0 : Int64)), (.long (0 : Int64)), (.long (0 : Int64))] (.long (0 : Int64)) := (Arv.new A195 (by decide)).pad (pad_rep [] (.long (0 : Int64)) 3)
    obtain ⟨c199, r199, q199, s199, z199, y199, G199⟩ := id f198
    have hin199 : ¬ ((0 : Int32) < 0 ∨ c199.slots.size ≤ ((0 : Int32)).toNatClampNeg) := inb_of s199 ⟨by decide, by decide⟩
    obtain ⟨T199, h199, X199, e199, W199, st199⟩ := stJ X195 hx hZ e195 r199 (j := (0 : Int32)) hin199 (g := (mkF m 65 #[.val (.long q0_), .second, .val (.long q1_), .second, .val (.long q2_), .second, .val (.int p3_), .val (.int p4_), .val (.int (3 : Int32)), .unset, .unset, .unset] [(.long q0_), (.int (0 : Int32)), (.ref b195), (.ref b195)])) rfl rfl (hb hby at_65)
    have N200 := Fr.snoc X199 N0 ge196
    have f201 : Arv Z h199 b195 k195 .long (3 : Int32) [(.long q0_), (.long (0 : Int64)), (.long (0 : Int64))] (.long (0 : Int64)) := Arv.set r199 q199 s199 z199 y199 G199 rfl W199 0 rfl (Nat.le_of_ble_eq_true rfl)
    obtain ⟨c202, r202, q202, s202, z202, y202, G202⟩ := id f201
    have hin202 : ¬ ((1 : Int32) < 0 ∨ c202.slots.size ≤ ((1 : Int32)).toNatClampNeg) := inb_of s202 ⟨by decide, by decide⟩
    obtain ⟨T202, h202, X202, e202, W202, st202⟩ := stJ X199 hx hZ e199 r202 (j := (1 : Int32)) hin202 (g := (mkF m 69 #[.val (.long q0_), .second, .val (.long q1_), .second, .val (.long q2_), .second, .val (.int p3_), .val (.int p4_), .val (.int (3 : Int32)), .unset, .unset, .unset] [(.long q1_), (.int (1 : Int32)), (.ref b195), (.ref b195)])) rfl rfl (hb hby at_69)
    have N203 := Fr.snoc X202 N200 ge196
    have f204 : Arv Z h202 b195 k195 .long (3 : Int32) [(.long q0_), (.long q1_), (.long (0 : Int64))] (.long (0 : Int64)) := Arv.set r202 q202 s202 z202 y202 G202 rfl W202 1 rfl (Nat.le_of_ble_eq_true rfl)
    obtain ⟨c205, r205, q205, s205, z205, y205, G205⟩ := id f204
    have hin205 : ¬ ((2 : Int32) < 0 ∨ c205.slots.size ≤ ((2 : Int32)).toNatClampNeg) := inb_of s205 ⟨by decide, by decide⟩
    obtain ⟨T205, h205, X205, e205, W205, st205⟩ := stJ X202 hx hZ e202 r205 (j := (2 : Int32)) hin205 (g := (mkF m 74 #[.val (.long q0_), .second, .val (.long q1_), .second, .val (.long q2_), .second, .val (.int p3_), .val (.int p4_), .val (.int (3 : Int32)), .unset, .unset, .unset] [(.long q2_), (.int (2 : Int32)), (.ref b195), (.ref b195)])) rfl rfl (hb hby at_74)
    have N206 := Fr.snoc X205 N203 ge196
    have f207 : Arv Z h205 b195 k195 .long (3 : Int32) [(.long q0_), (.long q1_), (.long q2_)] (.long (0 : Int64)) := Arv.set r205 q205 s205 z205 y205 G205 rfl W205 2 rfl (Nat.le_of_ble_eq_true rfl)
    have f209 : Exa Z h199 b195 "[J" := Z195.wr W199
    have f210 : Exa Z h202 b195 "[J" := f209.wr W202
    have f211 : Exa Z h205 b195 "[J" := f210.wr W205
    have f212 : Old Z n0 h195 := O0.ext E195
    have f213 : Old Z n0 h199 := f212.wr W199 ge196
    have f214 : Old Z n0 h202 := f213.wr W202 ge196
    have f215 : Old Z n0 h205 := f214.wr W205 ge196
    obtain ⟨_, _, ⟨T208, L208, k208, n208⟩, -, X208, ⟨Lc208, hQ208, l208, y208, z208⟩, st208⟩ := Jvm.LawKit.callS X205 hx (y := (⟨"com/example/latchkey/latchkey/LockTokens", "of", "([J)Lcom/example/latchkey/latchkey/LockTokens;"⟩ : MethodName)) hown (mvT hZ (hw _ (List.mem_of_getElem? (i := 1) rfl))) (mvT hZ (hw _ (List.mem_of_getElem? (i := 2) rfl))) (mvT hZ (hw _ (List.mem_of_getElem? (i := 3) rfl))) (mvT hZ (hw _ (List.mem_of_getElem? (i := 4) rfl))) (by decide) (backOf (W := 0) (rmof37 l Z a0 hw [] b195 k195 q0_ q1_ q2_ h205 n0 f215 f207 f211) hZ (hw _ (List.mem_of_getElem? (i := 4) rfl)) (hw _ (List.mem_of_getElem? (i := 3) rfl)) (by decide) (by decide)) (g := (mkF m 79 #[.val (.long q0_), .second, .val (.long q1_), .second, .val (.long q2_), .second, .val (.int p3_), .val (.int p4_), .val (.int (3 : Int32)), .val (.ref b195), .unset, .unset] [(.ref b195)])) rfl (by rw [hml]; rfl) (argsL := [(.ref b195)]) (rest := []) (lenOf pd_1 rfl) rfl (by show 2 * 0 + _ ≤ _; exact Nat.le_of_eq rfl) (hb hby at_79) (fun _ _ => ⟨rfl, e205, (by decide : 1 + 2 ≤ _), (by decide : 3 + 4 ≤ _)⟩)
    dsimp only [Pt.U, Pt.locs, Pt.cells, Pt.slots] at X208 l208 y208 z208 st208 hQ208
    subst l208 y208 z208
    obtain ⟨h208, e208⟩ : ∃ z, T208.heap = z := ⟨_, rfl⟩
    rw [e208] at hQ208
    obtain ⟨nb1_208, nb5_208, rfl, N208q, K208, sznb1_208, sznb5_208, g208_0, g208_1, g208_2, g208_3⟩ := hQ208
    have N216 := Fr.app N206 N208q
    have ge217 : n0 ≤ nb1_208 := Nat.le_trans (Nat.le_trans (Nat.le_of_eq f215.1.symm) f215.2.1) sznb1_208
    have f218 : Keep h0 h195 [] := K0.ext E195
    have f219 : Keep h0 h199 [] := f218.wr W199 (Or.inr sz197)
    have f220 : Keep h0 h202 [] := f219.wr W202 (Or.inr sz197)
    have f221 : Keep h0 h205 [] := f220.wr W205 (Or.inr sz197)
    have sz222 : h0.size ≤ nb1_208 := Nat.le_trans f221.1 sznb1_208
    have ge223 : n0 ≤ nb5_208 := Nat.le_trans (Nat.le_trans (Nat.le_of_eq f215.1.symm) f215.2.1) sznb5_208
    have sz224 : h0.size ≤ nb5_208 := Nat.le_trans f221.1 sznb5_208
    have f225 : Arv Z h208 b195 k195 .long (3 : Int32) [(.long q0_), (.long q1_), (.long q2_)] (.long (0 : Int64)) := f207.keep K208 nin0
    obtain ⟨c226, r226, q226, s226, z226, y226, G226⟩ := id f225
    have hin226 : ¬ ((0 : Int32) < 0 ∨ c226.slots.size ≤ ((0 : Int32)).toNatClampNeg) := inb_of s226 ⟨by decide, by decide⟩
    have hat226 : c226.slots[((0 : Int32)).toNatClampNeg]? = some (.long q0_) := Has.at y226 hin226 rfl
    obtain ⟨c227, r227, q227, s227, z227, y227, G227⟩ := id f225
    have hin227 : ¬ ((0 : Int32) < 0 ∨ c227.slots.size ≤ ((0 : Int32)).toNatClampNeg) := inb_of s227 ⟨by decide, by decide⟩
    obtain ⟨T227, h227, X227, e227, W227, st227⟩ := stJ X208 hx hZ e208 r227 (j := (0 : Int32)) hin227 (g := (mkF m 100 #[.val (.long q0_), .second, .val (.long q1_), .second, .val (.long q2_), .second, .val (.int p3_), .val (.int p4_), .val (.int (3 : Int32)), .val (.ref b195), .val (.ref nb1_208), .unset] [(.long (q0_ ^^^ (-1 : Int64))), (.int (0 : Int32)), (.ref b195)])) rfl rfl (hb hby at_100)
    have N228 := Fr.snoc X227 N216 ge196
    have f229 : Arv Z h227 b195 k195 .long (3 : Int32) [(.long (q0_ ^^^ (-1 : Int64))), (.long q1_), (.long q2_)] (.long (0 : Int64)) := Arv.set r227 q227 s227 z227 y227 G227 rfl W227 0 rfl (Nat.le_of_ble_eq_true rfl)
    obtain ⟨c230, r230, q230, s230, z230, y230, G230⟩ := id f229
    have hin230 : ¬ ((1 : Int32) < 0 ∨ c230.slots.size ≤ ((1 : Int32)).toNatClampNeg) := inb_of s230 ⟨by decide, by decide⟩
    have hat230 : c230.slots[((1 : Int32)).toNatClampNeg]? = some (.long q1_) := Has.at y230 hin230 rfl
    obtain ⟨c231, r231, q231, s231, z231, y231, G231⟩ := id f229
    have hin231 : ¬ ((1 : Int32) < 0 ∨ c231.slots.size ≤ ((1 : Int32)).toNatClampNeg) := inb_of s231 ⟨by decide, by decide⟩
    obtain ⟨T231, h231, X231, e231, W231, st231⟩ := stJ X227 hx hZ e227 r231 (j := (1 : Int32)) hin231 (g := (mkF m 118 #[.val (.long q0_), .second, .val (.long q1_), .second, .val (.long q2_), .second, .val (.int p3_), .val (.int p4_), .val (.int (3 : Int32)), .val (.ref b195), .val (.ref nb1_208), .unset] [(.long (q1_ ^^^ (-1 : Int64))), (.int (1 : Int32)), (.ref b195)])) rfl rfl (hb hby at_118)
    have N232 := Fr.snoc X231 N228 ge196
    have f233 : Arv Z h231 b195 k195 .long (3 : Int32) [(.long (q0_ ^^^ (-1 : Int64))), (.long (q1_ ^^^ (-1 : Int64))), (.long q2_)] (.long (0 : Int64)) := Arv.set r231 q231 s231 z231 y231 G231 rfl W231 1 rfl (Nat.le_of_ble_eq_true rfl)
    obtain ⟨c234, r234, q234, s234, z234, y234, G234⟩ := id f233
    have hin234 : ¬ ((2 : Int32) < 0 ∨ c234.slots.size ≤ ((2 : Int32)).toNatClampNeg) := inb_of s234 ⟨by decide, by decide⟩
    have hat234 : c234.slots[((2 : Int32)).toNatClampNeg]? = some (.long q2_) := Has.at y234 hin234 rfl
    obtain ⟨c235, r235, q235, s235, z235, y235, G235⟩ := id f233
    have hin235 : ¬ ((2 : Int32) < 0 ∨ c235.slots.size ≤ ((2 : Int32)).toNatClampNeg) := inb_of s235 ⟨by decide, by decide⟩
    obtain ⟨T235, h235, X235, e235, W235, st235⟩ := stJ X231 hx hZ e231 r235 (j := (2 : Int32)) hin235 (g := (mkF m 136 #[.val (.long q0_), .second, .val (.long q1_), .second, .val (.long q2_), .second, .val (.int p3_), .val (.int p4_), .val (.int (3 : Int32)), .val (.ref b195), .val (.ref nb1_208), .unset] [(.long (q2_ ^^^ (-1 : Int64))), (.int (2 : Int32)), (.ref b195)])) rfl rfl (hb hby at_136)
    have N236 := Fr.snoc X235 N232 ge196
    have f237 : Arv Z h235 b195 k195 .long (3 : Int32) [(.long (q0_ ^^^ (-1 : Int64))), (.long (q1_ ^^^ (-1 : Int64))), (.long (q2_ ^^^ (-1 : Int64)))] (.long (0 : Int64)) := Arv.set r235 q235 s235 z235 y235 G235 rfl W235 2 rfl (Nat.le_of_ble_eq_true rfl)
    have f239 : Exa Z h227 nb1_208 "com/example/latchkey/latchkey/LockTokens" := g208_0.wr W227
    have f240 : Exa Z h231 nb1_208 "com/example/latchkey/latchkey/LockTokens" := f239.wr W231
    have f241 : Exa Z h235 nb1_208 "com/example/latchkey/latchkey/LockTokens" := f240.wr W235
    have ne243 : b195 ≠ nb1_208 := Nat.ne_of_lt (Nat.lt_of_lt_of_le f207.lt sznb1_208)
    have f242 : Fld Z h227 nb1_208 "com/example/latchkey/latchkey/LockTokens" "tokens" "[J" (.ref nb5_208) := g208_1.other W227 (Or.inl (Ne.symm ne243))
    have f244 : Fld Z h231 nb1_208 "com/example/latchkey/latchkey/LockTokens" "tokens" "[J" (.ref nb5_208) := f242.other W231 (Or.inl (Ne.symm ne243))
    have f245 : Fld Z h235 nb1_208 "com/example/latchkey/latchkey/LockTokens" "tokens" "[J" (.ref nb5_208) := f244.other W235 (Or.inl (Ne.symm ne243))
    have ne247 : b195 ≠ nb5_208 := Nat.ne_of_lt (Nat.lt_of_lt_of_le f207.lt sznb5_208)
    have f246 : Arv Z h227 nb5_208 k195 .long (3 : Int32) [(.long q0_), (.long q1_), (.long q2_)] (.long (0 : Int64)) := g208_2.other W227 (Ne.symm ne247)
    have f248 : Arv Z h231 nb5_208 k195 .long (3 : Int32) [(.long q0_), (.long q1_), (.long q2_)] (.long (0 : Int64)) := f246.other W231 (Ne.symm ne247)
    have f249 : Arv Z h235 nb5_208 k195 .long (3 : Int32) [(.long q0_), (.long q1_), (.long q2_)] (.long (0 : Int64)) := f248.other W235 (Ne.symm ne247)
    have f250 : Exa Z h227 nb5_208 "[J" := g208_3.wr W227
    have f251 : Exa Z h231 nb5_208 "[J" := f250.wr W231
    have f252 : Exa Z h235 nb5_208 "[J" := f251.wr W235
    have f253 : Old Z n0 h208 := f215.keep K208 all0
    have f254 : Old Z n0 h227 := f253.wr W227 ge196
    have f255 : Old Z n0 h231 := f254.wr W231 ge196
    have f256 : Old Z n0 h235 := f255.wr W235 ge196
    obtain ⟨cq238, kq238, q238a, q238b, q238c⟩ := isOf hZ e235 f241
    obtain ⟨_, _, ⟨T238, L238, k238, n238⟩, -, X238, ⟨Lc238, hQ238, l238, y238, z238⟩, st238⟩ := X235.virtualBack hx (y := (⟨"com/example/latchkey/latchkey/LockTokens", "get", "(I)J"⟩ : MethodName)) (z := (⟨"com/example/latchkey/latchkey/LockTokens", "get", "(I)J"⟩ : MethodName)) hown (mvT hZ (hw _ (List.mem_of_getElem? (i := 26) rfl))) (mvT hZ (hw _ (List.mem_of_getElem? (i := 27) rfl))) (notFace_of_selects (args := #[]) (mvT hZ (hw _ (List.mem_of_getElem? (i := 29) rfl)))) (mvT hZ (hw _ (List.mem_of_getElem? (i := 29) rfl))) (mvT hZ (hw _ (List.mem_of_getElem? (i := 28) rfl))) (by decide) (backOf (W := 0) (rmget39 l Z a0 hw [] nb1_208 nb5_208 k195 q0_ q1_ q2_ h235 n0 f256 f241 f245 f249 f252) hZ (hw _ (List.mem_of_getElem? (i := 30) rfl)) (hw _ (List.mem_of_getElem? (i := 3) rfl)) (by decide) (by decide)) q238a q238c (g := (mkF m 147 #[.val (.long q0_), .second, .val (.long q1_), .second, .val (.long q2_), .second, .val (.int p3_), .val (.int p4_), .val (.int (3 : Int32)), .val (.ref b195), .val (.ref nb1_208), .val (.int (p4_ &&& (2147483647 : Int32)))] [(.int (0 : Int32)), (.ref nb1_208)])) rfl (by rw [hml]; rfl) (Steps.refl _) (argsL := [(.int (0 : Int32))]) (rest := []) (lenOf pd_2 rfl) rfl (by show 2 * 0 + _ ≤ _; exact Nat.le_of_eq rfl) (hb hby at_147) (fun _ _ => ⟨rfl, e235, (by decide : 3 + 0 ≤ _), (by decide : 7 + 0 ≤ _)⟩)
    dsimp only [Pt.U, Pt.locs, Pt.cells, Pt.slots] at X238 l238 y238 z238 st238 hQ238
    subst l238 y238 z238
    obtain ⟨h238, e238⟩ : ∃ z, T238.heap = z := ⟨_, rfl⟩
    rw [e238] at hQ238
    obtain ⟨rfl, N238q, hh238⟩ := hQ238
    have N257 := Fr.app N236 N238q
    have e238' : T238.heap = h235 := e238.trans hh238
    obtain ⟨_, _, ⟨T258, L258, k258, n258⟩, -, X258, ⟨Lc258, hQ258, l258, y258, z258⟩, st258⟩ := Jvm.LawKit.callS X238 hx (y := (⟨"com/example/latchkey/latchkey/LockTokensOfPinLaw", "expected", "(IIJJJ)J"⟩ : MethodName)) hown (mvT hZ (hw _ (List.mem_of_getElem? (i := 31) rfl))) (mvT hZ (hw _ (List.mem_of_getElem? (i := 32) rfl))) (mvT hZ (hw _ (List.mem_of_getElem? (i := 33) rfl))) (mvT hZ (hw _ (List.mem_of_getElem? (i := 34) rfl))) (by decide) (backOf (W := 2) (rmexpected40 l Z a0 hw [] q0_ q1_ q2_ h235 n0 f256 ) hZ (hw _ (List.mem_of_getElem? (i := 34) rfl)) (hw _ (List.mem_of_getElem? (i := 33) rfl)) (by decide) (by decide)) (g := (mkF m 157 #[.val (.long q0_), .second, .val (.long q1_), .second, .val (.long q2_), .second, .val (.int p3_), .val (.int p4_), .val (.int (3 : Int32)), .val (.ref b195), .val (.ref nb1_208), .val (.int (p4_ &&& (2147483647 : Int32)))] [(.long q2_), (.long q1_), (.long q0_), (.int (3 : Int32)), (.int (0 : Int32)), (.long q0_)])) rfl (by rw [hml]; rfl) (argsL := [(.int (0 : Int32)), (.int (3 : Int32)), (.long q0_), (.long q1_), (.long q2_)]) (rest := [(.long q0_)]) (lenOf pd_3 rfl) rfl (by show 2 * 0 + _ ≤ _; exact Nat.le_of_eq rfl) (hb hby at_157) (fun _ _ => ⟨rfl, e238', (by decide : 3 + 0 ≤ _), (by decide : 7 + 0 ≤ _)⟩)
    dsimp only [Pt.U, Pt.locs, Pt.cells, Pt.slots] at X258 l258 y258 z258 st258 hQ258
    subst l258 y258 z258
    obtain ⟨h258, e258⟩ : ∃ z, T258.heap = z := ⟨_, rfl⟩
    rw [e258] at hQ258
    obtain ⟨rfl, N258q, hh258⟩ := hQ258
    have N259 := Fr.app N257 N258q
    have e258' : T258.heap = h235 := e258.trans hh258
    obtain ⟨cq260, kq260, q260a, q260b, q260c⟩ := isOf hZ e258' f241
    obtain ⟨_, _, ⟨T260, L260, k260, n260⟩, -, X260, ⟨Lc260, hQ260, l260, y260, z260⟩, st260⟩ := X258.virtualBack hx (y := (⟨"com/example/latchkey/latchkey/LockTokens", "get", "(I)J"⟩ : MethodName)) (z := (⟨"com/example/latchkey/latchkey/LockTokens", "get", "(I)J"⟩ : MethodName)) hown (mvT hZ (hw _ (List.mem_of_getElem? (i := 26) rfl))) (mvT hZ (hw _ (List.mem_of_getElem? (i := 27) rfl))) (notFace_of_selects (args := #[]) (mvT hZ (hw _ (List.mem_of_getElem? (i := 29) rfl)))) (mvT hZ (hw _ (List.mem_of_getElem? (i := 29) rfl))) (mvT hZ (hw _ (List.mem_of_getElem? (i := 28) rfl))) (by decide) (backOf (W := 0) (rmget41 l Z a0 hw [] nb1_208 nb5_208 k195 q0_ q1_ q2_ h235 n0 f256 f241 f245 f249 f252) hZ (hw _ (List.mem_of_getElem? (i := 30) rfl)) (hw _ (List.mem_of_getElem? (i := 3) rfl)) (by decide) (by decide)) q260a q260c (g := (mkF m 167 #[.val (.long q0_), .second, .val (.long q1_), .second, .val (.long q2_), .second, .val (.int p3_), .val (.int p4_), .val (.int (3 : Int32)), .val (.ref b195), .val (.ref nb1_208), .val (.int (p4_ &&& (2147483647 : Int32)))] [(.int (1 : Int32)), (.ref nb1_208)])) rfl (by rw [hml]; rfl) (Steps.refl _) (argsL := [(.int (1 : Int32))]) (rest := []) (lenOf pd_2 rfl) rfl (by show 2 * 0 + _ ≤ _; exact Nat.le_of_eq rfl) (hb hby at_167) (fun _ _ => ⟨rfl, e258', (by decide : 3 + 0 ≤ _), (by decide : 7 + 0 ≤ _)⟩)
    dsimp only [Pt.U, Pt.locs, Pt.cells, Pt.slots] at X260 l260 y260 z260 st260 hQ260
    subst l260 y260 z260
    obtain ⟨h260, e260⟩ : ∃ z, T260.heap = z := ⟨_, rfl⟩
    rw [e260] at hQ260
    obtain ⟨rfl, N260q, hh260⟩ := hQ260
    have N261 := Fr.app N259 N260q
    have e260' : T260.heap = h235 := e260.trans hh260
    obtain ⟨_, _, ⟨T262, L262, k262, n262⟩, -, X262, ⟨Lc262, hQ262, l262, y262, z262⟩, st262⟩ := Jvm.LawKit.callS X260 hx (y := (⟨"com/example/latchkey/latchkey/LockTokensOfPinLaw", "expected", "(IIJJJ)J"⟩ : MethodName)) hown (mvT hZ (hw _ (List.mem_of_getElem? (i := 31) rfl))) (mvT hZ (hw _ (List.mem_of_getElem? (i := 32) rfl))) (mvT hZ (hw _ (List.mem_of_getElem? (i := 33) rfl))) (mvT hZ (hw _ (List.mem_of_getElem? (i := 34) rfl))) (by decide) (backOf (W := 2) (rmexpected42 l Z a0 hw [] q0_ q1_ q2_ h235 n0 f256 ) hZ (hw _ (List.mem_of_getElem? (i := 34) rfl)) (hw _ (List.mem_of_getElem? (i := 33) rfl)) (by decide) (by decide)) (g := (mkF m 177 #[.val (.long q0_), .second, .val (.long q1_), .second, .val (.long q2_), .second, .val (.int p3_), .val (.int p4_), .val (.int (3 : Int32)), .val (.ref b195), .val (.ref nb1_208), .val (.int (p4_ &&& (2147483647 : Int32)))] [(.long q2_), (.long q1_), (.long q0_), (.int (3 : Int32)), (.int (1 : Int32)), (.long q1_)])) rfl (by rw [hml]; rfl) (argsL := [(.int (1 : Int32)), (.int (3 : Int32)), (.long q0_), (.long q1_), (.long q2_)]) (rest := [(.long q1_)]) (lenOf pd_3 rfl) rfl (by show 2 * 0 + _ ≤ _; exact Nat.le_of_eq rfl) (hb hby at_177) (fun _ _ => ⟨rfl, e260', (by decide : 3 + 0 ≤ _), (by decide : 7 + 0 ≤ _)⟩)
    dsimp only [Pt.U, Pt.locs, Pt.cells, Pt.slots] at X262 l262 y262 z262 st262 hQ262
    subst l262 y262 z262
    obtain ⟨h262, e262⟩ : ∃ z, T262.heap = z := ⟨_, rfl⟩
    rw [e262] at hQ262
    obtain ⟨rfl, N262q, hh262⟩ := hQ262
    have N263 := Fr.app N261 N262q
    have e262' : T262.heap = h235 := e262.trans hh262
    obtain ⟨cq264, kq264, q264a, q264b, q264c⟩ := isOf hZ e262' f241
    obtain ⟨_, _, ⟨T264, L264, k264, n264⟩, -, X264, ⟨Lc264, hQ264, l264, y264, z264⟩, st264⟩ := X262.virtualBack hx (y := (⟨"com/example/latchkey/latchkey/LockTokens", "get", "(I)J"⟩ : MethodName)) (z := (⟨"com/example/latchkey/latchkey/LockTokens", "get", "(I)J"⟩ : MethodName)) hown (mvT hZ (hw _ (List.mem_of_getElem? (i := 26) rfl))) (mvT hZ (hw _ (List.mem_of_getElem? (i := 27) rfl))) (notFace_of_selects (args := #[]) (mvT hZ (hw _ (List.mem_of_getElem? (i := 29) rfl)))) (mvT hZ (hw _ (List.mem_of_getElem? (i := 29) rfl))) (mvT hZ (hw _ (List.mem_of_getElem? (i := 28) rfl))) (by decide) (backOf (W := 0) (rmget43 l Z a0 hw [] nb1_208 nb5_208 k195 q0_ q1_ q2_ h235 n0 f256 f241 f245 f249 f252) hZ (hw _ (List.mem_of_getElem? (i := 30) rfl)) (hw _ (List.mem_of_getElem? (i := 3) rfl)) (by decide) (by decide)) q264a q264c (g := (mkF m 187 #[.val (.long q0_), .second, .val (.long q1_), .second, .val (.long q2_), .second, .val (.int p3_), .val (.int p4_), .val (.int (3 : Int32)), .val (.ref b195), .val (.ref nb1_208), .val (.int (p4_ &&& (2147483647 : Int32)))] [(.int (2 : Int32)), (.ref nb1_208)])) rfl (by rw [hml]; rfl) (Steps.refl _) (argsL := [(.int (2 : Int32))]) (rest := []) (lenOf pd_2 rfl) rfl (by show 2 * 0 + _ ≤ _; exact Nat.le_of_eq rfl) (hb hby at_187) (fun _ _ => ⟨rfl, e262', (by decide : 3 + 0 ≤ _), (by decide : 7 + 0 ≤ _)⟩)
    dsimp only [Pt.U, Pt.locs, Pt.cells, Pt.slots] at X264 l264 y264 z264 st264 hQ264
    subst l264 y264 z264
    obtain ⟨h264, e264⟩ : ∃ z, T264.heap = z := ⟨_, rfl⟩
    rw [e264] at hQ264
    obtain ⟨rfl, N264q, hh264⟩ := hQ264
    have N265 := Fr.app N263 N264q
    have e264' : T264.heap = h235 := e264.trans hh264
    obtain ⟨_, _, ⟨T266, L266, k266, n266⟩, -, X266, ⟨Lc266, hQ266, l266, y266, z266⟩, st266⟩ := Jvm.LawKit.callS X264 hx (y := (⟨"com/example/latchkey/latchkey/LockTokensOfPinLaw", "expected", "(IIJJJ)J"⟩ : MethodName)) hown (mvT hZ (hw _ (List.mem_of_getElem? (i := 31) rfl))) (mvT hZ (hw _ (List.mem_of_getElem? (i := 32) rfl))) (mvT hZ (hw _ (List.mem_of_getElem? (i := 33) rfl))) (mvT hZ (hw _ (List.mem_of_getElem? (i := 34) rfl))) (by decide) (backOf (W := 2) (rmexpected44 l Z a0 hw [] q0_ q1_ q2_ h235 n0 f256 ) hZ (hw _ (List.mem_of_getElem? (i := 34) rfl)) (hw _ (List.mem_of_getElem? (i := 33) rfl)) (by decide) (by decide)) (g := (mkF m 197 #[.val (.long q0_), .second, .val (.long q1_), .second, .val (.long q2_), .second, .val (.int p3_), .val (.int p4_), .val (.int (3 : Int32)), .val (.ref b195), .val (.ref nb1_208), .val (.int (p4_ &&& (2147483647 : Int32)))] [(.long q2_), (.long q1_), (.long q0_), (.int (3 : Int32)), (.int (2 : Int32)), (.long q2_)])) rfl (by rw [hml]; rfl) (argsL := [(.int (2 : Int32)), (.int (3 : Int32)), (.long q0_), (.long q1_), (.long q2_)]) (rest := [(.long q2_)]) (lenOf pd_3 rfl) rfl (by show 2 * 0 + _ ≤ _; exact Nat.le_of_eq rfl) (hb hby at_197) (fun _ _ => ⟨rfl, e264', (by decide : 3 + 0 ≤ _), (by decide : 7 + 0 ≤ _)⟩)
    dsimp only [Pt.U, Pt.locs, Pt.cells, Pt.slots] at X266 l266 y266 z266 st266 hQ266
    subst l266 y266 z266
    obtain ⟨h266, e266⟩ : ∃ z, T266.heap = z := ⟨_, rfl⟩
    rw [e266] at hQ266
    obtain ⟨rfl, N266q, hh266⟩ := hQ266
    have N267 := Fr.app N265 N266q
    have e266' : T266.heap = h235 := e266.trans hh266
    obtain ⟨cq268, kq268, q268a, q268b, q268c⟩ := isOf hZ e266' f241
    obtain ⟨_, _, ⟨T268, L268, k268, n268⟩, -, X268, ⟨Lc268, hQ268, l268, y268, z268⟩, st268⟩ := X266.virtualBack hx (y := (⟨"com/example/latchkey/latchkey/LockTokens", "get", "(I)J"⟩ : MethodName)) (z := (⟨"com/example/latchkey/latchkey/LockTokens", "get", "(I)J"⟩ : MethodName)) hown (mvT hZ (hw _ (List.mem_of_getElem? (i := 26) rfl))) (mvT hZ (hw _ (List.mem_of_getElem? (i := 27) rfl))) (notFace_of_selects (args := #[]) (mvT hZ (hw _ (List.mem_of_getElem? (i := 29) rfl)))) (mvT hZ (hw _ (List.mem_of_getElem? (i := 29) rfl))) (mvT hZ (hw _ (List.mem_of_getElem? (i := 28) rfl))) (by decide) (backOf (W := 0) (rmget45 l Z a0 hw [] nb1_208 nb5_208 k195 q0_ q1_ q2_ h235 n0 f256 f241 f245 f249 f252) hZ (hw _ (List.mem_of_getElem? (i := 30) rfl)) (hw _ (List.mem_of_getElem? (i := 3) rfl)) (by decide) (by decide)) q268a q268c (g := (mkF m 207 #[.val (.long q0_), .second, .val (.long q1_), .second, .val (.long q2_), .second, .val (.int p3_), .val (.int p4_), .val (.int (3 : Int32)), .val (.ref b195), .val (.ref nb1_208), .val (.int (p4_ &&& (2147483647 : Int32)))] [(.int (3 : Int32)), (.ref nb1_208)])) rfl (by rw [hml]; rfl) (Steps.refl _) (argsL := [(.int (3 : Int32))]) (rest := []) (lenOf pd_2 rfl) rfl (by show 2 * 0 + _ ≤ _; exact Nat.le_of_eq rfl) (hb hby at_207) (fun _ _ => ⟨rfl, e266', (by decide : 3 + 0 ≤ _), (by decide : 7 + 0 ≤ _)⟩)
    dsimp only [Pt.U, Pt.locs, Pt.cells, Pt.slots] at X268 l268 y268 z268 st268 hQ268
    subst l268 y268 z268
    obtain ⟨h268, e268⟩ : ∃ z, T268.heap = z := ⟨_, rfl⟩
    rw [e268] at hQ268
    obtain ⟨rfl, N268q, hh268⟩ := hQ268
    have N269 := Fr.app N267 N268q
    have e268' : T268.heap = h235 := e268.trans hh268
    obtain ⟨_, _, ⟨T270, L270, k270, n270⟩, -, X270, ⟨Lc270, hQ270, l270, y270, z270⟩, st270⟩ := Jvm.LawKit.callS X268 hx (y := (⟨"com/example/latchkey/latchkey/LockTokensOfPinLaw", "expected", "(IIJJJ)J"⟩ : MethodName)) hown (mvT hZ (hw _ (List.mem_of_getElem? (i := 31) rfl))) (mvT hZ (hw _ (List.mem_of_getElem? (i := 32) rfl))) (mvT hZ (hw _ (List.mem_of_getElem? (i := 33) rfl))) (mvT hZ (hw _ (List.mem_of_getElem? (i := 34) rfl))) (by decide) (backOf (W := 2) (rmexpected46 l Z a0 hw [] q0_ q1_ q2_ h235 n0 f256 ) hZ (hw _ (List.mem_of_getElem? (i := 34) rfl)) (hw _ (List.mem_of_getElem? (i := 33) rfl)) (by decide) (by decide)) (g := (mkF m 217 #[.val (.long q0_), .second, .val (.long q1_), .second, .val (.long q2_), .second, .val (.int p3_), .val (.int p4_), .val (.int (3 : Int32)), .val (.ref b195), .val (.ref nb1_208), .val (.int (p4_ &&& (2147483647 : Int32)))] [(.long q2_), (.long q1_), (.long q0_), (.int (3 : Int32)), (.int (3 : Int32)), (.long (0 : Int64))])) rfl (by rw [hml]; rfl) (argsL := [(.int (3 : Int32)), (.int (3 : Int32)), (.long q0_), (.long q1_), (.long q2_)]) (rest := [(.long (0 : Int64))]) (lenOf pd_3 rfl) rfl (by show 2 * 0 + _ ≤ _; exact Nat.le_of_eq rfl) (hb hby at_217) (fun _ _ => ⟨rfl, e268', (by decide : 3 + 0 ≤ _), (by decide : 7 + 0 ≤ _)⟩)
    dsimp only [Pt.U, Pt.locs, Pt.cells, Pt.slots] at X270 l270 y270 z270 st270 hQ270
    subst l270 y270 z270
    obtain ⟨h270, e270⟩ : ∃ z, T270.heap = z := ⟨_, rfl⟩
    rw [e270] at hQ270
    obtain ⟨rfl, N270q, hh270⟩ := hQ270
    have N271 := Fr.app N269 N270q
    have e270' : T270.heap = h235 := e270.trans hh270
    have hn272 : ¬ ((p4_ &&& (2147483647 : Int32)) < (0 : Int32)) := own_node _
    have pre273 : ∀ t, Steps p.tables e below (T270.setTop (mkF m 224 #[.val (.long q0_), .second, .val (.long q1_), .second, .val (.long q2_), .second, .val (.int p3_), .val (.int p4_), .val (.int (3 : Int32)), .val (.ref b195), .val (.ref nb1_208), .val (.int (p4_ &&& (2147483647 : Int32)))] [])) t → Steps p.tables e below (s₁.setTop (entryFrame m #[(.long q0_), (.long q1_), (.long q2_), (.int p3_), (.int p4_)] maxLocals)) t := by
      intro t kt
      refine pre194 t ?_
      show Steps p.tables e below (s₁.setTop (mkF m 6 #[.val (.long q0_), .second, .val (.long q1_), .second, .val (.long q2_), .second, .val (.int p3_), .val (.int p4_), .val (.int (3 : Int32)), .unset, .unset, .unset] [])) _
      refine XS.iload X0.here hx rfl (hb hby at_6) rfl ?_
      show Steps p.tables e below (s₁.setTop (mkF m 8 #[.val (.long q0_), .second, .val (.long q1_), .second, .val (.long q2_), .second, .val (.int p3_), .val (.int p4_), .val (.int (3 : Int32)), .unset, .unset, .unset] [(.int (3 : Int32))])) _
      refine XS.ifYes X0.here hx rfl (pc0 := 8) (pc' := 19) rfl (hb hby at_8) rfl ((if0 _ _).trans (feq (by decide : ¬ ((3 : Int32) = (0 : Int32)))).2) (by decide) (by decide) ?_
      show Steps p.tables e below (s₁.setTop (mkF m 19 #[.val (.long q0_), .second, .val (.long q1_), .second, .val (.long q2_), .second, .val (.int p3_), .val (.int p4_), .val (.int (3 : Int32)), .unset, .unset, .unset] [])) _
      refine XS.iload X0.here hx rfl (hb hby at_19) rfl ?_
      show Steps p.tables e below (s₁.setTop (mkF m 21 #[.val (.long q0_), .second, .val (.long q1_), .second, .val (.long q2_), .second, .val (.int p3_), .val (.int p4_), .val (.int (3 : Int32)), .unset, .unset, .unset] [(.int (3 : Int32))])) _
      refine XS.iconst X0.here hx rfl (hb hby at_21) ?_
      show Steps p.tables e below (s₁.setTop (mkF m 22 #[.val (.long q0_), .second, .val (.long q1_), .second, .val (.long q2_), .second, .val (.int p3_), .val (.int p4_), .val (.int (3 : Int32)), .unset, .unset, .unset] [(.int (1 : Int32)), (.int (3 : Int32))])) _
      refine XS.icmpYes X0.here hx rfl (pc0 := 22) (pc' := 37) rfl (hb hby at_22) rfl (feq (by decide : ¬ ((3 : Int32) = (1 : Int32)))).2 (by decide) (by decide) ?_
      show Steps p.tables e below (s₁.setTop (mkF m 37 #[.val (.long q0_), .second, .val (.long q1_), .second, .val (.long q2_), .second, .val (.int p3_), .val (.int p4_), .val (.int (3 : Int32)), .unset, .unset, .unset] [])) _
      refine XS.iload X0.here hx rfl (hb hby at_37) rfl ?_
      show Steps p.tables e below (s₁.setTop (mkF m 39 #[.val (.long q0_), .second, .val (.long q1_), .second, .val (.long q2_), .second, .val (.int p3_), .val (.int p4_), .val (.int (3 : Int32)), .unset, .unset, .unset] [(.int (3 : Int32))])) _
      refine XS.iconst X0.here hx rfl (hb hby at_39) ?_
      show Steps p.tables e below (s₁.setTop (mkF m 40 #[.val (.long q0_), .second, .val (.long q1_), .second, .val (.long q2_), .second, .val (.int p3_), .val (.int p4_), .val (.int (3 : Int32)), .unset, .unset, .unset] [(.int (2 : Int32)), (.int (3 : Int32))])) _
      refine XS.icmpYes X0.here hx rfl (pc0 := 40) (pc' := 59) rfl (hb hby at_40) rfl (feq (by decide : ¬ ((3 : Int32) = (2 : Int32)))).2 (by decide) (by decide) ?_
      show Steps p.tables e below (s₁.setTop (mkF m 59 #[.val (.long q0_), .second, .val (.long q1_), .second, .val (.long q2_), .second, .val (.int p3_), .val (.int p4_), .val (.int (3 : Int32)), .unset, .unset, .unset] [])) _
      refine XS.iconst X0.here hx rfl (hb hby at_59) ?_
      show Steps p.tables e below (s₁.setTop (mkF m 60 #[.val (.long q0_), .second, .val (.long q1_), .second, .val (.long q2_), .second, .val (.int p3_), .val (.int p4_), .val (.int (3 : Int32)), .unset, .unset, .unset] [(.int (3 : Int32))])) _
      refine st195 _ ?_
      show Steps p.tables e below (T195.setTop (mkF m 62 #[.val (.long q0_), .second, .val (.long q1_), .second, .val (.long q2_), .second, .val (.int p3_), .val (.int p4_), .val (.int (3 : Int32)), .unset, .unset, .unset] [(.ref b195)])) _
      refine XS.dup X195.here hx rfl (hb hby at_62) rfl rfl ?_
      show Steps p.tables e below (T195.setTop (mkF m 63 #[.val (.long q0_), .second, .val (.long q1_), .second, .val (.long q2_), .second, .val (.int p3_), .val (.int p4_), .val (.int (3 : Int32)), .unset, .unset, .unset] [(.ref b195), (.ref b195)])) _
      refine XS.iconst X195.here hx rfl (hb hby at_63) ?_
      show Steps p.tables e below (T195.setTop (mkF m 64 #[.val (.long q0_), .second, .val (.long q1_), .second, .val (.long q2_), .second, .val (.int p3_), .val (.int p4_), .val (.int (3 : Int32)), .unset, .unset, .unset] [(.int (0 : Int32)), (.ref b195), (.ref b195)])) _
      refine XS.lloadN X195.here hx rfl (hb hby at_64) rfl ?_
      show Steps p.tables e below (T195.setTop (mkF m 65 #[.val (.long q0_), .second, .val (.long q1_), .second, .val (.long q2_), .second, .val (.int p3_), .val (.int p4_), .val (.int (3 : Int32)), .unset, .unset, .unset] [(.long q0_), (.int (0 : Int32)), (.ref b195), (.ref b195)])) _
      refine st199 _ ?_
      show Steps p.tables e below (T199.setTop (mkF m 66 #[.val (.long q0_), .second, .val (.long q1_), .second, .val (.long q2_), .second, .val (.int p3_), .val (.int p4_), .val (.int (3 : Int32)), .unset, .unset, .unset] [(.ref b195)])) _
      refine XS.dup X199.here hx rfl (hb hby at_66) rfl rfl ?_
      show Steps p.tables e below (T199.setTop (mkF m 67 #[.val (.long q0_), .second, .val (.long q1_), .second, .val (.long q2_), .second, .val (.int p3_), .val (.int p4_), .val (.int (3 : Int32)), .unset, .unset, .unset] [(.ref b195), (.ref b195)])) _
      refine XS.iconst X199.here hx rfl (hb hby at_67) ?_
      show Steps p.tables e below (T199.setTop (mkF m 68 #[.val (.long q0_), .second, .val (.long q1_), .second, .val (.long q2_), .second, .val (.int p3_), .val (.int p4_), .val (.int (3 : Int32)), .unset, .unset, .unset] [(.int (1 : Int32)), (.ref b195), (.ref b195)])) _
      refine XS.lloadN X199.here hx rfl (hb hby at_68) rfl ?_
      show Steps p.tables e below (T199.setTop (mkF m 69 #[.val (.long q0_), .second, .val (.long q1_), .second, .val (.long q2_), .second, .val (.int p3_), .val (.int p4_), .val (.int (3 : Int32)), .unset, .unset, .unset] [(.long q1_), (.int (1 : Int32)), (.ref b195), (.ref b195)])) _
      refine st202 _ ?_
      show Steps p.tables e below (T202.setTop (mkF m 70 #[.val (.long q0_), .second, .val (.long q1_), .second, .val (.long q2_), .second, .val (.int p3_), .val (.int p4_), .val (.int (3 : Int32)), .unset, .unset, .unset] [(.ref b195)])) _
      refine XS.dup X202.here hx rfl (hb hby at_70) rfl rfl ?_
      show Steps p.tables e below (T202.setTop (mkF m 71 #[.val (.long q0_), .second, .val (.long q1_), .second, .val (.long q2_), .second, .val (.int p3_), .val (.int p4_), .val (.int (3 : Int32)), .unset, .unset, .unset] [(.ref b195), (.ref b195)])) _
      refine XS.iconst X202.here hx rfl (hb hby at_71) ?_
      show Steps p.tables e below (T202.setTop (mkF m 72 #[.val (.long q0_), .second, .val (.long q1_), .second, .val (.long q2_), .second, .val (.int p3_), .val (.int p4_), .val (.int (3 : Int32)), .unset, .unset, .unset] [(.int (2 : Int32)), (.ref b195), (.ref b195)])) _
      refine XS.lload X202.here hx rfl (hb hby at_72) rfl ?_
      show Steps p.tables e below (T202.setTop (mkF m 74 #[.val (.long q0_), .second, .val (.long q1_), .second, .val (.long q2_), .second, .val (.int p3_), .val (.int p4_), .val (.int (3 : Int32)), .unset, .unset, .unset] [(.long q2_), (.int (2 : Int32)), (.ref b195), (.ref b195)])) _
      refine st205 _ ?_
      show Steps p.tables e below (T205.setTop (mkF m 75 #[.val (.long q0_), .second, .val (.long q1_), .second, .val (.long q2_), .second, .val (.int p3_), .val (.int p4_), .val (.int (3 : Int32)), .unset, .unset, .unset] [(.ref b195)])) _
      refine XS.astore X205.here hx rfl (hb hby at_75) rfl rfl (l' := #[.val (.long q0_), .second, .val (.long q1_), .second, .val (.long q2_), .second, .val (.int p3_), .val (.int p4_), .val (.int (3 : Int32)), .val (.ref b195), .unset, .unset]) rfl ?_
      show Steps p.tables e below (T205.setTop (mkF m 77 #[.val (.long q0_), .second, .val (.long q1_), .second, .val (.long q2_), .second, .val (.int p3_), .val (.int p4_), .val (.int (3 : Int32)), .val (.ref b195), .unset, .unset] [])) _
      refine XS.aload X205.here hx rfl (hb hby at_77) rfl rfl ?_
      show Steps p.tables e below (T205.setTop (mkF m 79 #[.val (.long q0_), .second, .val (.long q1_), .second, .val (.long q2_), .second, .val (.int p3_), .val (.int p4_), .val (.int (3 : Int32)), .val (.ref b195), .unset, .unset] [(.ref b195)])) _
      refine st208 _ ?_
      show Steps p.tables e below (T208.setTop (mkF m 82 #[.val (.long q0_), .second, .val (.long q1_), .second, .val (.long q2_), .second, .val (.int p3_), .val (.int p4_), .val (.int (3 : Int32)), .val (.ref b195), .unset, .unset] [(.ref nb1_208)])) _
      refine XS.astore X208.here hx rfl (hb hby at_82) rfl rfl (l' := #[.val (.long q0_), .second, .val (.long q1_), .second, .val (.long q2_), .second, .val (.int p3_), .val (.int p4_), .val (.int (3 : Int32)), .val (.ref b195), .val (.ref nb1_208), .unset]) rfl ?_
      show Steps p.tables e below (T208.setTop (mkF m 84 #[.val (.long q0_), .second, .val (.long q1_), .second, .val (.long q2_), .second, .val (.int p3_), .val (.int p4_), .val (.int (3 : Int32)), .val (.ref b195), .val (.ref nb1_208), .unset] [])) _
      refine XS.iload X208.here hx rfl (hb hby at_84) rfl ?_
      show Steps p.tables e below (T208.setTop (mkF m 86 #[.val (.long q0_), .second, .val (.long q1_), .second, .val (.long q2_), .second, .val (.int p3_), .val (.int p4_), .val (.int (3 : Int32)), .val (.ref b195), .val (.ref nb1_208), .unset] [(.int (3 : Int32))])) _
      refine XS.ifNo X208.here hx rfl (hb hby at_86) rfl ((if0 _ _).trans (tlt (by decide : (0 : Int32) < (3 : Int32))).2.2.2) ?_
      show Steps p.tables e below (T208.setTop (mkF m 89 #[.val (.long q0_), .second, .val (.long q1_), .second, .val (.long q2_), .second, .val (.int p3_), .val (.int p4_), .val (.int (3 : Int32)), .val (.ref b195), .val (.ref nb1_208), .unset] [])) _
      refine XS.aload X208.here hx rfl (hb hby at_89) rfl rfl ?_
      show Steps p.tables e below (T208.setTop (mkF m 91 #[.val (.long q0_), .second, .val (.long q1_), .second, .val (.long q2_), .second, .val (.int p3_), .val (.int p4_), .val (.int (3 : Int32)), .val (.ref b195), .val (.ref nb1_208), .unset] [(.ref b195)])) _
      refine XS.iconst X208.here hx rfl (hb hby at_91) ?_
      show Steps p.tables e below (T208.setTop (mkF m 92 #[.val (.long q0_), .second, .val (.long q1_), .second, .val (.long q2_), .second, .val (.int p3_), .val (.int p4_), .val (.int (3 : Int32)), .val (.ref b195), .val (.ref nb1_208), .unset] [(.int (0 : Int32)), (.ref b195)])) _
      refine XS.aload X208.here hx rfl (hb hby at_92) rfl rfl ?_
      show Steps p.tables e below (T208.setTop (mkF m 94 #[.val (.long q0_), .second, .val (.long q1_), .second, .val (.long q2_), .second, .val (.int p3_), .val (.int p4_), .val (.int (3 : Int32)), .val (.ref b195), .val (.ref nb1_208), .unset] [(.ref b195), (.int (0 : Int32)), (.ref b195)])) _
      refine XS.iconst X208.here hx rfl (hb hby at_94) ?_
      show Steps p.tables e below (T208.setTop (mkF m 95 #[.val (.long q0_), .second, .val (.long q1_), .second, .val (.long q2_), .second, .val (.int p3_), .val (.int p4_), .val (.int (3 : Int32)), .val (.ref b195), .val (.ref nb1_208), .unset] [(.int (0 : Int32)), (.ref b195), (.int (0 : Int32)), (.ref b195)])) _
      refine X208.laload hx (j := (0 : Int32)) (v := (.long q0_)) (by rw [e208]; exact r226.1) (State.isArrayOf_alike hZ.alike r226.2.1) r226.2.2 hin226 hat226 (g := (mkF m 95 #[.val (.long q0_), .second, .val (.long q1_), .second, .val (.long q2_), .second, .val (.int p3_), .val (.int p4_), .val (.int (3 : Int32)), .val (.ref b195), .val (.ref nb1_208), .unset] [(.int (0 : Int32)), (.ref b195), (.int (0 : Int32)), (.ref b195)])) rfl rfl (hb hby at_95) _ ?_
      show Steps p.tables e below (T208.setTop (mkF m 96 #[.val (.long q0_), .second, .val (.long q1_), .second, .val (.long q2_), .second, .val (.int p3_), .val (.int p4_), .val (.int (3 : Int32)), .val (.ref b195), .val (.ref nb1_208), .unset] [(.long q0_), (.int (0 : Int32)), (.ref b195)])) _
      refine X208.ldc2Long hx hown (mvT hZ (hw _ (List.mem_of_getElem? (i := 24) rfl))) (g := (mkF m 96 #[.val (.long q0_), .second, .val (.long q1_), .second, .val (.long q2_), .second, .val (.int p3_), .val (.int p4_), .val (.int (3 : Int32)), .val (.ref b195), .val (.ref nb1_208), .unset] [(.long q0_), (.int (0 : Int32)), (.ref b195)])) rfl (hb hby at_96) _ ?_
      show Steps p.tables e below (T208.setTop (mkF m 99 #[.val (.long q0_), .second, .val (.long q1_), .second, .val (.long q2_), .second, .val (.int p3_), .val (.int p4_), .val (.int (3 : Int32)), .val (.ref b195), .val (.ref nb1_208), .unset] [(.long (-1 : Int64)), (.long q0_), (.int (0 : Int32)), (.ref b195)])) _
      refine XS.lxor X208.here hx rfl (hb hby at_99) rfl ?_
      show Steps p.tables e below (T208.setTop (mkF m 100 #[.val (.long q0_), .second, .val (.long q1_), .second, .val (.long q2_), .second, .val (.int p3_), .val (.int p4_), .val (.int (3 : Int32)), .val (.ref b195), .val (.ref nb1_208), .unset] [(.long (q0_ ^^^ (-1 : Int64))), (.int (0 : Int32)), (.ref b195)])) _
      refine st227 _ ?_
      show Steps p.tables e below (T227.setTop (mkF m 101 #[.val (.long q0_), .second, .val (.long q1_), .second, .val (.long q2_), .second, .val (.int p3_), .val (.int p4_), .val (.int (3 : Int32)), .val (.ref b195), .val (.ref nb1_208), .unset] [])) _
      refine XS.iload X227.here hx rfl (hb hby at_101) rfl ?_
      show Steps p.tables e below (T227.setTop (mkF m 103 #[.val (.long q0_), .second, .val (.long q1_), .second, .val (.long q2_), .second, .val (.int p3_), .val (.int p4_), .val (.int (3 : Int32)), .val (.ref b195), .val (.ref nb1_208), .unset] [(.int (3 : Int32))])) _
      refine XS.iconst X227.here hx rfl (hb hby at_103) ?_
      show Steps p.tables e below (T227.setTop (mkF m 104 #[.val (.long q0_), .second, .val (.long q1_), .second, .val (.long q2_), .second, .val (.int p3_), .val (.int p4_), .val (.int (3 : Int32)), .val (.ref b195), .val (.ref nb1_208), .unset] [(.int (1 : Int32)), (.int (3 : Int32))])) _
      refine XS.icmpNo X227.here hx rfl (hb hby at_104) rfl (tlt (by decide : (1 : Int32) < (3 : Int32))).2.2.2 ?_
      show Steps p.tables e below (T227.setTop (mkF m 107 #[.val (.long q0_), .second, .val (.long q1_), .second, .val (.long q2_), .second, .val (.int p3_), .val (.int p4_), .val (.int (3 : Int32)), .val (.ref b195), .val (.ref nb1_208), .unset] [])) _
      refine XS.aload X227.here hx rfl (hb hby at_107) rfl rfl ?_
      show Steps p.tables e below (T227.setTop (mkF m 109 #[.val (.long q0_), .second, .val (.long q1_), .second, .val (.long q2_), .second, .val (.int p3_), .val (.int p4_), .val (.int (3 : Int32)), .val (.ref b195), .val (.ref nb1_208), .unset] [(.ref b195)])) _
      refine XS.iconst X227.here hx rfl (hb hby at_109) ?_
      show Steps p.tables e below (T227.setTop (mkF m 110 #[.val (.long q0_), .second, .val (.long q1_), .second, .val (.long q2_), .second, .val (.int p3_), .val (.int p4_), .val (.int (3 : Int32)), .val (.ref b195), .val (.ref nb1_208), .unset] [(.int (1 : Int32)), (.ref b195)])) _
      refine XS.aload X227.here hx rfl (hb hby at_110) rfl rfl ?_
      show Steps p.tables e below (T227.setTop (mkF m 112 #[.val (.long q0_), .second, .val (.long q1_), .second, .val (.long q2_), .second, .val (.int p3_), .val (.int p4_), .val (.int (3 : Int32)), .val (.ref b195), .val (.ref nb1_208), .unset] [(.ref b195), (.int (1 : Int32)), (.ref b195)])) _
      refine XS.iconst X227.here hx rfl (hb hby at_112) ?_
      show Steps p.tables e below (T227.setTop (mkF m 113 #[.val (.long q0_), .second, .val (.long q1_), .second, .val (.long q2_), .second, .val (.int p3_), .val (.int p4_), .val (.int (3 : Int32)), .val (.ref b195), .val (.ref nb1_208), .unset] [(.int (1 : Int32)), (.ref b195), (.int (1 : Int32)), (.ref b195)])) _
      refine X227.laload hx (j := (1 : Int32)) (v := (.long q1_)) (by rw [e227]; exact r230.1) (State.isArrayOf_alike hZ.alike r230.2.1) r230.2.2 hin230 hat230 (g := (mkF m 113 #[.val (.long q0_), .second, .val (.long q1_), .second, .val (.long q2_), .second, .val (.int p3_), .val (.int p4_), .val (.int (3 : Int32)), .val (.ref b195), .val (.ref nb1_208), .unset] [(.int (1 : Int32)), (.ref b195), (.int (1 : Int32)), (.ref b195)])) rfl rfl (hb hby at_113) _ ?_
      show Steps p.tables e below (T227.setTop (mkF m 114 #[.val (.long q0_), .second, .val (.long q1_), .second, .val (.long q2_), .second, .val (.int p3_), .val (.int p4_), .val (.int (3 : Int32)), .val (.ref b195), .val (.ref nb1_208), .unset] [(.long q1_), (.int (1 : Int32)), (.ref b195)])) _
      refine X227.ldc2Long hx hown (mvT hZ (hw _ (List.mem_of_getElem? (i := 24) rfl))) (g := (mkF m 114 #[.val (.long q0_), .second, .val (.long q1_), .second, .val (.long q2_), .second, .val (.int p3_), .val (.int p4_), .val (.int (3 : Int32)), .val (.ref b195), .val (.ref nb1_208), .unset] [(.long q1_), (.int (1 : Int32)), (.ref b195)])) rfl (hb hby at_114) _ ?_
      show Steps p.tables e below (T227.setTop (mkF m 117 #[.val (.long q0_), .second, .val (.long q1_), .second, .val (.long q2_), .second, .val (.int p3_), .val (.int p4_), .val (.int (3 : Int32)), .val (.ref b195), .val (.ref nb1_208), .unset] [(.long (-1 : Int64)), (.long q1_), (.int (1 : Int32)), (.ref b195)])) _
      refine XS.lxor X227.here hx rfl (hb hby at_117) rfl ?_
      show Steps p.tables e below (T227.setTop (mkF m 118 #[.val (.long q0_), .second, .val (.long q1_), .second, .val (.long q2_), .second, .val (.int p3_), .val (.int p4_), .val (.int (3 : Int32)), .val (.ref b195), .val (.ref nb1_208), .unset] [(.long (q1_ ^^^ (-1 : Int64))), (.int (1 : Int32)), (.ref b195)])) _
      refine st231 _ ?_
      show Steps p.tables e below (T231.setTop (mkF m 119 #[.val (.long q0_), .second, .val (.long q1_), .second, .val (.long q2_), .second, .val (.int p3_), .val (.int p4_), .val (.int (3 : Int32)), .val (.ref b195), .val (.ref nb1_208), .unset] [])) _
      refine XS.iload X231.here hx rfl (hb hby at_119) rfl ?_
      show Steps p.tables e below (T231.setTop (mkF m 121 #[.val (.long q0_), .second, .val (.long q1_), .second, .val (.long q2_), .second, .val (.int p3_), .val (.int p4_), .val (.int (3 : Int32)), .val (.ref b195), .val (.ref nb1_208), .unset] [(.int (3 : Int32))])) _
      refine XS.iconst X231.here hx rfl (hb hby at_121) ?_
      show Steps p.tables e below (T231.setTop (mkF m 122 #[.val (.long q0_), .second, .val (.long q1_), .second, .val (.long q2_), .second, .val (.int p3_), .val (.int p4_), .val (.int (3 : Int32)), .val (.ref b195), .val (.ref nb1_208), .unset] [(.int (2 : Int32)), (.int (3 : Int32))])) _
      refine XS.icmpNo X231.here hx rfl (hb hby at_122) rfl (tlt (by decide : (2 : Int32) < (3 : Int32))).2.2.2 ?_
      show Steps p.tables e below (T231.setTop (mkF m 125 #[.val (.long q0_), .second, .val (.long q1_), .second, .val (.long q2_), .second, .val (.int p3_), .val (.int p4_), .val (.int (3 : Int32)), .val (.ref b195), .val (.ref nb1_208), .unset] [])) _
      refine XS.aload X231.here hx rfl (hb hby at_125) rfl rfl ?_
      show Steps p.tables e below (T231.setTop (mkF m 127 #[.val (.long q0_), .second, .val (.long q1_), .second, .val (.long q2_), .second, .val (.int p3_), .val (.int p4_), .val (.int (3 : Int32)), .val (.ref b195), .val (.ref nb1_208), .unset] [(.ref b195)])) _
      refine XS.iconst X231.here hx rfl (hb hby at_127) ?_
      show Steps p.tables e below (T231.setTop (mkF m 128 #[.val (.long q0_), .second, .val (.long q1_), .second, .val (.long q2_), .second, .val (.int p3_), .val (.int p4_), .val (.int (3 : Int32)), .val (.ref b195), .val (.ref nb1_208), .unset] [(.int (2 : Int32)), (.ref b195)])) _
      refine XS.aload X231.here hx rfl (hb hby at_128) rfl rfl ?_
      show Steps p.tables e below (T231.setTop (mkF m 130 #[.val (.long q0_), .second, .val (.long q1_), .second, .val (.long q2_), .second, .val (.int p3_), .val (.int p4_), .val (.int (3 : Int32)), .val (.ref b195), .val (.ref nb1_208), .unset] [(.ref b195), (.int (2 : Int32)), (.ref b195)])) _
      refine XS.iconst X231.here hx rfl (hb hby at_130) ?_
      show Steps p.tables e below (T231.setTop (mkF m 131 #[.val (.long q0_), .second, .val (.long q1_), .second, .val (.long q2_), .second, .val (.int p3_), .val (.int p4_), .val (.int (3 : Int32)), .val (.ref b195), .val (.ref nb1_208), .unset] [(.int (2 : Int32)), (.ref b195), (.int (2 : Int32)), (.ref b195)])) _
      refine X231.laload hx (j := (2 : Int32)) (v := (.long q2_)) (by rw [e231]; exact r234.1) (State.isArrayOf_alike hZ.alike r234.2.1) r234.2.2 hin234 hat234 (g := (mkF m 131 #[.val (.long q0_), .second, .val (.long q1_), .second, .val (.long q2_), .second, .val (.int p3_), .val (.int p4_), .val (.int (3 : Int32)), .val (.ref b195), .val (.ref nb1_208), .unset] [(.int (2 : Int32)), (.ref b195), (.int (2 : Int32)), (.ref b195)])) rfl rfl (hb hby at_131) _ ?_
      show Steps p.tables e below (T231.setTop (mkF m 132 #[.val (.long q0_), .second, .val (.long q1_), .second, .val (.long q2_), .second, .val (.int p3_), .val (.int p4_), .val (.int (3 : Int32)), .val (.ref b195), .val (.ref nb1_208), .unset] [(.long q2_), (.int (2 : Int32)), (.ref b195)])) _
      refine X231.ldc2Long hx hown (mvT hZ (hw _ (List.mem_of_getElem? (i := 24) rfl))) (g := (mkF m 132 #[.val (.long q0_), .second, .val (.long q1_), .second, .val (.long q2_), .second, .val (.int p3_), .val (.int p4_), .val (.int (3 : Int32)), .val (.ref b195), .val (.ref nb1_208), .unset] [(.long q2_), (.int (2 : Int32)), (.ref b195)])) rfl (hb hby at_132) _ ?_
      show Steps p.tables e below (T231.setTop (mkF m 135 #[.val (.long q0_), .second, .val (.long q1_), .second, .val (.long q2_), .second, .val (.int p3_), .val (.int p4_), .val (.int (3 : Int32)), .val (.ref b195), .val (.ref nb1_208), .unset] [(.long (-1 : Int64)), (.long q2_), (.int (2 : Int32)), (.ref b195)])) _
      refine XS.lxor X231.here hx rfl (hb hby at_135) rfl ?_
      show Steps p.tables e below (T231.setTop (mkF m 136 #[.val (.long q0_), .second, .val (.long q1_), .second, .val (.long q2_), .second, .val (.int p3_), .val (.int p4_), .val (.int (3 : Int32)), .val (.ref b195), .val (.ref nb1_208), .unset] [(.long (q2_ ^^^ (-1 : Int64))), (.int (2 : Int32)), (.ref b195)])) _
      refine st235 _ ?_
      show Steps p.tables e below (T235.setTop (mkF m 137 #[.val (.long q0_), .second, .val (.long q1_), .second, .val (.long q2_), .second, .val (.int p3_), .val (.int p4_), .val (.int (3 : Int32)), .val (.ref b195), .val (.ref nb1_208), .unset] [])) _
      refine XS.iload X235.here hx rfl (hb hby at_137) rfl ?_
      show Steps p.tables e below (T235.setTop (mkF m 139 #[.val (.long q0_), .second, .val (.long q1_), .second, .val (.long q2_), .second, .val (.int p3_), .val (.int p4_), .val (.int (3 : Int32)), .val (.ref b195), .val (.ref nb1_208), .unset] [(.int p4_)])) _
      refine X235.ldcInt hx hown (mvT hZ (hw _ (List.mem_of_getElem? (i := 25) rfl))) (g := (mkF m 139 #[.val (.long q0_), .second, .val (.long q1_), .second, .val (.long q2_), .second, .val (.int p3_), .val (.int p4_), .val (.int (3 : Int32)), .val (.ref b195), .val (.ref nb1_208), .unset] [(.int p4_)])) rfl (hb hby at_139) _ ?_
      show Steps p.tables e below (T235.setTop (mkF m 141 #[.val (.long q0_), .second, .val (.long q1_), .second, .val (.long q2_), .second, .val (.int p3_), .val (.int p4_), .val (.int (3 : Int32)), .val (.ref b195), .val (.ref nb1_208), .unset] [(.int (2147483647 : Int32)), (.int p4_)])) _
      refine XS.iand X235.here hx rfl (hb hby at_141) rfl ?_
      show Steps p.tables e below (T235.setTop (mkF m 142 #[.val (.long q0_), .second, .val (.long q1_), .second, .val (.long q2_), .second, .val (.int p3_), .val (.int p4_), .val (.int (3 : Int32)), .val (.ref b195), .val (.ref nb1_208), .unset] [(.int (p4_ &&& (2147483647 : Int32)))])) _
      refine XS.istore X235.here hx rfl (hb hby at_142) rfl (l' := #[.val (.long q0_), .second, .val (.long q1_), .second, .val (.long q2_), .second, .val (.int p3_), .val (.int p4_), .val (.int (3 : Int32)), .val (.ref b195), .val (.ref nb1_208), .val (.int (p4_ &&& (2147483647 : Int32)))]) rfl ?_
      show Steps p.tables e below (T235.setTop (mkF m 144 #[.val (.long q0_), .second, .val (.long q1_), .second, .val (.long q2_), .second, .val (.int p3_), .val (.int p4_), .val (.int (3 : Int32)), .val (.ref b195), .val (.ref nb1_208), .val (.int (p4_ &&& (2147483647 : Int32)))] [])) _
      refine XS.aload X235.here hx rfl (hb hby at_144) rfl rfl ?_
      show Steps p.tables e below (T235.setTop (mkF m 146 #[.val (.long q0_), .second, .val (.long q1_), .second, .val (.long q2_), .second, .val (.int p3_), .val (.int p4_), .val (.int (3 : Int32)), .val (.ref b195), .val (.ref nb1_208), .val (.int (p4_ &&& (2147483647 : Int32)))] [(.ref nb1_208)])) _
      refine XS.iconst X235.here hx rfl (hb hby at_146) ?_
      show Steps p.tables e below (T235.setTop (mkF m 147 #[.val (.long q0_), .second, .val (.long q1_), .second, .val (.long q2_), .second, .val (.int p3_), .val (.int p4_), .val (.int (3 : Int32)), .val (.ref b195), .val (.ref nb1_208), .val (.int (p4_ &&& (2147483647 : Int32)))] [(.int (0 : Int32)), (.ref nb1_208)])) _
      refine st238.trans ?_
      show Steps p.tables e below (T238.setTop (mkF m 150 #[.val (.long q0_), .second, .val (.long q1_), .second, .val (.long q2_), .second, .val (.int p3_), .val (.int p4_), .val (.int (3 : Int32)), .val (.ref b195), .val (.ref nb1_208), .val (.int (p4_ &&& (2147483647 : Int32)))] [(.long q0_)])) _
      refine XS.iconst X238.here hx rfl (hb hby at_150) ?_
      show Steps p.tables e below (T238.setTop (mkF m 151 #[.val (.long q0_), .second, .val (.long q1_), .second, .val (.long q2_), .second, .val (.int p3_), .val (.int p4_), .val (.int (3 : Int32)), .val (.ref b195), .val (.ref nb1_208), .val (.int (p4_ &&& (2147483647 : Int32)))] [(.int (0 : Int32)), (.long q0_)])) _
      refine XS.iload X238.here hx rfl (hb hby at_151) rfl ?_
      show Steps p.tables e below (T238.setTop (mkF m 153 #[.val (.long q0_), .second, .val (.long q1_), .second, .val (.long q2_), .second, .val (.int p3_), .val (.int p4_), .val (.int (3 : Int32)), .val (.ref b195), .val (.ref nb1_208), .val (.int (p4_ &&& (2147483647 : Int32)))] [(.int (3 : Int32)), (.int (0 : Int32)), (.long q0_)])) _
      refine XS.lloadN X238.here hx rfl (hb hby at_153) rfl ?_
      show Steps p.tables e below (T238.setTop (mkF m 154 #[.val (.long q0_), .second, .val (.long q1_), .second, .val (.long q2_), .second, .val (.int p3_), .val (.int p4_), .val (.int (3 : Int32)), .val (.ref b195), .val (.ref nb1_208), .val (.int (p4_ &&& (2147483647 : Int32)))] [(.long q0_), (.int (3 : Int32)), (.int (0 : Int32)), (.long q0_)])) _
      refine XS.lloadN X238.here hx rfl (hb hby at_154) rfl ?_
      show Steps p.tables e below (T238.setTop (mkF m 155 #[.val (.long q0_), .second, .val (.long q1_), .second, .val (.long q2_), .second, .val (.int p3_), .val (.int p4_), .val (.int (3 : Int32)), .val (.ref b195), .val (.ref nb1_208), .val (.int (p4_ &&& (2147483647 : Int32)))] [(.long q1_), (.long q0_), (.int (3 : Int32)), (.int (0 : Int32)), (.long q0_)])) _
      refine XS.lload X238.here hx rfl (hb hby at_155) rfl ?_
      show Steps p.tables e below (T238.setTop (mkF m 157 #[.val (.long q0_), .second, .val (.long q1_), .second, .val (.long q2_), .second, .val (.int p3_), .val (.int p4_), .val (.int (3 : Int32)), .val (.ref b195), .val (.ref nb1_208), .val (.int (p4_ &&& (2147483647 : Int32)))] [(.long q2_), (.long q1_), (.long q0_), (.int (3 : Int32)), (.int (0 : Int32)), (.long q0_)])) _
      refine st258 _ ?_
      show Steps p.tables e below (T258.setTop (mkF m 160 #[.val (.long q0_), .second, .val (.long q1_), .second, .val (.long q2_), .second, .val (.int p3_), .val (.int p4_), .val (.int (3 : Int32)), .val (.ref b195), .val (.ref nb1_208), .val (.int (p4_ &&& (2147483647 : Int32)))] [(.long q0_), (.long q0_)])) _
      refine XS.lcmp X258.here hx rfl (hb hby at_160) rfl ?_
      show Steps p.tables e below (T258.setTop (mkF m 161 #[.val (.long q0_), .second, .val (.long q1_), .second, .val (.long q2_), .second, .val (.int p3_), .val (.int p4_), .val (.int (3 : Int32)), .val (.ref b195), .val (.ref nb1_208), .val (.int (p4_ &&& (2147483647 : Int32)))] [(.int (lcmpW q0_ q0_))])) _
      refine XS.ifNo X258.here hx rfl (hb hby at_161) rfl ((if0 _ _).trans (teq ((lw_eq _ _).mpr (rfl : q0_ = q0_))).2) ?_
      show Steps p.tables e below (T258.setTop (mkF m 164 #[.val (.long q0_), .second, .val (.long q1_), .second, .val (.long q2_), .second, .val (.int p3_), .val (.int p4_), .val (.int (3 : Int32)), .val (.ref b195), .val (.ref nb1_208), .val (.int (p4_ &&& (2147483647 : Int32)))] [])) _
      refine XS.aload X258.here hx rfl (hb hby at_164) rfl rfl ?_
      show Steps p.tables e below (T258.setTop (mkF m 166 #[.val (.long q0_), .second, .val (.long q1_), .second, .val (.long q2_), .second, .val (.int p3_), .val (.int p4_), .val (.int (3 : Int32)), .val (.ref b195), .val (.ref nb1_208), .val (.int (p4_ &&& (2147483647 : Int32)))] [(.ref nb1_208)])) _
      refine XS.iconst X258.here hx rfl (hb hby at_166) ?_
      show Steps p.tables e below (T258.setTop (mkF m 167 #[.val (.long q0_), .second, .val (.long q1_), .second, .val (.long q2_), .second, .val (.int p3_), .val (.int p4_), .val (.int (3 : Int32)), .val (.ref b195), .val (.ref nb1_208), .val (.int (p4_ &&& (2147483647 : Int32)))] [(.int (1 : Int32)), (.ref nb1_208)])) _
      refine st260.trans ?_
      show Steps p.tables e below (T260.setTop (mkF m 170 #[.val (.long q0_), .second, .val (.long q1_), .second, .val (.long q2_), .second, .val (.int p3_), .val (.int p4_), .val (.int (3 : Int32)), .val (.ref b195), .val (.ref nb1_208), .val (.int (p4_ &&& (2147483647 : Int32)))] [(.long q1_)])) _
      refine XS.iconst X260.here hx rfl (hb hby at_170) ?_
      show Steps p.tables e below (T260.setTop (mkF m 171 #[.val (.long q0_), .second, .val (.long q1_), .second, .val (.long q2_), .second, .val (.int p3_), .val (.int p4_), .val (.int (3 : Int32)), .val (.ref b195), .val (.ref nb1_208), .val (.int (p4_ &&& (2147483647 : Int32)))] [(.int (1 : Int32)), (.long q1_)])) _
      refine XS.iload X260.here hx rfl (hb hby at_171) rfl ?_
      show Steps p.tables e below (T260.setTop (mkF m 173 #[.val (.long q0_), .second, .val (.long q1_), .second, .val (.long q2_), .second, .val (.int p3_), .val (.int p4_), .val (.int (3 : Int32)), .val (.ref b195), .val (.ref nb1_208), .val (.int (p4_ &&& (2147483647 : Int32)))] [(.int (3 : Int32)), (.int (1 : Int32)), (.long q1_)])) _
      refine XS.lloadN X260.here hx rfl (hb hby at_173) rfl ?_
      show Steps p.tables e below (T260.setTop (mkF m 174 #[.val (.long q0_), .second, .val (.long q1_), .second, .val (.long q2_), .second, .val (.int p3_), .val (.int p4_), .val (.int (3 : Int32)), .val (.ref b195), .val (.ref nb1_208), .val (.int (p4_ &&& (2147483647 : Int32)))] [(.long q0_), (.int (3 : Int32)), (.int (1 : Int32)), (.long q1_)])) _
      refine XS.lloadN X260.here hx rfl (hb hby at_174) rfl ?_
      show Steps p.tables e below (T260.setTop (mkF m 175 #[.val (.long q0_), .second, .val (.long q1_), .second, .val (.long q2_), .second, .val (.int p3_), .val (.int p4_), .val (.int (3 : Int32)), .val (.ref b195), .val (.ref nb1_208), .val (.int (p4_ &&& (2147483647 : Int32)))] [(.long q1_), (.long q0_), (.int (3 : Int32)), (.int (1 : Int32)), (.long q1_)])) _
      refine XS.lload X260.here hx rfl (hb hby at_175) rfl ?_
      show Steps p.tables e below (T260.setTop (mkF m 177 #[.val (.long q0_), .second, .val (.long q1_), .second, .val (.long q2_), .second, .val (.int p3_), .val (.int p4_), .val (.int (3 : Int32)), .val (.ref b195), .val (.ref nb1_208), .val (.int (p4_ &&& (2147483647 : Int32)))] [(.long q2_), (.long q1_), (.long q0_), (.int (3 : Int32)), (.int (1 : Int32)), (.long q1_)])) _
      refine st262 _ ?_
      show Steps p.tables e below (T262.setTop (mkF m 180 #[.val (.long q0_), .second, .val (.long q1_), .second, .val (.long q2_), .second, .val (.int p3_), .val (.int p4_), .val (.int (3 : Int32)), .val (.ref b195), .val (.ref nb1_208), .val (.int (p4_ &&& (2147483647 : Int32)))] [(.long q1_), (.long q1_)])) _
      refine XS.lcmp X262.here hx rfl (hb hby at_180) rfl ?_
      show Steps p.tables e below (T262.setTop (mkF m 181 #[.val (.long q0_), .second, .val (.long q1_), .second, .val (.long q2_), .second, .val (.int p3_), .val (.int p4_), .val (.int (3 : Int32)), .val (.ref b195), .val (.ref nb1_208), .val (.int (p4_ &&& (2147483647 : Int32)))] [(.int (lcmpW q1_ q1_))])) _
      refine XS.ifNo X262.here hx rfl (hb hby at_181) rfl ((if0 _ _).trans (teq ((lw_eq _ _).mpr (rfl : q1_ = q1_))).2) ?_
      show Steps p.tables e below (T262.setTop (mkF m 184 #[.val (.long q0_), .second, .val (.long q1_), .second, .val (.long q2_), .second, .val (.int p3_), .val (.int p4_), .val (.int (3 : Int32)), .val (.ref b195), .val (.ref nb1_208), .val (.int (p4_ &&& (2147483647 : Int32)))] [])) _
      refine XS.aload X262.here hx rfl (hb hby at_184) rfl rfl ?_
      show Steps p.tables e below (T262.setTop (mkF m 186 #[.val (.long q0_), .second, .val (.long q1_), .second, .val (.long q2_), .second, .val (.int p3_), .val (.int p4_), .val (.int (3 : Int32)), .val (.ref b195), .val (.ref nb1_208), .val (.int (p4_ &&& (2147483647 : Int32)))] [(.ref nb1_208)])) _
      refine XS.iconst X262.here hx rfl (hb hby at_186) ?_
      show Steps p.tables e below (T262.setTop (mkF m 187 #[.val (.long q0_), .second, .val (.long q1_), .second, .val (.long q2_), .second, .val (.int p3_), .val (.int p4_), .val (.int (3 : Int32)), .val (.ref b195), .val (.ref nb1_208), .val (.int (p4_ &&& (2147483647 : Int32)))] [(.int (2 : Int32)), (.ref nb1_208)])) _
      refine st264.trans ?_
      show Steps p.tables e below (T264.setTop (mkF m 190 #[.val (.long q0_), .second, .val (.long q1_), .second, .val (.long q2_), .second, .val (.int p3_), .val (.int p4_), .val (.int (3 : Int32)), .val (.ref b195), .val (.ref nb1_208), .val (.int (p4_ &&& (2147483647 : Int32)))] [(.long q2_)])) _
      refine XS.iconst X264.here hx rfl (hb hby at_190) ?_
      show Steps p.tables e below (T264.setTop (mkF m 191 #[.val (.long q0_), .second, .val (.long q1_), .second, .val (.long q2_), .second, .val (.int p3_), .val (.int p4_), .val (.int (3 : Int32)), .val (.ref b195), .val (.ref nb1_208), .val (.int (p4_ &&& (2147483647 : Int32)))] [(.int (2 : Int32)), (.long q2_)])) _
      refine XS.iload X264.here hx rfl (hb hby at_191) rfl ?_
      show Steps p.tables e below (T264.setTop (mkF m 193 #[.val (.long q0_), .second, .val (.long q1_), .second, .val (.long q2_), .second, .val (.int p3_), .val (.int p4_), .val (.int (3 : Int32)), .val (.ref b195), .val (.ref nb1_208), .val (.int (p4_ &&& (2147483647 : Int32)))] [(.int (3 : Int32)), (.int (2 : Int32)), (.long q2_)])) _
      refine XS.lloadN X264.here hx rfl (hb hby at_193) rfl ?_
      show Steps p.tables e below (T264.setTop (mkF m 194 #[.val (.long q0_), .second, .val (.long q1_), .second, .val (.long q2_), .second, .val (.int p3_), .val (.int p4_), .val (.int (3 : Int32)), .val (.ref b195), .val (.ref nb1_208), .val (.int (p4_ &&& (2147483647 : Int32)))] [(.long q0_), (.int (3 : Int32)), (.int (2 : Int32)), (.long q2_)])) _
      refine XS.lloadN X264.here hx rfl (hb hby at_194) rfl ?_
      show Steps p.tables e below (T264.setTop (mkF m 195 #[.val (.long q0_), .second, .val (.long q1_), .second, .val (.long q2_), .second, .val (.int p3_), .val (.int p4_), .val (.int (3 : Int32)), .val (.ref b195), .val (.ref nb1_208), .val (.int (p4_ &&& (2147483647 : Int32)))] [(.long q1_), (.long q0_), (.int (3 : Int32)), (.int (2 : Int32)), (.long q2_)])) _
      refine XS.lload X264.here hx rfl (hb hby at_195) rfl ?_
      show Steps p.tables e below (T264.setTop (mkF m 197 #[.val (.long q0_), .second, .val (.long q1_), .second, .val (.long q2_), .second, .val (.int p3_), .val (.int p4_), .val (.int (3 : Int32)), .val (.ref b195), .val (.ref nb1_208), .val (.int (p4_ &&& (2147483647 : Int32)))] [(.long q2_), (.long q1_), (.long q0_), (.int (3 : Int32)), (.int (2 : Int32)), (.long q2_)])) _
      refine st266 _ ?_
      show Steps p.tables e below (T266.setTop (mkF m 200 #[.val (.long q0_), .second, .val (.long q1_), .second, .val (.long q2_), .second, .val (.int p3_), .val (.int p4_), .val (.int (3 : Int32)), .val (.ref b195), .val (.ref nb1_208), .val (.int (p4_ &&& (2147483647 : Int32)))] [(.long q2_), (.long q2_)])) _
      refine XS.lcmp X266.here hx rfl (hb hby at_200) rfl ?_
      show Steps p.tables e below (T266.setTop (mkF m 201 #[.val (.long q0_), .second, .val (.long q1_), .second, .val (.long q2_), .second, .val (.int p3_), .val (.int p4_), .val (.int (3 : Int32)), .val (.ref b195), .val (.ref nb1_208), .val (.int (p4_ &&& (2147483647 : Int32)))] [(.int (lcmpW q2_ q2_))])) _
      refine XS.ifNo X266.here hx rfl (hb hby at_201) rfl ((if0 _ _).trans (teq ((lw_eq _ _).mpr (rfl : q2_ = q2_))).2) ?_
      show Steps p.tables e below (T266.setTop (mkF m 204 #[.val (.long q0_), .second, .val (.long q1_), .second, .val (.long q2_), .second, .val (.int p3_), .val (.int p4_), .val (.int (3 : Int32)), .val (.ref b195), .val (.ref nb1_208), .val (.int (p4_ &&& (2147483647 : Int32)))] [])) _
      refine XS.aload X266.here hx rfl (hb hby at_204) rfl rfl ?_
      show Steps p.tables e below (T266.setTop (mkF m 206 #[.val (.long q0_), .second, .val (.long q1_), .second, .val (.long q2_), .second, .val (.int p3_), .val (.int p4_), .val (.int (3 : Int32)), .val (.ref b195), .val (.ref nb1_208), .val (.int (p4_ &&& (2147483647 : Int32)))] [(.ref nb1_208)])) _
      refine XS.iconst X266.here hx rfl (hb hby at_206) ?_
      show Steps p.tables e below (T266.setTop (mkF m 207 #[.val (.long q0_), .second, .val (.long q1_), .second, .val (.long q2_), .second, .val (.int p3_), .val (.int p4_), .val (.int (3 : Int32)), .val (.ref b195), .val (.ref nb1_208), .val (.int (p4_ &&& (2147483647 : Int32)))] [(.int (3 : Int32)), (.ref nb1_208)])) _
      refine st268.trans ?_
      show Steps p.tables e below (T268.setTop (mkF m 210 #[.val (.long q0_), .second, .val (.long q1_), .second, .val (.long q2_), .second, .val (.int p3_), .val (.int p4_), .val (.int (3 : Int32)), .val (.ref b195), .val (.ref nb1_208), .val (.int (p4_ &&& (2147483647 : Int32)))] [(.long (0 : Int64))])) _
      refine XS.iconst X268.here hx rfl (hb hby at_210) ?_
      show Steps p.tables e below (T268.setTop (mkF m 211 #[.val (.long q0_), .second, .val (.long q1_), .second, .val (.long q2_), .second, .val (.int p3_), .val (.int p4_), .val (.int (3 : Int32)), .val (.ref b195), .val (.ref nb1_208), .val (.int (p4_ &&& (2147483647 : Int32)))] [(.int (3 : Int32)), (.long (0 : Int64))])) _
      refine XS.iload X268.here hx rfl (hb hby at_211) rfl ?_
      show Steps p.tables e below (T268.setTop (mkF m 213 #[.val (.long q0_), .second, .val (.long q1_), .second, .val (.long q2_), .second, .val (.int p3_), .val (.int p4_), .val (.int (3 : Int32)), .val (.ref b195), .val (.ref nb1_208), .val (.int (p4_ &&& (2147483647 : Int32)))] [(.int (3 : Int32)), (.int (3 : Int32)), (.long (0 : Int64))])) _
      refine XS.lloadN X268.here hx rfl (hb hby at_213) rfl ?_
      show Steps p.tables e below (T268.setTop (mkF m 214 #[.val (.long q0_), .second, .val (.long q1_), .second, .val (.long q2_), .second, .val (.int p3_), .val (.int p4_), .val (.int (3 : Int32)), .val (.ref b195), .val (.ref nb1_208), .val (.int (p4_ &&& (2147483647 : Int32)))] [(.long q0_), (.int (3 : Int32)), (.int (3 : Int32)), (.long (0 : Int64))])) _
      refine XS.lloadN X268.here hx rfl (hb hby at_214) rfl ?_
      show Steps p.tables e below (T268.setTop (mkF m 215 #[.val (.long q0_), .second, .val (.long q1_), .second, .val (.long q2_), .second, .val (.int p3_), .val (.int p4_), .val (.int (3 : Int32)), .val (.ref b195), .val (.ref nb1_208), .val (.int (p4_ &&& (2147483647 : Int32)))] [(.long q1_), (.long q0_), (.int (3 : Int32)), (.int (3 : Int32)), (.long (0 : Int64))])) _
      refine XS.lload X268.here hx rfl (hb hby at_215) rfl ?_
      show Steps p.tables e below (T268.setTop (mkF m 217 #[.val (.long q0_), .second, .val (.long q1_), .second, .val (.long q2_), .second, .val (.int p3_), .val (.int p4_), .val (.int (3 : Int32)), .val (.ref b195), .val (.ref nb1_208), .val (.int (p4_ &&& (2147483647 : Int32)))] [(.long q2_), (.long q1_), (.long q0_), (.int (3 : Int32)), (.int (3 : Int32)), (.long (0 : Int64))])) _
      refine st270 _ ?_
      show Steps p.tables e below (T270.setTop (mkF m 220 #[.val (.long q0_), .second, .val (.long q1_), .second, .val (.long q2_), .second, .val (.int p3_), .val (.int p4_), .val (.int (3 : Int32)), .val (.ref b195), .val (.ref nb1_208), .val (.int (p4_ &&& (2147483647 : Int32)))] [(.long (0 : Int64)), (.long (0 : Int64))])) _
      refine XS.lcmp X270.here hx rfl (hb hby at_220) rfl ?_
      show Steps p.tables e below (T270.setTop (mkF m 221 #[.val (.long q0_), .second, .val (.long q1_), .second, .val (.long q2_), .second, .val (.int p3_), .val (.int p4_), .val (.int (3 : Int32)), .val (.ref b195), .val (.ref nb1_208), .val (.int (p4_ &&& (2147483647 : Int32)))] [(.int (lcmpW (0 : Int64) (0 : Int64)))])) _
      refine XS.ifNo X270.here hx rfl (hb hby at_221) rfl ((if0 _ _).trans (teq ((lw_eq _ _).mpr (by decide : (0 : Int64) = (0 : Int64)))).2) ?_
      exact kt
    by_cases hv274 : (p4_ &&& (2147483647 : Int32)) = (0 : Int32)
    · have pre275 : ∀ t, Steps p.tables e below (T270.setTop (mkF m 224 #[.val (.long q0_), .second, .val (.long q1_), .second, .val (.long q2_), .second, .val (.int p3_), .val (.int p4_), .val (.int (3 : Int32)), .val (.ref b195), .val (.ref nb1_208), .val (.int (0 : Int32))] [])) t → Steps p.tables e below (s₁.setTop (entryFrame m #[(.long q0_), (.long q1_), (.long q2_), (.int p3_), (.int p4_)] maxLocals)) t := fun t kt => pre273 t (by rw [hv274]; exact kt)
      obtain ⟨cq276, kq276, q276a, q276b, q276c⟩ := isOf hZ e270' f241
      obtain ⟨_, _, ⟨T276, L276, k276, n276⟩, -, X276, ⟨Lc276, hQ276, l276, y276, z276⟩, st276⟩ := X270.virtualBack hx (y := (⟨"com/example/latchkey/latchkey/LockTokens", "get", "(I)J"⟩ : MethodName)) (z := (⟨"com/example/latchkey/latchkey/LockTokens", "get", "(I)J"⟩ : MethodName)) hown (mvT hZ (hw _ (List.mem_of_getElem? (i := 26) rfl))) (mvT hZ (hw _ (List.mem_of_getElem? (i := 27) rfl))) (notFace_of_selects (args := #[]) (mvT hZ (hw _ (List.mem_of_getElem? (i := 29) rfl)))) (mvT hZ (hw _ (List.mem_of_getElem? (i := 29) rfl))) (mvT hZ (hw _ (List.mem_of_getElem? (i := 28) rfl))) (by decide) (backOf (W := 0) (rmget39 l Z a0 hw [] nb1_208 nb5_208 k195 q0_ q1_ q2_ h235 n0 f256 f241 f245 f249 f252) hZ (hw _ (List.mem_of_getElem? (i := 30) rfl)) (hw _ (List.mem_of_getElem? (i := 3) rfl)) (by decide) (by decide)) q276a q276c (g := (mkF m 228 #[.val (.long q0_), .second, .val (.long q1_), .second, .val (.long q2_), .second, .val (.int p3_), .val (.int p4_), .val (.int (3 : Int32)), .val (.ref b195), .val (.ref nb1_208), .val (.int (0 : Int32))] [(.int (0 : Int32)), (.ref nb1_208)])) rfl (by rw [hml]; rfl) (Steps.refl _) (argsL := [(.int (0 : Int32))]) (rest := []) (lenOf pd_2 rfl) rfl (by show 2 * 0 + _ ≤ _; exact Nat.le_of_eq rfl) (hb hby at_228) (fun _ _ => ⟨rfl, e270', (by decide : 3 + 0 ≤ _), (by decide : 7 + 0 ≤ _)⟩)
      dsimp only [Pt.U, Pt.locs, Pt.cells, Pt.slots] at X276 l276 y276 z276 st276 hQ276
      subst l276 y276 z276
      obtain ⟨h276, e276⟩ : ∃ z, T276.heap = z := ⟨_, rfl⟩
      rw [e276] at hQ276
      obtain ⟨rfl, N276q, hh276⟩ := hQ276
      have N277 := Fr.app N271 N276q
      have e276' : T276.heap = h235 := e276.trans hh276
      obtain ⟨_, _, ⟨T278, L278, k278, n278⟩, -, X278, ⟨Lc278, hQ278, l278, y278, z278⟩, st278⟩ := Jvm.LawKit.callS X276 hx (y := (⟨"com/example/latchkey/latchkey/LockTokensOfPinLaw", "expected", "(IIJJJ)J"⟩ : MethodName)) hown (mvT hZ (hw _ (List.mem_of_getElem? (i := 31) rfl))) (mvT hZ (hw _ (List.mem_of_getElem? (i := 32) rfl))) (mvT hZ (hw _ (List.mem_of_getElem? (i := 33) rfl))) (mvT hZ (hw _ (List.mem_of_getElem? (i := 34) rfl))) (by decide) (backOf (W := 2) (rmexpected40 l Z a0 hw [] q0_ q1_ q2_ h235 n0 f256 ) hZ (hw _ (List.mem_of_getElem? (i := 34) rfl)) (hw _ (List.mem_of_getElem? (i := 33) rfl)) (by decide) (by decide)) (g := (mkF m 239 #[.val (.long q0_), .second, .val (.long q1_), .second, .val (.long q2_), .second, .val (.int p3_), .val (.int p4_), .val (.int (3 : Int32)), .val (.ref b195), .val (.ref nb1_208), .val (.int (0 : Int32))] [(.long q2_), (.long q1_), (.long q0_), (.int (3 : Int32)), (.int (0 : Int32)), (.long q0_)])) rfl (by rw [hml]; rfl) (argsL := [(.int (0 : Int32)), (.int (3 : Int32)), (.long q0_), (.long q1_), (.long q2_)]) (rest := [(.long q0_)]) (lenOf pd_3 rfl) rfl (by show 2 * 0 + _ ≤ _; exact Nat.le_of_eq rfl) (hb hby at_239) (fun _ _ => ⟨rfl, e276', (by decide : 3 + 0 ≤ _), (by decide : 7 + 0 ≤ _)⟩)
      dsimp only [Pt.U, Pt.locs, Pt.cells, Pt.slots] at X278 l278 y278 z278 st278 hQ278
      subst l278 y278 z278
      obtain ⟨h278, e278⟩ : ∃ z, T278.heap = z := ⟨_, rfl⟩
      rw [e278] at hQ278
      obtain ⟨rfl, N278q, hh278⟩ := hQ278
      have N279 := Fr.app N277 N278q
      have e278' : T278.heap = h235 := e278.trans hh278
      have pre280 : ∀ t, Steps p.tables e below (T278.setTop (mkF m 251 #[.val (.long q0_), .second, .val (.long q1_), .second, .val (.long q2_), .second, .val (.int p3_), .val (.int p4_), .val (.int (3 : Int32)), .val (.ref b195), .val (.ref nb1_208), .val (.int (0 : Int32))] [(.int (1 : Int32))])) t → Steps p.tables e below (s₁.setTop (entryFrame m #[(.long q0_), (.long q1_), (.long q2_), (.int p3_), (.int p4_)] maxLocals)) t := by
        intro t kt
        refine pre275 t ?_
        show Steps p.tables e below (T270.setTop (mkF m 224 #[.val (.long q0_), .second, .val (.long q1_), .second, .val (.long q2_), .second, .val (.int p3_), .val (.int p4_), .val (.int (3 : Int32)), .val (.ref b195), .val (.ref nb1_208), .val (.int (0 : Int32))] [])) _
        refine XS.aload X270.here hx rfl (hb hby at_224) rfl rfl ?_
        show Steps p.tables e below (T270.setTop (mkF m 226 #[.val (.long q0_), .second, .val (.long q1_), .second, .val (.long q2_), .second, .val (.int p3_), .val (.int p4_), .val (.int (3 : Int32)), .val (.ref b195), .val (.ref nb1_208), .val (.int (0 : Int32))] [(.ref nb1_208)])) _
        refine XS.iload X270.here hx rfl (hb hby at_226) rfl ?_
        show Steps p.tables e below (T270.setTop (mkF m 228 #[.val (.long q0_), .second, .val (.long q1_), .second, .val (.long q2_), .second, .val (.int p3_), .val (.int p4_), .val (.int (3 : Int32)), .val (.ref b195), .val (.ref nb1_208), .val (.int (0 : Int32))] [(.int (0 : Int32)), (.ref nb1_208)])) _
        refine st276.trans ?_
        show Steps p.tables e below (T276.setTop (mkF m 231 #[.val (.long q0_), .second, .val (.long q1_), .second, .val (.long q2_), .second, .val (.int p3_), .val (.int p4_), .val (.int (3 : Int32)), .val (.ref b195), .val (.ref nb1_208), .val (.int (0 : Int32))] [(.long q0_)])) _
        refine XS.iload X276.here hx rfl (hb hby at_231) rfl ?_
        show Steps p.tables e below (T276.setTop (mkF m 233 #[.val (.long q0_), .second, .val (.long q1_), .second, .val (.long q2_), .second, .val (.int p3_), .val (.int p4_), .val (.int (3 : Int32)), .val (.ref b195), .val (.ref nb1_208), .val (.int (0 : Int32))] [(.int (0 : Int32)), (.long q0_)])) _
        refine XS.iload X276.here hx rfl (hb hby at_233) rfl ?_
        show Steps p.tables e below (T276.setTop (mkF m 235 #[.val (.long q0_), .second, .val (.long q1_), .second, .val (.long q2_), .second, .val (.int p3_), .val (.int p4_), .val (.int (3 : Int32)), .val (.ref b195), .val (.ref nb1_208), .val (.int (0 : Int32))] [(.int (3 : Int32)), (.int (0 : Int32)), (.long q0_)])) _
        refine XS.lloadN X276.here hx rfl (hb hby at_235) rfl ?_
        show Steps p.tables e below (T276.setTop (mkF m 236 #[.val (.long q0_), .second, .val (.long q1_), .second, .val (.long q2_), .second, .val (.int p3_), .val (.int p4_), .val (.int (3 : Int32)), .val (.ref b195), .val (.ref nb1_208), .val (.int (0 : Int32))] [(.long q0_), (.int (3 : Int32)), (.int (0 : Int32)), (.long q0_)])) _
        refine XS.lloadN X276.here hx rfl (hb hby at_236) rfl ?_
        show Steps p.tables e below (T276.setTop (mkF m 237 #[.val (.long q0_), .second, .val (.long q1_), .second, .val (.long q2_), .second, .val (.int p3_), .val (.int p4_), .val (.int (3 : Int32)), .val (.ref b195), .val (.ref nb1_208), .val (.int (0 : Int32))] [(.long q1_), (.long q0_), (.int (3 : Int32)), (.int (0 : Int32)), (.long q0_)])) _
        refine XS.lload X276.here hx rfl (hb hby at_237) rfl ?_
        show Steps p.tables e below (T276.setTop (mkF m 239 #[.val (.long q0_), .second, .val (.long q1_), .second, .val (.long q2_), .second, .val (.int p3_), .val (.int p4_), .val (.int (3 : Int32)), .val (.ref b195), .val (.ref nb1_208), .val (.int (0 : Int32))] [(.long q2_), (.long q1_), (.long q0_), (.int (3 : Int32)), (.int (0 : Int32)), (.long q0_)])) _
        refine st278 _ ?_
        show Steps p.tables e below (T278.setTop (mkF m 242 #[.val (.long q0_), .second, .val (.long q1_), .second, .val (.long q2_), .second, .val (.int p3_), .val (.int p4_), .val (.int (3 : Int32)), .val (.ref b195), .val (.ref nb1_208), .val (.int (0 : Int32))] [(.long q0_), (.long q0_)])) _
        refine XS.lcmp X278.here hx rfl (hb hby at_242) rfl ?_
        show Steps p.tables e below (T278.setTop (mkF m 243 #[.val (.long q0_), .second, .val (.long q1_), .second, .val (.long q2_), .second, .val (.int p3_), .val (.int p4_), .val (.int (3 : Int32)), .val (.ref b195), .val (.ref nb1_208), .val (.int (0 : Int32))] [(.int (lcmpW q0_ q0_))])) _
        refine XS.ifNo X278.here hx rfl (hb hby at_243) rfl ((if0 _ _).trans (teq ((lw_eq _ _).mpr (rfl : q0_ = q0_))).2) ?_
        show Steps p.tables e below (T278.setTop (mkF m 246 #[.val (.long q0_), .second, .val (.long q1_), .second, .val (.long q2_), .second, .val (.int p3_), .val (.int p4_), .val (.int (3 : Int32)), .val (.ref b195), .val (.ref nb1_208), .val (.int (0 : Int32))] [])) _
        refine XS.iconst X278.here hx rfl (hb hby at_246) ?_
        show Steps p.tables e below (T278.setTop (mkF m 247 #[.val (.long q0_), .second, .val (.long q1_), .second, .val (.long q2_), .second, .val (.int p3_), .val (.int p4_), .val (.int (3 : Int32)), .val (.ref b195), .val (.ref nb1_208), .val (.int (0 : Int32))] [(.int (1 : Int32))])) _
        refine XS.goto X278.here hx rfl (pc0 := 247) (pc' := 251) rfl (hb hby at_247) (by decide) (by decide) ?_
        exact kt
      obtain ⟨fs, hr, hrun, hended, hW, hsame⟩ := X278.leave (v := some (.int (1 : Int32))) (fun h => by rw [Bd.returns] at h; cases h)
      refine ⟨_, _, pre280 _ (retN X278 hx (t := .boolean) Bd.returns (by simp) (hb hby at_251) hr), hrun, hended, _, _, rfl, ?_, ⟨_, rfl⟩, hW, hsame.mono (by decide) (by decide)⟩
      show QLaw Z q0_ q1_ q2_ p3_ p4_ h0 n0 _ T278.heap _
      rw [e278']
      exact ⟨rfl, N279⟩
    · by_cases hv282 : (p4_ &&& (2147483647 : Int32)) = (1 : Int32)
      · have pre283 : ∀ t, Steps p.tables e below (T270.setTop (mkF m 224 #[.val (.long q0_), .second, .val (.long q1_), .second, .val (.long q2_), .second, .val (.int p3_), .val (.int p4_), .val (.int (3 : Int32)), .val (.ref b195), .val (.ref nb1_208), .val (.int (1 : Int32))] [])) t → Steps p.tables e below (s₁.setTop (entryFrame m #[(.long q0_), (.long q1_), (.long q2_), (.int p3_), (.int p4_)] maxLocals)) t := fun t kt => pre273 t (by rw [hv282]; exact kt)
        obtain ⟨cq284, kq284, q284a, q284b, q284c⟩ := isOf hZ e270' f241
        obtain ⟨_, _, ⟨T284, L284, k284, n284⟩, -, X284, ⟨Lc284, hQ284, l284, y284, z284⟩, st284⟩ := X270.virtualBack hx (y := (⟨"com/example/latchkey/latchkey/LockTokens", "get", "(I)J"⟩ : MethodName)) (z := (⟨"com/example/latchkey/latchkey/LockTokens", "get", "(I)J"⟩ : MethodName)) hown (mvT hZ (hw _ (List.mem_of_getElem? (i := 26) rfl))) (mvT hZ (hw _ (List.mem_of_getElem? (i := 27) rfl))) (notFace_of_selects (args := #[]) (mvT hZ (hw _ (List.mem_of_getElem? (i := 29) rfl)))) (mvT hZ (hw _ (List.mem_of_getElem? (i := 29) rfl))) (mvT hZ (hw _ (List.mem_of_getElem? (i := 28) rfl))) (by decide) (backOf (W := 0) (rmget41 l Z a0 hw [] nb1_208 nb5_208 k195 q0_ q1_ q2_ h235 n0 f256 f241 f245 f249 f252) hZ (hw _ (List.mem_of_getElem? (i := 30) rfl)) (hw _ (List.mem_of_getElem? (i := 3) rfl)) (by decide) (by decide)) q284a q284c (g := (mkF m 228 #[.val (.long q0_), .second, .val (.long q1_), .second, .val (.long q2_), .second, .val (.int p3_), .val (.int p4_), .val (.int (3 : Int32)), .val (.ref b195), .val (.ref nb1_208), .val (.int (1 : Int32))] [(.int (1 : Int32)), (.ref nb1_208)])) rfl (by rw [hml]; rfl) (Steps.refl _) (argsL := [(.int (1 : Int32))]) (rest := []) (lenOf pd_2 rfl) rfl (by show 2 * 0 + _ ≤ _; exact Nat.le_of_eq rfl) (hb hby at_228) (fun _ _ => ⟨rfl, e270', (by decide : 3 + 0 ≤ _), (by decide : 7 + 0 ≤ _)⟩)
        dsimp only [Pt.U, Pt.locs, Pt.cells, Pt.slots] at X284 l284 y284 z284 st284 hQ284
        subst l284 y284 z284
        obtain ⟨h284, e284⟩ : ∃ z, T284.heap = z := ⟨_, rfl⟩
        rw [e284] at hQ284
        obtain ⟨rfl, N284q, hh284⟩ := hQ284
        have N285 := Fr.app N271 N284q
        have e284' : T284.heap = h235 := e284.trans hh284
        obtain ⟨_, _, ⟨T286, L286, k286, n286⟩, -, X286, ⟨Lc286, hQ286, l286, y286, z286⟩, st286⟩ := Jvm.LawKit.callS X284 hx (y := (⟨"com/example/latchkey/latchkey/LockTokensOfPinLaw", "expected", "(IIJJJ)J"⟩ : MethodName)) hown (mvT hZ (hw _ (List.mem_of_getElem? (i := 31) rfl))) (mvT hZ (hw _ (List.mem_of_getElem? (i := 32) rfl))) (mvT hZ (hw _ (List.mem_of_getElem? (i := 33) rfl))) (mvT hZ (hw _ (List.mem_of_getElem? (i := 34) rfl))) (by decide) (backOf (W := 2) (rmexpected42 l Z a0 hw [] q0_ q1_ q2_ h235 n0 f256 ) hZ (hw _ (List.mem_of_getElem? (i := 34) rfl)) (hw _ (List.mem_of_getElem? (i := 33) rfl)) (by decide) (by decide)) (g := (mkF m 239 #[.val (.long q0_), .second, .val (.long q1_), .second, .val (.long q2_), .second, .val (.int p3_), .val (.int p4_), .val (.int (3 : Int32)), .val (.ref b195), .val (.ref nb1_208), .val (.int (1 : Int32))] [(.long q2_), (.long q1_), (.long q0_), (.int (3 : Int32)), (.int (1 : Int32)), (.long q1_)])) rfl (by rw [hml]; rfl) (argsL := [(.int (1 : Int32)), (.int (3 : Int32)), (.long q0_), (.long q1_), (.long q2_)]) (rest := [(.long q1_)]) (lenOf pd_3 rfl) rfl (by show 2 * 0 + _ ≤ _; exact Nat.le_of_eq rfl) (hb hby at_239) (fun _ _ => ⟨rfl, e284', (by decide : 3 + 0 ≤ _), (by decide : 7 + 0 ≤ _)⟩)
        dsimp only [Pt.U, Pt.locs, Pt.cells, Pt.slots] at X286 l286 y286 z286 st286 hQ286
        subst l286 y286 z286
        obtain ⟨h286, e286⟩ : ∃ z, T286.heap = z := ⟨_, rfl⟩
        rw [e286] at hQ286
        obtain ⟨rfl, N286q, hh286⟩ := hQ286
        have N287 := Fr.app N285 N286q
        have e286' : T286.heap = h235 := e286.trans hh286
        have pre288 : ∀ t, Steps p.tables e below (T286.setTop (mkF m 251 #[.val (.long q0_), .second, .val (.long q1_), .second, .val (.long q2_), .second, .val (.int p3_), .val (.int p4_), .val (.int (3 : Int32)), .val (.ref b195), .val (.ref nb1_208), .val (.int (1 : Int32))] [(.int (1 : Int32))])) t → Steps p.tables e below (s₁.setTop (entryFrame m #[(.long q0_), (.long q1_), (.long q2_), (.int p3_), (.int p4_)] maxLocals)) t := by
          intro t kt
          refine pre283 t ?_
          show Steps p.tables e below (T270.setTop (mkF m 224 #[.val (.long q0_), .second, .val (.long q1_), .second, .val (.long q2_), .second, .val (.int p3_), .val (.int p4_), .val (.int (3 : Int32)), .val (.ref b195), .val (.ref nb1_208), .val (.int (1 : Int32))] [])) _
          refine XS.aload X270.here hx rfl (hb hby at_224) rfl rfl ?_
          show Steps p.tables e below (T270.setTop (mkF m 226 #[.val (.long q0_), .second, .val (.long q1_), .second, .val (.long q2_), .second, .val (.int p3_), .val (.int p4_), .val (.int (3 : Int32)), .val (.ref b195), .val (.ref nb1_208), .val (.int (1 : Int32))] [(.ref nb1_208)])) _
          refine XS.iload X270.here hx rfl (hb hby at_226) rfl ?_
          show Steps p.tables e below (T270.setTop (mkF m 228 #[.val (.long q0_), .second, .val (.long q1_), .second, .val (.long q2_), .second, .val (.int p3_), .val (.int p4_), .val (.int (3 : Int32)), .val (.ref b195), .val (.ref nb1_208), .val (.int (1 : Int32))] [(.int (1 : Int32)), (.ref nb1_208)])) _
          refine st284.trans ?_
          show Steps p.tables e below (T284.setTop (mkF m 231 #[.val (.long q0_), .second, .val (.long q1_), .second, .val (.long q2_), .second, .val (.int p3_), .val (.int p4_), .val (.int (3 : Int32)), .val (.ref b195), .val (.ref nb1_208), .val (.int (1 : Int32))] [(.long q1_)])) _
          refine XS.iload X284.here hx rfl (hb hby at_231) rfl ?_
          show Steps p.tables e below (T284.setTop (mkF m 233 #[.val (.long q0_), .second, .val (.long q1_), .second, .val (.long q2_), .second, .val (.int p3_), .val (.int p4_), .val (.int (3 : Int32)), .val (.ref b195), .val (.ref nb1_208), .val (.int (1 : Int32))] [(.int (1 : Int32)), (.long q1_)])) _
          refine XS.iload X284.here hx rfl (hb hby at_233) rfl ?_
          show Steps p.tables e below (T284.setTop (mkF m 235 #[.val (.long q0_), .second, .val (.long q1_), .second, .val (.long q2_), .second, .val (.int p3_), .val (.int p4_), .val (.int (3 : Int32)), .val (.ref b195), .val (.ref nb1_208), .val (.int (1 : Int32))] [(.int (3 : Int32)), (.int (1 : Int32)), (.long q1_)])) _
          refine XS.lloadN X284.here hx rfl (hb hby at_235) rfl ?_
          show Steps p.tables e below (T284.setTop (mkF m 236 #[.val (.long q0_), .second, .val (.long q1_), .second, .val (.long q2_), .second, .val (.int p3_), .val (.int p4_), .val (.int (3 : Int32)), .val (.ref b195), .val (.ref nb1_208), .val (.int (1 : Int32))] [(.long q0_), (.int (3 : Int32)), (.int (1 : Int32)), (.long q1_)])) _
          refine XS.lloadN X284.here hx rfl (hb hby at_236) rfl ?_
          show Steps p.tables e below (T284.setTop (mkF m 237 #[.val (.long q0_), .second, .val (.long q1_), .second, .val (.long q2_), .second, .val (.int p3_), .val (.int p4_), .val (.int (3 : Int32)), .val (.ref b195), .val (.ref nb1_208), .val (.int (1 : Int32))] [(.long q1_), (.long q0_), (.int (3 : Int32)), (.int (1 : Int32)), (.long q1_)])) _
          refine XS.lload X284.here hx rfl (hb hby at_237) rfl ?_
          show Steps p.tables e below (T284.setTop (mkF m 239 #[.val (.long q0_), .second, .val (.long q1_), .second, .val (.long q2_), .second, .val (.int p3_), .val (.int p4_), .val (.int (3 : Int32)), .val (.ref b195), .val (.ref nb1_208), .val (.int (1 : Int32))] [(.long q2_), (.long q1_), (.long q0_), (.int (3 : Int32)), (.int (1 : Int32)), (.long q1_)])) _
          refine st286 _ ?_
          show Steps p.tables e below (T286.setTop (mkF m 242 #[.val (.long q0_), .second, .val (.long q1_), .second, .val (.long q2_), .second, .val (.int p3_), .val (.int p4_), .val (.int (3 : Int32)), .val (.ref b195), .val (.ref nb1_208), .val (.int (1 : Int32))] [(.long q1_), (.long q1_)])) _
          refine XS.lcmp X286.here hx rfl (hb hby at_242) rfl ?_
          show Steps p.tables e below (T286.setTop (mkF m 243 #[.val (.long q0_), .second, .val (.long q1_), .second, .val (.long q2_), .second, .val (.int p3_), .val (.int p4_), .val (.int (3 : Int32)), .val (.ref b195), .val (.ref nb1_208), .val (.int (1 : Int32))] [(.int (lcmpW q1_ q1_))])) _
          refine XS.ifNo X286.here hx rfl (hb hby at_243) rfl ((if0 _ _).trans (teq ((lw_eq _ _).mpr (rfl : q1_ = q1_))).2) ?_
          show Steps p.tables e below (T286.setTop (mkF m 246 #[.val (.long q0_), .second, .val (.long q1_), .second, .val (.long q2_), .second, .val (.int p3_), .val (.int p4_), .val (.int (3 : Int32)), .val (.ref b195), .val (.ref nb1_208), .val (.int (1 : Int32))] [])) _
          refine XS.iconst X286.here hx rfl (hb hby at_246) ?_
          show Steps p.tables e below (T286.setTop (mkF m 247 #[.val (.long q0_), .second, .val (.long q1_), .second, .val (.long q2_), .second, .val (.int p3_), .val (.int p4_), .val (.int (3 : Int32)), .val (.ref b195), .val (.ref nb1_208), .val (.int (1 : Int32))] [(.int (1 : Int32))])) _
          refine XS.goto X286.here hx rfl (pc0 := 247) (pc' := 251) rfl (hb hby at_247) (by decide) (by decide) ?_
          exact kt
        obtain ⟨fs, hr, hrun, hended, hW, hsame⟩ := X286.leave (v := some (.int (1 : Int32))) (fun h => by rw [Bd.returns] at h; cases h)
        refine ⟨_, _, pre288 _ (retN X286 hx (t := .boolean) Bd.returns (by simp) (hb hby at_251) hr), hrun, hended, _, _, rfl, ?_, ⟨_, rfl⟩, hW, hsame.mono (by decide) (by decide)⟩
        show QLaw Z q0_ q1_ q2_ p3_ p4_ h0 n0 _ T286.heap _
        rw [e286']
        exact ⟨rfl, N287⟩
      · by_cases hv290 : (p4_ &&& (2147483647 : Int32)) = (2 : Int32)
        · have pre291 : ∀ t, Steps p.tables e below (T270.setTop (mkF m 224 #[.val (.long q0_), .second, .val (.long q1_), .second, .val (.long q2_), .second, .val (.int p3_), .val (.int p4_), .val (.int (3 : Int32)), .val (.ref b195), .val (.ref nb1_208), .val (.int (2 : Int32))] [])) t → Steps p.tables e below (s₁.setTop (entryFrame m #[(.long q0_), (.long q1_), (.long q2_), (.int p3_), (.int p4_)] maxLocals)) t := fun t kt => pre273 t (by rw [hv290]; exact kt)
          obtain ⟨cq292, kq292, q292a, q292b, q292c⟩ := isOf hZ e270' f241
          obtain ⟨_, _, ⟨T292, L292, k292, n292⟩, -, X292, ⟨Lc292, hQ292, l292, y292, z292⟩, st292⟩ := X270.virtualBack hx (y := (⟨"com/example/latchkey/latchkey/LockTokens", "get", "(I)J"⟩ : MethodName)) (z := (⟨"com/example/latchkey/latchkey/LockTokens", "get", "(I)J"⟩ : MethodName)) hown (mvT hZ (hw _ (List.mem_of_getElem? (i := 26) rfl))) (mvT hZ (hw _ (List.mem_of_getElem? (i := 27) rfl))) (notFace_of_selects (args := #[]) (mvT hZ (hw _ (List.mem_of_getElem? (i := 29) rfl)))) (mvT hZ (hw _ (List.mem_of_getElem? (i := 29) rfl))) (mvT hZ (hw _ (List.mem_of_getElem? (i := 28) rfl))) (by decide) (backOf (W := 0) (rmget43 l Z a0 hw [] nb1_208 nb5_208 k195 q0_ q1_ q2_ h235 n0 f256 f241 f245 f249 f252) hZ (hw _ (List.mem_of_getElem? (i := 30) rfl)) (hw _ (List.mem_of_getElem? (i := 3) rfl)) (by decide) (by decide)) q292a q292c (g := (mkF m 228 #[.val (.long q0_), .second, .val (.long q1_), .second, .val (.long q2_), .second, .val (.int p3_), .val (.int p4_), .val (.int (3 : Int32)), .val (.ref b195), .val (.ref nb1_208), .val (.int (2 : Int32))] [(.int (2 : Int32)), (.ref nb1_208)])) rfl (by rw [hml]; rfl) (Steps.refl _) (argsL := [(.int (2 : Int32))]) (rest := []) (lenOf pd_2 rfl) rfl (by show 2 * 0 + _ ≤ _; exact Nat.le_of_eq rfl) (hb hby at_228) (fun _ _ => ⟨rfl, e270', (by decide : 3 + 0 ≤ _), (by decide : 7 + 0 ≤ _)⟩)
          dsimp only [Pt.U, Pt.locs, Pt.cells, Pt.slots] at X292 l292 y292 z292 st292 hQ292
          subst l292 y292 z292
          obtain ⟨h292, e292⟩ : ∃ z, T292.heap = z := ⟨_, rfl⟩
          rw [e292] at hQ292
          obtain ⟨rfl, N292q, hh292⟩ := hQ292
          have N293 := Fr.app N271 N292q
          have e292' : T292.heap = h235 := e292.trans hh292
          obtain ⟨_, _, ⟨T294, L294, k294, n294⟩, -, X294, ⟨Lc294, hQ294, l294, y294, z294⟩, st294⟩ := Jvm.LawKit.callS X292 hx (y := (⟨"com/example/latchkey/latchkey/LockTokensOfPinLaw", "expected", "(IIJJJ)J"⟩ : MethodName)) hown (mvT hZ (hw _ (List.mem_of_getElem? (i := 31) rfl))) (mvT hZ (hw _ (List.mem_of_getElem? (i := 32) rfl))) (mvT hZ (hw _ (List.mem_of_getElem? (i := 33) rfl))) (mvT hZ (hw _ (List.mem_of_getElem? (i := 34) rfl))) (by decide) (backOf (W := 2) (rmexpected44 l Z a0 hw [] q0_ q1_ q2_ h235 n0 f256 ) hZ (hw _ (List.mem_of_getElem? (i := 34) rfl)) (hw _ (List.mem_of_getElem? (i := 33) rfl)) (by decide) (by decide)) (g := (mkF m 239 #[.val (.long q0_), .second, .val (.long q1_), .second, .val (.long q2_), .second, .val (.int p3_), .val (.int p4_), .val (.int (3 : Int32)), .val (.ref b195), .val (.ref nb1_208), .val (.int (2 : Int32))] [(.long q2_), (.long q1_), (.long q0_), (.int (3 : Int32)), (.int (2 : Int32)), (.long q2_)])) rfl (by rw [hml]; rfl) (argsL := [(.int (2 : Int32)), (.int (3 : Int32)), (.long q0_), (.long q1_), (.long q2_)]) (rest := [(.long q2_)]) (lenOf pd_3 rfl) rfl (by show 2 * 0 + _ ≤ _; exact Nat.le_of_eq rfl) (hb hby at_239) (fun _ _ => ⟨rfl, e292', (by decide : 3 + 0 ≤ _), (by decide : 7 + 0 ≤ _)⟩)
          dsimp only [Pt.U, Pt.locs, Pt.cells, Pt.slots] at X294 l294 y294 z294 st294 hQ294
          subst l294 y294 z294
          obtain ⟨h294, e294⟩ : ∃ z, T294.heap = z := ⟨_, rfl⟩
          rw [e294] at hQ294
          obtain ⟨rfl, N294q, hh294⟩ := hQ294
          have N295 := Fr.app N293 N294q
          have e294' : T294.heap = h235 := e294.trans hh294
          have pre296 : ∀ t, Steps p.tables e below (T294.setTop (mkF m 251 #[.val (.long q0_), .second, .val (.long q1_), .second, .val (.long q2_), .second, .val (.int p3_), .val (.int p4_), .val (.int (3 : Int32)), .val (.ref b195), .val (.ref nb1_208), .val (.int (2 : Int32))] [(.int (1 : Int32))])) t → Steps p.tables e below (s₁.setTop (entryFrame m #[(.long q0_), (.long q1_), (.long q2_), (.int p3_), (.int p4_)] maxLocals)) t := by
            intro t kt
            refine pre291 t ?_
            show Steps p.tables e below (T270.setTop (mkF m 224 #[.val (.long q0_), .second, .val (.long q1_), .second, .val (.long q2_), .second, .val (.int p3_), .val (.int p4_), .val (.int (3 : Int32)), .val (.ref b195), .val (.ref nb1_208), .val (.int (2 : Int32))] [])) _
            refine XS.aload X270.here hx rfl (hb hby at_224) rfl rfl ?_
            show Steps p.tables e below (T270.setTop (mkF m 226 #[.val (.long q0_), .second, .val (.long q1_), .second, .val (.long q2_), .second, .val (.int p3_), .val (.int p4_), .val (.int (3 : Int32)), .val (.ref b195), .val (.ref nb1_208), .val (.int (2 : Int32))] [(.ref nb1_208)])) _
            refine XS.iload X270.here hx rfl (hb hby at_226) rfl ?_
            show Steps p.tables e below (T270.setTop (mkF m 228 #[.val (.long q0_), .second, .val (.long q1_), .second, .val (.long q2_), .second, .val (.int p3_), .val (.int p4_), .val (.int (3 : Int32)), .val (.ref b195), .val (.ref nb1_208), .val (.int (2 : Int32))] [(.int (2 : Int32)), (.ref nb1_208)])) _
            refine st292.trans ?_
            show Steps p.tables e below (T292.setTop (mkF m 231 #[.val (.long q0_), .second, .val (.long q1_), .second, .val (.long q2_), .second, .val (.int p3_), .val (.int p4_), .val (.int (3 : Int32)), .val (.ref b195), .val (.ref nb1_208), .val (.int (2 : Int32))] [(.long q2_)])) _
            refine XS.iload X292.here hx rfl (hb hby at_231) rfl ?_
            show Steps p.tables e below (T292.setTop (mkF m 233 #[.val (.long q0_), .second, .val (.long q1_), .second, .val (.long q2_), .second, .val (.int p3_), .val (.int p4_), .val (.int (3 : Int32)), .val (.ref b195), .val (.ref nb1_208), .val (.int (2 : Int32))] [(.int (2 : Int32)), (.long q2_)])) _
            refine XS.iload X292.here hx rfl (hb hby at_233) rfl ?_
            show Steps p.tables e below (T292.setTop (mkF m 235 #[.val (.long q0_), .second, .val (.long q1_), .second, .val (.long q2_), .second, .val (.int p3_), .val (.int p4_), .val (.int (3 : Int32)), .val (.ref b195), .val (.ref nb1_208), .val (.int (2 : Int32))] [(.int (3 : Int32)), (.int (2 : Int32)), (.long q2_)])) _
            refine XS.lloadN X292.here hx rfl (hb hby at_235) rfl ?_
            show Steps p.tables e below (T292.setTop (mkF m 236 #[.val (.long q0_), .second, .val (.long q1_), .second, .val (.long q2_), .second, .val (.int p3_), .val (.int p4_), .val (.int (3 : Int32)), .val (.ref b195), .val (.ref nb1_208), .val (.int (2 : Int32))] [(.long q0_), (.int (3 : Int32)), (.int (2 : Int32)), (.long q2_)])) _
            refine XS.lloadN X292.here hx rfl (hb hby at_236) rfl ?_
            show Steps p.tables e below (T292.setTop (mkF m 237 #[.val (.long q0_), .second, .val (.long q1_), .second, .val (.long q2_), .second, .val (.int p3_), .val (.int p4_), .val (.int (3 : Int32)), .val (.ref b195), .val (.ref nb1_208), .val (.int (2 : Int32))] [(.long q1_), (.long q0_), (.int (3 : Int32)), (.int (2 : Int32)), (.long q2_)])) _
            refine XS.lload X292.here hx rfl (hb hby at_237) rfl ?_
            show Steps p.tables e below (T292.setTop (mkF m 239 #[.val (.long q0_), .second, .val (.long q1_), .second, .val (.long q2_), .second, .val (.int p3_), .val (.int p4_), .val (.int (3 : Int32)), .val (.ref b195), .val (.ref nb1_208), .val (.int (2 : Int32))] [(.long q2_), (.long q1_), (.long q0_), (.int (3 : Int32)), (.int (2 : Int32)), (.long q2_)])) _
            refine st294 _ ?_
            show Steps p.tables e below (T294.setTop (mkF m 242 #[.val (.long q0_), .second, .val (.long q1_), .second, .val (.long q2_), .second, .val (.int p3_), .val (.int p4_), .val (.int (3 : Int32)), .val (.ref b195), .val (.ref nb1_208), .val (.int (2 : Int32))] [(.long q2_), (.long q2_)])) _
            refine XS.lcmp X294.here hx rfl (hb hby at_242) rfl ?_
            show Steps p.tables e below (T294.setTop (mkF m 243 #[.val (.long q0_), .second, .val (.long q1_), .second, .val (.long q2_), .second, .val (.int p3_), .val (.int p4_), .val (.int (3 : Int32)), .val (.ref b195), .val (.ref nb1_208), .val (.int (2 : Int32))] [(.int (lcmpW q2_ q2_))])) _
            refine XS.ifNo X294.here hx rfl (hb hby at_243) rfl ((if0 _ _).trans (teq ((lw_eq _ _).mpr (rfl : q2_ = q2_))).2) ?_
            show Steps p.tables e below (T294.setTop (mkF m 246 #[.val (.long q0_), .second, .val (.long q1_), .second, .val (.long q2_), .second, .val (.int p3_), .val (.int p4_), .val (.int (3 : Int32)), .val (.ref b195), .val (.ref nb1_208), .val (.int (2 : Int32))] [])) _
            refine XS.iconst X294.here hx rfl (hb hby at_246) ?_
            show Steps p.tables e below (T294.setTop (mkF m 247 #[.val (.long q0_), .second, .val (.long q1_), .second, .val (.long q2_), .second, .val (.int p3_), .val (.int p4_), .val (.int (3 : Int32)), .val (.ref b195), .val (.ref nb1_208), .val (.int (2 : Int32))] [(.int (1 : Int32))])) _
            refine XS.goto X294.here hx rfl (pc0 := 247) (pc' := 251) rfl (hb hby at_247) (by decide) (by decide) ?_
            exact kt
          obtain ⟨fs, hr, hrun, hended, hW, hsame⟩ := X294.leave (v := some (.int (1 : Int32))) (fun h => by rw [Bd.returns] at h; cases h)
          refine ⟨_, _, pre296 _ (retN X294 hx (t := .boolean) Bd.returns (by simp) (hb hby at_251) hr), hrun, hended, _, _, rfl, ?_, ⟨_, rfl⟩, hW, hsame.mono (by decide) (by decide)⟩
          show QLaw Z q0_ q1_ q2_ p3_ p4_ h0 n0 _ T294.heap _
          rw [e294']
          exact ⟨rfl, N295⟩
        · have hn298 : ¬ ((p4_ &&& (2147483647 : Int32)) < (3 : Int32)) := by
            intro hz
            have lt_0 : ((0 : Int32)).toInt = 0 := rfl
            have lt_1 : ((1 : Int32)).toInt = 1 := rfl
            have lt_2 : ((2 : Int32)).toInt = 2 := rfl
            have lt_3 : ((2147483647 : Int32)).toInt = 2147483647 := rfl
            have lt_4 : ((3 : Int32)).toInt = 3 := rfl
            simp only [Int32.lt_iff_toInt_lt, Int64.lt_iff_toInt_lt, ← Int32.toInt_inj, ← Int64.toInt_inj] at hz hn272 hv274 hv282 hv290
            omega
          obtain ⟨cq299, kq299, q299a, q299b, q299c⟩ := isOf hZ e270' f241
          obtain ⟨_, _, ⟨T299, L299, k299, n299⟩, -, X299, ⟨Lc299, hQ299, l299, y299, z299⟩, st299⟩ := X270.virtualBack hx (y := (⟨"com/example/latchkey/latchkey/LockTokens", "get", "(I)J"⟩ : MethodName)) (z := (⟨"com/example/latchkey/latchkey/LockTokens", "get", "(I)J"⟩ : MethodName)) hown (mvT hZ (hw _ (List.mem_of_getElem? (i := 26) rfl))) (mvT hZ (hw _ (List.mem_of_getElem? (i := 27) rfl))) (notFace_of_selects (args := #[]) (mvT hZ (hw _ (List.mem_of_getElem? (i := 29) rfl)))) (mvT hZ (hw _ (List.mem_of_getElem? (i := 29) rfl))) (mvT hZ (hw _ (List.mem_of_getElem? (i := 28) rfl))) (by decide) (backOf (W := 0) (rmget47 l Z a0 hw [] nb1_208 (p4_ &&& (2147483647 : Int32)) nb5_208 k195 q0_ q1_ q2_ h235 n0 f256 hn272 hv274 hv282 hv290 hn298 f241 f245 f249 f252) hZ (hw _ (List.mem_of_getElem? (i := 30) rfl)) (hw _ (List.mem_of_getElem? (i := 3) rfl)) (by decide) (by decide)) q299a q299c (g := (mkF m 228 #[.val (.long q0_), .second, .val (.long q1_), .second, .val (.long q2_), .second, .val (.int p3_), .val (.int p4_), .val (.int (3 : Int32)), .val (.ref b195), .val (.ref nb1_208), .val (.int (p4_ &&& (2147483647 : Int32)))] [(.int (p4_ &&& (2147483647 : Int32))), (.ref nb1_208)])) rfl (by rw [hml]; rfl) (Steps.refl _) (argsL := [(.int (p4_ &&& (2147483647 : Int32)))]) (rest := []) (lenOf pd_2 rfl) rfl (by show 2 * 0 + _ ≤ _; exact Nat.le_of_eq rfl) (hb hby at_228) (fun _ _ => ⟨rfl, e270', (by decide : 3 + 0 ≤ _), (by decide : 7 + 0 ≤ _)⟩)
          dsimp only [Pt.U, Pt.locs, Pt.cells, Pt.slots] at X299 l299 y299 z299 st299 hQ299
          subst l299 y299 z299
          obtain ⟨h299, e299⟩ : ∃ z, T299.heap = z := ⟨_, rfl⟩
          rw [e299] at hQ299
          obtain ⟨rfl, N299q, hh299⟩ := hQ299
          have N300 := Fr.app N271 N299q
          have e299' : T299.heap = h235 := e299.trans hh299
          obtain ⟨_, _, ⟨T301, L301, k301, n301⟩, -, X301, ⟨Lc301, hQ301, l301, y301, z301⟩, st301⟩ := Jvm.LawKit.callS X299 hx (y := (⟨"com/example/latchkey/latchkey/LockTokensOfPinLaw", "expected", "(IIJJJ)J"⟩ : MethodName)) hown (mvT hZ (hw _ (List.mem_of_getElem? (i := 31) rfl))) (mvT hZ (hw _ (List.mem_of_getElem? (i := 32) rfl))) (mvT hZ (hw _ (List.mem_of_getElem? (i := 33) rfl))) (mvT hZ (hw _ (List.mem_of_getElem? (i := 34) rfl))) (by decide) (backOf (W := 2) (rmexpected48 l Z a0 hw [] (p4_ &&& (2147483647 : Int32)) q0_ q1_ q2_ h235 n0 f256 ) hZ (hw _ (List.mem_of_getElem? (i := 34) rfl)) (hw _ (List.mem_of_getElem? (i := 33) rfl)) (by decide) (by decide)) (g := (mkF m 239 #[.val (.long q0_), .second, .val (.long q1_), .second, .val (.long q2_), .second, .val (.int p3_), .val (.int p4_), .val (.int (3 : Int32)), .val (.ref b195), .val (.ref nb1_208), .val (.int (p4_ &&& (2147483647 : Int32)))] [(.long q2_), (.long q1_), (.long q0_), (.int (3 : Int32)), (.int (p4_ &&& (2147483647 : Int32))), (.long (0 : Int64))])) rfl (by rw [hml]; rfl) (argsL := [(.int (p4_ &&& (2147483647 : Int32))), (.int (3 : Int32)), (.long q0_), (.long q1_), (.long q2_)]) (rest := [(.long (0 : Int64))]) (lenOf pd_3 rfl) rfl (by show 2 * 0 + _ ≤ _; exact Nat.le_of_eq rfl) (hb hby at_239) (fun _ _ => ⟨rfl, e299', (by decide : 3 + 0 ≤ _), (by decide : 7 + 0 ≤ _)⟩)
          dsimp only [Pt.U, Pt.locs, Pt.cells, Pt.slots] at X301 l301 y301 z301 st301 hQ301
          subst l301 y301 z301
          obtain ⟨h301, e301⟩ : ∃ z, T301.heap = z := ⟨_, rfl⟩
          rw [e301] at hQ301
          obtain ⟨rr301, rfl, hs301, N301q, hh301⟩ := hQ301
          have N302 := Fr.app N300 N301q
          have e301' : T301.heap = h235 := e301.trans hh301
          rcases hs301 with ⟨rfl, hq301_0_0, hq301_0_1⟩ | ⟨rfl, hq301_1_0, hq301_1_1, hq301_1_2⟩ | ⟨rfl, hq301_2_0, hq301_2_1, hq301_2_2⟩ | ⟨rfl, hq301_3_0⟩
          · exact absurd hq301_0_1 (by intro hz; have lt_0 : ((0 : Int32)).toInt = 0 := rfl; have lt_1 : ((1 : Int32)).toInt = 1 := rfl; have lt_2 : ((2 : Int32)).toInt = 2 := rfl; have lt_3 : ((2147483647 : Int32)).toInt = 2147483647 := rfl; have lt_4 : ((3 : Int32)).toInt = 3 := rfl; simp only [Int32.lt_iff_toInt_lt, Int64.lt_iff_toInt_lt, ← Int32.toInt_inj, ← Int64.toInt_inj] at hz hn272 hv274 hv282 hv290 hn298 hq301_0_0; omega)
          · exact absurd hq301_1_2 (by intro hz; have lt_0 : ((0 : Int32)).toInt = 0 := rfl; have lt_1 : ((1 : Int32)).toInt = 1 := rfl; have lt_2 : ((2 : Int32)).toInt = 2 := rfl; have lt_3 : ((2147483647 : Int32)).toInt = 2147483647 := rfl; have lt_4 : ((3 : Int32)).toInt = 3 := rfl; simp only [Int32.lt_iff_toInt_lt, Int64.lt_iff_toInt_lt, ← Int32.toInt_inj, ← Int64.toInt_inj] at hz hn272 hq301_1_1 hv282 hv290 hn298 hq301_1_0; omega)
          · exact absurd hq301_2_0 (by intro hz; have lt_0 : ((0 : Int32)).toInt = 0 := rfl; have lt_1 : ((1 : Int32)).toInt = 1 := rfl; have lt_2 : ((2 : Int32)).toInt = 2 := rfl; have lt_3 : ((2147483647 : Int32)).toInt = 2147483647 := rfl; have lt_4 : ((3 : Int32)).toInt = 3 := rfl; simp only [Int32.lt_iff_toInt_lt, Int64.lt_iff_toInt_lt, ← Int32.toInt_inj, ← Int64.toInt_inj] at hz hn272 hv274 hv282 hv290 hn298; omega)
          · have pre303 : ∀ t, Steps p.tables e below (T301.setTop (mkF m 251 #[.val (.long q0_), .second, .val (.long q1_), .second, .val (.long q2_), .second, .val (.int p3_), .val (.int p4_), .val (.int (3 : Int32)), .val (.ref b195), .val (.ref nb1_208), .val (.int (p4_ &&& (2147483647 : Int32)))] [(.int (1 : Int32))])) t → Steps p.tables e below (s₁.setTop (entryFrame m #[(.long q0_), (.long q1_), (.long q2_), (.int p3_), (.int p4_)] maxLocals)) t := by
              intro t kt
              refine pre273 t ?_
              show Steps p.tables e below (T270.setTop (mkF m 224 #[.val (.long q0_), .second, .val (.long q1_), .second, .val (.long q2_), .second, .val (.int p3_), .val (.int p4_), .val (.int (3 : Int32)), .val (.ref b195), .val (.ref nb1_208), .val (.int (p4_ &&& (2147483647 : Int32)))] [])) _
              refine XS.aload X270.here hx rfl (hb hby at_224) rfl rfl ?_
              show Steps p.tables e below (T270.setTop (mkF m 226 #[.val (.long q0_), .second, .val (.long q1_), .second, .val (.long q2_), .second, .val (.int p3_), .val (.int p4_), .val (.int (3 : Int32)), .val (.ref b195), .val (.ref nb1_208), .val (.int (p4_ &&& (2147483647 : Int32)))] [(.ref nb1_208)])) _
              refine XS.iload X270.here hx rfl (hb hby at_226) rfl ?_
              show Steps p.tables e below (T270.setTop (mkF m 228 #[.val (.long q0_), .second, .val (.long q1_), .second, .val (.long q2_), .second, .val (.int p3_), .val (.int p4_), .val (.int (3 : Int32)), .val (.ref b195), .val (.ref nb1_208), .val (.int (p4_ &&& (2147483647 : Int32)))] [(.int (p4_ &&& (2147483647 : Int32))), (.ref nb1_208)])) _
              refine st299.trans ?_
              show Steps p.tables e below (T299.setTop (mkF m 231 #[.val (.long q0_), .second, .val (.long q1_), .second, .val (.long q2_), .second, .val (.int p3_), .val (.int p4_), .val (.int (3 : Int32)), .val (.ref b195), .val (.ref nb1_208), .val (.int (p4_ &&& (2147483647 : Int32)))] [(.long (0 : Int64))])) _
              refine XS.iload X299.here hx rfl (hb hby at_231) rfl ?_
              show Steps p.tables e below (T299.setTop (mkF m 233 #[.val (.long q0_), .second, .val (.long q1_), .second, .val (.long q2_), .second, .val (.int p3_), .val (.int p4_), .val (.int (3 : Int32)), .val (.ref b195), .val (.ref nb1_208), .val (.int (p4_ &&& (2147483647 : Int32)))] [(.int (p4_ &&& (2147483647 : Int32))), (.long (0 : Int64))])) _
              refine XS.iload X299.here hx rfl (hb hby at_233) rfl ?_
              show Steps p.tables e below (T299.setTop (mkF m 235 #[.val (.long q0_), .second, .val (.long q1_), .second, .val (.long q2_), .second, .val (.int p3_), .val (.int p4_), .val (.int (3 : Int32)), .val (.ref b195), .val (.ref nb1_208), .val (.int (p4_ &&& (2147483647 : Int32)))] [(.int (3 : Int32)), (.int (p4_ &&& (2147483647 : Int32))), (.long (0 : Int64))])) _
              refine XS.lloadN X299.here hx rfl (hb hby at_235) rfl ?_
              show Steps p.tables e below (T299.setTop (mkF m 236 #[.val (.long q0_), .second, .val (.long q1_), .second, .val (.long q2_), .second, .val (.int p3_), .val (.int p4_), .val (.int (3 : Int32)), .val (.ref b195), .val (.ref nb1_208), .val (.int (p4_ &&& (2147483647 : Int32)))] [(.long q0_), (.int (3 : Int32)), (.int (p4_ &&& (2147483647 : Int32))), (.long (0 : Int64))])) _
              refine XS.lloadN X299.here hx rfl (hb hby at_236) rfl ?_
              show Steps p.tables e below (T299.setTop (mkF m 237 #[.val (.long q0_), .second, .val (.long q1_), .second, .val (.long q2_), .second, .val (.int p3_), .val (.int p4_), .val (.int (3 : Int32)), .val (.ref b195), .val (.ref nb1_208), .val (.int (p4_ &&& (2147483647 : Int32)))] [(.long q1_), (.long q0_), (.int (3 : Int32)), (.int (p4_ &&& (2147483647 : Int32))), (.long (0 : Int64))])) _
              refine XS.lload X299.here hx rfl (hb hby at_237) rfl ?_
              show Steps p.tables e below (T299.setTop (mkF m 239 #[.val (.long q0_), .second, .val (.long q1_), .second, .val (.long q2_), .second, .val (.int p3_), .val (.int p4_), .val (.int (3 : Int32)), .val (.ref b195), .val (.ref nb1_208), .val (.int (p4_ &&& (2147483647 : Int32)))] [(.long q2_), (.long q1_), (.long q0_), (.int (3 : Int32)), (.int (p4_ &&& (2147483647 : Int32))), (.long (0 : Int64))])) _
              refine st301 _ ?_
              show Steps p.tables e below (T301.setTop (mkF m 242 #[.val (.long q0_), .second, .val (.long q1_), .second, .val (.long q2_), .second, .val (.int p3_), .val (.int p4_), .val (.int (3 : Int32)), .val (.ref b195), .val (.ref nb1_208), .val (.int (p4_ &&& (2147483647 : Int32)))] [(.long (0 : Int64)), (.long (0 : Int64))])) _
              refine XS.lcmp X301.here hx rfl (hb hby at_242) rfl ?_
              show Steps p.tables e below (T301.setTop (mkF m 243 #[.val (.long q0_), .second, .val (.long q1_), .second, .val (.long q2_), .second, .val (.int p3_), .val (.int p4_), .val (.int (3 : Int32)), .val (.ref b195), .val (.ref nb1_208), .val (.int (p4_ &&& (2147483647 : Int32)))] [(.int (lcmpW (0 : Int64) (0 : Int64)))])) _
              refine XS.ifNo X301.here hx rfl (hb hby at_243) rfl ((if0 _ _).trans (teq ((lw_eq _ _).mpr (by decide : (0 : Int64) = (0 : Int64)))).2) ?_
              show Steps p.tables e below (T301.setTop (mkF m 246 #[.val (.long q0_), .second, .val (.long q1_), .second, .val (.long q2_), .second, .val (.int p3_), .val (.int p4_), .val (.int (3 : Int32)), .val (.ref b195), .val (.ref nb1_208), .val (.int (p4_ &&& (2147483647 : Int32)))] [])) _
              refine XS.iconst X301.here hx rfl (hb hby at_246) ?_
              show Steps p.tables e below (T301.setTop (mkF m 247 #[.val (.long q0_), .second, .val (.long q1_), .second, .val (.long q2_), .second, .val (.int p3_), .val (.int p4_), .val (.int (3 : Int32)), .val (.ref b195), .val (.ref nb1_208), .val (.int (p4_ &&& (2147483647 : Int32)))] [(.int (1 : Int32))])) _
              refine XS.goto X301.here hx rfl (pc0 := 247) (pc' := 251) rfl (hb hby at_247) (by decide) (by decide) ?_
              exact kt
            obtain ⟨fs, hr, hrun, hended, hW, hsame⟩ := X301.leave (v := some (.int (1 : Int32))) (fun h => by rw [Bd.returns] at h; cases h)
            refine ⟨_, _, pre303 _ (retN X301 hx (t := .boolean) Bd.returns (by simp) (hb hby at_251) hr), hrun, hended, _, _, rfl, ?_, ⟨_, rfl⟩, hW, hsame.mono (by decide) (by decide)⟩
            show QLaw Z q0_ q1_ q2_ p3_ p4_ h0 n0 _ T301.heap _
            rw [e301']
            exact ⟨rfl, N302⟩
set_option maxRecDepth 65536 in
set_option maxHeartbeats 40000000 in
theorem comes_1 {Post : Tables → Env → Array Value → State → Outcome → State → Prop} (hpost : ∀ tb e args s v u, (limb_1_1.after args s (.returned v) u = true ∧ limb_1_2.after args s (.returned v) u = true ∧ True) → FrameEnd s (.returned v) u (Jvm.fieldLocs frame_1_writes args s ++ Jvm.arrayLocs frame_1_arrays args s ++ Jvm.staticLocs frame_1_statics s) 16 128 → Post tb e args s (.returned v) u) :
    ArmFor flags0 classFile x code maxLocals ret World_1 tables_1 room_1 Calls_1 rest_1 Pre_1 Post := by
  intro l hfl _ _ p e ha hc hk s m args below hf hA hF happ hP
  obtain ⟨hcalls, hrest, hpre⟩ := hP
  obtain ⟨-, -, -, hnamed, -, -, -, hat⟩ := (Spec.applies_iff hf).mp happ
  obtain ⟨hg, hn⟩ := and_e (Cond.before_iff.mp (show (Jvm.Cond.and given_1 narrow_1).before args s = true from hpre))
  obtain ⟨g1, g2⟩ := and_e hg
  obtain ⟨g3, g4⟩ := and_e g2
  obtain ⟨g5, g6⟩ := and_e g4
  obtain ⟨g7, g8⟩ := and_e g6
  obtain ⟨g9, g10⟩ := and_e g8
  obtain ⟨w0, w1, w2, w3, w4, rfl⟩ : ∃ w0 w1 w2 w3 w4 : Value, args = #[w0, w1, w2, w3, w4] := by
    have hs : args.size = 5 := by simpa [Cond.value, given_1] using g1
    obtain ⟨L⟩ := args
    match L, hs with
    | [w0, w1, w2, w3, w4], _ => exact ⟨w0, w1, w2, w3, w4, rfl⟩
  have hw := fun d (hd : d ∈ tables_1) => atoms_spec (ws := Jvm.Cond.code x code maxLocals ret :: tables_1) hat d (List.mem_cons_of_mem _ hd)
  have hfit : Fit s := fun {y c} hc i hi => by
    obtain ⟨ha, rfl⟩ := Array.getElem?_eq_some_iff.mp hc
    have q := List.all_eq_true.mp ((Array.all_eq_true_iff_forall_mem.mp hF) _ (Array.getElem_mem ha)) i (List.mem_range.mpr hi)
    simpa [Array.getElem?_eq_getElem hi] using q
  obtain ⟨i0, ei0⟩ := isL_v g3
  obtain rfl : w0 = (.long i0) := Option.some.inj ei0
  obtain ⟨i1, ei1⟩ := isL_v g5
  obtain rfl : w1 = (.long i1) := Option.some.inj ei1
  obtain ⟨i2, ei2⟩ := isL_v g7
  obtain rfl : w2 = (.long i2) := Option.some.inj ei2
  obtain ⟨i3, ei3⟩ := is_v g9
  obtain rfl : w3 = (.int i3) := Option.some.inj ei3
  obtain ⟨i4, ei4⟩ := is_v g10
  obtain rfl : w4 = (.int i4) := Option.some.inj ei4
  obtain ⟨n, o, h1, h2, h3, _, L, rfl, ⟨rfl, N⟩, hq⟩ := rmLaw l s _ hw tables_1 i0 i1 i2 i3 i4 s.heap s.heap.size (Old.start s)  p e ha hc hk s m _ below hf ((Spec.applies_iff_loose hf).mp happ).1 ⟨rfl, State.Warmed39.refl s, rfl⟩ trivial
  refine ⟨n, _, h1, h2, h3, hpost _ _ _ _ _ _ ⟨Cond.after_iff.mpr rfl, Cond.after_iff.mpr (eq_i res_at (Term.int_eval (1)) rfl), trivial⟩ ⟨hq.1, hq.2.1, (hq.2.2.sift fun y hy => Or.inr (N y hy)).mono (by decide) (by decide)⟩⟩
theorem main_1_1 : Claimed_1_1 := comes_1 fun _ _ _ _ _ _ h hF => ⟨h.1, hF⟩
theorem main_1_2 : Claimed_1_2 := comes_1 fun _ _ _ _ _ _ h hF => ⟨h.2.1, hF⟩
end Jvm.Pilot.@@N@@
namespace Jvm.Pilot.@@N@@
open Jvm Jvm.ClassFile Sem Op Lib Jvm.Free Jvm.Stand Jvm.Pilot.@@N@@.Jvm.D
/-! MADE BY PROGRAM (witnessworld.py) out of the Statement's table words and the real class files: 11 classes; the members and pool entries that the words name. The judged class is class 1, her method 1. -/
namespace start1
open Jvm.ClassFile
def u (s : String) : CpInfo := .utf8 (stringToUtf16 s)
/-- a pool by its gaps: so many unusable entries, then the entry; so many at the end -/
def gap : Nat → List CpInfo → List CpInfo
  | 0, r => r
  | n + 1, r => .unusable :: gap n r
def poolList (es : List (Nat × CpInfo)) (last : Nat) : List CpInfo := es.foldr (fun e r => gap e.1 (e.2 :: r)) (gap last [])
def pool (es : List (Nat × CpInfo)) (last : Nat) : Array CpInfo := ⟨poolList es last⟩
def fileOf (pool : Array CpInfo) (this : Nat) (attrs : Array Attribute := #[]) (ms : Array MethodInfo := #[]) (fl : Nat := 33) (sup : Nat := 0) (ifs : Array Nat := #[]) (fds : Array FieldInfo := #[]) : ClassFile where
  minorVersion := 0
  majorVersion := 65
  constantPool := pool
  accessFlags := fl
  thisClass := this
  superClass := sup
  interfaces := ifs
  fields := fds
  methods := ms
  attributes := attrs
def plain (name : String) (sup : Option ClassId) : Class where
  name := name
  kind := .ordinary
  loader := none
  accessFlags := 33
  super := sup
  interfaces := #[]
  cf := none
  fields := #[]
  methods := #[]
  instanceTypes := #[]
  staticTypes := #[]
  resolved := #[]
  callSites := []
  init := .initialized
  statics := none
  mirror := none

def pool0 : Array CpInfo := pool [(5, u "<init>"), (0, u "()V"), (1, .class_ 10), (1, u "java/lang/Object"), (85, u "clone"), (0, u "()Ljava/lang/Object;")] 26

def k0c0 : Code := { maxStack := 0, maxLocals := 1, code := object_method_1_code, exceptionTable := #[], attributes := #[] }
def k0m0 : Method := { name := "<init>", desc := "()V", sig := { parameters := [], returnType := none }, accessFlags := 1, code := some k0c0 }
def k0m1 : Method := { name := "clone", desc := "()Ljava/lang/Object;", sig := { parameters := [], returnType := some (.object "java/lang/Object") }, accessFlags := 260, code := none }
/-- java/lang/Object -/
def k0 : Class := { plain "java/lang/Object" none with
  accessFlags := 33
  interfaces := #[]
  cf := some (fileOf pool0 8 #[] #[{ accessFlags := 1, nameIndex := 5, descriptorIndex := 6, attributes := #[] }, { accessFlags := 260, nameIndex := 96, descriptorIndex := 97, attributes := #[] }] 33 0 #[] #[])
  fields := #[]
  methods := #[k0m0, k0m1]
  instanceTypes := #[]
  staticTypes := #[]
  resolved := Array.replicate 124 none
  statics := none }

def pool1 : Array CpInfo := pool [(2, .class_ 4), (1, u "java/lang/Object"), (0, u "<init>"), (0, u "()V"), (0, .methodref 8 9), (0, .class_ 10), (0, .nameAndType 11 12), (0, u "com/example/latchkey/latchkey/LockTokens"), (0, u "of"), (0, u "([J)Lcom/example/latchkey/latchkey/LockTokens;"), (0, .long 18446744073709551615), (1, .integer 2147483647), (0, .methodref 8 17), (0, .nameAndType 18 19), (0, u "get"), (0, u "(I)J"), (0, .methodref 21 22), (0, .class_ 23), (0, .nameAndType 24 25), (0, u "com/example/latchkey/latchkey/LockTokensOfPinLaw"), (0, u "expected"), (0, u "(IIJJJ)J"), (4, u "law"), (0, u "(JJJII)Z")] 5

def k1m0 : Method := { name := "<init>", desc := "()V", sig := { parameters := [], returnType := none }, accessFlags := 1, code := none }
def k1c1 : Code := { maxStack := 10, maxLocals := 12, code := code, exceptionTable := #[], attributes := #[] }
def k1m1 : Method := { name := "law", desc := "(JJJII)Z", sig := { parameters := [.long, .long, .long, .int, .int], returnType := some .boolean }, accessFlags := 9, code := some k1c1 }
def k1c2 : Code := { maxStack := 2, maxLocals := 8, code := method_3_code, exceptionTable := #[], attributes := #[] }
def k1m2 : Method := { name := "expected", desc := "(IIJJJ)J", sig := { parameters := [.int, .int, .long, .long, .long], returnType := some .long }, accessFlags := 10, code := some k1c2 }
/-- com/example/latchkey/latchkey/LockTokensOfPinLaw -/
def k1 : Class := { plain "com/example/latchkey/latchkey/LockTokensOfPinLaw" (some 0) with
  accessFlags := 49
  interfaces := #[]
  cf := some (fileOf pool1 21 #[] #[{ accessFlags := 1, nameIndex := 5, descriptorIndex := 6, attributes := #[] }, { accessFlags := 9, nameIndex := 30, descriptorIndex := 31, attributes := #[] }, { accessFlags := 10, nameIndex := 24, descriptorIndex := 25, attributes := #[] }] 49 2 #[] #[])
  fields := #[]
  methods := #[k1m0, k1m1, k1m2]
  instanceTypes := #[]
  staticTypes := #[]
  resolved := Array.replicate 37 none
  statics := none }

def pool2 : Array CpInfo := pool [(1, .methodref 2 3), (0, .class_ 4), (0, .nameAndType 5 6), (0, u "java/lang/Object"), (0, u "<init>"), (0, u "()V"), (0, .fieldref 8 9), (0, .class_ 10), (0, .nameAndType 11 12), (0, u "com/example/latchkey/latchkey/LockTokens"), (0, u "tokens"), (0, u "[J"), (0, .methodref 14 15), (0, .class_ 12), (0, .nameAndType 16 17), (0, u "clone"), (0, u "()Ljava/lang/Object;"), (0, .methodref 8 19), (0, .nameAndType 5 20), (0, u "([J)V"), (16, u "NONE"), (0, u "Lcom/example/latchkey/latchkey/LockTokens;"), (2, u "of"), (0, u "([J)Lcom/example/latchkey/latchkey/LockTokens;"), (0, u "get"), (0, u "(I)J")] 6

def k2c0 : Code := { maxStack := 2, maxLocals := 2, code := prog_31_method_1_code, exceptionTable := #[], attributes := #[] }
def k2m0 : Method := { name := "<init>", desc := "([J)V", sig := { parameters := [(.array .long)], returnType := none }, accessFlags := 2, code := some k2c0 }
def k2c1 : Code := { maxStack := 3, maxLocals := 1, code := prog_31_method_2_code, exceptionTable := #[], attributes := #[] }
def k2m1 : Method := { name := "of", desc := "([J)Lcom/example/latchkey/latchkey/LockTokens;", sig := { parameters := [(.array .long)], returnType := some (.object "com/example/latchkey/latchkey/LockTokens") }, accessFlags := 136, code := some k2c1 }
def k2c2 : Code := { maxStack := 2, maxLocals := 2, code := prog_31_method_3_code, exceptionTable := #[], attributes := #[] }
def k2m2 : Method := { name := "get", desc := "(I)J", sig := { parameters := [.int], returnType := some .long }, accessFlags := 0, code := some k2c2 }
/-- com/example/latchkey/latchkey/LockTokens -/
def k2 : Class := { plain "com/example/latchkey/latchkey/LockTokens" (some 0) with
  accessFlags := 48
  interfaces := #[]
  cf := some (fileOf pool2 8 #[] #[{ accessFlags := 2, nameIndex := 5, descriptorIndex := 20, attributes := #[] }, { accessFlags := 136, nameIndex := 41, descriptorIndex := 42, attributes := #[] }, { accessFlags := 0, nameIndex := 43, descriptorIndex := 44, attributes := #[] }] 48 2 #[] #[{ accessFlags := 24, nameIndex := 37, descriptorIndex := 38, attributes := #[] }, { accessFlags := 18, nameIndex := 11, descriptorIndex := 12, attributes := #[] }])
  fields := #[{ name := "NONE", type := (.object "com/example/latchkey/latchkey/LockTokens"), accessFlags := 24, slot := 0, constantValue := 0 }, { name := "tokens", type := (.array .long), accessFlags := 18, slot := 0, constantValue := 0 }]
  methods := #[k2m0, k2m1, k2m2]
  instanceTypes := #[(.array .long)]
  staticTypes := #[(.object "com/example/latchkey/latchkey/LockTokens")]
  resolved := Array.replicate 51 none
  statics := none }

def pool3 : Array CpInfo := pool [(1, .class_ 2), (0, u "java/lang/Cloneable"), (0, .class_ 4), (0, u "java/lang/Object")] 2

/-- java/lang/Cloneable -/
def k3 : Class := { plain "java/lang/Cloneable" (some 0) with
  accessFlags := 1537
  interfaces := #[]
  cf := some (fileOf pool3 1 #[] #[] 1537 3 #[] #[])
  fields := #[]
  methods := #[]
  instanceTypes := #[]
  staticTypes := #[]
  resolved := Array.replicate 7 none
  statics := none }

def pool4 : Array CpInfo := pool [(1, u "java/io/Serializable"), (0, .class_ 1), (0, u "java/lang/Object"), (0, .class_ 3)] 3

/-- java/io/Serializable -/
def k4 : Class := { plain "java/io/Serializable" (some 0) with
  accessFlags := 1537
  interfaces := #[]
  cf := some (fileOf pool4 2 #[] #[] 1537 4 #[] #[])
  fields := #[]
  methods := #[]
  instanceTypes := #[]
  staticTypes := #[]
  resolved := Array.replicate 8 none
  statics := none }

/-- the primitive byte -/
def k5 : Class := { plain "byte" none with kind := .primitive 'B', accessFlags := 0x411 }
/-- [B -/
def k6 : Class := { plain "[B" (some 0) with kind := .array 5 .byte, interfaces := #[3, 4], accessFlags := 1041 }

/-- the primitive int -/
def k7 : Class := { plain "int" none with kind := .primitive 'I', accessFlags := 0x411 }
/-- [I -/
def k8 : Class := { plain "[I" (some 0) with kind := .array 7 .int, interfaces := #[3, 4], accessFlags := 1041 }

/-- the primitive long -/
def k9 : Class := { plain "long" none with kind := .primitive 'J', accessFlags := 0x411 }
/-- [J -/
def k10 : Class := { plain "[J" (some 0) with kind := .array 9 .long, interfaces := #[3, 4], accessFlags := 1041 }

def heap : Heap := #[]
def classes : Array Class := #[k0, k1, k2, k3, k4, k5, k6, k7, k8, k9, k10]
def interned : List (Array UInt16 × Addr) := []
def slotsUsed : Nat := 0
def theMethod : MethodId := ⟨1, 1⟩
def args0 : Array Value := #[.long 5, .long 7, .long 2, .int 2, .int 1]
def aboutOver (below : List Frame) : State where
  vm := { classes := classes, interned := interned.toArray }
  heap := heap
  slotsUsed := slotsUsed
  threads := #[{ frames := .invoking theMethod args0 :: below }]
def below0 : List Frame := [.native { method := ⟨0, 0⟩, args := #[] }]
def about1 : State := aboutOver below0
def p0 : Program := .bare "" "" ""
def e0 : Env := launch0.env 0 0 0
theorem w_frames : about1.frames = Frame.invoking theMethod args0 :: below0 := rfl
set_option maxRecDepth 65536 in
theorem w_args : argsFit about1.vm theMethod args0 = true := by decide +kernel
set_option maxRecDepth 65536 in
theorem w_heap : heapFits about1 = true := by decide +kernel
set_option maxRecDepth 65536 in
theorem w_runnable : about1.curStatus? = some .runnable := by decide +kernel
set_option maxRecDepth 65536 in
theorem w_alone : about1.alone = true := by decide +kernel
set_option maxRecDepth 65536 in
theorem w_named : about1.methodNamed? x = some theMethod := by decide +kernel
set_option maxRecDepth 65536 in
theorem w_hears : about1.hears theMethod below0 = true := by decide +kernel
set_option maxRecDepth 65536 in
theorem w_ripe : about1.ripe theMethod args0 below0 = true := by decide +kernel
theorem w_running : about1.status = .running := rfl
set_option maxRecDepth 65536 in
theorem w_room : about1.hasRoom e0.platform room_1 = true :=
  launch0.hasRoom_least _ room_1 (by decide +kernel) (by decide +kernel) (by decide +kernel) (by decide +kernel) (by decide +kernel) (by decide +kernel)
theorem allAtoms_all (ts : List Jvm.Cond) (a : Array Jvm.Value) (st : Jvm.State) : (allAtoms ts).before a st = ts.all (fun c => c.before a st) := by
  induction ts with
  | nil => rfl
  | cons c t ih =>
    show (Jvm.Cond.and c (allAtoms t)).before a st = _
    rw [Jvm.Cond.before_and, ih, List.all_cons]
def words1 : List Jvm.Cond := Jvm.Cond.code x code maxLocals ret :: tables_1
/-- a 'code' word, met by the world's own term for the bytes: nothing is compared byte by byte -/
theorem code_word {y : MethodName} {bytes : ByteArray} {mx : Nat} {rt : Option FieldType} {a : Array Value} {s : State} {m : MethodId} {meth : Method} {c : Code} (h1 : s.methodNamed? y = some m) (h2 : s.vm.method? m = some meth) (h3 : meth.code = some c) (h4 : c.code = bytes)
    (h5 : (c.maxLocals == mx && c.exceptionTable.isEmpty && decide (c.maxStack ≤ mostOperands) && decide (meth.sig.returnType = rt) && !meth.locks && decide (parseMethodDescriptor y.desc = some meth.sig)) = true) : (Jvm.Cond.code y bytes mx rt).before a s = true := by
  simp only [Bool.and_eq_true, beq_iff_eq, Bool.not_eq_true', decide_eq_true_eq] at h5
  obtain ⟨⟨⟨⟨⟨g1, g2⟩, g3⟩, g4⟩, g5⟩, g6⟩ := h5
  simp [Cond.before, Cond.holds, Cond.value, h1, h2, h3, h4, g1, g2, g3, g4, g5, g6]
def isCode : Jvm.Cond → Bool
  | .code _ _ _ _ => true
  | _ => false
theorem all_split {L : List Jvm.Cond} {P : Jvm.Cond → Bool} (h1 : L.all (fun c => isCode c || P c) = true) (h2 : ∀ c ∈ L.filter isCode, P c = true) : L.all P = true := by
  refine List.all_eq_true.mpr fun c hc => ?_
  have h := List.all_eq_true.mp h1 c hc
  rcases Bool.eq_false_or_eq_true (isCode c) with hi | hi
  · exact h2 c (List.mem_filter.mpr ⟨hc, hi⟩)
  · simpa [hi] using h
set_option maxRecDepth 65536 in
theorem w_c0 : (Jvm.Cond.code x code maxLocals ret).before args0 about1 = true := code_word (m := ⟨1, 1⟩) (meth := k1m1) (c := k1c1) (by decide +kernel) rfl rfl rfl (by decide +kernel)
set_option maxRecDepth 65536 in
theorem w_c1 : (Jvm.Cond.code ({ cls := "com/example/latchkey/latchkey/LockTokens", name := "of", desc := "([J)Lcom/example/latchkey/latchkey/LockTokens;" } : Jvm.MethodName) prog_31_method_2_code (1 : Nat) (Option.some (Jvm.ClassFile.FieldType.object "com/example/latchkey/latchkey/LockTokens"))).before args0 about1 = true := code_word (m := ⟨2, 1⟩) (meth := k2m1) (c := k2c1) (by decide +kernel) rfl rfl rfl (by decide +kernel)
set_option maxRecDepth 65536 in
theorem w_c2 : (Jvm.Cond.code ({ cls := "com/example/latchkey/latchkey/LockTokens", name := "<init>", desc := "([J)V" } : Jvm.MethodName) prog_31_method_1_code (2 : Nat) (Option.none : Option Jvm.ClassFile.FieldType)).before args0 about1 = true := code_word (m := ⟨2, 0⟩) (meth := k2m0) (c := k2c0) (by decide +kernel) rfl rfl rfl (by decide +kernel)
set_option maxRecDepth 65536 in
theorem w_c3 : (Jvm.Cond.code ({ cls := "java/lang/Object", name := "<init>", desc := "()V" } : Jvm.MethodName) object_method_1_code (1 : Nat) (Option.none : Option Jvm.ClassFile.FieldType)).before args0 about1 = true := code_word (m := ⟨0, 0⟩) (meth := k0m0) (c := k0c0) (by decide +kernel) rfl rfl rfl (by decide +kernel)
set_option maxRecDepth 65536 in
theorem w_c4 : (Jvm.Cond.code ({ cls := "com/example/latchkey/latchkey/LockTokens", name := "get", desc := "(I)J" } : Jvm.MethodName) prog_31_method_3_code (2 : Nat) (Option.some Jvm.ClassFile.FieldType.long)).before args0 about1 = true := code_word (m := ⟨2, 2⟩) (meth := k2m2) (c := k2c2) (by decide +kernel) rfl rfl rfl (by decide +kernel)
set_option maxRecDepth 65536 in
theorem w_c5 : (Jvm.Cond.code ({ cls := "com/example/latchkey/latchkey/LockTokensOfPinLaw", name := "expected", desc := "(IIJJJ)J" } : Jvm.MethodName) method_3_code (8 : Nat) (Option.some Jvm.ClassFile.FieldType.long)).before args0 about1 = true := code_word (m := ⟨1, 2⟩) (meth := k1m2) (c := k1c2) (by decide +kernel) rfl rfl rfl (by decide +kernel)
def codes1 : List Jvm.Cond := [Jvm.Cond.code x code maxLocals ret, Jvm.Cond.code ({ cls := "com/example/latchkey/latchkey/LockTokens", name := "of", desc := "([J)Lcom/example/latchkey/latchkey/LockTokens;" } : Jvm.MethodName) prog_31_method_2_code (1 : Nat) (Option.some (Jvm.ClassFile.FieldType.object "com/example/latchkey/latchkey/LockTokens")), Jvm.Cond.code ({ cls := "com/example/latchkey/latchkey/LockTokens", name := "<init>", desc := "([J)V" } : Jvm.MethodName) prog_31_method_1_code (2 : Nat) (Option.none : Option Jvm.ClassFile.FieldType), Jvm.Cond.code ({ cls := "java/lang/Object", name := "<init>", desc := "()V" } : Jvm.MethodName) object_method_1_code (1 : Nat) (Option.none : Option Jvm.ClassFile.FieldType), Jvm.Cond.code ({ cls := "com/example/latchkey/latchkey/LockTokens", name := "get", desc := "(I)J" } : Jvm.MethodName) prog_31_method_3_code (2 : Nat) (Option.some Jvm.ClassFile.FieldType.long), Jvm.Cond.code ({ cls := "com/example/latchkey/latchkey/LockTokensOfPinLaw", name := "expected", desc := "(IIJJJ)J" } : Jvm.MethodName) method_3_code (8 : Nat) (Option.some Jvm.ClassFile.FieldType.long)]
set_option maxRecDepth 65536 in
theorem codes_eq : words1.filter isCode = codes1 := rfl
theorem w_codes : ∀ c ∈ words1.filter isCode, c.before args0 about1 = true := by
  rw [codes_eq]
  intro c hc
  simp only [codes1, List.mem_cons, List.not_mem_nil, or_false] at hc
  rcases hc with rfl | rfl | rfl | rfl | rfl | rfl
  · exact w_c0
  · exact w_c1
  · exact w_c2
  · exact w_c3
  · exact w_c4
  · exact w_c5
set_option maxRecDepth 65536 in
theorem w_t1 : (words1.take 24).all (fun c => isCode c || c.before args0 about1) = true := by decide +kernel
set_option maxRecDepth 65536 in
theorem w_t2 : (words1.drop 24).all (fun c => isCode c || c.before args0 about1) = true := by decide +kernel
theorem w_tables : (allAtoms (Jvm.Cond.code x code maxLocals ret :: tables_1)).before args0 about1 = true := by
  rw [allAtoms_all]
  show words1.all (fun c => c.before args0 about1) = true
  refine all_split ?_ w_codes
  rw [← List.take_append_drop 24 words1, List.all_append, w_t1, w_t2]
  rfl
set_option maxRecDepth 65536 in
theorem w_case : (Jvm.Cond.and given_1 narrow_1).before args0 about1 = true := by decide +kernel
theorem w_applies : (headSpec (Jvm.Cond.code x code maxLocals ret :: tables_1) room_1).applies x e0.platform about1 = true :=
  (Spec.applies_iff w_frames).mpr ⟨w_running, w_runnable, w_alone, w_named, w_hears, w_ripe, w_room, w_tables⟩
theorem atStart : AtStart classFile x code maxLocals ret World_1 tables_1 room_1 Calls_1 rest_1 Pre_1 launch0 p0 e0 about1 theMethod args0 below0 :=
  ⟨lists_1, trivial, launch0.admits_env _ _ _, launch0.least_env, fairChoices_fair.cas, fairChoices_fair.clock, w_frames, w_args, w_heap, w_applies, trivial, trivial, w_case⟩
end start1
theorem witness_1 : WitnessClaimed_1 := ⟨start1.p0, start1.e0, start1.about1, start1.theMethod, start1.args0, start1.below0, start1.atStart⟩
end Jvm.Pilot.@@N@@
