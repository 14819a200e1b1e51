import JvmDerived
import JvmDerived.Pilot.@@N@@Statement
import JvmDerived.Pilot.@@N@@Code
set_option linter.unusedVariables false
set_option linter.unusedSimpArgs false
namespace Jvm.Pilot.@@N@@
open Jvm Jvm.ClassFile Sem Op Lib Jvm.Free Jvm.Stand Jvm.LawKit Jvm.RoadKit Bundle Jvm.Pilot.@@N@@.Jvm.D
theorem own_eqi {args : Array Value} {s : State} {t : Term} {k : Int32} (h : (Jvm.Cond.eq t (.int k)).value args s none s [] = some true) : t.eval args s none [] s = some (.int k) := by
  simp only [Cond.value, Term.eval] at h
  cases ht : t.eval args s none [] s with
  | none => simp [ht] at h
  | some x => cases x <;> simp [ht] at h ⊢ <;> exact h
theorem own_len {args : Array Value} {s : State} {t : Term} {a : Addr} {cl : Cell} {ty : FieldType} {n : Int32} (h : (Jvm.Cond.eq (.length t) (.int n)).value args s none s [] = some true) (ht : t.eval args s none [] s = some (.ref a)) (A : Arr s s.heap a cl ty) : cl.slots.size < 2 ^ 31 ∧ cl.slots.size.toInt32 = n := by
  have e := own_eqi h
  have q := A.fin (Vm.Alike.refl _)
  simp only [Term.eval, ht, q, Option.bind_eq_bind, Option.bind_some] at e
  split at e
  · rename_i q'
    exact ⟨q', Value.int.inj (Option.some.inj e)⟩
  · cases e
theorem own_and7 (x : Int32) : ¬ ((x &&& (7 : Int32)) < (0 : Int32)) := by
  have h := c_mask x 7 3 (by decide) (by decide)
  rw [Int32.lt_iff_toInt_lt, h]
  show ¬ (_ < (0 : Int))
  omega
theorem d1_0 : decode jdk_30_method_1_code 0 = .ok (.aload_n 0, 1) := by decide +kernel
theorem d1_1 : decode jdk_30_method_1_code 1 = .ok (.invokespecial 1, 3) := by decide +kernel
theorem d1_4 : decode jdk_30_method_1_code 4 = .ok (.return_, 1) := by decide +kernel
theorem pn_0 : plainName "java/lang/Record" = true := by first | (simp [plainName, overriddenIn]; done) | decide +kernel
theorem efRec (m : MethodId) (a0_ : Addr) : entryFrame m #[(.ref a0_)] 1 = mkF m 0 #[.val (.ref a0_)] [] := by first | (simp [entryFrame, mkF, argsToLocals, Value.category]; done) | rfl
def QRec (Z : State) (a0_ : Addr) (h0 : Heap) (n0 : Nat) (v : Option Value) (h : Heap) (L : List Loc) : Prop := v = none ∧ Fr n0 L ∧ h = h0
set_option maxRecDepth 65536 in
set_option maxHeartbeats 40000000 in
theorem rmRec (l : Launch) (Z : State) (a0 : Array Value) (hw : ∀ d ∈ tables_1, d.before a0 Z = true) (ws : List Jvm.Cond) (a0_ : Addr) (h0 : Heap) (n0 : Nat) (O0 : Old Z n0 h0)  :
    MetFree l (⟨"java/lang/Record", "<init>", "()V"⟩ : MethodName) (head1 (Jvm.Cond.code (⟨"java/lang/Record", "<init>", "()V"⟩ : MethodName) jdk_30_method_1_code 1 none :: ws) ({ frames := 1, cells := 0, slots := 0, locals := 12 } : Room)) (fun a U => a = #[(.ref a0_)] ∧ Z.Warmed39 U.vm ∧ U.heap = h0) (fun _ _ _ _ _ => True) (fun _ U o U' => ∃ v L, o = .returned v ∧ QRec Z a0_ h0 n0 v U'.heap L ∧ FrameEnd U o U' L ({ frames := 1, cells := 0, slots := 0, locals := 12 } : Room).cells ({ frames := 1, cells := 0, slots := 0, locals := 12 } : Room).slots) := by
  refine MetFree.of_bodySF (plainFor_of_name pn_0) hisR ?_
  intro p e s m args below meth c s₁ Bd hml0 hP hK
  obtain ⟨rfl, hZ, hh⟩ := hP
  have hx := Bd.exec
  have hby := Bd.bytes
  have hml : c.maxLocals = 1 := hml0
  have hown : s.vm.findClass "java/lang/Record" = some m.cls := findClass_of_methodNamed Bd.named
  have hnm := (name_of_methodNamed Bd.named Bd.method).1
  have X0 : Stand p l e ({ frames := 1, cells := 0, slots := 0, locals := 12 } : Room) s m #[(.ref a0_)] below meth c s₁ [] 0 0 := Stand.of_body Bd
  have e0 : s₁.heap = h0 := by rw [← hh, Bd.state]; rfl
  have N0 := Fr.nil n0
  have pre0 : ∀ t, Steps p.tables e below (s₁.setTop (mkF m 0 #[.val (.ref a0_)] [])) t → Steps p.tables e below (s₁.setTop (entryFrame m #[(.ref a0_)] 1)) t := fun t k => castTop (efRec m a0_) k
  have K0 : Keep h0 h0 [] := Keep.refl _ _
  obtain ⟨T1, X1, e1, st1⟩ := initO X0 hx hZ hown (hw _ (List.mem_of_getElem? (i := 20) rfl)) (hw _ (List.mem_of_getElem? (i := 21) rfl)) (hw _ (List.mem_of_getElem? (i := 22) rfl)) e0 (g := (mkF m 1 #[.val (.ref a0_)] [(.ref a0_)])) rfl (by rw [hml]; rfl) rfl (hb hby d1_1) (by decide) (W := 0) (by show 2 * 0 + _ ≤ _; exact Nat.le_of_eq rfl) (by decide)
  have pre2 : ∀ t, Steps p.tables e below (T1.setTop (mkF m 4 #[.val (.ref a0_)] [])) t → Steps p.tables e below (s₁.setTop (entryFrame m #[(.ref a0_)] 1)) t := by
    intro t kt
    refine pre0 t ?_
    show Steps p.tables e below (s₁.setTop (mkF m 0 #[.val (.ref a0_)] [])) _
    refine XS.aloadN X0.here hx rfl (hb hby d1_0) rfl rfl ?_
    show Steps p.tables e below (s₁.setTop (mkF m 1 #[.val (.ref a0_)] [(.ref a0_)])) _
    refine st1 _ ?_
    exact kt
  obtain ⟨fs, hr, hrun, hended, hW, hsame⟩ := X1.leave (v := none) (fun _ => rfl)
  refine ⟨_, _, pre2 _ (X1.returnOut hx Bd.returns (hb hby d1_4) hr), hrun, hended, _, _, rfl, ?_, ⟨_, rfl⟩, hW, hsame.mono (by decide) (by decide)⟩
  show QRec Z a0_ h0 n0 _ T1.heap _
  rw [e1]
  exact ⟨rfl, N0, rfl⟩
theorem d2_0 : decode prog_27_method_1_code 0 = .ok (.aload_n 0, 1) := by decide +kernel
theorem d2_1 : decode prog_27_method_1_code 1 = .ok (.invokespecial 1, 3) := by decide +kernel
theorem pd_0 : parseMethodDescriptor "()V" = some ⟨[], none⟩ := by decide +kernel
theorem d2_4 : decode prog_27_method_1_code 4 = .ok (.aload_n 0, 1) := by decide +kernel
theorem d2_5 : decode prog_27_method_1_code 5 = .ok (.aload_n 1, 1) := by decide +kernel
theorem d2_6 : decode prog_27_method_1_code 6 = .ok (.putfield 7, 3) := by decide +kernel
theorem d2_9 : decode prog_27_method_1_code 9 = .ok (.aload_n 0, 1) := by decide +kernel
theorem d2_10 : decode prog_27_method_1_code 10 = .ok (.aload_n 2, 1) := by decide +kernel
theorem d2_11 : decode prog_27_method_1_code 11 = .ok (.putfield 13, 3) := by decide +kernel
theorem d2_14 : decode prog_27_method_1_code 14 = .ok (.aload_n 0, 1) := by decide +kernel
theorem d2_15 : decode prog_27_method_1_code 15 = .ok (.lload_n 3, 1) := by decide +kernel
theorem d2_16 : decode prog_27_method_1_code 16 = .ok (.putfield 17, 3) := by decide +kernel
theorem d2_19 : decode prog_27_method_1_code 19 = .ok (.return_, 1) := by decide +kernel
theorem pn_1 : plainName "com/example/latchkey/latchkey/LockStore$Attempt" = true := by first | (simp [plainName, overriddenIn]; done) | decide +kernel
theorem efIni (m : MethodId) (a0_ : Addr) (a1_ : Addr) (a2_ : Addr) (q3_ : Int64) : entryFrame m #[(.ref a0_), (.ref a1_), (.ref a2_), (.long q3_)] 5 = mkF m 0 #[.val (.ref a0_), .val (.ref a1_), .val (.ref a2_), .val (.long q3_), .second] [] := by first | (simp [entryFrame, mkF, argsToLocals, Value.category]; done) | rfl
def QIni (Z : State) (a0_ : Addr) (a1_ : Addr) (a2_ : Addr) (q3_ : Int64) (u_grant_a0_ : Value) (u_tokens_a0_ : Value) (u_leaseLeftMillis_a0_ : Int64) (h0 : Heap) (n0 : Nat) (v : Option Value) (h : Heap) (L : List Loc) : Prop := v = none ∧ Fr n0 L ∧ Keep h0 h [a0_] ∧ Exa Z h a0_ "com/example/latchkey/latchkey/LockStore$Attempt" ∧ Fld Z h a0_ "com/example/latchkey/latchkey/LockStore$Attempt" "grant" "Lcom/example/latchkey/latchkey/LockStore$Attempt$Grant;" (.ref a1_) ∧ Fld Z h a0_ "com/example/latchkey/latchkey/LockStore$Attempt" "tokens" "Lcom/example/latchkey/latchkey/LockTokens;" (.ref a2_) ∧ Fld Z h a0_ "com/example/latchkey/latchkey/LockStore$Attempt" "leaseLeftMillis" "J" (.long q3_)
set_option maxRecDepth 65536 in
set_option maxHeartbeats 40000000 in
theorem rmIni (l : Launch) (Z : State) (a0 : Array Value) (hw : ∀ d ∈ tables_1, d.before a0 Z = true) (ws : List Jvm.Cond) (a0_ : Addr) (a1_ : Addr) (a2_ : Addr) (q3_ : Int64) (u_grant_a0_ : Value) (u_tokens_a0_ : Value) (u_leaseLeftMillis_a0_ : Int64) (h0 : Heap) (n0 : Nat) (O0 : Old Z n0 h0) (P0 : Exa Z h0 a0_ "com/example/latchkey/latchkey/LockStore$Attempt") (P1 : Fld Z h0 a0_ "com/example/latchkey/latchkey/LockStore$Attempt" "grant" "Lcom/example/latchkey/latchkey/LockStore$Attempt$Grant;" u_grant_a0_) (P2 : Fld Z h0 a0_ "com/example/latchkey/latchkey/LockStore$Attempt" "tokens" "Lcom/example/latchkey/latchkey/LockTokens;" u_tokens_a0_) (P3 : Fld Z h0 a0_ "com/example/latchkey/latchkey/LockStore$Attempt" "leaseLeftMillis" "J" (.long u_leaseLeftMillis_a0_)) (P4 : n0 ≤ a0_) :
    MetFree l (⟨"com/example/latchkey/latchkey/LockStore$Attempt", "<init>", "(Lcom/example/latchkey/latchkey/LockStore$Attempt$Grant;Lcom/example/latchkey/latchkey/LockTokens;J)V"⟩ : MethodName) (head1 (Jvm.Cond.code (⟨"com/example/latchkey/latchkey/LockStore$Attempt", "<init>", "(Lcom/example/latchkey/latchkey/LockStore$Attempt$Grant;Lcom/example/latchkey/latchkey/LockTokens;J)V"⟩ : MethodName) prog_27_method_1_code 5 none :: ws) ({ frames := 2, cells := 0, slots := 0, locals := 24 } : Room)) (fun a U => a = #[(.ref a0_), (.ref a1_), (.ref a2_), (.long q3_)] ∧ Z.Warmed39 U.vm ∧ U.heap = h0) (fun _ _ _ _ _ => True) (fun _ U o U' => ∃ v L, o = .returned v ∧ QIni Z a0_ a1_ a2_ q3_ u_grant_a0_ u_tokens_a0_ u_leaseLeftMillis_a0_ h0 n0 v U'.heap L ∧ FrameEnd U o U' L ({ frames := 2, cells := 0, slots := 0, locals := 24 } : Room).cells ({ frames := 2, cells := 0, slots := 0, locals := 24 } : Room).slots) := by
  refine MetFree.of_bodySF (plainFor_of_name pn_1) hisR ?_
  intro p e s m args below meth c s₁ Bd hml0 hP hK
  obtain ⟨rfl, hZ, hh⟩ := hP
  have hx := Bd.exec
  have hby := Bd.bytes
  have hml : c.maxLocals = 5 := hml0
  have hown : s.vm.findClass "com/example/latchkey/latchkey/LockStore$Attempt" = some m.cls := findClass_of_methodNamed Bd.named
  have hnm := (name_of_methodNamed Bd.named Bd.method).1
  have X0 : Stand p l e ({ frames := 2, cells := 0, slots := 0, locals := 24 } : Room) s m #[(.ref a0_), (.ref a1_), (.ref a2_), (.long q3_)] below meth c s₁ [] 0 0 := Stand.of_body Bd
  have e0 : s₁.heap = h0 := by rw [← hh, Bd.state]; rfl
  have N0 := Fr.nil n0
  have pre0 : ∀ t, Steps p.tables e below (s₁.setTop (mkF m 0 #[.val (.ref a0_), .val (.ref a1_), .val (.ref a2_), .val (.long q3_), .second] [])) t → Steps p.tables e below (s₁.setTop (entryFrame m #[(.ref a0_), (.ref a1_), (.ref a2_), (.long q3_)] 5)) t := fun t k => castTop (efIni m a0_ a1_ a2_ q3_) k
  have K0 : Keep h0 h0 [a0_] := Keep.refl _ _
  obtain ⟨_, _, ⟨T1, L1, k1, n1⟩, -, X1, ⟨Lc1, hQ1, l1, y1, z1⟩, st1⟩ := X0.specialBack hx (y := (⟨"java/lang/Record", "<init>", "()V"⟩ : MethodName)) rfl hown (mvT hZ (hw _ (List.mem_of_getElem? (i := 15) rfl))) (mvT hZ (hw _ (List.mem_of_getElem? (i := 16) rfl))) (mvT hZ (hw _ (List.mem_of_getElem? (i := 19) rfl))) (by decide) (backOf (W := 0) (rmRec l Z a0 hw [] a0_ h0 n0 O0 ) hZ (hw _ (List.mem_of_getElem? (i := 19) rfl)) (hw _ (List.mem_of_getElem? (i := 18) rfl)) (by decide) (by decide)) (g := (mkF m 1 #[.val (.ref a0_), .val (.ref a1_), .val (.ref a2_), .val (.long q3_), .second] [(.ref a0_)])) rfl (by rw [hml]; rfl) (Steps.refl _) (a := a0_) (argsL := []) (rest := []) (lenOf pd_0 rfl) rfl (by show 2 * 0 + _ ≤ _; exact Nat.le_of_eq rfl) (hb hby d2_1) (fun _ _ => ⟨rfl, e0, (by decide : 0 + 0 ≤ _), (by decide : 0 + 0 ≤ _)⟩)
  dsimp only [Pt.U, Pt.locs, Pt.cells, Pt.slots] at X1 l1 y1 z1 st1 hQ1
  subst l1 y1 z1
  obtain ⟨h1, e1⟩ : ∃ z, T1.heap = z := ⟨_, rfl⟩
  rw [e1] at hQ1
  obtain ⟨rfl, N1q, hh1⟩ := hQ1
  have N2 := Fr.app N0 N1q
  have e1' : T1.heap = h0 := e1.trans hh1
  obtain ⟨T3, h3, X3, e3, W3, st3⟩ := putF X1 hx hZ hown (host := "") (Or.inl (hw _ (List.mem_of_getElem? (i := 23) rfl))) Via.refl e1' P1 P0 (Or.inr ⟨(hw _ (List.mem_of_getElem? (i := 24) rfl)), rfl, hnm⟩) (hw _ (List.mem_of_getElem? (i := 5) rfl)) (ty := (.object "com/example/latchkey/latchkey/LockStore$Attempt$Grant")) (by decide) rfl rfl (g := (mkF m 6 #[.val (.ref a0_), .val (.ref a1_), .val (.ref a2_), .val (.long q3_), .second] [(.ref a1_), (.ref a0_)])) rfl rfl (hb hby d2_6)
  have N4 := Fr.snoc X3 N2 P4
  have f5 : Fld Z h3 a0_ "com/example/latchkey/latchkey/LockStore$Attempt" "grant" "Lcom/example/latchkey/latchkey/LockStore$Attempt$Grant;" (.ref a1_) := P1.same W3
  have f6 : Fld Z h3 a0_ "com/example/latchkey/latchkey/LockStore$Attempt" "tokens" "Lcom/example/latchkey/latchkey/LockTokens;" u_tokens_a0_ := P2.other W3 (Or.inr (slot_ne (Or.inr (hw _ (List.mem_of_getElem? (i := 26) rfl))) (Or.inr (hw _ (List.mem_of_getElem? (i := 24) rfl))) (by decide) (t := (.object "com/example/latchkey/latchkey/LockTokens")) (t' := (.object "com/example/latchkey/latchkey/LockStore$Attempt$Grant")) (by decide) (by decide)))
  have f7 : Exa Z h3 a0_ "com/example/latchkey/latchkey/LockStore$Attempt" := P0.wr W3
  obtain ⟨T8, h8, X8, e8, W8, st8⟩ := putF X3 hx hZ hown (host := "") (Or.inl (hw _ (List.mem_of_getElem? (i := 25) rfl))) Via.refl e3 f6 f7 (Or.inr ⟨(hw _ (List.mem_of_getElem? (i := 26) rfl)), rfl, hnm⟩) (hw _ (List.mem_of_getElem? (i := 5) rfl)) (ty := (.object "com/example/latchkey/latchkey/LockTokens")) (by decide) rfl rfl (g := (mkF m 11 #[.val (.ref a0_), .val (.ref a1_), .val (.ref a2_), .val (.long q3_), .second] [(.ref a2_), (.ref a0_)])) rfl rfl (hb hby d2_11)
  have N9 := Fr.snoc X8 N4 P4
  have f10 : Fld Z h8 a0_ "com/example/latchkey/latchkey/LockStore$Attempt" "tokens" "Lcom/example/latchkey/latchkey/LockTokens;" (.ref a2_) := f6.same W8
  have f11 : Fld Z h3 a0_ "com/example/latchkey/latchkey/LockStore$Attempt" "leaseLeftMillis" "J" (.long u_leaseLeftMillis_a0_) := P3.other W3 (Or.inr (slot_ne (Or.inr (hw _ (List.mem_of_getElem? (i := 28) rfl))) (Or.inr (hw _ (List.mem_of_getElem? (i := 24) rfl))) (by decide) (t := .long) (t' := (.object "com/example/latchkey/latchkey/LockStore$Attempt$Grant")) (by decide) (by decide)))
  have f12 : Fld Z h8 a0_ "com/example/latchkey/latchkey/LockStore$Attempt" "leaseLeftMillis" "J" (.long u_leaseLeftMillis_a0_) := f11.other W8 (Or.inr (slot_ne (Or.inr (hw _ (List.mem_of_getElem? (i := 28) rfl))) (Or.inr (hw _ (List.mem_of_getElem? (i := 26) rfl))) (by decide) (t := .long) (t' := (.object "com/example/latchkey/latchkey/LockTokens")) (by decide) (by decide)))
  have f13 : Exa Z h8 a0_ "com/example/latchkey/latchkey/LockStore$Attempt" := f7.wr W8
  obtain ⟨T14, h14, X14, e14, W14, st14⟩ := putF X8 hx hZ hown (host := "") (Or.inl (hw _ (List.mem_of_getElem? (i := 27) rfl))) Via.refl e8 f12 f13 (Or.inr ⟨(hw _ (List.mem_of_getElem? (i := 28) rfl)), rfl, hnm⟩) (hw _ (List.mem_of_getElem? (i := 5) rfl)) (ty := .long) (by decide) rfl rfl (g := (mkF m 16 #[.val (.ref a0_), .val (.ref a1_), .val (.ref a2_), .val (.long q3_), .second] [(.long q3_), (.ref a0_)])) rfl rfl (hb hby d2_16)
  have N15 := Fr.snoc X14 N9 P4
  have f16 : Fld Z h14 a0_ "com/example/latchkey/latchkey/LockStore$Attempt" "leaseLeftMillis" "J" (.long q3_) := f12.same W14
  have pre17 : ∀ t, Steps p.tables e below (T14.setTop (mkF m 19 #[.val (.ref a0_), .val (.ref a1_), .val (.ref a2_), .val (.long q3_), .second] [])) t → Steps p.tables e below (s₁.setTop (entryFrame m #[(.ref a0_), (.ref a1_), (.ref a2_), (.long q3_)] 5)) t := by
    intro t kt
    refine pre0 t ?_
    show Steps p.tables e below (s₁.setTop (mkF m 0 #[.val (.ref a0_), .val (.ref a1_), .val (.ref a2_), .val (.long q3_), .second] [])) _
    refine XS.aloadN X0.here hx rfl (hb hby d2_0) rfl rfl ?_
    show Steps p.tables e below (s₁.setTop (mkF m 1 #[.val (.ref a0_), .val (.ref a1_), .val (.ref a2_), .val (.long q3_), .second] [(.ref a0_)])) _
    refine st1.trans ?_
    show Steps p.tables e below (T1.setTop (mkF m 4 #[.val (.ref a0_), .val (.ref a1_), .val (.ref a2_), .val (.long q3_), .second] [])) _
    refine XS.aloadN X1.here hx rfl (hb hby d2_4) rfl rfl ?_
    show Steps p.tables e below (T1.setTop (mkF m 5 #[.val (.ref a0_), .val (.ref a1_), .val (.ref a2_), .val (.long q3_), .second] [(.ref a0_)])) _
    refine XS.aloadN X1.here hx rfl (hb hby d2_5) rfl rfl ?_
    show Steps p.tables e below (T1.setTop (mkF m 6 #[.val (.ref a0_), .val (.ref a1_), .val (.ref a2_), .val (.long q3_), .second] [(.ref a1_), (.ref a0_)])) _
    refine st3 _ ?_
    show Steps p.tables e below (T3.setTop (mkF m 9 #[.val (.ref a0_), .val (.ref a1_), .val (.ref a2_), .val (.long q3_), .second] [])) _
    refine XS.aloadN X3.here hx rfl (hb hby d2_9) rfl rfl ?_
    show Steps p.tables e below (T3.setTop (mkF m 10 #[.val (.ref a0_), .val (.ref a1_), .val (.ref a2_), .val (.long q3_), .second] [(.ref a0_)])) _
    refine XS.aloadN X3.here hx rfl (hb hby d2_10) rfl rfl ?_
    show Steps p.tables e below (T3.setTop (mkF m 11 #[.val (.ref a0_), .val (.ref a1_), .val (.ref a2_), .val (.long q3_), .second] [(.ref a2_), (.ref a0_)])) _
    refine st8 _ ?_
    show Steps p.tables e below (T8.setTop (mkF m 14 #[.val (.ref a0_), .val (.ref a1_), .val (.ref a2_), .val (.long q3_), .second] [])) _
    refine XS.aloadN X8.here hx rfl (hb hby d2_14) rfl rfl ?_
    show Steps p.tables e below (T8.setTop (mkF m 15 #[.val (.ref a0_), .val (.ref a1_), .val (.ref a2_), .val (.long q3_), .second] [(.ref a0_)])) _
    refine XS.lloadN X8.here hx rfl (hb hby d2_15) rfl ?_
    show Steps p.tables e below (T8.setTop (mkF m 16 #[.val (.ref a0_), .val (.ref a1_), .val (.ref a2_), .val (.long q3_), .second] [(.long q3_), (.ref a0_)])) _
    refine st14 _ ?_
    exact kt
  have f19 : Keep h0 h3 [a0_] := K0.wr W3 (Or.inl (List.mem_of_getElem? (i := 0) rfl))
  have f20 : Keep h0 h8 [a0_] := f19.wr W8 (Or.inl (List.mem_of_getElem? (i := 0) rfl))
  have f21 : Keep h0 h14 [a0_] := f20.wr W14 (Or.inl (List.mem_of_getElem? (i := 0) rfl))
  have f22 : Exa Z h14 a0_ "com/example/latchkey/latchkey/LockStore$Attempt" := f13.wr W14
  have f23 : Fld Z h8 a0_ "com/example/latchkey/latchkey/LockStore$Attempt" "grant" "Lcom/example/latchkey/latchkey/LockStore$Attempt$Grant;" (.ref a1_) := f5.other W8 (Or.inr (slot_ne (Or.inr (hw _ (List.mem_of_getElem? (i := 24) rfl))) (Or.inr (hw _ (List.mem_of_getElem? (i := 26) rfl))) (by decide) (t := (.object "com/example/latchkey/latchkey/LockStore$Attempt$Grant")) (t' := (.object "com/example/latchkey/latchkey/LockTokens")) (by decide) (by decide)))
  have f24 : Fld Z h14 a0_ "com/example/latchkey/latchkey/LockStore$Attempt" "grant" "Lcom/example/latchkey/latchkey/LockStore$Attempt$Grant;" (.ref a1_) := f23.other W14 (Or.inr (slot_ne (Or.inr (hw _ (List.mem_of_getElem? (i := 24) rfl))) (Or.inr (hw _ (List.mem_of_getElem? (i := 28) rfl))) (by decide) (t := (.object "com/example/latchkey/latchkey/LockStore$Attempt$Grant")) (t' := .long) (by decide) (by decide)))
  have f25 : Fld Z h14 a0_ "com/example/latchkey/latchkey/LockStore$Attempt" "tokens" "Lcom/example/latchkey/latchkey/LockTokens;" (.ref a2_) := f10.other W14 (Or.inr (slot_ne (Or.inr (hw _ (List.mem_of_getElem? (i := 26) rfl))) (Or.inr (hw _ (List.mem_of_getElem? (i := 28) rfl))) (by decide) (t := (.object "com/example/latchkey/latchkey/LockTokens")) (t' := .long) (by decide) (by decide)))
  obtain ⟨fs, hr, hrun, hended, hW, hsame⟩ := X14.leave (v := none) (fun _ => rfl)
  refine ⟨_, _, pre17 _ (X14.returnOut hx Bd.returns (hb hby d2_19) hr), hrun, hended, _, _, rfl, ?_, ⟨_, rfl⟩, hW, hsame.mono (by decide) (by decide)⟩
  show QIni Z a0_ a1_ a2_ q3_ u_grant_a0_ u_tokens_a0_ u_leaseLeftMillis_a0_ h0 n0 _ T14.heap _
  rw [e14]
  exact ⟨rfl, N15, f21, f22, f24, f25, f16⟩
theorem d3_0 : decode prog_27_method_4_code 0 = .ok (.new 8, 3) := by decide +kernel
theorem d3_3 : decode prog_27_method_4_code 3 = .ok (.dup, 1) := by decide +kernel
theorem d3_4 : decode prog_27_method_4_code 4 = .ok (.getstatic 41, 3) := by decide +kernel
theorem d3_7 : decode prog_27_method_4_code 7 = .ok (.getstatic 38, 3) := by decide +kernel
theorem d3_10 : decode prog_27_method_4_code 10 = .ok (.lload_n 0, 1) := by decide +kernel
theorem d3_11 : decode prog_27_method_4_code 11 = .ok (.invokespecial 32, 3) := by decide +kernel
theorem pd_1 : parseMethodDescriptor "(Lcom/example/latchkey/latchkey/LockStore$Attempt$Grant;Lcom/example/latchkey/latchkey/LockTokens;J)V" = some ⟨[(.object "com/example/latchkey/latchkey/LockStore$Attempt$Grant"), (.object "com/example/latchkey/latchkey/LockTokens"), .long], none⟩ := by decide +kernel
theorem d3_14 : decode prog_27_method_4_code 14 = .ok (.areturn, 1) := by decide +kernel
theorem efRef (m : MethodId) (q0_ : Int64) : entryFrame m #[(.long q0_)] 2 = mkF m 0 #[.val (.long q0_), .second] [] := by first | (simp [entryFrame, mkF, argsToLocals, Value.category]; done) | rfl
def QRef (Z : State) (q0_ : Int64) (w_REFUSED : Addr) (w_NONE : Addr) (h0 : Heap) (n0 : Nat) (v : Option Value) (h : Heap) (L : List Loc) : Prop := ∃ nb1 : Addr, v = some (.ref nb1) ∧ Fr n0 L ∧ Keep h0 h [] ∧ h0.size ≤ nb1 ∧ Exa Z h nb1 "com/example/latchkey/latchkey/LockStore$Attempt" ∧ Fld Z h nb1 "com/example/latchkey/latchkey/LockStore$Attempt" "grant" "Lcom/example/latchkey/latchkey/LockStore$Attempt$Grant;" (.ref w_REFUSED) ∧ Fld Z h nb1 "com/example/latchkey/latchkey/LockStore$Attempt" "tokens" "Lcom/example/latchkey/latchkey/LockTokens;" (.ref w_NONE) ∧ Fld Z h nb1 "com/example/latchkey/latchkey/LockStore$Attempt" "leaseLeftMillis" "J" (.long q0_)
set_option maxRecDepth 65536 in
set_option maxHeartbeats 40000000 in
theorem rmRef (l : Launch) (Z : State) (a0 : Array Value) (hw : ∀ d ∈ tables_1, d.before a0 Z = true) (ws : List Jvm.Cond) (q0_ : Int64) (w_REFUSED : Addr) (w_NONE : Addr) (h0 : Heap) (n0 : Nat) (O0 : Old Z n0 h0) (P0 : Sta Z Z.heap "com/example/latchkey/latchkey/LockStore$Attempt$Grant" "REFUSED" "Lcom/example/latchkey/latchkey/LockStore$Attempt$Grant;" (.ref w_REFUSED)) (P1 : Sta Z Z.heap "com/example/latchkey/latchkey/LockTokens" "NONE" "Lcom/example/latchkey/latchkey/LockTokens;" (.ref w_NONE)) :
    MetFree l (⟨"com/example/latchkey/latchkey/LockStore$Attempt", "refused", "(J)Lcom/example/latchkey/latchkey/LockStore$Attempt;"⟩ : MethodName) (head1 (Jvm.Cond.code (⟨"com/example/latchkey/latchkey/LockStore$Attempt", "refused", "(J)Lcom/example/latchkey/latchkey/LockStore$Attempt;"⟩ : MethodName) prog_27_method_4_code 2 (some (.object "com/example/latchkey/latchkey/LockStore$Attempt")) :: ws) ({ frames := 3, cells := 1, slots := 3, locals := 41 } : Room)) (fun a U => a = #[(.long q0_)] ∧ Z.Warmed39 U.vm ∧ U.heap = h0) (fun _ _ _ _ _ => True) (fun _ U o U' => ∃ v L, o = .returned v ∧ QRef Z q0_ w_REFUSED w_NONE h0 n0 v U'.heap L ∧ FrameEnd U o U' L ({ frames := 3, cells := 1, slots := 3, locals := 41 } : Room).cells ({ frames := 3, cells := 1, slots := 3, locals := 41 } : Room).slots) := by
  refine MetFree.of_bodySF (plainFor_of_name pn_1) hisR ?_
  intro p e s m args below meth c s₁ Bd hml0 hP hK
  obtain ⟨rfl, hZ, hh⟩ := hP
  have hx := Bd.exec
  have hby := Bd.bytes
  have hml : c.maxLocals = 2 := hml0
  have hown : s.vm.findClass "com/example/latchkey/latchkey/LockStore$Attempt" = some m.cls := findClass_of_methodNamed Bd.named
  have hnm := (name_of_methodNamed Bd.named Bd.method).1
  have X0 : Stand p l e ({ frames := 3, cells := 1, slots := 3, locals := 41 } : Room) s m #[(.long q0_)] below meth c s₁ [] 0 0 := Stand.of_body Bd
  have e0 : s₁.heap = h0 := by rw [← hh, Bd.state]; rfl
  have N0 := Fr.nil n0
  have pre0 : ∀ t, Steps p.tables e below (s₁.setTop (mkF m 0 #[.val (.long q0_), .second] [])) t → Steps p.tables e below (s₁.setTop (entryFrame m #[(.long q0_)] 2)) t := fun t k => castTop (efRef m q0_) k
  have K0 : Keep h0 h0 [] := Keep.refl _ _
  obtain ⟨T1, h1, X1, e1, E1, A1, D1, -, st1⟩ := newO X0 hx hZ hown (hw _ (List.mem_of_getElem? (i := 4) rfl)) (hw _ (List.mem_of_getElem? (i := 5) rfl)) (hw _ (List.mem_of_getElem? (i := 2) rfl)) e0 (g := (mkF m 0 #[.val (.long q0_), .second] [])) rfl (hb hby d3_0) (by decide) (by decide)
  obtain ⟨b1, g1⟩ : ∃ z, z = h0.size := ⟨_, rfl⟩
  rw [← g1] at A1 D1 st1
  have ge2 : n0 ≤ b1 := Nat.le_trans (Nat.le_trans (Nat.le_of_eq O0.1.symm) O0.2.1) (Nat.le_of_eq g1.symm)
  have sz3 : h0.size ≤ b1 := Nat.le_trans K0.1 (Nat.le_of_eq g1.symm)
  have f4 : Fld Z h1 b1 "com/example/latchkey/latchkey/LockStore$Attempt" "grant" "Lcom/example/latchkey/latchkey/LockStore$Attempt$Grant;" .null := D1 (Or.inr (hw _ (List.mem_of_getElem? (i := 24) rfl))) (ty := (.object "com/example/latchkey/latchkey/LockStore$Attempt$Grant")) (by decide)
  have f5 : Fld Z h1 b1 "com/example/latchkey/latchkey/LockStore$Attempt" "tokens" "Lcom/example/latchkey/latchkey/LockTokens;" .null := D1 (Or.inr (hw _ (List.mem_of_getElem? (i := 26) rfl))) (ty := (.object "com/example/latchkey/latchkey/LockTokens")) (by decide)
  have f6 : Fld Z h1 b1 "com/example/latchkey/latchkey/LockStore$Attempt" "leaseLeftMillis" "J" (.long (0 : Int64)) := D1 (Or.inr (hw _ (List.mem_of_getElem? (i := 28) rfl))) (ty := .long) (by decide)
  have f7 : Old Z n0 h1 := O0.ext E1
  obtain ⟨T8, X8, e8, st8⟩ := getS2 X1 hx hZ hown (host := "") (Or.inl (hw _ (List.mem_of_getElem? (i := 6) rfl))) Via.refl e1 (P0.ext f7.2) (g := (mkF m 4 #[.val (.long q0_), .second] [(.ref b1), (.ref b1)])) rfl (hb hby d3_4)
  obtain ⟨T9, X9, e9, st9⟩ := getS2 X8 hx hZ hown (host := "") (Or.inl (hw _ (List.mem_of_getElem? (i := 9) rfl))) Via.refl e8 (P1.ext f7.2) (g := (mkF m 7 #[.val (.long q0_), .second] [(.ref w_REFUSED), (.ref b1), (.ref b1)])) rfl (hb hby d3_7)
  obtain ⟨_, _, ⟨T10, L10, k10, n10⟩, -, X10, ⟨Lc10, hQ10, l10, y10, z10⟩, st10⟩ := X9.specialBack hx (y := (⟨"com/example/latchkey/latchkey/LockStore$Attempt", "<init>", "(Lcom/example/latchkey/latchkey/LockStore$Attempt$Grant;Lcom/example/latchkey/latchkey/LockTokens;J)V"⟩ : MethodName)) rfl hown (mvT hZ (hw _ (List.mem_of_getElem? (i := 12) rfl))) (mvT hZ (hw _ (List.mem_of_getElem? (i := 13) rfl))) (mvT hZ (hw _ (List.mem_of_getElem? (i := 14) rfl))) (by decide) (backOf (W := 1) (rmIni l Z a0 hw [] b1 w_REFUSED w_NONE q0_ (.null) (.null) (0 : Int64) h1 n0 f7 A1 f4 f5 f6 ge2) hZ (hw _ (List.mem_of_getElem? (i := 14) rfl)) (hw _ (List.mem_of_getElem? (i := 2) rfl)) (by decide) (by decide)) (g := (mkF m 11 #[.val (.long q0_), .second] [(.long q0_), (.ref w_NONE), (.ref w_REFUSED), (.ref b1), (.ref b1)])) rfl (by rw [hml]; rfl) (Steps.refl _) (a := b1) (argsL := [(.ref w_REFUSED), (.ref w_NONE), (.long q0_)]) (rest := [(.ref b1)]) (lenOf pd_1 rfl) rfl (by show 2 * 0 + _ ≤ _; exact Nat.le_of_eq rfl) (hb hby d3_11) (fun _ _ => ⟨rfl, e9, (by decide : 1 + 0 ≤ _), (by decide : 3 + 0 ≤ _)⟩)
  dsimp only [Pt.U, Pt.locs, Pt.cells, Pt.slots] at X10 l10 y10 z10 st10 hQ10
  subst l10 y10 z10
  obtain ⟨h10, e10⟩ : ∃ z, T10.heap = z := ⟨_, rfl⟩
  rw [e10] at hQ10
  obtain ⟨rfl, N10q, K10, g10_0, g10_1, g10_2, g10_3⟩ := hQ10
  have N11 := Fr.app N0 N10q
  have pre12 : ∀ t, Steps p.tables e below (T10.setTop (mkF m 14 #[.val (.long q0_), .second] [(.ref b1)])) t → Steps p.tables e below (s₁.setTop (entryFrame m #[(.long q0_)] 2)) t := by
    intro t kt
    refine pre0 t ?_
    show Steps p.tables e below (s₁.setTop (mkF m 0 #[.val (.long q0_), .second] [])) _
    refine st1 _ ?_
    show Steps p.tables e below (T1.setTop (mkF m 3 #[.val (.long q0_), .second] [(.ref b1)])) _
    refine XS.dup X1.here hx rfl (hb hby d3_3) rfl rfl ?_
    show Steps p.tables e below (T1.setTop (mkF m 4 #[.val (.long q0_), .second] [(.ref b1), (.ref b1)])) _
    refine st8 _ ?_
    show Steps p.tables e below (T8.setTop (mkF m 7 #[.val (.long q0_), .second] [(.ref w_REFUSED), (.ref b1), (.ref b1)])) _
    refine st9 _ ?_
    show Steps p.tables e below (T9.setTop (mkF m 10 #[.val (.long q0_), .second] [(.ref w_NONE), (.ref w_REFUSED), (.ref b1), (.ref b1)])) _
    refine XS.lloadN X9.here hx rfl (hb hby d3_10) rfl ?_
    show Steps p.tables e below (T9.setTop (mkF m 11 #[.val (.long q0_), .second] [(.long q0_), (.ref w_NONE), (.ref w_REFUSED), (.ref b1), (.ref b1)])) _
    refine st10.trans ?_
    exact kt
  have f14 : Keep h0 h1 [] := K0.ext E1
  have f15 : Keep h0 h10 [] := f14.trans K10 (allS (Or.inr sz3) all0)
  obtain ⟨fs, hr, hrun, hended, hW, hsame⟩ := X10.leave (v := some (.ref b1)) (fun h => by rw [Bd.returns] at h; cases h)
  refine ⟨_, _, pre12 _ (retOut X10 hx Bd.returns rfl (Or.inr (Or.inr (Or.inr (Or.inr ⟨rfl, rfl, rfl⟩)))) (hb hby d3_14) hr), hrun, hended, _, _, rfl, ?_, ⟨_, rfl⟩, hW, hsame.mono (by decide) (by decide)⟩
  show QRef Z q0_ w_REFUSED w_NONE h0 n0 _ T10.heap _
  rw [e10]
  exact ⟨b1, rfl, N11, f15, sz3, g10_0, g10_1, g10_2, g10_3⟩
theorem d4_0 : decode prog_27_method_5_code 0 = .ok (.aload_n 0, 1) := by decide +kernel
theorem d4_1 : decode prog_27_method_5_code 1 = .ok (.getfield 7, 3) := by decide +kernel
theorem d4_4 : decode prog_27_method_5_code 4 = .ok (.getstatic 41, 3) := by decide +kernel
theorem d4_7 : decode prog_27_method_5_code 7 = .ok (.if_acmp .eq 7, 3) := by decide +kernel
theorem d4_14 : decode prog_27_method_5_code 14 = .ok (.iconst 0, 1) := by decide +kernel
theorem d4_15 : decode prog_27_method_5_code 15 = .ok (.ireturn, 1) := by decide +kernel
theorem efTak (m : MethodId) (a0_ : Addr) : entryFrame m #[(.ref a0_)] 1 = mkF m 0 #[.val (.ref a0_)] [] := by first | (simp [entryFrame, mkF, argsToLocals, Value.category]; done) | rfl
def QTak (Z : State) (a0_ : Addr) (w_R : Addr) (h0 : Heap) (n0 : Nat) (v : Option Value) (h : Heap) (L : List Loc) : Prop := v = some (.int (0 : Int32)) ∧ Fr n0 L ∧ h = h0
set_option maxRecDepth 65536 in
set_option maxHeartbeats 40000000 in
theorem rmTak (l : Launch) (Z : State) (a0 : Array Value) (hw : ∀ d ∈ tables_1, d.before a0 Z = true) (ws : List Jvm.Cond) (a0_ : Addr) (w_R : Addr) (h0 : Heap) (n0 : Nat) (O0 : Old Z n0 h0) (P0 : Sta Z Z.heap "com/example/latchkey/latchkey/LockStore$Attempt$Grant" "REFUSED" "Lcom/example/latchkey/latchkey/LockStore$Attempt$Grant;" (.ref w_R)) (P1 : Fld Z h0 a0_ "com/example/latchkey/latchkey/LockStore$Attempt" "grant" "Lcom/example/latchkey/latchkey/LockStore$Attempt$Grant;" (.ref w_R)) :
    MetFree l (⟨"com/example/latchkey/latchkey/LockStore$Attempt", "taken", "()Z"⟩ : MethodName) (head1 (Jvm.Cond.code (⟨"com/example/latchkey/latchkey/LockStore$Attempt", "taken", "()Z"⟩ : MethodName) prog_27_method_5_code 1 (some .boolean) :: ws) ({ frames := 0, cells := 0, slots := 0, locals := 0 } : Room)) (fun a U => a = #[(.ref a0_)] ∧ Z.Warmed39 U.vm ∧ U.heap = h0) (fun _ _ _ _ _ => True) (fun _ U o U' => ∃ v L, o = .returned v ∧ QTak Z a0_ w_R h0 n0 v U'.heap L ∧ FrameEnd U o U' L ({ frames := 0, cells := 0, slots := 0, locals := 0 } : Room).cells ({ frames := 0, cells := 0, slots := 0, locals := 0 } : Room).slots) := by
  refine MetFree.of_bodySF (plainFor_of_name pn_1) hisR ?_
  intro p e s m args below meth c s₁ Bd hml0 hP hK
  obtain ⟨rfl, hZ, hh⟩ := hP
  have hx := Bd.exec
  have hby := Bd.bytes
  have hml : c.maxLocals = 1 := hml0
  have hown : s.vm.findClass "com/example/latchkey/latchkey/LockStore$Attempt" = some m.cls := findClass_of_methodNamed Bd.named
  have hnm := (name_of_methodNamed Bd.named Bd.method).1
  have X0 : Stand p l e ({ frames := 0, cells := 0, slots := 0, locals := 0 } : Room) s m #[(.ref a0_)] below meth c s₁ [] 0 0 := Stand.of_body Bd
  have e0 : s₁.heap = h0 := by rw [← hh, Bd.state]; rfl
  have N0 := Fr.nil n0
  have pre0 : ∀ t, Steps p.tables e below (s₁.setTop (mkF m 0 #[.val (.ref a0_)] [])) t → Steps p.tables e below (s₁.setTop (entryFrame m #[(.ref a0_)] 1)) t := fun t k => castTop (efTak m a0_) k
  have K0 : Keep h0 h0 [] := Keep.refl _ _
  obtain ⟨T1, X1, e1, st1⟩ := getF X0 hx hZ hown (host := "") (Or.inl (hw _ (List.mem_of_getElem? (i := 23) rfl))) Via.refl e0 P1 (g := (mkF m 1 #[.val (.ref a0_)] [(.ref a0_)])) rfl rfl (hb hby d4_1)
  obtain ⟨T2, X2, e2, st2⟩ := getS2 X1 hx hZ hown (host := "") (Or.inl (hw _ (List.mem_of_getElem? (i := 6) rfl))) Via.refl e1 (P0.ext O0.2) (g := (mkF m 4 #[.val (.ref a0_)] [(.ref w_R)])) rfl (hb hby d4_4)
  have pre3 : ∀ t, Steps p.tables e below (T2.setTop (mkF m 15 #[.val (.ref a0_)] [(.int (0 : Int32))])) t → Steps p.tables e below (s₁.setTop (entryFrame m #[(.ref a0_)] 1)) t := by
    intro t kt
    refine pre0 t ?_
    show Steps p.tables e below (s₁.setTop (mkF m 0 #[.val (.ref a0_)] [])) _
    refine XS.aloadN X0.here hx rfl (hb hby d4_0) rfl rfl ?_
    show Steps p.tables e below (s₁.setTop (mkF m 1 #[.val (.ref a0_)] [(.ref a0_)])) _
    refine st1 _ ?_
    show Steps p.tables e below (T1.setTop (mkF m 4 #[.val (.ref a0_)] [(.ref w_R)])) _
    refine st2 _ ?_
    show Steps p.tables e below (T2.setTop (mkF m 7 #[.val (.ref a0_)] [(.ref w_R), (.ref w_R)])) _
    refine Jvm.RoadKit.acmp (g := (mkF m 7 #[.val (.ref a0_)] [(.ref w_R), (.ref w_R)])) X2 hx rfl rfl rfl (pc0 := 7) (pc' := 14) (same := true) rfl (hb hby d4_7) rfl (decide_eq_true rfl) (by decide) (by decide) ?_
    show Steps p.tables e below (T2.setTop (mkF m 14 #[.val (.ref a0_)] [])) _
    refine XS.iconst X2.here hx rfl (hb hby d4_14) ?_
    exact kt
  obtain ⟨fs, hr, hrun, hended, hW, hsame⟩ := X2.leave (v := some (.int (0 : Int32))) (fun h => by rw [Bd.returns] at h; cases h)
  refine ⟨_, _, pre3 _ (retN X2 hx (t := .boolean) Bd.returns (by simp) (hb hby d4_15) hr), hrun, hended, _, _, rfl, ?_, ⟨_, rfl⟩, hW, hsame.mono (by decide) (by decide)⟩
  show QTak Z a0_ w_R h0 n0 _ T2.heap _
  rw [e2]
  exact ⟨rfl, N0, rfl⟩
theorem d5_0 : decode prog_27_method_11_code 0 = .ok (.aload_n 0, 1) := by decide +kernel
theorem d5_1 : decode prog_27_method_11_code 1 = .ok (.getfield 17, 3) := by decide +kernel
theorem d5_4 : decode prog_27_method_11_code 4 = .ok (.lreturn, 1) := by decide +kernel
theorem efLea (m : MethodId) (a0_ : Addr) : entryFrame m #[(.ref a0_)] 1 = mkF m 0 #[.val (.ref a0_)] [] := by first | (simp [entryFrame, mkF, argsToLocals, Value.category]; done) | rfl
def QLea (Z : State) (a0_ : Addr) (w_leaseLeftMillis_a0 : Int64) (h0 : Heap) (n0 : Nat) (v : Option Value) (h : Heap) (L : List Loc) : Prop := v = some (.long w_leaseLeftMillis_a0) ∧ Fr n0 L ∧ h = h0
set_option maxRecDepth 65536 in
set_option maxHeartbeats 40000000 in
theorem rmLea (l : Launch) (Z : State) (a0 : Array Value) (hw : ∀ d ∈ tables_1, d.before a0 Z = true) (ws : List Jvm.Cond) (a0_ : Addr) (w_leaseLeftMillis_a0 : Int64) (h0 : Heap) (n0 : Nat) (O0 : Old Z n0 h0) (P0 : Fld Z h0 a0_ "com/example/latchkey/latchkey/LockStore$Attempt" "leaseLeftMillis" "J" (.long w_leaseLeftMillis_a0)) :
    MetFree l (⟨"com/example/latchkey/latchkey/LockStore$Attempt", "leaseLeftMillis", "()J"⟩ : MethodName) (head1 (Jvm.Cond.code (⟨"com/example/latchkey/latchkey/LockStore$Attempt", "leaseLeftMillis", "()J"⟩ : MethodName) prog_27_method_11_code 1 (some .long) :: ws) ({ frames := 0, cells := 0, slots := 0, locals := 0 } : Room)) (fun a U => a = #[(.ref a0_)] ∧ Z.Warmed39 U.vm ∧ U.heap = h0) (fun _ _ _ _ _ => True) (fun _ U o U' => ∃ v L, o = .returned v ∧ QLea Z a0_ w_leaseLeftMillis_a0 h0 n0 v U'.heap L ∧ FrameEnd U o U' L ({ frames := 0, cells := 0, slots := 0, locals := 0 } : Room).cells ({ frames := 0, cells := 0, slots := 0, locals := 0 } : Room).slots) := by
  refine MetFree.of_bodySF (plainFor_of_name pn_1) hisR ?_
  intro p e s m args below meth c s₁ Bd hml0 hP hK
  obtain ⟨rfl, hZ, hh⟩ := hP
  have hx := Bd.exec
  have hby := Bd.bytes
  have hml : c.maxLocals = 1 := hml0
  have hown : s.vm.findClass "com/example/latchkey/latchkey/LockStore$Attempt" = some m.cls := findClass_of_methodNamed Bd.named
  have hnm := (name_of_methodNamed Bd.named Bd.method).1
  have X0 : Stand p l e ({ frames := 0, cells := 0, slots := 0, locals := 0 } : Room) s m #[(.ref a0_)] below meth c s₁ [] 0 0 := Stand.of_body Bd
  have e0 : s₁.heap = h0 := by rw [← hh, Bd.state]; rfl
  have N0 := Fr.nil n0
  have pre0 : ∀ t, Steps p.tables e below (s₁.setTop (mkF m 0 #[.val (.ref a0_)] [])) t → Steps p.tables e below (s₁.setTop (entryFrame m #[(.ref a0_)] 1)) t := fun t k => castTop (efLea m a0_) k
  have K0 : Keep h0 h0 [] := Keep.refl _ _
  obtain ⟨T1, X1, e1, st1⟩ := getF X0 hx hZ hown (host := "") (Or.inl (hw _ (List.mem_of_getElem? (i := 27) rfl))) Via.refl e0 P0 (g := (mkF m 1 #[.val (.ref a0_)] [(.ref a0_)])) rfl rfl (hb hby d5_1)
  have pre2 : ∀ t, Steps p.tables e below (T1.setTop (mkF m 4 #[.val (.ref a0_)] [(.long w_leaseLeftMillis_a0)])) t → Steps p.tables e below (s₁.setTop (entryFrame m #[(.ref a0_)] 1)) t := by
    intro t kt
    refine pre0 t ?_
    show Steps p.tables e below (s₁.setTop (mkF m 0 #[.val (.ref a0_)] [])) _
    refine XS.aloadN X0.here hx rfl (hb hby d5_0) rfl rfl ?_
    show Steps p.tables e below (s₁.setTop (mkF m 1 #[.val (.ref a0_)] [(.ref a0_)])) _
    refine st1 _ ?_
    exact kt
  obtain ⟨fs, hr, hrun, hended, hW, hsame⟩ := X1.leave (v := some (.long w_leaseLeftMillis_a0)) (fun h => by rw [Bd.returns] at h; cases h)
  refine ⟨_, _, pre2 _ (retOut X1 hx Bd.returns rfl (Or.inr (Or.inl ⟨rfl, rfl, _, rfl⟩)) (hb hby d5_4) hr), hrun, hended, _, _, rfl, ?_, ⟨_, rfl⟩, hW, hsame.mono (by decide) (by decide)⟩
  show QLea Z a0_ w_leaseLeftMillis_a0 h0 n0 _ T1.heap _
  rw [e1]
  exact ⟨rfl, N0, rfl⟩
theorem d6_0 : decode prog_27_method_10_code 0 = .ok (.aload_n 0, 1) := by decide +kernel
theorem d6_1 : decode prog_27_method_10_code 1 = .ok (.getfield 13, 3) := by decide +kernel
theorem d6_4 : decode prog_27_method_10_code 4 = .ok (.areturn, 1) := by decide +kernel
theorem efTok (m : MethodId) (a0_ : Addr) : entryFrame m #[(.ref a0_)] 1 = mkF m 0 #[.val (.ref a0_)] [] := by first | (simp [entryFrame, mkF, argsToLocals, Value.category]; done) | rfl
def QTok (Z : State) (a0_ : Addr) (w_tokens_a0 : Addr) (h0 : Heap) (n0 : Nat) (v : Option Value) (h : Heap) (L : List Loc) : Prop := v = some (.ref w_tokens_a0) ∧ Fr n0 L ∧ h = h0
set_option maxRecDepth 65536 in
set_option maxHeartbeats 40000000 in
theorem rmTok (l : Launch) (Z : State) (a0 : Array Value) (hw : ∀ d ∈ tables_1, d.before a0 Z = true) (ws : List Jvm.Cond) (a0_ : Addr) (w_tokens_a0 : Addr) (h0 : Heap) (n0 : Nat) (O0 : Old Z n0 h0) (P0 : Fld Z h0 a0_ "com/example/latchkey/latchkey/LockStore$Attempt" "tokens" "Lcom/example/latchkey/latchkey/LockTokens;" (.ref w_tokens_a0)) :
    MetFree l (⟨"com/example/latchkey/latchkey/LockStore$Attempt", "tokens", "()Lcom/example/latchkey/latchkey/LockTokens;"⟩ : MethodName) (head1 (Jvm.Cond.code (⟨"com/example/latchkey/latchkey/LockStore$Attempt", "tokens", "()Lcom/example/latchkey/latchkey/LockTokens;"⟩ : MethodName) prog_27_method_10_code 1 (some (.object "com/example/latchkey/latchkey/LockTokens")) :: ws) ({ frames := 0, cells := 0, slots := 0, locals := 0 } : Room)) (fun a U => a = #[(.ref a0_)] ∧ Z.Warmed39 U.vm ∧ U.heap = h0) (fun _ _ _ _ _ => True) (fun _ U o U' => ∃ v L, o = .returned v ∧ QTok Z a0_ w_tokens_a0 h0 n0 v U'.heap L ∧ FrameEnd U o U' L ({ frames := 0, cells := 0, slots := 0, locals := 0 } : Room).cells ({ frames := 0, cells := 0, slots := 0, locals := 0 } : Room).slots) := by
  refine MetFree.of_bodySF (plainFor_of_name pn_1) hisR ?_
  intro p e s m args below meth c s₁ Bd hml0 hP hK
  obtain ⟨rfl, hZ, hh⟩ := hP
  have hx := Bd.exec
  have hby := Bd.bytes
  have hml : c.maxLocals = 1 := hml0
  have hown : s.vm.findClass "com/example/latchkey/latchkey/LockStore$Attempt" = some m.cls := findClass_of_methodNamed Bd.named
  have hnm := (name_of_methodNamed Bd.named Bd.method).1
  have X0 : Stand p l e ({ frames := 0, cells := 0, slots := 0, locals := 0 } : Room) s m #[(.ref a0_)] below meth c s₁ [] 0 0 := Stand.of_body Bd
  have e0 : s₁.heap = h0 := by rw [← hh, Bd.state]; rfl
  have N0 := Fr.nil n0
  have pre0 : ∀ t, Steps p.tables e below (s₁.setTop (mkF m 0 #[.val (.ref a0_)] [])) t → Steps p.tables e below (s₁.setTop (entryFrame m #[(.ref a0_)] 1)) t := fun t k => castTop (efTok m a0_) k
  have K0 : Keep h0 h0 [] := Keep.refl _ _
  obtain ⟨T1, X1, e1, st1⟩ := getF X0 hx hZ hown (host := "") (Or.inl (hw _ (List.mem_of_getElem? (i := 25) rfl))) Via.refl e0 P0 (g := (mkF m 1 #[.val (.ref a0_)] [(.ref a0_)])) rfl rfl (hb hby d6_1)
  have pre2 : ∀ t, Steps p.tables e below (T1.setTop (mkF m 4 #[.val (.ref a0_)] [(.ref w_tokens_a0)])) t → Steps p.tables e below (s₁.setTop (entryFrame m #[(.ref a0_)] 1)) t := by
    intro t kt
    refine pre0 t ?_
    show Steps p.tables e below (s₁.setTop (mkF m 0 #[.val (.ref a0_)] [])) _
    refine XS.aloadN X0.here hx rfl (hb hby d6_0) rfl rfl ?_
    show Steps p.tables e below (s₁.setTop (mkF m 1 #[.val (.ref a0_)] [(.ref a0_)])) _
    refine st1 _ ?_
    exact kt
  obtain ⟨fs, hr, hrun, hended, hW, hsame⟩ := X1.leave (v := some (.ref w_tokens_a0)) (fun h => by rw [Bd.returns] at h; cases h)
  refine ⟨_, _, pre2 _ (retOut X1 hx Bd.returns rfl (Or.inr (Or.inr (Or.inr (Or.inr ⟨rfl, rfl, rfl⟩)))) (hb hby d6_4) hr), hrun, hended, _, _, rfl, ?_, ⟨_, rfl⟩, hW, hsame.mono (by decide) (by decide)⟩
  show QTok Z a0_ w_tokens_a0 h0 n0 _ T1.heap _
  rw [e1]
  exact ⟨rfl, N0, rfl⟩
theorem d7_0 : decode prog_32_method_3_code 0 = .ok (.iload_n 1, 1) := by decide +kernel
theorem d7_1 : decode prog_32_method_3_code 1 = .ok (.aload_n 0, 1) := by decide +kernel
theorem d7_2 : decode prog_32_method_3_code 2 = .ok (.getfield 7, 3) := by decide +kernel
theorem d7_5 : decode prog_32_method_3_code 5 = .ok (.arraylength, 1) := by decide +kernel
theorem d7_6 : decode prog_32_method_3_code 6 = .ok (.if_icmp .ge 12, 3) := by decide +kernel
theorem d7_18 : decode prog_32_method_3_code 18 = .ok (.lconst 0, 1) := by decide +kernel
theorem d7_19 : decode prog_32_method_3_code 19 = .ok (.lreturn, 1) := by decide +kernel
theorem pn_2 : plainName "com/example/latchkey/latchkey/LockTokens" = true := by first | (simp [plainName, overriddenIn]; done) | decide +kernel
theorem efGet (m : MethodId) (a0_ : Addr) (p1_ : Int32) : entryFrame m #[(.ref a0_), (.int p1_)] 2 = mkF m 0 #[.val (.ref a0_), .val (.int p1_)] [] := by first | (simp [entryFrame, mkF, argsToLocals, Value.category]; done) | rfl
def QGet (Z : State) (a0_ : Addr) (p1_ : Int32) (t_ : Addr) (k_ : ClassId) (h0 : Heap) (n0 : Nat) (v : Option Value) (h : Heap) (L : List Loc) : Prop := v = some (.long (0 : Int64)) ∧ Fr n0 L ∧ h = h0
set_option maxRecDepth 65536 in
set_option maxHeartbeats 40000000 in
theorem rmGet (l : Launch) (Z : State) (a0 : Array Value) (hw : ∀ d ∈ tables_1, d.before a0 Z = true) (ws : List Jvm.Cond) (a0_ : Addr) (p1_ : Int32) (t_ : Addr) (k_ : ClassId) (h0 : Heap) (n0 : Nat) (O0 : Old Z n0 h0) (hp : ¬ (p1_ < (0 : Int32))) (P1 : Fld Z Z.heap a0_ "com/example/latchkey/latchkey/LockTokens" "tokens" "[J" (.ref t_)) (P2 : Arv Z Z.heap t_ k_ .long (0 : Int32) [] (.long (0 : Int64))) :
    MetFree l (⟨"com/example/latchkey/latchkey/LockTokens", "get", "(I)J"⟩ : MethodName) (head1 (Jvm.Cond.code (⟨"com/example/latchkey/latchkey/LockTokens", "get", "(I)J"⟩ : MethodName) prog_32_method_3_code 2 (some .long) :: ws) ({ frames := 0, cells := 0, slots := 0, locals := 0 } : Room)) (fun a U => a = #[(.ref a0_), (.int p1_)] ∧ Z.Warmed39 U.vm ∧ U.heap = h0) (fun _ _ _ _ _ => True) (fun _ U o U' => ∃ v L, o = .returned v ∧ QGet Z a0_ p1_ t_ k_ h0 n0 v U'.heap L ∧ FrameEnd U o U' L ({ frames := 0, cells := 0, slots := 0, locals := 0 } : Room).cells ({ frames := 0, cells := 0, slots := 0, locals := 0 } : Room).slots) := by
  refine MetFree.of_bodySF (plainFor_of_name pn_2) hisR ?_
  intro p e s m args below meth c s₁ Bd hml0 hP hK
  obtain ⟨rfl, hZ, hh⟩ := hP
  have hx := Bd.exec
  have hby := Bd.bytes
  have hml : c.maxLocals = 2 := hml0
  have hown : s.vm.findClass "com/example/latchkey/latchkey/LockTokens" = some m.cls := findClass_of_methodNamed Bd.named
  have hnm := (name_of_methodNamed Bd.named Bd.method).1
  have X0 : Stand p l e ({ frames := 0, cells := 0, slots := 0, locals := 0 } : Room) s m #[(.ref a0_), (.int p1_)] below meth c s₁ [] 0 0 := Stand.of_body Bd
  have e0 : s₁.heap = h0 := by rw [← hh, Bd.state]; rfl
  have N0 := Fr.nil n0
  have pre0 : ∀ t, Steps p.tables e below (s₁.setTop (mkF m 0 #[.val (.ref a0_), .val (.int p1_)] [])) t → Steps p.tables e below (s₁.setTop (entryFrame m #[(.ref a0_), (.int p1_)] 2)) t := fun t k => castTop (efGet m a0_ p1_) k
  have K0 : Keep h0 h0 [] := Keep.refl _ _
  have f1 : Fld Z h0 a0_ "com/example/latchkey/latchkey/LockTokens" "tokens" "[J" (.ref t_) := P1.ext O0.2
  obtain ⟨T2, X2, e2, st2⟩ := getF X0 hx hZ hown (host := "") (Or.inl (hw _ (List.mem_of_getElem? (i := 49) rfl))) Via.refl e0 f1 (g := (mkF m 2 #[.val (.ref a0_), .val (.int p1_)] [(.ref a0_), (.int p1_)])) rfl rfl (hb hby d7_2)
  have f4 : Arv Z h0 t_ k_ .long (0 : Int32) [] (.long (0 : Int64)) := P2.ext O0.2
  obtain ⟨c3, r3, q3, s3, z3, y3, G3⟩ := id f4
  have pre5 : ∀ t, Steps p.tables e below (T2.setTop (mkF m 19 #[.val (.ref a0_), .val (.int p1_)] [(.long (0 : Int64))])) t → Steps p.tables e below (s₁.setTop (entryFrame m #[(.ref a0_), (.int p1_)] 2)) t := by
    intro t kt
    refine pre0 t ?_
    show Steps p.tables e below (s₁.setTop (mkF m 0 #[.val (.ref a0_), .val (.int p1_)] [])) _
    refine XS.iloadN X0.here hx rfl (hb hby d7_0) rfl ?_
    show Steps p.tables e below (s₁.setTop (mkF m 1 #[.val (.ref a0_), .val (.int p1_)] [(.int p1_)])) _
    refine XS.aloadN X0.here hx rfl (hb hby d7_1) rfl rfl ?_
    show Steps p.tables e below (s₁.setTop (mkF m 2 #[.val (.ref a0_), .val (.int p1_)] [(.ref a0_), (.int p1_)])) _
    refine st2 _ ?_
    show Steps p.tables e below (T2.setTop (mkF m 5 #[.val (.ref a0_), .val (.int p1_)] [(.ref t_), (.int p1_)])) _
    refine X2.arraylength hx (by rw [e2]; exact r3.1) (State.isArrayOf_alike hZ.alike r3.2.1) (g := (mkF m 5 #[.val (.ref a0_), .val (.int p1_)] [(.ref t_), (.int p1_)])) rfl rfl (hb hby d7_5) _ ?_
    rw [len_of s3 z3]
    show Steps p.tables e below (T2.setTop (mkF m 6 #[.val (.ref a0_), .val (.int p1_)] [(.int (0 : Int32)), (.int p1_)])) _
    refine XS.icmpYes X2.here hx rfl (pc0 := 6) (pc' := 18) rfl (hb hby d7_6) rfl (flt hp).2.1 (by decide) (by decide) ?_
    show Steps p.tables e below (T2.setTop (mkF m 18 #[.val (.ref a0_), .val (.int p1_)] [])) _
    refine XS.lconst X2.here hx rfl (hb hby d7_18) ?_
    exact kt
  obtain ⟨fs, hr, hrun, hended, hW, hsame⟩ := X2.leave (v := some (.long (0 : Int64))) (fun h => by rw [Bd.returns] at h; cases h)
  refine ⟨_, _, pre5 _ (retOut X2 hx Bd.returns rfl (Or.inr (Or.inl ⟨rfl, rfl, _, rfl⟩)) (hb hby d7_19) hr), hrun, hended, _, _, rfl, ?_, ⟨_, rfl⟩, hW, hsame.mono (by decide) (by decide)⟩
  show QGet Z a0_ p1_ t_ k_ h0 n0 _ T2.heap _
  rw [e2]
  exact ⟨rfl, N0, rfl⟩
theorem pd_2 : parseMethodDescriptor "(J)Lcom/example/latchkey/latchkey/LockStore$Attempt;" = some ⟨[.long], some (.object "com/example/latchkey/latchkey/LockStore$Attempt")⟩ := by decide +kernel
theorem pd_3 : parseMethodDescriptor "()Z" = some ⟨[], some .boolean⟩ := by decide +kernel
theorem pd_4 : parseMethodDescriptor "()J" = some ⟨[], some .long⟩ := by decide +kernel
theorem pd_5 : parseMethodDescriptor "()Lcom/example/latchkey/latchkey/LockTokens;" = some ⟨[], some (.object "com/example/latchkey/latchkey/LockTokens")⟩ := by decide +kernel
theorem pd_6 : parseMethodDescriptor "(I)J" = some ⟨[.int], some .long⟩ := by decide +kernel
theorem pn_3 : plainName "com/example/latchkey/latchkey/AttemptRefusedPinLaw" = true := by first | (simp [plainName, overriddenIn]; done) | decide +kernel
theorem efLaw (m : MethodId) (q0_ : Int64) (p1_ : Int32) : entryFrame m #[(.long q0_), (.int p1_)] maxLocals = mkF m 0 #[.val (.long q0_), .second, .val (.int p1_), .unset, .unset, .unset, .unset, .unset] [] := by first | (simp [entryFrame, mkF, argsToLocals, Value.category, maxLocals]; done) | rfl
def QLaw (Z : State) (q0_ : Int64) (p1_ : Int32) (w_NONE : Addr) (t_ : Addr) (k_ : ClassId) (w_REFUSED : Addr) (h0 : Heap) (n0 : Nat) (v : Option Value) (h : Heap) (L : List Loc) : Prop := v = some (.int (1 : Int32)) ∧ Fr n0 L
set_option maxRecDepth 65536 in
set_option maxHeartbeats 40000000 in
theorem rmLaw (l : Launch) (Z : State) (a0 : Array Value) (hw : ∀ d ∈ tables_1, d.before a0 Z = true) (ws : List Jvm.Cond) (q0_ : Int64) (p1_ : Int32) (w_NONE : Addr) (t_ : Addr) (k_ : ClassId) (w_REFUSED : Addr) (h0 : Heap) (n0 : Nat) (O0 : Old Z n0 h0) (P0 : Sta Z Z.heap "com/example/latchkey/latchkey/LockTokens" "NONE" "Lcom/example/latchkey/latchkey/LockTokens;" (.ref w_NONE)) (P1 : Exa Z Z.heap w_NONE "com/example/latchkey/latchkey/LockTokens") (P2 : Fld Z Z.heap w_NONE "com/example/latchkey/latchkey/LockTokens" "tokens" "[J" (.ref t_)) (P3 : Arv Z Z.heap t_ k_ .long (0 : Int32) [] (.long (0 : Int64))) (P4 : Sta Z Z.heap "com/example/latchkey/latchkey/LockStore$Attempt$Grant" "REFUSED" "Lcom/example/latchkey/latchkey/LockStore$Attempt$Grant;" (.ref w_REFUSED)) :
    MetFree l x (head1 (Jvm.Cond.code x code maxLocals ret :: ws) room_1) (fun a U => a = #[(.long q0_), (.int p1_)] ∧ Z.Warmed39 U.vm ∧ U.heap = h0) (fun _ _ _ _ _ => True) (fun _ U o U' => ∃ v L, o = .returned v ∧ QLaw Z q0_ p1_ w_NONE t_ k_ w_REFUSED h0 n0 v U'.heap L ∧ FrameEnd U o U' L room_1.cells room_1.slots) := by
  refine MetFree.of_bodySF (plainFor_of_name pn_3) hisR ?_
  intro p e s m args below meth c s₁ Bd hml0 hP hK
  obtain ⟨rfl, hZ, hh⟩ := hP
  have hx := Bd.exec
  have hby := Bd.bytes
  have hml : c.maxLocals = 8 := hml0
  have hown : s.vm.findClass "com/example/latchkey/latchkey/AttemptRefusedPinLaw" = some m.cls := findClass_of_methodNamed Bd.named
  have hnm := (name_of_methodNamed Bd.named Bd.method).1
  have X0 : Stand p l e room_1 s m #[(.long q0_), (.int p1_)] below meth c s₁ [] 0 0 := Stand.of_body Bd
  have e0 : s₁.heap = h0 := by rw [← hh, Bd.state]; rfl
  have N0 := Fr.nil n0
  have pre0 : ∀ t, Steps p.tables e below (s₁.setTop (mkF m 0 #[.val (.long q0_), .second, .val (.int p1_), .unset, .unset, .unset, .unset, .unset] [])) t → Steps p.tables e below (s₁.setTop (entryFrame m #[(.long q0_), (.int p1_)] maxLocals)) t := fun t k => castTop (efLaw m q0_ p1_) k
  have K0 : Keep h0 h0 [] := Keep.refl _ _
  obtain ⟨_, _, ⟨T1, L1, k1, n1⟩, -, X1, ⟨Lc1, hQ1, l1, y1, z1⟩, st1⟩ := Jvm.LawKit.callS X0 hx (y := (⟨"com/example/latchkey/latchkey/LockStore$Attempt", "refused", "(J)Lcom/example/latchkey/latchkey/LockStore$Attempt;"⟩ : MethodName)) hown (mvT hZ (hw _ (List.mem_of_getElem? (i := 0) rfl))) (mvT hZ (hw _ (List.mem_of_getElem? (i := 1) rfl))) (mvT hZ (hw _ (List.mem_of_getElem? (i := 2) rfl))) (mvT hZ (hw _ (List.mem_of_getElem? (i := 3) rfl))) (by decide) (backOf (W := 0) (rmRef l Z a0 hw [] q0_ w_REFUSED w_NONE h0 n0 O0 P4 P0) hZ (hw _ (List.mem_of_getElem? (i := 3) rfl)) (hw _ (List.mem_of_getElem? (i := 2) rfl)) (by decide) (by decide)) (g := (mkF m 1 #[.val (.long q0_), .second, .val (.int p1_), .unset, .unset, .unset, .unset, .unset] [(.long q0_)])) rfl (by rw [hml]; rfl) (argsL := [(.long q0_)]) (rest := []) (lenOf pd_2 rfl) rfl (by show 2 * 0 + _ ≤ _; exact Nat.le_of_eq rfl) (hb hby at_1) (fun _ _ => ⟨rfl, e0, (by decide : 0 + 1 ≤ _), (by decide : 0 + 3 ≤ _)⟩)
  dsimp only [Pt.U, Pt.locs, Pt.cells, Pt.slots] at X1 l1 y1 z1 st1 hQ1
  subst l1 y1 z1
  obtain ⟨h1, e1⟩ : ∃ z, T1.heap = z := ⟨_, rfl⟩
  rw [e1] at hQ1
  obtain ⟨nb1_1, rfl, N1q, K1, sznb1_1, g1_0, g1_1, g1_2, g1_3⟩ := hQ1
  have N2 := Fr.app N0 N1q
  have ge3 : n0 ≤ nb1_1 := Nat.le_trans (Nat.le_trans (Nat.le_of_eq O0.1.symm) O0.2.1) sznb1_1
  have sz4 : h0.size ≤ nb1_1 := Nat.le_trans K0.1 sznb1_1
  have f6 : Old Z n0 h1 := O0.keep K1 all0
  obtain ⟨cq5, kq5, q5a, q5b, q5c⟩ := isOf hZ e1 g1_0
  obtain ⟨_, _, ⟨T5, L5, k5, n5⟩, -, X5, ⟨Lc5, hQ5, l5, y5, z5⟩, st5⟩ := X1.virtualBack hx (y := (⟨"com/example/latchkey/latchkey/LockStore$Attempt", "taken", "()Z"⟩ : MethodName)) (z := (⟨"com/example/latchkey/latchkey/LockStore$Attempt", "taken", "()Z"⟩ : MethodName)) hown (mvT hZ (hw _ (List.mem_of_getElem? (i := 29) rfl))) (mvT hZ (hw _ (List.mem_of_getElem? (i := 30) rfl))) (notFace_of_selects (args := #[]) (mvT hZ (hw _ (List.mem_of_getElem? (i := 32) rfl)))) (mvT hZ (hw _ (List.mem_of_getElem? (i := 32) rfl))) (mvT hZ (hw _ (List.mem_of_getElem? (i := 31) rfl))) (by decide) (backOf (W := 0) (rmTak l Z a0 hw [] nb1_1 w_REFUSED h1 n0 f6 P4 g1_1) hZ (hw _ (List.mem_of_getElem? (i := 33) rfl)) (hw _ (List.mem_of_getElem? (i := 2) rfl)) (by decide) (by decide)) q5a q5c (g := (mkF m 12 #[.val (.long q0_), .second, .val (.int p1_), .val (.ref nb1_1), .val (.int (p1_ &&& (7 : Int32))), .unset, .unset, .unset] [(.ref nb1_1)])) rfl (by rw [hml]; rfl) (Steps.refl _) (argsL := []) (rest := []) (lenOf pd_3 rfl) rfl (by show 2 * 0 + _ ≤ _; exact Nat.le_of_eq rfl) (hb hby at_12) (fun _ _ => ⟨rfl, e1, (by decide : 1 + 0 ≤ _), (by decide : 3 + 0 ≤ _)⟩)
  dsimp only [Pt.U, Pt.locs, Pt.cells, Pt.slots] at X5 l5 y5 z5 st5 hQ5
  subst l5 y5 z5
  obtain ⟨h5, e5⟩ : ∃ z, T5.heap = z := ⟨_, rfl⟩
  rw [e5] at hQ5
  obtain ⟨rfl, N5q, hh5⟩ := hQ5
  have N7 := Fr.app N2 N5q
  have e5' : T5.heap = h1 := e5.trans hh5
  obtain ⟨cq8, kq8, q8a, q8b, q8c⟩ := isOf hZ e5' g1_0
  obtain ⟨_, _, ⟨T8, L8, k8, n8⟩, -, X8, ⟨Lc8, hQ8, l8, y8, z8⟩, st8⟩ := X5.virtualBack hx (y := (⟨"com/example/latchkey/latchkey/LockStore$Attempt", "leaseLeftMillis", "()J"⟩ : MethodName)) (z := (⟨"com/example/latchkey/latchkey/LockStore$Attempt", "leaseLeftMillis", "()J"⟩ : MethodName)) hown (mvT hZ (hw _ (List.mem_of_getElem? (i := 34) rfl))) (mvT hZ (hw _ (List.mem_of_getElem? (i := 35) rfl))) (notFace_of_selects (args := #[]) (mvT hZ (hw _ (List.mem_of_getElem? (i := 37) rfl)))) (mvT hZ (hw _ (List.mem_of_getElem? (i := 37) rfl))) (mvT hZ (hw _ (List.mem_of_getElem? (i := 36) rfl))) (by decide) (backOf (W := 0) (rmLea l Z a0 hw [] nb1_1 q0_ h1 n0 f6 g1_3) hZ (hw _ (List.mem_of_getElem? (i := 38) rfl)) (hw _ (List.mem_of_getElem? (i := 2) rfl)) (by decide) (by decide)) q8a q8c (g := (mkF m 26 #[.val (.long q0_), .second, .val (.int p1_), .val (.ref nb1_1), .val (.int (p1_ &&& (7 : Int32))), .val (.int (1 : Int32)), .unset, .unset] [(.ref nb1_1)])) rfl (by rw [hml]; rfl) (Steps.refl _) (argsL := []) (rest := []) (lenOf pd_4 rfl) rfl (by show 2 * 0 + _ ≤ _; exact Nat.le_of_eq rfl) (hb hby at_26) (fun _ _ => ⟨rfl, e5', (by decide : 1 + 0 ≤ _), (by decide : 3 + 0 ≤ _)⟩)
  dsimp only [Pt.U, Pt.locs, Pt.cells, Pt.slots] at X8 l8 y8 z8 st8 hQ8
  subst l8 y8 z8
  obtain ⟨h8, e8⟩ : ∃ z, T8.heap = z := ⟨_, rfl⟩
  rw [e8] at hQ8
  obtain ⟨rfl, N8q, hh8⟩ := hQ8
  have N9 := Fr.app N7 N8q
  have e8' : T8.heap = h1 := e8.trans hh8
  obtain ⟨cq10, kq10, q10a, q10b, q10c⟩ := isOf hZ e8' g1_0
  obtain ⟨_, _, ⟨T10, L10, k10, n10⟩, -, X10, ⟨Lc10, hQ10, l10, y10, z10⟩, st10⟩ := X8.virtualBack hx (y := (⟨"com/example/latchkey/latchkey/LockStore$Attempt", "tokens", "()Lcom/example/latchkey/latchkey/LockTokens;"⟩ : MethodName)) (z := (⟨"com/example/latchkey/latchkey/LockStore$Attempt", "tokens", "()Lcom/example/latchkey/latchkey/LockTokens;"⟩ : MethodName)) hown (mvT hZ (hw _ (List.mem_of_getElem? (i := 39) rfl))) (mvT hZ (hw _ (List.mem_of_getElem? (i := 40) rfl))) (notFace_of_selects (args := #[]) (mvT hZ (hw _ (List.mem_of_getElem? (i := 42) rfl)))) (mvT hZ (hw _ (List.mem_of_getElem? (i := 42) rfl))) (mvT hZ (hw _ (List.mem_of_getElem? (i := 41) rfl))) (by decide) (backOf (W := 0) (rmTok l Z a0 hw [] nb1_1 w_NONE h1 n0 f6 g1_2) hZ (hw _ (List.mem_of_getElem? (i := 43) rfl)) (hw _ (List.mem_of_getElem? (i := 2) rfl)) (by decide) (by decide)) q10a q10c (g := (mkF m 42 #[.val (.long q0_), .second, .val (.int p1_), .val (.ref nb1_1), .val (.int (p1_ &&& (7 : Int32))), .val (.int (1 : Int32)), .val (.int (1 : Int32)), .unset] [(.ref nb1_1)])) rfl (by rw [hml]; rfl) (Steps.refl _) (argsL := []) (rest := []) (lenOf pd_5 rfl) rfl (by show 2 * 0 + _ ≤ _; exact Nat.le_of_eq rfl) (hb hby at_42) (fun _ _ => ⟨rfl, e8', (by decide : 1 + 0 ≤ _), (by decide : 3 + 0 ≤ _)⟩)
  dsimp only [Pt.U, Pt.locs, Pt.cells, Pt.slots] at X10 l10 y10 z10 st10 hQ10
  subst l10 y10 z10
  obtain ⟨h10, e10⟩ : ∃ z, T10.heap = z := ⟨_, rfl⟩
  rw [e10] at hQ10
  obtain ⟨rfl, N10q, hh10⟩ := hQ10
  have N11 := Fr.app N9 N10q
  have e10' : T10.heap = h1 := e10.trans hh10
  have hn12 : ¬ ((p1_ &&& (7 : Int32)) < (0 : Int32)) := own_and7 _
  have f14 : Exa Z h1 w_NONE "com/example/latchkey/latchkey/LockTokens" := P1.ext f6.2
  obtain ⟨cq13, kq13, q13a, q13b, q13c⟩ := isOf hZ e10' f14
  obtain ⟨_, _, ⟨T13, L13, k13, n13⟩, -, X13, ⟨Lc13, hQ13, l13, y13, z13⟩, st13⟩ := X10.virtualBack hx (y := (⟨"com/example/latchkey/latchkey/LockTokens", "get", "(I)J"⟩ : MethodName)) (z := (⟨"com/example/latchkey/latchkey/LockTokens", "get", "(I)J"⟩ : MethodName)) hown (mvT hZ (hw _ (List.mem_of_getElem? (i := 44) rfl))) (mvT hZ (hw _ (List.mem_of_getElem? (i := 45) rfl))) (notFace_of_selects (args := #[]) (mvT hZ (hw _ (List.mem_of_getElem? (i := 47) rfl)))) (mvT hZ (hw _ (List.mem_of_getElem? (i := 47) rfl))) (mvT hZ (hw _ (List.mem_of_getElem? (i := 46) rfl))) (by decide) (backOf (W := 0) (rmGet l Z a0 hw [] w_NONE (p1_ &&& (7 : Int32)) t_ k_ h1 n0 f6 hn12 P2 P3) hZ (hw _ (List.mem_of_getElem? (i := 48) rfl)) (hw _ (List.mem_of_getElem? (i := 10) rfl)) (by decide) (by decide)) q13a q13c (g := (mkF m 47 #[.val (.long q0_), .second, .val (.int p1_), .val (.ref nb1_1), .val (.int (p1_ &&& (7 : Int32))), .val (.int (1 : Int32)), .val (.int (1 : Int32)), .unset] [(.int (p1_ &&& (7 : Int32))), (.ref w_NONE)])) rfl (by rw [hml]; rfl) (Steps.refl _) (argsL := [(.int (p1_ &&& (7 : Int32)))]) (rest := []) (lenOf pd_6 rfl) rfl (by show 2 * 0 + _ ≤ _; exact Nat.le_of_eq rfl) (hb hby at_47) (fun _ _ => ⟨rfl, e10', (by decide : 1 + 0 ≤ _), (by decide : 3 + 0 ≤ _)⟩)
  dsimp only [Pt.U, Pt.locs, Pt.cells, Pt.slots] at X13 l13 y13 z13 st13 hQ13
  subst l13 y13 z13
  obtain ⟨h13, e13⟩ : ∃ z, T13.heap = z := ⟨_, rfl⟩
  rw [e13] at hQ13
  obtain ⟨rfl, N13q, hh13⟩ := hQ13
  have N15 := Fr.app N11 N13q
  have e13' : T13.heap = h1 := e13.trans hh13
  have pre16 : ∀ t, Steps p.tables e below (T13.setTop (mkF m 82 #[.val (.long q0_), .second, .val (.int p1_), .val (.ref nb1_1), .val (.int (p1_ &&& (7 : Int32))), .val (.int (1 : Int32)), .val (.int (1 : Int32)), .val (.int (1 : Int32))] [(.int (1 : Int32))])) t → Steps p.tables e below (s₁.setTop (entryFrame m #[(.long q0_), (.int p1_)] maxLocals)) t := by
    intro t kt
    refine pre0 t ?_
    show Steps p.tables e below (s₁.setTop (mkF m 0 #[.val (.long q0_), .second, .val (.int p1_), .unset, .unset, .unset, .unset, .unset] [])) _
    refine XS.lloadN X0.here hx rfl (hb hby at_0) rfl ?_
    show Steps p.tables e below (s₁.setTop (mkF m 1 #[.val (.long q0_), .second, .val (.int p1_), .unset, .unset, .unset, .unset, .unset] [(.long q0_)])) _
    refine st1 _ ?_
    show Steps p.tables e below (T1.setTop (mkF m 4 #[.val (.long q0_), .second, .val (.int p1_), .unset, .unset, .unset, .unset, .unset] [(.ref nb1_1)])) _
    refine XS.astoreN X1.here hx rfl (hb hby at_4) rfl rfl (l' := #[.val (.long q0_), .second, .val (.int p1_), .val (.ref nb1_1), .unset, .unset, .unset, .unset]) rfl ?_
    show Steps p.tables e below (T1.setTop (mkF m 5 #[.val (.long q0_), .second, .val (.int p1_), .val (.ref nb1_1), .unset, .unset, .unset, .unset] [])) _
    refine XS.iloadN X1.here hx rfl (hb hby at_5) rfl ?_
    show Steps p.tables e below (T1.setTop (mkF m 6 #[.val (.long q0_), .second, .val (.int p1_), .val (.ref nb1_1), .unset, .unset, .unset, .unset] [(.int p1_)])) _
    refine XS.bipush X1.here hx rfl (hb hby at_6) ?_
    show Steps p.tables e below (T1.setTop (mkF m 8 #[.val (.long q0_), .second, .val (.int p1_), .val (.ref nb1_1), .unset, .unset, .unset, .unset] [(.int (7 : Int32)), (.int p1_)])) _
    refine XS.iand X1.here hx rfl (hb hby at_8) rfl ?_
    show Steps p.tables e below (T1.setTop (mkF m 9 #[.val (.long q0_), .second, .val (.int p1_), .val (.ref nb1_1), .unset, .unset, .unset, .unset] [(.int (p1_ &&& (7 : Int32)))])) _
    refine XS.istore X1.here hx rfl (hb hby at_9) rfl (l' := #[.val (.long q0_), .second, .val (.int p1_), .val (.ref nb1_1), .val (.int (p1_ &&& (7 : Int32))), .unset, .unset, .unset]) rfl ?_
    show Steps p.tables e below (T1.setTop (mkF m 11 #[.val (.long q0_), .second, .val (.int p1_), .val (.ref nb1_1), .val (.int (p1_ &&& (7 : Int32))), .unset, .unset, .unset] [])) _
    refine XS.aloadN X1.here hx rfl (hb hby at_11) rfl rfl ?_
    show Steps p.tables e below (T1.setTop (mkF m 12 #[.val (.long q0_), .second, .val (.int p1_), .val (.ref nb1_1), .val (.int (p1_ &&& (7 : Int32))), .unset, .unset, .unset] [(.ref nb1_1)])) _
    refine st5.trans ?_
    show Steps p.tables e below (T5.setTop (mkF m 15 #[.val (.long q0_), .second, .val (.int p1_), .val (.ref nb1_1), .val (.int (p1_ &&& (7 : Int32))), .unset, .unset, .unset] [(.int (0 : Int32))])) _
    refine XS.ifNo X5.here hx rfl (hb hby at_15) rfl ((if0 _ _).trans (teq (by decide : (0 : Int32) = (0 : Int32))).2) ?_
    show Steps p.tables e below (T5.setTop (mkF m 18 #[.val (.long q0_), .second, .val (.int p1_), .val (.ref nb1_1), .val (.int (p1_ &&& (7 : Int32))), .unset, .unset, .unset] [])) _
    refine XS.iconst X5.here hx rfl (hb hby at_18) ?_
    show Steps p.tables e below (T5.setTop (mkF m 19 #[.val (.long q0_), .second, .val (.int p1_), .val (.ref nb1_1), .val (.int (p1_ &&& (7 : Int32))), .unset, .unset, .unset] [(.int (1 : Int32))])) _
    refine XS.goto X5.here hx rfl (pc0 := 19) (pc' := 23) rfl (hb hby at_19) (by decide) (by decide) ?_
    show Steps p.tables e below (T5.setTop (mkF m 23 #[.val (.long q0_), .second, .val (.int p1_), .val (.ref nb1_1), .val (.int (p1_ &&& (7 : Int32))), .unset, .unset, .unset] [(.int (1 : Int32))])) _
    refine XS.istore X5.here hx rfl (hb hby at_23) rfl (l' := #[.val (.long q0_), .second, .val (.int p1_), .val (.ref nb1_1), .val (.int (p1_ &&& (7 : Int32))), .val (.int (1 : Int32)), .unset, .unset]) rfl ?_
    show Steps p.tables e below (T5.setTop (mkF m 25 #[.val (.long q0_), .second, .val (.int p1_), .val (.ref nb1_1), .val (.int (p1_ &&& (7 : Int32))), .val (.int (1 : Int32)), .unset, .unset] [])) _
    refine XS.aloadN X5.here hx rfl (hb hby at_25) rfl rfl ?_
    show Steps p.tables e below (T5.setTop (mkF m 26 #[.val (.long q0_), .second, .val (.int p1_), .val (.ref nb1_1), .val (.int (p1_ &&& (7 : Int32))), .val (.int (1 : Int32)), .unset, .unset] [(.ref nb1_1)])) _
    refine st8.trans ?_
    show Steps p.tables e below (T8.setTop (mkF m 29 #[.val (.long q0_), .second, .val (.int p1_), .val (.ref nb1_1), .val (.int (p1_ &&& (7 : Int32))), .val (.int (1 : Int32)), .unset, .unset] [(.long q0_)])) _
    refine XS.lloadN X8.here hx rfl (hb hby at_29) rfl ?_
    show Steps p.tables e below (T8.setTop (mkF m 30 #[.val (.long q0_), .second, .val (.int p1_), .val (.ref nb1_1), .val (.int (p1_ &&& (7 : Int32))), .val (.int (1 : Int32)), .unset, .unset] [(.long q0_), (.long q0_)])) _
    refine XS.lcmp X8.here hx rfl (hb hby at_30) rfl ?_
    show Steps p.tables e below (T8.setTop (mkF m 31 #[.val (.long q0_), .second, .val (.int p1_), .val (.ref nb1_1), .val (.int (p1_ &&& (7 : Int32))), .val (.int (1 : Int32)), .unset, .unset] [(.int (lcmpW q0_ q0_))])) _
    refine XS.ifNo X8.here hx rfl (hb hby at_31) rfl ((if0 _ _).trans (teq ((lw_eq _ _).mpr (rfl : q0_ = q0_))).2) ?_
    show Steps p.tables e below (T8.setTop (mkF m 34 #[.val (.long q0_), .second, .val (.int p1_), .val (.ref nb1_1), .val (.int (p1_ &&& (7 : Int32))), .val (.int (1 : Int32)), .unset, .unset] [])) _
    refine XS.iconst X8.here hx rfl (hb hby at_34) ?_
    show Steps p.tables e below (T8.setTop (mkF m 35 #[.val (.long q0_), .second, .val (.int p1_), .val (.ref nb1_1), .val (.int (p1_ &&& (7 : Int32))), .val (.int (1 : Int32)), .unset, .unset] [(.int (1 : Int32))])) _
    refine XS.goto X8.here hx rfl (pc0 := 35) (pc' := 39) rfl (hb hby at_35) (by decide) (by decide) ?_
    show Steps p.tables e below (T8.setTop (mkF m 39 #[.val (.long q0_), .second, .val (.int p1_), .val (.ref nb1_1), .val (.int (p1_ &&& (7 : Int32))), .val (.int (1 : Int32)), .unset, .unset] [(.int (1 : Int32))])) _
    refine XS.istore X8.here hx rfl (hb hby at_39) rfl (l' := #[.val (.long q0_), .second, .val (.int p1_), .val (.ref nb1_1), .val (.int (p1_ &&& (7 : Int32))), .val (.int (1 : Int32)), .val (.int (1 : Int32)), .unset]) rfl ?_
    show Steps p.tables e below (T8.setTop (mkF m 41 #[.val (.long q0_), .second, .val (.int p1_), .val (.ref nb1_1), .val (.int (p1_ &&& (7 : Int32))), .val (.int (1 : Int32)), .val (.int (1 : Int32)), .unset] [])) _
    refine XS.aloadN X8.here hx rfl (hb hby at_41) rfl rfl ?_
    show Steps p.tables e below (T8.setTop (mkF m 42 #[.val (.long q0_), .second, .val (.int p1_), .val (.ref nb1_1), .val (.int (p1_ &&& (7 : Int32))), .val (.int (1 : Int32)), .val (.int (1 : Int32)), .unset] [(.ref nb1_1)])) _
    refine st10.trans ?_
    show Steps p.tables e below (T10.setTop (mkF m 45 #[.val (.long q0_), .second, .val (.int p1_), .val (.ref nb1_1), .val (.int (p1_ &&& (7 : Int32))), .val (.int (1 : Int32)), .val (.int (1 : Int32)), .unset] [(.ref w_NONE)])) _
    refine XS.iload X10.here hx rfl (hb hby at_45) rfl ?_
    show Steps p.tables e below (T10.setTop (mkF m 47 #[.val (.long q0_), .second, .val (.int p1_), .val (.ref nb1_1), .val (.int (p1_ &&& (7 : Int32))), .val (.int (1 : Int32)), .val (.int (1 : Int32)), .unset] [(.int (p1_ &&& (7 : Int32))), (.ref w_NONE)])) _
    refine st13.trans ?_
    show Steps p.tables e below (T13.setTop (mkF m 50 #[.val (.long q0_), .second, .val (.int p1_), .val (.ref nb1_1), .val (.int (p1_ &&& (7 : Int32))), .val (.int (1 : Int32)), .val (.int (1 : Int32)), .unset] [(.long (0 : Int64))])) _
    refine XS.lconst X13.here hx rfl (hb hby at_50) ?_
    show Steps p.tables e below (T13.setTop (mkF m 51 #[.val (.long q0_), .second, .val (.int p1_), .val (.ref nb1_1), .val (.int (p1_ &&& (7 : Int32))), .val (.int (1 : Int32)), .val (.int (1 : Int32)), .unset] [(.long (0 : Int64)), (.long (0 : Int64))])) _
    refine XS.lcmp X13.here hx rfl (hb hby at_51) rfl ?_
    show Steps p.tables e below (T13.setTop (mkF m 52 #[.val (.long q0_), .second, .val (.int p1_), .val (.ref nb1_1), .val (.int (p1_ &&& (7 : Int32))), .val (.int (1 : Int32)), .val (.int (1 : Int32)), .unset] [(.int (lcmpW (0 : Int64) (0 : Int64)))])) _
    refine XS.ifNo X13.here hx rfl (hb hby at_52) rfl ((if0 _ _).trans (teq ((lw_eq _ _).mpr (by decide : (0 : Int64) = (0 : Int64)))).2) ?_
    show Steps p.tables e below (T13.setTop (mkF m 55 #[.val (.long q0_), .second, .val (.int p1_), .val (.ref nb1_1), .val (.int (p1_ &&& (7 : Int32))), .val (.int (1 : Int32)), .val (.int (1 : Int32)), .unset] [])) _
    refine XS.iconst X13.here hx rfl (hb hby at_55) ?_
    show Steps p.tables e below (T13.setTop (mkF m 56 #[.val (.long q0_), .second, .val (.int p1_), .val (.ref nb1_1), .val (.int (p1_ &&& (7 : Int32))), .val (.int (1 : Int32)), .val (.int (1 : Int32)), .unset] [(.int (1 : Int32))])) _
    refine XS.goto X13.here hx rfl (pc0 := 56) (pc' := 60) rfl (hb hby at_56) (by decide) (by decide) ?_
    show Steps p.tables e below (T13.setTop (mkF m 60 #[.val (.long q0_), .second, .val (.int p1_), .val (.ref nb1_1), .val (.int (p1_ &&& (7 : Int32))), .val (.int (1 : Int32)), .val (.int (1 : Int32)), .unset] [(.int (1 : Int32))])) _
    refine XS.istore X13.here hx rfl (hb hby at_60) rfl (l' := #[.val (.long q0_), .second, .val (.int p1_), .val (.ref nb1_1), .val (.int (p1_ &&& (7 : Int32))), .val (.int (1 : Int32)), .val (.int (1 : Int32)), .val (.int (1 : Int32))]) rfl ?_
    show Steps p.tables e below (T13.setTop (mkF m 62 #[.val (.long q0_), .second, .val (.int p1_), .val (.ref nb1_1), .val (.int (p1_ &&& (7 : Int32))), .val (.int (1 : Int32)), .val (.int (1 : Int32)), .val (.int (1 : Int32))] [])) _
    refine XS.iload X13.here hx rfl (hb hby at_62) rfl ?_
    show Steps p.tables e below (T13.setTop (mkF m 64 #[.val (.long q0_), .second, .val (.int p1_), .val (.ref nb1_1), .val (.int (p1_ &&& (7 : Int32))), .val (.int (1 : Int32)), .val (.int (1 : Int32)), .val (.int (1 : Int32))] [(.int (1 : Int32))])) _
    refine XS.ifNo X13.here hx rfl (hb hby at_64) rfl ((if0 _ _).trans (feq (by decide : ¬ ((1 : Int32) = (0 : Int32)))).1) ?_
    show Steps p.tables e below (T13.setTop (mkF m 67 #[.val (.long q0_), .second, .val (.int p1_), .val (.ref nb1_1), .val (.int (p1_ &&& (7 : Int32))), .val (.int (1 : Int32)), .val (.int (1 : Int32)), .val (.int (1 : Int32))] [])) _
    refine XS.iload X13.here hx rfl (hb hby at_67) rfl ?_
    show Steps p.tables e below (T13.setTop (mkF m 69 #[.val (.long q0_), .second, .val (.int p1_), .val (.ref nb1_1), .val (.int (p1_ &&& (7 : Int32))), .val (.int (1 : Int32)), .val (.int (1 : Int32)), .val (.int (1 : Int32))] [(.int (1 : Int32))])) _
    refine XS.ifNo X13.here hx rfl (hb hby at_69) rfl ((if0 _ _).trans (feq (by decide : ¬ ((1 : Int32) = (0 : Int32)))).1) ?_
    show Steps p.tables e below (T13.setTop (mkF m 72 #[.val (.long q0_), .second, .val (.int p1_), .val (.ref nb1_1), .val (.int (p1_ &&& (7 : Int32))), .val (.int (1 : Int32)), .val (.int (1 : Int32)), .val (.int (1 : Int32))] [])) _
    refine XS.iload X13.here hx rfl (hb hby at_72) rfl ?_
    show Steps p.tables e below (T13.setTop (mkF m 74 #[.val (.long q0_), .second, .val (.int p1_), .val (.ref nb1_1), .val (.int (p1_ &&& (7 : Int32))), .val (.int (1 : Int32)), .val (.int (1 : Int32)), .val (.int (1 : Int32))] [(.int (1 : Int32))])) _
    refine XS.ifNo X13.here hx rfl (hb hby at_74) rfl ((if0 _ _).trans (feq (by decide : ¬ ((1 : Int32) = (0 : Int32)))).1) ?_
    show Steps p.tables e below (T13.setTop (mkF m 77 #[.val (.long q0_), .second, .val (.int p1_), .val (.ref nb1_1), .val (.int (p1_ &&& (7 : Int32))), .val (.int (1 : Int32)), .val (.int (1 : Int32)), .val (.int (1 : Int32))] [])) _
    refine XS.iconst X13.here hx rfl (hb hby at_77) ?_
    show Steps p.tables e below (T13.setTop (mkF m 78 #[.val (.long q0_), .second, .val (.int p1_), .val (.ref nb1_1), .val (.int (p1_ &&& (7 : Int32))), .val (.int (1 : Int32)), .val (.int (1 : Int32)), .val (.int (1 : Int32))] [(.int (1 : Int32))])) _
    refine XS.goto X13.here hx rfl (pc0 := 78) (pc' := 82) rfl (hb hby at_78) (by decide) (by decide) ?_
    exact kt
  obtain ⟨fs, hr, hrun, hended, hW, hsame⟩ := X13.leave (v := some (.int (1 : Int32))) (fun h => by rw [Bd.returns] at h; cases h)
  refine ⟨_, _, pre16 _ (retN X13 hx (t := .boolean) Bd.returns (by simp) (hb hby at_82) hr), hrun, hended, _, _, rfl, ?_, ⟨_, rfl⟩, hW, hsame.mono (by decide) (by decide)⟩
  show QLaw Z q0_ p1_ w_NONE t_ k_ w_REFUSED h0 n0 _ T13.heap _
  rw [e13']
  exact ⟨rfl, N15⟩
set_option maxRecDepth 65536 in
set_option maxHeartbeats 40000000 in
theorem comes_1 {Post : Tables → Env → Array Value → State → Outcome → State → Prop} (hpost : ∀ tb e args s v u, (limb_1_1.after args s (.returned v) u = true ∧ limb_1_2.after args s (.returned v) u = true ∧ True) → FrameEnd s (.returned v) u (Jvm.fieldLocs frame_1_writes args s ++ Jvm.arrayLocs frame_1_arrays args s ++ Jvm.staticLocs frame_1_statics s) 16 128 → Post tb e args s (.returned v) u) :
    ArmFor flags0 classFile x code maxLocals ret World_1 tables_1 room_1 Calls_1 rest_1 Pre_1 Post := by
  intro l hfl _ _ p e ha hc hk s m args below hf hA hF happ hP
  obtain ⟨hcalls, hrest, hpre⟩ := hP
  obtain ⟨-, -, -, hnamed, -, -, -, hat⟩ := (Spec.applies_iff hf).mp happ
  obtain ⟨hg, hn⟩ := and_e (Cond.before_iff.mp (show (Jvm.Cond.and given_1 narrow_1).before args s = true from hpre))
  obtain ⟨g1, g2⟩ := and_e hg
  obtain ⟨g3, g4⟩ := and_e g2
  obtain ⟨w0, w1, rfl⟩ : ∃ w0 w1 : Value, args = #[w0, w1] := by
    have hs : args.size = 2 := by simpa [Cond.value, given_1] using g1
    obtain ⟨L⟩ := args
    match L, hs with
    | [w0, w1], _ => exact ⟨w0, w1, rfl⟩
  have hw := fun d (hd : d ∈ tables_1) => atoms_spec (ws := Jvm.Cond.code x code maxLocals ret :: tables_1) hat d (List.mem_cons_of_mem _ hd)
  have hfit : Fit s := fun {y c} hc i hi => by
    obtain ⟨ha, rfl⟩ := Array.getElem?_eq_some_iff.mp hc
    have q := List.all_eq_true.mp ((Array.all_eq_true_iff_forall_mem.mp hF) _ (Array.getElem_mem ha)) i (List.mem_range.mpr hi)
    simpa [Array.getElem?_eq_getElem hi] using q
  obtain ⟨i0, ei0⟩ := isL_v g3
  obtain rfl : w0 = (.long i0) := Option.some.inj ei0
  obtain ⟨i1, ei1⟩ := is_v g4
  obtain rfl : w1 = (.int i1) := Option.some.inj ei1
  obtain ⟨g5, g6⟩ := and_e hn
  obtain ⟨g7, g8⟩ := and_e g6
  obtain ⟨g9, g10⟩ := and_e g8
  obtain ⟨w_REFUSED, ev_w_REFUSED⟩ := exa_v g5
  have S_w_REFUSED := Sta.start ev_w_REFUSED (Or.inr ⟨(hw _ (List.mem_of_getElem? (i := 7) rfl)), (hw _ (List.mem_of_getElem? (i := 8) rfl))⟩)
  have E_w_REFUSED := Exa.start ev_w_REFUSED g5
  obtain ⟨w_NONE, ev_w_NONE⟩ := exa_v g7
  have S_w_NONE := Sta.start ev_w_NONE (Or.inr ⟨(hw _ (List.mem_of_getElem? (i := 10) rfl)), (hw _ (List.mem_of_getElem? (i := 11) rfl))⟩)
  have E_w_NONE := Exa.start ev_w_NONE g7
  obtain ⟨v_tokens_w_NONE, ev_v_tokens_w_NONE⟩ := arr_v g9
  have F_v_tokens_w_NONE := Fld.start ((fld_at ev_w_NONE).symm.trans ev_v_tokens_w_NONE)
  obtain ⟨c_v_tokens_w_NONE, A_v_tokens_w_NONE⟩ := Arr.start ev_v_tokens_w_NONE g9
  have Ln_v_tokens_w_NONE := own_len g10 ev_v_tokens_w_NONE A_v_tokens_w_NONE
  have V_v_tokens_w_NONE : Arv s s.heap v_tokens_w_NONE c_v_tokens_w_NONE.cls .long (0 : Int32) [] (.long (0 : Int64)) := Arv.start hfit A_v_tokens_w_NONE Ln_v_tokens_w_NONE.1 Ln_v_tokens_w_NONE.2 (by decide) rfl trivial
  obtain ⟨n, o, h1, h2, h3, _, L, rfl, ⟨rfl, N⟩, hq⟩ := rmLaw l s _ hw tables_1 i0 i1 w_NONE v_tokens_w_NONE c_v_tokens_w_NONE.cls w_REFUSED s.heap s.heap.size (Old.start s) S_w_NONE E_w_NONE F_v_tokens_w_NONE V_v_tokens_w_NONE S_w_REFUSED p e ha hc hk s m _ below hf ((Spec.applies_iff_loose hf).mp happ).1 ⟨rfl, State.Warmed39.refl s, rfl⟩ trivial
  refine ⟨n, _, h1, h2, h3, hpost _ _ _ _ _ _ ⟨Cond.after_iff.mpr rfl, Cond.after_iff.mpr (eq_i res_at (Term.int_eval (1)) rfl), trivial⟩ ⟨hq.1, hq.2.1, (hq.2.2.sift fun y hy => Or.inr (N y hy)).mono (by decide) (by decide)⟩⟩
theorem main_1_1 : Claimed_1_1 := comes_1 fun _ _ _ _ _ _ h hF => ⟨h.1, hF⟩
theorem main_1_2 : Claimed_1_2 := comes_1 fun _ _ _ _ _ _ h hF => ⟨h.2.1, hF⟩
end Jvm.Pilot.@@N@@
namespace Jvm.Pilot.@@N@@
open Jvm Jvm.ClassFile Sem Op Lib Jvm.Free Jvm.Stand Jvm.Pilot.@@N@@.Jvm.D
/-! MADE BY PROGRAM (witnessworld.py) out of the Statement's table words and the real class files: 17 classes; the members and pool entries that the words name. The judged class is class 1, her method 1. -/
namespace start1
open Jvm.ClassFile
def u (s : String) : CpInfo := .utf8 (stringToUtf16 s)
/-- a pool by its gaps: so many unusable entries, then the entry; so many at the end -/
def gap : Nat → List CpInfo → List CpInfo
  | 0, r => r
  | n + 1, r => .unusable :: gap n r
def poolList (es : List (Nat × CpInfo)) (last : Nat) : List CpInfo := es.foldr (fun e r => gap e.1 (e.2 :: r)) (gap last [])
def pool (es : List (Nat × CpInfo)) (last : Nat) : Array CpInfo := ⟨poolList es last⟩
def fileOf (pool : Array CpInfo) (this : Nat) (attrs : Array Attribute := #[]) (ms : Array MethodInfo := #[]) (fl : Nat := 33) (sup : Nat := 0) (ifs : Array Nat := #[]) (fds : Array FieldInfo := #[]) : ClassFile where
  minorVersion := 0
  majorVersion := 65
  constantPool := pool
  accessFlags := fl
  thisClass := this
  superClass := sup
  interfaces := ifs
  fields := fds
  methods := ms
  attributes := attrs
def plain (name : String) (sup : Option ClassId) : Class where
  name := name
  kind := .ordinary
  loader := none
  accessFlags := 33
  super := sup
  interfaces := #[]
  cf := none
  fields := #[]
  methods := #[]
  instanceTypes := #[]
  staticTypes := #[]
  resolved := #[]
  callSites := []
  init := .initialized
  statics := none
  mirror := none

def pool0 : Array CpInfo := pool [(5, u "<init>"), (0, u "()V"), (1, .class_ 10), (1, u "java/lang/Object")] 113

def k0c0 : Code := { maxStack := 0, maxLocals := 1, code := object_method_1_code, exceptionTable := #[], attributes := #[] }
def k0m0 : Method := { name := "<init>", desc := "()V", sig := { parameters := [], returnType := none }, accessFlags := 1, code := some k0c0 }
/-- java/lang/Object -/
def k0 : Class := { plain "java/lang/Object" none with
  accessFlags := 33
  interfaces := #[]
  cf := some (fileOf pool0 8 #[] #[{ accessFlags := 1, nameIndex := 5, descriptorIndex := 6, attributes := #[] }] 33 0 #[] #[])
  fields := #[]
  methods := #[k0m0]
  instanceTypes := #[]
  staticTypes := #[]
  resolved := Array.replicate 124 none
  statics := none }

def pool1 : Array CpInfo := pool [(2, .class_ 4), (1, u "java/lang/Object"), (0, u "<init>"), (0, u "()V"), (0, .methodref 8 9), (0, .class_ 10), (0, .nameAndType 11 12), (0, u "com/example/latchkey/latchkey/LockStore$Attempt"), (0, u "refused"), (0, u "(J)Lcom/example/latchkey/latchkey/LockStore$Attempt;"), (0, .methodref 8 14), (0, .nameAndType 15 16), (0, u "taken"), (0, u "()Z"), (0, .methodref 8 18), (0, .nameAndType 19 20), (0, u "leaseLeftMillis"), (0, u "()J"), (0, .methodref 8 22), (0, .nameAndType 23 24), (0, u "tokens"), (0, u "()Lcom/example/latchkey/latchkey/LockTokens;"), (0, .methodref 26 27), (0, .class_ 28), (0, .nameAndType 29 30), (0, u "com/example/latchkey/latchkey/LockTokens"), (0, u "get"), (0, u "(I)J"), (0, .class_ 32), (0, u "com/example/latchkey/latchkey/AttemptRefusedPinLaw"), (2, u "law"), (0, u "(JI)Z")] 7

def k1m0 : Method := { name := "<init>", desc := "()V", sig := { parameters := [], returnType := none }, accessFlags := 1, code := none }
def k1c1 : Code := { maxStack := 4, maxLocals := 8, code := code, exceptionTable := #[], attributes := #[] }
def k1m1 : Method := { name := "law", desc := "(JI)Z", sig := { parameters := [.long, .int], returnType := some .boolean }, accessFlags := 9, code := some k1c1 }
/-- com/example/latchkey/latchkey/AttemptRefusedPinLaw -/
def k1 : Class := { plain "com/example/latchkey/latchkey/AttemptRefusedPinLaw" (some 0) with
  accessFlags := 49
  interfaces := #[]
  cf := some (fileOf pool1 31 #[] #[{ accessFlags := 1, nameIndex := 5, descriptorIndex := 6, attributes := #[] }, { accessFlags := 9, nameIndex := 35, descriptorIndex := 36, attributes := #[] }] 49 2 #[] #[])
  fields := #[]
  methods := #[k1m0, k1m1]
  instanceTypes := #[]
  staticTypes := #[]
  resolved := Array.replicate 44 none
  statics := none }

def pool2 : Array CpInfo := pool [(1, .methodref 2 3), (0, .class_ 4), (0, .nameAndType 5 6), (0, u "java/lang/Object"), (0, u "<init>"), (0, u "()V"), (0, .class_ 8), (0, u "java/lang/Record")] 13

def k2c0 : Code := { maxStack := 1, maxLocals := 1, code := jdk_30_method_1_code, exceptionTable := #[], attributes := #[] }
def k2m0 : Method := { name := "<init>", desc := "()V", sig := { parameters := [], returnType := none }, accessFlags := 4, code := some k2c0 }
/-- java/lang/Record -/
def k2 : Class := { plain "java/lang/Record" (some 0) with
  accessFlags := 1057
  interfaces := #[]
  cf := some (fileOf pool2 7 #[] #[{ accessFlags := 4, nameIndex := 5, descriptorIndex := 6, attributes := #[] }] 1057 2 #[] #[])
  fields := #[]
  methods := #[k2m0]
  instanceTypes := #[]
  staticTypes := #[]
  resolved := Array.replicate 22 none
  statics := none }

def pool3 : Array CpInfo := pool [(1, .methodref 2 3), (0, .class_ 4), (0, .nameAndType 5 6), (0, u "java/lang/Record"), (0, u "<init>"), (0, u "()V"), (0, .fieldref 8 9), (0, .class_ 10), (0, .nameAndType 11 12), (0, u "com/example/latchkey/latchkey/LockStore$Attempt"), (0, u "grant"), (0, u "Lcom/example/latchkey/latchkey/LockStore$Attempt$Grant;"), (0, .fieldref 8 14), (0, .nameAndType 15 16), (0, u "tokens"), (0, u "Lcom/example/latchkey/latchkey/LockTokens;"), (0, .fieldref 8 18), (0, .nameAndType 19 20), (0, u "leaseLeftMillis"), (0, u "J"), (1, .class_ 24), (1, u "com/example/latchkey/latchkey/LockStore$Attempt$Grant"), (2, .class_ 29), (1, u "com/example/latchkey/latchkey/LockTokens"), (2, .methodref 8 33), (0, .nameAndType 5 34), (0, u "(Lcom/example/latchkey/latchkey/LockStore$Attempt$Grant;Lcom/example/latchkey/latchkey/LockTokens;J)V"), (3, .fieldref 27 39), (0, .nameAndType 40 16), (0, u "NONE"), (0, .fieldref 22 42), (0, .nameAndType 43 12), (0, u "REFUSED"), (16, u "(J)Lcom/example/latchkey/latchkey/LockStore$Attempt;"), (2, u "refused"), (0, u "taken"), (0, u "()Z"), (5, u "()Lcom/example/latchkey/latchkey/LockTokens;"), (0, u "()J"), (3, .class_ 77), (0, u "com/example/latchkey/latchkey/LockStore")] 22

def k3c0 : Code := { maxStack := 3, maxLocals := 5, code := prog_27_method_1_code, exceptionTable := #[], attributes := #[] }
def k3m0 : Method := { name := "<init>", desc := "(Lcom/example/latchkey/latchkey/LockStore$Attempt$Grant;Lcom/example/latchkey/latchkey/LockTokens;J)V", sig := { parameters := [(.object "com/example/latchkey/latchkey/LockStore$Attempt$Grant"), (.object "com/example/latchkey/latchkey/LockTokens"), .long], returnType := none }, accessFlags := 1, code := some k3c0 }
def k3c1 : Code := { maxStack := 6, maxLocals := 2, code := prog_27_method_4_code, exceptionTable := #[], attributes := #[] }
def k3m1 : Method := { name := "refused", desc := "(J)Lcom/example/latchkey/latchkey/LockStore$Attempt;", sig := { parameters := [.long], returnType := some (.object "com/example/latchkey/latchkey/LockStore$Attempt") }, accessFlags := 8, code := some k3c1 }
def k3c2 : Code := { maxStack := 2, maxLocals := 1, code := prog_27_method_5_code, exceptionTable := #[], attributes := #[] }
def k3m2 : Method := { name := "taken", desc := "()Z", sig := { parameters := [], returnType := some .boolean }, accessFlags := 0, code := some k3c2 }
def k3c3 : Code := { maxStack := 1, maxLocals := 1, code := prog_27_method_10_code, exceptionTable := #[], attributes := #[] }
def k3m3 : Method := { name := "tokens", desc := "()Lcom/example/latchkey/latchkey/LockTokens;", sig := { parameters := [], returnType := some (.object "com/example/latchkey/latchkey/LockTokens") }, accessFlags := 1, code := some k3c3 }
def k3c4 : Code := { maxStack := 2, maxLocals := 1, code := prog_27_method_11_code, exceptionTable := #[], attributes := #[] }
def k3m4 : Method := { name := "leaseLeftMillis", desc := "()J", sig := { parameters := [], returnType := some .long }, accessFlags := 1, code := some k3c4 }
/-- com/example/latchkey/latchkey/LockStore$Attempt -/
def k3 : Class := { plain "com/example/latchkey/latchkey/LockStore$Attempt" (some 2) with
  accessFlags := 49
  interfaces := #[]
  cf := some (fileOf pool3 8 #[.nestHost 76] #[{ accessFlags := 1, nameIndex := 5, descriptorIndex := 34, attributes := #[] }, { accessFlags := 8, nameIndex := 63, descriptorIndex := 60, attributes := #[] }, { accessFlags := 0, nameIndex := 64, descriptorIndex := 65, attributes := #[] }, { accessFlags := 1, nameIndex := 15, descriptorIndex := 71, attributes := #[] }, { accessFlags := 1, nameIndex := 19, descriptorIndex := 72, attributes := #[] }] 49 2 #[] #[{ accessFlags := 18, nameIndex := 11, descriptorIndex := 12, attributes := #[] }, { accessFlags := 18, nameIndex := 15, descriptorIndex := 16, attributes := #[] }, { accessFlags := 18, nameIndex := 19, descriptorIndex := 20, attributes := #[] }])
  fields := #[{ name := "grant", type := (.object "com/example/latchkey/latchkey/LockStore$Attempt$Grant"), accessFlags := 18, slot := 0, constantValue := 0 }, { name := "tokens", type := (.object "com/example/latchkey/latchkey/LockTokens"), accessFlags := 18, slot := 1, constantValue := 0 }, { name := "leaseLeftMillis", type := .long, accessFlags := 18, slot := 2, constantValue := 0 }]
  methods := #[k3m0, k3m1, k3m2, k3m3, k3m4]
  instanceTypes := #[(.object "com/example/latchkey/latchkey/LockStore$Attempt$Grant"), (.object "com/example/latchkey/latchkey/LockTokens"), .long]
  staticTypes := #[]
  resolved := Array.replicate 100 none
  statics := none }

def pool4 : Array CpInfo := pool [(1, .class_ 2), (0, u "java/lang/constant/Constable"), (0, .class_ 4), (0, u "java/lang/Object")] 6

/-- java/lang/constant/Constable -/
def k4 : Class := { plain "java/lang/constant/Constable" (some 0) with
  accessFlags := 1537
  interfaces := #[]
  cf := some (fileOf pool4 1 #[] #[] 1537 3 #[] #[])
  fields := #[]
  methods := #[]
  instanceTypes := #[]
  staticTypes := #[]
  resolved := Array.replicate 11 none
  statics := none }

def pool5 : Array CpInfo := pool [(1, .class_ 2), (0, u "java/lang/Comparable"), (0, .class_ 4), (0, u "java/lang/Object")] 7

/-- java/lang/Comparable -/
def k5 : Class := { plain "java/lang/Comparable" (some 0) with
  accessFlags := 1537
  interfaces := #[]
  cf := some (fileOf pool5 1 #[] #[] 1537 3 #[] #[])
  fields := #[]
  methods := #[]
  instanceTypes := #[]
  staticTypes := #[]
  resolved := Array.replicate 12 none
  statics := none }

def pool6 : Array CpInfo := pool [(1, .class_ 2), (0, u "java/io/Serializable"), (0, .class_ 4), (0, u "java/lang/Object")] 2

/-- java/io/Serializable -/
def k6 : Class := { plain "java/io/Serializable" (some 0) with
  accessFlags := 1537
  interfaces := #[]
  cf := some (fileOf pool6 1 #[] #[] 1537 3 #[] #[])
  fields := #[]
  methods := #[]
  instanceTypes := #[]
  staticTypes := #[]
  resolved := Array.replicate 7 none
  statics := none }

def pool7 : Array CpInfo := pool [(2, .class_ 4), (1, u "java/lang/Enum"), (0, u "name"), (0, u "Ljava/lang/String;"), (2, u "ordinal"), (0, u "I"), (1, .class_ 14), (1, u "java/lang/Object"), (4, u "hash"), (86, .class_ 108), (1, u "java/lang/Enum$EnumDesc"), (2, .class_ 112), (0, u "java/lang/constant/Constable"), (0, .class_ 114), (0, u "java/lang/Comparable"), (0, .class_ 116), (0, u "java/io/Serializable")] 87

/-- java/lang/Enum -/
def k7 : Class := { plain "java/lang/Enum" (some 0) with
  accessFlags := 1057
  interfaces := #[4, 5, 6]
  cf := some (fileOf pool7 2 #[.nestMembers #[106]] #[] 1057 12 #[111, 113, 115] #[{ accessFlags := 18, nameIndex := 5, descriptorIndex := 6, attributes := #[] }, { accessFlags := 18, nameIndex := 9, descriptorIndex := 10, attributes := #[] }, { accessFlags := 2, nameIndex := 19, descriptorIndex := 10, attributes := #[] }])
  fields := #[{ name := "name", type := (.object "java/lang/String"), accessFlags := 18, slot := 0, constantValue := 0 }, { name := "ordinal", type := .int, accessFlags := 18, slot := 1, constantValue := 0 }, { name := "hash", type := .int, accessFlags := 2, slot := 2, constantValue := 0 }]
  methods := #[]
  instanceTypes := #[(.object "java/lang/String"), .int, .int]
  staticTypes := #[]
  resolved := Array.replicate 204 none
  statics := none }

def pool8 : Array CpInfo := pool [(1, .class_ 2), (0, u "com/example/latchkey/latchkey/LockStore$Attempt$Grant"), (2, u "FREE"), (0, u "Lcom/example/latchkey/latchkey/LockStore$Attempt$Grant;"), (2, u "AGAIN"), (2, u "REFUSED"), (2, u "$VALUES"), (0, u "[Lcom/example/latchkey/latchkey/LockStore$Attempt$Grant;"), (6, .class_ 25), (1, u "java/lang/Enum"), (26, .class_ 53), (0, u "com/example/latchkey/latchkey/LockStore")] 5

/-- com/example/latchkey/latchkey/LockStore$Attempt$Grant -/
def k8 : Class := { plain "com/example/latchkey/latchkey/LockStore$Attempt$Grant" (some 7) with
  accessFlags := 16432
  interfaces := #[]
  cf := some (fileOf pool8 1 #[.nestHost 52] #[] 16432 23 #[] #[{ accessFlags := 16409, nameIndex := 5, descriptorIndex := 6, attributes := #[] }, { accessFlags := 16409, nameIndex := 9, descriptorIndex := 6, attributes := #[] }, { accessFlags := 16409, nameIndex := 12, descriptorIndex := 6, attributes := #[] }, { accessFlags := 4122, nameIndex := 15, descriptorIndex := 16, attributes := #[] }])
  fields := #[{ name := "FREE", type := (.object "com/example/latchkey/latchkey/LockStore$Attempt$Grant"), accessFlags := 16409, slot := 0, constantValue := 0 }, { name := "AGAIN", type := (.object "com/example/latchkey/latchkey/LockStore$Attempt$Grant"), accessFlags := 16409, slot := 1, constantValue := 0 }, { name := "REFUSED", type := (.object "com/example/latchkey/latchkey/LockStore$Attempt$Grant"), accessFlags := 16409, slot := 2, constantValue := 0 }, { name := "$VALUES", type := (.array (.object "com/example/latchkey/latchkey/LockStore$Attempt$Grant")), accessFlags := 4122, slot := 3, constantValue := 0 }]
  methods := #[]
  instanceTypes := #[(.object "java/lang/String"), .int, .int]
  staticTypes := #[(.object "com/example/latchkey/latchkey/LockStore$Attempt$Grant"), (.object "com/example/latchkey/latchkey/LockStore$Attempt$Grant"), (.object "com/example/latchkey/latchkey/LockStore$Attempt$Grant"), (.array (.object "com/example/latchkey/latchkey/LockStore$Attempt$Grant"))]
  resolved := Array.replicate 59 none
  statics := some 0 }

def pool9 : Array CpInfo := pool [(2, .class_ 4), (1, u "java/lang/Object"), (2, .fieldref 8 9), (0, .class_ 10), (0, .nameAndType 11 12), (0, u "com/example/latchkey/latchkey/LockTokens"), (0, u "tokens"), (0, u "[J"), (24, u "NONE"), (0, u "Lcom/example/latchkey/latchkey/LockTokens;"), (4, u "get"), (0, u "(I)J")] 6

def k9c0 : Code := { maxStack := 2, maxLocals := 2, code := prog_32_method_3_code, exceptionTable := #[], attributes := #[] }
def k9m0 : Method := { name := "get", desc := "(I)J", sig := { parameters := [.int], returnType := some .long }, accessFlags := 0, code := some k9c0 }
/-- com/example/latchkey/latchkey/LockTokens -/
def k9 : Class := { plain "com/example/latchkey/latchkey/LockTokens" (some 0) with
  accessFlags := 48
  interfaces := #[]
  cf := some (fileOf pool9 8 #[] #[{ accessFlags := 0, nameIndex := 43, descriptorIndex := 44, attributes := #[] }] 48 2 #[] #[{ accessFlags := 24, nameIndex := 37, descriptorIndex := 38, attributes := #[] }, { accessFlags := 18, nameIndex := 11, descriptorIndex := 12, attributes := #[] }])
  fields := #[{ name := "NONE", type := (.object "com/example/latchkey/latchkey/LockTokens"), accessFlags := 24, slot := 0, constantValue := 0 }, { name := "tokens", type := (.array .long), accessFlags := 18, slot := 0, constantValue := 0 }]
  methods := #[k9m0]
  instanceTypes := #[(.array .long)]
  staticTypes := #[(.object "com/example/latchkey/latchkey/LockTokens")]
  resolved := Array.replicate 51 none
  statics := some 1 }

def pool10 : Array CpInfo := pool [(1, u "java/lang/Cloneable"), (0, .class_ 1), (0, u "java/lang/Object"), (0, .class_ 3)] 3

/-- java/lang/Cloneable -/
def k10 : Class := { plain "java/lang/Cloneable" (some 0) with
  accessFlags := 1537
  interfaces := #[]
  cf := some (fileOf pool10 2 #[] #[] 1537 4 #[] #[])
  fields := #[]
  methods := #[]
  instanceTypes := #[]
  staticTypes := #[]
  resolved := Array.replicate 8 none
  statics := none }

/-- the primitive byte -/
def k11 : Class := { plain "byte" none with kind := .primitive 'B', accessFlags := 0x411 }
/-- [B -/
def k12 : Class := { plain "[B" (some 0) with kind := .array 11 .byte, interfaces := #[10, 6], accessFlags := 1041 }

/-- the primitive int -/
def k13 : Class := { plain "int" none with kind := .primitive 'I', accessFlags := 0x411 }
/-- [I -/
def k14 : Class := { plain "[I" (some 0) with kind := .array 13 .int, interfaces := #[10, 6], accessFlags := 1041 }

/-- the primitive long -/
def k15 : Class := { plain "long" none with kind := .primitive 'J', accessFlags := 0x411 }
/-- [J -/
def k16 : Class := { plain "[J" (some 0) with kind := .array 15 .long, interfaces := #[10, 6], accessFlags := 1041 }

def heap : Heap := #[{ cls := 8, slots := #[.null, .null, .ref 2, .null], vm := .statics 8 },
  { cls := 9, slots := #[.ref 3], vm := .statics 9 },
  { cls := 8, slots := #[.null, .int 0, .int 0], vm := .none },
  { cls := 9, slots := #[.ref 4], vm := .none },
  { cls := 16, slots := #[], vm := .none }]
def classes : Array Class := #[k0, k1, k2, k3, k4, k5, k6, k7, k8, k9, k10, k11, k12, k13, k14, k15, k16]
def interned : List (Array UInt16 × Addr) := []
def slotsUsed : Nat := 9
def theMethod : MethodId := ⟨1, 1⟩
def args0 : Array Value := #[.long 5, .int 3]
def aboutOver (below : List Frame) : State where
  vm := { classes := classes, interned := interned.toArray }
  heap := heap
  slotsUsed := slotsUsed
  threads := #[{ frames := .invoking theMethod args0 :: below }]
def below0 : List Frame := [.native { method := ⟨0, 0⟩, args := #[] }]
def about1 : State := aboutOver below0
def p0 : Program := .bare "" "" ""
def e0 : Env := launch0.env 0 0 0
theorem w_frames : about1.frames = Frame.invoking theMethod args0 :: below0 := rfl
set_option maxRecDepth 65536 in
theorem w_args : argsFit about1.vm theMethod args0 = true := by decide +kernel
set_option maxRecDepth 65536 in
theorem w_heap : heapFits about1 = true := by decide +kernel
set_option maxRecDepth 65536 in
theorem w_runnable : about1.curStatus? = some .runnable := by decide +kernel
set_option maxRecDepth 65536 in
theorem w_alone : about1.alone = true := by decide +kernel
set_option maxRecDepth 65536 in
theorem w_named : about1.methodNamed? x = some theMethod := by decide +kernel
set_option maxRecDepth 65536 in
theorem w_hears : about1.hears theMethod below0 = true := by decide +kernel
set_option maxRecDepth 65536 in
theorem w_ripe : about1.ripe theMethod args0 below0 = true := by decide +kernel
theorem w_running : about1.status = .running := rfl
set_option maxRecDepth 65536 in
theorem w_room : about1.hasRoom e0.platform room_1 = true :=
  launch0.hasRoom_least _ room_1 (by decide +kernel) (by decide +kernel) (by decide +kernel) (by decide +kernel) (by decide +kernel) (by decide +kernel)
theorem allAtoms_all (ts : List Jvm.Cond) (a : Array Jvm.Value) (st : Jvm.State) : (allAtoms ts).before a st = ts.all (fun c => c.before a st) := by
  induction ts with
  | nil => rfl
  | cons c t ih =>
    show (Jvm.Cond.and c (allAtoms t)).before a st = _
    rw [Jvm.Cond.before_and, ih, List.all_cons]
def words1 : List Jvm.Cond := Jvm.Cond.code x code maxLocals ret :: tables_1
/-- a 'code' word, met by the world's own term for the bytes: nothing is compared byte by byte -/
theorem code_word {y : MethodName} {bytes : ByteArray} {mx : Nat} {rt : Option FieldType} {a : Array Value} {s : State} {m : MethodId} {meth : Method} {c : Code} (h1 : s.methodNamed? y = some m) (h2 : s.vm.method? m = some meth) (h3 : meth.code = some c) (h4 : c.code = bytes)
    (h5 : (c.maxLocals == mx && c.exceptionTable.isEmpty && decide (c.maxStack ≤ mostOperands) && decide (meth.sig.returnType = rt) && !meth.locks && decide (parseMethodDescriptor y.desc = some meth.sig)) = true) : (Jvm.Cond.code y bytes mx rt).before a s = true := by
  simp only [Bool.and_eq_true, beq_iff_eq, Bool.not_eq_true', decide_eq_true_eq] at h5
  obtain ⟨⟨⟨⟨⟨g1, g2⟩, g3⟩, g4⟩, g5⟩, g6⟩ := h5
  simp [Cond.before, Cond.holds, Cond.value, h1, h2, h3, h4, g1, g2, g3, g4, g5, g6]
def isCode : Jvm.Cond → Bool
  | .code _ _ _ _ => true
  | _ => false
theorem all_split {L : List Jvm.Cond} {P : Jvm.Cond → Bool} (h1 : L.all (fun c => isCode c || P c) = true) (h2 : ∀ c ∈ L.filter isCode, P c = true) : L.all P = true := by
  refine List.all_eq_true.mpr fun c hc => ?_
  have h := List.all_eq_true.mp h1 c hc
  rcases Bool.eq_false_or_eq_true (isCode c) with hi | hi
  · exact h2 c (List.mem_filter.mpr ⟨hc, hi⟩)
  · simpa [hi] using h
set_option maxRecDepth 65536 in
theorem w_c0 : (Jvm.Cond.code x code maxLocals ret).before args0 about1 = true := code_word (m := ⟨1, 1⟩) (meth := k1m1) (c := k1c1) (by decide +kernel) rfl rfl rfl (by decide +kernel)
set_option maxRecDepth 65536 in
theorem w_c1 : (Jvm.Cond.code ({ cls := "com/example/latchkey/latchkey/LockStore$Attempt", name := "refused", desc := "(J)Lcom/example/latchkey/latchkey/LockStore$Attempt;" } : Jvm.MethodName) prog_27_method_4_code (2 : Nat) (Option.some (Jvm.ClassFile.FieldType.object "com/example/latchkey/latchkey/LockStore$Attempt"))).before args0 about1 = true := code_word (m := ⟨3, 1⟩) (meth := k3m1) (c := k3c1) (by decide +kernel) rfl rfl rfl (by decide +kernel)
set_option maxRecDepth 65536 in
theorem w_c2 : (Jvm.Cond.code ({ cls := "com/example/latchkey/latchkey/LockStore$Attempt", name := "<init>", desc := "(Lcom/example/latchkey/latchkey/LockStore$Attempt$Grant;Lcom/example/latchkey/latchkey/LockTokens;J)V" } : Jvm.MethodName) prog_27_method_1_code (5 : Nat) (Option.none : Option Jvm.ClassFile.FieldType)).before args0 about1 = true := code_word (m := ⟨3, 0⟩) (meth := k3m0) (c := k3c0) (by decide +kernel) rfl rfl rfl (by decide +kernel)
set_option maxRecDepth 65536 in
theorem w_c3 : (Jvm.Cond.code ({ cls := "java/lang/Record", name := "<init>", desc := "()V" } : Jvm.MethodName) jdk_30_method_1_code (1 : Nat) (Option.none : Option Jvm.ClassFile.FieldType)).before args0 about1 = true := code_word (m := ⟨2, 0⟩) (meth := k2m0) (c := k2c0) (by decide +kernel) rfl rfl rfl (by decide +kernel)
set_option maxRecDepth 65536 in
theorem w_c4 : (Jvm.Cond.code ({ cls := "java/lang/Object", name := "<init>", desc := "()V" } : Jvm.MethodName) object_method_1_code (1 : Nat) (Option.none : Option Jvm.ClassFile.FieldType)).before args0 about1 = true := code_word (m := ⟨0, 0⟩) (meth := k0m0) (c := k0c0) (by decide +kernel) rfl rfl rfl (by decide +kernel)
set_option maxRecDepth 65536 in
theorem w_c5 : (Jvm.Cond.code ({ cls := "com/example/latchkey/latchkey/LockStore$Attempt", name := "taken", desc := "()Z" } : Jvm.MethodName) prog_27_method_5_code (1 : Nat) (Option.some Jvm.ClassFile.FieldType.boolean)).before args0 about1 = true := code_word (m := ⟨3, 2⟩) (meth := k3m2) (c := k3c2) (by decide +kernel) rfl rfl rfl (by decide +kernel)
set_option maxRecDepth 65536 in
theorem w_c6 : (Jvm.Cond.code ({ cls := "com/example/latchkey/latchkey/LockStore$Attempt", name := "leaseLeftMillis", desc := "()J" } : Jvm.MethodName) prog_27_method_11_code (1 : Nat) (Option.some Jvm.ClassFile.FieldType.long)).before args0 about1 = true := code_word (m := ⟨3, 4⟩) (meth := k3m4) (c := k3c4) (by decide +kernel) rfl rfl rfl (by decide +kernel)
set_option maxRecDepth 65536 in
theorem w_c7 : (Jvm.Cond.code ({ cls := "com/example/latchkey/latchkey/LockStore$Attempt", name := "tokens", desc := "()Lcom/example/latchkey/latchkey/LockTokens;" } : Jvm.MethodName) prog_27_method_10_code (1 : Nat) (Option.some (Jvm.ClassFile.FieldType.object "com/example/latchkey/latchkey/LockTokens"))).before args0 about1 = true := code_word (m := ⟨3, 3⟩) (meth := k3m3) (c := k3c3) (by decide +kernel) rfl rfl rfl (by decide +kernel)
set_option maxRecDepth 65536 in
theorem w_c8 : (Jvm.Cond.code ({ cls := "com/example/latchkey/latchkey/LockTokens", name := "get", desc := "(I)J" } : Jvm.MethodName) prog_32_method_3_code (2 : Nat) (Option.some Jvm.ClassFile.FieldType.long)).before args0 about1 = true := code_word (m := ⟨9, 0⟩) (meth := k9m0) (c := k9c0) (by decide +kernel) rfl rfl rfl (by decide +kernel)
def codes1 : List Jvm.Cond := [Jvm.Cond.code x code maxLocals ret, Jvm.Cond.code ({ cls := "com/example/latchkey/latchkey/LockStore$Attempt", name := "refused", desc := "(J)Lcom/example/latchkey/latchkey/LockStore$Attempt;" } : Jvm.MethodName) prog_27_method_4_code (2 : Nat) (Option.some (Jvm.ClassFile.FieldType.object "com/example/latchkey/latchkey/LockStore$Attempt")), Jvm.Cond.code ({ cls := "com/example/latchkey/latchkey/LockStore$Attempt", name := "<init>", desc := "(Lcom/example/latchkey/latchkey/LockStore$Attempt$Grant;Lcom/example/latchkey/latchkey/LockTokens;J)V" } : Jvm.MethodName) prog_27_method_1_code (5 : Nat) (Option.none : Option Jvm.ClassFile.FieldType), Jvm.Cond.code ({ cls := "java/lang/Record", name := "<init>", desc := "()V" } : Jvm.MethodName) jdk_30_method_1_code (1 : Nat) (Option.none : Option Jvm.ClassFile.FieldType), Jvm.Cond.code ({ cls := "java/lang/Object", name := "<init>", desc := "()V" } : Jvm.MethodName) object_method_1_code (1 : Nat) (Option.none : Option Jvm.ClassFile.FieldType), Jvm.Cond.code ({ cls := "com/example/latchkey/latchkey/LockStore$Attempt", name := "taken", desc := "()Z" } : Jvm.MethodName) prog_27_method_5_code (1 : Nat) (Option.some Jvm.ClassFile.FieldType.boolean), Jvm.Cond.code ({ cls := "com/example/latchkey/latchkey/LockStore$Attempt", name := "leaseLeftMillis", desc := "()J" } : Jvm.MethodName) prog_27_method_11_code (1 : Nat) (Option.some Jvm.ClassFile.FieldType.long), Jvm.Cond.code ({ cls := "com/example/latchkey/latchkey/LockStore$Attempt", name := "tokens", desc := "()Lcom/example/latchkey/latchkey/LockTokens;" } : Jvm.MethodName) prog_27_method_10_code (1 : Nat) (Option.some (Jvm.ClassFile.FieldType.object "com/example/latchkey/latchkey/LockTokens")), Jvm.Cond.code ({ cls := "com/example/latchkey/latchkey/LockTokens", name := "get", desc := "(I)J" } : Jvm.MethodName) prog_32_method_3_code (2 : Nat) (Option.some Jvm.ClassFile.FieldType.long)]
set_option maxRecDepth 65536 in
theorem codes_eq : words1.filter isCode = codes1 := rfl
theorem w_codes : ∀ c ∈ words1.filter isCode, c.before args0 about1 = true := by
  rw [codes_eq]
  intro c hc
  simp only [codes1, List.mem_cons, List.not_mem_nil, or_false] at hc
  rcases hc with rfl | rfl | rfl | rfl | rfl | rfl | rfl | rfl | rfl
  · exact w_c0
  · exact w_c1
  · exact w_c2
  · exact w_c3
  · exact w_c4
  · exact w_c5
  · exact w_c6
  · exact w_c7
  · exact w_c8
set_option maxRecDepth 65536 in
theorem w_t1 : (words1.take 24).all (fun c => isCode c || c.before args0 about1) = true := by decide +kernel
set_option maxRecDepth 65536 in
theorem w_t2 : ((words1.drop 24).take 24).all (fun c => isCode c || c.before args0 about1) = true := by decide +kernel
set_option maxRecDepth 65536 in
theorem w_t3 : ((words1.drop 24).drop 24).all (fun c => isCode c || c.before args0 about1) = true := by decide +kernel
theorem w_tables : (allAtoms (Jvm.Cond.code x code maxLocals ret :: tables_1)).before args0 about1 = true := by
  rw [allAtoms_all]
  show words1.all (fun c => c.before args0 about1) = true
  refine all_split ?_ w_codes
  rw [← List.take_append_drop 24 words1, List.all_append, w_t1, ← List.take_append_drop 24 (words1.drop 24), List.all_append, w_t2, w_t3]
  rfl
set_option maxRecDepth 65536 in
theorem w_case : (Jvm.Cond.and given_1 narrow_1).before args0 about1 = true := by decide +kernel
theorem w_applies : (headSpec (Jvm.Cond.code x code maxLocals ret :: tables_1) room_1).applies x e0.platform about1 = true :=
  (Spec.applies_iff w_frames).mpr ⟨w_running, w_runnable, w_alone, w_named, w_hears, w_ripe, w_room, w_tables⟩
theorem atStart : AtStart classFile x code maxLocals ret World_1 tables_1 room_1 Calls_1 rest_1 Pre_1 launch0 p0 e0 about1 theMethod args0 below0 :=
  ⟨lists_1, trivial, launch0.admits_env _ _ _, launch0.least_env, fairChoices_fair.cas, fairChoices_fair.clock, w_frames, w_args, w_heap, w_applies, trivial, trivial, w_case⟩
end start1
theorem witness_1 : WitnessClaimed_1 := ⟨start1.p0, start1.e0, start1.about1, start1.theMethod, start1.args0, start1.below0, start1.atStart⟩
end Jvm.Pilot.@@N@@
