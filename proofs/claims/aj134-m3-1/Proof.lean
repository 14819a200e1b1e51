import JvmDerived
import JvmDerived.Pilot.@@N@@Statement
import JvmDerived.Pilot.@@N@@Code
set_option linter.unusedVariables false
set_option linter.unusedSimpArgs false
namespace Jvm.Pilot.@@N@@
open Jvm Jvm.ClassFile Sem Op Lib Jvm.Free Jvm.Stand Jvm.LawKit Jvm.RoadKit Bundle Jvm.Pilot.@@N@@.Jvm.D
theorem own_eqi {args : Array Value} {s : State} {t : Term} {k : Int32} (h : (Jvm.Cond.eq t (.int k)).value args s none s [] = some true) : t.eval args s none [] s = some (.int k) := by
  simp only [Cond.value, Term.eval] at h
  cases ht : t.eval args s none [] s with
  | none => simp [ht] at h
  | some x => cases x <;> simp [ht] at h ⊢ <;> exact h
theorem own_eqr {args : Array Value} {s : State} {t u : Term} {a : Addr} (h : (Jvm.Cond.eq t u).value args s none s [] = some true) (hu : u.eval args s none [] s = some (.ref a)) : t.eval args s none [] s = some (.ref a) := by
  simp only [Cond.value, hu] at h
  cases ht : t.eval args s none [] s with
  | none => simp [ht] at h
  | some x => cases x <;> simp [ht] at h ⊢ <;> exact h
theorem own_len {args : Array Value} {s : State} {t : Term} {a : Addr} {cl : Cell} {ty : FieldType} {n : Int32} (h : (Jvm.Cond.eq (.length t) (.int n)).value args s none s [] = some true) (ht : t.eval args s none [] s = some (.ref a)) (A : Arr s s.heap a cl ty) : cl.slots.size < 2 ^ 31 ∧ cl.slots.size.toInt32 = n := by
  have e := own_eqi h
  have q := A.fin (Vm.Alike.refl _)
  simp only [Term.eval, ht, q, Option.bind_eq_bind, Option.bind_some] at e
  split at e
  · rename_i q'
    exact ⟨q', Value.int.inj (Option.some.inj e)⟩
  · cases e
theorem own_mod9 (x : Int32) : ((x &&& (2147483647 : Int32)) % (9 : Int32)) = (0 : Int32) ∨ ((x &&& (2147483647 : Int32)) % (9 : Int32)) = (1 : Int32) ∨ ((x &&& (2147483647 : Int32)) % (9 : Int32)) = (2 : Int32) ∨ ((x &&& (2147483647 : Int32)) % (9 : Int32)) = (3 : Int32) ∨ ((x &&& (2147483647 : Int32)) % (9 : Int32)) = (4 : Int32) ∨ ((x &&& (2147483647 : Int32)) % (9 : Int32)) = (5 : Int32) ∨ ((x &&& (2147483647 : Int32)) % (9 : Int32)) = (6 : Int32) ∨ ((x &&& (2147483647 : Int32)) % (9 : Int32)) = (7 : Int32) ∨ ((x &&& (2147483647 : Int32)) % (9 : Int32)) = (8 : Int32) := by
  have h1 := c_mask x 2147483647 31 (by decide) (by decide)
  have h2 := (c_irem (x &&& (2147483647 : Int32)) (9 : Int32) 9 rfl).1 (by rw [h1]; omega)
  rw [h1] at h2
  have h3 : ((x &&& (2147483647 : Int32)) % (9 : Int32)).toInt = 0 ∨ ((x &&& (2147483647 : Int32)) % (9 : Int32)).toInt = 1 ∨ ((x &&& (2147483647 : Int32)) % (9 : Int32)).toInt = 2 ∨ ((x &&& (2147483647 : Int32)) % (9 : Int32)).toInt = 3 ∨ ((x &&& (2147483647 : Int32)) % (9 : Int32)).toInt = 4 ∨ ((x &&& (2147483647 : Int32)) % (9 : Int32)).toInt = 5 ∨ ((x &&& (2147483647 : Int32)) % (9 : Int32)).toInt = 6 ∨ ((x &&& (2147483647 : Int32)) % (9 : Int32)).toInt = 7 ∨ ((x &&& (2147483647 : Int32)) % (9 : Int32)).toInt = 8 := by omega
  rcases h3 with h | h | h | h | h | h | h | h | h
  · exact (Or.inl (Int32.toInt_inj.mp h))
  · exact (Or.inr (Or.inl (Int32.toInt_inj.mp h)))
  · exact (Or.inr (Or.inr (Or.inl (Int32.toInt_inj.mp h))))
  · exact (Or.inr (Or.inr (Or.inr (Or.inl (Int32.toInt_inj.mp h)))))
  · exact (Or.inr (Or.inr (Or.inr (Or.inr (Or.inl (Int32.toInt_inj.mp h))))))
  · exact (Or.inr (Or.inr (Or.inr (Or.inr (Or.inr (Or.inl (Int32.toInt_inj.mp h)))))))
  · exact (Or.inr (Or.inr (Or.inr (Or.inr (Or.inr (Or.inr (Or.inl (Int32.toInt_inj.mp h))))))))
  · exact (Or.inr (Or.inr (Or.inr (Or.inr (Or.inr (Or.inr (Or.inr (Or.inl (Int32.toInt_inj.mp h)))))))))
  · exact (Or.inr (Or.inr (Or.inr (Or.inr (Or.inr (Or.inr (Or.inr (Or.inr (Int32.toInt_inj.mp h)))))))))
theorem own_ret {c : Int32} (h : c.toInt8.toInt32 = c) : some (Value.int (nar .byte c)) = some (.int c) := by
  show some (Value.int c.toInt8.toInt32) = _
  rw [h]
theorem d1_0 : decode prog_29_method_1_code 0 = .ok (.getstatic 31, 3) := by decide +kernel
theorem d1_3 : decode prog_29_method_1_code 3 = .ok (.invokevirtual 35, 3) := by decide +kernel
theorem d1_6 : decode prog_29_method_1_code 6 = .ok (.checkcast 36, 3) := by decide +kernel
theorem d1_9 : decode prog_29_method_1_code 9 = .ok (.areturn, 1) := by decide +kernel
theorem pn_0 : plainName "com/example/fawley/fawley/store/Change$Kind" = true := by first | (simp [plainName, overriddenIn]; done) | decide +kernel
theorem efVal (m : MethodId)  : entryFrame m #[] 0 = mkF m 0 #[] [] := by first | (simp [entryFrame, mkF, argsToLocals, Value.category]; done) | rfl
def QVal (Z : State) (w_STORED : Addr) (w_REMOVED : Addr) (w_WATCHED : Addr) (w_UNWATCHED : Addr) (w_UNWATCHED_ALL : Addr) (w_CLOCK_READING : Addr) (w_ANSWERED : Addr) (w_UNDELIVERED : Addr) (w_DELIVERED : Addr) (w__VALUES : Addr) (k_ : ClassId) (h0 : Heap) (n0 : Nat) (v : Option Value) (h : Heap) (L : List Loc) : Prop := ∃ nb2 : Addr, v = some (.ref nb2) ∧ Fr n0 L ∧ Keep h0 h [] ∧ h0.size ≤ nb2 ∧ Arv Z h nb2 k_ (.object "com/example/fawley/fawley/store/Change$Kind") (9 : Int32) [(.ref w_STORED), (.ref w_REMOVED), (.ref w_WATCHED), (.ref w_UNWATCHED), (.ref w_UNWATCHED_ALL), (.ref w_CLOCK_READING), (.ref w_ANSWERED), (.ref w_UNDELIVERED), (.ref w_DELIVERED)] .null ∧ Exa Z h nb2 "[Lcom/example/fawley/fawley/store/Change$Kind;"
set_option maxRecDepth 65536 in
set_option maxHeartbeats 40000000 in
theorem rmVal (l : Launch) (Z : State) (a0 : Array Value) (hw : ∀ d ∈ tables_1, d.before a0 Z = true) (ws : List Jvm.Cond) (w_STORED : Addr) (w_REMOVED : Addr) (w_WATCHED : Addr) (w_UNWATCHED : Addr) (w_UNWATCHED_ALL : Addr) (w_CLOCK_READING : Addr) (w_ANSWERED : Addr) (w_UNDELIVERED : Addr) (w_DELIVERED : Addr) (w__VALUES : Addr) (k_ : ClassId) (h0 : Heap) (n0 : Nat) (O0 : Old Z n0 h0) (P0 : Sta Z Z.heap "com/example/fawley/fawley/store/Change$Kind" "STORED" "Lcom/example/fawley/fawley/store/Change$Kind;" (.ref w_STORED)) (P1 : Exa Z Z.heap w_STORED "com/example/fawley/fawley/store/Change$Kind") (P2 : Fld Z Z.heap w_STORED "com/example/fawley/fawley/store/Change$Kind" "code" "B" (.int (1 : Int32))) (P3 : Sta Z Z.heap "com/example/fawley/fawley/store/Change$Kind" "REMOVED" "Lcom/example/fawley/fawley/store/Change$Kind;" (.ref w_REMOVED)) (P4 : Exa Z Z.heap w_REMOVED "com/example/fawley/fawley/store/Change$Kind") (P5 : Fld Z Z.heap w_REMOVED "com/example/fawley/fawley/store/Change$Kind" "code" "B" (.int (2 : Int32))) (P6 : Sta Z Z.heap "com/example/fawley/fawley/store/Change$Kind" "WATCHED" "Lcom/example/fawley/fawley/store/Change$Kind;" (.ref w_WATCHED)) (P7 : Exa Z Z.heap w_WATCHED "com/example/fawley/fawley/store/Change$Kind") (P8 : Fld Z Z.heap w_WATCHED "com/example/fawley/fawley/store/Change$Kind" "code" "B" (.int (3 : Int32))) (P9 : Sta Z Z.heap "com/example/fawley/fawley/store/Change$Kind" "UNWATCHED" "Lcom/example/fawley/fawley/store/Change$Kind;" (.ref w_UNWATCHED)) (P10 : Exa Z Z.heap w_UNWATCHED "com/example/fawley/fawley/store/Change$Kind") (P11 : Fld Z Z.heap w_UNWATCHED "com/example/fawley/fawley/store/Change$Kind" "code" "B" (.int (4 : Int32))) (P12 : Sta Z Z.heap "com/example/fawley/fawley/store/Change$Kind" "UNWATCHED_ALL" "Lcom/example/fawley/fawley/store/Change$Kind;" (.ref w_UNWATCHED_ALL)) (P13 : Exa Z Z.heap w_UNWATCHED_ALL "com/example/fawley/fawley/store/Change$Kind") (P14 : Fld Z Z.heap w_UNWATCHED_ALL "com/example/fawley/fawley/store/Change$Kind" "code" "B" (.int (5 : Int32))) (P15 : Sta Z Z.heap "com/example/fawley/fawley/store/Change$Kind" "CLOCK_READING" "Lcom/example/fawley/fawley/store/Change$Kind;" (.ref w_CLOCK_READING)) (P16 : Exa Z Z.heap w_CLOCK_READING "com/example/fawley/fawley/store/Change$Kind") (P17 : Fld Z Z.heap w_CLOCK_READING "com/example/fawley/fawley/store/Change$Kind" "code" "B" (.int (6 : Int32))) (P18 : Sta Z Z.heap "com/example/fawley/fawley/store/Change$Kind" "ANSWERED" "Lcom/example/fawley/fawley/store/Change$Kind;" (.ref w_ANSWERED)) (P19 : Exa Z Z.heap w_ANSWERED "com/example/fawley/fawley/store/Change$Kind") (P20 : Fld Z Z.heap w_ANSWERED "com/example/fawley/fawley/store/Change$Kind" "code" "B" (.int (7 : Int32))) (P21 : Sta Z Z.heap "com/example/fawley/fawley/store/Change$Kind" "UNDELIVERED" "Lcom/example/fawley/fawley/store/Change$Kind;" (.ref w_UNDELIVERED)) (P22 : Exa Z Z.heap w_UNDELIVERED "com/example/fawley/fawley/store/Change$Kind") (P23 : Fld Z Z.heap w_UNDELIVERED "com/example/fawley/fawley/store/Change$Kind" "code" "B" (.int (8 : Int32))) (P24 : Sta Z Z.heap "com/example/fawley/fawley/store/Change$Kind" "DELIVERED" "Lcom/example/fawley/fawley/store/Change$Kind;" (.ref w_DELIVERED)) (P25 : Exa Z Z.heap w_DELIVERED "com/example/fawley/fawley/store/Change$Kind") (P26 : Fld Z Z.heap w_DELIVERED "com/example/fawley/fawley/store/Change$Kind" "code" "B" (.int (9 : Int32))) (P27 : Sta Z Z.heap "com/example/fawley/fawley/store/Change$Kind" "$VALUES" "[Lcom/example/fawley/fawley/store/Change$Kind;" (.ref w__VALUES)) (P28 : Exa Z Z.heap w__VALUES "[Lcom/example/fawley/fawley/store/Change$Kind;") (P29 : Arv Z Z.heap w__VALUES k_ (.object "com/example/fawley/fawley/store/Change$Kind") (9 : Int32) [(.ref w_STORED), (.ref w_REMOVED), (.ref w_WATCHED), (.ref w_UNWATCHED), (.ref w_UNWATCHED_ALL), (.ref w_CLOCK_READING), (.ref w_ANSWERED), (.ref w_UNDELIVERED), (.ref w_DELIVERED)] .null) :
    MetFree l (⟨"com/example/fawley/fawley/store/Change$Kind", "values", "()[Lcom/example/fawley/fawley/store/Change$Kind;"⟩ : MethodName) (head1 (Jvm.Cond.code (⟨"com/example/fawley/fawley/store/Change$Kind", "values", "()[Lcom/example/fawley/fawley/store/Change$Kind;"⟩ : MethodName) prog_29_method_1_code 0 (some (.array (.object "com/example/fawley/fawley/store/Change$Kind"))) :: ws) ({ frames := 1, cells := 1, slots := 9, locals := 14 } : Room)) (fun a U => a = #[] ∧ Z.Warmed39 U.vm ∧ U.heap = h0) (fun _ _ _ _ _ => True) (fun _ U o U' => ∃ v L, o = .returned v ∧ QVal Z w_STORED w_REMOVED w_WATCHED w_UNWATCHED w_UNWATCHED_ALL w_CLOCK_READING w_ANSWERED w_UNDELIVERED w_DELIVERED w__VALUES k_ h0 n0 v U'.heap L ∧ FrameEnd U o U' L ({ frames := 1, cells := 1, slots := 9, locals := 14 } : Room).cells ({ frames := 1, cells := 1, slots := 9, locals := 14 } : Room).slots) := by
  refine MetFree.of_bodySF (plainFor_of_name pn_0) hisR ?_
  intro p e s m args below meth c s₁ Bd hml0 hP hK
  obtain ⟨rfl, hZ, hh⟩ := hP
  have hx := Bd.exec
  have hby := Bd.bytes
  have hml : c.maxLocals = 0 := hml0
  have hown : s.vm.findClass "com/example/fawley/fawley/store/Change$Kind" = some m.cls := findClass_of_methodNamed Bd.named
  have hnm := (name_of_methodNamed Bd.named Bd.method).1
  have X0 : Stand p l e ({ frames := 1, cells := 1, slots := 9, locals := 14 } : Room) s m #[] below meth c s₁ [] 0 0 := Stand.of_body Bd
  have e0 : s₁.heap = h0 := by rw [← hh, Bd.state]; rfl
  have N0 := Fr.nil n0
  have pre0 : ∀ t, Steps p.tables e below (s₁.setTop (mkF m 0 #[] [])) t → Steps p.tables e below (s₁.setTop (entryFrame m #[] 0)) t := fun t k => castTop (efVal m ) k
  have K0 : Keep h0 h0 [] := Keep.refl _ _
  obtain ⟨T1, X1, e1, st1⟩ := getS2 X0 hx hZ hown (host := "") (Or.inl (hw _ (List.mem_of_getElem? (i := 14) rfl))) Via.refl e0 (P27.ext O0.2) (g := (mkF m 0 #[] [])) rfl (hb hby d1_0)
  have f3 : Arv Z h0 w__VALUES k_ (.object "com/example/fawley/fawley/store/Change$Kind") (9 : Int32) [(.ref w_STORED), (.ref w_REMOVED), (.ref w_WATCHED), (.ref w_UNWATCHED), (.ref w_UNWATCHED_ALL), (.ref w_CLOCK_READING), (.ref w_ANSWERED), (.ref w_UNDELIVERED), (.ref w_DELIVERED)] .null := P29.ext O0.2
  have f4 : Exa Z h0 w__VALUES "[Lcom/example/fawley/fawley/store/Change$Kind;" := P28.ext O0.2
  obtain ⟨T2, h2, X2, e2, E2, A2, Z2, st2⟩ := cloneH X1 hx hZ hown (hw _ (List.mem_of_getElem? (i := 16) rfl)) (hw _ (List.mem_of_getElem? (i := 17) rfl)) (hw _ (List.mem_of_getElem? (i := 21) rfl)) (hw _ (List.mem_of_getElem? (i := 19) rfl)) (hw _ (List.mem_of_getElem? (i := 20) rfl)) (hw _ (List.mem_of_getElem? (i := 22) rfl)) e1 f3.arh f4 (g := (mkF m 3 #[] [(.ref w__VALUES)])) rfl (by rw [hml]; rfl) rfl (hb hby d1_3) (by decide) (W := 0) (cap := 9) (by show 2 * 0 + _ ≤ _; exact Nat.le_of_eq rfl) (by decide) (by decide) (by decide) (by decide)
  obtain ⟨b2, g2⟩ : ∃ z, z = h0.size := ⟨_, rfl⟩
  rw [← g2] at A2 Z2 st2
  have ge5 : n0 ≤ b2 := Nat.le_trans (Nat.le_trans (Nat.le_of_eq O0.1.symm) O0.2.1) (Nat.le_of_eq g2.symm)
  have sz6 : h0.size ≤ b2 := Nat.le_trans K0.1 (Nat.le_of_eq g2.symm)
  have f7 : Arv Z h2 b2 k_ (.object "com/example/fawley/fawley/store/Change$Kind") (9 : Int32) [(.ref w_STORED), (.ref w_REMOVED), (.ref w_WATCHED), (.ref w_UNWATCHED), (.ref w_UNWATCHED_ALL), (.ref w_CLOCK_READING), (.ref w_ANSWERED), (.ref w_UNDELIVERED), (.ref w_DELIVERED)] .null := A2
  obtain ⟨T8, X8, e8, st8⟩ := castY X2 hx hZ hown (hw _ (List.mem_of_getElem? (i := 32) rfl)) e2 (Ins.self Z2) (g := (mkF m 6 #[] [(.ref b2)])) rfl rfl (hb hby d1_6)
  have pre9 : ∀ t, Steps p.tables e below (T8.setTop (mkF m 9 #[] [(.ref b2)])) t → Steps p.tables e below (s₁.setTop (entryFrame m #[] 0)) t := by
    intro t kt
    refine pre0 t ?_
    show Steps p.tables e below (s₁.setTop (mkF m 0 #[] [])) _
    refine st1 _ ?_
    show Steps p.tables e below (T1.setTop (mkF m 3 #[] [(.ref w__VALUES)])) _
    refine st2 _ ?_
    show Steps p.tables e below (T2.setTop (mkF m 6 #[] [(.ref b2)])) _
    refine st8 _ ?_
    exact kt
  have f11 : Keep h0 h2 [] := K0.ext E2
  obtain ⟨fs, hr, hrun, hended, hW, hsame⟩ := X8.leave (v := some (.ref b2)) (fun h => by rw [Bd.returns] at h; cases h)
  refine ⟨_, _, pre9 _ (retOut X8 hx Bd.returns rfl (Or.inr (Or.inr (Or.inr (Or.inr ⟨rfl, rfl, rfl⟩)))) (hb hby d1_9) hr), hrun, hended, _, _, rfl, ?_, ⟨_, rfl⟩, hW, hsame.mono (by decide) (by decide)⟩
  show QVal Z w_STORED w_REMOVED w_WATCHED w_UNWATCHED w_UNWATCHED_ALL w_CLOCK_READING w_ANSWERED w_UNDELIVERED w_DELIVERED w__VALUES k_ h0 n0 _ T8.heap _
  rw [e8]
  exact ⟨b2, rfl, N0, f11, sz6, f7, Z2⟩
theorem d2_0 : decode method_2_code 0 = .ok (.iload_n 0, 1) := by decide +kernel
theorem d2_1 : decode method_2_code 1 = .ok (.iconst 1, 1) := by decide +kernel
theorem d2_2 : decode method_2_code 2 = .ok (.if_icmp .ne 7, 3) := by decide +kernel
theorem d2_5 : decode method_2_code 5 = .ok (.getstatic 7, 3) := by decide +kernel
theorem d2_8 : decode method_2_code 8 = .ok (.areturn, 1) := by decide +kernel
theorem pn_1 : plainName "com/example/fawley/fawley/store/KindOfPinLaw" = true := by first | (simp [plainName, overriddenIn]; done) | decide +kernel
theorem efExp0 (m : MethodId)  : entryFrame m #[(.int (1 : Int32))] 1 = mkF m 0 #[.val (.int (1 : Int32))] [] := by first | (simp [entryFrame, mkF, argsToLocals, Value.category]; done) | rfl
def QExp0 (Z : State) (w_STORED : Addr) (h0 : Heap) (n0 : Nat) (v : Option Value) (h : Heap) (L : List Loc) : Prop := v = some (.ref w_STORED) ∧ Fr n0 L ∧ h = h0
set_option maxRecDepth 65536 in
set_option maxHeartbeats 40000000 in
theorem rmExp0 (l : Launch) (Z : State) (a0 : Array Value) (hw : ∀ d ∈ tables_1, d.before a0 Z = true) (ws : List Jvm.Cond) (w_STORED : Addr) (h0 : Heap) (n0 : Nat) (O0 : Old Z n0 h0) (P0 : Sta Z Z.heap "com/example/fawley/fawley/store/Change$Kind" "STORED" "Lcom/example/fawley/fawley/store/Change$Kind;" (.ref w_STORED)) :
    MetFree l (⟨"com/example/fawley/fawley/store/KindOfPinLaw", "expected", "(I)Lcom/example/fawley/fawley/store/Change$Kind;"⟩ : MethodName) (head1 (Jvm.Cond.code (⟨"com/example/fawley/fawley/store/KindOfPinLaw", "expected", "(I)Lcom/example/fawley/fawley/store/Change$Kind;"⟩ : MethodName) method_2_code 1 (some (.object "com/example/fawley/fawley/store/Change$Kind")) :: ws) ({ frames := 0, cells := 0, slots := 0, locals := 0 } : Room)) (fun a U => a = #[(.int (1 : Int32))] ∧ Z.Warmed39 U.vm ∧ U.heap = h0) (fun _ _ _ _ _ => True) (fun _ U o U' => ∃ v L, o = .returned v ∧ QExp0 Z w_STORED h0 n0 v U'.heap L ∧ FrameEnd U o U' L ({ frames := 0, cells := 0, slots := 0, locals := 0 } : Room).cells ({ frames := 0, cells := 0, slots := 0, locals := 0 } : Room).slots) := by
  refine MetFree.of_bodySF (plainFor_of_name pn_1) hisR ?_
  intro p e s m args below meth c s₁ Bd hml0 hP hK
  obtain ⟨rfl, hZ, hh⟩ := hP
  have hx := Bd.exec
  have hby := Bd.bytes
  have hml : c.maxLocals = 1 := hml0
  have hown : s.vm.findClass "com/example/fawley/fawley/store/KindOfPinLaw" = some m.cls := findClass_of_methodNamed Bd.named
  have hnm := (name_of_methodNamed Bd.named Bd.method).1
  have X0 : Stand p l e ({ frames := 0, cells := 0, slots := 0, locals := 0 } : Room) s m #[(.int (1 : Int32))] below meth c s₁ [] 0 0 := Stand.of_body Bd
  have e0 : s₁.heap = h0 := by rw [← hh, Bd.state]; rfl
  have N0 := Fr.nil n0
  have pre0 : ∀ t, Steps p.tables e below (s₁.setTop (mkF m 0 #[.val (.int (1 : Int32))] [])) t → Steps p.tables e below (s₁.setTop (entryFrame m #[(.int (1 : Int32))] 1)) t := fun t k => castTop (efExp0 m ) k
  have K0 : Keep h0 h0 [] := Keep.refl _ _
  obtain ⟨T1, X1, e1, st1⟩ := getS2 X0 hx hZ hown (host := "") (Or.inl (hw _ (List.mem_of_getElem? (i := 5) rfl))) Via.refl e0 (P0.ext O0.2) (g := (mkF m 5 #[.val (.int (1 : Int32))] [])) rfl (hb hby d2_5)
  have pre2 : ∀ t, Steps p.tables e below (T1.setTop (mkF m 8 #[.val (.int (1 : Int32))] [(.ref w_STORED)])) t → Steps p.tables e below (s₁.setTop (entryFrame m #[(.int (1 : Int32))] 1)) t := by
    intro t kt
    refine pre0 t ?_
    show Steps p.tables e below (s₁.setTop (mkF m 0 #[.val (.int (1 : Int32))] [])) _
    refine XS.iloadN X0.here hx rfl (hb hby d2_0) rfl ?_
    show Steps p.tables e below (s₁.setTop (mkF m 1 #[.val (.int (1 : Int32))] [(.int (1 : Int32))])) _
    refine XS.iconst X0.here hx rfl (hb hby d2_1) ?_
    show Steps p.tables e below (s₁.setTop (mkF m 2 #[.val (.int (1 : Int32))] [(.int (1 : Int32)), (.int (1 : Int32))])) _
    refine XS.icmpNo X0.here hx rfl (hb hby d2_2) rfl (teq (by decide : (1 : Int32) = (1 : Int32))).2 ?_
    show Steps p.tables e below (s₁.setTop (mkF m 5 #[.val (.int (1 : Int32))] [])) _
    refine st1 _ ?_
    exact kt
  obtain ⟨fs, hr, hrun, hended, hW, hsame⟩ := X1.leave (v := some (.ref w_STORED)) (fun h => by rw [Bd.returns] at h; cases h)
  refine ⟨_, _, pre2 _ (retOut X1 hx Bd.returns rfl (Or.inr (Or.inr (Or.inr (Or.inr ⟨rfl, rfl, rfl⟩)))) (hb hby d2_8) hr), hrun, hended, _, _, rfl, ?_, ⟨_, rfl⟩, hW, hsame.mono (by decide) (by decide)⟩
  show QExp0 Z w_STORED h0 n0 _ T1.heap _
  rw [e1]
  exact ⟨rfl, N0, rfl⟩
theorem d3_0 : decode prog_29_method_5_code 0 = .ok (.invokestatic 54, 3) := by decide +kernel
theorem pd_0 : parseMethodDescriptor "()[Lcom/example/fawley/fawley/store/Change$Kind;" = some ⟨[], some (.array (.object "com/example/fawley/fawley/store/Change$Kind"))⟩ := by decide +kernel
theorem d3_3 : decode prog_29_method_5_code 3 = .ok (.astore_n 1, 1) := by decide +kernel
theorem d3_4 : decode prog_29_method_5_code 4 = .ok (.aload_n 1, 1) := by decide +kernel
theorem d3_5 : decode prog_29_method_5_code 5 = .ok (.arraylength, 1) := by decide +kernel
theorem d3_6 : decode prog_29_method_5_code 6 = .ok (.istore_n 2, 1) := by decide +kernel
theorem d3_7 : decode prog_29_method_5_code 7 = .ok (.iconst 0, 1) := by decide +kernel
theorem d3_8 : decode prog_29_method_5_code 8 = .ok (.istore_n 3, 1) := by decide +kernel
theorem d3_9 : decode prog_29_method_5_code 9 = .ok (.iload_n 3, 1) := by decide +kernel
theorem d3_10 : decode prog_29_method_5_code 10 = .ok (.iload_n 2, 1) := by decide +kernel
theorem d3_11 : decode prog_29_method_5_code 11 = .ok (.if_icmp .ge 26, 3) := by decide +kernel
theorem d3_14 : decode prog_29_method_5_code 14 = .ok (.aload_n 1, 1) := by decide +kernel
theorem d3_15 : decode prog_29_method_5_code 15 = .ok (.iload_n 3, 1) := by decide +kernel
theorem d3_16 : decode prog_29_method_5_code 16 = .ok (.aaload, 1) := by decide +kernel
theorem d3_17 : decode prog_29_method_5_code 17 = .ok (.astore 4, 2) := by decide +kernel
theorem d3_19 : decode prog_29_method_5_code 19 = .ok (.aload 4, 2) := by decide +kernel
theorem d3_21 : decode prog_29_method_5_code 21 = .ok (.getfield 50, 3) := by decide +kernel
theorem d3_24 : decode prog_29_method_5_code 24 = .ok (.iload_n 0, 1) := by decide +kernel
theorem d3_25 : decode prog_29_method_5_code 25 = .ok (.if_icmp .ne 6, 3) := by decide +kernel
theorem d3_28 : decode prog_29_method_5_code 28 = .ok (.aload 4, 2) := by decide +kernel
theorem d3_30 : decode prog_29_method_5_code 30 = .ok (.areturn, 1) := by decide +kernel
theorem efOf0 (m : MethodId)  : entryFrame m #[(.int (1 : Int32))] 5 = mkF m 0 #[.val (.int (1 : Int32)), .unset, .unset, .unset, .unset] [] := by first | (simp [entryFrame, mkF, argsToLocals, Value.category]; done) | rfl
def QOf0 (Z : State) (w_STORED : Addr) (w_REMOVED : Addr) (w_WATCHED : Addr) (w_UNWATCHED : Addr) (w_UNWATCHED_ALL : Addr) (w_CLOCK_READING : Addr) (w_ANSWERED : Addr) (w_UNDELIVERED : Addr) (w_DELIVERED : Addr) (w__VALUES : Addr) (k_ : ClassId) (h0 : Heap) (n0 : Nat) (v : Option Value) (h : Heap) (L : List Loc) : Prop := v = some (.ref w_STORED) ∧ Fr n0 L ∧ Keep h0 h []
set_option maxRecDepth 65536 in
set_option maxHeartbeats 40000000 in
theorem rmOf0 (l : Launch) (Z : State) (a0 : Array Value) (hw : ∀ d ∈ tables_1, d.before a0 Z = true) (ws : List Jvm.Cond) (w_STORED : Addr) (w_REMOVED : Addr) (w_WATCHED : Addr) (w_UNWATCHED : Addr) (w_UNWATCHED_ALL : Addr) (w_CLOCK_READING : Addr) (w_ANSWERED : Addr) (w_UNDELIVERED : Addr) (w_DELIVERED : Addr) (w__VALUES : Addr) (k_ : ClassId) (h0 : Heap) (n0 : Nat) (O0 : Old Z n0 h0) (P0 : Sta Z Z.heap "com/example/fawley/fawley/store/Change$Kind" "STORED" "Lcom/example/fawley/fawley/store/Change$Kind;" (.ref w_STORED)) (P1 : Exa Z Z.heap w_STORED "com/example/fawley/fawley/store/Change$Kind") (P2 : Fld Z Z.heap w_STORED "com/example/fawley/fawley/store/Change$Kind" "code" "B" (.int (1 : Int32))) (P3 : Sta Z Z.heap "com/example/fawley/fawley/store/Change$Kind" "REMOVED" "Lcom/example/fawley/fawley/store/Change$Kind;" (.ref w_REMOVED)) (P4 : Exa Z Z.heap w_REMOVED "com/example/fawley/fawley/store/Change$Kind") (P5 : Fld Z Z.heap w_REMOVED "com/example/fawley/fawley/store/Change$Kind" "code" "B" (.int (2 : Int32))) (P6 : Sta Z Z.heap "com/example/fawley/fawley/store/Change$Kind" "WATCHED" "Lcom/example/fawley/fawley/store/Change$Kind;" (.ref w_WATCHED)) (P7 : Exa Z Z.heap w_WATCHED "com/example/fawley/fawley/store/Change$Kind") (P8 : Fld Z Z.heap w_WATCHED "com/example/fawley/fawley/store/Change$Kind" "code" "B" (.int (3 : Int32))) (P9 : Sta Z Z.heap "com/example/fawley/fawley/store/Change$Kind" "UNWATCHED" "Lcom/example/fawley/fawley/store/Change$Kind;" (.ref w_UNWATCHED)) (P10 : Exa Z Z.heap w_UNWATCHED "com/example/fawley/fawley/store/Change$Kind") (P11 : Fld Z Z.heap w_UNWATCHED "com/example/fawley/fawley/store/Change$Kind" "code" "B" (.int (4 : Int32))) (P12 : Sta Z Z.heap "com/example/fawley/fawley/store/Change$Kind" "UNWATCHED_ALL" "Lcom/example/fawley/fawley/store/Change$Kind;" (.ref w_UNWATCHED_ALL)) (P13 : Exa Z Z.heap w_UNWATCHED_ALL "com/example/fawley/fawley/store/Change$Kind") (P14 : Fld Z Z.heap w_UNWATCHED_ALL "com/example/fawley/fawley/store/Change$Kind" "code" "B" (.int (5 : Int32))) (P15 : Sta Z Z.heap "com/example/fawley/fawley/store/Change$Kind" "CLOCK_READING" "Lcom/example/fawley/fawley/store/Change$Kind;" (.ref w_CLOCK_READING)) (P16 : Exa Z Z.heap w_CLOCK_READING "com/example/fawley/fawley/store/Change$Kind") (P17 : Fld Z Z.heap w_CLOCK_READING "com/example/fawley/fawley/store/Change$Kind" "code" "B" (.int (6 : Int32))) (P18 : Sta Z Z.heap "com/example/fawley/fawley/store/Change$Kind" "ANSWERED" "Lcom/example/fawley/fawley/store/Change$Kind;" (.ref w_ANSWERED)) (P19 : Exa Z Z.heap w_ANSWERED "com/example/fawley/fawley/store/Change$Kind") (P20 : Fld Z Z.heap w_ANSWERED "com/example/fawley/fawley/store/Change$Kind" "code" "B" (.int (7 : Int32))) (P21 : Sta Z Z.heap "com/example/fawley/fawley/store/Change$Kind" "UNDELIVERED" "Lcom/example/fawley/fawley/store/Change$Kind;" (.ref w_UNDELIVERED)) (P22 : Exa Z Z.heap w_UNDELIVERED "com/example/fawley/fawley/store/Change$Kind") (P23 : Fld Z Z.heap w_UNDELIVERED "com/example/fawley/fawley/store/Change$Kind" "code" "B" (.int (8 : Int32))) (P24 : Sta Z Z.heap "com/example/fawley/fawley/store/Change$Kind" "DELIVERED" "Lcom/example/fawley/fawley/store/Change$Kind;" (.ref w_DELIVERED)) (P25 : Exa Z Z.heap w_DELIVERED "com/example/fawley/fawley/store/Change$Kind") (P26 : Fld Z Z.heap w_DELIVERED "com/example/fawley/fawley/store/Change$Kind" "code" "B" (.int (9 : Int32))) (P27 : Sta Z Z.heap "com/example/fawley/fawley/store/Change$Kind" "$VALUES" "[Lcom/example/fawley/fawley/store/Change$Kind;" (.ref w__VALUES)) (P28 : Exa Z Z.heap w__VALUES "[Lcom/example/fawley/fawley/store/Change$Kind;") (P29 : Arv Z Z.heap w__VALUES k_ (.object "com/example/fawley/fawley/store/Change$Kind") (9 : Int32) [(.ref w_STORED), (.ref w_REMOVED), (.ref w_WATCHED), (.ref w_UNWATCHED), (.ref w_UNWATCHED_ALL), (.ref w_CLOCK_READING), (.ref w_ANSWERED), (.ref w_UNDELIVERED), (.ref w_DELIVERED)] .null) :
    MetFree l (⟨"com/example/fawley/fawley/store/Change$Kind", "of", "(B)Lcom/example/fawley/fawley/store/Change$Kind;"⟩ : MethodName) (head1 (Jvm.Cond.code (⟨"com/example/fawley/fawley/store/Change$Kind", "of", "(B)Lcom/example/fawley/fawley/store/Change$Kind;"⟩ : MethodName) prog_29_method_5_code 5 (some (.object "com/example/fawley/fawley/store/Change$Kind")) :: ws) ({ frames := 2, cells := 1, slots := 9, locals := 25 } : Room)) (fun a U => a = #[(.int (1 : Int32))] ∧ Z.Warmed39 U.vm ∧ U.heap = h0) (fun _ _ _ _ _ => True) (fun _ U o U' => ∃ v L, o = .returned v ∧ QOf0 Z w_STORED w_REMOVED w_WATCHED w_UNWATCHED w_UNWATCHED_ALL w_CLOCK_READING w_ANSWERED w_UNDELIVERED w_DELIVERED w__VALUES k_ h0 n0 v U'.heap L ∧ FrameEnd U o U' L ({ frames := 2, cells := 1, slots := 9, locals := 25 } : Room).cells ({ frames := 2, cells := 1, slots := 9, locals := 25 } : Room).slots) := by
  refine MetFree.of_bodySF (plainFor_of_name pn_0) hisR ?_
  intro p e s m args below meth c s₁ Bd hml0 hP hK
  obtain ⟨rfl, hZ, hh⟩ := hP
  have hx := Bd.exec
  have hby := Bd.bytes
  have hml : c.maxLocals = 5 := hml0
  have hown : s.vm.findClass "com/example/fawley/fawley/store/Change$Kind" = some m.cls := findClass_of_methodNamed Bd.named
  have hnm := (name_of_methodNamed Bd.named Bd.method).1
  have X0 : Stand p l e ({ frames := 2, cells := 1, slots := 9, locals := 25 } : Room) s m #[(.int (1 : Int32))] below meth c s₁ [] 0 0 := Stand.of_body Bd
  have e0 : s₁.heap = h0 := by rw [← hh, Bd.state]; rfl
  have N0 := Fr.nil n0
  have pre0 : ∀ t, Steps p.tables e below (s₁.setTop (mkF m 0 #[.val (.int (1 : Int32)), .unset, .unset, .unset, .unset] [])) t → Steps p.tables e below (s₁.setTop (entryFrame m #[(.int (1 : Int32))] 5)) t := fun t k => castTop (efOf0 m ) k
  have K0 : Keep h0 h0 [] := Keep.refl _ _
  obtain ⟨_, _, ⟨T1, L1, k1, n1⟩, -, X1, ⟨Lc1, hQ1, l1, y1, z1⟩, st1⟩ := Jvm.LawKit.callS X0 hx (y := (⟨"com/example/fawley/fawley/store/Change$Kind", "values", "()[Lcom/example/fawley/fawley/store/Change$Kind;"⟩ : MethodName)) hown (mvT hZ (hw _ (List.mem_of_getElem? (i := 11) rfl))) (mvT hZ (hw _ (List.mem_of_getElem? (i := 12) rfl))) (mvT hZ (hw _ (List.mem_of_getElem? (i := 6) rfl))) (mvT hZ (hw _ (List.mem_of_getElem? (i := 13) rfl))) (by decide) (backOf (W := 0) (rmVal l Z a0 hw [] w_STORED w_REMOVED w_WATCHED w_UNWATCHED w_UNWATCHED_ALL w_CLOCK_READING w_ANSWERED w_UNDELIVERED w_DELIVERED w__VALUES k_ h0 n0 O0 P0 P1 P2 P3 P4 P5 P6 P7 P8 P9 P10 P11 P12 P13 P14 P15 P16 P17 P18 P19 P20 P21 P22 P23 P24 P25 P26 P27 P28 P29) hZ (hw _ (List.mem_of_getElem? (i := 13) rfl)) (hw _ (List.mem_of_getElem? (i := 6) rfl)) (by decide) (by decide)) (g := (mkF m 0 #[.val (.int (1 : Int32)), .unset, .unset, .unset, .unset] [])) rfl (by rw [hml]; rfl) (argsL := []) (rest := []) (lenOf pd_0 rfl) rfl (by show 2 * 0 + _ ≤ _; exact Nat.le_of_eq rfl) (hb hby d3_0) (fun _ _ => ⟨rfl, e0, (by decide : 0 + 1 ≤ _), (by decide : 0 + 9 ≤ _)⟩)
  dsimp only [Pt.U, Pt.locs, Pt.cells, Pt.slots] at X1 l1 y1 z1 st1 hQ1
  subst l1 y1 z1
  obtain ⟨h1, e1⟩ : ∃ z, T1.heap = z := ⟨_, rfl⟩
  rw [e1] at hQ1
  obtain ⟨nb2_1, rfl, N1q, K1, sznb2_1, g1_0, g1_1⟩ := hQ1
  have N2 := Fr.app N0 N1q
  have ge3 : n0 ≤ nb2_1 := Nat.le_trans (Nat.le_trans (Nat.le_of_eq O0.1.symm) O0.2.1) sznb2_1
  have sz4 : h0.size ≤ nb2_1 := Nat.le_trans K0.1 sznb2_1
  obtain ⟨c5, r5, q5, s5, z5, y5, G5⟩ := id g1_0
  obtain ⟨c6, r6, q6, s6, z6, y6, G6⟩ := id g1_0
  have hin6 : ¬ ((0 : Int32) < 0 ∨ c6.slots.size ≤ ((0 : Int32)).toNatClampNeg) := inb_of s6 ⟨by decide, by decide⟩
  have hat6 : c6.slots[((0 : Int32)).toNatClampNeg]? = some (.ref w_STORED) := Has.at y6 hin6 rfl
  have f7 : Old Z n0 h1 := O0.keep K1 all0
  have f8 : Fld Z h1 w_STORED "com/example/fawley/fawley/store/Change$Kind" "code" "B" (.int (1 : Int32)) := P2.ext f7.2
  obtain ⟨T9, X9, e9, st9⟩ := getF X1 hx hZ hown (host := "") (Or.inl (hw _ (List.mem_of_getElem? (i := 34) rfl))) Via.refl e1 f8 (g := (mkF m 21 #[.val (.int (1 : Int32)), .val (.ref nb2_1), .val (.int (9 : Int32)), .val (.int (0 : Int32)), .val (.ref w_STORED)] [(.ref w_STORED)])) rfl rfl (hb hby d3_21)
  have pre10 : ∀ t, Steps p.tables e below (T9.setTop (mkF m 30 #[.val (.int (1 : Int32)), .val (.ref nb2_1), .val (.int (9 : Int32)), .val (.int (0 : Int32)), .val (.ref w_STORED)] [(.ref w_STORED)])) t → Steps p.tables e below (s₁.setTop (entryFrame m #[(.int (1 : Int32))] 5)) t := by
    intro t kt
    refine pre0 t ?_
    show Steps p.tables e below (s₁.setTop (mkF m 0 #[.val (.int (1 : Int32)), .unset, .unset, .unset, .unset] [])) _
    refine st1 _ ?_
    show Steps p.tables e below (T1.setTop (mkF m 3 #[.val (.int (1 : Int32)), .unset, .unset, .unset, .unset] [(.ref nb2_1)])) _
    refine XS.astoreN X1.here hx rfl (hb hby d3_3) rfl rfl (l' := #[.val (.int (1 : Int32)), .val (.ref nb2_1), .unset, .unset, .unset]) rfl ?_
    show Steps p.tables e below (T1.setTop (mkF m 4 #[.val (.int (1 : Int32)), .val (.ref nb2_1), .unset, .unset, .unset] [])) _
    refine XS.aloadN X1.here hx rfl (hb hby d3_4) rfl rfl ?_
    show Steps p.tables e below (T1.setTop (mkF m 5 #[.val (.int (1 : Int32)), .val (.ref nb2_1), .unset, .unset, .unset] [(.ref nb2_1)])) _
    refine X1.arraylength hx (by rw [e1]; exact r5.1) (State.isArrayOf_alike hZ.alike r5.2.1) (g := (mkF m 5 #[.val (.int (1 : Int32)), .val (.ref nb2_1), .unset, .unset, .unset] [(.ref nb2_1)])) rfl rfl (hb hby d3_5) _ ?_
    rw [len_of s5 z5]
    show Steps p.tables e below (T1.setTop (mkF m 6 #[.val (.int (1 : Int32)), .val (.ref nb2_1), .unset, .unset, .unset] [(.int (9 : Int32))])) _
    refine XS.istoreN X1.here hx rfl (hb hby d3_6) rfl (l' := #[.val (.int (1 : Int32)), .val (.ref nb2_1), .val (.int (9 : Int32)), .unset, .unset]) rfl ?_
    show Steps p.tables e below (T1.setTop (mkF m 7 #[.val (.int (1 : Int32)), .val (.ref nb2_1), .val (.int (9 : Int32)), .unset, .unset] [])) _
    refine XS.iconst X1.here hx rfl (hb hby d3_7) ?_
    show Steps p.tables e below (T1.setTop (mkF m 8 #[.val (.int (1 : Int32)), .val (.ref nb2_1), .val (.int (9 : Int32)), .unset, .unset] [(.int (0 : Int32))])) _
    refine XS.istoreN X1.here hx rfl (hb hby d3_8) rfl (l' := #[.val (.int (1 : Int32)), .val (.ref nb2_1), .val (.int (9 : Int32)), .val (.int (0 : Int32)), .unset]) rfl ?_
    show Steps p.tables e below (T1.setTop (mkF m 9 #[.val (.int (1 : Int32)), .val (.ref nb2_1), .val (.int (9 : Int32)), .val (.int (0 : Int32)), .unset] [])) _
    refine XS.iloadN X1.here hx rfl (hb hby d3_9) rfl ?_
    show Steps p.tables e below (T1.setTop (mkF m 10 #[.val (.int (1 : Int32)), .val (.ref nb2_1), .val (.int (9 : Int32)), .val (.int (0 : Int32)), .unset] [(.int (0 : Int32))])) _
    refine XS.iloadN X1.here hx rfl (hb hby d3_10) rfl ?_
    show Steps p.tables e below (T1.setTop (mkF m 11 #[.val (.int (1 : Int32)), .val (.ref nb2_1), .val (.int (9 : Int32)), .val (.int (0 : Int32)), .unset] [(.int (9 : Int32)), (.int (0 : Int32))])) _
    refine XS.icmpNo X1.here hx rfl (hb hby d3_11) rfl (tlt (by decide : (0 : Int32) < (9 : Int32))).2.1 ?_
    show Steps p.tables e below (T1.setTop (mkF m 14 #[.val (.int (1 : Int32)), .val (.ref nb2_1), .val (.int (9 : Int32)), .val (.int (0 : Int32)), .unset] [])) _
    refine XS.aloadN X1.here hx rfl (hb hby d3_14) rfl rfl ?_
    show Steps p.tables e below (T1.setTop (mkF m 15 #[.val (.int (1 : Int32)), .val (.ref nb2_1), .val (.int (9 : Int32)), .val (.int (0 : Int32)), .unset] [(.ref nb2_1)])) _
    refine XS.iloadN X1.here hx rfl (hb hby d3_15) rfl ?_
    show Steps p.tables e below (T1.setTop (mkF m 16 #[.val (.int (1 : Int32)), .val (.ref nb2_1), .val (.int (9 : Int32)), .val (.int (0 : Int32)), .unset] [(.int (0 : Int32)), (.ref nb2_1)])) _
    refine X1.aaload hx (j := (0 : Int32)) (v := (.ref w_STORED)) (by rw [e1]; exact r6.1) (State.isArrayOf_alike hZ.alike r6.2.1) rfl r6.2.2 hin6 hat6 (g := (mkF m 16 #[.val (.int (1 : Int32)), .val (.ref nb2_1), .val (.int (9 : Int32)), .val (.int (0 : Int32)), .unset] [(.int (0 : Int32)), (.ref nb2_1)])) rfl rfl (hb hby d3_16) _ ?_
    show Steps p.tables e below (T1.setTop (mkF m 17 #[.val (.int (1 : Int32)), .val (.ref nb2_1), .val (.int (9 : Int32)), .val (.int (0 : Int32)), .unset] [(.ref w_STORED)])) _
    refine XS.astore X1.here hx rfl (hb hby d3_17) rfl rfl (l' := #[.val (.int (1 : Int32)), .val (.ref nb2_1), .val (.int (9 : Int32)), .val (.int (0 : Int32)), .val (.ref w_STORED)]) rfl ?_
    show Steps p.tables e below (T1.setTop (mkF m 19 #[.val (.int (1 : Int32)), .val (.ref nb2_1), .val (.int (9 : Int32)), .val (.int (0 : Int32)), .val (.ref w_STORED)] [])) _
    refine XS.aload X1.here hx rfl (hb hby d3_19) rfl rfl ?_
    show Steps p.tables e below (T1.setTop (mkF m 21 #[.val (.int (1 : Int32)), .val (.ref nb2_1), .val (.int (9 : Int32)), .val (.int (0 : Int32)), .val (.ref w_STORED)] [(.ref w_STORED)])) _
    refine st9 _ ?_
    show Steps p.tables e below (T9.setTop (mkF m 24 #[.val (.int (1 : Int32)), .val (.ref nb2_1), .val (.int (9 : Int32)), .val (.int (0 : Int32)), .val (.ref w_STORED)] [(.int (1 : Int32))])) _
    refine XS.iloadN X9.here hx rfl (hb hby d3_24) rfl ?_
    show Steps p.tables e below (T9.setTop (mkF m 25 #[.val (.int (1 : Int32)), .val (.ref nb2_1), .val (.int (9 : Int32)), .val (.int (0 : Int32)), .val (.ref w_STORED)] [(.int (1 : Int32)), (.int (1 : Int32))])) _
    refine XS.icmpNo X9.here hx rfl (hb hby d3_25) rfl (teq (by decide : (1 : Int32) = (1 : Int32))).2 ?_
    show Steps p.tables e below (T9.setTop (mkF m 28 #[.val (.int (1 : Int32)), .val (.ref nb2_1), .val (.int (9 : Int32)), .val (.int (0 : Int32)), .val (.ref w_STORED)] [])) _
    refine XS.aload X9.here hx rfl (hb hby d3_28) rfl rfl ?_
    exact kt
  have f12 : Keep h0 h1 [] := K0.trans K1 all0
  obtain ⟨fs, hr, hrun, hended, hW, hsame⟩ := X9.leave (v := some (.ref w_STORED)) (fun h => by rw [Bd.returns] at h; cases h)
  refine ⟨_, _, pre10 _ (retOut X9 hx Bd.returns rfl (Or.inr (Or.inr (Or.inr (Or.inr ⟨rfl, rfl, rfl⟩)))) (hb hby d3_30) hr), hrun, hended, _, _, rfl, ?_, ⟨_, rfl⟩, hW, hsame.mono (by decide) (by decide)⟩
  show QOf0 Z w_STORED w_REMOVED w_WATCHED w_UNWATCHED w_UNWATCHED_ALL w_CLOCK_READING w_ANSWERED w_UNDELIVERED w_DELIVERED w__VALUES k_ h0 n0 _ T9.heap _
  rw [e9]
  exact ⟨rfl, N2, f12⟩
theorem d2_9 : decode method_2_code 9 = .ok (.iload_n 0, 1) := by decide +kernel
theorem d2_10 : decode method_2_code 10 = .ok (.iconst 2, 1) := by decide +kernel
theorem d2_11 : decode method_2_code 11 = .ok (.if_icmp .ne 7, 3) := by decide +kernel
theorem d2_14 : decode method_2_code 14 = .ok (.getstatic 13, 3) := by decide +kernel
theorem d2_17 : decode method_2_code 17 = .ok (.areturn, 1) := by decide +kernel
theorem efExp1 (m : MethodId)  : entryFrame m #[(.int (2 : Int32))] 1 = mkF m 0 #[.val (.int (2 : Int32))] [] := by first | (simp [entryFrame, mkF, argsToLocals, Value.category]; done) | rfl
def QExp1 (Z : State) (w_REMOVED : Addr) (h0 : Heap) (n0 : Nat) (v : Option Value) (h : Heap) (L : List Loc) : Prop := v = some (.ref w_REMOVED) ∧ Fr n0 L ∧ h = h0
set_option maxRecDepth 65536 in
set_option maxHeartbeats 40000000 in
theorem rmExp1 (l : Launch) (Z : State) (a0 : Array Value) (hw : ∀ d ∈ tables_1, d.before a0 Z = true) (ws : List Jvm.Cond) (w_REMOVED : Addr) (h0 : Heap) (n0 : Nat) (O0 : Old Z n0 h0) (P0 : Sta Z Z.heap "com/example/fawley/fawley/store/Change$Kind" "REMOVED" "Lcom/example/fawley/fawley/store/Change$Kind;" (.ref w_REMOVED)) :
    MetFree l (⟨"com/example/fawley/fawley/store/KindOfPinLaw", "expected", "(I)Lcom/example/fawley/fawley/store/Change$Kind;"⟩ : MethodName) (head1 (Jvm.Cond.code (⟨"com/example/fawley/fawley/store/KindOfPinLaw", "expected", "(I)Lcom/example/fawley/fawley/store/Change$Kind;"⟩ : MethodName) method_2_code 1 (some (.object "com/example/fawley/fawley/store/Change$Kind")) :: ws) ({ frames := 0, cells := 0, slots := 0, locals := 0 } : Room)) (fun a U => a = #[(.int (2 : Int32))] ∧ Z.Warmed39 U.vm ∧ U.heap = h0) (fun _ _ _ _ _ => True) (fun _ U o U' => ∃ v L, o = .returned v ∧ QExp1 Z w_REMOVED h0 n0 v U'.heap L ∧ FrameEnd U o U' L ({ frames := 0, cells := 0, slots := 0, locals := 0 } : Room).cells ({ frames := 0, cells := 0, slots := 0, locals := 0 } : Room).slots) := by
  refine MetFree.of_bodySF (plainFor_of_name pn_1) hisR ?_
  intro p e s m args below meth c s₁ Bd hml0 hP hK
  obtain ⟨rfl, hZ, hh⟩ := hP
  have hx := Bd.exec
  have hby := Bd.bytes
  have hml : c.maxLocals = 1 := hml0
  have hown : s.vm.findClass "com/example/fawley/fawley/store/KindOfPinLaw" = some m.cls := findClass_of_methodNamed Bd.named
  have hnm := (name_of_methodNamed Bd.named Bd.method).1
  have X0 : Stand p l e ({ frames := 0, cells := 0, slots := 0, locals := 0 } : Room) s m #[(.int (2 : Int32))] below meth c s₁ [] 0 0 := Stand.of_body Bd
  have e0 : s₁.heap = h0 := by rw [← hh, Bd.state]; rfl
  have N0 := Fr.nil n0
  have pre0 : ∀ t, Steps p.tables e below (s₁.setTop (mkF m 0 #[.val (.int (2 : Int32))] [])) t → Steps p.tables e below (s₁.setTop (entryFrame m #[(.int (2 : Int32))] 1)) t := fun t k => castTop (efExp1 m ) k
  have K0 : Keep h0 h0 [] := Keep.refl _ _
  obtain ⟨T1, X1, e1, st1⟩ := getS2 X0 hx hZ hown (host := "") (Or.inl (hw _ (List.mem_of_getElem? (i := 43) rfl))) Via.refl e0 (P0.ext O0.2) (g := (mkF m 14 #[.val (.int (2 : Int32))] [])) rfl (hb hby d2_14)
  have pre2 : ∀ t, Steps p.tables e below (T1.setTop (mkF m 17 #[.val (.int (2 : Int32))] [(.ref w_REMOVED)])) t → Steps p.tables e below (s₁.setTop (entryFrame m #[(.int (2 : Int32))] 1)) t := by
    intro t kt
    refine pre0 t ?_
    show Steps p.tables e below (s₁.setTop (mkF m 0 #[.val (.int (2 : Int32))] [])) _
    refine XS.iloadN X0.here hx rfl (hb hby d2_0) rfl ?_
    show Steps p.tables e below (s₁.setTop (mkF m 1 #[.val (.int (2 : Int32))] [(.int (2 : Int32))])) _
    refine XS.iconst X0.here hx rfl (hb hby d2_1) ?_
    show Steps p.tables e below (s₁.setTop (mkF m 2 #[.val (.int (2 : Int32))] [(.int (1 : Int32)), (.int (2 : Int32))])) _
    refine XS.icmpYes X0.here hx rfl (pc0 := 2) (pc' := 9) rfl (hb hby d2_2) rfl (feq (by decide : ¬ ((2 : Int32) = (1 : Int32)))).2 (by decide) (by decide) ?_
    show Steps p.tables e below (s₁.setTop (mkF m 9 #[.val (.int (2 : Int32))] [])) _
    refine XS.iloadN X0.here hx rfl (hb hby d2_9) rfl ?_
    show Steps p.tables e below (s₁.setTop (mkF m 10 #[.val (.int (2 : Int32))] [(.int (2 : Int32))])) _
    refine XS.iconst X0.here hx rfl (hb hby d2_10) ?_
    show Steps p.tables e below (s₁.setTop (mkF m 11 #[.val (.int (2 : Int32))] [(.int (2 : Int32)), (.int (2 : Int32))])) _
    refine XS.icmpNo X0.here hx rfl (hb hby d2_11) rfl (teq (by decide : (2 : Int32) = (2 : Int32))).2 ?_
    show Steps p.tables e below (s₁.setTop (mkF m 14 #[.val (.int (2 : Int32))] [])) _
    refine st1 _ ?_
    exact kt
  obtain ⟨fs, hr, hrun, hended, hW, hsame⟩ := X1.leave (v := some (.ref w_REMOVED)) (fun h => by rw [Bd.returns] at h; cases h)
  refine ⟨_, _, pre2 _ (retOut X1 hx Bd.returns rfl (Or.inr (Or.inr (Or.inr (Or.inr ⟨rfl, rfl, rfl⟩)))) (hb hby d2_17) hr), hrun, hended, _, _, rfl, ?_, ⟨_, rfl⟩, hW, hsame.mono (by decide) (by decide)⟩
  show QExp1 Z w_REMOVED h0 n0 _ T1.heap _
  rw [e1]
  exact ⟨rfl, N0, rfl⟩
theorem d3_31 : decode prog_29_method_5_code 31 = .ok (.iinc 3 1, 3) := by decide +kernel
theorem d3_34 : decode prog_29_method_5_code 34 = .ok (.goto (-25), 3) := by decide +kernel
theorem efOf1 (m : MethodId)  : entryFrame m #[(.int (2 : Int32))] 5 = mkF m 0 #[.val (.int (2 : Int32)), .unset, .unset, .unset, .unset] [] := by first | (simp [entryFrame, mkF, argsToLocals, Value.category]; done) | rfl
def QOf1 (Z : State) (w_STORED : Addr) (w_REMOVED : Addr) (w_WATCHED : Addr) (w_UNWATCHED : Addr) (w_UNWATCHED_ALL : Addr) (w_CLOCK_READING : Addr) (w_ANSWERED : Addr) (w_UNDELIVERED : Addr) (w_DELIVERED : Addr) (w__VALUES : Addr) (k_ : ClassId) (h0 : Heap) (n0 : Nat) (v : Option Value) (h : Heap) (L : List Loc) : Prop := v = some (.ref w_REMOVED) ∧ Fr n0 L ∧ Keep h0 h []
set_option maxRecDepth 65536 in
set_option maxHeartbeats 40000000 in
theorem rmOf1 (l : Launch) (Z : State) (a0 : Array Value) (hw : ∀ d ∈ tables_1, d.before a0 Z = true) (ws : List Jvm.Cond) (w_STORED : Addr) (w_REMOVED : Addr) (w_WATCHED : Addr) (w_UNWATCHED : Addr) (w_UNWATCHED_ALL : Addr) (w_CLOCK_READING : Addr) (w_ANSWERED : Addr) (w_UNDELIVERED : Addr) (w_DELIVERED : Addr) (w__VALUES : Addr) (k_ : ClassId) (h0 : Heap) (n0 : Nat) (O0 : Old Z n0 h0) (P0 : Sta Z Z.heap "com/example/fawley/fawley/store/Change$Kind" "STORED" "Lcom/example/fawley/fawley/store/Change$Kind;" (.ref w_STORED)) (P1 : Exa Z Z.heap w_STORED "com/example/fawley/fawley/store/Change$Kind") (P2 : Fld Z Z.heap w_STORED "com/example/fawley/fawley/store/Change$Kind" "code" "B" (.int (1 : Int32))) (P3 : Sta Z Z.heap "com/example/fawley/fawley/store/Change$Kind" "REMOVED" "Lcom/example/fawley/fawley/store/Change$Kind;" (.ref w_REMOVED)) (P4 : Exa Z Z.heap w_REMOVED "com/example/fawley/fawley/store/Change$Kind") (P5 : Fld Z Z.heap w_REMOVED "com/example/fawley/fawley/store/Change$Kind" "code" "B" (.int (2 : Int32))) (P6 : Sta Z Z.heap "com/example/fawley/fawley/store/Change$Kind" "WATCHED" "Lcom/example/fawley/fawley/store/Change$Kind;" (.ref w_WATCHED)) (P7 : Exa Z Z.heap w_WATCHED "com/example/fawley/fawley/store/Change$Kind") (P8 : Fld Z Z.heap w_WATCHED "com/example/fawley/fawley/store/Change$Kind" "code" "B" (.int (3 : Int32))) (P9 : Sta Z Z.heap "com/example/fawley/fawley/store/Change$Kind" "UNWATCHED" "Lcom/example/fawley/fawley/store/Change$Kind;" (.ref w_UNWATCHED)) (P10 : Exa Z Z.heap w_UNWATCHED "com/example/fawley/fawley/store/Change$Kind") (P11 : Fld Z Z.heap w_UNWATCHED "com/example/fawley/fawley/store/Change$Kind" "code" "B" (.int (4 : Int32))) (P12 : Sta Z Z.heap "com/example/fawley/fawley/store/Change$Kind" "UNWATCHED_ALL" "Lcom/example/fawley/fawley/store/Change$Kind;" (.ref w_UNWATCHED_ALL)) (P13 : Exa Z Z.heap w_UNWATCHED_ALL "com/example/fawley/fawley/store/Change$Kind") (P14 : Fld Z Z.heap w_UNWATCHED_ALL "com/example/fawley/fawley/store/Change$Kind" "code" "B" (.int (5 : Int32))) (P15 : Sta Z Z.heap "com/example/fawley/fawley/store/Change$Kind" "CLOCK_READING" "Lcom/example/fawley/fawley/store/Change$Kind;" (.ref w_CLOCK_READING)) (P16 : Exa Z Z.heap w_CLOCK_READING "com/example/fawley/fawley/store/Change$Kind") (P17 : Fld Z Z.heap w_CLOCK_READING "com/example/fawley/fawley/store/Change$Kind" "code" "B" (.int (6 : Int32))) (P18 : Sta Z Z.heap "com/example/fawley/fawley/store/Change$Kind" "ANSWERED" "Lcom/example/fawley/fawley/store/Change$Kind;" (.ref w_ANSWERED)) (P19 : Exa Z Z.heap w_ANSWERED "com/example/fawley/fawley/store/Change$Kind") (P20 : Fld Z Z.heap w_ANSWERED "com/example/fawley/fawley/store/Change$Kind" "code" "B" (.int (7 : Int32))) (P21 : Sta Z Z.heap "com/example/fawley/fawley/store/Change$Kind" "UNDELIVERED" "Lcom/example/fawley/fawley/store/Change$Kind;" (.ref w_UNDELIVERED)) (P22 : Exa Z Z.heap w_UNDELIVERED "com/example/fawley/fawley/store/Change$Kind") (P23 : Fld Z Z.heap w_UNDELIVERED "com/example/fawley/fawley/store/Change$Kind" "code" "B" (.int (8 : Int32))) (P24 : Sta Z Z.heap "com/example/fawley/fawley/store/Change$Kind" "DELIVERED" "Lcom/example/fawley/fawley/store/Change$Kind;" (.ref w_DELIVERED)) (P25 : Exa Z Z.heap w_DELIVERED "com/example/fawley/fawley/store/Change$Kind") (P26 : Fld Z Z.heap w_DELIVERED "com/example/fawley/fawley/store/Change$Kind" "code" "B" (.int (9 : Int32))) (P27 : Sta Z Z.heap "com/example/fawley/fawley/store/Change$Kind" "$VALUES" "[Lcom/example/fawley/fawley/store/Change$Kind;" (.ref w__VALUES)) (P28 : Exa Z Z.heap w__VALUES "[Lcom/example/fawley/fawley/store/Change$Kind;") (P29 : Arv Z Z.heap w__VALUES k_ (.object "com/example/fawley/fawley/store/Change$Kind") (9 : Int32) [(.ref w_STORED), (.ref w_REMOVED), (.ref w_WATCHED), (.ref w_UNWATCHED), (.ref w_UNWATCHED_ALL), (.ref w_CLOCK_READING), (.ref w_ANSWERED), (.ref w_UNDELIVERED), (.ref w_DELIVERED)] .null) :
    MetFree l (⟨"com/example/fawley/fawley/store/Change$Kind", "of", "(B)Lcom/example/fawley/fawley/store/Change$Kind;"⟩ : MethodName) (head1 (Jvm.Cond.code (⟨"com/example/fawley/fawley/store/Change$Kind", "of", "(B)Lcom/example/fawley/fawley/store/Change$Kind;"⟩ : MethodName) prog_29_method_5_code 5 (some (.object "com/example/fawley/fawley/store/Change$Kind")) :: ws) ({ frames := 2, cells := 1, slots := 9, locals := 25 } : Room)) (fun a U => a = #[(.int (2 : Int32))] ∧ Z.Warmed39 U.vm ∧ U.heap = h0) (fun _ _ _ _ _ => True) (fun _ U o U' => ∃ v L, o = .returned v ∧ QOf1 Z w_STORED w_REMOVED w_WATCHED w_UNWATCHED w_UNWATCHED_ALL w_CLOCK_READING w_ANSWERED w_UNDELIVERED w_DELIVERED w__VALUES k_ h0 n0 v U'.heap L ∧ FrameEnd U o U' L ({ frames := 2, cells := 1, slots := 9, locals := 25 } : Room).cells ({ frames := 2, cells := 1, slots := 9, locals := 25 } : Room).slots) := by
  refine MetFree.of_bodySF (plainFor_of_name pn_0) hisR ?_
  intro p e s m args below meth c s₁ Bd hml0 hP hK
  obtain ⟨rfl, hZ, hh⟩ := hP
  have hx := Bd.exec
  have hby := Bd.bytes
  have hml : c.maxLocals = 5 := hml0
  have hown : s.vm.findClass "com/example/fawley/fawley/store/Change$Kind" = some m.cls := findClass_of_methodNamed Bd.named
  have hnm := (name_of_methodNamed Bd.named Bd.method).1
  have X0 : Stand p l e ({ frames := 2, cells := 1, slots := 9, locals := 25 } : Room) s m #[(.int (2 : Int32))] below meth c s₁ [] 0 0 := Stand.of_body Bd
  have e0 : s₁.heap = h0 := by rw [← hh, Bd.state]; rfl
  have N0 := Fr.nil n0
  have pre0 : ∀ t, Steps p.tables e below (s₁.setTop (mkF m 0 #[.val (.int (2 : Int32)), .unset, .unset, .unset, .unset] [])) t → Steps p.tables e below (s₁.setTop (entryFrame m #[(.int (2 : Int32))] 5)) t := fun t k => castTop (efOf1 m ) k
  have K0 : Keep h0 h0 [] := Keep.refl _ _
  obtain ⟨_, _, ⟨T1, L1, k1, n1⟩, -, X1, ⟨Lc1, hQ1, l1, y1, z1⟩, st1⟩ := Jvm.LawKit.callS X0 hx (y := (⟨"com/example/fawley/fawley/store/Change$Kind", "values", "()[Lcom/example/fawley/fawley/store/Change$Kind;"⟩ : MethodName)) hown (mvT hZ (hw _ (List.mem_of_getElem? (i := 11) rfl))) (mvT hZ (hw _ (List.mem_of_getElem? (i := 12) rfl))) (mvT hZ (hw _ (List.mem_of_getElem? (i := 6) rfl))) (mvT hZ (hw _ (List.mem_of_getElem? (i := 13) rfl))) (by decide) (backOf (W := 0) (rmVal l Z a0 hw [] w_STORED w_REMOVED w_WATCHED w_UNWATCHED w_UNWATCHED_ALL w_CLOCK_READING w_ANSWERED w_UNDELIVERED w_DELIVERED w__VALUES k_ h0 n0 O0 P0 P1 P2 P3 P4 P5 P6 P7 P8 P9 P10 P11 P12 P13 P14 P15 P16 P17 P18 P19 P20 P21 P22 P23 P24 P25 P26 P27 P28 P29) hZ (hw _ (List.mem_of_getElem? (i := 13) rfl)) (hw _ (List.mem_of_getElem? (i := 6) rfl)) (by decide) (by decide)) (g := (mkF m 0 #[.val (.int (2 : Int32)), .unset, .unset, .unset, .unset] [])) rfl (by rw [hml]; rfl) (argsL := []) (rest := []) (lenOf pd_0 rfl) rfl (by show 2 * 0 + _ ≤ _; exact Nat.le_of_eq rfl) (hb hby d3_0) (fun _ _ => ⟨rfl, e0, (by decide : 0 + 1 ≤ _), (by decide : 0 + 9 ≤ _)⟩)
  dsimp only [Pt.U, Pt.locs, Pt.cells, Pt.slots] at X1 l1 y1 z1 st1 hQ1
  subst l1 y1 z1
  obtain ⟨h1, e1⟩ : ∃ z, T1.heap = z := ⟨_, rfl⟩
  rw [e1] at hQ1
  obtain ⟨nb2_1, rfl, N1q, K1, sznb2_1, g1_0, g1_1⟩ := hQ1
  have N2 := Fr.app N0 N1q
  have ge3 : n0 ≤ nb2_1 := Nat.le_trans (Nat.le_trans (Nat.le_of_eq O0.1.symm) O0.2.1) sznb2_1
  have sz4 : h0.size ≤ nb2_1 := Nat.le_trans K0.1 sznb2_1
  obtain ⟨c5, r5, q5, s5, z5, y5, G5⟩ := id g1_0
  obtain ⟨c6, r6, q6, s6, z6, y6, G6⟩ := id g1_0
  have hin6 : ¬ ((0 : Int32) < 0 ∨ c6.slots.size ≤ ((0 : Int32)).toNatClampNeg) := inb_of s6 ⟨by decide, by decide⟩
  have hat6 : c6.slots[((0 : Int32)).toNatClampNeg]? = some (.ref w_STORED) := Has.at y6 hin6 rfl
  have f7 : Old Z n0 h1 := O0.keep K1 all0
  have f8 : Fld Z h1 w_STORED "com/example/fawley/fawley/store/Change$Kind" "code" "B" (.int (1 : Int32)) := P2.ext f7.2
  obtain ⟨T9, X9, e9, st9⟩ := getF X1 hx hZ hown (host := "") (Or.inl (hw _ (List.mem_of_getElem? (i := 34) rfl))) Via.refl e1 f8 (g := (mkF m 21 #[.val (.int (2 : Int32)), .val (.ref nb2_1), .val (.int (9 : Int32)), .val (.int (0 : Int32)), .val (.ref w_STORED)] [(.ref w_STORED)])) rfl rfl (hb hby d3_21)
  obtain ⟨c10, r10, q10, s10, z10, y10, G10⟩ := id g1_0
  have hin10 : ¬ ((1 : Int32) < 0 ∨ c10.slots.size ≤ ((1 : Int32)).toNatClampNeg) := inb_of s10 ⟨by decide, by decide⟩
  have hat10 : c10.slots[((1 : Int32)).toNatClampNeg]? = some (.ref w_REMOVED) := Has.at y10 hin10 rfl
  have f11 : Fld Z h1 w_REMOVED "com/example/fawley/fawley/store/Change$Kind" "code" "B" (.int (2 : Int32)) := P5.ext f7.2
  obtain ⟨T12, X12, e12, st12⟩ := getF X9 hx hZ hown (host := "") (Or.inl (hw _ (List.mem_of_getElem? (i := 34) rfl))) Via.refl e9 f11 (g := (mkF m 21 #[.val (.int (2 : Int32)), .val (.ref nb2_1), .val (.int (9 : Int32)), .val (.int (1 : Int32)), .val (.ref w_REMOVED)] [(.ref w_REMOVED)])) rfl rfl (hb hby d3_21)
  have pre13 : ∀ t, Steps p.tables e below (T12.setTop (mkF m 30 #[.val (.int (2 : Int32)), .val (.ref nb2_1), .val (.int (9 : Int32)), .val (.int (1 : Int32)), .val (.ref w_REMOVED)] [(.ref w_REMOVED)])) t → Steps p.tables e below (s₁.setTop (entryFrame m #[(.int (2 : Int32))] 5)) t := by
    intro t kt
    refine pre0 t ?_
    show Steps p.tables e below (s₁.setTop (mkF m 0 #[.val (.int (2 : Int32)), .unset, .unset, .unset, .unset] [])) _
    refine st1 _ ?_
    show Steps p.tables e below (T1.setTop (mkF m 3 #[.val (.int (2 : Int32)), .unset, .unset, .unset, .unset] [(.ref nb2_1)])) _
    refine XS.astoreN X1.here hx rfl (hb hby d3_3) rfl rfl (l' := #[.val (.int (2 : Int32)), .val (.ref nb2_1), .unset, .unset, .unset]) rfl ?_
    show Steps p.tables e below (T1.setTop (mkF m 4 #[.val (.int (2 : Int32)), .val (.ref nb2_1), .unset, .unset, .unset] [])) _
    refine XS.aloadN X1.here hx rfl (hb hby d3_4) rfl rfl ?_
    show Steps p.tables e below (T1.setTop (mkF m 5 #[.val (.int (2 : Int32)), .val (.ref nb2_1), .unset, .unset, .unset] [(.ref nb2_1)])) _
    refine X1.arraylength hx (by rw [e1]; exact r5.1) (State.isArrayOf_alike hZ.alike r5.2.1) (g := (mkF m 5 #[.val (.int (2 : Int32)), .val (.ref nb2_1), .unset, .unset, .unset] [(.ref nb2_1)])) rfl rfl (hb hby d3_5) _ ?_
    rw [len_of s5 z5]
    show Steps p.tables e below (T1.setTop (mkF m 6 #[.val (.int (2 : Int32)), .val (.ref nb2_1), .unset, .unset, .unset] [(.int (9 : Int32))])) _
    refine XS.istoreN X1.here hx rfl (hb hby d3_6) rfl (l' := #[.val (.int (2 : Int32)), .val (.ref nb2_1), .val (.int (9 : Int32)), .unset, .unset]) rfl ?_
    show Steps p.tables e below (T1.setTop (mkF m 7 #[.val (.int (2 : Int32)), .val (.ref nb2_1), .val (.int (9 : Int32)), .unset, .unset] [])) _
    refine XS.iconst X1.here hx rfl (hb hby d3_7) ?_
    show Steps p.tables e below (T1.setTop (mkF m 8 #[.val (.int (2 : Int32)), .val (.ref nb2_1), .val (.int (9 : Int32)), .unset, .unset] [(.int (0 : Int32))])) _
    refine XS.istoreN X1.here hx rfl (hb hby d3_8) rfl (l' := #[.val (.int (2 : Int32)), .val (.ref nb2_1), .val (.int (9 : Int32)), .val (.int (0 : Int32)), .unset]) rfl ?_
    show Steps p.tables e below (T1.setTop (mkF m 9 #[.val (.int (2 : Int32)), .val (.ref nb2_1), .val (.int (9 : Int32)), .val (.int (0 : Int32)), .unset] [])) _
    refine XS.iloadN X1.here hx rfl (hb hby d3_9) rfl ?_
    show Steps p.tables e below (T1.setTop (mkF m 10 #[.val (.int (2 : Int32)), .val (.ref nb2_1), .val (.int (9 : Int32)), .val (.int (0 : Int32)), .unset] [(.int (0 : Int32))])) _
    refine XS.iloadN X1.here hx rfl (hb hby d3_10) rfl ?_
    show Steps p.tables e below (T1.setTop (mkF m 11 #[.val (.int (2 : Int32)), .val (.ref nb2_1), .val (.int (9 : Int32)), .val (.int (0 : Int32)), .unset] [(.int (9 : Int32)), (.int (0 : Int32))])) _
    refine XS.icmpNo X1.here hx rfl (hb hby d3_11) rfl (tlt (by decide : (0 : Int32) < (9 : Int32))).2.1 ?_
    show Steps p.tables e below (T1.setTop (mkF m 14 #[.val (.int (2 : Int32)), .val (.ref nb2_1), .val (.int (9 : Int32)), .val (.int (0 : Int32)), .unset] [])) _
    refine XS.aloadN X1.here hx rfl (hb hby d3_14) rfl rfl ?_
    show Steps p.tables e below (T1.setTop (mkF m 15 #[.val (.int (2 : Int32)), .val (.ref nb2_1), .val (.int (9 : Int32)), .val (.int (0 : Int32)), .unset] [(.ref nb2_1)])) _
    refine XS.iloadN X1.here hx rfl (hb hby d3_15) rfl ?_
    show Steps p.tables e below (T1.setTop (mkF m 16 #[.val (.int (2 : Int32)), .val (.ref nb2_1), .val (.int (9 : Int32)), .val (.int (0 : Int32)), .unset] [(.int (0 : Int32)), (.ref nb2_1)])) _
    refine X1.aaload hx (j := (0 : Int32)) (v := (.ref w_STORED)) (by rw [e1]; exact r6.1) (State.isArrayOf_alike hZ.alike r6.2.1) rfl r6.2.2 hin6 hat6 (g := (mkF m 16 #[.val (.int (2 : Int32)), .val (.ref nb2_1), .val (.int (9 : Int32)), .val (.int (0 : Int32)), .unset] [(.int (0 : Int32)), (.ref nb2_1)])) rfl rfl (hb hby d3_16) _ ?_
    show Steps p.tables e below (T1.setTop (mkF m 17 #[.val (.int (2 : Int32)), .val (.ref nb2_1), .val (.int (9 : Int32)), .val (.int (0 : Int32)), .unset] [(.ref w_STORED)])) _
    refine XS.astore X1.here hx rfl (hb hby d3_17) rfl rfl (l' := #[.val (.int (2 : Int32)), .val (.ref nb2_1), .val (.int (9 : Int32)), .val (.int (0 : Int32)), .val (.ref w_STORED)]) rfl ?_
    show Steps p.tables e below (T1.setTop (mkF m 19 #[.val (.int (2 : Int32)), .val (.ref nb2_1), .val (.int (9 : Int32)), .val (.int (0 : Int32)), .val (.ref w_STORED)] [])) _
    refine XS.aload X1.here hx rfl (hb hby d3_19) rfl rfl ?_
    show Steps p.tables e below (T1.setTop (mkF m 21 #[.val (.int (2 : Int32)), .val (.ref nb2_1), .val (.int (9 : Int32)), .val (.int (0 : Int32)), .val (.ref w_STORED)] [(.ref w_STORED)])) _
    refine st9 _ ?_
    show Steps p.tables e below (T9.setTop (mkF m 24 #[.val (.int (2 : Int32)), .val (.ref nb2_1), .val (.int (9 : Int32)), .val (.int (0 : Int32)), .val (.ref w_STORED)] [(.int (1 : Int32))])) _
    refine XS.iloadN X9.here hx rfl (hb hby d3_24) rfl ?_
    show Steps p.tables e below (T9.setTop (mkF m 25 #[.val (.int (2 : Int32)), .val (.ref nb2_1), .val (.int (9 : Int32)), .val (.int (0 : Int32)), .val (.ref w_STORED)] [(.int (2 : Int32)), (.int (1 : Int32))])) _
    refine XS.icmpYes X9.here hx rfl (pc0 := 25) (pc' := 31) rfl (hb hby d3_25) rfl (feq (by decide : ¬ ((1 : Int32) = (2 : Int32)))).2 (by decide) (by decide) ?_
    show Steps p.tables e below (T9.setTop (mkF m 31 #[.val (.int (2 : Int32)), .val (.ref nb2_1), .val (.int (9 : Int32)), .val (.int (0 : Int32)), .val (.ref w_STORED)] [])) _
    refine XS.iinc X9.here hx rfl (hb hby d3_31) rfl (l' := #[.val (.int (2 : Int32)), .val (.ref nb2_1), .val (.int (9 : Int32)), .val (.int (1 : Int32)), .val (.ref w_STORED)]) rfl ?_
    show Steps p.tables e below (T9.setTop (mkF m 34 #[.val (.int (2 : Int32)), .val (.ref nb2_1), .val (.int (9 : Int32)), .val (.int (1 : Int32)), .val (.ref w_STORED)] [])) _
    refine XS.goto X9.here hx rfl (pc0 := 34) (pc' := 9) rfl (hb hby d3_34) (by decide) (by decide) ?_
    show Steps p.tables e below (T9.setTop (mkF m 9 #[.val (.int (2 : Int32)), .val (.ref nb2_1), .val (.int (9 : Int32)), .val (.int (1 : Int32)), .val (.ref w_STORED)] [])) _
    refine XS.iloadN X9.here hx rfl (hb hby d3_9) rfl ?_
    show Steps p.tables e below (T9.setTop (mkF m 10 #[.val (.int (2 : Int32)), .val (.ref nb2_1), .val (.int (9 : Int32)), .val (.int (1 : Int32)), .val (.ref w_STORED)] [(.int (1 : Int32))])) _
    refine XS.iloadN X9.here hx rfl (hb hby d3_10) rfl ?_
    show Steps p.tables e below (T9.setTop (mkF m 11 #[.val (.int (2 : Int32)), .val (.ref nb2_1), .val (.int (9 : Int32)), .val (.int (1 : Int32)), .val (.ref w_STORED)] [(.int (9 : Int32)), (.int (1 : Int32))])) _
    refine XS.icmpNo X9.here hx rfl (hb hby d3_11) rfl (tlt (by decide : (1 : Int32) < (9 : Int32))).2.1 ?_
    show Steps p.tables e below (T9.setTop (mkF m 14 #[.val (.int (2 : Int32)), .val (.ref nb2_1), .val (.int (9 : Int32)), .val (.int (1 : Int32)), .val (.ref w_STORED)] [])) _
    refine XS.aloadN X9.here hx rfl (hb hby d3_14) rfl rfl ?_
    show Steps p.tables e below (T9.setTop (mkF m 15 #[.val (.int (2 : Int32)), .val (.ref nb2_1), .val (.int (9 : Int32)), .val (.int (1 : Int32)), .val (.ref w_STORED)] [(.ref nb2_1)])) _
    refine XS.iloadN X9.here hx rfl (hb hby d3_15) rfl ?_
    show Steps p.tables e below (T9.setTop (mkF m 16 #[.val (.int (2 : Int32)), .val (.ref nb2_1), .val (.int (9 : Int32)), .val (.int (1 : Int32)), .val (.ref w_STORED)] [(.int (1 : Int32)), (.ref nb2_1)])) _
    refine X9.aaload hx (j := (1 : Int32)) (v := (.ref w_REMOVED)) (by rw [e9]; exact r10.1) (State.isArrayOf_alike hZ.alike r10.2.1) rfl r10.2.2 hin10 hat10 (g := (mkF m 16 #[.val (.int (2 : Int32)), .val (.ref nb2_1), .val (.int (9 : Int32)), .val (.int (1 : Int32)), .val (.ref w_STORED)] [(.int (1 : Int32)), (.ref nb2_1)])) rfl rfl (hb hby d3_16) _ ?_
    show Steps p.tables e below (T9.setTop (mkF m 17 #[.val (.int (2 : Int32)), .val (.ref nb2_1), .val (.int (9 : Int32)), .val (.int (1 : Int32)), .val (.ref w_STORED)] [(.ref w_REMOVED)])) _
    refine XS.astore X9.here hx rfl (hb hby d3_17) rfl rfl (l' := #[.val (.int (2 : Int32)), .val (.ref nb2_1), .val (.int (9 : Int32)), .val (.int (1 : Int32)), .val (.ref w_REMOVED)]) rfl ?_
    show Steps p.tables e below (T9.setTop (mkF m 19 #[.val (.int (2 : Int32)), .val (.ref nb2_1), .val (.int (9 : Int32)), .val (.int (1 : Int32)), .val (.ref w_REMOVED)] [])) _
    refine XS.aload X9.here hx rfl (hb hby d3_19) rfl rfl ?_
    show Steps p.tables e below (T9.setTop (mkF m 21 #[.val (.int (2 : Int32)), .val (.ref nb2_1), .val (.int (9 : Int32)), .val (.int (1 : Int32)), .val (.ref w_REMOVED)] [(.ref w_REMOVED)])) _
    refine st12 _ ?_
    show Steps p.tables e below (T12.setTop (mkF m 24 #[.val (.int (2 : Int32)), .val (.ref nb2_1), .val (.int (9 : Int32)), .val (.int (1 : Int32)), .val (.ref w_REMOVED)] [(.int (2 : Int32))])) _
    refine XS.iloadN X12.here hx rfl (hb hby d3_24) rfl ?_
    show Steps p.tables e below (T12.setTop (mkF m 25 #[.val (.int (2 : Int32)), .val (.ref nb2_1), .val (.int (9 : Int32)), .val (.int (1 : Int32)), .val (.ref w_REMOVED)] [(.int (2 : Int32)), (.int (2 : Int32))])) _
    refine XS.icmpNo X12.here hx rfl (hb hby d3_25) rfl (teq (by decide : (2 : Int32) = (2 : Int32))).2 ?_
    show Steps p.tables e below (T12.setTop (mkF m 28 #[.val (.int (2 : Int32)), .val (.ref nb2_1), .val (.int (9 : Int32)), .val (.int (1 : Int32)), .val (.ref w_REMOVED)] [])) _
    refine XS.aload X12.here hx rfl (hb hby d3_28) rfl rfl ?_
    exact kt
  have f15 : Keep h0 h1 [] := K0.trans K1 all0
  obtain ⟨fs, hr, hrun, hended, hW, hsame⟩ := X12.leave (v := some (.ref w_REMOVED)) (fun h => by rw [Bd.returns] at h; cases h)
  refine ⟨_, _, pre13 _ (retOut X12 hx Bd.returns rfl (Or.inr (Or.inr (Or.inr (Or.inr ⟨rfl, rfl, rfl⟩)))) (hb hby d3_30) hr), hrun, hended, _, _, rfl, ?_, ⟨_, rfl⟩, hW, hsame.mono (by decide) (by decide)⟩
  show QOf1 Z w_STORED w_REMOVED w_WATCHED w_UNWATCHED w_UNWATCHED_ALL w_CLOCK_READING w_ANSWERED w_UNDELIVERED w_DELIVERED w__VALUES k_ h0 n0 _ T12.heap _
  rw [e12]
  exact ⟨rfl, N2, f15⟩
theorem d2_18 : decode method_2_code 18 = .ok (.iload_n 0, 1) := by decide +kernel
theorem d2_19 : decode method_2_code 19 = .ok (.iconst 3, 1) := by decide +kernel
theorem d2_20 : decode method_2_code 20 = .ok (.if_icmp .ne 7, 3) := by decide +kernel
theorem d2_23 : decode method_2_code 23 = .ok (.getstatic 16, 3) := by decide +kernel
theorem d2_26 : decode method_2_code 26 = .ok (.areturn, 1) := by decide +kernel
theorem efExp2 (m : MethodId)  : entryFrame m #[(.int (3 : Int32))] 1 = mkF m 0 #[.val (.int (3 : Int32))] [] := by first | (simp [entryFrame, mkF, argsToLocals, Value.category]; done) | rfl
def QExp2 (Z : State) (w_WATCHED : Addr) (h0 : Heap) (n0 : Nat) (v : Option Value) (h : Heap) (L : List Loc) : Prop := v = some (.ref w_WATCHED) ∧ Fr n0 L ∧ h = h0
set_option maxRecDepth 65536 in
set_option maxHeartbeats 40000000 in
theorem rmExp2 (l : Launch) (Z : State) (a0 : Array Value) (hw : ∀ d ∈ tables_1, d.before a0 Z = true) (ws : List Jvm.Cond) (w_WATCHED : Addr) (h0 : Heap) (n0 : Nat) (O0 : Old Z n0 h0) (P0 : Sta Z Z.heap "com/example/fawley/fawley/store/Change$Kind" "WATCHED" "Lcom/example/fawley/fawley/store/Change$Kind;" (.ref w_WATCHED)) :
    MetFree l (⟨"com/example/fawley/fawley/store/KindOfPinLaw", "expected", "(I)Lcom/example/fawley/fawley/store/Change$Kind;"⟩ : MethodName) (head1 (Jvm.Cond.code (⟨"com/example/fawley/fawley/store/KindOfPinLaw", "expected", "(I)Lcom/example/fawley/fawley/store/Change$Kind;"⟩ : MethodName) method_2_code 1 (some (.object "com/example/fawley/fawley/store/Change$Kind")) :: ws) ({ frames := 0, cells := 0, slots := 0, locals := 0 } : Room)) (fun a U => a = #[(.int (3 : Int32))] ∧ Z.Warmed39 U.vm ∧ U.heap = h0) (fun _ _ _ _ _ => True) (fun _ U o U' => ∃ v L, o = .returned v ∧ QExp2 Z w_WATCHED h0 n0 v U'.heap L ∧ FrameEnd U o U' L ({ frames := 0, cells := 0, slots := 0, locals := 0 } : Room).cells ({ frames := 0, cells := 0, slots := 0, locals := 0 } : Room).slots) := by
  refine MetFree.of_bodySF (plainFor_of_name pn_1) hisR ?_
  intro p e s m args below meth c s₁ Bd hml0 hP hK
  obtain ⟨rfl, hZ, hh⟩ := hP
  have hx := Bd.exec
  have hby := Bd.bytes
  have hml : c.maxLocals = 1 := hml0
  have hown : s.vm.findClass "com/example/fawley/fawley/store/KindOfPinLaw" = some m.cls := findClass_of_methodNamed Bd.named
  have hnm := (name_of_methodNamed Bd.named Bd.method).1
  have X0 : Stand p l e ({ frames := 0, cells := 0, slots := 0, locals := 0 } : Room) s m #[(.int (3 : Int32))] below meth c s₁ [] 0 0 := Stand.of_body Bd
  have e0 : s₁.heap = h0 := by rw [← hh, Bd.state]; rfl
  have N0 := Fr.nil n0
  have pre0 : ∀ t, Steps p.tables e below (s₁.setTop (mkF m 0 #[.val (.int (3 : Int32))] [])) t → Steps p.tables e below (s₁.setTop (entryFrame m #[(.int (3 : Int32))] 1)) t := fun t k => castTop (efExp2 m ) k
  have K0 : Keep h0 h0 [] := Keep.refl _ _
  obtain ⟨T1, X1, e1, st1⟩ := getS2 X0 hx hZ hown (host := "") (Or.inl (hw _ (List.mem_of_getElem? (i := 42) rfl))) Via.refl e0 (P0.ext O0.2) (g := (mkF m 23 #[.val (.int (3 : Int32))] [])) rfl (hb hby d2_23)
  have pre2 : ∀ t, Steps p.tables e below (T1.setTop (mkF m 26 #[.val (.int (3 : Int32))] [(.ref w_WATCHED)])) t → Steps p.tables e below (s₁.setTop (entryFrame m #[(.int (3 : Int32))] 1)) t := by
    intro t kt
    refine pre0 t ?_
    show Steps p.tables e below (s₁.setTop (mkF m 0 #[.val (.int (3 : Int32))] [])) _
    refine XS.iloadN X0.here hx rfl (hb hby d2_0) rfl ?_
    show Steps p.tables e below (s₁.setTop (mkF m 1 #[.val (.int (3 : Int32))] [(.int (3 : Int32))])) _
    refine XS.iconst X0.here hx rfl (hb hby d2_1) ?_
    show Steps p.tables e below (s₁.setTop (mkF m 2 #[.val (.int (3 : Int32))] [(.int (1 : Int32)), (.int (3 : Int32))])) _
    refine XS.icmpYes X0.here hx rfl (pc0 := 2) (pc' := 9) rfl (hb hby d2_2) rfl (feq (by decide : ¬ ((3 : Int32) = (1 : Int32)))).2 (by decide) (by decide) ?_
    show Steps p.tables e below (s₁.setTop (mkF m 9 #[.val (.int (3 : Int32))] [])) _
    refine XS.iloadN X0.here hx rfl (hb hby d2_9) rfl ?_
    show Steps p.tables e below (s₁.setTop (mkF m 10 #[.val (.int (3 : Int32))] [(.int (3 : Int32))])) _
    refine XS.iconst X0.here hx rfl (hb hby d2_10) ?_
    show Steps p.tables e below (s₁.setTop (mkF m 11 #[.val (.int (3 : Int32))] [(.int (2 : Int32)), (.int (3 : Int32))])) _
    refine XS.icmpYes X0.here hx rfl (pc0 := 11) (pc' := 18) rfl (hb hby d2_11) rfl (feq (by decide : ¬ ((3 : Int32) = (2 : Int32)))).2 (by decide) (by decide) ?_
    show Steps p.tables e below (s₁.setTop (mkF m 18 #[.val (.int (3 : Int32))] [])) _
    refine XS.iloadN X0.here hx rfl (hb hby d2_18) rfl ?_
    show Steps p.tables e below (s₁.setTop (mkF m 19 #[.val (.int (3 : Int32))] [(.int (3 : Int32))])) _
    refine XS.iconst X0.here hx rfl (hb hby d2_19) ?_
    show Steps p.tables e below (s₁.setTop (mkF m 20 #[.val (.int (3 : Int32))] [(.int (3 : Int32)), (.int (3 : Int32))])) _
    refine XS.icmpNo X0.here hx rfl (hb hby d2_20) rfl (teq (by decide : (3 : Int32) = (3 : Int32))).2 ?_
    show Steps p.tables e below (s₁.setTop (mkF m 23 #[.val (.int (3 : Int32))] [])) _
    refine st1 _ ?_
    exact kt
  obtain ⟨fs, hr, hrun, hended, hW, hsame⟩ := X1.leave (v := some (.ref w_WATCHED)) (fun h => by rw [Bd.returns] at h; cases h)
  refine ⟨_, _, pre2 _ (retOut X1 hx Bd.returns rfl (Or.inr (Or.inr (Or.inr (Or.inr ⟨rfl, rfl, rfl⟩)))) (hb hby d2_26) hr), hrun, hended, _, _, rfl, ?_, ⟨_, rfl⟩, hW, hsame.mono (by decide) (by decide)⟩
  show QExp2 Z w_WATCHED h0 n0 _ T1.heap _
  rw [e1]
  exact ⟨rfl, N0, rfl⟩
theorem efOf2 (m : MethodId)  : entryFrame m #[(.int (3 : Int32))] 5 = mkF m 0 #[.val (.int (3 : Int32)), .unset, .unset, .unset, .unset] [] := by first | (simp [entryFrame, mkF, argsToLocals, Value.category]; done) | rfl
def QOf2 (Z : State) (w_STORED : Addr) (w_REMOVED : Addr) (w_WATCHED : Addr) (w_UNWATCHED : Addr) (w_UNWATCHED_ALL : Addr) (w_CLOCK_READING : Addr) (w_ANSWERED : Addr) (w_UNDELIVERED : Addr) (w_DELIVERED : Addr) (w__VALUES : Addr) (k_ : ClassId) (h0 : Heap) (n0 : Nat) (v : Option Value) (h : Heap) (L : List Loc) : Prop := v = some (.ref w_WATCHED) ∧ Fr n0 L ∧ Keep h0 h []
set_option maxRecDepth 65536 in
set_option maxHeartbeats 40000000 in
theorem rmOf2 (l : Launch) (Z : State) (a0 : Array Value) (hw : ∀ d ∈ tables_1, d.before a0 Z = true) (ws : List Jvm.Cond) (w_STORED : Addr) (w_REMOVED : Addr) (w_WATCHED : Addr) (w_UNWATCHED : Addr) (w_UNWATCHED_ALL : Addr) (w_CLOCK_READING : Addr) (w_ANSWERED : Addr) (w_UNDELIVERED : Addr) (w_DELIVERED : Addr) (w__VALUES : Addr) (k_ : ClassId) (h0 : Heap) (n0 : Nat) (O0 : Old Z n0 h0) (P0 : Sta Z Z.heap "com/example/fawley/fawley/store/Change$Kind" "STORED" "Lcom/example/fawley/fawley/store/Change$Kind;" (.ref w_STORED)) (P1 : Exa Z Z.heap w_STORED "com/example/fawley/fawley/store/Change$Kind") (P2 : Fld Z Z.heap w_STORED "com/example/fawley/fawley/store/Change$Kind" "code" "B" (.int (1 : Int32))) (P3 : Sta Z Z.heap "com/example/fawley/fawley/store/Change$Kind" "REMOVED" "Lcom/example/fawley/fawley/store/Change$Kind;" (.ref w_REMOVED)) (P4 : Exa Z Z.heap w_REMOVED "com/example/fawley/fawley/store/Change$Kind") (P5 : Fld Z Z.heap w_REMOVED "com/example/fawley/fawley/store/Change$Kind" "code" "B" (.int (2 : Int32))) (P6 : Sta Z Z.heap "com/example/fawley/fawley/store/Change$Kind" "WATCHED" "Lcom/example/fawley/fawley/store/Change$Kind;" (.ref w_WATCHED)) (P7 : Exa Z Z.heap w_WATCHED "com/example/fawley/fawley/store/Change$Kind") (P8 : Fld Z Z.heap w_WATCHED "com/example/fawley/fawley/store/Change$Kind" "code" "B" (.int (3 : Int32))) (P9 : Sta Z Z.heap "com/example/fawley/fawley/store/Change$Kind" "UNWATCHED" "Lcom/example/fawley/fawley/store/Change$Kind;" (.ref w_UNWATCHED)) (P10 : Exa Z Z.heap w_UNWATCHED "com/example/fawley/fawley/store/Change$Kind") (P11 : Fld Z Z.heap w_UNWATCHED "com/example/fawley/fawley/store/Change$Kind" "code" "B" (.int (4 : Int32))) (P12 : Sta Z Z.heap "com/example/fawley/fawley/store/Change$Kind" "UNWATCHED_ALL" "Lcom/example/fawley/fawley/store/Change$Kind;" (.ref w_UNWATCHED_ALL)) (P13 : Exa Z Z.heap w_UNWATCHED_ALL "com/example/fawley/fawley/store/Change$Kind") (P14 : Fld Z Z.heap w_UNWATCHED_ALL "com/example/fawley/fawley/store/Change$Kind" "code" "B" (.int (5 : Int32))) (P15 : Sta Z Z.heap "com/example/fawley/fawley/store/Change$Kind" "CLOCK_READING" "Lcom/example/fawley/fawley/store/Change$Kind;" (.ref w_CLOCK_READING)) (P16 : Exa Z Z.heap w_CLOCK_READING "com/example/fawley/fawley/store/Change$Kind") (P17 : Fld Z Z.heap w_CLOCK_READING "com/example/fawley/fawley/store/Change$Kind" "code" "B" (.int (6 : Int32))) (P18 : Sta Z Z.heap "com/example/fawley/fawley/store/Change$Kind" "ANSWERED" "Lcom/example/fawley/fawley/store/Change$Kind;" (.ref w_ANSWERED)) (P19 : Exa Z Z.heap w_ANSWERED "com/example/fawley/fawley/store/Change$Kind") (P20 : Fld Z Z.heap w_ANSWERED "com/example/fawley/fawley/store/Change$Kind" "code" "B" (.int (7 : Int32))) (P21 : Sta Z Z.heap "com/example/fawley/fawley/store/Change$Kind" "UNDELIVERED" "Lcom/example/fawley/fawley/store/Change$Kind;" (.ref w_UNDELIVERED)) (P22 : Exa Z Z.heap w_UNDELIVERED "com/example/fawley/fawley/store/Change$Kind") (P23 : Fld Z Z.heap w_UNDELIVERED "com/example/fawley/fawley/store/Change$Kind" "code" "B" (.int (8 : Int32))) (P24 : Sta Z Z.heap "com/example/fawley/fawley/store/Change$Kind" "DELIVERED" "Lcom/example/fawley/fawley/store/Change$Kind;" (.ref w_DELIVERED)) (P25 : Exa Z Z.heap w_DELIVERED "com/example/fawley/fawley/store/Change$Kind") (P26 : Fld Z Z.heap w_DELIVERED "com/example/fawley/fawley/store/Change$Kind" "code" "B" (.int (9 : Int32))) (P27 : Sta Z Z.heap "com/example/fawley/fawley/store/Change$Kind" "$VALUES" "[Lcom/example/fawley/fawley/store/Change$Kind;" (.ref w__VALUES)) (P28 : Exa Z Z.heap w__VALUES "[Lcom/example/fawley/fawley/store/Change$Kind;") (P29 : Arv Z Z.heap w__VALUES k_ (.object "com/example/fawley/fawley/store/Change$Kind") (9 : Int32) [(.ref w_STORED), (.ref w_REMOVED), (.ref w_WATCHED), (.ref w_UNWATCHED), (.ref w_UNWATCHED_ALL), (.ref w_CLOCK_READING), (.ref w_ANSWERED), (.ref w_UNDELIVERED), (.ref w_DELIVERED)] .null) :
    MetFree l (⟨"com/example/fawley/fawley/store/Change$Kind", "of", "(B)Lcom/example/fawley/fawley/store/Change$Kind;"⟩ : MethodName) (head1 (Jvm.Cond.code (⟨"com/example/fawley/fawley/store/Change$Kind", "of", "(B)Lcom/example/fawley/fawley/store/Change$Kind;"⟩ : MethodName) prog_29_method_5_code 5 (some (.object "com/example/fawley/fawley/store/Change$Kind")) :: ws) ({ frames := 2, cells := 1, slots := 9, locals := 25 } : Room)) (fun a U => a = #[(.int (3 : Int32))] ∧ Z.Warmed39 U.vm ∧ U.heap = h0) (fun _ _ _ _ _ => True) (fun _ U o U' => ∃ v L, o = .returned v ∧ QOf2 Z w_STORED w_REMOVED w_WATCHED w_UNWATCHED w_UNWATCHED_ALL w_CLOCK_READING w_ANSWERED w_UNDELIVERED w_DELIVERED w__VALUES k_ h0 n0 v U'.heap L ∧ FrameEnd U o U' L ({ frames := 2, cells := 1, slots := 9, locals := 25 } : Room).cells ({ frames := 2, cells := 1, slots := 9, locals := 25 } : Room).slots) := by
  refine MetFree.of_bodySF (plainFor_of_name pn_0) hisR ?_
  intro p e s m args below meth c s₁ Bd hml0 hP hK
  obtain ⟨rfl, hZ, hh⟩ := hP
  have hx := Bd.exec
  have hby := Bd.bytes
  have hml : c.maxLocals = 5 := hml0
  have hown : s.vm.findClass "com/example/fawley/fawley/store/Change$Kind" = some m.cls := findClass_of_methodNamed Bd.named
  have hnm := (name_of_methodNamed Bd.named Bd.method).1
  have X0 : Stand p l e ({ frames := 2, cells := 1, slots := 9, locals := 25 } : Room) s m #[(.int (3 : Int32))] below meth c s₁ [] 0 0 := Stand.of_body Bd
  have e0 : s₁.heap = h0 := by rw [← hh, Bd.state]; rfl
  have N0 := Fr.nil n0
  have pre0 : ∀ t, Steps p.tables e below (s₁.setTop (mkF m 0 #[.val (.int (3 : Int32)), .unset, .unset, .unset, .unset] [])) t → Steps p.tables e below (s₁.setTop (entryFrame m #[(.int (3 : Int32))] 5)) t := fun t k => castTop (efOf2 m ) k
  have K0 : Keep h0 h0 [] := Keep.refl _ _
  obtain ⟨_, _, ⟨T1, L1, k1, n1⟩, -, X1, ⟨Lc1, hQ1, l1, y1, z1⟩, st1⟩ := Jvm.LawKit.callS X0 hx (y := (⟨"com/example/fawley/fawley/store/Change$Kind", "values", "()[Lcom/example/fawley/fawley/store/Change$Kind;"⟩ : MethodName)) hown (mvT hZ (hw _ (List.mem_of_getElem? (i := 11) rfl))) (mvT hZ (hw _ (List.mem_of_getElem? (i := 12) rfl))) (mvT hZ (hw _ (List.mem_of_getElem? (i := 6) rfl))) (mvT hZ (hw _ (List.mem_of_getElem? (i := 13) rfl))) (by decide) (backOf (W := 0) (rmVal l Z a0 hw [] w_STORED w_REMOVED w_WATCHED w_UNWATCHED w_UNWATCHED_ALL w_CLOCK_READING w_ANSWERED w_UNDELIVERED w_DELIVERED w__VALUES k_ h0 n0 O0 P0 P1 P2 P3 P4 P5 P6 P7 P8 P9 P10 P11 P12 P13 P14 P15 P16 P17 P18 P19 P20 P21 P22 P23 P24 P25 P26 P27 P28 P29) hZ (hw _ (List.mem_of_getElem? (i := 13) rfl)) (hw _ (List.mem_of_getElem? (i := 6) rfl)) (by decide) (by decide)) (g := (mkF m 0 #[.val (.int (3 : Int32)), .unset, .unset, .unset, .unset] [])) rfl (by rw [hml]; rfl) (argsL := []) (rest := []) (lenOf pd_0 rfl) rfl (by show 2 * 0 + _ ≤ _; exact Nat.le_of_eq rfl) (hb hby d3_0) (fun _ _ => ⟨rfl, e0, (by decide : 0 + 1 ≤ _), (by decide : 0 + 9 ≤ _)⟩)
  dsimp only [Pt.U, Pt.locs, Pt.cells, Pt.slots] at X1 l1 y1 z1 st1 hQ1
  subst l1 y1 z1
  obtain ⟨h1, e1⟩ : ∃ z, T1.heap = z := ⟨_, rfl⟩
  rw [e1] at hQ1
  obtain ⟨nb2_1, rfl, N1q, K1, sznb2_1, g1_0, g1_1⟩ := hQ1
  have N2 := Fr.app N0 N1q
  have ge3 : n0 ≤ nb2_1 := Nat.le_trans (Nat.le_trans (Nat.le_of_eq O0.1.symm) O0.2.1) sznb2_1
  have sz4 : h0.size ≤ nb2_1 := Nat.le_trans K0.1 sznb2_1
  obtain ⟨c5, r5, q5, s5, z5, y5, G5⟩ := id g1_0
  obtain ⟨c6, r6, q6, s6, z6, y6, G6⟩ := id g1_0
  have hin6 : ¬ ((0 : Int32) < 0 ∨ c6.slots.size ≤ ((0 : Int32)).toNatClampNeg) := inb_of s6 ⟨by decide, by decide⟩
  have hat6 : c6.slots[((0 : Int32)).toNatClampNeg]? = some (.ref w_STORED) := Has.at y6 hin6 rfl
  have f7 : Old Z n0 h1 := O0.keep K1 all0
  have f8 : Fld Z h1 w_STORED "com/example/fawley/fawley/store/Change$Kind" "code" "B" (.int (1 : Int32)) := P2.ext f7.2
  obtain ⟨T9, X9, e9, st9⟩ := getF X1 hx hZ hown (host := "") (Or.inl (hw _ (List.mem_of_getElem? (i := 34) rfl))) Via.refl e1 f8 (g := (mkF m 21 #[.val (.int (3 : Int32)), .val (.ref nb2_1), .val (.int (9 : Int32)), .val (.int (0 : Int32)), .val (.ref w_STORED)] [(.ref w_STORED)])) rfl rfl (hb hby d3_21)
  obtain ⟨c10, r10, q10, s10, z10, y10, G10⟩ := id g1_0
  have hin10 : ¬ ((1 : Int32) < 0 ∨ c10.slots.size ≤ ((1 : Int32)).toNatClampNeg) := inb_of s10 ⟨by decide, by decide⟩
  have hat10 : c10.slots[((1 : Int32)).toNatClampNeg]? = some (.ref w_REMOVED) := Has.at y10 hin10 rfl
  have f11 : Fld Z h1 w_REMOVED "com/example/fawley/fawley/store/Change$Kind" "code" "B" (.int (2 : Int32)) := P5.ext f7.2
  obtain ⟨T12, X12, e12, st12⟩ := getF X9 hx hZ hown (host := "") (Or.inl (hw _ (List.mem_of_getElem? (i := 34) rfl))) Via.refl e9 f11 (g := (mkF m 21 #[.val (.int (3 : Int32)), .val (.ref nb2_1), .val (.int (9 : Int32)), .val (.int (1 : Int32)), .val (.ref w_REMOVED)] [(.ref w_REMOVED)])) rfl rfl (hb hby d3_21)
  obtain ⟨c13, r13, q13, s13, z13, y13, G13⟩ := id g1_0
  have hin13 : ¬ ((2 : Int32) < 0 ∨ c13.slots.size ≤ ((2 : Int32)).toNatClampNeg) := inb_of s13 ⟨by decide, by decide⟩
  have hat13 : c13.slots[((2 : Int32)).toNatClampNeg]? = some (.ref w_WATCHED) := Has.at y13 hin13 rfl
  have f14 : Fld Z h1 w_WATCHED "com/example/fawley/fawley/store/Change$Kind" "code" "B" (.int (3 : Int32)) := P8.ext f7.2
  obtain ⟨T15, X15, e15, st15⟩ := getF X12 hx hZ hown (host := "") (Or.inl (hw _ (List.mem_of_getElem? (i := 34) rfl))) Via.refl e12 f14 (g := (mkF m 21 #[.val (.int (3 : Int32)), .val (.ref nb2_1), .val (.int (9 : Int32)), .val (.int (2 : Int32)), .val (.ref w_WATCHED)] [(.ref w_WATCHED)])) rfl rfl (hb hby d3_21)
  have pre16 : ∀ t, Steps p.tables e below (T15.setTop (mkF m 30 #[.val (.int (3 : Int32)), .val (.ref nb2_1), .val (.int (9 : Int32)), .val (.int (2 : Int32)), .val (.ref w_WATCHED)] [(.ref w_WATCHED)])) t → Steps p.tables e below (s₁.setTop (entryFrame m #[(.int (3 : Int32))] 5)) t := by
    intro t kt
    refine pre0 t ?_
    show Steps p.tables e below (s₁.setTop (mkF m 0 #[.val (.int (3 : Int32)), .unset, .unset, .unset, .unset] [])) _
    refine st1 _ ?_
    show Steps p.tables e below (T1.setTop (mkF m 3 #[.val (.int (3 : Int32)), .unset, .unset, .unset, .unset] [(.ref nb2_1)])) _
    refine XS.astoreN X1.here hx rfl (hb hby d3_3) rfl rfl (l' := #[.val (.int (3 : Int32)), .val (.ref nb2_1), .unset, .unset, .unset]) rfl ?_
    show Steps p.tables e below (T1.setTop (mkF m 4 #[.val (.int (3 : Int32)), .val (.ref nb2_1), .unset, .unset, .unset] [])) _
    refine XS.aloadN X1.here hx rfl (hb hby d3_4) rfl rfl ?_
    show Steps p.tables e below (T1.setTop (mkF m 5 #[.val (.int (3 : Int32)), .val (.ref nb2_1), .unset, .unset, .unset] [(.ref nb2_1)])) _
    refine X1.arraylength hx (by rw [e1]; exact r5.1) (State.isArrayOf_alike hZ.alike r5.2.1) (g := (mkF m 5 #[.val (.int (3 : Int32)), .val (.ref nb2_1), .unset, .unset, .unset] [(.ref nb2_1)])) rfl rfl (hb hby d3_5) _ ?_
    rw [len_of s5 z5]
    show Steps p.tables e below (T1.setTop (mkF m 6 #[.val (.int (3 : Int32)), .val (.ref nb2_1), .unset, .unset, .unset] [(.int (9 : Int32))])) _
    refine XS.istoreN X1.here hx rfl (hb hby d3_6) rfl (l' := #[.val (.int (3 : Int32)), .val (.ref nb2_1), .val (.int (9 : Int32)), .unset, .unset]) rfl ?_
    show Steps p.tables e below (T1.setTop (mkF m 7 #[.val (.int (3 : Int32)), .val (.ref nb2_1), .val (.int (9 : Int32)), .unset, .unset] [])) _
    refine XS.iconst X1.here hx rfl (hb hby d3_7) ?_
    show Steps p.tables e below (T1.setTop (mkF m 8 #[.val (.int (3 : Int32)), .val (.ref nb2_1), .val (.int (9 : Int32)), .unset, .unset] [(.int (0 : Int32))])) _
    refine XS.istoreN X1.here hx rfl (hb hby d3_8) rfl (l' := #[.val (.int (3 : Int32)), .val (.ref nb2_1), .val (.int (9 : Int32)), .val (.int (0 : Int32)), .unset]) rfl ?_
    show Steps p.tables e below (T1.setTop (mkF m 9 #[.val (.int (3 : Int32)), .val (.ref nb2_1), .val (.int (9 : Int32)), .val (.int (0 : Int32)), .unset] [])) _
    refine XS.iloadN X1.here hx rfl (hb hby d3_9) rfl ?_
    show Steps p.tables e below (T1.setTop (mkF m 10 #[.val (.int (3 : Int32)), .val (.ref nb2_1), .val (.int (9 : Int32)), .val (.int (0 : Int32)), .unset] [(.int (0 : Int32))])) _
    refine XS.iloadN X1.here hx rfl (hb hby d3_10) rfl ?_
    show Steps p.tables e below (T1.setTop (mkF m 11 #[.val (.int (3 : Int32)), .val (.ref nb2_1), .val (.int (9 : Int32)), .val (.int (0 : Int32)), .unset] [(.int (9 : Int32)), (.int (0 : Int32))])) _
    refine XS.icmpNo X1.here hx rfl (hb hby d3_11) rfl (tlt (by decide : (0 : Int32) < (9 : Int32))).2.1 ?_
    show Steps p.tables e below (T1.setTop (mkF m 14 #[.val (.int (3 : Int32)), .val (.ref nb2_1), .val (.int (9 : Int32)), .val (.int (0 : Int32)), .unset] [])) _
    refine XS.aloadN X1.here hx rfl (hb hby d3_14) rfl rfl ?_
    show Steps p.tables e below (T1.setTop (mkF m 15 #[.val (.int (3 : Int32)), .val (.ref nb2_1), .val (.int (9 : Int32)), .val (.int (0 : Int32)), .unset] [(.ref nb2_1)])) _
    refine XS.iloadN X1.here hx rfl (hb hby d3_15) rfl ?_
    show Steps p.tables e below (T1.setTop (mkF m 16 #[.val (.int (3 : Int32)), .val (.ref nb2_1), .val (.int (9 : Int32)), .val (.int (0 : Int32)), .unset] [(.int (0 : Int32)), (.ref nb2_1)])) _
    refine X1.aaload hx (j := (0 : Int32)) (v := (.ref w_STORED)) (by rw [e1]; exact r6.1) (State.isArrayOf_alike hZ.alike r6.2.1) rfl r6.2.2 hin6 hat6 (g := (mkF m 16 #[.val (.int (3 : Int32)), .val (.ref nb2_1), .val (.int (9 : Int32)), .val (.int (0 : Int32)), .unset] [(.int (0 : Int32)), (.ref nb2_1)])) rfl rfl (hb hby d3_16) _ ?_
    show Steps p.tables e below (T1.setTop (mkF m 17 #[.val (.int (3 : Int32)), .val (.ref nb2_1), .val (.int (9 : Int32)), .val (.int (0 : Int32)), .unset] [(.ref w_STORED)])) _
    refine XS.astore X1.here hx rfl (hb hby d3_17) rfl rfl (l' := #[.val (.int (3 : Int32)), .val (.ref nb2_1), .val (.int (9 : Int32)), .val (.int (0 : Int32)), .val (.ref w_STORED)]) rfl ?_
    show Steps p.tables e below (T1.setTop (mkF m 19 #[.val (.int (3 : Int32)), .val (.ref nb2_1), .val (.int (9 : Int32)), .val (.int (0 : Int32)), .val (.ref w_STORED)] [])) _
    refine XS.aload X1.here hx rfl (hb hby d3_19) rfl rfl ?_
    show Steps p.tables e below (T1.setTop (mkF m 21 #[.val (.int (3 : Int32)), .val (.ref nb2_1), .val (.int (9 : Int32)), .val (.int (0 : Int32)), .val (.ref w_STORED)] [(.ref w_STORED)])) _
    refine st9 _ ?_
    show Steps p.tables e below (T9.setTop (mkF m 24 #[.val (.int (3 : Int32)), .val (.ref nb2_1), .val (.int (9 : Int32)), .val (.int (0 : Int32)), .val (.ref w_STORED)] [(.int (1 : Int32))])) _
    refine XS.iloadN X9.here hx rfl (hb hby d3_24) rfl ?_
    show Steps p.tables e below (T9.setTop (mkF m 25 #[.val (.int (3 : Int32)), .val (.ref nb2_1), .val (.int (9 : Int32)), .val (.int (0 : Int32)), .val (.ref w_STORED)] [(.int (3 : Int32)), (.int (1 : Int32))])) _
    refine XS.icmpYes X9.here hx rfl (pc0 := 25) (pc' := 31) rfl (hb hby d3_25) rfl (feq (by decide : ¬ ((1 : Int32) = (3 : Int32)))).2 (by decide) (by decide) ?_
    show Steps p.tables e below (T9.setTop (mkF m 31 #[.val (.int (3 : Int32)), .val (.ref nb2_1), .val (.int (9 : Int32)), .val (.int (0 : Int32)), .val (.ref w_STORED)] [])) _
    refine XS.iinc X9.here hx rfl (hb hby d3_31) rfl (l' := #[.val (.int (3 : Int32)), .val (.ref nb2_1), .val (.int (9 : Int32)), .val (.int (1 : Int32)), .val (.ref w_STORED)]) rfl ?_
    show Steps p.tables e below (T9.setTop (mkF m 34 #[.val (.int (3 : Int32)), .val (.ref nb2_1), .val (.int (9 : Int32)), .val (.int (1 : Int32)), .val (.ref w_STORED)] [])) _
    refine XS.goto X9.here hx rfl (pc0 := 34) (pc' := 9) rfl (hb hby d3_34) (by decide) (by decide) ?_
    show Steps p.tables e below (T9.setTop (mkF m 9 #[.val (.int (3 : Int32)), .val (.ref nb2_1), .val (.int (9 : Int32)), .val (.int (1 : Int32)), .val (.ref w_STORED)] [])) _
    refine XS.iloadN X9.here hx rfl (hb hby d3_9) rfl ?_
    show Steps p.tables e below (T9.setTop (mkF m 10 #[.val (.int (3 : Int32)), .val (.ref nb2_1), .val (.int (9 : Int32)), .val (.int (1 : Int32)), .val (.ref w_STORED)] [(.int (1 : Int32))])) _
    refine XS.iloadN X9.here hx rfl (hb hby d3_10) rfl ?_
    show Steps p.tables e below (T9.setTop (mkF m 11 #[.val (.int (3 : Int32)), .val (.ref nb2_1), .val (.int (9 : Int32)), .val (.int (1 : Int32)), .val (.ref w_STORED)] [(.int (9 : Int32)), (.int (1 : Int32))])) _
    refine XS.icmpNo X9.here hx rfl (hb hby d3_11) rfl (tlt (by decide : (1 : Int32) < (9 : Int32))).2.1 ?_
    show Steps p.tables e below (T9.setTop (mkF m 14 #[.val (.int (3 : Int32)), .val (.ref nb2_1), .val (.int (9 : Int32)), .val (.int (1 : Int32)), .val (.ref w_STORED)] [])) _
    refine XS.aloadN X9.here hx rfl (hb hby d3_14) rfl rfl ?_
    show Steps p.tables e below (T9.setTop (mkF m 15 #[.val (.int (3 : Int32)), .val (.ref nb2_1), .val (.int (9 : Int32)), .val (.int (1 : Int32)), .val (.ref w_STORED)] [(.ref nb2_1)])) _
    refine XS.iloadN X9.here hx rfl (hb hby d3_15) rfl ?_
    show Steps p.tables e below (T9.setTop (mkF m 16 #[.val (.int (3 : Int32)), .val (.ref nb2_1), .val (.int (9 : Int32)), .val (.int (1 : Int32)), .val (.ref w_STORED)] [(.int (1 : Int32)), (.ref nb2_1)])) _
    refine X9.aaload hx (j := (1 : Int32)) (v := (.ref w_REMOVED)) (by rw [e9]; exact r10.1) (State.isArrayOf_alike hZ.alike r10.2.1) rfl r10.2.2 hin10 hat10 (g := (mkF m 16 #[.val (.int (3 : Int32)), .val (.ref nb2_1), .val (.int (9 : Int32)), .val (.int (1 : Int32)), .val (.ref w_STORED)] [(.int (1 : Int32)), (.ref nb2_1)])) rfl rfl (hb hby d3_16) _ ?_
    show Steps p.tables e below (T9.setTop (mkF m 17 #[.val (.int (3 : Int32)), .val (.ref nb2_1), .val (.int (9 : Int32)), .val (.int (1 : Int32)), .val (.ref w_STORED)] [(.ref w_REMOVED)])) _
    refine XS.astore X9.here hx rfl (hb hby d3_17) rfl rfl (l' := #[.val (.int (3 : Int32)), .val (.ref nb2_1), .val (.int (9 : Int32)), .val (.int (1 : Int32)), .val (.ref w_REMOVED)]) rfl ?_
    show Steps p.tables e below (T9.setTop (mkF m 19 #[.val (.int (3 : Int32)), .val (.ref nb2_1), .val (.int (9 : Int32)), .val (.int (1 : Int32)), .val (.ref w_REMOVED)] [])) _
    refine XS.aload X9.here hx rfl (hb hby d3_19) rfl rfl ?_
    show Steps p.tables e below (T9.setTop (mkF m 21 #[.val (.int (3 : Int32)), .val (.ref nb2_1), .val (.int (9 : Int32)), .val (.int (1 : Int32)), .val (.ref w_REMOVED)] [(.ref w_REMOVED)])) _
    refine st12 _ ?_
    show Steps p.tables e below (T12.setTop (mkF m 24 #[.val (.int (3 : Int32)), .val (.ref nb2_1), .val (.int (9 : Int32)), .val (.int (1 : Int32)), .val (.ref w_REMOVED)] [(.int (2 : Int32))])) _
    refine XS.iloadN X12.here hx rfl (hb hby d3_24) rfl ?_
    show Steps p.tables e below (T12.setTop (mkF m 25 #[.val (.int (3 : Int32)), .val (.ref nb2_1), .val (.int (9 : Int32)), .val (.int (1 : Int32)), .val (.ref w_REMOVED)] [(.int (3 : Int32)), (.int (2 : Int32))])) _
    refine XS.icmpYes X12.here hx rfl (pc0 := 25) (pc' := 31) rfl (hb hby d3_25) rfl (feq (by decide : ¬ ((2 : Int32) = (3 : Int32)))).2 (by decide) (by decide) ?_
    show Steps p.tables e below (T12.setTop (mkF m 31 #[.val (.int (3 : Int32)), .val (.ref nb2_1), .val (.int (9 : Int32)), .val (.int (1 : Int32)), .val (.ref w_REMOVED)] [])) _
    refine XS.iinc X12.here hx rfl (hb hby d3_31) rfl (l' := #[.val (.int (3 : Int32)), .val (.ref nb2_1), .val (.int (9 : Int32)), .val (.int (2 : Int32)), .val (.ref w_REMOVED)]) rfl ?_
    show Steps p.tables e below (T12.setTop (mkF m 34 #[.val (.int (3 : Int32)), .val (.ref nb2_1), .val (.int (9 : Int32)), .val (.int (2 : Int32)), .val (.ref w_REMOVED)] [])) _
    refine XS.goto X12.here hx rfl (pc0 := 34) (pc' := 9) rfl (hb hby d3_34) (by decide) (by decide) ?_
    show Steps p.tables e below (T12.setTop (mkF m 9 #[.val (.int (3 : Int32)), .val (.ref nb2_1), .val (.int (9 : Int32)), .val (.int (2 : Int32)), .val (.ref w_REMOVED)] [])) _
    refine XS.iloadN X12.here hx rfl (hb hby d3_9) rfl ?_
    show Steps p.tables e below (T12.setTop (mkF m 10 #[.val (.int (3 : Int32)), .val (.ref nb2_1), .val (.int (9 : Int32)), .val (.int (2 : Int32)), .val (.ref w_REMOVED)] [(.int (2 : Int32))])) _
    refine XS.iloadN X12.here hx rfl (hb hby d3_10) rfl ?_
    show Steps p.tables e below (T12.setTop (mkF m 11 #[.val (.int (3 : Int32)), .val (.ref nb2_1), .val (.int (9 : Int32)), .val (.int (2 : Int32)), .val (.ref w_REMOVED)] [(.int (9 : Int32)), (.int (2 : Int32))])) _
    refine XS.icmpNo X12.here hx rfl (hb hby d3_11) rfl (tlt (by decide : (2 : Int32) < (9 : Int32))).2.1 ?_
    show Steps p.tables e below (T12.setTop (mkF m 14 #[.val (.int (3 : Int32)), .val (.ref nb2_1), .val (.int (9 : Int32)), .val (.int (2 : Int32)), .val (.ref w_REMOVED)] [])) _
    refine XS.aloadN X12.here hx rfl (hb hby d3_14) rfl rfl ?_
    show Steps p.tables e below (T12.setTop (mkF m 15 #[.val (.int (3 : Int32)), .val (.ref nb2_1), .val (.int (9 : Int32)), .val (.int (2 : Int32)), .val (.ref w_REMOVED)] [(.ref nb2_1)])) _
    refine XS.iloadN X12.here hx rfl (hb hby d3_15) rfl ?_
    show Steps p.tables e below (T12.setTop (mkF m 16 #[.val (.int (3 : Int32)), .val (.ref nb2_1), .val (.int (9 : Int32)), .val (.int (2 : Int32)), .val (.ref w_REMOVED)] [(.int (2 : Int32)), (.ref nb2_1)])) _
    refine X12.aaload hx (j := (2 : Int32)) (v := (.ref w_WATCHED)) (by rw [e12]; exact r13.1) (State.isArrayOf_alike hZ.alike r13.2.1) rfl r13.2.2 hin13 hat13 (g := (mkF m 16 #[.val (.int (3 : Int32)), .val (.ref nb2_1), .val (.int (9 : Int32)), .val (.int (2 : Int32)), .val (.ref w_REMOVED)] [(.int (2 : Int32)), (.ref nb2_1)])) rfl rfl (hb hby d3_16) _ ?_
    show Steps p.tables e below (T12.setTop (mkF m 17 #[.val (.int (3 : Int32)), .val (.ref nb2_1), .val (.int (9 : Int32)), .val (.int (2 : Int32)), .val (.ref w_REMOVED)] [(.ref w_WATCHED)])) _
    refine XS.astore X12.here hx rfl (hb hby d3_17) rfl rfl (l' := #[.val (.int (3 : Int32)), .val (.ref nb2_1), .val (.int (9 : Int32)), .val (.int (2 : Int32)), .val (.ref w_WATCHED)]) rfl ?_
    show Steps p.tables e below (T12.setTop (mkF m 19 #[.val (.int (3 : Int32)), .val (.ref nb2_1), .val (.int (9 : Int32)), .val (.int (2 : Int32)), .val (.ref w_WATCHED)] [])) _
    refine XS.aload X12.here hx rfl (hb hby d3_19) rfl rfl ?_
    show Steps p.tables e below (T12.setTop (mkF m 21 #[.val (.int (3 : Int32)), .val (.ref nb2_1), .val (.int (9 : Int32)), .val (.int (2 : Int32)), .val (.ref w_WATCHED)] [(.ref w_WATCHED)])) _
    refine st15 _ ?_
    show Steps p.tables e below (T15.setTop (mkF m 24 #[.val (.int (3 : Int32)), .val (.ref nb2_1), .val (.int (9 : Int32)), .val (.int (2 : Int32)), .val (.ref w_WATCHED)] [(.int (3 : Int32))])) _
    refine XS.iloadN X15.here hx rfl (hb hby d3_24) rfl ?_
    show Steps p.tables e below (T15.setTop (mkF m 25 #[.val (.int (3 : Int32)), .val (.ref nb2_1), .val (.int (9 : Int32)), .val (.int (2 : Int32)), .val (.ref w_WATCHED)] [(.int (3 : Int32)), (.int (3 : Int32))])) _
    refine XS.icmpNo X15.here hx rfl (hb hby d3_25) rfl (teq (by decide : (3 : Int32) = (3 : Int32))).2 ?_
    show Steps p.tables e below (T15.setTop (mkF m 28 #[.val (.int (3 : Int32)), .val (.ref nb2_1), .val (.int (9 : Int32)), .val (.int (2 : Int32)), .val (.ref w_WATCHED)] [])) _
    refine XS.aload X15.here hx rfl (hb hby d3_28) rfl rfl ?_
    exact kt
  have f18 : Keep h0 h1 [] := K0.trans K1 all0
  obtain ⟨fs, hr, hrun, hended, hW, hsame⟩ := X15.leave (v := some (.ref w_WATCHED)) (fun h => by rw [Bd.returns] at h; cases h)
  refine ⟨_, _, pre16 _ (retOut X15 hx Bd.returns rfl (Or.inr (Or.inr (Or.inr (Or.inr ⟨rfl, rfl, rfl⟩)))) (hb hby d3_30) hr), hrun, hended, _, _, rfl, ?_, ⟨_, rfl⟩, hW, hsame.mono (by decide) (by decide)⟩
  show QOf2 Z w_STORED w_REMOVED w_WATCHED w_UNWATCHED w_UNWATCHED_ALL w_CLOCK_READING w_ANSWERED w_UNDELIVERED w_DELIVERED w__VALUES k_ h0 n0 _ T15.heap _
  rw [e15]
  exact ⟨rfl, N2, f18⟩
theorem d2_27 : decode method_2_code 27 = .ok (.iload_n 0, 1) := by decide +kernel
theorem d2_28 : decode method_2_code 28 = .ok (.iconst 4, 1) := by decide +kernel
theorem d2_29 : decode method_2_code 29 = .ok (.if_icmp .ne 7, 3) := by decide +kernel
theorem d2_32 : decode method_2_code 32 = .ok (.getstatic 19, 3) := by decide +kernel
theorem d2_35 : decode method_2_code 35 = .ok (.areturn, 1) := by decide +kernel
theorem efExp3 (m : MethodId)  : entryFrame m #[(.int (4 : Int32))] 1 = mkF m 0 #[.val (.int (4 : Int32))] [] := by first | (simp [entryFrame, mkF, argsToLocals, Value.category]; done) | rfl
def QExp3 (Z : State) (w_UNWATCHED : Addr) (h0 : Heap) (n0 : Nat) (v : Option Value) (h : Heap) (L : List Loc) : Prop := v = some (.ref w_UNWATCHED) ∧ Fr n0 L ∧ h = h0
set_option maxRecDepth 65536 in
set_option maxHeartbeats 40000000 in
theorem rmExp3 (l : Launch) (Z : State) (a0 : Array Value) (hw : ∀ d ∈ tables_1, d.before a0 Z = true) (ws : List Jvm.Cond) (w_UNWATCHED : Addr) (h0 : Heap) (n0 : Nat) (O0 : Old Z n0 h0) (P0 : Sta Z Z.heap "com/example/fawley/fawley/store/Change$Kind" "UNWATCHED" "Lcom/example/fawley/fawley/store/Change$Kind;" (.ref w_UNWATCHED)) :
    MetFree l (⟨"com/example/fawley/fawley/store/KindOfPinLaw", "expected", "(I)Lcom/example/fawley/fawley/store/Change$Kind;"⟩ : MethodName) (head1 (Jvm.Cond.code (⟨"com/example/fawley/fawley/store/KindOfPinLaw", "expected", "(I)Lcom/example/fawley/fawley/store/Change$Kind;"⟩ : MethodName) method_2_code 1 (some (.object "com/example/fawley/fawley/store/Change$Kind")) :: ws) ({ frames := 0, cells := 0, slots := 0, locals := 0 } : Room)) (fun a U => a = #[(.int (4 : Int32))] ∧ Z.Warmed39 U.vm ∧ U.heap = h0) (fun _ _ _ _ _ => True) (fun _ U o U' => ∃ v L, o = .returned v ∧ QExp3 Z w_UNWATCHED h0 n0 v U'.heap L ∧ FrameEnd U o U' L ({ frames := 0, cells := 0, slots := 0, locals := 0 } : Room).cells ({ frames := 0, cells := 0, slots := 0, locals := 0 } : Room).slots) := by
  refine MetFree.of_bodySF (plainFor_of_name pn_1) hisR ?_
  intro p e s m args below meth c s₁ Bd hml0 hP hK
  obtain ⟨rfl, hZ, hh⟩ := hP
  have hx := Bd.exec
  have hby := Bd.bytes
  have hml : c.maxLocals = 1 := hml0
  have hown : s.vm.findClass "com/example/fawley/fawley/store/KindOfPinLaw" = some m.cls := findClass_of_methodNamed Bd.named
  have hnm := (name_of_methodNamed Bd.named Bd.method).1
  have X0 : Stand p l e ({ frames := 0, cells := 0, slots := 0, locals := 0 } : Room) s m #[(.int (4 : Int32))] below meth c s₁ [] 0 0 := Stand.of_body Bd
  have e0 : s₁.heap = h0 := by rw [← hh, Bd.state]; rfl
  have N0 := Fr.nil n0
  have pre0 : ∀ t, Steps p.tables e below (s₁.setTop (mkF m 0 #[.val (.int (4 : Int32))] [])) t → Steps p.tables e below (s₁.setTop (entryFrame m #[(.int (4 : Int32))] 1)) t := fun t k => castTop (efExp3 m ) k
  have K0 : Keep h0 h0 [] := Keep.refl _ _
  obtain ⟨T1, X1, e1, st1⟩ := getS2 X0 hx hZ hown (host := "") (Or.inl (hw _ (List.mem_of_getElem? (i := 41) rfl))) Via.refl e0 (P0.ext O0.2) (g := (mkF m 32 #[.val (.int (4 : Int32))] [])) rfl (hb hby d2_32)
  have pre2 : ∀ t, Steps p.tables e below (T1.setTop (mkF m 35 #[.val (.int (4 : Int32))] [(.ref w_UNWATCHED)])) t → Steps p.tables e below (s₁.setTop (entryFrame m #[(.int (4 : Int32))] 1)) t := by
    intro t kt
    refine pre0 t ?_
    show Steps p.tables e below (s₁.setTop (mkF m 0 #[.val (.int (4 : Int32))] [])) _
    refine XS.iloadN X0.here hx rfl (hb hby d2_0) rfl ?_
    show Steps p.tables e below (s₁.setTop (mkF m 1 #[.val (.int (4 : Int32))] [(.int (4 : Int32))])) _
    refine XS.iconst X0.here hx rfl (hb hby d2_1) ?_
    show Steps p.tables e below (s₁.setTop (mkF m 2 #[.val (.int (4 : Int32))] [(.int (1 : Int32)), (.int (4 : Int32))])) _
    refine XS.icmpYes X0.here hx rfl (pc0 := 2) (pc' := 9) rfl (hb hby d2_2) rfl (feq (by decide : ¬ ((4 : Int32) = (1 : Int32)))).2 (by decide) (by decide) ?_
    show Steps p.tables e below (s₁.setTop (mkF m 9 #[.val (.int (4 : Int32))] [])) _
    refine XS.iloadN X0.here hx rfl (hb hby d2_9) rfl ?_
    show Steps p.tables e below (s₁.setTop (mkF m 10 #[.val (.int (4 : Int32))] [(.int (4 : Int32))])) _
    refine XS.iconst X0.here hx rfl (hb hby d2_10) ?_
    show Steps p.tables e below (s₁.setTop (mkF m 11 #[.val (.int (4 : Int32))] [(.int (2 : Int32)), (.int (4 : Int32))])) _
    refine XS.icmpYes X0.here hx rfl (pc0 := 11) (pc' := 18) rfl (hb hby d2_11) rfl (feq (by decide : ¬ ((4 : Int32) = (2 : Int32)))).2 (by decide) (by decide) ?_
    show Steps p.tables e below (s₁.setTop (mkF m 18 #[.val (.int (4 : Int32))] [])) _
    refine XS.iloadN X0.here hx rfl (hb hby d2_18) rfl ?_
    show Steps p.tables e below (s₁.setTop (mkF m 19 #[.val (.int (4 : Int32))] [(.int (4 : Int32))])) _
    refine XS.iconst X0.here hx rfl (hb hby d2_19) ?_
    show Steps p.tables e below (s₁.setTop (mkF m 20 #[.val (.int (4 : Int32))] [(.int (3 : Int32)), (.int (4 : Int32))])) _
    refine XS.icmpYes X0.here hx rfl (pc0 := 20) (pc' := 27) rfl (hb hby d2_20) rfl (feq (by decide : ¬ ((4 : Int32) = (3 : Int32)))).2 (by decide) (by decide) ?_
    show Steps p.tables e below (s₁.setTop (mkF m 27 #[.val (.int (4 : Int32))] [])) _
    refine XS.iloadN X0.here hx rfl (hb hby d2_27) rfl ?_
    show Steps p.tables e below (s₁.setTop (mkF m 28 #[.val (.int (4 : Int32))] [(.int (4 : Int32))])) _
    refine XS.iconst X0.here hx rfl (hb hby d2_28) ?_
    show Steps p.tables e below (s₁.setTop (mkF m 29 #[.val (.int (4 : Int32))] [(.int (4 : Int32)), (.int (4 : Int32))])) _
    refine XS.icmpNo X0.here hx rfl (hb hby d2_29) rfl (teq (by decide : (4 : Int32) = (4 : Int32))).2 ?_
    show Steps p.tables e below (s₁.setTop (mkF m 32 #[.val (.int (4 : Int32))] [])) _
    refine st1 _ ?_
    exact kt
  obtain ⟨fs, hr, hrun, hended, hW, hsame⟩ := X1.leave (v := some (.ref w_UNWATCHED)) (fun h => by rw [Bd.returns] at h; cases h)
  refine ⟨_, _, pre2 _ (retOut X1 hx Bd.returns rfl (Or.inr (Or.inr (Or.inr (Or.inr ⟨rfl, rfl, rfl⟩)))) (hb hby d2_35) hr), hrun, hended, _, _, rfl, ?_, ⟨_, rfl⟩, hW, hsame.mono (by decide) (by decide)⟩
  show QExp3 Z w_UNWATCHED h0 n0 _ T1.heap _
  rw [e1]
  exact ⟨rfl, N0, rfl⟩
theorem efOf3 (m : MethodId)  : entryFrame m #[(.int (4 : Int32))] 5 = mkF m 0 #[.val (.int (4 : Int32)), .unset, .unset, .unset, .unset] [] := by first | (simp [entryFrame, mkF, argsToLocals, Value.category]; done) | rfl
def QOf3 (Z : State) (w_STORED : Addr) (w_REMOVED : Addr) (w_WATCHED : Addr) (w_UNWATCHED : Addr) (w_UNWATCHED_ALL : Addr) (w_CLOCK_READING : Addr) (w_ANSWERED : Addr) (w_UNDELIVERED : Addr) (w_DELIVERED : Addr) (w__VALUES : Addr) (k_ : ClassId) (h0 : Heap) (n0 : Nat) (v : Option Value) (h : Heap) (L : List Loc) : Prop := v = some (.ref w_UNWATCHED) ∧ Fr n0 L ∧ Keep h0 h []
set_option maxRecDepth 65536 in
set_option maxHeartbeats 40000000 in
theorem rmOf3 (l : Launch) (Z : State) (a0 : Array Value) (hw : ∀ d ∈ tables_1, d.before a0 Z = true) (ws : List Jvm.Cond) (w_STORED : Addr) (w_REMOVED : Addr) (w_WATCHED : Addr) (w_UNWATCHED : Addr) (w_UNWATCHED_ALL : Addr) (w_CLOCK_READING : Addr) (w_ANSWERED : Addr) (w_UNDELIVERED : Addr) (w_DELIVERED : Addr) (w__VALUES : Addr) (k_ : ClassId) (h0 : Heap) (n0 : Nat) (O0 : Old Z n0 h0) (P0 : Sta Z Z.heap "com/example/fawley/fawley/store/Change$Kind" "STORED" "Lcom/example/fawley/fawley/store/Change$Kind;" (.ref w_STORED)) (P1 : Exa Z Z.heap w_STORED "com/example/fawley/fawley/store/Change$Kind") (P2 : Fld Z Z.heap w_STORED "com/example/fawley/fawley/store/Change$Kind" "code" "B" (.int (1 : Int32))) (P3 : Sta Z Z.heap "com/example/fawley/fawley/store/Change$Kind" "REMOVED" "Lcom/example/fawley/fawley/store/Change$Kind;" (.ref w_REMOVED)) (P4 : Exa Z Z.heap w_REMOVED "com/example/fawley/fawley/store/Change$Kind") (P5 : Fld Z Z.heap w_REMOVED "com/example/fawley/fawley/store/Change$Kind" "code" "B" (.int (2 : Int32))) (P6 : Sta Z Z.heap "com/example/fawley/fawley/store/Change$Kind" "WATCHED" "Lcom/example/fawley/fawley/store/Change$Kind;" (.ref w_WATCHED)) (P7 : Exa Z Z.heap w_WATCHED "com/example/fawley/fawley/store/Change$Kind") (P8 : Fld Z Z.heap w_WATCHED "com/example/fawley/fawley/store/Change$Kind" "code" "B" (.int (3 : Int32))) (P9 : Sta Z Z.heap "com/example/fawley/fawley/store/Change$Kind" "UNWATCHED" "Lcom/example/fawley/fawley/store/Change$Kind;" (.ref w_UNWATCHED)) (P10 : Exa Z Z.heap w_UNWATCHED "com/example/fawley/fawley/store/Change$Kind") (P11 : Fld Z Z.heap w_UNWATCHED "com/example/fawley/fawley/store/Change$Kind" "code" "B" (.int (4 : Int32))) (P12 : Sta Z Z.heap "com/example/fawley/fawley/store/Change$Kind" "UNWATCHED_ALL" "Lcom/example/fawley/fawley/store/Change$Kind;" (.ref w_UNWATCHED_ALL)) (P13 : Exa Z Z.heap w_UNWATCHED_ALL "com/example/fawley/fawley/store/Change$Kind") (P14 : Fld Z Z.heap w_UNWATCHED_ALL "com/example/fawley/fawley/store/Change$Kind" "code" "B" (.int (5 : Int32))) (P15 : Sta Z Z.heap "com/example/fawley/fawley/store/Change$Kind" "CLOCK_READING" "Lcom/example/fawley/fawley/store/Change$Kind;" (.ref w_CLOCK_READING)) (P16 : Exa Z Z.heap w_CLOCK_READING "com/example/fawley/fawley/store/Change$Kind") (P17 : Fld Z Z.heap w_CLOCK_READING "com/example/fawley/fawley/store/Change$Kind" "code" "B" (.int (6 : Int32))) (P18 : Sta Z Z.heap "com/example/fawley/fawley/store/Change$Kind" "ANSWERED" "Lcom/example/fawley/fawley/store/Change$Kind;" (.ref w_ANSWERED)) (P19 : Exa Z Z.heap w_ANSWERED "com/example/fawley/fawley/store/Change$Kind") (P20 : Fld Z Z.heap w_ANSWERED "com/example/fawley/fawley/store/Change$Kind" "code" "B" (.int (7 : Int32))) (P21 : Sta Z Z.heap "com/example/fawley/fawley/store/Change$Kind" "UNDELIVERED" "Lcom/example/fawley/fawley/store/Change$Kind;" (.ref w_UNDELIVERED)) (P22 : Exa Z Z.heap w_UNDELIVERED "com/example/fawley/fawley/store/Change$Kind") (P23 : Fld Z Z.heap w_UNDELIVERED "com/example/fawley/fawley/store/Change$Kind" "code" "B" (.int (8 : Int32))) (P24 : Sta Z Z.heap "com/example/fawley/fawley/store/Change$Kind" "DELIVERED" "Lcom/example/fawley/fawley/store/Change$Kind;" (.ref w_DELIVERED)) (P25 : Exa Z Z.heap w_DELIVERED "com/example/fawley/fawley/store/Change$Kind") (P26 : Fld Z Z.heap w_DELIVERED "com/example/fawley/fawley/store/Change$Kind" "code" "B" (.int (9 : Int32))) (P27 : Sta Z Z.heap "com/example/fawley/fawley/store/Change$Kind" "$VALUES" "[Lcom/example/fawley/fawley/store/Change$Kind;" (.ref w__VALUES)) (P28 : Exa Z Z.heap w__VALUES "[Lcom/example/fawley/fawley/store/Change$Kind;") (P29 : Arv Z Z.heap w__VALUES k_ (.object "com/example/fawley/fawley/store/Change$Kind") (9 : Int32) [(.ref w_STORED), (.ref w_REMOVED), (.ref w_WATCHED), (.ref w_UNWATCHED), (.ref w_UNWATCHED_ALL), (.ref w_CLOCK_READING), (.ref w_ANSWERED), (.ref w_UNDELIVERED), (.ref w_DELIVERED)] .null) :
    MetFree l (⟨"com/example/fawley/fawley/store/Change$Kind", "of", "(B)Lcom/example/fawley/fawley/store/Change$Kind;"⟩ : MethodName) (head1 (Jvm.Cond.code (⟨"com/example/fawley/fawley/store/Change$Kind", "of", "(B)Lcom/example/fawley/fawley/store/Change$Kind;"⟩ : MethodName) prog_29_method_5_code 5 (some (.object "com/example/fawley/fawley/store/Change$Kind")) :: ws) ({ frames := 2, cells := 1, slots := 9, locals := 25 } : Room)) (fun a U => a = #[(.int (4 : Int32))] ∧ Z.Warmed39 U.vm ∧ U.heap = h0) (fun _ _ _ _ _ => True) (fun _ U o U' => ∃ v L, o = .returned v ∧ QOf3 Z w_STORED w_REMOVED w_WATCHED w_UNWATCHED w_UNWATCHED_ALL w_CLOCK_READING w_ANSWERED w_UNDELIVERED w_DELIVERED w__VALUES k_ h0 n0 v U'.heap L ∧ FrameEnd U o U' L ({ frames := 2, cells := 1, slots := 9, locals := 25 } : Room).cells ({ frames := 2, cells := 1, slots := 9, locals := 25 } : Room).slots) := by
  refine MetFree.of_bodySF (plainFor_of_name pn_0) hisR ?_
  intro p e s m args below meth c s₁ Bd hml0 hP hK
  obtain ⟨rfl, hZ, hh⟩ := hP
  have hx := Bd.exec
  have hby := Bd.bytes
  have hml : c.maxLocals = 5 := hml0
  have hown : s.vm.findClass "com/example/fawley/fawley/store/Change$Kind" = some m.cls := findClass_of_methodNamed Bd.named
  have hnm := (name_of_methodNamed Bd.named Bd.method).1
  have X0 : Stand p l e ({ frames := 2, cells := 1, slots := 9, locals := 25 } : Room) s m #[(.int (4 : Int32))] below meth c s₁ [] 0 0 := Stand.of_body Bd
  have e0 : s₁.heap = h0 := by rw [← hh, Bd.state]; rfl
  have N0 := Fr.nil n0
  have pre0 : ∀ t, Steps p.tables e below (s₁.setTop (mkF m 0 #[.val (.int (4 : Int32)), .unset, .unset, .unset, .unset] [])) t → Steps p.tables e below (s₁.setTop (entryFrame m #[(.int (4 : Int32))] 5)) t := fun t k => castTop (efOf3 m ) k
  have K0 : Keep h0 h0 [] := Keep.refl _ _
  obtain ⟨_, _, ⟨T1, L1, k1, n1⟩, -, X1, ⟨Lc1, hQ1, l1, y1, z1⟩, st1⟩ := Jvm.LawKit.callS X0 hx (y := (⟨"com/example/fawley/fawley/store/Change$Kind", "values", "()[Lcom/example/fawley/fawley/store/Change$Kind;"⟩ : MethodName)) hown (mvT hZ (hw _ (List.mem_of_getElem? (i := 11) rfl))) (mvT hZ (hw _ (List.mem_of_getElem? (i := 12) rfl))) (mvT hZ (hw _ (List.mem_of_getElem? (i := 6) rfl))) (mvT hZ (hw _ (List.mem_of_getElem? (i := 13) rfl))) (by decide) (backOf (W := 0) (rmVal l Z a0 hw [] w_STORED w_REMOVED w_WATCHED w_UNWATCHED w_UNWATCHED_ALL w_CLOCK_READING w_ANSWERED w_UNDELIVERED w_DELIVERED w__VALUES k_ h0 n0 O0 P0 P1 P2 P3 P4 P5 P6 P7 P8 P9 P10 P11 P12 P13 P14 P15 P16 P17 P18 P19 P20 P21 P22 P23 P24 P25 P26 P27 P28 P29) hZ (hw _ (List.mem_of_getElem? (i := 13) rfl)) (hw _ (List.mem_of_getElem? (i := 6) rfl)) (by decide) (by decide)) (g := (mkF m 0 #[.val (.int (4 : Int32)), .unset, .unset, .unset, .unset] [])) rfl (by rw [hml]; rfl) (argsL := []) (rest := []) (lenOf pd_0 rfl) rfl (by show 2 * 0 + _ ≤ _; exact Nat.le_of_eq rfl) (hb hby d3_0) (fun _ _ => ⟨rfl, e0, (by decide : 0 + 1 ≤ _), (by decide : 0 + 9 ≤ _)⟩)
  dsimp only [Pt.U, Pt.locs, Pt.cells, Pt.slots] at X1 l1 y1 z1 st1 hQ1
  subst l1 y1 z1
  obtain ⟨h1, e1⟩ : ∃ z, T1.heap = z := ⟨_, rfl⟩
  rw [e1] at hQ1
  obtain ⟨nb2_1, rfl, N1q, K1, sznb2_1, g1_0, g1_1⟩ := hQ1
  have N2 := Fr.app N0 N1q
  have ge3 : n0 ≤ nb2_1 := Nat.le_trans (Nat.le_trans (Nat.le_of_eq O0.1.symm) O0.2.1) sznb2_1
  have sz4 : h0.size ≤ nb2_1 := Nat.le_trans K0.1 sznb2_1
  obtain ⟨c5, r5, q5, s5, z5, y5, G5⟩ := id g1_0
  obtain ⟨c6, r6, q6, s6, z6, y6, G6⟩ := id g1_0
  have hin6 : ¬ ((0 : Int32) < 0 ∨ c6.slots.size ≤ ((0 : Int32)).toNatClampNeg) := inb_of s6 ⟨by decide, by decide⟩
  have hat6 : c6.slots[((0 : Int32)).toNatClampNeg]? = some (.ref w_STORED) := Has.at y6 hin6 rfl
  have f7 : Old Z n0 h1 := O0.keep K1 all0
  have f8 : Fld Z h1 w_STORED "com/example/fawley/fawley/store/Change$Kind" "code" "B" (.int (1 : Int32)) := P2.ext f7.2
  obtain ⟨T9, X9, e9, st9⟩ := getF X1 hx hZ hown (host := "") (Or.inl (hw _ (List.mem_of_getElem? (i := 34) rfl))) Via.refl e1 f8 (g := (mkF m 21 #[.val (.int (4 : Int32)), .val (.ref nb2_1), .val (.int (9 : Int32)), .val (.int (0 : Int32)), .val (.ref w_STORED)] [(.ref w_STORED)])) rfl rfl (hb hby d3_21)
  obtain ⟨c10, r10, q10, s10, z10, y10, G10⟩ := id g1_0
  have hin10 : ¬ ((1 : Int32) < 0 ∨ c10.slots.size ≤ ((1 : Int32)).toNatClampNeg) := inb_of s10 ⟨by decide, by decide⟩
  have hat10 : c10.slots[((1 : Int32)).toNatClampNeg]? = some (.ref w_REMOVED) := Has.at y10 hin10 rfl
  have f11 : Fld Z h1 w_REMOVED "com/example/fawley/fawley/store/Change$Kind" "code" "B" (.int (2 : Int32)) := P5.ext f7.2
  obtain ⟨T12, X12, e12, st12⟩ := getF X9 hx hZ hown (host := "") (Or.inl (hw _ (List.mem_of_getElem? (i := 34) rfl))) Via.refl e9 f11 (g := (mkF m 21 #[.val (.int (4 : Int32)), .val (.ref nb2_1), .val (.int (9 : Int32)), .val (.int (1 : Int32)), .val (.ref w_REMOVED)] [(.ref w_REMOVED)])) rfl rfl (hb hby d3_21)
  obtain ⟨c13, r13, q13, s13, z13, y13, G13⟩ := id g1_0
  have hin13 : ¬ ((2 : Int32) < 0 ∨ c13.slots.size ≤ ((2 : Int32)).toNatClampNeg) := inb_of s13 ⟨by decide, by decide⟩
  have hat13 : c13.slots[((2 : Int32)).toNatClampNeg]? = some (.ref w_WATCHED) := Has.at y13 hin13 rfl
  have f14 : Fld Z h1 w_WATCHED "com/example/fawley/fawley/store/Change$Kind" "code" "B" (.int (3 : Int32)) := P8.ext f7.2
  obtain ⟨T15, X15, e15, st15⟩ := getF X12 hx hZ hown (host := "") (Or.inl (hw _ (List.mem_of_getElem? (i := 34) rfl))) Via.refl e12 f14 (g := (mkF m 21 #[.val (.int (4 : Int32)), .val (.ref nb2_1), .val (.int (9 : Int32)), .val (.int (2 : Int32)), .val (.ref w_WATCHED)] [(.ref w_WATCHED)])) rfl rfl (hb hby d3_21)
  obtain ⟨c16, r16, q16, s16, z16, y16, G16⟩ := id g1_0
  have hin16 : ¬ ((3 : Int32) < 0 ∨ c16.slots.size ≤ ((3 : Int32)).toNatClampNeg) := inb_of s16 ⟨by decide, by decide⟩
  have hat16 : c16.slots[((3 : Int32)).toNatClampNeg]? = some (.ref w_UNWATCHED) := Has.at y16 hin16 rfl
  have f17 : Fld Z h1 w_UNWATCHED "com/example/fawley/fawley/store/Change$Kind" "code" "B" (.int (4 : Int32)) := P11.ext f7.2
  obtain ⟨T18, X18, e18, st18⟩ := getF X15 hx hZ hown (host := "") (Or.inl (hw _ (List.mem_of_getElem? (i := 34) rfl))) Via.refl e15 f17 (g := (mkF m 21 #[.val (.int (4 : Int32)), .val (.ref nb2_1), .val (.int (9 : Int32)), .val (.int (3 : Int32)), .val (.ref w_UNWATCHED)] [(.ref w_UNWATCHED)])) rfl rfl (hb hby d3_21)
  have pre19 : ∀ t, Steps p.tables e below (T18.setTop (mkF m 30 #[.val (.int (4 : Int32)), .val (.ref nb2_1), .val (.int (9 : Int32)), .val (.int (3 : Int32)), .val (.ref w_UNWATCHED)] [(.ref w_UNWATCHED)])) t → Steps p.tables e below (s₁.setTop (entryFrame m #[(.int (4 : Int32))] 5)) t := by
    intro t kt
    refine pre0 t ?_
    show Steps p.tables e below (s₁.setTop (mkF m 0 #[.val (.int (4 : Int32)), .unset, .unset, .unset, .unset] [])) _
    refine st1 _ ?_
    show Steps p.tables e below (T1.setTop (mkF m 3 #[.val (.int (4 : Int32)), .unset, .unset, .unset, .unset] [(.ref nb2_1)])) _
    refine XS.astoreN X1.here hx rfl (hb hby d3_3) rfl rfl (l' := #[.val (.int (4 : Int32)), .val (.ref nb2_1), .unset, .unset, .unset]) rfl ?_
    show Steps p.tables e below (T1.setTop (mkF m 4 #[.val (.int (4 : Int32)), .val (.ref nb2_1), .unset, .unset, .unset] [])) _
    refine XS.aloadN X1.here hx rfl (hb hby d3_4) rfl rfl ?_
    show Steps p.tables e below (T1.setTop (mkF m 5 #[.val (.int (4 : Int32)), .val (.ref nb2_1), .unset, .unset, .unset] [(.ref nb2_1)])) _
    refine X1.arraylength hx (by rw [e1]; exact r5.1) (State.isArrayOf_alike hZ.alike r5.2.1) (g := (mkF m 5 #[.val (.int (4 : Int32)), .val (.ref nb2_1), .unset, .unset, .unset] [(.ref nb2_1)])) rfl rfl (hb hby d3_5) _ ?_
    rw [len_of s5 z5]
    show Steps p.tables e below (T1.setTop (mkF m 6 #[.val (.int (4 : Int32)), .val (.ref nb2_1), .unset, .unset, .unset] [(.int (9 : Int32))])) _
    refine XS.istoreN X1.here hx rfl (hb hby d3_6) rfl (l' := #[.val (.int (4 : Int32)), .val (.ref nb2_1), .val (.int (9 : Int32)), .unset, .unset]) rfl ?_
    show Steps p.tables e below (T1.setTop (mkF m 7 #[.val (.int (4 : Int32)), .val (.ref nb2_1), .val (.int (9 : Int32)), .unset, .unset] [])) _
    refine XS.iconst X1.here hx rfl (hb hby d3_7) ?_
    show Steps p.tables e below (T1.setTop (mkF m 8 #[.val (.int (4 : Int32)), .val (.ref nb2_1), .val (.int (9 : Int32)), .unset, .unset] [(.int (0 : Int32))])) _
    refine XS.istoreN X1.here hx rfl (hb hby d3_8) rfl (l' := #[.val (.int (4 : Int32)), .val (.ref nb2_1), .val (.int (9 : Int32)), .val (.int (0 : Int32)), .unset]) rfl ?_
    show Steps p.tables e below (T1.setTop (mkF m 9 #[.val (.int (4 : Int32)), .val (.ref nb2_1), .val (.int (9 : Int32)), .val (.int (0 : Int32)), .unset] [])) _
    refine XS.iloadN X1.here hx rfl (hb hby d3_9) rfl ?_
    show Steps p.tables e below (T1.setTop (mkF m 10 #[.val (.int (4 : Int32)), .val (.ref nb2_1), .val (.int (9 : Int32)), .val (.int (0 : Int32)), .unset] [(.int (0 : Int32))])) _
    refine XS.iloadN X1.here hx rfl (hb hby d3_10) rfl ?_
    show Steps p.tables e below (T1.setTop (mkF m 11 #[.val (.int (4 : Int32)), .val (.ref nb2_1), .val (.int (9 : Int32)), .val (.int (0 : Int32)), .unset] [(.int (9 : Int32)), (.int (0 : Int32))])) _
    refine XS.icmpNo X1.here hx rfl (hb hby d3_11) rfl (tlt (by decide : (0 : Int32) < (9 : Int32))).2.1 ?_
    show Steps p.tables e below (T1.setTop (mkF m 14 #[.val (.int (4 : Int32)), .val (.ref nb2_1), .val (.int (9 : Int32)), .val (.int (0 : Int32)), .unset] [])) _
    refine XS.aloadN X1.here hx rfl (hb hby d3_14) rfl rfl ?_
    show Steps p.tables e below (T1.setTop (mkF m 15 #[.val (.int (4 : Int32)), .val (.ref nb2_1), .val (.int (9 : Int32)), .val (.int (0 : Int32)), .unset] [(.ref nb2_1)])) _
    refine XS.iloadN X1.here hx rfl (hb hby d3_15) rfl ?_
    show Steps p.tables e below (T1.setTop (mkF m 16 #[.val (.int (4 : Int32)), .val (.ref nb2_1), .val (.int (9 : Int32)), .val (.int (0 : Int32)), .unset] [(.int (0 : Int32)), (.ref nb2_1)])) _
    refine X1.aaload hx (j := (0 : Int32)) (v := (.ref w_STORED)) (by rw [e1]; exact r6.1) (State.isArrayOf_alike hZ.alike r6.2.1) rfl r6.2.2 hin6 hat6 (g := (mkF m 16 #[.val (.int (4 : Int32)), .val (.ref nb2_1), .val (.int (9 : Int32)), .val (.int (0 : Int32)), .unset] [(.int (0 : Int32)), (.ref nb2_1)])) rfl rfl (hb hby d3_16) _ ?_
    show Steps p.tables e below (T1.setTop (mkF m 17 #[.val (.int (4 : Int32)), .val (.ref nb2_1), .val (.int (9 : Int32)), .val (.int (0 : Int32)), .unset] [(.ref w_STORED)])) _
    refine XS.astore X1.here hx rfl (hb hby d3_17) rfl rfl (l' := #[.val (.int (4 : Int32)), .val (.ref nb2_1), .val (.int (9 : Int32)), .val (.int (0 : Int32)), .val (.ref w_STORED)]) rfl ?_
    show Steps p.tables e below (T1.setTop (mkF m 19 #[.val (.int (4 : Int32)), .val (.ref nb2_1), .val (.int (9 : Int32)), .val (.int (0 : Int32)), .val (.ref w_STORED)] [])) _
    refine XS.aload X1.here hx rfl (hb hby d3_19) rfl rfl ?_
    show Steps p.tables e below (T1.setTop (mkF m 21 #[.val (.int (4 : Int32)), .val (.ref nb2_1), .val (.int (9 : Int32)), .val (.int (0 : Int32)), .val (.ref w_STORED)] [(.ref w_STORED)])) _
    refine st9 _ ?_
    show Steps p.tables e below (T9.setTop (mkF m 24 #[.val (.int (4 : Int32)), .val (.ref nb2_1), .val (.int (9 : Int32)), .val (.int (0 : Int32)), .val (.ref w_STORED)] [(.int (1 : Int32))])) _
    refine XS.iloadN X9.here hx rfl (hb hby d3_24) rfl ?_
    show Steps p.tables e below (T9.setTop (mkF m 25 #[.val (.int (4 : Int32)), .val (.ref nb2_1), .val (.int (9 : Int32)), .val (.int (0 : Int32)), .val (.ref w_STORED)] [(.int (4 : Int32)), (.int (1 : Int32))])) _
    refine XS.icmpYes X9.here hx rfl (pc0 := 25) (pc' := 31) rfl (hb hby d3_25) rfl (feq (by decide : ¬ ((1 : Int32) = (4 : Int32)))).2 (by decide) (by decide) ?_
    show Steps p.tables e below (T9.setTop (mkF m 31 #[.val (.int (4 : Int32)), .val (.ref nb2_1), .val (.int (9 : Int32)), .val (.int (0 : Int32)), .val (.ref w_STORED)] [])) _
    refine XS.iinc X9.here hx rfl (hb hby d3_31) rfl (l' := #[.val (.int (4 : Int32)), .val (.ref nb2_1), .val (.int (9 : Int32)), .val (.int (1 : Int32)), .val (.ref w_STORED)]) rfl ?_
    show Steps p.tables e below (T9.setTop (mkF m 34 #[.val (.int (4 : Int32)), .val (.ref nb2_1), .val (.int (9 : Int32)), .val (.int (1 : Int32)), .val (.ref w_STORED)] [])) _
    refine XS.goto X9.here hx rfl (pc0 := 34) (pc' := 9) rfl (hb hby d3_34) (by decide) (by decide) ?_
    show Steps p.tables e below (T9.setTop (mkF m 9 #[.val (.int (4 : Int32)), .val (.ref nb2_1), .val (.int (9 : Int32)), .val (.int (1 : Int32)), .val (.ref w_STORED)] [])) _
    refine XS.iloadN X9.here hx rfl (hb hby d3_9) rfl ?_
    show Steps p.tables e below (T9.setTop (mkF m 10 #[.val (.int (4 : Int32)), .val (.ref nb2_1), .val (.int (9 : Int32)), .val (.int (1 : Int32)), .val (.ref w_STORED)] [(.int (1 : Int32))])) _
    refine XS.iloadN X9.here hx rfl (hb hby d3_10) rfl ?_
    show Steps p.tables e below (T9.setTop (mkF m 11 #[.val (.int (4 : Int32)), .val (.ref nb2_1), .val (.int (9 : Int32)), .val (.int (1 : Int32)), .val (.ref w_STORED)] [(.int (9 : Int32)), (.int (1 : Int32))])) _
    refine XS.icmpNo X9.here hx rfl (hb hby d3_11) rfl (tlt (by decide : (1 : Int32) < (9 : Int32))).2.1 ?_
    show Steps p.tables e below (T9.setTop (mkF m 14 #[.val (.int (4 : Int32)), .val (.ref nb2_1), .val (.int (9 : Int32)), .val (.int (1 : Int32)), .val (.ref w_STORED)] [])) _
    refine XS.aloadN X9.here hx rfl (hb hby d3_14) rfl rfl ?_
    show Steps p.tables e below (T9.setTop (mkF m 15 #[.val (.int (4 : Int32)), .val (.ref nb2_1), .val (.int (9 : Int32)), .val (.int (1 : Int32)), .val (.ref w_STORED)] [(.ref nb2_1)])) _
    refine XS.iloadN X9.here hx rfl (hb hby d3_15) rfl ?_
    show Steps p.tables e below (T9.setTop (mkF m 16 #[.val (.int (4 : Int32)), .val (.ref nb2_1), .val (.int (9 : Int32)), .val (.int (1 : Int32)), .val (.ref w_STORED)] [(.int (1 : Int32)), (.ref nb2_1)])) _
    refine X9.aaload hx (j := (1 : Int32)) (v := (.ref w_REMOVED)) (by rw [e9]; exact r10.1) (State.isArrayOf_alike hZ.alike r10.2.1) rfl r10.2.2 hin10 hat10 (g := (mkF m 16 #[.val (.int (4 : Int32)), .val (.ref nb2_1), .val (.int (9 : Int32)), .val (.int (1 : Int32)), .val (.ref w_STORED)] [(.int (1 : Int32)), (.ref nb2_1)])) rfl rfl (hb hby d3_16) _ ?_
    show Steps p.tables e below (T9.setTop (mkF m 17 #[.val (.int (4 : Int32)), .val (.ref nb2_1), .val (.int (9 : Int32)), .val (.int (1 : Int32)), .val (.ref w_STORED)] [(.ref w_REMOVED)])) _
    refine XS.astore X9.here hx rfl (hb hby d3_17) rfl rfl (l' := #[.val (.int (4 : Int32)), .val (.ref nb2_1), .val (.int (9 : Int32)), .val (.int (1 : Int32)), .val (.ref w_REMOVED)]) rfl ?_
    show Steps p.tables e below (T9.setTop (mkF m 19 #[.val (.int (4 : Int32)), .val (.ref nb2_1), .val (.int (9 : Int32)), .val (.int (1 : Int32)), .val (.ref w_REMOVED)] [])) _
    refine XS.aload X9.here hx rfl (hb hby d3_19) rfl rfl ?_
    show Steps p.tables e below (T9.setTop (mkF m 21 #[.val (.int (4 : Int32)), .val (.ref nb2_1), .val (.int (9 : Int32)), .val (.int (1 : Int32)), .val (.ref w_REMOVED)] [(.ref w_REMOVED)])) _
    refine st12 _ ?_
    show Steps p.tables e below (T12.setTop (mkF m 24 #[.val (.int (4 : Int32)), .val (.ref nb2_1), .val (.int (9 : Int32)), .val (.int (1 : Int32)), .val (.ref w_REMOVED)] [(.int (2 : Int32))])) _
    refine XS.iloadN X12.here hx rfl (hb hby d3_24) rfl ?_
    show Steps p.tables e below (T12.setTop (mkF m 25 #[.val (.int (4 : Int32)), .val (.ref nb2_1), .val (.int (9 : Int32)), .val (.int (1 : Int32)), .val (.ref w_REMOVED)] [(.int (4 : Int32)), (.int (2 : Int32))])) _
    refine XS.icmpYes X12.here hx rfl (pc0 := 25) (pc' := 31) rfl (hb hby d3_25) rfl (feq (by decide : ¬ ((2 : Int32) = (4 : Int32)))).2 (by decide) (by decide) ?_
    show Steps p.tables e below (T12.setTop (mkF m 31 #[.val (.int (4 : Int32)), .val (.ref nb2_1), .val (.int (9 : Int32)), .val (.int (1 : Int32)), .val (.ref w_REMOVED)] [])) _
    refine XS.iinc X12.here hx rfl (hb hby d3_31) rfl (l' := #[.val (.int (4 : Int32)), .val (.ref nb2_1), .val (.int (9 : Int32)), .val (.int (2 : Int32)), .val (.ref w_REMOVED)]) rfl ?_
    show Steps p.tables e below (T12.setTop (mkF m 34 #[.val (.int (4 : Int32)), .val (.ref nb2_1), .val (.int (9 : Int32)), .val (.int (2 : Int32)), .val (.ref w_REMOVED)] [])) _
    refine XS.goto X12.here hx rfl (pc0 := 34) (pc' := 9) rfl (hb hby d3_34) (by decide) (by decide) ?_
    show Steps p.tables e below (T12.setTop (mkF m 9 #[.val (.int (4 : Int32)), .val (.ref nb2_1), .val (.int (9 : Int32)), .val (.int (2 : Int32)), .val (.ref w_REMOVED)] [])) _
    refine XS.iloadN X12.here hx rfl (hb hby d3_9) rfl ?_
    show Steps p.tables e below (T12.setTop (mkF m 10 #[.val (.int (4 : Int32)), .val (.ref nb2_1), .val (.int (9 : Int32)), .val (.int (2 : Int32)), .val (.ref w_REMOVED)] [(.int (2 : Int32))])) _
    refine XS.iloadN X12.here hx rfl (hb hby d3_10) rfl ?_
    show Steps p.tables e below (T12.setTop (mkF m 11 #[.val (.int (4 : Int32)), .val (.ref nb2_1), .val (.int (9 : Int32)), .val (.int (2 : Int32)), .val (.ref w_REMOVED)] [(.int (9 : Int32)), (.int (2 : Int32))])) _
    refine XS.icmpNo X12.here hx rfl (hb hby d3_11) rfl (tlt (by decide : (2 : Int32) < (9 : Int32))).2.1 ?_
    show Steps p.tables e below (T12.setTop (mkF m 14 #[.val (.int (4 : Int32)), .val (.ref nb2_1), .val (.int (9 : Int32)), .val (.int (2 : Int32)), .val (.ref w_REMOVED)] [])) _
    refine XS.aloadN X12.here hx rfl (hb hby d3_14) rfl rfl ?_
    show Steps p.tables e below (T12.setTop (mkF m 15 #[.val (.int (4 : Int32)), .val (.ref nb2_1), .val (.int (9 : Int32)), .val (.int (2 : Int32)), .val (.ref w_REMOVED)] [(.ref nb2_1)])) _
    refine XS.iloadN X12.here hx rfl (hb hby d3_15) rfl ?_
    show Steps p.tables e below (T12.setTop (mkF m 16 #[.val (.int (4 : Int32)), .val (.ref nb2_1), .val (.int (9 : Int32)), .val (.int (2 : Int32)), .val (.ref w_REMOVED)] [(.int (2 : Int32)), (.ref nb2_1)])) _
    refine X12.aaload hx (j := (2 : Int32)) (v := (.ref w_WATCHED)) (by rw [e12]; exact r13.1) (State.isArrayOf_alike hZ.alike r13.2.1) rfl r13.2.2 hin13 hat13 (g := (mkF m 16 #[.val (.int (4 : Int32)), .val (.ref nb2_1), .val (.int (9 : Int32)), .val (.int (2 : Int32)), .val (.ref w_REMOVED)] [(.int (2 : Int32)), (.ref nb2_1)])) rfl rfl (hb hby d3_16) _ ?_
    show Steps p.tables e below (T12.setTop (mkF m 17 #[.val (.int (4 : Int32)), .val (.ref nb2_1), .val (.int (9 : Int32)), .val (.int (2 : Int32)), .val (.ref w_REMOVED)] [(.ref w_WATCHED)])) _
    refine XS.astore X12.here hx rfl (hb hby d3_17) rfl rfl (l' := #[.val (.int (4 : Int32)), .val (.ref nb2_1), .val (.int (9 : Int32)), .val (.int (2 : Int32)), .val (.ref w_WATCHED)]) rfl ?_
    show Steps p.tables e below (T12.setTop (mkF m 19 #[.val (.int (4 : Int32)), .val (.ref nb2_1), .val (.int (9 : Int32)), .val (.int (2 : Int32)), .val (.ref w_WATCHED)] [])) _
    refine XS.aload X12.here hx rfl (hb hby d3_19) rfl rfl ?_
    show Steps p.tables e below (T12.setTop (mkF m 21 #[.val (.int (4 : Int32)), .val (.ref nb2_1), .val (.int (9 : Int32)), .val (.int (2 : Int32)), .val (.ref w_WATCHED)] [(.ref w_WATCHED)])) _
    refine st15 _ ?_
    show Steps p.tables e below (T15.setTop (mkF m 24 #[.val (.int (4 : Int32)), .val (.ref nb2_1), .val (.int (9 : Int32)), .val (.int (2 : Int32)), .val (.ref w_WATCHED)] [(.int (3 : Int32))])) _
    refine XS.iloadN X15.here hx rfl (hb hby d3_24) rfl ?_
    show Steps p.tables e below (T15.setTop (mkF m 25 #[.val (.int (4 : Int32)), .val (.ref nb2_1), .val (.int (9 : Int32)), .val (.int (2 : Int32)), .val (.ref w_WATCHED)] [(.int (4 : Int32)), (.int (3 : Int32))])) _
    refine XS.icmpYes X15.here hx rfl (pc0 := 25) (pc' := 31) rfl (hb hby d3_25) rfl (feq (by decide : ¬ ((3 : Int32) = (4 : Int32)))).2 (by decide) (by decide) ?_
    show Steps p.tables e below (T15.setTop (mkF m 31 #[.val (.int (4 : Int32)), .val (.ref nb2_1), .val (.int (9 : Int32)), .val (.int (2 : Int32)), .val (.ref w_WATCHED)] [])) _
    refine XS.iinc X15.here hx rfl (hb hby d3_31) rfl (l' := #[.val (.int (4 : Int32)), .val (.ref nb2_1), .val (.int (9 : Int32)), .val (.int (3 : Int32)), .val (.ref w_WATCHED)]) rfl ?_
    show Steps p.tables e below (T15.setTop (mkF m 34 #[.val (.int (4 : Int32)), .val (.ref nb2_1), .val (.int (9 : Int32)), .val (.int (3 : Int32)), .val (.ref w_WATCHED)] [])) _
    refine XS.goto X15.here hx rfl (pc0 := 34) (pc' := 9) rfl (hb hby d3_34) (by decide) (by decide) ?_
    show Steps p.tables e below (T15.setTop (mkF m 9 #[.val (.int (4 : Int32)), .val (.ref nb2_1), .val (.int (9 : Int32)), .val (.int (3 : Int32)), .val (.ref w_WATCHED)] [])) _
    refine XS.iloadN X15.here hx rfl (hb hby d3_9) rfl ?_
    show Steps p.tables e below (T15.setTop (mkF m 10 #[.val (.int (4 : Int32)), .val (.ref nb2_1), .val (.int (9 : Int32)), .val (.int (3 : Int32)), .val (.ref w_WATCHED)] [(.int (3 : Int32))])) _
    refine XS.iloadN X15.here hx rfl (hb hby d3_10) rfl ?_
    show Steps p.tables e below (T15.setTop (mkF m 11 #[.val (.int (4 : Int32)), .val (.ref nb2_1), .val (.int (9 : Int32)), .val (.int (3 : Int32)), .val (.ref w_WATCHED)] [(.int (9 : Int32)), (.int (3 : Int32))])) _
    refine XS.icmpNo X15.here hx rfl (hb hby d3_11) rfl (tlt (by decide : (3 : Int32) < (9 : Int32))).2.1 ?_
    show Steps p.tables e below (T15.setTop (mkF m 14 #[.val (.int (4 : Int32)), .val (.ref nb2_1), .val (.int (9 : Int32)), .val (.int (3 : Int32)), .val (.ref w_WATCHED)] [])) _
    refine XS.aloadN X15.here hx rfl (hb hby d3_14) rfl rfl ?_
    show Steps p.tables e below (T15.setTop (mkF m 15 #[.val (.int (4 : Int32)), .val (.ref nb2_1), .val (.int (9 : Int32)), .val (.int (3 : Int32)), .val (.ref w_WATCHED)] [(.ref nb2_1)])) _
    refine XS.iloadN X15.here hx rfl (hb hby d3_15) rfl ?_
    show Steps p.tables e below (T15.setTop (mkF m 16 #[.val (.int (4 : Int32)), .val (.ref nb2_1), .val (.int (9 : Int32)), .val (.int (3 : Int32)), .val (.ref w_WATCHED)] [(.int (3 : Int32)), (.ref nb2_1)])) _
    refine X15.aaload hx (j := (3 : Int32)) (v := (.ref w_UNWATCHED)) (by rw [e15]; exact r16.1) (State.isArrayOf_alike hZ.alike r16.2.1) rfl r16.2.2 hin16 hat16 (g := (mkF m 16 #[.val (.int (4 : Int32)), .val (.ref nb2_1), .val (.int (9 : Int32)), .val (.int (3 : Int32)), .val (.ref w_WATCHED)] [(.int (3 : Int32)), (.ref nb2_1)])) rfl rfl (hb hby d3_16) _ ?_
    show Steps p.tables e below (T15.setTop (mkF m 17 #[.val (.int (4 : Int32)), .val (.ref nb2_1), .val (.int (9 : Int32)), .val (.int (3 : Int32)), .val (.ref w_WATCHED)] [(.ref w_UNWATCHED)])) _
    refine XS.astore X15.here hx rfl (hb hby d3_17) rfl rfl (l' := #[.val (.int (4 : Int32)), .val (.ref nb2_1), .val (.int (9 : Int32)), .val (.int (3 : Int32)), .val (.ref w_UNWATCHED)]) rfl ?_
    show Steps p.tables e below (T15.setTop (mkF m 19 #[.val (.int (4 : Int32)), .val (.ref nb2_1), .val (.int (9 : Int32)), .val (.int (3 : Int32)), .val (.ref w_UNWATCHED)] [])) _
    refine XS.aload X15.here hx rfl (hb hby d3_19) rfl rfl ?_
    show Steps p.tables e below (T15.setTop (mkF m 21 #[.val (.int (4 : Int32)), .val (.ref nb2_1), .val (.int (9 : Int32)), .val (.int (3 : Int32)), .val (.ref w_UNWATCHED)] [(.ref w_UNWATCHED)])) _
    refine st18 _ ?_
    show Steps p.tables e below (T18.setTop (mkF m 24 #[.val (.int (4 : Int32)), .val (.ref nb2_1), .val (.int (9 : Int32)), .val (.int (3 : Int32)), .val (.ref w_UNWATCHED)] [(.int (4 : Int32))])) _
    refine XS.iloadN X18.here hx rfl (hb hby d3_24) rfl ?_
    show Steps p.tables e below (T18.setTop (mkF m 25 #[.val (.int (4 : Int32)), .val (.ref nb2_1), .val (.int (9 : Int32)), .val (.int (3 : Int32)), .val (.ref w_UNWATCHED)] [(.int (4 : Int32)), (.int (4 : Int32))])) _
    refine XS.icmpNo X18.here hx rfl (hb hby d3_25) rfl (teq (by decide : (4 : Int32) = (4 : Int32))).2 ?_
    show Steps p.tables e below (T18.setTop (mkF m 28 #[.val (.int (4 : Int32)), .val (.ref nb2_1), .val (.int (9 : Int32)), .val (.int (3 : Int32)), .val (.ref w_UNWATCHED)] [])) _
    refine XS.aload X18.here hx rfl (hb hby d3_28) rfl rfl ?_
    exact kt
  have f21 : Keep h0 h1 [] := K0.trans K1 all0
  obtain ⟨fs, hr, hrun, hended, hW, hsame⟩ := X18.leave (v := some (.ref w_UNWATCHED)) (fun h => by rw [Bd.returns] at h; cases h)
  refine ⟨_, _, pre19 _ (retOut X18 hx Bd.returns rfl (Or.inr (Or.inr (Or.inr (Or.inr ⟨rfl, rfl, rfl⟩)))) (hb hby d3_30) hr), hrun, hended, _, _, rfl, ?_, ⟨_, rfl⟩, hW, hsame.mono (by decide) (by decide)⟩
  show QOf3 Z w_STORED w_REMOVED w_WATCHED w_UNWATCHED w_UNWATCHED_ALL w_CLOCK_READING w_ANSWERED w_UNDELIVERED w_DELIVERED w__VALUES k_ h0 n0 _ T18.heap _
  rw [e18]
  exact ⟨rfl, N2, f21⟩
theorem d2_36 : decode method_2_code 36 = .ok (.iload_n 0, 1) := by decide +kernel
theorem d2_37 : decode method_2_code 37 = .ok (.iconst 5, 1) := by decide +kernel
theorem d2_38 : decode method_2_code 38 = .ok (.if_icmp .ne 7, 3) := by decide +kernel
theorem d2_41 : decode method_2_code 41 = .ok (.getstatic 22, 3) := by decide +kernel
theorem d2_44 : decode method_2_code 44 = .ok (.areturn, 1) := by decide +kernel
theorem efExp4 (m : MethodId)  : entryFrame m #[(.int (5 : Int32))] 1 = mkF m 0 #[.val (.int (5 : Int32))] [] := by first | (simp [entryFrame, mkF, argsToLocals, Value.category]; done) | rfl
def QExp4 (Z : State) (w_UNWATCHED_ALL : Addr) (h0 : Heap) (n0 : Nat) (v : Option Value) (h : Heap) (L : List Loc) : Prop := v = some (.ref w_UNWATCHED_ALL) ∧ Fr n0 L ∧ h = h0
set_option maxRecDepth 65536 in
set_option maxHeartbeats 40000000 in
theorem rmExp4 (l : Launch) (Z : State) (a0 : Array Value) (hw : ∀ d ∈ tables_1, d.before a0 Z = true) (ws : List Jvm.Cond) (w_UNWATCHED_ALL : Addr) (h0 : Heap) (n0 : Nat) (O0 : Old Z n0 h0) (P0 : Sta Z Z.heap "com/example/fawley/fawley/store/Change$Kind" "UNWATCHED_ALL" "Lcom/example/fawley/fawley/store/Change$Kind;" (.ref w_UNWATCHED_ALL)) :
    MetFree l (⟨"com/example/fawley/fawley/store/KindOfPinLaw", "expected", "(I)Lcom/example/fawley/fawley/store/Change$Kind;"⟩ : MethodName) (head1 (Jvm.Cond.code (⟨"com/example/fawley/fawley/store/KindOfPinLaw", "expected", "(I)Lcom/example/fawley/fawley/store/Change$Kind;"⟩ : MethodName) method_2_code 1 (some (.object "com/example/fawley/fawley/store/Change$Kind")) :: ws) ({ frames := 0, cells := 0, slots := 0, locals := 0 } : Room)) (fun a U => a = #[(.int (5 : Int32))] ∧ Z.Warmed39 U.vm ∧ U.heap = h0) (fun _ _ _ _ _ => True) (fun _ U o U' => ∃ v L, o = .returned v ∧ QExp4 Z w_UNWATCHED_ALL h0 n0 v U'.heap L ∧ FrameEnd U o U' L ({ frames := 0, cells := 0, slots := 0, locals := 0 } : Room).cells ({ frames := 0, cells := 0, slots := 0, locals := 0 } : Room).slots) := by
  refine MetFree.of_bodySF (plainFor_of_name pn_1) hisR ?_
  intro p e s m args below meth c s₁ Bd hml0 hP hK
  obtain ⟨rfl, hZ, hh⟩ := hP
  have hx := Bd.exec
  have hby := Bd.bytes
  have hml : c.maxLocals = 1 := hml0
  have hown : s.vm.findClass "com/example/fawley/fawley/store/KindOfPinLaw" = some m.cls := findClass_of_methodNamed Bd.named
  have hnm := (name_of_methodNamed Bd.named Bd.method).1
  have X0 : Stand p l e ({ frames := 0, cells := 0, slots := 0, locals := 0 } : Room) s m #[(.int (5 : Int32))] below meth c s₁ [] 0 0 := Stand.of_body Bd
  have e0 : s₁.heap = h0 := by rw [← hh, Bd.state]; rfl
  have N0 := Fr.nil n0
  have pre0 : ∀ t, Steps p.tables e below (s₁.setTop (mkF m 0 #[.val (.int (5 : Int32))] [])) t → Steps p.tables e below (s₁.setTop (entryFrame m #[(.int (5 : Int32))] 1)) t := fun t k => castTop (efExp4 m ) k
  have K0 : Keep h0 h0 [] := Keep.refl _ _
  obtain ⟨T1, X1, e1, st1⟩ := getS2 X0 hx hZ hown (host := "") (Or.inl (hw _ (List.mem_of_getElem? (i := 45) rfl))) Via.refl e0 (P0.ext O0.2) (g := (mkF m 41 #[.val (.int (5 : Int32))] [])) rfl (hb hby d2_41)
  have pre2 : ∀ t, Steps p.tables e below (T1.setTop (mkF m 44 #[.val (.int (5 : Int32))] [(.ref w_UNWATCHED_ALL)])) t → Steps p.tables e below (s₁.setTop (entryFrame m #[(.int (5 : Int32))] 1)) t := by
    intro t kt
    refine pre0 t ?_
    show Steps p.tables e below (s₁.setTop (mkF m 0 #[.val (.int (5 : Int32))] [])) _
    refine XS.iloadN X0.here hx rfl (hb hby d2_0) rfl ?_
    show Steps p.tables e below (s₁.setTop (mkF m 1 #[.val (.int (5 : Int32))] [(.int (5 : Int32))])) _
    refine XS.iconst X0.here hx rfl (hb hby d2_1) ?_
    show Steps p.tables e below (s₁.setTop (mkF m 2 #[.val (.int (5 : Int32))] [(.int (1 : Int32)), (.int (5 : Int32))])) _
    refine XS.icmpYes X0.here hx rfl (pc0 := 2) (pc' := 9) rfl (hb hby d2_2) rfl (feq (by decide : ¬ ((5 : Int32) = (1 : Int32)))).2 (by decide) (by decide) ?_
    show Steps p.tables e below (s₁.setTop (mkF m 9 #[.val (.int (5 : Int32))] [])) _
    refine XS.iloadN X0.here hx rfl (hb hby d2_9) rfl ?_
    show Steps p.tables e below (s₁.setTop (mkF m 10 #[.val (.int (5 : Int32))] [(.int (5 : Int32))])) _
    refine XS.iconst X0.here hx rfl (hb hby d2_10) ?_
    show Steps p.tables e below (s₁.setTop (mkF m 11 #[.val (.int (5 : Int32))] [(.int (2 : Int32)), (.int (5 : Int32))])) _
    refine XS.icmpYes X0.here hx rfl (pc0 := 11) (pc' := 18) rfl (hb hby d2_11) rfl (feq (by decide : ¬ ((5 : Int32) = (2 : Int32)))).2 (by decide) (by decide) ?_
    show Steps p.tables e below (s₁.setTop (mkF m 18 #[.val (.int (5 : Int32))] [])) _
    refine XS.iloadN X0.here hx rfl (hb hby d2_18) rfl ?_
    show Steps p.tables e below (s₁.setTop (mkF m 19 #[.val (.int (5 : Int32))] [(.int (5 : Int32))])) _
    refine XS.iconst X0.here hx rfl (hb hby d2_19) ?_
    show Steps p.tables e below (s₁.setTop (mkF m 20 #[.val (.int (5 : Int32))] [(.int (3 : Int32)), (.int (5 : Int32))])) _
    refine XS.icmpYes X0.here hx rfl (pc0 := 20) (pc' := 27) rfl (hb hby d2_20) rfl (feq (by decide : ¬ ((5 : Int32) = (3 : Int32)))).2 (by decide) (by decide) ?_
    show Steps p.tables e below (s₁.setTop (mkF m 27 #[.val (.int (5 : Int32))] [])) _
    refine XS.iloadN X0.here hx rfl (hb hby d2_27) rfl ?_
    show Steps p.tables e below (s₁.setTop (mkF m 28 #[.val (.int (5 : Int32))] [(.int (5 : Int32))])) _
    refine XS.iconst X0.here hx rfl (hb hby d2_28) ?_
    show Steps p.tables e below (s₁.setTop (mkF m 29 #[.val (.int (5 : Int32))] [(.int (4 : Int32)), (.int (5 : Int32))])) _
    refine XS.icmpYes X0.here hx rfl (pc0 := 29) (pc' := 36) rfl (hb hby d2_29) rfl (feq (by decide : ¬ ((5 : Int32) = (4 : Int32)))).2 (by decide) (by decide) ?_
    show Steps p.tables e below (s₁.setTop (mkF m 36 #[.val (.int (5 : Int32))] [])) _
    refine XS.iloadN X0.here hx rfl (hb hby d2_36) rfl ?_
    show Steps p.tables e below (s₁.setTop (mkF m 37 #[.val (.int (5 : Int32))] [(.int (5 : Int32))])) _
    refine XS.iconst X0.here hx rfl (hb hby d2_37) ?_
    show Steps p.tables e below (s₁.setTop (mkF m 38 #[.val (.int (5 : Int32))] [(.int (5 : Int32)), (.int (5 : Int32))])) _
    refine XS.icmpNo X0.here hx rfl (hb hby d2_38) rfl (teq (by decide : (5 : Int32) = (5 : Int32))).2 ?_
    show Steps p.tables e below (s₁.setTop (mkF m 41 #[.val (.int (5 : Int32))] [])) _
    refine st1 _ ?_
    exact kt
  obtain ⟨fs, hr, hrun, hended, hW, hsame⟩ := X1.leave (v := some (.ref w_UNWATCHED_ALL)) (fun h => by rw [Bd.returns] at h; cases h)
  refine ⟨_, _, pre2 _ (retOut X1 hx Bd.returns rfl (Or.inr (Or.inr (Or.inr (Or.inr ⟨rfl, rfl, rfl⟩)))) (hb hby d2_44) hr), hrun, hended, _, _, rfl, ?_, ⟨_, rfl⟩, hW, hsame.mono (by decide) (by decide)⟩
  show QExp4 Z w_UNWATCHED_ALL h0 n0 _ T1.heap _
  rw [e1]
  exact ⟨rfl, N0, rfl⟩
theorem efOf4 (m : MethodId)  : entryFrame m #[(.int (5 : Int32))] 5 = mkF m 0 #[.val (.int (5 : Int32)), .unset, .unset, .unset, .unset] [] := by first | (simp [entryFrame, mkF, argsToLocals, Value.category]; done) | rfl
def QOf4 (Z : State) (w_STORED : Addr) (w_REMOVED : Addr) (w_WATCHED : Addr) (w_UNWATCHED : Addr) (w_UNWATCHED_ALL : Addr) (w_CLOCK_READING : Addr) (w_ANSWERED : Addr) (w_UNDELIVERED : Addr) (w_DELIVERED : Addr) (w__VALUES : Addr) (k_ : ClassId) (h0 : Heap) (n0 : Nat) (v : Option Value) (h : Heap) (L : List Loc) : Prop := v = some (.ref w_UNWATCHED_ALL) ∧ Fr n0 L ∧ Keep h0 h []
set_option maxRecDepth 65536 in
set_option maxHeartbeats 40000000 in
theorem rmOf4 (l : Launch) (Z : State) (a0 : Array Value) (hw : ∀ d ∈ tables_1, d.before a0 Z = true) (ws : List Jvm.Cond) (w_STORED : Addr) (w_REMOVED : Addr) (w_WATCHED : Addr) (w_UNWATCHED : Addr) (w_UNWATCHED_ALL : Addr) (w_CLOCK_READING : Addr) (w_ANSWERED : Addr) (w_UNDELIVERED : Addr) (w_DELIVERED : Addr) (w__VALUES : Addr) (k_ : ClassId) (h0 : Heap) (n0 : Nat) (O0 : Old Z n0 h0) (P0 : Sta Z Z.heap "com/example/fawley/fawley/store/Change$Kind" "STORED" "Lcom/example/fawley/fawley/store/Change$Kind;" (.ref w_STORED)) (P1 : Exa Z Z.heap w_STORED "com/example/fawley/fawley/store/Change$Kind") (P2 : Fld Z Z.heap w_STORED "com/example/fawley/fawley/store/Change$Kind" "code" "B" (.int (1 : Int32))) (P3 : Sta Z Z.heap "com/example/fawley/fawley/store/Change$Kind" "REMOVED" "Lcom/example/fawley/fawley/store/Change$Kind;" (.ref w_REMOVED)) (P4 : Exa Z Z.heap w_REMOVED "com/example/fawley/fawley/store/Change$Kind") (P5 : Fld Z Z.heap w_REMOVED "com/example/fawley/fawley/store/Change$Kind" "code" "B" (.int (2 : Int32))) (P6 : Sta Z Z.heap "com/example/fawley/fawley/store/Change$Kind" "WATCHED" "Lcom/example/fawley/fawley/store/Change$Kind;" (.ref w_WATCHED)) (P7 : Exa Z Z.heap w_WATCHED "com/example/fawley/fawley/store/Change$Kind") (P8 : Fld Z Z.heap w_WATCHED "com/example/fawley/fawley/store/Change$Kind" "code" "B" (.int (3 : Int32))) (P9 : Sta Z Z.heap "com/example/fawley/fawley/store/Change$Kind" "UNWATCHED" "Lcom/example/fawley/fawley/store/Change$Kind;" (.ref w_UNWATCHED)) (P10 : Exa Z Z.heap w_UNWATCHED "com/example/fawley/fawley/store/Change$Kind") (P11 : Fld Z Z.heap w_UNWATCHED "com/example/fawley/fawley/store/Change$Kind" "code" "B" (.int (4 : Int32))) (P12 : Sta Z Z.heap "com/example/fawley/fawley/store/Change$Kind" "UNWATCHED_ALL" "Lcom/example/fawley/fawley/store/Change$Kind;" (.ref w_UNWATCHED_ALL)) (P13 : Exa Z Z.heap w_UNWATCHED_ALL "com/example/fawley/fawley/store/Change$Kind") (P14 : Fld Z Z.heap w_UNWATCHED_ALL "com/example/fawley/fawley/store/Change$Kind" "code" "B" (.int (5 : Int32))) (P15 : Sta Z Z.heap "com/example/fawley/fawley/store/Change$Kind" "CLOCK_READING" "Lcom/example/fawley/fawley/store/Change$Kind;" (.ref w_CLOCK_READING)) (P16 : Exa Z Z.heap w_CLOCK_READING "com/example/fawley/fawley/store/Change$Kind") (P17 : Fld Z Z.heap w_CLOCK_READING "com/example/fawley/fawley/store/Change$Kind" "code" "B" (.int (6 : Int32))) (P18 : Sta Z Z.heap "com/example/fawley/fawley/store/Change$Kind" "ANSWERED" "Lcom/example/fawley/fawley/store/Change$Kind;" (.ref w_ANSWERED)) (P19 : Exa Z Z.heap w_ANSWERED "com/example/fawley/fawley/store/Change$Kind") (P20 : Fld Z Z.heap w_ANSWERED "com/example/fawley/fawley/store/Change$Kind" "code" "B" (.int (7 : Int32))) (P21 : Sta Z Z.heap "com/example/fawley/fawley/store/Change$Kind" "UNDELIVERED" "Lcom/example/fawley/fawley/store/Change$Kind;" (.ref w_UNDELIVERED)) (P22 : Exa Z Z.heap w_UNDELIVERED "com/example/fawley/fawley/store/Change$Kind") (P23 : Fld Z Z.heap w_UNDELIVERED "com/example/fawley/fawley/store/Change$Kind" "code" "B" (.int (8 : Int32))) (P24 : Sta Z Z.heap "com/example/fawley/fawley/store/Change$Kind" "DELIVERED" "Lcom/example/fawley/fawley/store/Change$Kind;" (.ref w_DELIVERED)) (P25 : Exa Z Z.heap w_DELIVERED "com/example/fawley/fawley/store/Change$Kind") (P26 : Fld Z Z.heap w_DELIVERED "com/example/fawley/fawley/store/Change$Kind" "code" "B" (.int (9 : Int32))) (P27 : Sta Z Z.heap "com/example/fawley/fawley/store/Change$Kind" "$VALUES" "[Lcom/example/fawley/fawley/store/Change$Kind;" (.ref w__VALUES)) (P28 : Exa Z Z.heap w__VALUES "[Lcom/example/fawley/fawley/store/Change$Kind;") (P29 : Arv Z Z.heap w__VALUES k_ (.object "com/example/fawley/fawley/store/Change$Kind") (9 : Int32) [(.ref w_STORED), (.ref w_REMOVED), (.ref w_WATCHED), (.ref w_UNWATCHED), (.ref w_UNWATCHED_ALL), (.ref w_CLOCK_READING), (.ref w_ANSWERED), (.ref w_UNDELIVERED), (.ref w_DELIVERED)] .null) :
    MetFree l (⟨"com/example/fawley/fawley/store/Change$Kind", "of", "(B)Lcom/example/fawley/fawley/store/Change$Kind;"⟩ : MethodName) (head1 (Jvm.Cond.code (⟨"com/example/fawley/fawley/store/Change$Kind", "of", "(B)Lcom/example/fawley/fawley/store/Change$Kind;"⟩ : MethodName) prog_29_method_5_code 5 (some (.object "com/example/fawley/fawley/store/Change$Kind")) :: ws) ({ frames := 2, cells := 1, slots := 9, locals := 25 } : Room)) (fun a U => a = #[(.int (5 : Int32))] ∧ Z.Warmed39 U.vm ∧ U.heap = h0) (fun _ _ _ _ _ => True) (fun _ U o U' => ∃ v L, o = .returned v ∧ QOf4 Z w_STORED w_REMOVED w_WATCHED w_UNWATCHED w_UNWATCHED_ALL w_CLOCK_READING w_ANSWERED w_UNDELIVERED w_DELIVERED w__VALUES k_ h0 n0 v U'.heap L ∧ FrameEnd U o U' L ({ frames := 2, cells := 1, slots := 9, locals := 25 } : Room).cells ({ frames := 2, cells := 1, slots := 9, locals := 25 } : Room).slots) := by
  refine MetFree.of_bodySF (plainFor_of_name pn_0) hisR ?_
  intro p e s m args below meth c s₁ Bd hml0 hP hK
  obtain ⟨rfl, hZ, hh⟩ := hP
  have hx := Bd.exec
  have hby := Bd.bytes
  have hml : c.maxLocals = 5 := hml0
  have hown : s.vm.findClass "com/example/fawley/fawley/store/Change$Kind" = some m.cls := findClass_of_methodNamed Bd.named
  have hnm := (name_of_methodNamed Bd.named Bd.method).1
  have X0 : Stand p l e ({ frames := 2, cells := 1, slots := 9, locals := 25 } : Room) s m #[(.int (5 : Int32))] below meth c s₁ [] 0 0 := Stand.of_body Bd
  have e0 : s₁.heap = h0 := by rw [← hh, Bd.state]; rfl
  have N0 := Fr.nil n0
  have pre0 : ∀ t, Steps p.tables e below (s₁.setTop (mkF m 0 #[.val (.int (5 : Int32)), .unset, .unset, .unset, .unset] [])) t → Steps p.tables e below (s₁.setTop (entryFrame m #[(.int (5 : Int32))] 5)) t := fun t k => castTop (efOf4 m ) k
  have K0 : Keep h0 h0 [] := Keep.refl _ _
  obtain ⟨_, _, ⟨T1, L1, k1, n1⟩, -, X1, ⟨Lc1, hQ1, l1, y1, z1⟩, st1⟩ := Jvm.LawKit.callS X0 hx (y := (⟨"com/example/fawley/fawley/store/Change$Kind", "values", "()[Lcom/example/fawley/fawley/store/Change$Kind;"⟩ : MethodName)) hown (mvT hZ (hw _ (List.mem_of_getElem? (i := 11) rfl))) (mvT hZ (hw _ (List.mem_of_getElem? (i := 12) rfl))) (mvT hZ (hw _ (List.mem_of_getElem? (i := 6) rfl))) (mvT hZ (hw _ (List.mem_of_getElem? (i := 13) rfl))) (by decide) (backOf (W := 0) (rmVal l Z a0 hw [] w_STORED w_REMOVED w_WATCHED w_UNWATCHED w_UNWATCHED_ALL w_CLOCK_READING w_ANSWERED w_UNDELIVERED w_DELIVERED w__VALUES k_ h0 n0 O0 P0 P1 P2 P3 P4 P5 P6 P7 P8 P9 P10 P11 P12 P13 P14 P15 P16 P17 P18 P19 P20 P21 P22 P23 P24 P25 P26 P27 P28 P29) hZ (hw _ (List.mem_of_getElem? (i := 13) rfl)) (hw _ (List.mem_of_getElem? (i := 6) rfl)) (by decide) (by decide)) (g := (mkF m 0 #[.val (.int (5 : Int32)), .unset, .unset, .unset, .unset] [])) rfl (by rw [hml]; rfl) (argsL := []) (rest := []) (lenOf pd_0 rfl) rfl (by show 2 * 0 + _ ≤ _; exact Nat.le_of_eq rfl) (hb hby d3_0) (fun _ _ => ⟨rfl, e0, (by decide : 0 + 1 ≤ _), (by decide : 0 + 9 ≤ _)⟩)
  dsimp only [Pt.U, Pt.locs, Pt.cells, Pt.slots] at X1 l1 y1 z1 st1 hQ1
  subst l1 y1 z1
  obtain ⟨h1, e1⟩ : ∃ z, T1.heap = z := ⟨_, rfl⟩
  rw [e1] at hQ1
  obtain ⟨nb2_1, rfl, N1q, K1, sznb2_1, g1_0, g1_1⟩ := hQ1
  have N2 := Fr.app N0 N1q
  have ge3 : n0 ≤ nb2_1 := Nat.le_trans (Nat.le_trans (Nat.le_of_eq O0.1.symm) O0.2.1) sznb2_1
  have sz4 : h0.size ≤ nb2_1 := Nat.le_trans K0.1 sznb2_1
  obtain ⟨c5, r5, q5, s5, z5, y5, G5⟩ := id g1_0
  obtain ⟨c6, r6, q6, s6, z6, y6, G6⟩ := id g1_0
  have hin6 : ¬ ((0 : Int32) < 0 ∨ c6.slots.size ≤ ((0 : Int32)).toNatClampNeg) := inb_of s6 ⟨by decide, by decide⟩
  have hat6 : c6.slots[((0 : Int32)).toNatClampNeg]? = some (.ref w_STORED) := Has.at y6 hin6 rfl
  have f7 : Old Z n0 h1 := O0.keep K1 all0
  have f8 : Fld Z h1 w_STORED "com/example/fawley/fawley/store/Change$Kind" "code" "B" (.int (1 : Int32)) := P2.ext f7.2
  obtain ⟨T9, X9, e9, st9⟩ := getF X1 hx hZ hown (host := "") (Or.inl (hw _ (List.mem_of_getElem? (i := 34) rfl))) Via.refl e1 f8 (g := (mkF m 21 #[.val (.int (5 : Int32)), .val (.ref nb2_1), .val (.int (9 : Int32)), .val (.int (0 : Int32)), .val (.ref w_STORED)] [(.ref w_STORED)])) rfl rfl (hb hby d3_21)
  obtain ⟨c10, r10, q10, s10, z10, y10, G10⟩ := id g1_0
  have hin10 : ¬ ((1 : Int32) < 0 ∨ c10.slots.size ≤ ((1 : Int32)).toNatClampNeg) := inb_of s10 ⟨by decide, by decide⟩
  have hat10 : c10.slots[((1 : Int32)).toNatClampNeg]? = some (.ref w_REMOVED) := Has.at y10 hin10 rfl
  have f11 : Fld Z h1 w_REMOVED "com/example/fawley/fawley/store/Change$Kind" "code" "B" (.int (2 : Int32)) := P5.ext f7.2
  obtain ⟨T12, X12, e12, st12⟩ := getF X9 hx hZ hown (host := "") (Or.inl (hw _ (List.mem_of_getElem? (i := 34) rfl))) Via.refl e9 f11 (g := (mkF m 21 #[.val (.int (5 : Int32)), .val (.ref nb2_1), .val (.int (9 : Int32)), .val (.int (1 : Int32)), .val (.ref w_REMOVED)] [(.ref w_REMOVED)])) rfl rfl (hb hby d3_21)
  obtain ⟨c13, r13, q13, s13, z13, y13, G13⟩ := id g1_0
  have hin13 : ¬ ((2 : Int32) < 0 ∨ c13.slots.size ≤ ((2 : Int32)).toNatClampNeg) := inb_of s13 ⟨by decide, by decide⟩
  have hat13 : c13.slots[((2 : Int32)).toNatClampNeg]? = some (.ref w_WATCHED) := Has.at y13 hin13 rfl
  have f14 : Fld Z h1 w_WATCHED "com/example/fawley/fawley/store/Change$Kind" "code" "B" (.int (3 : Int32)) := P8.ext f7.2
  obtain ⟨T15, X15, e15, st15⟩ := getF X12 hx hZ hown (host := "") (Or.inl (hw _ (List.mem_of_getElem? (i := 34) rfl))) Via.refl e12 f14 (g := (mkF m 21 #[.val (.int (5 : Int32)), .val (.ref nb2_1), .val (.int (9 : Int32)), .val (.int (2 : Int32)), .val (.ref w_WATCHED)] [(.ref w_WATCHED)])) rfl rfl (hb hby d3_21)
  obtain ⟨c16, r16, q16, s16, z16, y16, G16⟩ := id g1_0
  have hin16 : ¬ ((3 : Int32) < 0 ∨ c16.slots.size ≤ ((3 : Int32)).toNatClampNeg) := inb_of s16 ⟨by decide, by decide⟩
  have hat16 : c16.slots[((3 : Int32)).toNatClampNeg]? = some (.ref w_UNWATCHED) := Has.at y16 hin16 rfl
  have f17 : Fld Z h1 w_UNWATCHED "com/example/fawley/fawley/store/Change$Kind" "code" "B" (.int (4 : Int32)) := P11.ext f7.2
  obtain ⟨T18, X18, e18, st18⟩ := getF X15 hx hZ hown (host := "") (Or.inl (hw _ (List.mem_of_getElem? (i := 34) rfl))) Via.refl e15 f17 (g := (mkF m 21 #[.val (.int (5 : Int32)), .val (.ref nb2_1), .val (.int (9 : Int32)), .val (.int (3 : Int32)), .val (.ref w_UNWATCHED)] [(.ref w_UNWATCHED)])) rfl rfl (hb hby d3_21)
  obtain ⟨c19, r19, q19, s19, z19, y19, G19⟩ := id g1_0
  have hin19 : ¬ ((4 : Int32) < 0 ∨ c19.slots.size ≤ ((4 : Int32)).toNatClampNeg) := inb_of s19 ⟨by decide, by decide⟩
  have hat19 : c19.slots[((4 : Int32)).toNatClampNeg]? = some (.ref w_UNWATCHED_ALL) := Has.at y19 hin19 rfl
  have f20 : Fld Z h1 w_UNWATCHED_ALL "com/example/fawley/fawley/store/Change$Kind" "code" "B" (.int (5 : Int32)) := P14.ext f7.2
  obtain ⟨T21, X21, e21, st21⟩ := getF X18 hx hZ hown (host := "") (Or.inl (hw _ (List.mem_of_getElem? (i := 34) rfl))) Via.refl e18 f20 (g := (mkF m 21 #[.val (.int (5 : Int32)), .val (.ref nb2_1), .val (.int (9 : Int32)), .val (.int (4 : Int32)), .val (.ref w_UNWATCHED_ALL)] [(.ref w_UNWATCHED_ALL)])) rfl rfl (hb hby d3_21)
  have pre22 : ∀ t, Steps p.tables e below (T21.setTop (mkF m 30 #[.val (.int (5 : Int32)), .val (.ref nb2_1), .val (.int (9 : Int32)), .val (.int (4 : Int32)), .val (.ref w_UNWATCHED_ALL)] [(.ref w_UNWATCHED_ALL)])) t → Steps p.tables e below (s₁.setTop (entryFrame m #[(.int (5 : Int32))] 5)) t := by
    intro t kt
    refine pre0 t ?_
    show Steps p.tables e below (s₁.setTop (mkF m 0 #[.val (.int (5 : Int32)), .unset, .unset, .unset, .unset] [])) _
    refine st1 _ ?_
    show Steps p.tables e below (T1.setTop (mkF m 3 #[.val (.int (5 : Int32)), .unset, .unset, .unset, .unset] [(.ref nb2_1)])) _
    refine XS.astoreN X1.here hx rfl (hb hby d3_3) rfl rfl (l' := #[.val (.int (5 : Int32)), .val (.ref nb2_1), .unset, .unset, .unset]) rfl ?_
    show Steps p.tables e below (T1.setTop (mkF m 4 #[.val (.int (5 : Int32)), .val (.ref nb2_1), .unset, .unset, .unset] [])) _
    refine XS.aloadN X1.here hx rfl (hb hby d3_4) rfl rfl ?_
    show Steps p.tables e below (T1.setTop (mkF m 5 #[.val (.int (5 : Int32)), .val (.ref nb2_1), .unset, .unset, .unset] [(.ref nb2_1)])) _
    refine X1.arraylength hx (by rw [e1]; exact r5.1) (State.isArrayOf_alike hZ.alike r5.2.1) (g := (mkF m 5 #[.val (.int (5 : Int32)), .val (.ref nb2_1), .unset, .unset, .unset] [(.ref nb2_1)])) rfl rfl (hb hby d3_5) _ ?_
    rw [len_of s5 z5]
    show Steps p.tables e below (T1.setTop (mkF m 6 #[.val (.int (5 : Int32)), .val (.ref nb2_1), .unset, .unset, .unset] [(.int (9 : Int32))])) _
    refine XS.istoreN X1.here hx rfl (hb hby d3_6) rfl (l' := #[.val (.int (5 : Int32)), .val (.ref nb2_1), .val (.int (9 : Int32)), .unset, .unset]) rfl ?_
    show Steps p.tables e below (T1.setTop (mkF m 7 #[.val (.int (5 : Int32)), .val (.ref nb2_1), .val (.int (9 : Int32)), .unset, .unset] [])) _
    refine XS.iconst X1.here hx rfl (hb hby d3_7) ?_
    show Steps p.tables e below (T1.setTop (mkF m 8 #[.val (.int (5 : Int32)), .val (.ref nb2_1), .val (.int (9 : Int32)), .unset, .unset] [(.int (0 : Int32))])) _
    refine XS.istoreN X1.here hx rfl (hb hby d3_8) rfl (l' := #[.val (.int (5 : Int32)), .val (.ref nb2_1), .val (.int (9 : Int32)), .val (.int (0 : Int32)), .unset]) rfl ?_
    show Steps p.tables e below (T1.setTop (mkF m 9 #[.val (.int (5 : Int32)), .val (.ref nb2_1), .val (.int (9 : Int32)), .val (.int (0 : Int32)), .unset] [])) _
    refine XS.iloadN X1.here hx rfl (hb hby d3_9) rfl ?_
    show Steps p.tables e below (T1.setTop (mkF m 10 #[.val (.int (5 : Int32)), .val (.ref nb2_1), .val (.int (9 : Int32)), .val (.int (0 : Int32)), .unset] [(.int (0 : Int32))])) _
    refine XS.iloadN X1.here hx rfl (hb hby d3_10) rfl ?_
    show Steps p.tables e below (T1.setTop (mkF m 11 #[.val (.int (5 : Int32)), .val (.ref nb2_1), .val (.int (9 : Int32)), .val (.int (0 : Int32)), .unset] [(.int (9 : Int32)), (.int (0 : Int32))])) _
    refine XS.icmpNo X1.here hx rfl (hb hby d3_11) rfl (tlt (by decide : (0 : Int32) < (9 : Int32))).2.1 ?_
    show Steps p.tables e below (T1.setTop (mkF m 14 #[.val (.int (5 : Int32)), .val (.ref nb2_1), .val (.int (9 : Int32)), .val (.int (0 : Int32)), .unset] [])) _
    refine XS.aloadN X1.here hx rfl (hb hby d3_14) rfl rfl ?_
    show Steps p.tables e below (T1.setTop (mkF m 15 #[.val (.int (5 : Int32)), .val (.ref nb2_1), .val (.int (9 : Int32)), .val (.int (0 : Int32)), .unset] [(.ref nb2_1)])) _
    refine XS.iloadN X1.here hx rfl (hb hby d3_15) rfl ?_
    show Steps p.tables e below (T1.setTop (mkF m 16 #[.val (.int (5 : Int32)), .val (.ref nb2_1), .val (.int (9 : Int32)), .val (.int (0 : Int32)), .unset] [(.int (0 : Int32)), (.ref nb2_1)])) _
    refine X1.aaload hx (j := (0 : Int32)) (v := (.ref w_STORED)) (by rw [e1]; exact r6.1) (State.isArrayOf_alike hZ.alike r6.2.1) rfl r6.2.2 hin6 hat6 (g := (mkF m 16 #[.val (.int (5 : Int32)), .val (.ref nb2_1), .val (.int (9 : Int32)), .val (.int (0 : Int32)), .unset] [(.int (0 : Int32)), (.ref nb2_1)])) rfl rfl (hb hby d3_16) _ ?_
    show Steps p.tables e below (T1.setTop (mkF m 17 #[.val (.int (5 : Int32)), .val (.ref nb2_1), .val (.int (9 : Int32)), .val (.int (0 : Int32)), .unset] [(.ref w_STORED)])) _
    refine XS.astore X1.here hx rfl (hb hby d3_17) rfl rfl (l' := #[.val (.int (5 : Int32)), .val (.ref nb2_1), .val (.int (9 : Int32)), .val (.int (0 : Int32)), .val (.ref w_STORED)]) rfl ?_
    show Steps p.tables e below (T1.setTop (mkF m 19 #[.val (.int (5 : Int32)), .val (.ref nb2_1), .val (.int (9 : Int32)), .val (.int (0 : Int32)), .val (.ref w_STORED)] [])) _
    refine XS.aload X1.here hx rfl (hb hby d3_19) rfl rfl ?_
    show Steps p.tables e below (T1.setTop (mkF m 21 #[.val (.int (5 : Int32)), .val (.ref nb2_1), .val (.int (9 : Int32)), .val (.int (0 : Int32)), .val (.ref w_STORED)] [(.ref w_STORED)])) _
    refine st9 _ ?_
    show Steps p.tables e below (T9.setTop (mkF m 24 #[.val (.int (5 : Int32)), .val (.ref nb2_1), .val (.int (9 : Int32)), .val (.int (0 : Int32)), .val (.ref w_STORED)] [(.int (1 : Int32))])) _
    refine XS.iloadN X9.here hx rfl (hb hby d3_24) rfl ?_
    show Steps p.tables e below (T9.setTop (mkF m 25 #[.val (.int (5 : Int32)), .val (.ref nb2_1), .val (.int (9 : Int32)), .val (.int (0 : Int32)), .val (.ref w_STORED)] [(.int (5 : Int32)), (.int (1 : Int32))])) _
    refine XS.icmpYes X9.here hx rfl (pc0 := 25) (pc' := 31) rfl (hb hby d3_25) rfl (feq (by decide : ¬ ((1 : Int32) = (5 : Int32)))).2 (by decide) (by decide) ?_
    show Steps p.tables e below (T9.setTop (mkF m 31 #[.val (.int (5 : Int32)), .val (.ref nb2_1), .val (.int (9 : Int32)), .val (.int (0 : Int32)), .val (.ref w_STORED)] [])) _
    refine XS.iinc X9.here hx rfl (hb hby d3_31) rfl (l' := #[.val (.int (5 : Int32)), .val (.ref nb2_1), .val (.int (9 : Int32)), .val (.int (1 : Int32)), .val (.ref w_STORED)]) rfl ?_
    show Steps p.tables e below (T9.setTop (mkF m 34 #[.val (.int (5 : Int32)), .val (.ref nb2_1), .val (.int (9 : Int32)), .val (.int (1 : Int32)), .val (.ref w_STORED)] [])) _
    refine XS.goto X9.here hx rfl (pc0 := 34) (pc' := 9) rfl (hb hby d3_34) (by decide) (by decide) ?_
    show Steps p.tables e below (T9.setTop (mkF m 9 #[.val (.int (5 : Int32)), .val (.ref nb2_1), .val (.int (9 : Int32)), .val (.int (1 : Int32)), .val (.ref w_STORED)] [])) _
    refine XS.iloadN X9.here hx rfl (hb hby d3_9) rfl ?_
    show Steps p.tables e below (T9.setTop (mkF m 10 #[.val (.int (5 : Int32)), .val (.ref nb2_1), .val (.int (9 : Int32)), .val (.int (1 : Int32)), .val (.ref w_STORED)] [(.int (1 : Int32))])) _
    refine XS.iloadN X9.here hx rfl (hb hby d3_10) rfl ?_
    show Steps p.tables e below (T9.setTop (mkF m 11 #[.val (.int (5 : Int32)), .val (.ref nb2_1), .val (.int (9 : Int32)), .val (.int (1 : Int32)), .val (.ref w_STORED)] [(.int (9 : Int32)), (.int (1 : Int32))])) _
    refine XS.icmpNo X9.here hx rfl (hb hby d3_11) rfl (tlt (by decide : (1 : Int32) < (9 : Int32))).2.1 ?_
    show Steps p.tables e below (T9.setTop (mkF m 14 #[.val (.int (5 : Int32)), .val (.ref nb2_1), .val (.int (9 : Int32)), .val (.int (1 : Int32)), .val (.ref w_STORED)] [])) _
    refine XS.aloadN X9.here hx rfl (hb hby d3_14) rfl rfl ?_
    show Steps p.tables e below (T9.setTop (mkF m 15 #[.val (.int (5 : Int32)), .val (.ref nb2_1), .val (.int (9 : Int32)), .val (.int (1 : Int32)), .val (.ref w_STORED)] [(.ref nb2_1)])) _
    refine XS.iloadN X9.here hx rfl (hb hby d3_15) rfl ?_
    show Steps p.tables e below (T9.setTop (mkF m 16 #[.val (.int (5 : Int32)), .val (.ref nb2_1), .val (.int (9 : Int32)), .val (.int (1 : Int32)), .val (.ref w_STORED)] [(.int (1 : Int32)), (.ref nb2_1)])) _
    refine X9.aaload hx (j := (1 : Int32)) (v := (.ref w_REMOVED)) (by rw [e9]; exact r10.1) (State.isArrayOf_alike hZ.alike r10.2.1) rfl r10.2.2 hin10 hat10 (g := (mkF m 16 #[.val (.int (5 : Int32)), .val (.ref nb2_1), .val (.int (9 : Int32)), .val (.int (1 : Int32)), .val (.ref w_STORED)] [(.int (1 : Int32)), (.ref nb2_1)])) rfl rfl (hb hby d3_16) _ ?_
    show Steps p.tables e below (T9.setTop (mkF m 17 #[.val (.int (5 : Int32)), .val (.ref nb2_1), .val (.int (9 : Int32)), .val (.int (1 : Int32)), .val (.ref w_STORED)] [(.ref w_REMOVED)])) _
    refine XS.astore X9.here hx rfl (hb hby d3_17) rfl rfl (l' := #[.val (.int (5 : Int32)), .val (.ref nb2_1), .val (.int (9 : Int32)), .val (.int (1 : Int32)), .val (.ref w_REMOVED)]) rfl ?_
    show Steps p.tables e below (T9.setTop (mkF m 19 #[.val (.int (5 : Int32)), .val (.ref nb2_1), .val (.int (9 : Int32)), .val (.int (1 : Int32)), .val (.ref w_REMOVED)] [])) _
    refine XS.aload X9.here hx rfl (hb hby d3_19) rfl rfl ?_
    show Steps p.tables e below (T9.setTop (mkF m 21 #[.val (.int (5 : Int32)), .val (.ref nb2_1), .val (.int (9 : Int32)), .val (.int (1 : Int32)), .val (.ref w_REMOVED)] [(.ref w_REMOVED)])) _
    refine st12 _ ?_
    show Steps p.tables e below (T12.setTop (mkF m 24 #[.val (.int (5 : Int32)), .val (.ref nb2_1), .val (.int (9 : Int32)), .val (.int (1 : Int32)), .val (.ref w_REMOVED)] [(.int (2 : Int32))])) _
    refine XS.iloadN X12.here hx rfl (hb hby d3_24) rfl ?_
    show Steps p.tables e below (T12.setTop (mkF m 25 #[.val (.int (5 : Int32)), .val (.ref nb2_1), .val (.int (9 : Int32)), .val (.int (1 : Int32)), .val (.ref w_REMOVED)] [(.int (5 : Int32)), (.int (2 : Int32))])) _
    refine XS.icmpYes X12.here hx rfl (pc0 := 25) (pc' := 31) rfl (hb hby d3_25) rfl (feq (by decide : ¬ ((2 : Int32) = (5 : Int32)))).2 (by decide) (by decide) ?_
    show Steps p.tables e below (T12.setTop (mkF m 31 #[.val (.int (5 : Int32)), .val (.ref nb2_1), .val (.int (9 : Int32)), .val (.int (1 : Int32)), .val (.ref w_REMOVED)] [])) _
    refine XS.iinc X12.here hx rfl (hb hby d3_31) rfl (l' := #[.val (.int (5 : Int32)), .val (.ref nb2_1), .val (.int (9 : Int32)), .val (.int (2 : Int32)), .val (.ref w_REMOVED)]) rfl ?_
    show Steps p.tables e below (T12.setTop (mkF m 34 #[.val (.int (5 : Int32)), .val (.ref nb2_1), .val (.int (9 : Int32)), .val (.int (2 : Int32)), .val (.ref w_REMOVED)] [])) _
    refine XS.goto X12.here hx rfl (pc0 := 34) (pc' := 9) rfl (hb hby d3_34) (by decide) (by decide) ?_
    show Steps p.tables e below (T12.setTop (mkF m 9 #[.val (.int (5 : Int32)), .val (.ref nb2_1), .val (.int (9 : Int32)), .val (.int (2 : Int32)), .val (.ref w_REMOVED)] [])) _
    refine XS.iloadN X12.here hx rfl (hb hby d3_9) rfl ?_
    show Steps p.tables e below (T12.setTop (mkF m 10 #[.val (.int (5 : Int32)), .val (.ref nb2_1), .val (.int (9 : Int32)), .val (.int (2 : Int32)), .val (.ref w_REMOVED)] [(.int (2 : Int32))])) _
    refine XS.iloadN X12.here hx rfl (hb hby d3_10) rfl ?_
    show Steps p.tables e below (T12.setTop (mkF m 11 #[.val (.int (5 : Int32)), .val (.ref nb2_1), .val (.int (9 : Int32)), .val (.int (2 : Int32)), .val (.ref w_REMOVED)] [(.int (9 : Int32)), (.int (2 : Int32))])) _
    refine XS.icmpNo X12.here hx rfl (hb hby d3_11) rfl (tlt (by decide : (2 : Int32) < (9 : Int32))).2.1 ?_
    show Steps p.tables e below (T12.setTop (mkF m 14 #[.val (.int (5 : Int32)), .val (.ref nb2_1), .val (.int (9 : Int32)), .val (.int (2 : Int32)), .val (.ref w_REMOVED)] [])) _
    refine XS.aloadN X12.here hx rfl (hb hby d3_14) rfl rfl ?_
    show Steps p.tables e below (T12.setTop (mkF m 15 #[.val (.int (5 : Int32)), .val (.ref nb2_1), .val (.int (9 : Int32)), .val (.int (2 : Int32)), .val (.ref w_REMOVED)] [(.ref nb2_1)])) _
    refine XS.iloadN X12.here hx rfl (hb hby d3_15) rfl ?_
    show Steps p.tables e below (T12.setTop (mkF m 16 #[.val (.int (5 : Int32)), .val (.ref nb2_1), .val (.int (9 : Int32)), .val (.int (2 : Int32)), .val (.ref w_REMOVED)] [(.int (2 : Int32)), (.ref nb2_1)])) _
    refine X12.aaload hx (j := (2 : Int32)) (v := (.ref w_WATCHED)) (by rw [e12]; exact r13.1) (State.isArrayOf_alike hZ.alike r13.2.1) rfl r13.2.2 hin13 hat13 (g := (mkF m 16 #[.val (.int (5 : Int32)), .val (.ref nb2_1), .val (.int (9 : Int32)), .val (.int (2 : Int32)), .val (.ref w_REMOVED)] [(.int (2 : Int32)), (.ref nb2_1)])) rfl rfl (hb hby d3_16) _ ?_
    show Steps p.tables e below (T12.setTop (mkF m 17 #[.val (.int (5 : Int32)), .val (.ref nb2_1), .val (.int (9 : Int32)), .val (.int (2 : Int32)), .val (.ref w_REMOVED)] [(.ref w_WATCHED)])) _
    refine XS.astore X12.here hx rfl (hb hby d3_17) rfl rfl (l' := #[.val (.int (5 : Int32)), .val (.ref nb2_1), .val (.int (9 : Int32)), .val (.int (2 : Int32)), .val (.ref w_WATCHED)]) rfl ?_
    show Steps p.tables e below (T12.setTop (mkF m 19 #[.val (.int (5 : Int32)), .val (.ref nb2_1), .val (.int (9 : Int32)), .val (.int (2 : Int32)), .val (.ref w_WATCHED)] [])) _
    refine XS.aload X12.here hx rfl (hb hby d3_19) rfl rfl ?_
    show Steps p.tables e below (T12.setTop (mkF m 21 #[.val (.int (5 : Int32)), .val (.ref nb2_1), .val (.int (9 : Int32)), .val (.int (2 : Int32)), .val (.ref w_WATCHED)] [(.ref w_WATCHED)])) _
    refine st15 _ ?_
    show Steps p.tables e below (T15.setTop (mkF m 24 #[.val (.int (5 : Int32)), .val (.ref nb2_1), .val (.int (9 : Int32)), .val (.int (2 : Int32)), .val (.ref w_WATCHED)] [(.int (3 : Int32))])) _
    refine XS.iloadN X15.here hx rfl (hb hby d3_24) rfl ?_
    show Steps p.tables e below (T15.setTop (mkF m 25 #[.val (.int (5 : Int32)), .val (.ref nb2_1), .val (.int (9 : Int32)), .val (.int (2 : Int32)), .val (.ref w_WATCHED)] [(.int (5 : Int32)), (.int (3 : Int32))])) _
    refine XS.icmpYes X15.here hx rfl (pc0 := 25) (pc' := 31) rfl (hb hby d3_25) rfl (feq (by decide : ¬ ((3 : Int32) = (5 : Int32)))).2 (by decide) (by decide) ?_
    show Steps p.tables e below (T15.setTop (mkF m 31 #[.val (.int (5 : Int32)), .val (.ref nb2_1), .val (.int (9 : Int32)), .val (.int (2 : Int32)), .val (.ref w_WATCHED)] [])) _
    refine XS.iinc X15.here hx rfl (hb hby d3_31) rfl (l' := #[.val (.int (5 : Int32)), .val (.ref nb2_1), .val (.int (9 : Int32)), .val (.int (3 : Int32)), .val (.ref w_WATCHED)]) rfl ?_
    show Steps p.tables e below (T15.setTop (mkF m 34 #[.val (.int (5 : Int32)), .val (.ref nb2_1), .val (.int (9 : Int32)), .val (.int (3 : Int32)), .val (.ref w_WATCHED)] [])) _
    refine XS.goto X15.here hx rfl (pc0 := 34) (pc' := 9) rfl (hb hby d3_34) (by decide) (by decide) ?_
    show Steps p.tables e below (T15.setTop (mkF m 9 #[.val (.int (5 : Int32)), .val (.ref nb2_1), .val (.int (9 : Int32)), .val (.int (3 : Int32)), .val (.ref w_WATCHED)] [])) _
    refine XS.iloadN X15.here hx rfl (hb hby d3_9) rfl ?_
    show Steps p.tables e below (T15.setTop (mkF m 10 #[.val (.int (5 : Int32)), .val (.ref nb2_1), .val (.int (9 : Int32)), .val (.int (3 : Int32)), .val (.ref w_WATCHED)] [(.int (3 : Int32))])) _
    refine XS.iloadN X15.here hx rfl (hb hby d3_10) rfl ?_
    show Steps p.tables e below (T15.setTop (mkF m 11 #[.val (.int (5 : Int32)), .val (.ref nb2_1), .val (.int (9 : Int32)), .val (.int (3 : Int32)), .val (.ref w_WATCHED)] [(.int (9 : Int32)), (.int (3 : Int32))])) _
    refine XS.icmpNo X15.here hx rfl (hb hby d3_11) rfl (tlt (by decide : (3 : Int32) < (9 : Int32))).2.1 ?_
    show Steps p.tables e below (T15.setTop (mkF m 14 #[.val (.int (5 : Int32)), .val (.ref nb2_1), .val (.int (9 : Int32)), .val (.int (3 : Int32)), .val (.ref w_WATCHED)] [])) _
    refine XS.aloadN X15.here hx rfl (hb hby d3_14) rfl rfl ?_
    show Steps p.tables e below (T15.setTop (mkF m 15 #[.val (.int (5 : Int32)), .val (.ref nb2_1), .val (.int (9 : Int32)), .val (.int (3 : Int32)), .val (.ref w_WATCHED)] [(.ref nb2_1)])) _
    refine XS.iloadN X15.here hx rfl (hb hby d3_15) rfl ?_
    show Steps p.tables e below (T15.setTop (mkF m 16 #[.val (.int (5 : Int32)), .val (.ref nb2_1), .val (.int (9 : Int32)), .val (.int (3 : Int32)), .val (.ref w_WATCHED)] [(.int (3 : Int32)), (.ref nb2_1)])) _
    refine X15.aaload hx (j := (3 : Int32)) (v := (.ref w_UNWATCHED)) (by rw [e15]; exact r16.1) (State.isArrayOf_alike hZ.alike r16.2.1) rfl r16.2.2 hin16 hat16 (g := (mkF m 16 #[.val (.int (5 : Int32)), .val (.ref nb2_1), .val (.int (9 : Int32)), .val (.int (3 : Int32)), .val (.ref w_WATCHED)] [(.int (3 : Int32)), (.ref nb2_1)])) rfl rfl (hb hby d3_16) _ ?_
    show Steps p.tables e below (T15.setTop (mkF m 17 #[.val (.int (5 : Int32)), .val (.ref nb2_1), .val (.int (9 : Int32)), .val (.int (3 : Int32)), .val (.ref w_WATCHED)] [(.ref w_UNWATCHED)])) _
    refine XS.astore X15.here hx rfl (hb hby d3_17) rfl rfl (l' := #[.val (.int (5 : Int32)), .val (.ref nb2_1), .val (.int (9 : Int32)), .val (.int (3 : Int32)), .val (.ref w_UNWATCHED)]) rfl ?_
    show Steps p.tables e below (T15.setTop (mkF m 19 #[.val (.int (5 : Int32)), .val (.ref nb2_1), .val (.int (9 : Int32)), .val (.int (3 : Int32)), .val (.ref w_UNWATCHED)] [])) _
    refine XS.aload X15.here hx rfl (hb hby d3_19) rfl rfl ?_
    show Steps p.tables e below (T15.setTop (mkF m 21 #[.val (.int (5 : Int32)), .val (.ref nb2_1), .val (.int (9 : Int32)), .val (.int (3 : Int32)), .val (.ref w_UNWATCHED)] [(.ref w_UNWATCHED)])) _
    refine st18 _ ?_
    show Steps p.tables e below (T18.setTop (mkF m 24 #[.val (.int (5 : Int32)), .val (.ref nb2_1), .val (.int (9 : Int32)), .val (.int (3 : Int32)), .val (.ref w_UNWATCHED)] [(.int (4 : Int32))])) _
    refine XS.iloadN X18.here hx rfl (hb hby d3_24) rfl ?_
    show Steps p.tables e below (T18.setTop (mkF m 25 #[.val (.int (5 : Int32)), .val (.ref nb2_1), .val (.int (9 : Int32)), .val (.int (3 : Int32)), .val (.ref w_UNWATCHED)] [(.int (5 : Int32)), (.int (4 : Int32))])) _
    refine XS.icmpYes X18.here hx rfl (pc0 := 25) (pc' := 31) rfl (hb hby d3_25) rfl (feq (by decide : ¬ ((4 : Int32) = (5 : Int32)))).2 (by decide) (by decide) ?_
    show Steps p.tables e below (T18.setTop (mkF m 31 #[.val (.int (5 : Int32)), .val (.ref nb2_1), .val (.int (9 : Int32)), .val (.int (3 : Int32)), .val (.ref w_UNWATCHED)] [])) _
    refine XS.iinc X18.here hx rfl (hb hby d3_31) rfl (l' := #[.val (.int (5 : Int32)), .val (.ref nb2_1), .val (.int (9 : Int32)), .val (.int (4 : Int32)), .val (.ref w_UNWATCHED)]) rfl ?_
    show Steps p.tables e below (T18.setTop (mkF m 34 #[.val (.int (5 : Int32)), .val (.ref nb2_1), .val (.int (9 : Int32)), .val (.int (4 : Int32)), .val (.ref w_UNWATCHED)] [])) _
    refine XS.goto X18.here hx rfl (pc0 := 34) (pc' := 9) rfl (hb hby d3_34) (by decide) (by decide) ?_
    show Steps p.tables e below (T18.setTop (mkF m 9 #[.val (.int (5 : Int32)), .val (.ref nb2_1), .val (.int (9 : Int32)), .val (.int (4 : Int32)), .val (.ref w_UNWATCHED)] [])) _
    refine XS.iloadN X18.here hx rfl (hb hby d3_9) rfl ?_
    show Steps p.tables e below (T18.setTop (mkF m 10 #[.val (.int (5 : Int32)), .val (.ref nb2_1), .val (.int (9 : Int32)), .val (.int (4 : Int32)), .val (.ref w_UNWATCHED)] [(.int (4 : Int32))])) _
    refine XS.iloadN X18.here hx rfl (hb hby d3_10) rfl ?_
    show Steps p.tables e below (T18.setTop (mkF m 11 #[.val (.int (5 : Int32)), .val (.ref nb2_1), .val (.int (9 : Int32)), .val (.int (4 : Int32)), .val (.ref w_UNWATCHED)] [(.int (9 : Int32)), (.int (4 : Int32))])) _
    refine XS.icmpNo X18.here hx rfl (hb hby d3_11) rfl (tlt (by decide : (4 : Int32) < (9 : Int32))).2.1 ?_
    show Steps p.tables e below (T18.setTop (mkF m 14 #[.val (.int (5 : Int32)), .val (.ref nb2_1), .val (.int (9 : Int32)), .val (.int (4 : Int32)), .val (.ref w_UNWATCHED)] [])) _
    refine XS.aloadN X18.here hx rfl (hb hby d3_14) rfl rfl ?_
    show Steps p.tables e below (T18.setTop (mkF m 15 #[.val (.int (5 : Int32)), .val (.ref nb2_1), .val (.int (9 : Int32)), .val (.int (4 : Int32)), .val (.ref w_UNWATCHED)] [(.ref nb2_1)])) _
    refine XS.iloadN X18.here hx rfl (hb hby d3_15) rfl ?_
    show Steps p.tables e below (T18.setTop (mkF m 16 #[.val (.int (5 : Int32)), .val (.ref nb2_1), .val (.int (9 : Int32)), .val (.int (4 : Int32)), .val (.ref w_UNWATCHED)] [(.int (4 : Int32)), (.ref nb2_1)])) _
    refine X18.aaload hx (j := (4 : Int32)) (v := (.ref w_UNWATCHED_ALL)) (by rw [e18]; exact r19.1) (State.isArrayOf_alike hZ.alike r19.2.1) rfl r19.2.2 hin19 hat19 (g := (mkF m 16 #[.val (.int (5 : Int32)), .val (.ref nb2_1), .val (.int (9 : Int32)), .val (.int (4 : Int32)), .val (.ref w_UNWATCHED)] [(.int (4 : Int32)), (.ref nb2_1)])) rfl rfl (hb hby d3_16) _ ?_
    show Steps p.tables e below (T18.setTop (mkF m 17 #[.val (.int (5 : Int32)), .val (.ref nb2_1), .val (.int (9 : Int32)), .val (.int (4 : Int32)), .val (.ref w_UNWATCHED)] [(.ref w_UNWATCHED_ALL)])) _
    refine XS.astore X18.here hx rfl (hb hby d3_17) rfl rfl (l' := #[.val (.int (5 : Int32)), .val (.ref nb2_1), .val (.int (9 : Int32)), .val (.int (4 : Int32)), .val (.ref w_UNWATCHED_ALL)]) rfl ?_
    show Steps p.tables e below (T18.setTop (mkF m 19 #[.val (.int (5 : Int32)), .val (.ref nb2_1), .val (.int (9 : Int32)), .val (.int (4 : Int32)), .val (.ref w_UNWATCHED_ALL)] [])) _
    refine XS.aload X18.here hx rfl (hb hby d3_19) rfl rfl ?_
    show Steps p.tables e below (T18.setTop (mkF m 21 #[.val (.int (5 : Int32)), .val (.ref nb2_1), .val (.int (9 : Int32)), .val (.int (4 : Int32)), .val (.ref w_UNWATCHED_ALL)] [(.ref w_UNWATCHED_ALL)])) _
    refine st21 _ ?_
    show Steps p.tables e below (T21.setTop (mkF m 24 #[.val (.int (5 : Int32)), .val (.ref nb2_1), .val (.int (9 : Int32)), .val (.int (4 : Int32)), .val (.ref w_UNWATCHED_ALL)] [(.int (5 : Int32))])) _
    refine XS.iloadN X21.here hx rfl (hb hby d3_24) rfl ?_
    show Steps p.tables e below (T21.setTop (mkF m 25 #[.val (.int (5 : Int32)), .val (.ref nb2_1), .val (.int (9 : Int32)), .val (.int (4 : Int32)), .val (.ref w_UNWATCHED_ALL)] [(.int (5 : Int32)), (.int (5 : Int32))])) _
    refine XS.icmpNo X21.here hx rfl (hb hby d3_25) rfl (teq (by decide : (5 : Int32) = (5 : Int32))).2 ?_
    show Steps p.tables e below (T21.setTop (mkF m 28 #[.val (.int (5 : Int32)), .val (.ref nb2_1), .val (.int (9 : Int32)), .val (.int (4 : Int32)), .val (.ref w_UNWATCHED_ALL)] [])) _
    refine XS.aload X21.here hx rfl (hb hby d3_28) rfl rfl ?_
    exact kt
  have f24 : Keep h0 h1 [] := K0.trans K1 all0
  obtain ⟨fs, hr, hrun, hended, hW, hsame⟩ := X21.leave (v := some (.ref w_UNWATCHED_ALL)) (fun h => by rw [Bd.returns] at h; cases h)
  refine ⟨_, _, pre22 _ (retOut X21 hx Bd.returns rfl (Or.inr (Or.inr (Or.inr (Or.inr ⟨rfl, rfl, rfl⟩)))) (hb hby d3_30) hr), hrun, hended, _, _, rfl, ?_, ⟨_, rfl⟩, hW, hsame.mono (by decide) (by decide)⟩
  show QOf4 Z w_STORED w_REMOVED w_WATCHED w_UNWATCHED w_UNWATCHED_ALL w_CLOCK_READING w_ANSWERED w_UNDELIVERED w_DELIVERED w__VALUES k_ h0 n0 _ T21.heap _
  rw [e21]
  exact ⟨rfl, N2, f24⟩
theorem d2_45 : decode method_2_code 45 = .ok (.iload_n 0, 1) := by decide +kernel
theorem d2_46 : decode method_2_code 46 = .ok (.bipush 6, 2) := by decide +kernel
theorem d2_48 : decode method_2_code 48 = .ok (.if_icmp .ne 7, 3) := by decide +kernel
theorem d2_51 : decode method_2_code 51 = .ok (.getstatic 25, 3) := by decide +kernel
theorem d2_54 : decode method_2_code 54 = .ok (.areturn, 1) := by decide +kernel
theorem efExp5 (m : MethodId)  : entryFrame m #[(.int (6 : Int32))] 1 = mkF m 0 #[.val (.int (6 : Int32))] [] := by first | (simp [entryFrame, mkF, argsToLocals, Value.category]; done) | rfl
def QExp5 (Z : State) (w_CLOCK_READING : Addr) (h0 : Heap) (n0 : Nat) (v : Option Value) (h : Heap) (L : List Loc) : Prop := v = some (.ref w_CLOCK_READING) ∧ Fr n0 L ∧ h = h0
set_option maxRecDepth 65536 in
set_option maxHeartbeats 40000000 in
theorem rmExp5 (l : Launch) (Z : State) (a0 : Array Value) (hw : ∀ d ∈ tables_1, d.before a0 Z = true) (ws : List Jvm.Cond) (w_CLOCK_READING : Addr) (h0 : Heap) (n0 : Nat) (O0 : Old Z n0 h0) (P0 : Sta Z Z.heap "com/example/fawley/fawley/store/Change$Kind" "CLOCK_READING" "Lcom/example/fawley/fawley/store/Change$Kind;" (.ref w_CLOCK_READING)) :
    MetFree l (⟨"com/example/fawley/fawley/store/KindOfPinLaw", "expected", "(I)Lcom/example/fawley/fawley/store/Change$Kind;"⟩ : MethodName) (head1 (Jvm.Cond.code (⟨"com/example/fawley/fawley/store/KindOfPinLaw", "expected", "(I)Lcom/example/fawley/fawley/store/Change$Kind;"⟩ : MethodName) method_2_code 1 (some (.object "com/example/fawley/fawley/store/Change$Kind")) :: ws) ({ frames := 0, cells := 0, slots := 0, locals := 0 } : Room)) (fun a U => a = #[(.int (6 : Int32))] ∧ Z.Warmed39 U.vm ∧ U.heap = h0) (fun _ _ _ _ _ => True) (fun _ U o U' => ∃ v L, o = .returned v ∧ QExp5 Z w_CLOCK_READING h0 n0 v U'.heap L ∧ FrameEnd U o U' L ({ frames := 0, cells := 0, slots := 0, locals := 0 } : Room).cells ({ frames := 0, cells := 0, slots := 0, locals := 0 } : Room).slots) := by
  refine MetFree.of_bodySF (plainFor_of_name pn_1) hisR ?_
  intro p e s m args below meth c s₁ Bd hml0 hP hK
  obtain ⟨rfl, hZ, hh⟩ := hP
  have hx := Bd.exec
  have hby := Bd.bytes
  have hml : c.maxLocals = 1 := hml0
  have hown : s.vm.findClass "com/example/fawley/fawley/store/KindOfPinLaw" = some m.cls := findClass_of_methodNamed Bd.named
  have hnm := (name_of_methodNamed Bd.named Bd.method).1
  have X0 : Stand p l e ({ frames := 0, cells := 0, slots := 0, locals := 0 } : Room) s m #[(.int (6 : Int32))] below meth c s₁ [] 0 0 := Stand.of_body Bd
  have e0 : s₁.heap = h0 := by rw [← hh, Bd.state]; rfl
  have N0 := Fr.nil n0
  have pre0 : ∀ t, Steps p.tables e below (s₁.setTop (mkF m 0 #[.val (.int (6 : Int32))] [])) t → Steps p.tables e below (s₁.setTop (entryFrame m #[(.int (6 : Int32))] 1)) t := fun t k => castTop (efExp5 m ) k
  have K0 : Keep h0 h0 [] := Keep.refl _ _
  obtain ⟨T1, X1, e1, st1⟩ := getS2 X0 hx hZ hown (host := "") (Or.inl (hw _ (List.mem_of_getElem? (i := 48) rfl))) Via.refl e0 (P0.ext O0.2) (g := (mkF m 51 #[.val (.int (6 : Int32))] [])) rfl (hb hby d2_51)
  have pre2 : ∀ t, Steps p.tables e below (T1.setTop (mkF m 54 #[.val (.int (6 : Int32))] [(.ref w_CLOCK_READING)])) t → Steps p.tables e below (s₁.setTop (entryFrame m #[(.int (6 : Int32))] 1)) t := by
    intro t kt
    refine pre0 t ?_
    show Steps p.tables e below (s₁.setTop (mkF m 0 #[.val (.int (6 : Int32))] [])) _
    refine XS.iloadN X0.here hx rfl (hb hby d2_0) rfl ?_
    show Steps p.tables e below (s₁.setTop (mkF m 1 #[.val (.int (6 : Int32))] [(.int (6 : Int32))])) _
    refine XS.iconst X0.here hx rfl (hb hby d2_1) ?_
    show Steps p.tables e below (s₁.setTop (mkF m 2 #[.val (.int (6 : Int32))] [(.int (1 : Int32)), (.int (6 : Int32))])) _
    refine XS.icmpYes X0.here hx rfl (pc0 := 2) (pc' := 9) rfl (hb hby d2_2) rfl (feq (by decide : ¬ ((6 : Int32) = (1 : Int32)))).2 (by decide) (by decide) ?_
    show Steps p.tables e below (s₁.setTop (mkF m 9 #[.val (.int (6 : Int32))] [])) _
    refine XS.iloadN X0.here hx rfl (hb hby d2_9) rfl ?_
    show Steps p.tables e below (s₁.setTop (mkF m 10 #[.val (.int (6 : Int32))] [(.int (6 : Int32))])) _
    refine XS.iconst X0.here hx rfl (hb hby d2_10) ?_
    show Steps p.tables e below (s₁.setTop (mkF m 11 #[.val (.int (6 : Int32))] [(.int (2 : Int32)), (.int (6 : Int32))])) _
    refine XS.icmpYes X0.here hx rfl (pc0 := 11) (pc' := 18) rfl (hb hby d2_11) rfl (feq (by decide : ¬ ((6 : Int32) = (2 : Int32)))).2 (by decide) (by decide) ?_
    show Steps p.tables e below (s₁.setTop (mkF m 18 #[.val (.int (6 : Int32))] [])) _
    refine XS.iloadN X0.here hx rfl (hb hby d2_18) rfl ?_
    show Steps p.tables e below (s₁.setTop (mkF m 19 #[.val (.int (6 : Int32))] [(.int (6 : Int32))])) _
    refine XS.iconst X0.here hx rfl (hb hby d2_19) ?_
    show Steps p.tables e below (s₁.setTop (mkF m 20 #[.val (.int (6 : Int32))] [(.int (3 : Int32)), (.int (6 : Int32))])) _
    refine XS.icmpYes X0.here hx rfl (pc0 := 20) (pc' := 27) rfl (hb hby d2_20) rfl (feq (by decide : ¬ ((6 : Int32) = (3 : Int32)))).2 (by decide) (by decide) ?_
    show Steps p.tables e below (s₁.setTop (mkF m 27 #[.val (.int (6 : Int32))] [])) _
    refine XS.iloadN X0.here hx rfl (hb hby d2_27) rfl ?_
    show Steps p.tables e below (s₁.setTop (mkF m 28 #[.val (.int (6 : Int32))] [(.int (6 : Int32))])) _
    refine XS.iconst X0.here hx rfl (hb hby d2_28) ?_
    show Steps p.tables e below (s₁.setTop (mkF m 29 #[.val (.int (6 : Int32))] [(.int (4 : Int32)), (.int (6 : Int32))])) _
    refine XS.icmpYes X0.here hx rfl (pc0 := 29) (pc' := 36) rfl (hb hby d2_29) rfl (feq (by decide : ¬ ((6 : Int32) = (4 : Int32)))).2 (by decide) (by decide) ?_
    show Steps p.tables e below (s₁.setTop (mkF m 36 #[.val (.int (6 : Int32))] [])) _
    refine XS.iloadN X0.here hx rfl (hb hby d2_36) rfl ?_
    show Steps p.tables e below (s₁.setTop (mkF m 37 #[.val (.int (6 : Int32))] [(.int (6 : Int32))])) _
    refine XS.iconst X0.here hx rfl (hb hby d2_37) ?_
    show Steps p.tables e below (s₁.setTop (mkF m 38 #[.val (.int (6 : Int32))] [(.int (5 : Int32)), (.int (6 : Int32))])) _
    refine XS.icmpYes X0.here hx rfl (pc0 := 38) (pc' := 45) rfl (hb hby d2_38) rfl (feq (by decide : ¬ ((6 : Int32) = (5 : Int32)))).2 (by decide) (by decide) ?_
    show Steps p.tables e below (s₁.setTop (mkF m 45 #[.val (.int (6 : Int32))] [])) _
    refine XS.iloadN X0.here hx rfl (hb hby d2_45) rfl ?_
    show Steps p.tables e below (s₁.setTop (mkF m 46 #[.val (.int (6 : Int32))] [(.int (6 : Int32))])) _
    refine XS.bipush X0.here hx rfl (hb hby d2_46) ?_
    show Steps p.tables e below (s₁.setTop (mkF m 48 #[.val (.int (6 : Int32))] [(.int (6 : Int32)), (.int (6 : Int32))])) _
    refine XS.icmpNo X0.here hx rfl (hb hby d2_48) rfl (teq (by decide : (6 : Int32) = (6 : Int32))).2 ?_
    show Steps p.tables e below (s₁.setTop (mkF m 51 #[.val (.int (6 : Int32))] [])) _
    refine st1 _ ?_
    exact kt
  obtain ⟨fs, hr, hrun, hended, hW, hsame⟩ := X1.leave (v := some (.ref w_CLOCK_READING)) (fun h => by rw [Bd.returns] at h; cases h)
  refine ⟨_, _, pre2 _ (retOut X1 hx Bd.returns rfl (Or.inr (Or.inr (Or.inr (Or.inr ⟨rfl, rfl, rfl⟩)))) (hb hby d2_54) hr), hrun, hended, _, _, rfl, ?_, ⟨_, rfl⟩, hW, hsame.mono (by decide) (by decide)⟩
  show QExp5 Z w_CLOCK_READING h0 n0 _ T1.heap _
  rw [e1]
  exact ⟨rfl, N0, rfl⟩
theorem efOf5 (m : MethodId)  : entryFrame m #[(.int (6 : Int32))] 5 = mkF m 0 #[.val (.int (6 : Int32)), .unset, .unset, .unset, .unset] [] := by first | (simp [entryFrame, mkF, argsToLocals, Value.category]; done) | rfl
def QOf5 (Z : State) (w_STORED : Addr) (w_REMOVED : Addr) (w_WATCHED : Addr) (w_UNWATCHED : Addr) (w_UNWATCHED_ALL : Addr) (w_CLOCK_READING : Addr) (w_ANSWERED : Addr) (w_UNDELIVERED : Addr) (w_DELIVERED : Addr) (w__VALUES : Addr) (k_ : ClassId) (h0 : Heap) (n0 : Nat) (v : Option Value) (h : Heap) (L : List Loc) : Prop := v = some (.ref w_CLOCK_READING) ∧ Fr n0 L ∧ Keep h0 h []
set_option maxRecDepth 65536 in
set_option maxHeartbeats 40000000 in
theorem rmOf5 (l : Launch) (Z : State) (a0 : Array Value) (hw : ∀ d ∈ tables_1, d.before a0 Z = true) (ws : List Jvm.Cond) (w_STORED : Addr) (w_REMOVED : Addr) (w_WATCHED : Addr) (w_UNWATCHED : Addr) (w_UNWATCHED_ALL : Addr) (w_CLOCK_READING : Addr) (w_ANSWERED : Addr) (w_UNDELIVERED : Addr) (w_DELIVERED : Addr) (w__VALUES : Addr) (k_ : ClassId) (h0 : Heap) (n0 : Nat) (O0 : Old Z n0 h0) (P0 : Sta Z Z.heap "com/example/fawley/fawley/store/Change$Kind" "STORED" "Lcom/example/fawley/fawley/store/Change$Kind;" (.ref w_STORED)) (P1 : Exa Z Z.heap w_STORED "com/example/fawley/fawley/store/Change$Kind") (P2 : Fld Z Z.heap w_STORED "com/example/fawley/fawley/store/Change$Kind" "code" "B" (.int (1 : Int32))) (P3 : Sta Z Z.heap "com/example/fawley/fawley/store/Change$Kind" "REMOVED" "Lcom/example/fawley/fawley/store/Change$Kind;" (.ref w_REMOVED)) (P4 : Exa Z Z.heap w_REMOVED "com/example/fawley/fawley/store/Change$Kind") (P5 : Fld Z Z.heap w_REMOVED "com/example/fawley/fawley/store/Change$Kind" "code" "B" (.int (2 : Int32))) (P6 : Sta Z Z.heap "com/example/fawley/fawley/store/Change$Kind" "WATCHED" "Lcom/example/fawley/fawley/store/Change$Kind;" (.ref w_WATCHED)) (P7 : Exa Z Z.heap w_WATCHED "com/example/fawley/fawley/store/Change$Kind") (P8 : Fld Z Z.heap w_WATCHED "com/example/fawley/fawley/store/Change$Kind" "code" "B" (.int (3 : Int32))) (P9 : Sta Z Z.heap "com/example/fawley/fawley/store/Change$Kind" "UNWATCHED" "Lcom/example/fawley/fawley/store/Change$Kind;" (.ref w_UNWATCHED)) (P10 : Exa Z Z.heap w_UNWATCHED "com/example/fawley/fawley/store/Change$Kind") (P11 : Fld Z Z.heap w_UNWATCHED "com/example/fawley/fawley/store/Change$Kind" "code" "B" (.int (4 : Int32))) (P12 : Sta Z Z.heap "com/example/fawley/fawley/store/Change$Kind" "UNWATCHED_ALL" "Lcom/example/fawley/fawley/store/Change$Kind;" (.ref w_UNWATCHED_ALL)) (P13 : Exa Z Z.heap w_UNWATCHED_ALL "com/example/fawley/fawley/store/Change$Kind") (P14 : Fld Z Z.heap w_UNWATCHED_ALL "com/example/fawley/fawley/store/Change$Kind" "code" "B" (.int (5 : Int32))) (P15 : Sta Z Z.heap "com/example/fawley/fawley/store/Change$Kind" "CLOCK_READING" "Lcom/example/fawley/fawley/store/Change$Kind;" (.ref w_CLOCK_READING)) (P16 : Exa Z Z.heap w_CLOCK_READING "com/example/fawley/fawley/store/Change$Kind") (P17 : Fld Z Z.heap w_CLOCK_READING "com/example/fawley/fawley/store/Change$Kind" "code" "B" (.int (6 : Int32))) (P18 : Sta Z Z.heap "com/example/fawley/fawley/store/Change$Kind" "ANSWERED" "Lcom/example/fawley/fawley/store/Change$Kind;" (.ref w_ANSWERED)) (P19 : Exa Z Z.heap w_ANSWERED "com/example/fawley/fawley/store/Change$Kind") (P20 : Fld Z Z.heap w_ANSWERED "com/example/fawley/fawley/store/Change$Kind" "code" "B" (.int (7 : Int32))) (P21 : Sta Z Z.heap "com/example/fawley/fawley/store/Change$Kind" "UNDELIVERED" "Lcom/example/fawley/fawley/store/Change$Kind;" (.ref w_UNDELIVERED)) (P22 : Exa Z Z.heap w_UNDELIVERED "com/example/fawley/fawley/store/Change$Kind") (P23 : Fld Z Z.heap w_UNDELIVERED "com/example/fawley/fawley/store/Change$Kind" "code" "B" (.int (8 : Int32))) (P24 : Sta Z Z.heap "com/example/fawley/fawley/store/Change$Kind" "DELIVERED" "Lcom/example/fawley/fawley/store/Change$Kind;" (.ref w_DELIVERED)) (P25 : Exa Z Z.heap w_DELIVERED "com/example/fawley/fawley/store/Change$Kind") (P26 : Fld Z Z.heap w_DELIVERED "com/example/fawley/fawley/store/Change$Kind" "code" "B" (.int (9 : Int32))) (P27 : Sta Z Z.heap "com/example/fawley/fawley/store/Change$Kind" "$VALUES" "[Lcom/example/fawley/fawley/store/Change$Kind;" (.ref w__VALUES)) (P28 : Exa Z Z.heap w__VALUES "[Lcom/example/fawley/fawley/store/Change$Kind;") (P29 : Arv Z Z.heap w__VALUES k_ (.object "com/example/fawley/fawley/store/Change$Kind") (9 : Int32) [(.ref w_STORED), (.ref w_REMOVED), (.ref w_WATCHED), (.ref w_UNWATCHED), (.ref w_UNWATCHED_ALL), (.ref w_CLOCK_READING), (.ref w_ANSWERED), (.ref w_UNDELIVERED), (.ref w_DELIVERED)] .null) :
    MetFree l (⟨"com/example/fawley/fawley/store/Change$Kind", "of", "(B)Lcom/example/fawley/fawley/store/Change$Kind;"⟩ : MethodName) (head1 (Jvm.Cond.code (⟨"com/example/fawley/fawley/store/Change$Kind", "of", "(B)Lcom/example/fawley/fawley/store/Change$Kind;"⟩ : MethodName) prog_29_method_5_code 5 (some (.object "com/example/fawley/fawley/store/Change$Kind")) :: ws) ({ frames := 2, cells := 1, slots := 9, locals := 25 } : Room)) (fun a U => a = #[(.int (6 : Int32))] ∧ Z.Warmed39 U.vm ∧ U.heap = h0) (fun _ _ _ _ _ => True) (fun _ U o U' => ∃ v L, o = .returned v ∧ QOf5 Z w_STORED w_REMOVED w_WATCHED w_UNWATCHED w_UNWATCHED_ALL w_CLOCK_READING w_ANSWERED w_UNDELIVERED w_DELIVERED w__VALUES k_ h0 n0 v U'.heap L ∧ FrameEnd U o U' L ({ frames := 2, cells := 1, slots := 9, locals := 25 } : Room).cells ({ frames := 2, cells := 1, slots := 9, locals := 25 } : Room).slots) := by
  refine MetFree.of_bodySF (plainFor_of_name pn_0) hisR ?_
  intro p e s m args below meth c s₁ Bd hml0 hP hK
  obtain ⟨rfl, hZ, hh⟩ := hP
  have hx := Bd.exec
  have hby := Bd.bytes
  have hml : c.maxLocals = 5 := hml0
  have hown : s.vm.findClass "com/example/fawley/fawley/store/Change$Kind" = some m.cls := findClass_of_methodNamed Bd.named
  have hnm := (name_of_methodNamed Bd.named Bd.method).1
  have X0 : Stand p l e ({ frames := 2, cells := 1, slots := 9, locals := 25 } : Room) s m #[(.int (6 : Int32))] below meth c s₁ [] 0 0 := Stand.of_body Bd
  have e0 : s₁.heap = h0 := by rw [← hh, Bd.state]; rfl
  have N0 := Fr.nil n0
  have pre0 : ∀ t, Steps p.tables e below (s₁.setTop (mkF m 0 #[.val (.int (6 : Int32)), .unset, .unset, .unset, .unset] [])) t → Steps p.tables e below (s₁.setTop (entryFrame m #[(.int (6 : Int32))] 5)) t := fun t k => castTop (efOf5 m ) k
  have K0 : Keep h0 h0 [] := Keep.refl _ _
  obtain ⟨_, _, ⟨T1, L1, k1, n1⟩, -, X1, ⟨Lc1, hQ1, l1, y1, z1⟩, st1⟩ := Jvm.LawKit.callS X0 hx (y := (⟨"com/example/fawley/fawley/store/Change$Kind", "values", "()[Lcom/example/fawley/fawley/store/Change$Kind;"⟩ : MethodName)) hown (mvT hZ (hw _ (List.mem_of_getElem? (i := 11) rfl))) (mvT hZ (hw _ (List.mem_of_getElem? (i := 12) rfl))) (mvT hZ (hw _ (List.mem_of_getElem? (i := 6) rfl))) (mvT hZ (hw _ (List.mem_of_getElem? (i := 13) rfl))) (by decide) (backOf (W := 0) (rmVal l Z a0 hw [] w_STORED w_REMOVED w_WATCHED w_UNWATCHED w_UNWATCHED_ALL w_CLOCK_READING w_ANSWERED w_UNDELIVERED w_DELIVERED w__VALUES k_ h0 n0 O0 P0 P1 P2 P3 P4 P5 P6 P7 P8 P9 P10 P11 P12 P13 P14 P15 P16 P17 P18 P19 P20 P21 P22 P23 P24 P25 P26 P27 P28 P29) hZ (hw _ (List.mem_of_getElem? (i := 13) rfl)) (hw _ (List.mem_of_getElem? (i := 6) rfl)) (by decide) (by decide)) (g := (mkF m 0 #[.val (.int (6 : Int32)), .unset, .unset, .unset, .unset] [])) rfl (by rw [hml]; rfl) (argsL := []) (rest := []) (lenOf pd_0 rfl) rfl (by show 2 * 0 + _ ≤ _; exact Nat.le_of_eq rfl) (hb hby d3_0) (fun _ _ => ⟨rfl, e0, (by decide : 0 + 1 ≤ _), (by decide : 0 + 9 ≤ _)⟩)
  dsimp only [Pt.U, Pt.locs, Pt.cells, Pt.slots] at X1 l1 y1 z1 st1 hQ1
  subst l1 y1 z1
  obtain ⟨h1, e1⟩ : ∃ z, T1.heap = z := ⟨_, rfl⟩
  rw [e1] at hQ1
  obtain ⟨nb2_1, rfl, N1q, K1, sznb2_1, g1_0, g1_1⟩ := hQ1
  have N2 := Fr.app N0 N1q
  have ge3 : n0 ≤ nb2_1 := Nat.le_trans (Nat.le_trans (Nat.le_of_eq O0.1.symm) O0.2.1) sznb2_1
  have sz4 : h0.size ≤ nb2_1 := Nat.le_trans K0.1 sznb2_1
  obtain ⟨c5, r5, q5, s5, z5, y5, G5⟩ := id g1_0
  obtain ⟨c6, r6, q6, s6, z6, y6, G6⟩ := id g1_0
  have hin6 : ¬ ((0 : Int32) < 0 ∨ c6.slots.size ≤ ((0 : Int32)).toNatClampNeg) := inb_of s6 ⟨by decide, by decide⟩
  have hat6 : c6.slots[((0 : Int32)).toNatClampNeg]? = some (.ref w_STORED) := Has.at y6 hin6 rfl
  have f7 : Old Z n0 h1 := O0.keep K1 all0
  have f8 : Fld Z h1 w_STORED "com/example/fawley/fawley/store/Change$Kind" "code" "B" (.int (1 : Int32)) := P2.ext f7.2
  obtain ⟨T9, X9, e9, st9⟩ := getF X1 hx hZ hown (host := "") (Or.inl (hw _ (List.mem_of_getElem? (i := 34) rfl))) Via.refl e1 f8 (g := (mkF m 21 #[.val (.int (6 : Int32)), .val (.ref nb2_1), .val (.int (9 : Int32)), .val (.int (0 : Int32)), .val (.ref w_STORED)] [(.ref w_STORED)])) rfl rfl (hb hby d3_21)
  obtain ⟨c10, r10, q10, s10, z10, y10, G10⟩ := id g1_0
  have hin10 : ¬ ((1 : Int32) < 0 ∨ c10.slots.size ≤ ((1 : Int32)).toNatClampNeg) := inb_of s10 ⟨by decide, by decide⟩
  have hat10 : c10.slots[((1 : Int32)).toNatClampNeg]? = some (.ref w_REMOVED) := Has.at y10 hin10 rfl
  have f11 : Fld Z h1 w_REMOVED "com/example/fawley/fawley/store/Change$Kind" "code" "B" (.int (2 : Int32)) := P5.ext f7.2
  obtain ⟨T12, X12, e12, st12⟩ := getF X9 hx hZ hown (host := "") (Or.inl (hw _ (List.mem_of_getElem? (i := 34) rfl))) Via.refl e9 f11 (g := (mkF m 21 #[.val (.int (6 : Int32)), .val (.ref nb2_1), .val (.int (9 : Int32)), .val (.int (1 : Int32)), .val (.ref w_REMOVED)] [(.ref w_REMOVED)])) rfl rfl (hb hby d3_21)
  obtain ⟨c13, r13, q13, s13, z13, y13, G13⟩ := id g1_0
  have hin13 : ¬ ((2 : Int32) < 0 ∨ c13.slots.size ≤ ((2 : Int32)).toNatClampNeg) := inb_of s13 ⟨by decide, by decide⟩
  have hat13 : c13.slots[((2 : Int32)).toNatClampNeg]? = some (.ref w_WATCHED) := Has.at y13 hin13 rfl
  have f14 : Fld Z h1 w_WATCHED "com/example/fawley/fawley/store/Change$Kind" "code" "B" (.int (3 : Int32)) := P8.ext f7.2
  obtain ⟨T15, X15, e15, st15⟩ := getF X12 hx hZ hown (host := "") (Or.inl (hw _ (List.mem_of_getElem? (i := 34) rfl))) Via.refl e12 f14 (g := (mkF m 21 #[.val (.int (6 : Int32)), .val (.ref nb2_1), .val (.int (9 : Int32)), .val (.int (2 : Int32)), .val (.ref w_WATCHED)] [(.ref w_WATCHED)])) rfl rfl (hb hby d3_21)
  obtain ⟨c16, r16, q16, s16, z16, y16, G16⟩ := id g1_0
  have hin16 : ¬ ((3 : Int32) < 0 ∨ c16.slots.size ≤ ((3 : Int32)).toNatClampNeg) := inb_of s16 ⟨by decide, by decide⟩
  have hat16 : c16.slots[((3 : Int32)).toNatClampNeg]? = some (.ref w_UNWATCHED) := Has.at y16 hin16 rfl
  have f17 : Fld Z h1 w_UNWATCHED "com/example/fawley/fawley/store/Change$Kind" "code" "B" (.int (4 : Int32)) := P11.ext f7.2
  obtain ⟨T18, X18, e18, st18⟩ := getF X15 hx hZ hown (host := "") (Or.inl (hw _ (List.mem_of_getElem? (i := 34) rfl))) Via.refl e15 f17 (g := (mkF m 21 #[.val (.int (6 : Int32)), .val (.ref nb2_1), .val (.int (9 : Int32)), .val (.int (3 : Int32)), .val (.ref w_UNWATCHED)] [(.ref w_UNWATCHED)])) rfl rfl (hb hby d3_21)
  obtain ⟨c19, r19, q19, s19, z19, y19, G19⟩ := id g1_0
  have hin19 : ¬ ((4 : Int32) < 0 ∨ c19.slots.size ≤ ((4 : Int32)).toNatClampNeg) := inb_of s19 ⟨by decide, by decide⟩
  have hat19 : c19.slots[((4 : Int32)).toNatClampNeg]? = some (.ref w_UNWATCHED_ALL) := Has.at y19 hin19 rfl
  have f20 : Fld Z h1 w_UNWATCHED_ALL "com/example/fawley/fawley/store/Change$Kind" "code" "B" (.int (5 : Int32)) := P14.ext f7.2
  obtain ⟨T21, X21, e21, st21⟩ := getF X18 hx hZ hown (host := "") (Or.inl (hw _ (List.mem_of_getElem? (i := 34) rfl))) Via.refl e18 f20 (g := (mkF m 21 #[.val (.int (6 : Int32)), .val (.ref nb2_1), .val (.int (9 : Int32)), .val (.int (4 : Int32)), .val (.ref w_UNWATCHED_ALL)] [(.ref w_UNWATCHED_ALL)])) rfl rfl (hb hby d3_21)
  obtain ⟨c22, r22, q22, s22, z22, y22, G22⟩ := id g1_0
  have hin22 : ¬ ((5 : Int32) < 0 ∨ c22.slots.size ≤ ((5 : Int32)).toNatClampNeg) := inb_of s22 ⟨by decide, by decide⟩
  have hat22 : c22.slots[((5 : Int32)).toNatClampNeg]? = some (.ref w_CLOCK_READING) := Has.at y22 hin22 rfl
  have f23 : Fld Z h1 w_CLOCK_READING "com/example/fawley/fawley/store/Change$Kind" "code" "B" (.int (6 : Int32)) := P17.ext f7.2
  obtain ⟨T24, X24, e24, st24⟩ := getF X21 hx hZ hown (host := "") (Or.inl (hw _ (List.mem_of_getElem? (i := 34) rfl))) Via.refl e21 f23 (g := (mkF m 21 #[.val (.int (6 : Int32)), .val (.ref nb2_1), .val (.int (9 : Int32)), .val (.int (5 : Int32)), .val (.ref w_CLOCK_READING)] [(.ref w_CLOCK_READING)])) rfl rfl (hb hby d3_21)
  have pre25 : ∀ t, Steps p.tables e below (T24.setTop (mkF m 30 #[.val (.int (6 : Int32)), .val (.ref nb2_1), .val (.int (9 : Int32)), .val (.int (5 : Int32)), .val (.ref w_CLOCK_READING)] [(.ref w_CLOCK_READING)])) t → Steps p.tables e below (s₁.setTop (entryFrame m #[(.int (6 : Int32))] 5)) t := by
    intro t kt
    refine pre0 t ?_
    show Steps p.tables e below (s₁.setTop (mkF m 0 #[.val (.int (6 : Int32)), .unset, .unset, .unset, .unset] [])) _
    refine st1 _ ?_
    show Steps p.tables e below (T1.setTop (mkF m 3 #[.val (.int (6 : Int32)), .unset, .unset, .unset, .unset] [(.ref nb2_1)])) _
    refine XS.astoreN X1.here hx rfl (hb hby d3_3) rfl rfl (l' := #[.val (.int (6 : Int32)), .val (.ref nb2_1), .unset, .unset, .unset]) rfl ?_
    show Steps p.tables e below (T1.setTop (mkF m 4 #[.val (.int (6 : Int32)), .val (.ref nb2_1), .unset, .unset, .unset] [])) _
    refine XS.aloadN X1.here hx rfl (hb hby d3_4) rfl rfl ?_
    show Steps p.tables e below (T1.setTop (mkF m 5 #[.val (.int (6 : Int32)), .val (.ref nb2_1), .unset, .unset, .unset] [(.ref nb2_1)])) _
    refine X1.arraylength hx (by rw [e1]; exact r5.1) (State.isArrayOf_alike hZ.alike r5.2.1) (g := (mkF m 5 #[.val (.int (6 : Int32)), .val (.ref nb2_1), .unset, .unset, .unset] [(.ref nb2_1)])) rfl rfl (hb hby d3_5) _ ?_
    rw [len_of s5 z5]
    show Steps p.tables e below (T1.setTop (mkF m 6 #[.val (.int (6 : Int32)), .val (.ref nb2_1), .unset, .unset, .unset] [(.int (9 : Int32))])) _
    refine XS.istoreN X1.here hx rfl (hb hby d3_6) rfl (l' := #[.val (.int (6 : Int32)), .val (.ref nb2_1), .val (.int (9 : Int32)), .unset, .unset]) rfl ?_
    show Steps p.tables e below (T1.setTop (mkF m 7 #[.val (.int (6 : Int32)), .val (.ref nb2_1), .val (.int (9 : Int32)), .unset, .unset] [])) _
    refine XS.iconst X1.here hx rfl (hb hby d3_7) ?_
    show Steps p.tables e below (T1.setTop (mkF m 8 #[.val (.int (6 : Int32)), .val (.ref nb2_1), .val (.int (9 : Int32)), .unset, .unset] [(.int (0 : Int32))])) _
    refine XS.istoreN X1.here hx rfl (hb hby d3_8) rfl (l' := #[.val (.int (6 : Int32)), .val (.ref nb2_1), .val (.int (9 : Int32)), .val (.int (0 : Int32)), .unset]) rfl ?_
    show Steps p.tables e below (T1.setTop (mkF m 9 #[.val (.int (6 : Int32)), .val (.ref nb2_1), .val (.int (9 : Int32)), .val (.int (0 : Int32)), .unset] [])) _
    refine XS.iloadN X1.here hx rfl (hb hby d3_9) rfl ?_
    show Steps p.tables e below (T1.setTop (mkF m 10 #[.val (.int (6 : Int32)), .val (.ref nb2_1), .val (.int (9 : Int32)), .val (.int (0 : Int32)), .unset] [(.int (0 : Int32))])) _
    refine XS.iloadN X1.here hx rfl (hb hby d3_10) rfl ?_
    show Steps p.tables e below (T1.setTop (mkF m 11 #[.val (.int (6 : Int32)), .val (.ref nb2_1), .val (.int (9 : Int32)), .val (.int (0 : Int32)), .unset] [(.int (9 : Int32)), (.int (0 : Int32))])) _
    refine XS.icmpNo X1.here hx rfl (hb hby d3_11) rfl (tlt (by decide : (0 : Int32) < (9 : Int32))).2.1 ?_
    show Steps p.tables e below (T1.setTop (mkF m 14 #[.val (.int (6 : Int32)), .val (.ref nb2_1), .val (.int (9 : Int32)), .val (.int (0 : Int32)), .unset] [])) _
    refine XS.aloadN X1.here hx rfl (hb hby d3_14) rfl rfl ?_
    show Steps p.tables e below (T1.setTop (mkF m 15 #[.val (.int (6 : Int32)), .val (.ref nb2_1), .val (.int (9 : Int32)), .val (.int (0 : Int32)), .unset] [(.ref nb2_1)])) _
    refine XS.iloadN X1.here hx rfl (hb hby d3_15) rfl ?_
    show Steps p.tables e below (T1.setTop (mkF m 16 #[.val (.int (6 : Int32)), .val (.ref nb2_1), .val (.int (9 : Int32)), .val (.int (0 : Int32)), .unset] [(.int (0 : Int32)), (.ref nb2_1)])) _
    refine X1.aaload hx (j := (0 : Int32)) (v := (.ref w_STORED)) (by rw [e1]; exact r6.1) (State.isArrayOf_alike hZ.alike r6.2.1) rfl r6.2.2 hin6 hat6 (g := (mkF m 16 #[.val (.int (6 : Int32)), .val (.ref nb2_1), .val (.int (9 : Int32)), .val (.int (0 : Int32)), .unset] [(.int (0 : Int32)), (.ref nb2_1)])) rfl rfl (hb hby d3_16) _ ?_
    show Steps p.tables e below (T1.setTop (mkF m 17 #[.val (.int (6 : Int32)), .val (.ref nb2_1), .val (.int (9 : Int32)), .val (.int (0 : Int32)), .unset] [(.ref w_STORED)])) _
    refine XS.astore X1.here hx rfl (hb hby d3_17) rfl rfl (l' := #[.val (.int (6 : Int32)), .val (.ref nb2_1), .val (.int (9 : Int32)), .val (.int (0 : Int32)), .val (.ref w_STORED)]) rfl ?_
    show Steps p.tables e below (T1.setTop (mkF m 19 #[.val (.int (6 : Int32)), .val (.ref nb2_1), .val (.int (9 : Int32)), .val (.int (0 : Int32)), .val (.ref w_STORED)] [])) _
    refine XS.aload X1.here hx rfl (hb hby d3_19) rfl rfl ?_
    show Steps p.tables e below (T1.setTop (mkF m 21 #[.val (.int (6 : Int32)), .val (.ref nb2_1), .val (.int (9 : Int32)), .val (.int (0 : Int32)), .val (.ref w_STORED)] [(.ref w_STORED)])) _
    refine st9 _ ?_
    show Steps p.tables e below (T9.setTop (mkF m 24 #[.val (.int (6 : Int32)), .val (.ref nb2_1), .val (.int (9 : Int32)), .val (.int (0 : Int32)), .val (.ref w_STORED)] [(.int (1 : Int32))])) _
    refine XS.iloadN X9.here hx rfl (hb hby d3_24) rfl ?_
    show Steps p.tables e below (T9.setTop (mkF m 25 #[.val (.int (6 : Int32)), .val (.ref nb2_1), .val (.int (9 : Int32)), .val (.int (0 : Int32)), .val (.ref w_STORED)] [(.int (6 : Int32)), (.int (1 : Int32))])) _
    refine XS.icmpYes X9.here hx rfl (pc0 := 25) (pc' := 31) rfl (hb hby d3_25) rfl (feq (by decide : ¬ ((1 : Int32) = (6 : Int32)))).2 (by decide) (by decide) ?_
    show Steps p.tables e below (T9.setTop (mkF m 31 #[.val (.int (6 : Int32)), .val (.ref nb2_1), .val (.int (9 : Int32)), .val (.int (0 : Int32)), .val (.ref w_STORED)] [])) _
    refine XS.iinc X9.here hx rfl (hb hby d3_31) rfl (l' := #[.val (.int (6 : Int32)), .val (.ref nb2_1), .val (.int (9 : Int32)), .val (.int (1 : Int32)), .val (.ref w_STORED)]) rfl ?_
    show Steps p.tables e below (T9.setTop (mkF m 34 #[.val (.int (6 : Int32)), .val (.ref nb2_1), .val (.int (9 : Int32)), .val (.int (1 : Int32)), .val (.ref w_STORED)] [])) _
    refine XS.goto X9.here hx rfl (pc0 := 34) (pc' := 9) rfl (hb hby d3_34) (by decide) (by decide) ?_
    show Steps p.tables e below (T9.setTop (mkF m 9 #[.val (.int (6 : Int32)), .val (.ref nb2_1), .val (.int (9 : Int32)), .val (.int (1 : Int32)), .val (.ref w_STORED)] [])) _
    refine XS.iloadN X9.here hx rfl (hb hby d3_9) rfl ?_
    show Steps p.tables e below (T9.setTop (mkF m 10 #[.val (.int (6 : Int32)), .val (.ref nb2_1), .val (.int (9 : Int32)), .val (.int (1 : Int32)), .val (.ref w_STORED)] [(.int (1 : Int32))])) _
    refine XS.iloadN X9.here hx rfl (hb hby d3_10) rfl ?_
    show Steps p.tables e below (T9.setTop (mkF m 11 #[.val (.int (6 : Int32)), .val (.ref nb2_1), .val (.int (9 : Int32)), .val (.int (1 : Int32)), .val (.ref w_STORED)] [(.int (9 : Int32)), (.int (1 : Int32))])) _
    refine XS.icmpNo X9.here hx rfl (hb hby d3_11) rfl (tlt (by decide : (1 : Int32) < (9 : Int32))).2.1 ?_
    show Steps p.tables e below (T9.setTop (mkF m 14 #[.val (.int (6 : Int32)), .val (.ref nb2_1), .val (.int (9 : Int32)), .val (.int (1 : Int32)), .val (.ref w_STORED)] [])) _
    refine XS.aloadN X9.here hx rfl (hb hby d3_14) rfl rfl ?_
    show Steps p.tables e below (T9.setTop (mkF m 15 #[.val (.int (6 : Int32)), .val (.ref nb2_1), .val (.int (9 : Int32)), .val (.int (1 : Int32)), .val (.ref w_STORED)] [(.ref nb2_1)])) _
    refine XS.iloadN X9.here hx rfl (hb hby d3_15) rfl ?_
    show Steps p.tables e below (T9.setTop (mkF m 16 #[.val (.int (6 : Int32)), .val (.ref nb2_1), .val (.int (9 : Int32)), .val (.int (1 : Int32)), .val (.ref w_STORED)] [(.int (1 : Int32)), (.ref nb2_1)])) _
    refine X9.aaload hx (j := (1 : Int32)) (v := (.ref w_REMOVED)) (by rw [e9]; exact r10.1) (State.isArrayOf_alike hZ.alike r10.2.1) rfl r10.2.2 hin10 hat10 (g := (mkF m 16 #[.val (.int (6 : Int32)), .val (.ref nb2_1), .val (.int (9 : Int32)), .val (.int (1 : Int32)), .val (.ref w_STORED)] [(.int (1 : Int32)), (.ref nb2_1)])) rfl rfl (hb hby d3_16) _ ?_
    show Steps p.tables e below (T9.setTop (mkF m 17 #[.val (.int (6 : Int32)), .val (.ref nb2_1), .val (.int (9 : Int32)), .val (.int (1 : Int32)), .val (.ref w_STORED)] [(.ref w_REMOVED)])) _
    refine XS.astore X9.here hx rfl (hb hby d3_17) rfl rfl (l' := #[.val (.int (6 : Int32)), .val (.ref nb2_1), .val (.int (9 : Int32)), .val (.int (1 : Int32)), .val (.ref w_REMOVED)]) rfl ?_
    show Steps p.tables e below (T9.setTop (mkF m 19 #[.val (.int (6 : Int32)), .val (.ref nb2_1), .val (.int (9 : Int32)), .val (.int (1 : Int32)), .val (.ref w_REMOVED)] [])) _
    refine XS.aload X9.here hx rfl (hb hby d3_19) rfl rfl ?_
    show Steps p.tables e below (T9.setTop (mkF m 21 #[.val (.int (6 : Int32)), .val (.ref nb2_1), .val (.int (9 : Int32)), .val (.int (1 : Int32)), .val (.ref w_REMOVED)] [(.ref w_REMOVED)])) _
    refine st12 _ ?_
    show Steps p.tables e below (T12.setTop (mkF m 24 #[.val (.int (6 : Int32)), .val (.ref nb2_1), .val (.int (9 : Int32)), .val (.int (1 : Int32)), .val (.ref w_REMOVED)] [(.int (2 : Int32))])) _
    refine XS.iloadN X12.here hx rfl (hb hby d3_24) rfl ?_
    show Steps p.tables e below (T12.setTop (mkF m 25 #[.val (.int (6 : Int32)), .val (.ref nb2_1), .val (.int (9 : Int32)), .val (.int (1 : Int32)), .val (.ref w_REMOVED)] [(.int (6 : Int32)), (.int (2 : Int32))])) _
    refine XS.icmpYes X12.here hx rfl (pc0 := 25) (pc' := 31) rfl (hb hby d3_25) rfl (feq (by decide : ¬ ((2 : Int32) = (6 : Int32)))).2 (by decide) (by decide) ?_
    show Steps p.tables e below (T12.setTop (mkF m 31 #[.val (.int (6 : Int32)), .val (.ref nb2_1), .val (.int (9 : Int32)), .val (.int (1 : Int32)), .val (.ref w_REMOVED)] [])) _
    refine XS.iinc X12.here hx rfl (hb hby d3_31) rfl (l' := #[.val (.int (6 : Int32)), .val (.ref nb2_1), .val (.int (9 : Int32)), .val (.int (2 : Int32)), .val (.ref w_REMOVED)]) rfl ?_
    show Steps p.tables e below (T12.setTop (mkF m 34 #[.val (.int (6 : Int32)), .val (.ref nb2_1), .val (.int (9 : Int32)), .val (.int (2 : Int32)), .val (.ref w_REMOVED)] [])) _
    refine XS.goto X12.here hx rfl (pc0 := 34) (pc' := 9) rfl (hb hby d3_34) (by decide) (by decide) ?_
    show Steps p.tables e below (T12.setTop (mkF m 9 #[.val (.int (6 : Int32)), .val (.ref nb2_1), .val (.int (9 : Int32)), .val (.int (2 : Int32)), .val (.ref w_REMOVED)] [])) _
    refine XS.iloadN X12.here hx rfl (hb hby d3_9) rfl ?_
    show Steps p.tables e below (T12.setTop (mkF m 10 #[.val (.int (6 : Int32)), .val (.ref nb2_1), .val (.int (9 : Int32)), .val (.int (2 : Int32)), .val (.ref w_REMOVED)] [(.int (2 : Int32))])) _
    refine XS.iloadN X12.here hx rfl (hb hby d3_10) rfl ?_
    show Steps p.tables e below (T12.setTop (mkF m 11 #[.val (.int (6 : Int32)), .val (.ref nb2_1), .val (.int (9 : Int32)), .val (.int (2 : Int32)), .val (.ref w_REMOVED)] [(.int (9 : Int32)), (.int (2 : Int32))])) _
    refine XS.icmpNo X12.here hx rfl (hb hby d3_11) rfl (tlt (by decide : (2 : Int32) < (9 : Int32))).2.1 ?_
    show Steps p.tables e below (T12.setTop (mkF m 14 #[.val (.int (6 : Int32)), .val (.ref nb2_1), .val (.int (9 : Int32)), .val (.int (2 : Int32)), .val (.ref w_REMOVED)] [])) _
    refine XS.aloadN X12.here hx rfl (hb hby d3_14) rfl rfl ?_
    show Steps p.tables e below (T12.setTop (mkF m 15 #[.val (.int (6 : Int32)), .val (.ref nb2_1), .val (.int (9 : Int32)), .val (.int (2 : Int32)), .val (.ref w_REMOVED)] [(.ref nb2_1)])) _
    refine XS.iloadN X12.here hx rfl (hb hby d3_15) rfl ?_
    show Steps p.tables e below (T12.setTop (mkF m 16 #[.val (.int (6 : Int32)), .val (.ref nb2_1), .val (.int (9 : Int32)), .val (.int (2 : Int32)), .val (.ref w_REMOVED)] [(.int (2 : Int32)), (.ref nb2_1)])) _
    refine X12.aaload hx (j := (2 : Int32)) (v := (.ref w_WATCHED)) (by rw [e12]; exact r13.1) (State.isArrayOf_alike hZ.alike r13.2.1) rfl r13.2.2 hin13 hat13 (g := (mkF m 16 #[.val (.int (6 : Int32)), .val (.ref nb2_1), .val (.int (9 : Int32)), .val (.int (2 : Int32)), .val (.ref w_REMOVED)] [(.int (2 : Int32)), (.ref nb2_1)])) rfl rfl (hb hby d3_16) _ ?_
    show Steps p.tables e below (T12.setTop (mkF m 17 #[.val (.int (6 : Int32)), .val (.ref nb2_1), .val (.int (9 : Int32)), .val (.int (2 : Int32)), .val (.ref w_REMOVED)] [(.ref w_WATCHED)])) _
    refine XS.astore X12.here hx rfl (hb hby d3_17) rfl rfl (l' := #[.val (.int (6 : Int32)), .val (.ref nb2_1), .val (.int (9 : Int32)), .val (.int (2 : Int32)), .val (.ref w_WATCHED)]) rfl ?_
    show Steps p.tables e below (T12.setTop (mkF m 19 #[.val (.int (6 : Int32)), .val (.ref nb2_1), .val (.int (9 : Int32)), .val (.int (2 : Int32)), .val (.ref w_WATCHED)] [])) _
    refine XS.aload X12.here hx rfl (hb hby d3_19) rfl rfl ?_
    show Steps p.tables e below (T12.setTop (mkF m 21 #[.val (.int (6 : Int32)), .val (.ref nb2_1), .val (.int (9 : Int32)), .val (.int (2 : Int32)), .val (.ref w_WATCHED)] [(.ref w_WATCHED)])) _
    refine st15 _ ?_
    show Steps p.tables e below (T15.setTop (mkF m 24 #[.val (.int (6 : Int32)), .val (.ref nb2_1), .val (.int (9 : Int32)), .val (.int (2 : Int32)), .val (.ref w_WATCHED)] [(.int (3 : Int32))])) _
    refine XS.iloadN X15.here hx rfl (hb hby d3_24) rfl ?_
    show Steps p.tables e below (T15.setTop (mkF m 25 #[.val (.int (6 : Int32)), .val (.ref nb2_1), .val (.int (9 : Int32)), .val (.int (2 : Int32)), .val (.ref w_WATCHED)] [(.int (6 : Int32)), (.int (3 : Int32))])) _
    refine XS.icmpYes X15.here hx rfl (pc0 := 25) (pc' := 31) rfl (hb hby d3_25) rfl (feq (by decide : ¬ ((3 : Int32) = (6 : Int32)))).2 (by decide) (by decide) ?_
    show Steps p.tables e below (T15.setTop (mkF m 31 #[.val (.int (6 : Int32)), .val (.ref nb2_1), .val (.int (9 : Int32)), .val (.int (2 : Int32)), .val (.ref w_WATCHED)] [])) _
    refine XS.iinc X15.here hx rfl (hb hby d3_31) rfl (l' := #[.val (.int (6 : Int32)), .val (.ref nb2_1), .val (.int (9 : Int32)), .val (.int (3 : Int32)), .val (.ref w_WATCHED)]) rfl ?_
    show Steps p.tables e below (T15.setTop (mkF m 34 #[.val (.int (6 : Int32)), .val (.ref nb2_1), .val (.int (9 : Int32)), .val (.int (3 : Int32)), .val (.ref w_WATCHED)] [])) _
    refine XS.goto X15.here hx rfl (pc0 := 34) (pc' := 9) rfl (hb hby d3_34) (by decide) (by decide) ?_
    show Steps p.tables e below (T15.setTop (mkF m 9 #[.val (.int (6 : Int32)), .val (.ref nb2_1), .val (.int (9 : Int32)), .val (.int (3 : Int32)), .val (.ref w_WATCHED)] [])) _
    refine XS.iloadN X15.here hx rfl (hb hby d3_9) rfl ?_
    show Steps p.tables e below (T15.setTop (mkF m 10 #[.val (.int (6 : Int32)), .val (.ref nb2_1), .val (.int (9 : Int32)), .val (.int (3 : Int32)), .val (.ref w_WATCHED)] [(.int (3 : Int32))])) _
    refine XS.iloadN X15.here hx rfl (hb hby d3_10) rfl ?_
    show Steps p.tables e below (T15.setTop (mkF m 11 #[.val (.int (6 : Int32)), .val (.ref nb2_1), .val (.int (9 : Int32)), .val (.int (3 : Int32)), .val (.ref w_WATCHED)] [(.int (9 : Int32)), (.int (3 : Int32))])) _
    refine XS.icmpNo X15.here hx rfl (hb hby d3_11) rfl (tlt (by decide : (3 : Int32) < (9 : Int32))).2.1 ?_
    show Steps p.tables e below (T15.setTop (mkF m 14 #[.val (.int (6 : Int32)), .val (.ref nb2_1), .val (.int (9 : Int32)), .val (.int (3 : Int32)), .val (.ref w_WATCHED)] [])) _
    refine XS.aloadN X15.here hx rfl (hb hby d3_14) rfl rfl ?_
    show Steps p.tables e below (T15.setTop (mkF m 15 #[.val (.int (6 : Int32)), .val (.ref nb2_1), .val (.int (9 : Int32)), .val (.int (3 : Int32)), .val (.ref w_WATCHED)] [(.ref nb2_1)])) _
    refine XS.iloadN X15.here hx rfl (hb hby d3_15) rfl ?_
    show Steps p.tables e below (T15.setTop (mkF m 16 #[.val (.int (6 : Int32)), .val (.ref nb2_1), .val (.int (9 : Int32)), .val (.int (3 : Int32)), .val (.ref w_WATCHED)] [(.int (3 : Int32)), (.ref nb2_1)])) _
    refine X15.aaload hx (j := (3 : Int32)) (v := (.ref w_UNWATCHED)) (by rw [e15]; exact r16.1) (State.isArrayOf_alike hZ.alike r16.2.1) rfl r16.2.2 hin16 hat16 (g := (mkF m 16 #[.val (.int (6 : Int32)), .val (.ref nb2_1), .val (.int (9 : Int32)), .val (.int (3 : Int32)), .val (.ref w_WATCHED)] [(.int (3 : Int32)), (.ref nb2_1)])) rfl rfl (hb hby d3_16) _ ?_
    show Steps p.tables e below (T15.setTop (mkF m 17 #[.val (.int (6 : Int32)), .val (.ref nb2_1), .val (.int (9 : Int32)), .val (.int (3 : Int32)), .val (.ref w_WATCHED)] [(.ref w_UNWATCHED)])) _
    refine XS.astore X15.here hx rfl (hb hby d3_17) rfl rfl (l' := #[.val (.int (6 : Int32)), .val (.ref nb2_1), .val (.int (9 : Int32)), .val (.int (3 : Int32)), .val (.ref w_UNWATCHED)]) rfl ?_
    show Steps p.tables e below (T15.setTop (mkF m 19 #[.val (.int (6 : Int32)), .val (.ref nb2_1), .val (.int (9 : Int32)), .val (.int (3 : Int32)), .val (.ref w_UNWATCHED)] [])) _
    refine XS.aload X15.here hx rfl (hb hby d3_19) rfl rfl ?_
    show Steps p.tables e below (T15.setTop (mkF m 21 #[.val (.int (6 : Int32)), .val (.ref nb2_1), .val (.int (9 : Int32)), .val (.int (3 : Int32)), .val (.ref w_UNWATCHED)] [(.ref w_UNWATCHED)])) _
    refine st18 _ ?_
    show Steps p.tables e below (T18.setTop (mkF m 24 #[.val (.int (6 : Int32)), .val (.ref nb2_1), .val (.int (9 : Int32)), .val (.int (3 : Int32)), .val (.ref w_UNWATCHED)] [(.int (4 : Int32))])) _
    refine XS.iloadN X18.here hx rfl (hb hby d3_24) rfl ?_
    show Steps p.tables e below (T18.setTop (mkF m 25 #[.val (.int (6 : Int32)), .val (.ref nb2_1), .val (.int (9 : Int32)), .val (.int (3 : Int32)), .val (.ref w_UNWATCHED)] [(.int (6 : Int32)), (.int (4 : Int32))])) _
    refine XS.icmpYes X18.here hx rfl (pc0 := 25) (pc' := 31) rfl (hb hby d3_25) rfl (feq (by decide : ¬ ((4 : Int32) = (6 : Int32)))).2 (by decide) (by decide) ?_
    show Steps p.tables e below (T18.setTop (mkF m 31 #[.val (.int (6 : Int32)), .val (.ref nb2_1), .val (.int (9 : Int32)), .val (.int (3 : Int32)), .val (.ref w_UNWATCHED)] [])) _
    refine XS.iinc X18.here hx rfl (hb hby d3_31) rfl (l' := #[.val (.int (6 : Int32)), .val (.ref nb2_1), .val (.int (9 : Int32)), .val (.int (4 : Int32)), .val (.ref w_UNWATCHED)]) rfl ?_
    show Steps p.tables e below (T18.setTop (mkF m 34 #[.val (.int (6 : Int32)), .val (.ref nb2_1), .val (.int (9 : Int32)), .val (.int (4 : Int32)), .val (.ref w_UNWATCHED)] [])) _
    refine XS.goto X18.here hx rfl (pc0 := 34) (pc' := 9) rfl (hb hby d3_34) (by decide) (by decide) ?_
    show Steps p.tables e below (T18.setTop (mkF m 9 #[.val (.int (6 : Int32)), .val (.ref nb2_1), .val (.int (9 : Int32)), .val (.int (4 : Int32)), .val (.ref w_UNWATCHED)] [])) _
    refine XS.iloadN X18.here hx rfl (hb hby d3_9) rfl ?_
    show Steps p.tables e below (T18.setTop (mkF m 10 #[.val (.int (6 : Int32)), .val (.ref nb2_1), .val (.int (9 : Int32)), .val (.int (4 : Int32)), .val (.ref w_UNWATCHED)] [(.int (4 : Int32))])) _
    refine XS.iloadN X18.here hx rfl (hb hby d3_10) rfl ?_
    show Steps p.tables e below (T18.setTop (mkF m 11 #[.val (.int (6 : Int32)), .val (.ref nb2_1), .val (.int (9 : Int32)), .val (.int (4 : Int32)), .val (.ref w_UNWATCHED)] [(.int (9 : Int32)), (.int (4 : Int32))])) _
    refine XS.icmpNo X18.here hx rfl (hb hby d3_11) rfl (tlt (by decide : (4 : Int32) < (9 : Int32))).2.1 ?_
    show Steps p.tables e below (T18.setTop (mkF m 14 #[.val (.int (6 : Int32)), .val (.ref nb2_1), .val (.int (9 : Int32)), .val (.int (4 : Int32)), .val (.ref w_UNWATCHED)] [])) _
    refine XS.aloadN X18.here hx rfl (hb hby d3_14) rfl rfl ?_
    show Steps p.tables e below (T18.setTop (mkF m 15 #[.val (.int (6 : Int32)), .val (.ref nb2_1), .val (.int (9 : Int32)), .val (.int (4 : Int32)), .val (.ref w_UNWATCHED)] [(.ref nb2_1)])) _
    refine XS.iloadN X18.here hx rfl (hb hby d3_15) rfl ?_
    show Steps p.tables e below (T18.setTop (mkF m 16 #[.val (.int (6 : Int32)), .val (.ref nb2_1), .val (.int (9 : Int32)), .val (.int (4 : Int32)), .val (.ref w_UNWATCHED)] [(.int (4 : Int32)), (.ref nb2_1)])) _
    refine X18.aaload hx (j := (4 : Int32)) (v := (.ref w_UNWATCHED_ALL)) (by rw [e18]; exact r19.1) (State.isArrayOf_alike hZ.alike r19.2.1) rfl r19.2.2 hin19 hat19 (g := (mkF m 16 #[.val (.int (6 : Int32)), .val (.ref nb2_1), .val (.int (9 : Int32)), .val (.int (4 : Int32)), .val (.ref w_UNWATCHED)] [(.int (4 : Int32)), (.ref nb2_1)])) rfl rfl (hb hby d3_16) _ ?_
    show Steps p.tables e below (T18.setTop (mkF m 17 #[.val (.int (6 : Int32)), .val (.ref nb2_1), .val (.int (9 : Int32)), .val (.int (4 : Int32)), .val (.ref w_UNWATCHED)] [(.ref w_UNWATCHED_ALL)])) _
    refine XS.astore X18.here hx rfl (hb hby d3_17) rfl rfl (l' := #[.val (.int (6 : Int32)), .val (.ref nb2_1), .val (.int (9 : Int32)), .val (.int (4 : Int32)), .val (.ref w_UNWATCHED_ALL)]) rfl ?_
    show Steps p.tables e below (T18.setTop (mkF m 19 #[.val (.int (6 : Int32)), .val (.ref nb2_1), .val (.int (9 : Int32)), .val (.int (4 : Int32)), .val (.ref w_UNWATCHED_ALL)] [])) _
    refine XS.aload X18.here hx rfl (hb hby d3_19) rfl rfl ?_
    show Steps p.tables e below (T18.setTop (mkF m 21 #[.val (.int (6 : Int32)), .val (.ref nb2_1), .val (.int (9 : Int32)), .val (.int (4 : Int32)), .val (.ref w_UNWATCHED_ALL)] [(.ref w_UNWATCHED_ALL)])) _
    refine st21 _ ?_
    show Steps p.tables e below (T21.setTop (mkF m 24 #[.val (.int (6 : Int32)), .val (.ref nb2_1), .val (.int (9 : Int32)), .val (.int (4 : Int32)), .val (.ref w_UNWATCHED_ALL)] [(.int (5 : Int32))])) _
    refine XS.iloadN X21.here hx rfl (hb hby d3_24) rfl ?_
    show Steps p.tables e below (T21.setTop (mkF m 25 #[.val (.int (6 : Int32)), .val (.ref nb2_1), .val (.int (9 : Int32)), .val (.int (4 : Int32)), .val (.ref w_UNWATCHED_ALL)] [(.int (6 : Int32)), (.int (5 : Int32))])) _
    refine XS.icmpYes X21.here hx rfl (pc0 := 25) (pc' := 31) rfl (hb hby d3_25) rfl (feq (by decide : ¬ ((5 : Int32) = (6 : Int32)))).2 (by decide) (by decide) ?_
    show Steps p.tables e below (T21.setTop (mkF m 31 #[.val (.int (6 : Int32)), .val (.ref nb2_1), .val (.int (9 : Int32)), .val (.int (4 : Int32)), .val (.ref w_UNWATCHED_ALL)] [])) _
    refine XS.iinc X21.here hx rfl (hb hby d3_31) rfl (l' := #[.val (.int (6 : Int32)), .val (.ref nb2_1), .val (.int (9 : Int32)), .val (.int (5 : Int32)), .val (.ref w_UNWATCHED_ALL)]) rfl ?_
    show Steps p.tables e below (T21.setTop (mkF m 34 #[.val (.int (6 : Int32)), .val (.ref nb2_1), .val (.int (9 : Int32)), .val (.int (5 : Int32)), .val (.ref w_UNWATCHED_ALL)] [])) _
    refine XS.goto X21.here hx rfl (pc0 := 34) (pc' := 9) rfl (hb hby d3_34) (by decide) (by decide) ?_
    show Steps p.tables e below (T21.setTop (mkF m 9 #[.val (.int (6 : Int32)), .val (.ref nb2_1), .val (.int (9 : Int32)), .val (.int (5 : Int32)), .val (.ref w_UNWATCHED_ALL)] [])) _
    refine XS.iloadN X21.here hx rfl (hb hby d3_9) rfl ?_
    show Steps p.tables e below (T21.setTop (mkF m 10 #[.val (.int (6 : Int32)), .val (.ref nb2_1), .val (.int (9 : Int32)), .val (.int (5 : Int32)), .val (.ref w_UNWATCHED_ALL)] [(.int (5 : Int32))])) _
    refine XS.iloadN X21.here hx rfl (hb hby d3_10) rfl ?_
    show Steps p.tables e below (T21.setTop (mkF m 11 #[.val (.int (6 : Int32)), .val (.ref nb2_1), .val (.int (9 : Int32)), .val (.int (5 : Int32)), .val (.ref w_UNWATCHED_ALL)] [(.int (9 : Int32)), (.int (5 : Int32))])) _
    refine XS.icmpNo X21.here hx rfl (hb hby d3_11) rfl (tlt (by decide : (5 : Int32) < (9 : Int32))).2.1 ?_
    show Steps p.tables e below (T21.setTop (mkF m 14 #[.val (.int (6 : Int32)), .val (.ref nb2_1), .val (.int (9 : Int32)), .val (.int (5 : Int32)), .val (.ref w_UNWATCHED_ALL)] [])) _
    refine XS.aloadN X21.here hx rfl (hb hby d3_14) rfl rfl ?_
    show Steps p.tables e below (T21.setTop (mkF m 15 #[.val (.int (6 : Int32)), .val (.ref nb2_1), .val (.int (9 : Int32)), .val (.int (5 : Int32)), .val (.ref w_UNWATCHED_ALL)] [(.ref nb2_1)])) _
    refine XS.iloadN X21.here hx rfl (hb hby d3_15) rfl ?_
    show Steps p.tables e below (T21.setTop (mkF m 16 #[.val (.int (6 : Int32)), .val (.ref nb2_1), .val (.int (9 : Int32)), .val (.int (5 : Int32)), .val (.ref w_UNWATCHED_ALL)] [(.int (5 : Int32)), (.ref nb2_1)])) _
    refine X21.aaload hx (j := (5 : Int32)) (v := (.ref w_CLOCK_READING)) (by rw [e21]; exact r22.1) (State.isArrayOf_alike hZ.alike r22.2.1) rfl r22.2.2 hin22 hat22 (g := (mkF m 16 #[.val (.int (6 : Int32)), .val (.ref nb2_1), .val (.int (9 : Int32)), .val (.int (5 : Int32)), .val (.ref w_UNWATCHED_ALL)] [(.int (5 : Int32)), (.ref nb2_1)])) rfl rfl (hb hby d3_16) _ ?_
    show Steps p.tables e below (T21.setTop (mkF m 17 #[.val (.int (6 : Int32)), .val (.ref nb2_1), .val (.int (9 : Int32)), .val (.int (5 : Int32)), .val (.ref w_UNWATCHED_ALL)] [(.ref w_CLOCK_READING)])) _
    refine XS.astore X21.here hx rfl (hb hby d3_17) rfl rfl (l' := #[.val (.int (6 : Int32)), .val (.ref nb2_1), .val (.int (9 : Int32)), .val (.int (5 : Int32)), .val (.ref w_CLOCK_READING)]) rfl ?_
    show Steps p.tables e below (T21.setTop (mkF m 19 #[.val (.int (6 : Int32)), .val (.ref nb2_1), .val (.int (9 : Int32)), .val (.int (5 : Int32)), .val (.ref w_CLOCK_READING)] [])) _
    refine XS.aload X21.here hx rfl (hb hby d3_19) rfl rfl ?_
    show Steps p.tables e below (T21.setTop (mkF m 21 #[.val (.int (6 : Int32)), .val (.ref nb2_1), .val (.int (9 : Int32)), .val (.int (5 : Int32)), .val (.ref w_CLOCK_READING)] [(.ref w_CLOCK_READING)])) _
    refine st24 _ ?_
    show Steps p.tables e below (T24.setTop (mkF m 24 #[.val (.int (6 : Int32)), .val (.ref nb2_1), .val (.int (9 : Int32)), .val (.int (5 : Int32)), .val (.ref w_CLOCK_READING)] [(.int (6 : Int32))])) _
    refine XS.iloadN X24.here hx rfl (hb hby d3_24) rfl ?_
    show Steps p.tables e below (T24.setTop (mkF m 25 #[.val (.int (6 : Int32)), .val (.ref nb2_1), .val (.int (9 : Int32)), .val (.int (5 : Int32)), .val (.ref w_CLOCK_READING)] [(.int (6 : Int32)), (.int (6 : Int32))])) _
    refine XS.icmpNo X24.here hx rfl (hb hby d3_25) rfl (teq (by decide : (6 : Int32) = (6 : Int32))).2 ?_
    show Steps p.tables e below (T24.setTop (mkF m 28 #[.val (.int (6 : Int32)), .val (.ref nb2_1), .val (.int (9 : Int32)), .val (.int (5 : Int32)), .val (.ref w_CLOCK_READING)] [])) _
    refine XS.aload X24.here hx rfl (hb hby d3_28) rfl rfl ?_
    exact kt
  have f27 : Keep h0 h1 [] := K0.trans K1 all0
  obtain ⟨fs, hr, hrun, hended, hW, hsame⟩ := X24.leave (v := some (.ref w_CLOCK_READING)) (fun h => by rw [Bd.returns] at h; cases h)
  refine ⟨_, _, pre25 _ (retOut X24 hx Bd.returns rfl (Or.inr (Or.inr (Or.inr (Or.inr ⟨rfl, rfl, rfl⟩)))) (hb hby d3_30) hr), hrun, hended, _, _, rfl, ?_, ⟨_, rfl⟩, hW, hsame.mono (by decide) (by decide)⟩
  show QOf5 Z w_STORED w_REMOVED w_WATCHED w_UNWATCHED w_UNWATCHED_ALL w_CLOCK_READING w_ANSWERED w_UNDELIVERED w_DELIVERED w__VALUES k_ h0 n0 _ T24.heap _
  rw [e24]
  exact ⟨rfl, N2, f27⟩
theorem d2_55 : decode method_2_code 55 = .ok (.iload_n 0, 1) := by decide +kernel
theorem d2_56 : decode method_2_code 56 = .ok (.bipush 7, 2) := by decide +kernel
theorem d2_58 : decode method_2_code 58 = .ok (.if_icmp .ne 7, 3) := by decide +kernel
theorem d2_61 : decode method_2_code 61 = .ok (.getstatic 28, 3) := by decide +kernel
theorem d2_64 : decode method_2_code 64 = .ok (.areturn, 1) := by decide +kernel
theorem efExp6 (m : MethodId)  : entryFrame m #[(.int (7 : Int32))] 1 = mkF m 0 #[.val (.int (7 : Int32))] [] := by first | (simp [entryFrame, mkF, argsToLocals, Value.category]; done) | rfl
def QExp6 (Z : State) (w_ANSWERED : Addr) (h0 : Heap) (n0 : Nat) (v : Option Value) (h : Heap) (L : List Loc) : Prop := v = some (.ref w_ANSWERED) ∧ Fr n0 L ∧ h = h0
set_option maxRecDepth 65536 in
set_option maxHeartbeats 40000000 in
theorem rmExp6 (l : Launch) (Z : State) (a0 : Array Value) (hw : ∀ d ∈ tables_1, d.before a0 Z = true) (ws : List Jvm.Cond) (w_ANSWERED : Addr) (h0 : Heap) (n0 : Nat) (O0 : Old Z n0 h0) (P0 : Sta Z Z.heap "com/example/fawley/fawley/store/Change$Kind" "ANSWERED" "Lcom/example/fawley/fawley/store/Change$Kind;" (.ref w_ANSWERED)) :
    MetFree l (⟨"com/example/fawley/fawley/store/KindOfPinLaw", "expected", "(I)Lcom/example/fawley/fawley/store/Change$Kind;"⟩ : MethodName) (head1 (Jvm.Cond.code (⟨"com/example/fawley/fawley/store/KindOfPinLaw", "expected", "(I)Lcom/example/fawley/fawley/store/Change$Kind;"⟩ : MethodName) method_2_code 1 (some (.object "com/example/fawley/fawley/store/Change$Kind")) :: ws) ({ frames := 0, cells := 0, slots := 0, locals := 0 } : Room)) (fun a U => a = #[(.int (7 : Int32))] ∧ Z.Warmed39 U.vm ∧ U.heap = h0) (fun _ _ _ _ _ => True) (fun _ U o U' => ∃ v L, o = .returned v ∧ QExp6 Z w_ANSWERED h0 n0 v U'.heap L ∧ FrameEnd U o U' L ({ frames := 0, cells := 0, slots := 0, locals := 0 } : Room).cells ({ frames := 0, cells := 0, slots := 0, locals := 0 } : Room).slots) := by
  refine MetFree.of_bodySF (plainFor_of_name pn_1) hisR ?_
  intro p e s m args below meth c s₁ Bd hml0 hP hK
  obtain ⟨rfl, hZ, hh⟩ := hP
  have hx := Bd.exec
  have hby := Bd.bytes
  have hml : c.maxLocals = 1 := hml0
  have hown : s.vm.findClass "com/example/fawley/fawley/store/KindOfPinLaw" = some m.cls := findClass_of_methodNamed Bd.named
  have hnm := (name_of_methodNamed Bd.named Bd.method).1
  have X0 : Stand p l e ({ frames := 0, cells := 0, slots := 0, locals := 0 } : Room) s m #[(.int (7 : Int32))] below meth c s₁ [] 0 0 := Stand.of_body Bd
  have e0 : s₁.heap = h0 := by rw [← hh, Bd.state]; rfl
  have N0 := Fr.nil n0
  have pre0 : ∀ t, Steps p.tables e below (s₁.setTop (mkF m 0 #[.val (.int (7 : Int32))] [])) t → Steps p.tables e below (s₁.setTop (entryFrame m #[(.int (7 : Int32))] 1)) t := fun t k => castTop (efExp6 m ) k
  have K0 : Keep h0 h0 [] := Keep.refl _ _
  obtain ⟨T1, X1, e1, st1⟩ := getS2 X0 hx hZ hown (host := "") (Or.inl (hw _ (List.mem_of_getElem? (i := 47) rfl))) Via.refl e0 (P0.ext O0.2) (g := (mkF m 61 #[.val (.int (7 : Int32))] [])) rfl (hb hby d2_61)
  have pre2 : ∀ t, Steps p.tables e below (T1.setTop (mkF m 64 #[.val (.int (7 : Int32))] [(.ref w_ANSWERED)])) t → Steps p.tables e below (s₁.setTop (entryFrame m #[(.int (7 : Int32))] 1)) t := by
    intro t kt
    refine pre0 t ?_
    show Steps p.tables e below (s₁.setTop (mkF m 0 #[.val (.int (7 : Int32))] [])) _
    refine XS.iloadN X0.here hx rfl (hb hby d2_0) rfl ?_
    show Steps p.tables e below (s₁.setTop (mkF m 1 #[.val (.int (7 : Int32))] [(.int (7 : Int32))])) _
    refine XS.iconst X0.here hx rfl (hb hby d2_1) ?_
    show Steps p.tables e below (s₁.setTop (mkF m 2 #[.val (.int (7 : Int32))] [(.int (1 : Int32)), (.int (7 : Int32))])) _
    refine XS.icmpYes X0.here hx rfl (pc0 := 2) (pc' := 9) rfl (hb hby d2_2) rfl (feq (by decide : ¬ ((7 : Int32) = (1 : Int32)))).2 (by decide) (by decide) ?_
    show Steps p.tables e below (s₁.setTop (mkF m 9 #[.val (.int (7 : Int32))] [])) _
    refine XS.iloadN X0.here hx rfl (hb hby d2_9) rfl ?_
    show Steps p.tables e below (s₁.setTop (mkF m 10 #[.val (.int (7 : Int32))] [(.int (7 : Int32))])) _
    refine XS.iconst X0.here hx rfl (hb hby d2_10) ?_
    show Steps p.tables e below (s₁.setTop (mkF m 11 #[.val (.int (7 : Int32))] [(.int (2 : Int32)), (.int (7 : Int32))])) _
    refine XS.icmpYes X0.here hx rfl (pc0 := 11) (pc' := 18) rfl (hb hby d2_11) rfl (feq (by decide : ¬ ((7 : Int32) = (2 : Int32)))).2 (by decide) (by decide) ?_
    show Steps p.tables e below (s₁.setTop (mkF m 18 #[.val (.int (7 : Int32))] [])) _
    refine XS.iloadN X0.here hx rfl (hb hby d2_18) rfl ?_
    show Steps p.tables e below (s₁.setTop (mkF m 19 #[.val (.int (7 : Int32))] [(.int (7 : Int32))])) _
    refine XS.iconst X0.here hx rfl (hb hby d2_19) ?_
    show Steps p.tables e below (s₁.setTop (mkF m 20 #[.val (.int (7 : Int32))] [(.int (3 : Int32)), (.int (7 : Int32))])) _
    refine XS.icmpYes X0.here hx rfl (pc0 := 20) (pc' := 27) rfl (hb hby d2_20) rfl (feq (by decide : ¬ ((7 : Int32) = (3 : Int32)))).2 (by decide) (by decide) ?_
    show Steps p.tables e below (s₁.setTop (mkF m 27 #[.val (.int (7 : Int32))] [])) _
    refine XS.iloadN X0.here hx rfl (hb hby d2_27) rfl ?_
    show Steps p.tables e below (s₁.setTop (mkF m 28 #[.val (.int (7 : Int32))] [(.int (7 : Int32))])) _
    refine XS.iconst X0.here hx rfl (hb hby d2_28) ?_
    show Steps p.tables e below (s₁.setTop (mkF m 29 #[.val (.int (7 : Int32))] [(.int (4 : Int32)), (.int (7 : Int32))])) _
    refine XS.icmpYes X0.here hx rfl (pc0 := 29) (pc' := 36) rfl (hb hby d2_29) rfl (feq (by decide : ¬ ((7 : Int32) = (4 : Int32)))).2 (by decide) (by decide) ?_
    show Steps p.tables e below (s₁.setTop (mkF m 36 #[.val (.int (7 : Int32))] [])) _
    refine XS.iloadN X0.here hx rfl (hb hby d2_36) rfl ?_
    show Steps p.tables e below (s₁.setTop (mkF m 37 #[.val (.int (7 : Int32))] [(.int (7 : Int32))])) _
    refine XS.iconst X0.here hx rfl (hb hby d2_37) ?_
    show Steps p.tables e below (s₁.setTop (mkF m 38 #[.val (.int (7 : Int32))] [(.int (5 : Int32)), (.int (7 : Int32))])) _
    refine XS.icmpYes X0.here hx rfl (pc0 := 38) (pc' := 45) rfl (hb hby d2_38) rfl (feq (by decide : ¬ ((7 : Int32) = (5 : Int32)))).2 (by decide) (by decide) ?_
    show Steps p.tables e below (s₁.setTop (mkF m 45 #[.val (.int (7 : Int32))] [])) _
    refine XS.iloadN X0.here hx rfl (hb hby d2_45) rfl ?_
    show Steps p.tables e below (s₁.setTop (mkF m 46 #[.val (.int (7 : Int32))] [(.int (7 : Int32))])) _
    refine XS.bipush X0.here hx rfl (hb hby d2_46) ?_
    show Steps p.tables e below (s₁.setTop (mkF m 48 #[.val (.int (7 : Int32))] [(.int (6 : Int32)), (.int (7 : Int32))])) _
    refine XS.icmpYes X0.here hx rfl (pc0 := 48) (pc' := 55) rfl (hb hby d2_48) rfl (feq (by decide : ¬ ((7 : Int32) = (6 : Int32)))).2 (by decide) (by decide) ?_
    show Steps p.tables e below (s₁.setTop (mkF m 55 #[.val (.int (7 : Int32))] [])) _
    refine XS.iloadN X0.here hx rfl (hb hby d2_55) rfl ?_
    show Steps p.tables e below (s₁.setTop (mkF m 56 #[.val (.int (7 : Int32))] [(.int (7 : Int32))])) _
    refine XS.bipush X0.here hx rfl (hb hby d2_56) ?_
    show Steps p.tables e below (s₁.setTop (mkF m 58 #[.val (.int (7 : Int32))] [(.int (7 : Int32)), (.int (7 : Int32))])) _
    refine XS.icmpNo X0.here hx rfl (hb hby d2_58) rfl (teq (by decide : (7 : Int32) = (7 : Int32))).2 ?_
    show Steps p.tables e below (s₁.setTop (mkF m 61 #[.val (.int (7 : Int32))] [])) _
    refine st1 _ ?_
    exact kt
  obtain ⟨fs, hr, hrun, hended, hW, hsame⟩ := X1.leave (v := some (.ref w_ANSWERED)) (fun h => by rw [Bd.returns] at h; cases h)
  refine ⟨_, _, pre2 _ (retOut X1 hx Bd.returns rfl (Or.inr (Or.inr (Or.inr (Or.inr ⟨rfl, rfl, rfl⟩)))) (hb hby d2_64) hr), hrun, hended, _, _, rfl, ?_, ⟨_, rfl⟩, hW, hsame.mono (by decide) (by decide)⟩
  show QExp6 Z w_ANSWERED h0 n0 _ T1.heap _
  rw [e1]
  exact ⟨rfl, N0, rfl⟩
theorem efOf6 (m : MethodId)  : entryFrame m #[(.int (7 : Int32))] 5 = mkF m 0 #[.val (.int (7 : Int32)), .unset, .unset, .unset, .unset] [] := by first | (simp [entryFrame, mkF, argsToLocals, Value.category]; done) | rfl
def QOf6 (Z : State) (w_STORED : Addr) (w_REMOVED : Addr) (w_WATCHED : Addr) (w_UNWATCHED : Addr) (w_UNWATCHED_ALL : Addr) (w_CLOCK_READING : Addr) (w_ANSWERED : Addr) (w_UNDELIVERED : Addr) (w_DELIVERED : Addr) (w__VALUES : Addr) (k_ : ClassId) (h0 : Heap) (n0 : Nat) (v : Option Value) (h : Heap) (L : List Loc) : Prop := v = some (.ref w_ANSWERED) ∧ Fr n0 L ∧ Keep h0 h []
set_option maxRecDepth 65536 in
set_option maxHeartbeats 40000000 in
theorem rmOf6 (l : Launch) (Z : State) (a0 : Array Value) (hw : ∀ d ∈ tables_1, d.before a0 Z = true) (ws : List Jvm.Cond) (w_STORED : Addr) (w_REMOVED : Addr) (w_WATCHED : Addr) (w_UNWATCHED : Addr) (w_UNWATCHED_ALL : Addr) (w_CLOCK_READING : Addr) (w_ANSWERED : Addr) (w_UNDELIVERED : Addr) (w_DELIVERED : Addr) (w__VALUES : Addr) (k_ : ClassId) (h0 : Heap) (n0 : Nat) (O0 : Old Z n0 h0) (P0 : Sta Z Z.heap "com/example/fawley/fawley/store/Change$Kind" "STORED" "Lcom/example/fawley/fawley/store/Change$Kind;" (.ref w_STORED)) (P1 : Exa Z Z.heap w_STORED "com/example/fawley/fawley/store/Change$Kind") (P2 : Fld Z Z.heap w_STORED "com/example/fawley/fawley/store/Change$Kind" "code" "B" (.int (1 : Int32))) (P3 : Sta Z Z.heap "com/example/fawley/fawley/store/Change$Kind" "REMOVED" "Lcom/example/fawley/fawley/store/Change$Kind;" (.ref w_REMOVED)) (P4 : Exa Z Z.heap w_REMOVED "com/example/fawley/fawley/store/Change$Kind") (P5 : Fld Z Z.heap w_REMOVED "com/example/fawley/fawley/store/Change$Kind" "code" "B" (.int (2 : Int32))) (P6 : Sta Z Z.heap "com/example/fawley/fawley/store/Change$Kind" "WATCHED" "Lcom/example/fawley/fawley/store/Change$Kind;" (.ref w_WATCHED)) (P7 : Exa Z Z.heap w_WATCHED "com/example/fawley/fawley/store/Change$Kind") (P8 : Fld Z Z.heap w_WATCHED "com/example/fawley/fawley/store/Change$Kind" "code" "B" (.int (3 : Int32))) (P9 : Sta Z Z.heap "com/example/fawley/fawley/store/Change$Kind" "UNWATCHED" "Lcom/example/fawley/fawley/store/Change$Kind;" (.ref w_UNWATCHED)) (P10 : Exa Z Z.heap w_UNWATCHED "com/example/fawley/fawley/store/Change$Kind") (P11 : Fld Z Z.heap w_UNWATCHED "com/example/fawley/fawley/store/Change$Kind" "code" "B" (.int (4 : Int32))) (P12 : Sta Z Z.heap "com/example/fawley/fawley/store/Change$Kind" "UNWATCHED_ALL" "Lcom/example/fawley/fawley/store/Change$Kind;" (.ref w_UNWATCHED_ALL)) (P13 : Exa Z Z.heap w_UNWATCHED_ALL "com/example/fawley/fawley/store/Change$Kind") (P14 : Fld Z Z.heap w_UNWATCHED_ALL "com/example/fawley/fawley/store/Change$Kind" "code" "B" (.int (5 : Int32))) (P15 : Sta Z Z.heap "com/example/fawley/fawley/store/Change$Kind" "CLOCK_READING" "Lcom/example/fawley/fawley/store/Change$Kind;" (.ref w_CLOCK_READING)) (P16 : Exa Z Z.heap w_CLOCK_READING "com/example/fawley/fawley/store/Change$Kind") (P17 : Fld Z Z.heap w_CLOCK_READING "com/example/fawley/fawley/store/Change$Kind" "code" "B" (.int (6 : Int32))) (P18 : Sta Z Z.heap "com/example/fawley/fawley/store/Change$Kind" "ANSWERED" "Lcom/example/fawley/fawley/store/Change$Kind;" (.ref w_ANSWERED)) (P19 : Exa Z Z.heap w_ANSWERED "com/example/fawley/fawley/store/Change$Kind") (P20 : Fld Z Z.heap w_ANSWERED "com/example/fawley/fawley/store/Change$Kind" "code" "B" (.int (7 : Int32))) (P21 : Sta Z Z.heap "com/example/fawley/fawley/store/Change$Kind" "UNDELIVERED" "Lcom/example/fawley/fawley/store/Change$Kind;" (.ref w_UNDELIVERED)) (P22 : Exa Z Z.heap w_UNDELIVERED "com/example/fawley/fawley/store/Change$Kind") (P23 : Fld Z Z.heap w_UNDELIVERED "com/example/fawley/fawley/store/Change$Kind" "code" "B" (.int (8 : Int32))) (P24 : Sta Z Z.heap "com/example/fawley/fawley/store/Change$Kind" "DELIVERED" "Lcom/example/fawley/fawley/store/Change$Kind;" (.ref w_DELIVERED)) (P25 : Exa Z Z.heap w_DELIVERED "com/example/fawley/fawley/store/Change$Kind") (P26 : Fld Z Z.heap w_DELIVERED "com/example/fawley/fawley/store/Change$Kind" "code" "B" (.int (9 : Int32))) (P27 : Sta Z Z.heap "com/example/fawley/fawley/store/Change$Kind" "$VALUES" "[Lcom/example/fawley/fawley/store/Change$Kind;" (.ref w__VALUES)) (P28 : Exa Z Z.heap w__VALUES "[Lcom/example/fawley/fawley/store/Change$Kind;") (P29 : Arv Z Z.heap w__VALUES k_ (.object "com/example/fawley/fawley/store/Change$Kind") (9 : Int32) [(.ref w_STORED), (.ref w_REMOVED), (.ref w_WATCHED), (.ref w_UNWATCHED), (.ref w_UNWATCHED_ALL), (.ref w_CLOCK_READING), (.ref w_ANSWERED), (.ref w_UNDELIVERED), (.ref w_DELIVERED)] .null) :
    MetFree l (⟨"com/example/fawley/fawley/store/Change$Kind", "of", "(B)Lcom/example/fawley/fawley/store/Change$Kind;"⟩ : MethodName) (head1 (Jvm.Cond.code (⟨"com/example/fawley/fawley/store/Change$Kind", "of", "(B)Lcom/example/fawley/fawley/store/Change$Kind;"⟩ : MethodName) prog_29_method_5_code 5 (some (.object "com/example/fawley/fawley/store/Change$Kind")) :: ws) ({ frames := 2, cells := 1, slots := 9, locals := 25 } : Room)) (fun a U => a = #[(.int (7 : Int32))] ∧ Z.Warmed39 U.vm ∧ U.heap = h0) (fun _ _ _ _ _ => True) (fun _ U o U' => ∃ v L, o = .returned v ∧ QOf6 Z w_STORED w_REMOVED w_WATCHED w_UNWATCHED w_UNWATCHED_ALL w_CLOCK_READING w_ANSWERED w_UNDELIVERED w_DELIVERED w__VALUES k_ h0 n0 v U'.heap L ∧ FrameEnd U o U' L ({ frames := 2, cells := 1, slots := 9, locals := 25 } : Room).cells ({ frames := 2, cells := 1, slots := 9, locals := 25 } : Room).slots) := by
  refine MetFree.of_bodySF (plainFor_of_name pn_0) hisR ?_
  intro p e s m args below meth c s₁ Bd hml0 hP hK
  obtain ⟨rfl, hZ, hh⟩ := hP
  have hx := Bd.exec
  have hby := Bd.bytes
  have hml : c.maxLocals = 5 := hml0
  have hown : s.vm.findClass "com/example/fawley/fawley/store/Change$Kind" = some m.cls := findClass_of_methodNamed Bd.named
  have hnm := (name_of_methodNamed Bd.named Bd.method).1
  have X0 : Stand p l e ({ frames := 2, cells := 1, slots := 9, locals := 25 } : Room) s m #[(.int (7 : Int32))] below meth c s₁ [] 0 0 := Stand.of_body Bd
  have e0 : s₁.heap = h0 := by rw [← hh, Bd.state]; rfl
  have N0 := Fr.nil n0
  have pre0 : ∀ t, Steps p.tables e below (s₁.setTop (mkF m 0 #[.val (.int (7 : Int32)), .unset, .unset, .unset, .unset] [])) t → Steps p.tables e below (s₁.setTop (entryFrame m #[(.int (7 : Int32))] 5)) t := fun t k => castTop (efOf6 m ) k
  have K0 : Keep h0 h0 [] := Keep.refl _ _
  obtain ⟨_, _, ⟨T1, L1, k1, n1⟩, -, X1, ⟨Lc1, hQ1, l1, y1, z1⟩, st1⟩ := Jvm.LawKit.callS X0 hx (y := (⟨"com/example/fawley/fawley/store/Change$Kind", "values", "()[Lcom/example/fawley/fawley/store/Change$Kind;"⟩ : MethodName)) hown (mvT hZ (hw _ (List.mem_of_getElem? (i := 11) rfl))) (mvT hZ (hw _ (List.mem_of_getElem? (i := 12) rfl))) (mvT hZ (hw _ (List.mem_of_getElem? (i := 6) rfl))) (mvT hZ (hw _ (List.mem_of_getElem? (i := 13) rfl))) (by decide) (backOf (W := 0) (rmVal l Z a0 hw [] w_STORED w_REMOVED w_WATCHED w_UNWATCHED w_UNWATCHED_ALL w_CLOCK_READING w_ANSWERED w_UNDELIVERED w_DELIVERED w__VALUES k_ h0 n0 O0 P0 P1 P2 P3 P4 P5 P6 P7 P8 P9 P10 P11 P12 P13 P14 P15 P16 P17 P18 P19 P20 P21 P22 P23 P24 P25 P26 P27 P28 P29) hZ (hw _ (List.mem_of_getElem? (i := 13) rfl)) (hw _ (List.mem_of_getElem? (i := 6) rfl)) (by decide) (by decide)) (g := (mkF m 0 #[.val (.int (7 : Int32)), .unset, .unset, .unset, .unset] [])) rfl (by rw [hml]; rfl) (argsL := []) (rest := []) (lenOf pd_0 rfl) rfl (by show 2 * 0 + _ ≤ _; exact Nat.le_of_eq rfl) (hb hby d3_0) (fun _ _ => ⟨rfl, e0, (by decide : 0 + 1 ≤ _), (by decide : 0 + 9 ≤ _)⟩)
  dsimp only [Pt.U, Pt.locs, Pt.cells, Pt.slots] at X1 l1 y1 z1 st1 hQ1
  subst l1 y1 z1
  obtain ⟨h1, e1⟩ : ∃ z, T1.heap = z := ⟨_, rfl⟩
  rw [e1] at hQ1
  obtain ⟨nb2_1, rfl, N1q, K1, sznb2_1, g1_0, g1_1⟩ := hQ1
  have N2 := Fr.app N0 N1q
  have ge3 : n0 ≤ nb2_1 := Nat.le_trans (Nat.le_trans (Nat.le_of_eq O0.1.symm) O0.2.1) sznb2_1
  have sz4 : h0.size ≤ nb2_1 := Nat.le_trans K0.1 sznb2_1
  obtain ⟨c5, r5, q5, s5, z5, y5, G5⟩ := id g1_0
  obtain ⟨c6, r6, q6, s6, z6, y6, G6⟩ := id g1_0
  have hin6 : ¬ ((0 : Int32) < 0 ∨ c6.slots.size ≤ ((0 : Int32)).toNatClampNeg) := inb_of s6 ⟨by decide, by decide⟩
  have hat6 : c6.slots[((0 : Int32)).toNatClampNeg]? = some (.ref w_STORED) := Has.at y6 hin6 rfl
  have f7 : Old Z n0 h1 := O0.keep K1 all0
  have f8 : Fld Z h1 w_STORED "com/example/fawley/fawley/store/Change$Kind" "code" "B" (.int (1 : Int32)) := P2.ext f7.2
  obtain ⟨T9, X9, e9, st9⟩ := getF X1 hx hZ hown (host := "") (Or.inl (hw _ (List.mem_of_getElem? (i := 34) rfl))) Via.refl e1 f8 (g := (mkF m 21 #[.val (.int (7 : Int32)), .val (.ref nb2_1), .val (.int (9 : Int32)), .val (.int (0 : Int32)), .val (.ref w_STORED)] [(.ref w_STORED)])) rfl rfl (hb hby d3_21)
  obtain ⟨c10, r10, q10, s10, z10, y10, G10⟩ := id g1_0
  have hin10 : ¬ ((1 : Int32) < 0 ∨ c10.slots.size ≤ ((1 : Int32)).toNatClampNeg) := inb_of s10 ⟨by decide, by decide⟩
  have hat10 : c10.slots[((1 : Int32)).toNatClampNeg]? = some (.ref w_REMOVED) := Has.at y10 hin10 rfl
  have f11 : Fld Z h1 w_REMOVED "com/example/fawley/fawley/store/Change$Kind" "code" "B" (.int (2 : Int32)) := P5.ext f7.2
  obtain ⟨T12, X12, e12, st12⟩ := getF X9 hx hZ hown (host := "") (Or.inl (hw _ (List.mem_of_getElem? (i := 34) rfl))) Via.refl e9 f11 (g := (mkF m 21 #[.val (.int (7 : Int32)), .val (.ref nb2_1), .val (.int (9 : Int32)), .val (.int (1 : Int32)), .val (.ref w_REMOVED)] [(.ref w_REMOVED)])) rfl rfl (hb hby d3_21)
  obtain ⟨c13, r13, q13, s13, z13, y13, G13⟩ := id g1_0
  have hin13 : ¬ ((2 : Int32) < 0 ∨ c13.slots.size ≤ ((2 : Int32)).toNatClampNeg) := inb_of s13 ⟨by decide, by decide⟩
  have hat13 : c13.slots[((2 : Int32)).toNatClampNeg]? = some (.ref w_WATCHED) := Has.at y13 hin13 rfl
  have f14 : Fld Z h1 w_WATCHED "com/example/fawley/fawley/store/Change$Kind" "code" "B" (.int (3 : Int32)) := P8.ext f7.2
  obtain ⟨T15, X15, e15, st15⟩ := getF X12 hx hZ hown (host := "") (Or.inl (hw _ (List.mem_of_getElem? (i := 34) rfl))) Via.refl e12 f14 (g := (mkF m 21 #[.val (.int (7 : Int32)), .val (.ref nb2_1), .val (.int (9 : Int32)), .val (.int (2 : Int32)), .val (.ref w_WATCHED)] [(.ref w_WATCHED)])) rfl rfl (hb hby d3_21)
  obtain ⟨c16, r16, q16, s16, z16, y16, G16⟩ := id g1_0
  have hin16 : ¬ ((3 : Int32) < 0 ∨ c16.slots.size ≤ ((3 : Int32)).toNatClampNeg) := inb_of s16 ⟨by decide, by decide⟩
  have hat16 : c16.slots[((3 : Int32)).toNatClampNeg]? = some (.ref w_UNWATCHED) := Has.at y16 hin16 rfl
  have f17 : Fld Z h1 w_UNWATCHED "com/example/fawley/fawley/store/Change$Kind" "code" "B" (.int (4 : Int32)) := P11.ext f7.2
  obtain ⟨T18, X18, e18, st18⟩ := getF X15 hx hZ hown (host := "") (Or.inl (hw _ (List.mem_of_getElem? (i := 34) rfl))) Via.refl e15 f17 (g := (mkF m 21 #[.val (.int (7 : Int32)), .val (.ref nb2_1), .val (.int (9 : Int32)), .val (.int (3 : Int32)), .val (.ref w_UNWATCHED)] [(.ref w_UNWATCHED)])) rfl rfl (hb hby d3_21)
  obtain ⟨c19, r19, q19, s19, z19, y19, G19⟩ := id g1_0
  have hin19 : ¬ ((4 : Int32) < 0 ∨ c19.slots.size ≤ ((4 : Int32)).toNatClampNeg) := inb_of s19 ⟨by decide, by decide⟩
  have hat19 : c19.slots[((4 : Int32)).toNatClampNeg]? = some (.ref w_UNWATCHED_ALL) := Has.at y19 hin19 rfl
  have f20 : Fld Z h1 w_UNWATCHED_ALL "com/example/fawley/fawley/store/Change$Kind" "code" "B" (.int (5 : Int32)) := P14.ext f7.2
  obtain ⟨T21, X21, e21, st21⟩ := getF X18 hx hZ hown (host := "") (Or.inl (hw _ (List.mem_of_getElem? (i := 34) rfl))) Via.refl e18 f20 (g := (mkF m 21 #[.val (.int (7 : Int32)), .val (.ref nb2_1), .val (.int (9 : Int32)), .val (.int (4 : Int32)), .val (.ref w_UNWATCHED_ALL)] [(.ref w_UNWATCHED_ALL)])) rfl rfl (hb hby d3_21)
  obtain ⟨c22, r22, q22, s22, z22, y22, G22⟩ := id g1_0
  have hin22 : ¬ ((5 : Int32) < 0 ∨ c22.slots.size ≤ ((5 : Int32)).toNatClampNeg) := inb_of s22 ⟨by decide, by decide⟩
  have hat22 : c22.slots[((5 : Int32)).toNatClampNeg]? = some (.ref w_CLOCK_READING) := Has.at y22 hin22 rfl
  have f23 : Fld Z h1 w_CLOCK_READING "com/example/fawley/fawley/store/Change$Kind" "code" "B" (.int (6 : Int32)) := P17.ext f7.2
  obtain ⟨T24, X24, e24, st24⟩ := getF X21 hx hZ hown (host := "") (Or.inl (hw _ (List.mem_of_getElem? (i := 34) rfl))) Via.refl e21 f23 (g := (mkF m 21 #[.val (.int (7 : Int32)), .val (.ref nb2_1), .val (.int (9 : Int32)), .val (.int (5 : Int32)), .val (.ref w_CLOCK_READING)] [(.ref w_CLOCK_READING)])) rfl rfl (hb hby d3_21)
  obtain ⟨c25, r25, q25, s25, z25, y25, G25⟩ := id g1_0
  have hin25 : ¬ ((6 : Int32) < 0 ∨ c25.slots.size ≤ ((6 : Int32)).toNatClampNeg) := inb_of s25 ⟨by decide, by decide⟩
  have hat25 : c25.slots[((6 : Int32)).toNatClampNeg]? = some (.ref w_ANSWERED) := Has.at y25 hin25 rfl
  have f26 : Fld Z h1 w_ANSWERED "com/example/fawley/fawley/store/Change$Kind" "code" "B" (.int (7 : Int32)) := P20.ext f7.2
  obtain ⟨T27, X27, e27, st27⟩ := getF X24 hx hZ hown (host := "") (Or.inl (hw _ (List.mem_of_getElem? (i := 34) rfl))) Via.refl e24 f26 (g := (mkF m 21 #[.val (.int (7 : Int32)), .val (.ref nb2_1), .val (.int (9 : Int32)), .val (.int (6 : Int32)), .val (.ref w_ANSWERED)] [(.ref w_ANSWERED)])) rfl rfl (hb hby d3_21)
  have pre28 : ∀ t, Steps p.tables e below (T27.setTop (mkF m 30 #[.val (.int (7 : Int32)), .val (.ref nb2_1), .val (.int (9 : Int32)), .val (.int (6 : Int32)), .val (.ref w_ANSWERED)] [(.ref w_ANSWERED)])) t → Steps p.tables e below (s₁.setTop (entryFrame m #[(.int (7 : Int32))] 5)) t := by
    intro t kt
    refine pre0 t ?_
    show Steps p.tables e below (s₁.setTop (mkF m 0 #[.val (.int (7 : Int32)), .unset, .unset, .unset, .unset] [])) _
    refine st1 _ ?_
    show Steps p.tables e below (T1.setTop (mkF m 3 #[.val (.int (7 : Int32)), .unset, .unset, .unset, .unset] [(.ref nb2_1)])) _
    refine XS.astoreN X1.here hx rfl (hb hby d3_3) rfl rfl (l' := #[.val (.int (7 : Int32)), .val (.ref nb2_1), .unset, .unset, .unset]) rfl ?_
    show Steps p.tables e below (T1.setTop (mkF m 4 #[.val (.int (7 : Int32)), .val (.ref nb2_1), .unset, .unset, .unset] [])) _
    refine XS.aloadN X1.here hx rfl (hb hby d3_4) rfl rfl ?_
    show Steps p.tables e below (T1.setTop (mkF m 5 #[.val (.int (7 : Int32)), .val (.ref nb2_1), .unset, .unset, .unset] [(.ref nb2_1)])) _
    refine X1.arraylength hx (by rw [e1]; exact r5.1) (State.isArrayOf_alike hZ.alike r5.2.1) (g := (mkF m 5 #[.val (.int (7 : Int32)), .val (.ref nb2_1), .unset, .unset, .unset] [(.ref nb2_1)])) rfl rfl (hb hby d3_5) _ ?_
    rw [len_of s5 z5]
    show Steps p.tables e below (T1.setTop (mkF m 6 #[.val (.int (7 : Int32)), .val (.ref nb2_1), .unset, .unset, .unset] [(.int (9 : Int32))])) _
    refine XS.istoreN X1.here hx rfl (hb hby d3_6) rfl (l' := #[.val (.int (7 : Int32)), .val (.ref nb2_1), .val (.int (9 : Int32)), .unset, .unset]) rfl ?_
    show Steps p.tables e below (T1.setTop (mkF m 7 #[.val (.int (7 : Int32)), .val (.ref nb2_1), .val (.int (9 : Int32)), .unset, .unset] [])) _
    refine XS.iconst X1.here hx rfl (hb hby d3_7) ?_
    show Steps p.tables e below (T1.setTop (mkF m 8 #[.val (.int (7 : Int32)), .val (.ref nb2_1), .val (.int (9 : Int32)), .unset, .unset] [(.int (0 : Int32))])) _
    refine XS.istoreN X1.here hx rfl (hb hby d3_8) rfl (l' := #[.val (.int (7 : Int32)), .val (.ref nb2_1), .val (.int (9 : Int32)), .val (.int (0 : Int32)), .unset]) rfl ?_
    show Steps p.tables e below (T1.setTop (mkF m 9 #[.val (.int (7 : Int32)), .val (.ref nb2_1), .val (.int (9 : Int32)), .val (.int (0 : Int32)), .unset] [])) _
    refine XS.iloadN X1.here hx rfl (hb hby d3_9) rfl ?_
    show Steps p.tables e below (T1.setTop (mkF m 10 #[.val (.int (7 : Int32)), .val (.ref nb2_1), .val (.int (9 : Int32)), .val (.int (0 : Int32)), .unset] [(.int (0 : Int32))])) _
    refine XS.iloadN X1.here hx rfl (hb hby d3_10) rfl ?_
    show Steps p.tables e below (T1.setTop (mkF m 11 #[.val (.int (7 : Int32)), .val (.ref nb2_1), .val (.int (9 : Int32)), .val (.int (0 : Int32)), .unset] [(.int (9 : Int32)), (.int (0 : Int32))])) _
    refine XS.icmpNo X1.here hx rfl (hb hby d3_11) rfl (tlt (by decide : (0 : Int32) < (9 : Int32))).2.1 ?_
    show Steps p.tables e below (T1.setTop (mkF m 14 #[.val (.int (7 : Int32)), .val (.ref nb2_1), .val (.int (9 : Int32)), .val (.int (0 : Int32)), .unset] [])) _
    refine XS.aloadN X1.here hx rfl (hb hby d3_14) rfl rfl ?_
    show Steps p.tables e below (T1.setTop (mkF m 15 #[.val (.int (7 : Int32)), .val (.ref nb2_1), .val (.int (9 : Int32)), .val (.int (0 : Int32)), .unset] [(.ref nb2_1)])) _
    refine XS.iloadN X1.here hx rfl (hb hby d3_15) rfl ?_
    show Steps p.tables e below (T1.setTop (mkF m 16 #[.val (.int (7 : Int32)), .val (.ref nb2_1), .val (.int (9 : Int32)), .val (.int (0 : Int32)), .unset] [(.int (0 : Int32)), (.ref nb2_1)])) _
    refine X1.aaload hx (j := (0 : Int32)) (v := (.ref w_STORED)) (by rw [e1]; exact r6.1) (State.isArrayOf_alike hZ.alike r6.2.1) rfl r6.2.2 hin6 hat6 (g := (mkF m 16 #[.val (.int (7 : Int32)), .val (.ref nb2_1), .val (.int (9 : Int32)), .val (.int (0 : Int32)), .unset] [(.int (0 : Int32)), (.ref nb2_1)])) rfl rfl (hb hby d3_16) _ ?_
    show Steps p.tables e below (T1.setTop (mkF m 17 #[.val (.int (7 : Int32)), .val (.ref nb2_1), .val (.int (9 : Int32)), .val (.int (0 : Int32)), .unset] [(.ref w_STORED)])) _
    refine XS.astore X1.here hx rfl (hb hby d3_17) rfl rfl (l' := #[.val (.int (7 : Int32)), .val (.ref nb2_1), .val (.int (9 : Int32)), .val (.int (0 : Int32)), .val (.ref w_STORED)]) rfl ?_
    show Steps p.tables e below (T1.setTop (mkF m 19 #[.val (.int (7 : Int32)), .val (.ref nb2_1), .val (.int (9 : Int32)), .val (.int (0 : Int32)), .val (.ref w_STORED)] [])) _
    refine XS.aload X1.here hx rfl (hb hby d3_19) rfl rfl ?_
    show Steps p.tables e below (T1.setTop (mkF m 21 #[.val (.int (7 : Int32)), .val (.ref nb2_1), .val (.int (9 : Int32)), .val (.int (0 : Int32)), .val (.ref w_STORED)] [(.ref w_STORED)])) _
    refine st9 _ ?_
    show Steps p.tables e below (T9.setTop (mkF m 24 #[.val (.int (7 : Int32)), .val (.ref nb2_1), .val (.int (9 : Int32)), .val (.int (0 : Int32)), .val (.ref w_STORED)] [(.int (1 : Int32))])) _
    refine XS.iloadN X9.here hx rfl (hb hby d3_24) rfl ?_
    show Steps p.tables e below (T9.setTop (mkF m 25 #[.val (.int (7 : Int32)), .val (.ref nb2_1), .val (.int (9 : Int32)), .val (.int (0 : Int32)), .val (.ref w_STORED)] [(.int (7 : Int32)), (.int (1 : Int32))])) _
    refine XS.icmpYes X9.here hx rfl (pc0 := 25) (pc' := 31) rfl (hb hby d3_25) rfl (feq (by decide : ¬ ((1 : Int32) = (7 : Int32)))).2 (by decide) (by decide) ?_
    show Steps p.tables e below (T9.setTop (mkF m 31 #[.val (.int (7 : Int32)), .val (.ref nb2_1), .val (.int (9 : Int32)), .val (.int (0 : Int32)), .val (.ref w_STORED)] [])) _
    refine XS.iinc X9.here hx rfl (hb hby d3_31) rfl (l' := #[.val (.int (7 : Int32)), .val (.ref nb2_1), .val (.int (9 : Int32)), .val (.int (1 : Int32)), .val (.ref w_STORED)]) rfl ?_
    show Steps p.tables e below (T9.setTop (mkF m 34 #[.val (.int (7 : Int32)), .val (.ref nb2_1), .val (.int (9 : Int32)), .val (.int (1 : Int32)), .val (.ref w_STORED)] [])) _
    refine XS.goto X9.here hx rfl (pc0 := 34) (pc' := 9) rfl (hb hby d3_34) (by decide) (by decide) ?_
    show Steps p.tables e below (T9.setTop (mkF m 9 #[.val (.int (7 : Int32)), .val (.ref nb2_1), .val (.int (9 : Int32)), .val (.int (1 : Int32)), .val (.ref w_STORED)] [])) _
    refine XS.iloadN X9.here hx rfl (hb hby d3_9) rfl ?_
    show Steps p.tables e below (T9.setTop (mkF m 10 #[.val (.int (7 : Int32)), .val (.ref nb2_1), .val (.int (9 : Int32)), .val (.int (1 : Int32)), .val (.ref w_STORED)] [(.int (1 : Int32))])) _
    refine XS.iloadN X9.here hx rfl (hb hby d3_10) rfl ?_
    show Steps p.tables e below (T9.setTop (mkF m 11 #[.val (.int (7 : Int32)), .val (.ref nb2_1), .val (.int (9 : Int32)), .val (.int (1 : Int32)), .val (.ref w_STORED)] [(.int (9 : Int32)), (.int (1 : Int32))])) _
    refine XS.icmpNo X9.here hx rfl (hb hby d3_11) rfl (tlt (by decide : (1 : Int32) < (9 : Int32))).2.1 ?_
    show Steps p.tables e below (T9.setTop (mkF m 14 #[.val (.int (7 : Int32)), .val (.ref nb2_1), .val (.int (9 : Int32)), .val (.int (1 : Int32)), .val (.ref w_STORED)] [])) _
    refine XS.aloadN X9.here hx rfl (hb hby d3_14) rfl rfl ?_
    show Steps p.tables e below (T9.setTop (mkF m 15 #[.val (.int (7 : Int32)), .val (.ref nb2_1), .val (.int (9 : Int32)), .val (.int (1 : Int32)), .val (.ref w_STORED)] [(.ref nb2_1)])) _
    refine XS.iloadN X9.here hx rfl (hb hby d3_15) rfl ?_
    show Steps p.tables e below (T9.setTop (mkF m 16 #[.val (.int (7 : Int32)), .val (.ref nb2_1), .val (.int (9 : Int32)), .val (.int (1 : Int32)), .val (.ref w_STORED)] [(.int (1 : Int32)), (.ref nb2_1)])) _
    refine X9.aaload hx (j := (1 : Int32)) (v := (.ref w_REMOVED)) (by rw [e9]; exact r10.1) (State.isArrayOf_alike hZ.alike r10.2.1) rfl r10.2.2 hin10 hat10 (g := (mkF m 16 #[.val (.int (7 : Int32)), .val (.ref nb2_1), .val (.int (9 : Int32)), .val (.int (1 : Int32)), .val (.ref w_STORED)] [(.int (1 : Int32)), (.ref nb2_1)])) rfl rfl (hb hby d3_16) _ ?_
    show Steps p.tables e below (T9.setTop (mkF m 17 #[.val (.int (7 : Int32)), .val (.ref nb2_1), .val (.int (9 : Int32)), .val (.int (1 : Int32)), .val (.ref w_STORED)] [(.ref w_REMOVED)])) _
    refine XS.astore X9.here hx rfl (hb hby d3_17) rfl rfl (l' := #[.val (.int (7 : Int32)), .val (.ref nb2_1), .val (.int (9 : Int32)), .val (.int (1 : Int32)), .val (.ref w_REMOVED)]) rfl ?_
    show Steps p.tables e below (T9.setTop (mkF m 19 #[.val (.int (7 : Int32)), .val (.ref nb2_1), .val (.int (9 : Int32)), .val (.int (1 : Int32)), .val (.ref w_REMOVED)] [])) _
    refine XS.aload X9.here hx rfl (hb hby d3_19) rfl rfl ?_
    show Steps p.tables e below (T9.setTop (mkF m 21 #[.val (.int (7 : Int32)), .val (.ref nb2_1), .val (.int (9 : Int32)), .val (.int (1 : Int32)), .val (.ref w_REMOVED)] [(.ref w_REMOVED)])) _
    refine st12 _ ?_
    show Steps p.tables e below (T12.setTop (mkF m 24 #[.val (.int (7 : Int32)), .val (.ref nb2_1), .val (.int (9 : Int32)), .val (.int (1 : Int32)), .val (.ref w_REMOVED)] [(.int (2 : Int32))])) _
    refine XS.iloadN X12.here hx rfl (hb hby d3_24) rfl ?_
    show Steps p.tables e below (T12.setTop (mkF m 25 #[.val (.int (7 : Int32)), .val (.ref nb2_1), .val (.int (9 : Int32)), .val (.int (1 : Int32)), .val (.ref w_REMOVED)] [(.int (7 : Int32)), (.int (2 : Int32))])) _
    refine XS.icmpYes X12.here hx rfl (pc0 := 25) (pc' := 31) rfl (hb hby d3_25) rfl (feq (by decide : ¬ ((2 : Int32) = (7 : Int32)))).2 (by decide) (by decide) ?_
    show Steps p.tables e below (T12.setTop (mkF m 31 #[.val (.int (7 : Int32)), .val (.ref nb2_1), .val (.int (9 : Int32)), .val (.int (1 : Int32)), .val (.ref w_REMOVED)] [])) _
    refine XS.iinc X12.here hx rfl (hb hby d3_31) rfl (l' := #[.val (.int (7 : Int32)), .val (.ref nb2_1), .val (.int (9 : Int32)), .val (.int (2 : Int32)), .val (.ref w_REMOVED)]) rfl ?_
    show Steps p.tables e below (T12.setTop (mkF m 34 #[.val (.int (7 : Int32)), .val (.ref nb2_1), .val (.int (9 : Int32)), .val (.int (2 : Int32)), .val (.ref w_REMOVED)] [])) _
    refine XS.goto X12.here hx rfl (pc0 := 34) (pc' := 9) rfl (hb hby d3_34) (by decide) (by decide) ?_
    show Steps p.tables e below (T12.setTop (mkF m 9 #[.val (.int (7 : Int32)), .val (.ref nb2_1), .val (.int (9 : Int32)), .val (.int (2 : Int32)), .val (.ref w_REMOVED)] [])) _
    refine XS.iloadN X12.here hx rfl (hb hby d3_9) rfl ?_
    show Steps p.tables e below (T12.setTop (mkF m 10 #[.val (.int (7 : Int32)), .val (.ref nb2_1), .val (.int (9 : Int32)), .val (.int (2 : Int32)), .val (.ref w_REMOVED)] [(.int (2 : Int32))])) _
    refine XS.iloadN X12.here hx rfl (hb hby d3_10) rfl ?_
    show Steps p.tables e below (T12.setTop (mkF m 11 #[.val (.int (7 : Int32)), .val (.ref nb2_1), .val (.int (9 : Int32)), .val (.int (2 : Int32)), .val (.ref w_REMOVED)] [(.int (9 : Int32)), (.int (2 : Int32))])) _
    refine XS.icmpNo X12.here hx rfl (hb hby d3_11) rfl (tlt (by decide : (2 : Int32) < (9 : Int32))).2.1 ?_
    show Steps p.tables e below (T12.setTop (mkF m 14 #[.val (.int (7 : Int32)), .val (.ref nb2_1), .val (.int (9 : Int32)), .val (.int (2 : Int32)), .val (.ref w_REMOVED)] [])) _
    refine XS.aloadN X12.here hx rfl (hb hby d3_14) rfl rfl ?_
    show Steps p.tables e below (T12.setTop (mkF m 15 #[.val (.int (7 : Int32)), .val (.ref nb2_1), .val (.int (9 : Int32)), .val (.int (2 : Int32)), .val (.ref w_REMOVED)] [(.ref nb2_1)])) _
    refine XS.iloadN X12.here hx rfl (hb hby d3_15) rfl ?_
    show Steps p.tables e below (T12.setTop (mkF m 16 #[.val (.int (7 : Int32)), .val (.ref nb2_1), .val (.int (9 : Int32)), .val (.int (2 : Int32)), .val (.ref w_REMOVED)] [(.int (2 : Int32)), (.ref nb2_1)])) _
    refine X12.aaload hx (j := (2 : Int32)) (v := (.ref w_WATCHED)) (by rw [e12]; exact r13.1) (State.isArrayOf_alike hZ.alike r13.2.1) rfl r13.2.2 hin13 hat13 (g := (mkF m 16 #[.val (.int (7 : Int32)), .val (.ref nb2_1), .val (.int (9 : Int32)), .val (.int (2 : Int32)), .val (.ref w_REMOVED)] [(.int (2 : Int32)), (.ref nb2_1)])) rfl rfl (hb hby d3_16) _ ?_
    show Steps p.tables e below (T12.setTop (mkF m 17 #[.val (.int (7 : Int32)), .val (.ref nb2_1), .val (.int (9 : Int32)), .val (.int (2 : Int32)), .val (.ref w_REMOVED)] [(.ref w_WATCHED)])) _
    refine XS.astore X12.here hx rfl (hb hby d3_17) rfl rfl (l' := #[.val (.int (7 : Int32)), .val (.ref nb2_1), .val (.int (9 : Int32)), .val (.int (2 : Int32)), .val (.ref w_WATCHED)]) rfl ?_
    show Steps p.tables e below (T12.setTop (mkF m 19 #[.val (.int (7 : Int32)), .val (.ref nb2_1), .val (.int (9 : Int32)), .val (.int (2 : Int32)), .val (.ref w_WATCHED)] [])) _
    refine XS.aload X12.here hx rfl (hb hby d3_19) rfl rfl ?_
    show Steps p.tables e below (T12.setTop (mkF m 21 #[.val (.int (7 : Int32)), .val (.ref nb2_1), .val (.int (9 : Int32)), .val (.int (2 : Int32)), .val (.ref w_WATCHED)] [(.ref w_WATCHED)])) _
    refine st15 _ ?_
    show Steps p.tables e below (T15.setTop (mkF m 24 #[.val (.int (7 : Int32)), .val (.ref nb2_1), .val (.int (9 : Int32)), .val (.int (2 : Int32)), .val (.ref w_WATCHED)] [(.int (3 : Int32))])) _
    refine XS.iloadN X15.here hx rfl (hb hby d3_24) rfl ?_
    show Steps p.tables e below (T15.setTop (mkF m 25 #[.val (.int (7 : Int32)), .val (.ref nb2_1), .val (.int (9 : Int32)), .val (.int (2 : Int32)), .val (.ref w_WATCHED)] [(.int (7 : Int32)), (.int (3 : Int32))])) _
    refine XS.icmpYes X15.here hx rfl (pc0 := 25) (pc' := 31) rfl (hb hby d3_25) rfl (feq (by decide : ¬ ((3 : Int32) = (7 : Int32)))).2 (by decide) (by decide) ?_
    show Steps p.tables e below (T15.setTop (mkF m 31 #[.val (.int (7 : Int32)), .val (.ref nb2_1), .val (.int (9 : Int32)), .val (.int (2 : Int32)), .val (.ref w_WATCHED)] [])) _
    refine XS.iinc X15.here hx rfl (hb hby d3_31) rfl (l' := #[.val (.int (7 : Int32)), .val (.ref nb2_1), .val (.int (9 : Int32)), .val (.int (3 : Int32)), .val (.ref w_WATCHED)]) rfl ?_
    show Steps p.tables e below (T15.setTop (mkF m 34 #[.val (.int (7 : Int32)), .val (.ref nb2_1), .val (.int (9 : Int32)), .val (.int (3 : Int32)), .val (.ref w_WATCHED)] [])) _
    refine XS.goto X15.here hx rfl (pc0 := 34) (pc' := 9) rfl (hb hby d3_34) (by decide) (by decide) ?_
    show Steps p.tables e below (T15.setTop (mkF m 9 #[.val (.int (7 : Int32)), .val (.ref nb2_1), .val (.int (9 : Int32)), .val (.int (3 : Int32)), .val (.ref w_WATCHED)] [])) _
    refine XS.iloadN X15.here hx rfl (hb hby d3_9) rfl ?_
    show Steps p.tables e below (T15.setTop (mkF m 10 #[.val (.int (7 : Int32)), .val (.ref nb2_1), .val (.int (9 : Int32)), .val (.int (3 : Int32)), .val (.ref w_WATCHED)] [(.int (3 : Int32))])) _
    refine XS.iloadN X15.here hx rfl (hb hby d3_10) rfl ?_
    show Steps p.tables e below (T15.setTop (mkF m 11 #[.val (.int (7 : Int32)), .val (.ref nb2_1), .val (.int (9 : Int32)), .val (.int (3 : Int32)), .val (.ref w_WATCHED)] [(.int (9 : Int32)), (.int (3 : Int32))])) _
    refine XS.icmpNo X15.here hx rfl (hb hby d3_11) rfl (tlt (by decide : (3 : Int32) < (9 : Int32))).2.1 ?_
    show Steps p.tables e below (T15.setTop (mkF m 14 #[.val (.int (7 : Int32)), .val (.ref nb2_1), .val (.int (9 : Int32)), .val (.int (3 : Int32)), .val (.ref w_WATCHED)] [])) _
    refine XS.aloadN X15.here hx rfl (hb hby d3_14) rfl rfl ?_
    show Steps p.tables e below (T15.setTop (mkF m 15 #[.val (.int (7 : Int32)), .val (.ref nb2_1), .val (.int (9 : Int32)), .val (.int (3 : Int32)), .val (.ref w_WATCHED)] [(.ref nb2_1)])) _
    refine XS.iloadN X15.here hx rfl (hb hby d3_15) rfl ?_
    show Steps p.tables e below (T15.setTop (mkF m 16 #[.val (.int (7 : Int32)), .val (.ref nb2_1), .val (.int (9 : Int32)), .val (.int (3 : Int32)), .val (.ref w_WATCHED)] [(.int (3 : Int32)), (.ref nb2_1)])) _
    refine X15.aaload hx (j := (3 : Int32)) (v := (.ref w_UNWATCHED)) (by rw [e15]; exact r16.1) (State.isArrayOf_alike hZ.alike r16.2.1) rfl r16.2.2 hin16 hat16 (g := (mkF m 16 #[.val (.int (7 : Int32)), .val (.ref nb2_1), .val (.int (9 : Int32)), .val (.int (3 : Int32)), .val (.ref w_WATCHED)] [(.int (3 : Int32)), (.ref nb2_1)])) rfl rfl (hb hby d3_16) _ ?_
    show Steps p.tables e below (T15.setTop (mkF m 17 #[.val (.int (7 : Int32)), .val (.ref nb2_1), .val (.int (9 : Int32)), .val (.int (3 : Int32)), .val (.ref w_WATCHED)] [(.ref w_UNWATCHED)])) _
    refine XS.astore X15.here hx rfl (hb hby d3_17) rfl rfl (l' := #[.val (.int (7 : Int32)), .val (.ref nb2_1), .val (.int (9 : Int32)), .val (.int (3 : Int32)), .val (.ref w_UNWATCHED)]) rfl ?_
    show Steps p.tables e below (T15.setTop (mkF m 19 #[.val (.int (7 : Int32)), .val (.ref nb2_1), .val (.int (9 : Int32)), .val (.int (3 : Int32)), .val (.ref w_UNWATCHED)] [])) _
    refine XS.aload X15.here hx rfl (hb hby d3_19) rfl rfl ?_
    show Steps p.tables e below (T15.setTop (mkF m 21 #[.val (.int (7 : Int32)), .val (.ref nb2_1), .val (.int (9 : Int32)), .val (.int (3 : Int32)), .val (.ref w_UNWATCHED)] [(.ref w_UNWATCHED)])) _
    refine st18 _ ?_
    show Steps p.tables e below (T18.setTop (mkF m 24 #[.val (.int (7 : Int32)), .val (.ref nb2_1), .val (.int (9 : Int32)), .val (.int (3 : Int32)), .val (.ref w_UNWATCHED)] [(.int (4 : Int32))])) _
    refine XS.iloadN X18.here hx rfl (hb hby d3_24) rfl ?_
    show Steps p.tables e below (T18.setTop (mkF m 25 #[.val (.int (7 : Int32)), .val (.ref nb2_1), .val (.int (9 : Int32)), .val (.int (3 : Int32)), .val (.ref w_UNWATCHED)] [(.int (7 : Int32)), (.int (4 : Int32))])) _
    refine XS.icmpYes X18.here hx rfl (pc0 := 25) (pc' := 31) rfl (hb hby d3_25) rfl (feq (by decide : ¬ ((4 : Int32) = (7 : Int32)))).2 (by decide) (by decide) ?_
    show Steps p.tables e below (T18.setTop (mkF m 31 #[.val (.int (7 : Int32)), .val (.ref nb2_1), .val (.int (9 : Int32)), .val (.int (3 : Int32)), .val (.ref w_UNWATCHED)] [])) _
    refine XS.iinc X18.here hx rfl (hb hby d3_31) rfl (l' := #[.val (.int (7 : Int32)), .val (.ref nb2_1), .val (.int (9 : Int32)), .val (.int (4 : Int32)), .val (.ref w_UNWATCHED)]) rfl ?_
    show Steps p.tables e below (T18.setTop (mkF m 34 #[.val (.int (7 : Int32)), .val (.ref nb2_1), .val (.int (9 : Int32)), .val (.int (4 : Int32)), .val (.ref w_UNWATCHED)] [])) _
    refine XS.goto X18.here hx rfl (pc0 := 34) (pc' := 9) rfl (hb hby d3_34) (by decide) (by decide) ?_
    show Steps p.tables e below (T18.setTop (mkF m 9 #[.val (.int (7 : Int32)), .val (.ref nb2_1), .val (.int (9 : Int32)), .val (.int (4 : Int32)), .val (.ref w_UNWATCHED)] [])) _
    refine XS.iloadN X18.here hx rfl (hb hby d3_9) rfl ?_
    show Steps p.tables e below (T18.setTop (mkF m 10 #[.val (.int (7 : Int32)), .val (.ref nb2_1), .val (.int (9 : Int32)), .val (.int (4 : Int32)), .val (.ref w_UNWATCHED)] [(.int (4 : Int32))])) _
    refine XS.iloadN X18.here hx rfl (hb hby d3_10) rfl ?_
    show Steps p.tables e below (T18.setTop (mkF m 11 #[.val (.int (7 : Int32)), .val (.ref nb2_1), .val (.int (9 : Int32)), .val (.int (4 : Int32)), .val (.ref w_UNWATCHED)] [(.int (9 : Int32)), (.int (4 : Int32))])) _
    refine XS.icmpNo X18.here hx rfl (hb hby d3_11) rfl (tlt (by decide : (4 : Int32) < (9 : Int32))).2.1 ?_
    show Steps p.tables e below (T18.setTop (mkF m 14 #[.val (.int (7 : Int32)), .val (.ref nb2_1), .val (.int (9 : Int32)), .val (.int (4 : Int32)), .val (.ref w_UNWATCHED)] [])) _
    refine XS.aloadN X18.here hx rfl (hb hby d3_14) rfl rfl ?_
    show Steps p.tables e below (T18.setTop (mkF m 15 #[.val (.int (7 : Int32)), .val (.ref nb2_1), .val (.int (9 : Int32)), .val (.int (4 : Int32)), .val (.ref w_UNWATCHED)] [(.ref nb2_1)])) _
    refine XS.iloadN X18.here hx rfl (hb hby d3_15) rfl ?_
    show Steps p.tables e below (T18.setTop (mkF m 16 #[.val (.int (7 : Int32)), .val (.ref nb2_1), .val (.int (9 : Int32)), .val (.int (4 : Int32)), .val (.ref w_UNWATCHED)] [(.int (4 : Int32)), (.ref nb2_1)])) _
    refine X18.aaload hx (j := (4 : Int32)) (v := (.ref w_UNWATCHED_ALL)) (by rw [e18]; exact r19.1) (State.isArrayOf_alike hZ.alike r19.2.1) rfl r19.2.2 hin19 hat19 (g := (mkF m 16 #[.val (.int (7 : Int32)), .val (.ref nb2_1), .val (.int (9 : Int32)), .val (.int (4 : Int32)), .val (.ref w_UNWATCHED)] [(.int (4 : Int32)), (.ref nb2_1)])) rfl rfl (hb hby d3_16) _ ?_
    show Steps p.tables e below (T18.setTop (mkF m 17 #[.val (.int (7 : Int32)), .val (.ref nb2_1), .val (.int (9 : Int32)), .val (.int (4 : Int32)), .val (.ref w_UNWATCHED)] [(.ref w_UNWATCHED_ALL)])) _
    refine XS.astore X18.here hx rfl (hb hby d3_17) rfl rfl (l' := #[.val (.int (7 : Int32)), .val (.ref nb2_1), .val (.int (9 : Int32)), .val (.int (4 : Int32)), .val (.ref w_UNWATCHED_ALL)]) rfl ?_
    show Steps p.tables e below (T18.setTop (mkF m 19 #[.val (.int (7 : Int32)), .val (.ref nb2_1), .val (.int (9 : Int32)), .val (.int (4 : Int32)), .val (.ref w_UNWATCHED_ALL)] [])) _
    refine XS.aload X18.here hx rfl (hb hby d3_19) rfl rfl ?_
    show Steps p.tables e below (T18.setTop (mkF m 21 #[.val (.int (7 : Int32)), .val (.ref nb2_1), .val (.int (9 : Int32)), .val (.int (4 : Int32)), .val (.ref w_UNWATCHED_ALL)] [(.ref w_UNWATCHED_ALL)])) _
    refine st21 _ ?_
    show Steps p.tables e below (T21.setTop (mkF m 24 #[.val (.int (7 : Int32)), .val (.ref nb2_1), .val (.int (9 : Int32)), .val (.int (4 : Int32)), .val (.ref w_UNWATCHED_ALL)] [(.int (5 : Int32))])) _
    refine XS.iloadN X21.here hx rfl (hb hby d3_24) rfl ?_
    show Steps p.tables e below (T21.setTop (mkF m 25 #[.val (.int (7 : Int32)), .val (.ref nb2_1), .val (.int (9 : Int32)), .val (.int (4 : Int32)), .val (.ref w_UNWATCHED_ALL)] [(.int (7 : Int32)), (.int (5 : Int32))])) _
    refine XS.icmpYes X21.here hx rfl (pc0 := 25) (pc' := 31) rfl (hb hby d3_25) rfl (feq (by decide : ¬ ((5 : Int32) = (7 : Int32)))).2 (by decide) (by decide) ?_
    show Steps p.tables e below (T21.setTop (mkF m 31 #[.val (.int (7 : Int32)), .val (.ref nb2_1), .val (.int (9 : Int32)), .val (.int (4 : Int32)), .val (.ref w_UNWATCHED_ALL)] [])) _
    refine XS.iinc X21.here hx rfl (hb hby d3_31) rfl (l' := #[.val (.int (7 : Int32)), .val (.ref nb2_1), .val (.int (9 : Int32)), .val (.int (5 : Int32)), .val (.ref w_UNWATCHED_ALL)]) rfl ?_
    show Steps p.tables e below (T21.setTop (mkF m 34 #[.val (.int (7 : Int32)), .val (.ref nb2_1), .val (.int (9 : Int32)), .val (.int (5 : Int32)), .val (.ref w_UNWATCHED_ALL)] [])) _
    refine XS.goto X21.here hx rfl (pc0 := 34) (pc' := 9) rfl (hb hby d3_34) (by decide) (by decide) ?_
    show Steps p.tables e below (T21.setTop (mkF m 9 #[.val (.int (7 : Int32)), .val (.ref nb2_1), .val (.int (9 : Int32)), .val (.int (5 : Int32)), .val (.ref w_UNWATCHED_ALL)] [])) _
    refine XS.iloadN X21.here hx rfl (hb hby d3_9) rfl ?_
    show Steps p.tables e below (T21.setTop (mkF m 10 #[.val (.int (7 : Int32)), .val (.ref nb2_1), .val (.int (9 : Int32)), .val (.int (5 : Int32)), .val (.ref w_UNWATCHED_ALL)] [(.int (5 : Int32))])) _
    refine XS.iloadN X21.here hx rfl (hb hby d3_10) rfl ?_
    show Steps p.tables e below (T21.setTop (mkF m 11 #[.val (.int (7 : Int32)), .val (.ref nb2_1), .val (.int (9 : Int32)), .val (.int (5 : Int32)), .val (.ref w_UNWATCHED_ALL)] [(.int (9 : Int32)), (.int (5 : Int32))])) _
    refine XS.icmpNo X21.here hx rfl (hb hby d3_11) rfl (tlt (by decide : (5 : Int32) < (9 : Int32))).2.1 ?_
    show Steps p.tables e below (T21.setTop (mkF m 14 #[.val (.int (7 : Int32)), .val (.ref nb2_1), .val (.int (9 : Int32)), .val (.int (5 : Int32)), .val (.ref w_UNWATCHED_ALL)] [])) _
    refine XS.aloadN X21.here hx rfl (hb hby d3_14) rfl rfl ?_
    show Steps p.tables e below (T21.setTop (mkF m 15 #[.val (.int (7 : Int32)), .val (.ref nb2_1), .val (.int (9 : Int32)), .val (.int (5 : Int32)), .val (.ref w_UNWATCHED_ALL)] [(.ref nb2_1)])) _
    refine XS.iloadN X21.here hx rfl (hb hby d3_15) rfl ?_
    show Steps p.tables e below (T21.setTop (mkF m 16 #[.val (.int (7 : Int32)), .val (.ref nb2_1), .val (.int (9 : Int32)), .val (.int (5 : Int32)), .val (.ref w_UNWATCHED_ALL)] [(.int (5 : Int32)), (.ref nb2_1)])) _
    refine X21.aaload hx (j := (5 : Int32)) (v := (.ref w_CLOCK_READING)) (by rw [e21]; exact r22.1) (State.isArrayOf_alike hZ.alike r22.2.1) rfl r22.2.2 hin22 hat22 (g := (mkF m 16 #[.val (.int (7 : Int32)), .val (.ref nb2_1), .val (.int (9 : Int32)), .val (.int (5 : Int32)), .val (.ref w_UNWATCHED_ALL)] [(.int (5 : Int32)), (.ref nb2_1)])) rfl rfl (hb hby d3_16) _ ?_
    show Steps p.tables e below (T21.setTop (mkF m 17 #[.val (.int (7 : Int32)), .val (.ref nb2_1), .val (.int (9 : Int32)), .val (.int (5 : Int32)), .val (.ref w_UNWATCHED_ALL)] [(.ref w_CLOCK_READING)])) _
    refine XS.astore X21.here hx rfl (hb hby d3_17) rfl rfl (l' := #[.val (.int (7 : Int32)), .val (.ref nb2_1), .val (.int (9 : Int32)), .val (.int (5 : Int32)), .val (.ref w_CLOCK_READING)]) rfl ?_
    show Steps p.tables e below (T21.setTop (mkF m 19 #[.val (.int (7 : Int32)), .val (.ref nb2_1), .val (.int (9 : Int32)), .val (.int (5 : Int32)), .val (.ref w_CLOCK_READING)] [])) _
    refine XS.aload X21.here hx rfl (hb hby d3_19) rfl rfl ?_
    show Steps p.tables e below (T21.setTop (mkF m 21 #[.val (.int (7 : Int32)), .val (.ref nb2_1), .val (.int (9 : Int32)), .val (.int (5 : Int32)), .val (.ref w_CLOCK_READING)] [(.ref w_CLOCK_READING)])) _
    refine st24 _ ?_
    show Steps p.tables e below (T24.setTop (mkF m 24 #[.val (.int (7 : Int32)), .val (.ref nb2_1), .val (.int (9 : Int32)), .val (.int (5 : Int32)), .val (.ref w_CLOCK_READING)] [(.int (6 : Int32))])) _
    refine XS.iloadN X24.here hx rfl (hb hby d3_24) rfl ?_
    show Steps p.tables e below (T24.setTop (mkF m 25 #[.val (.int (7 : Int32)), .val (.ref nb2_1), .val (.int (9 : Int32)), .val (.int (5 : Int32)), .val (.ref w_CLOCK_READING)] [(.int (7 : Int32)), (.int (6 : Int32))])) _
    refine XS.icmpYes X24.here hx rfl (pc0 := 25) (pc' := 31) rfl (hb hby d3_25) rfl (feq (by decide : ¬ ((6 : Int32) = (7 : Int32)))).2 (by decide) (by decide) ?_
    show Steps p.tables e below (T24.setTop (mkF m 31 #[.val (.int (7 : Int32)), .val (.ref nb2_1), .val (.int (9 : Int32)), .val (.int (5 : Int32)), .val (.ref w_CLOCK_READING)] [])) _
    refine XS.iinc X24.here hx rfl (hb hby d3_31) rfl (l' := #[.val (.int (7 : Int32)), .val (.ref nb2_1), .val (.int (9 : Int32)), .val (.int (6 : Int32)), .val (.ref w_CLOCK_READING)]) rfl ?_
    show Steps p.tables e below (T24.setTop (mkF m 34 #[.val (.int (7 : Int32)), .val (.ref nb2_1), .val (.int (9 : Int32)), .val (.int (6 : Int32)), .val (.ref w_CLOCK_READING)] [])) _
    refine XS.goto X24.here hx rfl (pc0 := 34) (pc' := 9) rfl (hb hby d3_34) (by decide) (by decide) ?_
    show Steps p.tables e below (T24.setTop (mkF m 9 #[.val (.int (7 : Int32)), .val (.ref nb2_1), .val (.int (9 : Int32)), .val (.int (6 : Int32)), .val (.ref w_CLOCK_READING)] [])) _
    refine XS.iloadN X24.here hx rfl (hb hby d3_9) rfl ?_
    show Steps p.tables e below (T24.setTop (mkF m 10 #[.val (.int (7 : Int32)), .val (.ref nb2_1), .val (.int (9 : Int32)), .val (.int (6 : Int32)), .val (.ref w_CLOCK_READING)] [(.int (6 : Int32))])) _
    refine XS.iloadN X24.here hx rfl (hb hby d3_10) rfl ?_
    show Steps p.tables e below (T24.setTop (mkF m 11 #[.val (.int (7 : Int32)), .val (.ref nb2_1), .val (.int (9 : Int32)), .val (.int (6 : Int32)), .val (.ref w_CLOCK_READING)] [(.int (9 : Int32)), (.int (6 : Int32))])) _
    refine XS.icmpNo X24.here hx rfl (hb hby d3_11) rfl (tlt (by decide : (6 : Int32) < (9 : Int32))).2.1 ?_
    show Steps p.tables e below (T24.setTop (mkF m 14 #[.val (.int (7 : Int32)), .val (.ref nb2_1), .val (.int (9 : Int32)), .val (.int (6 : Int32)), .val (.ref w_CLOCK_READING)] [])) _
    refine XS.aloadN X24.here hx rfl (hb hby d3_14) rfl rfl ?_
    show Steps p.tables e below (T24.setTop (mkF m 15 #[.val (.int (7 : Int32)), .val (.ref nb2_1), .val (.int (9 : Int32)), .val (.int (6 : Int32)), .val (.ref w_CLOCK_READING)] [(.ref nb2_1)])) _
    refine XS.iloadN X24.here hx rfl (hb hby d3_15) rfl ?_
    show Steps p.tables e below (T24.setTop (mkF m 16 #[.val (.int (7 : Int32)), .val (.ref nb2_1), .val (.int (9 : Int32)), .val (.int (6 : Int32)), .val (.ref w_CLOCK_READING)] [(.int (6 : Int32)), (.ref nb2_1)])) _
    refine X24.aaload hx (j := (6 : Int32)) (v := (.ref w_ANSWERED)) (by rw [e24]; exact r25.1) (State.isArrayOf_alike hZ.alike r25.2.1) rfl r25.2.2 hin25 hat25 (g := (mkF m 16 #[.val (.int (7 : Int32)), .val (.ref nb2_1), .val (.int (9 : Int32)), .val (.int (6 : Int32)), .val (.ref w_CLOCK_READING)] [(.int (6 : Int32)), (.ref nb2_1)])) rfl rfl (hb hby d3_16) _ ?_
    show Steps p.tables e below (T24.setTop (mkF m 17 #[.val (.int (7 : Int32)), .val (.ref nb2_1), .val (.int (9 : Int32)), .val (.int (6 : Int32)), .val (.ref w_CLOCK_READING)] [(.ref w_ANSWERED)])) _
    refine XS.astore X24.here hx rfl (hb hby d3_17) rfl rfl (l' := #[.val (.int (7 : Int32)), .val (.ref nb2_1), .val (.int (9 : Int32)), .val (.int (6 : Int32)), .val (.ref w_ANSWERED)]) rfl ?_
    show Steps p.tables e below (T24.setTop (mkF m 19 #[.val (.int (7 : Int32)), .val (.ref nb2_1), .val (.int (9 : Int32)), .val (.int (6 : Int32)), .val (.ref w_ANSWERED)] [])) _
    refine XS.aload X24.here hx rfl (hb hby d3_19) rfl rfl ?_
    show Steps p.tables e below (T24.setTop (mkF m 21 #[.val (.int (7 : Int32)), .val (.ref nb2_1), .val (.int (9 : Int32)), .val (.int (6 : Int32)), .val (.ref w_ANSWERED)] [(.ref w_ANSWERED)])) _
    refine st27 _ ?_
    show Steps p.tables e below (T27.setTop (mkF m 24 #[.val (.int (7 : Int32)), .val (.ref nb2_1), .val (.int (9 : Int32)), .val (.int (6 : Int32)), .val (.ref w_ANSWERED)] [(.int (7 : Int32))])) _
    refine XS.iloadN X27.here hx rfl (hb hby d3_24) rfl ?_
    show Steps p.tables e below (T27.setTop (mkF m 25 #[.val (.int (7 : Int32)), .val (.ref nb2_1), .val (.int (9 : Int32)), .val (.int (6 : Int32)), .val (.ref w_ANSWERED)] [(.int (7 : Int32)), (.int (7 : Int32))])) _
    refine XS.icmpNo X27.here hx rfl (hb hby d3_25) rfl (teq (by decide : (7 : Int32) = (7 : Int32))).2 ?_
    show Steps p.tables e below (T27.setTop (mkF m 28 #[.val (.int (7 : Int32)), .val (.ref nb2_1), .val (.int (9 : Int32)), .val (.int (6 : Int32)), .val (.ref w_ANSWERED)] [])) _
    refine XS.aload X27.here hx rfl (hb hby d3_28) rfl rfl ?_
    exact kt
  have f30 : Keep h0 h1 [] := K0.trans K1 all0
  obtain ⟨fs, hr, hrun, hended, hW, hsame⟩ := X27.leave (v := some (.ref w_ANSWERED)) (fun h => by rw [Bd.returns] at h; cases h)
  refine ⟨_, _, pre28 _ (retOut X27 hx Bd.returns rfl (Or.inr (Or.inr (Or.inr (Or.inr ⟨rfl, rfl, rfl⟩)))) (hb hby d3_30) hr), hrun, hended, _, _, rfl, ?_, ⟨_, rfl⟩, hW, hsame.mono (by decide) (by decide)⟩
  show QOf6 Z w_STORED w_REMOVED w_WATCHED w_UNWATCHED w_UNWATCHED_ALL w_CLOCK_READING w_ANSWERED w_UNDELIVERED w_DELIVERED w__VALUES k_ h0 n0 _ T27.heap _
  rw [e27]
  exact ⟨rfl, N2, f30⟩
theorem d2_65 : decode method_2_code 65 = .ok (.iload_n 0, 1) := by decide +kernel
theorem d2_66 : decode method_2_code 66 = .ok (.bipush 8, 2) := by decide +kernel
theorem d2_68 : decode method_2_code 68 = .ok (.if_icmp .ne 7, 3) := by decide +kernel
theorem d2_71 : decode method_2_code 71 = .ok (.getstatic 31, 3) := by decide +kernel
theorem d2_74 : decode method_2_code 74 = .ok (.areturn, 1) := by decide +kernel
theorem efExp7 (m : MethodId)  : entryFrame m #[(.int (8 : Int32))] 1 = mkF m 0 #[.val (.int (8 : Int32))] [] := by first | (simp [entryFrame, mkF, argsToLocals, Value.category]; done) | rfl
def QExp7 (Z : State) (w_UNDELIVERED : Addr) (h0 : Heap) (n0 : Nat) (v : Option Value) (h : Heap) (L : List Loc) : Prop := v = some (.ref w_UNDELIVERED) ∧ Fr n0 L ∧ h = h0
set_option maxRecDepth 65536 in
set_option maxHeartbeats 40000000 in
theorem rmExp7 (l : Launch) (Z : State) (a0 : Array Value) (hw : ∀ d ∈ tables_1, d.before a0 Z = true) (ws : List Jvm.Cond) (w_UNDELIVERED : Addr) (h0 : Heap) (n0 : Nat) (O0 : Old Z n0 h0) (P0 : Sta Z Z.heap "com/example/fawley/fawley/store/Change$Kind" "UNDELIVERED" "Lcom/example/fawley/fawley/store/Change$Kind;" (.ref w_UNDELIVERED)) :
    MetFree l (⟨"com/example/fawley/fawley/store/KindOfPinLaw", "expected", "(I)Lcom/example/fawley/fawley/store/Change$Kind;"⟩ : MethodName) (head1 (Jvm.Cond.code (⟨"com/example/fawley/fawley/store/KindOfPinLaw", "expected", "(I)Lcom/example/fawley/fawley/store/Change$Kind;"⟩ : MethodName) method_2_code 1 (some (.object "com/example/fawley/fawley/store/Change$Kind")) :: ws) ({ frames := 0, cells := 0, slots := 0, locals := 0 } : Room)) (fun a U => a = #[(.int (8 : Int32))] ∧ Z.Warmed39 U.vm ∧ U.heap = h0) (fun _ _ _ _ _ => True) (fun _ U o U' => ∃ v L, o = .returned v ∧ QExp7 Z w_UNDELIVERED h0 n0 v U'.heap L ∧ FrameEnd U o U' L ({ frames := 0, cells := 0, slots := 0, locals := 0 } : Room).cells ({ frames := 0, cells := 0, slots := 0, locals := 0 } : Room).slots) := by
  refine MetFree.of_bodySF (plainFor_of_name pn_1) hisR ?_
  intro p e s m args below meth c s₁ Bd hml0 hP hK
  obtain ⟨rfl, hZ, hh⟩ := hP
  have hx := Bd.exec
  have hby := Bd.bytes
  have hml : c.maxLocals = 1 := hml0
  have hown : s.vm.findClass "com/example/fawley/fawley/store/KindOfPinLaw" = some m.cls := findClass_of_methodNamed Bd.named
  have hnm := (name_of_methodNamed Bd.named Bd.method).1
  have X0 : Stand p l e ({ frames := 0, cells := 0, slots := 0, locals := 0 } : Room) s m #[(.int (8 : Int32))] below meth c s₁ [] 0 0 := Stand.of_body Bd
  have e0 : s₁.heap = h0 := by rw [← hh, Bd.state]; rfl
  have N0 := Fr.nil n0
  have pre0 : ∀ t, Steps p.tables e below (s₁.setTop (mkF m 0 #[.val (.int (8 : Int32))] [])) t → Steps p.tables e below (s₁.setTop (entryFrame m #[(.int (8 : Int32))] 1)) t := fun t k => castTop (efExp7 m ) k
  have K0 : Keep h0 h0 [] := Keep.refl _ _
  obtain ⟨T1, X1, e1, st1⟩ := getS2 X0 hx hZ hown (host := "") (Or.inl (hw _ (List.mem_of_getElem? (i := 44) rfl))) Via.refl e0 (P0.ext O0.2) (g := (mkF m 71 #[.val (.int (8 : Int32))] [])) rfl (hb hby d2_71)
  have pre2 : ∀ t, Steps p.tables e below (T1.setTop (mkF m 74 #[.val (.int (8 : Int32))] [(.ref w_UNDELIVERED)])) t → Steps p.tables e below (s₁.setTop (entryFrame m #[(.int (8 : Int32))] 1)) t := by
    intro t kt
    refine pre0 t ?_
    show Steps p.tables e below (s₁.setTop (mkF m 0 #[.val (.int (8 : Int32))] [])) _
    refine XS.iloadN X0.here hx rfl (hb hby d2_0) rfl ?_
    show Steps p.tables e below (s₁.setTop (mkF m 1 #[.val (.int (8 : Int32))] [(.int (8 : Int32))])) _
    refine XS.iconst X0.here hx rfl (hb hby d2_1) ?_
    show Steps p.tables e below (s₁.setTop (mkF m 2 #[.val (.int (8 : Int32))] [(.int (1 : Int32)), (.int (8 : Int32))])) _
    refine XS.icmpYes X0.here hx rfl (pc0 := 2) (pc' := 9) rfl (hb hby d2_2) rfl (feq (by decide : ¬ ((8 : Int32) = (1 : Int32)))).2 (by decide) (by decide) ?_
    show Steps p.tables e below (s₁.setTop (mkF m 9 #[.val (.int (8 : Int32))] [])) _
    refine XS.iloadN X0.here hx rfl (hb hby d2_9) rfl ?_
    show Steps p.tables e below (s₁.setTop (mkF m 10 #[.val (.int (8 : Int32))] [(.int (8 : Int32))])) _
    refine XS.iconst X0.here hx rfl (hb hby d2_10) ?_
    show Steps p.tables e below (s₁.setTop (mkF m 11 #[.val (.int (8 : Int32))] [(.int (2 : Int32)), (.int (8 : Int32))])) _
    refine XS.icmpYes X0.here hx rfl (pc0 := 11) (pc' := 18) rfl (hb hby d2_11) rfl (feq (by decide : ¬ ((8 : Int32) = (2 : Int32)))).2 (by decide) (by decide) ?_
    show Steps p.tables e below (s₁.setTop (mkF m 18 #[.val (.int (8 : Int32))] [])) _
    refine XS.iloadN X0.here hx rfl (hb hby d2_18) rfl ?_
    show Steps p.tables e below (s₁.setTop (mkF m 19 #[.val (.int (8 : Int32))] [(.int (8 : Int32))])) _
    refine XS.iconst X0.here hx rfl (hb hby d2_19) ?_
    show Steps p.tables e below (s₁.setTop (mkF m 20 #[.val (.int (8 : Int32))] [(.int (3 : Int32)), (.int (8 : Int32))])) _
    refine XS.icmpYes X0.here hx rfl (pc0 := 20) (pc' := 27) rfl (hb hby d2_20) rfl (feq (by decide : ¬ ((8 : Int32) = (3 : Int32)))).2 (by decide) (by decide) ?_
    show Steps p.tables e below (s₁.setTop (mkF m 27 #[.val (.int (8 : Int32))] [])) _
    refine XS.iloadN X0.here hx rfl (hb hby d2_27) rfl ?_
    show Steps p.tables e below (s₁.setTop (mkF m 28 #[.val (.int (8 : Int32))] [(.int (8 : Int32))])) _
    refine XS.iconst X0.here hx rfl (hb hby d2_28) ?_
    show Steps p.tables e below (s₁.setTop (mkF m 29 #[.val (.int (8 : Int32))] [(.int (4 : Int32)), (.int (8 : Int32))])) _
    refine XS.icmpYes X0.here hx rfl (pc0 := 29) (pc' := 36) rfl (hb hby d2_29) rfl (feq (by decide : ¬ ((8 : Int32) = (4 : Int32)))).2 (by decide) (by decide) ?_
    show Steps p.tables e below (s₁.setTop (mkF m 36 #[.val (.int (8 : Int32))] [])) _
    refine XS.iloadN X0.here hx rfl (hb hby d2_36) rfl ?_
    show Steps p.tables e below (s₁.setTop (mkF m 37 #[.val (.int (8 : Int32))] [(.int (8 : Int32))])) _
    refine XS.iconst X0.here hx rfl (hb hby d2_37) ?_
    show Steps p.tables e below (s₁.setTop (mkF m 38 #[.val (.int (8 : Int32))] [(.int (5 : Int32)), (.int (8 : Int32))])) _
    refine XS.icmpYes X0.here hx rfl (pc0 := 38) (pc' := 45) rfl (hb hby d2_38) rfl (feq (by decide : ¬ ((8 : Int32) = (5 : Int32)))).2 (by decide) (by decide) ?_
    show Steps p.tables e below (s₁.setTop (mkF m 45 #[.val (.int (8 : Int32))] [])) _
    refine XS.iloadN X0.here hx rfl (hb hby d2_45) rfl ?_
    show Steps p.tables e below (s₁.setTop (mkF m 46 #[.val (.int (8 : Int32))] [(.int (8 : Int32))])) _
    refine XS.bipush X0.here hx rfl (hb hby d2_46) ?_
    show Steps p.tables e below (s₁.setTop (mkF m 48 #[.val (.int (8 : Int32))] [(.int (6 : Int32)), (.int (8 : Int32))])) _
    refine XS.icmpYes X0.here hx rfl (pc0 := 48) (pc' := 55) rfl (hb hby d2_48) rfl (feq (by decide : ¬ ((8 : Int32) = (6 : Int32)))).2 (by decide) (by decide) ?_
    show Steps p.tables e below (s₁.setTop (mkF m 55 #[.val (.int (8 : Int32))] [])) _
    refine XS.iloadN X0.here hx rfl (hb hby d2_55) rfl ?_
    show Steps p.tables e below (s₁.setTop (mkF m 56 #[.val (.int (8 : Int32))] [(.int (8 : Int32))])) _
    refine XS.bipush X0.here hx rfl (hb hby d2_56) ?_
    show Steps p.tables e below (s₁.setTop (mkF m 58 #[.val (.int (8 : Int32))] [(.int (7 : Int32)), (.int (8 : Int32))])) _
    refine XS.icmpYes X0.here hx rfl (pc0 := 58) (pc' := 65) rfl (hb hby d2_58) rfl (feq (by decide : ¬ ((8 : Int32) = (7 : Int32)))).2 (by decide) (by decide) ?_
    show Steps p.tables e below (s₁.setTop (mkF m 65 #[.val (.int (8 : Int32))] [])) _
    refine XS.iloadN X0.here hx rfl (hb hby d2_65) rfl ?_
    show Steps p.tables e below (s₁.setTop (mkF m 66 #[.val (.int (8 : Int32))] [(.int (8 : Int32))])) _
    refine XS.bipush X0.here hx rfl (hb hby d2_66) ?_
    show Steps p.tables e below (s₁.setTop (mkF m 68 #[.val (.int (8 : Int32))] [(.int (8 : Int32)), (.int (8 : Int32))])) _
    refine XS.icmpNo X0.here hx rfl (hb hby d2_68) rfl (teq (by decide : (8 : Int32) = (8 : Int32))).2 ?_
    show Steps p.tables e below (s₁.setTop (mkF m 71 #[.val (.int (8 : Int32))] [])) _
    refine st1 _ ?_
    exact kt
  obtain ⟨fs, hr, hrun, hended, hW, hsame⟩ := X1.leave (v := some (.ref w_UNDELIVERED)) (fun h => by rw [Bd.returns] at h; cases h)
  refine ⟨_, _, pre2 _ (retOut X1 hx Bd.returns rfl (Or.inr (Or.inr (Or.inr (Or.inr ⟨rfl, rfl, rfl⟩)))) (hb hby d2_74) hr), hrun, hended, _, _, rfl, ?_, ⟨_, rfl⟩, hW, hsame.mono (by decide) (by decide)⟩
  show QExp7 Z w_UNDELIVERED h0 n0 _ T1.heap _
  rw [e1]
  exact ⟨rfl, N0, rfl⟩
theorem efOf7 (m : MethodId)  : entryFrame m #[(.int (8 : Int32))] 5 = mkF m 0 #[.val (.int (8 : Int32)), .unset, .unset, .unset, .unset] [] := by first | (simp [entryFrame, mkF, argsToLocals, Value.category]; done) | rfl
def QOf7 (Z : State) (w_STORED : Addr) (w_REMOVED : Addr) (w_WATCHED : Addr) (w_UNWATCHED : Addr) (w_UNWATCHED_ALL : Addr) (w_CLOCK_READING : Addr) (w_ANSWERED : Addr) (w_UNDELIVERED : Addr) (w_DELIVERED : Addr) (w__VALUES : Addr) (k_ : ClassId) (h0 : Heap) (n0 : Nat) (v : Option Value) (h : Heap) (L : List Loc) : Prop := v = some (.ref w_UNDELIVERED) ∧ Fr n0 L ∧ Keep h0 h []
set_option maxRecDepth 65536 in
set_option maxHeartbeats 40000000 in
theorem rmOf7 (l : Launch) (Z : State) (a0 : Array Value) (hw : ∀ d ∈ tables_1, d.before a0 Z = true) (ws : List Jvm.Cond) (w_STORED : Addr) (w_REMOVED : Addr) (w_WATCHED : Addr) (w_UNWATCHED : Addr) (w_UNWATCHED_ALL : Addr) (w_CLOCK_READING : Addr) (w_ANSWERED : Addr) (w_UNDELIVERED : Addr) (w_DELIVERED : Addr) (w__VALUES : Addr) (k_ : ClassId) (h0 : Heap) (n0 : Nat) (O0 : Old Z n0 h0) (P0 : Sta Z Z.heap "com/example/fawley/fawley/store/Change$Kind" "STORED" "Lcom/example/fawley/fawley/store/Change$Kind;" (.ref w_STORED)) (P1 : Exa Z Z.heap w_STORED "com/example/fawley/fawley/store/Change$Kind") (P2 : Fld Z Z.heap w_STORED "com/example/fawley/fawley/store/Change$Kind" "code" "B" (.int (1 : Int32))) (P3 : Sta Z Z.heap "com/example/fawley/fawley/store/Change$Kind" "REMOVED" "Lcom/example/fawley/fawley/store/Change$Kind;" (.ref w_REMOVED)) (P4 : Exa Z Z.heap w_REMOVED "com/example/fawley/fawley/store/Change$Kind") (P5 : Fld Z Z.heap w_REMOVED "com/example/fawley/fawley/store/Change$Kind" "code" "B" (.int (2 : Int32))) (P6 : Sta Z Z.heap "com/example/fawley/fawley/store/Change$Kind" "WATCHED" "Lcom/example/fawley/fawley/store/Change$Kind;" (.ref w_WATCHED)) (P7 : Exa Z Z.heap w_WATCHED "com/example/fawley/fawley/store/Change$Kind") (P8 : Fld Z Z.heap w_WATCHED "com/example/fawley/fawley/store/Change$Kind" "code" "B" (.int (3 : Int32))) (P9 : Sta Z Z.heap "com/example/fawley/fawley/store/Change$Kind" "UNWATCHED" "Lcom/example/fawley/fawley/store/Change$Kind;" (.ref w_UNWATCHED)) (P10 : Exa Z Z.heap w_UNWATCHED "com/example/fawley/fawley/store/Change$Kind") (P11 : Fld Z Z.heap w_UNWATCHED "com/example/fawley/fawley/store/Change$Kind" "code" "B" (.int (4 : Int32))) (P12 : Sta Z Z.heap "com/example/fawley/fawley/store/Change$Kind" "UNWATCHED_ALL" "Lcom/example/fawley/fawley/store/Change$Kind;" (.ref w_UNWATCHED_ALL)) (P13 : Exa Z Z.heap w_UNWATCHED_ALL "com/example/fawley/fawley/store/Change$Kind") (P14 : Fld Z Z.heap w_UNWATCHED_ALL "com/example/fawley/fawley/store/Change$Kind" "code" "B" (.int (5 : Int32))) (P15 : Sta Z Z.heap "com/example/fawley/fawley/store/Change$Kind" "CLOCK_READING" "Lcom/example/fawley/fawley/store/Change$Kind;" (.ref w_CLOCK_READING)) (P16 : Exa Z Z.heap w_CLOCK_READING "com/example/fawley/fawley/store/Change$Kind") (P17 : Fld Z Z.heap w_CLOCK_READING "com/example/fawley/fawley/store/Change$Kind" "code" "B" (.int (6 : Int32))) (P18 : Sta Z Z.heap "com/example/fawley/fawley/store/Change$Kind" "ANSWERED" "Lcom/example/fawley/fawley/store/Change$Kind;" (.ref w_ANSWERED)) (P19 : Exa Z Z.heap w_ANSWERED "com/example/fawley/fawley/store/Change$Kind") (P20 : Fld Z Z.heap w_ANSWERED "com/example/fawley/fawley/store/Change$Kind" "code" "B" (.int (7 : Int32))) (P21 : Sta Z Z.heap "com/example/fawley/fawley/store/Change$Kind" "UNDELIVERED" "Lcom/example/fawley/fawley/store/Change$Kind;" (.ref w_UNDELIVERED)) (P22 : Exa Z Z.heap w_UNDELIVERED "com/example/fawley/fawley/store/Change$Kind") (P23 : Fld Z Z.heap w_UNDELIVERED "com/example/fawley/fawley/store/Change$Kind" "code" "B" (.int (8 : Int32))) (P24 : Sta Z Z.heap "com/example/fawley/fawley/store/Change$Kind" "DELIVERED" "Lcom/example/fawley/fawley/store/Change$Kind;" (.ref w_DELIVERED)) (P25 : Exa Z Z.heap w_DELIVERED "com/example/fawley/fawley/store/Change$Kind") (P26 : Fld Z Z.heap w_DELIVERED "com/example/fawley/fawley/store/Change$Kind" "code" "B" (.int (9 : Int32))) (P27 : Sta Z Z.heap "com/example/fawley/fawley/store/Change$Kind" "$VALUES" "[Lcom/example/fawley/fawley/store/Change$Kind;" (.ref w__VALUES)) (P28 : Exa Z Z.heap w__VALUES "[Lcom/example/fawley/fawley/store/Change$Kind;") (P29 : Arv Z Z.heap w__VALUES k_ (.object "com/example/fawley/fawley/store/Change$Kind") (9 : Int32) [(.ref w_STORED), (.ref w_REMOVED), (.ref w_WATCHED), (.ref w_UNWATCHED), (.ref w_UNWATCHED_ALL), (.ref w_CLOCK_READING), (.ref w_ANSWERED), (.ref w_UNDELIVERED), (.ref w_DELIVERED)] .null) :
    MetFree l (⟨"com/example/fawley/fawley/store/Change$Kind", "of", "(B)Lcom/example/fawley/fawley/store/Change$Kind;"⟩ : MethodName) (head1 (Jvm.Cond.code (⟨"com/example/fawley/fawley/store/Change$Kind", "of", "(B)Lcom/example/fawley/fawley/store/Change$Kind;"⟩ : MethodName) prog_29_method_5_code 5 (some (.object "com/example/fawley/fawley/store/Change$Kind")) :: ws) ({ frames := 2, cells := 1, slots := 9, locals := 25 } : Room)) (fun a U => a = #[(.int (8 : Int32))] ∧ Z.Warmed39 U.vm ∧ U.heap = h0) (fun _ _ _ _ _ => True) (fun _ U o U' => ∃ v L, o = .returned v ∧ QOf7 Z w_STORED w_REMOVED w_WATCHED w_UNWATCHED w_UNWATCHED_ALL w_CLOCK_READING w_ANSWERED w_UNDELIVERED w_DELIVERED w__VALUES k_ h0 n0 v U'.heap L ∧ FrameEnd U o U' L ({ frames := 2, cells := 1, slots := 9, locals := 25 } : Room).cells ({ frames := 2, cells := 1, slots := 9, locals := 25 } : Room).slots) := by
  refine MetFree.of_bodySF (plainFor_of_name pn_0) hisR ?_
  intro p e s m args below meth c s₁ Bd hml0 hP hK
  obtain ⟨rfl, hZ, hh⟩ := hP
  have hx := Bd.exec
  have hby := Bd.bytes
  have hml : c.maxLocals = 5 := hml0
  have hown : s.vm.findClass "com/example/fawley/fawley/store/Change$Kind" = some m.cls := findClass_of_methodNamed Bd.named
  have hnm := (name_of_methodNamed Bd.named Bd.method).1
  have X0 : Stand p l e ({ frames := 2, cells := 1, slots := 9, locals := 25 } : Room) s m #[(.int (8 : Int32))] below meth c s₁ [] 0 0 := Stand.of_body Bd
  have e0 : s₁.heap = h0 := by rw [← hh, Bd.state]; rfl
  have N0 := Fr.nil n0
  have pre0 : ∀ t, Steps p.tables e below (s₁.setTop (mkF m 0 #[.val (.int (8 : Int32)), .unset, .unset, .unset, .unset] [])) t → Steps p.tables e below (s₁.setTop (entryFrame m #[(.int (8 : Int32))] 5)) t := fun t k => castTop (efOf7 m ) k
  have K0 : Keep h0 h0 [] := Keep.refl _ _
  obtain ⟨_, _, ⟨T1, L1, k1, n1⟩, -, X1, ⟨Lc1, hQ1, l1, y1, z1⟩, st1⟩ := Jvm.LawKit.callS X0 hx (y := (⟨"com/example/fawley/fawley/store/Change$Kind", "values", "()[Lcom/example/fawley/fawley/store/Change$Kind;"⟩ : MethodName)) hown (mvT hZ (hw _ (List.mem_of_getElem? (i := 11) rfl))) (mvT hZ (hw _ (List.mem_of_getElem? (i := 12) rfl))) (mvT hZ (hw _ (List.mem_of_getElem? (i := 6) rfl))) (mvT hZ (hw _ (List.mem_of_getElem? (i := 13) rfl))) (by decide) (backOf (W := 0) (rmVal l Z a0 hw [] w_STORED w_REMOVED w_WATCHED w_UNWATCHED w_UNWATCHED_ALL w_CLOCK_READING w_ANSWERED w_UNDELIVERED w_DELIVERED w__VALUES k_ h0 n0 O0 P0 P1 P2 P3 P4 P5 P6 P7 P8 P9 P10 P11 P12 P13 P14 P15 P16 P17 P18 P19 P20 P21 P22 P23 P24 P25 P26 P27 P28 P29) hZ (hw _ (List.mem_of_getElem? (i := 13) rfl)) (hw _ (List.mem_of_getElem? (i := 6) rfl)) (by decide) (by decide)) (g := (mkF m 0 #[.val (.int (8 : Int32)), .unset, .unset, .unset, .unset] [])) rfl (by rw [hml]; rfl) (argsL := []) (rest := []) (lenOf pd_0 rfl) rfl (by show 2 * 0 + _ ≤ _; exact Nat.le_of_eq rfl) (hb hby d3_0) (fun _ _ => ⟨rfl, e0, (by decide : 0 + 1 ≤ _), (by decide : 0 + 9 ≤ _)⟩)
  dsimp only [Pt.U, Pt.locs, Pt.cells, Pt.slots] at X1 l1 y1 z1 st1 hQ1
  subst l1 y1 z1
  obtain ⟨h1, e1⟩ : ∃ z, T1.heap = z := ⟨_, rfl⟩
  rw [e1] at hQ1
  obtain ⟨nb2_1, rfl, N1q, K1, sznb2_1, g1_0, g1_1⟩ := hQ1
  have N2 := Fr.app N0 N1q
  have ge3 : n0 ≤ nb2_1 := Nat.le_trans (Nat.le_trans (Nat.le_of_eq O0.1.symm) O0.2.1) sznb2_1
  have sz4 : h0.size ≤ nb2_1 := Nat.le_trans K0.1 sznb2_1
  obtain ⟨c5, r5, q5, s5, z5, y5, G5⟩ := id g1_0
  obtain ⟨c6, r6, q6, s6, z6, y6, G6⟩ := id g1_0
  have hin6 : ¬ ((0 : Int32) < 0 ∨ c6.slots.size ≤ ((0 : Int32)).toNatClampNeg) := inb_of s6 ⟨by decide, by decide⟩
  have hat6 : c6.slots[((0 : Int32)).toNatClampNeg]? = some (.ref w_STORED) := Has.at y6 hin6 rfl
  have f7 : Old Z n0 h1 := O0.keep K1 all0
  have f8 : Fld Z h1 w_STORED "com/example/fawley/fawley/store/Change$Kind" "code" "B" (.int (1 : Int32)) := P2.ext f7.2
  obtain ⟨T9, X9, e9, st9⟩ := getF X1 hx hZ hown (host := "") (Or.inl (hw _ (List.mem_of_getElem? (i := 34) rfl))) Via.refl e1 f8 (g := (mkF m 21 #[.val (.int (8 : Int32)), .val (.ref nb2_1), .val (.int (9 : Int32)), .val (.int (0 : Int32)), .val (.ref w_STORED)] [(.ref w_STORED)])) rfl rfl (hb hby d3_21)
  obtain ⟨c10, r10, q10, s10, z10, y10, G10⟩ := id g1_0
  have hin10 : ¬ ((1 : Int32) < 0 ∨ c10.slots.size ≤ ((1 : Int32)).toNatClampNeg) := inb_of s10 ⟨by decide, by decide⟩
  have hat10 : c10.slots[((1 : Int32)).toNatClampNeg]? = some (.ref w_REMOVED) := Has.at y10 hin10 rfl
  have f11 : Fld Z h1 w_REMOVED "com/example/fawley/fawley/store/Change$Kind" "code" "B" (.int (2 : Int32)) := P5.ext f7.2
  obtain ⟨T12, X12, e12, st12⟩ := getF X9 hx hZ hown (host := "") (Or.inl (hw _ (List.mem_of_getElem? (i := 34) rfl))) Via.refl e9 f11 (g := (mkF m 21 #[.val (.int (8 : Int32)), .val (.ref nb2_1), .val (.int (9 : Int32)), .val (.int (1 : Int32)), .val (.ref w_REMOVED)] [(.ref w_REMOVED)])) rfl rfl (hb hby d3_21)
  obtain ⟨c13, r13, q13, s13, z13, y13, G13⟩ := id g1_0
  have hin13 : ¬ ((2 : Int32) < 0 ∨ c13.slots.size ≤ ((2 : Int32)).toNatClampNeg) := inb_of s13 ⟨by decide, by decide⟩
  have hat13 : c13.slots[((2 : Int32)).toNatClampNeg]? = some (.ref w_WATCHED) := Has.at y13 hin13 rfl
  have f14 : Fld Z h1 w_WATCHED "com/example/fawley/fawley/store/Change$Kind" "code" "B" (.int (3 : Int32)) := P8.ext f7.2
  obtain ⟨T15, X15, e15, st15⟩ := getF X12 hx hZ hown (host := "") (Or.inl (hw _ (List.mem_of_getElem? (i := 34) rfl))) Via.refl e12 f14 (g := (mkF m 21 #[.val (.int (8 : Int32)), .val (.ref nb2_1), .val (.int (9 : Int32)), .val (.int (2 : Int32)), .val (.ref w_WATCHED)] [(.ref w_WATCHED)])) rfl rfl (hb hby d3_21)
  obtain ⟨c16, r16, q16, s16, z16, y16, G16⟩ := id g1_0
  have hin16 : ¬ ((3 : Int32) < 0 ∨ c16.slots.size ≤ ((3 : Int32)).toNatClampNeg) := inb_of s16 ⟨by decide, by decide⟩
  have hat16 : c16.slots[((3 : Int32)).toNatClampNeg]? = some (.ref w_UNWATCHED) := Has.at y16 hin16 rfl
  have f17 : Fld Z h1 w_UNWATCHED "com/example/fawley/fawley/store/Change$Kind" "code" "B" (.int (4 : Int32)) := P11.ext f7.2
  obtain ⟨T18, X18, e18, st18⟩ := getF X15 hx hZ hown (host := "") (Or.inl (hw _ (List.mem_of_getElem? (i := 34) rfl))) Via.refl e15 f17 (g := (mkF m 21 #[.val (.int (8 : Int32)), .val (.ref nb2_1), .val (.int (9 : Int32)), .val (.int (3 : Int32)), .val (.ref w_UNWATCHED)] [(.ref w_UNWATCHED)])) rfl rfl (hb hby d3_21)
  obtain ⟨c19, r19, q19, s19, z19, y19, G19⟩ := id g1_0
  have hin19 : ¬ ((4 : Int32) < 0 ∨ c19.slots.size ≤ ((4 : Int32)).toNatClampNeg) := inb_of s19 ⟨by decide, by decide⟩
  have hat19 : c19.slots[((4 : Int32)).toNatClampNeg]? = some (.ref w_UNWATCHED_ALL) := Has.at y19 hin19 rfl
  have f20 : Fld Z h1 w_UNWATCHED_ALL "com/example/fawley/fawley/store/Change$Kind" "code" "B" (.int (5 : Int32)) := P14.ext f7.2
  obtain ⟨T21, X21, e21, st21⟩ := getF X18 hx hZ hown (host := "") (Or.inl (hw _ (List.mem_of_getElem? (i := 34) rfl))) Via.refl e18 f20 (g := (mkF m 21 #[.val (.int (8 : Int32)), .val (.ref nb2_1), .val (.int (9 : Int32)), .val (.int (4 : Int32)), .val (.ref w_UNWATCHED_ALL)] [(.ref w_UNWATCHED_ALL)])) rfl rfl (hb hby d3_21)
  obtain ⟨c22, r22, q22, s22, z22, y22, G22⟩ := id g1_0
  have hin22 : ¬ ((5 : Int32) < 0 ∨ c22.slots.size ≤ ((5 : Int32)).toNatClampNeg) := inb_of s22 ⟨by decide, by decide⟩
  have hat22 : c22.slots[((5 : Int32)).toNatClampNeg]? = some (.ref w_CLOCK_READING) := Has.at y22 hin22 rfl
  have f23 : Fld Z h1 w_CLOCK_READING "com/example/fawley/fawley/store/Change$Kind" "code" "B" (.int (6 : Int32)) := P17.ext f7.2
  obtain ⟨T24, X24, e24, st24⟩ := getF X21 hx hZ hown (host := "") (Or.inl (hw _ (List.mem_of_getElem? (i := 34) rfl))) Via.refl e21 f23 (g := (mkF m 21 #[.val (.int (8 : Int32)), .val (.ref nb2_1), .val (.int (9 : Int32)), .val (.int (5 : Int32)), .val (.ref w_CLOCK_READING)] [(.ref w_CLOCK_READING)])) rfl rfl (hb hby d3_21)
  obtain ⟨c25, r25, q25, s25, z25, y25, G25⟩ := id g1_0
  have hin25 : ¬ ((6 : Int32) < 0 ∨ c25.slots.size ≤ ((6 : Int32)).toNatClampNeg) := inb_of s25 ⟨by decide, by decide⟩
  have hat25 : c25.slots[((6 : Int32)).toNatClampNeg]? = some (.ref w_ANSWERED) := Has.at y25 hin25 rfl
  have f26 : Fld Z h1 w_ANSWERED "com/example/fawley/fawley/store/Change$Kind" "code" "B" (.int (7 : Int32)) := P20.ext f7.2
  obtain ⟨T27, X27, e27, st27⟩ := getF X24 hx hZ hown (host := "") (Or.inl (hw _ (List.mem_of_getElem? (i := 34) rfl))) Via.refl e24 f26 (g := (mkF m 21 #[.val (.int (8 : Int32)), .val (.ref nb2_1), .val (.int (9 : Int32)), .val (.int (6 : Int32)), .val (.ref w_ANSWERED)] [(.ref w_ANSWERED)])) rfl rfl (hb hby d3_21)
  obtain ⟨c28, r28, q28, s28, z28, y28, G28⟩ := id g1_0
  have hin28 : ¬ ((7 : Int32) < 0 ∨ c28.slots.size ≤ ((7 : Int32)).toNatClampNeg) := inb_of s28 ⟨by decide, by decide⟩
  have hat28 : c28.slots[((7 : Int32)).toNatClampNeg]? = some (.ref w_UNDELIVERED) := Has.at y28 hin28 rfl
  have f29 : Fld Z h1 w_UNDELIVERED "com/example/fawley/fawley/store/Change$Kind" "code" "B" (.int (8 : Int32)) := P23.ext f7.2
  obtain ⟨T30, X30, e30, st30⟩ := getF X27 hx hZ hown (host := "") (Or.inl (hw _ (List.mem_of_getElem? (i := 34) rfl))) Via.refl e27 f29 (g := (mkF m 21 #[.val (.int (8 : Int32)), .val (.ref nb2_1), .val (.int (9 : Int32)), .val (.int (7 : Int32)), .val (.ref w_UNDELIVERED)] [(.ref w_UNDELIVERED)])) rfl rfl (hb hby d3_21)
  have pre31 : ∀ t, Steps p.tables e below (T30.setTop (mkF m 30 #[.val (.int (8 : Int32)), .val (.ref nb2_1), .val (.int (9 : Int32)), .val (.int (7 : Int32)), .val (.ref w_UNDELIVERED)] [(.ref w_UNDELIVERED)])) t → Steps p.tables e below (s₁.setTop (entryFrame m #[(.int (8 : Int32))] 5)) t := by
    intro t kt
    refine pre0 t ?_
    show Steps p.tables e below (s₁.setTop (mkF m 0 #[.val (.int (8 : Int32)), .unset, .unset, .unset, .unset] [])) _
    refine st1 _ ?_
    show Steps p.tables e below (T1.setTop (mkF m 3 #[.val (.int (8 : Int32)), .unset, .unset, .unset, .unset] [(.ref nb2_1)])) _
    refine XS.astoreN X1.here hx rfl (hb hby d3_3) rfl rfl (l' := #[.val (.int (8 : Int32)), .val (.ref nb2_1), .unset, .unset, .unset]) rfl ?_
    show Steps p.tables e below (T1.setTop (mkF m 4 #[.val (.int (8 : Int32)), .val (.ref nb2_1), .unset, .unset, .unset] [])) _
    refine XS.aloadN X1.here hx rfl (hb hby d3_4) rfl rfl ?_
    show Steps p.tables e below (T1.setTop (mkF m 5 #[.val (.int (8 : Int32)), .val (.ref nb2_1), .unset, .unset, .unset] [(.ref nb2_1)])) _
    refine X1.arraylength hx (by rw [e1]; exact r5.1) (State.isArrayOf_alike hZ.alike r5.2.1) (g := (mkF m 5 #[.val (.int (8 : Int32)), .val (.ref nb2_1), .unset, .unset, .unset] [(.ref nb2_1)])) rfl rfl (hb hby d3_5) _ ?_
    rw [len_of s5 z5]
    show Steps p.tables e below (T1.setTop (mkF m 6 #[.val (.int (8 : Int32)), .val (.ref nb2_1), .unset, .unset, .unset] [(.int (9 : Int32))])) _
    refine XS.istoreN X1.here hx rfl (hb hby d3_6) rfl (l' := #[.val (.int (8 : Int32)), .val (.ref nb2_1), .val (.int (9 : Int32)), .unset, .unset]) rfl ?_
    show Steps p.tables e below (T1.setTop (mkF m 7 #[.val (.int (8 : Int32)), .val (.ref nb2_1), .val (.int (9 : Int32)), .unset, .unset] [])) _
    refine XS.iconst X1.here hx rfl (hb hby d3_7) ?_
    show Steps p.tables e below (T1.setTop (mkF m 8 #[.val (.int (8 : Int32)), .val (.ref nb2_1), .val (.int (9 : Int32)), .unset, .unset] [(.int (0 : Int32))])) _
    refine XS.istoreN X1.here hx rfl (hb hby d3_8) rfl (l' := #[.val (.int (8 : Int32)), .val (.ref nb2_1), .val (.int (9 : Int32)), .val (.int (0 : Int32)), .unset]) rfl ?_
    show Steps p.tables e below (T1.setTop (mkF m 9 #[.val (.int (8 : Int32)), .val (.ref nb2_1), .val (.int (9 : Int32)), .val (.int (0 : Int32)), .unset] [])) _
    refine XS.iloadN X1.here hx rfl (hb hby d3_9) rfl ?_
    show Steps p.tables e below (T1.setTop (mkF m 10 #[.val (.int (8 : Int32)), .val (.ref nb2_1), .val (.int (9 : Int32)), .val (.int (0 : Int32)), .unset] [(.int (0 : Int32))])) _
    refine XS.iloadN X1.here hx rfl (hb hby d3_10) rfl ?_
    show Steps p.tables e below (T1.setTop (mkF m 11 #[.val (.int (8 : Int32)), .val (.ref nb2_1), .val (.int (9 : Int32)), .val (.int (0 : Int32)), .unset] [(.int (9 : Int32)), (.int (0 : Int32))])) _
    refine XS.icmpNo X1.here hx rfl (hb hby d3_11) rfl (tlt (by decide : (0 : Int32) < (9 : Int32))).2.1 ?_
    show Steps p.tables e below (T1.setTop (mkF m 14 #[.val (.int (8 : Int32)), .val (.ref nb2_1), .val (.int (9 : Int32)), .val (.int (0 : Int32)), .unset] [])) _
    refine XS.aloadN X1.here hx rfl (hb hby d3_14) rfl rfl ?_
    show Steps p.tables e below (T1.setTop (mkF m 15 #[.val (.int (8 : Int32)), .val (.ref nb2_1), .val (.int (9 : Int32)), .val (.int (0 : Int32)), .unset] [(.ref nb2_1)])) _
    refine XS.iloadN X1.here hx rfl (hb hby d3_15) rfl ?_
    show Steps p.tables e below (T1.setTop (mkF m 16 #[.val (.int (8 : Int32)), .val (.ref nb2_1), .val (.int (9 : Int32)), .val (.int (0 : Int32)), .unset] [(.int (0 : Int32)), (.ref nb2_1)])) _
    refine X1.aaload hx (j := (0 : Int32)) (v := (.ref w_STORED)) (by rw [e1]; exact r6.1) (State.isArrayOf_alike hZ.alike r6.2.1) rfl r6.2.2 hin6 hat6 (g := (mkF m 16 #[.val (.int (8 : Int32)), .val (.ref nb2_1), .val (.int (9 : Int32)), .val (.int (0 : Int32)), .unset] [(.int (0 : Int32)), (.ref nb2_1)])) rfl rfl (hb hby d3_16) _ ?_
    show Steps p.tables e below (T1.setTop (mkF m 17 #[.val (.int (8 : Int32)), .val (.ref nb2_1), .val (.int (9 : Int32)), .val (.int (0 : Int32)), .unset] [(.ref w_STORED)])) _
    refine XS.astore X1.here hx rfl (hb hby d3_17) rfl rfl (l' := #[.val (.int (8 : Int32)), .val (.ref nb2_1), .val (.int (9 : Int32)), .val (.int (0 : Int32)), .val (.ref w_STORED)]) rfl ?_
    show Steps p.tables e below (T1.setTop (mkF m 19 #[.val (.int (8 : Int32)), .val (.ref nb2_1), .val (.int (9 : Int32)), .val (.int (0 : Int32)), .val (.ref w_STORED)] [])) _
    refine XS.aload X1.here hx rfl (hb hby d3_19) rfl rfl ?_
    show Steps p.tables e below (T1.setTop (mkF m 21 #[.val (.int (8 : Int32)), .val (.ref nb2_1), .val (.int (9 : Int32)), .val (.int (0 : Int32)), .val (.ref w_STORED)] [(.ref w_STORED)])) _
    refine st9 _ ?_
    show Steps p.tables e below (T9.setTop (mkF m 24 #[.val (.int (8 : Int32)), .val (.ref nb2_1), .val (.int (9 : Int32)), .val (.int (0 : Int32)), .val (.ref w_STORED)] [(.int (1 : Int32))])) _
    refine XS.iloadN X9.here hx rfl (hb hby d3_24) rfl ?_
    show Steps p.tables e below (T9.setTop (mkF m 25 #[.val (.int (8 : Int32)), .val (.ref nb2_1), .val (.int (9 : Int32)), .val (.int (0 : Int32)), .val (.ref w_STORED)] [(.int (8 : Int32)), (.int (1 : Int32))])) _
    refine XS.icmpYes X9.here hx rfl (pc0 := 25) (pc' := 31) rfl (hb hby d3_25) rfl (feq (by decide : ¬ ((1 : Int32) = (8 : Int32)))).2 (by decide) (by decide) ?_
    show Steps p.tables e below (T9.setTop (mkF m 31 #[.val (.int (8 : Int32)), .val (.ref nb2_1), .val (.int (9 : Int32)), .val (.int (0 : Int32)), .val (.ref w_STORED)] [])) _
    refine XS.iinc X9.here hx rfl (hb hby d3_31) rfl (l' := #[.val (.int (8 : Int32)), .val (.ref nb2_1), .val (.int (9 : Int32)), .val (.int (1 : Int32)), .val (.ref w_STORED)]) rfl ?_
    show Steps p.tables e below (T9.setTop (mkF m 34 #[.val (.int (8 : Int32)), .val (.ref nb2_1), .val (.int (9 : Int32)), .val (.int (1 : Int32)), .val (.ref w_STORED)] [])) _
    refine XS.goto X9.here hx rfl (pc0 := 34) (pc' := 9) rfl (hb hby d3_34) (by decide) (by decide) ?_
    show Steps p.tables e below (T9.setTop (mkF m 9 #[.val (.int (8 : Int32)), .val (.ref nb2_1), .val (.int (9 : Int32)), .val (.int (1 : Int32)), .val (.ref w_STORED)] [])) _
    refine XS.iloadN X9.here hx rfl (hb hby d3_9) rfl ?_
    show Steps p.tables e below (T9.setTop (mkF m 10 #[.val (.int (8 : Int32)), .val (.ref nb2_1), .val (.int (9 : Int32)), .val (.int (1 : Int32)), .val (.ref w_STORED)] [(.int (1 : Int32))])) _
    refine XS.iloadN X9.here hx rfl (hb hby d3_10) rfl ?_
    show Steps p.tables e below (T9.setTop (mkF m 11 #[.val (.int (8 : Int32)), .val (.ref nb2_1), .val (.int (9 : Int32)), .val (.int (1 : Int32)), .val (.ref w_STORED)] [(.int (9 : Int32)), (.int (1 : Int32))])) _
    refine XS.icmpNo X9.here hx rfl (hb hby d3_11) rfl (tlt (by decide : (1 : Int32) < (9 : Int32))).2.1 ?_
    show Steps p.tables e below (T9.setTop (mkF m 14 #[.val (.int (8 : Int32)), .val (.ref nb2_1), .val (.int (9 : Int32)), .val (.int (1 : Int32)), .val (.ref w_STORED)] [])) _
    refine XS.aloadN X9.here hx rfl (hb hby d3_14) rfl rfl ?_
    show Steps p.tables e below (T9.setTop (mkF m 15 #[.val (.int (8 : Int32)), .val (.ref nb2_1), .val (.int (9 : Int32)), .val (.int (1 : Int32)), .val (.ref w_STORED)] [(.ref nb2_1)])) _
    refine XS.iloadN X9.here hx rfl (hb hby d3_15) rfl ?_
    show Steps p.tables e below (T9.setTop (mkF m 16 #[.val (.int (8 : Int32)), .val (.ref nb2_1), .val (.int (9 : Int32)), .val (.int (1 : Int32)), .val (.ref w_STORED)] [(.int (1 : Int32)), (.ref nb2_1)])) _
    refine X9.aaload hx (j := (1 : Int32)) (v := (.ref w_REMOVED)) (by rw [e9]; exact r10.1) (State.isArrayOf_alike hZ.alike r10.2.1) rfl r10.2.2 hin10 hat10 (g := (mkF m 16 #[.val (.int (8 : Int32)), .val (.ref nb2_1), .val (.int (9 : Int32)), .val (.int (1 : Int32)), .val (.ref w_STORED)] [(.int (1 : Int32)), (.ref nb2_1)])) rfl rfl (hb hby d3_16) _ ?_
    show Steps p.tables e below (T9.setTop (mkF m 17 #[.val (.int (8 : Int32)), .val (.ref nb2_1), .val (.int (9 : Int32)), .val (.int (1 : Int32)), .val (.ref w_STORED)] [(.ref w_REMOVED)])) _
    refine XS.astore X9.here hx rfl (hb hby d3_17) rfl rfl (l' := #[.val (.int (8 : Int32)), .val (.ref nb2_1), .val (.int (9 : Int32)), .val (.int (1 : Int32)), .val (.ref w_REMOVED)]) rfl ?_
    show Steps p.tables e below (T9.setTop (mkF m 19 #[.val (.int (8 : Int32)), .val (.ref nb2_1), .val (.int (9 : Int32)), .val (.int (1 : Int32)), .val (.ref w_REMOVED)] [])) _
    refine XS.aload X9.here hx rfl (hb hby d3_19) rfl rfl ?_
    show Steps p.tables e below (T9.setTop (mkF m 21 #[.val (.int (8 : Int32)), .val (.ref nb2_1), .val (.int (9 : Int32)), .val (.int (1 : Int32)), .val (.ref w_REMOVED)] [(.ref w_REMOVED)])) _
    refine st12 _ ?_
    show Steps p.tables e below (T12.setTop (mkF m 24 #[.val (.int (8 : Int32)), .val (.ref nb2_1), .val (.int (9 : Int32)), .val (.int (1 : Int32)), .val (.ref w_REMOVED)] [(.int (2 : Int32))])) _
    refine XS.iloadN X12.here hx rfl (hb hby d3_24) rfl ?_
    show Steps p.tables e below (T12.setTop (mkF m 25 #[.val (.int (8 : Int32)), .val (.ref nb2_1), .val (.int (9 : Int32)), .val (.int (1 : Int32)), .val (.ref w_REMOVED)] [(.int (8 : Int32)), (.int (2 : Int32))])) _
    refine XS.icmpYes X12.here hx rfl (pc0 := 25) (pc' := 31) rfl (hb hby d3_25) rfl (feq (by decide : ¬ ((2 : Int32) = (8 : Int32)))).2 (by decide) (by decide) ?_
    show Steps p.tables e below (T12.setTop (mkF m 31 #[.val (.int (8 : Int32)), .val (.ref nb2_1), .val (.int (9 : Int32)), .val (.int (1 : Int32)), .val (.ref w_REMOVED)] [])) _
    refine XS.iinc X12.here hx rfl (hb hby d3_31) rfl (l' := #[.val (.int (8 : Int32)), .val (.ref nb2_1), .val (.int (9 : Int32)), .val (.int (2 : Int32)), .val (.ref w_REMOVED)]) rfl ?_
    show Steps p.tables e below (T12.setTop (mkF m 34 #[.val (.int (8 : Int32)), .val (.ref nb2_1), .val (.int (9 : Int32)), .val (.int (2 : Int32)), .val (.ref w_REMOVED)] [])) _
    refine XS.goto X12.here hx rfl (pc0 := 34) (pc' := 9) rfl (hb hby d3_34) (by decide) (by decide) ?_
    show Steps p.tables e below (T12.setTop (mkF m 9 #[.val (.int (8 : Int32)), .val (.ref nb2_1), .val (.int (9 : Int32)), .val (.int (2 : Int32)), .val (.ref w_REMOVED)] [])) _
    refine XS.iloadN X12.here hx rfl (hb hby d3_9) rfl ?_
    show Steps p.tables e below (T12.setTop (mkF m 10 #[.val (.int (8 : Int32)), .val (.ref nb2_1), .val (.int (9 : Int32)), .val (.int (2 : Int32)), .val (.ref w_REMOVED)] [(.int (2 : Int32))])) _
    refine XS.iloadN X12.here hx rfl (hb hby d3_10) rfl ?_
    show Steps p.tables e below (T12.setTop (mkF m 11 #[.val (.int (8 : Int32)), .val (.ref nb2_1), .val (.int (9 : Int32)), .val (.int (2 : Int32)), .val (.ref w_REMOVED)] [(.int (9 : Int32)), (.int (2 : Int32))])) _
    refine XS.icmpNo X12.here hx rfl (hb hby d3_11) rfl (tlt (by decide : (2 : Int32) < (9 : Int32))).2.1 ?_
    show Steps p.tables e below (T12.setTop (mkF m 14 #[.val (.int (8 : Int32)), .val (.ref nb2_1), .val (.int (9 : Int32)), .val (.int (2 : Int32)), .val (.ref w_REMOVED)] [])) _
    refine XS.aloadN X12.here hx rfl (hb hby d3_14) rfl rfl ?_
    show Steps p.tables e below (T12.setTop (mkF m 15 #[.val (.int (8 : Int32)), .val (.ref nb2_1), .val (.int (9 : Int32)), .val (.int (2 : Int32)), .val (.ref w_REMOVED)] [(.ref nb2_1)])) _
    refine XS.iloadN X12.here hx rfl (hb hby d3_15) rfl ?_
    show Steps p.tables e below (T12.setTop (mkF m 16 #[.val (.int (8 : Int32)), .val (.ref nb2_1), .val (.int (9 : Int32)), .val (.int (2 : Int32)), .val (.ref w_REMOVED)] [(.int (2 : Int32)), (.ref nb2_1)])) _
    refine X12.aaload hx (j := (2 : Int32)) (v := (.ref w_WATCHED)) (by rw [e12]; exact r13.1) (State.isArrayOf_alike hZ.alike r13.2.1) rfl r13.2.2 hin13 hat13 (g := (mkF m 16 #[.val (.int (8 : Int32)), .val (.ref nb2_1), .val (.int (9 : Int32)), .val (.int (2 : Int32)), .val (.ref w_REMOVED)] [(.int (2 : Int32)), (.ref nb2_1)])) rfl rfl (hb hby d3_16) _ ?_
    show Steps p.tables e below (T12.setTop (mkF m 17 #[.val (.int (8 : Int32)), .val (.ref nb2_1), .val (.int (9 : Int32)), .val (.int (2 : Int32)), .val (.ref w_REMOVED)] [(.ref w_WATCHED)])) _
    refine XS.astore X12.here hx rfl (hb hby d3_17) rfl rfl (l' := #[.val (.int (8 : Int32)), .val (.ref nb2_1), .val (.int (9 : Int32)), .val (.int (2 : Int32)), .val (.ref w_WATCHED)]) rfl ?_
    show Steps p.tables e below (T12.setTop (mkF m 19 #[.val (.int (8 : Int32)), .val (.ref nb2_1), .val (.int (9 : Int32)), .val (.int (2 : Int32)), .val (.ref w_WATCHED)] [])) _
    refine XS.aload X12.here hx rfl (hb hby d3_19) rfl rfl ?_
    show Steps p.tables e below (T12.setTop (mkF m 21 #[.val (.int (8 : Int32)), .val (.ref nb2_1), .val (.int (9 : Int32)), .val (.int (2 : Int32)), .val (.ref w_WATCHED)] [(.ref w_WATCHED)])) _
    refine st15 _ ?_
    show Steps p.tables e below (T15.setTop (mkF m 24 #[.val (.int (8 : Int32)), .val (.ref nb2_1), .val (.int (9 : Int32)), .val (.int (2 : Int32)), .val (.ref w_WATCHED)] [(.int (3 : Int32))])) _
    refine XS.iloadN X15.here hx rfl (hb hby d3_24) rfl ?_
    show Steps p.tables e below (T15.setTop (mkF m 25 #[.val (.int (8 : Int32)), .val (.ref nb2_1), .val (.int (9 : Int32)), .val (.int (2 : Int32)), .val (.ref w_WATCHED)] [(.int (8 : Int32)), (.int (3 : Int32))])) _
    refine XS.icmpYes X15.here hx rfl (pc0 := 25) (pc' := 31) rfl (hb hby d3_25) rfl (feq (by decide : ¬ ((3 : Int32) = (8 : Int32)))).2 (by decide) (by decide) ?_
    show Steps p.tables e below (T15.setTop (mkF m 31 #[.val (.int (8 : Int32)), .val (.ref nb2_1), .val (.int (9 : Int32)), .val (.int (2 : Int32)), .val (.ref w_WATCHED)] [])) _
    refine XS.iinc X15.here hx rfl (hb hby d3_31) rfl (l' := #[.val (.int (8 : Int32)), .val (.ref nb2_1), .val (.int (9 : Int32)), .val (.int (3 : Int32)), .val (.ref w_WATCHED)]) rfl ?_
    show Steps p.tables e below (T15.setTop (mkF m 34 #[.val (.int (8 : Int32)), .val (.ref nb2_1), .val (.int (9 : Int32)), .val (.int (3 : Int32)), .val (.ref w_WATCHED)] [])) _
    refine XS.goto X15.here hx rfl (pc0 := 34) (pc' := 9) rfl (hb hby d3_34) (by decide) (by decide) ?_
    show Steps p.tables e below (T15.setTop (mkF m 9 #[.val (.int (8 : Int32)), .val (.ref nb2_1), .val (.int (9 : Int32)), .val (.int (3 : Int32)), .val (.ref w_WATCHED)] [])) _
    refine XS.iloadN X15.here hx rfl (hb hby d3_9) rfl ?_
    show Steps p.tables e below (T15.setTop (mkF m 10 #[.val (.int (8 : Int32)), .val (.ref nb2_1), .val (.int (9 : Int32)), .val (.int (3 : Int32)), .val (.ref w_WATCHED)] [(.int (3 : Int32))])) _
    refine XS.iloadN X15.here hx rfl (hb hby d3_10) rfl ?_
    show Steps p.tables e below (T15.setTop (mkF m 11 #[.val (.int (8 : Int32)), .val (.ref nb2_1), .val (.int (9 : Int32)), .val (.int (3 : Int32)), .val (.ref w_WATCHED)] [(.int (9 : Int32)), (.int (3 : Int32))])) _
    refine XS.icmpNo X15.here hx rfl (hb hby d3_11) rfl (tlt (by decide : (3 : Int32) < (9 : Int32))).2.1 ?_
    show Steps p.tables e below (T15.setTop (mkF m 14 #[.val (.int (8 : Int32)), .val (.ref nb2_1), .val (.int (9 : Int32)), .val (.int (3 : Int32)), .val (.ref w_WATCHED)] [])) _
    refine XS.aloadN X15.here hx rfl (hb hby d3_14) rfl rfl ?_
    show Steps p.tables e below (T15.setTop (mkF m 15 #[.val (.int (8 : Int32)), .val (.ref nb2_1), .val (.int (9 : Int32)), .val (.int (3 : Int32)), .val (.ref w_WATCHED)] [(.ref nb2_1)])) _
    refine XS.iloadN X15.here hx rfl (hb hby d3_15) rfl ?_
    show Steps p.tables e below (T15.setTop (mkF m 16 #[.val (.int (8 : Int32)), .val (.ref nb2_1), .val (.int (9 : Int32)), .val (.int (3 : Int32)), .val (.ref w_WATCHED)] [(.int (3 : Int32)), (.ref nb2_1)])) _
    refine X15.aaload hx (j := (3 : Int32)) (v := (.ref w_UNWATCHED)) (by rw [e15]; exact r16.1) (State.isArrayOf_alike hZ.alike r16.2.1) rfl r16.2.2 hin16 hat16 (g := (mkF m 16 #[.val (.int (8 : Int32)), .val (.ref nb2_1), .val (.int (9 : Int32)), .val (.int (3 : Int32)), .val (.ref w_WATCHED)] [(.int (3 : Int32)), (.ref nb2_1)])) rfl rfl (hb hby d3_16) _ ?_
    show Steps p.tables e below (T15.setTop (mkF m 17 #[.val (.int (8 : Int32)), .val (.ref nb2_1), .val (.int (9 : Int32)), .val (.int (3 : Int32)), .val (.ref w_WATCHED)] [(.ref w_UNWATCHED)])) _
    refine XS.astore X15.here hx rfl (hb hby d3_17) rfl rfl (l' := #[.val (.int (8 : Int32)), .val (.ref nb2_1), .val (.int (9 : Int32)), .val (.int (3 : Int32)), .val (.ref w_UNWATCHED)]) rfl ?_
    show Steps p.tables e below (T15.setTop (mkF m 19 #[.val (.int (8 : Int32)), .val (.ref nb2_1), .val (.int (9 : Int32)), .val (.int (3 : Int32)), .val (.ref w_UNWATCHED)] [])) _
    refine XS.aload X15.here hx rfl (hb hby d3_19) rfl rfl ?_
    show Steps p.tables e below (T15.setTop (mkF m 21 #[.val (.int (8 : Int32)), .val (.ref nb2_1), .val (.int (9 : Int32)), .val (.int (3 : Int32)), .val (.ref w_UNWATCHED)] [(.ref w_UNWATCHED)])) _
    refine st18 _ ?_
    show Steps p.tables e below (T18.setTop (mkF m 24 #[.val (.int (8 : Int32)), .val (.ref nb2_1), .val (.int (9 : Int32)), .val (.int (3 : Int32)), .val (.ref w_UNWATCHED)] [(.int (4 : Int32))])) _
    refine XS.iloadN X18.here hx rfl (hb hby d3_24) rfl ?_
    show Steps p.tables e below (T18.setTop (mkF m 25 #[.val (.int (8 : Int32)), .val (.ref nb2_1), .val (.int (9 : Int32)), .val (.int (3 : Int32)), .val (.ref w_UNWATCHED)] [(.int (8 : Int32)), (.int (4 : Int32))])) _
    refine XS.icmpYes X18.here hx rfl (pc0 := 25) (pc' := 31) rfl (hb hby d3_25) rfl (feq (by decide : ¬ ((4 : Int32) = (8 : Int32)))).2 (by decide) (by decide) ?_
    show Steps p.tables e below (T18.setTop (mkF m 31 #[.val (.int (8 : Int32)), .val (.ref nb2_1), .val (.int (9 : Int32)), .val (.int (3 : Int32)), .val (.ref w_UNWATCHED)] [])) _
    refine XS.iinc X18.here hx rfl (hb hby d3_31) rfl (l' := #[.val (.int (8 : Int32)), .val (.ref nb2_1), .val (.int (9 : Int32)), .val (.int (4 : Int32)), .val (.ref w_UNWATCHED)]) rfl ?_
    show Steps p.tables e below (T18.setTop (mkF m 34 #[.val (.int (8 : Int32)), .val (.ref nb2_1), .val (.int (9 : Int32)), .val (.int (4 : Int32)), .val (.ref w_UNWATCHED)] [])) _
    refine XS.goto X18.here hx rfl (pc0 := 34) (pc' := 9) rfl (hb hby d3_34) (by decide) (by decide) ?_
    show Steps p.tables e below (T18.setTop (mkF m 9 #[.val (.int (8 : Int32)), .val (.ref nb2_1), .val (.int (9 : Int32)), .val (.int (4 : Int32)), .val (.ref w_UNWATCHED)] [])) _
    refine XS.iloadN X18.here hx rfl (hb hby d3_9) rfl ?_
    show Steps p.tables e below (T18.setTop (mkF m 10 #[.val (.int (8 : Int32)), .val (.ref nb2_1), .val (.int (9 : Int32)), .val (.int (4 : Int32)), .val (.ref w_UNWATCHED)] [(.int (4 : Int32))])) _
    refine XS.iloadN X18.here hx rfl (hb hby d3_10) rfl ?_
    show Steps p.tables e below (T18.setTop (mkF m 11 #[.val (.int (8 : Int32)), .val (.ref nb2_1), .val (.int (9 : Int32)), .val (.int (4 : Int32)), .val (.ref w_UNWATCHED)] [(.int (9 : Int32)), (.int (4 : Int32))])) _
    refine XS.icmpNo X18.here hx rfl (hb hby d3_11) rfl (tlt (by decide : (4 : Int32) < (9 : Int32))).2.1 ?_
    show Steps p.tables e below (T18.setTop (mkF m 14 #[.val (.int (8 : Int32)), .val (.ref nb2_1), .val (.int (9 : Int32)), .val (.int (4 : Int32)), .val (.ref w_UNWATCHED)] [])) _
    refine XS.aloadN X18.here hx rfl (hb hby d3_14) rfl rfl ?_
    show Steps p.tables e below (T18.setTop (mkF m 15 #[.val (.int (8 : Int32)), .val (.ref nb2_1), .val (.int (9 : Int32)), .val (.int (4 : Int32)), .val (.ref w_UNWATCHED)] [(.ref nb2_1)])) _
    refine XS.iloadN X18.here hx rfl (hb hby d3_15) rfl ?_
    show Steps p.tables e below (T18.setTop (mkF m 16 #[.val (.int (8 : Int32)), .val (.ref nb2_1), .val (.int (9 : Int32)), .val (.int (4 : Int32)), .val (.ref w_UNWATCHED)] [(.int (4 : Int32)), (.ref nb2_1)])) _
    refine X18.aaload hx (j := (4 : Int32)) (v := (.ref w_UNWATCHED_ALL)) (by rw [e18]; exact r19.1) (State.isArrayOf_alike hZ.alike r19.2.1) rfl r19.2.2 hin19 hat19 (g := (mkF m 16 #[.val (.int (8 : Int32)), .val (.ref nb2_1), .val (.int (9 : Int32)), .val (.int (4 : Int32)), .val (.ref w_UNWATCHED)] [(.int (4 : Int32)), (.ref nb2_1)])) rfl rfl (hb hby d3_16) _ ?_
    show Steps p.tables e below (T18.setTop (mkF m 17 #[.val (.int (8 : Int32)), .val (.ref nb2_1), .val (.int (9 : Int32)), .val (.int (4 : Int32)), .val (.ref w_UNWATCHED)] [(.ref w_UNWATCHED_ALL)])) _
    refine XS.astore X18.here hx rfl (hb hby d3_17) rfl rfl (l' := #[.val (.int (8 : Int32)), .val (.ref nb2_1), .val (.int (9 : Int32)), .val (.int (4 : Int32)), .val (.ref w_UNWATCHED_ALL)]) rfl ?_
    show Steps p.tables e below (T18.setTop (mkF m 19 #[.val (.int (8 : Int32)), .val (.ref nb2_1), .val (.int (9 : Int32)), .val (.int (4 : Int32)), .val (.ref w_UNWATCHED_ALL)] [])) _
    refine XS.aload X18.here hx rfl (hb hby d3_19) rfl rfl ?_
    show Steps p.tables e below (T18.setTop (mkF m 21 #[.val (.int (8 : Int32)), .val (.ref nb2_1), .val (.int (9 : Int32)), .val (.int (4 : Int32)), .val (.ref w_UNWATCHED_ALL)] [(.ref w_UNWATCHED_ALL)])) _
    refine st21 _ ?_
    show Steps p.tables e below (T21.setTop (mkF m 24 #[.val (.int (8 : Int32)), .val (.ref nb2_1), .val (.int (9 : Int32)), .val (.int (4 : Int32)), .val (.ref w_UNWATCHED_ALL)] [(.int (5 : Int32))])) _
    refine XS.iloadN X21.here hx rfl (hb hby d3_24) rfl ?_
    show Steps p.tables e below (T21.setTop (mkF m 25 #[.val (.int (8 : Int32)), .val (.ref nb2_1), .val (.int (9 : Int32)), .val (.int (4 : Int32)), .val (.ref w_UNWATCHED_ALL)] [(.int (8 : Int32)), (.int (5 : Int32))])) _
    refine XS.icmpYes X21.here hx rfl (pc0 := 25) (pc' := 31) rfl (hb hby d3_25) rfl (feq (by decide : ¬ ((5 : Int32) = (8 : Int32)))).2 (by decide) (by decide) ?_
    show Steps p.tables e below (T21.setTop (mkF m 31 #[.val (.int (8 : Int32)), .val (.ref nb2_1), .val (.int (9 : Int32)), .val (.int (4 : Int32)), .val (.ref w_UNWATCHED_ALL)] [])) _
    refine XS.iinc X21.here hx rfl (hb hby d3_31) rfl (l' := #[.val (.int (8 : Int32)), .val (.ref nb2_1), .val (.int (9 : Int32)), .val (.int (5 : Int32)), .val (.ref w_UNWATCHED_ALL)]) rfl ?_
    show Steps p.tables e below (T21.setTop (mkF m 34 #[.val (.int (8 : Int32)), .val (.ref nb2_1), .val (.int (9 : Int32)), .val (.int (5 : Int32)), .val (.ref w_UNWATCHED_ALL)] [])) _
    refine XS.goto X21.here hx rfl (pc0 := 34) (pc' := 9) rfl (hb hby d3_34) (by decide) (by decide) ?_
    show Steps p.tables e below (T21.setTop (mkF m 9 #[.val (.int (8 : Int32)), .val (.ref nb2_1), .val (.int (9 : Int32)), .val (.int (5 : Int32)), .val (.ref w_UNWATCHED_ALL)] [])) _
    refine XS.iloadN X21.here hx rfl (hb hby d3_9) rfl ?_
    show Steps p.tables e below (T21.setTop (mkF m 10 #[.val (.int (8 : Int32)), .val (.ref nb2_1), .val (.int (9 : Int32)), .val (.int (5 : Int32)), .val (.ref w_UNWATCHED_ALL)] [(.int (5 : Int32))])) _
    refine XS.iloadN X21.here hx rfl (hb hby d3_10) rfl ?_
    show Steps p.tables e below (T21.setTop (mkF m 11 #[.val (.int (8 : Int32)), .val (.ref nb2_1), .val (.int (9 : Int32)), .val (.int (5 : Int32)), .val (.ref w_UNWATCHED_ALL)] [(.int (9 : Int32)), (.int (5 : Int32))])) _
    refine XS.icmpNo X21.here hx rfl (hb hby d3_11) rfl (tlt (by decide : (5 : Int32) < (9 : Int32))).2.1 ?_
    show Steps p.tables e below (T21.setTop (mkF m 14 #[.val (.int (8 : Int32)), .val (.ref nb2_1), .val (.int (9 : Int32)), .val (.int (5 : Int32)), .val (.ref w_UNWATCHED_ALL)] [])) _
    refine XS.aloadN X21.here hx rfl (hb hby d3_14) rfl rfl ?_
    show Steps p.tables e below (T21.setTop (mkF m 15 #[.val (.int (8 : Int32)), .val (.ref nb2_1), .val (.int (9 : Int32)), .val (.int (5 : Int32)), .val (.ref w_UNWATCHED_ALL)] [(.ref nb2_1)])) _
    refine XS.iloadN X21.here hx rfl (hb hby d3_15) rfl ?_
    show Steps p.tables e below (T21.setTop (mkF m 16 #[.val (.int (8 : Int32)), .val (.ref nb2_1), .val (.int (9 : Int32)), .val (.int (5 : Int32)), .val (.ref w_UNWATCHED_ALL)] [(.int (5 : Int32)), (.ref nb2_1)])) _
    refine X21.aaload hx (j := (5 : Int32)) (v := (.ref w_CLOCK_READING)) (by rw [e21]; exact r22.1) (State.isArrayOf_alike hZ.alike r22.2.1) rfl r22.2.2 hin22 hat22 (g := (mkF m 16 #[.val (.int (8 : Int32)), .val (.ref nb2_1), .val (.int (9 : Int32)), .val (.int (5 : Int32)), .val (.ref w_UNWATCHED_ALL)] [(.int (5 : Int32)), (.ref nb2_1)])) rfl rfl (hb hby d3_16) _ ?_
    show Steps p.tables e below (T21.setTop (mkF m 17 #[.val (.int (8 : Int32)), .val (.ref nb2_1), .val (.int (9 : Int32)), .val (.int (5 : Int32)), .val (.ref w_UNWATCHED_ALL)] [(.ref w_CLOCK_READING)])) _
    refine XS.astore X21.here hx rfl (hb hby d3_17) rfl rfl (l' := #[.val (.int (8 : Int32)), .val (.ref nb2_1), .val (.int (9 : Int32)), .val (.int (5 : Int32)), .val (.ref w_CLOCK_READING)]) rfl ?_
    show Steps p.tables e below (T21.setTop (mkF m 19 #[.val (.int (8 : Int32)), .val (.ref nb2_1), .val (.int (9 : Int32)), .val (.int (5 : Int32)), .val (.ref w_CLOCK_READING)] [])) _
    refine XS.aload X21.here hx rfl (hb hby d3_19) rfl rfl ?_
    show Steps p.tables e below (T21.setTop (mkF m 21 #[.val (.int (8 : Int32)), .val (.ref nb2_1), .val (.int (9 : Int32)), .val (.int (5 : Int32)), .val (.ref w_CLOCK_READING)] [(.ref w_CLOCK_READING)])) _
    refine st24 _ ?_
    show Steps p.tables e below (T24.setTop (mkF m 24 #[.val (.int (8 : Int32)), .val (.ref nb2_1), .val (.int (9 : Int32)), .val (.int (5 : Int32)), .val (.ref w_CLOCK_READING)] [(.int (6 : Int32))])) _
    refine XS.iloadN X24.here hx rfl (hb hby d3_24) rfl ?_
    show Steps p.tables e below (T24.setTop (mkF m 25 #[.val (.int (8 : Int32)), .val (.ref nb2_1), .val (.int (9 : Int32)), .val (.int (5 : Int32)), .val (.ref w_CLOCK_READING)] [(.int (8 : Int32)), (.int (6 : Int32))])) _
    refine XS.icmpYes X24.here hx rfl (pc0 := 25) (pc' := 31) rfl (hb hby d3_25) rfl (feq (by decide : ¬ ((6 : Int32) = (8 : Int32)))).2 (by decide) (by decide) ?_
    show Steps p.tables e below (T24.setTop (mkF m 31 #[.val (.int (8 : Int32)), .val (.ref nb2_1), .val (.int (9 : Int32)), .val (.int (5 : Int32)), .val (.ref w_CLOCK_READING)] [])) _
    refine XS.iinc X24.here hx rfl (hb hby d3_31) rfl (l' := #[.val (.int (8 : Int32)), .val (.ref nb2_1), .val (.int (9 : Int32)), .val (.int (6 : Int32)), .val (.ref w_CLOCK_READING)]) rfl ?_
    show Steps p.tables e below (T24.setTop (mkF m 34 #[.val (.int (8 : Int32)), .val (.ref nb2_1), .val (.int (9 : Int32)), .val (.int (6 : Int32)), .val (.ref w_CLOCK_READING)] [])) _
    refine XS.goto X24.here hx rfl (pc0 := 34) (pc' := 9) rfl (hb hby d3_34) (by decide) (by decide) ?_
    show Steps p.tables e below (T24.setTop (mkF m 9 #[.val (.int (8 : Int32)), .val (.ref nb2_1), .val (.int (9 : Int32)), .val (.int (6 : Int32)), .val (.ref w_CLOCK_READING)] [])) _
    refine XS.iloadN X24.here hx rfl (hb hby d3_9) rfl ?_
    show Steps p.tables e below (T24.setTop (mkF m 10 #[.val (.int (8 : Int32)), .val (.ref nb2_1), .val (.int (9 : Int32)), .val (.int (6 : Int32)), .val (.ref w_CLOCK_READING)] [(.int (6 : Int32))])) _
    refine XS.iloadN X24.here hx rfl (hb hby d3_10) rfl ?_
    show Steps p.tables e below (T24.setTop (mkF m 11 #[.val (.int (8 : Int32)), .val (.ref nb2_1), .val (.int (9 : Int32)), .val (.int (6 : Int32)), .val (.ref w_CLOCK_READING)] [(.int (9 : Int32)), (.int (6 : Int32))])) _
    refine XS.icmpNo X24.here hx rfl (hb hby d3_11) rfl (tlt (by decide : (6 : Int32) < (9 : Int32))).2.1 ?_
    show Steps p.tables e below (T24.setTop (mkF m 14 #[.val (.int (8 : Int32)), .val (.ref nb2_1), .val (.int (9 : Int32)), .val (.int (6 : Int32)), .val (.ref w_CLOCK_READING)] [])) _
    refine XS.aloadN X24.here hx rfl (hb hby d3_14) rfl rfl ?_
    show Steps p.tables e below (T24.setTop (mkF m 15 #[.val (.int (8 : Int32)), .val (.ref nb2_1), .val (.int (9 : Int32)), .val (.int (6 : Int32)), .val (.ref w_CLOCK_READING)] [(.ref nb2_1)])) _
    refine XS.iloadN X24.here hx rfl (hb hby d3_15) rfl ?_
    show Steps p.tables e below (T24.setTop (mkF m 16 #[.val (.int (8 : Int32)), .val (.ref nb2_1), .val (.int (9 : Int32)), .val (.int (6 : Int32)), .val (.ref w_CLOCK_READING)] [(.int (6 : Int32)), (.ref nb2_1)])) _
    refine X24.aaload hx (j := (6 : Int32)) (v := (.ref w_ANSWERED)) (by rw [e24]; exact r25.1) (State.isArrayOf_alike hZ.alike r25.2.1) rfl r25.2.2 hin25 hat25 (g := (mkF m 16 #[.val (.int (8 : Int32)), .val (.ref nb2_1), .val (.int (9 : Int32)), .val (.int (6 : Int32)), .val (.ref w_CLOCK_READING)] [(.int (6 : Int32)), (.ref nb2_1)])) rfl rfl (hb hby d3_16) _ ?_
    show Steps p.tables e below (T24.setTop (mkF m 17 #[.val (.int (8 : Int32)), .val (.ref nb2_1), .val (.int (9 : Int32)), .val (.int (6 : Int32)), .val (.ref w_CLOCK_READING)] [(.ref w_ANSWERED)])) _
    refine XS.astore X24.here hx rfl (hb hby d3_17) rfl rfl (l' := #[.val (.int (8 : Int32)), .val (.ref nb2_1), .val (.int (9 : Int32)), .val (.int (6 : Int32)), .val (.ref w_ANSWERED)]) rfl ?_
    show Steps p.tables e below (T24.setTop (mkF m 19 #[.val (.int (8 : Int32)), .val (.ref nb2_1), .val (.int (9 : Int32)), .val (.int (6 : Int32)), .val (.ref w_ANSWERED)] [])) _
    refine XS.aload X24.here hx rfl (hb hby d3_19) rfl rfl ?_
    show Steps p.tables e below (T24.setTop (mkF m 21 #[.val (.int (8 : Int32)), .val (.ref nb2_1), .val (.int (9 : Int32)), .val (.int (6 : Int32)), .val (.ref w_ANSWERED)] [(.ref w_ANSWERED)])) _
    refine st27 _ ?_
    show Steps p.tables e below (T27.setTop (mkF m 24 #[.val (.int (8 : Int32)), .val (.ref nb2_1), .val (.int (9 : Int32)), .val (.int (6 : Int32)), .val (.ref w_ANSWERED)] [(.int (7 : Int32))])) _
    refine XS.iloadN X27.here hx rfl (hb hby d3_24) rfl ?_
    show Steps p.tables e below (T27.setTop (mkF m 25 #[.val (.int (8 : Int32)), .val (.ref nb2_1), .val (.int (9 : Int32)), .val (.int (6 : Int32)), .val (.ref w_ANSWERED)] [(.int (8 : Int32)), (.int (7 : Int32))])) _
    refine XS.icmpYes X27.here hx rfl (pc0 := 25) (pc' := 31) rfl (hb hby d3_25) rfl (feq (by decide : ¬ ((7 : Int32) = (8 : Int32)))).2 (by decide) (by decide) ?_
    show Steps p.tables e below (T27.setTop (mkF m 31 #[.val (.int (8 : Int32)), .val (.ref nb2_1), .val (.int (9 : Int32)), .val (.int (6 : Int32)), .val (.ref w_ANSWERED)] [])) _
    refine XS.iinc X27.here hx rfl (hb hby d3_31) rfl (l' := #[.val (.int (8 : Int32)), .val (.ref nb2_1), .val (.int (9 : Int32)), .val (.int (7 : Int32)), .val (.ref w_ANSWERED)]) rfl ?_
    show Steps p.tables e below (T27.setTop (mkF m 34 #[.val (.int (8 : Int32)), .val (.ref nb2_1), .val (.int (9 : Int32)), .val (.int (7 : Int32)), .val (.ref w_ANSWERED)] [])) _
    refine XS.goto X27.here hx rfl (pc0 := 34) (pc' := 9) rfl (hb hby d3_34) (by decide) (by decide) ?_
    show Steps p.tables e below (T27.setTop (mkF m 9 #[.val (.int (8 : Int32)), .val (.ref nb2_1), .val (.int (9 : Int32)), .val (.int (7 : Int32)), .val (.ref w_ANSWERED)] [])) _
    refine XS.iloadN X27.here hx rfl (hb hby d3_9) rfl ?_
    show Steps p.tables e below (T27.setTop (mkF m 10 #[.val (.int (8 : Int32)), .val (.ref nb2_1), .val (.int (9 : Int32)), .val (.int (7 : Int32)), .val (.ref w_ANSWERED)] [(.int (7 : Int32))])) _
    refine XS.iloadN X27.here hx rfl (hb hby d3_10) rfl ?_
    show Steps p.tables e below (T27.setTop (mkF m 11 #[.val (.int (8 : Int32)), .val (.ref nb2_1), .val (.int (9 : Int32)), .val (.int (7 : Int32)), .val (.ref w_ANSWERED)] [(.int (9 : Int32)), (.int (7 : Int32))])) _
    refine XS.icmpNo X27.here hx rfl (hb hby d3_11) rfl (tlt (by decide : (7 : Int32) < (9 : Int32))).2.1 ?_
    show Steps p.tables e below (T27.setTop (mkF m 14 #[.val (.int (8 : Int32)), .val (.ref nb2_1), .val (.int (9 : Int32)), .val (.int (7 : Int32)), .val (.ref w_ANSWERED)] [])) _
    refine XS.aloadN X27.here hx rfl (hb hby d3_14) rfl rfl ?_
    show Steps p.tables e below (T27.setTop (mkF m 15 #[.val (.int (8 : Int32)), .val (.ref nb2_1), .val (.int (9 : Int32)), .val (.int (7 : Int32)), .val (.ref w_ANSWERED)] [(.ref nb2_1)])) _
    refine XS.iloadN X27.here hx rfl (hb hby d3_15) rfl ?_
    show Steps p.tables e below (T27.setTop (mkF m 16 #[.val (.int (8 : Int32)), .val (.ref nb2_1), .val (.int (9 : Int32)), .val (.int (7 : Int32)), .val (.ref w_ANSWERED)] [(.int (7 : Int32)), (.ref nb2_1)])) _
    refine X27.aaload hx (j := (7 : Int32)) (v := (.ref w_UNDELIVERED)) (by rw [e27]; exact r28.1) (State.isArrayOf_alike hZ.alike r28.2.1) rfl r28.2.2 hin28 hat28 (g := (mkF m 16 #[.val (.int (8 : Int32)), .val (.ref nb2_1), .val (.int (9 : Int32)), .val (.int (7 : Int32)), .val (.ref w_ANSWERED)] [(.int (7 : Int32)), (.ref nb2_1)])) rfl rfl (hb hby d3_16) _ ?_
    show Steps p.tables e below (T27.setTop (mkF m 17 #[.val (.int (8 : Int32)), .val (.ref nb2_1), .val (.int (9 : Int32)), .val (.int (7 : Int32)), .val (.ref w_ANSWERED)] [(.ref w_UNDELIVERED)])) _
    refine XS.astore X27.here hx rfl (hb hby d3_17) rfl rfl (l' := #[.val (.int (8 : Int32)), .val (.ref nb2_1), .val (.int (9 : Int32)), .val (.int (7 : Int32)), .val (.ref w_UNDELIVERED)]) rfl ?_
    show Steps p.tables e below (T27.setTop (mkF m 19 #[.val (.int (8 : Int32)), .val (.ref nb2_1), .val (.int (9 : Int32)), .val (.int (7 : Int32)), .val (.ref w_UNDELIVERED)] [])) _
    refine XS.aload X27.here hx rfl (hb hby d3_19) rfl rfl ?_
    show Steps p.tables e below (T27.setTop (mkF m 21 #[.val (.int (8 : Int32)), .val (.ref nb2_1), .val (.int (9 : Int32)), .val (.int (7 : Int32)), .val (.ref w_UNDELIVERED)] [(.ref w_UNDELIVERED)])) _
    refine st30 _ ?_
    show Steps p.tables e below (T30.setTop (mkF m 24 #[.val (.int (8 : Int32)), .val (.ref nb2_1), .val (.int (9 : Int32)), .val (.int (7 : Int32)), .val (.ref w_UNDELIVERED)] [(.int (8 : Int32))])) _
    refine XS.iloadN X30.here hx rfl (hb hby d3_24) rfl ?_
    show Steps p.tables e below (T30.setTop (mkF m 25 #[.val (.int (8 : Int32)), .val (.ref nb2_1), .val (.int (9 : Int32)), .val (.int (7 : Int32)), .val (.ref w_UNDELIVERED)] [(.int (8 : Int32)), (.int (8 : Int32))])) _
    refine XS.icmpNo X30.here hx rfl (hb hby d3_25) rfl (teq (by decide : (8 : Int32) = (8 : Int32))).2 ?_
    show Steps p.tables e below (T30.setTop (mkF m 28 #[.val (.int (8 : Int32)), .val (.ref nb2_1), .val (.int (9 : Int32)), .val (.int (7 : Int32)), .val (.ref w_UNDELIVERED)] [])) _
    refine XS.aload X30.here hx rfl (hb hby d3_28) rfl rfl ?_
    exact kt
  have f33 : Keep h0 h1 [] := K0.trans K1 all0
  obtain ⟨fs, hr, hrun, hended, hW, hsame⟩ := X30.leave (v := some (.ref w_UNDELIVERED)) (fun h => by rw [Bd.returns] at h; cases h)
  refine ⟨_, _, pre31 _ (retOut X30 hx Bd.returns rfl (Or.inr (Or.inr (Or.inr (Or.inr ⟨rfl, rfl, rfl⟩)))) (hb hby d3_30) hr), hrun, hended, _, _, rfl, ?_, ⟨_, rfl⟩, hW, hsame.mono (by decide) (by decide)⟩
  show QOf7 Z w_STORED w_REMOVED w_WATCHED w_UNWATCHED w_UNWATCHED_ALL w_CLOCK_READING w_ANSWERED w_UNDELIVERED w_DELIVERED w__VALUES k_ h0 n0 _ T30.heap _
  rw [e30]
  exact ⟨rfl, N2, f33⟩
theorem d2_75 : decode method_2_code 75 = .ok (.getstatic 34, 3) := by decide +kernel
theorem d2_78 : decode method_2_code 78 = .ok (.areturn, 1) := by decide +kernel
theorem efExp8 (m : MethodId)  : entryFrame m #[(.int (9 : Int32))] 1 = mkF m 0 #[.val (.int (9 : Int32))] [] := by first | (simp [entryFrame, mkF, argsToLocals, Value.category]; done) | rfl
def QExp8 (Z : State) (w_DELIVERED : Addr) (h0 : Heap) (n0 : Nat) (v : Option Value) (h : Heap) (L : List Loc) : Prop := v = some (.ref w_DELIVERED) ∧ Fr n0 L ∧ h = h0
set_option maxRecDepth 65536 in
set_option maxHeartbeats 40000000 in
theorem rmExp8 (l : Launch) (Z : State) (a0 : Array Value) (hw : ∀ d ∈ tables_1, d.before a0 Z = true) (ws : List Jvm.Cond) (w_DELIVERED : Addr) (h0 : Heap) (n0 : Nat) (O0 : Old Z n0 h0) (P0 : Sta Z Z.heap "com/example/fawley/fawley/store/Change$Kind" "DELIVERED" "Lcom/example/fawley/fawley/store/Change$Kind;" (.ref w_DELIVERED)) :
    MetFree l (⟨"com/example/fawley/fawley/store/KindOfPinLaw", "expected", "(I)Lcom/example/fawley/fawley/store/Change$Kind;"⟩ : MethodName) (head1 (Jvm.Cond.code (⟨"com/example/fawley/fawley/store/KindOfPinLaw", "expected", "(I)Lcom/example/fawley/fawley/store/Change$Kind;"⟩ : MethodName) method_2_code 1 (some (.object "com/example/fawley/fawley/store/Change$Kind")) :: ws) ({ frames := 0, cells := 0, slots := 0, locals := 0 } : Room)) (fun a U => a = #[(.int (9 : Int32))] ∧ Z.Warmed39 U.vm ∧ U.heap = h0) (fun _ _ _ _ _ => True) (fun _ U o U' => ∃ v L, o = .returned v ∧ QExp8 Z w_DELIVERED h0 n0 v U'.heap L ∧ FrameEnd U o U' L ({ frames := 0, cells := 0, slots := 0, locals := 0 } : Room).cells ({ frames := 0, cells := 0, slots := 0, locals := 0 } : Room).slots) := by
  refine MetFree.of_bodySF (plainFor_of_name pn_1) hisR ?_
  intro p e s m args below meth c s₁ Bd hml0 hP hK
  obtain ⟨rfl, hZ, hh⟩ := hP
  have hx := Bd.exec
  have hby := Bd.bytes
  have hml : c.maxLocals = 1 := hml0
  have hown : s.vm.findClass "com/example/fawley/fawley/store/KindOfPinLaw" = some m.cls := findClass_of_methodNamed Bd.named
  have hnm := (name_of_methodNamed Bd.named Bd.method).1
  have X0 : Stand p l e ({ frames := 0, cells := 0, slots := 0, locals := 0 } : Room) s m #[(.int (9 : Int32))] below meth c s₁ [] 0 0 := Stand.of_body Bd
  have e0 : s₁.heap = h0 := by rw [← hh, Bd.state]; rfl
  have N0 := Fr.nil n0
  have pre0 : ∀ t, Steps p.tables e below (s₁.setTop (mkF m 0 #[.val (.int (9 : Int32))] [])) t → Steps p.tables e below (s₁.setTop (entryFrame m #[(.int (9 : Int32))] 1)) t := fun t k => castTop (efExp8 m ) k
  have K0 : Keep h0 h0 [] := Keep.refl _ _
  obtain ⟨T1, X1, e1, st1⟩ := getS2 X0 hx hZ hown (host := "") (Or.inl (hw _ (List.mem_of_getElem? (i := 46) rfl))) Via.refl e0 (P0.ext O0.2) (g := (mkF m 75 #[.val (.int (9 : Int32))] [])) rfl (hb hby d2_75)
  have pre2 : ∀ t, Steps p.tables e below (T1.setTop (mkF m 78 #[.val (.int (9 : Int32))] [(.ref w_DELIVERED)])) t → Steps p.tables e below (s₁.setTop (entryFrame m #[(.int (9 : Int32))] 1)) t := by
    intro t kt
    refine pre0 t ?_
    show Steps p.tables e below (s₁.setTop (mkF m 0 #[.val (.int (9 : Int32))] [])) _
    refine XS.iloadN X0.here hx rfl (hb hby d2_0) rfl ?_
    show Steps p.tables e below (s₁.setTop (mkF m 1 #[.val (.int (9 : Int32))] [(.int (9 : Int32))])) _
    refine XS.iconst X0.here hx rfl (hb hby d2_1) ?_
    show Steps p.tables e below (s₁.setTop (mkF m 2 #[.val (.int (9 : Int32))] [(.int (1 : Int32)), (.int (9 : Int32))])) _
    refine XS.icmpYes X0.here hx rfl (pc0 := 2) (pc' := 9) rfl (hb hby d2_2) rfl (feq (by decide : ¬ ((9 : Int32) = (1 : Int32)))).2 (by decide) (by decide) ?_
    show Steps p.tables e below (s₁.setTop (mkF m 9 #[.val (.int (9 : Int32))] [])) _
    refine XS.iloadN X0.here hx rfl (hb hby d2_9) rfl ?_
    show Steps p.tables e below (s₁.setTop (mkF m 10 #[.val (.int (9 : Int32))] [(.int (9 : Int32))])) _
    refine XS.iconst X0.here hx rfl (hb hby d2_10) ?_
    show Steps p.tables e below (s₁.setTop (mkF m 11 #[.val (.int (9 : Int32))] [(.int (2 : Int32)), (.int (9 : Int32))])) _
    refine XS.icmpYes X0.here hx rfl (pc0 := 11) (pc' := 18) rfl (hb hby d2_11) rfl (feq (by decide : ¬ ((9 : Int32) = (2 : Int32)))).2 (by decide) (by decide) ?_
    show Steps p.tables e below (s₁.setTop (mkF m 18 #[.val (.int (9 : Int32))] [])) _
    refine XS.iloadN X0.here hx rfl (hb hby d2_18) rfl ?_
    show Steps p.tables e below (s₁.setTop (mkF m 19 #[.val (.int (9 : Int32))] [(.int (9 : Int32))])) _
    refine XS.iconst X0.here hx rfl (hb hby d2_19) ?_
    show Steps p.tables e below (s₁.setTop (mkF m 20 #[.val (.int (9 : Int32))] [(.int (3 : Int32)), (.int (9 : Int32))])) _
    refine XS.icmpYes X0.here hx rfl (pc0 := 20) (pc' := 27) rfl (hb hby d2_20) rfl (feq (by decide : ¬ ((9 : Int32) = (3 : Int32)))).2 (by decide) (by decide) ?_
    show Steps p.tables e below (s₁.setTop (mkF m 27 #[.val (.int (9 : Int32))] [])) _
    refine XS.iloadN X0.here hx rfl (hb hby d2_27) rfl ?_
    show Steps p.tables e below (s₁.setTop (mkF m 28 #[.val (.int (9 : Int32))] [(.int (9 : Int32))])) _
    refine XS.iconst X0.here hx rfl (hb hby d2_28) ?_
    show Steps p.tables e below (s₁.setTop (mkF m 29 #[.val (.int (9 : Int32))] [(.int (4 : Int32)), (.int (9 : Int32))])) _
    refine XS.icmpYes X0.here hx rfl (pc0 := 29) (pc' := 36) rfl (hb hby d2_29) rfl (feq (by decide : ¬ ((9 : Int32) = (4 : Int32)))).2 (by decide) (by decide) ?_
    show Steps p.tables e below (s₁.setTop (mkF m 36 #[.val (.int (9 : Int32))] [])) _
    refine XS.iloadN X0.here hx rfl (hb hby d2_36) rfl ?_
    show Steps p.tables e below (s₁.setTop (mkF m 37 #[.val (.int (9 : Int32))] [(.int (9 : Int32))])) _
    refine XS.iconst X0.here hx rfl (hb hby d2_37) ?_
    show Steps p.tables e below (s₁.setTop (mkF m 38 #[.val (.int (9 : Int32))] [(.int (5 : Int32)), (.int (9 : Int32))])) _
    refine XS.icmpYes X0.here hx rfl (pc0 := 38) (pc' := 45) rfl (hb hby d2_38) rfl (feq (by decide : ¬ ((9 : Int32) = (5 : Int32)))).2 (by decide) (by decide) ?_
    show Steps p.tables e below (s₁.setTop (mkF m 45 #[.val (.int (9 : Int32))] [])) _
    refine XS.iloadN X0.here hx rfl (hb hby d2_45) rfl ?_
    show Steps p.tables e below (s₁.setTop (mkF m 46 #[.val (.int (9 : Int32))] [(.int (9 : Int32))])) _
    refine XS.bipush X0.here hx rfl (hb hby d2_46) ?_
    show Steps p.tables e below (s₁.setTop (mkF m 48 #[.val (.int (9 : Int32))] [(.int (6 : Int32)), (.int (9 : Int32))])) _
    refine XS.icmpYes X0.here hx rfl (pc0 := 48) (pc' := 55) rfl (hb hby d2_48) rfl (feq (by decide : ¬ ((9 : Int32) = (6 : Int32)))).2 (by decide) (by decide) ?_
    show Steps p.tables e below (s₁.setTop (mkF m 55 #[.val (.int (9 : Int32))] [])) _
    refine XS.iloadN X0.here hx rfl (hb hby d2_55) rfl ?_
    show Steps p.tables e below (s₁.setTop (mkF m 56 #[.val (.int (9 : Int32))] [(.int (9 : Int32))])) _
    refine XS.bipush X0.here hx rfl (hb hby d2_56) ?_
    show Steps p.tables e below (s₁.setTop (mkF m 58 #[.val (.int (9 : Int32))] [(.int (7 : Int32)), (.int (9 : Int32))])) _
    refine XS.icmpYes X0.here hx rfl (pc0 := 58) (pc' := 65) rfl (hb hby d2_58) rfl (feq (by decide : ¬ ((9 : Int32) = (7 : Int32)))).2 (by decide) (by decide) ?_
    show Steps p.tables e below (s₁.setTop (mkF m 65 #[.val (.int (9 : Int32))] [])) _
    refine XS.iloadN X0.here hx rfl (hb hby d2_65) rfl ?_
    show Steps p.tables e below (s₁.setTop (mkF m 66 #[.val (.int (9 : Int32))] [(.int (9 : Int32))])) _
    refine XS.bipush X0.here hx rfl (hb hby d2_66) ?_
    show Steps p.tables e below (s₁.setTop (mkF m 68 #[.val (.int (9 : Int32))] [(.int (8 : Int32)), (.int (9 : Int32))])) _
    refine XS.icmpYes X0.here hx rfl (pc0 := 68) (pc' := 75) rfl (hb hby d2_68) rfl (feq (by decide : ¬ ((9 : Int32) = (8 : Int32)))).2 (by decide) (by decide) ?_
    show Steps p.tables e below (s₁.setTop (mkF m 75 #[.val (.int (9 : Int32))] [])) _
    refine st1 _ ?_
    exact kt
  obtain ⟨fs, hr, hrun, hended, hW, hsame⟩ := X1.leave (v := some (.ref w_DELIVERED)) (fun h => by rw [Bd.returns] at h; cases h)
  refine ⟨_, _, pre2 _ (retOut X1 hx Bd.returns rfl (Or.inr (Or.inr (Or.inr (Or.inr ⟨rfl, rfl, rfl⟩)))) (hb hby d2_78) hr), hrun, hended, _, _, rfl, ?_, ⟨_, rfl⟩, hW, hsame.mono (by decide) (by decide)⟩
  show QExp8 Z w_DELIVERED h0 n0 _ T1.heap _
  rw [e1]
  exact ⟨rfl, N0, rfl⟩
theorem efOf8 (m : MethodId)  : entryFrame m #[(.int (9 : Int32))] 5 = mkF m 0 #[.val (.int (9 : Int32)), .unset, .unset, .unset, .unset] [] := by first | (simp [entryFrame, mkF, argsToLocals, Value.category]; done) | rfl
def QOf8 (Z : State) (w_STORED : Addr) (w_REMOVED : Addr) (w_WATCHED : Addr) (w_UNWATCHED : Addr) (w_UNWATCHED_ALL : Addr) (w_CLOCK_READING : Addr) (w_ANSWERED : Addr) (w_UNDELIVERED : Addr) (w_DELIVERED : Addr) (w__VALUES : Addr) (k_ : ClassId) (h0 : Heap) (n0 : Nat) (v : Option Value) (h : Heap) (L : List Loc) : Prop := v = some (.ref w_DELIVERED) ∧ Fr n0 L ∧ Keep h0 h []
set_option maxRecDepth 65536 in
set_option maxHeartbeats 40000000 in
theorem rmOf8 (l : Launch) (Z : State) (a0 : Array Value) (hw : ∀ d ∈ tables_1, d.before a0 Z = true) (ws : List Jvm.Cond) (w_STORED : Addr) (w_REMOVED : Addr) (w_WATCHED : Addr) (w_UNWATCHED : Addr) (w_UNWATCHED_ALL : Addr) (w_CLOCK_READING : Addr) (w_ANSWERED : Addr) (w_UNDELIVERED : Addr) (w_DELIVERED : Addr) (w__VALUES : Addr) (k_ : ClassId) (h0 : Heap) (n0 : Nat) (O0 : Old Z n0 h0) (P0 : Sta Z Z.heap "com/example/fawley/fawley/store/Change$Kind" "STORED" "Lcom/example/fawley/fawley/store/Change$Kind;" (.ref w_STORED)) (P1 : Exa Z Z.heap w_STORED "com/example/fawley/fawley/store/Change$Kind") (P2 : Fld Z Z.heap w_STORED "com/example/fawley/fawley/store/Change$Kind" "code" "B" (.int (1 : Int32))) (P3 : Sta Z Z.heap "com/example/fawley/fawley/store/Change$Kind" "REMOVED" "Lcom/example/fawley/fawley/store/Change$Kind;" (.ref w_REMOVED)) (P4 : Exa Z Z.heap w_REMOVED "com/example/fawley/fawley/store/Change$Kind") (P5 : Fld Z Z.heap w_REMOVED "com/example/fawley/fawley/store/Change$Kind" "code" "B" (.int (2 : Int32))) (P6 : Sta Z Z.heap "com/example/fawley/fawley/store/Change$Kind" "WATCHED" "Lcom/example/fawley/fawley/store/Change$Kind;" (.ref w_WATCHED)) (P7 : Exa Z Z.heap w_WATCHED "com/example/fawley/fawley/store/Change$Kind") (P8 : Fld Z Z.heap w_WATCHED "com/example/fawley/fawley/store/Change$Kind" "code" "B" (.int (3 : Int32))) (P9 : Sta Z Z.heap "com/example/fawley/fawley/store/Change$Kind" "UNWATCHED" "Lcom/example/fawley/fawley/store/Change$Kind;" (.ref w_UNWATCHED)) (P10 : Exa Z Z.heap w_UNWATCHED "com/example/fawley/fawley/store/Change$Kind") (P11 : Fld Z Z.heap w_UNWATCHED "com/example/fawley/fawley/store/Change$Kind" "code" "B" (.int (4 : Int32))) (P12 : Sta Z Z.heap "com/example/fawley/fawley/store/Change$Kind" "UNWATCHED_ALL" "Lcom/example/fawley/fawley/store/Change$Kind;" (.ref w_UNWATCHED_ALL)) (P13 : Exa Z Z.heap w_UNWATCHED_ALL "com/example/fawley/fawley/store/Change$Kind") (P14 : Fld Z Z.heap w_UNWATCHED_ALL "com/example/fawley/fawley/store/Change$Kind" "code" "B" (.int (5 : Int32))) (P15 : Sta Z Z.heap "com/example/fawley/fawley/store/Change$Kind" "CLOCK_READING" "Lcom/example/fawley/fawley/store/Change$Kind;" (.ref w_CLOCK_READING)) (P16 : Exa Z Z.heap w_CLOCK_READING "com/example/fawley/fawley/store/Change$Kind") (P17 : Fld Z Z.heap w_CLOCK_READING "com/example/fawley/fawley/store/Change$Kind" "code" "B" (.int (6 : Int32))) (P18 : Sta Z Z.heap "com/example/fawley/fawley/store/Change$Kind" "ANSWERED" "Lcom/example/fawley/fawley/store/Change$Kind;" (.ref w_ANSWERED)) (P19 : Exa Z Z.heap w_ANSWERED "com/example/fawley/fawley/store/Change$Kind") (P20 : Fld Z Z.heap w_ANSWERED "com/example/fawley/fawley/store/Change$Kind" "code" "B" (.int (7 : Int32))) (P21 : Sta Z Z.heap "com/example/fawley/fawley/store/Change$Kind" "UNDELIVERED" "Lcom/example/fawley/fawley/store/Change$Kind;" (.ref w_UNDELIVERED)) (P22 : Exa Z Z.heap w_UNDELIVERED "com/example/fawley/fawley/store/Change$Kind") (P23 : Fld Z Z.heap w_UNDELIVERED "com/example/fawley/fawley/store/Change$Kind" "code" "B" (.int (8 : Int32))) (P24 : Sta Z Z.heap "com/example/fawley/fawley/store/Change$Kind" "DELIVERED" "Lcom/example/fawley/fawley/store/Change$Kind;" (.ref w_DELIVERED)) (P25 : Exa Z Z.heap w_DELIVERED "com/example/fawley/fawley/store/Change$Kind") (P26 : Fld Z Z.heap w_DELIVERED "com/example/fawley/fawley/store/Change$Kind" "code" "B" (.int (9 : Int32))) (P27 : Sta Z Z.heap "com/example/fawley/fawley/store/Change$Kind" "$VALUES" "[Lcom/example/fawley/fawley/store/Change$Kind;" (.ref w__VALUES)) (P28 : Exa Z Z.heap w__VALUES "[Lcom/example/fawley/fawley/store/Change$Kind;") (P29 : Arv Z Z.heap w__VALUES k_ (.object "com/example/fawley/fawley/store/Change$Kind") (9 : Int32) [(.ref w_STORED), (.ref w_REMOVED), (.ref w_WATCHED), (.ref w_UNWATCHED), (.ref w_UNWATCHED_ALL), (.ref w_CLOCK_READING), (.ref w_ANSWERED), (.ref w_UNDELIVERED), (.ref w_DELIVERED)] .null) :
    MetFree l (⟨"com/example/fawley/fawley/store/Change$Kind", "of", "(B)Lcom/example/fawley/fawley/store/Change$Kind;"⟩ : MethodName) (head1 (Jvm.Cond.code (⟨"com/example/fawley/fawley/store/Change$Kind", "of", "(B)Lcom/example/fawley/fawley/store/Change$Kind;"⟩ : MethodName) prog_29_method_5_code 5 (some (.object "com/example/fawley/fawley/store/Change$Kind")) :: ws) ({ frames := 2, cells := 1, slots := 9, locals := 25 } : Room)) (fun a U => a = #[(.int (9 : Int32))] ∧ Z.Warmed39 U.vm ∧ U.heap = h0) (fun _ _ _ _ _ => True) (fun _ U o U' => ∃ v L, o = .returned v ∧ QOf8 Z w_STORED w_REMOVED w_WATCHED w_UNWATCHED w_UNWATCHED_ALL w_CLOCK_READING w_ANSWERED w_UNDELIVERED w_DELIVERED w__VALUES k_ h0 n0 v U'.heap L ∧ FrameEnd U o U' L ({ frames := 2, cells := 1, slots := 9, locals := 25 } : Room).cells ({ frames := 2, cells := 1, slots := 9, locals := 25 } : Room).slots) := by
  refine MetFree.of_bodySF (plainFor_of_name pn_0) hisR ?_
  intro p e s m args below meth c s₁ Bd hml0 hP hK
  obtain ⟨rfl, hZ, hh⟩ := hP
  have hx := Bd.exec
  have hby := Bd.bytes
  have hml : c.maxLocals = 5 := hml0
  have hown : s.vm.findClass "com/example/fawley/fawley/store/Change$Kind" = some m.cls := findClass_of_methodNamed Bd.named
  have hnm := (name_of_methodNamed Bd.named Bd.method).1
  have X0 : Stand p l e ({ frames := 2, cells := 1, slots := 9, locals := 25 } : Room) s m #[(.int (9 : Int32))] below meth c s₁ [] 0 0 := Stand.of_body Bd
  have e0 : s₁.heap = h0 := by rw [← hh, Bd.state]; rfl
  have N0 := Fr.nil n0
  have pre0 : ∀ t, Steps p.tables e below (s₁.setTop (mkF m 0 #[.val (.int (9 : Int32)), .unset, .unset, .unset, .unset] [])) t → Steps p.tables e below (s₁.setTop (entryFrame m #[(.int (9 : Int32))] 5)) t := fun t k => castTop (efOf8 m ) k
  have K0 : Keep h0 h0 [] := Keep.refl _ _
  obtain ⟨_, _, ⟨T1, L1, k1, n1⟩, -, X1, ⟨Lc1, hQ1, l1, y1, z1⟩, st1⟩ := Jvm.LawKit.callS X0 hx (y := (⟨"com/example/fawley/fawley/store/Change$Kind", "values", "()[Lcom/example/fawley/fawley/store/Change$Kind;"⟩ : MethodName)) hown (mvT hZ (hw _ (List.mem_of_getElem? (i := 11) rfl))) (mvT hZ (hw _ (List.mem_of_getElem? (i := 12) rfl))) (mvT hZ (hw _ (List.mem_of_getElem? (i := 6) rfl))) (mvT hZ (hw _ (List.mem_of_getElem? (i := 13) rfl))) (by decide) (backOf (W := 0) (rmVal l Z a0 hw [] w_STORED w_REMOVED w_WATCHED w_UNWATCHED w_UNWATCHED_ALL w_CLOCK_READING w_ANSWERED w_UNDELIVERED w_DELIVERED w__VALUES k_ h0 n0 O0 P0 P1 P2 P3 P4 P5 P6 P7 P8 P9 P10 P11 P12 P13 P14 P15 P16 P17 P18 P19 P20 P21 P22 P23 P24 P25 P26 P27 P28 P29) hZ (hw _ (List.mem_of_getElem? (i := 13) rfl)) (hw _ (List.mem_of_getElem? (i := 6) rfl)) (by decide) (by decide)) (g := (mkF m 0 #[.val (.int (9 : Int32)), .unset, .unset, .unset, .unset] [])) rfl (by rw [hml]; rfl) (argsL := []) (rest := []) (lenOf pd_0 rfl) rfl (by show 2 * 0 + _ ≤ _; exact Nat.le_of_eq rfl) (hb hby d3_0) (fun _ _ => ⟨rfl, e0, (by decide : 0 + 1 ≤ _), (by decide : 0 + 9 ≤ _)⟩)
  dsimp only [Pt.U, Pt.locs, Pt.cells, Pt.slots] at X1 l1 y1 z1 st1 hQ1
  subst l1 y1 z1
  obtain ⟨h1, e1⟩ : ∃ z, T1.heap = z := ⟨_, rfl⟩
  rw [e1] at hQ1
  obtain ⟨nb2_1, rfl, N1q, K1, sznb2_1, g1_0, g1_1⟩ := hQ1
  have N2 := Fr.app N0 N1q
  have ge3 : n0 ≤ nb2_1 := Nat.le_trans (Nat.le_trans (Nat.le_of_eq O0.1.symm) O0.2.1) sznb2_1
  have sz4 : h0.size ≤ nb2_1 := Nat.le_trans K0.1 sznb2_1
  obtain ⟨c5, r5, q5, s5, z5, y5, G5⟩ := id g1_0
  obtain ⟨c6, r6, q6, s6, z6, y6, G6⟩ := id g1_0
  have hin6 : ¬ ((0 : Int32) < 0 ∨ c6.slots.size ≤ ((0 : Int32)).toNatClampNeg) := inb_of s6 ⟨by decide, by decide⟩
  have hat6 : c6.slots[((0 : Int32)).toNatClampNeg]? = some (.ref w_STORED) := Has.at y6 hin6 rfl
  have f7 : Old Z n0 h1 := O0.keep K1 all0
  have f8 : Fld Z h1 w_STORED "com/example/fawley/fawley/store/Change$Kind" "code" "B" (.int (1 : Int32)) := P2.ext f7.2
  obtain ⟨T9, X9, e9, st9⟩ := getF X1 hx hZ hown (host := "") (Or.inl (hw _ (List.mem_of_getElem? (i := 34) rfl))) Via.refl e1 f8 (g := (mkF m 21 #[.val (.int (9 : Int32)), .val (.ref nb2_1), .val (.int (9 : Int32)), .val (.int (0 : Int32)), .val (.ref w_STORED)] [(.ref w_STORED)])) rfl rfl (hb hby d3_21)
  obtain ⟨c10, r10, q10, s10, z10, y10, G10⟩ := id g1_0
  have hin10 : ¬ ((1 : Int32) < 0 ∨ c10.slots.size ≤ ((1 : Int32)).toNatClampNeg) := inb_of s10 ⟨by decide, by decide⟩
  have hat10 : c10.slots[((1 : Int32)).toNatClampNeg]? = some (.ref w_REMOVED) := Has.at y10 hin10 rfl
  have f11 : Fld Z h1 w_REMOVED "com/example/fawley/fawley/store/Change$Kind" "code" "B" (.int (2 : Int32)) := P5.ext f7.2
  obtain ⟨T12, X12, e12, st12⟩ := getF X9 hx hZ hown (host := "") (Or.inl (hw _ (List.mem_of_getElem? (i := 34) rfl))) Via.refl e9 f11 (g := (mkF m 21 #[.val (.int (9 : Int32)), .val (.ref nb2_1), .val (.int (9 : Int32)), .val (.int (1 : Int32)), .val (.ref w_REMOVED)] [(.ref w_REMOVED)])) rfl rfl (hb hby d3_21)
  obtain ⟨c13, r13, q13, s13, z13, y13, G13⟩ := id g1_0
  have hin13 : ¬ ((2 : Int32) < 0 ∨ c13.slots.size ≤ ((2 : Int32)).toNatClampNeg) := inb_of s13 ⟨by decide, by decide⟩
  have hat13 : c13.slots[((2 : Int32)).toNatClampNeg]? = some (.ref w_WATCHED) := Has.at y13 hin13 rfl
  have f14 : Fld Z h1 w_WATCHED "com/example/fawley/fawley/store/Change$Kind" "code" "B" (.int (3 : Int32)) := P8.ext f7.2
  obtain ⟨T15, X15, e15, st15⟩ := getF X12 hx hZ hown (host := "") (Or.inl (hw _ (List.mem_of_getElem? (i := 34) rfl))) Via.refl e12 f14 (g := (mkF m 21 #[.val (.int (9 : Int32)), .val (.ref nb2_1), .val (.int (9 : Int32)), .val (.int (2 : Int32)), .val (.ref w_WATCHED)] [(.ref w_WATCHED)])) rfl rfl (hb hby d3_21)
  obtain ⟨c16, r16, q16, s16, z16, y16, G16⟩ := id g1_0
  have hin16 : ¬ ((3 : Int32) < 0 ∨ c16.slots.size ≤ ((3 : Int32)).toNatClampNeg) := inb_of s16 ⟨by decide, by decide⟩
  have hat16 : c16.slots[((3 : Int32)).toNatClampNeg]? = some (.ref w_UNWATCHED) := Has.at y16 hin16 rfl
  have f17 : Fld Z h1 w_UNWATCHED "com/example/fawley/fawley/store/Change$Kind" "code" "B" (.int (4 : Int32)) := P11.ext f7.2
  obtain ⟨T18, X18, e18, st18⟩ := getF X15 hx hZ hown (host := "") (Or.inl (hw _ (List.mem_of_getElem? (i := 34) rfl))) Via.refl e15 f17 (g := (mkF m 21 #[.val (.int (9 : Int32)), .val (.ref nb2_1), .val (.int (9 : Int32)), .val (.int (3 : Int32)), .val (.ref w_UNWATCHED)] [(.ref w_UNWATCHED)])) rfl rfl (hb hby d3_21)
  obtain ⟨c19, r19, q19, s19, z19, y19, G19⟩ := id g1_0
  have hin19 : ¬ ((4 : Int32) < 0 ∨ c19.slots.size ≤ ((4 : Int32)).toNatClampNeg) := inb_of s19 ⟨by decide, by decide⟩
  have hat19 : c19.slots[((4 : Int32)).toNatClampNeg]? = some (.ref w_UNWATCHED_ALL) := Has.at y19 hin19 rfl
  have f20 : Fld Z h1 w_UNWATCHED_ALL "com/example/fawley/fawley/store/Change$Kind" "code" "B" (.int (5 : Int32)) := P14.ext f7.2
  obtain ⟨T21, X21, e21, st21⟩ := getF X18 hx hZ hown (host := "") (Or.inl (hw _ (List.mem_of_getElem? (i := 34) rfl))) Via.refl e18 f20 (g := (mkF m 21 #[.val (.int (9 : Int32)), .val (.ref nb2_1), .val (.int (9 : Int32)), .val (.int (4 : Int32)), .val (.ref w_UNWATCHED_ALL)] [(.ref w_UNWATCHED_ALL)])) rfl rfl (hb hby d3_21)
  obtain ⟨c22, r22, q22, s22, z22, y22, G22⟩ := id g1_0
  have hin22 : ¬ ((5 : Int32) < 0 ∨ c22.slots.size ≤ ((5 : Int32)).toNatClampNeg) := inb_of s22 ⟨by decide, by decide⟩
  have hat22 : c22.slots[((5 : Int32)).toNatClampNeg]? = some (.ref w_CLOCK_READING) := Has.at y22 hin22 rfl
  have f23 : Fld Z h1 w_CLOCK_READING "com/example/fawley/fawley/store/Change$Kind" "code" "B" (.int (6 : Int32)) := P17.ext f7.2
  obtain ⟨T24, X24, e24, st24⟩ := getF X21 hx hZ hown (host := "") (Or.inl (hw _ (List.mem_of_getElem? (i := 34) rfl))) Via.refl e21 f23 (g := (mkF m 21 #[.val (.int (9 : Int32)), .val (.ref nb2_1), .val (.int (9 : Int32)), .val (.int (5 : Int32)), .val (.ref w_CLOCK_READING)] [(.ref w_CLOCK_READING)])) rfl rfl (hb hby d3_21)
  obtain ⟨c25, r25, q25, s25, z25, y25, G25⟩ := id g1_0
  have hin25 : ¬ ((6 : Int32) < 0 ∨ c25.slots.size ≤ ((6 : Int32)).toNatClampNeg) := inb_of s25 ⟨by decide, by decide⟩
  have hat25 : c25.slots[((6 : Int32)).toNatClampNeg]? = some (.ref w_ANSWERED) := Has.at y25 hin25 rfl
  have f26 : Fld Z h1 w_ANSWERED "com/example/fawley/fawley/store/Change$Kind" "code" "B" (.int (7 : Int32)) := P20.ext f7.2
  obtain ⟨T27, X27, e27, st27⟩ := getF X24 hx hZ hown (host := "") (Or.inl (hw _ (List.mem_of_getElem? (i := 34) rfl))) Via.refl e24 f26 (g := (mkF m 21 #[.val (.int (9 : Int32)), .val (.ref nb2_1), .val (.int (9 : Int32)), .val (.int (6 : Int32)), .val (.ref w_ANSWERED)] [(.ref w_ANSWERED)])) rfl rfl (hb hby d3_21)
  obtain ⟨c28, r28, q28, s28, z28, y28, G28⟩ := id g1_0
  have hin28 : ¬ ((7 : Int32) < 0 ∨ c28.slots.size ≤ ((7 : Int32)).toNatClampNeg) := inb_of s28 ⟨by decide, by decide⟩
  have hat28 : c28.slots[((7 : Int32)).toNatClampNeg]? = some (.ref w_UNDELIVERED) := Has.at y28 hin28 rfl
  have f29 : Fld Z h1 w_UNDELIVERED "com/example/fawley/fawley/store/Change$Kind" "code" "B" (.int (8 : Int32)) := P23.ext f7.2
  obtain ⟨T30, X30, e30, st30⟩ := getF X27 hx hZ hown (host := "") (Or.inl (hw _ (List.mem_of_getElem? (i := 34) rfl))) Via.refl e27 f29 (g := (mkF m 21 #[.val (.int (9 : Int32)), .val (.ref nb2_1), .val (.int (9 : Int32)), .val (.int (7 : Int32)), .val (.ref w_UNDELIVERED)] [(.ref w_UNDELIVERED)])) rfl rfl (hb hby d3_21)
  obtain ⟨c31, r31, q31, s31, z31, y31, G31⟩ := id g1_0
  have hin31 : ¬ ((8 : Int32) < 0 ∨ c31.slots.size ≤ ((8 : Int32)).toNatClampNeg) := inb_of s31 ⟨by decide, by decide⟩
  have hat31 : c31.slots[((8 : Int32)).toNatClampNeg]? = some (.ref w_DELIVERED) := Has.at y31 hin31 rfl
  have f32 : Fld Z h1 w_DELIVERED "com/example/fawley/fawley/store/Change$Kind" "code" "B" (.int (9 : Int32)) := P26.ext f7.2
  obtain ⟨T33, X33, e33, st33⟩ := getF X30 hx hZ hown (host := "") (Or.inl (hw _ (List.mem_of_getElem? (i := 34) rfl))) Via.refl e30 f32 (g := (mkF m 21 #[.val (.int (9 : Int32)), .val (.ref nb2_1), .val (.int (9 : Int32)), .val (.int (8 : Int32)), .val (.ref w_DELIVERED)] [(.ref w_DELIVERED)])) rfl rfl (hb hby d3_21)
  have pre34 : ∀ t, Steps p.tables e below (T33.setTop (mkF m 30 #[.val (.int (9 : Int32)), .val (.ref nb2_1), .val (.int (9 : Int32)), .val (.int (8 : Int32)), .val (.ref w_DELIVERED)] [(.ref w_DELIVERED)])) t → Steps p.tables e below (s₁.setTop (entryFrame m #[(.int (9 : Int32))] 5)) t := by
    intro t kt
    refine pre0 t ?_
    show Steps p.tables e below (s₁.setTop (mkF m 0 #[.val (.int (9 : Int32)), .unset, .unset, .unset, .unset] [])) _
    refine st1 _ ?_
    show Steps p.tables e below (T1.setTop (mkF m 3 #[.val (.int (9 : Int32)), .unset, .unset, .unset, .unset] [(.ref nb2_1)])) _
    refine XS.astoreN X1.here hx rfl (hb hby d3_3) rfl rfl (l' := #[.val (.int (9 : Int32)), .val (.ref nb2_1), .unset, .unset, .unset]) rfl ?_
    show Steps p.tables e below (T1.setTop (mkF m 4 #[.val (.int (9 : Int32)), .val (.ref nb2_1), .unset, .unset, .unset] [])) _
    refine XS.aloadN X1.here hx rfl (hb hby d3_4) rfl rfl ?_
    show Steps p.tables e below (T1.setTop (mkF m 5 #[.val (.int (9 : Int32)), .val (.ref nb2_1), .unset, .unset, .unset] [(.ref nb2_1)])) _
    refine X1.arraylength hx (by rw [e1]; exact r5.1) (State.isArrayOf_alike hZ.alike r5.2.1) (g := (mkF m 5 #[.val (.int (9 : Int32)), .val (.ref nb2_1), .unset, .unset, .unset] [(.ref nb2_1)])) rfl rfl (hb hby d3_5) _ ?_
    rw [len_of s5 z5]
    show Steps p.tables e below (T1.setTop (mkF m 6 #[.val (.int (9 : Int32)), .val (.ref nb2_1), .unset, .unset, .unset] [(.int (9 : Int32))])) _
    refine XS.istoreN X1.here hx rfl (hb hby d3_6) rfl (l' := #[.val (.int (9 : Int32)), .val (.ref nb2_1), .val (.int (9 : Int32)), .unset, .unset]) rfl ?_
    show Steps p.tables e below (T1.setTop (mkF m 7 #[.val (.int (9 : Int32)), .val (.ref nb2_1), .val (.int (9 : Int32)), .unset, .unset] [])) _
    refine XS.iconst X1.here hx rfl (hb hby d3_7) ?_
    show Steps p.tables e below (T1.setTop (mkF m 8 #[.val (.int (9 : Int32)), .val (.ref nb2_1), .val (.int (9 : Int32)), .unset, .unset] [(.int (0 : Int32))])) _
    refine XS.istoreN X1.here hx rfl (hb hby d3_8) rfl (l' := #[.val (.int (9 : Int32)), .val (.ref nb2_1), .val (.int (9 : Int32)), .val (.int (0 : Int32)), .unset]) rfl ?_
    show Steps p.tables e below (T1.setTop (mkF m 9 #[.val (.int (9 : Int32)), .val (.ref nb2_1), .val (.int (9 : Int32)), .val (.int (0 : Int32)), .unset] [])) _
    refine XS.iloadN X1.here hx rfl (hb hby d3_9) rfl ?_
    show Steps p.tables e below (T1.setTop (mkF m 10 #[.val (.int (9 : Int32)), .val (.ref nb2_1), .val (.int (9 : Int32)), .val (.int (0 : Int32)), .unset] [(.int (0 : Int32))])) _
    refine XS.iloadN X1.here hx rfl (hb hby d3_10) rfl ?_
    show Steps p.tables e below (T1.setTop (mkF m 11 #[.val (.int (9 : Int32)), .val (.ref nb2_1), .val (.int (9 : Int32)), .val (.int (0 : Int32)), .unset] [(.int (9 : Int32)), (.int (0 : Int32))])) _
    refine XS.icmpNo X1.here hx rfl (hb hby d3_11) rfl (tlt (by decide : (0 : Int32) < (9 : Int32))).2.1 ?_
    show Steps p.tables e below (T1.setTop (mkF m 14 #[.val (.int (9 : Int32)), .val (.ref nb2_1), .val (.int (9 : Int32)), .val (.int (0 : Int32)), .unset] [])) _
    refine XS.aloadN X1.here hx rfl (hb hby d3_14) rfl rfl ?_
    show Steps p.tables e below (T1.setTop (mkF m 15 #[.val (.int (9 : Int32)), .val (.ref nb2_1), .val (.int (9 : Int32)), .val (.int (0 : Int32)), .unset] [(.ref nb2_1)])) _
    refine XS.iloadN X1.here hx rfl (hb hby d3_15) rfl ?_
    show Steps p.tables e below (T1.setTop (mkF m 16 #[.val (.int (9 : Int32)), .val (.ref nb2_1), .val (.int (9 : Int32)), .val (.int (0 : Int32)), .unset] [(.int (0 : Int32)), (.ref nb2_1)])) _
    refine X1.aaload hx (j := (0 : Int32)) (v := (.ref w_STORED)) (by rw [e1]; exact r6.1) (State.isArrayOf_alike hZ.alike r6.2.1) rfl r6.2.2 hin6 hat6 (g := (mkF m 16 #[.val (.int (9 : Int32)), .val (.ref nb2_1), .val (.int (9 : Int32)), .val (.int (0 : Int32)), .unset] [(.int (0 : Int32)), (.ref nb2_1)])) rfl rfl (hb hby d3_16) _ ?_
    show Steps p.tables e below (T1.setTop (mkF m 17 #[.val (.int (9 : Int32)), .val (.ref nb2_1), .val (.int (9 : Int32)), .val (.int (0 : Int32)), .unset] [(.ref w_STORED)])) _
    refine XS.astore X1.here hx rfl (hb hby d3_17) rfl rfl (l' := #[.val (.int (9 : Int32)), .val (.ref nb2_1), .val (.int (9 : Int32)), .val (.int (0 : Int32)), .val (.ref w_STORED)]) rfl ?_
    show Steps p.tables e below (T1.setTop (mkF m 19 #[.val (.int (9 : Int32)), .val (.ref nb2_1), .val (.int (9 : Int32)), .val (.int (0 : Int32)), .val (.ref w_STORED)] [])) _
    refine XS.aload X1.here hx rfl (hb hby d3_19) rfl rfl ?_
    show Steps p.tables e below (T1.setTop (mkF m 21 #[.val (.int (9 : Int32)), .val (.ref nb2_1), .val (.int (9 : Int32)), .val (.int (0 : Int32)), .val (.ref w_STORED)] [(.ref w_STORED)])) _
    refine st9 _ ?_
    show Steps p.tables e below (T9.setTop (mkF m 24 #[.val (.int (9 : Int32)), .val (.ref nb2_1), .val (.int (9 : Int32)), .val (.int (0 : Int32)), .val (.ref w_STORED)] [(.int (1 : Int32))])) _
    refine XS.iloadN X9.here hx rfl (hb hby d3_24) rfl ?_
    show Steps p.tables e below (T9.setTop (mkF m 25 #[.val (.int (9 : Int32)), .val (.ref nb2_1), .val (.int (9 : Int32)), .val (.int (0 : Int32)), .val (.ref w_STORED)] [(.int (9 : Int32)), (.int (1 : Int32))])) _
    refine XS.icmpYes X9.here hx rfl (pc0 := 25) (pc' := 31) rfl (hb hby d3_25) rfl (feq (by decide : ¬ ((1 : Int32) = (9 : Int32)))).2 (by decide) (by decide) ?_
    show Steps p.tables e below (T9.setTop (mkF m 31 #[.val (.int (9 : Int32)), .val (.ref nb2_1), .val (.int (9 : Int32)), .val (.int (0 : Int32)), .val (.ref w_STORED)] [])) _
    refine XS.iinc X9.here hx rfl (hb hby d3_31) rfl (l' := #[.val (.int (9 : Int32)), .val (.ref nb2_1), .val (.int (9 : Int32)), .val (.int (1 : Int32)), .val (.ref w_STORED)]) rfl ?_
    show Steps p.tables e below (T9.setTop (mkF m 34 #[.val (.int (9 : Int32)), .val (.ref nb2_1), .val (.int (9 : Int32)), .val (.int (1 : Int32)), .val (.ref w_STORED)] [])) _
    refine XS.goto X9.here hx rfl (pc0 := 34) (pc' := 9) rfl (hb hby d3_34) (by decide) (by decide) ?_
    show Steps p.tables e below (T9.setTop (mkF m 9 #[.val (.int (9 : Int32)), .val (.ref nb2_1), .val (.int (9 : Int32)), .val (.int (1 : Int32)), .val (.ref w_STORED)] [])) _
    refine XS.iloadN X9.here hx rfl (hb hby d3_9) rfl ?_
    show Steps p.tables e below (T9.setTop (mkF m 10 #[.val (.int (9 : Int32)), .val (.ref nb2_1), .val (.int (9 : Int32)), .val (.int (1 : Int32)), .val (.ref w_STORED)] [(.int (1 : Int32))])) _
    refine XS.iloadN X9.here hx rfl (hb hby d3_10) rfl ?_
    show Steps p.tables e below (T9.setTop (mkF m 11 #[.val (.int (9 : Int32)), .val (.ref nb2_1), .val (.int (9 : Int32)), .val (.int (1 : Int32)), .val (.ref w_STORED)] [(.int (9 : Int32)), (.int (1 : Int32))])) _
    refine XS.icmpNo X9.here hx rfl (hb hby d3_11) rfl (tlt (by decide : (1 : Int32) < (9 : Int32))).2.1 ?_
    show Steps p.tables e below (T9.setTop (mkF m 14 #[.val (.int (9 : Int32)), .val (.ref nb2_1), .val (.int (9 : Int32)), .val (.int (1 : Int32)), .val (.ref w_STORED)] [])) _
    refine XS.aloadN X9.here hx rfl (hb hby d3_14) rfl rfl ?_
    show Steps p.tables e below (T9.setTop (mkF m 15 #[.val (.int (9 : Int32)), .val (.ref nb2_1), .val (.int (9 : Int32)), .val (.int (1 : Int32)), .val (.ref w_STORED)] [(.ref nb2_1)])) _
    refine XS.iloadN X9.here hx rfl (hb hby d3_15) rfl ?_
    show Steps p.tables e below (T9.setTop (mkF m 16 #[.val (.int (9 : Int32)), .val (.ref nb2_1), .val (.int (9 : Int32)), .val (.int (1 : Int32)), .val (.ref w_STORED)] [(.int (1 : Int32)), (.ref nb2_1)])) _
    refine X9.aaload hx (j := (1 : Int32)) (v := (.ref w_REMOVED)) (by rw [e9]; exact r10.1) (State.isArrayOf_alike hZ.alike r10.2.1) rfl r10.2.2 hin10 hat10 (g := (mkF m 16 #[.val (.int (9 : Int32)), .val (.ref nb2_1), .val (.int (9 : Int32)), .val (.int (1 : Int32)), .val (.ref w_STORED)] [(.int (1 : Int32)), (.ref nb2_1)])) rfl rfl (hb hby d3_16) _ ?_
    show Steps p.tables e below (T9.setTop (mkF m 17 #[.val (.int (9 : Int32)), .val (.ref nb2_1), .val (.int (9 : Int32)), .val (.int (1 : Int32)), .val (.ref w_STORED)] [(.ref w_REMOVED)])) _
    refine XS.astore X9.here hx rfl (hb hby d3_17) rfl rfl (l' := #[.val (.int (9 : Int32)), .val (.ref nb2_1), .val (.int (9 : Int32)), .val (.int (1 : Int32)), .val (.ref w_REMOVED)]) rfl ?_
    show Steps p.tables e below (T9.setTop (mkF m 19 #[.val (.int (9 : Int32)), .val (.ref nb2_1), .val (.int (9 : Int32)), .val (.int (1 : Int32)), .val (.ref w_REMOVED)] [])) _
    refine XS.aload X9.here hx rfl (hb hby d3_19) rfl rfl ?_
    show Steps p.tables e below (T9.setTop (mkF m 21 #[.val (.int (9 : Int32)), .val (.ref nb2_1), .val (.int (9 : Int32)), .val (.int (1 : Int32)), .val (.ref w_REMOVED)] [(.ref w_REMOVED)])) _
    refine st12 _ ?_
    show Steps p.tables e below (T12.setTop (mkF m 24 #[.val (.int (9 : Int32)), .val (.ref nb2_1), .val (.int (9 : Int32)), .val (.int (1 : Int32)), .val (.ref w_REMOVED)] [(.int (2 : Int32))])) _
    refine XS.iloadN X12.here hx rfl (hb hby d3_24) rfl ?_
    show Steps p.tables e below (T12.setTop (mkF m 25 #[.val (.int (9 : Int32)), .val (.ref nb2_1), .val (.int (9 : Int32)), .val (.int (1 : Int32)), .val (.ref w_REMOVED)] [(.int (9 : Int32)), (.int (2 : Int32))])) _
    refine XS.icmpYes X12.here hx rfl (pc0 := 25) (pc' := 31) rfl (hb hby d3_25) rfl (feq (by decide : ¬ ((2 : Int32) = (9 : Int32)))).2 (by decide) (by decide) ?_
    show Steps p.tables e below (T12.setTop (mkF m 31 #[.val (.int (9 : Int32)), .val (.ref nb2_1), .val (.int (9 : Int32)), .val (.int (1 : Int32)), .val (.ref w_REMOVED)] [])) _
    refine XS.iinc X12.here hx rfl (hb hby d3_31) rfl (l' := #[.val (.int (9 : Int32)), .val (.ref nb2_1), .val (.int (9 : Int32)), .val (.int (2 : Int32)), .val (.ref w_REMOVED)]) rfl ?_
    show Steps p.tables e below (T12.setTop (mkF m 34 #[.val (.int (9 : Int32)), .val (.ref nb2_1), .val (.int (9 : Int32)), .val (.int (2 : Int32)), .val (.ref w_REMOVED)] [])) _
    refine XS.goto X12.here hx rfl (pc0 := 34) (pc' := 9) rfl (hb hby d3_34) (by decide) (by decide) ?_
    show Steps p.tables e below (T12.setTop (mkF m 9 #[.val (.int (9 : Int32)), .val (.ref nb2_1), .val (.int (9 : Int32)), .val (.int (2 : Int32)), .val (.ref w_REMOVED)] [])) _
    refine XS.iloadN X12.here hx rfl (hb hby d3_9) rfl ?_
    show Steps p.tables e below (T12.setTop (mkF m 10 #[.val (.int (9 : Int32)), .val (.ref nb2_1), .val (.int (9 : Int32)), .val (.int (2 : Int32)), .val (.ref w_REMOVED)] [(.int (2 : Int32))])) _
    refine XS.iloadN X12.here hx rfl (hb hby d3_10) rfl ?_
    show Steps p.tables e below (T12.setTop (mkF m 11 #[.val (.int (9 : Int32)), .val (.ref nb2_1), .val (.int (9 : Int32)), .val (.int (2 : Int32)), .val (.ref w_REMOVED)] [(.int (9 : Int32)), (.int (2 : Int32))])) _
    refine XS.icmpNo X12.here hx rfl (hb hby d3_11) rfl (tlt (by decide : (2 : Int32) < (9 : Int32))).2.1 ?_
    show Steps p.tables e below (T12.setTop (mkF m 14 #[.val (.int (9 : Int32)), .val (.ref nb2_1), .val (.int (9 : Int32)), .val (.int (2 : Int32)), .val (.ref w_REMOVED)] [])) _
    refine XS.aloadN X12.here hx rfl (hb hby d3_14) rfl rfl ?_
    show Steps p.tables e below (T12.setTop (mkF m 15 #[.val (.int (9 : Int32)), .val (.ref nb2_1), .val (.int (9 : Int32)), .val (.int (2 : Int32)), .val (.ref w_REMOVED)] [(.ref nb2_1)])) _
    refine XS.iloadN X12.here hx rfl (hb hby d3_15) rfl ?_
    show Steps p.tables e below (T12.setTop (mkF m 16 #[.val (.int (9 : Int32)), .val (.ref nb2_1), .val (.int (9 : Int32)), .val (.int (2 : Int32)), .val (.ref w_REMOVED)] [(.int (2 : Int32)), (.ref nb2_1)])) _
    refine X12.aaload hx (j := (2 : Int32)) (v := (.ref w_WATCHED)) (by rw [e12]; exact r13.1) (State.isArrayOf_alike hZ.alike r13.2.1) rfl r13.2.2 hin13 hat13 (g := (mkF m 16 #[.val (.int (9 : Int32)), .val (.ref nb2_1), .val (.int (9 : Int32)), .val (.int (2 : Int32)), .val (.ref w_REMOVED)] [(.int (2 : Int32)), (.ref nb2_1)])) rfl rfl (hb hby d3_16) _ ?_
    show Steps p.tables e below (T12.setTop (mkF m 17 #[.val (.int (9 : Int32)), .val (.ref nb2_1), .val (.int (9 : Int32)), .val (.int (2 : Int32)), .val (.ref w_REMOVED)] [(.ref w_WATCHED)])) _
    refine XS.astore X12.here hx rfl (hb hby d3_17) rfl rfl (l' := #[.val (.int (9 : Int32)), .val (.ref nb2_1), .val (.int (9 : Int32)), .val (.int (2 : Int32)), .val (.ref w_WATCHED)]) rfl ?_
    show Steps p.tables e below (T12.setTop (mkF m 19 #[.val (.int (9 : Int32)), .val (.ref nb2_1), .val (.int (9 : Int32)), .val (.int (2 : Int32)), .val (.ref w_WATCHED)] [])) _
    refine XS.aload X12.here hx rfl (hb hby d3_19) rfl rfl ?_
    show Steps p.tables e below (T12.setTop (mkF m 21 #[.val (.int (9 : Int32)), .val (.ref nb2_1), .val (.int (9 : Int32)), .val (.int (2 : Int32)), .val (.ref w_WATCHED)] [(.ref w_WATCHED)])) _
    refine st15 _ ?_
    show Steps p.tables e below (T15.setTop (mkF m 24 #[.val (.int (9 : Int32)), .val (.ref nb2_1), .val (.int (9 : Int32)), .val (.int (2 : Int32)), .val (.ref w_WATCHED)] [(.int (3 : Int32))])) _
    refine XS.iloadN X15.here hx rfl (hb hby d3_24) rfl ?_
    show Steps p.tables e below (T15.setTop (mkF m 25 #[.val (.int (9 : Int32)), .val (.ref nb2_1), .val (.int (9 : Int32)), .val (.int (2 : Int32)), .val (.ref w_WATCHED)] [(.int (9 : Int32)), (.int (3 : Int32))])) _
    refine XS.icmpYes X15.here hx rfl (pc0 := 25) (pc' := 31) rfl (hb hby d3_25) rfl (feq (by decide : ¬ ((3 : Int32) = (9 : Int32)))).2 (by decide) (by decide) ?_
    show Steps p.tables e below (T15.setTop (mkF m 31 #[.val (.int (9 : Int32)), .val (.ref nb2_1), .val (.int (9 : Int32)), .val (.int (2 : Int32)), .val (.ref w_WATCHED)] [])) _
    refine XS.iinc X15.here hx rfl (hb hby d3_31) rfl (l' := #[.val (.int (9 : Int32)), .val (.ref nb2_1), .val (.int (9 : Int32)), .val (.int (3 : Int32)), .val (.ref w_WATCHED)]) rfl ?_
    show Steps p.tables e below (T15.setTop (mkF m 34 #[.val (.int (9 : Int32)), .val (.ref nb2_1), .val (.int (9 : Int32)), .val (.int (3 : Int32)), .val (.ref w_WATCHED)] [])) _
    refine XS.goto X15.here hx rfl (pc0 := 34) (pc' := 9) rfl (hb hby d3_34) (by decide) (by decide) ?_
    show Steps p.tables e below (T15.setTop (mkF m 9 #[.val (.int (9 : Int32)), .val (.ref nb2_1), .val (.int (9 : Int32)), .val (.int (3 : Int32)), .val (.ref w_WATCHED)] [])) _
    refine XS.iloadN X15.here hx rfl (hb hby d3_9) rfl ?_
    show Steps p.tables e below (T15.setTop (mkF m 10 #[.val (.int (9 : Int32)), .val (.ref nb2_1), .val (.int (9 : Int32)), .val (.int (3 : Int32)), .val (.ref w_WATCHED)] [(.int (3 : Int32))])) _
    refine XS.iloadN X15.here hx rfl (hb hby d3_10) rfl ?_
    show Steps p.tables e below (T15.setTop (mkF m 11 #[.val (.int (9 : Int32)), .val (.ref nb2_1), .val (.int (9 : Int32)), .val (.int (3 : Int32)), .val (.ref w_WATCHED)] [(.int (9 : Int32)), (.int (3 : Int32))])) _
    refine XS.icmpNo X15.here hx rfl (hb hby d3_11) rfl (tlt (by decide : (3 : Int32) < (9 : Int32))).2.1 ?_
    show Steps p.tables e below (T15.setTop (mkF m 14 #[.val (.int (9 : Int32)), .val (.ref nb2_1), .val (.int (9 : Int32)), .val (.int (3 : Int32)), .val (.ref w_WATCHED)] [])) _
    refine XS.aloadN X15.here hx rfl (hb hby d3_14) rfl rfl ?_
    show Steps p.tables e below (T15.setTop (mkF m 15 #[.val (.int (9 : Int32)), .val (.ref nb2_1), .val (.int (9 : Int32)), .val (.int (3 : Int32)), .val (.ref w_WATCHED)] [(.ref nb2_1)])) _
    refine XS.iloadN X15.here hx rfl (hb hby d3_15) rfl ?_
    show Steps p.tables e below (T15.setTop (mkF m 16 #[.val (.int (9 : Int32)), .val (.ref nb2_1), .val (.int (9 : Int32)), .val (.int (3 : Int32)), .val (.ref w_WATCHED)] [(.int (3 : Int32)), (.ref nb2_1)])) _
    refine X15.aaload hx (j := (3 : Int32)) (v := (.ref w_UNWATCHED)) (by rw [e15]; exact r16.1) (State.isArrayOf_alike hZ.alike r16.2.1) rfl r16.2.2 hin16 hat16 (g := (mkF m 16 #[.val (.int (9 : Int32)), .val (.ref nb2_1), .val (.int (9 : Int32)), .val (.int (3 : Int32)), .val (.ref w_WATCHED)] [(.int (3 : Int32)), (.ref nb2_1)])) rfl rfl (hb hby d3_16) _ ?_
    show Steps p.tables e below (T15.setTop (mkF m 17 #[.val (.int (9 : Int32)), .val (.ref nb2_1), .val (.int (9 : Int32)), .val (.int (3 : Int32)), .val (.ref w_WATCHED)] [(.ref w_UNWATCHED)])) _
    refine XS.astore X15.here hx rfl (hb hby d3_17) rfl rfl (l' := #[.val (.int (9 : Int32)), .val (.ref nb2_1), .val (.int (9 : Int32)), .val (.int (3 : Int32)), .val (.ref w_UNWATCHED)]) rfl ?_
    show Steps p.tables e below (T15.setTop (mkF m 19 #[.val (.int (9 : Int32)), .val (.ref nb2_1), .val (.int (9 : Int32)), .val (.int (3 : Int32)), .val (.ref w_UNWATCHED)] [])) _
    refine XS.aload X15.here hx rfl (hb hby d3_19) rfl rfl ?_
    show Steps p.tables e below (T15.setTop (mkF m 21 #[.val (.int (9 : Int32)), .val (.ref nb2_1), .val (.int (9 : Int32)), .val (.int (3 : Int32)), .val (.ref w_UNWATCHED)] [(.ref w_UNWATCHED)])) _
    refine st18 _ ?_
    show Steps p.tables e below (T18.setTop (mkF m 24 #[.val (.int (9 : Int32)), .val (.ref nb2_1), .val (.int (9 : Int32)), .val (.int (3 : Int32)), .val (.ref w_UNWATCHED)] [(.int (4 : Int32))])) _
    refine XS.iloadN X18.here hx rfl (hb hby d3_24) rfl ?_
    show Steps p.tables e below (T18.setTop (mkF m 25 #[.val (.int (9 : Int32)), .val (.ref nb2_1), .val (.int (9 : Int32)), .val (.int (3 : Int32)), .val (.ref w_UNWATCHED)] [(.int (9 : Int32)), (.int (4 : Int32))])) _
    refine XS.icmpYes X18.here hx rfl (pc0 := 25) (pc' := 31) rfl (hb hby d3_25) rfl (feq (by decide : ¬ ((4 : Int32) = (9 : Int32)))).2 (by decide) (by decide) ?_
    show Steps p.tables e below (T18.setTop (mkF m 31 #[.val (.int (9 : Int32)), .val (.ref nb2_1), .val (.int (9 : Int32)), .val (.int (3 : Int32)), .val (.ref w_UNWATCHED)] [])) _
    refine XS.iinc X18.here hx rfl (hb hby d3_31) rfl (l' := #[.val (.int (9 : Int32)), .val (.ref nb2_1), .val (.int (9 : Int32)), .val (.int (4 : Int32)), .val (.ref w_UNWATCHED)]) rfl ?_
    show Steps p.tables e below (T18.setTop (mkF m 34 #[.val (.int (9 : Int32)), .val (.ref nb2_1), .val (.int (9 : Int32)), .val (.int (4 : Int32)), .val (.ref w_UNWATCHED)] [])) _
    refine XS.goto X18.here hx rfl (pc0 := 34) (pc' := 9) rfl (hb hby d3_34) (by decide) (by decide) ?_
    show Steps p.tables e below (T18.setTop (mkF m 9 #[.val (.int (9 : Int32)), .val (.ref nb2_1), .val (.int (9 : Int32)), .val (.int (4 : Int32)), .val (.ref w_UNWATCHED)] [])) _
    refine XS.iloadN X18.here hx rfl (hb hby d3_9) rfl ?_
    show Steps p.tables e below (T18.setTop (mkF m 10 #[.val (.int (9 : Int32)), .val (.ref nb2_1), .val (.int (9 : Int32)), .val (.int (4 : Int32)), .val (.ref w_UNWATCHED)] [(.int (4 : Int32))])) _
    refine XS.iloadN X18.here hx rfl (hb hby d3_10) rfl ?_
    show Steps p.tables e below (T18.setTop (mkF m 11 #[.val (.int (9 : Int32)), .val (.ref nb2_1), .val (.int (9 : Int32)), .val (.int (4 : Int32)), .val (.ref w_UNWATCHED)] [(.int (9 : Int32)), (.int (4 : Int32))])) _
    refine XS.icmpNo X18.here hx rfl (hb hby d3_11) rfl (tlt (by decide : (4 : Int32) < (9 : Int32))).2.1 ?_
    show Steps p.tables e below (T18.setTop (mkF m 14 #[.val (.int (9 : Int32)), .val (.ref nb2_1), .val (.int (9 : Int32)), .val (.int (4 : Int32)), .val (.ref w_UNWATCHED)] [])) _
    refine XS.aloadN X18.here hx rfl (hb hby d3_14) rfl rfl ?_
    show Steps p.tables e below (T18.setTop (mkF m 15 #[.val (.int (9 : Int32)), .val (.ref nb2_1), .val (.int (9 : Int32)), .val (.int (4 : Int32)), .val (.ref w_UNWATCHED)] [(.ref nb2_1)])) _
    refine XS.iloadN X18.here hx rfl (hb hby d3_15) rfl ?_
    show Steps p.tables e below (T18.setTop (mkF m 16 #[.val (.int (9 : Int32)), .val (.ref nb2_1), .val (.int (9 : Int32)), .val (.int (4 : Int32)), .val (.ref w_UNWATCHED)] [(.int (4 : Int32)), (.ref nb2_1)])) _
    refine X18.aaload hx (j := (4 : Int32)) (v := (.ref w_UNWATCHED_ALL)) (by rw [e18]; exact r19.1) (State.isArrayOf_alike hZ.alike r19.2.1) rfl r19.2.2 hin19 hat19 (g := (mkF m 16 #[.val (.int (9 : Int32)), .val (.ref nb2_1), .val (.int (9 : Int32)), .val (.int (4 : Int32)), .val (.ref w_UNWATCHED)] [(.int (4 : Int32)), (.ref nb2_1)])) rfl rfl (hb hby d3_16) _ ?_
    show Steps p.tables e below (T18.setTop (mkF m 17 #[.val (.int (9 : Int32)), .val (.ref nb2_1), .val (.int (9 : Int32)), .val (.int (4 : Int32)), .val (.ref w_UNWATCHED)] [(.ref w_UNWATCHED_ALL)])) _
    refine XS.astore X18.here hx rfl (hb hby d3_17) rfl rfl (l' := #[.val (.int (9 : Int32)), .val (.ref nb2_1), .val (.int (9 : Int32)), .val (.int (4 : Int32)), .val (.ref w_UNWATCHED_ALL)]) rfl ?_
    show Steps p.tables e below (T18.setTop (mkF m 19 #[.val (.int (9 : Int32)), .val (.ref nb2_1), .val (.int (9 : Int32)), .val (.int (4 : Int32)), .val (.ref w_UNWATCHED_ALL)] [])) _
    refine XS.aload X18.here hx rfl (hb hby d3_19) rfl rfl ?_
    show Steps p.tables e below (T18.setTop (mkF m 21 #[.val (.int (9 : Int32)), .val (.ref nb2_1), .val (.int (9 : Int32)), .val (.int (4 : Int32)), .val (.ref w_UNWATCHED_ALL)] [(.ref w_UNWATCHED_ALL)])) _
    refine st21 _ ?_
    show Steps p.tables e below (T21.setTop (mkF m 24 #[.val (.int (9 : Int32)), .val (.ref nb2_1), .val (.int (9 : Int32)), .val (.int (4 : Int32)), .val (.ref w_UNWATCHED_ALL)] [(.int (5 : Int32))])) _
    refine XS.iloadN X21.here hx rfl (hb hby d3_24) rfl ?_
    show Steps p.tables e below (T21.setTop (mkF m 25 #[.val (.int (9 : Int32)), .val (.ref nb2_1), .val (.int (9 : Int32)), .val (.int (4 : Int32)), .val (.ref w_UNWATCHED_ALL)] [(.int (9 : Int32)), (.int (5 : Int32))])) _
    refine XS.icmpYes X21.here hx rfl (pc0 := 25) (pc' := 31) rfl (hb hby d3_25) rfl (feq (by decide : ¬ ((5 : Int32) = (9 : Int32)))).2 (by decide) (by decide) ?_
    show Steps p.tables e below (T21.setTop (mkF m 31 #[.val (.int (9 : Int32)), .val (.ref nb2_1), .val (.int (9 : Int32)), .val (.int (4 : Int32)), .val (.ref w_UNWATCHED_ALL)] [])) _
    refine XS.iinc X21.here hx rfl (hb hby d3_31) rfl (l' := #[.val (.int (9 : Int32)), .val (.ref nb2_1), .val (.int (9 : Int32)), .val (.int (5 : Int32)), .val (.ref w_UNWATCHED_ALL)]) rfl ?_
    show Steps p.tables e below (T21.setTop (mkF m 34 #[.val (.int (9 : Int32)), .val (.ref nb2_1), .val (.int (9 : Int32)), .val (.int (5 : Int32)), .val (.ref w_UNWATCHED_ALL)] [])) _
    refine XS.goto X21.here hx rfl (pc0 := 34) (pc' := 9) rfl (hb hby d3_34) (by decide) (by decide) ?_
    show Steps p.tables e below (T21.setTop (mkF m 9 #[.val (.int (9 : Int32)), .val (.ref nb2_1), .val (.int (9 : Int32)), .val (.int (5 : Int32)), .val (.ref w_UNWATCHED_ALL)] [])) _
    refine XS.iloadN X21.here hx rfl (hb hby d3_9) rfl ?_
    show Steps p.tables e below (T21.setTop (mkF m 10 #[.val (.int (9 : Int32)), .val (.ref nb2_1), .val (.int (9 : Int32)), .val (.int (5 : Int32)), .val (.ref w_UNWATCHED_ALL)] [(.int (5 : Int32))])) _
    refine XS.iloadN X21.here hx rfl (hb hby d3_10) rfl ?_
    show Steps p.tables e below (T21.setTop (mkF m 11 #[.val (.int (9 : Int32)), .val (.ref nb2_1), .val (.int (9 : Int32)), .val (.int (5 : Int32)), .val (.ref w_UNWATCHED_ALL)] [(.int (9 : Int32)), (.int (5 : Int32))])) _
    refine XS.icmpNo X21.here hx rfl (hb hby d3_11) rfl (tlt (by decide : (5 : Int32) < (9 : Int32))).2.1 ?_
    show Steps p.tables e below (T21.setTop (mkF m 14 #[.val (.int (9 : Int32)), .val (.ref nb2_1), .val (.int (9 : Int32)), .val (.int (5 : Int32)), .val (.ref w_UNWATCHED_ALL)] [])) _
    refine XS.aloadN X21.here hx rfl (hb hby d3_14) rfl rfl ?_
    show Steps p.tables e below (T21.setTop (mkF m 15 #[.val (.int (9 : Int32)), .val (.ref nb2_1), .val (.int (9 : Int32)), .val (.int (5 : Int32)), .val (.ref w_UNWATCHED_ALL)] [(.ref nb2_1)])) _
    refine XS.iloadN X21.here hx rfl (hb hby d3_15) rfl ?_
    show Steps p.tables e below (T21.setTop (mkF m 16 #[.val (.int (9 : Int32)), .val (.ref nb2_1), .val (.int (9 : Int32)), .val (.int (5 : Int32)), .val (.ref w_UNWATCHED_ALL)] [(.int (5 : Int32)), (.ref nb2_1)])) _
    refine X21.aaload hx (j := (5 : Int32)) (v := (.ref w_CLOCK_READING)) (by rw [e21]; exact r22.1) (State.isArrayOf_alike hZ.alike r22.2.1) rfl r22.2.2 hin22 hat22 (g := (mkF m 16 #[.val (.int (9 : Int32)), .val (.ref nb2_1), .val (.int (9 : Int32)), .val (.int (5 : Int32)), .val (.ref w_UNWATCHED_ALL)] [(.int (5 : Int32)), (.ref nb2_1)])) rfl rfl (hb hby d3_16) _ ?_
    show Steps p.tables e below (T21.setTop (mkF m 17 #[.val (.int (9 : Int32)), .val (.ref nb2_1), .val (.int (9 : Int32)), .val (.int (5 : Int32)), .val (.ref w_UNWATCHED_ALL)] [(.ref w_CLOCK_READING)])) _
    refine XS.astore X21.here hx rfl (hb hby d3_17) rfl rfl (l' := #[.val (.int (9 : Int32)), .val (.ref nb2_1), .val (.int (9 : Int32)), .val (.int (5 : Int32)), .val (.ref w_CLOCK_READING)]) rfl ?_
    show Steps p.tables e below (T21.setTop (mkF m 19 #[.val (.int (9 : Int32)), .val (.ref nb2_1), .val (.int (9 : Int32)), .val (.int (5 : Int32)), .val (.ref w_CLOCK_READING)] [])) _
    refine XS.aload X21.here hx rfl (hb hby d3_19) rfl rfl ?_
    show Steps p.tables e below (T21.setTop (mkF m 21 #[.val (.int (9 : Int32)), .val (.ref nb2_1), .val (.int (9 : Int32)), .val (.int (5 : Int32)), .val (.ref w_CLOCK_READING)] [(.ref w_CLOCK_READING)])) _
    refine st24 _ ?_
    show Steps p.tables e below (T24.setTop (mkF m 24 #[.val (.int (9 : Int32)), .val (.ref nb2_1), .val (.int (9 : Int32)), .val (.int (5 : Int32)), .val (.ref w_CLOCK_READING)] [(.int (6 : Int32))])) _
    refine XS.iloadN X24.here hx rfl (hb hby d3_24) rfl ?_
    show Steps p.tables e below (T24.setTop (mkF m 25 #[.val (.int (9 : Int32)), .val (.ref nb2_1), .val (.int (9 : Int32)), .val (.int (5 : Int32)), .val (.ref w_CLOCK_READING)] [(.int (9 : Int32)), (.int (6 : Int32))])) _
    refine XS.icmpYes X24.here hx rfl (pc0 := 25) (pc' := 31) rfl (hb hby d3_25) rfl (feq (by decide : ¬ ((6 : Int32) = (9 : Int32)))).2 (by decide) (by decide) ?_
    show Steps p.tables e below (T24.setTop (mkF m 31 #[.val (.int (9 : Int32)), .val (.ref nb2_1), .val (.int (9 : Int32)), .val (.int (5 : Int32)), .val (.ref w_CLOCK_READING)] [])) _
    refine XS.iinc X24.here hx rfl (hb hby d3_31) rfl (l' := #[.val (.int (9 : Int32)), .val (.ref nb2_1), .val (.int (9 : Int32)), .val (.int (6 : Int32)), .val (.ref w_CLOCK_READING)]) rfl ?_
    show Steps p.tables e below (T24.setTop (mkF m 34 #[.val (.int (9 : Int32)), .val (.ref nb2_1), .val (.int (9 : Int32)), .val (.int (6 : Int32)), .val (.ref w_CLOCK_READING)] [])) _
    refine XS.goto X24.here hx rfl (pc0 := 34) (pc' := 9) rfl (hb hby d3_34) (by decide) (by decide) ?_
    show Steps p.tables e below (T24.setTop (mkF m 9 #[.val (.int (9 : Int32)), .val (.ref nb2_1), .val (.int (9 : Int32)), .val (.int (6 : Int32)), .val (.ref w_CLOCK_READING)] [])) _
    refine XS.iloadN X24.here hx rfl (hb hby d3_9) rfl ?_
    show Steps p.tables e below (T24.setTop (mkF m 10 #[.val (.int (9 : Int32)), .val (.ref nb2_1), .val (.int (9 : Int32)), .val (.int (6 : Int32)), .val (.ref w_CLOCK_READING)] [(.int (6 : Int32))])) _
    refine XS.iloadN X24.here hx rfl (hb hby d3_10) rfl ?_
    show Steps p.tables e below (T24.setTop (mkF m 11 #[.val (.int (9 : Int32)), .val (.ref nb2_1), .val (.int (9 : Int32)), .val (.int (6 : Int32)), .val (.ref w_CLOCK_READING)] [(.int (9 : Int32)), (.int (6 : Int32))])) _
    refine XS.icmpNo X24.here hx rfl (hb hby d3_11) rfl (tlt (by decide : (6 : Int32) < (9 : Int32))).2.1 ?_
    show Steps p.tables e below (T24.setTop (mkF m 14 #[.val (.int (9 : Int32)), .val (.ref nb2_1), .val (.int (9 : Int32)), .val (.int (6 : Int32)), .val (.ref w_CLOCK_READING)] [])) _
    refine XS.aloadN X24.here hx rfl (hb hby d3_14) rfl rfl ?_
    show Steps p.tables e below (T24.setTop (mkF m 15 #[.val (.int (9 : Int32)), .val (.ref nb2_1), .val (.int (9 : Int32)), .val (.int (6 : Int32)), .val (.ref w_CLOCK_READING)] [(.ref nb2_1)])) _
    refine XS.iloadN X24.here hx rfl (hb hby d3_15) rfl ?_
    show Steps p.tables e below (T24.setTop (mkF m 16 #[.val (.int (9 : Int32)), .val (.ref nb2_1), .val (.int (9 : Int32)), .val (.int (6 : Int32)), .val (.ref w_CLOCK_READING)] [(.int (6 : Int32)), (.ref nb2_1)])) _
    refine X24.aaload hx (j := (6 : Int32)) (v := (.ref w_ANSWERED)) (by rw [e24]; exact r25.1) (State.isArrayOf_alike hZ.alike r25.2.1) rfl r25.2.2 hin25 hat25 (g := (mkF m 16 #[.val (.int (9 : Int32)), .val (.ref nb2_1), .val (.int (9 : Int32)), .val (.int (6 : Int32)), .val (.ref w_CLOCK_READING)] [(.int (6 : Int32)), (.ref nb2_1)])) rfl rfl (hb hby d3_16) _ ?_
    show Steps p.tables e below (T24.setTop (mkF m 17 #[.val (.int (9 : Int32)), .val (.ref nb2_1), .val (.int (9 : Int32)), .val (.int (6 : Int32)), .val (.ref w_CLOCK_READING)] [(.ref w_ANSWERED)])) _
    refine XS.astore X24.here hx rfl (hb hby d3_17) rfl rfl (l' := #[.val (.int (9 : Int32)), .val (.ref nb2_1), .val (.int (9 : Int32)), .val (.int (6 : Int32)), .val (.ref w_ANSWERED)]) rfl ?_
    show Steps p.tables e below (T24.setTop (mkF m 19 #[.val (.int (9 : Int32)), .val (.ref nb2_1), .val (.int (9 : Int32)), .val (.int (6 : Int32)), .val (.ref w_ANSWERED)] [])) _
    refine XS.aload X24.here hx rfl (hb hby d3_19) rfl rfl ?_
    show Steps p.tables e below (T24.setTop (mkF m 21 #[.val (.int (9 : Int32)), .val (.ref nb2_1), .val (.int (9 : Int32)), .val (.int (6 : Int32)), .val (.ref w_ANSWERED)] [(.ref w_ANSWERED)])) _
    refine st27 _ ?_
    show Steps p.tables e below (T27.setTop (mkF m 24 #[.val (.int (9 : Int32)), .val (.ref nb2_1), .val (.int (9 : Int32)), .val (.int (6 : Int32)), .val (.ref w_ANSWERED)] [(.int (7 : Int32))])) _
    refine XS.iloadN X27.here hx rfl (hb hby d3_24) rfl ?_
    show Steps p.tables e below (T27.setTop (mkF m 25 #[.val (.int (9 : Int32)), .val (.ref nb2_1), .val (.int (9 : Int32)), .val (.int (6 : Int32)), .val (.ref w_ANSWERED)] [(.int (9 : Int32)), (.int (7 : Int32))])) _
    refine XS.icmpYes X27.here hx rfl (pc0 := 25) (pc' := 31) rfl (hb hby d3_25) rfl (feq (by decide : ¬ ((7 : Int32) = (9 : Int32)))).2 (by decide) (by decide) ?_
    show Steps p.tables e below (T27.setTop (mkF m 31 #[.val (.int (9 : Int32)), .val (.ref nb2_1), .val (.int (9 : Int32)), .val (.int (6 : Int32)), .val (.ref w_ANSWERED)] [])) _
    refine XS.iinc X27.here hx rfl (hb hby d3_31) rfl (l' := #[.val (.int (9 : Int32)), .val (.ref nb2_1), .val (.int (9 : Int32)), .val (.int (7 : Int32)), .val (.ref w_ANSWERED)]) rfl ?_
    show Steps p.tables e below (T27.setTop (mkF m 34 #[.val (.int (9 : Int32)), .val (.ref nb2_1), .val (.int (9 : Int32)), .val (.int (7 : Int32)), .val (.ref w_ANSWERED)] [])) _
    refine XS.goto X27.here hx rfl (pc0 := 34) (pc' := 9) rfl (hb hby d3_34) (by decide) (by decide) ?_
    show Steps p.tables e below (T27.setTop (mkF m 9 #[.val (.int (9 : Int32)), .val (.ref nb2_1), .val (.int (9 : Int32)), .val (.int (7 : Int32)), .val (.ref w_ANSWERED)] [])) _
    refine XS.iloadN X27.here hx rfl (hb hby d3_9) rfl ?_
    show Steps p.tables e below (T27.setTop (mkF m 10 #[.val (.int (9 : Int32)), .val (.ref nb2_1), .val (.int (9 : Int32)), .val (.int (7 : Int32)), .val (.ref w_ANSWERED)] [(.int (7 : Int32))])) _
    refine XS.iloadN X27.here hx rfl (hb hby d3_10) rfl ?_
    show Steps p.tables e below (T27.setTop (mkF m 11 #[.val (.int (9 : Int32)), .val (.ref nb2_1), .val (.int (9 : Int32)), .val (.int (7 : Int32)), .val (.ref w_ANSWERED)] [(.int (9 : Int32)), (.int (7 : Int32))])) _
    refine XS.icmpNo X27.here hx rfl (hb hby d3_11) rfl (tlt (by decide : (7 : Int32) < (9 : Int32))).2.1 ?_
    show Steps p.tables e below (T27.setTop (mkF m 14 #[.val (.int (9 : Int32)), .val (.ref nb2_1), .val (.int (9 : Int32)), .val (.int (7 : Int32)), .val (.ref w_ANSWERED)] [])) _
    refine XS.aloadN X27.here hx rfl (hb hby d3_14) rfl rfl ?_
    show Steps p.tables e below (T27.setTop (mkF m 15 #[.val (.int (9 : Int32)), .val (.ref nb2_1), .val (.int (9 : Int32)), .val (.int (7 : Int32)), .val (.ref w_ANSWERED)] [(.ref nb2_1)])) _
    refine XS.iloadN X27.here hx rfl (hb hby d3_15) rfl ?_
    show Steps p.tables e below (T27.setTop (mkF m 16 #[.val (.int (9 : Int32)), .val (.ref nb2_1), .val (.int (9 : Int32)), .val (.int (7 : Int32)), .val (.ref w_ANSWERED)] [(.int (7 : Int32)), (.ref nb2_1)])) _
    refine X27.aaload hx (j := (7 : Int32)) (v := (.ref w_UNDELIVERED)) (by rw [e27]; exact r28.1) (State.isArrayOf_alike hZ.alike r28.2.1) rfl r28.2.2 hin28 hat28 (g := (mkF m 16 #[.val (.int (9 : Int32)), .val (.ref nb2_1), .val (.int (9 : Int32)), .val (.int (7 : Int32)), .val (.ref w_ANSWERED)] [(.int (7 : Int32)), (.ref nb2_1)])) rfl rfl (hb hby d3_16) _ ?_
    show Steps p.tables e below (T27.setTop (mkF m 17 #[.val (.int (9 : Int32)), .val (.ref nb2_1), .val (.int (9 : Int32)), .val (.int (7 : Int32)), .val (.ref w_ANSWERED)] [(.ref w_UNDELIVERED)])) _
    refine XS.astore X27.here hx rfl (hb hby d3_17) rfl rfl (l' := #[.val (.int (9 : Int32)), .val (.ref nb2_1), .val (.int (9 : Int32)), .val (.int (7 : Int32)), .val (.ref w_UNDELIVERED)]) rfl ?_
    show Steps p.tables e below (T27.setTop (mkF m 19 #[.val (.int (9 : Int32)), .val (.ref nb2_1), .val (.int (9 : Int32)), .val (.int (7 : Int32)), .val (.ref w_UNDELIVERED)] [])) _
    refine XS.aload X27.here hx rfl (hb hby d3_19) rfl rfl ?_
    show Steps p.tables e below (T27.setTop (mkF m 21 #[.val (.int (9 : Int32)), .val (.ref nb2_1), .val (.int (9 : Int32)), .val (.int (7 : Int32)), .val (.ref w_UNDELIVERED)] [(.ref w_UNDELIVERED)])) _
    refine st30 _ ?_
    show Steps p.tables e below (T30.setTop (mkF m 24 #[.val (.int (9 : Int32)), .val (.ref nb2_1), .val (.int (9 : Int32)), .val (.int (7 : Int32)), .val (.ref w_UNDELIVERED)] [(.int (8 : Int32))])) _
    refine XS.iloadN X30.here hx rfl (hb hby d3_24) rfl ?_
    show Steps p.tables e below (T30.setTop (mkF m 25 #[.val (.int (9 : Int32)), .val (.ref nb2_1), .val (.int (9 : Int32)), .val (.int (7 : Int32)), .val (.ref w_UNDELIVERED)] [(.int (9 : Int32)), (.int (8 : Int32))])) _
    refine XS.icmpYes X30.here hx rfl (pc0 := 25) (pc' := 31) rfl (hb hby d3_25) rfl (feq (by decide : ¬ ((8 : Int32) = (9 : Int32)))).2 (by decide) (by decide) ?_
    show Steps p.tables e below (T30.setTop (mkF m 31 #[.val (.int (9 : Int32)), .val (.ref nb2_1), .val (.int (9 : Int32)), .val (.int (7 : Int32)), .val (.ref w_UNDELIVERED)] [])) _
    refine XS.iinc X30.here hx rfl (hb hby d3_31) rfl (l' := #[.val (.int (9 : Int32)), .val (.ref nb2_1), .val (.int (9 : Int32)), .val (.int (8 : Int32)), .val (.ref w_UNDELIVERED)]) rfl ?_
    show Steps p.tables e below (T30.setTop (mkF m 34 #[.val (.int (9 : Int32)), .val (.ref nb2_1), .val (.int (9 : Int32)), .val (.int (8 : Int32)), .val (.ref w_UNDELIVERED)] [])) _
    refine XS.goto X30.here hx rfl (pc0 := 34) (pc' := 9) rfl (hb hby d3_34) (by decide) (by decide) ?_
    show Steps p.tables e below (T30.setTop (mkF m 9 #[.val (.int (9 : Int32)), .val (.ref nb2_1), .val (.int (9 : Int32)), .val (.int (8 : Int32)), .val (.ref w_UNDELIVERED)] [])) _
    refine XS.iloadN X30.here hx rfl (hb hby d3_9) rfl ?_
    show Steps p.tables e below (T30.setTop (mkF m 10 #[.val (.int (9 : Int32)), .val (.ref nb2_1), .val (.int (9 : Int32)), .val (.int (8 : Int32)), .val (.ref w_UNDELIVERED)] [(.int (8 : Int32))])) _
    refine XS.iloadN X30.here hx rfl (hb hby d3_10) rfl ?_
    show Steps p.tables e below (T30.setTop (mkF m 11 #[.val (.int (9 : Int32)), .val (.ref nb2_1), .val (.int (9 : Int32)), .val (.int (8 : Int32)), .val (.ref w_UNDELIVERED)] [(.int (9 : Int32)), (.int (8 : Int32))])) _
    refine XS.icmpNo X30.here hx rfl (hb hby d3_11) rfl (tlt (by decide : (8 : Int32) < (9 : Int32))).2.1 ?_
    show Steps p.tables e below (T30.setTop (mkF m 14 #[.val (.int (9 : Int32)), .val (.ref nb2_1), .val (.int (9 : Int32)), .val (.int (8 : Int32)), .val (.ref w_UNDELIVERED)] [])) _
    refine XS.aloadN X30.here hx rfl (hb hby d3_14) rfl rfl ?_
    show Steps p.tables e below (T30.setTop (mkF m 15 #[.val (.int (9 : Int32)), .val (.ref nb2_1), .val (.int (9 : Int32)), .val (.int (8 : Int32)), .val (.ref w_UNDELIVERED)] [(.ref nb2_1)])) _
    refine XS.iloadN X30.here hx rfl (hb hby d3_15) rfl ?_
    show Steps p.tables e below (T30.setTop (mkF m 16 #[.val (.int (9 : Int32)), .val (.ref nb2_1), .val (.int (9 : Int32)), .val (.int (8 : Int32)), .val (.ref w_UNDELIVERED)] [(.int (8 : Int32)), (.ref nb2_1)])) _
    refine X30.aaload hx (j := (8 : Int32)) (v := (.ref w_DELIVERED)) (by rw [e30]; exact r31.1) (State.isArrayOf_alike hZ.alike r31.2.1) rfl r31.2.2 hin31 hat31 (g := (mkF m 16 #[.val (.int (9 : Int32)), .val (.ref nb2_1), .val (.int (9 : Int32)), .val (.int (8 : Int32)), .val (.ref w_UNDELIVERED)] [(.int (8 : Int32)), (.ref nb2_1)])) rfl rfl (hb hby d3_16) _ ?_
    show Steps p.tables e below (T30.setTop (mkF m 17 #[.val (.int (9 : Int32)), .val (.ref nb2_1), .val (.int (9 : Int32)), .val (.int (8 : Int32)), .val (.ref w_UNDELIVERED)] [(.ref w_DELIVERED)])) _
    refine XS.astore X30.here hx rfl (hb hby d3_17) rfl rfl (l' := #[.val (.int (9 : Int32)), .val (.ref nb2_1), .val (.int (9 : Int32)), .val (.int (8 : Int32)), .val (.ref w_DELIVERED)]) rfl ?_
    show Steps p.tables e below (T30.setTop (mkF m 19 #[.val (.int (9 : Int32)), .val (.ref nb2_1), .val (.int (9 : Int32)), .val (.int (8 : Int32)), .val (.ref w_DELIVERED)] [])) _
    refine XS.aload X30.here hx rfl (hb hby d3_19) rfl rfl ?_
    show Steps p.tables e below (T30.setTop (mkF m 21 #[.val (.int (9 : Int32)), .val (.ref nb2_1), .val (.int (9 : Int32)), .val (.int (8 : Int32)), .val (.ref w_DELIVERED)] [(.ref w_DELIVERED)])) _
    refine st33 _ ?_
    show Steps p.tables e below (T33.setTop (mkF m 24 #[.val (.int (9 : Int32)), .val (.ref nb2_1), .val (.int (9 : Int32)), .val (.int (8 : Int32)), .val (.ref w_DELIVERED)] [(.int (9 : Int32))])) _
    refine XS.iloadN X33.here hx rfl (hb hby d3_24) rfl ?_
    show Steps p.tables e below (T33.setTop (mkF m 25 #[.val (.int (9 : Int32)), .val (.ref nb2_1), .val (.int (9 : Int32)), .val (.int (8 : Int32)), .val (.ref w_DELIVERED)] [(.int (9 : Int32)), (.int (9 : Int32))])) _
    refine XS.icmpNo X33.here hx rfl (hb hby d3_25) rfl (teq (by decide : (9 : Int32) = (9 : Int32))).2 ?_
    show Steps p.tables e below (T33.setTop (mkF m 28 #[.val (.int (9 : Int32)), .val (.ref nb2_1), .val (.int (9 : Int32)), .val (.int (8 : Int32)), .val (.ref w_DELIVERED)] [])) _
    refine XS.aload X33.here hx rfl (hb hby d3_28) rfl rfl ?_
    exact kt
  have f36 : Keep h0 h1 [] := K0.trans K1 all0
  obtain ⟨fs, hr, hrun, hended, hW, hsame⟩ := X33.leave (v := some (.ref w_DELIVERED)) (fun h => by rw [Bd.returns] at h; cases h)
  refine ⟨_, _, pre34 _ (retOut X33 hx Bd.returns rfl (Or.inr (Or.inr (Or.inr (Or.inr ⟨rfl, rfl, rfl⟩)))) (hb hby d3_30) hr), hrun, hended, _, _, rfl, ?_, ⟨_, rfl⟩, hW, hsame.mono (by decide) (by decide)⟩
  show QOf8 Z w_STORED w_REMOVED w_WATCHED w_UNWATCHED w_UNWATCHED_ALL w_CLOCK_READING w_ANSWERED w_UNDELIVERED w_DELIVERED w__VALUES k_ h0 n0 _ T33.heap _
  rw [e33]
  exact ⟨rfl, N2, f36⟩
theorem d4_0 : decode prog_29_method_4_code 0 = .ok (.aload_n 0, 1) := by decide +kernel
theorem d4_1 : decode prog_29_method_4_code 1 = .ok (.getfield 50, 3) := by decide +kernel
theorem d4_4 : decode prog_29_method_4_code 4 = .ok (.ireturn, 1) := by decide +kernel
theorem efCod (m : MethodId) (a0_ : Addr) : entryFrame m #[(.ref a0_)] 1 = mkF m 0 #[.val (.ref a0_)] [] := by first | (simp [entryFrame, mkF, argsToLocals, Value.category]; done) | rfl
def QCod (Z : State) (a0_ : Addr) (c_ : Int32) (h0 : Heap) (n0 : Nat) (v : Option Value) (h : Heap) (L : List Loc) : Prop := v = some (.int c_) ∧ Fr n0 L ∧ h = h0
set_option maxRecDepth 65536 in
set_option maxHeartbeats 40000000 in
theorem rmCod (l : Launch) (Z : State) (a0 : Array Value) (hw : ∀ d ∈ tables_1, d.before a0 Z = true) (ws : List Jvm.Cond) (a0_ : Addr) (c_ : Int32) (h0 : Heap) (n0 : Nat) (O0 : Old Z n0 h0) (hc : c_.toInt8.toInt32 = c_) (P1 : Fld Z Z.heap a0_ "com/example/fawley/fawley/store/Change$Kind" "code" "B" (.int c_)) :
    MetFree l (⟨"com/example/fawley/fawley/store/Change$Kind", "code", "()B"⟩ : MethodName) (head1 (Jvm.Cond.code (⟨"com/example/fawley/fawley/store/Change$Kind", "code", "()B"⟩ : MethodName) prog_29_method_4_code 1 (some .byte) :: ws) ({ frames := 0, cells := 0, slots := 0, locals := 0 } : Room)) (fun a U => a = #[(.ref a0_)] ∧ Z.Warmed39 U.vm ∧ U.heap = h0) (fun _ _ _ _ _ => True) (fun _ U o U' => ∃ v L, o = .returned v ∧ QCod Z a0_ c_ h0 n0 v U'.heap L ∧ FrameEnd U o U' L ({ frames := 0, cells := 0, slots := 0, locals := 0 } : Room).cells ({ frames := 0, cells := 0, slots := 0, locals := 0 } : Room).slots) := by
  refine MetFree.of_bodySF (plainFor_of_name pn_0) hisR ?_
  intro p e s m args below meth c s₁ Bd hml0 hP hK
  obtain ⟨rfl, hZ, hh⟩ := hP
  have hx := Bd.exec
  have hby := Bd.bytes
  have hml : c.maxLocals = 1 := hml0
  have hown : s.vm.findClass "com/example/fawley/fawley/store/Change$Kind" = some m.cls := findClass_of_methodNamed Bd.named
  have hnm := (name_of_methodNamed Bd.named Bd.method).1
  have X0 : Stand p l e ({ frames := 0, cells := 0, slots := 0, locals := 0 } : Room) s m #[(.ref a0_)] below meth c s₁ [] 0 0 := Stand.of_body Bd
  have e0 : s₁.heap = h0 := by rw [← hh, Bd.state]; rfl
  have N0 := Fr.nil n0
  have pre0 : ∀ t, Steps p.tables e below (s₁.setTop (mkF m 0 #[.val (.ref a0_)] [])) t → Steps p.tables e below (s₁.setTop (entryFrame m #[(.ref a0_)] 1)) t := fun t k => castTop (efCod m a0_) k
  have K0 : Keep h0 h0 [] := Keep.refl _ _
  have f1 : Fld Z h0 a0_ "com/example/fawley/fawley/store/Change$Kind" "code" "B" (.int c_) := P1.ext O0.2
  obtain ⟨T2, X2, e2, st2⟩ := getF X0 hx hZ hown (host := "") (Or.inl (hw _ (List.mem_of_getElem? (i := 34) rfl))) Via.refl e0 f1 (g := (mkF m 1 #[.val (.ref a0_)] [(.ref a0_)])) rfl rfl (hb hby d4_1)
  have pre3 : ∀ t, Steps p.tables e below (T2.setTop (mkF m 4 #[.val (.ref a0_)] [(.int c_)])) t → Steps p.tables e below (s₁.setTop (entryFrame m #[(.ref a0_)] 1)) t := by
    intro t kt
    refine pre0 t ?_
    show Steps p.tables e below (s₁.setTop (mkF m 0 #[.val (.ref a0_)] [])) _
    refine XS.aloadN X0.here hx rfl (hb hby d4_0) rfl rfl ?_
    show Steps p.tables e below (s₁.setTop (mkF m 1 #[.val (.ref a0_)] [(.ref a0_)])) _
    refine st2 _ ?_
    exact kt
  obtain ⟨fs, hr, hrun, hended, hW, hsame⟩ := X2.leave (v := some (.int (nar .byte c_))) (fun h => by rw [Bd.returns] at h; cases h)
  refine ⟨_, _, pre3 _ (retN X2 hx (t := .byte) Bd.returns (by simp) (hb hby d4_4) hr), hrun, hended, _, _, rfl, ?_, ⟨_, rfl⟩, hW, hsame.mono (by decide) (by decide)⟩
  show QCod Z a0_ c_ h0 n0 _ T2.heap _
  rw [e2]
  exact ⟨(own_ret hc), N0, rfl⟩
theorem pd_1 : parseMethodDescriptor "(I)Lcom/example/fawley/fawley/store/Change$Kind;" = some ⟨[.int], some (.object "com/example/fawley/fawley/store/Change$Kind")⟩ := by decide +kernel
theorem pd_2 : parseMethodDescriptor "(B)Lcom/example/fawley/fawley/store/Change$Kind;" = some ⟨[.byte], some (.object "com/example/fawley/fawley/store/Change$Kind")⟩ := by decide +kernel
theorem pd_3 : parseMethodDescriptor "()B" = some ⟨[], some .byte⟩ := by decide +kernel
theorem efLaw (m : MethodId) (p0_ : Int32) : entryFrame m #[(.int p0_)] maxLocals = mkF m 0 #[.val (.int p0_), .unset, .unset, .unset, .unset] [] := by first | (simp [entryFrame, mkF, argsToLocals, Value.category, maxLocals]; done) | rfl
def QLaw (Z : State) (p0_ : Int32) (w_STORED : Addr) (w_REMOVED : Addr) (w_WATCHED : Addr) (w_UNWATCHED : Addr) (w_UNWATCHED_ALL : Addr) (w_CLOCK_READING : Addr) (w_ANSWERED : Addr) (w_UNDELIVERED : Addr) (w_DELIVERED : Addr) (w__VALUES : Addr) (k_ : ClassId) (h0 : Heap) (n0 : Nat) (v : Option Value) (h : Heap) (L : List Loc) : Prop := v = some (.int (1 : Int32)) ∧ Fr n0 L
set_option maxRecDepth 65536 in
set_option maxHeartbeats 40000000 in
theorem rmLaw (l : Launch) (Z : State) (a0 : Array Value) (hw : ∀ d ∈ tables_1, d.before a0 Z = true) (ws : List Jvm.Cond) (p0_ : Int32) (w_STORED : Addr) (w_REMOVED : Addr) (w_WATCHED : Addr) (w_UNWATCHED : Addr) (w_UNWATCHED_ALL : Addr) (w_CLOCK_READING : Addr) (w_ANSWERED : Addr) (w_UNDELIVERED : Addr) (w_DELIVERED : Addr) (w__VALUES : Addr) (k_ : ClassId) (h0 : Heap) (n0 : Nat) (O0 : Old Z n0 h0) (P0 : Sta Z Z.heap "com/example/fawley/fawley/store/Change$Kind" "STORED" "Lcom/example/fawley/fawley/store/Change$Kind;" (.ref w_STORED)) (P1 : Exa Z Z.heap w_STORED "com/example/fawley/fawley/store/Change$Kind") (P2 : Fld Z Z.heap w_STORED "com/example/fawley/fawley/store/Change$Kind" "code" "B" (.int (1 : Int32))) (P3 : Sta Z Z.heap "com/example/fawley/fawley/store/Change$Kind" "REMOVED" "Lcom/example/fawley/fawley/store/Change$Kind;" (.ref w_REMOVED)) (P4 : Exa Z Z.heap w_REMOVED "com/example/fawley/fawley/store/Change$Kind") (P5 : Fld Z Z.heap w_REMOVED "com/example/fawley/fawley/store/Change$Kind" "code" "B" (.int (2 : Int32))) (P6 : Sta Z Z.heap "com/example/fawley/fawley/store/Change$Kind" "WATCHED" "Lcom/example/fawley/fawley/store/Change$Kind;" (.ref w_WATCHED)) (P7 : Exa Z Z.heap w_WATCHED "com/example/fawley/fawley/store/Change$Kind") (P8 : Fld Z Z.heap w_WATCHED "com/example/fawley/fawley/store/Change$Kind" "code" "B" (.int (3 : Int32))) (P9 : Sta Z Z.heap "com/example/fawley/fawley/store/Change$Kind" "UNWATCHED" "Lcom/example/fawley/fawley/store/Change$Kind;" (.ref w_UNWATCHED)) (P10 : Exa Z Z.heap w_UNWATCHED "com/example/fawley/fawley/store/Change$Kind") (P11 : Fld Z Z.heap w_UNWATCHED "com/example/fawley/fawley/store/Change$Kind" "code" "B" (.int (4 : Int32))) (P12 : Sta Z Z.heap "com/example/fawley/fawley/store/Change$Kind" "UNWATCHED_ALL" "Lcom/example/fawley/fawley/store/Change$Kind;" (.ref w_UNWATCHED_ALL)) (P13 : Exa Z Z.heap w_UNWATCHED_ALL "com/example/fawley/fawley/store/Change$Kind") (P14 : Fld Z Z.heap w_UNWATCHED_ALL "com/example/fawley/fawley/store/Change$Kind" "code" "B" (.int (5 : Int32))) (P15 : Sta Z Z.heap "com/example/fawley/fawley/store/Change$Kind" "CLOCK_READING" "Lcom/example/fawley/fawley/store/Change$Kind;" (.ref w_CLOCK_READING)) (P16 : Exa Z Z.heap w_CLOCK_READING "com/example/fawley/fawley/store/Change$Kind") (P17 : Fld Z Z.heap w_CLOCK_READING "com/example/fawley/fawley/store/Change$Kind" "code" "B" (.int (6 : Int32))) (P18 : Sta Z Z.heap "com/example/fawley/fawley/store/Change$Kind" "ANSWERED" "Lcom/example/fawley/fawley/store/Change$Kind;" (.ref w_ANSWERED)) (P19 : Exa Z Z.heap w_ANSWERED "com/example/fawley/fawley/store/Change$Kind") (P20 : Fld Z Z.heap w_ANSWERED "com/example/fawley/fawley/store/Change$Kind" "code" "B" (.int (7 : Int32))) (P21 : Sta Z Z.heap "com/example/fawley/fawley/store/Change$Kind" "UNDELIVERED" "Lcom/example/fawley/fawley/store/Change$Kind;" (.ref w_UNDELIVERED)) (P22 : Exa Z Z.heap w_UNDELIVERED "com/example/fawley/fawley/store/Change$Kind") (P23 : Fld Z Z.heap w_UNDELIVERED "com/example/fawley/fawley/store/Change$Kind" "code" "B" (.int (8 : Int32))) (P24 : Sta Z Z.heap "com/example/fawley/fawley/store/Change$Kind" "DELIVERED" "Lcom/example/fawley/fawley/store/Change$Kind;" (.ref w_DELIVERED)) (P25 : Exa Z Z.heap w_DELIVERED "com/example/fawley/fawley/store/Change$Kind") (P26 : Fld Z Z.heap w_DELIVERED "com/example/fawley/fawley/store/Change$Kind" "code" "B" (.int (9 : Int32))) (P27 : Sta Z Z.heap "com/example/fawley/fawley/store/Change$Kind" "$VALUES" "[Lcom/example/fawley/fawley/store/Change$Kind;" (.ref w__VALUES)) (P28 : Exa Z Z.heap w__VALUES "[Lcom/example/fawley/fawley/store/Change$Kind;") (P29 : Arv Z Z.heap w__VALUES k_ (.object "com/example/fawley/fawley/store/Change$Kind") (9 : Int32) [(.ref w_STORED), (.ref w_REMOVED), (.ref w_WATCHED), (.ref w_UNWATCHED), (.ref w_UNWATCHED_ALL), (.ref w_CLOCK_READING), (.ref w_ANSWERED), (.ref w_UNDELIVERED), (.ref w_DELIVERED)] .null) :
    MetFree l x (head1 (Jvm.Cond.code x code maxLocals ret :: ws) room_1) (fun a U => a = #[(.int p0_)] ∧ Z.Warmed39 U.vm ∧ U.heap = h0) (fun _ _ _ _ _ => True) (fun _ U o U' => ∃ v L, o = .returned v ∧ QLaw Z p0_ w_STORED w_REMOVED w_WATCHED w_UNWATCHED w_UNWATCHED_ALL w_CLOCK_READING w_ANSWERED w_UNDELIVERED w_DELIVERED w__VALUES k_ h0 n0 v U'.heap L ∧ FrameEnd U o U' L room_1.cells room_1.slots) := by
  refine MetFree.of_bodySF (plainFor_of_name pn_1) hisR ?_
  intro p e s m args below meth c s₁ Bd hml0 hP hK
  obtain ⟨rfl, hZ, hh⟩ := hP
  have hx := Bd.exec
  have hby := Bd.bytes
  have hml : c.maxLocals = 5 := hml0
  have hown : s.vm.findClass "com/example/fawley/fawley/store/KindOfPinLaw" = some m.cls := findClass_of_methodNamed Bd.named
  have hnm := (name_of_methodNamed Bd.named Bd.method).1
  have X0 : Stand p l e room_1 s m #[(.int p0_)] below meth c s₁ [] 0 0 := Stand.of_body Bd
  have e0 : s₁.heap = h0 := by rw [← hh, Bd.state]; rfl
  have N0 := Fr.nil n0
  have pre0 : ∀ t, Steps p.tables e below (s₁.setTop (mkF m 0 #[.val (.int p0_), .unset, .unset, .unset, .unset] [])) t → Steps p.tables e below (s₁.setTop (entryFrame m #[(.int p0_)] maxLocals)) t := fun t k => castTop (efLaw m p0_) k
  have K0 : Keep h0 h0 [] := Keep.refl _ _
  have pre1 : ∀ t, Steps p.tables e below (s₁.setTop (mkF m 7 #[.val (.int p0_), .unset, .unset, .unset, .unset] [(.int ((p0_ &&& (2147483647 : Int32)) % (9 : Int32)))])) t → Steps p.tables e below (s₁.setTop (entryFrame m #[(.int p0_)] maxLocals)) t := by
    intro t kt
    refine pre0 t ?_
    show Steps p.tables e below (s₁.setTop (mkF m 0 #[.val (.int p0_), .unset, .unset, .unset, .unset] [])) _
    refine XS.iloadN X0.here hx rfl (hb hby at_0) rfl ?_
    show Steps p.tables e below (s₁.setTop (mkF m 1 #[.val (.int p0_), .unset, .unset, .unset, .unset] [(.int p0_)])) _
    refine X0.ldcInt hx hown (mvT hZ (hw _ (List.mem_of_getElem? (i := 0) rfl))) (g := (mkF m 1 #[.val (.int p0_), .unset, .unset, .unset, .unset] [(.int p0_)])) rfl (hb hby at_1) _ ?_
    show Steps p.tables e below (s₁.setTop (mkF m 3 #[.val (.int p0_), .unset, .unset, .unset, .unset] [(.int (2147483647 : Int32)), (.int p0_)])) _
    refine XS.iand X0.here hx rfl (hb hby at_3) rfl ?_
    show Steps p.tables e below (s₁.setTop (mkF m 4 #[.val (.int p0_), .unset, .unset, .unset, .unset] [(.int (p0_ &&& (2147483647 : Int32)))])) _
    refine XS.bipush X0.here hx rfl (hb hby at_4) ?_
    show Steps p.tables e below (s₁.setTop (mkF m 6 #[.val (.int p0_), .unset, .unset, .unset, .unset] [(.int (9 : Int32)), (.int (p0_ &&& (2147483647 : Int32)))])) _
    refine iremM (g := (mkF m 6 #[.val (.int p0_), .unset, .unset, .unset, .unset] [(.int (9 : Int32)), (.int (p0_ &&& (2147483647 : Int32)))])) X0 hx rfl (hb hby at_6) rfl (by decide) ?_
    exact kt
  have hv2 : ((p0_ &&& (2147483647 : Int32)) % (9 : Int32)) = (0 : Int32) ∨ ((p0_ &&& (2147483647 : Int32)) % (9 : Int32)) = (1 : Int32) ∨ ((p0_ &&& (2147483647 : Int32)) % (9 : Int32)) = (2 : Int32) ∨ ((p0_ &&& (2147483647 : Int32)) % (9 : Int32)) = (3 : Int32) ∨ ((p0_ &&& (2147483647 : Int32)) % (9 : Int32)) = (4 : Int32) ∨ ((p0_ &&& (2147483647 : Int32)) % (9 : Int32)) = (5 : Int32) ∨ ((p0_ &&& (2147483647 : Int32)) % (9 : Int32)) = (6 : Int32) ∨ ((p0_ &&& (2147483647 : Int32)) % (9 : Int32)) = (7 : Int32) ∨ ((p0_ &&& (2147483647 : Int32)) % (9 : Int32)) = (8 : Int32) := own_mod9 _
  rcases hv2 with hv3 | hv3 | hv3 | hv3 | hv3 | hv3 | hv3 | hv3 | hv3
  · have pre4 : ∀ t, Steps p.tables e below (s₁.setTop (mkF m 7 #[.val (.int p0_), .unset, .unset, .unset, .unset] [(.int (0 : Int32))])) t → Steps p.tables e below (s₁.setTop (entryFrame m #[(.int p0_)] maxLocals)) t := fun t kt => pre1 t (by rw [hv3]; exact kt)
    obtain ⟨_, _, ⟨T5, L5, k5, n5⟩, -, X5, ⟨Lc5, hQ5, l5, y5, z5⟩, st5⟩ := Jvm.LawKit.callS X0 hx (y := (⟨"com/example/fawley/fawley/store/KindOfPinLaw", "expected", "(I)Lcom/example/fawley/fawley/store/Change$Kind;"⟩ : MethodName)) hown (mvT hZ (hw _ (List.mem_of_getElem? (i := 1) rfl))) (mvT hZ (hw _ (List.mem_of_getElem? (i := 2) rfl))) (mvT hZ (hw _ (List.mem_of_getElem? (i := 3) rfl))) (mvT hZ (hw _ (List.mem_of_getElem? (i := 4) rfl))) (by decide) (backOf (W := 0) (rmExp0 l Z a0 hw [] w_STORED h0 n0 O0 P0) hZ (hw _ (List.mem_of_getElem? (i := 4) rfl)) (hw _ (List.mem_of_getElem? (i := 3) rfl)) (by decide) (by decide)) (g := (mkF m 14 #[.val (.int p0_), .val (.int (1 : Int32)), .val (.int (1 : Int32)), .unset, .unset] [(.int (1 : Int32))])) rfl (by rw [hml]; rfl) (argsL := [(.int (1 : Int32))]) (rest := []) (lenOf pd_1 rfl) rfl (by show 2 * 0 + _ ≤ _; exact Nat.le_of_eq rfl) (hb hby at_14) (fun _ _ => ⟨rfl, e0, (by decide : 0 + 0 ≤ _), (by decide : 0 + 0 ≤ _)⟩)
    dsimp only [Pt.U, Pt.locs, Pt.cells, Pt.slots] at X5 l5 y5 z5 st5 hQ5
    subst l5 y5 z5
    obtain ⟨h5, e5⟩ : ∃ z, T5.heap = z := ⟨_, rfl⟩
    rw [e5] at hQ5
    obtain ⟨rfl, N5q, hh5⟩ := hQ5
    have N6 := Fr.app N0 N5q
    have e5' : T5.heap = h0 := e5.trans hh5
    obtain ⟨_, _, ⟨T7, L7, k7, n7⟩, -, X7, ⟨Lc7, hQ7, l7, y7, z7⟩, st7⟩ := Jvm.LawKit.callS X5 hx (y := (⟨"com/example/fawley/fawley/store/Change$Kind", "of", "(B)Lcom/example/fawley/fawley/store/Change$Kind;"⟩ : MethodName)) hown (mvT hZ (hw _ (List.mem_of_getElem? (i := 8) rfl))) (mvT hZ (hw _ (List.mem_of_getElem? (i := 9) rfl))) (mvT hZ (hw _ (List.mem_of_getElem? (i := 6) rfl))) (mvT hZ (hw _ (List.mem_of_getElem? (i := 10) rfl))) (by decide) (backOf (W := 0) (rmOf0 l Z a0 hw [] w_STORED w_REMOVED w_WATCHED w_UNWATCHED w_UNWATCHED_ALL w_CLOCK_READING w_ANSWERED w_UNDELIVERED w_DELIVERED w__VALUES k_ h0 n0 O0 P0 P1 P2 P3 P4 P5 P6 P7 P8 P9 P10 P11 P12 P13 P14 P15 P16 P17 P18 P19 P20 P21 P22 P23 P24 P25 P26 P27 P28 P29) hZ (hw _ (List.mem_of_getElem? (i := 10) rfl)) (hw _ (List.mem_of_getElem? (i := 6) rfl)) (by decide) (by decide)) (g := (mkF m 19 #[.val (.int p0_), .val (.int (1 : Int32)), .val (.int (1 : Int32)), .val (.ref w_STORED), .unset] [(.int (1 : Int32))])) rfl (by rw [hml]; rfl) (argsL := [(.int (1 : Int32))]) (rest := []) (lenOf pd_2 rfl) rfl (by show 2 * 0 + _ ≤ _; exact Nat.le_of_eq rfl) (hb hby at_19) (fun _ _ => ⟨rfl, e5', (by decide : 0 + 1 ≤ _), (by decide : 0 + 9 ≤ _)⟩)
    dsimp only [Pt.U, Pt.locs, Pt.cells, Pt.slots] at X7 l7 y7 z7 st7 hQ7
    subst l7 y7 z7
    obtain ⟨h7, e7⟩ : ∃ z, T7.heap = z := ⟨_, rfl⟩
    rw [e7] at hQ7
    obtain ⟨rfl, N7q, K7⟩ := hQ7
    have N8 := Fr.app N6 N7q
    have f10 : Old Z n0 h7 := O0.keep K7 all0
    have f11 : Exa Z h7 w_STORED "com/example/fawley/fawley/store/Change$Kind" := P1.ext f10.2
    obtain ⟨cq9, kq9, q9a, q9b, q9c⟩ := isOf hZ e7 f11
    obtain ⟨_, _, ⟨T9, L9, k9, n9⟩, -, X9, ⟨Lc9, hQ9, l9, y9, z9⟩, st9⟩ := X7.virtualBack hx (y := (⟨"com/example/fawley/fawley/store/Change$Kind", "code", "()B"⟩ : MethodName)) (z := (⟨"com/example/fawley/fawley/store/Change$Kind", "code", "()B"⟩ : MethodName)) hown (mvT hZ (hw _ (List.mem_of_getElem? (i := 36) rfl))) (mvT hZ (hw _ (List.mem_of_getElem? (i := 37) rfl))) (notFace_of_selects (args := #[]) (mvT hZ (hw _ (List.mem_of_getElem? (i := 39) rfl)))) (mvT hZ (hw _ (List.mem_of_getElem? (i := 39) rfl))) (mvT hZ (hw _ (List.mem_of_getElem? (i := 38) rfl))) (by decide) (backOf (W := 0) (rmCod l Z a0 hw [] w_STORED (1 : Int32) h7 n0 f10 (by decide) P2) hZ (hw _ (List.mem_of_getElem? (i := 40) rfl)) (hw _ (List.mem_of_getElem? (i := 6) rfl)) (by decide) (by decide)) q9a q9c (g := (mkF m 32 #[.val (.int p0_), .val (.int (1 : Int32)), .val (.int (1 : Int32)), .val (.ref w_STORED), .val (.ref w_STORED)] [(.ref w_STORED)])) rfl (by rw [hml]; rfl) (Steps.refl _) (argsL := []) (rest := []) (lenOf pd_3 rfl) rfl (by show 2 * 0 + _ ≤ _; exact Nat.le_of_eq rfl) (hb hby at_32) (fun _ _ => ⟨rfl, e7, (by decide : 1 + 0 ≤ _), (by decide : 9 + 0 ≤ _)⟩)
    dsimp only [Pt.U, Pt.locs, Pt.cells, Pt.slots] at X9 l9 y9 z9 st9 hQ9
    subst l9 y9 z9
    obtain ⟨h9, e9⟩ : ∃ z, T9.heap = z := ⟨_, rfl⟩
    rw [e9] at hQ9
    obtain ⟨rfl, N9q, hh9⟩ := hQ9
    have N12 := Fr.app N8 N9q
    have e9' : T9.heap = h7 := e9.trans hh9
    have pre13 : ∀ t, Steps p.tables e below (T9.setTop (mkF m 44 #[.val (.int p0_), .val (.int (1 : Int32)), .val (.int (1 : Int32)), .val (.ref w_STORED), .val (.ref w_STORED)] [(.int (1 : Int32))])) t → Steps p.tables e below (s₁.setTop (entryFrame m #[(.int p0_)] maxLocals)) t := by
      intro t kt
      refine pre4 t ?_
      show Steps p.tables e below (s₁.setTop (mkF m 7 #[.val (.int p0_), .unset, .unset, .unset, .unset] [(.int (0 : Int32))])) _
      refine XS.iconst X0.here hx rfl (hb hby at_7) ?_
      show Steps p.tables e below (s₁.setTop (mkF m 8 #[.val (.int p0_), .unset, .unset, .unset, .unset] [(.int (1 : Int32)), (.int (0 : Int32))])) _
      refine XS.iadd X0.here hx rfl (hb hby at_8) rfl ?_
      show Steps p.tables e below (s₁.setTop (mkF m 9 #[.val (.int p0_), .unset, .unset, .unset, .unset] [(.int (1 : Int32))])) _
      refine XS.istoreN X0.here hx rfl (hb hby at_9) rfl (l' := #[.val (.int p0_), .val (.int (1 : Int32)), .unset, .unset, .unset]) rfl ?_
      show Steps p.tables e below (s₁.setTop (mkF m 10 #[.val (.int p0_), .val (.int (1 : Int32)), .unset, .unset, .unset] [])) _
      refine XS.iloadN X0.here hx rfl (hb hby at_10) rfl ?_
      show Steps p.tables e below (s₁.setTop (mkF m 11 #[.val (.int p0_), .val (.int (1 : Int32)), .unset, .unset, .unset] [(.int (1 : Int32))])) _
      refine XS.i2b X0.here hx rfl (hb hby at_11) rfl ?_
      show Steps p.tables e below (s₁.setTop (mkF m 12 #[.val (.int p0_), .val (.int (1 : Int32)), .unset, .unset, .unset] [(.int (1 : Int32))])) _
      refine XS.istoreN X0.here hx rfl (hb hby at_12) rfl (l' := #[.val (.int p0_), .val (.int (1 : Int32)), .val (.int (1 : Int32)), .unset, .unset]) rfl ?_
      show Steps p.tables e below (s₁.setTop (mkF m 13 #[.val (.int p0_), .val (.int (1 : Int32)), .val (.int (1 : Int32)), .unset, .unset] [])) _
      refine XS.iloadN X0.here hx rfl (hb hby at_13) rfl ?_
      show Steps p.tables e below (s₁.setTop (mkF m 14 #[.val (.int p0_), .val (.int (1 : Int32)), .val (.int (1 : Int32)), .unset, .unset] [(.int (1 : Int32))])) _
      refine st5 _ ?_
      show Steps p.tables e below (T5.setTop (mkF m 17 #[.val (.int p0_), .val (.int (1 : Int32)), .val (.int (1 : Int32)), .unset, .unset] [(.ref w_STORED)])) _
      refine XS.astoreN X5.here hx rfl (hb hby at_17) rfl rfl (l' := #[.val (.int p0_), .val (.int (1 : Int32)), .val (.int (1 : Int32)), .val (.ref w_STORED), .unset]) rfl ?_
      show Steps p.tables e below (T5.setTop (mkF m 18 #[.val (.int p0_), .val (.int (1 : Int32)), .val (.int (1 : Int32)), .val (.ref w_STORED), .unset] [])) _
      refine XS.iloadN X5.here hx rfl (hb hby at_18) rfl ?_
      show Steps p.tables e below (T5.setTop (mkF m 19 #[.val (.int p0_), .val (.int (1 : Int32)), .val (.int (1 : Int32)), .val (.ref w_STORED), .unset] [(.int (1 : Int32))])) _
      refine st7 _ ?_
      show Steps p.tables e below (T7.setTop (mkF m 22 #[.val (.int p0_), .val (.int (1 : Int32)), .val (.int (1 : Int32)), .val (.ref w_STORED), .unset] [(.ref w_STORED)])) _
      refine XS.astore X7.here hx rfl (hb hby at_22) rfl rfl (l' := #[.val (.int p0_), .val (.int (1 : Int32)), .val (.int (1 : Int32)), .val (.ref w_STORED), .val (.ref w_STORED)]) rfl ?_
      show Steps p.tables e below (T7.setTop (mkF m 24 #[.val (.int p0_), .val (.int (1 : Int32)), .val (.int (1 : Int32)), .val (.ref w_STORED), .val (.ref w_STORED)] [])) _
      refine XS.aload X7.here hx rfl (hb hby at_24) rfl rfl ?_
      show Steps p.tables e below (T7.setTop (mkF m 26 #[.val (.int p0_), .val (.int (1 : Int32)), .val (.int (1 : Int32)), .val (.ref w_STORED), .val (.ref w_STORED)] [(.ref w_STORED)])) _
      refine XS.aloadN X7.here hx rfl (hb hby at_26) rfl rfl ?_
      show Steps p.tables e below (T7.setTop (mkF m 27 #[.val (.int p0_), .val (.int (1 : Int32)), .val (.int (1 : Int32)), .val (.ref w_STORED), .val (.ref w_STORED)] [(.ref w_STORED), (.ref w_STORED)])) _
      refine Jvm.RoadKit.acmp (g := (mkF m 27 #[.val (.int p0_), .val (.int (1 : Int32)), .val (.int (1 : Int32)), .val (.ref w_STORED), .val (.ref w_STORED)] [(.ref w_STORED), (.ref w_STORED)])) X7 hx rfl rfl rfl (pc0 := 27) (pc' := 30) (same := true) rfl (hb hby at_27) rfl (decide_eq_true rfl) (by decide) (by decide) ?_
      show Steps p.tables e below (T7.setTop (mkF m 30 #[.val (.int p0_), .val (.int (1 : Int32)), .val (.int (1 : Int32)), .val (.ref w_STORED), .val (.ref w_STORED)] [])) _
      refine XS.aload X7.here hx rfl (hb hby at_30) rfl rfl ?_
      show Steps p.tables e below (T7.setTop (mkF m 32 #[.val (.int p0_), .val (.int (1 : Int32)), .val (.int (1 : Int32)), .val (.ref w_STORED), .val (.ref w_STORED)] [(.ref w_STORED)])) _
      refine st9.trans ?_
      show Steps p.tables e below (T9.setTop (mkF m 35 #[.val (.int p0_), .val (.int (1 : Int32)), .val (.int (1 : Int32)), .val (.ref w_STORED), .val (.ref w_STORED)] [(.int (1 : Int32))])) _
      refine XS.iloadN X9.here hx rfl (hb hby at_35) rfl ?_
      show Steps p.tables e below (T9.setTop (mkF m 36 #[.val (.int p0_), .val (.int (1 : Int32)), .val (.int (1 : Int32)), .val (.ref w_STORED), .val (.ref w_STORED)] [(.int (1 : Int32)), (.int (1 : Int32))])) _
      refine XS.icmpNo X9.here hx rfl (hb hby at_36) rfl (teq (by decide : (1 : Int32) = (1 : Int32))).2 ?_
      show Steps p.tables e below (T9.setTop (mkF m 39 #[.val (.int p0_), .val (.int (1 : Int32)), .val (.int (1 : Int32)), .val (.ref w_STORED), .val (.ref w_STORED)] [])) _
      refine XS.iconst X9.here hx rfl (hb hby at_39) ?_
      show Steps p.tables e below (T9.setTop (mkF m 40 #[.val (.int p0_), .val (.int (1 : Int32)), .val (.int (1 : Int32)), .val (.ref w_STORED), .val (.ref w_STORED)] [(.int (1 : Int32))])) _
      refine XS.goto X9.here hx rfl (pc0 := 40) (pc' := 44) rfl (hb hby at_40) (by decide) (by decide) ?_
      exact kt
    obtain ⟨fs, hr, hrun, hended, hW, hsame⟩ := X9.leave (v := some (.int (1 : Int32))) (fun h => by rw [Bd.returns] at h; cases h)
    refine ⟨_, _, pre13 _ (retN X9 hx (t := .boolean) Bd.returns (by simp) (hb hby at_44) hr), hrun, hended, _, _, rfl, ?_, ⟨_, rfl⟩, hW, hsame.mono (by decide) (by decide)⟩
    show QLaw Z p0_ w_STORED w_REMOVED w_WATCHED w_UNWATCHED w_UNWATCHED_ALL w_CLOCK_READING w_ANSWERED w_UNDELIVERED w_DELIVERED w__VALUES k_ h0 n0 _ T9.heap _
    rw [e9']
    exact ⟨rfl, N12⟩
  · have pre15 : ∀ t, Steps p.tables e below (s₁.setTop (mkF m 7 #[.val (.int p0_), .unset, .unset, .unset, .unset] [(.int (1 : Int32))])) t → Steps p.tables e below (s₁.setTop (entryFrame m #[(.int p0_)] maxLocals)) t := fun t kt => pre1 t (by rw [hv3]; exact kt)
    obtain ⟨_, _, ⟨T16, L16, k16, n16⟩, -, X16, ⟨Lc16, hQ16, l16, y16, z16⟩, st16⟩ := Jvm.LawKit.callS X0 hx (y := (⟨"com/example/fawley/fawley/store/KindOfPinLaw", "expected", "(I)Lcom/example/fawley/fawley/store/Change$Kind;"⟩ : MethodName)) hown (mvT hZ (hw _ (List.mem_of_getElem? (i := 1) rfl))) (mvT hZ (hw _ (List.mem_of_getElem? (i := 2) rfl))) (mvT hZ (hw _ (List.mem_of_getElem? (i := 3) rfl))) (mvT hZ (hw _ (List.mem_of_getElem? (i := 4) rfl))) (by decide) (backOf (W := 0) (rmExp1 l Z a0 hw [] w_REMOVED h0 n0 O0 P3) hZ (hw _ (List.mem_of_getElem? (i := 4) rfl)) (hw _ (List.mem_of_getElem? (i := 3) rfl)) (by decide) (by decide)) (g := (mkF m 14 #[.val (.int p0_), .val (.int (2 : Int32)), .val (.int (2 : Int32)), .unset, .unset] [(.int (2 : Int32))])) rfl (by rw [hml]; rfl) (argsL := [(.int (2 : Int32))]) (rest := []) (lenOf pd_1 rfl) rfl (by show 2 * 0 + _ ≤ _; exact Nat.le_of_eq rfl) (hb hby at_14) (fun _ _ => ⟨rfl, e0, (by decide : 0 + 0 ≤ _), (by decide : 0 + 0 ≤ _)⟩)
    dsimp only [Pt.U, Pt.locs, Pt.cells, Pt.slots] at X16 l16 y16 z16 st16 hQ16
    subst l16 y16 z16
    obtain ⟨h16, e16⟩ : ∃ z, T16.heap = z := ⟨_, rfl⟩
    rw [e16] at hQ16
    obtain ⟨rfl, N16q, hh16⟩ := hQ16
    have N17 := Fr.app N0 N16q
    have e16' : T16.heap = h0 := e16.trans hh16
    obtain ⟨_, _, ⟨T18, L18, k18, n18⟩, -, X18, ⟨Lc18, hQ18, l18, y18, z18⟩, st18⟩ := Jvm.LawKit.callS X16 hx (y := (⟨"com/example/fawley/fawley/store/Change$Kind", "of", "(B)Lcom/example/fawley/fawley/store/Change$Kind;"⟩ : MethodName)) hown (mvT hZ (hw _ (List.mem_of_getElem? (i := 8) rfl))) (mvT hZ (hw _ (List.mem_of_getElem? (i := 9) rfl))) (mvT hZ (hw _ (List.mem_of_getElem? (i := 6) rfl))) (mvT hZ (hw _ (List.mem_of_getElem? (i := 10) rfl))) (by decide) (backOf (W := 0) (rmOf1 l Z a0 hw [] w_STORED w_REMOVED w_WATCHED w_UNWATCHED w_UNWATCHED_ALL w_CLOCK_READING w_ANSWERED w_UNDELIVERED w_DELIVERED w__VALUES k_ h0 n0 O0 P0 P1 P2 P3 P4 P5 P6 P7 P8 P9 P10 P11 P12 P13 P14 P15 P16 P17 P18 P19 P20 P21 P22 P23 P24 P25 P26 P27 P28 P29) hZ (hw _ (List.mem_of_getElem? (i := 10) rfl)) (hw _ (List.mem_of_getElem? (i := 6) rfl)) (by decide) (by decide)) (g := (mkF m 19 #[.val (.int p0_), .val (.int (2 : Int32)), .val (.int (2 : Int32)), .val (.ref w_REMOVED), .unset] [(.int (2 : Int32))])) rfl (by rw [hml]; rfl) (argsL := [(.int (2 : Int32))]) (rest := []) (lenOf pd_2 rfl) rfl (by show 2 * 0 + _ ≤ _; exact Nat.le_of_eq rfl) (hb hby at_19) (fun _ _ => ⟨rfl, e16', (by decide : 0 + 1 ≤ _), (by decide : 0 + 9 ≤ _)⟩)
    dsimp only [Pt.U, Pt.locs, Pt.cells, Pt.slots] at X18 l18 y18 z18 st18 hQ18
    subst l18 y18 z18
    obtain ⟨h18, e18⟩ : ∃ z, T18.heap = z := ⟨_, rfl⟩
    rw [e18] at hQ18
    obtain ⟨rfl, N18q, K18⟩ := hQ18
    have N19 := Fr.app N17 N18q
    have f21 : Old Z n0 h18 := O0.keep K18 all0
    have f22 : Exa Z h18 w_REMOVED "com/example/fawley/fawley/store/Change$Kind" := P4.ext f21.2
    obtain ⟨cq20, kq20, q20a, q20b, q20c⟩ := isOf hZ e18 f22
    obtain ⟨_, _, ⟨T20, L20, k20, n20⟩, -, X20, ⟨Lc20, hQ20, l20, y20, z20⟩, st20⟩ := X18.virtualBack hx (y := (⟨"com/example/fawley/fawley/store/Change$Kind", "code", "()B"⟩ : MethodName)) (z := (⟨"com/example/fawley/fawley/store/Change$Kind", "code", "()B"⟩ : MethodName)) hown (mvT hZ (hw _ (List.mem_of_getElem? (i := 36) rfl))) (mvT hZ (hw _ (List.mem_of_getElem? (i := 37) rfl))) (notFace_of_selects (args := #[]) (mvT hZ (hw _ (List.mem_of_getElem? (i := 39) rfl)))) (mvT hZ (hw _ (List.mem_of_getElem? (i := 39) rfl))) (mvT hZ (hw _ (List.mem_of_getElem? (i := 38) rfl))) (by decide) (backOf (W := 0) (rmCod l Z a0 hw [] w_REMOVED (2 : Int32) h18 n0 f21 (by decide) P5) hZ (hw _ (List.mem_of_getElem? (i := 40) rfl)) (hw _ (List.mem_of_getElem? (i := 6) rfl)) (by decide) (by decide)) q20a q20c (g := (mkF m 32 #[.val (.int p0_), .val (.int (2 : Int32)), .val (.int (2 : Int32)), .val (.ref w_REMOVED), .val (.ref w_REMOVED)] [(.ref w_REMOVED)])) rfl (by rw [hml]; rfl) (Steps.refl _) (argsL := []) (rest := []) (lenOf pd_3 rfl) rfl (by show 2 * 0 + _ ≤ _; exact Nat.le_of_eq rfl) (hb hby at_32) (fun _ _ => ⟨rfl, e18, (by decide : 1 + 0 ≤ _), (by decide : 9 + 0 ≤ _)⟩)
    dsimp only [Pt.U, Pt.locs, Pt.cells, Pt.slots] at X20 l20 y20 z20 st20 hQ20
    subst l20 y20 z20
    obtain ⟨h20, e20⟩ : ∃ z, T20.heap = z := ⟨_, rfl⟩
    rw [e20] at hQ20
    obtain ⟨rfl, N20q, hh20⟩ := hQ20
    have N23 := Fr.app N19 N20q
    have e20' : T20.heap = h18 := e20.trans hh20
    have pre24 : ∀ t, Steps p.tables e below (T20.setTop (mkF m 44 #[.val (.int p0_), .val (.int (2 : Int32)), .val (.int (2 : Int32)), .val (.ref w_REMOVED), .val (.ref w_REMOVED)] [(.int (1 : Int32))])) t → Steps p.tables e below (s₁.setTop (entryFrame m #[(.int p0_)] maxLocals)) t := by
      intro t kt
      refine pre15 t ?_
      show Steps p.tables e below (s₁.setTop (mkF m 7 #[.val (.int p0_), .unset, .unset, .unset, .unset] [(.int (1 : Int32))])) _
      refine XS.iconst X0.here hx rfl (hb hby at_7) ?_
      show Steps p.tables e below (s₁.setTop (mkF m 8 #[.val (.int p0_), .unset, .unset, .unset, .unset] [(.int (1 : Int32)), (.int (1 : Int32))])) _
      refine XS.iadd X0.here hx rfl (hb hby at_8) rfl ?_
      show Steps p.tables e below (s₁.setTop (mkF m 9 #[.val (.int p0_), .unset, .unset, .unset, .unset] [(.int (2 : Int32))])) _
      refine XS.istoreN X0.here hx rfl (hb hby at_9) rfl (l' := #[.val (.int p0_), .val (.int (2 : Int32)), .unset, .unset, .unset]) rfl ?_
      show Steps p.tables e below (s₁.setTop (mkF m 10 #[.val (.int p0_), .val (.int (2 : Int32)), .unset, .unset, .unset] [])) _
      refine XS.iloadN X0.here hx rfl (hb hby at_10) rfl ?_
      show Steps p.tables e below (s₁.setTop (mkF m 11 #[.val (.int p0_), .val (.int (2 : Int32)), .unset, .unset, .unset] [(.int (2 : Int32))])) _
      refine XS.i2b X0.here hx rfl (hb hby at_11) rfl ?_
      show Steps p.tables e below (s₁.setTop (mkF m 12 #[.val (.int p0_), .val (.int (2 : Int32)), .unset, .unset, .unset] [(.int (2 : Int32))])) _
      refine XS.istoreN X0.here hx rfl (hb hby at_12) rfl (l' := #[.val (.int p0_), .val (.int (2 : Int32)), .val (.int (2 : Int32)), .unset, .unset]) rfl ?_
      show Steps p.tables e below (s₁.setTop (mkF m 13 #[.val (.int p0_), .val (.int (2 : Int32)), .val (.int (2 : Int32)), .unset, .unset] [])) _
      refine XS.iloadN X0.here hx rfl (hb hby at_13) rfl ?_
      show Steps p.tables e below (s₁.setTop (mkF m 14 #[.val (.int p0_), .val (.int (2 : Int32)), .val (.int (2 : Int32)), .unset, .unset] [(.int (2 : Int32))])) _
      refine st16 _ ?_
      show Steps p.tables e below (T16.setTop (mkF m 17 #[.val (.int p0_), .val (.int (2 : Int32)), .val (.int (2 : Int32)), .unset, .unset] [(.ref w_REMOVED)])) _
      refine XS.astoreN X16.here hx rfl (hb hby at_17) rfl rfl (l' := #[.val (.int p0_), .val (.int (2 : Int32)), .val (.int (2 : Int32)), .val (.ref w_REMOVED), .unset]) rfl ?_
      show Steps p.tables e below (T16.setTop (mkF m 18 #[.val (.int p0_), .val (.int (2 : Int32)), .val (.int (2 : Int32)), .val (.ref w_REMOVED), .unset] [])) _
      refine XS.iloadN X16.here hx rfl (hb hby at_18) rfl ?_
      show Steps p.tables e below (T16.setTop (mkF m 19 #[.val (.int p0_), .val (.int (2 : Int32)), .val (.int (2 : Int32)), .val (.ref w_REMOVED), .unset] [(.int (2 : Int32))])) _
      refine st18 _ ?_
      show Steps p.tables e below (T18.setTop (mkF m 22 #[.val (.int p0_), .val (.int (2 : Int32)), .val (.int (2 : Int32)), .val (.ref w_REMOVED), .unset] [(.ref w_REMOVED)])) _
      refine XS.astore X18.here hx rfl (hb hby at_22) rfl rfl (l' := #[.val (.int p0_), .val (.int (2 : Int32)), .val (.int (2 : Int32)), .val (.ref w_REMOVED), .val (.ref w_REMOVED)]) rfl ?_
      show Steps p.tables e below (T18.setTop (mkF m 24 #[.val (.int p0_), .val (.int (2 : Int32)), .val (.int (2 : Int32)), .val (.ref w_REMOVED), .val (.ref w_REMOVED)] [])) _
      refine XS.aload X18.here hx rfl (hb hby at_24) rfl rfl ?_
      show Steps p.tables e below (T18.setTop (mkF m 26 #[.val (.int p0_), .val (.int (2 : Int32)), .val (.int (2 : Int32)), .val (.ref w_REMOVED), .val (.ref w_REMOVED)] [(.ref w_REMOVED)])) _
      refine XS.aloadN X18.here hx rfl (hb hby at_26) rfl rfl ?_
      show Steps p.tables e below (T18.setTop (mkF m 27 #[.val (.int p0_), .val (.int (2 : Int32)), .val (.int (2 : Int32)), .val (.ref w_REMOVED), .val (.ref w_REMOVED)] [(.ref w_REMOVED), (.ref w_REMOVED)])) _
      refine Jvm.RoadKit.acmp (g := (mkF m 27 #[.val (.int p0_), .val (.int (2 : Int32)), .val (.int (2 : Int32)), .val (.ref w_REMOVED), .val (.ref w_REMOVED)] [(.ref w_REMOVED), (.ref w_REMOVED)])) X18 hx rfl rfl rfl (pc0 := 27) (pc' := 30) (same := true) rfl (hb hby at_27) rfl (decide_eq_true rfl) (by decide) (by decide) ?_
      show Steps p.tables e below (T18.setTop (mkF m 30 #[.val (.int p0_), .val (.int (2 : Int32)), .val (.int (2 : Int32)), .val (.ref w_REMOVED), .val (.ref w_REMOVED)] [])) _
      refine XS.aload X18.here hx rfl (hb hby at_30) rfl rfl ?_
      show Steps p.tables e below (T18.setTop (mkF m 32 #[.val (.int p0_), .val (.int (2 : Int32)), .val (.int (2 : Int32)), .val (.ref w_REMOVED), .val (.ref w_REMOVED)] [(.ref w_REMOVED)])) _
      refine st20.trans ?_
      show Steps p.tables e below (T20.setTop (mkF m 35 #[.val (.int p0_), .val (.int (2 : Int32)), .val (.int (2 : Int32)), .val (.ref w_REMOVED), .val (.ref w_REMOVED)] [(.int (2 : Int32))])) _
      refine XS.iloadN X20.here hx rfl (hb hby at_35) rfl ?_
      show Steps p.tables e below (T20.setTop (mkF m 36 #[.val (.int p0_), .val (.int (2 : Int32)), .val (.int (2 : Int32)), .val (.ref w_REMOVED), .val (.ref w_REMOVED)] [(.int (2 : Int32)), (.int (2 : Int32))])) _
      refine XS.icmpNo X20.here hx rfl (hb hby at_36) rfl (teq (by decide : (2 : Int32) = (2 : Int32))).2 ?_
      show Steps p.tables e below (T20.setTop (mkF m 39 #[.val (.int p0_), .val (.int (2 : Int32)), .val (.int (2 : Int32)), .val (.ref w_REMOVED), .val (.ref w_REMOVED)] [])) _
      refine XS.iconst X20.here hx rfl (hb hby at_39) ?_
      show Steps p.tables e below (T20.setTop (mkF m 40 #[.val (.int p0_), .val (.int (2 : Int32)), .val (.int (2 : Int32)), .val (.ref w_REMOVED), .val (.ref w_REMOVED)] [(.int (1 : Int32))])) _
      refine XS.goto X20.here hx rfl (pc0 := 40) (pc' := 44) rfl (hb hby at_40) (by decide) (by decide) ?_
      exact kt
    obtain ⟨fs, hr, hrun, hended, hW, hsame⟩ := X20.leave (v := some (.int (1 : Int32))) (fun h => by rw [Bd.returns] at h; cases h)
    refine ⟨_, _, pre24 _ (retN X20 hx (t := .boolean) Bd.returns (by simp) (hb hby at_44) hr), hrun, hended, _, _, rfl, ?_, ⟨_, rfl⟩, hW, hsame.mono (by decide) (by decide)⟩
    show QLaw Z p0_ w_STORED w_REMOVED w_WATCHED w_UNWATCHED w_UNWATCHED_ALL w_CLOCK_READING w_ANSWERED w_UNDELIVERED w_DELIVERED w__VALUES k_ h0 n0 _ T20.heap _
    rw [e20']
    exact ⟨rfl, N23⟩
  · have pre26 : ∀ t, Steps p.tables e below (s₁.setTop (mkF m 7 #[.val (.int p0_), .unset, .unset, .unset, .unset] [(.int (2 : Int32))])) t → Steps p.tables e below (s₁.setTop (entryFrame m #[(.int p0_)] maxLocals)) t := fun t kt => pre1 t (by rw [hv3]; exact kt)
    obtain ⟨_, _, ⟨T27, L27, k27, n27⟩, -, X27, ⟨Lc27, hQ27, l27, y27, z27⟩, st27⟩ := Jvm.LawKit.callS X0 hx (y := (⟨"com/example/fawley/fawley/store/KindOfPinLaw", "expected", "(I)Lcom/example/fawley/fawley/store/Change$Kind;"⟩ : MethodName)) hown (mvT hZ (hw _ (List.mem_of_getElem? (i := 1) rfl))) (mvT hZ (hw _ (List.mem_of_getElem? (i := 2) rfl))) (mvT hZ (hw _ (List.mem_of_getElem? (i := 3) rfl))) (mvT hZ (hw _ (List.mem_of_getElem? (i := 4) rfl))) (by decide) (backOf (W := 0) (rmExp2 l Z a0 hw [] w_WATCHED h0 n0 O0 P6) hZ (hw _ (List.mem_of_getElem? (i := 4) rfl)) (hw _ (List.mem_of_getElem? (i := 3) rfl)) (by decide) (by decide)) (g := (mkF m 14 #[.val (.int p0_), .val (.int (3 : Int32)), .val (.int (3 : Int32)), .unset, .unset] [(.int (3 : Int32))])) rfl (by rw [hml]; rfl) (argsL := [(.int (3 : Int32))]) (rest := []) (lenOf pd_1 rfl) rfl (by show 2 * 0 + _ ≤ _; exact Nat.le_of_eq rfl) (hb hby at_14) (fun _ _ => ⟨rfl, e0, (by decide : 0 + 0 ≤ _), (by decide : 0 + 0 ≤ _)⟩)
    dsimp only [Pt.U, Pt.locs, Pt.cells, Pt.slots] at X27 l27 y27 z27 st27 hQ27
    subst l27 y27 z27
    obtain ⟨h27, e27⟩ : ∃ z, T27.heap = z := ⟨_, rfl⟩
    rw [e27] at hQ27
    obtain ⟨rfl, N27q, hh27⟩ := hQ27
    have N28 := Fr.app N0 N27q
    have e27' : T27.heap = h0 := e27.trans hh27
    obtain ⟨_, _, ⟨T29, L29, k29, n29⟩, -, X29, ⟨Lc29, hQ29, l29, y29, z29⟩, st29⟩ := Jvm.LawKit.callS X27 hx (y := (⟨"com/example/fawley/fawley/store/Change$Kind", "of", "(B)Lcom/example/fawley/fawley/store/Change$Kind;"⟩ : MethodName)) hown (mvT hZ (hw _ (List.mem_of_getElem? (i := 8) rfl))) (mvT hZ (hw _ (List.mem_of_getElem? (i := 9) rfl))) (mvT hZ (hw _ (List.mem_of_getElem? (i := 6) rfl))) (mvT hZ (hw _ (List.mem_of_getElem? (i := 10) rfl))) (by decide) (backOf (W := 0) (rmOf2 l Z a0 hw [] w_STORED w_REMOVED w_WATCHED w_UNWATCHED w_UNWATCHED_ALL w_CLOCK_READING w_ANSWERED w_UNDELIVERED w_DELIVERED w__VALUES k_ h0 n0 O0 P0 P1 P2 P3 P4 P5 P6 P7 P8 P9 P10 P11 P12 P13 P14 P15 P16 P17 P18 P19 P20 P21 P22 P23 P24 P25 P26 P27 P28 P29) hZ (hw _ (List.mem_of_getElem? (i := 10) rfl)) (hw _ (List.mem_of_getElem? (i := 6) rfl)) (by decide) (by decide)) (g := (mkF m 19 #[.val (.int p0_), .val (.int (3 : Int32)), .val (.int (3 : Int32)), .val (.ref w_WATCHED), .unset] [(.int (3 : Int32))])) rfl (by rw [hml]; rfl) (argsL := [(.int (3 : Int32))]) (rest := []) (lenOf pd_2 rfl) rfl (by show 2 * 0 + _ ≤ _; exact Nat.le_of_eq rfl) (hb hby at_19) (fun _ _ => ⟨rfl, e27', (by decide : 0 + 1 ≤ _), (by decide : 0 + 9 ≤ _)⟩)
    dsimp only [Pt.U, Pt.locs, Pt.cells, Pt.slots] at X29 l29 y29 z29 st29 hQ29
    subst l29 y29 z29
    obtain ⟨h29, e29⟩ : ∃ z, T29.heap = z := ⟨_, rfl⟩
    rw [e29] at hQ29
    obtain ⟨rfl, N29q, K29⟩ := hQ29
    have N30 := Fr.app N28 N29q
    have f32 : Old Z n0 h29 := O0.keep K29 all0
    have f33 : Exa Z h29 w_WATCHED "com/example/fawley/fawley/store/Change$Kind" := P7.ext f32.2
    obtain ⟨cq31, kq31, q31a, q31b, q31c⟩ := isOf hZ e29 f33
    obtain ⟨_, _, ⟨T31, L31, k31, n31⟩, -, X31, ⟨Lc31, hQ31, l31, y31, z31⟩, st31⟩ := X29.virtualBack hx (y := (⟨"com/example/fawley/fawley/store/Change$Kind", "code", "()B"⟩ : MethodName)) (z := (⟨"com/example/fawley/fawley/store/Change$Kind", "code", "()B"⟩ : MethodName)) hown (mvT hZ (hw _ (List.mem_of_getElem? (i := 36) rfl))) (mvT hZ (hw _ (List.mem_of_getElem? (i := 37) rfl))) (notFace_of_selects (args := #[]) (mvT hZ (hw _ (List.mem_of_getElem? (i := 39) rfl)))) (mvT hZ (hw _ (List.mem_of_getElem? (i := 39) rfl))) (mvT hZ (hw _ (List.mem_of_getElem? (i := 38) rfl))) (by decide) (backOf (W := 0) (rmCod l Z a0 hw [] w_WATCHED (3 : Int32) h29 n0 f32 (by decide) P8) hZ (hw _ (List.mem_of_getElem? (i := 40) rfl)) (hw _ (List.mem_of_getElem? (i := 6) rfl)) (by decide) (by decide)) q31a q31c (g := (mkF m 32 #[.val (.int p0_), .val (.int (3 : Int32)), .val (.int (3 : Int32)), .val (.ref w_WATCHED), .val (.ref w_WATCHED)] [(.ref w_WATCHED)])) rfl (by rw [hml]; rfl) (Steps.refl _) (argsL := []) (rest := []) (lenOf pd_3 rfl) rfl (by show 2 * 0 + _ ≤ _; exact Nat.le_of_eq rfl) (hb hby at_32) (fun _ _ => ⟨rfl, e29, (by decide : 1 + 0 ≤ _), (by decide : 9 + 0 ≤ _)⟩)
    dsimp only [Pt.U, Pt.locs, Pt.cells, Pt.slots] at X31 l31 y31 z31 st31 hQ31
    subst l31 y31 z31
    obtain ⟨h31, e31⟩ : ∃ z, T31.heap = z := ⟨_, rfl⟩
    rw [e31] at hQ31
    obtain ⟨rfl, N31q, hh31⟩ := hQ31
    have N34 := Fr.app N30 N31q
    have e31' : T31.heap = h29 := e31.trans hh31
    have pre35 : ∀ t, Steps p.tables e below (T31.setTop (mkF m 44 #[.val (.int p0_), .val (.int (3 : Int32)), .val (.int (3 : Int32)), .val (.ref w_WATCHED), .val (.ref w_WATCHED)] [(.int (1 : Int32))])) t → Steps p.tables e below (s₁.setTop (entryFrame m #[(.int p0_)] maxLocals)) t := by
      intro t kt
      refine pre26 t ?_
      show Steps p.tables e below (s₁.setTop (mkF m 7 #[.val (.int p0_), .unset, .unset, .unset, .unset] [(.int (2 : Int32))])) _
      refine XS.iconst X0.here hx rfl (hb hby at_7) ?_
      show Steps p.tables e below (s₁.setTop (mkF m 8 #[.val (.int p0_), .unset, .unset, .unset, .unset] [(.int (1 : Int32)), (.int (2 : Int32))])) _
      refine XS.iadd X0.here hx rfl (hb hby at_8) rfl ?_
      show Steps p.tables e below (s₁.setTop (mkF m 9 #[.val (.int p0_), .unset, .unset, .unset, .unset] [(.int (3 : Int32))])) _
      refine XS.istoreN X0.here hx rfl (hb hby at_9) rfl (l' := #[.val (.int p0_), .val (.int (3 : Int32)), .unset, .unset, .unset]) rfl ?_
      show Steps p.tables e below (s₁.setTop (mkF m 10 #[.val (.int p0_), .val (.int (3 : Int32)), .unset, .unset, .unset] [])) _
      refine XS.iloadN X0.here hx rfl (hb hby at_10) rfl ?_
      show Steps p.tables e below (s₁.setTop (mkF m 11 #[.val (.int p0_), .val (.int (3 : Int32)), .unset, .unset, .unset] [(.int (3 : Int32))])) _
      refine XS.i2b X0.here hx rfl (hb hby at_11) rfl ?_
      show Steps p.tables e below (s₁.setTop (mkF m 12 #[.val (.int p0_), .val (.int (3 : Int32)), .unset, .unset, .unset] [(.int (3 : Int32))])) _
      refine XS.istoreN X0.here hx rfl (hb hby at_12) rfl (l' := #[.val (.int p0_), .val (.int (3 : Int32)), .val (.int (3 : Int32)), .unset, .unset]) rfl ?_
      show Steps p.tables e below (s₁.setTop (mkF m 13 #[.val (.int p0_), .val (.int (3 : Int32)), .val (.int (3 : Int32)), .unset, .unset] [])) _
      refine XS.iloadN X0.here hx rfl (hb hby at_13) rfl ?_
      show Steps p.tables e below (s₁.setTop (mkF m 14 #[.val (.int p0_), .val (.int (3 : Int32)), .val (.int (3 : Int32)), .unset, .unset] [(.int (3 : Int32))])) _
      refine st27 _ ?_
      show Steps p.tables e below (T27.setTop (mkF m 17 #[.val (.int p0_), .val (.int (3 : Int32)), .val (.int (3 : Int32)), .unset, .unset] [(.ref w_WATCHED)])) _
      refine XS.astoreN X27.here hx rfl (hb hby at_17) rfl rfl (l' := #[.val (.int p0_), .val (.int (3 : Int32)), .val (.int (3 : Int32)), .val (.ref w_WATCHED), .unset]) rfl ?_
      show Steps p.tables e below (T27.setTop (mkF m 18 #[.val (.int p0_), .val (.int (3 : Int32)), .val (.int (3 : Int32)), .val (.ref w_WATCHED), .unset] [])) _
      refine XS.iloadN X27.here hx rfl (hb hby at_18) rfl ?_
      show Steps p.tables e below (T27.setTop (mkF m 19 #[.val (.int p0_), .val (.int (3 : Int32)), .val (.int (3 : Int32)), .val (.ref w_WATCHED), .unset] [(.int (3 : Int32))])) _
      refine st29 _ ?_
      show Steps p.tables e below (T29.setTop (mkF m 22 #[.val (.int p0_), .val (.int (3 : Int32)), .val (.int (3 : Int32)), .val (.ref w_WATCHED), .unset] [(.ref w_WATCHED)])) _
      refine XS.astore X29.here hx rfl (hb hby at_22) rfl rfl (l' := #[.val (.int p0_), .val (.int (3 : Int32)), .val (.int (3 : Int32)), .val (.ref w_WATCHED), .val (.ref w_WATCHED)]) rfl ?_
      show Steps p.tables e below (T29.setTop (mkF m 24 #[.val (.int p0_), .val (.int (3 : Int32)), .val (.int (3 : Int32)), .val (.ref w_WATCHED), .val (.ref w_WATCHED)] [])) _
      refine XS.aload X29.here hx rfl (hb hby at_24) rfl rfl ?_
      show Steps p.tables e below (T29.setTop (mkF m 26 #[.val (.int p0_), .val (.int (3 : Int32)), .val (.int (3 : Int32)), .val (.ref w_WATCHED), .val (.ref w_WATCHED)] [(.ref w_WATCHED)])) _
      refine XS.aloadN X29.here hx rfl (hb hby at_26) rfl rfl ?_
      show Steps p.tables e below (T29.setTop (mkF m 27 #[.val (.int p0_), .val (.int (3 : Int32)), .val (.int (3 : Int32)), .val (.ref w_WATCHED), .val (.ref w_WATCHED)] [(.ref w_WATCHED), (.ref w_WATCHED)])) _
      refine Jvm.RoadKit.acmp (g := (mkF m 27 #[.val (.int p0_), .val (.int (3 : Int32)), .val (.int (3 : Int32)), .val (.ref w_WATCHED), .val (.ref w_WATCHED)] [(.ref w_WATCHED), (.ref w_WATCHED)])) X29 hx rfl rfl rfl (pc0 := 27) (pc' := 30) (same := true) rfl (hb hby at_27) rfl (decide_eq_true rfl) (by decide) (by decide) ?_
      show Steps p.tables e below (T29.setTop (mkF m 30 #[.val (.int p0_), .val (.int (3 : Int32)), .val (.int (3 : Int32)), .val (.ref w_WATCHED), .val (.ref w_WATCHED)] [])) _
      refine XS.aload X29.here hx rfl (hb hby at_30) rfl rfl ?_
      show Steps p.tables e below (T29.setTop (mkF m 32 #[.val (.int p0_), .val (.int (3 : Int32)), .val (.int (3 : Int32)), .val (.ref w_WATCHED), .val (.ref w_WATCHED)] [(.ref w_WATCHED)])) _
      refine st31.trans ?_
      show Steps p.tables e below (T31.setTop (mkF m 35 #[.val (.int p0_), .val (.int (3 : Int32)), .val (.int (3 : Int32)), .val (.ref w_WATCHED), .val (.ref w_WATCHED)] [(.int (3 : Int32))])) _
      refine XS.iloadN X31.here hx rfl (hb hby at_35) rfl ?_
      show Steps p.tables e below (T31.setTop (mkF m 36 #[.val (.int p0_), .val (.int (3 : Int32)), .val (.int (3 : Int32)), .val (.ref w_WATCHED), .val (.ref w_WATCHED)] [(.int (3 : Int32)), (.int (3 : Int32))])) _
      refine XS.icmpNo X31.here hx rfl (hb hby at_36) rfl (teq (by decide : (3 : Int32) = (3 : Int32))).2 ?_
      show Steps p.tables e below (T31.setTop (mkF m 39 #[.val (.int p0_), .val (.int (3 : Int32)), .val (.int (3 : Int32)), .val (.ref w_WATCHED), .val (.ref w_WATCHED)] [])) _
      refine XS.iconst X31.here hx rfl (hb hby at_39) ?_
      show Steps p.tables e below (T31.setTop (mkF m 40 #[.val (.int p0_), .val (.int (3 : Int32)), .val (.int (3 : Int32)), .val (.ref w_WATCHED), .val (.ref w_WATCHED)] [(.int (1 : Int32))])) _
      refine XS.goto X31.here hx rfl (pc0 := 40) (pc' := 44) rfl (hb hby at_40) (by decide) (by decide) ?_
      exact kt
    obtain ⟨fs, hr, hrun, hended, hW, hsame⟩ := X31.leave (v := some (.int (1 : Int32))) (fun h => by rw [Bd.returns] at h; cases h)
    refine ⟨_, _, pre35 _ (retN X31 hx (t := .boolean) Bd.returns (by simp) (hb hby at_44) hr), hrun, hended, _, _, rfl, ?_, ⟨_, rfl⟩, hW, hsame.mono (by decide) (by decide)⟩
    show QLaw Z p0_ w_STORED w_REMOVED w_WATCHED w_UNWATCHED w_UNWATCHED_ALL w_CLOCK_READING w_ANSWERED w_UNDELIVERED w_DELIVERED w__VALUES k_ h0 n0 _ T31.heap _
    rw [e31']
    exact ⟨rfl, N34⟩
  · have pre37 : ∀ t, Steps p.tables e below (s₁.setTop (mkF m 7 #[.val (.int p0_), .unset, .unset, .unset, .unset] [(.int (3 : Int32))])) t → Steps p.tables e below (s₁.setTop (entryFrame m #[(.int p0_)] maxLocals)) t := fun t kt => pre1 t (by rw [hv3]; exact kt)
    obtain ⟨_, _, ⟨T38, L38, k38, n38⟩, -, X38, ⟨Lc38, hQ38, l38, y38, z38⟩, st38⟩ := Jvm.LawKit.callS X0 hx (y := (⟨"com/example/fawley/fawley/store/KindOfPinLaw", "expected", "(I)Lcom/example/fawley/fawley/store/Change$Kind;"⟩ : MethodName)) hown (mvT hZ (hw _ (List.mem_of_getElem? (i := 1) rfl))) (mvT hZ (hw _ (List.mem_of_getElem? (i := 2) rfl))) (mvT hZ (hw _ (List.mem_of_getElem? (i := 3) rfl))) (mvT hZ (hw _ (List.mem_of_getElem? (i := 4) rfl))) (by decide) (backOf (W := 0) (rmExp3 l Z a0 hw [] w_UNWATCHED h0 n0 O0 P9) hZ (hw _ (List.mem_of_getElem? (i := 4) rfl)) (hw _ (List.mem_of_getElem? (i := 3) rfl)) (by decide) (by decide)) (g := (mkF m 14 #[.val (.int p0_), .val (.int (4 : Int32)), .val (.int (4 : Int32)), .unset, .unset] [(.int (4 : Int32))])) rfl (by rw [hml]; rfl) (argsL := [(.int (4 : Int32))]) (rest := []) (lenOf pd_1 rfl) rfl (by show 2 * 0 + _ ≤ _; exact Nat.le_of_eq rfl) (hb hby at_14) (fun _ _ => ⟨rfl, e0, (by decide : 0 + 0 ≤ _), (by decide : 0 + 0 ≤ _)⟩)
    dsimp only [Pt.U, Pt.locs, Pt.cells, Pt.slots] at X38 l38 y38 z38 st38 hQ38
    subst l38 y38 z38
    obtain ⟨h38, e38⟩ : ∃ z, T38.heap = z := ⟨_, rfl⟩
    rw [e38] at hQ38
    obtain ⟨rfl, N38q, hh38⟩ := hQ38
    have N39 := Fr.app N0 N38q
    have e38' : T38.heap = h0 := e38.trans hh38
    obtain ⟨_, _, ⟨T40, L40, k40, n40⟩, -, X40, ⟨Lc40, hQ40, l40, y40, z40⟩, st40⟩ := Jvm.LawKit.callS X38 hx (y := (⟨"com/example/fawley/fawley/store/Change$Kind", "of", "(B)Lcom/example/fawley/fawley/store/Change$Kind;"⟩ : MethodName)) hown (mvT hZ (hw _ (List.mem_of_getElem? (i := 8) rfl))) (mvT hZ (hw _ (List.mem_of_getElem? (i := 9) rfl))) (mvT hZ (hw _ (List.mem_of_getElem? (i := 6) rfl))) (mvT hZ (hw _ (List.mem_of_getElem? (i := 10) rfl))) (by decide) (backOf (W := 0) (rmOf3 l Z a0 hw [] w_STORED w_REMOVED w_WATCHED w_UNWATCHED w_UNWATCHED_ALL w_CLOCK_READING w_ANSWERED w_UNDELIVERED w_DELIVERED w__VALUES k_ h0 n0 O0 P0 P1 P2 P3 P4 P5 P6 P7 P8 P9 P10 P11 P12 P13 P14 P15 P16 P17 P18 P19 P20 P21 P22 P23 P24 P25 P26 P27 P28 P29) hZ (hw _ (List.mem_of_getElem? (i := 10) rfl)) (hw _ (List.mem_of_getElem? (i := 6) rfl)) (by decide) (by decide)) (g := (mkF m 19 #[.val (.int p0_), .val (.int (4 : Int32)), .val (.int (4 : Int32)), .val (.ref w_UNWATCHED), .unset] [(.int (4 : Int32))])) rfl (by rw [hml]; rfl) (argsL := [(.int (4 : Int32))]) (rest := []) (lenOf pd_2 rfl) rfl (by show 2 * 0 + _ ≤ _; exact Nat.le_of_eq rfl) (hb hby at_19) (fun _ _ => ⟨rfl, e38', (by decide : 0 + 1 ≤ _), (by decide : 0 + 9 ≤ _)⟩)
    dsimp only [Pt.U, Pt.locs, Pt.cells, Pt.slots] at X40 l40 y40 z40 st40 hQ40
    subst l40 y40 z40
    obtain ⟨h40, e40⟩ : ∃ z, T40.heap = z := ⟨_, rfl⟩
    rw [e40] at hQ40
    obtain ⟨rfl, N40q, K40⟩ := hQ40
    have N41 := Fr.app N39 N40q
    have f43 : Old Z n0 h40 := O0.keep K40 all0
    have f44 : Exa Z h40 w_UNWATCHED "com/example/fawley/fawley/store/Change$Kind" := P10.ext f43.2
    obtain ⟨cq42, kq42, q42a, q42b, q42c⟩ := isOf hZ e40 f44
    obtain ⟨_, _, ⟨T42, L42, k42, n42⟩, -, X42, ⟨Lc42, hQ42, l42, y42, z42⟩, st42⟩ := X40.virtualBack hx (y := (⟨"com/example/fawley/fawley/store/Change$Kind", "code", "()B"⟩ : MethodName)) (z := (⟨"com/example/fawley/fawley/store/Change$Kind", "code", "()B"⟩ : MethodName)) hown (mvT hZ (hw _ (List.mem_of_getElem? (i := 36) rfl))) (mvT hZ (hw _ (List.mem_of_getElem? (i := 37) rfl))) (notFace_of_selects (args := #[]) (mvT hZ (hw _ (List.mem_of_getElem? (i := 39) rfl)))) (mvT hZ (hw _ (List.mem_of_getElem? (i := 39) rfl))) (mvT hZ (hw _ (List.mem_of_getElem? (i := 38) rfl))) (by decide) (backOf (W := 0) (rmCod l Z a0 hw [] w_UNWATCHED (4 : Int32) h40 n0 f43 (by decide) P11) hZ (hw _ (List.mem_of_getElem? (i := 40) rfl)) (hw _ (List.mem_of_getElem? (i := 6) rfl)) (by decide) (by decide)) q42a q42c (g := (mkF m 32 #[.val (.int p0_), .val (.int (4 : Int32)), .val (.int (4 : Int32)), .val (.ref w_UNWATCHED), .val (.ref w_UNWATCHED)] [(.ref w_UNWATCHED)])) rfl (by rw [hml]; rfl) (Steps.refl _) (argsL := []) (rest := []) (lenOf pd_3 rfl) rfl (by show 2 * 0 + _ ≤ _; exact Nat.le_of_eq rfl) (hb hby at_32) (fun _ _ => ⟨rfl, e40, (by decide : 1 + 0 ≤ _), (by decide : 9 + 0 ≤ _)⟩)
    dsimp only [Pt.U, Pt.locs, Pt.cells, Pt.slots] at X42 l42 y42 z42 st42 hQ42
    subst l42 y42 z42
    obtain ⟨h42, e42⟩ : ∃ z, T42.heap = z := ⟨_, rfl⟩
    rw [e42] at hQ42
    obtain ⟨rfl, N42q, hh42⟩ := hQ42
    have N45 := Fr.app N41 N42q
    have e42' : T42.heap = h40 := e42.trans hh42
    have pre46 : ∀ t, Steps p.tables e below (T42.setTop (mkF m 44 #[.val (.int p0_), .val (.int (4 : Int32)), .val (.int (4 : Int32)), .val (.ref w_UNWATCHED), .val (.ref w_UNWATCHED)] [(.int (1 : Int32))])) t → Steps p.tables e below (s₁.setTop (entryFrame m #[(.int p0_)] maxLocals)) t := by
      intro t kt
      refine pre37 t ?_
      show Steps p.tables e below (s₁.setTop (mkF m 7 #[.val (.int p0_), .unset, .unset, .unset, .unset] [(.int (3 : Int32))])) _
      refine XS.iconst X0.here hx rfl (hb hby at_7) ?_
      show Steps p.tables e below (s₁.setTop (mkF m 8 #[.val (.int p0_), .unset, .unset, .unset, .unset] [(.int (1 : Int32)), (.int (3 : Int32))])) _
      refine XS.iadd X0.here hx rfl (hb hby at_8) rfl ?_
      show Steps p.tables e below (s₁.setTop (mkF m 9 #[.val (.int p0_), .unset, .unset, .unset, .unset] [(.int (4 : Int32))])) _
      refine XS.istoreN X0.here hx rfl (hb hby at_9) rfl (l' := #[.val (.int p0_), .val (.int (4 : Int32)), .unset, .unset, .unset]) rfl ?_
      show Steps p.tables e below (s₁.setTop (mkF m 10 #[.val (.int p0_), .val (.int (4 : Int32)), .unset, .unset, .unset] [])) _
      refine XS.iloadN X0.here hx rfl (hb hby at_10) rfl ?_
      show Steps p.tables e below (s₁.setTop (mkF m 11 #[.val (.int p0_), .val (.int (4 : Int32)), .unset, .unset, .unset] [(.int (4 : Int32))])) _
      refine XS.i2b X0.here hx rfl (hb hby at_11) rfl ?_
      show Steps p.tables e below (s₁.setTop (mkF m 12 #[.val (.int p0_), .val (.int (4 : Int32)), .unset, .unset, .unset] [(.int (4 : Int32))])) _
      refine XS.istoreN X0.here hx rfl (hb hby at_12) rfl (l' := #[.val (.int p0_), .val (.int (4 : Int32)), .val (.int (4 : Int32)), .unset, .unset]) rfl ?_
      show Steps p.tables e below (s₁.setTop (mkF m 13 #[.val (.int p0_), .val (.int (4 : Int32)), .val (.int (4 : Int32)), .unset, .unset] [])) _
      refine XS.iloadN X0.here hx rfl (hb hby at_13) rfl ?_
      show Steps p.tables e below (s₁.setTop (mkF m 14 #[.val (.int p0_), .val (.int (4 : Int32)), .val (.int (4 : Int32)), .unset, .unset] [(.int (4 : Int32))])) _
      refine st38 _ ?_
      show Steps p.tables e below (T38.setTop (mkF m 17 #[.val (.int p0_), .val (.int (4 : Int32)), .val (.int (4 : Int32)), .unset, .unset] [(.ref w_UNWATCHED)])) _
      refine XS.astoreN X38.here hx rfl (hb hby at_17) rfl rfl (l' := #[.val (.int p0_), .val (.int (4 : Int32)), .val (.int (4 : Int32)), .val (.ref w_UNWATCHED), .unset]) rfl ?_
      show Steps p.tables e below (T38.setTop (mkF m 18 #[.val (.int p0_), .val (.int (4 : Int32)), .val (.int (4 : Int32)), .val (.ref w_UNWATCHED), .unset] [])) _
      refine XS.iloadN X38.here hx rfl (hb hby at_18) rfl ?_
      show Steps p.tables e below (T38.setTop (mkF m 19 #[.val (.int p0_), .val (.int (4 : Int32)), .val (.int (4 : Int32)), .val (.ref w_UNWATCHED), .unset] [(.int (4 : Int32))])) _
      refine st40 _ ?_
      show Steps p.tables e below (T40.setTop (mkF m 22 #[.val (.int p0_), .val (.int (4 : Int32)), .val (.int (4 : Int32)), .val (.ref w_UNWATCHED), .unset] [(.ref w_UNWATCHED)])) _
      refine XS.astore X40.here hx rfl (hb hby at_22) rfl rfl (l' := #[.val (.int p0_), .val (.int (4 : Int32)), .val (.int (4 : Int32)), .val (.ref w_UNWATCHED), .val (.ref w_UNWATCHED)]) rfl ?_
      show Steps p.tables e below (T40.setTop (mkF m 24 #[.val (.int p0_), .val (.int (4 : Int32)), .val (.int (4 : Int32)), .val (.ref w_UNWATCHED), .val (.ref w_UNWATCHED)] [])) _
      refine XS.aload X40.here hx rfl (hb hby at_24) rfl rfl ?_
      show Steps p.tables e below (T40.setTop (mkF m 26 #[.val (.int p0_), .val (.int (4 : Int32)), .val (.int (4 : Int32)), .val (.ref w_UNWATCHED), .val (.ref w_UNWATCHED)] [(.ref w_UNWATCHED)])) _
      refine XS.aloadN X40.here hx rfl (hb hby at_26) rfl rfl ?_
      show Steps p.tables e below (T40.setTop (mkF m 27 #[.val (.int p0_), .val (.int (4 : Int32)), .val (.int (4 : Int32)), .val (.ref w_UNWATCHED), .val (.ref w_UNWATCHED)] [(.ref w_UNWATCHED), (.ref w_UNWATCHED)])) _
      refine Jvm.RoadKit.acmp (g := (mkF m 27 #[.val (.int p0_), .val (.int (4 : Int32)), .val (.int (4 : Int32)), .val (.ref w_UNWATCHED), .val (.ref w_UNWATCHED)] [(.ref w_UNWATCHED), (.ref w_UNWATCHED)])) X40 hx rfl rfl rfl (pc0 := 27) (pc' := 30) (same := true) rfl (hb hby at_27) rfl (decide_eq_true rfl) (by decide) (by decide) ?_
      show Steps p.tables e below (T40.setTop (mkF m 30 #[.val (.int p0_), .val (.int (4 : Int32)), .val (.int (4 : Int32)), .val (.ref w_UNWATCHED), .val (.ref w_UNWATCHED)] [])) _
      refine XS.aload X40.here hx rfl (hb hby at_30) rfl rfl ?_
      show Steps p.tables e below (T40.setTop (mkF m 32 #[.val (.int p0_), .val (.int (4 : Int32)), .val (.int (4 : Int32)), .val (.ref w_UNWATCHED), .val (.ref w_UNWATCHED)] [(.ref w_UNWATCHED)])) _
      refine st42.trans ?_
      show Steps p.tables e below (T42.setTop (mkF m 35 #[.val (.int p0_), .val (.int (4 : Int32)), .val (.int (4 : Int32)), .val (.ref w_UNWATCHED), .val (.ref w_UNWATCHED)] [(.int (4 : Int32))])) _
      refine XS.iloadN X42.here hx rfl (hb hby at_35) rfl ?_
      show Steps p.tables e below (T42.setTop (mkF m 36 #[.val (.int p0_), .val (.int (4 : Int32)), .val (.int (4 : Int32)), .val (.ref w_UNWATCHED), .val (.ref w_UNWATCHED)] [(.int (4 : Int32)), (.int (4 : Int32))])) _
      refine XS.icmpNo X42.here hx rfl (hb hby at_36) rfl (teq (by decide : (4 : Int32) = (4 : Int32))).2 ?_
      show Steps p.tables e below (T42.setTop (mkF m 39 #[.val (.int p0_), .val (.int (4 : Int32)), .val (.int (4 : Int32)), .val (.ref w_UNWATCHED), .val (.ref w_UNWATCHED)] [])) _
      refine XS.iconst X42.here hx rfl (hb hby at_39) ?_
      show Steps p.tables e below (T42.setTop (mkF m 40 #[.val (.int p0_), .val (.int (4 : Int32)), .val (.int (4 : Int32)), .val (.ref w_UNWATCHED), .val (.ref w_UNWATCHED)] [(.int (1 : Int32))])) _
      refine XS.goto X42.here hx rfl (pc0 := 40) (pc' := 44) rfl (hb hby at_40) (by decide) (by decide) ?_
      exact kt
    obtain ⟨fs, hr, hrun, hended, hW, hsame⟩ := X42.leave (v := some (.int (1 : Int32))) (fun h => by rw [Bd.returns] at h; cases h)
    refine ⟨_, _, pre46 _ (retN X42 hx (t := .boolean) Bd.returns (by simp) (hb hby at_44) hr), hrun, hended, _, _, rfl, ?_, ⟨_, rfl⟩, hW, hsame.mono (by decide) (by decide)⟩
    show QLaw Z p0_ w_STORED w_REMOVED w_WATCHED w_UNWATCHED w_UNWATCHED_ALL w_CLOCK_READING w_ANSWERED w_UNDELIVERED w_DELIVERED w__VALUES k_ h0 n0 _ T42.heap _
    rw [e42']
    exact ⟨rfl, N45⟩
  · have pre48 : ∀ t, Steps p.tables e below (s₁.setTop (mkF m 7 #[.val (.int p0_), .unset, .unset, .unset, .unset] [(.int (4 : Int32))])) t → Steps p.tables e below (s₁.setTop (entryFrame m #[(.int p0_)] maxLocals)) t := fun t kt => pre1 t (by rw [hv3]; exact kt)
    obtain ⟨_, _, ⟨T49, L49, k49, n49⟩, -, X49, ⟨Lc49, hQ49, l49, y49, z49⟩, st49⟩ := Jvm.LawKit.callS X0 hx (y := (⟨"com/example/fawley/fawley/store/KindOfPinLaw", "expected", "(I)Lcom/example/fawley/fawley/store/Change$Kind;"⟩ : MethodName)) hown (mvT hZ (hw _ (List.mem_of_getElem? (i := 1) rfl))) (mvT hZ (hw _ (List.mem_of_getElem? (i := 2) rfl))) (mvT hZ (hw _ (List.mem_of_getElem? (i := 3) rfl))) (mvT hZ (hw _ (List.mem_of_getElem? (i := 4) rfl))) (by decide) (backOf (W := 0) (rmExp4 l Z a0 hw [] w_UNWATCHED_ALL h0 n0 O0 P12) hZ (hw _ (List.mem_of_getElem? (i := 4) rfl)) (hw _ (List.mem_of_getElem? (i := 3) rfl)) (by decide) (by decide)) (g := (mkF m 14 #[.val (.int p0_), .val (.int (5 : Int32)), .val (.int (5 : Int32)), .unset, .unset] [(.int (5 : Int32))])) rfl (by rw [hml]; rfl) (argsL := [(.int (5 : Int32))]) (rest := []) (lenOf pd_1 rfl) rfl (by show 2 * 0 + _ ≤ _; exact Nat.le_of_eq rfl) (hb hby at_14) (fun _ _ => ⟨rfl, e0, (by decide : 0 + 0 ≤ _), (by decide : 0 + 0 ≤ _)⟩)
    dsimp only [Pt.U, Pt.locs, Pt.cells, Pt.slots] at X49 l49 y49 z49 st49 hQ49
    subst l49 y49 z49
    obtain ⟨h49, e49⟩ : ∃ z, T49.heap = z := ⟨_, rfl⟩
    rw [e49] at hQ49
    obtain ⟨rfl, N49q, hh49⟩ := hQ49
    have N50 := Fr.app N0 N49q
    have e49' : T49.heap = h0 := e49.trans hh49
    obtain ⟨_, _, ⟨T51, L51, k51, n51⟩, -, X51, ⟨Lc51, hQ51, l51, y51, z51⟩, st51⟩ := Jvm.LawKit.callS X49 hx (y := (⟨"com/example/fawley/fawley/store/Change$Kind", "of", "(B)Lcom/example/fawley/fawley/store/Change$Kind;"⟩ : MethodName)) hown (mvT hZ (hw _ (List.mem_of_getElem? (i := 8) rfl))) (mvT hZ (hw _ (List.mem_of_getElem? (i := 9) rfl))) (mvT hZ (hw _ (List.mem_of_getElem? (i := 6) rfl))) (mvT hZ (hw _ (List.mem_of_getElem? (i := 10) rfl))) (by decide) (backOf (W := 0) (rmOf4 l Z a0 hw [] w_STORED w_REMOVED w_WATCHED w_UNWATCHED w_UNWATCHED_ALL w_CLOCK_READING w_ANSWERED w_UNDELIVERED w_DELIVERED w__VALUES k_ h0 n0 O0 P0 P1 P2 P3 P4 P5 P6 P7 P8 P9 P10 P11 P12 P13 P14 P15 P16 P17 P18 P19 P20 P21 P22 P23 P24 P25 P26 P27 P28 P29) hZ (hw _ (List.mem_of_getElem? (i := 10) rfl)) (hw _ (List.mem_of_getElem? (i := 6) rfl)) (by decide) (by decide)) (g := (mkF m 19 #[.val (.int p0_), .val (.int (5 : Int32)), .val (.int (5 : Int32)), .val (.ref w_UNWATCHED_ALL), .unset] [(.int (5 : Int32))])) rfl (by rw [hml]; rfl) (argsL := [(.int (5 : Int32))]) (rest := []) (lenOf pd_2 rfl) rfl (by show 2 * 0 + _ ≤ _; exact Nat.le_of_eq rfl) (hb hby at_19) (fun _ _ => ⟨rfl, e49', (by decide : 0 + 1 ≤ _), (by decide : 0 + 9 ≤ _)⟩)
    dsimp only [Pt.U, Pt.locs, Pt.cells, Pt.slots] at X51 l51 y51 z51 st51 hQ51
    subst l51 y51 z51
    obtain ⟨h51, e51⟩ : ∃ z, T51.heap = z := ⟨_, rfl⟩
    rw [e51] at hQ51
    obtain ⟨rfl, N51q, K51⟩ := hQ51
    have N52 := Fr.app N50 N51q
    have f54 : Old Z n0 h51 := O0.keep K51 all0
    have f55 : Exa Z h51 w_UNWATCHED_ALL "com/example/fawley/fawley/store/Change$Kind" := P13.ext f54.2
    obtain ⟨cq53, kq53, q53a, q53b, q53c⟩ := isOf hZ e51 f55
    obtain ⟨_, _, ⟨T53, L53, k53, n53⟩, -, X53, ⟨Lc53, hQ53, l53, y53, z53⟩, st53⟩ := X51.virtualBack hx (y := (⟨"com/example/fawley/fawley/store/Change$Kind", "code", "()B"⟩ : MethodName)) (z := (⟨"com/example/fawley/fawley/store/Change$Kind", "code", "()B"⟩ : MethodName)) hown (mvT hZ (hw _ (List.mem_of_getElem? (i := 36) rfl))) (mvT hZ (hw _ (List.mem_of_getElem? (i := 37) rfl))) (notFace_of_selects (args := #[]) (mvT hZ (hw _ (List.mem_of_getElem? (i := 39) rfl)))) (mvT hZ (hw _ (List.mem_of_getElem? (i := 39) rfl))) (mvT hZ (hw _ (List.mem_of_getElem? (i := 38) rfl))) (by decide) (backOf (W := 0) (rmCod l Z a0 hw [] w_UNWATCHED_ALL (5 : Int32) h51 n0 f54 (by decide) P14) hZ (hw _ (List.mem_of_getElem? (i := 40) rfl)) (hw _ (List.mem_of_getElem? (i := 6) rfl)) (by decide) (by decide)) q53a q53c (g := (mkF m 32 #[.val (.int p0_), .val (.int (5 : Int32)), .val (.int (5 : Int32)), .val (.ref w_UNWATCHED_ALL), .val (.ref w_UNWATCHED_ALL)] [(.ref w_UNWATCHED_ALL)])) rfl (by rw [hml]; rfl) (Steps.refl _) (argsL := []) (rest := []) (lenOf pd_3 rfl) rfl (by show 2 * 0 + _ ≤ _; exact Nat.le_of_eq rfl) (hb hby at_32) (fun _ _ => ⟨rfl, e51, (by decide : 1 + 0 ≤ _), (by decide : 9 + 0 ≤ _)⟩)
    dsimp only [Pt.U, Pt.locs, Pt.cells, Pt.slots] at X53 l53 y53 z53 st53 hQ53
    subst l53 y53 z53
    obtain ⟨h53, e53⟩ : ∃ z, T53.heap = z := ⟨_, rfl⟩
    rw [e53] at hQ53
    obtain ⟨rfl, N53q, hh53⟩ := hQ53
    have N56 := Fr.app N52 N53q
    have e53' : T53.heap = h51 := e53.trans hh53
    have pre57 : ∀ t, Steps p.tables e below (T53.setTop (mkF m 44 #[.val (.int p0_), .val (.int (5 : Int32)), .val (.int (5 : Int32)), .val (.ref w_UNWATCHED_ALL), .val (.ref w_UNWATCHED_ALL)] [(.int (1 : Int32))])) t → Steps p.tables e below (s₁.setTop (entryFrame m #[(.int p0_)] maxLocals)) t := by
      intro t kt
      refine pre48 t ?_
      show Steps p.tables e below (s₁.setTop (mkF m 7 #[.val (.int p0_), .unset, .unset, .unset, .unset] [(.int (4 : Int32))])) _
      refine XS.iconst X0.here hx rfl (hb hby at_7) ?_
      show Steps p.tables e below (s₁.setTop (mkF m 8 #[.val (.int p0_), .unset, .unset, .unset, .unset] [(.int (1 : Int32)), (.int (4 : Int32))])) _
      refine XS.iadd X0.here hx rfl (hb hby at_8) rfl ?_
      show Steps p.tables e below (s₁.setTop (mkF m 9 #[.val (.int p0_), .unset, .unset, .unset, .unset] [(.int (5 : Int32))])) _
      refine XS.istoreN X0.here hx rfl (hb hby at_9) rfl (l' := #[.val (.int p0_), .val (.int (5 : Int32)), .unset, .unset, .unset]) rfl ?_
      show Steps p.tables e below (s₁.setTop (mkF m 10 #[.val (.int p0_), .val (.int (5 : Int32)), .unset, .unset, .unset] [])) _
      refine XS.iloadN X0.here hx rfl (hb hby at_10) rfl ?_
      show Steps p.tables e below (s₁.setTop (mkF m 11 #[.val (.int p0_), .val (.int (5 : Int32)), .unset, .unset, .unset] [(.int (5 : Int32))])) _
      refine XS.i2b X0.here hx rfl (hb hby at_11) rfl ?_
      show Steps p.tables e below (s₁.setTop (mkF m 12 #[.val (.int p0_), .val (.int (5 : Int32)), .unset, .unset, .unset] [(.int (5 : Int32))])) _
      refine XS.istoreN X0.here hx rfl (hb hby at_12) rfl (l' := #[.val (.int p0_), .val (.int (5 : Int32)), .val (.int (5 : Int32)), .unset, .unset]) rfl ?_
      show Steps p.tables e below (s₁.setTop (mkF m 13 #[.val (.int p0_), .val (.int (5 : Int32)), .val (.int (5 : Int32)), .unset, .unset] [])) _
      refine XS.iloadN X0.here hx rfl (hb hby at_13) rfl ?_
      show Steps p.tables e below (s₁.setTop (mkF m 14 #[.val (.int p0_), .val (.int (5 : Int32)), .val (.int (5 : Int32)), .unset, .unset] [(.int (5 : Int32))])) _
      refine st49 _ ?_
      show Steps p.tables e below (T49.setTop (mkF m 17 #[.val (.int p0_), .val (.int (5 : Int32)), .val (.int (5 : Int32)), .unset, .unset] [(.ref w_UNWATCHED_ALL)])) _
      refine XS.astoreN X49.here hx rfl (hb hby at_17) rfl rfl (l' := #[.val (.int p0_), .val (.int (5 : Int32)), .val (.int (5 : Int32)), .val (.ref w_UNWATCHED_ALL), .unset]) rfl ?_
      show Steps p.tables e below (T49.setTop (mkF m 18 #[.val (.int p0_), .val (.int (5 : Int32)), .val (.int (5 : Int32)), .val (.ref w_UNWATCHED_ALL), .unset] [])) _
      refine XS.iloadN X49.here hx rfl (hb hby at_18) rfl ?_
      show Steps p.tables e below (T49.setTop (mkF m 19 #[.val (.int p0_), .val (.int (5 : Int32)), .val (.int (5 : Int32)), .val (.ref w_UNWATCHED_ALL), .unset] [(.int (5 : Int32))])) _
      refine st51 _ ?_
      show Steps p.tables e below (T51.setTop (mkF m 22 #[.val (.int p0_), .val (.int (5 : Int32)), .val (.int (5 : Int32)), .val (.ref w_UNWATCHED_ALL), .unset] [(.ref w_UNWATCHED_ALL)])) _
      refine XS.astore X51.here hx rfl (hb hby at_22) rfl rfl (l' := #[.val (.int p0_), .val (.int (5 : Int32)), .val (.int (5 : Int32)), .val (.ref w_UNWATCHED_ALL), .val (.ref w_UNWATCHED_ALL)]) rfl ?_
      show Steps p.tables e below (T51.setTop (mkF m 24 #[.val (.int p0_), .val (.int (5 : Int32)), .val (.int (5 : Int32)), .val (.ref w_UNWATCHED_ALL), .val (.ref w_UNWATCHED_ALL)] [])) _
      refine XS.aload X51.here hx rfl (hb hby at_24) rfl rfl ?_
      show Steps p.tables e below (T51.setTop (mkF m 26 #[.val (.int p0_), .val (.int (5 : Int32)), .val (.int (5 : Int32)), .val (.ref w_UNWATCHED_ALL), .val (.ref w_UNWATCHED_ALL)] [(.ref w_UNWATCHED_ALL)])) _
      refine XS.aloadN X51.here hx rfl (hb hby at_26) rfl rfl ?_
      show Steps p.tables e below (T51.setTop (mkF m 27 #[.val (.int p0_), .val (.int (5 : Int32)), .val (.int (5 : Int32)), .val (.ref w_UNWATCHED_ALL), .val (.ref w_UNWATCHED_ALL)] [(.ref w_UNWATCHED_ALL), (.ref w_UNWATCHED_ALL)])) _
      refine Jvm.RoadKit.acmp (g := (mkF m 27 #[.val (.int p0_), .val (.int (5 : Int32)), .val (.int (5 : Int32)), .val (.ref w_UNWATCHED_ALL), .val (.ref w_UNWATCHED_ALL)] [(.ref w_UNWATCHED_ALL), (.ref w_UNWATCHED_ALL)])) X51 hx rfl rfl rfl (pc0 := 27) (pc' := 30) (same := true) rfl (hb hby at_27) rfl (decide_eq_true rfl) (by decide) (by decide) ?_
      show Steps p.tables e below (T51.setTop (mkF m 30 #[.val (.int p0_), .val (.int (5 : Int32)), .val (.int (5 : Int32)), .val (.ref w_UNWATCHED_ALL), .val (.ref w_UNWATCHED_ALL)] [])) _
      refine XS.aload X51.here hx rfl (hb hby at_30) rfl rfl ?_
      show Steps p.tables e below (T51.setTop (mkF m 32 #[.val (.int p0_), .val (.int (5 : Int32)), .val (.int (5 : Int32)), .val (.ref w_UNWATCHED_ALL), .val (.ref w_UNWATCHED_ALL)] [(.ref w_UNWATCHED_ALL)])) _
      refine st53.trans ?_
      show Steps p.tables e below (T53.setTop (mkF m 35 #[.val (.int p0_), .val (.int (5 : Int32)), .val (.int (5 : Int32)), .val (.ref w_UNWATCHED_ALL), .val (.ref w_UNWATCHED_ALL)] [(.int (5 : Int32))])) _
      refine XS.iloadN X53.here hx rfl (hb hby at_35) rfl ?_
      show Steps p.tables e below (T53.setTop (mkF m 36 #[.val (.int p0_), .val (.int (5 : Int32)), .val (.int (5 : Int32)), .val (.ref w_UNWATCHED_ALL), .val (.ref w_UNWATCHED_ALL)] [(.int (5 : Int32)), (.int (5 : Int32))])) _
      refine XS.icmpNo X53.here hx rfl (hb hby at_36) rfl (teq (by decide : (5 : Int32) = (5 : Int32))).2 ?_
      show Steps p.tables e below (T53.setTop (mkF m 39 #[.val (.int p0_), .val (.int (5 : Int32)), .val (.int (5 : Int32)), .val (.ref w_UNWATCHED_ALL), .val (.ref w_UNWATCHED_ALL)] [])) _
      refine XS.iconst X53.here hx rfl (hb hby at_39) ?_
      show Steps p.tables e below (T53.setTop (mkF m 40 #[.val (.int p0_), .val (.int (5 : Int32)), .val (.int (5 : Int32)), .val (.ref w_UNWATCHED_ALL), .val (.ref w_UNWATCHED_ALL)] [(.int (1 : Int32))])) _
      refine XS.goto X53.here hx rfl (pc0 := 40) (pc' := 44) rfl (hb hby at_40) (by decide) (by decide) ?_
      exact kt
    obtain ⟨fs, hr, hrun, hended, hW, hsame⟩ := X53.leave (v := some (.int (1 : Int32))) (fun h => by rw [Bd.returns] at h; cases h)
    refine ⟨_, _, pre57 _ (retN X53 hx (t := .boolean) Bd.returns (by simp) (hb hby at_44) hr), hrun, hended, _, _, rfl, ?_, ⟨_, rfl⟩, hW, hsame.mono (by decide) (by decide)⟩
    show QLaw Z p0_ w_STORED w_REMOVED w_WATCHED w_UNWATCHED w_UNWATCHED_ALL w_CLOCK_READING w_ANSWERED w_UNDELIVERED w_DELIVERED w__VALUES k_ h0 n0 _ T53.heap _
    rw [e53']
    exact ⟨rfl, N56⟩
  · have pre59 : ∀ t, Steps p.tables e below (s₁.setTop (mkF m 7 #[.val (.int p0_), .unset, .unset, .unset, .unset] [(.int (5 : Int32))])) t → Steps p.tables e below (s₁.setTop (entryFrame m #[(.int p0_)] maxLocals)) t := fun t kt => pre1 t (by rw [hv3]; exact kt)
    obtain ⟨_, _, ⟨T60, L60, k60, n60⟩, -, X60, ⟨Lc60, hQ60, l60, y60, z60⟩, st60⟩ := Jvm.LawKit.callS X0 hx (y := (⟨"com/example/fawley/fawley/store/KindOfPinLaw", "expected", "(I)Lcom/example/fawley/fawley/store/Change$Kind;"⟩ : MethodName)) hown (mvT hZ (hw _ (List.mem_of_getElem? (i := 1) rfl))) (mvT hZ (hw _ (List.mem_of_getElem? (i := 2) rfl))) (mvT hZ (hw _ (List.mem_of_getElem? (i := 3) rfl))) (mvT hZ (hw _ (List.mem_of_getElem? (i := 4) rfl))) (by decide) (backOf (W := 0) (rmExp5 l Z a0 hw [] w_CLOCK_READING h0 n0 O0 P15) hZ (hw _ (List.mem_of_getElem? (i := 4) rfl)) (hw _ (List.mem_of_getElem? (i := 3) rfl)) (by decide) (by decide)) (g := (mkF m 14 #[.val (.int p0_), .val (.int (6 : Int32)), .val (.int (6 : Int32)), .unset, .unset] [(.int (6 : Int32))])) rfl (by rw [hml]; rfl) (argsL := [(.int (6 : Int32))]) (rest := []) (lenOf pd_1 rfl) rfl (by show 2 * 0 + _ ≤ _; exact Nat.le_of_eq rfl) (hb hby at_14) (fun _ _ => ⟨rfl, e0, (by decide : 0 + 0 ≤ _), (by decide : 0 + 0 ≤ _)⟩)
    dsimp only [Pt.U, Pt.locs, Pt.cells, Pt.slots] at X60 l60 y60 z60 st60 hQ60
    subst l60 y60 z60
    obtain ⟨h60, e60⟩ : ∃ z, T60.heap = z := ⟨_, rfl⟩
    rw [e60] at hQ60
    obtain ⟨rfl, N60q, hh60⟩ := hQ60
    have N61 := Fr.app N0 N60q
    have e60' : T60.heap = h0 := e60.trans hh60
    obtain ⟨_, _, ⟨T62, L62, k62, n62⟩, -, X62, ⟨Lc62, hQ62, l62, y62, z62⟩, st62⟩ := Jvm.LawKit.callS X60 hx (y := (⟨"com/example/fawley/fawley/store/Change$Kind", "of", "(B)Lcom/example/fawley/fawley/store/Change$Kind;"⟩ : MethodName)) hown (mvT hZ (hw _ (List.mem_of_getElem? (i := 8) rfl))) (mvT hZ (hw _ (List.mem_of_getElem? (i := 9) rfl))) (mvT hZ (hw _ (List.mem_of_getElem? (i := 6) rfl))) (mvT hZ (hw _ (List.mem_of_getElem? (i := 10) rfl))) (by decide) (backOf (W := 0) (rmOf5 l Z a0 hw [] w_STORED w_REMOVED w_WATCHED w_UNWATCHED w_UNWATCHED_ALL w_CLOCK_READING w_ANSWERED w_UNDELIVERED w_DELIVERED w__VALUES k_ h0 n0 O0 P0 P1 P2 P3 P4 P5 P6 P7 P8 P9 P10 P11 P12 P13 P14 P15 P16 P17 P18 P19 P20 P21 P22 P23 P24 P25 P26 P27 P28 P29) hZ (hw _ (List.mem_of_getElem? (i := 10) rfl)) (hw _ (List.mem_of_getElem? (i := 6) rfl)) (by decide) (by decide)) (g := (mkF m 19 #[.val (.int p0_), .val (.int (6 : Int32)), .val (.int (6 : Int32)), .val (.ref w_CLOCK_READING), .unset] [(.int (6 : Int32))])) rfl (by rw [hml]; rfl) (argsL := [(.int (6 : Int32))]) (rest := []) (lenOf pd_2 rfl) rfl (by show 2 * 0 + _ ≤ _; exact Nat.le_of_eq rfl) (hb hby at_19) (fun _ _ => ⟨rfl, e60', (by decide : 0 + 1 ≤ _), (by decide : 0 + 9 ≤ _)⟩)
    dsimp only [Pt.U, Pt.locs, Pt.cells, Pt.slots] at X62 l62 y62 z62 st62 hQ62
    subst l62 y62 z62
    obtain ⟨h62, e62⟩ : ∃ z, T62.heap = z := ⟨_, rfl⟩
    rw [e62] at hQ62
    obtain ⟨rfl, N62q, K62⟩ := hQ62
    have N63 := Fr.app N61 N62q
    have f65 : Old Z n0 h62 := O0.keep K62 all0
    have f66 : Exa Z h62 w_CLOCK_READING "com/example/fawley/fawley/store/Change$Kind" := P16.ext f65.2
    obtain ⟨cq64, kq64, q64a, q64b, q64c⟩ := isOf hZ e62 f66
    obtain ⟨_, _, ⟨T64, L64, k64, n64⟩, -, X64, ⟨Lc64, hQ64, l64, y64, z64⟩, st64⟩ := X62.virtualBack hx (y := (⟨"com/example/fawley/fawley/store/Change$Kind", "code", "()B"⟩ : MethodName)) (z := (⟨"com/example/fawley/fawley/store/Change$Kind", "code", "()B"⟩ : MethodName)) hown (mvT hZ (hw _ (List.mem_of_getElem? (i := 36) rfl))) (mvT hZ (hw _ (List.mem_of_getElem? (i := 37) rfl))) (notFace_of_selects (args := #[]) (mvT hZ (hw _ (List.mem_of_getElem? (i := 39) rfl)))) (mvT hZ (hw _ (List.mem_of_getElem? (i := 39) rfl))) (mvT hZ (hw _ (List.mem_of_getElem? (i := 38) rfl))) (by decide) (backOf (W := 0) (rmCod l Z a0 hw [] w_CLOCK_READING (6 : Int32) h62 n0 f65 (by decide) P17) hZ (hw _ (List.mem_of_getElem? (i := 40) rfl)) (hw _ (List.mem_of_getElem? (i := 6) rfl)) (by decide) (by decide)) q64a q64c (g := (mkF m 32 #[.val (.int p0_), .val (.int (6 : Int32)), .val (.int (6 : Int32)), .val (.ref w_CLOCK_READING), .val (.ref w_CLOCK_READING)] [(.ref w_CLOCK_READING)])) rfl (by rw [hml]; rfl) (Steps.refl _) (argsL := []) (rest := []) (lenOf pd_3 rfl) rfl (by show 2 * 0 + _ ≤ _; exact Nat.le_of_eq rfl) (hb hby at_32) (fun _ _ => ⟨rfl, e62, (by decide : 1 + 0 ≤ _), (by decide : 9 + 0 ≤ _)⟩)
    dsimp only [Pt.U, Pt.locs, Pt.cells, Pt.slots] at X64 l64 y64 z64 st64 hQ64
    subst l64 y64 z64
    obtain ⟨h64, e64⟩ : ∃ z, T64.heap = z := ⟨_, rfl⟩
    rw [e64] at hQ64
    obtain ⟨rfl, N64q, hh64⟩ := hQ64
    have N67 := Fr.app N63 N64q
    have e64' : T64.heap = h62 := e64.trans hh64
    have pre68 : ∀ t, Steps p.tables e below (T64.setTop (mkF m 44 #[.val (.int p0_), .val (.int (6 : Int32)), .val (.int (6 : Int32)), .val (.ref w_CLOCK_READING), .val (.ref w_CLOCK_READING)] [(.int (1 : Int32))])) t → Steps p.tables e below (s₁.setTop (entryFrame m #[(.int p0_)] maxLocals)) t := by
      intro t kt
      refine pre59 t ?_
      show Steps p.tables e below (s₁.setTop (mkF m 7 #[.val (.int p0_), .unset, .unset, .unset, .unset] [(.int (5 : Int32))])) _
      refine XS.iconst X0.here hx rfl (hb hby at_7) ?_
      show Steps p.tables e below (s₁.setTop (mkF m 8 #[.val (.int p0_), .unset, .unset, .unset, .unset] [(.int (1 : Int32)), (.int (5 : Int32))])) _
      refine XS.iadd X0.here hx rfl (hb hby at_8) rfl ?_
      show Steps p.tables e below (s₁.setTop (mkF m 9 #[.val (.int p0_), .unset, .unset, .unset, .unset] [(.int (6 : Int32))])) _
      refine XS.istoreN X0.here hx rfl (hb hby at_9) rfl (l' := #[.val (.int p0_), .val (.int (6 : Int32)), .unset, .unset, .unset]) rfl ?_
      show Steps p.tables e below (s₁.setTop (mkF m 10 #[.val (.int p0_), .val (.int (6 : Int32)), .unset, .unset, .unset] [])) _
      refine XS.iloadN X0.here hx rfl (hb hby at_10) rfl ?_
      show Steps p.tables e below (s₁.setTop (mkF m 11 #[.val (.int p0_), .val (.int (6 : Int32)), .unset, .unset, .unset] [(.int (6 : Int32))])) _
      refine XS.i2b X0.here hx rfl (hb hby at_11) rfl ?_
      show Steps p.tables e below (s₁.setTop (mkF m 12 #[.val (.int p0_), .val (.int (6 : Int32)), .unset, .unset, .unset] [(.int (6 : Int32))])) _
      refine XS.istoreN X0.here hx rfl (hb hby at_12) rfl (l' := #[.val (.int p0_), .val (.int (6 : Int32)), .val (.int (6 : Int32)), .unset, .unset]) rfl ?_
      show Steps p.tables e below (s₁.setTop (mkF m 13 #[.val (.int p0_), .val (.int (6 : Int32)), .val (.int (6 : Int32)), .unset, .unset] [])) _
      refine XS.iloadN X0.here hx rfl (hb hby at_13) rfl ?_
      show Steps p.tables e below (s₁.setTop (mkF m 14 #[.val (.int p0_), .val (.int (6 : Int32)), .val (.int (6 : Int32)), .unset, .unset] [(.int (6 : Int32))])) _
      refine st60 _ ?_
      show Steps p.tables e below (T60.setTop (mkF m 17 #[.val (.int p0_), .val (.int (6 : Int32)), .val (.int (6 : Int32)), .unset, .unset] [(.ref w_CLOCK_READING)])) _
      refine XS.astoreN X60.here hx rfl (hb hby at_17) rfl rfl (l' := #[.val (.int p0_), .val (.int (6 : Int32)), .val (.int (6 : Int32)), .val (.ref w_CLOCK_READING), .unset]) rfl ?_
      show Steps p.tables e below (T60.setTop (mkF m 18 #[.val (.int p0_), .val (.int (6 : Int32)), .val (.int (6 : Int32)), .val (.ref w_CLOCK_READING), .unset] [])) _
      refine XS.iloadN X60.here hx rfl (hb hby at_18) rfl ?_
      show Steps p.tables e below (T60.setTop (mkF m 19 #[.val (.int p0_), .val (.int (6 : Int32)), .val (.int (6 : Int32)), .val (.ref w_CLOCK_READING), .unset] [(.int (6 : Int32))])) _
      refine st62 _ ?_
      show Steps p.tables e below (T62.setTop (mkF m 22 #[.val (.int p0_), .val (.int (6 : Int32)), .val (.int (6 : Int32)), .val (.ref w_CLOCK_READING), .unset] [(.ref w_CLOCK_READING)])) _
      refine XS.astore X62.here hx rfl (hb hby at_22) rfl rfl (l' := #[.val (.int p0_), .val (.int (6 : Int32)), .val (.int (6 : Int32)), .val (.ref w_CLOCK_READING), .val (.ref w_CLOCK_READING)]) rfl ?_
      show Steps p.tables e below (T62.setTop (mkF m 24 #[.val (.int p0_), .val (.int (6 : Int32)), .val (.int (6 : Int32)), .val (.ref w_CLOCK_READING), .val (.ref w_CLOCK_READING)] [])) _
      refine XS.aload X62.here hx rfl (hb hby at_24) rfl rfl ?_
      show Steps p.tables e below (T62.setTop (mkF m 26 #[.val (.int p0_), .val (.int (6 : Int32)), .val (.int (6 : Int32)), .val (.ref w_CLOCK_READING), .val (.ref w_CLOCK_READING)] [(.ref w_CLOCK_READING)])) _
      refine XS.aloadN X62.here hx rfl (hb hby at_26) rfl rfl ?_
      show Steps p.tables e below (T62.setTop (mkF m 27 #[.val (.int p0_), .val (.int (6 : Int32)), .val (.int (6 : Int32)), .val (.ref w_CLOCK_READING), .val (.ref w_CLOCK_READING)] [(.ref w_CLOCK_READING), (.ref w_CLOCK_READING)])) _
      refine Jvm.RoadKit.acmp (g := (mkF m 27 #[.val (.int p0_), .val (.int (6 : Int32)), .val (.int (6 : Int32)), .val (.ref w_CLOCK_READING), .val (.ref w_CLOCK_READING)] [(.ref w_CLOCK_READING), (.ref w_CLOCK_READING)])) X62 hx rfl rfl rfl (pc0 := 27) (pc' := 30) (same := true) rfl (hb hby at_27) rfl (decide_eq_true rfl) (by decide) (by decide) ?_
      show Steps p.tables e below (T62.setTop (mkF m 30 #[.val (.int p0_), .val (.int (6 : Int32)), .val (.int (6 : Int32)), .val (.ref w_CLOCK_READING), .val (.ref w_CLOCK_READING)] [])) _
      refine XS.aload X62.here hx rfl (hb hby at_30) rfl rfl ?_
      show Steps p.tables e below (T62.setTop (mkF m 32 #[.val (.int p0_), .val (.int (6 : Int32)), .val (.int (6 : Int32)), .val (.ref w_CLOCK_READING), .val (.ref w_CLOCK_READING)] [(.ref w_CLOCK_READING)])) _
      refine st64.trans ?_
      show Steps p.tables e below (T64.setTop (mkF m 35 #[.val (.int p0_), .val (.int (6 : Int32)), .val (.int (6 : Int32)), .val (.ref w_CLOCK_READING), .val (.ref w_CLOCK_READING)] [(.int (6 : Int32))])) _
      refine XS.iloadN X64.here hx rfl (hb hby at_35) rfl ?_
      show Steps p.tables e below (T64.setTop (mkF m 36 #[.val (.int p0_), .val (.int (6 : Int32)), .val (.int (6 : Int32)), .val (.ref w_CLOCK_READING), .val (.ref w_CLOCK_READING)] [(.int (6 : Int32)), (.int (6 : Int32))])) _
      refine XS.icmpNo X64.here hx rfl (hb hby at_36) rfl (teq (by decide : (6 : Int32) = (6 : Int32))).2 ?_
      show Steps p.tables e below (T64.setTop (mkF m 39 #[.val (.int p0_), .val (.int (6 : Int32)), .val (.int (6 : Int32)), .val (.ref w_CLOCK_READING), .val (.ref w_CLOCK_READING)] [])) _
      refine XS.iconst X64.here hx rfl (hb hby at_39) ?_
      show Steps p.tables e below (T64.setTop (mkF m 40 #[.val (.int p0_), .val (.int (6 : Int32)), .val (.int (6 : Int32)), .val (.ref w_CLOCK_READING), .val (.ref w_CLOCK_READING)] [(.int (1 : Int32))])) _
      refine XS.goto X64.here hx rfl (pc0 := 40) (pc' := 44) rfl (hb hby at_40) (by decide) (by decide) ?_
      exact kt
    obtain ⟨fs, hr, hrun, hended, hW, hsame⟩ := X64.leave (v := some (.int (1 : Int32))) (fun h => by rw [Bd.returns] at h; cases h)
    refine ⟨_, _, pre68 _ (retN X64 hx (t := .boolean) Bd.returns (by simp) (hb hby at_44) hr), hrun, hended, _, _, rfl, ?_, ⟨_, rfl⟩, hW, hsame.mono (by decide) (by decide)⟩
    show QLaw Z p0_ w_STORED w_REMOVED w_WATCHED w_UNWATCHED w_UNWATCHED_ALL w_CLOCK_READING w_ANSWERED w_UNDELIVERED w_DELIVERED w__VALUES k_ h0 n0 _ T64.heap _
    rw [e64']
    exact ⟨rfl, N67⟩
  · have pre70 : ∀ t, Steps p.tables e below (s₁.setTop (mkF m 7 #[.val (.int p0_), .unset, .unset, .unset, .unset] [(.int (6 : Int32))])) t → Steps p.tables e below (s₁.setTop (entryFrame m #[(.int p0_)] maxLocals)) t := fun t kt => pre1 t (by rw [hv3]; exact kt)
    obtain ⟨_, _, ⟨T71, L71, k71, n71⟩, -, X71, ⟨Lc71, hQ71, l71, y71, z71⟩, st71⟩ := Jvm.LawKit.callS X0 hx (y := (⟨"com/example/fawley/fawley/store/KindOfPinLaw", "expected", "(I)Lcom/example/fawley/fawley/store/Change$Kind;"⟩ : MethodName)) hown (mvT hZ (hw _ (List.mem_of_getElem? (i := 1) rfl))) (mvT hZ (hw _ (List.mem_of_getElem? (i := 2) rfl))) (mvT hZ (hw _ (List.mem_of_getElem? (i := 3) rfl))) (mvT hZ (hw _ (List.mem_of_getElem? (i := 4) rfl))) (by decide) (backOf (W := 0) (rmExp6 l Z a0 hw [] w_ANSWERED h0 n0 O0 P18) hZ (hw _ (List.mem_of_getElem? (i := 4) rfl)) (hw _ (List.mem_of_getElem? (i := 3) rfl)) (by decide) (by decide)) (g := (mkF m 14 #[.val (.int p0_), .val (.int (7 : Int32)), .val (.int (7 : Int32)), .unset, .unset] [(.int (7 : Int32))])) rfl (by rw [hml]; rfl) (argsL := [(.int (7 : Int32))]) (rest := []) (lenOf pd_1 rfl) rfl (by show 2 * 0 + _ ≤ _; exact Nat.le_of_eq rfl) (hb hby at_14) (fun _ _ => ⟨rfl, e0, (by decide : 0 + 0 ≤ _), (by decide : 0 + 0 ≤ _)⟩)
    dsimp only [Pt.U, Pt.locs, Pt.cells, Pt.slots] at X71 l71 y71 z71 st71 hQ71
    subst l71 y71 z71
    obtain ⟨h71, e71⟩ : ∃ z, T71.heap = z := ⟨_, rfl⟩
    rw [e71] at hQ71
    obtain ⟨rfl, N71q, hh71⟩ := hQ71
    have N72 := Fr.app N0 N71q
    have e71' : T71.heap = h0 := e71.trans hh71
    obtain ⟨_, _, ⟨T73, L73, k73, n73⟩, -, X73, ⟨Lc73, hQ73, l73, y73, z73⟩, st73⟩ := Jvm.LawKit.callS X71 hx (y := (⟨"com/example/fawley/fawley/store/Change$Kind", "of", "(B)Lcom/example/fawley/fawley/store/Change$Kind;"⟩ : MethodName)) hown (mvT hZ (hw _ (List.mem_of_getElem? (i := 8) rfl))) (mvT hZ (hw _ (List.mem_of_getElem? (i := 9) rfl))) (mvT hZ (hw _ (List.mem_of_getElem? (i := 6) rfl))) (mvT hZ (hw _ (List.mem_of_getElem? (i := 10) rfl))) (by decide) (backOf (W := 0) (rmOf6 l Z a0 hw [] w_STORED w_REMOVED w_WATCHED w_UNWATCHED w_UNWATCHED_ALL w_CLOCK_READING w_ANSWERED w_UNDELIVERED w_DELIVERED w__VALUES k_ h0 n0 O0 P0 P1 P2 P3 P4 P5 P6 P7 P8 P9 P10 P11 P12 P13 P14 P15 P16 P17 P18 P19 P20 P21 P22 P23 P24 P25 P26 P27 P28 P29) hZ (hw _ (List.mem_of_getElem? (i := 10) rfl)) (hw _ (List.mem_of_getElem? (i := 6) rfl)) (by decide) (by decide)) (g := (mkF m 19 #[.val (.int p0_), .val (.int (7 : Int32)), .val (.int (7 : Int32)), .val (.ref w_ANSWERED), .unset] [(.int (7 : Int32))])) rfl (by rw [hml]; rfl) (argsL := [(.int (7 : Int32))]) (rest := []) (lenOf pd_2 rfl) rfl (by show 2 * 0 + _ ≤ _; exact Nat.le_of_eq rfl) (hb hby at_19) (fun _ _ => ⟨rfl, e71', (by decide : 0 + 1 ≤ _), (by decide : 0 + 9 ≤ _)⟩)
    dsimp only [Pt.U, Pt.locs, Pt.cells, Pt.slots] at X73 l73 y73 z73 st73 hQ73
    subst l73 y73 z73
    obtain ⟨h73, e73⟩ : ∃ z, T73.heap = z := ⟨_, rfl⟩
    rw [e73] at hQ73
    obtain ⟨rfl, N73q, K73⟩ := hQ73
    have N74 := Fr.app N72 N73q
    have f76 : Old Z n0 h73 := O0.keep K73 all0
    have f77 : Exa Z h73 w_ANSWERED "com/example/fawley/fawley/store/Change$Kind" := P19.ext f76.2
    obtain ⟨cq75, kq75, q75a, q75b, q75c⟩ := isOf hZ e73 f77
    obtain ⟨_, _, ⟨T75, L75, k75, n75⟩, -, X75, ⟨Lc75, hQ75, l75, y75, z75⟩, st75⟩ := X73.virtualBack hx (y := (⟨"com/example/fawley/fawley/store/Change$Kind", "code", "()B"⟩ : MethodName)) (z := (⟨"com/example/fawley/fawley/store/Change$Kind", "code", "()B"⟩ : MethodName)) hown (mvT hZ (hw _ (List.mem_of_getElem? (i := 36) rfl))) (mvT hZ (hw _ (List.mem_of_getElem? (i := 37) rfl))) (notFace_of_selects (args := #[]) (mvT hZ (hw _ (List.mem_of_getElem? (i := 39) rfl)))) (mvT hZ (hw _ (List.mem_of_getElem? (i := 39) rfl))) (mvT hZ (hw _ (List.mem_of_getElem? (i := 38) rfl))) (by decide) (backOf (W := 0) (rmCod l Z a0 hw [] w_ANSWERED (7 : Int32) h73 n0 f76 (by decide) P20) hZ (hw _ (List.mem_of_getElem? (i := 40) rfl)) (hw _ (List.mem_of_getElem? (i := 6) rfl)) (by decide) (by decide)) q75a q75c (g := (mkF m 32 #[.val (.int p0_), .val (.int (7 : Int32)), .val (.int (7 : Int32)), .val (.ref w_ANSWERED), .val (.ref w_ANSWERED)] [(.ref w_ANSWERED)])) rfl (by rw [hml]; rfl) (Steps.refl _) (argsL := []) (rest := []) (lenOf pd_3 rfl) rfl (by show 2 * 0 + _ ≤ _; exact Nat.le_of_eq rfl) (hb hby at_32) (fun _ _ => ⟨rfl, e73, (by decide : 1 + 0 ≤ _), (by decide : 9 + 0 ≤ _)⟩)
    dsimp only [Pt.U, Pt.locs, Pt.cells, Pt.slots] at X75 l75 y75 z75 st75 hQ75
    subst l75 y75 z75
    obtain ⟨h75, e75⟩ : ∃ z, T75.heap = z := ⟨_, rfl⟩
    rw [e75] at hQ75
    obtain ⟨rfl, N75q, hh75⟩ := hQ75
    have N78 := Fr.app N74 N75q
    have e75' : T75.heap = h73 := e75.trans hh75
    have pre79 : ∀ t, Steps p.tables e below (T75.setTop (mkF m 44 #[.val (.int p0_), .val (.int (7 : Int32)), .val (.int (7 : Int32)), .val (.ref w_ANSWERED), .val (.ref w_ANSWERED)] [(.int (1 : Int32))])) t → Steps p.tables e below (s₁.setTop (entryFrame m #[(.int p0_)] maxLocals)) t := by
      intro t kt
      refine pre70 t ?_
      show Steps p.tables e below (s₁.setTop (mkF m 7 #[.val (.int p0_), .unset, .unset, .unset, .unset] [(.int (6 : Int32))])) _
      refine XS.iconst X0.here hx rfl (hb hby at_7) ?_
      show Steps p.tables e below (s₁.setTop (mkF m 8 #[.val (.int p0_), .unset, .unset, .unset, .unset] [(.int (1 : Int32)), (.int (6 : Int32))])) _
      refine XS.iadd X0.here hx rfl (hb hby at_8) rfl ?_
      show Steps p.tables e below (s₁.setTop (mkF m 9 #[.val (.int p0_), .unset, .unset, .unset, .unset] [(.int (7 : Int32))])) _
      refine XS.istoreN X0.here hx rfl (hb hby at_9) rfl (l' := #[.val (.int p0_), .val (.int (7 : Int32)), .unset, .unset, .unset]) rfl ?_
      show Steps p.tables e below (s₁.setTop (mkF m 10 #[.val (.int p0_), .val (.int (7 : Int32)), .unset, .unset, .unset] [])) _
      refine XS.iloadN X0.here hx rfl (hb hby at_10) rfl ?_
      show Steps p.tables e below (s₁.setTop (mkF m 11 #[.val (.int p0_), .val (.int (7 : Int32)), .unset, .unset, .unset] [(.int (7 : Int32))])) _
      refine XS.i2b X0.here hx rfl (hb hby at_11) rfl ?_
      show Steps p.tables e below (s₁.setTop (mkF m 12 #[.val (.int p0_), .val (.int (7 : Int32)), .unset, .unset, .unset] [(.int (7 : Int32))])) _
      refine XS.istoreN X0.here hx rfl (hb hby at_12) rfl (l' := #[.val (.int p0_), .val (.int (7 : Int32)), .val (.int (7 : Int32)), .unset, .unset]) rfl ?_
      show Steps p.tables e below (s₁.setTop (mkF m 13 #[.val (.int p0_), .val (.int (7 : Int32)), .val (.int (7 : Int32)), .unset, .unset] [])) _
      refine XS.iloadN X0.here hx rfl (hb hby at_13) rfl ?_
      show Steps p.tables e below (s₁.setTop (mkF m 14 #[.val (.int p0_), .val (.int (7 : Int32)), .val (.int (7 : Int32)), .unset, .unset] [(.int (7 : Int32))])) _
      refine st71 _ ?_
      show Steps p.tables e below (T71.setTop (mkF m 17 #[.val (.int p0_), .val (.int (7 : Int32)), .val (.int (7 : Int32)), .unset, .unset] [(.ref w_ANSWERED)])) _
      refine XS.astoreN X71.here hx rfl (hb hby at_17) rfl rfl (l' := #[.val (.int p0_), .val (.int (7 : Int32)), .val (.int (7 : Int32)), .val (.ref w_ANSWERED), .unset]) rfl ?_
      show Steps p.tables e below (T71.setTop (mkF m 18 #[.val (.int p0_), .val (.int (7 : Int32)), .val (.int (7 : Int32)), .val (.ref w_ANSWERED), .unset] [])) _
      refine XS.iloadN X71.here hx rfl (hb hby at_18) rfl ?_
      show Steps p.tables e below (T71.setTop (mkF m 19 #[.val (.int p0_), .val (.int (7 : Int32)), .val (.int (7 : Int32)), .val (.ref w_ANSWERED), .unset] [(.int (7 : Int32))])) _
      refine st73 _ ?_
      show Steps p.tables e below (T73.setTop (mkF m 22 #[.val (.int p0_), .val (.int (7 : Int32)), .val (.int (7 : Int32)), .val (.ref w_ANSWERED), .unset] [(.ref w_ANSWERED)])) _
      refine XS.astore X73.here hx rfl (hb hby at_22) rfl rfl (l' := #[.val (.int p0_), .val (.int (7 : Int32)), .val (.int (7 : Int32)), .val (.ref w_ANSWERED), .val (.ref w_ANSWERED)]) rfl ?_
      show Steps p.tables e below (T73.setTop (mkF m 24 #[.val (.int p0_), .val (.int (7 : Int32)), .val (.int (7 : Int32)), .val (.ref w_ANSWERED), .val (.ref w_ANSWERED)] [])) _
      refine XS.aload X73.here hx rfl (hb hby at_24) rfl rfl ?_
      show Steps p.tables e below (T73.setTop (mkF m 26 #[.val (.int p0_), .val (.int (7 : Int32)), .val (.int (7 : Int32)), .val (.ref w_ANSWERED), .val (.ref w_ANSWERED)] [(.ref w_ANSWERED)])) _
      refine XS.aloadN X73.here hx rfl (hb hby at_26) rfl rfl ?_
      show Steps p.tables e below (T73.setTop (mkF m 27 #[.val (.int p0_), .val (.int (7 : Int32)), .val (.int (7 : Int32)), .val (.ref w_ANSWERED), .val (.ref w_ANSWERED)] [(.ref w_ANSWERED), (.ref w_ANSWERED)])) _
      refine Jvm.RoadKit.acmp (g := (mkF m 27 #[.val (.int p0_), .val (.int (7 : Int32)), .val (.int (7 : Int32)), .val (.ref w_ANSWERED), .val (.ref w_ANSWERED)] [(.ref w_ANSWERED), (.ref w_ANSWERED)])) X73 hx rfl rfl rfl (pc0 := 27) (pc' := 30) (same := true) rfl (hb hby at_27) rfl (decide_eq_true rfl) (by decide) (by decide) ?_
      show Steps p.tables e below (T73.setTop (mkF m 30 #[.val (.int p0_), .val (.int (7 : Int32)), .val (.int (7 : Int32)), .val (.ref w_ANSWERED), .val (.ref w_ANSWERED)] [])) _
      refine XS.aload X73.here hx rfl (hb hby at_30) rfl rfl ?_
      show Steps p.tables e below (T73.setTop (mkF m 32 #[.val (.int p0_), .val (.int (7 : Int32)), .val (.int (7 : Int32)), .val (.ref w_ANSWERED), .val (.ref w_ANSWERED)] [(.ref w_ANSWERED)])) _
      refine st75.trans ?_
      show Steps p.tables e below (T75.setTop (mkF m 35 #[.val (.int p0_), .val (.int (7 : Int32)), .val (.int (7 : Int32)), .val (.ref w_ANSWERED), .val (.ref w_ANSWERED)] [(.int (7 : Int32))])) _
      refine XS.iloadN X75.here hx rfl (hb hby at_35) rfl ?_
      show Steps p.tables e below (T75.setTop (mkF m 36 #[.val (.int p0_), .val (.int (7 : Int32)), .val (.int (7 : Int32)), .val (.ref w_ANSWERED), .val (.ref w_ANSWERED)] [(.int (7 : Int32)), (.int (7 : Int32))])) _
      refine XS.icmpNo X75.here hx rfl (hb hby at_36) rfl (teq (by decide : (7 : Int32) = (7 : Int32))).2 ?_
      show Steps p.tables e below (T75.setTop (mkF m 39 #[.val (.int p0_), .val (.int (7 : Int32)), .val (.int (7 : Int32)), .val (.ref w_ANSWERED), .val (.ref w_ANSWERED)] [])) _
      refine XS.iconst X75.here hx rfl (hb hby at_39) ?_
      show Steps p.tables e below (T75.setTop (mkF m 40 #[.val (.int p0_), .val (.int (7 : Int32)), .val (.int (7 : Int32)), .val (.ref w_ANSWERED), .val (.ref w_ANSWERED)] [(.int (1 : Int32))])) _
      refine XS.goto X75.here hx rfl (pc0 := 40) (pc' := 44) rfl (hb hby at_40) (by decide) (by decide) ?_
      exact kt
    obtain ⟨fs, hr, hrun, hended, hW, hsame⟩ := X75.leave (v := some (.int (1 : Int32))) (fun h => by rw [Bd.returns] at h; cases h)
    refine ⟨_, _, pre79 _ (retN X75 hx (t := .boolean) Bd.returns (by simp) (hb hby at_44) hr), hrun, hended, _, _, rfl, ?_, ⟨_, rfl⟩, hW, hsame.mono (by decide) (by decide)⟩
    show QLaw Z p0_ w_STORED w_REMOVED w_WATCHED w_UNWATCHED w_UNWATCHED_ALL w_CLOCK_READING w_ANSWERED w_UNDELIVERED w_DELIVERED w__VALUES k_ h0 n0 _ T75.heap _
    rw [e75']
    exact ⟨rfl, N78⟩
  · have pre81 : ∀ t, Steps p.tables e below (s₁.setTop (mkF m 7 #[.val (.int p0_), .unset, .unset, .unset, .unset] [(.int (7 : Int32))])) t → Steps p.tables e below (s₁.setTop (entryFrame m #[(.int p0_)] maxLocals)) t := fun t kt => pre1 t (by rw [hv3]; exact kt)
    obtain ⟨_, _, ⟨T82, L82, k82, n82⟩, -, X82, ⟨Lc82, hQ82, l82, y82, z82⟩, st82⟩ := Jvm.LawKit.callS X0 hx (y := (⟨"com/example/fawley/fawley/store/KindOfPinLaw", "expected", "(I)Lcom/example/fawley/fawley/store/Change$Kind;"⟩ : MethodName)) hown (mvT hZ (hw _ (List.mem_of_getElem? (i := 1) rfl))) (mvT hZ (hw _ (List.mem_of_getElem? (i := 2) rfl))) (mvT hZ (hw _ (List.mem_of_getElem? (i := 3) rfl))) (mvT hZ (hw _ (List.mem_of_getElem? (i := 4) rfl))) (by decide) (backOf (W := 0) (rmExp7 l Z a0 hw [] w_UNDELIVERED h0 n0 O0 P21) hZ (hw _ (List.mem_of_getElem? (i := 4) rfl)) (hw _ (List.mem_of_getElem? (i := 3) rfl)) (by decide) (by decide)) (g := (mkF m 14 #[.val (.int p0_), .val (.int (8 : Int32)), .val (.int (8 : Int32)), .unset, .unset] [(.int (8 : Int32))])) rfl (by rw [hml]; rfl) (argsL := [(.int (8 : Int32))]) (rest := []) (lenOf pd_1 rfl) rfl (by show 2 * 0 + _ ≤ _; exact Nat.le_of_eq rfl) (hb hby at_14) (fun _ _ => ⟨rfl, e0, (by decide : 0 + 0 ≤ _), (by decide : 0 + 0 ≤ _)⟩)
    dsimp only [Pt.U, Pt.locs, Pt.cells, Pt.slots] at X82 l82 y82 z82 st82 hQ82
    subst l82 y82 z82
    obtain ⟨h82, e82⟩ : ∃ z, T82.heap = z := ⟨_, rfl⟩
    rw [e82] at hQ82
    obtain ⟨rfl, N82q, hh82⟩ := hQ82
    have N83 := Fr.app N0 N82q
    have e82' : T82.heap = h0 := e82.trans hh82
    obtain ⟨_, _, ⟨T84, L84, k84, n84⟩, -, X84, ⟨Lc84, hQ84, l84, y84, z84⟩, st84⟩ := Jvm.LawKit.callS X82 hx (y := (⟨"com/example/fawley/fawley/store/Change$Kind", "of", "(B)Lcom/example/fawley/fawley/store/Change$Kind;"⟩ : MethodName)) hown (mvT hZ (hw _ (List.mem_of_getElem? (i := 8) rfl))) (mvT hZ (hw _ (List.mem_of_getElem? (i := 9) rfl))) (mvT hZ (hw _ (List.mem_of_getElem? (i := 6) rfl))) (mvT hZ (hw _ (List.mem_of_getElem? (i := 10) rfl))) (by decide) (backOf (W := 0) (rmOf7 l Z a0 hw [] w_STORED w_REMOVED w_WATCHED w_UNWATCHED w_UNWATCHED_ALL w_CLOCK_READING w_ANSWERED w_UNDELIVERED w_DELIVERED w__VALUES k_ h0 n0 O0 P0 P1 P2 P3 P4 P5 P6 P7 P8 P9 P10 P11 P12 P13 P14 P15 P16 P17 P18 P19 P20 P21 P22 P23 P24 P25 P26 P27 P28 P29) hZ (hw _ (List.mem_of_getElem? (i := 10) rfl)) (hw _ (List.mem_of_getElem? (i := 6) rfl)) (by decide) (by decide)) (g := (mkF m 19 #[.val (.int p0_), .val (.int (8 : Int32)), .val (.int (8 : Int32)), .val (.ref w_UNDELIVERED), .unset] [(.int (8 : Int32))])) rfl (by rw [hml]; rfl) (argsL := [(.int (8 : Int32))]) (rest := []) (lenOf pd_2 rfl) rfl (by show 2 * 0 + _ ≤ _; exact Nat.le_of_eq rfl) (hb hby at_19) (fun _ _ => ⟨rfl, e82', (by decide : 0 + 1 ≤ _), (by decide : 0 + 9 ≤ _)⟩)
    dsimp only [Pt.U, Pt.locs, Pt.cells, Pt.slots] at X84 l84 y84 z84 st84 hQ84
    subst l84 y84 z84
    obtain ⟨h84, e84⟩ : ∃ z, T84.heap = z := ⟨_, rfl⟩
    rw [e84] at hQ84
    obtain ⟨rfl, N84q, K84⟩ := hQ84
    have N85 := Fr.app N83 N84q
    have f87 : Old Z n0 h84 := O0.keep K84 all0
    have f88 : Exa Z h84 w_UNDELIVERED "com/example/fawley/fawley/store/Change$Kind" := P22.ext f87.2
    obtain ⟨cq86, kq86, q86a, q86b, q86c⟩ := isOf hZ e84 f88
    obtain ⟨_, _, ⟨T86, L86, k86, n86⟩, -, X86, ⟨Lc86, hQ86, l86, y86, z86⟩, st86⟩ := X84.virtualBack hx (y := (⟨"com/example/fawley/fawley/store/Change$Kind", "code", "()B"⟩ : MethodName)) (z := (⟨"com/example/fawley/fawley/store/Change$Kind", "code", "()B"⟩ : MethodName)) hown (mvT hZ (hw _ (List.mem_of_getElem? (i := 36) rfl))) (mvT hZ (hw _ (List.mem_of_getElem? (i := 37) rfl))) (notFace_of_selects (args := #[]) (mvT hZ (hw _ (List.mem_of_getElem? (i := 39) rfl)))) (mvT hZ (hw _ (List.mem_of_getElem? (i := 39) rfl))) (mvT hZ (hw _ (List.mem_of_getElem? (i := 38) rfl))) (by decide) (backOf (W := 0) (rmCod l Z a0 hw [] w_UNDELIVERED (8 : Int32) h84 n0 f87 (by decide) P23) hZ (hw _ (List.mem_of_getElem? (i := 40) rfl)) (hw _ (List.mem_of_getElem? (i := 6) rfl)) (by decide) (by decide)) q86a q86c (g := (mkF m 32 #[.val (.int p0_), .val (.int (8 : Int32)), .val (.int (8 : Int32)), .val (.ref w_UNDELIVERED), .val (.ref w_UNDELIVERED)] [(.ref w_UNDELIVERED)])) rfl (by rw [hml]; rfl) (Steps.refl _) (argsL := []) (rest := []) (lenOf pd_3 rfl) rfl (by show 2 * 0 + _ ≤ _; exact Nat.le_of_eq rfl) (hb hby at_32) (fun _ _ => ⟨rfl, e84, (by decide : 1 + 0 ≤ _), (by decide : 9 + 0 ≤ _)⟩)
    dsimp only [Pt.U, Pt.locs, Pt.cells, Pt.slots] at X86 l86 y86 z86 st86 hQ86
    subst l86 y86 z86
    obtain ⟨h86, e86⟩ : ∃ z, T86.heap = z := ⟨_, rfl⟩
    rw [e86] at hQ86
    obtain ⟨rfl, N86q, hh86⟩ := hQ86
    have N89 := Fr.app N85 N86q
    have e86' : T86.heap = h84 := e86.trans hh86
    have pre90 : ∀ t, Steps p.tables e below (T86.setTop (mkF m 44 #[.val (.int p0_), .val (.int (8 : Int32)), .val (.int (8 : Int32)), .val (.ref w_UNDELIVERED), .val (.ref w_UNDELIVERED)] [(.int (1 : Int32))])) t → Steps p.tables e below (s₁.setTop (entryFrame m #[(.int p0_)] maxLocals)) t := by
      intro t kt
      refine pre81 t ?_
      show Steps p.tables e below (s₁.setTop (mkF m 7 #[.val (.int p0_), .unset, .unset, .unset, .unset] [(.int (7 : Int32))])) _
      refine XS.iconst X0.here hx rfl (hb hby at_7) ?_
      show Steps p.tables e below (s₁.setTop (mkF m 8 #[.val (.int p0_), .unset, .unset, .unset, .unset] [(.int (1 : Int32)), (.int (7 : Int32))])) _
      refine XS.iadd X0.here hx rfl (hb hby at_8) rfl ?_
      show Steps p.tables e below (s₁.setTop (mkF m 9 #[.val (.int p0_), .unset, .unset, .unset, .unset] [(.int (8 : Int32))])) _
      refine XS.istoreN X0.here hx rfl (hb hby at_9) rfl (l' := #[.val (.int p0_), .val (.int (8 : Int32)), .unset, .unset, .unset]) rfl ?_
      show Steps p.tables e below (s₁.setTop (mkF m 10 #[.val (.int p0_), .val (.int (8 : Int32)), .unset, .unset, .unset] [])) _
      refine XS.iloadN X0.here hx rfl (hb hby at_10) rfl ?_
      show Steps p.tables e below (s₁.setTop (mkF m 11 #[.val (.int p0_), .val (.int (8 : Int32)), .unset, .unset, .unset] [(.int (8 : Int32))])) _
      refine XS.i2b X0.here hx rfl (hb hby at_11) rfl ?_
      show Steps p.tables e below (s₁.setTop (mkF m 12 #[.val (.int p0_), .val (.int (8 : Int32)), .unset, .unset, .unset] [(.int (8 : Int32))])) _
      refine XS.istoreN X0.here hx rfl (hb hby at_12) rfl (l' := #[.val (.int p0_), .val (.int (8 : Int32)), .val (.int (8 : Int32)), .unset, .unset]) rfl ?_
      show Steps p.tables e below (s₁.setTop (mkF m 13 #[.val (.int p0_), .val (.int (8 : Int32)), .val (.int (8 : Int32)), .unset, .unset] [])) _
      refine XS.iloadN X0.here hx rfl (hb hby at_13) rfl ?_
      show Steps p.tables e below (s₁.setTop (mkF m 14 #[.val (.int p0_), .val (.int (8 : Int32)), .val (.int (8 : Int32)), .unset, .unset] [(.int (8 : Int32))])) _
      refine st82 _ ?_
      show Steps p.tables e below (T82.setTop (mkF m 17 #[.val (.int p0_), .val (.int (8 : Int32)), .val (.int (8 : Int32)), .unset, .unset] [(.ref w_UNDELIVERED)])) _
      refine XS.astoreN X82.here hx rfl (hb hby at_17) rfl rfl (l' := #[.val (.int p0_), .val (.int (8 : Int32)), .val (.int (8 : Int32)), .val (.ref w_UNDELIVERED), .unset]) rfl ?_
      show Steps p.tables e below (T82.setTop (mkF m 18 #[.val (.int p0_), .val (.int (8 : Int32)), .val (.int (8 : Int32)), .val (.ref w_UNDELIVERED), .unset] [])) _
      refine XS.iloadN X82.here hx rfl (hb hby at_18) rfl ?_
      show Steps p.tables e below (T82.setTop (mkF m 19 #[.val (.int p0_), .val (.int (8 : Int32)), .val (.int (8 : Int32)), .val (.ref w_UNDELIVERED), .unset] [(.int (8 : Int32))])) _
      refine st84 _ ?_
      show Steps p.tables e below (T84.setTop (mkF m 22 #[.val (.int p0_), .val (.int (8 : Int32)), .val (.int (8 : Int32)), .val (.ref w_UNDELIVERED), .unset] [(.ref w_UNDELIVERED)])) _
      refine XS.astore X84.here hx rfl (hb hby at_22) rfl rfl (l' := #[.val (.int p0_), .val (.int (8 : Int32)), .val (.int (8 : Int32)), .val (.ref w_UNDELIVERED), .val (.ref w_UNDELIVERED)]) rfl ?_
      show Steps p.tables e below (T84.setTop (mkF m 24 #[.val (.int p0_), .val (.int (8 : Int32)), .val (.int (8 : Int32)), .val (.ref w_UNDELIVERED), .val (.ref w_UNDELIVERED)] [])) _
      refine XS.aload X84.here hx rfl (hb hby at_24) rfl rfl ?_
      show Steps p.tables e below (T84.setTop (mkF m 26 #[.val (.int p0_), .val (.int (8 : Int32)), .val (.int (8 : Int32)), .val (.ref w_UNDELIVERED), .val (.ref w_UNDELIVERED)] [(.ref w_UNDELIVERED)])) _
      refine XS.aloadN X84.here hx rfl (hb hby at_26) rfl rfl ?_
      show Steps p.tables e below (T84.setTop (mkF m 27 #[.val (.int p0_), .val (.int (8 : Int32)), .val (.int (8 : Int32)), .val (.ref w_UNDELIVERED), .val (.ref w_UNDELIVERED)] [(.ref w_UNDELIVERED), (.ref w_UNDELIVERED)])) _
      refine Jvm.RoadKit.acmp (g := (mkF m 27 #[.val (.int p0_), .val (.int (8 : Int32)), .val (.int (8 : Int32)), .val (.ref w_UNDELIVERED), .val (.ref w_UNDELIVERED)] [(.ref w_UNDELIVERED), (.ref w_UNDELIVERED)])) X84 hx rfl rfl rfl (pc0 := 27) (pc' := 30) (same := true) rfl (hb hby at_27) rfl (decide_eq_true rfl) (by decide) (by decide) ?_
      show Steps p.tables e below (T84.setTop (mkF m 30 #[.val (.int p0_), .val (.int (8 : Int32)), .val (.int (8 : Int32)), .val (.ref w_UNDELIVERED), .val (.ref w_UNDELIVERED)] [])) _
      refine XS.aload X84.here hx rfl (hb hby at_30) rfl rfl ?_
      show Steps p.tables e below (T84.setTop (mkF m 32 #[.val (.int p0_), .val (.int (8 : Int32)), .val (.int (8 : Int32)), .val (.ref w_UNDELIVERED), .val (.ref w_UNDELIVERED)] [(.ref w_UNDELIVERED)])) _
      refine st86.trans ?_
      show Steps p.tables e below (T86.setTop (mkF m 35 #[.val (.int p0_), .val (.int (8 : Int32)), .val (.int (8 : Int32)), .val (.ref w_UNDELIVERED), .val (.ref w_UNDELIVERED)] [(.int (8 : Int32))])) _
      refine XS.iloadN X86.here hx rfl (hb hby at_35) rfl ?_
      show Steps p.tables e below (T86.setTop (mkF m 36 #[.val (.int p0_), .val (.int (8 : Int32)), .val (.int (8 : Int32)), .val (.ref w_UNDELIVERED), .val (.ref w_UNDELIVERED)] [(.int (8 : Int32)), (.int (8 : Int32))])) _
      refine XS.icmpNo X86.here hx rfl (hb hby at_36) rfl (teq (by decide : (8 : Int32) = (8 : Int32))).2 ?_
      show Steps p.tables e below (T86.setTop (mkF m 39 #[.val (.int p0_), .val (.int (8 : Int32)), .val (.int (8 : Int32)), .val (.ref w_UNDELIVERED), .val (.ref w_UNDELIVERED)] [])) _
      refine XS.iconst X86.here hx rfl (hb hby at_39) ?_
      show Steps p.tables e below (T86.setTop (mkF m 40 #[.val (.int p0_), .val (.int (8 : Int32)), .val (.int (8 : Int32)), .val (.ref w_UNDELIVERED), .val (.ref w_UNDELIVERED)] [(.int (1 : Int32))])) _
      refine XS.goto X86.here hx rfl (pc0 := 40) (pc' := 44) rfl (hb hby at_40) (by decide) (by decide) ?_
      exact kt
    obtain ⟨fs, hr, hrun, hended, hW, hsame⟩ := X86.leave (v := some (.int (1 : Int32))) (fun h => by rw [Bd.returns] at h; cases h)
    refine ⟨_, _, pre90 _ (retN X86 hx (t := .boolean) Bd.returns (by simp) (hb hby at_44) hr), hrun, hended, _, _, rfl, ?_, ⟨_, rfl⟩, hW, hsame.mono (by decide) (by decide)⟩
    show QLaw Z p0_ w_STORED w_REMOVED w_WATCHED w_UNWATCHED w_UNWATCHED_ALL w_CLOCK_READING w_ANSWERED w_UNDELIVERED w_DELIVERED w__VALUES k_ h0 n0 _ T86.heap _
    rw [e86']
    exact ⟨rfl, N89⟩
  · have pre92 : ∀ t, Steps p.tables e below (s₁.setTop (mkF m 7 #[.val (.int p0_), .unset, .unset, .unset, .unset] [(.int (8 : Int32))])) t → Steps p.tables e below (s₁.setTop (entryFrame m #[(.int p0_)] maxLocals)) t := fun t kt => pre1 t (by rw [hv3]; exact kt)
    obtain ⟨_, _, ⟨T93, L93, k93, n93⟩, -, X93, ⟨Lc93, hQ93, l93, y93, z93⟩, st93⟩ := Jvm.LawKit.callS X0 hx (y := (⟨"com/example/fawley/fawley/store/KindOfPinLaw", "expected", "(I)Lcom/example/fawley/fawley/store/Change$Kind;"⟩ : MethodName)) hown (mvT hZ (hw _ (List.mem_of_getElem? (i := 1) rfl))) (mvT hZ (hw _ (List.mem_of_getElem? (i := 2) rfl))) (mvT hZ (hw _ (List.mem_of_getElem? (i := 3) rfl))) (mvT hZ (hw _ (List.mem_of_getElem? (i := 4) rfl))) (by decide) (backOf (W := 0) (rmExp8 l Z a0 hw [] w_DELIVERED h0 n0 O0 P24) hZ (hw _ (List.mem_of_getElem? (i := 4) rfl)) (hw _ (List.mem_of_getElem? (i := 3) rfl)) (by decide) (by decide)) (g := (mkF m 14 #[.val (.int p0_), .val (.int (9 : Int32)), .val (.int (9 : Int32)), .unset, .unset] [(.int (9 : Int32))])) rfl (by rw [hml]; rfl) (argsL := [(.int (9 : Int32))]) (rest := []) (lenOf pd_1 rfl) rfl (by show 2 * 0 + _ ≤ _; exact Nat.le_of_eq rfl) (hb hby at_14) (fun _ _ => ⟨rfl, e0, (by decide : 0 + 0 ≤ _), (by decide : 0 + 0 ≤ _)⟩)
    dsimp only [Pt.U, Pt.locs, Pt.cells, Pt.slots] at X93 l93 y93 z93 st93 hQ93
    subst l93 y93 z93
    obtain ⟨h93, e93⟩ : ∃ z, T93.heap = z := ⟨_, rfl⟩
    rw [e93] at hQ93
    obtain ⟨rfl, N93q, hh93⟩ := hQ93
    have N94 := Fr.app N0 N93q
    have e93' : T93.heap = h0 := e93.trans hh93
    obtain ⟨_, _, ⟨T95, L95, k95, n95⟩, -, X95, ⟨Lc95, hQ95, l95, y95, z95⟩, st95⟩ := Jvm.LawKit.callS X93 hx (y := (⟨"com/example/fawley/fawley/store/Change$Kind", "of", "(B)Lcom/example/fawley/fawley/store/Change$Kind;"⟩ : MethodName)) hown (mvT hZ (hw _ (List.mem_of_getElem? (i := 8) rfl))) (mvT hZ (hw _ (List.mem_of_getElem? (i := 9) rfl))) (mvT hZ (hw _ (List.mem_of_getElem? (i := 6) rfl))) (mvT hZ (hw _ (List.mem_of_getElem? (i := 10) rfl))) (by decide) (backOf (W := 0) (rmOf8 l Z a0 hw [] w_STORED w_REMOVED w_WATCHED w_UNWATCHED w_UNWATCHED_ALL w_CLOCK_READING w_ANSWERED w_UNDELIVERED w_DELIVERED w__VALUES k_ h0 n0 O0 P0 P1 P2 P3 P4 P5 P6 P7 P8 P9 P10 P11 P12 P13 P14 P15 P16 P17 P18 P19 P20 P21 P22 P23 P24 P25 P26 P27 P28 P29) hZ (hw _ (List.mem_of_getElem? (i := 10) rfl)) (hw _ (List.mem_of_getElem? (i := 6) rfl)) (by decide) (by decide)) (g := (mkF m 19 #[.val (.int p0_), .val (.int (9 : Int32)), .val (.int (9 : Int32)), .val (.ref w_DELIVERED), .unset] [(.int (9 : Int32))])) rfl (by rw [hml]; rfl) (argsL := [(.int (9 : Int32))]) (rest := []) (lenOf pd_2 rfl) rfl (by show 2 * 0 + _ ≤ _; exact Nat.le_of_eq rfl) (hb hby at_19) (fun _ _ => ⟨rfl, e93', (by decide : 0 + 1 ≤ _), (by decide : 0 + 9 ≤ _)⟩)
    dsimp only [Pt.U, Pt.locs, Pt.cells, Pt.slots] at X95 l95 y95 z95 st95 hQ95
    subst l95 y95 z95
    obtain ⟨h95, e95⟩ : ∃ z, T95.heap = z := ⟨_, rfl⟩
    rw [e95] at hQ95
    obtain ⟨rfl, N95q, K95⟩ := hQ95
    have N96 := Fr.app N94 N95q
    have f98 : Old Z n0 h95 := O0.keep K95 all0
    have f99 : Exa Z h95 w_DELIVERED "com/example/fawley/fawley/store/Change$Kind" := P25.ext f98.2
    obtain ⟨cq97, kq97, q97a, q97b, q97c⟩ := isOf hZ e95 f99
    obtain ⟨_, _, ⟨T97, L97, k97, n97⟩, -, X97, ⟨Lc97, hQ97, l97, y97, z97⟩, st97⟩ := X95.virtualBack hx (y := (⟨"com/example/fawley/fawley/store/Change$Kind", "code", "()B"⟩ : MethodName)) (z := (⟨"com/example/fawley/fawley/store/Change$Kind", "code", "()B"⟩ : MethodName)) hown (mvT hZ (hw _ (List.mem_of_getElem? (i := 36) rfl))) (mvT hZ (hw _ (List.mem_of_getElem? (i := 37) rfl))) (notFace_of_selects (args := #[]) (mvT hZ (hw _ (List.mem_of_getElem? (i := 39) rfl)))) (mvT hZ (hw _ (List.mem_of_getElem? (i := 39) rfl))) (mvT hZ (hw _ (List.mem_of_getElem? (i := 38) rfl))) (by decide) (backOf (W := 0) (rmCod l Z a0 hw [] w_DELIVERED (9 : Int32) h95 n0 f98 (by decide) P26) hZ (hw _ (List.mem_of_getElem? (i := 40) rfl)) (hw _ (List.mem_of_getElem? (i := 6) rfl)) (by decide) (by decide)) q97a q97c (g := (mkF m 32 #[.val (.int p0_), .val (.int (9 : Int32)), .val (.int (9 : Int32)), .val (.ref w_DELIVERED), .val (.ref w_DELIVERED)] [(.ref w_DELIVERED)])) rfl (by rw [hml]; rfl) (Steps.refl _) (argsL := []) (rest := []) (lenOf pd_3 rfl) rfl (by show 2 * 0 + _ ≤ _; exact Nat.le_of_eq rfl) (hb hby at_32) (fun _ _ => ⟨rfl, e95, (by decide : 1 + 0 ≤ _), (by decide : 9 + 0 ≤ _)⟩)
    dsimp only [Pt.U, Pt.locs, Pt.cells, Pt.slots] at X97 l97 y97 z97 st97 hQ97
    subst l97 y97 z97
    obtain ⟨h97, e97⟩ : ∃ z, T97.heap = z := ⟨_, rfl⟩
    rw [e97] at hQ97
    obtain ⟨rfl, N97q, hh97⟩ := hQ97
    have N100 := Fr.app N96 N97q
    have e97' : T97.heap = h95 := e97.trans hh97
    have pre101 : ∀ t, Steps p.tables e below (T97.setTop (mkF m 44 #[.val (.int p0_), .val (.int (9 : Int32)), .val (.int (9 : Int32)), .val (.ref w_DELIVERED), .val (.ref w_DELIVERED)] [(.int (1 : Int32))])) t → Steps p.tables e below (s₁.setTop (entryFrame m #[(.int p0_)] maxLocals)) t := by
      intro t kt
      refine pre92 t ?_
      show Steps p.tables e below (s₁.setTop (mkF m 7 #[.val (.int p0_), .unset, .unset, .unset, .unset] [(.int (8 : Int32))])) _
      refine XS.iconst X0.here hx rfl (hb hby at_7) ?_
      show Steps p.tables e below (s₁.setTop (mkF m 8 #[.val (.int p0_), .unset, .unset, .unset, .unset] [(.int (1 : Int32)), (.int (8 : Int32))])) _
      refine XS.iadd X0.here hx rfl (hb hby at_8) rfl ?_
      show Steps p.tables e below (s₁.setTop (mkF m 9 #[.val (.int p0_), .unset, .unset, .unset, .unset] [(.int (9 : Int32))])) _
      refine XS.istoreN X0.here hx rfl (hb hby at_9) rfl (l' := #[.val (.int p0_), .val (.int (9 : Int32)), .unset, .unset, .unset]) rfl ?_
      show Steps p.tables e below (s₁.setTop (mkF m 10 #[.val (.int p0_), .val (.int (9 : Int32)), .unset, .unset, .unset] [])) _
      refine XS.iloadN X0.here hx rfl (hb hby at_10) rfl ?_
      show Steps p.tables e below (s₁.setTop (mkF m 11 #[.val (.int p0_), .val (.int (9 : Int32)), .unset, .unset, .unset] [(.int (9 : Int32))])) _
      refine XS.i2b X0.here hx rfl (hb hby at_11) rfl ?_
      show Steps p.tables e below (s₁.setTop (mkF m 12 #[.val (.int p0_), .val (.int (9 : Int32)), .unset, .unset, .unset] [(.int (9 : Int32))])) _
      refine XS.istoreN X0.here hx rfl (hb hby at_12) rfl (l' := #[.val (.int p0_), .val (.int (9 : Int32)), .val (.int (9 : Int32)), .unset, .unset]) rfl ?_
      show Steps p.tables e below (s₁.setTop (mkF m 13 #[.val (.int p0_), .val (.int (9 : Int32)), .val (.int (9 : Int32)), .unset, .unset] [])) _
      refine XS.iloadN X0.here hx rfl (hb hby at_13) rfl ?_
      show Steps p.tables e below (s₁.setTop (mkF m 14 #[.val (.int p0_), .val (.int (9 : Int32)), .val (.int (9 : Int32)), .unset, .unset] [(.int (9 : Int32))])) _
      refine st93 _ ?_
      show Steps p.tables e below (T93.setTop (mkF m 17 #[.val (.int p0_), .val (.int (9 : Int32)), .val (.int (9 : Int32)), .unset, .unset] [(.ref w_DELIVERED)])) _
      refine XS.astoreN X93.here hx rfl (hb hby at_17) rfl rfl (l' := #[.val (.int p0_), .val (.int (9 : Int32)), .val (.int (9 : Int32)), .val (.ref w_DELIVERED), .unset]) rfl ?_
      show Steps p.tables e below (T93.setTop (mkF m 18 #[.val (.int p0_), .val (.int (9 : Int32)), .val (.int (9 : Int32)), .val (.ref w_DELIVERED), .unset] [])) _
      refine XS.iloadN X93.here hx rfl (hb hby at_18) rfl ?_
      show Steps p.tables e below (T93.setTop (mkF m 19 #[.val (.int p0_), .val (.int (9 : Int32)), .val (.int (9 : Int32)), .val (.ref w_DELIVERED), .unset] [(.int (9 : Int32))])) _
      refine st95 _ ?_
      show Steps p.tables e below (T95.setTop (mkF m 22 #[.val (.int p0_), .val (.int (9 : Int32)), .val (.int (9 : Int32)), .val (.ref w_DELIVERED), .unset] [(.ref w_DELIVERED)])) _
      refine XS.astore X95.here hx rfl (hb hby at_22) rfl rfl (l' := #[.val (.int p0_), .val (.int (9 : Int32)), .val (.int (9 : Int32)), .val (.ref w_DELIVERED), .val (.ref w_DELIVERED)]) rfl ?_
      show Steps p.tables e below (T95.setTop (mkF m 24 #[.val (.int p0_), .val (.int (9 : Int32)), .val (.int (9 : Int32)), .val (.ref w_DELIVERED), .val (.ref w_DELIVERED)] [])) _
      refine XS.aload X95.here hx rfl (hb hby at_24) rfl rfl ?_
      show Steps p.tables e below (T95.setTop (mkF m 26 #[.val (.int p0_), .val (.int (9 : Int32)), .val (.int (9 : Int32)), .val (.ref w_DELIVERED), .val (.ref w_DELIVERED)] [(.ref w_DELIVERED)])) _
      refine XS.aloadN X95.here hx rfl (hb hby at_26) rfl rfl ?_
      show Steps p.tables e below (T95.setTop (mkF m 27 #[.val (.int p0_), .val (.int (9 : Int32)), .val (.int (9 : Int32)), .val (.ref w_DELIVERED), .val (.ref w_DELIVERED)] [(.ref w_DELIVERED), (.ref w_DELIVERED)])) _
      refine Jvm.RoadKit.acmp (g := (mkF m 27 #[.val (.int p0_), .val (.int (9 : Int32)), .val (.int (9 : Int32)), .val (.ref w_DELIVERED), .val (.ref w_DELIVERED)] [(.ref w_DELIVERED), (.ref w_DELIVERED)])) X95 hx rfl rfl rfl (pc0 := 27) (pc' := 30) (same := true) rfl (hb hby at_27) rfl (decide_eq_true rfl) (by decide) (by decide) ?_
      show Steps p.tables e below (T95.setTop (mkF m 30 #[.val (.int p0_), .val (.int (9 : Int32)), .val (.int (9 : Int32)), .val (.ref w_DELIVERED), .val (.ref w_DELIVERED)] [])) _
      refine XS.aload X95.here hx rfl (hb hby at_30) rfl rfl ?_
      show Steps p.tables e below (T95.setTop (mkF m 32 #[.val (.int p0_), .val (.int (9 : Int32)), .val (.int (9 : Int32)), .val (.ref w_DELIVERED), .val (.ref w_DELIVERED)] [(.ref w_DELIVERED)])) _
      refine st97.trans ?_
      show Steps p.tables e below (T97.setTop (mkF m 35 #[.val (.int p0_), .val (.int (9 : Int32)), .val (.int (9 : Int32)), .val (.ref w_DELIVERED), .val (.ref w_DELIVERED)] [(.int (9 : Int32))])) _
      refine XS.iloadN X97.here hx rfl (hb hby at_35) rfl ?_
      show Steps p.tables e below (T97.setTop (mkF m 36 #[.val (.int p0_), .val (.int (9 : Int32)), .val (.int (9 : Int32)), .val (.ref w_DELIVERED), .val (.ref w_DELIVERED)] [(.int (9 : Int32)), (.int (9 : Int32))])) _
      refine XS.icmpNo X97.here hx rfl (hb hby at_36) rfl (teq (by decide : (9 : Int32) = (9 : Int32))).2 ?_
      show Steps p.tables e below (T97.setTop (mkF m 39 #[.val (.int p0_), .val (.int (9 : Int32)), .val (.int (9 : Int32)), .val (.ref w_DELIVERED), .val (.ref w_DELIVERED)] [])) _
      refine XS.iconst X97.here hx rfl (hb hby at_39) ?_
      show Steps p.tables e below (T97.setTop (mkF m 40 #[.val (.int p0_), .val (.int (9 : Int32)), .val (.int (9 : Int32)), .val (.ref w_DELIVERED), .val (.ref w_DELIVERED)] [(.int (1 : Int32))])) _
      refine XS.goto X97.here hx rfl (pc0 := 40) (pc' := 44) rfl (hb hby at_40) (by decide) (by decide) ?_
      exact kt
    obtain ⟨fs, hr, hrun, hended, hW, hsame⟩ := X97.leave (v := some (.int (1 : Int32))) (fun h => by rw [Bd.returns] at h; cases h)
    refine ⟨_, _, pre101 _ (retN X97 hx (t := .boolean) Bd.returns (by simp) (hb hby at_44) hr), hrun, hended, _, _, rfl, ?_, ⟨_, rfl⟩, hW, hsame.mono (by decide) (by decide)⟩
    show QLaw Z p0_ w_STORED w_REMOVED w_WATCHED w_UNWATCHED w_UNWATCHED_ALL w_CLOCK_READING w_ANSWERED w_UNDELIVERED w_DELIVERED w__VALUES k_ h0 n0 _ T97.heap _
    rw [e97']
    exact ⟨rfl, N100⟩
set_option maxRecDepth 65536 in
set_option maxHeartbeats 40000000 in
theorem comes_1 {Post : Tables → Env → Array Value → State → Outcome → State → Prop} (hpost : ∀ tb e args s v u, (limb_1_1.after args s (.returned v) u = true ∧ limb_1_2.after args s (.returned v) u = true ∧ True) → FrameEnd s (.returned v) u (Jvm.fieldLocs frame_1_writes args s ++ Jvm.arrayLocs frame_1_arrays args s ++ Jvm.staticLocs frame_1_statics s) 16 128 → Post tb e args s (.returned v) u) :
    ArmFor flags0 classFile x code maxLocals ret World_1 tables_1 room_1 Calls_1 rest_1 Pre_1 Post := by
  intro l hfl _ _ p e ha hc hk s m args below hf hA hF happ hP
  obtain ⟨hcalls, hrest, hpre⟩ := hP
  obtain ⟨-, -, -, hnamed, -, -, -, hat⟩ := (Spec.applies_iff hf).mp happ
  obtain ⟨hg, hn⟩ := and_e (Cond.before_iff.mp (show (Jvm.Cond.and given_1 narrow_1).before args s = true from hpre))
  obtain ⟨g1, g2⟩ := and_e hg
  obtain ⟨w0, rfl⟩ : ∃ w0 : Value, args = #[w0] := by
    have hs : args.size = 1 := by simpa [Cond.value, given_1] using g1
    obtain ⟨L⟩ := args
    match L, hs with
    | [w0], _ => exact ⟨w0, rfl⟩
  have hw := fun d (hd : d ∈ tables_1) => atoms_spec (ws := Jvm.Cond.code x code maxLocals ret :: tables_1) hat d (List.mem_cons_of_mem _ hd)
  have hfit : Fit s := fun {y c} hc i hi => by
    obtain ⟨ha, rfl⟩ := Array.getElem?_eq_some_iff.mp hc
    have q := List.all_eq_true.mp ((Array.all_eq_true_iff_forall_mem.mp hF) _ (Array.getElem_mem ha)) i (List.mem_range.mpr hi)
    simpa [Array.getElem?_eq_getElem hi] using q
  obtain ⟨i0, ei0⟩ := is_v g2
  obtain rfl : w0 = (.int i0) := Option.some.inj ei0
  obtain ⟨g3, g4⟩ := and_e hn
  obtain ⟨g5, g6⟩ := and_e g4
  obtain ⟨g7, g8⟩ := and_e g6
  obtain ⟨g9, g10⟩ := and_e g8
  obtain ⟨g11, g12⟩ := and_e g10
  obtain ⟨g13, g14⟩ := and_e g12
  obtain ⟨g15, g16⟩ := and_e g14
  obtain ⟨g17, g18⟩ := and_e g16
  obtain ⟨g19, g20⟩ := and_e g18
  obtain ⟨g21, g22⟩ := and_e g20
  obtain ⟨g23, g24⟩ := and_e g22
  obtain ⟨g25, g26⟩ := and_e g24
  obtain ⟨g27, g28⟩ := and_e g26
  obtain ⟨g29, g30⟩ := and_e g28
  obtain ⟨g31, g32⟩ := and_e g30
  obtain ⟨g33, g34⟩ := and_e g32
  obtain ⟨g35, g36⟩ := and_e g34
  obtain ⟨g37, g38⟩ := and_e g36
  obtain ⟨g39, g40⟩ := and_e g38
  obtain ⟨g41, g42⟩ := and_e g40
  obtain ⟨g43, g44⟩ := and_e g42
  obtain ⟨g45, g46⟩ := and_e g44
  obtain ⟨g47, g48⟩ := and_e g46
  obtain ⟨g49, g50⟩ := and_e g48
  obtain ⟨g51, g52⟩ := and_e g50
  obtain ⟨g53, g54⟩ := and_e g52
  obtain ⟨g55, g56⟩ := and_e g54
  obtain ⟨g57, g58⟩ := and_e g56
  obtain ⟨g59, g60⟩ := and_e g58
  obtain ⟨w_STORED, ev_w_STORED⟩ := exa_v g3
  have S_w_STORED := Sta.start ev_w_STORED (Or.inr ⟨(hw _ (List.mem_of_getElem? (i := 6) rfl)), (hw _ (List.mem_of_getElem? (i := 7) rfl))⟩)
  have E_w_STORED := Exa.start ev_w_STORED g3
  obtain ⟨w__VALUES, ev_w__VALUES⟩ := arr_v g5
  have S_w__VALUES := Sta.start ev_w__VALUES (Or.inl (hw _ (List.mem_of_getElem? (i := 31) rfl)))
  obtain ⟨c_w__VALUES, A_w__VALUES⟩ := Arr.start ev_w__VALUES g5
  have E_w__VALUES := Exa.start ev_w__VALUES g7
  obtain ⟨w_REMOVED, ev_w_REMOVED⟩ := exa_v g13
  have S_w_REMOVED := Sta.start ev_w_REMOVED (Or.inr ⟨(hw _ (List.mem_of_getElem? (i := 6) rfl)), (hw _ (List.mem_of_getElem? (i := 23) rfl))⟩)
  have E_w_REMOVED := Exa.start ev_w_REMOVED g13
  obtain ⟨w_WATCHED, ev_w_WATCHED⟩ := exa_v g17
  have S_w_WATCHED := Sta.start ev_w_WATCHED (Or.inr ⟨(hw _ (List.mem_of_getElem? (i := 6) rfl)), (hw _ (List.mem_of_getElem? (i := 24) rfl))⟩)
  have E_w_WATCHED := Exa.start ev_w_WATCHED g17
  obtain ⟨w_UNWATCHED, ev_w_UNWATCHED⟩ := exa_v g21
  have S_w_UNWATCHED := Sta.start ev_w_UNWATCHED (Or.inr ⟨(hw _ (List.mem_of_getElem? (i := 6) rfl)), (hw _ (List.mem_of_getElem? (i := 25) rfl))⟩)
  have E_w_UNWATCHED := Exa.start ev_w_UNWATCHED g21
  obtain ⟨w_UNWATCHED_ALL, ev_w_UNWATCHED_ALL⟩ := exa_v g25
  have S_w_UNWATCHED_ALL := Sta.start ev_w_UNWATCHED_ALL (Or.inr ⟨(hw _ (List.mem_of_getElem? (i := 6) rfl)), (hw _ (List.mem_of_getElem? (i := 26) rfl))⟩)
  have E_w_UNWATCHED_ALL := Exa.start ev_w_UNWATCHED_ALL g25
  obtain ⟨w_CLOCK_READING, ev_w_CLOCK_READING⟩ := exa_v g29
  have S_w_CLOCK_READING := Sta.start ev_w_CLOCK_READING (Or.inr ⟨(hw _ (List.mem_of_getElem? (i := 6) rfl)), (hw _ (List.mem_of_getElem? (i := 27) rfl))⟩)
  have E_w_CLOCK_READING := Exa.start ev_w_CLOCK_READING g29
  obtain ⟨w_ANSWERED, ev_w_ANSWERED⟩ := exa_v g33
  have S_w_ANSWERED := Sta.start ev_w_ANSWERED (Or.inr ⟨(hw _ (List.mem_of_getElem? (i := 6) rfl)), (hw _ (List.mem_of_getElem? (i := 28) rfl))⟩)
  have E_w_ANSWERED := Exa.start ev_w_ANSWERED g33
  obtain ⟨w_UNDELIVERED, ev_w_UNDELIVERED⟩ := exa_v g37
  have S_w_UNDELIVERED := Sta.start ev_w_UNDELIVERED (Or.inr ⟨(hw _ (List.mem_of_getElem? (i := 6) rfl)), (hw _ (List.mem_of_getElem? (i := 29) rfl))⟩)
  have E_w_UNDELIVERED := Exa.start ev_w_UNDELIVERED g37
  obtain ⟨w_DELIVERED, ev_w_DELIVERED⟩ := exa_v g41
  have S_w_DELIVERED := Sta.start ev_w_DELIVERED (Or.inr ⟨(hw _ (List.mem_of_getElem? (i := 6) rfl)), (hw _ (List.mem_of_getElem? (i := 30) rfl))⟩)
  have E_w_DELIVERED := Exa.start ev_w_DELIVERED g41
  have Ln_w__VALUES := own_len g9 ev_w__VALUES A_w__VALUES
  have El_w__VALUES_0 := (elem_in (own_eqr g11 ev_w_STORED) ev_w__VALUES (Term.int_eval (0)) A_w__VALUES.1).2
  have El_w__VALUES_1 := (elem_in (own_eqr g15 ev_w_REMOVED) ev_w__VALUES (Term.int_eval (1)) A_w__VALUES.1).2
  have El_w__VALUES_2 := (elem_in (own_eqr g19 ev_w_WATCHED) ev_w__VALUES (Term.int_eval (2)) A_w__VALUES.1).2
  have El_w__VALUES_3 := (elem_in (own_eqr g23 ev_w_UNWATCHED) ev_w__VALUES (Term.int_eval (3)) A_w__VALUES.1).2
  have El_w__VALUES_4 := (elem_in (own_eqr g27 ev_w_UNWATCHED_ALL) ev_w__VALUES (Term.int_eval (4)) A_w__VALUES.1).2
  have El_w__VALUES_5 := (elem_in (own_eqr g31 ev_w_CLOCK_READING) ev_w__VALUES (Term.int_eval (5)) A_w__VALUES.1).2
  have El_w__VALUES_6 := (elem_in (own_eqr g35 ev_w_ANSWERED) ev_w__VALUES (Term.int_eval (6)) A_w__VALUES.1).2
  have El_w__VALUES_7 := (elem_in (own_eqr g39 ev_w_UNDELIVERED) ev_w__VALUES (Term.int_eval (7)) A_w__VALUES.1).2
  have El_w__VALUES_8 := (elem_in (own_eqr g43 ev_w_DELIVERED) ev_w__VALUES (Term.int_eval (8)) A_w__VALUES.1).2
  have F_code_w_STORED := Fld.start ((fld_at ev_w_STORED).symm.trans (own_eqi g45))
  have F_code_w_REMOVED := Fld.start ((fld_at ev_w_REMOVED).symm.trans (own_eqi g47))
  have F_code_w_WATCHED := Fld.start ((fld_at ev_w_WATCHED).symm.trans (own_eqi g49))
  have F_code_w_UNWATCHED := Fld.start ((fld_at ev_w_UNWATCHED).symm.trans (own_eqi g51))
  have F_code_w_UNWATCHED_ALL := Fld.start ((fld_at ev_w_UNWATCHED_ALL).symm.trans (own_eqi g53))
  have F_code_w_CLOCK_READING := Fld.start ((fld_at ev_w_CLOCK_READING).symm.trans (own_eqi g55))
  have F_code_w_ANSWERED := Fld.start ((fld_at ev_w_ANSWERED).symm.trans (own_eqi g57))
  have F_code_w_UNDELIVERED := Fld.start ((fld_at ev_w_UNDELIVERED).symm.trans (own_eqi g59))
  have F_code_w_DELIVERED := Fld.start ((fld_at ev_w_DELIVERED).symm.trans (own_eqi g60))
  have V_w__VALUES : Arv s s.heap w__VALUES c_w__VALUES.cls (.object "com/example/fawley/fawley/store/Change$Kind") (9 : Int32) [(.ref w_STORED), (.ref w_REMOVED), (.ref w_WATCHED), (.ref w_UNWATCHED), (.ref w_UNWATCHED_ALL), (.ref w_CLOCK_READING), (.ref w_ANSWERED), (.ref w_UNDELIVERED), (.ref w_DELIVERED)] .null := Arv.start hfit A_w__VALUES Ln_w__VALUES.1 Ln_w__VALUES.2 (by decide) rfl ⟨El_w__VALUES_0, El_w__VALUES_1, El_w__VALUES_2, El_w__VALUES_3, El_w__VALUES_4, El_w__VALUES_5, El_w__VALUES_6, El_w__VALUES_7, El_w__VALUES_8, trivial⟩
  obtain ⟨n, o, h1, h2, h3, _, L, rfl, ⟨rfl, N⟩, hq⟩ := rmLaw l s _ hw tables_1 i0 w_STORED w_REMOVED w_WATCHED w_UNWATCHED w_UNWATCHED_ALL w_CLOCK_READING w_ANSWERED w_UNDELIVERED w_DELIVERED w__VALUES c_w__VALUES.cls s.heap s.heap.size (Old.start s) S_w_STORED E_w_STORED F_code_w_STORED S_w_REMOVED E_w_REMOVED F_code_w_REMOVED S_w_WATCHED E_w_WATCHED F_code_w_WATCHED S_w_UNWATCHED E_w_UNWATCHED F_code_w_UNWATCHED S_w_UNWATCHED_ALL E_w_UNWATCHED_ALL F_code_w_UNWATCHED_ALL S_w_CLOCK_READING E_w_CLOCK_READING F_code_w_CLOCK_READING S_w_ANSWERED E_w_ANSWERED F_code_w_ANSWERED S_w_UNDELIVERED E_w_UNDELIVERED F_code_w_UNDELIVERED S_w_DELIVERED E_w_DELIVERED F_code_w_DELIVERED S_w__VALUES E_w__VALUES V_w__VALUES p e ha hc hk s m _ below hf ((Spec.applies_iff_loose hf).mp happ).1 ⟨rfl, State.Warmed39.refl s, rfl⟩ trivial
  refine ⟨n, _, h1, h2, h3, hpost _ _ _ _ _ _ ⟨Cond.after_iff.mpr rfl, Cond.after_iff.mpr (eq_i res_at (Term.int_eval (1)) rfl), trivial⟩ ⟨hq.1, hq.2.1, (hq.2.2.sift fun y hy => Or.inr (N y hy)).mono (by decide) (by decide)⟩⟩
theorem main_1_1 : Claimed_1_1 := comes_1 fun _ _ _ _ _ _ h hF => ⟨h.1, hF⟩
theorem main_1_2 : Claimed_1_2 := comes_1 fun _ _ _ _ _ _ h hF => ⟨h.2.1, hF⟩
end Jvm.Pilot.@@N@@
namespace Jvm.Pilot.@@N@@
open Jvm Jvm.ClassFile Sem Op Lib Jvm.Free Jvm.Stand Jvm.Pilot.@@N@@.Jvm.D
/-! MADE BY PROGRAM (witnessworld.py) out of the Statement's table words and the real class files: 13 classes; the members and pool entries that the words name. The judged class is class 1, her method 2. -/
namespace start1
open Jvm.ClassFile
def u (s : String) : CpInfo := .utf8 (stringToUtf16 s)
/-- a pool by its gaps: so many unusable entries, then the entry; so many at the end -/
def gap : Nat → List CpInfo → List CpInfo
  | 0, r => r
  | n + 1, r => .unusable :: gap n r
def poolList (es : List (Nat × CpInfo)) (last : Nat) : List CpInfo := es.foldr (fun e r => gap e.1 (e.2 :: r)) (gap last [])
def pool (es : List (Nat × CpInfo)) (last : Nat) : Array CpInfo := ⟨poolList es last⟩
def fileOf (pool : Array CpInfo) (this : Nat) (attrs : Array Attribute := #[]) (ms : Array MethodInfo := #[]) (fl : Nat := 33) (sup : Nat := 0) (ifs : Array Nat := #[]) (fds : Array FieldInfo := #[]) : ClassFile where
  minorVersion := 0
  majorVersion := 65
  constantPool := pool
  accessFlags := fl
  thisClass := this
  superClass := sup
  interfaces := ifs
  fields := fds
  methods := ms
  attributes := attrs
def plain (name : String) (sup : Option ClassId) : Class where
  name := name
  kind := .ordinary
  loader := none
  accessFlags := 33
  super := sup
  interfaces := #[]
  cf := none
  fields := #[]
  methods := #[]
  instanceTypes := #[]
  staticTypes := #[]
  resolved := #[]
  callSites := []
  init := .initialized
  statics := none
  mirror := none

def pool0 : Array CpInfo := pool [(5, u "<init>"), (0, u "()V"), (1, .class_ 10), (1, u "java/lang/Object"), (85, u "clone"), (0, u "()Ljava/lang/Object;")] 26

def k0m0 : Method := { name := "<init>", desc := "()V", sig := { parameters := [], returnType := none }, accessFlags := 1, code := none }
def k0m1 : Method := { name := "clone", desc := "()Ljava/lang/Object;", sig := { parameters := [], returnType := some (.object "java/lang/Object") }, accessFlags := 260, code := none }
/-- java/lang/Object -/
def k0 : Class := { plain "java/lang/Object" none with
  accessFlags := 33
  interfaces := #[]
  cf := some (fileOf pool0 8 #[] #[{ accessFlags := 1, nameIndex := 5, descriptorIndex := 6, attributes := #[] }, { accessFlags := 260, nameIndex := 96, descriptorIndex := 97, attributes := #[] }] 33 0 #[] #[])
  fields := #[]
  methods := #[k0m0, k0m1]
  instanceTypes := #[]
  staticTypes := #[]
  resolved := Array.replicate 124 none
  statics := none }

def pool1 : Array CpInfo := pool [(2, .class_ 4), (1, u "java/lang/Object"), (0, u "<init>"), (0, u "()V"), (0, .fieldref 8 9), (0, .class_ 10), (0, .nameAndType 11 12), (0, u "com/example/fawley/fawley/store/Change$Kind"), (0, u "STORED"), (0, u "Lcom/example/fawley/fawley/store/Change$Kind;"), (0, .fieldref 8 14), (0, .nameAndType 15 12), (0, u "REMOVED"), (0, .fieldref 8 17), (0, .nameAndType 18 12), (0, u "WATCHED"), (0, .fieldref 8 20), (0, .nameAndType 21 12), (0, u "UNWATCHED"), (0, .fieldref 8 23), (0, .nameAndType 24 12), (0, u "UNWATCHED_ALL"), (0, .fieldref 8 26), (0, .nameAndType 27 12), (0, u "CLOCK_READING"), (0, .fieldref 8 29), (0, .nameAndType 30 12), (0, u "ANSWERED"), (0, .fieldref 8 32), (0, .nameAndType 33 12), (0, u "UNDELIVERED"), (0, .fieldref 8 35), (0, .nameAndType 36 12), (0, u "DELIVERED"), (0, .integer 2147483647), (0, .methodref 39 40), (0, .class_ 41), (0, .nameAndType 42 43), (0, u "com/example/fawley/fawley/store/KindOfPinLaw"), (0, u "expected"), (0, u "(I)Lcom/example/fawley/fawley/store/Change$Kind;"), (0, .methodref 8 45), (0, .nameAndType 46 47), (0, u "of"), (0, u "(B)Lcom/example/fawley/fawley/store/Change$Kind;"), (0, .methodref 8 49), (0, .nameAndType 50 51), (0, u "code"), (0, u "()B"), (3, u "law"), (0, u "(I)Z")] 6

def k1m0 : Method := { name := "<init>", desc := "()V", sig := { parameters := [], returnType := none }, accessFlags := 2, code := none }
def k1c1 : Code := { maxStack := 2, maxLocals := 1, code := method_2_code, exceptionTable := #[], attributes := #[] }
def k1m1 : Method := { name := "expected", desc := "(I)Lcom/example/fawley/fawley/store/Change$Kind;", sig := { parameters := [.int], returnType := some (.object "com/example/fawley/fawley/store/Change$Kind") }, accessFlags := 10, code := some k1c1 }
def k1c2 : Code := { maxStack := 2, maxLocals := 5, code := code, exceptionTable := #[], attributes := #[] }
def k1m2 : Method := { name := "law", desc := "(I)Z", sig := { parameters := [.int], returnType := some .boolean }, accessFlags := 9, code := some k1c2 }
/-- com/example/fawley/fawley/store/KindOfPinLaw -/
def k1 : Class := { plain "com/example/fawley/fawley/store/KindOfPinLaw" (some 0) with
  accessFlags := 49
  interfaces := #[]
  cf := some (fileOf pool1 39 #[] #[{ accessFlags := 2, nameIndex := 5, descriptorIndex := 6, attributes := #[] }, { accessFlags := 10, nameIndex := 42, descriptorIndex := 43, attributes := #[] }, { accessFlags := 9, nameIndex := 55, descriptorIndex := 56, attributes := #[] }] 49 2 #[] #[])
  fields := #[]
  methods := #[k1m0, k1m1, k1m2]
  instanceTypes := #[]
  staticTypes := #[]
  resolved := Array.replicate 63 none
  statics := none }

def pool2 : Array CpInfo := pool [(1, .class_ 2), (0, u "java/lang/constant/Constable"), (0, .class_ 4), (0, u "java/lang/Object")] 6

/-- java/lang/constant/Constable -/
def k2 : Class := { plain "java/lang/constant/Constable" (some 0) with
  accessFlags := 1537
  interfaces := #[]
  cf := some (fileOf pool2 1 #[] #[] 1537 3 #[] #[])
  fields := #[]
  methods := #[]
  instanceTypes := #[]
  staticTypes := #[]
  resolved := Array.replicate 11 none
  statics := none }

def pool3 : Array CpInfo := pool [(1, .class_ 2), (0, u "java/lang/Comparable"), (0, .class_ 4), (0, u "java/lang/Object")] 7

/-- java/lang/Comparable -/
def k3 : Class := { plain "java/lang/Comparable" (some 0) with
  accessFlags := 1537
  interfaces := #[]
  cf := some (fileOf pool3 1 #[] #[] 1537 3 #[] #[])
  fields := #[]
  methods := #[]
  instanceTypes := #[]
  staticTypes := #[]
  resolved := Array.replicate 12 none
  statics := none }

def pool4 : Array CpInfo := pool [(1, .class_ 2), (0, u "java/io/Serializable"), (0, .class_ 4), (0, u "java/lang/Object")] 2

/-- java/io/Serializable -/
def k4 : Class := { plain "java/io/Serializable" (some 0) with
  accessFlags := 1537
  interfaces := #[]
  cf := some (fileOf pool4 1 #[] #[] 1537 3 #[] #[])
  fields := #[]
  methods := #[]
  instanceTypes := #[]
  staticTypes := #[]
  resolved := Array.replicate 7 none
  statics := none }

def pool5 : Array CpInfo := pool [(2, .class_ 4), (1, u "java/lang/Enum"), (0, u "name"), (0, u "Ljava/lang/String;"), (2, u "ordinal"), (0, u "I"), (1, .class_ 14), (1, u "java/lang/Object"), (4, u "hash"), (86, .class_ 108), (1, u "java/lang/Enum$EnumDesc"), (2, .class_ 112), (0, u "java/lang/constant/Constable"), (0, .class_ 114), (0, u "java/lang/Comparable"), (0, .class_ 116), (0, u "java/io/Serializable")] 87

/-- java/lang/Enum -/
def k5 : Class := { plain "java/lang/Enum" (some 0) with
  accessFlags := 1057
  interfaces := #[2, 3, 4]
  cf := some (fileOf pool5 2 #[.nestMembers #[106]] #[] 1057 12 #[111, 113, 115] #[{ accessFlags := 18, nameIndex := 5, descriptorIndex := 6, attributes := #[] }, { accessFlags := 18, nameIndex := 9, descriptorIndex := 10, attributes := #[] }, { accessFlags := 2, nameIndex := 19, descriptorIndex := 10, attributes := #[] }])
  fields := #[{ name := "name", type := (.object "java/lang/String"), accessFlags := 18, slot := 0, constantValue := 0 }, { name := "ordinal", type := .int, accessFlags := 18, slot := 1, constantValue := 0 }, { name := "hash", type := .int, accessFlags := 2, slot := 2, constantValue := 0 }]
  methods := #[]
  instanceTypes := #[(.object "java/lang/String"), .int, .int]
  staticTypes := #[]
  resolved := Array.replicate 204 none
  statics := none }

def pool6 : Array CpInfo := pool [(1, .class_ 2), (0, u "com/example/fawley/fawley/store/Change$Kind"), (2, u "STORED"), (0, u "Lcom/example/fawley/fawley/store/Change$Kind;"), (2, u "REMOVED"), (2, u "WATCHED"), (2, u "UNWATCHED"), (2, u "UNWATCHED_ALL"), (2, u "CLOCK_READING"), (2, u "ANSWERED"), (2, u "UNDELIVERED"), (2, u "DELIVERED"), (0, .fieldref 1 32), (0, .nameAndType 33 34), (0, u "$VALUES"), (0, u "[Lcom/example/fawley/fawley/store/Change$Kind;"), (0, .methodref 36 37), (0, .class_ 34), (0, .nameAndType 38 39), (0, u "clone"), (0, u "()Ljava/lang/Object;"), (1, .class_ 43), (1, u "java/lang/Enum"), (6, .fieldref 1 51), (0, .nameAndType 52 53), (0, u "code"), (0, u "B"), (0, .methodref 1 55), (0, .nameAndType 56 57), (0, u "values"), (0, u "()[Lcom/example/fawley/fawley/store/Change$Kind;"), (30, u "()B"), (0, u "of"), (0, u "(B)Lcom/example/fawley/fawley/store/Change$Kind;"), (7, .class_ 99), (0, u "com/example/fawley/fawley/store/Change")] 16

def k6c0 : Code := { maxStack := 1, maxLocals := 0, code := prog_29_method_1_code, exceptionTable := #[], attributes := #[] }
def k6m0 : Method := { name := "values", desc := "()[Lcom/example/fawley/fawley/store/Change$Kind;", sig := { parameters := [], returnType := some (.array (.object "com/example/fawley/fawley/store/Change$Kind")) }, accessFlags := 9, code := some k6c0 }
def k6c1 : Code := { maxStack := 1, maxLocals := 1, code := prog_29_method_4_code, exceptionTable := #[], attributes := #[] }
def k6m1 : Method := { name := "code", desc := "()B", sig := { parameters := [], returnType := some .byte }, accessFlags := 0, code := some k6c1 }
def k6c2 : Code := { maxStack := 3, maxLocals := 5, code := prog_29_method_5_code, exceptionTable := #[], attributes := #[] }
def k6m2 : Method := { name := "of", desc := "(B)Lcom/example/fawley/fawley/store/Change$Kind;", sig := { parameters := [.byte], returnType := some (.object "com/example/fawley/fawley/store/Change$Kind") }, accessFlags := 8, code := some k6c2 }
/-- com/example/fawley/fawley/store/Change$Kind -/
def k6 : Class := { plain "com/example/fawley/fawley/store/Change$Kind" (some 5) with
  accessFlags := 16433
  interfaces := #[]
  cf := some (fileOf pool6 1 #[.nestHost 98] #[{ accessFlags := 9, nameIndex := 56, descriptorIndex := 57, attributes := #[] }, { accessFlags := 0, nameIndex := 52, descriptorIndex := 88, attributes := #[] }, { accessFlags := 8, nameIndex := 89, descriptorIndex := 90, attributes := #[] }] 16433 41 #[] #[{ accessFlags := 16409, nameIndex := 5, descriptorIndex := 6, attributes := #[] }, { accessFlags := 16409, nameIndex := 9, descriptorIndex := 6, attributes := #[] }, { accessFlags := 16409, nameIndex := 12, descriptorIndex := 6, attributes := #[] }, { accessFlags := 16409, nameIndex := 15, descriptorIndex := 6, attributes := #[] }, { accessFlags := 16409, nameIndex := 18, descriptorIndex := 6, attributes := #[] }, { accessFlags := 16409, nameIndex := 21, descriptorIndex := 6, attributes := #[] }, { accessFlags := 16409, nameIndex := 24, descriptorIndex := 6, attributes := #[] }, { accessFlags := 16409, nameIndex := 27, descriptorIndex := 6, attributes := #[] }, { accessFlags := 16409, nameIndex := 30, descriptorIndex := 6, attributes := #[] }, { accessFlags := 18, nameIndex := 52, descriptorIndex := 53, attributes := #[] }, { accessFlags := 4122, nameIndex := 33, descriptorIndex := 34, attributes := #[] }])
  fields := #[{ name := "STORED", type := (.object "com/example/fawley/fawley/store/Change$Kind"), accessFlags := 16409, slot := 0, constantValue := 0 }, { name := "REMOVED", type := (.object "com/example/fawley/fawley/store/Change$Kind"), accessFlags := 16409, slot := 1, constantValue := 0 }, { name := "WATCHED", type := (.object "com/example/fawley/fawley/store/Change$Kind"), accessFlags := 16409, slot := 2, constantValue := 0 }, { name := "UNWATCHED", type := (.object "com/example/fawley/fawley/store/Change$Kind"), accessFlags := 16409, slot := 3, constantValue := 0 }, { name := "UNWATCHED_ALL", type := (.object "com/example/fawley/fawley/store/Change$Kind"), accessFlags := 16409, slot := 4, constantValue := 0 }, { name := "CLOCK_READING", type := (.object "com/example/fawley/fawley/store/Change$Kind"), accessFlags := 16409, slot := 5, constantValue := 0 }, { name := "ANSWERED", type := (.object "com/example/fawley/fawley/store/Change$Kind"), accessFlags := 16409, slot := 6, constantValue := 0 }, { name := "UNDELIVERED", type := (.object "com/example/fawley/fawley/store/Change$Kind"), accessFlags := 16409, slot := 7, constantValue := 0 }, { name := "DELIVERED", type := (.object "com/example/fawley/fawley/store/Change$Kind"), accessFlags := 16409, slot := 8, constantValue := 0 }, { name := "code", type := .byte, accessFlags := 18, slot := 3, constantValue := 0 }, { name := "$VALUES", type := (.array (.object "com/example/fawley/fawley/store/Change$Kind")), accessFlags := 4122, slot := 9, constantValue := 0 }]
  methods := #[k6m0, k6m1, k6m2]
  instanceTypes := #[(.object "java/lang/String"), .int, .int, .byte]
  staticTypes := #[(.object "com/example/fawley/fawley/store/Change$Kind"), (.object "com/example/fawley/fawley/store/Change$Kind"), (.object "com/example/fawley/fawley/store/Change$Kind"), (.object "com/example/fawley/fawley/store/Change$Kind"), (.object "com/example/fawley/fawley/store/Change$Kind"), (.object "com/example/fawley/fawley/store/Change$Kind"), (.object "com/example/fawley/fawley/store/Change$Kind"), (.object "com/example/fawley/fawley/store/Change$Kind"), (.object "com/example/fawley/fawley/store/Change$Kind"), (.array (.object "com/example/fawley/fawley/store/Change$Kind"))]
  resolved := Array.replicate 116 none
  statics := some 0 }

def pool7 : Array CpInfo := pool [(1, .class_ 2), (0, u "java/lang/Cloneable"), (0, .class_ 4), (0, u "java/lang/Object")] 2

/-- java/lang/Cloneable -/
def k7 : Class := { plain "java/lang/Cloneable" (some 0) with
  accessFlags := 1537
  interfaces := #[]
  cf := some (fileOf pool7 1 #[] #[] 1537 3 #[] #[])
  fields := #[]
  methods := #[]
  instanceTypes := #[]
  staticTypes := #[]
  resolved := Array.replicate 7 none
  statics := none }

/-- the primitive byte -/
def k8 : Class := { plain "byte" none with kind := .primitive 'B', accessFlags := 0x411 }
/-- [B -/
def k9 : Class := { plain "[B" (some 0) with kind := .array 8 .byte, interfaces := #[7, 4], accessFlags := 1041 }

/-- the primitive int -/
def k10 : Class := { plain "int" none with kind := .primitive 'I', accessFlags := 0x411 }
/-- [I -/
def k11 : Class := { plain "[I" (some 0) with kind := .array 10 .int, interfaces := #[7, 4], accessFlags := 1041 }

/-- [Lcom/example/fawley/fawley/store/Change$Kind; -/
def k12 : Class := { plain "[Lcom/example/fawley/fawley/store/Change$Kind;" (some 0) with kind := .array 6 (.object "com/example/fawley/fawley/store/Change$Kind"), interfaces := #[7, 4], accessFlags := 1041 }

def heap : Heap := #[{ cls := 6, slots := #[.ref 2, .ref 3, .ref 4, .ref 5, .ref 6, .ref 7, .ref 8, .ref 9, .ref 10, .ref 1], vm := .statics 6 },
  { cls := 12, slots := #[.ref 2, .ref 3, .ref 4, .ref 5, .ref 6, .ref 7, .ref 8, .ref 9, .ref 10], vm := .none },
  { cls := 6, slots := #[.null, .int 0, .int 0, .int 1], vm := .none },
  { cls := 6, slots := #[.null, .int 0, .int 0, .int 2], vm := .none },
  { cls := 6, slots := #[.null, .int 0, .int 0, .int 3], vm := .none },
  { cls := 6, slots := #[.null, .int 0, .int 0, .int 4], vm := .none },
  { cls := 6, slots := #[.null, .int 0, .int 0, .int 5], vm := .none },
  { cls := 6, slots := #[.null, .int 0, .int 0, .int 6], vm := .none },
  { cls := 6, slots := #[.null, .int 0, .int 0, .int 7], vm := .none },
  { cls := 6, slots := #[.null, .int 0, .int 0, .int 8], vm := .none },
  { cls := 6, slots := #[.null, .int 0, .int 0, .int 9], vm := .none }]
def classes : Array Class := #[k0, k1, k2, k3, k4, k5, k6, k7, k8, k9, k10, k11, k12]
def interned : List (Array UInt16 × Addr) := []
def slotsUsed : Nat := 55
def theMethod : MethodId := ⟨1, 2⟩
def args0 : Array Value := #[.int 3]
def aboutOver (below : List Frame) : State where
  vm := { classes := classes, interned := interned.toArray }
  heap := heap
  slotsUsed := slotsUsed
  threads := #[{ frames := .invoking theMethod args0 :: below }]
def below0 : List Frame := [.native { method := ⟨0, 0⟩, args := #[] }]
def about1 : State := aboutOver below0
def p0 : Program := .bare "" "" ""
def e0 : Env := launch0.env 0 0 0
theorem w_frames : about1.frames = Frame.invoking theMethod args0 :: below0 := rfl
set_option maxRecDepth 65536 in
theorem w_args : argsFit about1.vm theMethod args0 = true := by decide +kernel
set_option maxRecDepth 65536 in
theorem w_heap : heapFits about1 = true := by decide +kernel
set_option maxRecDepth 65536 in
theorem w_runnable : about1.curStatus? = some .runnable := by decide +kernel
set_option maxRecDepth 65536 in
theorem w_alone : about1.alone = true := by decide +kernel
set_option maxRecDepth 65536 in
theorem w_named : about1.methodNamed? x = some theMethod := by decide +kernel
set_option maxRecDepth 65536 in
theorem w_hears : about1.hears theMethod below0 = true := by decide +kernel
set_option maxRecDepth 65536 in
theorem w_ripe : about1.ripe theMethod args0 below0 = true := by decide +kernel
theorem w_running : about1.status = .running := rfl
set_option maxRecDepth 65536 in
theorem w_room : about1.hasRoom e0.platform room_1 = true :=
  launch0.hasRoom_least _ room_1 (by decide +kernel) (by decide +kernel) (by decide +kernel) (by decide +kernel) (by decide +kernel) (by decide +kernel)
theorem allAtoms_all (ts : List Jvm.Cond) (a : Array Jvm.Value) (st : Jvm.State) : (allAtoms ts).before a st = ts.all (fun c => c.before a st) := by
  induction ts with
  | nil => rfl
  | cons c t ih =>
    show (Jvm.Cond.and c (allAtoms t)).before a st = _
    rw [Jvm.Cond.before_and, ih, List.all_cons]
def words1 : List Jvm.Cond := Jvm.Cond.code x code maxLocals ret :: tables_1
/-- a 'code' word, met by the world's own term for the bytes: nothing is compared byte by byte -/
theorem code_word {y : MethodName} {bytes : ByteArray} {mx : Nat} {rt : Option FieldType} {a : Array Value} {s : State} {m : MethodId} {meth : Method} {c : Code} (h1 : s.methodNamed? y = some m) (h2 : s.vm.method? m = some meth) (h3 : meth.code = some c) (h4 : c.code = bytes)
    (h5 : (c.maxLocals == mx && c.exceptionTable.isEmpty && decide (c.maxStack ≤ mostOperands) && decide (meth.sig.returnType = rt) && !meth.locks && decide (parseMethodDescriptor y.desc = some meth.sig)) = true) : (Jvm.Cond.code y bytes mx rt).before a s = true := by
  simp only [Bool.and_eq_true, beq_iff_eq, Bool.not_eq_true', decide_eq_true_eq] at h5
  obtain ⟨⟨⟨⟨⟨g1, g2⟩, g3⟩, g4⟩, g5⟩, g6⟩ := h5
  simp [Cond.before, Cond.holds, Cond.value, h1, h2, h3, h4, g1, g2, g3, g4, g5, g6]
def isCode : Jvm.Cond → Bool
  | .code _ _ _ _ => true
  | _ => false
theorem all_split {L : List Jvm.Cond} {P : Jvm.Cond → Bool} (h1 : L.all (fun c => isCode c || P c) = true) (h2 : ∀ c ∈ L.filter isCode, P c = true) : L.all P = true := by
  refine List.all_eq_true.mpr fun c hc => ?_
  have h := List.all_eq_true.mp h1 c hc
  rcases Bool.eq_false_or_eq_true (isCode c) with hi | hi
  · exact h2 c (List.mem_filter.mpr ⟨hc, hi⟩)
  · simpa [hi] using h
set_option maxRecDepth 65536 in
theorem w_c0 : (Jvm.Cond.code x code maxLocals ret).before args0 about1 = true := code_word (m := ⟨1, 2⟩) (meth := k1m2) (c := k1c2) (by decide +kernel) rfl rfl rfl (by decide +kernel)
set_option maxRecDepth 65536 in
theorem w_c1 : (Jvm.Cond.code ({ cls := "com/example/fawley/fawley/store/KindOfPinLaw", name := "expected", desc := "(I)Lcom/example/fawley/fawley/store/Change$Kind;" } : Jvm.MethodName) method_2_code (1 : Nat) (Option.some (Jvm.ClassFile.FieldType.object "com/example/fawley/fawley/store/Change$Kind"))).before args0 about1 = true := code_word (m := ⟨1, 1⟩) (meth := k1m1) (c := k1c1) (by decide +kernel) rfl rfl rfl (by decide +kernel)
set_option maxRecDepth 65536 in
theorem w_c2 : (Jvm.Cond.code ({ cls := "com/example/fawley/fawley/store/Change$Kind", name := "of", desc := "(B)Lcom/example/fawley/fawley/store/Change$Kind;" } : Jvm.MethodName) prog_29_method_5_code (5 : Nat) (Option.some (Jvm.ClassFile.FieldType.object "com/example/fawley/fawley/store/Change$Kind"))).before args0 about1 = true := code_word (m := ⟨6, 2⟩) (meth := k6m2) (c := k6c2) (by decide +kernel) rfl rfl rfl (by decide +kernel)
set_option maxRecDepth 65536 in
theorem w_c3 : (Jvm.Cond.code ({ cls := "com/example/fawley/fawley/store/Change$Kind", name := "values", desc := "()[Lcom/example/fawley/fawley/store/Change$Kind;" } : Jvm.MethodName) prog_29_method_1_code (0 : Nat) (Option.some (Jvm.ClassFile.FieldType.array (Jvm.ClassFile.FieldType.object "com/example/fawley/fawley/store/Change$Kind")))).before args0 about1 = true := code_word (m := ⟨6, 0⟩) (meth := k6m0) (c := k6c0) (by decide +kernel) rfl rfl rfl (by decide +kernel)
set_option maxRecDepth 65536 in
theorem w_c4 : (Jvm.Cond.code ({ cls := "com/example/fawley/fawley/store/Change$Kind", name := "code", desc := "()B" } : Jvm.MethodName) prog_29_method_4_code (1 : Nat) (Option.some Jvm.ClassFile.FieldType.byte)).before args0 about1 = true := code_word (m := ⟨6, 1⟩) (meth := k6m1) (c := k6c1) (by decide +kernel) rfl rfl rfl (by decide +kernel)
def codes1 : List Jvm.Cond := [Jvm.Cond.code x code maxLocals ret, Jvm.Cond.code ({ cls := "com/example/fawley/fawley/store/KindOfPinLaw", name := "expected", desc := "(I)Lcom/example/fawley/fawley/store/Change$Kind;" } : Jvm.MethodName) method_2_code (1 : Nat) (Option.some (Jvm.ClassFile.FieldType.object "com/example/fawley/fawley/store/Change$Kind")), Jvm.Cond.code ({ cls := "com/example/fawley/fawley/store/Change$Kind", name := "of", desc := "(B)Lcom/example/fawley/fawley/store/Change$Kind;" } : Jvm.MethodName) prog_29_method_5_code (5 : Nat) (Option.some (Jvm.ClassFile.FieldType.object "com/example/fawley/fawley/store/Change$Kind")), Jvm.Cond.code ({ cls := "com/example/fawley/fawley/store/Change$Kind", name := "values", desc := "()[Lcom/example/fawley/fawley/store/Change$Kind;" } : Jvm.MethodName) prog_29_method_1_code (0 : Nat) (Option.some (Jvm.ClassFile.FieldType.array (Jvm.ClassFile.FieldType.object "com/example/fawley/fawley/store/Change$Kind"))), Jvm.Cond.code ({ cls := "com/example/fawley/fawley/store/Change$Kind", name := "code", desc := "()B" } : Jvm.MethodName) prog_29_method_4_code (1 : Nat) (Option.some Jvm.ClassFile.FieldType.byte)]
set_option maxRecDepth 65536 in
theorem codes_eq : words1.filter isCode = codes1 := rfl
theorem w_codes : ∀ c ∈ words1.filter isCode, c.before args0 about1 = true := by
  rw [codes_eq]
  intro c hc
  simp only [codes1, List.mem_cons, List.not_mem_nil, or_false] at hc
  rcases hc with rfl | rfl | rfl | rfl | rfl
  · exact w_c0
  · exact w_c1
  · exact w_c2
  · exact w_c3
  · exact w_c4
set_option maxRecDepth 65536 in
theorem w_t1 : (words1.take 24).all (fun c => isCode c || c.before args0 about1) = true := by decide +kernel
set_option maxRecDepth 65536 in
theorem w_t2 : ((words1.drop 24).take 24).all (fun c => isCode c || c.before args0 about1) = true := by decide +kernel
set_option maxRecDepth 65536 in
theorem w_t3 : ((words1.drop 24).drop 24).all (fun c => isCode c || c.before args0 about1) = true := by decide +kernel
theorem w_tables : (allAtoms (Jvm.Cond.code x code maxLocals ret :: tables_1)).before args0 about1 = true := by
  rw [allAtoms_all]
  show words1.all (fun c => c.before args0 about1) = true
  refine all_split ?_ w_codes
  rw [← List.take_append_drop 24 words1, List.all_append, w_t1, ← List.take_append_drop 24 (words1.drop 24), List.all_append, w_t2, w_t3]
  rfl
set_option maxRecDepth 65536 in
theorem w_case : (Jvm.Cond.and given_1 narrow_1).before args0 about1 = true := by decide +kernel
theorem w_applies : (headSpec (Jvm.Cond.code x code maxLocals ret :: tables_1) room_1).applies x e0.platform about1 = true :=
  (Spec.applies_iff w_frames).mpr ⟨w_running, w_runnable, w_alone, w_named, w_hears, w_ripe, w_room, w_tables⟩
theorem atStart : AtStart classFile x code maxLocals ret World_1 tables_1 room_1 Calls_1 rest_1 Pre_1 launch0 p0 e0 about1 theMethod args0 below0 :=
  ⟨lists_1, trivial, launch0.admits_env _ _ _, launch0.least_env, fairChoices_fair.cas, fairChoices_fair.clock, w_frames, w_args, w_heap, w_applies, trivial, trivial, w_case⟩
end start1
theorem witness_1 : WitnessClaimed_1 := ⟨start1.p0, start1.e0, start1.about1, start1.theMethod, start1.args0, start1.below0, start1.atStart⟩
end Jvm.Pilot.@@N@@
