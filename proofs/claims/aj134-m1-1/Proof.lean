import JvmDerived
import JvmDerived.Pilot.@@N@@Statement
import JvmDerived.Pilot.@@N@@Code
set_option linter.unusedVariables false
set_option linter.unusedSimpArgs false
namespace Jvm.Pilot.@@N@@
open Jvm Jvm.ClassFile Sem Op Lib Jvm.Free Jvm.Stand Jvm.LawKit Jvm.RoadKit Bundle Jvm.Pilot.@@N@@.Jvm.D
theorem own_w {a0 : Array Value} {Z : State} {d : Jvm.Cond} (hw : ∀ d ∈ tables_1, d.before a0 Z = true) (i : Nat) (h : tables_1[i]? = some d) : d.before a0 Z = true := hw _ (List.mem_of_getElem? h)
abbrev lvI (x : Int32) : Slot := .val (.int x)
abbrev lvR (x : Addr) : Slot := .val (.ref x)
abbrev own_S (p : Program) (e : Env) (b : List Frame) (m : MethodId) (T : State) (pc : Nat) (l : Array Slot) (st : List Value) (t : State) : Prop := Steps p.tables e b (T.setTop (mkF m pc l st)) t
theorem own_eqi {args : Array Value} {s : State} {t : Term} {k : Int32} (h : (Jvm.Cond.eq t (.int k)).value args s none s [] = some true) : t.eval args s none [] s = some (.int k) := by
  simp only [Cond.value, Term.eval] at h
  cases ht : t.eval args s none [] s with
  | none => simp [ht] at h
  | some x => cases x <;> simp [ht] at h ⊢ <;> exact h
theorem d1_0 : decode prog_7_method_5_code 0 = .ok (.iload_n 1, 1) := by decide +kernel
theorem d1_1 : decode prog_7_method_5_code 1 = .ok (.aload_n 0, 1) := by decide +kernel
theorem d1_2 : decode prog_7_method_5_code 2 = .ok (.getfield 38, 3) := by decide +kernel
abbrev cn0 : String := "com/example/fawley/fawley/protocol/Command"
theorem d1_5 : decode prog_7_method_5_code 5 = .ok (.if_icmp .lt 15, 3) := by decide +kernel
theorem d1_20 : decode prog_7_method_5_code 20 = .ok (.iconst 0, 1) := by decide +kernel
theorem d1_21 : decode prog_7_method_5_code 21 = .ok (.ireturn, 1) := by decide +kernel
theorem d1_8 : decode prog_7_method_5_code 8 = .ok (.iload_n 1, 1) := by decide +kernel
theorem d1_9 : decode prog_7_method_5_code 9 = .ok (.aload_n 0, 1) := by decide +kernel
theorem d1_10 : decode prog_7_method_5_code 10 = .ok (.getfield 42, 3) := by decide +kernel
theorem d1_13 : decode prog_7_method_5_code 13 = .ok (.if_icmp .gt 7, 3) := by decide +kernel
theorem d1_16 : decode prog_7_method_5_code 16 = .ok (.iconst 1, 1) := by decide +kernel
theorem d1_17 : decode prog_7_method_5_code 17 = .ok (.goto 4, 3) := by decide +kernel
theorem pn_0 : plainName "com/example/fawley/fawley/protocol/Command" = true := by first | (simp [plainName, overriddenIn]; done) | decide +kernel
theorem efTak (m : MethodId) (a0_ : Addr) (p1_ : Int32) : entryFrame m #[(.ref a0_), (.int p1_)] 2 = mkF m 0 #[lvR a0_, lvI p1_] [] := by first | (simp [entryFrame, mkF, argsToLocals, Value.category]; done) | rfl
def QTak (Z : State) (a0_ : Addr) (p1_ : Int32) (mn_ : Int32) (mx_ : Int32) (h0 : Heap) (n0 : Nat) (v : Option Value) (h : Heap) (L : List Loc) : Prop := ∃ r_ : Int32, v = some (.int r_) ∧ (((0 : Int32) = r_ ∧ (p1_ < mn_)) ∨ ((0 : Int32) = r_ ∧ (¬ (p1_ < mn_)) ∧ (mx_ < p1_)) ∨ ((1 : Int32) = r_ ∧ (¬ (p1_ < mn_)) ∧ (¬ (mx_ < p1_)))) ∧ Fr n0 L ∧ h = h0
set_option maxRecDepth 65536 in
set_option maxHeartbeats 40000000 in
theorem rmTak (l : Launch) (Z : State) (a0 : Array Value) (hw : ∀ d ∈ tables_1, d.before a0 Z = true) (ws : List Jvm.Cond) (a0_ : Addr) (p1_ : Int32) (mn_ : Int32) (mx_ : Int32) (h0 : Heap) (n0 : Nat) (O0 : Old Z n0 h0) (P0 : Fld Z Z.heap a0_ cn0 "minArguments" "I" (.int mn_)) (P1 : Fld Z Z.heap a0_ cn0 "maxArguments" "I" (.int mx_)) :
    MetFree l (⟨"com/example/fawley/fawley/protocol/Command", "takes", "(I)Z"⟩ : MethodName) (head1 (Jvm.Cond.code (⟨"com/example/fawley/fawley/protocol/Command", "takes", "(I)Z"⟩ : MethodName) prog_7_method_5_code 2 (some .boolean) :: ws) ({ frames := 0, cells := 0, slots := 0, locals := 0 } : Room)) (fun a U => a = #[(.ref a0_), (.int p1_)] ∧ Z.Warmed39 U.vm ∧ U.heap = h0) (fun _ _ _ _ _ => True) (fun _ U o U' => ∃ v L, o = .returned v ∧ QTak Z a0_ p1_ mn_ mx_ h0 n0 v U'.heap L ∧ FrameEnd U o U' L ({ frames := 0, cells := 0, slots := 0, locals := 0 } : Room).cells ({ frames := 0, cells := 0, slots := 0, locals := 0 } : Room).slots) := by
  refine MetFree.of_bodySF (plainFor_of_name pn_0) hisR ?_
  intro p e s m args below meth c s₁ Bd hml0 hP hK
  obtain ⟨rfl, hZ, hh⟩ := hP
  have hx := Bd.exec
  have hby := Bd.bytes
  have hml : c.maxLocals = 2 := hml0
  have hown : s.vm.findClass "com/example/fawley/fawley/protocol/Command" = some m.cls := findClass_of_methodNamed Bd.named
  have hnm := (name_of_methodNamed Bd.named Bd.method).1
  have X0 : Stand p l e ({ frames := 0, cells := 0, slots := 0, locals := 0 } : Room) s m #[(.ref a0_), (.int p1_)] below meth c s₁ [] 0 0 := Stand.of_body Bd
  have e0 : s₁.heap = h0 := by rw [← hh, Bd.state]; rfl
  have N0 := Fr.nil n0
  obtain ⟨G, pre0, hG⟩ : ∃ G : State → Prop, (∀ t, own_S p e below m s₁ 0 #[lvR a0_, lvI p1_] [] t → G t) ∧ (∀ t, G t → Steps p.tables e below (s₁.setTop (entryFrame m #[(.ref a0_), (.int p1_)] 2)) t) := ⟨fun t => Steps p.tables e below (s₁.setTop (entryFrame m #[(.ref a0_), (.int p1_)] 2)) t, fun t k => castTop (efTak m a0_ p1_) k, fun _ k => k⟩
  have K0 : Keep h0 h0 [] := Keep.refl _ _
  have f1 : Fld Z h0 a0_ cn0 "minArguments" "I" (.int mn_) := P0.ext O0.2
  obtain ⟨T2, X2, e2, st2⟩ := getF X0 hx hZ hown (host := "") (Or.inl (own_w hw 9 rfl)) Via.refl e0 f1 (g := (mkF m 2 #[lvR a0_, lvI p1_] [(.ref a0_), (.int p1_)])) rfl rfl (hb hby d1_2)
  have pre3 : ∀ t, own_S p e below m T2 5 #[lvR a0_, lvI p1_] [(.int mn_), (.int p1_)] t → G t := by
    intro t kt
    refine pre0 t ?_
    show own_S p e below m s₁ 0 #[lvR a0_, lvI p1_] [] _
    refine XS.iloadN X0.here hx rfl (hb hby d1_0) rfl ?_
    refine XS.aloadN X0.here hx rfl (hb hby d1_1) rfl rfl ?_
    show own_S p e below m s₁ 2 #[lvR a0_, lvI p1_] [(.ref a0_), (.int p1_)] _
    refine st2 _ ?_
    exact kt
  by_cases hc4 : p1_ < mn_
  · have pre5 : ∀ t, own_S p e below m T2 21 #[lvR a0_, lvI p1_] [(.int (0 : Int32))] t → G t := by
      intro t kt
      refine pre3 t ?_
      show own_S p e below m T2 5 #[lvR a0_, lvI p1_] [(.int mn_), (.int p1_)] _
      refine XS.icmpYes X2.here hx rfl (pc0 := 5) (pc' := 20) rfl (hb hby d1_5) rfl (tlt hc4).1 (by decide) (by decide) ?_
      refine XS.iconst X2.here hx rfl (hb hby d1_20) ?_
      exact kt
    obtain ⟨fs, hr, hrun, hended, hW, hsame⟩ := X2.leave (v := some (.int (0 : Int32))) (fun h => by rw [Bd.returns] at h; cases h)
    refine ⟨_, _, hG _ (pre5 _ (retN X2 hx (t := .boolean) Bd.returns (by simp) (hb hby d1_21) hr)), hrun, hended, _, _, rfl, ?_, ⟨_, rfl⟩, hW, hsame.mono (by decide) (by decide)⟩
    show QTak Z a0_ p1_ mn_ mx_ h0 n0 _ T2.heap _
    rw [e2]
    exact ⟨(0 : Int32), rfl, (Or.inl ⟨rfl, hc4⟩), N0, rfl⟩
  · have f7 : Fld Z h0 a0_ cn0 "maxArguments" "I" (.int mx_) := P1.ext O0.2
    obtain ⟨T8, X8, e8, st8⟩ := getF X2 hx hZ hown (host := "") (Or.inl (own_w hw 11 rfl)) Via.refl e2 f7 (g := (mkF m 10 #[lvR a0_, lvI p1_] [(.ref a0_), (.int p1_)])) rfl rfl (hb hby d1_10)
    have pre9 : ∀ t, own_S p e below m T8 13 #[lvR a0_, lvI p1_] [(.int mx_), (.int p1_)] t → G t := by
      intro t kt
      refine pre3 t ?_
      show own_S p e below m T2 5 #[lvR a0_, lvI p1_] [(.int mn_), (.int p1_)] _
      refine XS.icmpNo X2.here hx rfl (hb hby d1_5) rfl (flt hc4).1 ?_
      refine XS.iloadN X2.here hx rfl (hb hby d1_8) rfl ?_
      refine XS.aloadN X2.here hx rfl (hb hby d1_9) rfl rfl ?_
      show own_S p e below m T2 10 #[lvR a0_, lvI p1_] [(.ref a0_), (.int p1_)] _
      refine st8 _ ?_
      exact kt
    by_cases hc10 : mx_ < p1_
    · have pre11 : ∀ t, own_S p e below m T8 21 #[lvR a0_, lvI p1_] [(.int (0 : Int32))] t → G t := by
        intro t kt
        refine pre9 t ?_
        show own_S p e below m T8 13 #[lvR a0_, lvI p1_] [(.int mx_), (.int p1_)] _
        refine XS.icmpYes X8.here hx rfl (pc0 := 13) (pc' := 20) rfl (hb hby d1_13) rfl (tlt hc10).2.2.1 (by decide) (by decide) ?_
        refine XS.iconst X8.here hx rfl (hb hby d1_20) ?_
        exact kt
      obtain ⟨fs, hr, hrun, hended, hW, hsame⟩ := X8.leave (v := some (.int (0 : Int32))) (fun h => by rw [Bd.returns] at h; cases h)
      refine ⟨_, _, hG _ (pre11 _ (retN X8 hx (t := .boolean) Bd.returns (by simp) (hb hby d1_21) hr)), hrun, hended, _, _, rfl, ?_, ⟨_, rfl⟩, hW, hsame.mono (by decide) (by decide)⟩
      show QTak Z a0_ p1_ mn_ mx_ h0 n0 _ T8.heap _
      rw [e8]
      exact ⟨(0 : Int32), rfl, (Or.inr (Or.inl ⟨rfl, hc4, hc10⟩)), N0, rfl⟩
    · have pre13 : ∀ t, own_S p e below m T8 21 #[lvR a0_, lvI p1_] [(.int (1 : Int32))] t → G t := by
        intro t kt
        refine pre9 t ?_
        show own_S p e below m T8 13 #[lvR a0_, lvI p1_] [(.int mx_), (.int p1_)] _
        refine XS.icmpNo X8.here hx rfl (hb hby d1_13) rfl (flt hc10).2.2.1 ?_
        refine XS.iconst X8.here hx rfl (hb hby d1_16) ?_
        refine XS.goto X8.here hx rfl (pc0 := 17) (pc' := 21) rfl (hb hby d1_17) (by decide) (by decide) ?_
        exact kt
      obtain ⟨fs, hr, hrun, hended, hW, hsame⟩ := X8.leave (v := some (.int (1 : Int32))) (fun h => by rw [Bd.returns] at h; cases h)
      refine ⟨_, _, hG _ (pre13 _ (retN X8 hx (t := .boolean) Bd.returns (by simp) (hb hby d1_21) hr)), hrun, hended, _, _, rfl, ?_, ⟨_, rfl⟩, hW, hsame.mono (by decide) (by decide)⟩
      show QTak Z a0_ p1_ mn_ mx_ h0 n0 _ T8.heap _
      rw [e8]
      exact ⟨(1 : Int32), rfl, (Or.inr (Or.inr ⟨rfl, hc4, hc10⟩)), N0, rfl⟩
theorem d2_0 : decode method_3_code 0 = .ok (.iload_n 0, 1) := by decide +kernel
theorem d2_1 : decode method_3_code 1 = .ok (.ifCond .eq 8, 3) := by decide +kernel
theorem d2_9 : decode method_3_code 9 = .ok (.iload_n 1, 1) := by decide +kernel
theorem d2_10 : decode method_3_code 10 = .ok (.iconst 1, 1) := by decide +kernel
theorem d2_11 : decode method_3_code 11 = .ok (.if_icmp .ne 7, 3) := by decide +kernel
theorem d2_14 : decode method_3_code 14 = .ok (.iconst 1, 1) := by decide +kernel
theorem d2_15 : decode method_3_code 15 = .ok (.goto 4, 3) := by decide +kernel
theorem d2_19 : decode method_3_code 19 = .ok (.ireturn, 1) := by decide +kernel
theorem d2_18 : decode method_3_code 18 = .ok (.iconst 0, 1) := by decide +kernel
theorem d2_4 : decode method_3_code 4 = .ok (.iload_n 0, 1) := by decide +kernel
theorem d2_5 : decode method_3_code 5 = .ok (.iconst 2, 1) := by decide +kernel
theorem d2_6 : decode method_3_code 6 = .ok (.if_icmp .ne 14, 3) := by decide +kernel
theorem d2_20 : decode method_3_code 20 = .ok (.iload_n 0, 1) := by decide +kernel
theorem d2_21 : decode method_3_code 21 = .ok (.iconst 1, 1) := by decide +kernel
theorem d2_22 : decode method_3_code 22 = .ok (.if_icmp .ne 29, 3) := by decide +kernel
theorem d2_25 : decode method_3_code 25 = .ok (.iload_n 1, 1) := by decide +kernel
theorem d2_26 : decode method_3_code 26 = .ok (.iconst 2, 1) := by decide +kernel
theorem d2_27 : decode method_3_code 27 = .ok (.if_icmp .eq 18, 3) := by decide +kernel
theorem d2_45 : decode method_3_code 45 = .ok (.iconst 1, 1) := by decide +kernel
theorem d2_46 : decode method_3_code 46 = .ok (.goto 4, 3) := by decide +kernel
theorem d2_50 : decode method_3_code 50 = .ok (.ireturn, 1) := by decide +kernel
theorem d2_30 : decode method_3_code 30 = .ok (.iload_n 1, 1) := by decide +kernel
theorem d2_31 : decode method_3_code 31 = .ok (.iconst 3, 1) := by decide +kernel
theorem d2_32 : decode method_3_code 32 = .ok (.if_icmp .eq 13, 3) := by decide +kernel
theorem d2_35 : decode method_3_code 35 = .ok (.iload_n 1, 1) := by decide +kernel
theorem d2_36 : decode method_3_code 36 = .ok (.iconst 4, 1) := by decide +kernel
theorem d2_37 : decode method_3_code 37 = .ok (.if_icmp .eq 8, 3) := by decide +kernel
theorem d2_40 : decode method_3_code 40 = .ok (.iload_n 1, 1) := by decide +kernel
theorem d2_41 : decode method_3_code 41 = .ok (.iconst 5, 1) := by decide +kernel
theorem d2_42 : decode method_3_code 42 = .ok (.if_icmp .ne 7, 3) := by decide +kernel
theorem d2_49 : decode method_3_code 49 = .ok (.iconst 0, 1) := by decide +kernel
theorem d2_51 : decode method_3_code 51 = .ok (.iload_n 0, 1) := by decide +kernel
theorem d2_52 : decode method_3_code 52 = .ok (.iconst 3, 1) := by decide +kernel
theorem d2_53 : decode method_3_code 53 = .ok (.if_icmp .ne 14, 3) := by decide +kernel
theorem d2_56 : decode method_3_code 56 = .ok (.iload_n 1, 1) := by decide +kernel
theorem d2_57 : decode method_3_code 57 = .ok (.iconst 2, 1) := by decide +kernel
theorem d2_58 : decode method_3_code 58 = .ok (.if_icmp .ne 7, 3) := by decide +kernel
theorem d2_61 : decode method_3_code 61 = .ok (.iconst 1, 1) := by decide +kernel
theorem d2_62 : decode method_3_code 62 = .ok (.goto 4, 3) := by decide +kernel
theorem d2_66 : decode method_3_code 66 = .ok (.ireturn, 1) := by decide +kernel
theorem d2_65 : decode method_3_code 65 = .ok (.iconst 0, 1) := by decide +kernel
theorem d2_67 : decode method_3_code 67 = .ok (.iload_n 1, 1) := by decide +kernel
theorem d2_68 : decode method_3_code 68 = .ok (.iconst 1, 1) := by decide +kernel
theorem d2_69 : decode method_3_code 69 = .ok (.if_icmp .eq 8, 3) := by decide +kernel
theorem d2_77 : decode method_3_code 77 = .ok (.iconst 1, 1) := by decide +kernel
theorem d2_78 : decode method_3_code 78 = .ok (.goto 4, 3) := by decide +kernel
theorem d2_82 : decode method_3_code 82 = .ok (.ireturn, 1) := by decide +kernel
theorem d2_72 : decode method_3_code 72 = .ok (.iload_n 1, 1) := by decide +kernel
theorem d2_73 : decode method_3_code 73 = .ok (.iconst 2, 1) := by decide +kernel
theorem d2_74 : decode method_3_code 74 = .ok (.if_icmp .ne 7, 3) := by decide +kernel
theorem d2_81 : decode method_3_code 81 = .ok (.iconst 0, 1) := by decide +kernel
theorem pn_1 : plainName "com/example/fawley/fawley/protocol/CommandTakesPinLaw" = true := by first | (simp [plainName, overriddenIn]; done) | decide +kernel
theorem efExp (m : MethodId) (p0_ : Int32) (p1_ : Int32) : entryFrame m #[(.int p0_), (.int p1_)] 2 = mkF m 0 #[lvI p0_, lvI p1_] [] := by first | (simp [entryFrame, mkF, argsToLocals, Value.category]; done) | rfl
def QExp (Z : State) (p0_ : Int32) (p1_ : Int32) (h0 : Heap) (n0 : Nat) (v : Option Value) (h : Heap) (L : List Loc) : Prop := ∃ r_ : Int32, v = some (.int r_) ∧ (((1 : Int32) = r_ ∧ (p0_ = (0 : Int32)) ∧ (p1_ = (1 : Int32))) ∨ ((0 : Int32) = r_ ∧ (p0_ = (0 : Int32)) ∧ (¬ (p1_ = (1 : Int32)))) ∨ ((1 : Int32) = r_ ∧ (¬ (p0_ = (0 : Int32))) ∧ (p0_ = (2 : Int32)) ∧ (p1_ = (1 : Int32))) ∨ ((0 : Int32) = r_ ∧ (¬ (p0_ = (0 : Int32))) ∧ (p0_ = (2 : Int32)) ∧ (¬ (p1_ = (1 : Int32)))) ∨ ((1 : Int32) = r_ ∧ (¬ (p0_ = (0 : Int32))) ∧ (¬ (p0_ = (2 : Int32))) ∧ (p0_ = (1 : Int32)) ∧ (p1_ = (2 : Int32))) ∨ ((1 : Int32) = r_ ∧ (¬ (p0_ = (0 : Int32))) ∧ (¬ (p0_ = (2 : Int32))) ∧ (p0_ = (1 : Int32)) ∧ (¬ (p1_ = (2 : Int32))) ∧ (p1_ = (3 : Int32))) ∨ ((1 : Int32) = r_ ∧ (¬ (p0_ = (0 : Int32))) ∧ (¬ (p0_ = (2 : Int32))) ∧ (p0_ = (1 : Int32)) ∧ (¬ (p1_ = (2 : Int32))) ∧ (¬ (p1_ = (3 : Int32))) ∧ (p1_ = (4 : Int32))) ∨ ((1 : Int32) = r_ ∧ (¬ (p0_ = (0 : Int32))) ∧ (¬ (p0_ = (2 : Int32))) ∧ (p0_ = (1 : Int32)) ∧ (¬ (p1_ = (2 : Int32))) ∧ (¬ (p1_ = (3 : Int32))) ∧ (¬ (p1_ = (4 : Int32))) ∧ (p1_ = (5 : Int32))) ∨ ((0 : Int32) = r_ ∧ (¬ (p0_ = (0 : Int32))) ∧ (¬ (p0_ = (2 : Int32))) ∧ (p0_ = (1 : Int32)) ∧ (¬ (p1_ = (2 : Int32))) ∧ (¬ (p1_ = (3 : Int32))) ∧ (¬ (p1_ = (4 : Int32))) ∧ (¬ (p1_ = (5 : Int32)))) ∨ ((1 : Int32) = r_ ∧ (¬ (p0_ = (0 : Int32))) ∧ (¬ (p0_ = (2 : Int32))) ∧ (¬ (p0_ = (1 : Int32))) ∧ (p0_ = (3 : Int32)) ∧ (p1_ = (2 : Int32))) ∨ ((0 : Int32) = r_ ∧ (¬ (p0_ = (0 : Int32))) ∧ (¬ (p0_ = (2 : Int32))) ∧ (¬ (p0_ = (1 : Int32))) ∧ (p0_ = (3 : Int32)) ∧ (¬ (p1_ = (2 : Int32)))) ∨ ((1 : Int32) = r_ ∧ (¬ (p0_ = (0 : Int32))) ∧ (¬ (p0_ = (2 : Int32))) ∧ (¬ (p0_ = (1 : Int32))) ∧ (¬ (p0_ = (3 : Int32))) ∧ (p1_ = (1 : Int32))) ∨ ((1 : Int32) = r_ ∧ (¬ (p0_ = (0 : Int32))) ∧ (¬ (p0_ = (2 : Int32))) ∧ (¬ (p0_ = (1 : Int32))) ∧ (¬ (p0_ = (3 : Int32))) ∧ (¬ (p1_ = (1 : Int32))) ∧ (p1_ = (2 : Int32))) ∨ ((0 : Int32) = r_ ∧ (¬ (p0_ = (0 : Int32))) ∧ (¬ (p0_ = (2 : Int32))) ∧ (¬ (p0_ = (1 : Int32))) ∧ (¬ (p0_ = (3 : Int32))) ∧ (¬ (p1_ = (1 : Int32))) ∧ (¬ (p1_ = (2 : Int32))))) ∧ Fr n0 L ∧ h = h0
set_option maxRecDepth 65536 in
set_option maxHeartbeats 40000000 in
theorem rmExp (l : Launch) (Z : State) (a0 : Array Value) (hw : ∀ d ∈ tables_1, d.before a0 Z = true) (ws : List Jvm.Cond) (p0_ : Int32) (p1_ : Int32) (h0 : Heap) (n0 : Nat) (O0 : Old Z n0 h0)  :
    MetFree l (⟨"com/example/fawley/fawley/protocol/CommandTakesPinLaw", "expected", "(II)Z"⟩ : MethodName) (head1 (Jvm.Cond.code (⟨"com/example/fawley/fawley/protocol/CommandTakesPinLaw", "expected", "(II)Z"⟩ : MethodName) method_3_code 2 (some .boolean) :: ws) ({ frames := 0, cells := 0, slots := 0, locals := 0 } : Room)) (fun a U => a = #[(.int p0_), (.int p1_)] ∧ Z.Warmed39 U.vm ∧ U.heap = h0) (fun _ _ _ _ _ => True) (fun _ U o U' => ∃ v L, o = .returned v ∧ QExp Z p0_ p1_ h0 n0 v U'.heap L ∧ FrameEnd U o U' L ({ frames := 0, cells := 0, slots := 0, locals := 0 } : Room).cells ({ frames := 0, cells := 0, slots := 0, locals := 0 } : Room).slots) := by
  refine MetFree.of_bodySF (plainFor_of_name pn_1) hisR ?_
  intro p e s m args below meth c s₁ Bd hml0 hP hK
  obtain ⟨rfl, hZ, hh⟩ := hP
  have hx := Bd.exec
  have hby := Bd.bytes
  have hml : c.maxLocals = 2 := hml0
  have hown : s.vm.findClass "com/example/fawley/fawley/protocol/CommandTakesPinLaw" = some m.cls := findClass_of_methodNamed Bd.named
  have hnm := (name_of_methodNamed Bd.named Bd.method).1
  have X0 : Stand p l e ({ frames := 0, cells := 0, slots := 0, locals := 0 } : Room) s m #[(.int p0_), (.int p1_)] below meth c s₁ [] 0 0 := Stand.of_body Bd
  have e0 : s₁.heap = h0 := by rw [← hh, Bd.state]; rfl
  have N0 := Fr.nil n0
  obtain ⟨G, pre0, hG⟩ : ∃ G : State → Prop, (∀ t, own_S p e below m s₁ 0 #[lvI p0_, lvI p1_] [] t → G t) ∧ (∀ t, G t → Steps p.tables e below (s₁.setTop (entryFrame m #[(.int p0_), (.int p1_)] 2)) t) := ⟨fun t => Steps p.tables e below (s₁.setTop (entryFrame m #[(.int p0_), (.int p1_)] 2)) t, fun t k => castTop (efExp m p0_ p1_) k, fun _ k => k⟩
  have K0 : Keep h0 h0 [] := Keep.refl _ _
  have pre1 : ∀ t, own_S p e below m s₁ 1 #[lvI p0_, lvI p1_] [(.int p0_)] t → G t := by
    intro t kt
    refine pre0 t ?_
    show own_S p e below m s₁ 0 #[lvI p0_, lvI p1_] [] _
    refine XS.iloadN X0.here hx rfl (hb hby d2_0) rfl ?_
    exact kt
  by_cases hc2 : p0_ = (0 : Int32)
  · have pre3 : ∀ t, own_S p e below m s₁ 11 #[lvI p0_, lvI p1_] [(.int (1 : Int32)), (.int p1_)] t → G t := by
      intro t kt
      refine pre1 t ?_
      show own_S p e below m s₁ 1 #[lvI p0_, lvI p1_] [(.int p0_)] _
      refine XS.ifYes X0.here hx rfl (pc0 := 1) (pc' := 9) rfl (hb hby d2_1) rfl ((if0 _ _).trans (teq hc2).1) (by decide) (by decide) ?_
      refine XS.iloadN X0.here hx rfl (hb hby d2_9) rfl ?_
      refine XS.iconst X0.here hx rfl (hb hby d2_10) ?_
      exact kt
    by_cases hc4 : p1_ = (1 : Int32)
    · have pre5 : ∀ t, own_S p e below m s₁ 19 #[lvI p0_, lvI p1_] [(.int (1 : Int32))] t → G t := by
        intro t kt
        refine pre3 t ?_
        show own_S p e below m s₁ 11 #[lvI p0_, lvI p1_] [(.int (1 : Int32)), (.int p1_)] _
        refine XS.icmpNo X0.here hx rfl (hb hby d2_11) rfl (teq hc4).2 ?_
        refine XS.iconst X0.here hx rfl (hb hby d2_14) ?_
        refine XS.goto X0.here hx rfl (pc0 := 15) (pc' := 19) rfl (hb hby d2_15) (by decide) (by decide) ?_
        exact kt
      obtain ⟨fs, hr, hrun, hended, hW, hsame⟩ := X0.leave (v := some (.int (1 : Int32))) (fun h => by rw [Bd.returns] at h; cases h)
      refine ⟨_, _, hG _ (pre5 _ (retN X0 hx (t := .boolean) Bd.returns (by simp) (hb hby d2_19) hr)), hrun, hended, _, _, rfl, ?_, ⟨_, rfl⟩, hW, hsame.mono (by decide) (by decide)⟩
      show QExp Z p0_ p1_ h0 n0 _ s₁.heap _
      rw [e0]
      exact ⟨(1 : Int32), rfl, (Or.inl ⟨rfl, hc2, hc4⟩), N0, rfl⟩
    · have pre7 : ∀ t, own_S p e below m s₁ 19 #[lvI p0_, lvI p1_] [(.int (0 : Int32))] t → G t := by
        intro t kt
        refine pre3 t ?_
        show own_S p e below m s₁ 11 #[lvI p0_, lvI p1_] [(.int (1 : Int32)), (.int p1_)] _
        refine XS.icmpYes X0.here hx rfl (pc0 := 11) (pc' := 18) rfl (hb hby d2_11) rfl (feq hc4).2 (by decide) (by decide) ?_
        refine XS.iconst X0.here hx rfl (hb hby d2_18) ?_
        exact kt
      obtain ⟨fs, hr, hrun, hended, hW, hsame⟩ := X0.leave (v := some (.int (0 : Int32))) (fun h => by rw [Bd.returns] at h; cases h)
      refine ⟨_, _, hG _ (pre7 _ (retN X0 hx (t := .boolean) Bd.returns (by simp) (hb hby d2_19) hr)), hrun, hended, _, _, rfl, ?_, ⟨_, rfl⟩, hW, hsame.mono (by decide) (by decide)⟩
      show QExp Z p0_ p1_ h0 n0 _ s₁.heap _
      rw [e0]
      exact ⟨(0 : Int32), rfl, (Or.inr (Or.inl ⟨rfl, hc2, hc4⟩)), N0, rfl⟩
  · have pre9 : ∀ t, own_S p e below m s₁ 6 #[lvI p0_, lvI p1_] [(.int (2 : Int32)), (.int p0_)] t → G t := by
      intro t kt
      refine pre1 t ?_
      show own_S p e below m s₁ 1 #[lvI p0_, lvI p1_] [(.int p0_)] _
      refine XS.ifNo X0.here hx rfl (hb hby d2_1) rfl ((if0 _ _).trans (feq hc2).1) ?_
      refine XS.iloadN X0.here hx rfl (hb hby d2_4) rfl ?_
      refine XS.iconst X0.here hx rfl (hb hby d2_5) ?_
      exact kt
    by_cases hc10 : p0_ = (2 : Int32)
    · have pre11 : ∀ t, own_S p e below m s₁ 11 #[lvI p0_, lvI p1_] [(.int (1 : Int32)), (.int p1_)] t → G t := by
        intro t kt
        refine pre9 t ?_
        show own_S p e below m s₁ 6 #[lvI p0_, lvI p1_] [(.int (2 : Int32)), (.int p0_)] _
        refine XS.icmpNo X0.here hx rfl (hb hby d2_6) rfl (teq hc10).2 ?_
        refine XS.iloadN X0.here hx rfl (hb hby d2_9) rfl ?_
        refine XS.iconst X0.here hx rfl (hb hby d2_10) ?_
        exact kt
      by_cases hc12 : p1_ = (1 : Int32)
      · have pre13 : ∀ t, own_S p e below m s₁ 19 #[lvI p0_, lvI p1_] [(.int (1 : Int32))] t → G t := by
          intro t kt
          refine pre11 t ?_
          show own_S p e below m s₁ 11 #[lvI p0_, lvI p1_] [(.int (1 : Int32)), (.int p1_)] _
          refine XS.icmpNo X0.here hx rfl (hb hby d2_11) rfl (teq hc12).2 ?_
          refine XS.iconst X0.here hx rfl (hb hby d2_14) ?_
          refine XS.goto X0.here hx rfl (pc0 := 15) (pc' := 19) rfl (hb hby d2_15) (by decide) (by decide) ?_
          exact kt
        obtain ⟨fs, hr, hrun, hended, hW, hsame⟩ := X0.leave (v := some (.int (1 : Int32))) (fun h => by rw [Bd.returns] at h; cases h)
        refine ⟨_, _, hG _ (pre13 _ (retN X0 hx (t := .boolean) Bd.returns (by simp) (hb hby d2_19) hr)), hrun, hended, _, _, rfl, ?_, ⟨_, rfl⟩, hW, hsame.mono (by decide) (by decide)⟩
        show QExp Z p0_ p1_ h0 n0 _ s₁.heap _
        rw [e0]
        exact ⟨(1 : Int32), rfl, (Or.inr (Or.inr (Or.inl ⟨rfl, hc2, hc10, hc12⟩))), N0, rfl⟩
      · have pre15 : ∀ t, own_S p e below m s₁ 19 #[lvI p0_, lvI p1_] [(.int (0 : Int32))] t → G t := by
          intro t kt
          refine pre11 t ?_
          show own_S p e below m s₁ 11 #[lvI p0_, lvI p1_] [(.int (1 : Int32)), (.int p1_)] _
          refine XS.icmpYes X0.here hx rfl (pc0 := 11) (pc' := 18) rfl (hb hby d2_11) rfl (feq hc12).2 (by decide) (by decide) ?_
          refine XS.iconst X0.here hx rfl (hb hby d2_18) ?_
          exact kt
        obtain ⟨fs, hr, hrun, hended, hW, hsame⟩ := X0.leave (v := some (.int (0 : Int32))) (fun h => by rw [Bd.returns] at h; cases h)
        refine ⟨_, _, hG _ (pre15 _ (retN X0 hx (t := .boolean) Bd.returns (by simp) (hb hby d2_19) hr)), hrun, hended, _, _, rfl, ?_, ⟨_, rfl⟩, hW, hsame.mono (by decide) (by decide)⟩
        show QExp Z p0_ p1_ h0 n0 _ s₁.heap _
        rw [e0]
        exact ⟨(0 : Int32), rfl, (Or.inr (Or.inr (Or.inr (Or.inl ⟨rfl, hc2, hc10, hc12⟩)))), N0, rfl⟩
    · have pre17 : ∀ t, own_S p e below m s₁ 22 #[lvI p0_, lvI p1_] [(.int (1 : Int32)), (.int p0_)] t → G t := by
        intro t kt
        refine pre9 t ?_
        show own_S p e below m s₁ 6 #[lvI p0_, lvI p1_] [(.int (2 : Int32)), (.int p0_)] _
        refine XS.icmpYes X0.here hx rfl (pc0 := 6) (pc' := 20) rfl (hb hby d2_6) rfl (feq hc10).2 (by decide) (by decide) ?_
        refine XS.iloadN X0.here hx rfl (hb hby d2_20) rfl ?_
        refine XS.iconst X0.here hx rfl (hb hby d2_21) ?_
        exact kt
      by_cases hc18 : p0_ = (1 : Int32)
      · have pre19 : ∀ t, own_S p e below m s₁ 27 #[lvI p0_, lvI p1_] [(.int (2 : Int32)), (.int p1_)] t → G t := by
          intro t kt
          refine pre17 t ?_
          show own_S p e below m s₁ 22 #[lvI p0_, lvI p1_] [(.int (1 : Int32)), (.int p0_)] _
          refine XS.icmpNo X0.here hx rfl (hb hby d2_22) rfl (teq hc18).2 ?_
          refine XS.iloadN X0.here hx rfl (hb hby d2_25) rfl ?_
          refine XS.iconst X0.here hx rfl (hb hby d2_26) ?_
          exact kt
        by_cases hc20 : p1_ = (2 : Int32)
        · have pre21 : ∀ t, own_S p e below m s₁ 50 #[lvI p0_, lvI p1_] [(.int (1 : Int32))] t → G t := by
            intro t kt
            refine pre19 t ?_
            show own_S p e below m s₁ 27 #[lvI p0_, lvI p1_] [(.int (2 : Int32)), (.int p1_)] _
            refine XS.icmpYes X0.here hx rfl (pc0 := 27) (pc' := 45) rfl (hb hby d2_27) rfl (teq hc20).1 (by decide) (by decide) ?_
            refine XS.iconst X0.here hx rfl (hb hby d2_45) ?_
            refine XS.goto X0.here hx rfl (pc0 := 46) (pc' := 50) rfl (hb hby d2_46) (by decide) (by decide) ?_
            exact kt
          obtain ⟨fs, hr, hrun, hended, hW, hsame⟩ := X0.leave (v := some (.int (1 : Int32))) (fun h => by rw [Bd.returns] at h; cases h)
          refine ⟨_, _, hG _ (pre21 _ (retN X0 hx (t := .boolean) Bd.returns (by simp) (hb hby d2_50) hr)), hrun, hended, _, _, rfl, ?_, ⟨_, rfl⟩, hW, hsame.mono (by decide) (by decide)⟩
          show QExp Z p0_ p1_ h0 n0 _ s₁.heap _
          rw [e0]
          exact ⟨(1 : Int32), rfl, (Or.inr (Or.inr (Or.inr (Or.inr (Or.inl ⟨rfl, hc2, hc10, hc18, hc20⟩))))), N0, rfl⟩
        · have pre23 : ∀ t, own_S p e below m s₁ 32 #[lvI p0_, lvI p1_] [(.int (3 : Int32)), (.int p1_)] t → G t := by
            intro t kt
            refine pre19 t ?_
            show own_S p e below m s₁ 27 #[lvI p0_, lvI p1_] [(.int (2 : Int32)), (.int p1_)] _
            refine XS.icmpNo X0.here hx rfl (hb hby d2_27) rfl (feq hc20).1 ?_
            refine XS.iloadN X0.here hx rfl (hb hby d2_30) rfl ?_
            refine XS.iconst X0.here hx rfl (hb hby d2_31) ?_
            exact kt
          by_cases hc24 : p1_ = (3 : Int32)
          · have pre25 : ∀ t, own_S p e below m s₁ 50 #[lvI p0_, lvI p1_] [(.int (1 : Int32))] t → G t := by
              intro t kt
              refine pre23 t ?_
              show own_S p e below m s₁ 32 #[lvI p0_, lvI p1_] [(.int (3 : Int32)), (.int p1_)] _
              refine XS.icmpYes X0.here hx rfl (pc0 := 32) (pc' := 45) rfl (hb hby d2_32) rfl (teq hc24).1 (by decide) (by decide) ?_
              refine XS.iconst X0.here hx rfl (hb hby d2_45) ?_
              refine XS.goto X0.here hx rfl (pc0 := 46) (pc' := 50) rfl (hb hby d2_46) (by decide) (by decide) ?_
              exact kt
            obtain ⟨fs, hr, hrun, hended, hW, hsame⟩ := X0.leave (v := some (.int (1 : Int32))) (fun h => by rw [Bd.returns] at h; cases h)
            refine ⟨_, _, hG _ (pre25 _ (retN X0 hx (t := .boolean) Bd.returns (by simp) (hb hby d2_50) hr)), hrun, hended, _, _, rfl, ?_, ⟨_, rfl⟩, hW, hsame.mono (by decide) (by decide)⟩
            show QExp Z p0_ p1_ h0 n0 _ s₁.heap _
            rw [e0]
            exact ⟨(1 : Int32), rfl, (Or.inr (Or.inr (Or.inr (Or.inr (Or.inr (Or.inl ⟨rfl, hc2, hc10, hc18, hc20, hc24⟩)))))), N0, rfl⟩
          · have pre27 : ∀ t, own_S p e below m s₁ 37 #[lvI p0_, lvI p1_] [(.int (4 : Int32)), (.int p1_)] t → G t := by
              intro t kt
              refine pre23 t ?_
              show own_S p e below m s₁ 32 #[lvI p0_, lvI p1_] [(.int (3 : Int32)), (.int p1_)] _
              refine XS.icmpNo X0.here hx rfl (hb hby d2_32) rfl (feq hc24).1 ?_
              refine XS.iloadN X0.here hx rfl (hb hby d2_35) rfl ?_
              refine XS.iconst X0.here hx rfl (hb hby d2_36) ?_
              exact kt
            by_cases hc28 : p1_ = (4 : Int32)
            · have pre29 : ∀ t, own_S p e below m s₁ 50 #[lvI p0_, lvI p1_] [(.int (1 : Int32))] t → G t := by
                intro t kt
                refine pre27 t ?_
                show own_S p e below m s₁ 37 #[lvI p0_, lvI p1_] [(.int (4 : Int32)), (.int p1_)] _
                refine XS.icmpYes X0.here hx rfl (pc0 := 37) (pc' := 45) rfl (hb hby d2_37) rfl (teq hc28).1 (by decide) (by decide) ?_
                refine XS.iconst X0.here hx rfl (hb hby d2_45) ?_
                refine XS.goto X0.here hx rfl (pc0 := 46) (pc' := 50) rfl (hb hby d2_46) (by decide) (by decide) ?_
                exact kt
              obtain ⟨fs, hr, hrun, hended, hW, hsame⟩ := X0.leave (v := some (.int (1 : Int32))) (fun h => by rw [Bd.returns] at h; cases h)
              refine ⟨_, _, hG _ (pre29 _ (retN X0 hx (t := .boolean) Bd.returns (by simp) (hb hby d2_50) hr)), hrun, hended, _, _, rfl, ?_, ⟨_, rfl⟩, hW, hsame.mono (by decide) (by decide)⟩
              show QExp Z p0_ p1_ h0 n0 _ s₁.heap _
              rw [e0]
              exact ⟨(1 : Int32), rfl, (Or.inr (Or.inr (Or.inr (Or.inr (Or.inr (Or.inr (Or.inl ⟨rfl, hc2, hc10, hc18, hc20, hc24, hc28⟩))))))), N0, rfl⟩
            · have pre31 : ∀ t, own_S p e below m s₁ 42 #[lvI p0_, lvI p1_] [(.int (5 : Int32)), (.int p1_)] t → G t := by
                intro t kt
                refine pre27 t ?_
                show own_S p e below m s₁ 37 #[lvI p0_, lvI p1_] [(.int (4 : Int32)), (.int p1_)] _
                refine XS.icmpNo X0.here hx rfl (hb hby d2_37) rfl (feq hc28).1 ?_
                refine XS.iloadN X0.here hx rfl (hb hby d2_40) rfl ?_
                refine XS.iconst X0.here hx rfl (hb hby d2_41) ?_
                exact kt
              by_cases hc32 : p1_ = (5 : Int32)
              · have pre33 : ∀ t, own_S p e below m s₁ 50 #[lvI p0_, lvI p1_] [(.int (1 : Int32))] t → G t := by
                  intro t kt
                  refine pre31 t ?_
                  show own_S p e below m s₁ 42 #[lvI p0_, lvI p1_] [(.int (5 : Int32)), (.int p1_)] _
                  refine XS.icmpNo X0.here hx rfl (hb hby d2_42) rfl (teq hc32).2 ?_
                  refine XS.iconst X0.here hx rfl (hb hby d2_45) ?_
                  refine XS.goto X0.here hx rfl (pc0 := 46) (pc' := 50) rfl (hb hby d2_46) (by decide) (by decide) ?_
                  exact kt
                obtain ⟨fs, hr, hrun, hended, hW, hsame⟩ := X0.leave (v := some (.int (1 : Int32))) (fun h => by rw [Bd.returns] at h; cases h)
                refine ⟨_, _, hG _ (pre33 _ (retN X0 hx (t := .boolean) Bd.returns (by simp) (hb hby d2_50) hr)), hrun, hended, _, _, rfl, ?_, ⟨_, rfl⟩, hW, hsame.mono (by decide) (by decide)⟩
                show QExp Z p0_ p1_ h0 n0 _ s₁.heap _
                rw [e0]
                exact ⟨(1 : Int32), rfl, (Or.inr (Or.inr (Or.inr (Or.inr (Or.inr (Or.inr (Or.inr (Or.inl ⟨rfl, hc2, hc10, hc18, hc20, hc24, hc28, hc32⟩)))))))), N0, rfl⟩
              · have pre35 : ∀ t, own_S p e below m s₁ 50 #[lvI p0_, lvI p1_] [(.int (0 : Int32))] t → G t := by
                  intro t kt
                  refine pre31 t ?_
                  show own_S p e below m s₁ 42 #[lvI p0_, lvI p1_] [(.int (5 : Int32)), (.int p1_)] _
                  refine XS.icmpYes X0.here hx rfl (pc0 := 42) (pc' := 49) rfl (hb hby d2_42) rfl (feq hc32).2 (by decide) (by decide) ?_
                  refine XS.iconst X0.here hx rfl (hb hby d2_49) ?_
                  exact kt
                obtain ⟨fs, hr, hrun, hended, hW, hsame⟩ := X0.leave (v := some (.int (0 : Int32))) (fun h => by rw [Bd.returns] at h; cases h)
                refine ⟨_, _, hG _ (pre35 _ (retN X0 hx (t := .boolean) Bd.returns (by simp) (hb hby d2_50) hr)), hrun, hended, _, _, rfl, ?_, ⟨_, rfl⟩, hW, hsame.mono (by decide) (by decide)⟩
                show QExp Z p0_ p1_ h0 n0 _ s₁.heap _
                rw [e0]
                exact ⟨(0 : Int32), rfl, (Or.inr (Or.inr (Or.inr (Or.inr (Or.inr (Or.inr (Or.inr (Or.inr (Or.inl ⟨rfl, hc2, hc10, hc18, hc20, hc24, hc28, hc32⟩))))))))), N0, rfl⟩
      · have pre37 : ∀ t, own_S p e below m s₁ 53 #[lvI p0_, lvI p1_] [(.int (3 : Int32)), (.int p0_)] t → G t := by
          intro t kt
          refine pre17 t ?_
          show own_S p e below m s₁ 22 #[lvI p0_, lvI p1_] [(.int (1 : Int32)), (.int p0_)] _
          refine XS.icmpYes X0.here hx rfl (pc0 := 22) (pc' := 51) rfl (hb hby d2_22) rfl (feq hc18).2 (by decide) (by decide) ?_
          refine XS.iloadN X0.here hx rfl (hb hby d2_51) rfl ?_
          refine XS.iconst X0.here hx rfl (hb hby d2_52) ?_
          exact kt
        by_cases hc38 : p0_ = (3 : Int32)
        · have pre39 : ∀ t, own_S p e below m s₁ 58 #[lvI p0_, lvI p1_] [(.int (2 : Int32)), (.int p1_)] t → G t := by
            intro t kt
            refine pre37 t ?_
            show own_S p e below m s₁ 53 #[lvI p0_, lvI p1_] [(.int (3 : Int32)), (.int p0_)] _
            refine XS.icmpNo X0.here hx rfl (hb hby d2_53) rfl (teq hc38).2 ?_
            refine XS.iloadN X0.here hx rfl (hb hby d2_56) rfl ?_
            refine XS.iconst X0.here hx rfl (hb hby d2_57) ?_
            exact kt
          by_cases hc40 : p1_ = (2 : Int32)
          · have pre41 : ∀ t, own_S p e below m s₁ 66 #[lvI p0_, lvI p1_] [(.int (1 : Int32))] t → G t := by
              intro t kt
              refine pre39 t ?_
              show own_S p e below m s₁ 58 #[lvI p0_, lvI p1_] [(.int (2 : Int32)), (.int p1_)] _
              refine XS.icmpNo X0.here hx rfl (hb hby d2_58) rfl (teq hc40).2 ?_
              refine XS.iconst X0.here hx rfl (hb hby d2_61) ?_
              refine XS.goto X0.here hx rfl (pc0 := 62) (pc' := 66) rfl (hb hby d2_62) (by decide) (by decide) ?_
              exact kt
            obtain ⟨fs, hr, hrun, hended, hW, hsame⟩ := X0.leave (v := some (.int (1 : Int32))) (fun h => by rw [Bd.returns] at h; cases h)
            refine ⟨_, _, hG _ (pre41 _ (retN X0 hx (t := .boolean) Bd.returns (by simp) (hb hby d2_66) hr)), hrun, hended, _, _, rfl, ?_, ⟨_, rfl⟩, hW, hsame.mono (by decide) (by decide)⟩
            show QExp Z p0_ p1_ h0 n0 _ s₁.heap _
            rw [e0]
            exact ⟨(1 : Int32), rfl, (Or.inr (Or.inr (Or.inr (Or.inr (Or.inr (Or.inr (Or.inr (Or.inr (Or.inr (Or.inl ⟨rfl, hc2, hc10, hc18, hc38, hc40⟩)))))))))), N0, rfl⟩
          · have pre43 : ∀ t, own_S p e below m s₁ 66 #[lvI p0_, lvI p1_] [(.int (0 : Int32))] t → G t := by
              intro t kt
              refine pre39 t ?_
              show own_S p e below m s₁ 58 #[lvI p0_, lvI p1_] [(.int (2 : Int32)), (.int p1_)] _
              refine XS.icmpYes X0.here hx rfl (pc0 := 58) (pc' := 65) rfl (hb hby d2_58) rfl (feq hc40).2 (by decide) (by decide) ?_
              refine XS.iconst X0.here hx rfl (hb hby d2_65) ?_
              exact kt
            obtain ⟨fs, hr, hrun, hended, hW, hsame⟩ := X0.leave (v := some (.int (0 : Int32))) (fun h => by rw [Bd.returns] at h; cases h)
            refine ⟨_, _, hG _ (pre43 _ (retN X0 hx (t := .boolean) Bd.returns (by simp) (hb hby d2_66) hr)), hrun, hended, _, _, rfl, ?_, ⟨_, rfl⟩, hW, hsame.mono (by decide) (by decide)⟩
            show QExp Z p0_ p1_ h0 n0 _ s₁.heap _
            rw [e0]
            exact ⟨(0 : Int32), rfl, (Or.inr (Or.inr (Or.inr (Or.inr (Or.inr (Or.inr (Or.inr (Or.inr (Or.inr (Or.inr (Or.inl ⟨rfl, hc2, hc10, hc18, hc38, hc40⟩))))))))))), N0, rfl⟩
        · have pre45 : ∀ t, own_S p e below m s₁ 69 #[lvI p0_, lvI p1_] [(.int (1 : Int32)), (.int p1_)] t → G t := by
            intro t kt
            refine pre37 t ?_
            show own_S p e below m s₁ 53 #[lvI p0_, lvI p1_] [(.int (3 : Int32)), (.int p0_)] _
            refine XS.icmpYes X0.here hx rfl (pc0 := 53) (pc' := 67) rfl (hb hby d2_53) rfl (feq hc38).2 (by decide) (by decide) ?_
            refine XS.iloadN X0.here hx rfl (hb hby d2_67) rfl ?_
            refine XS.iconst X0.here hx rfl (hb hby d2_68) ?_
            exact kt
          by_cases hc46 : p1_ = (1 : Int32)
          · have pre47 : ∀ t, own_S p e below m s₁ 82 #[lvI p0_, lvI p1_] [(.int (1 : Int32))] t → G t := by
              intro t kt
              refine pre45 t ?_
              show own_S p e below m s₁ 69 #[lvI p0_, lvI p1_] [(.int (1 : Int32)), (.int p1_)] _
              refine XS.icmpYes X0.here hx rfl (pc0 := 69) (pc' := 77) rfl (hb hby d2_69) rfl (teq hc46).1 (by decide) (by decide) ?_
              refine XS.iconst X0.here hx rfl (hb hby d2_77) ?_
              refine XS.goto X0.here hx rfl (pc0 := 78) (pc' := 82) rfl (hb hby d2_78) (by decide) (by decide) ?_
              exact kt
            obtain ⟨fs, hr, hrun, hended, hW, hsame⟩ := X0.leave (v := some (.int (1 : Int32))) (fun h => by rw [Bd.returns] at h; cases h)
            refine ⟨_, _, hG _ (pre47 _ (retN X0 hx (t := .boolean) Bd.returns (by simp) (hb hby d2_82) hr)), hrun, hended, _, _, rfl, ?_, ⟨_, rfl⟩, hW, hsame.mono (by decide) (by decide)⟩
            show QExp Z p0_ p1_ h0 n0 _ s₁.heap _
            rw [e0]
            exact ⟨(1 : Int32), rfl, (Or.inr (Or.inr (Or.inr (Or.inr (Or.inr (Or.inr (Or.inr (Or.inr (Or.inr (Or.inr (Or.inr (Or.inl ⟨rfl, hc2, hc10, hc18, hc38, hc46⟩)))))))))))), N0, rfl⟩
          · have pre49 : ∀ t, own_S p e below m s₁ 74 #[lvI p0_, lvI p1_] [(.int (2 : Int32)), (.int p1_)] t → G t := by
              intro t kt
              refine pre45 t ?_
              show own_S p e below m s₁ 69 #[lvI p0_, lvI p1_] [(.int (1 : Int32)), (.int p1_)] _
              refine XS.icmpNo X0.here hx rfl (hb hby d2_69) rfl (feq hc46).1 ?_
              refine XS.iloadN X0.here hx rfl (hb hby d2_72) rfl ?_
              refine XS.iconst X0.here hx rfl (hb hby d2_73) ?_
              exact kt
            by_cases hc50 : p1_ = (2 : Int32)
            · have pre51 : ∀ t, own_S p e below m s₁ 82 #[lvI p0_, lvI p1_] [(.int (1 : Int32))] t → G t := by
                intro t kt
                refine pre49 t ?_
                show own_S p e below m s₁ 74 #[lvI p0_, lvI p1_] [(.int (2 : Int32)), (.int p1_)] _
                refine XS.icmpNo X0.here hx rfl (hb hby d2_74) rfl (teq hc50).2 ?_
                refine XS.iconst X0.here hx rfl (hb hby d2_77) ?_
                refine XS.goto X0.here hx rfl (pc0 := 78) (pc' := 82) rfl (hb hby d2_78) (by decide) (by decide) ?_
                exact kt
              obtain ⟨fs, hr, hrun, hended, hW, hsame⟩ := X0.leave (v := some (.int (1 : Int32))) (fun h => by rw [Bd.returns] at h; cases h)
              refine ⟨_, _, hG _ (pre51 _ (retN X0 hx (t := .boolean) Bd.returns (by simp) (hb hby d2_82) hr)), hrun, hended, _, _, rfl, ?_, ⟨_, rfl⟩, hW, hsame.mono (by decide) (by decide)⟩
              show QExp Z p0_ p1_ h0 n0 _ s₁.heap _
              rw [e0]
              exact ⟨(1 : Int32), rfl, (Or.inr (Or.inr (Or.inr (Or.inr (Or.inr (Or.inr (Or.inr (Or.inr (Or.inr (Or.inr (Or.inr (Or.inr (Or.inl ⟨rfl, hc2, hc10, hc18, hc38, hc46, hc50⟩))))))))))))), N0, rfl⟩
            · have pre53 : ∀ t, own_S p e below m s₁ 82 #[lvI p0_, lvI p1_] [(.int (0 : Int32))] t → G t := by
                intro t kt
                refine pre49 t ?_
                show own_S p e below m s₁ 74 #[lvI p0_, lvI p1_] [(.int (2 : Int32)), (.int p1_)] _
                refine XS.icmpYes X0.here hx rfl (pc0 := 74) (pc' := 81) rfl (hb hby d2_74) rfl (feq hc50).2 (by decide) (by decide) ?_
                refine XS.iconst X0.here hx rfl (hb hby d2_81) ?_
                exact kt
              obtain ⟨fs, hr, hrun, hended, hW, hsame⟩ := X0.leave (v := some (.int (0 : Int32))) (fun h => by rw [Bd.returns] at h; cases h)
              refine ⟨_, _, hG _ (pre53 _ (retN X0 hx (t := .boolean) Bd.returns (by simp) (hb hby d2_82) hr)), hrun, hended, _, _, rfl, ?_, ⟨_, rfl⟩, hW, hsame.mono (by decide) (by decide)⟩
              show QExp Z p0_ p1_ h0 n0 _ s₁.heap _
              rw [e0]
              exact ⟨(0 : Int32), rfl, (Or.inr (Or.inr (Or.inr (Or.inr (Or.inr (Or.inr (Or.inr (Or.inr (Or.inr (Or.inr (Or.inr (Or.inr (Or.inr ⟨rfl, hc2, hc10, hc18, hc38, hc46, hc50⟩))))))))))))), N0, rfl⟩
theorem pd_0 : parseMethodDescriptor "(I)Z" = some ⟨[.int], some .boolean⟩ := by decide +kernel
theorem pd_1 : parseMethodDescriptor "(II)Z" = some ⟨[.int, .int], some .boolean⟩ := by decide +kernel
theorem own_i0 : ((0 : Int32)).toInt = 0 := rfl
theorem own_j2147483647 : ((2147483647 : Int32)).toInt = 2147483647 := rfl
theorem own_i5 : ((5 : Int32)).toInt = 5 := rfl
theorem own_i1 : ((1 : Int32)).toInt = 1 := rfl
theorem own_i7 : ((7 : Int32)).toInt = 7 := rfl
theorem own_i2 : ((2 : Int32)).toInt = 2 := rfl
theorem own_i3 : ((3 : Int32)).toInt = 3 := rfl
theorem own_i4 : ((4 : Int32)).toInt = 4 := rfl
theorem efLaw (m : MethodId) (p0_ : Int32) (p1_ : Int32) (p2_ : Int32) : entryFrame m #[(.int p0_), (.int p1_), (.int p2_)] maxLocals = mkF m 0 #[lvI p0_, lvI p1_, lvI p2_, .unset, .unset, .unset] [] := by first | (simp [entryFrame, mkF, argsToLocals, Value.category, maxLocals]; done) | rfl
def QLaw (Z : State) (p0_ : Int32) (p1_ : Int32) (p2_ : Int32) (w_GET : Addr) (w_SET : Addr) (w_DEL : Addr) (w_VDEL : Addr) (w_KEYNOTIFY : Addr) (h0 : Heap) (n0 : Nat) (v : Option Value) (h : Heap) (L : List Loc) : Prop := v = some (.int (1 : Int32)) ∧ Fr n0 L
set_option maxRecDepth 65536 in
set_option maxHeartbeats 40000000 in
theorem rmLaw (l : Launch) (Z : State) (a0 : Array Value) (hw : ∀ d ∈ tables_1, d.before a0 Z = true) (ws : List Jvm.Cond) (p0_ : Int32) (p1_ : Int32) (p2_ : Int32) (w_GET : Addr) (w_SET : Addr) (w_DEL : Addr) (w_VDEL : Addr) (w_KEYNOTIFY : Addr) (h0 : Heap) (n0 : Nat) (O0 : Old Z n0 h0) (P0 : Sta Z Z.heap "com/example/fawley/fawley/protocol/Command" "GET" "Lcom/example/fawley/fawley/protocol/Command;" (.ref w_GET)) (P1 : Exa Z Z.heap w_GET cn0) (P2 : Fld Z Z.heap w_GET cn0 "minArguments" "I" (.int (1 : Int32))) (P3 : Fld Z Z.heap w_GET cn0 "maxArguments" "I" (.int (1 : Int32))) (P4 : Sta Z Z.heap "com/example/fawley/fawley/protocol/Command" "SET" "Lcom/example/fawley/fawley/protocol/Command;" (.ref w_SET)) (P5 : Exa Z Z.heap w_SET cn0) (P6 : Fld Z Z.heap w_SET cn0 "minArguments" "I" (.int (2 : Int32))) (P7 : Fld Z Z.heap w_SET cn0 "maxArguments" "I" (.int (5 : Int32))) (P8 : Sta Z Z.heap "com/example/fawley/fawley/protocol/Command" "DEL" "Lcom/example/fawley/fawley/protocol/Command;" (.ref w_DEL)) (P9 : Exa Z Z.heap w_DEL cn0) (P10 : Fld Z Z.heap w_DEL cn0 "minArguments" "I" (.int (1 : Int32))) (P11 : Fld Z Z.heap w_DEL cn0 "maxArguments" "I" (.int (1 : Int32))) (P12 : Sta Z Z.heap "com/example/fawley/fawley/protocol/Command" "VDEL" "Lcom/example/fawley/fawley/protocol/Command;" (.ref w_VDEL)) (P13 : Exa Z Z.heap w_VDEL cn0) (P14 : Fld Z Z.heap w_VDEL cn0 "minArguments" "I" (.int (2 : Int32))) (P15 : Fld Z Z.heap w_VDEL cn0 "maxArguments" "I" (.int (2 : Int32))) (P16 : Sta Z Z.heap "com/example/fawley/fawley/protocol/Command" "KEYNOTIFY" "Lcom/example/fawley/fawley/protocol/Command;" (.ref w_KEYNOTIFY)) (P17 : Exa Z Z.heap w_KEYNOTIFY cn0) (P18 : Fld Z Z.heap w_KEYNOTIFY cn0 "minArguments" "I" (.int (1 : Int32))) (P19 : Fld Z Z.heap w_KEYNOTIFY cn0 "maxArguments" "I" (.int (2 : Int32))) :
    MetFree l x (head1 (Jvm.Cond.code x code maxLocals ret :: ws) room_1) (fun a U => a = #[(.int p0_), (.int p1_), (.int p2_)] ∧ Z.Warmed39 U.vm ∧ U.heap = h0) (fun _ _ _ _ _ => True) (fun _ U o U' => ∃ v L, o = .returned v ∧ QLaw Z p0_ p1_ p2_ w_GET w_SET w_DEL w_VDEL w_KEYNOTIFY h0 n0 v U'.heap L ∧ FrameEnd U o U' L room_1.cells room_1.slots) := by
  refine MetFree.of_bodySF (plainFor_of_name pn_1) hisR ?_
  intro p e s m args below meth c s₁ Bd hml0 hP hK
  obtain ⟨rfl, hZ, hh⟩ := hP
  have hx := Bd.exec
  have hby := Bd.bytes
  have hml : c.maxLocals = 6 := hml0
  have hown : s.vm.findClass "com/example/fawley/fawley/protocol/CommandTakesPinLaw" = some m.cls := findClass_of_methodNamed Bd.named
  have hnm := (name_of_methodNamed Bd.named Bd.method).1
  have X0 : Stand p l e room_1 s m #[(.int p0_), (.int p1_), (.int p2_)] below meth c s₁ [] 0 0 := Stand.of_body Bd
  have e0 : s₁.heap = h0 := by rw [← hh, Bd.state]; rfl
  have N0 := Fr.nil n0
  obtain ⟨G, pre0, hG⟩ : ∃ G : State → Prop, (∀ t, own_S p e below m s₁ 0 #[lvI p0_, lvI p1_, lvI p2_, .unset, .unset, .unset] [] t → G t) ∧ (∀ t, G t → Steps p.tables e below (s₁.setTop (entryFrame m #[(.int p0_), (.int p1_), (.int p2_)] maxLocals)) t) := ⟨fun t => Steps p.tables e below (s₁.setTop (entryFrame m #[(.int p0_), (.int p1_), (.int p2_)] maxLocals)) t, fun t k => castTop (efLaw m p0_ p1_ p2_) k, fun _ k => k⟩
  have K0 : Keep h0 h0 [] := Keep.refl _ _
  have pre1 : ∀ t, own_S p e below m s₁ 8 #[lvI p0_, lvI p1_, lvI p2_, lvI ((p0_ &&& (2147483647 : Int32)) % (5 : Int32)), .unset, .unset] [(.int ((p0_ &&& (2147483647 : Int32)) % (5 : Int32)))] t → G t := by
    intro t kt
    refine pre0 t ?_
    show own_S p e below m s₁ 0 #[lvI p0_, lvI p1_, lvI p2_, .unset, .unset, .unset] [] _
    refine XS.iloadN X0.here hx rfl (hb hby at_0) rfl ?_
    show own_S p e below m s₁ 1 #[lvI p0_, lvI p1_, lvI p2_, .unset, .unset, .unset] [(.int p0_)] _
    refine X0.ldcInt hx hown (mvT hZ (own_w hw 0 rfl)) (g := (mkF m 1 #[lvI p0_, lvI p1_, lvI p2_, .unset, .unset, .unset] [(.int p0_)])) rfl (hb hby at_1) _ ?_
    refine XS.iand X0.here hx rfl (hb hby at_3) rfl ?_
    refine XS.iconst X0.here hx rfl (hb hby at_4) ?_
    show own_S p e below m s₁ 5 #[lvI p0_, lvI p1_, lvI p2_, .unset, .unset, .unset] [(.int (5 : Int32)), (.int (p0_ &&& (2147483647 : Int32)))] _
    refine iremM (g := (mkF m 5 #[lvI p0_, lvI p1_, lvI p2_, .unset, .unset, .unset] [(.int (5 : Int32)), (.int (p0_ &&& (2147483647 : Int32)))])) X0 hx rfl (hb hby at_5) rfl (by decide) ?_
    refine XS.istoreN X0.here hx rfl (hb hby at_6) rfl (l' := #[lvI p0_, lvI p1_, lvI p2_, lvI ((p0_ &&& (2147483647 : Int32)) % (5 : Int32)), .unset, .unset]) rfl ?_
    refine XS.iloadN X0.here hx rfl (hb hby at_7) rfl ?_
    exact kt
  by_cases hc2 : ((p0_ &&& (2147483647 : Int32)) % (5 : Int32)) = (0 : Int32)
  · obtain ⟨T3, X3, e3, st3⟩ := getS2 X0 hx hZ hown (host := "") (Or.inl (own_w hw 1 rfl)) Via.refl e0 (P0.ext O0.2) (g := (mkF m 11 #[lvI p0_, lvI p1_, lvI p2_, lvI ((p0_ &&& (2147483647 : Int32)) % (5 : Int32)), .unset, .unset] [])) rfl (hb hby at_11)
    have f5 : Exa Z h0 w_GET cn0 := P1.ext O0.2
    obtain ⟨cq4, kq4, q4a, q4b, q4c⟩ := isOf hZ e3 f5
    obtain ⟨_, _, ⟨T4, L4, k4, n4⟩, -, X4, ⟨Lc4, hQ4, l4, y4, z4⟩, st4⟩ := X3.virtualBack hx (y := (⟨"com/example/fawley/fawley/protocol/Command", "takes", "(I)Z"⟩ : MethodName)) (z := (⟨"com/example/fawley/fawley/protocol/Command", "takes", "(I)Z"⟩ : MethodName)) hown (mvT hZ (own_w hw 4 rfl)) (mvT hZ (own_w hw 5 rfl)) (notFace_of_selects (args := #[]) (mvT hZ (own_w hw 7 rfl))) (mvT hZ (own_w hw 7 rfl)) (mvT hZ (own_w hw 6 rfl)) (by decide) (backOf (W := 0) (rmTak l Z a0 hw [] w_GET p1_ (1 : Int32) (1 : Int32) h0 n0 O0 P2 P3) hZ (own_w hw 8 rfl) (own_w hw 2 rfl) (by decide) (by decide)) q4a q4c (g := (mkF m 74 #[lvI p0_, lvI p1_, lvI p2_, lvI ((p0_ &&& (2147483647 : Int32)) % (5 : Int32)), lvR w_GET, lvI ((p2_ &&& (7 : Int32)) - (1 : Int32))] [(.int p1_), (.ref w_GET)])) rfl (by rw [hml]; rfl) (Steps.refl _) (argsL := [(.int p1_)]) (rest := []) (lenOf pd_0 rfl) rfl (by show 2 * 0 + _ ≤ _; exact Nat.le_of_eq rfl) (hb hby at_74) (fun _ _ => ⟨rfl, e3, (by decide : 0 + 0 ≤ _), (by decide : 0 + 0 ≤ _)⟩)
    dsimp only [Pt.U, Pt.locs, Pt.cells, Pt.slots] at X4 l4 y4 z4 st4 hQ4
    subst l4 y4 z4
    obtain ⟨h4, e4⟩ : ∃ z, T4.heap = z := ⟨_, rfl⟩
    rw [e4] at hQ4
    obtain ⟨rr4, rfl, hs4, N4q, hh4⟩ := hQ4
    have N6 := Fr.app N0 N4q
    have e4' : T4.heap = h0 := e4.trans hh4
    rcases hs4 with ⟨rfl, hq4_0_0⟩ | ⟨rfl, hq4_1_0, hq4_1_1⟩ | ⟨rfl, hq4_2_0, hq4_2_1⟩
    · obtain ⟨_, _, ⟨T7, L7, k7, n7⟩, -, X7, ⟨Lc7, hQ7, l7, y7, z7⟩, st7⟩ := Jvm.LawKit.callS X4 hx (y := (⟨"com/example/fawley/fawley/protocol/CommandTakesPinLaw", "expected", "(II)Z"⟩ : MethodName)) hown (mvT hZ (own_w hw 13 rfl)) (mvT hZ (own_w hw 14 rfl)) (mvT hZ (own_w hw 15 rfl)) (mvT hZ (own_w hw 16 rfl)) (by decide) (backOf (W := 1) (rmExp l Z a0 hw [] ((p0_ &&& (2147483647 : Int32)) % (5 : Int32)) p1_ h0 n0 O0 ) hZ (own_w hw 16 rfl) (own_w hw 15 rfl) (by decide) (by decide)) (g := (mkF m 79 #[lvI p0_, lvI p1_, lvI p2_, lvI ((p0_ &&& (2147483647 : Int32)) % (5 : Int32)), lvR w_GET, lvI ((p2_ &&& (7 : Int32)) - (1 : Int32))] [(.int p1_), (.int ((p0_ &&& (2147483647 : Int32)) % (5 : Int32))), (.int (0 : Int32))])) rfl (by rw [hml]; rfl) (argsL := [(.int ((p0_ &&& (2147483647 : Int32)) % (5 : Int32))), (.int p1_)]) (rest := [(.int (0 : Int32))]) (lenOf pd_1 rfl) rfl (by show 2 * 0 + _ ≤ _; exact Nat.le_of_eq rfl) (hb hby at_79) (fun _ _ => ⟨rfl, e4', (by decide : 0 + 0 ≤ _), (by decide : 0 + 0 ≤ _)⟩)
      dsimp only [Pt.U, Pt.locs, Pt.cells, Pt.slots] at X7 l7 y7 z7 st7 hQ7
      subst l7 y7 z7
      obtain ⟨h7, e7⟩ : ∃ z, T7.heap = z := ⟨_, rfl⟩
      rw [e7] at hQ7
      obtain ⟨rr7, rfl, hs7, N7q, hh7⟩ := hQ7
      have N8 := Fr.app N6 N7q
      have e7' : T7.heap = h0 := e7.trans hh7
      rcases hs7 with ⟨rfl, hq7_0_0, hq7_0_1⟩ | ⟨rfl, hq7_1_0, hq7_1_1⟩ | ⟨rfl, hq7_2_0, hq7_2_1, hq7_2_2⟩ | ⟨rfl, hq7_3_0, hq7_3_1, hq7_3_2⟩ | ⟨rfl, hq7_4_0, hq7_4_1, hq7_4_2, hq7_4_3⟩ | ⟨rfl, hq7_5_0, hq7_5_1, hq7_5_2, hq7_5_3, hq7_5_4⟩ | ⟨rfl, hq7_6_0, hq7_6_1, hq7_6_2, hq7_6_3, hq7_6_4, hq7_6_5⟩ | ⟨rfl, hq7_7_0, hq7_7_1, hq7_7_2, hq7_7_3, hq7_7_4, hq7_7_5, hq7_7_6⟩ | ⟨rfl, hq7_8_0, hq7_8_1, hq7_8_2, hq7_8_3, hq7_8_4, hq7_8_5, hq7_8_6⟩ | ⟨rfl, hq7_9_0, hq7_9_1, hq7_9_2, hq7_9_3, hq7_9_4⟩ | ⟨rfl, hq7_10_0, hq7_10_1, hq7_10_2, hq7_10_3, hq7_10_4⟩ | ⟨rfl, hq7_11_0, hq7_11_1, hq7_11_2, hq7_11_3, hq7_11_4⟩ | ⟨rfl, hq7_12_0, hq7_12_1, hq7_12_2, hq7_12_3, hq7_12_4, hq7_12_5⟩ | ⟨rfl, hq7_13_0, hq7_13_1, hq7_13_2, hq7_13_3, hq7_13_4, hq7_13_5⟩
      · exact absurd hq7_0_1 (by intro hz; have := own_i1; simp only [Int32.lt_iff_toInt_lt, ← Int32.toInt_inj] at hz hq4_0_0; omega)
      · have f10 : Exa Z h0 w_GET cn0 := P1.ext O0.2
        obtain ⟨cq9, kq9, q9a, q9b, q9c⟩ := isOf hZ e7' f10
        obtain ⟨_, _, ⟨T9, L9, k9, n9⟩, -, X9, ⟨Lc9, hQ9, l9, y9, z9⟩, st9⟩ := X7.virtualBack hx (y := (⟨"com/example/fawley/fawley/protocol/Command", "takes", "(I)Z"⟩ : MethodName)) (z := (⟨"com/example/fawley/fawley/protocol/Command", "takes", "(I)Z"⟩ : MethodName)) hown (mvT hZ (own_w hw 4 rfl)) (mvT hZ (own_w hw 5 rfl)) (notFace_of_selects (args := #[]) (mvT hZ (own_w hw 7 rfl))) (mvT hZ (own_w hw 7 rfl)) (mvT hZ (own_w hw 6 rfl)) (by decide) (backOf (W := 0) (rmTak l Z a0 hw [] w_GET ((p2_ &&& (7 : Int32)) - (1 : Int32)) (1 : Int32) (1 : Int32) h0 n0 O0 P2 P3) hZ (own_w hw 8 rfl) (own_w hw 2 rfl) (by decide) (by decide)) q9a q9c (g := (mkF m 89 #[lvI p0_, lvI p1_, lvI p2_, lvI ((p0_ &&& (2147483647 : Int32)) % (5 : Int32)), lvR w_GET, lvI ((p2_ &&& (7 : Int32)) - (1 : Int32))] [(.int ((p2_ &&& (7 : Int32)) - (1 : Int32))), (.ref w_GET)])) rfl (by rw [hml]; rfl) (Steps.refl _) (argsL := [(.int ((p2_ &&& (7 : Int32)) - (1 : Int32)))]) (rest := []) (lenOf pd_0 rfl) rfl (by show 2 * 0 + _ ≤ _; exact Nat.le_of_eq rfl) (hb hby at_89) (fun _ _ => ⟨rfl, e7', (by decide : 0 + 0 ≤ _), (by decide : 0 + 0 ≤ _)⟩)
        dsimp only [Pt.U, Pt.locs, Pt.cells, Pt.slots] at X9 l9 y9 z9 st9 hQ9
        subst l9 y9 z9
        obtain ⟨h9, e9⟩ : ∃ z, T9.heap = z := ⟨_, rfl⟩
        rw [e9] at hQ9
        obtain ⟨rr9, rfl, hs9, N9q, hh9⟩ := hQ9
        have N11 := Fr.app N8 N9q
        have e9' : T9.heap = h0 := e9.trans hh9
        rcases hs9 with ⟨rfl, hq9_0_0⟩ | ⟨rfl, hq9_1_0, hq9_1_1⟩ | ⟨rfl, hq9_2_0, hq9_2_1⟩
        · obtain ⟨_, _, ⟨T12, L12, k12, n12⟩, -, X12, ⟨Lc12, hQ12, l12, y12, z12⟩, st12⟩ := Jvm.LawKit.callS X9 hx (y := (⟨"com/example/fawley/fawley/protocol/CommandTakesPinLaw", "expected", "(II)Z"⟩ : MethodName)) hown (mvT hZ (own_w hw 13 rfl)) (mvT hZ (own_w hw 14 rfl)) (mvT hZ (own_w hw 15 rfl)) (mvT hZ (own_w hw 16 rfl)) (by decide) (backOf (W := 1) (rmExp l Z a0 hw [] ((p0_ &&& (2147483647 : Int32)) % (5 : Int32)) ((p2_ &&& (7 : Int32)) - (1 : Int32)) h0 n0 O0 ) hZ (own_w hw 16 rfl) (own_w hw 15 rfl) (by decide) (by decide)) (g := (mkF m 95 #[lvI p0_, lvI p1_, lvI p2_, lvI ((p0_ &&& (2147483647 : Int32)) % (5 : Int32)), lvR w_GET, lvI ((p2_ &&& (7 : Int32)) - (1 : Int32))] [(.int ((p2_ &&& (7 : Int32)) - (1 : Int32))), (.int ((p0_ &&& (2147483647 : Int32)) % (5 : Int32))), (.int (0 : Int32))])) rfl (by rw [hml]; rfl) (argsL := [(.int ((p0_ &&& (2147483647 : Int32)) % (5 : Int32))), (.int ((p2_ &&& (7 : Int32)) - (1 : Int32)))]) (rest := [(.int (0 : Int32))]) (lenOf pd_1 rfl) rfl (by show 2 * 0 + _ ≤ _; exact Nat.le_of_eq rfl) (hb hby at_95) (fun _ _ => ⟨rfl, e9', (by decide : 0 + 0 ≤ _), (by decide : 0 + 0 ≤ _)⟩)
          dsimp only [Pt.U, Pt.locs, Pt.cells, Pt.slots] at X12 l12 y12 z12 st12 hQ12
          subst l12 y12 z12
          obtain ⟨h12, e12⟩ : ∃ z, T12.heap = z := ⟨_, rfl⟩
          rw [e12] at hQ12
          obtain ⟨rr12, rfl, hs12, N12q, hh12⟩ := hQ12
          have N13 := Fr.app N11 N12q
          have e12' : T12.heap = h0 := e12.trans hh12
          rcases hs12 with ⟨rfl, hq12_0_0, hq12_0_1⟩ | ⟨rfl, hq12_1_0, hq12_1_1⟩ | ⟨rfl, hq12_2_0, hq12_2_1, hq12_2_2⟩ | ⟨rfl, hq12_3_0, hq12_3_1, hq12_3_2⟩ | ⟨rfl, hq12_4_0, hq12_4_1, hq12_4_2, hq12_4_3⟩ | ⟨rfl, hq12_5_0, hq12_5_1, hq12_5_2, hq12_5_3, hq12_5_4⟩ | ⟨rfl, hq12_6_0, hq12_6_1, hq12_6_2, hq12_6_3, hq12_6_4, hq12_6_5⟩ | ⟨rfl, hq12_7_0, hq12_7_1, hq12_7_2, hq12_7_3, hq12_7_4, hq12_7_5, hq12_7_6⟩ | ⟨rfl, hq12_8_0, hq12_8_1, hq12_8_2, hq12_8_3, hq12_8_4, hq12_8_5, hq12_8_6⟩ | ⟨rfl, hq12_9_0, hq12_9_1, hq12_9_2, hq12_9_3, hq12_9_4⟩ | ⟨rfl, hq12_10_0, hq12_10_1, hq12_10_2, hq12_10_3, hq12_10_4⟩ | ⟨rfl, hq12_11_0, hq12_11_1, hq12_11_2, hq12_11_3, hq12_11_4⟩ | ⟨rfl, hq12_12_0, hq12_12_1, hq12_12_2, hq12_12_3, hq12_12_4, hq12_12_5⟩ | ⟨rfl, hq12_13_0, hq12_13_1, hq12_13_2, hq12_13_3, hq12_13_4, hq12_13_5⟩
          · exact absurd hq12_0_1 (by intro hz; have := own_i1; have := own_i7; simp only [Int32.lt_iff_toInt_lt, ← Int32.toInt_inj] at hz hq9_0_0; omega)
          · have pre14 : ∀ t, own_S p e below m T12 106 #[lvI p0_, lvI p1_, lvI p2_, lvI ((p0_ &&& (2147483647 : Int32)) % (5 : Int32)), lvR w_GET, lvI ((p2_ &&& (7 : Int32)) - (1 : Int32))] [(.int (1 : Int32))] t → G t := by
              intro t kt
              refine pre1 t ?_
              show own_S p e below m s₁ 8 #[lvI p0_, lvI p1_, lvI p2_, lvI ((p0_ &&& (2147483647 : Int32)) % (5 : Int32)), .unset, .unset] [(.int ((p0_ &&& (2147483647 : Int32)) % (5 : Int32)))] _
              refine XS.ifNo X0.here hx rfl (hb hby at_8) rfl ((if0 _ _).trans (teq hc2).2) ?_
              show own_S p e below m s₁ 11 #[lvI p0_, lvI p1_, lvI p2_, lvI ((p0_ &&& (2147483647 : Int32)) % (5 : Int32)), .unset, .unset] [] _
              refine st3 _ ?_
              refine XS.astore X3.here hx rfl (hb hby at_14) rfl rfl (l' := #[lvI p0_, lvI p1_, lvI p2_, lvI ((p0_ &&& (2147483647 : Int32)) % (5 : Int32)), lvR w_GET, .unset]) rfl ?_
              refine XS.goto X3.here hx rfl (pc0 := 16) (pc' := 63) rfl (hb hby at_16) (by decide) (by decide) ?_
              refine XS.iloadN X3.here hx rfl (hb hby at_63) rfl ?_
              refine XS.bipush X3.here hx rfl (hb hby at_64) ?_
              refine XS.iand X3.here hx rfl (hb hby at_66) rfl ?_
              show own_S p e below m T3 67 #[lvI p0_, lvI p1_, lvI p2_, lvI ((p0_ &&& (2147483647 : Int32)) % (5 : Int32)), lvR w_GET, .unset] [(.int (p2_ &&& (7 : Int32)))] _
              refine XS.iconst X3.here hx rfl (hb hby at_67) ?_
              refine XS.isub X3.here hx rfl (hb hby at_68) rfl ?_
              refine XS.istore X3.here hx rfl (hb hby at_69) rfl (l' := #[lvI p0_, lvI p1_, lvI p2_, lvI ((p0_ &&& (2147483647 : Int32)) % (5 : Int32)), lvR w_GET, lvI ((p2_ &&& (7 : Int32)) - (1 : Int32))]) rfl ?_
              refine XS.aload X3.here hx rfl (hb hby at_71) rfl rfl ?_
              refine XS.iloadN X3.here hx rfl (hb hby at_73) rfl ?_
              show own_S p e below m T3 74 #[lvI p0_, lvI p1_, lvI p2_, lvI ((p0_ &&& (2147483647 : Int32)) % (5 : Int32)), lvR w_GET, lvI ((p2_ &&& (7 : Int32)) - (1 : Int32))] [(.int p1_), (.ref w_GET)] _
              refine st4.trans ?_
              refine XS.iloadN X4.here hx rfl (hb hby at_77) rfl ?_
              refine XS.iloadN X4.here hx rfl (hb hby at_78) rfl ?_
              show own_S p e below m T4 79 #[lvI p0_, lvI p1_, lvI p2_, lvI ((p0_ &&& (2147483647 : Int32)) % (5 : Int32)), lvR w_GET, lvI ((p2_ &&& (7 : Int32)) - (1 : Int32))] [(.int p1_), (.int ((p0_ &&& (2147483647 : Int32)) % (5 : Int32))), (.int (0 : Int32))] _
              refine st7 _ ?_
              show own_S p e below m T7 82 #[lvI p0_, lvI p1_, lvI p2_, lvI ((p0_ &&& (2147483647 : Int32)) % (5 : Int32)), lvR w_GET, lvI ((p2_ &&& (7 : Int32)) - (1 : Int32))] [(.int (0 : Int32)), (.int (0 : Int32))] _
              refine XS.icmpNo X7.here hx rfl (hb hby at_82) rfl (teq (by decide : (0 : Int32) = (0 : Int32))).2 ?_
              refine XS.aload X7.here hx rfl (hb hby at_85) rfl rfl ?_
              refine XS.iload X7.here hx rfl (hb hby at_87) rfl ?_
              show own_S p e below m T7 89 #[lvI p0_, lvI p1_, lvI p2_, lvI ((p0_ &&& (2147483647 : Int32)) % (5 : Int32)), lvR w_GET, lvI ((p2_ &&& (7 : Int32)) - (1 : Int32))] [(.int ((p2_ &&& (7 : Int32)) - (1 : Int32))), (.ref w_GET)] _
              refine st9.trans ?_
              refine XS.iloadN X9.here hx rfl (hb hby at_92) rfl ?_
              refine XS.iload X9.here hx rfl (hb hby at_93) rfl ?_
              show own_S p e below m T9 95 #[lvI p0_, lvI p1_, lvI p2_, lvI ((p0_ &&& (2147483647 : Int32)) % (5 : Int32)), lvR w_GET, lvI ((p2_ &&& (7 : Int32)) - (1 : Int32))] [(.int ((p2_ &&& (7 : Int32)) - (1 : Int32))), (.int ((p0_ &&& (2147483647 : Int32)) % (5 : Int32))), (.int (0 : Int32))] _
              refine st12 _ ?_
              show own_S p e below m T12 98 #[lvI p0_, lvI p1_, lvI p2_, lvI ((p0_ &&& (2147483647 : Int32)) % (5 : Int32)), lvR w_GET, lvI ((p2_ &&& (7 : Int32)) - (1 : Int32))] [(.int (0 : Int32)), (.int (0 : Int32))] _
              refine XS.icmpNo X12.here hx rfl (hb hby at_98) rfl (teq (by decide : (0 : Int32) = (0 : Int32))).2 ?_
              refine XS.iconst X12.here hx rfl (hb hby at_101) ?_
              refine XS.goto X12.here hx rfl (pc0 := 102) (pc' := 106) rfl (hb hby at_102) (by decide) (by decide) ?_
              exact kt
            obtain ⟨fs, hr, hrun, hended, hW, hsame⟩ := X12.leave (v := some (.int (1 : Int32))) (fun h => by rw [Bd.returns] at h; cases h)
            refine ⟨_, _, hG _ (pre14 _ (retN X12 hx (t := .boolean) Bd.returns (by simp) (hb hby at_106) hr)), hrun, hended, _, _, rfl, ?_, ⟨_, rfl⟩, hW, hsame.mono (by decide) (by decide)⟩
            show QLaw Z p0_ p1_ p2_ w_GET w_SET w_DEL w_VDEL w_KEYNOTIFY h0 n0 _ T12.heap _
            rw [e12']
            exact ⟨rfl, N13⟩
          · exact absurd hq12_2_1 (by intro hz; have := own_i0; have := own_i2; have := own_j2147483647; have := own_i5; simp only [Int32.lt_iff_toInt_lt, ← Int32.toInt_inj] at hz hq7_1_0 hq12_2_0; omega)
          · exact absurd hq12_3_1 (by intro hz; have := own_i0; have := own_i2; have := own_j2147483647; have := own_i5; simp only [Int32.lt_iff_toInt_lt, ← Int32.toInt_inj] at hz hq7_1_0 hq12_3_0; omega)
          · exact absurd hq12_4_2 (by intro hz; have := own_i0; have := own_i1; have := own_i2; have := own_j2147483647; have := own_i5; simp only [Int32.lt_iff_toInt_lt, ← Int32.toInt_inj] at hz hq7_1_0 hq12_4_0 hq12_4_1; omega)
          · exact absurd hq12_5_2 (by intro hz; have := own_i0; have := own_i1; have := own_i2; have := own_j2147483647; have := own_i5; simp only [Int32.lt_iff_toInt_lt, ← Int32.toInt_inj] at hz hq7_1_0 hq12_5_0 hq12_5_1; omega)
          · exact absurd hq12_6_2 (by intro hz; have := own_i0; have := own_i1; have := own_i2; have := own_j2147483647; have := own_i5; simp only [Int32.lt_iff_toInt_lt, ← Int32.toInt_inj] at hz hq7_1_0 hq12_6_0 hq12_6_1; omega)
          · exact absurd hq12_7_2 (by intro hz; have := own_i0; have := own_i1; have := own_i2; have := own_j2147483647; have := own_i5; simp only [Int32.lt_iff_toInt_lt, ← Int32.toInt_inj] at hz hq7_1_0 hq12_7_0 hq12_7_1; omega)
          · exact absurd hq12_8_2 (by intro hz; have := own_i0; have := own_i1; have := own_i2; have := own_j2147483647; have := own_i5; simp only [Int32.lt_iff_toInt_lt, ← Int32.toInt_inj] at hz hq7_1_0 hq12_8_0 hq12_8_1; omega)
          · exact absurd hq12_9_3 (by intro hz; have := own_i0; have := own_i1; have := own_i2; have := own_j2147483647; have := own_i3; have := own_i5; simp only [Int32.lt_iff_toInt_lt, ← Int32.toInt_inj] at hz hq7_1_0 hq12_9_0 hq12_9_1 hq12_9_2; omega)
          · exact absurd hq12_10_3 (by intro hz; have := own_i0; have := own_i1; have := own_i2; have := own_j2147483647; have := own_i3; have := own_i5; simp only [Int32.lt_iff_toInt_lt, ← Int32.toInt_inj] at hz hq7_1_0 hq12_10_0 hq12_10_1 hq12_10_2; omega)
          · exact absurd (by apply Decidable.by_contra; intro hz; have := own_i0; have := own_j2147483647; have := own_i5; simp only [Int32.lt_iff_toInt_lt, ← Int32.toInt_inj] at hz hq7_1_0; omega) hq12_11_0
          · exact absurd (by apply Decidable.by_contra; intro hz; have := own_i0; have := own_j2147483647; have := own_i5; simp only [Int32.lt_iff_toInt_lt, ← Int32.toInt_inj] at hz hq7_1_0; omega) hq12_12_0
          · exact absurd (by apply Decidable.by_contra; intro hz; have := own_i0; have := own_j2147483647; have := own_i5; simp only [Int32.lt_iff_toInt_lt, ← Int32.toInt_inj] at hz hq7_1_0; omega) hq12_13_0
        · obtain ⟨_, _, ⟨T16, L16, k16, n16⟩, -, X16, ⟨Lc16, hQ16, l16, y16, z16⟩, st16⟩ := Jvm.LawKit.callS X9 hx (y := (⟨"com/example/fawley/fawley/protocol/CommandTakesPinLaw", "expected", "(II)Z"⟩ : MethodName)) hown (mvT hZ (own_w hw 13 rfl)) (mvT hZ (own_w hw 14 rfl)) (mvT hZ (own_w hw 15 rfl)) (mvT hZ (own_w hw 16 rfl)) (by decide) (backOf (W := 1) (rmExp l Z a0 hw [] ((p0_ &&& (2147483647 : Int32)) % (5 : Int32)) ((p2_ &&& (7 : Int32)) - (1 : Int32)) h0 n0 O0 ) hZ (own_w hw 16 rfl) (own_w hw 15 rfl) (by decide) (by decide)) (g := (mkF m 95 #[lvI p0_, lvI p1_, lvI p2_, lvI ((p0_ &&& (2147483647 : Int32)) % (5 : Int32)), lvR w_GET, lvI ((p2_ &&& (7 : Int32)) - (1 : Int32))] [(.int ((p2_ &&& (7 : Int32)) - (1 : Int32))), (.int ((p0_ &&& (2147483647 : Int32)) % (5 : Int32))), (.int (0 : Int32))])) rfl (by rw [hml]; rfl) (argsL := [(.int ((p0_ &&& (2147483647 : Int32)) % (5 : Int32))), (.int ((p2_ &&& (7 : Int32)) - (1 : Int32)))]) (rest := [(.int (0 : Int32))]) (lenOf pd_1 rfl) rfl (by show 2 * 0 + _ ≤ _; exact Nat.le_of_eq rfl) (hb hby at_95) (fun _ _ => ⟨rfl, e9', (by decide : 0 + 0 ≤ _), (by decide : 0 + 0 ≤ _)⟩)
          dsimp only [Pt.U, Pt.locs, Pt.cells, Pt.slots] at X16 l16 y16 z16 st16 hQ16
          subst l16 y16 z16
          obtain ⟨h16, e16⟩ : ∃ z, T16.heap = z := ⟨_, rfl⟩
          rw [e16] at hQ16
          obtain ⟨rr16, rfl, hs16, N16q, hh16⟩ := hQ16
          have N17 := Fr.app N11 N16q
          have e16' : T16.heap = h0 := e16.trans hh16
          rcases hs16 with ⟨rfl, hq16_0_0, hq16_0_1⟩ | ⟨rfl, hq16_1_0, hq16_1_1⟩ | ⟨rfl, hq16_2_0, hq16_2_1, hq16_2_2⟩ | ⟨rfl, hq16_3_0, hq16_3_1, hq16_3_2⟩ | ⟨rfl, hq16_4_0, hq16_4_1, hq16_4_2, hq16_4_3⟩ | ⟨rfl, hq16_5_0, hq16_5_1, hq16_5_2, hq16_5_3, hq16_5_4⟩ | ⟨rfl, hq16_6_0, hq16_6_1, hq16_6_2, hq16_6_3, hq16_6_4, hq16_6_5⟩ | ⟨rfl, hq16_7_0, hq16_7_1, hq16_7_2, hq16_7_3, hq16_7_4, hq16_7_5, hq16_7_6⟩ | ⟨rfl, hq16_8_0, hq16_8_1, hq16_8_2, hq16_8_3, hq16_8_4, hq16_8_5, hq16_8_6⟩ | ⟨rfl, hq16_9_0, hq16_9_1, hq16_9_2, hq16_9_3, hq16_9_4⟩ | ⟨rfl, hq16_10_0, hq16_10_1, hq16_10_2, hq16_10_3, hq16_10_4⟩ | ⟨rfl, hq16_11_0, hq16_11_1, hq16_11_2, hq16_11_3, hq16_11_4⟩ | ⟨rfl, hq16_12_0, hq16_12_1, hq16_12_2, hq16_12_3, hq16_12_4, hq16_12_5⟩ | ⟨rfl, hq16_13_0, hq16_13_1, hq16_13_2, hq16_13_3, hq16_13_4, hq16_13_5⟩
          · exact absurd hq16_0_1 (by intro hz; have := own_i1; have := own_i7; simp only [Int32.lt_iff_toInt_lt, ← Int32.toInt_inj] at hz hq9_1_0 hq9_1_1; omega)
          · have pre18 : ∀ t, own_S p e below m T16 106 #[lvI p0_, lvI p1_, lvI p2_, lvI ((p0_ &&& (2147483647 : Int32)) % (5 : Int32)), lvR w_GET, lvI ((p2_ &&& (7 : Int32)) - (1 : Int32))] [(.int (1 : Int32))] t → G t := by
              intro t kt
              refine pre1 t ?_
              show own_S p e below m s₁ 8 #[lvI p0_, lvI p1_, lvI p2_, lvI ((p0_ &&& (2147483647 : Int32)) % (5 : Int32)), .unset, .unset] [(.int ((p0_ &&& (2147483647 : Int32)) % (5 : Int32)))] _
              refine XS.ifNo X0.here hx rfl (hb hby at_8) rfl ((if0 _ _).trans (teq hc2).2) ?_
              show own_S p e below m s₁ 11 #[lvI p0_, lvI p1_, lvI p2_, lvI ((p0_ &&& (2147483647 : Int32)) % (5 : Int32)), .unset, .unset] [] _
              refine st3 _ ?_
              refine XS.astore X3.here hx rfl (hb hby at_14) rfl rfl (l' := #[lvI p0_, lvI p1_, lvI p2_, lvI ((p0_ &&& (2147483647 : Int32)) % (5 : Int32)), lvR w_GET, .unset]) rfl ?_
              refine XS.goto X3.here hx rfl (pc0 := 16) (pc' := 63) rfl (hb hby at_16) (by decide) (by decide) ?_
              refine XS.iloadN X3.here hx rfl (hb hby at_63) rfl ?_
              refine XS.bipush X3.here hx rfl (hb hby at_64) ?_
              refine XS.iand X3.here hx rfl (hb hby at_66) rfl ?_
              show own_S p e below m T3 67 #[lvI p0_, lvI p1_, lvI p2_, lvI ((p0_ &&& (2147483647 : Int32)) % (5 : Int32)), lvR w_GET, .unset] [(.int (p2_ &&& (7 : Int32)))] _
              refine XS.iconst X3.here hx rfl (hb hby at_67) ?_
              refine XS.isub X3.here hx rfl (hb hby at_68) rfl ?_
              refine XS.istore X3.here hx rfl (hb hby at_69) rfl (l' := #[lvI p0_, lvI p1_, lvI p2_, lvI ((p0_ &&& (2147483647 : Int32)) % (5 : Int32)), lvR w_GET, lvI ((p2_ &&& (7 : Int32)) - (1 : Int32))]) rfl ?_
              refine XS.aload X3.here hx rfl (hb hby at_71) rfl rfl ?_
              refine XS.iloadN X3.here hx rfl (hb hby at_73) rfl ?_
              show own_S p e below m T3 74 #[lvI p0_, lvI p1_, lvI p2_, lvI ((p0_ &&& (2147483647 : Int32)) % (5 : Int32)), lvR w_GET, lvI ((p2_ &&& (7 : Int32)) - (1 : Int32))] [(.int p1_), (.ref w_GET)] _
              refine st4.trans ?_
              refine XS.iloadN X4.here hx rfl (hb hby at_77) rfl ?_
              refine XS.iloadN X4.here hx rfl (hb hby at_78) rfl ?_
              show own_S p e below m T4 79 #[lvI p0_, lvI p1_, lvI p2_, lvI ((p0_ &&& (2147483647 : Int32)) % (5 : Int32)), lvR w_GET, lvI ((p2_ &&& (7 : Int32)) - (1 : Int32))] [(.int p1_), (.int ((p0_ &&& (2147483647 : Int32)) % (5 : Int32))), (.int (0 : Int32))] _
              refine st7 _ ?_
              show own_S p e below m T7 82 #[lvI p0_, lvI p1_, lvI p2_, lvI ((p0_ &&& (2147483647 : Int32)) % (5 : Int32)), lvR w_GET, lvI ((p2_ &&& (7 : Int32)) - (1 : Int32))] [(.int (0 : Int32)), (.int (0 : Int32))] _
              refine XS.icmpNo X7.here hx rfl (hb hby at_82) rfl (teq (by decide : (0 : Int32) = (0 : Int32))).2 ?_
              refine XS.aload X7.here hx rfl (hb hby at_85) rfl rfl ?_
              refine XS.iload X7.here hx rfl (hb hby at_87) rfl ?_
              show own_S p e below m T7 89 #[lvI p0_, lvI p1_, lvI p2_, lvI ((p0_ &&& (2147483647 : Int32)) % (5 : Int32)), lvR w_GET, lvI ((p2_ &&& (7 : Int32)) - (1 : Int32))] [(.int ((p2_ &&& (7 : Int32)) - (1 : Int32))), (.ref w_GET)] _
              refine st9.trans ?_
              refine XS.iloadN X9.here hx rfl (hb hby at_92) rfl ?_
              refine XS.iload X9.here hx rfl (hb hby at_93) rfl ?_
              show own_S p e below m T9 95 #[lvI p0_, lvI p1_, lvI p2_, lvI ((p0_ &&& (2147483647 : Int32)) % (5 : Int32)), lvR w_GET, lvI ((p2_ &&& (7 : Int32)) - (1 : Int32))] [(.int ((p2_ &&& (7 : Int32)) - (1 : Int32))), (.int ((p0_ &&& (2147483647 : Int32)) % (5 : Int32))), (.int (0 : Int32))] _
              refine st16 _ ?_
              show own_S p e below m T16 98 #[lvI p0_, lvI p1_, lvI p2_, lvI ((p0_ &&& (2147483647 : Int32)) % (5 : Int32)), lvR w_GET, lvI ((p2_ &&& (7 : Int32)) - (1 : Int32))] [(.int (0 : Int32)), (.int (0 : Int32))] _
              refine XS.icmpNo X16.here hx rfl (hb hby at_98) rfl (teq (by decide : (0 : Int32) = (0 : Int32))).2 ?_
              refine XS.iconst X16.here hx rfl (hb hby at_101) ?_
              refine XS.goto X16.here hx rfl (pc0 := 102) (pc' := 106) rfl (hb hby at_102) (by decide) (by decide) ?_
              exact kt
            obtain ⟨fs, hr, hrun, hended, hW, hsame⟩ := X16.leave (v := some (.int (1 : Int32))) (fun h => by rw [Bd.returns] at h; cases h)
            refine ⟨_, _, hG _ (pre18 _ (retN X16 hx (t := .boolean) Bd.returns (by simp) (hb hby at_106) hr)), hrun, hended, _, _, rfl, ?_, ⟨_, rfl⟩, hW, hsame.mono (by decide) (by decide)⟩
            show QLaw Z p0_ p1_ p2_ w_GET w_SET w_DEL w_VDEL w_KEYNOTIFY h0 n0 _ T16.heap _
            rw [e16']
            exact ⟨rfl, N17⟩
          · exact absurd hq16_2_1 (by intro hz; have := own_i0; have := own_i2; have := own_j2147483647; have := own_i5; simp only [Int32.lt_iff_toInt_lt, ← Int32.toInt_inj] at hz hq7_1_0 hq16_2_0; omega)
          · exact absurd hq16_3_1 (by intro hz; have := own_i0; have := own_i2; have := own_j2147483647; have := own_i5; simp only [Int32.lt_iff_toInt_lt, ← Int32.toInt_inj] at hz hq7_1_0 hq16_3_0; omega)
          · exact absurd hq16_4_2 (by intro hz; have := own_i0; have := own_i1; have := own_i2; have := own_j2147483647; have := own_i5; simp only [Int32.lt_iff_toInt_lt, ← Int32.toInt_inj] at hz hq7_1_0 hq16_4_0 hq16_4_1; omega)
          · exact absurd hq16_5_2 (by intro hz; have := own_i0; have := own_i1; have := own_i2; have := own_j2147483647; have := own_i5; simp only [Int32.lt_iff_toInt_lt, ← Int32.toInt_inj] at hz hq7_1_0 hq16_5_0 hq16_5_1; omega)
          · exact absurd hq16_6_2 (by intro hz; have := own_i0; have := own_i1; have := own_i2; have := own_j2147483647; have := own_i5; simp only [Int32.lt_iff_toInt_lt, ← Int32.toInt_inj] at hz hq7_1_0 hq16_6_0 hq16_6_1; omega)
          · exact absurd hq16_7_2 (by intro hz; have := own_i0; have := own_i1; have := own_i2; have := own_j2147483647; have := own_i5; simp only [Int32.lt_iff_toInt_lt, ← Int32.toInt_inj] at hz hq7_1_0 hq16_7_0 hq16_7_1; omega)
          · exact absurd hq16_8_2 (by intro hz; have := own_i0; have := own_i1; have := own_i2; have := own_j2147483647; have := own_i5; simp only [Int32.lt_iff_toInt_lt, ← Int32.toInt_inj] at hz hq7_1_0 hq16_8_0 hq16_8_1; omega)
          · exact absurd hq16_9_3 (by intro hz; have := own_i0; have := own_i1; have := own_i2; have := own_j2147483647; have := own_i3; have := own_i5; simp only [Int32.lt_iff_toInt_lt, ← Int32.toInt_inj] at hz hq7_1_0 hq16_9_0 hq16_9_1 hq16_9_2; omega)
          · exact absurd hq16_10_3 (by intro hz; have := own_i0; have := own_i1; have := own_i2; have := own_j2147483647; have := own_i3; have := own_i5; simp only [Int32.lt_iff_toInt_lt, ← Int32.toInt_inj] at hz hq7_1_0 hq16_10_0 hq16_10_1 hq16_10_2; omega)
          · exact absurd (by apply Decidable.by_contra; intro hz; have := own_i0; have := own_j2147483647; have := own_i5; simp only [Int32.lt_iff_toInt_lt, ← Int32.toInt_inj] at hz hq7_1_0; omega) hq16_11_0
          · exact absurd (by apply Decidable.by_contra; intro hz; have := own_i0; have := own_j2147483647; have := own_i5; simp only [Int32.lt_iff_toInt_lt, ← Int32.toInt_inj] at hz hq7_1_0; omega) hq16_12_0
          · exact absurd (by apply Decidable.by_contra; intro hz; have := own_i0; have := own_j2147483647; have := own_i5; simp only [Int32.lt_iff_toInt_lt, ← Int32.toInt_inj] at hz hq7_1_0; omega) hq16_13_0
        · obtain ⟨_, _, ⟨T20, L20, k20, n20⟩, -, X20, ⟨Lc20, hQ20, l20, y20, z20⟩, st20⟩ := Jvm.LawKit.callS X9 hx (y := (⟨"com/example/fawley/fawley/protocol/CommandTakesPinLaw", "expected", "(II)Z"⟩ : MethodName)) hown (mvT hZ (own_w hw 13 rfl)) (mvT hZ (own_w hw 14 rfl)) (mvT hZ (own_w hw 15 rfl)) (mvT hZ (own_w hw 16 rfl)) (by decide) (backOf (W := 1) (rmExp l Z a0 hw [] ((p0_ &&& (2147483647 : Int32)) % (5 : Int32)) ((p2_ &&& (7 : Int32)) - (1 : Int32)) h0 n0 O0 ) hZ (own_w hw 16 rfl) (own_w hw 15 rfl) (by decide) (by decide)) (g := (mkF m 95 #[lvI p0_, lvI p1_, lvI p2_, lvI ((p0_ &&& (2147483647 : Int32)) % (5 : Int32)), lvR w_GET, lvI ((p2_ &&& (7 : Int32)) - (1 : Int32))] [(.int ((p2_ &&& (7 : Int32)) - (1 : Int32))), (.int ((p0_ &&& (2147483647 : Int32)) % (5 : Int32))), (.int (1 : Int32))])) rfl (by rw [hml]; rfl) (argsL := [(.int ((p0_ &&& (2147483647 : Int32)) % (5 : Int32))), (.int ((p2_ &&& (7 : Int32)) - (1 : Int32)))]) (rest := [(.int (1 : Int32))]) (lenOf pd_1 rfl) rfl (by show 2 * 0 + _ ≤ _; exact Nat.le_of_eq rfl) (hb hby at_95) (fun _ _ => ⟨rfl, e9', (by decide : 0 + 0 ≤ _), (by decide : 0 + 0 ≤ _)⟩)
          dsimp only [Pt.U, Pt.locs, Pt.cells, Pt.slots] at X20 l20 y20 z20 st20 hQ20
          subst l20 y20 z20
          obtain ⟨h20, e20⟩ : ∃ z, T20.heap = z := ⟨_, rfl⟩
          rw [e20] at hQ20
          obtain ⟨rr20, rfl, hs20, N20q, hh20⟩ := hQ20
          have N21 := Fr.app N11 N20q
          have e20' : T20.heap = h0 := e20.trans hh20
          rcases hs20 with ⟨rfl, hq20_0_0, hq20_0_1⟩ | ⟨rfl, hq20_1_0, hq20_1_1⟩ | ⟨rfl, hq20_2_0, hq20_2_1, hq20_2_2⟩ | ⟨rfl, hq20_3_0, hq20_3_1, hq20_3_2⟩ | ⟨rfl, hq20_4_0, hq20_4_1, hq20_4_2, hq20_4_3⟩ | ⟨rfl, hq20_5_0, hq20_5_1, hq20_5_2, hq20_5_3, hq20_5_4⟩ | ⟨rfl, hq20_6_0, hq20_6_1, hq20_6_2, hq20_6_3, hq20_6_4, hq20_6_5⟩ | ⟨rfl, hq20_7_0, hq20_7_1, hq20_7_2, hq20_7_3, hq20_7_4, hq20_7_5, hq20_7_6⟩ | ⟨rfl, hq20_8_0, hq20_8_1, hq20_8_2, hq20_8_3, hq20_8_4, hq20_8_5, hq20_8_6⟩ | ⟨rfl, hq20_9_0, hq20_9_1, hq20_9_2, hq20_9_3, hq20_9_4⟩ | ⟨rfl, hq20_10_0, hq20_10_1, hq20_10_2, hq20_10_3, hq20_10_4⟩ | ⟨rfl, hq20_11_0, hq20_11_1, hq20_11_2, hq20_11_3, hq20_11_4⟩ | ⟨rfl, hq20_12_0, hq20_12_1, hq20_12_2, hq20_12_3, hq20_12_4, hq20_12_5⟩ | ⟨rfl, hq20_13_0, hq20_13_1, hq20_13_2, hq20_13_3, hq20_13_4, hq20_13_5⟩
          · have pre22 : ∀ t, own_S p e below m T20 106 #[lvI p0_, lvI p1_, lvI p2_, lvI ((p0_ &&& (2147483647 : Int32)) % (5 : Int32)), lvR w_GET, lvI ((p2_ &&& (7 : Int32)) - (1 : Int32))] [(.int (1 : Int32))] t → G t := by
              intro t kt
              refine pre1 t ?_
              show own_S p e below m s₁ 8 #[lvI p0_, lvI p1_, lvI p2_, lvI ((p0_ &&& (2147483647 : Int32)) % (5 : Int32)), .unset, .unset] [(.int ((p0_ &&& (2147483647 : Int32)) % (5 : Int32)))] _
              refine XS.ifNo X0.here hx rfl (hb hby at_8) rfl ((if0 _ _).trans (teq hc2).2) ?_
              show own_S p e below m s₁ 11 #[lvI p0_, lvI p1_, lvI p2_, lvI ((p0_ &&& (2147483647 : Int32)) % (5 : Int32)), .unset, .unset] [] _
              refine st3 _ ?_
              refine XS.astore X3.here hx rfl (hb hby at_14) rfl rfl (l' := #[lvI p0_, lvI p1_, lvI p2_, lvI ((p0_ &&& (2147483647 : Int32)) % (5 : Int32)), lvR w_GET, .unset]) rfl ?_
              refine XS.goto X3.here hx rfl (pc0 := 16) (pc' := 63) rfl (hb hby at_16) (by decide) (by decide) ?_
              refine XS.iloadN X3.here hx rfl (hb hby at_63) rfl ?_
              refine XS.bipush X3.here hx rfl (hb hby at_64) ?_
              refine XS.iand X3.here hx rfl (hb hby at_66) rfl ?_
              show own_S p e below m T3 67 #[lvI p0_, lvI p1_, lvI p2_, lvI ((p0_ &&& (2147483647 : Int32)) % (5 : Int32)), lvR w_GET, .unset] [(.int (p2_ &&& (7 : Int32)))] _
              refine XS.iconst X3.here hx rfl (hb hby at_67) ?_
              refine XS.isub X3.here hx rfl (hb hby at_68) rfl ?_
              refine XS.istore X3.here hx rfl (hb hby at_69) rfl (l' := #[lvI p0_, lvI p1_, lvI p2_, lvI ((p0_ &&& (2147483647 : Int32)) % (5 : Int32)), lvR w_GET, lvI ((p2_ &&& (7 : Int32)) - (1 : Int32))]) rfl ?_
              refine XS.aload X3.here hx rfl (hb hby at_71) rfl rfl ?_
              refine XS.iloadN X3.here hx rfl (hb hby at_73) rfl ?_
              show own_S p e below m T3 74 #[lvI p0_, lvI p1_, lvI p2_, lvI ((p0_ &&& (2147483647 : Int32)) % (5 : Int32)), lvR w_GET, lvI ((p2_ &&& (7 : Int32)) - (1 : Int32))] [(.int p1_), (.ref w_GET)] _
              refine st4.trans ?_
              refine XS.iloadN X4.here hx rfl (hb hby at_77) rfl ?_
              refine XS.iloadN X4.here hx rfl (hb hby at_78) rfl ?_
              show own_S p e below m T4 79 #[lvI p0_, lvI p1_, lvI p2_, lvI ((p0_ &&& (2147483647 : Int32)) % (5 : Int32)), lvR w_GET, lvI ((p2_ &&& (7 : Int32)) - (1 : Int32))] [(.int p1_), (.int ((p0_ &&& (2147483647 : Int32)) % (5 : Int32))), (.int (0 : Int32))] _
              refine st7 _ ?_
              show own_S p e below m T7 82 #[lvI p0_, lvI p1_, lvI p2_, lvI ((p0_ &&& (2147483647 : Int32)) % (5 : Int32)), lvR w_GET, lvI ((p2_ &&& (7 : Int32)) - (1 : Int32))] [(.int (0 : Int32)), (.int (0 : Int32))] _
              refine XS.icmpNo X7.here hx rfl (hb hby at_82) rfl (teq (by decide : (0 : Int32) = (0 : Int32))).2 ?_
              refine XS.aload X7.here hx rfl (hb hby at_85) rfl rfl ?_
              refine XS.iload X7.here hx rfl (hb hby at_87) rfl ?_
              show own_S p e below m T7 89 #[lvI p0_, lvI p1_, lvI p2_, lvI ((p0_ &&& (2147483647 : Int32)) % (5 : Int32)), lvR w_GET, lvI ((p2_ &&& (7 : Int32)) - (1 : Int32))] [(.int ((p2_ &&& (7 : Int32)) - (1 : Int32))), (.ref w_GET)] _
              refine st9.trans ?_
              refine XS.iloadN X9.here hx rfl (hb hby at_92) rfl ?_
              refine XS.iload X9.here hx rfl (hb hby at_93) rfl ?_
              show own_S p e below m T9 95 #[lvI p0_, lvI p1_, lvI p2_, lvI ((p0_ &&& (2147483647 : Int32)) % (5 : Int32)), lvR w_GET, lvI ((p2_ &&& (7 : Int32)) - (1 : Int32))] [(.int ((p2_ &&& (7 : Int32)) - (1 : Int32))), (.int ((p0_ &&& (2147483647 : Int32)) % (5 : Int32))), (.int (1 : Int32))] _
              refine st20 _ ?_
              show own_S p e below m T20 98 #[lvI p0_, lvI p1_, lvI p2_, lvI ((p0_ &&& (2147483647 : Int32)) % (5 : Int32)), lvR w_GET, lvI ((p2_ &&& (7 : Int32)) - (1 : Int32))] [(.int (1 : Int32)), (.int (1 : Int32))] _
              refine XS.icmpNo X20.here hx rfl (hb hby at_98) rfl (teq (by decide : (1 : Int32) = (1 : Int32))).2 ?_
              refine XS.iconst X20.here hx rfl (hb hby at_101) ?_
              refine XS.goto X20.here hx rfl (pc0 := 102) (pc' := 106) rfl (hb hby at_102) (by decide) (by decide) ?_
              exact kt
            obtain ⟨fs, hr, hrun, hended, hW, hsame⟩ := X20.leave (v := some (.int (1 : Int32))) (fun h => by rw [Bd.returns] at h; cases h)
            refine ⟨_, _, hG _ (pre22 _ (retN X20 hx (t := .boolean) Bd.returns (by simp) (hb hby at_106) hr)), hrun, hended, _, _, rfl, ?_, ⟨_, rfl⟩, hW, hsame.mono (by decide) (by decide)⟩
            show QLaw Z p0_ p1_ p2_ w_GET w_SET w_DEL w_VDEL w_KEYNOTIFY h0 n0 _ T20.heap _
            rw [e20']
            exact ⟨rfl, N21⟩
          · exact absurd (by apply Decidable.by_contra; intro hz; have := own_i1; have := own_i7; simp only [Int32.lt_iff_toInt_lt, ← Int32.toInt_inj] at hz hq9_2_0 hq9_2_1; omega) hq20_1_1
          · exact absurd hq20_2_1 (by intro hz; have := own_i0; have := own_i2; have := own_j2147483647; have := own_i5; simp only [Int32.lt_iff_toInt_lt, ← Int32.toInt_inj] at hz hq7_1_0 hq20_2_0; omega)
          · exact absurd hq20_3_1 (by intro hz; have := own_i0; have := own_i2; have := own_j2147483647; have := own_i5; simp only [Int32.lt_iff_toInt_lt, ← Int32.toInt_inj] at hz hq7_1_0 hq20_3_0; omega)
          · exact absurd hq20_4_2 (by intro hz; have := own_i0; have := own_i1; have := own_i2; have := own_j2147483647; have := own_i5; simp only [Int32.lt_iff_toInt_lt, ← Int32.toInt_inj] at hz hq7_1_0 hq20_4_0 hq20_4_1; omega)
          · exact absurd hq20_5_2 (by intro hz; have := own_i0; have := own_i1; have := own_i2; have := own_j2147483647; have := own_i5; simp only [Int32.lt_iff_toInt_lt, ← Int32.toInt_inj] at hz hq7_1_0 hq20_5_0 hq20_5_1; omega)
          · exact absurd hq20_6_2 (by intro hz; have := own_i0; have := own_i1; have := own_i2; have := own_j2147483647; have := own_i5; simp only [Int32.lt_iff_toInt_lt, ← Int32.toInt_inj] at hz hq7_1_0 hq20_6_0 hq20_6_1; omega)
          · exact absurd hq20_7_2 (by intro hz; have := own_i0; have := own_i1; have := own_i2; have := own_j2147483647; have := own_i5; simp only [Int32.lt_iff_toInt_lt, ← Int32.toInt_inj] at hz hq7_1_0 hq20_7_0 hq20_7_1; omega)
          · exact absurd hq20_8_2 (by intro hz; have := own_i0; have := own_i1; have := own_i2; have := own_j2147483647; have := own_i5; simp only [Int32.lt_iff_toInt_lt, ← Int32.toInt_inj] at hz hq7_1_0 hq20_8_0 hq20_8_1; omega)
          · exact absurd hq20_9_3 (by intro hz; have := own_i0; have := own_i1; have := own_i2; have := own_j2147483647; have := own_i3; have := own_i5; simp only [Int32.lt_iff_toInt_lt, ← Int32.toInt_inj] at hz hq7_1_0 hq20_9_0 hq20_9_1 hq20_9_2; omega)
          · exact absurd hq20_10_3 (by intro hz; have := own_i0; have := own_i1; have := own_i2; have := own_j2147483647; have := own_i3; have := own_i5; simp only [Int32.lt_iff_toInt_lt, ← Int32.toInt_inj] at hz hq7_1_0 hq20_10_0 hq20_10_1 hq20_10_2; omega)
          · exact absurd (by apply Decidable.by_contra; intro hz; have := own_i0; have := own_j2147483647; have := own_i5; simp only [Int32.lt_iff_toInt_lt, ← Int32.toInt_inj] at hz hq7_1_0; omega) hq20_11_0
          · exact absurd (by apply Decidable.by_contra; intro hz; have := own_i0; have := own_j2147483647; have := own_i5; simp only [Int32.lt_iff_toInt_lt, ← Int32.toInt_inj] at hz hq7_1_0; omega) hq20_12_0
          · exact absurd (by apply Decidable.by_contra; intro hz; have := own_i0; have := own_j2147483647; have := own_i5; simp only [Int32.lt_iff_toInt_lt, ← Int32.toInt_inj] at hz hq7_1_0; omega) hq20_13_0
      · exact absurd hq7_2_1 (by intro hz; have := own_i0; have := own_i2; have := own_j2147483647; have := own_i5; simp only [Int32.lt_iff_toInt_lt, ← Int32.toInt_inj] at hz hc2 hq7_2_0; omega)
      · exact absurd hq7_3_1 (by intro hz; have := own_i0; have := own_i2; have := own_j2147483647; have := own_i5; simp only [Int32.lt_iff_toInt_lt, ← Int32.toInt_inj] at hz hc2 hq7_3_0; omega)
      · exact absurd hq7_4_2 (by intro hz; have := own_i0; have := own_i1; have := own_i2; have := own_j2147483647; have := own_i5; simp only [Int32.lt_iff_toInt_lt, ← Int32.toInt_inj] at hz hc2 hq7_4_0 hq7_4_1; omega)
      · exact absurd hq7_5_2 (by intro hz; have := own_i0; have := own_i1; have := own_i2; have := own_j2147483647; have := own_i5; simp only [Int32.lt_iff_toInt_lt, ← Int32.toInt_inj] at hz hc2 hq7_5_0 hq7_5_1; omega)
      · exact absurd hq7_6_2 (by intro hz; have := own_i0; have := own_i1; have := own_i2; have := own_j2147483647; have := own_i5; simp only [Int32.lt_iff_toInt_lt, ← Int32.toInt_inj] at hz hc2 hq7_6_0 hq7_6_1; omega)
      · exact absurd hq7_7_2 (by intro hz; have := own_i0; have := own_i1; have := own_i2; have := own_j2147483647; have := own_i5; simp only [Int32.lt_iff_toInt_lt, ← Int32.toInt_inj] at hz hc2 hq7_7_0 hq7_7_1; omega)
      · exact absurd hq7_8_2 (by intro hz; have := own_i0; have := own_i1; have := own_i2; have := own_j2147483647; have := own_i5; simp only [Int32.lt_iff_toInt_lt, ← Int32.toInt_inj] at hz hc2 hq7_8_0 hq7_8_1; omega)
      · exact absurd hq7_9_3 (by intro hz; have := own_i0; have := own_i1; have := own_i2; have := own_j2147483647; have := own_i3; have := own_i5; simp only [Int32.lt_iff_toInt_lt, ← Int32.toInt_inj] at hz hc2 hq7_9_0 hq7_9_1 hq7_9_2; omega)
      · exact absurd hq7_10_3 (by intro hz; have := own_i0; have := own_i1; have := own_i2; have := own_j2147483647; have := own_i3; have := own_i5; simp only [Int32.lt_iff_toInt_lt, ← Int32.toInt_inj] at hz hc2 hq7_10_0 hq7_10_1 hq7_10_2; omega)
      · exact absurd (by apply Decidable.by_contra; intro hz; have := own_i0; have := own_j2147483647; have := own_i5; simp only [Int32.lt_iff_toInt_lt, ← Int32.toInt_inj] at hz hc2; omega) hq7_11_0
      · exact absurd (by apply Decidable.by_contra; intro hz; have := own_i0; have := own_j2147483647; have := own_i5; simp only [Int32.lt_iff_toInt_lt, ← Int32.toInt_inj] at hz hc2; omega) hq7_12_0
      · exact absurd (by apply Decidable.by_contra; intro hz; have := own_i0; have := own_j2147483647; have := own_i5; simp only [Int32.lt_iff_toInt_lt, ← Int32.toInt_inj] at hz hc2; omega) hq7_13_0
    · obtain ⟨_, _, ⟨T24, L24, k24, n24⟩, -, X24, ⟨Lc24, hQ24, l24, y24, z24⟩, st24⟩ := Jvm.LawKit.callS X4 hx (y := (⟨"com/example/fawley/fawley/protocol/CommandTakesPinLaw", "expected", "(II)Z"⟩ : MethodName)) hown (mvT hZ (own_w hw 13 rfl)) (mvT hZ (own_w hw 14 rfl)) (mvT hZ (own_w hw 15 rfl)) (mvT hZ (own_w hw 16 rfl)) (by decide) (backOf (W := 1) (rmExp l Z a0 hw [] ((p0_ &&& (2147483647 : Int32)) % (5 : Int32)) p1_ h0 n0 O0 ) hZ (own_w hw 16 rfl) (own_w hw 15 rfl) (by decide) (by decide)) (g := (mkF m 79 #[lvI p0_, lvI p1_, lvI p2_, lvI ((p0_ &&& (2147483647 : Int32)) % (5 : Int32)), lvR w_GET, lvI ((p2_ &&& (7 : Int32)) - (1 : Int32))] [(.int p1_), (.int ((p0_ &&& (2147483647 : Int32)) % (5 : Int32))), (.int (0 : Int32))])) rfl (by rw [hml]; rfl) (argsL := [(.int ((p0_ &&& (2147483647 : Int32)) % (5 : Int32))), (.int p1_)]) (rest := [(.int (0 : Int32))]) (lenOf pd_1 rfl) rfl (by show 2 * 0 + _ ≤ _; exact Nat.le_of_eq rfl) (hb hby at_79) (fun _ _ => ⟨rfl, e4', (by decide : 0 + 0 ≤ _), (by decide : 0 + 0 ≤ _)⟩)
      dsimp only [Pt.U, Pt.locs, Pt.cells, Pt.slots] at X24 l24 y24 z24 st24 hQ24
      subst l24 y24 z24
      obtain ⟨h24, e24⟩ : ∃ z, T24.heap = z := ⟨_, rfl⟩
      rw [e24] at hQ24
      obtain ⟨rr24, rfl, hs24, N24q, hh24⟩ := hQ24
      have N25 := Fr.app N6 N24q
      have e24' : T24.heap = h0 := e24.trans hh24
      rcases hs24 with ⟨rfl, hq24_0_0, hq24_0_1⟩ | ⟨rfl, hq24_1_0, hq24_1_1⟩ | ⟨rfl, hq24_2_0, hq24_2_1, hq24_2_2⟩ | ⟨rfl, hq24_3_0, hq24_3_1, hq24_3_2⟩ | ⟨rfl, hq24_4_0, hq24_4_1, hq24_4_2, hq24_4_3⟩ | ⟨rfl, hq24_5_0, hq24_5_1, hq24_5_2, hq24_5_3, hq24_5_4⟩ | ⟨rfl, hq24_6_0, hq24_6_1, hq24_6_2, hq24_6_3, hq24_6_4, hq24_6_5⟩ | ⟨rfl, hq24_7_0, hq24_7_1, hq24_7_2, hq24_7_3, hq24_7_4, hq24_7_5, hq24_7_6⟩ | ⟨rfl, hq24_8_0, hq24_8_1, hq24_8_2, hq24_8_3, hq24_8_4, hq24_8_5, hq24_8_6⟩ | ⟨rfl, hq24_9_0, hq24_9_1, hq24_9_2, hq24_9_3, hq24_9_4⟩ | ⟨rfl, hq24_10_0, hq24_10_1, hq24_10_2, hq24_10_3, hq24_10_4⟩ | ⟨rfl, hq24_11_0, hq24_11_1, hq24_11_2, hq24_11_3, hq24_11_4⟩ | ⟨rfl, hq24_12_0, hq24_12_1, hq24_12_2, hq24_12_3, hq24_12_4, hq24_12_5⟩ | ⟨rfl, hq24_13_0, hq24_13_1, hq24_13_2, hq24_13_3, hq24_13_4, hq24_13_5⟩
      · exact absurd hq24_0_1 (by intro hz; have := own_i1; simp only [Int32.lt_iff_toInt_lt, ← Int32.toInt_inj] at hz hq4_1_0 hq4_1_1; omega)
      · have f27 : Exa Z h0 w_GET cn0 := P1.ext O0.2
        obtain ⟨cq26, kq26, q26a, q26b, q26c⟩ := isOf hZ e24' f27
        obtain ⟨_, _, ⟨T26, L26, k26, n26⟩, -, X26, ⟨Lc26, hQ26, l26, y26, z26⟩, st26⟩ := X24.virtualBack hx (y := (⟨"com/example/fawley/fawley/protocol/Command", "takes", "(I)Z"⟩ : MethodName)) (z := (⟨"com/example/fawley/fawley/protocol/Command", "takes", "(I)Z"⟩ : MethodName)) hown (mvT hZ (own_w hw 4 rfl)) (mvT hZ (own_w hw 5 rfl)) (notFace_of_selects (args := #[]) (mvT hZ (own_w hw 7 rfl))) (mvT hZ (own_w hw 7 rfl)) (mvT hZ (own_w hw 6 rfl)) (by decide) (backOf (W := 0) (rmTak l Z a0 hw [] w_GET ((p2_ &&& (7 : Int32)) - (1 : Int32)) (1 : Int32) (1 : Int32) h0 n0 O0 P2 P3) hZ (own_w hw 8 rfl) (own_w hw 2 rfl) (by decide) (by decide)) q26a q26c (g := (mkF m 89 #[lvI p0_, lvI p1_, lvI p2_, lvI ((p0_ &&& (2147483647 : Int32)) % (5 : Int32)), lvR w_GET, lvI ((p2_ &&& (7 : Int32)) - (1 : Int32))] [(.int ((p2_ &&& (7 : Int32)) - (1 : Int32))), (.ref w_GET)])) rfl (by rw [hml]; rfl) (Steps.refl _) (argsL := [(.int ((p2_ &&& (7 : Int32)) - (1 : Int32)))]) (rest := []) (lenOf pd_0 rfl) rfl (by show 2 * 0 + _ ≤ _; exact Nat.le_of_eq rfl) (hb hby at_89) (fun _ _ => ⟨rfl, e24', (by decide : 0 + 0 ≤ _), (by decide : 0 + 0 ≤ _)⟩)
        dsimp only [Pt.U, Pt.locs, Pt.cells, Pt.slots] at X26 l26 y26 z26 st26 hQ26
        subst l26 y26 z26
        obtain ⟨h26, e26⟩ : ∃ z, T26.heap = z := ⟨_, rfl⟩
        rw [e26] at hQ26
        obtain ⟨rr26, rfl, hs26, N26q, hh26⟩ := hQ26
        have N28 := Fr.app N25 N26q
        have e26' : T26.heap = h0 := e26.trans hh26
        rcases hs26 with ⟨rfl, hq26_0_0⟩ | ⟨rfl, hq26_1_0, hq26_1_1⟩ | ⟨rfl, hq26_2_0, hq26_2_1⟩
        · obtain ⟨_, _, ⟨T29, L29, k29, n29⟩, -, X29, ⟨Lc29, hQ29, l29, y29, z29⟩, st29⟩ := Jvm.LawKit.callS X26 hx (y := (⟨"com/example/fawley/fawley/protocol/CommandTakesPinLaw", "expected", "(II)Z"⟩ : MethodName)) hown (mvT hZ (own_w hw 13 rfl)) (mvT hZ (own_w hw 14 rfl)) (mvT hZ (own_w hw 15 rfl)) (mvT hZ (own_w hw 16 rfl)) (by decide) (backOf (W := 1) (rmExp l Z a0 hw [] ((p0_ &&& (2147483647 : Int32)) % (5 : Int32)) ((p2_ &&& (7 : Int32)) - (1 : Int32)) h0 n0 O0 ) hZ (own_w hw 16 rfl) (own_w hw 15 rfl) (by decide) (by decide)) (g := (mkF m 95 #[lvI p0_, lvI p1_, lvI p2_, lvI ((p0_ &&& (2147483647 : Int32)) % (5 : Int32)), lvR w_GET, lvI ((p2_ &&& (7 : Int32)) - (1 : Int32))] [(.int ((p2_ &&& (7 : Int32)) - (1 : Int32))), (.int ((p0_ &&& (2147483647 : Int32)) % (5 : Int32))), (.int (0 : Int32))])) rfl (by rw [hml]; rfl) (argsL := [(.int ((p0_ &&& (2147483647 : Int32)) % (5 : Int32))), (.int ((p2_ &&& (7 : Int32)) - (1 : Int32)))]) (rest := [(.int (0 : Int32))]) (lenOf pd_1 rfl) rfl (by show 2 * 0 + _ ≤ _; exact Nat.le_of_eq rfl) (hb hby at_95) (fun _ _ => ⟨rfl, e26', (by decide : 0 + 0 ≤ _), (by decide : 0 + 0 ≤ _)⟩)
          dsimp only [Pt.U, Pt.locs, Pt.cells, Pt.slots] at X29 l29 y29 z29 st29 hQ29
          subst l29 y29 z29
          obtain ⟨h29, e29⟩ : ∃ z, T29.heap = z := ⟨_, rfl⟩
          rw [e29] at hQ29
          obtain ⟨rr29, rfl, hs29, N29q, hh29⟩ := hQ29
          have N30 := Fr.app N28 N29q
          have e29' : T29.heap = h0 := e29.trans hh29
          rcases hs29 with ⟨rfl, hq29_0_0, hq29_0_1⟩ | ⟨rfl, hq29_1_0, hq29_1_1⟩ | ⟨rfl, hq29_2_0, hq29_2_1, hq29_2_2⟩ | ⟨rfl, hq29_3_0, hq29_3_1, hq29_3_2⟩ | ⟨rfl, hq29_4_0, hq29_4_1, hq29_4_2, hq29_4_3⟩ | ⟨rfl, hq29_5_0, hq29_5_1, hq29_5_2, hq29_5_3, hq29_5_4⟩ | ⟨rfl, hq29_6_0, hq29_6_1, hq29_6_2, hq29_6_3, hq29_6_4, hq29_6_5⟩ | ⟨rfl, hq29_7_0, hq29_7_1, hq29_7_2, hq29_7_3, hq29_7_4, hq29_7_5, hq29_7_6⟩ | ⟨rfl, hq29_8_0, hq29_8_1, hq29_8_2, hq29_8_3, hq29_8_4, hq29_8_5, hq29_8_6⟩ | ⟨rfl, hq29_9_0, hq29_9_1, hq29_9_2, hq29_9_3, hq29_9_4⟩ | ⟨rfl, hq29_10_0, hq29_10_1, hq29_10_2, hq29_10_3, hq29_10_4⟩ | ⟨rfl, hq29_11_0, hq29_11_1, hq29_11_2, hq29_11_3, hq29_11_4⟩ | ⟨rfl, hq29_12_0, hq29_12_1, hq29_12_2, hq29_12_3, hq29_12_4, hq29_12_5⟩ | ⟨rfl, hq29_13_0, hq29_13_1, hq29_13_2, hq29_13_3, hq29_13_4, hq29_13_5⟩
          · exact absurd hq29_0_1 (by intro hz; have := own_i1; have := own_i7; simp only [Int32.lt_iff_toInt_lt, ← Int32.toInt_inj] at hz hq26_0_0; omega)
          · have pre31 : ∀ t, own_S p e below m T29 106 #[lvI p0_, lvI p1_, lvI p2_, lvI ((p0_ &&& (2147483647 : Int32)) % (5 : Int32)), lvR w_GET, lvI ((p2_ &&& (7 : Int32)) - (1 : Int32))] [(.int (1 : Int32))] t → G t := by
              intro t kt
              refine pre1 t ?_
              show own_S p e below m s₁ 8 #[lvI p0_, lvI p1_, lvI p2_, lvI ((p0_ &&& (2147483647 : Int32)) % (5 : Int32)), .unset, .unset] [(.int ((p0_ &&& (2147483647 : Int32)) % (5 : Int32)))] _
              refine XS.ifNo X0.here hx rfl (hb hby at_8) rfl ((if0 _ _).trans (teq hc2).2) ?_
              show own_S p e below m s₁ 11 #[lvI p0_, lvI p1_, lvI p2_, lvI ((p0_ &&& (2147483647 : Int32)) % (5 : Int32)), .unset, .unset] [] _
              refine st3 _ ?_
              refine XS.astore X3.here hx rfl (hb hby at_14) rfl rfl (l' := #[lvI p0_, lvI p1_, lvI p2_, lvI ((p0_ &&& (2147483647 : Int32)) % (5 : Int32)), lvR w_GET, .unset]) rfl ?_
              refine XS.goto X3.here hx rfl (pc0 := 16) (pc' := 63) rfl (hb hby at_16) (by decide) (by decide) ?_
              refine XS.iloadN X3.here hx rfl (hb hby at_63) rfl ?_
              refine XS.bipush X3.here hx rfl (hb hby at_64) ?_
              refine XS.iand X3.here hx rfl (hb hby at_66) rfl ?_
              show own_S p e below m T3 67 #[lvI p0_, lvI p1_, lvI p2_, lvI ((p0_ &&& (2147483647 : Int32)) % (5 : Int32)), lvR w_GET, .unset] [(.int (p2_ &&& (7 : Int32)))] _
              refine XS.iconst X3.here hx rfl (hb hby at_67) ?_
              refine XS.isub X3.here hx rfl (hb hby at_68) rfl ?_
              refine XS.istore X3.here hx rfl (hb hby at_69) rfl (l' := #[lvI p0_, lvI p1_, lvI p2_, lvI ((p0_ &&& (2147483647 : Int32)) % (5 : Int32)), lvR w_GET, lvI ((p2_ &&& (7 : Int32)) - (1 : Int32))]) rfl ?_
              refine XS.aload X3.here hx rfl (hb hby at_71) rfl rfl ?_
              refine XS.iloadN X3.here hx rfl (hb hby at_73) rfl ?_
              show own_S p e below m T3 74 #[lvI p0_, lvI p1_, lvI p2_, lvI ((p0_ &&& (2147483647 : Int32)) % (5 : Int32)), lvR w_GET, lvI ((p2_ &&& (7 : Int32)) - (1 : Int32))] [(.int p1_), (.ref w_GET)] _
              refine st4.trans ?_
              refine XS.iloadN X4.here hx rfl (hb hby at_77) rfl ?_
              refine XS.iloadN X4.here hx rfl (hb hby at_78) rfl ?_
              show own_S p e below m T4 79 #[lvI p0_, lvI p1_, lvI p2_, lvI ((p0_ &&& (2147483647 : Int32)) % (5 : Int32)), lvR w_GET, lvI ((p2_ &&& (7 : Int32)) - (1 : Int32))] [(.int p1_), (.int ((p0_ &&& (2147483647 : Int32)) % (5 : Int32))), (.int (0 : Int32))] _
              refine st24 _ ?_
              show own_S p e below m T24 82 #[lvI p0_, lvI p1_, lvI p2_, lvI ((p0_ &&& (2147483647 : Int32)) % (5 : Int32)), lvR w_GET, lvI ((p2_ &&& (7 : Int32)) - (1 : Int32))] [(.int (0 : Int32)), (.int (0 : Int32))] _
              refine XS.icmpNo X24.here hx rfl (hb hby at_82) rfl (teq (by decide : (0 : Int32) = (0 : Int32))).2 ?_
              refine XS.aload X24.here hx rfl (hb hby at_85) rfl rfl ?_
              refine XS.iload X24.here hx rfl (hb hby at_87) rfl ?_
              show own_S p e below m T24 89 #[lvI p0_, lvI p1_, lvI p2_, lvI ((p0_ &&& (2147483647 : Int32)) % (5 : Int32)), lvR w_GET, lvI ((p2_ &&& (7 : Int32)) - (1 : Int32))] [(.int ((p2_ &&& (7 : Int32)) - (1 : Int32))), (.ref w_GET)] _
              refine st26.trans ?_
              refine XS.iloadN X26.here hx rfl (hb hby at_92) rfl ?_
              refine XS.iload X26.here hx rfl (hb hby at_93) rfl ?_
              show own_S p e below m T26 95 #[lvI p0_, lvI p1_, lvI p2_, lvI ((p0_ &&& (2147483647 : Int32)) % (5 : Int32)), lvR w_GET, lvI ((p2_ &&& (7 : Int32)) - (1 : Int32))] [(.int ((p2_ &&& (7 : Int32)) - (1 : Int32))), (.int ((p0_ &&& (2147483647 : Int32)) % (5 : Int32))), (.int (0 : Int32))] _
              refine st29 _ ?_
              show own_S p e below m T29 98 #[lvI p0_, lvI p1_, lvI p2_, lvI ((p0_ &&& (2147483647 : Int32)) % (5 : Int32)), lvR w_GET, lvI ((p2_ &&& (7 : Int32)) - (1 : Int32))] [(.int (0 : Int32)), (.int (0 : Int32))] _
              refine XS.icmpNo X29.here hx rfl (hb hby at_98) rfl (teq (by decide : (0 : Int32) = (0 : Int32))).2 ?_
              refine XS.iconst X29.here hx rfl (hb hby at_101) ?_
              refine XS.goto X29.here hx rfl (pc0 := 102) (pc' := 106) rfl (hb hby at_102) (by decide) (by decide) ?_
              exact kt
            obtain ⟨fs, hr, hrun, hended, hW, hsame⟩ := X29.leave (v := some (.int (1 : Int32))) (fun h => by rw [Bd.returns] at h; cases h)
            refine ⟨_, _, hG _ (pre31 _ (retN X29 hx (t := .boolean) Bd.returns (by simp) (hb hby at_106) hr)), hrun, hended, _, _, rfl, ?_, ⟨_, rfl⟩, hW, hsame.mono (by decide) (by decide)⟩
            show QLaw Z p0_ p1_ p2_ w_GET w_SET w_DEL w_VDEL w_KEYNOTIFY h0 n0 _ T29.heap _
            rw [e29']
            exact ⟨rfl, N30⟩
          · exact absurd hq29_2_1 (by intro hz; have := own_i0; have := own_i2; have := own_j2147483647; have := own_i5; simp only [Int32.lt_iff_toInt_lt, ← Int32.toInt_inj] at hz hq24_1_0 hq29_2_0; omega)
          · exact absurd hq29_3_1 (by intro hz; have := own_i0; have := own_i2; have := own_j2147483647; have := own_i5; simp only [Int32.lt_iff_toInt_lt, ← Int32.toInt_inj] at hz hq24_1_0 hq29_3_0; omega)
          · exact absurd hq29_4_2 (by intro hz; have := own_i0; have := own_i1; have := own_i2; have := own_j2147483647; have := own_i5; simp only [Int32.lt_iff_toInt_lt, ← Int32.toInt_inj] at hz hq24_1_0 hq29_4_0 hq29_4_1; omega)
          · exact absurd hq29_5_2 (by intro hz; have := own_i0; have := own_i1; have := own_i2; have := own_j2147483647; have := own_i5; simp only [Int32.lt_iff_toInt_lt, ← Int32.toInt_inj] at hz hq24_1_0 hq29_5_0 hq29_5_1; omega)
          · exact absurd hq29_6_2 (by intro hz; have := own_i0; have := own_i1; have := own_i2; have := own_j2147483647; have := own_i5; simp only [Int32.lt_iff_toInt_lt, ← Int32.toInt_inj] at hz hq24_1_0 hq29_6_0 hq29_6_1; omega)
          · exact absurd hq29_7_2 (by intro hz; have := own_i0; have := own_i1; have := own_i2; have := own_j2147483647; have := own_i5; simp only [Int32.lt_iff_toInt_lt, ← Int32.toInt_inj] at hz hq24_1_0 hq29_7_0 hq29_7_1; omega)
          · exact absurd hq29_8_2 (by intro hz; have := own_i0; have := own_i1; have := own_i2; have := own_j2147483647; have := own_i5; simp only [Int32.lt_iff_toInt_lt, ← Int32.toInt_inj] at hz hq24_1_0 hq29_8_0 hq29_8_1; omega)
          · exact absurd hq29_9_3 (by intro hz; have := own_i0; have := own_i1; have := own_i2; have := own_j2147483647; have := own_i3; have := own_i5; simp only [Int32.lt_iff_toInt_lt, ← Int32.toInt_inj] at hz hq24_1_0 hq29_9_0 hq29_9_1 hq29_9_2; omega)
          · exact absurd hq29_10_3 (by intro hz; have := own_i0; have := own_i1; have := own_i2; have := own_j2147483647; have := own_i3; have := own_i5; simp only [Int32.lt_iff_toInt_lt, ← Int32.toInt_inj] at hz hq24_1_0 hq29_10_0 hq29_10_1 hq29_10_2; omega)
          · exact absurd (by apply Decidable.by_contra; intro hz; have := own_i0; have := own_j2147483647; have := own_i5; simp only [Int32.lt_iff_toInt_lt, ← Int32.toInt_inj] at hz hq24_1_0; omega) hq29_11_0
          · exact absurd (by apply Decidable.by_contra; intro hz; have := own_i0; have := own_j2147483647; have := own_i5; simp only [Int32.lt_iff_toInt_lt, ← Int32.toInt_inj] at hz hq24_1_0; omega) hq29_12_0
          · exact absurd (by apply Decidable.by_contra; intro hz; have := own_i0; have := own_j2147483647; have := own_i5; simp only [Int32.lt_iff_toInt_lt, ← Int32.toInt_inj] at hz hq24_1_0; omega) hq29_13_0
        · obtain ⟨_, _, ⟨T33, L33, k33, n33⟩, -, X33, ⟨Lc33, hQ33, l33, y33, z33⟩, st33⟩ := Jvm.LawKit.callS X26 hx (y := (⟨"com/example/fawley/fawley/protocol/CommandTakesPinLaw", "expected", "(II)Z"⟩ : MethodName)) hown (mvT hZ (own_w hw 13 rfl)) (mvT hZ (own_w hw 14 rfl)) (mvT hZ (own_w hw 15 rfl)) (mvT hZ (own_w hw 16 rfl)) (by decide) (backOf (W := 1) (rmExp l Z a0 hw [] ((p0_ &&& (2147483647 : Int32)) % (5 : Int32)) ((p2_ &&& (7 : Int32)) - (1 : Int32)) h0 n0 O0 ) hZ (own_w hw 16 rfl) (own_w hw 15 rfl) (by decide) (by decide)) (g := (mkF m 95 #[lvI p0_, lvI p1_, lvI p2_, lvI ((p0_ &&& (2147483647 : Int32)) % (5 : Int32)), lvR w_GET, lvI ((p2_ &&& (7 : Int32)) - (1 : Int32))] [(.int ((p2_ &&& (7 : Int32)) - (1 : Int32))), (.int ((p0_ &&& (2147483647 : Int32)) % (5 : Int32))), (.int (0 : Int32))])) rfl (by rw [hml]; rfl) (argsL := [(.int ((p0_ &&& (2147483647 : Int32)) % (5 : Int32))), (.int ((p2_ &&& (7 : Int32)) - (1 : Int32)))]) (rest := [(.int (0 : Int32))]) (lenOf pd_1 rfl) rfl (by show 2 * 0 + _ ≤ _; exact Nat.le_of_eq rfl) (hb hby at_95) (fun _ _ => ⟨rfl, e26', (by decide : 0 + 0 ≤ _), (by decide : 0 + 0 ≤ _)⟩)
          dsimp only [Pt.U, Pt.locs, Pt.cells, Pt.slots] at X33 l33 y33 z33 st33 hQ33
          subst l33 y33 z33
          obtain ⟨h33, e33⟩ : ∃ z, T33.heap = z := ⟨_, rfl⟩
          rw [e33] at hQ33
          obtain ⟨rr33, rfl, hs33, N33q, hh33⟩ := hQ33
          have N34 := Fr.app N28 N33q
          have e33' : T33.heap = h0 := e33.trans hh33
          rcases hs33 with ⟨rfl, hq33_0_0, hq33_0_1⟩ | ⟨rfl, hq33_1_0, hq33_1_1⟩ | ⟨rfl, hq33_2_0, hq33_2_1, hq33_2_2⟩ | ⟨rfl, hq33_3_0, hq33_3_1, hq33_3_2⟩ | ⟨rfl, hq33_4_0, hq33_4_1, hq33_4_2, hq33_4_3⟩ | ⟨rfl, hq33_5_0, hq33_5_1, hq33_5_2, hq33_5_3, hq33_5_4⟩ | ⟨rfl, hq33_6_0, hq33_6_1, hq33_6_2, hq33_6_3, hq33_6_4, hq33_6_5⟩ | ⟨rfl, hq33_7_0, hq33_7_1, hq33_7_2, hq33_7_3, hq33_7_4, hq33_7_5, hq33_7_6⟩ | ⟨rfl, hq33_8_0, hq33_8_1, hq33_8_2, hq33_8_3, hq33_8_4, hq33_8_5, hq33_8_6⟩ | ⟨rfl, hq33_9_0, hq33_9_1, hq33_9_2, hq33_9_3, hq33_9_4⟩ | ⟨rfl, hq33_10_0, hq33_10_1, hq33_10_2, hq33_10_3, hq33_10_4⟩ | ⟨rfl, hq33_11_0, hq33_11_1, hq33_11_2, hq33_11_3, hq33_11_4⟩ | ⟨rfl, hq33_12_0, hq33_12_1, hq33_12_2, hq33_12_3, hq33_12_4, hq33_12_5⟩ | ⟨rfl, hq33_13_0, hq33_13_1, hq33_13_2, hq33_13_3, hq33_13_4, hq33_13_5⟩
          · exact absurd hq33_0_1 (by intro hz; have := own_i1; have := own_i7; simp only [Int32.lt_iff_toInt_lt, ← Int32.toInt_inj] at hz hq26_1_0 hq26_1_1; omega)
          · have pre35 : ∀ t, own_S p e below m T33 106 #[lvI p0_, lvI p1_, lvI p2_, lvI ((p0_ &&& (2147483647 : Int32)) % (5 : Int32)), lvR w_GET, lvI ((p2_ &&& (7 : Int32)) - (1 : Int32))] [(.int (1 : Int32))] t → G t := by
              intro t kt
              refine pre1 t ?_
              show own_S p e below m s₁ 8 #[lvI p0_, lvI p1_, lvI p2_, lvI ((p0_ &&& (2147483647 : Int32)) % (5 : Int32)), .unset, .unset] [(.int ((p0_ &&& (2147483647 : Int32)) % (5 : Int32)))] _
              refine XS.ifNo X0.here hx rfl (hb hby at_8) rfl ((if0 _ _).trans (teq hc2).2) ?_
              show own_S p e below m s₁ 11 #[lvI p0_, lvI p1_, lvI p2_, lvI ((p0_ &&& (2147483647 : Int32)) % (5 : Int32)), .unset, .unset] [] _
              refine st3 _ ?_
              refine XS.astore X3.here hx rfl (hb hby at_14) rfl rfl (l' := #[lvI p0_, lvI p1_, lvI p2_, lvI ((p0_ &&& (2147483647 : Int32)) % (5 : Int32)), lvR w_GET, .unset]) rfl ?_
              refine XS.goto X3.here hx rfl (pc0 := 16) (pc' := 63) rfl (hb hby at_16) (by decide) (by decide) ?_
              refine XS.iloadN X3.here hx rfl (hb hby at_63) rfl ?_
              refine XS.bipush X3.here hx rfl (hb hby at_64) ?_
              refine XS.iand X3.here hx rfl (hb hby at_66) rfl ?_
              show own_S p e below m T3 67 #[lvI p0_, lvI p1_, lvI p2_, lvI ((p0_ &&& (2147483647 : Int32)) % (5 : Int32)), lvR w_GET, .unset] [(.int (p2_ &&& (7 : Int32)))] _
              refine XS.iconst X3.here hx rfl (hb hby at_67) ?_
              refine XS.isub X3.here hx rfl (hb hby at_68) rfl ?_
              refine XS.istore X3.here hx rfl (hb hby at_69) rfl (l' := #[lvI p0_, lvI p1_, lvI p2_, lvI ((p0_ &&& (2147483647 : Int32)) % (5 : Int32)), lvR w_GET, lvI ((p2_ &&& (7 : Int32)) - (1 : Int32))]) rfl ?_
              refine XS.aload X3.here hx rfl (hb hby at_71) rfl rfl ?_
              refine XS.iloadN X3.here hx rfl (hb hby at_73) rfl ?_
              show own_S p e below m T3 74 #[lvI p0_, lvI p1_, lvI p2_, lvI ((p0_ &&& (2147483647 : Int32)) % (5 : Int32)), lvR w_GET, lvI ((p2_ &&& (7 : Int32)) - (1 : Int32))] [(.int p1_), (.ref w_GET)] _
              refine st4.trans ?_
              refine XS.iloadN X4.here hx rfl (hb hby at_77) rfl ?_
              refine XS.iloadN X4.here hx rfl (hb hby at_78) rfl ?_
              show own_S p e below m T4 79 #[lvI p0_, lvI p1_, lvI p2_, lvI ((p0_ &&& (2147483647 : Int32)) % (5 : Int32)), lvR w_GET, lvI ((p2_ &&& (7 : Int32)) - (1 : Int32))] [(.int p1_), (.int ((p0_ &&& (2147483647 : Int32)) % (5 : Int32))), (.int (0 : Int32))] _
              refine st24 _ ?_
              show own_S p e below m T24 82 #[lvI p0_, lvI p1_, lvI p2_, lvI ((p0_ &&& (2147483647 : Int32)) % (5 : Int32)), lvR w_GET, lvI ((p2_ &&& (7 : Int32)) - (1 : Int32))] [(.int (0 : Int32)), (.int (0 : Int32))] _
              refine XS.icmpNo X24.here hx rfl (hb hby at_82) rfl (teq (by decide : (0 : Int32) = (0 : Int32))).2 ?_
              refine XS.aload X24.here hx rfl (hb hby at_85) rfl rfl ?_
              refine XS.iload X24.here hx rfl (hb hby at_87) rfl ?_
              show own_S p e below m T24 89 #[lvI p0_, lvI p1_, lvI p2_, lvI ((p0_ &&& (2147483647 : Int32)) % (5 : Int32)), lvR w_GET, lvI ((p2_ &&& (7 : Int32)) - (1 : Int32))] [(.int ((p2_ &&& (7 : Int32)) - (1 : Int32))), (.ref w_GET)] _
              refine st26.trans ?_
              refine XS.iloadN X26.here hx rfl (hb hby at_92) rfl ?_
              refine XS.iload X26.here hx rfl (hb hby at_93) rfl ?_
              show own_S p e below m T26 95 #[lvI p0_, lvI p1_, lvI p2_, lvI ((p0_ &&& (2147483647 : Int32)) % (5 : Int32)), lvR w_GET, lvI ((p2_ &&& (7 : Int32)) - (1 : Int32))] [(.int ((p2_ &&& (7 : Int32)) - (1 : Int32))), (.int ((p0_ &&& (2147483647 : Int32)) % (5 : Int32))), (.int (0 : Int32))] _
              refine st33 _ ?_
              show own_S p e below m T33 98 #[lvI p0_, lvI p1_, lvI p2_, lvI ((p0_ &&& (2147483647 : Int32)) % (5 : Int32)), lvR w_GET, lvI ((p2_ &&& (7 : Int32)) - (1 : Int32))] [(.int (0 : Int32)), (.int (0 : Int32))] _
              refine XS.icmpNo X33.here hx rfl (hb hby at_98) rfl (teq (by decide : (0 : Int32) = (0 : Int32))).2 ?_
              refine XS.iconst X33.here hx rfl (hb hby at_101) ?_
              refine XS.goto X33.here hx rfl (pc0 := 102) (pc' := 106) rfl (hb hby at_102) (by decide) (by decide) ?_
              exact kt
            obtain ⟨fs, hr, hrun, hended, hW, hsame⟩ := X33.leave (v := some (.int (1 : Int32))) (fun h => by rw [Bd.returns] at h; cases h)
            refine ⟨_, _, hG _ (pre35 _ (retN X33 hx (t := .boolean) Bd.returns (by simp) (hb hby at_106) hr)), hrun, hended, _, _, rfl, ?_, ⟨_, rfl⟩, hW, hsame.mono (by decide) (by decide)⟩
            show QLaw Z p0_ p1_ p2_ w_GET w_SET w_DEL w_VDEL w_KEYNOTIFY h0 n0 _ T33.heap _
            rw [e33']
            exact ⟨rfl, N34⟩
          · exact absurd hq33_2_1 (by intro hz; have := own_i0; have := own_i2; have := own_j2147483647; have := own_i5; simp only [Int32.lt_iff_toInt_lt, ← Int32.toInt_inj] at hz hq24_1_0 hq33_2_0; omega)
          · exact absurd hq33_3_1 (by intro hz; have := own_i0; have := own_i2; have := own_j2147483647; have := own_i5; simp only [Int32.lt_iff_toInt_lt, ← Int32.toInt_inj] at hz hq24_1_0 hq33_3_0; omega)
          · exact absurd hq33_4_2 (by intro hz; have := own_i0; have := own_i1; have := own_i2; have := own_j2147483647; have := own_i5; simp only [Int32.lt_iff_toInt_lt, ← Int32.toInt_inj] at hz hq24_1_0 hq33_4_0 hq33_4_1; omega)
          · exact absurd hq33_5_2 (by intro hz; have := own_i0; have := own_i1; have := own_i2; have := own_j2147483647; have := own_i5; simp only [Int32.lt_iff_toInt_lt, ← Int32.toInt_inj] at hz hq24_1_0 hq33_5_0 hq33_5_1; omega)
          · exact absurd hq33_6_2 (by intro hz; have := own_i0; have := own_i1; have := own_i2; have := own_j2147483647; have := own_i5; simp only [Int32.lt_iff_toInt_lt, ← Int32.toInt_inj] at hz hq24_1_0 hq33_6_0 hq33_6_1; omega)
          · exact absurd hq33_7_2 (by intro hz; have := own_i0; have := own_i1; have := own_i2; have := own_j2147483647; have := own_i5; simp only [Int32.lt_iff_toInt_lt, ← Int32.toInt_inj] at hz hq24_1_0 hq33_7_0 hq33_7_1; omega)
          · exact absurd hq33_8_2 (by intro hz; have := own_i0; have := own_i1; have := own_i2; have := own_j2147483647; have := own_i5; simp only [Int32.lt_iff_toInt_lt, ← Int32.toInt_inj] at hz hq24_1_0 hq33_8_0 hq33_8_1; omega)
          · exact absurd hq33_9_3 (by intro hz; have := own_i0; have := own_i1; have := own_i2; have := own_j2147483647; have := own_i3; have := own_i5; simp only [Int32.lt_iff_toInt_lt, ← Int32.toInt_inj] at hz hq24_1_0 hq33_9_0 hq33_9_1 hq33_9_2; omega)
          · exact absurd hq33_10_3 (by intro hz; have := own_i0; have := own_i1; have := own_i2; have := own_j2147483647; have := own_i3; have := own_i5; simp only [Int32.lt_iff_toInt_lt, ← Int32.toInt_inj] at hz hq24_1_0 hq33_10_0 hq33_10_1 hq33_10_2; omega)
          · exact absurd (by apply Decidable.by_contra; intro hz; have := own_i0; have := own_j2147483647; have := own_i5; simp only [Int32.lt_iff_toInt_lt, ← Int32.toInt_inj] at hz hq24_1_0; omega) hq33_11_0
          · exact absurd (by apply Decidable.by_contra; intro hz; have := own_i0; have := own_j2147483647; have := own_i5; simp only [Int32.lt_iff_toInt_lt, ← Int32.toInt_inj] at hz hq24_1_0; omega) hq33_12_0
          · exact absurd (by apply Decidable.by_contra; intro hz; have := own_i0; have := own_j2147483647; have := own_i5; simp only [Int32.lt_iff_toInt_lt, ← Int32.toInt_inj] at hz hq24_1_0; omega) hq33_13_0
        · obtain ⟨_, _, ⟨T37, L37, k37, n37⟩, -, X37, ⟨Lc37, hQ37, l37, y37, z37⟩, st37⟩ := Jvm.LawKit.callS X26 hx (y := (⟨"com/example/fawley/fawley/protocol/CommandTakesPinLaw", "expected", "(II)Z"⟩ : MethodName)) hown (mvT hZ (own_w hw 13 rfl)) (mvT hZ (own_w hw 14 rfl)) (mvT hZ (own_w hw 15 rfl)) (mvT hZ (own_w hw 16 rfl)) (by decide) (backOf (W := 1) (rmExp l Z a0 hw [] ((p0_ &&& (2147483647 : Int32)) % (5 : Int32)) ((p2_ &&& (7 : Int32)) - (1 : Int32)) h0 n0 O0 ) hZ (own_w hw 16 rfl) (own_w hw 15 rfl) (by decide) (by decide)) (g := (mkF m 95 #[lvI p0_, lvI p1_, lvI p2_, lvI ((p0_ &&& (2147483647 : Int32)) % (5 : Int32)), lvR w_GET, lvI ((p2_ &&& (7 : Int32)) - (1 : Int32))] [(.int ((p2_ &&& (7 : Int32)) - (1 : Int32))), (.int ((p0_ &&& (2147483647 : Int32)) % (5 : Int32))), (.int (1 : Int32))])) rfl (by rw [hml]; rfl) (argsL := [(.int ((p0_ &&& (2147483647 : Int32)) % (5 : Int32))), (.int ((p2_ &&& (7 : Int32)) - (1 : Int32)))]) (rest := [(.int (1 : Int32))]) (lenOf pd_1 rfl) rfl (by show 2 * 0 + _ ≤ _; exact Nat.le_of_eq rfl) (hb hby at_95) (fun _ _ => ⟨rfl, e26', (by decide : 0 + 0 ≤ _), (by decide : 0 + 0 ≤ _)⟩)
          dsimp only [Pt.U, Pt.locs, Pt.cells, Pt.slots] at X37 l37 y37 z37 st37 hQ37
          subst l37 y37 z37
          obtain ⟨h37, e37⟩ : ∃ z, T37.heap = z := ⟨_, rfl⟩
          rw [e37] at hQ37
          obtain ⟨rr37, rfl, hs37, N37q, hh37⟩ := hQ37
          have N38 := Fr.app N28 N37q
          have e37' : T37.heap = h0 := e37.trans hh37
          rcases hs37 with ⟨rfl, hq37_0_0, hq37_0_1⟩ | ⟨rfl, hq37_1_0, hq37_1_1⟩ | ⟨rfl, hq37_2_0, hq37_2_1, hq37_2_2⟩ | ⟨rfl, hq37_3_0, hq37_3_1, hq37_3_2⟩ | ⟨rfl, hq37_4_0, hq37_4_1, hq37_4_2, hq37_4_3⟩ | ⟨rfl, hq37_5_0, hq37_5_1, hq37_5_2, hq37_5_3, hq37_5_4⟩ | ⟨rfl, hq37_6_0, hq37_6_1, hq37_6_2, hq37_6_3, hq37_6_4, hq37_6_5⟩ | ⟨rfl, hq37_7_0, hq37_7_1, hq37_7_2, hq37_7_3, hq37_7_4, hq37_7_5, hq37_7_6⟩ | ⟨rfl, hq37_8_0, hq37_8_1, hq37_8_2, hq37_8_3, hq37_8_4, hq37_8_5, hq37_8_6⟩ | ⟨rfl, hq37_9_0, hq37_9_1, hq37_9_2, hq37_9_3, hq37_9_4⟩ | ⟨rfl, hq37_10_0, hq37_10_1, hq37_10_2, hq37_10_3, hq37_10_4⟩ | ⟨rfl, hq37_11_0, hq37_11_1, hq37_11_2, hq37_11_3, hq37_11_4⟩ | ⟨rfl, hq37_12_0, hq37_12_1, hq37_12_2, hq37_12_3, hq37_12_4, hq37_12_5⟩ | ⟨rfl, hq37_13_0, hq37_13_1, hq37_13_2, hq37_13_3, hq37_13_4, hq37_13_5⟩
          · have pre39 : ∀ t, own_S p e below m T37 106 #[lvI p0_, lvI p1_, lvI p2_, lvI ((p0_ &&& (2147483647 : Int32)) % (5 : Int32)), lvR w_GET, lvI ((p2_ &&& (7 : Int32)) - (1 : Int32))] [(.int (1 : Int32))] t → G t := by
              intro t kt
              refine pre1 t ?_
              show own_S p e below m s₁ 8 #[lvI p0_, lvI p1_, lvI p2_, lvI ((p0_ &&& (2147483647 : Int32)) % (5 : Int32)), .unset, .unset] [(.int ((p0_ &&& (2147483647 : Int32)) % (5 : Int32)))] _
              refine XS.ifNo X0.here hx rfl (hb hby at_8) rfl ((if0 _ _).trans (teq hc2).2) ?_
              show own_S p e below m s₁ 11 #[lvI p0_, lvI p1_, lvI p2_, lvI ((p0_ &&& (2147483647 : Int32)) % (5 : Int32)), .unset, .unset] [] _
              refine st3 _ ?_
              refine XS.astore X3.here hx rfl (hb hby at_14) rfl rfl (l' := #[lvI p0_, lvI p1_, lvI p2_, lvI ((p0_ &&& (2147483647 : Int32)) % (5 : Int32)), lvR w_GET, .unset]) rfl ?_
              refine XS.goto X3.here hx rfl (pc0 := 16) (pc' := 63) rfl (hb hby at_16) (by decide) (by decide) ?_
              refine XS.iloadN X3.here hx rfl (hb hby at_63) rfl ?_
              refine XS.bipush X3.here hx rfl (hb hby at_64) ?_
              refine XS.iand X3.here hx rfl (hb hby at_66) rfl ?_
              show own_S p e below m T3 67 #[lvI p0_, lvI p1_, lvI p2_, lvI ((p0_ &&& (2147483647 : Int32)) % (5 : Int32)), lvR w_GET, .unset] [(.int (p2_ &&& (7 : Int32)))] _
              refine XS.iconst X3.here hx rfl (hb hby at_67) ?_
              refine XS.isub X3.here hx rfl (hb hby at_68) rfl ?_
              refine XS.istore X3.here hx rfl (hb hby at_69) rfl (l' := #[lvI p0_, lvI p1_, lvI p2_, lvI ((p0_ &&& (2147483647 : Int32)) % (5 : Int32)), lvR w_GET, lvI ((p2_ &&& (7 : Int32)) - (1 : Int32))]) rfl ?_
              refine XS.aload X3.here hx rfl (hb hby at_71) rfl rfl ?_
              refine XS.iloadN X3.here hx rfl (hb hby at_73) rfl ?_
              show own_S p e below m T3 74 #[lvI p0_, lvI p1_, lvI p2_, lvI ((p0_ &&& (2147483647 : Int32)) % (5 : Int32)), lvR w_GET, lvI ((p2_ &&& (7 : Int32)) - (1 : Int32))] [(.int p1_), (.ref w_GET)] _
              refine st4.trans ?_
              refine XS.iloadN X4.here hx rfl (hb hby at_77) rfl ?_
              refine XS.iloadN X4.here hx rfl (hb hby at_78) rfl ?_
              show own_S p e below m T4 79 #[lvI p0_, lvI p1_, lvI p2_, lvI ((p0_ &&& (2147483647 : Int32)) % (5 : Int32)), lvR w_GET, lvI ((p2_ &&& (7 : Int32)) - (1 : Int32))] [(.int p1_), (.int ((p0_ &&& (2147483647 : Int32)) % (5 : Int32))), (.int (0 : Int32))] _
              refine st24 _ ?_
              show own_S p e below m T24 82 #[lvI p0_, lvI p1_, lvI p2_, lvI ((p0_ &&& (2147483647 : Int32)) % (5 : Int32)), lvR w_GET, lvI ((p2_ &&& (7 : Int32)) - (1 : Int32))] [(.int (0 : Int32)), (.int (0 : Int32))] _
              refine XS.icmpNo X24.here hx rfl (hb hby at_82) rfl (teq (by decide : (0 : Int32) = (0 : Int32))).2 ?_
              refine XS.aload X24.here hx rfl (hb hby at_85) rfl rfl ?_
              refine XS.iload X24.here hx rfl (hb hby at_87) rfl ?_
              show own_S p e below m T24 89 #[lvI p0_, lvI p1_, lvI p2_, lvI ((p0_ &&& (2147483647 : Int32)) % (5 : Int32)), lvR w_GET, lvI ((p2_ &&& (7 : Int32)) - (1 : Int32))] [(.int ((p2_ &&& (7 : Int32)) - (1 : Int32))), (.ref w_GET)] _
              refine st26.trans ?_
              refine XS.iloadN X26.here hx rfl (hb hby at_92) rfl ?_
              refine XS.iload X26.here hx rfl (hb hby at_93) rfl ?_
              show own_S p e below m T26 95 #[lvI p0_, lvI p1_, lvI p2_, lvI ((p0_ &&& (2147483647 : Int32)) % (5 : Int32)), lvR w_GET, lvI ((p2_ &&& (7 : Int32)) - (1 : Int32))] [(.int ((p2_ &&& (7 : Int32)) - (1 : Int32))), (.int ((p0_ &&& (2147483647 : Int32)) % (5 : Int32))), (.int (1 : Int32))] _
              refine st37 _ ?_
              show own_S p e below m T37 98 #[lvI p0_, lvI p1_, lvI p2_, lvI ((p0_ &&& (2147483647 : Int32)) % (5 : Int32)), lvR w_GET, lvI ((p2_ &&& (7 : Int32)) - (1 : Int32))] [(.int (1 : Int32)), (.int (1 : Int32))] _
              refine XS.icmpNo X37.here hx rfl (hb hby at_98) rfl (teq (by decide : (1 : Int32) = (1 : Int32))).2 ?_
              refine XS.iconst X37.here hx rfl (hb hby at_101) ?_
              refine XS.goto X37.here hx rfl (pc0 := 102) (pc' := 106) rfl (hb hby at_102) (by decide) (by decide) ?_
              exact kt
            obtain ⟨fs, hr, hrun, hended, hW, hsame⟩ := X37.leave (v := some (.int (1 : Int32))) (fun h => by rw [Bd.returns] at h; cases h)
            refine ⟨_, _, hG _ (pre39 _ (retN X37 hx (t := .boolean) Bd.returns (by simp) (hb hby at_106) hr)), hrun, hended, _, _, rfl, ?_, ⟨_, rfl⟩, hW, hsame.mono (by decide) (by decide)⟩
            show QLaw Z p0_ p1_ p2_ w_GET w_SET w_DEL w_VDEL w_KEYNOTIFY h0 n0 _ T37.heap _
            rw [e37']
            exact ⟨rfl, N38⟩
          · exact absurd (by apply Decidable.by_contra; intro hz; have := own_i1; have := own_i7; simp only [Int32.lt_iff_toInt_lt, ← Int32.toInt_inj] at hz hq26_2_0 hq26_2_1; omega) hq37_1_1
          · exact absurd hq37_2_1 (by intro hz; have := own_i0; have := own_i2; have := own_j2147483647; have := own_i5; simp only [Int32.lt_iff_toInt_lt, ← Int32.toInt_inj] at hz hq24_1_0 hq37_2_0; omega)
          · exact absurd hq37_3_1 (by intro hz; have := own_i0; have := own_i2; have := own_j2147483647; have := own_i5; simp only [Int32.lt_iff_toInt_lt, ← Int32.toInt_inj] at hz hq24_1_0 hq37_3_0; omega)
          · exact absurd hq37_4_2 (by intro hz; have := own_i0; have := own_i1; have := own_i2; have := own_j2147483647; have := own_i5; simp only [Int32.lt_iff_toInt_lt, ← Int32.toInt_inj] at hz hq24_1_0 hq37_4_0 hq37_4_1; omega)
          · exact absurd hq37_5_2 (by intro hz; have := own_i0; have := own_i1; have := own_i2; have := own_j2147483647; have := own_i5; simp only [Int32.lt_iff_toInt_lt, ← Int32.toInt_inj] at hz hq24_1_0 hq37_5_0 hq37_5_1; omega)
          · exact absurd hq37_6_2 (by intro hz; have := own_i0; have := own_i1; have := own_i2; have := own_j2147483647; have := own_i5; simp only [Int32.lt_iff_toInt_lt, ← Int32.toInt_inj] at hz hq24_1_0 hq37_6_0 hq37_6_1; omega)
          · exact absurd hq37_7_2 (by intro hz; have := own_i0; have := own_i1; have := own_i2; have := own_j2147483647; have := own_i5; simp only [Int32.lt_iff_toInt_lt, ← Int32.toInt_inj] at hz hq24_1_0 hq37_7_0 hq37_7_1; omega)
          · exact absurd hq37_8_2 (by intro hz; have := own_i0; have := own_i1; have := own_i2; have := own_j2147483647; have := own_i5; simp only [Int32.lt_iff_toInt_lt, ← Int32.toInt_inj] at hz hq24_1_0 hq37_8_0 hq37_8_1; omega)
          · exact absurd hq37_9_3 (by intro hz; have := own_i0; have := own_i1; have := own_i2; have := own_j2147483647; have := own_i3; have := own_i5; simp only [Int32.lt_iff_toInt_lt, ← Int32.toInt_inj] at hz hq24_1_0 hq37_9_0 hq37_9_1 hq37_9_2; omega)
          · exact absurd hq37_10_3 (by intro hz; have := own_i0; have := own_i1; have := own_i2; have := own_j2147483647; have := own_i3; have := own_i5; simp only [Int32.lt_iff_toInt_lt, ← Int32.toInt_inj] at hz hq24_1_0 hq37_10_0 hq37_10_1 hq37_10_2; omega)
          · exact absurd (by apply Decidable.by_contra; intro hz; have := own_i0; have := own_j2147483647; have := own_i5; simp only [Int32.lt_iff_toInt_lt, ← Int32.toInt_inj] at hz hq24_1_0; omega) hq37_11_0
          · exact absurd (by apply Decidable.by_contra; intro hz; have := own_i0; have := own_j2147483647; have := own_i5; simp only [Int32.lt_iff_toInt_lt, ← Int32.toInt_inj] at hz hq24_1_0; omega) hq37_12_0
          · exact absurd (by apply Decidable.by_contra; intro hz; have := own_i0; have := own_j2147483647; have := own_i5; simp only [Int32.lt_iff_toInt_lt, ← Int32.toInt_inj] at hz hq24_1_0; omega) hq37_13_0
      · exact absurd hq24_2_1 (by intro hz; have := own_i0; have := own_i2; have := own_j2147483647; have := own_i5; simp only [Int32.lt_iff_toInt_lt, ← Int32.toInt_inj] at hz hc2 hq24_2_0; omega)
      · exact absurd hq24_3_1 (by intro hz; have := own_i0; have := own_i2; have := own_j2147483647; have := own_i5; simp only [Int32.lt_iff_toInt_lt, ← Int32.toInt_inj] at hz hc2 hq24_3_0; omega)
      · exact absurd hq24_4_2 (by intro hz; have := own_i0; have := own_i1; have := own_i2; have := own_j2147483647; have := own_i5; simp only [Int32.lt_iff_toInt_lt, ← Int32.toInt_inj] at hz hc2 hq24_4_0 hq24_4_1; omega)
      · exact absurd hq24_5_2 (by intro hz; have := own_i0; have := own_i1; have := own_i2; have := own_j2147483647; have := own_i5; simp only [Int32.lt_iff_toInt_lt, ← Int32.toInt_inj] at hz hc2 hq24_5_0 hq24_5_1; omega)
      · exact absurd hq24_6_2 (by intro hz; have := own_i0; have := own_i1; have := own_i2; have := own_j2147483647; have := own_i5; simp only [Int32.lt_iff_toInt_lt, ← Int32.toInt_inj] at hz hc2 hq24_6_0 hq24_6_1; omega)
      · exact absurd hq24_7_2 (by intro hz; have := own_i0; have := own_i1; have := own_i2; have := own_j2147483647; have := own_i5; simp only [Int32.lt_iff_toInt_lt, ← Int32.toInt_inj] at hz hc2 hq24_7_0 hq24_7_1; omega)
      · exact absurd hq24_8_2 (by intro hz; have := own_i0; have := own_i1; have := own_i2; have := own_j2147483647; have := own_i5; simp only [Int32.lt_iff_toInt_lt, ← Int32.toInt_inj] at hz hc2 hq24_8_0 hq24_8_1; omega)
      · exact absurd hq24_9_3 (by intro hz; have := own_i0; have := own_i1; have := own_i2; have := own_j2147483647; have := own_i3; have := own_i5; simp only [Int32.lt_iff_toInt_lt, ← Int32.toInt_inj] at hz hc2 hq24_9_0 hq24_9_1 hq24_9_2; omega)
      · exact absurd hq24_10_3 (by intro hz; have := own_i0; have := own_i1; have := own_i2; have := own_j2147483647; have := own_i3; have := own_i5; simp only [Int32.lt_iff_toInt_lt, ← Int32.toInt_inj] at hz hc2 hq24_10_0 hq24_10_1 hq24_10_2; omega)
      · exact absurd (by apply Decidable.by_contra; intro hz; have := own_i0; have := own_j2147483647; have := own_i5; simp only [Int32.lt_iff_toInt_lt, ← Int32.toInt_inj] at hz hc2; omega) hq24_11_0
      · exact absurd (by apply Decidable.by_contra; intro hz; have := own_i0; have := own_j2147483647; have := own_i5; simp only [Int32.lt_iff_toInt_lt, ← Int32.toInt_inj] at hz hc2; omega) hq24_12_0
      · exact absurd (by apply Decidable.by_contra; intro hz; have := own_i0; have := own_j2147483647; have := own_i5; simp only [Int32.lt_iff_toInt_lt, ← Int32.toInt_inj] at hz hc2; omega) hq24_13_0
    · obtain ⟨_, _, ⟨T41, L41, k41, n41⟩, -, X41, ⟨Lc41, hQ41, l41, y41, z41⟩, st41⟩ := Jvm.LawKit.callS X4 hx (y := (⟨"com/example/fawley/fawley/protocol/CommandTakesPinLaw", "expected", "(II)Z"⟩ : MethodName)) hown (mvT hZ (own_w hw 13 rfl)) (mvT hZ (own_w hw 14 rfl)) (mvT hZ (own_w hw 15 rfl)) (mvT hZ (own_w hw 16 rfl)) (by decide) (backOf (W := 1) (rmExp l Z a0 hw [] ((p0_ &&& (2147483647 : Int32)) % (5 : Int32)) p1_ h0 n0 O0 ) hZ (own_w hw 16 rfl) (own_w hw 15 rfl) (by decide) (by decide)) (g := (mkF m 79 #[lvI p0_, lvI p1_, lvI p2_, lvI ((p0_ &&& (2147483647 : Int32)) % (5 : Int32)), lvR w_GET, lvI ((p2_ &&& (7 : Int32)) - (1 : Int32))] [(.int p1_), (.int ((p0_ &&& (2147483647 : Int32)) % (5 : Int32))), (.int (1 : Int32))])) rfl (by rw [hml]; rfl) (argsL := [(.int ((p0_ &&& (2147483647 : Int32)) % (5 : Int32))), (.int p1_)]) (rest := [(.int (1 : Int32))]) (lenOf pd_1 rfl) rfl (by show 2 * 0 + _ ≤ _; exact Nat.le_of_eq rfl) (hb hby at_79) (fun _ _ => ⟨rfl, e4', (by decide : 0 + 0 ≤ _), (by decide : 0 + 0 ≤ _)⟩)
      dsimp only [Pt.U, Pt.locs, Pt.cells, Pt.slots] at X41 l41 y41 z41 st41 hQ41
      subst l41 y41 z41
      obtain ⟨h41, e41⟩ : ∃ z, T41.heap = z := ⟨_, rfl⟩
      rw [e41] at hQ41
      obtain ⟨rr41, rfl, hs41, N41q, hh41⟩ := hQ41
      have N42 := Fr.app N6 N41q
      have e41' : T41.heap = h0 := e41.trans hh41
      rcases hs41 with ⟨rfl, hq41_0_0, hq41_0_1⟩ | ⟨rfl, hq41_1_0, hq41_1_1⟩ | ⟨rfl, hq41_2_0, hq41_2_1, hq41_2_2⟩ | ⟨rfl, hq41_3_0, hq41_3_1, hq41_3_2⟩ | ⟨rfl, hq41_4_0, hq41_4_1, hq41_4_2, hq41_4_3⟩ | ⟨rfl, hq41_5_0, hq41_5_1, hq41_5_2, hq41_5_3, hq41_5_4⟩ | ⟨rfl, hq41_6_0, hq41_6_1, hq41_6_2, hq41_6_3, hq41_6_4, hq41_6_5⟩ | ⟨rfl, hq41_7_0, hq41_7_1, hq41_7_2, hq41_7_3, hq41_7_4, hq41_7_5, hq41_7_6⟩ | ⟨rfl, hq41_8_0, hq41_8_1, hq41_8_2, hq41_8_3, hq41_8_4, hq41_8_5, hq41_8_6⟩ | ⟨rfl, hq41_9_0, hq41_9_1, hq41_9_2, hq41_9_3, hq41_9_4⟩ | ⟨rfl, hq41_10_0, hq41_10_1, hq41_10_2, hq41_10_3, hq41_10_4⟩ | ⟨rfl, hq41_11_0, hq41_11_1, hq41_11_2, hq41_11_3, hq41_11_4⟩ | ⟨rfl, hq41_12_0, hq41_12_1, hq41_12_2, hq41_12_3, hq41_12_4, hq41_12_5⟩ | ⟨rfl, hq41_13_0, hq41_13_1, hq41_13_2, hq41_13_3, hq41_13_4, hq41_13_5⟩
      · have f44 : Exa Z h0 w_GET cn0 := P1.ext O0.2
        obtain ⟨cq43, kq43, q43a, q43b, q43c⟩ := isOf hZ e41' f44
        obtain ⟨_, _, ⟨T43, L43, k43, n43⟩, -, X43, ⟨Lc43, hQ43, l43, y43, z43⟩, st43⟩ := X41.virtualBack hx (y := (⟨"com/example/fawley/fawley/protocol/Command", "takes", "(I)Z"⟩ : MethodName)) (z := (⟨"com/example/fawley/fawley/protocol/Command", "takes", "(I)Z"⟩ : MethodName)) hown (mvT hZ (own_w hw 4 rfl)) (mvT hZ (own_w hw 5 rfl)) (notFace_of_selects (args := #[]) (mvT hZ (own_w hw 7 rfl))) (mvT hZ (own_w hw 7 rfl)) (mvT hZ (own_w hw 6 rfl)) (by decide) (backOf (W := 0) (rmTak l Z a0 hw [] w_GET ((p2_ &&& (7 : Int32)) - (1 : Int32)) (1 : Int32) (1 : Int32) h0 n0 O0 P2 P3) hZ (own_w hw 8 rfl) (own_w hw 2 rfl) (by decide) (by decide)) q43a q43c (g := (mkF m 89 #[lvI p0_, lvI p1_, lvI p2_, lvI ((p0_ &&& (2147483647 : Int32)) % (5 : Int32)), lvR w_GET, lvI ((p2_ &&& (7 : Int32)) - (1 : Int32))] [(.int ((p2_ &&& (7 : Int32)) - (1 : Int32))), (.ref w_GET)])) rfl (by rw [hml]; rfl) (Steps.refl _) (argsL := [(.int ((p2_ &&& (7 : Int32)) - (1 : Int32)))]) (rest := []) (lenOf pd_0 rfl) rfl (by show 2 * 0 + _ ≤ _; exact Nat.le_of_eq rfl) (hb hby at_89) (fun _ _ => ⟨rfl, e41', (by decide : 0 + 0 ≤ _), (by decide : 0 + 0 ≤ _)⟩)
        dsimp only [Pt.U, Pt.locs, Pt.cells, Pt.slots] at X43 l43 y43 z43 st43 hQ43
        subst l43 y43 z43
        obtain ⟨h43, e43⟩ : ∃ z, T43.heap = z := ⟨_, rfl⟩
        rw [e43] at hQ43
        obtain ⟨rr43, rfl, hs43, N43q, hh43⟩ := hQ43
        have N45 := Fr.app N42 N43q
        have e43' : T43.heap = h0 := e43.trans hh43
        rcases hs43 with ⟨rfl, hq43_0_0⟩ | ⟨rfl, hq43_1_0, hq43_1_1⟩ | ⟨rfl, hq43_2_0, hq43_2_1⟩
        · obtain ⟨_, _, ⟨T46, L46, k46, n46⟩, -, X46, ⟨Lc46, hQ46, l46, y46, z46⟩, st46⟩ := Jvm.LawKit.callS X43 hx (y := (⟨"com/example/fawley/fawley/protocol/CommandTakesPinLaw", "expected", "(II)Z"⟩ : MethodName)) hown (mvT hZ (own_w hw 13 rfl)) (mvT hZ (own_w hw 14 rfl)) (mvT hZ (own_w hw 15 rfl)) (mvT hZ (own_w hw 16 rfl)) (by decide) (backOf (W := 1) (rmExp l Z a0 hw [] ((p0_ &&& (2147483647 : Int32)) % (5 : Int32)) ((p2_ &&& (7 : Int32)) - (1 : Int32)) h0 n0 O0 ) hZ (own_w hw 16 rfl) (own_w hw 15 rfl) (by decide) (by decide)) (g := (mkF m 95 #[lvI p0_, lvI p1_, lvI p2_, lvI ((p0_ &&& (2147483647 : Int32)) % (5 : Int32)), lvR w_GET, lvI ((p2_ &&& (7 : Int32)) - (1 : Int32))] [(.int ((p2_ &&& (7 : Int32)) - (1 : Int32))), (.int ((p0_ &&& (2147483647 : Int32)) % (5 : Int32))), (.int (0 : Int32))])) rfl (by rw [hml]; rfl) (argsL := [(.int ((p0_ &&& (2147483647 : Int32)) % (5 : Int32))), (.int ((p2_ &&& (7 : Int32)) - (1 : Int32)))]) (rest := [(.int (0 : Int32))]) (lenOf pd_1 rfl) rfl (by show 2 * 0 + _ ≤ _; exact Nat.le_of_eq rfl) (hb hby at_95) (fun _ _ => ⟨rfl, e43', (by decide : 0 + 0 ≤ _), (by decide : 0 + 0 ≤ _)⟩)
          dsimp only [Pt.U, Pt.locs, Pt.cells, Pt.slots] at X46 l46 y46 z46 st46 hQ46
          subst l46 y46 z46
          obtain ⟨h46, e46⟩ : ∃ z, T46.heap = z := ⟨_, rfl⟩
          rw [e46] at hQ46
          obtain ⟨rr46, rfl, hs46, N46q, hh46⟩ := hQ46
          have N47 := Fr.app N45 N46q
          have e46' : T46.heap = h0 := e46.trans hh46
          rcases hs46 with ⟨rfl, hq46_0_0, hq46_0_1⟩ | ⟨rfl, hq46_1_0, hq46_1_1⟩ | ⟨rfl, hq46_2_0, hq46_2_1, hq46_2_2⟩ | ⟨rfl, hq46_3_0, hq46_3_1, hq46_3_2⟩ | ⟨rfl, hq46_4_0, hq46_4_1, hq46_4_2, hq46_4_3⟩ | ⟨rfl, hq46_5_0, hq46_5_1, hq46_5_2, hq46_5_3, hq46_5_4⟩ | ⟨rfl, hq46_6_0, hq46_6_1, hq46_6_2, hq46_6_3, hq46_6_4, hq46_6_5⟩ | ⟨rfl, hq46_7_0, hq46_7_1, hq46_7_2, hq46_7_3, hq46_7_4, hq46_7_5, hq46_7_6⟩ | ⟨rfl, hq46_8_0, hq46_8_1, hq46_8_2, hq46_8_3, hq46_8_4, hq46_8_5, hq46_8_6⟩ | ⟨rfl, hq46_9_0, hq46_9_1, hq46_9_2, hq46_9_3, hq46_9_4⟩ | ⟨rfl, hq46_10_0, hq46_10_1, hq46_10_2, hq46_10_3, hq46_10_4⟩ | ⟨rfl, hq46_11_0, hq46_11_1, hq46_11_2, hq46_11_3, hq46_11_4⟩ | ⟨rfl, hq46_12_0, hq46_12_1, hq46_12_2, hq46_12_3, hq46_12_4, hq46_12_5⟩ | ⟨rfl, hq46_13_0, hq46_13_1, hq46_13_2, hq46_13_3, hq46_13_4, hq46_13_5⟩
          · exact absurd hq46_0_1 (by intro hz; have := own_i1; have := own_i7; simp only [Int32.lt_iff_toInt_lt, ← Int32.toInt_inj] at hz hq43_0_0; omega)
          · have pre48 : ∀ t, own_S p e below m T46 106 #[lvI p0_, lvI p1_, lvI p2_, lvI ((p0_ &&& (2147483647 : Int32)) % (5 : Int32)), lvR w_GET, lvI ((p2_ &&& (7 : Int32)) - (1 : Int32))] [(.int (1 : Int32))] t → G t := by
              intro t kt
              refine pre1 t ?_
              show own_S p e below m s₁ 8 #[lvI p0_, lvI p1_, lvI p2_, lvI ((p0_ &&& (2147483647 : Int32)) % (5 : Int32)), .unset, .unset] [(.int ((p0_ &&& (2147483647 : Int32)) % (5 : Int32)))] _
              refine XS.ifNo X0.here hx rfl (hb hby at_8) rfl ((if0 _ _).trans (teq hc2).2) ?_
              show own_S p e below m s₁ 11 #[lvI p0_, lvI p1_, lvI p2_, lvI ((p0_ &&& (2147483647 : Int32)) % (5 : Int32)), .unset, .unset] [] _
              refine st3 _ ?_
              refine XS.astore X3.here hx rfl (hb hby at_14) rfl rfl (l' := #[lvI p0_, lvI p1_, lvI p2_, lvI ((p0_ &&& (2147483647 : Int32)) % (5 : Int32)), lvR w_GET, .unset]) rfl ?_
              refine XS.goto X3.here hx rfl (pc0 := 16) (pc' := 63) rfl (hb hby at_16) (by decide) (by decide) ?_
              refine XS.iloadN X3.here hx rfl (hb hby at_63) rfl ?_
              refine XS.bipush X3.here hx rfl (hb hby at_64) ?_
              refine XS.iand X3.here hx rfl (hb hby at_66) rfl ?_
              show own_S p e below m T3 67 #[lvI p0_, lvI p1_, lvI p2_, lvI ((p0_ &&& (2147483647 : Int32)) % (5 : Int32)), lvR w_GET, .unset] [(.int (p2_ &&& (7 : Int32)))] _
              refine XS.iconst X3.here hx rfl (hb hby at_67) ?_
              refine XS.isub X3.here hx rfl (hb hby at_68) rfl ?_
              refine XS.istore X3.here hx rfl (hb hby at_69) rfl (l' := #[lvI p0_, lvI p1_, lvI p2_, lvI ((p0_ &&& (2147483647 : Int32)) % (5 : Int32)), lvR w_GET, lvI ((p2_ &&& (7 : Int32)) - (1 : Int32))]) rfl ?_
              refine XS.aload X3.here hx rfl (hb hby at_71) rfl rfl ?_
              refine XS.iloadN X3.here hx rfl (hb hby at_73) rfl ?_
              show own_S p e below m T3 74 #[lvI p0_, lvI p1_, lvI p2_, lvI ((p0_ &&& (2147483647 : Int32)) % (5 : Int32)), lvR w_GET, lvI ((p2_ &&& (7 : Int32)) - (1 : Int32))] [(.int p1_), (.ref w_GET)] _
              refine st4.trans ?_
              refine XS.iloadN X4.here hx rfl (hb hby at_77) rfl ?_
              refine XS.iloadN X4.here hx rfl (hb hby at_78) rfl ?_
              show own_S p e below m T4 79 #[lvI p0_, lvI p1_, lvI p2_, lvI ((p0_ &&& (2147483647 : Int32)) % (5 : Int32)), lvR w_GET, lvI ((p2_ &&& (7 : Int32)) - (1 : Int32))] [(.int p1_), (.int ((p0_ &&& (2147483647 : Int32)) % (5 : Int32))), (.int (1 : Int32))] _
              refine st41 _ ?_
              show own_S p e below m T41 82 #[lvI p0_, lvI p1_, lvI p2_, lvI ((p0_ &&& (2147483647 : Int32)) % (5 : Int32)), lvR w_GET, lvI ((p2_ &&& (7 : Int32)) - (1 : Int32))] [(.int (1 : Int32)), (.int (1 : Int32))] _
              refine XS.icmpNo X41.here hx rfl (hb hby at_82) rfl (teq (by decide : (1 : Int32) = (1 : Int32))).2 ?_
              refine XS.aload X41.here hx rfl (hb hby at_85) rfl rfl ?_
              refine XS.iload X41.here hx rfl (hb hby at_87) rfl ?_
              show own_S p e below m T41 89 #[lvI p0_, lvI p1_, lvI p2_, lvI ((p0_ &&& (2147483647 : Int32)) % (5 : Int32)), lvR w_GET, lvI ((p2_ &&& (7 : Int32)) - (1 : Int32))] [(.int ((p2_ &&& (7 : Int32)) - (1 : Int32))), (.ref w_GET)] _
              refine st43.trans ?_
              refine XS.iloadN X43.here hx rfl (hb hby at_92) rfl ?_
              refine XS.iload X43.here hx rfl (hb hby at_93) rfl ?_
              show own_S p e below m T43 95 #[lvI p0_, lvI p1_, lvI p2_, lvI ((p0_ &&& (2147483647 : Int32)) % (5 : Int32)), lvR w_GET, lvI ((p2_ &&& (7 : Int32)) - (1 : Int32))] [(.int ((p2_ &&& (7 : Int32)) - (1 : Int32))), (.int ((p0_ &&& (2147483647 : Int32)) % (5 : Int32))), (.int (0 : Int32))] _
              refine st46 _ ?_
              show own_S p e below m T46 98 #[lvI p0_, lvI p1_, lvI p2_, lvI ((p0_ &&& (2147483647 : Int32)) % (5 : Int32)), lvR w_GET, lvI ((p2_ &&& (7 : Int32)) - (1 : Int32))] [(.int (0 : Int32)), (.int (0 : Int32))] _
              refine XS.icmpNo X46.here hx rfl (hb hby at_98) rfl (teq (by decide : (0 : Int32) = (0 : Int32))).2 ?_
              refine XS.iconst X46.here hx rfl (hb hby at_101) ?_
              refine XS.goto X46.here hx rfl (pc0 := 102) (pc' := 106) rfl (hb hby at_102) (by decide) (by decide) ?_
              exact kt
            obtain ⟨fs, hr, hrun, hended, hW, hsame⟩ := X46.leave (v := some (.int (1 : Int32))) (fun h => by rw [Bd.returns] at h; cases h)
            refine ⟨_, _, hG _ (pre48 _ (retN X46 hx (t := .boolean) Bd.returns (by simp) (hb hby at_106) hr)), hrun, hended, _, _, rfl, ?_, ⟨_, rfl⟩, hW, hsame.mono (by decide) (by decide)⟩
            show QLaw Z p0_ p1_ p2_ w_GET w_SET w_DEL w_VDEL w_KEYNOTIFY h0 n0 _ T46.heap _
            rw [e46']
            exact ⟨rfl, N47⟩
          · exact absurd hq46_2_1 (by intro hz; have := own_i0; have := own_i2; have := own_j2147483647; have := own_i5; simp only [Int32.lt_iff_toInt_lt, ← Int32.toInt_inj] at hz hq41_0_0 hq46_2_0; omega)
          · exact absurd hq46_3_1 (by intro hz; have := own_i0; have := own_i2; have := own_j2147483647; have := own_i5; simp only [Int32.lt_iff_toInt_lt, ← Int32.toInt_inj] at hz hq41_0_0 hq46_3_0; omega)
          · exact absurd hq46_4_2 (by intro hz; have := own_i0; have := own_i1; have := own_i2; have := own_j2147483647; have := own_i5; simp only [Int32.lt_iff_toInt_lt, ← Int32.toInt_inj] at hz hq41_0_0 hq46_4_0 hq46_4_1; omega)
          · exact absurd hq46_5_2 (by intro hz; have := own_i0; have := own_i1; have := own_i2; have := own_j2147483647; have := own_i5; simp only [Int32.lt_iff_toInt_lt, ← Int32.toInt_inj] at hz hq41_0_0 hq46_5_0 hq46_5_1; omega)
          · exact absurd hq46_6_2 (by intro hz; have := own_i0; have := own_i1; have := own_i2; have := own_j2147483647; have := own_i5; simp only [Int32.lt_iff_toInt_lt, ← Int32.toInt_inj] at hz hq41_0_0 hq46_6_0 hq46_6_1; omega)
          · exact absurd hq46_7_2 (by intro hz; have := own_i0; have := own_i1; have := own_i2; have := own_j2147483647; have := own_i5; simp only [Int32.lt_iff_toInt_lt, ← Int32.toInt_inj] at hz hq41_0_0 hq46_7_0 hq46_7_1; omega)
          · exact absurd hq46_8_2 (by intro hz; have := own_i0; have := own_i1; have := own_i2; have := own_j2147483647; have := own_i5; simp only [Int32.lt_iff_toInt_lt, ← Int32.toInt_inj] at hz hq41_0_0 hq46_8_0 hq46_8_1; omega)
          · exact absurd hq46_9_3 (by intro hz; have := own_i0; have := own_i1; have := own_i2; have := own_j2147483647; have := own_i3; have := own_i5; simp only [Int32.lt_iff_toInt_lt, ← Int32.toInt_inj] at hz hq41_0_0 hq46_9_0 hq46_9_1 hq46_9_2; omega)
          · exact absurd hq46_10_3 (by intro hz; have := own_i0; have := own_i1; have := own_i2; have := own_j2147483647; have := own_i3; have := own_i5; simp only [Int32.lt_iff_toInt_lt, ← Int32.toInt_inj] at hz hq41_0_0 hq46_10_0 hq46_10_1 hq46_10_2; omega)
          · exact absurd (by apply Decidable.by_contra; intro hz; have := own_i0; have := own_j2147483647; have := own_i5; simp only [Int32.lt_iff_toInt_lt, ← Int32.toInt_inj] at hz hq41_0_0; omega) hq46_11_0
          · exact absurd (by apply Decidable.by_contra; intro hz; have := own_i0; have := own_j2147483647; have := own_i5; simp only [Int32.lt_iff_toInt_lt, ← Int32.toInt_inj] at hz hq41_0_0; omega) hq46_12_0
          · exact absurd (by apply Decidable.by_contra; intro hz; have := own_i0; have := own_j2147483647; have := own_i5; simp only [Int32.lt_iff_toInt_lt, ← Int32.toInt_inj] at hz hq41_0_0; omega) hq46_13_0
        · obtain ⟨_, _, ⟨T50, L50, k50, n50⟩, -, X50, ⟨Lc50, hQ50, l50, y50, z50⟩, st50⟩ := Jvm.LawKit.callS X43 hx (y := (⟨"com/example/fawley/fawley/protocol/CommandTakesPinLaw", "expected", "(II)Z"⟩ : MethodName)) hown (mvT hZ (own_w hw 13 rfl)) (mvT hZ (own_w hw 14 rfl)) (mvT hZ (own_w hw 15 rfl)) (mvT hZ (own_w hw 16 rfl)) (by decide) (backOf (W := 1) (rmExp l Z a0 hw [] ((p0_ &&& (2147483647 : Int32)) % (5 : Int32)) ((p2_ &&& (7 : Int32)) - (1 : Int32)) h0 n0 O0 ) hZ (own_w hw 16 rfl) (own_w hw 15 rfl) (by decide) (by decide)) (g := (mkF m 95 #[lvI p0_, lvI p1_, lvI p2_, lvI ((p0_ &&& (2147483647 : Int32)) % (5 : Int32)), lvR w_GET, lvI ((p2_ &&& (7 : Int32)) - (1 : Int32))] [(.int ((p2_ &&& (7 : Int32)) - (1 : Int32))), (.int ((p0_ &&& (2147483647 : Int32)) % (5 : Int32))), (.int (0 : Int32))])) rfl (by rw [hml]; rfl) (argsL := [(.int ((p0_ &&& (2147483647 : Int32)) % (5 : Int32))), (.int ((p2_ &&& (7 : Int32)) - (1 : Int32)))]) (rest := [(.int (0 : Int32))]) (lenOf pd_1 rfl) rfl (by show 2 * 0 + _ ≤ _; exact Nat.le_of_eq rfl) (hb hby at_95) (fun _ _ => ⟨rfl, e43', (by decide : 0 + 0 ≤ _), (by decide : 0 + 0 ≤ _)⟩)
          dsimp only [Pt.U, Pt.locs, Pt.cells, Pt.slots] at X50 l50 y50 z50 st50 hQ50
          subst l50 y50 z50
          obtain ⟨h50, e50⟩ : ∃ z, T50.heap = z := ⟨_, rfl⟩
          rw [e50] at hQ50
          obtain ⟨rr50, rfl, hs50, N50q, hh50⟩ := hQ50
          have N51 := Fr.app N45 N50q
          have e50' : T50.heap = h0 := e50.trans hh50
          rcases hs50 with ⟨rfl, hq50_0_0, hq50_0_1⟩ | ⟨rfl, hq50_1_0, hq50_1_1⟩ | ⟨rfl, hq50_2_0, hq50_2_1, hq50_2_2⟩ | ⟨rfl, hq50_3_0, hq50_3_1, hq50_3_2⟩ | ⟨rfl, hq50_4_0, hq50_4_1, hq50_4_2, hq50_4_3⟩ | ⟨rfl, hq50_5_0, hq50_5_1, hq50_5_2, hq50_5_3, hq50_5_4⟩ | ⟨rfl, hq50_6_0, hq50_6_1, hq50_6_2, hq50_6_3, hq50_6_4, hq50_6_5⟩ | ⟨rfl, hq50_7_0, hq50_7_1, hq50_7_2, hq50_7_3, hq50_7_4, hq50_7_5, hq50_7_6⟩ | ⟨rfl, hq50_8_0, hq50_8_1, hq50_8_2, hq50_8_3, hq50_8_4, hq50_8_5, hq50_8_6⟩ | ⟨rfl, hq50_9_0, hq50_9_1, hq50_9_2, hq50_9_3, hq50_9_4⟩ | ⟨rfl, hq50_10_0, hq50_10_1, hq50_10_2, hq50_10_3, hq50_10_4⟩ | ⟨rfl, hq50_11_0, hq50_11_1, hq50_11_2, hq50_11_3, hq50_11_4⟩ | ⟨rfl, hq50_12_0, hq50_12_1, hq50_12_2, hq50_12_3, hq50_12_4, hq50_12_5⟩ | ⟨rfl, hq50_13_0, hq50_13_1, hq50_13_2, hq50_13_3, hq50_13_4, hq50_13_5⟩
          · exact absurd hq50_0_1 (by intro hz; have := own_i1; have := own_i7; simp only [Int32.lt_iff_toInt_lt, ← Int32.toInt_inj] at hz hq43_1_0 hq43_1_1; omega)
          · have pre52 : ∀ t, own_S p e below m T50 106 #[lvI p0_, lvI p1_, lvI p2_, lvI ((p0_ &&& (2147483647 : Int32)) % (5 : Int32)), lvR w_GET, lvI ((p2_ &&& (7 : Int32)) - (1 : Int32))] [(.int (1 : Int32))] t → G t := by
              intro t kt
              refine pre1 t ?_
              show own_S p e below m s₁ 8 #[lvI p0_, lvI p1_, lvI p2_, lvI ((p0_ &&& (2147483647 : Int32)) % (5 : Int32)), .unset, .unset] [(.int ((p0_ &&& (2147483647 : Int32)) % (5 : Int32)))] _
              refine XS.ifNo X0.here hx rfl (hb hby at_8) rfl ((if0 _ _).trans (teq hc2).2) ?_
              show own_S p e below m s₁ 11 #[lvI p0_, lvI p1_, lvI p2_, lvI ((p0_ &&& (2147483647 : Int32)) % (5 : Int32)), .unset, .unset] [] _
              refine st3 _ ?_
              refine XS.astore X3.here hx rfl (hb hby at_14) rfl rfl (l' := #[lvI p0_, lvI p1_, lvI p2_, lvI ((p0_ &&& (2147483647 : Int32)) % (5 : Int32)), lvR w_GET, .unset]) rfl ?_
              refine XS.goto X3.here hx rfl (pc0 := 16) (pc' := 63) rfl (hb hby at_16) (by decide) (by decide) ?_
              refine XS.iloadN X3.here hx rfl (hb hby at_63) rfl ?_
              refine XS.bipush X3.here hx rfl (hb hby at_64) ?_
              refine XS.iand X3.here hx rfl (hb hby at_66) rfl ?_
              show own_S p e below m T3 67 #[lvI p0_, lvI p1_, lvI p2_, lvI ((p0_ &&& (2147483647 : Int32)) % (5 : Int32)), lvR w_GET, .unset] [(.int (p2_ &&& (7 : Int32)))] _
              refine XS.iconst X3.here hx rfl (hb hby at_67) ?_
              refine XS.isub X3.here hx rfl (hb hby at_68) rfl ?_
              refine XS.istore X3.here hx rfl (hb hby at_69) rfl (l' := #[lvI p0_, lvI p1_, lvI p2_, lvI ((p0_ &&& (2147483647 : Int32)) % (5 : Int32)), lvR w_GET, lvI ((p2_ &&& (7 : Int32)) - (1 : Int32))]) rfl ?_
              refine XS.aload X3.here hx rfl (hb hby at_71) rfl rfl ?_
              refine XS.iloadN X3.here hx rfl (hb hby at_73) rfl ?_
              show own_S p e below m T3 74 #[lvI p0_, lvI p1_, lvI p2_, lvI ((p0_ &&& (2147483647 : Int32)) % (5 : Int32)), lvR w_GET, lvI ((p2_ &&& (7 : Int32)) - (1 : Int32))] [(.int p1_), (.ref w_GET)] _
              refine st4.trans ?_
              refine XS.iloadN X4.here hx rfl (hb hby at_77) rfl ?_
              refine XS.iloadN X4.here hx rfl (hb hby at_78) rfl ?_
              show own_S p e below m T4 79 #[lvI p0_, lvI p1_, lvI p2_, lvI ((p0_ &&& (2147483647 : Int32)) % (5 : Int32)), lvR w_GET, lvI ((p2_ &&& (7 : Int32)) - (1 : Int32))] [(.int p1_), (.int ((p0_ &&& (2147483647 : Int32)) % (5 : Int32))), (.int (1 : Int32))] _
              refine st41 _ ?_
              show own_S p e below m T41 82 #[lvI p0_, lvI p1_, lvI p2_, lvI ((p0_ &&& (2147483647 : Int32)) % (5 : Int32)), lvR w_GET, lvI ((p2_ &&& (7 : Int32)) - (1 : Int32))] [(.int (1 : Int32)), (.int (1 : Int32))] _
              refine XS.icmpNo X41.here hx rfl (hb hby at_82) rfl (teq (by decide : (1 : Int32) = (1 : Int32))).2 ?_
              refine XS.aload X41.here hx rfl (hb hby at_85) rfl rfl ?_
              refine XS.iload X41.here hx rfl (hb hby at_87) rfl ?_
              show own_S p e below m T41 89 #[lvI p0_, lvI p1_, lvI p2_, lvI ((p0_ &&& (2147483647 : Int32)) % (5 : Int32)), lvR w_GET, lvI ((p2_ &&& (7 : Int32)) - (1 : Int32))] [(.int ((p2_ &&& (7 : Int32)) - (1 : Int32))), (.ref w_GET)] _
              refine st43.trans ?_
              refine XS.iloadN X43.here hx rfl (hb hby at_92) rfl ?_
              refine XS.iload X43.here hx rfl (hb hby at_93) rfl ?_
              show own_S p e below m T43 95 #[lvI p0_, lvI p1_, lvI p2_, lvI ((p0_ &&& (2147483647 : Int32)) % (5 : Int32)), lvR w_GET, lvI ((p2_ &&& (7 : Int32)) - (1 : Int32))] [(.int ((p2_ &&& (7 : Int32)) - (1 : Int32))), (.int ((p0_ &&& (2147483647 : Int32)) % (5 : Int32))), (.int (0 : Int32))] _
              refine st50 _ ?_
              show own_S p e below m T50 98 #[lvI p0_, lvI p1_, lvI p2_, lvI ((p0_ &&& (2147483647 : Int32)) % (5 : Int32)), lvR w_GET, lvI ((p2_ &&& (7 : Int32)) - (1 : Int32))] [(.int (0 : Int32)), (.int (0 : Int32))] _
              refine XS.icmpNo X50.here hx rfl (hb hby at_98) rfl (teq (by decide : (0 : Int32) = (0 : Int32))).2 ?_
              refine XS.iconst X50.here hx rfl (hb hby at_101) ?_
              refine XS.goto X50.here hx rfl (pc0 := 102) (pc' := 106) rfl (hb hby at_102) (by decide) (by decide) ?_
              exact kt
            obtain ⟨fs, hr, hrun, hended, hW, hsame⟩ := X50.leave (v := some (.int (1 : Int32))) (fun h => by rw [Bd.returns] at h; cases h)
            refine ⟨_, _, hG _ (pre52 _ (retN X50 hx (t := .boolean) Bd.returns (by simp) (hb hby at_106) hr)), hrun, hended, _, _, rfl, ?_, ⟨_, rfl⟩, hW, hsame.mono (by decide) (by decide)⟩
            show QLaw Z p0_ p1_ p2_ w_GET w_SET w_DEL w_VDEL w_KEYNOTIFY h0 n0 _ T50.heap _
            rw [e50']
            exact ⟨rfl, N51⟩
          · exact absurd hq50_2_1 (by intro hz; have := own_i0; have := own_i2; have := own_j2147483647; have := own_i5; simp only [Int32.lt_iff_toInt_lt, ← Int32.toInt_inj] at hz hq41_0_0 hq50_2_0; omega)
          · exact absurd hq50_3_1 (by intro hz; have := own_i0; have := own_i2; have := own_j2147483647; have := own_i5; simp only [Int32.lt_iff_toInt_lt, ← Int32.toInt_inj] at hz hq41_0_0 hq50_3_0; omega)
          · exact absurd hq50_4_2 (by intro hz; have := own_i0; have := own_i1; have := own_i2; have := own_j2147483647; have := own_i5; simp only [Int32.lt_iff_toInt_lt, ← Int32.toInt_inj] at hz hq41_0_0 hq50_4_0 hq50_4_1; omega)
          · exact absurd hq50_5_2 (by intro hz; have := own_i0; have := own_i1; have := own_i2; have := own_j2147483647; have := own_i5; simp only [Int32.lt_iff_toInt_lt, ← Int32.toInt_inj] at hz hq41_0_0 hq50_5_0 hq50_5_1; omega)
          · exact absurd hq50_6_2 (by intro hz; have := own_i0; have := own_i1; have := own_i2; have := own_j2147483647; have := own_i5; simp only [Int32.lt_iff_toInt_lt, ← Int32.toInt_inj] at hz hq41_0_0 hq50_6_0 hq50_6_1; omega)
          · exact absurd hq50_7_2 (by intro hz; have := own_i0; have := own_i1; have := own_i2; have := own_j2147483647; have := own_i5; simp only [Int32.lt_iff_toInt_lt, ← Int32.toInt_inj] at hz hq41_0_0 hq50_7_0 hq50_7_1; omega)
          · exact absurd hq50_8_2 (by intro hz; have := own_i0; have := own_i1; have := own_i2; have := own_j2147483647; have := own_i5; simp only [Int32.lt_iff_toInt_lt, ← Int32.toInt_inj] at hz hq41_0_0 hq50_8_0 hq50_8_1; omega)
          · exact absurd hq50_9_3 (by intro hz; have := own_i0; have := own_i1; have := own_i2; have := own_j2147483647; have := own_i3; have := own_i5; simp only [Int32.lt_iff_toInt_lt, ← Int32.toInt_inj] at hz hq41_0_0 hq50_9_0 hq50_9_1 hq50_9_2; omega)
          · exact absurd hq50_10_3 (by intro hz; have := own_i0; have := own_i1; have := own_i2; have := own_j2147483647; have := own_i3; have := own_i5; simp only [Int32.lt_iff_toInt_lt, ← Int32.toInt_inj] at hz hq41_0_0 hq50_10_0 hq50_10_1 hq50_10_2; omega)
          · exact absurd (by apply Decidable.by_contra; intro hz; have := own_i0; have := own_j2147483647; have := own_i5; simp only [Int32.lt_iff_toInt_lt, ← Int32.toInt_inj] at hz hq41_0_0; omega) hq50_11_0
          · exact absurd (by apply Decidable.by_contra; intro hz; have := own_i0; have := own_j2147483647; have := own_i5; simp only [Int32.lt_iff_toInt_lt, ← Int32.toInt_inj] at hz hq41_0_0; omega) hq50_12_0
          · exact absurd (by apply Decidable.by_contra; intro hz; have := own_i0; have := own_j2147483647; have := own_i5; simp only [Int32.lt_iff_toInt_lt, ← Int32.toInt_inj] at hz hq41_0_0; omega) hq50_13_0
        · obtain ⟨_, _, ⟨T54, L54, k54, n54⟩, -, X54, ⟨Lc54, hQ54, l54, y54, z54⟩, st54⟩ := Jvm.LawKit.callS X43 hx (y := (⟨"com/example/fawley/fawley/protocol/CommandTakesPinLaw", "expected", "(II)Z"⟩ : MethodName)) hown (mvT hZ (own_w hw 13 rfl)) (mvT hZ (own_w hw 14 rfl)) (mvT hZ (own_w hw 15 rfl)) (mvT hZ (own_w hw 16 rfl)) (by decide) (backOf (W := 1) (rmExp l Z a0 hw [] ((p0_ &&& (2147483647 : Int32)) % (5 : Int32)) ((p2_ &&& (7 : Int32)) - (1 : Int32)) h0 n0 O0 ) hZ (own_w hw 16 rfl) (own_w hw 15 rfl) (by decide) (by decide)) (g := (mkF m 95 #[lvI p0_, lvI p1_, lvI p2_, lvI ((p0_ &&& (2147483647 : Int32)) % (5 : Int32)), lvR w_GET, lvI ((p2_ &&& (7 : Int32)) - (1 : Int32))] [(.int ((p2_ &&& (7 : Int32)) - (1 : Int32))), (.int ((p0_ &&& (2147483647 : Int32)) % (5 : Int32))), (.int (1 : Int32))])) rfl (by rw [hml]; rfl) (argsL := [(.int ((p0_ &&& (2147483647 : Int32)) % (5 : Int32))), (.int ((p2_ &&& (7 : Int32)) - (1 : Int32)))]) (rest := [(.int (1 : Int32))]) (lenOf pd_1 rfl) rfl (by show 2 * 0 + _ ≤ _; exact Nat.le_of_eq rfl) (hb hby at_95) (fun _ _ => ⟨rfl, e43', (by decide : 0 + 0 ≤ _), (by decide : 0 + 0 ≤ _)⟩)
          dsimp only [Pt.U, Pt.locs, Pt.cells, Pt.slots] at X54 l54 y54 z54 st54 hQ54
          subst l54 y54 z54
          obtain ⟨h54, e54⟩ : ∃ z, T54.heap = z := ⟨_, rfl⟩
          rw [e54] at hQ54
          obtain ⟨rr54, rfl, hs54, N54q, hh54⟩ := hQ54
          have N55 := Fr.app N45 N54q
          have e54' : T54.heap = h0 := e54.trans hh54
          rcases hs54 with ⟨rfl, hq54_0_0, hq54_0_1⟩ | ⟨rfl, hq54_1_0, hq54_1_1⟩ | ⟨rfl, hq54_2_0, hq54_2_1, hq54_2_2⟩ | ⟨rfl, hq54_3_0, hq54_3_1, hq54_3_2⟩ | ⟨rfl, hq54_4_0, hq54_4_1, hq54_4_2, hq54_4_3⟩ | ⟨rfl, hq54_5_0, hq54_5_1, hq54_5_2, hq54_5_3, hq54_5_4⟩ | ⟨rfl, hq54_6_0, hq54_6_1, hq54_6_2, hq54_6_3, hq54_6_4, hq54_6_5⟩ | ⟨rfl, hq54_7_0, hq54_7_1, hq54_7_2, hq54_7_3, hq54_7_4, hq54_7_5, hq54_7_6⟩ | ⟨rfl, hq54_8_0, hq54_8_1, hq54_8_2, hq54_8_3, hq54_8_4, hq54_8_5, hq54_8_6⟩ | ⟨rfl, hq54_9_0, hq54_9_1, hq54_9_2, hq54_9_3, hq54_9_4⟩ | ⟨rfl, hq54_10_0, hq54_10_1, hq54_10_2, hq54_10_3, hq54_10_4⟩ | ⟨rfl, hq54_11_0, hq54_11_1, hq54_11_2, hq54_11_3, hq54_11_4⟩ | ⟨rfl, hq54_12_0, hq54_12_1, hq54_12_2, hq54_12_3, hq54_12_4, hq54_12_5⟩ | ⟨rfl, hq54_13_0, hq54_13_1, hq54_13_2, hq54_13_3, hq54_13_4, hq54_13_5⟩
          · have pre56 : ∀ t, own_S p e below m T54 106 #[lvI p0_, lvI p1_, lvI p2_, lvI ((p0_ &&& (2147483647 : Int32)) % (5 : Int32)), lvR w_GET, lvI ((p2_ &&& (7 : Int32)) - (1 : Int32))] [(.int (1 : Int32))] t → G t := by
              intro t kt
              refine pre1 t ?_
              show own_S p e below m s₁ 8 #[lvI p0_, lvI p1_, lvI p2_, lvI ((p0_ &&& (2147483647 : Int32)) % (5 : Int32)), .unset, .unset] [(.int ((p0_ &&& (2147483647 : Int32)) % (5 : Int32)))] _
              refine XS.ifNo X0.here hx rfl (hb hby at_8) rfl ((if0 _ _).trans (teq hc2).2) ?_
              show own_S p e below m s₁ 11 #[lvI p0_, lvI p1_, lvI p2_, lvI ((p0_ &&& (2147483647 : Int32)) % (5 : Int32)), .unset, .unset] [] _
              refine st3 _ ?_
              refine XS.astore X3.here hx rfl (hb hby at_14) rfl rfl (l' := #[lvI p0_, lvI p1_, lvI p2_, lvI ((p0_ &&& (2147483647 : Int32)) % (5 : Int32)), lvR w_GET, .unset]) rfl ?_
              refine XS.goto X3.here hx rfl (pc0 := 16) (pc' := 63) rfl (hb hby at_16) (by decide) (by decide) ?_
              refine XS.iloadN X3.here hx rfl (hb hby at_63) rfl ?_
              refine XS.bipush X3.here hx rfl (hb hby at_64) ?_
              refine XS.iand X3.here hx rfl (hb hby at_66) rfl ?_
              show own_S p e below m T3 67 #[lvI p0_, lvI p1_, lvI p2_, lvI ((p0_ &&& (2147483647 : Int32)) % (5 : Int32)), lvR w_GET, .unset] [(.int (p2_ &&& (7 : Int32)))] _
              refine XS.iconst X3.here hx rfl (hb hby at_67) ?_
              refine XS.isub X3.here hx rfl (hb hby at_68) rfl ?_
              refine XS.istore X3.here hx rfl (hb hby at_69) rfl (l' := #[lvI p0_, lvI p1_, lvI p2_, lvI ((p0_ &&& (2147483647 : Int32)) % (5 : Int32)), lvR w_GET, lvI ((p2_ &&& (7 : Int32)) - (1 : Int32))]) rfl ?_
              refine XS.aload X3.here hx rfl (hb hby at_71) rfl rfl ?_
              refine XS.iloadN X3.here hx rfl (hb hby at_73) rfl ?_
              show own_S p e below m T3 74 #[lvI p0_, lvI p1_, lvI p2_, lvI ((p0_ &&& (2147483647 : Int32)) % (5 : Int32)), lvR w_GET, lvI ((p2_ &&& (7 : Int32)) - (1 : Int32))] [(.int p1_), (.ref w_GET)] _
              refine st4.trans ?_
              refine XS.iloadN X4.here hx rfl (hb hby at_77) rfl ?_
              refine XS.iloadN X4.here hx rfl (hb hby at_78) rfl ?_
              show own_S p e below m T4 79 #[lvI p0_, lvI p1_, lvI p2_, lvI ((p0_ &&& (2147483647 : Int32)) % (5 : Int32)), lvR w_GET, lvI ((p2_ &&& (7 : Int32)) - (1 : Int32))] [(.int p1_), (.int ((p0_ &&& (2147483647 : Int32)) % (5 : Int32))), (.int (1 : Int32))] _
              refine st41 _ ?_
              show own_S p e below m T41 82 #[lvI p0_, lvI p1_, lvI p2_, lvI ((p0_ &&& (2147483647 : Int32)) % (5 : Int32)), lvR w_GET, lvI ((p2_ &&& (7 : Int32)) - (1 : Int32))] [(.int (1 : Int32)), (.int (1 : Int32))] _
              refine XS.icmpNo X41.here hx rfl (hb hby at_82) rfl (teq (by decide : (1 : Int32) = (1 : Int32))).2 ?_
              refine XS.aload X41.here hx rfl (hb hby at_85) rfl rfl ?_
              refine XS.iload X41.here hx rfl (hb hby at_87) rfl ?_
              show own_S p e below m T41 89 #[lvI p0_, lvI p1_, lvI p2_, lvI ((p0_ &&& (2147483647 : Int32)) % (5 : Int32)), lvR w_GET, lvI ((p2_ &&& (7 : Int32)) - (1 : Int32))] [(.int ((p2_ &&& (7 : Int32)) - (1 : Int32))), (.ref w_GET)] _
              refine st43.trans ?_
              refine XS.iloadN X43.here hx rfl (hb hby at_92) rfl ?_
              refine XS.iload X43.here hx rfl (hb hby at_93) rfl ?_
              show own_S p e below m T43 95 #[lvI p0_, lvI p1_, lvI p2_, lvI ((p0_ &&& (2147483647 : Int32)) % (5 : Int32)), lvR w_GET, lvI ((p2_ &&& (7 : Int32)) - (1 : Int32))] [(.int ((p2_ &&& (7 : Int32)) - (1 : Int32))), (.int ((p0_ &&& (2147483647 : Int32)) % (5 : Int32))), (.int (1 : Int32))] _
              refine st54 _ ?_
              show own_S p e below m T54 98 #[lvI p0_, lvI p1_, lvI p2_, lvI ((p0_ &&& (2147483647 : Int32)) % (5 : Int32)), lvR w_GET, lvI ((p2_ &&& (7 : Int32)) - (1 : Int32))] [(.int (1 : Int32)), (.int (1 : Int32))] _
              refine XS.icmpNo X54.here hx rfl (hb hby at_98) rfl (teq (by decide : (1 : Int32) = (1 : Int32))).2 ?_
              refine XS.iconst X54.here hx rfl (hb hby at_101) ?_
              refine XS.goto X54.here hx rfl (pc0 := 102) (pc' := 106) rfl (hb hby at_102) (by decide) (by decide) ?_
              exact kt
            obtain ⟨fs, hr, hrun, hended, hW, hsame⟩ := X54.leave (v := some (.int (1 : Int32))) (fun h => by rw [Bd.returns] at h; cases h)
            refine ⟨_, _, hG _ (pre56 _ (retN X54 hx (t := .boolean) Bd.returns (by simp) (hb hby at_106) hr)), hrun, hended, _, _, rfl, ?_, ⟨_, rfl⟩, hW, hsame.mono (by decide) (by decide)⟩
            show QLaw Z p0_ p1_ p2_ w_GET w_SET w_DEL w_VDEL w_KEYNOTIFY h0 n0 _ T54.heap _
            rw [e54']
            exact ⟨rfl, N55⟩
          · exact absurd (by apply Decidable.by_contra; intro hz; have := own_i1; have := own_i7; simp only [Int32.lt_iff_toInt_lt, ← Int32.toInt_inj] at hz hq43_2_0 hq43_2_1; omega) hq54_1_1
          · exact absurd hq54_2_1 (by intro hz; have := own_i0; have := own_i2; have := own_j2147483647; have := own_i5; simp only [Int32.lt_iff_toInt_lt, ← Int32.toInt_inj] at hz hq41_0_0 hq54_2_0; omega)
          · exact absurd hq54_3_1 (by intro hz; have := own_i0; have := own_i2; have := own_j2147483647; have := own_i5; simp only [Int32.lt_iff_toInt_lt, ← Int32.toInt_inj] at hz hq41_0_0 hq54_3_0; omega)
          · exact absurd hq54_4_2 (by intro hz; have := own_i0; have := own_i1; have := own_i2; have := own_j2147483647; have := own_i5; simp only [Int32.lt_iff_toInt_lt, ← Int32.toInt_inj] at hz hq41_0_0 hq54_4_0 hq54_4_1; omega)
          · exact absurd hq54_5_2 (by intro hz; have := own_i0; have := own_i1; have := own_i2; have := own_j2147483647; have := own_i5; simp only [Int32.lt_iff_toInt_lt, ← Int32.toInt_inj] at hz hq41_0_0 hq54_5_0 hq54_5_1; omega)
          · exact absurd hq54_6_2 (by intro hz; have := own_i0; have := own_i1; have := own_i2; have := own_j2147483647; have := own_i5; simp only [Int32.lt_iff_toInt_lt, ← Int32.toInt_inj] at hz hq41_0_0 hq54_6_0 hq54_6_1; omega)
          · exact absurd hq54_7_2 (by intro hz; have := own_i0; have := own_i1; have := own_i2; have := own_j2147483647; have := own_i5; simp only [Int32.lt_iff_toInt_lt, ← Int32.toInt_inj] at hz hq41_0_0 hq54_7_0 hq54_7_1; omega)
          · exact absurd hq54_8_2 (by intro hz; have := own_i0; have := own_i1; have := own_i2; have := own_j2147483647; have := own_i5; simp only [Int32.lt_iff_toInt_lt, ← Int32.toInt_inj] at hz hq41_0_0 hq54_8_0 hq54_8_1; omega)
          · exact absurd hq54_9_3 (by intro hz; have := own_i0; have := own_i1; have := own_i2; have := own_j2147483647; have := own_i3; have := own_i5; simp only [Int32.lt_iff_toInt_lt, ← Int32.toInt_inj] at hz hq41_0_0 hq54_9_0 hq54_9_1 hq54_9_2; omega)
          · exact absurd hq54_10_3 (by intro hz; have := own_i0; have := own_i1; have := own_i2; have := own_j2147483647; have := own_i3; have := own_i5; simp only [Int32.lt_iff_toInt_lt, ← Int32.toInt_inj] at hz hq41_0_0 hq54_10_0 hq54_10_1 hq54_10_2; omega)
          · exact absurd (by apply Decidable.by_contra; intro hz; have := own_i0; have := own_j2147483647; have := own_i5; simp only [Int32.lt_iff_toInt_lt, ← Int32.toInt_inj] at hz hq41_0_0; omega) hq54_11_0
          · exact absurd (by apply Decidable.by_contra; intro hz; have := own_i0; have := own_j2147483647; have := own_i5; simp only [Int32.lt_iff_toInt_lt, ← Int32.toInt_inj] at hz hq41_0_0; omega) hq54_12_0
          · exact absurd (by apply Decidable.by_contra; intro hz; have := own_i0; have := own_j2147483647; have := own_i5; simp only [Int32.lt_iff_toInt_lt, ← Int32.toInt_inj] at hz hq41_0_0; omega) hq54_13_0
      · exact absurd (by apply Decidable.by_contra; intro hz; have := own_i1; simp only [Int32.lt_iff_toInt_lt, ← Int32.toInt_inj] at hz hq4_2_0 hq4_2_1; omega) hq41_1_1
      · exact absurd hq41_2_1 (by intro hz; have := own_i0; have := own_i2; have := own_j2147483647; have := own_i5; simp only [Int32.lt_iff_toInt_lt, ← Int32.toInt_inj] at hz hc2 hq41_2_0; omega)
      · exact absurd hq41_3_1 (by intro hz; have := own_i0; have := own_i2; have := own_j2147483647; have := own_i5; simp only [Int32.lt_iff_toInt_lt, ← Int32.toInt_inj] at hz hc2 hq41_3_0; omega)
      · exact absurd hq41_4_2 (by intro hz; have := own_i0; have := own_i1; have := own_i2; have := own_j2147483647; have := own_i5; simp only [Int32.lt_iff_toInt_lt, ← Int32.toInt_inj] at hz hc2 hq41_4_0 hq41_4_1; omega)
      · exact absurd hq41_5_2 (by intro hz; have := own_i0; have := own_i1; have := own_i2; have := own_j2147483647; have := own_i5; simp only [Int32.lt_iff_toInt_lt, ← Int32.toInt_inj] at hz hc2 hq41_5_0 hq41_5_1; omega)
      · exact absurd hq41_6_2 (by intro hz; have := own_i0; have := own_i1; have := own_i2; have := own_j2147483647; have := own_i5; simp only [Int32.lt_iff_toInt_lt, ← Int32.toInt_inj] at hz hc2 hq41_6_0 hq41_6_1; omega)
      · exact absurd hq41_7_2 (by intro hz; have := own_i0; have := own_i1; have := own_i2; have := own_j2147483647; have := own_i5; simp only [Int32.lt_iff_toInt_lt, ← Int32.toInt_inj] at hz hc2 hq41_7_0 hq41_7_1; omega)
      · exact absurd hq41_8_2 (by intro hz; have := own_i0; have := own_i1; have := own_i2; have := own_j2147483647; have := own_i5; simp only [Int32.lt_iff_toInt_lt, ← Int32.toInt_inj] at hz hc2 hq41_8_0 hq41_8_1; omega)
      · exact absurd hq41_9_3 (by intro hz; have := own_i0; have := own_i1; have := own_i2; have := own_j2147483647; have := own_i3; have := own_i5; simp only [Int32.lt_iff_toInt_lt, ← Int32.toInt_inj] at hz hc2 hq41_9_0 hq41_9_1 hq41_9_2; omega)
      · exact absurd hq41_10_3 (by intro hz; have := own_i0; have := own_i1; have := own_i2; have := own_j2147483647; have := own_i3; have := own_i5; simp only [Int32.lt_iff_toInt_lt, ← Int32.toInt_inj] at hz hc2 hq41_10_0 hq41_10_1 hq41_10_2; omega)
      · exact absurd (by apply Decidable.by_contra; intro hz; have := own_i0; have := own_j2147483647; have := own_i5; simp only [Int32.lt_iff_toInt_lt, ← Int32.toInt_inj] at hz hc2; omega) hq41_11_0
      · exact absurd (by apply Decidable.by_contra; intro hz; have := own_i0; have := own_j2147483647; have := own_i5; simp only [Int32.lt_iff_toInt_lt, ← Int32.toInt_inj] at hz hc2; omega) hq41_12_0
      · exact absurd (by apply Decidable.by_contra; intro hz; have := own_i0; have := own_j2147483647; have := own_i5; simp only [Int32.lt_iff_toInt_lt, ← Int32.toInt_inj] at hz hc2; omega) hq41_13_0
  · have pre58 : ∀ t, own_S p e below m s₁ 21 #[lvI p0_, lvI p1_, lvI p2_, lvI ((p0_ &&& (2147483647 : Int32)) % (5 : Int32)), .unset, .unset] [(.int (1 : Int32)), (.int ((p0_ &&& (2147483647 : Int32)) % (5 : Int32)))] t → G t := by
      intro t kt
      refine pre1 t ?_
      show own_S p e below m s₁ 8 #[lvI p0_, lvI p1_, lvI p2_, lvI ((p0_ &&& (2147483647 : Int32)) % (5 : Int32)), .unset, .unset] [(.int ((p0_ &&& (2147483647 : Int32)) % (5 : Int32)))] _
      refine XS.ifYes X0.here hx rfl (pc0 := 8) (pc' := 19) rfl (hb hby at_8) rfl ((if0 _ _).trans (feq hc2).2) (by decide) (by decide) ?_
      refine XS.iloadN X0.here hx rfl (hb hby at_19) rfl ?_
      refine XS.iconst X0.here hx rfl (hb hby at_20) ?_
      exact kt
    by_cases hc59 : ((p0_ &&& (2147483647 : Int32)) % (5 : Int32)) = (1 : Int32)
    · obtain ⟨T60, X60, e60, st60⟩ := getS2 X0 hx hZ hown (host := "") (Or.inl (own_w hw 17 rfl)) Via.refl e0 (P4.ext O0.2) (g := (mkF m 24 #[lvI p0_, lvI p1_, lvI p2_, lvI ((p0_ &&& (2147483647 : Int32)) % (5 : Int32)), .unset, .unset] [])) rfl (hb hby at_24)
      have f62 : Exa Z h0 w_SET cn0 := P5.ext O0.2
      obtain ⟨cq61, kq61, q61a, q61b, q61c⟩ := isOf hZ e60 f62
      obtain ⟨_, _, ⟨T61, L61, k61, n61⟩, -, X61, ⟨Lc61, hQ61, l61, y61, z61⟩, st61⟩ := X60.virtualBack hx (y := (⟨"com/example/fawley/fawley/protocol/Command", "takes", "(I)Z"⟩ : MethodName)) (z := (⟨"com/example/fawley/fawley/protocol/Command", "takes", "(I)Z"⟩ : MethodName)) hown (mvT hZ (own_w hw 4 rfl)) (mvT hZ (own_w hw 5 rfl)) (notFace_of_selects (args := #[]) (mvT hZ (own_w hw 7 rfl))) (mvT hZ (own_w hw 7 rfl)) (mvT hZ (own_w hw 6 rfl)) (by decide) (backOf (W := 0) (rmTak l Z a0 hw [] w_SET p1_ (2 : Int32) (5 : Int32) h0 n0 O0 P6 P7) hZ (own_w hw 8 rfl) (own_w hw 2 rfl) (by decide) (by decide)) q61a q61c (g := (mkF m 74 #[lvI p0_, lvI p1_, lvI p2_, lvI ((p0_ &&& (2147483647 : Int32)) % (5 : Int32)), lvR w_SET, lvI ((p2_ &&& (7 : Int32)) - (1 : Int32))] [(.int p1_), (.ref w_SET)])) rfl (by rw [hml]; rfl) (Steps.refl _) (argsL := [(.int p1_)]) (rest := []) (lenOf pd_0 rfl) rfl (by show 2 * 0 + _ ≤ _; exact Nat.le_of_eq rfl) (hb hby at_74) (fun _ _ => ⟨rfl, e60, (by decide : 0 + 0 ≤ _), (by decide : 0 + 0 ≤ _)⟩)
      dsimp only [Pt.U, Pt.locs, Pt.cells, Pt.slots] at X61 l61 y61 z61 st61 hQ61
      subst l61 y61 z61
      obtain ⟨h61, e61⟩ : ∃ z, T61.heap = z := ⟨_, rfl⟩
      rw [e61] at hQ61
      obtain ⟨rr61, rfl, hs61, N61q, hh61⟩ := hQ61
      have N63 := Fr.app N0 N61q
      have e61' : T61.heap = h0 := e61.trans hh61
      rcases hs61 with ⟨rfl, hq61_0_0⟩ | ⟨rfl, hq61_1_0, hq61_1_1⟩ | ⟨rfl, hq61_2_0, hq61_2_1⟩
      · obtain ⟨_, _, ⟨T64, L64, k64, n64⟩, -, X64, ⟨Lc64, hQ64, l64, y64, z64⟩, st64⟩ := Jvm.LawKit.callS X61 hx (y := (⟨"com/example/fawley/fawley/protocol/CommandTakesPinLaw", "expected", "(II)Z"⟩ : MethodName)) hown (mvT hZ (own_w hw 13 rfl)) (mvT hZ (own_w hw 14 rfl)) (mvT hZ (own_w hw 15 rfl)) (mvT hZ (own_w hw 16 rfl)) (by decide) (backOf (W := 1) (rmExp l Z a0 hw [] ((p0_ &&& (2147483647 : Int32)) % (5 : Int32)) p1_ h0 n0 O0 ) hZ (own_w hw 16 rfl) (own_w hw 15 rfl) (by decide) (by decide)) (g := (mkF m 79 #[lvI p0_, lvI p1_, lvI p2_, lvI ((p0_ &&& (2147483647 : Int32)) % (5 : Int32)), lvR w_SET, lvI ((p2_ &&& (7 : Int32)) - (1 : Int32))] [(.int p1_), (.int ((p0_ &&& (2147483647 : Int32)) % (5 : Int32))), (.int (0 : Int32))])) rfl (by rw [hml]; rfl) (argsL := [(.int ((p0_ &&& (2147483647 : Int32)) % (5 : Int32))), (.int p1_)]) (rest := [(.int (0 : Int32))]) (lenOf pd_1 rfl) rfl (by show 2 * 0 + _ ≤ _; exact Nat.le_of_eq rfl) (hb hby at_79) (fun _ _ => ⟨rfl, e61', (by decide : 0 + 0 ≤ _), (by decide : 0 + 0 ≤ _)⟩)
        dsimp only [Pt.U, Pt.locs, Pt.cells, Pt.slots] at X64 l64 y64 z64 st64 hQ64
        subst l64 y64 z64
        obtain ⟨h64, e64⟩ : ∃ z, T64.heap = z := ⟨_, rfl⟩
        rw [e64] at hQ64
        obtain ⟨rr64, rfl, hs64, N64q, hh64⟩ := hQ64
        have N65 := Fr.app N63 N64q
        have e64' : T64.heap = h0 := e64.trans hh64
        rcases hs64 with ⟨rfl, hq64_0_0, hq64_0_1⟩ | ⟨rfl, hq64_1_0, hq64_1_1⟩ | ⟨rfl, hq64_2_0, hq64_2_1, hq64_2_2⟩ | ⟨rfl, hq64_3_0, hq64_3_1, hq64_3_2⟩ | ⟨rfl, hq64_4_0, hq64_4_1, hq64_4_2, hq64_4_3⟩ | ⟨rfl, hq64_5_0, hq64_5_1, hq64_5_2, hq64_5_3, hq64_5_4⟩ | ⟨rfl, hq64_6_0, hq64_6_1, hq64_6_2, hq64_6_3, hq64_6_4, hq64_6_5⟩ | ⟨rfl, hq64_7_0, hq64_7_1, hq64_7_2, hq64_7_3, hq64_7_4, hq64_7_5, hq64_7_6⟩ | ⟨rfl, hq64_8_0, hq64_8_1, hq64_8_2, hq64_8_3, hq64_8_4, hq64_8_5, hq64_8_6⟩ | ⟨rfl, hq64_9_0, hq64_9_1, hq64_9_2, hq64_9_3, hq64_9_4⟩ | ⟨rfl, hq64_10_0, hq64_10_1, hq64_10_2, hq64_10_3, hq64_10_4⟩ | ⟨rfl, hq64_11_0, hq64_11_1, hq64_11_2, hq64_11_3, hq64_11_4⟩ | ⟨rfl, hq64_12_0, hq64_12_1, hq64_12_2, hq64_12_3, hq64_12_4, hq64_12_5⟩ | ⟨rfl, hq64_13_0, hq64_13_1, hq64_13_2, hq64_13_3, hq64_13_4, hq64_13_5⟩
        · exact absurd hq64_0_0 (by intro hz; have := own_i0; have := own_i1; have := own_j2147483647; have := own_i5; simp only [Int32.lt_iff_toInt_lt, ← Int32.toInt_inj] at hz hc2 hc59; omega)
        · exact absurd hq64_1_0 (by intro hz; have := own_i0; have := own_i1; have := own_j2147483647; have := own_i5; simp only [Int32.lt_iff_toInt_lt, ← Int32.toInt_inj] at hz hc2 hc59; omega)
        · exact absurd hq64_2_1 (by intro hz; have := own_i0; have := own_i1; have := own_i2; have := own_j2147483647; have := own_i5; simp only [Int32.lt_iff_toInt_lt, ← Int32.toInt_inj] at hz hq64_2_0 hc59; omega)
        · exact absurd hq64_3_1 (by intro hz; have := own_i0; have := own_i1; have := own_i2; have := own_j2147483647; have := own_i5; simp only [Int32.lt_iff_toInt_lt, ← Int32.toInt_inj] at hz hq64_3_0 hc59; omega)
        · exact absurd hq64_4_3 (by intro hz; have := own_i2; simp only [Int32.lt_iff_toInt_lt, ← Int32.toInt_inj] at hz hq61_0_0; omega)
        · exact absurd hq64_5_4 (by intro hz; have := own_i2; have := own_i3; simp only [Int32.lt_iff_toInt_lt, ← Int32.toInt_inj] at hz hq61_0_0 hq64_5_3; omega)
        · exact absurd hq64_6_5 (by intro hz; have := own_i2; have := own_i3; have := own_i4; simp only [Int32.lt_iff_toInt_lt, ← Int32.toInt_inj] at hz hq61_0_0 hq64_6_3 hq64_6_4; omega)
        · exact absurd hq64_7_6 (by intro hz; have := own_i2; have := own_i3; have := own_i4; have := own_i5; simp only [Int32.lt_iff_toInt_lt, ← Int32.toInt_inj] at hz hq61_0_0 hq64_7_3 hq64_7_4 hq64_7_5; omega)
        · have f67 : Exa Z h0 w_SET cn0 := P5.ext O0.2
          obtain ⟨cq66, kq66, q66a, q66b, q66c⟩ := isOf hZ e64' f67
          obtain ⟨_, _, ⟨T66, L66, k66, n66⟩, -, X66, ⟨Lc66, hQ66, l66, y66, z66⟩, st66⟩ := X64.virtualBack hx (y := (⟨"com/example/fawley/fawley/protocol/Command", "takes", "(I)Z"⟩ : MethodName)) (z := (⟨"com/example/fawley/fawley/protocol/Command", "takes", "(I)Z"⟩ : MethodName)) hown (mvT hZ (own_w hw 4 rfl)) (mvT hZ (own_w hw 5 rfl)) (notFace_of_selects (args := #[]) (mvT hZ (own_w hw 7 rfl))) (mvT hZ (own_w hw 7 rfl)) (mvT hZ (own_w hw 6 rfl)) (by decide) (backOf (W := 0) (rmTak l Z a0 hw [] w_SET ((p2_ &&& (7 : Int32)) - (1 : Int32)) (2 : Int32) (5 : Int32) h0 n0 O0 P6 P7) hZ (own_w hw 8 rfl) (own_w hw 2 rfl) (by decide) (by decide)) q66a q66c (g := (mkF m 89 #[lvI p0_, lvI p1_, lvI p2_, lvI ((p0_ &&& (2147483647 : Int32)) % (5 : Int32)), lvR w_SET, lvI ((p2_ &&& (7 : Int32)) - (1 : Int32))] [(.int ((p2_ &&& (7 : Int32)) - (1 : Int32))), (.ref w_SET)])) rfl (by rw [hml]; rfl) (Steps.refl _) (argsL := [(.int ((p2_ &&& (7 : Int32)) - (1 : Int32)))]) (rest := []) (lenOf pd_0 rfl) rfl (by show 2 * 0 + _ ≤ _; exact Nat.le_of_eq rfl) (hb hby at_89) (fun _ _ => ⟨rfl, e64', (by decide : 0 + 0 ≤ _), (by decide : 0 + 0 ≤ _)⟩)
          dsimp only [Pt.U, Pt.locs, Pt.cells, Pt.slots] at X66 l66 y66 z66 st66 hQ66
          subst l66 y66 z66
          obtain ⟨h66, e66⟩ : ∃ z, T66.heap = z := ⟨_, rfl⟩
          rw [e66] at hQ66
          obtain ⟨rr66, rfl, hs66, N66q, hh66⟩ := hQ66
          have N68 := Fr.app N65 N66q
          have e66' : T66.heap = h0 := e66.trans hh66
          rcases hs66 with ⟨rfl, hq66_0_0⟩ | ⟨rfl, hq66_1_0, hq66_1_1⟩ | ⟨rfl, hq66_2_0, hq66_2_1⟩
          · obtain ⟨_, _, ⟨T69, L69, k69, n69⟩, -, X69, ⟨Lc69, hQ69, l69, y69, z69⟩, st69⟩ := Jvm.LawKit.callS X66 hx (y := (⟨"com/example/fawley/fawley/protocol/CommandTakesPinLaw", "expected", "(II)Z"⟩ : MethodName)) hown (mvT hZ (own_w hw 13 rfl)) (mvT hZ (own_w hw 14 rfl)) (mvT hZ (own_w hw 15 rfl)) (mvT hZ (own_w hw 16 rfl)) (by decide) (backOf (W := 1) (rmExp l Z a0 hw [] ((p0_ &&& (2147483647 : Int32)) % (5 : Int32)) ((p2_ &&& (7 : Int32)) - (1 : Int32)) h0 n0 O0 ) hZ (own_w hw 16 rfl) (own_w hw 15 rfl) (by decide) (by decide)) (g := (mkF m 95 #[lvI p0_, lvI p1_, lvI p2_, lvI ((p0_ &&& (2147483647 : Int32)) % (5 : Int32)), lvR w_SET, lvI ((p2_ &&& (7 : Int32)) - (1 : Int32))] [(.int ((p2_ &&& (7 : Int32)) - (1 : Int32))), (.int ((p0_ &&& (2147483647 : Int32)) % (5 : Int32))), (.int (0 : Int32))])) rfl (by rw [hml]; rfl) (argsL := [(.int ((p0_ &&& (2147483647 : Int32)) % (5 : Int32))), (.int ((p2_ &&& (7 : Int32)) - (1 : Int32)))]) (rest := [(.int (0 : Int32))]) (lenOf pd_1 rfl) rfl (by show 2 * 0 + _ ≤ _; exact Nat.le_of_eq rfl) (hb hby at_95) (fun _ _ => ⟨rfl, e66', (by decide : 0 + 0 ≤ _), (by decide : 0 + 0 ≤ _)⟩)
            dsimp only [Pt.U, Pt.locs, Pt.cells, Pt.slots] at X69 l69 y69 z69 st69 hQ69
            subst l69 y69 z69
            obtain ⟨h69, e69⟩ : ∃ z, T69.heap = z := ⟨_, rfl⟩
            rw [e69] at hQ69
            obtain ⟨rr69, rfl, hs69, N69q, hh69⟩ := hQ69
            have N70 := Fr.app N68 N69q
            have e69' : T69.heap = h0 := e69.trans hh69
            rcases hs69 with ⟨rfl, hq69_0_0, hq69_0_1⟩ | ⟨rfl, hq69_1_0, hq69_1_1⟩ | ⟨rfl, hq69_2_0, hq69_2_1, hq69_2_2⟩ | ⟨rfl, hq69_3_0, hq69_3_1, hq69_3_2⟩ | ⟨rfl, hq69_4_0, hq69_4_1, hq69_4_2, hq69_4_3⟩ | ⟨rfl, hq69_5_0, hq69_5_1, hq69_5_2, hq69_5_3, hq69_5_4⟩ | ⟨rfl, hq69_6_0, hq69_6_1, hq69_6_2, hq69_6_3, hq69_6_4, hq69_6_5⟩ | ⟨rfl, hq69_7_0, hq69_7_1, hq69_7_2, hq69_7_3, hq69_7_4, hq69_7_5, hq69_7_6⟩ | ⟨rfl, hq69_8_0, hq69_8_1, hq69_8_2, hq69_8_3, hq69_8_4, hq69_8_5, hq69_8_6⟩ | ⟨rfl, hq69_9_0, hq69_9_1, hq69_9_2, hq69_9_3, hq69_9_4⟩ | ⟨rfl, hq69_10_0, hq69_10_1, hq69_10_2, hq69_10_3, hq69_10_4⟩ | ⟨rfl, hq69_11_0, hq69_11_1, hq69_11_2, hq69_11_3, hq69_11_4⟩ | ⟨rfl, hq69_12_0, hq69_12_1, hq69_12_2, hq69_12_3, hq69_12_4, hq69_12_5⟩ | ⟨rfl, hq69_13_0, hq69_13_1, hq69_13_2, hq69_13_3, hq69_13_4, hq69_13_5⟩
            · exact absurd hq69_0_0 (by intro hz; have := own_i0; have := own_i1; have := own_i2; have := own_j2147483647; have := own_i5; simp only [Int32.lt_iff_toInt_lt, ← Int32.toInt_inj] at hz hq64_8_0 hq64_8_2 hq64_8_1; omega)
            · exact absurd hq69_1_0 (by intro hz; have := own_i0; have := own_i1; have := own_i2; have := own_j2147483647; have := own_i5; simp only [Int32.lt_iff_toInt_lt, ← Int32.toInt_inj] at hz hq64_8_0 hq64_8_2 hq64_8_1; omega)
            · exact absurd hq69_2_1 (by intro hz; have := own_i0; have := own_i1; have := own_i2; have := own_j2147483647; have := own_i5; simp only [Int32.lt_iff_toInt_lt, ← Int32.toInt_inj] at hz hq69_2_0 hq64_8_2 hq64_8_1; omega)
            · exact absurd hq69_3_1 (by intro hz; have := own_i0; have := own_i1; have := own_i2; have := own_j2147483647; have := own_i5; simp only [Int32.lt_iff_toInt_lt, ← Int32.toInt_inj] at hz hq69_3_0 hq64_8_2 hq64_8_1; omega)
            · exact absurd hq69_4_3 (by intro hz; have := own_i1; have := own_i2; have := own_i7; simp only [Int32.lt_iff_toInt_lt, ← Int32.toInt_inj] at hz hq66_0_0; omega)
            · exact absurd hq69_5_4 (by intro hz; have := own_i1; have := own_i2; have := own_i3; have := own_i7; simp only [Int32.lt_iff_toInt_lt, ← Int32.toInt_inj] at hz hq66_0_0 hq69_5_3; omega)
            · exact absurd hq69_6_5 (by intro hz; have := own_i1; have := own_i2; have := own_i3; have := own_i4; have := own_i7; simp only [Int32.lt_iff_toInt_lt, ← Int32.toInt_inj] at hz hq66_0_0 hq69_6_3 hq69_6_4; omega)
            · exact absurd hq69_7_6 (by intro hz; have := own_i1; have := own_i2; have := own_i3; have := own_i4; have := own_i5; have := own_i7; simp only [Int32.lt_iff_toInt_lt, ← Int32.toInt_inj] at hz hq66_0_0 hq69_7_3 hq69_7_4 hq69_7_5; omega)
            · have pre71 : ∀ t, own_S p e below m T69 106 #[lvI p0_, lvI p1_, lvI p2_, lvI ((p0_ &&& (2147483647 : Int32)) % (5 : Int32)), lvR w_SET, lvI ((p2_ &&& (7 : Int32)) - (1 : Int32))] [(.int (1 : Int32))] t → G t := by
                intro t kt
                refine pre58 t ?_
                show own_S p e below m s₁ 21 #[lvI p0_, lvI p1_, lvI p2_, lvI ((p0_ &&& (2147483647 : Int32)) % (5 : Int32)), .unset, .unset] [(.int (1 : Int32)), (.int ((p0_ &&& (2147483647 : Int32)) % (5 : Int32)))] _
                refine XS.icmpNo X0.here hx rfl (hb hby at_21) rfl (teq hc59).2 ?_
                show own_S p e below m s₁ 24 #[lvI p0_, lvI p1_, lvI p2_, lvI ((p0_ &&& (2147483647 : Int32)) % (5 : Int32)), .unset, .unset] [] _
                refine st60 _ ?_
                refine XS.astore X60.here hx rfl (hb hby at_27) rfl rfl (l' := #[lvI p0_, lvI p1_, lvI p2_, lvI ((p0_ &&& (2147483647 : Int32)) % (5 : Int32)), lvR w_SET, .unset]) rfl ?_
                refine XS.goto X60.here hx rfl (pc0 := 29) (pc' := 63) rfl (hb hby at_29) (by decide) (by decide) ?_
                refine XS.iloadN X60.here hx rfl (hb hby at_63) rfl ?_
                refine XS.bipush X60.here hx rfl (hb hby at_64) ?_
                refine XS.iand X60.here hx rfl (hb hby at_66) rfl ?_
                show own_S p e below m T60 67 #[lvI p0_, lvI p1_, lvI p2_, lvI ((p0_ &&& (2147483647 : Int32)) % (5 : Int32)), lvR w_SET, .unset] [(.int (p2_ &&& (7 : Int32)))] _
                refine XS.iconst X60.here hx rfl (hb hby at_67) ?_
                refine XS.isub X60.here hx rfl (hb hby at_68) rfl ?_
                refine XS.istore X60.here hx rfl (hb hby at_69) rfl (l' := #[lvI p0_, lvI p1_, lvI p2_, lvI ((p0_ &&& (2147483647 : Int32)) % (5 : Int32)), lvR w_SET, lvI ((p2_ &&& (7 : Int32)) - (1 : Int32))]) rfl ?_
                refine XS.aload X60.here hx rfl (hb hby at_71) rfl rfl ?_
                refine XS.iloadN X60.here hx rfl (hb hby at_73) rfl ?_
                show own_S p e below m T60 74 #[lvI p0_, lvI p1_, lvI p2_, lvI ((p0_ &&& (2147483647 : Int32)) % (5 : Int32)), lvR w_SET, lvI ((p2_ &&& (7 : Int32)) - (1 : Int32))] [(.int p1_), (.ref w_SET)] _
                refine st61.trans ?_
                refine XS.iloadN X61.here hx rfl (hb hby at_77) rfl ?_
                refine XS.iloadN X61.here hx rfl (hb hby at_78) rfl ?_
                show own_S p e below m T61 79 #[lvI p0_, lvI p1_, lvI p2_, lvI ((p0_ &&& (2147483647 : Int32)) % (5 : Int32)), lvR w_SET, lvI ((p2_ &&& (7 : Int32)) - (1 : Int32))] [(.int p1_), (.int ((p0_ &&& (2147483647 : Int32)) % (5 : Int32))), (.int (0 : Int32))] _
                refine st64 _ ?_
                show own_S p e below m T64 82 #[lvI p0_, lvI p1_, lvI p2_, lvI ((p0_ &&& (2147483647 : Int32)) % (5 : Int32)), lvR w_SET, lvI ((p2_ &&& (7 : Int32)) - (1 : Int32))] [(.int (0 : Int32)), (.int (0 : Int32))] _
                refine XS.icmpNo X64.here hx rfl (hb hby at_82) rfl (teq (by decide : (0 : Int32) = (0 : Int32))).2 ?_
                refine XS.aload X64.here hx rfl (hb hby at_85) rfl rfl ?_
                refine XS.iload X64.here hx rfl (hb hby at_87) rfl ?_
                show own_S p e below m T64 89 #[lvI p0_, lvI p1_, lvI p2_, lvI ((p0_ &&& (2147483647 : Int32)) % (5 : Int32)), lvR w_SET, lvI ((p2_ &&& (7 : Int32)) - (1 : Int32))] [(.int ((p2_ &&& (7 : Int32)) - (1 : Int32))), (.ref w_SET)] _
                refine st66.trans ?_
                refine XS.iloadN X66.here hx rfl (hb hby at_92) rfl ?_
                refine XS.iload X66.here hx rfl (hb hby at_93) rfl ?_
                show own_S p e below m T66 95 #[lvI p0_, lvI p1_, lvI p2_, lvI ((p0_ &&& (2147483647 : Int32)) % (5 : Int32)), lvR w_SET, lvI ((p2_ &&& (7 : Int32)) - (1 : Int32))] [(.int ((p2_ &&& (7 : Int32)) - (1 : Int32))), (.int ((p0_ &&& (2147483647 : Int32)) % (5 : Int32))), (.int (0 : Int32))] _
                refine st69 _ ?_
                show own_S p e below m T69 98 #[lvI p0_, lvI p1_, lvI p2_, lvI ((p0_ &&& (2147483647 : Int32)) % (5 : Int32)), lvR w_SET, lvI ((p2_ &&& (7 : Int32)) - (1 : Int32))] [(.int (0 : Int32)), (.int (0 : Int32))] _
                refine XS.icmpNo X69.here hx rfl (hb hby at_98) rfl (teq (by decide : (0 : Int32) = (0 : Int32))).2 ?_
                refine XS.iconst X69.here hx rfl (hb hby at_101) ?_
                refine XS.goto X69.here hx rfl (pc0 := 102) (pc' := 106) rfl (hb hby at_102) (by decide) (by decide) ?_
                exact kt
              obtain ⟨fs, hr, hrun, hended, hW, hsame⟩ := X69.leave (v := some (.int (1 : Int32))) (fun h => by rw [Bd.returns] at h; cases h)
              refine ⟨_, _, hG _ (pre71 _ (retN X69 hx (t := .boolean) Bd.returns (by simp) (hb hby at_106) hr)), hrun, hended, _, _, rfl, ?_, ⟨_, rfl⟩, hW, hsame.mono (by decide) (by decide)⟩
              show QLaw Z p0_ p1_ p2_ w_GET w_SET w_DEL w_VDEL w_KEYNOTIFY h0 n0 _ T69.heap _
              rw [e69']
              exact ⟨rfl, N70⟩
            · exact absurd hq69_9_3 (by intro hz; have := own_i0; have := own_i1; have := own_i2; have := own_j2147483647; have := own_i3; have := own_i5; simp only [Int32.lt_iff_toInt_lt, ← Int32.toInt_inj] at hz hq69_9_0 hq64_8_2 hq69_9_1 hq69_9_2; omega)
            · exact absurd hq69_10_3 (by intro hz; have := own_i0; have := own_i1; have := own_i2; have := own_j2147483647; have := own_i3; have := own_i5; simp only [Int32.lt_iff_toInt_lt, ← Int32.toInt_inj] at hz hq69_10_0 hq64_8_2 hq69_10_1 hq69_10_2; omega)
            · exact absurd (by apply Decidable.by_contra; intro hz; have := own_i0; have := own_i1; have := own_i2; have := own_j2147483647; have := own_i5; simp only [Int32.lt_iff_toInt_lt, ← Int32.toInt_inj] at hz hq69_11_0 hq64_8_2 hq69_11_1; omega) hq69_11_2
            · exact absurd (by apply Decidable.by_contra; intro hz; have := own_i0; have := own_i1; have := own_i2; have := own_j2147483647; have := own_i5; simp only [Int32.lt_iff_toInt_lt, ← Int32.toInt_inj] at hz hq69_12_0 hq64_8_2 hq69_12_1; omega) hq69_12_2
            · exact absurd (by apply Decidable.by_contra; intro hz; have := own_i0; have := own_i1; have := own_i2; have := own_j2147483647; have := own_i5; simp only [Int32.lt_iff_toInt_lt, ← Int32.toInt_inj] at hz hq69_13_0 hq64_8_2 hq69_13_1; omega) hq69_13_2
          · obtain ⟨_, _, ⟨T73, L73, k73, n73⟩, -, X73, ⟨Lc73, hQ73, l73, y73, z73⟩, st73⟩ := Jvm.LawKit.callS X66 hx (y := (⟨"com/example/fawley/fawley/protocol/CommandTakesPinLaw", "expected", "(II)Z"⟩ : MethodName)) hown (mvT hZ (own_w hw 13 rfl)) (mvT hZ (own_w hw 14 rfl)) (mvT hZ (own_w hw 15 rfl)) (mvT hZ (own_w hw 16 rfl)) (by decide) (backOf (W := 1) (rmExp l Z a0 hw [] ((p0_ &&& (2147483647 : Int32)) % (5 : Int32)) ((p2_ &&& (7 : Int32)) - (1 : Int32)) h0 n0 O0 ) hZ (own_w hw 16 rfl) (own_w hw 15 rfl) (by decide) (by decide)) (g := (mkF m 95 #[lvI p0_, lvI p1_, lvI p2_, lvI ((p0_ &&& (2147483647 : Int32)) % (5 : Int32)), lvR w_SET, lvI ((p2_ &&& (7 : Int32)) - (1 : Int32))] [(.int ((p2_ &&& (7 : Int32)) - (1 : Int32))), (.int ((p0_ &&& (2147483647 : Int32)) % (5 : Int32))), (.int (0 : Int32))])) rfl (by rw [hml]; rfl) (argsL := [(.int ((p0_ &&& (2147483647 : Int32)) % (5 : Int32))), (.int ((p2_ &&& (7 : Int32)) - (1 : Int32)))]) (rest := [(.int (0 : Int32))]) (lenOf pd_1 rfl) rfl (by show 2 * 0 + _ ≤ _; exact Nat.le_of_eq rfl) (hb hby at_95) (fun _ _ => ⟨rfl, e66', (by decide : 0 + 0 ≤ _), (by decide : 0 + 0 ≤ _)⟩)
            dsimp only [Pt.U, Pt.locs, Pt.cells, Pt.slots] at X73 l73 y73 z73 st73 hQ73
            subst l73 y73 z73
            obtain ⟨h73, e73⟩ : ∃ z, T73.heap = z := ⟨_, rfl⟩
            rw [e73] at hQ73
            obtain ⟨rr73, rfl, hs73, N73q, hh73⟩ := hQ73
            have N74 := Fr.app N68 N73q
            have e73' : T73.heap = h0 := e73.trans hh73
            rcases hs73 with ⟨rfl, hq73_0_0, hq73_0_1⟩ | ⟨rfl, hq73_1_0, hq73_1_1⟩ | ⟨rfl, hq73_2_0, hq73_2_1, hq73_2_2⟩ | ⟨rfl, hq73_3_0, hq73_3_1, hq73_3_2⟩ | ⟨rfl, hq73_4_0, hq73_4_1, hq73_4_2, hq73_4_3⟩ | ⟨rfl, hq73_5_0, hq73_5_1, hq73_5_2, hq73_5_3, hq73_5_4⟩ | ⟨rfl, hq73_6_0, hq73_6_1, hq73_6_2, hq73_6_3, hq73_6_4, hq73_6_5⟩ | ⟨rfl, hq73_7_0, hq73_7_1, hq73_7_2, hq73_7_3, hq73_7_4, hq73_7_5, hq73_7_6⟩ | ⟨rfl, hq73_8_0, hq73_8_1, hq73_8_2, hq73_8_3, hq73_8_4, hq73_8_5, hq73_8_6⟩ | ⟨rfl, hq73_9_0, hq73_9_1, hq73_9_2, hq73_9_3, hq73_9_4⟩ | ⟨rfl, hq73_10_0, hq73_10_1, hq73_10_2, hq73_10_3, hq73_10_4⟩ | ⟨rfl, hq73_11_0, hq73_11_1, hq73_11_2, hq73_11_3, hq73_11_4⟩ | ⟨rfl, hq73_12_0, hq73_12_1, hq73_12_2, hq73_12_3, hq73_12_4, hq73_12_5⟩ | ⟨rfl, hq73_13_0, hq73_13_1, hq73_13_2, hq73_13_3, hq73_13_4, hq73_13_5⟩
            · exact absurd hq73_0_0 (by intro hz; have := own_i0; have := own_i1; have := own_i2; have := own_j2147483647; have := own_i5; simp only [Int32.lt_iff_toInt_lt, ← Int32.toInt_inj] at hz hq64_8_0 hq64_8_2 hq64_8_1; omega)
            · exact absurd hq73_1_0 (by intro hz; have := own_i0; have := own_i1; have := own_i2; have := own_j2147483647; have := own_i5; simp only [Int32.lt_iff_toInt_lt, ← Int32.toInt_inj] at hz hq64_8_0 hq64_8_2 hq64_8_1; omega)
            · exact absurd hq73_2_1 (by intro hz; have := own_i0; have := own_i1; have := own_i2; have := own_j2147483647; have := own_i5; simp only [Int32.lt_iff_toInt_lt, ← Int32.toInt_inj] at hz hq73_2_0 hq64_8_2 hq64_8_1; omega)
            · exact absurd hq73_3_1 (by intro hz; have := own_i0; have := own_i1; have := own_i2; have := own_j2147483647; have := own_i5; simp only [Int32.lt_iff_toInt_lt, ← Int32.toInt_inj] at hz hq73_3_0 hq64_8_2 hq64_8_1; omega)
            · exact absurd hq73_4_3 (by intro hz; have := own_i1; have := own_i2; have := own_i5; have := own_i7; simp only [Int32.lt_iff_toInt_lt, ← Int32.toInt_inj] at hz hq66_1_0 hq66_1_1; omega)
            · exact absurd hq73_5_4 (by intro hz; have := own_i1; have := own_i2; have := own_i3; have := own_i5; have := own_i7; simp only [Int32.lt_iff_toInt_lt, ← Int32.toInt_inj] at hz hq66_1_0 hq66_1_1 hq73_5_3; omega)
            · exact absurd hq73_6_5 (by intro hz; have := own_i1; have := own_i2; have := own_i3; have := own_i4; have := own_i5; have := own_i7; simp only [Int32.lt_iff_toInt_lt, ← Int32.toInt_inj] at hz hq66_1_0 hq66_1_1 hq73_6_3 hq73_6_4; omega)
            · exact absurd hq73_7_6 (by intro hz; have := own_i1; have := own_i2; have := own_i3; have := own_i4; have := own_i5; have := own_i7; simp only [Int32.lt_iff_toInt_lt, ← Int32.toInt_inj] at hz hq66_1_0 hq66_1_1 hq73_7_3 hq73_7_4 hq73_7_5; omega)
            · have pre75 : ∀ t, own_S p e below m T73 106 #[lvI p0_, lvI p1_, lvI p2_, lvI ((p0_ &&& (2147483647 : Int32)) % (5 : Int32)), lvR w_SET, lvI ((p2_ &&& (7 : Int32)) - (1 : Int32))] [(.int (1 : Int32))] t → G t := by
                intro t kt
                refine pre58 t ?_
                show own_S p e below m s₁ 21 #[lvI p0_, lvI p1_, lvI p2_, lvI ((p0_ &&& (2147483647 : Int32)) % (5 : Int32)), .unset, .unset] [(.int (1 : Int32)), (.int ((p0_ &&& (2147483647 : Int32)) % (5 : Int32)))] _
                refine XS.icmpNo X0.here hx rfl (hb hby at_21) rfl (teq hc59).2 ?_
                show own_S p e below m s₁ 24 #[lvI p0_, lvI p1_, lvI p2_, lvI ((p0_ &&& (2147483647 : Int32)) % (5 : Int32)), .unset, .unset] [] _
                refine st60 _ ?_
                refine XS.astore X60.here hx rfl (hb hby at_27) rfl rfl (l' := #[lvI p0_, lvI p1_, lvI p2_, lvI ((p0_ &&& (2147483647 : Int32)) % (5 : Int32)), lvR w_SET, .unset]) rfl ?_
                refine XS.goto X60.here hx rfl (pc0 := 29) (pc' := 63) rfl (hb hby at_29) (by decide) (by decide) ?_
                refine XS.iloadN X60.here hx rfl (hb hby at_63) rfl ?_
                refine XS.bipush X60.here hx rfl (hb hby at_64) ?_
                refine XS.iand X60.here hx rfl (hb hby at_66) rfl ?_
                show own_S p e below m T60 67 #[lvI p0_, lvI p1_, lvI p2_, lvI ((p0_ &&& (2147483647 : Int32)) % (5 : Int32)), lvR w_SET, .unset] [(.int (p2_ &&& (7 : Int32)))] _
                refine XS.iconst X60.here hx rfl (hb hby at_67) ?_
                refine XS.isub X60.here hx rfl (hb hby at_68) rfl ?_
                refine XS.istore X60.here hx rfl (hb hby at_69) rfl (l' := #[lvI p0_, lvI p1_, lvI p2_, lvI ((p0_ &&& (2147483647 : Int32)) % (5 : Int32)), lvR w_SET, lvI ((p2_ &&& (7 : Int32)) - (1 : Int32))]) rfl ?_
                refine XS.aload X60.here hx rfl (hb hby at_71) rfl rfl ?_
                refine XS.iloadN X60.here hx rfl (hb hby at_73) rfl ?_
                show own_S p e below m T60 74 #[lvI p0_, lvI p1_, lvI p2_, lvI ((p0_ &&& (2147483647 : Int32)) % (5 : Int32)), lvR w_SET, lvI ((p2_ &&& (7 : Int32)) - (1 : Int32))] [(.int p1_), (.ref w_SET)] _
                refine st61.trans ?_
                refine XS.iloadN X61.here hx rfl (hb hby at_77) rfl ?_
                refine XS.iloadN X61.here hx rfl (hb hby at_78) rfl ?_
                show own_S p e below m T61 79 #[lvI p0_, lvI p1_, lvI p2_, lvI ((p0_ &&& (2147483647 : Int32)) % (5 : Int32)), lvR w_SET, lvI ((p2_ &&& (7 : Int32)) - (1 : Int32))] [(.int p1_), (.int ((p0_ &&& (2147483647 : Int32)) % (5 : Int32))), (.int (0 : Int32))] _
                refine st64 _ ?_
                show own_S p e below m T64 82 #[lvI p0_, lvI p1_, lvI p2_, lvI ((p0_ &&& (2147483647 : Int32)) % (5 : Int32)), lvR w_SET, lvI ((p2_ &&& (7 : Int32)) - (1 : Int32))] [(.int (0 : Int32)), (.int (0 : Int32))] _
                refine XS.icmpNo X64.here hx rfl (hb hby at_82) rfl (teq (by decide : (0 : Int32) = (0 : Int32))).2 ?_
                refine XS.aload X64.here hx rfl (hb hby at_85) rfl rfl ?_
                refine XS.iload X64.here hx rfl (hb hby at_87) rfl ?_
                show own_S p e below m T64 89 #[lvI p0_, lvI p1_, lvI p2_, lvI ((p0_ &&& (2147483647 : Int32)) % (5 : Int32)), lvR w_SET, lvI ((p2_ &&& (7 : Int32)) - (1 : Int32))] [(.int ((p2_ &&& (7 : Int32)) - (1 : Int32))), (.ref w_SET)] _
                refine st66.trans ?_
                refine XS.iloadN X66.here hx rfl (hb hby at_92) rfl ?_
                refine XS.iload X66.here hx rfl (hb hby at_93) rfl ?_
                show own_S p e below m T66 95 #[lvI p0_, lvI p1_, lvI p2_, lvI ((p0_ &&& (2147483647 : Int32)) % (5 : Int32)), lvR w_SET, lvI ((p2_ &&& (7 : Int32)) - (1 : Int32))] [(.int ((p2_ &&& (7 : Int32)) - (1 : Int32))), (.int ((p0_ &&& (2147483647 : Int32)) % (5 : Int32))), (.int (0 : Int32))] _
                refine st73 _ ?_
                show own_S p e below m T73 98 #[lvI p0_, lvI p1_, lvI p2_, lvI ((p0_ &&& (2147483647 : Int32)) % (5 : Int32)), lvR w_SET, lvI ((p2_ &&& (7 : Int32)) - (1 : Int32))] [(.int (0 : Int32)), (.int (0 : Int32))] _
                refine XS.icmpNo X73.here hx rfl (hb hby at_98) rfl (teq (by decide : (0 : Int32) = (0 : Int32))).2 ?_
                refine XS.iconst X73.here hx rfl (hb hby at_101) ?_
                refine XS.goto X73.here hx rfl (pc0 := 102) (pc' := 106) rfl (hb hby at_102) (by decide) (by decide) ?_
                exact kt
              obtain ⟨fs, hr, hrun, hended, hW, hsame⟩ := X73.leave (v := some (.int (1 : Int32))) (fun h => by rw [Bd.returns] at h; cases h)
              refine ⟨_, _, hG _ (pre75 _ (retN X73 hx (t := .boolean) Bd.returns (by simp) (hb hby at_106) hr)), hrun, hended, _, _, rfl, ?_, ⟨_, rfl⟩, hW, hsame.mono (by decide) (by decide)⟩
              show QLaw Z p0_ p1_ p2_ w_GET w_SET w_DEL w_VDEL w_KEYNOTIFY h0 n0 _ T73.heap _
              rw [e73']
              exact ⟨rfl, N74⟩
            · exact absurd hq73_9_3 (by intro hz; have := own_i0; have := own_i1; have := own_i2; have := own_j2147483647; have := own_i3; have := own_i5; simp only [Int32.lt_iff_toInt_lt, ← Int32.toInt_inj] at hz hq73_9_0 hq64_8_2 hq73_9_1 hq73_9_2; omega)
            · exact absurd hq73_10_3 (by intro hz; have := own_i0; have := own_i1; have := own_i2; have := own_j2147483647; have := own_i3; have := own_i5; simp only [Int32.lt_iff_toInt_lt, ← Int32.toInt_inj] at hz hq73_10_0 hq64_8_2 hq73_10_1 hq73_10_2; omega)
            · exact absurd (by apply Decidable.by_contra; intro hz; have := own_i0; have := own_i1; have := own_i2; have := own_j2147483647; have := own_i5; simp only [Int32.lt_iff_toInt_lt, ← Int32.toInt_inj] at hz hq73_11_0 hq64_8_2 hq73_11_1; omega) hq73_11_2
            · exact absurd (by apply Decidable.by_contra; intro hz; have := own_i0; have := own_i1; have := own_i2; have := own_j2147483647; have := own_i5; simp only [Int32.lt_iff_toInt_lt, ← Int32.toInt_inj] at hz hq73_12_0 hq64_8_2 hq73_12_1; omega) hq73_12_2
            · exact absurd (by apply Decidable.by_contra; intro hz; have := own_i0; have := own_i1; have := own_i2; have := own_j2147483647; have := own_i5; simp only [Int32.lt_iff_toInt_lt, ← Int32.toInt_inj] at hz hq73_13_0 hq64_8_2 hq73_13_1; omega) hq73_13_2
          · obtain ⟨_, _, ⟨T77, L77, k77, n77⟩, -, X77, ⟨Lc77, hQ77, l77, y77, z77⟩, st77⟩ := Jvm.LawKit.callS X66 hx (y := (⟨"com/example/fawley/fawley/protocol/CommandTakesPinLaw", "expected", "(II)Z"⟩ : MethodName)) hown (mvT hZ (own_w hw 13 rfl)) (mvT hZ (own_w hw 14 rfl)) (mvT hZ (own_w hw 15 rfl)) (mvT hZ (own_w hw 16 rfl)) (by decide) (backOf (W := 1) (rmExp l Z a0 hw [] ((p0_ &&& (2147483647 : Int32)) % (5 : Int32)) ((p2_ &&& (7 : Int32)) - (1 : Int32)) h0 n0 O0 ) hZ (own_w hw 16 rfl) (own_w hw 15 rfl) (by decide) (by decide)) (g := (mkF m 95 #[lvI p0_, lvI p1_, lvI p2_, lvI ((p0_ &&& (2147483647 : Int32)) % (5 : Int32)), lvR w_SET, lvI ((p2_ &&& (7 : Int32)) - (1 : Int32))] [(.int ((p2_ &&& (7 : Int32)) - (1 : Int32))), (.int ((p0_ &&& (2147483647 : Int32)) % (5 : Int32))), (.int (1 : Int32))])) rfl (by rw [hml]; rfl) (argsL := [(.int ((p0_ &&& (2147483647 : Int32)) % (5 : Int32))), (.int ((p2_ &&& (7 : Int32)) - (1 : Int32)))]) (rest := [(.int (1 : Int32))]) (lenOf pd_1 rfl) rfl (by show 2 * 0 + _ ≤ _; exact Nat.le_of_eq rfl) (hb hby at_95) (fun _ _ => ⟨rfl, e66', (by decide : 0 + 0 ≤ _), (by decide : 0 + 0 ≤ _)⟩)
            dsimp only [Pt.U, Pt.locs, Pt.cells, Pt.slots] at X77 l77 y77 z77 st77 hQ77
            subst l77 y77 z77
            obtain ⟨h77, e77⟩ : ∃ z, T77.heap = z := ⟨_, rfl⟩
            rw [e77] at hQ77
            obtain ⟨rr77, rfl, hs77, N77q, hh77⟩ := hQ77
            have N78 := Fr.app N68 N77q
            have e77' : T77.heap = h0 := e77.trans hh77
            rcases hs77 with ⟨rfl, hq77_0_0, hq77_0_1⟩ | ⟨rfl, hq77_1_0, hq77_1_1⟩ | ⟨rfl, hq77_2_0, hq77_2_1, hq77_2_2⟩ | ⟨rfl, hq77_3_0, hq77_3_1, hq77_3_2⟩ | ⟨rfl, hq77_4_0, hq77_4_1, hq77_4_2, hq77_4_3⟩ | ⟨rfl, hq77_5_0, hq77_5_1, hq77_5_2, hq77_5_3, hq77_5_4⟩ | ⟨rfl, hq77_6_0, hq77_6_1, hq77_6_2, hq77_6_3, hq77_6_4, hq77_6_5⟩ | ⟨rfl, hq77_7_0, hq77_7_1, hq77_7_2, hq77_7_3, hq77_7_4, hq77_7_5, hq77_7_6⟩ | ⟨rfl, hq77_8_0, hq77_8_1, hq77_8_2, hq77_8_3, hq77_8_4, hq77_8_5, hq77_8_6⟩ | ⟨rfl, hq77_9_0, hq77_9_1, hq77_9_2, hq77_9_3, hq77_9_4⟩ | ⟨rfl, hq77_10_0, hq77_10_1, hq77_10_2, hq77_10_3, hq77_10_4⟩ | ⟨rfl, hq77_11_0, hq77_11_1, hq77_11_2, hq77_11_3, hq77_11_4⟩ | ⟨rfl, hq77_12_0, hq77_12_1, hq77_12_2, hq77_12_3, hq77_12_4, hq77_12_5⟩ | ⟨rfl, hq77_13_0, hq77_13_1, hq77_13_2, hq77_13_3, hq77_13_4, hq77_13_5⟩
            · exact absurd hq77_0_0 (by intro hz; have := own_i0; have := own_i1; have := own_i2; have := own_j2147483647; have := own_i5; simp only [Int32.lt_iff_toInt_lt, ← Int32.toInt_inj] at hz hq64_8_0 hq64_8_2 hq64_8_1; omega)
            · exact absurd hq77_1_0 (by intro hz; have := own_i0; have := own_i1; have := own_i2; have := own_j2147483647; have := own_i5; simp only [Int32.lt_iff_toInt_lt, ← Int32.toInt_inj] at hz hq64_8_0 hq64_8_2 hq64_8_1; omega)
            · exact absurd hq77_2_1 (by intro hz; have := own_i0; have := own_i1; have := own_i2; have := own_j2147483647; have := own_i5; simp only [Int32.lt_iff_toInt_lt, ← Int32.toInt_inj] at hz hq77_2_0 hq64_8_2 hq64_8_1; omega)
            · exact absurd hq77_3_1 (by intro hz; have := own_i0; have := own_i1; have := own_i2; have := own_j2147483647; have := own_i5; simp only [Int32.lt_iff_toInt_lt, ← Int32.toInt_inj] at hz hq77_3_0 hq64_8_2 hq64_8_1; omega)
            · have pre79 : ∀ t, own_S p e below m T77 106 #[lvI p0_, lvI p1_, lvI p2_, lvI ((p0_ &&& (2147483647 : Int32)) % (5 : Int32)), lvR w_SET, lvI ((p2_ &&& (7 : Int32)) - (1 : Int32))] [(.int (1 : Int32))] t → G t := by
                intro t kt
                refine pre58 t ?_
                show own_S p e below m s₁ 21 #[lvI p0_, lvI p1_, lvI p2_, lvI ((p0_ &&& (2147483647 : Int32)) % (5 : Int32)), .unset, .unset] [(.int (1 : Int32)), (.int ((p0_ &&& (2147483647 : Int32)) % (5 : Int32)))] _
                refine XS.icmpNo X0.here hx rfl (hb hby at_21) rfl (teq hc59).2 ?_
                show own_S p e below m s₁ 24 #[lvI p0_, lvI p1_, lvI p2_, lvI ((p0_ &&& (2147483647 : Int32)) % (5 : Int32)), .unset, .unset] [] _
                refine st60 _ ?_
                refine XS.astore X60.here hx rfl (hb hby at_27) rfl rfl (l' := #[lvI p0_, lvI p1_, lvI p2_, lvI ((p0_ &&& (2147483647 : Int32)) % (5 : Int32)), lvR w_SET, .unset]) rfl ?_
                refine XS.goto X60.here hx rfl (pc0 := 29) (pc' := 63) rfl (hb hby at_29) (by decide) (by decide) ?_
                refine XS.iloadN X60.here hx rfl (hb hby at_63) rfl ?_
                refine XS.bipush X60.here hx rfl (hb hby at_64) ?_
                refine XS.iand X60.here hx rfl (hb hby at_66) rfl ?_
                show own_S p e below m T60 67 #[lvI p0_, lvI p1_, lvI p2_, lvI ((p0_ &&& (2147483647 : Int32)) % (5 : Int32)), lvR w_SET, .unset] [(.int (p2_ &&& (7 : Int32)))] _
                refine XS.iconst X60.here hx rfl (hb hby at_67) ?_
                refine XS.isub X60.here hx rfl (hb hby at_68) rfl ?_
                refine XS.istore X60.here hx rfl (hb hby at_69) rfl (l' := #[lvI p0_, lvI p1_, lvI p2_, lvI ((p0_ &&& (2147483647 : Int32)) % (5 : Int32)), lvR w_SET, lvI ((p2_ &&& (7 : Int32)) - (1 : Int32))]) rfl ?_
                refine XS.aload X60.here hx rfl (hb hby at_71) rfl rfl ?_
                refine XS.iloadN X60.here hx rfl (hb hby at_73) rfl ?_
                show own_S p e below m T60 74 #[lvI p0_, lvI p1_, lvI p2_, lvI ((p0_ &&& (2147483647 : Int32)) % (5 : Int32)), lvR w_SET, lvI ((p2_ &&& (7 : Int32)) - (1 : Int32))] [(.int p1_), (.ref w_SET)] _
                refine st61.trans ?_
                refine XS.iloadN X61.here hx rfl (hb hby at_77) rfl ?_
                refine XS.iloadN X61.here hx rfl (hb hby at_78) rfl ?_
                show own_S p e below m T61 79 #[lvI p0_, lvI p1_, lvI p2_, lvI ((p0_ &&& (2147483647 : Int32)) % (5 : Int32)), lvR w_SET, lvI ((p2_ &&& (7 : Int32)) - (1 : Int32))] [(.int p1_), (.int ((p0_ &&& (2147483647 : Int32)) % (5 : Int32))), (.int (0 : Int32))] _
                refine st64 _ ?_
                show own_S p e below m T64 82 #[lvI p0_, lvI p1_, lvI p2_, lvI ((p0_ &&& (2147483647 : Int32)) % (5 : Int32)), lvR w_SET, lvI ((p2_ &&& (7 : Int32)) - (1 : Int32))] [(.int (0 : Int32)), (.int (0 : Int32))] _
                refine XS.icmpNo X64.here hx rfl (hb hby at_82) rfl (teq (by decide : (0 : Int32) = (0 : Int32))).2 ?_
                refine XS.aload X64.here hx rfl (hb hby at_85) rfl rfl ?_
                refine XS.iload X64.here hx rfl (hb hby at_87) rfl ?_
                show own_S p e below m T64 89 #[lvI p0_, lvI p1_, lvI p2_, lvI ((p0_ &&& (2147483647 : Int32)) % (5 : Int32)), lvR w_SET, lvI ((p2_ &&& (7 : Int32)) - (1 : Int32))] [(.int ((p2_ &&& (7 : Int32)) - (1 : Int32))), (.ref w_SET)] _
                refine st66.trans ?_
                refine XS.iloadN X66.here hx rfl (hb hby at_92) rfl ?_
                refine XS.iload X66.here hx rfl (hb hby at_93) rfl ?_
                show own_S p e below m T66 95 #[lvI p0_, lvI p1_, lvI p2_, lvI ((p0_ &&& (2147483647 : Int32)) % (5 : Int32)), lvR w_SET, lvI ((p2_ &&& (7 : Int32)) - (1 : Int32))] [(.int ((p2_ &&& (7 : Int32)) - (1 : Int32))), (.int ((p0_ &&& (2147483647 : Int32)) % (5 : Int32))), (.int (1 : Int32))] _
                refine st77 _ ?_
                show own_S p e below m T77 98 #[lvI p0_, lvI p1_, lvI p2_, lvI ((p0_ &&& (2147483647 : Int32)) % (5 : Int32)), lvR w_SET, lvI ((p2_ &&& (7 : Int32)) - (1 : Int32))] [(.int (1 : Int32)), (.int (1 : Int32))] _
                refine XS.icmpNo X77.here hx rfl (hb hby at_98) rfl (teq (by decide : (1 : Int32) = (1 : Int32))).2 ?_
                refine XS.iconst X77.here hx rfl (hb hby at_101) ?_
                refine XS.goto X77.here hx rfl (pc0 := 102) (pc' := 106) rfl (hb hby at_102) (by decide) (by decide) ?_
                exact kt
              obtain ⟨fs, hr, hrun, hended, hW, hsame⟩ := X77.leave (v := some (.int (1 : Int32))) (fun h => by rw [Bd.returns] at h; cases h)
              refine ⟨_, _, hG _ (pre79 _ (retN X77 hx (t := .boolean) Bd.returns (by simp) (hb hby at_106) hr)), hrun, hended, _, _, rfl, ?_, ⟨_, rfl⟩, hW, hsame.mono (by decide) (by decide)⟩
              show QLaw Z p0_ p1_ p2_ w_GET w_SET w_DEL w_VDEL w_KEYNOTIFY h0 n0 _ T77.heap _
              rw [e77']
              exact ⟨rfl, N78⟩
            · have pre81 : ∀ t, own_S p e below m T77 106 #[lvI p0_, lvI p1_, lvI p2_, lvI ((p0_ &&& (2147483647 : Int32)) % (5 : Int32)), lvR w_SET, lvI ((p2_ &&& (7 : Int32)) - (1 : Int32))] [(.int (1 : Int32))] t → G t := by
                intro t kt
                refine pre58 t ?_
                show own_S p e below m s₁ 21 #[lvI p0_, lvI p1_, lvI p2_, lvI ((p0_ &&& (2147483647 : Int32)) % (5 : Int32)), .unset, .unset] [(.int (1 : Int32)), (.int ((p0_ &&& (2147483647 : Int32)) % (5 : Int32)))] _
                refine XS.icmpNo X0.here hx rfl (hb hby at_21) rfl (teq hc59).2 ?_
                show own_S p e below m s₁ 24 #[lvI p0_, lvI p1_, lvI p2_, lvI ((p0_ &&& (2147483647 : Int32)) % (5 : Int32)), .unset, .unset] [] _
                refine st60 _ ?_
                refine XS.astore X60.here hx rfl (hb hby at_27) rfl rfl (l' := #[lvI p0_, lvI p1_, lvI p2_, lvI ((p0_ &&& (2147483647 : Int32)) % (5 : Int32)), lvR w_SET, .unset]) rfl ?_
                refine XS.goto X60.here hx rfl (pc0 := 29) (pc' := 63) rfl (hb hby at_29) (by decide) (by decide) ?_
                refine XS.iloadN X60.here hx rfl (hb hby at_63) rfl ?_
                refine XS.bipush X60.here hx rfl (hb hby at_64) ?_
                refine XS.iand X60.here hx rfl (hb hby at_66) rfl ?_
                show own_S p e below m T60 67 #[lvI p0_, lvI p1_, lvI p2_, lvI ((p0_ &&& (2147483647 : Int32)) % (5 : Int32)), lvR w_SET, .unset] [(.int (p2_ &&& (7 : Int32)))] _
                refine XS.iconst X60.here hx rfl (hb hby at_67) ?_
                refine XS.isub X60.here hx rfl (hb hby at_68) rfl ?_
                refine XS.istore X60.here hx rfl (hb hby at_69) rfl (l' := #[lvI p0_, lvI p1_, lvI p2_, lvI ((p0_ &&& (2147483647 : Int32)) % (5 : Int32)), lvR w_SET, lvI ((p2_ &&& (7 : Int32)) - (1 : Int32))]) rfl ?_
                refine XS.aload X60.here hx rfl (hb hby at_71) rfl rfl ?_
                refine XS.iloadN X60.here hx rfl (hb hby at_73) rfl ?_
                show own_S p e below m T60 74 #[lvI p0_, lvI p1_, lvI p2_, lvI ((p0_ &&& (2147483647 : Int32)) % (5 : Int32)), lvR w_SET, lvI ((p2_ &&& (7 : Int32)) - (1 : Int32))] [(.int p1_), (.ref w_SET)] _
                refine st61.trans ?_
                refine XS.iloadN X61.here hx rfl (hb hby at_77) rfl ?_
                refine XS.iloadN X61.here hx rfl (hb hby at_78) rfl ?_
                show own_S p e below m T61 79 #[lvI p0_, lvI p1_, lvI p2_, lvI ((p0_ &&& (2147483647 : Int32)) % (5 : Int32)), lvR w_SET, lvI ((p2_ &&& (7 : Int32)) - (1 : Int32))] [(.int p1_), (.int ((p0_ &&& (2147483647 : Int32)) % (5 : Int32))), (.int (0 : Int32))] _
                refine st64 _ ?_
                show own_S p e below m T64 82 #[lvI p0_, lvI p1_, lvI p2_, lvI ((p0_ &&& (2147483647 : Int32)) % (5 : Int32)), lvR w_SET, lvI ((p2_ &&& (7 : Int32)) - (1 : Int32))] [(.int (0 : Int32)), (.int (0 : Int32))] _
                refine XS.icmpNo X64.here hx rfl (hb hby at_82) rfl (teq (by decide : (0 : Int32) = (0 : Int32))).2 ?_
                refine XS.aload X64.here hx rfl (hb hby at_85) rfl rfl ?_
                refine XS.iload X64.here hx rfl (hb hby at_87) rfl ?_
                show own_S p e below m T64 89 #[lvI p0_, lvI p1_, lvI p2_, lvI ((p0_ &&& (2147483647 : Int32)) % (5 : Int32)), lvR w_SET, lvI ((p2_ &&& (7 : Int32)) - (1 : Int32))] [(.int ((p2_ &&& (7 : Int32)) - (1 : Int32))), (.ref w_SET)] _
                refine st66.trans ?_
                refine XS.iloadN X66.here hx rfl (hb hby at_92) rfl ?_
                refine XS.iload X66.here hx rfl (hb hby at_93) rfl ?_
                show own_S p e below m T66 95 #[lvI p0_, lvI p1_, lvI p2_, lvI ((p0_ &&& (2147483647 : Int32)) % (5 : Int32)), lvR w_SET, lvI ((p2_ &&& (7 : Int32)) - (1 : Int32))] [(.int ((p2_ &&& (7 : Int32)) - (1 : Int32))), (.int ((p0_ &&& (2147483647 : Int32)) % (5 : Int32))), (.int (1 : Int32))] _
                refine st77 _ ?_
                show own_S p e below m T77 98 #[lvI p0_, lvI p1_, lvI p2_, lvI ((p0_ &&& (2147483647 : Int32)) % (5 : Int32)), lvR w_SET, lvI ((p2_ &&& (7 : Int32)) - (1 : Int32))] [(.int (1 : Int32)), (.int (1 : Int32))] _
                refine XS.icmpNo X77.here hx rfl (hb hby at_98) rfl (teq (by decide : (1 : Int32) = (1 : Int32))).2 ?_
                refine XS.iconst X77.here hx rfl (hb hby at_101) ?_
                refine XS.goto X77.here hx rfl (pc0 := 102) (pc' := 106) rfl (hb hby at_102) (by decide) (by decide) ?_
                exact kt
              obtain ⟨fs, hr, hrun, hended, hW, hsame⟩ := X77.leave (v := some (.int (1 : Int32))) (fun h => by rw [Bd.returns] at h; cases h)
              refine ⟨_, _, hG _ (pre81 _ (retN X77 hx (t := .boolean) Bd.returns (by simp) (hb hby at_106) hr)), hrun, hended, _, _, rfl, ?_, ⟨_, rfl⟩, hW, hsame.mono (by decide) (by decide)⟩
              show QLaw Z p0_ p1_ p2_ w_GET w_SET w_DEL w_VDEL w_KEYNOTIFY h0 n0 _ T77.heap _
              rw [e77']
              exact ⟨rfl, N78⟩
            · have pre83 : ∀ t, own_S p e below m T77 106 #[lvI p0_, lvI p1_, lvI p2_, lvI ((p0_ &&& (2147483647 : Int32)) % (5 : Int32)), lvR w_SET, lvI ((p2_ &&& (7 : Int32)) - (1 : Int32))] [(.int (1 : Int32))] t → G t := by
                intro t kt
                refine pre58 t ?_
                show own_S p e below m s₁ 21 #[lvI p0_, lvI p1_, lvI p2_, lvI ((p0_ &&& (2147483647 : Int32)) % (5 : Int32)), .unset, .unset] [(.int (1 : Int32)), (.int ((p0_ &&& (2147483647 : Int32)) % (5 : Int32)))] _
                refine XS.icmpNo X0.here hx rfl (hb hby at_21) rfl (teq hc59).2 ?_
                show own_S p e below m s₁ 24 #[lvI p0_, lvI p1_, lvI p2_, lvI ((p0_ &&& (2147483647 : Int32)) % (5 : Int32)), .unset, .unset] [] _
                refine st60 _ ?_
                refine XS.astore X60.here hx rfl (hb hby at_27) rfl rfl (l' := #[lvI p0_, lvI p1_, lvI p2_, lvI ((p0_ &&& (2147483647 : Int32)) % (5 : Int32)), lvR w_SET, .unset]) rfl ?_
                refine XS.goto X60.here hx rfl (pc0 := 29) (pc' := 63) rfl (hb hby at_29) (by decide) (by decide) ?_
                refine XS.iloadN X60.here hx rfl (hb hby at_63) rfl ?_
                refine XS.bipush X60.here hx rfl (hb hby at_64) ?_
                refine XS.iand X60.here hx rfl (hb hby at_66) rfl ?_
                show own_S p e below m T60 67 #[lvI p0_, lvI p1_, lvI p2_, lvI ((p0_ &&& (2147483647 : Int32)) % (5 : Int32)), lvR w_SET, .unset] [(.int (p2_ &&& (7 : Int32)))] _
                refine XS.iconst X60.here hx rfl (hb hby at_67) ?_
                refine XS.isub X60.here hx rfl (hb hby at_68) rfl ?_
                refine XS.istore X60.here hx rfl (hb hby at_69) rfl (l' := #[lvI p0_, lvI p1_, lvI p2_, lvI ((p0_ &&& (2147483647 : Int32)) % (5 : Int32)), lvR w_SET, lvI ((p2_ &&& (7 : Int32)) - (1 : Int32))]) rfl ?_
                refine XS.aload X60.here hx rfl (hb hby at_71) rfl rfl ?_
                refine XS.iloadN X60.here hx rfl (hb hby at_73) rfl ?_
                show own_S p e below m T60 74 #[lvI p0_, lvI p1_, lvI p2_, lvI ((p0_ &&& (2147483647 : Int32)) % (5 : Int32)), lvR w_SET, lvI ((p2_ &&& (7 : Int32)) - (1 : Int32))] [(.int p1_), (.ref w_SET)] _
                refine st61.trans ?_
                refine XS.iloadN X61.here hx rfl (hb hby at_77) rfl ?_
                refine XS.iloadN X61.here hx rfl (hb hby at_78) rfl ?_
                show own_S p e below m T61 79 #[lvI p0_, lvI p1_, lvI p2_, lvI ((p0_ &&& (2147483647 : Int32)) % (5 : Int32)), lvR w_SET, lvI ((p2_ &&& (7 : Int32)) - (1 : Int32))] [(.int p1_), (.int ((p0_ &&& (2147483647 : Int32)) % (5 : Int32))), (.int (0 : Int32))] _
                refine st64 _ ?_
                show own_S p e below m T64 82 #[lvI p0_, lvI p1_, lvI p2_, lvI ((p0_ &&& (2147483647 : Int32)) % (5 : Int32)), lvR w_SET, lvI ((p2_ &&& (7 : Int32)) - (1 : Int32))] [(.int (0 : Int32)), (.int (0 : Int32))] _
                refine XS.icmpNo X64.here hx rfl (hb hby at_82) rfl (teq (by decide : (0 : Int32) = (0 : Int32))).2 ?_
                refine XS.aload X64.here hx rfl (hb hby at_85) rfl rfl ?_
                refine XS.iload X64.here hx rfl (hb hby at_87) rfl ?_
                show own_S p e below m T64 89 #[lvI p0_, lvI p1_, lvI p2_, lvI ((p0_ &&& (2147483647 : Int32)) % (5 : Int32)), lvR w_SET, lvI ((p2_ &&& (7 : Int32)) - (1 : Int32))] [(.int ((p2_ &&& (7 : Int32)) - (1 : Int32))), (.ref w_SET)] _
                refine st66.trans ?_
                refine XS.iloadN X66.here hx rfl (hb hby at_92) rfl ?_
                refine XS.iload X66.here hx rfl (hb hby at_93) rfl ?_
                show own_S p e below m T66 95 #[lvI p0_, lvI p1_, lvI p2_, lvI ((p0_ &&& (2147483647 : Int32)) % (5 : Int32)), lvR w_SET, lvI ((p2_ &&& (7 : Int32)) - (1 : Int32))] [(.int ((p2_ &&& (7 : Int32)) - (1 : Int32))), (.int ((p0_ &&& (2147483647 : Int32)) % (5 : Int32))), (.int (1 : Int32))] _
                refine st77 _ ?_
                show own_S p e below m T77 98 #[lvI p0_, lvI p1_, lvI p2_, lvI ((p0_ &&& (2147483647 : Int32)) % (5 : Int32)), lvR w_SET, lvI ((p2_ &&& (7 : Int32)) - (1 : Int32))] [(.int (1 : Int32)), (.int (1 : Int32))] _
                refine XS.icmpNo X77.here hx rfl (hb hby at_98) rfl (teq (by decide : (1 : Int32) = (1 : Int32))).2 ?_
                refine XS.iconst X77.here hx rfl (hb hby at_101) ?_
                refine XS.goto X77.here hx rfl (pc0 := 102) (pc' := 106) rfl (hb hby at_102) (by decide) (by decide) ?_
                exact kt
              obtain ⟨fs, hr, hrun, hended, hW, hsame⟩ := X77.leave (v := some (.int (1 : Int32))) (fun h => by rw [Bd.returns] at h; cases h)
              refine ⟨_, _, hG _ (pre83 _ (retN X77 hx (t := .boolean) Bd.returns (by simp) (hb hby at_106) hr)), hrun, hended, _, _, rfl, ?_, ⟨_, rfl⟩, hW, hsame.mono (by decide) (by decide)⟩
              show QLaw Z p0_ p1_ p2_ w_GET w_SET w_DEL w_VDEL w_KEYNOTIFY h0 n0 _ T77.heap _
              rw [e77']
              exact ⟨rfl, N78⟩
            · have pre85 : ∀ t, own_S p e below m T77 106 #[lvI p0_, lvI p1_, lvI p2_, lvI ((p0_ &&& (2147483647 : Int32)) % (5 : Int32)), lvR w_SET, lvI ((p2_ &&& (7 : Int32)) - (1 : Int32))] [(.int (1 : Int32))] t → G t := by
                intro t kt
                refine pre58 t ?_
                show own_S p e below m s₁ 21 #[lvI p0_, lvI p1_, lvI p2_, lvI ((p0_ &&& (2147483647 : Int32)) % (5 : Int32)), .unset, .unset] [(.int (1 : Int32)), (.int ((p0_ &&& (2147483647 : Int32)) % (5 : Int32)))] _
                refine XS.icmpNo X0.here hx rfl (hb hby at_21) rfl (teq hc59).2 ?_
                show own_S p e below m s₁ 24 #[lvI p0_, lvI p1_, lvI p2_, lvI ((p0_ &&& (2147483647 : Int32)) % (5 : Int32)), .unset, .unset] [] _
                refine st60 _ ?_
                refine XS.astore X60.here hx rfl (hb hby at_27) rfl rfl (l' := #[lvI p0_, lvI p1_, lvI p2_, lvI ((p0_ &&& (2147483647 : Int32)) % (5 : Int32)), lvR w_SET, .unset]) rfl ?_
                refine XS.goto X60.here hx rfl (pc0 := 29) (pc' := 63) rfl (hb hby at_29) (by decide) (by decide) ?_
                refine XS.iloadN X60.here hx rfl (hb hby at_63) rfl ?_
                refine XS.bipush X60.here hx rfl (hb hby at_64) ?_
                refine XS.iand X60.here hx rfl (hb hby at_66) rfl ?_
                show own_S p e below m T60 67 #[lvI p0_, lvI p1_, lvI p2_, lvI ((p0_ &&& (2147483647 : Int32)) % (5 : Int32)), lvR w_SET, .unset] [(.int (p2_ &&& (7 : Int32)))] _
                refine XS.iconst X60.here hx rfl (hb hby at_67) ?_
                refine XS.isub X60.here hx rfl (hb hby at_68) rfl ?_
                refine XS.istore X60.here hx rfl (hb hby at_69) rfl (l' := #[lvI p0_, lvI p1_, lvI p2_, lvI ((p0_ &&& (2147483647 : Int32)) % (5 : Int32)), lvR w_SET, lvI ((p2_ &&& (7 : Int32)) - (1 : Int32))]) rfl ?_
                refine XS.aload X60.here hx rfl (hb hby at_71) rfl rfl ?_
                refine XS.iloadN X60.here hx rfl (hb hby at_73) rfl ?_
                show own_S p e below m T60 74 #[lvI p0_, lvI p1_, lvI p2_, lvI ((p0_ &&& (2147483647 : Int32)) % (5 : Int32)), lvR w_SET, lvI ((p2_ &&& (7 : Int32)) - (1 : Int32))] [(.int p1_), (.ref w_SET)] _
                refine st61.trans ?_
                refine XS.iloadN X61.here hx rfl (hb hby at_77) rfl ?_
                refine XS.iloadN X61.here hx rfl (hb hby at_78) rfl ?_
                show own_S p e below m T61 79 #[lvI p0_, lvI p1_, lvI p2_, lvI ((p0_ &&& (2147483647 : Int32)) % (5 : Int32)), lvR w_SET, lvI ((p2_ &&& (7 : Int32)) - (1 : Int32))] [(.int p1_), (.int ((p0_ &&& (2147483647 : Int32)) % (5 : Int32))), (.int (0 : Int32))] _
                refine st64 _ ?_
                show own_S p e below m T64 82 #[lvI p0_, lvI p1_, lvI p2_, lvI ((p0_ &&& (2147483647 : Int32)) % (5 : Int32)), lvR w_SET, lvI ((p2_ &&& (7 : Int32)) - (1 : Int32))] [(.int (0 : Int32)), (.int (0 : Int32))] _
                refine XS.icmpNo X64.here hx rfl (hb hby at_82) rfl (teq (by decide : (0 : Int32) = (0 : Int32))).2 ?_
                refine XS.aload X64.here hx rfl (hb hby at_85) rfl rfl ?_
                refine XS.iload X64.here hx rfl (hb hby at_87) rfl ?_
                show own_S p e below m T64 89 #[lvI p0_, lvI p1_, lvI p2_, lvI ((p0_ &&& (2147483647 : Int32)) % (5 : Int32)), lvR w_SET, lvI ((p2_ &&& (7 : Int32)) - (1 : Int32))] [(.int ((p2_ &&& (7 : Int32)) - (1 : Int32))), (.ref w_SET)] _
                refine st66.trans ?_
                refine XS.iloadN X66.here hx rfl (hb hby at_92) rfl ?_
                refine XS.iload X66.here hx rfl (hb hby at_93) rfl ?_
                show own_S p e below m T66 95 #[lvI p0_, lvI p1_, lvI p2_, lvI ((p0_ &&& (2147483647 : Int32)) % (5 : Int32)), lvR w_SET, lvI ((p2_ &&& (7 : Int32)) - (1 : Int32))] [(.int ((p2_ &&& (7 : Int32)) - (1 : Int32))), (.int ((p0_ &&& (2147483647 : Int32)) % (5 : Int32))), (.int (1 : Int32))] _
                refine st77 _ ?_
                show own_S p e below m T77 98 #[lvI p0_, lvI p1_, lvI p2_, lvI ((p0_ &&& (2147483647 : Int32)) % (5 : Int32)), lvR w_SET, lvI ((p2_ &&& (7 : Int32)) - (1 : Int32))] [(.int (1 : Int32)), (.int (1 : Int32))] _
                refine XS.icmpNo X77.here hx rfl (hb hby at_98) rfl (teq (by decide : (1 : Int32) = (1 : Int32))).2 ?_
                refine XS.iconst X77.here hx rfl (hb hby at_101) ?_
                refine XS.goto X77.here hx rfl (pc0 := 102) (pc' := 106) rfl (hb hby at_102) (by decide) (by decide) ?_
                exact kt
              obtain ⟨fs, hr, hrun, hended, hW, hsame⟩ := X77.leave (v := some (.int (1 : Int32))) (fun h => by rw [Bd.returns] at h; cases h)
              refine ⟨_, _, hG _ (pre85 _ (retN X77 hx (t := .boolean) Bd.returns (by simp) (hb hby at_106) hr)), hrun, hended, _, _, rfl, ?_, ⟨_, rfl⟩, hW, hsame.mono (by decide) (by decide)⟩
              show QLaw Z p0_ p1_ p2_ w_GET w_SET w_DEL w_VDEL w_KEYNOTIFY h0 n0 _ T77.heap _
              rw [e77']
              exact ⟨rfl, N78⟩
            · exact absurd (by apply Decidable.by_contra; intro hz; have := own_i1; have := own_i2; have := own_i3; have := own_i4; have := own_i5; have := own_i7; simp only [Int32.lt_iff_toInt_lt, ← Int32.toInt_inj] at hz hq66_2_0 hq66_2_1 hq77_8_3 hq77_8_4 hq77_8_5; omega) hq77_8_6
            · exact absurd hq77_9_3 (by intro hz; have := own_i0; have := own_i1; have := own_i2; have := own_j2147483647; have := own_i3; have := own_i5; simp only [Int32.lt_iff_toInt_lt, ← Int32.toInt_inj] at hz hq77_9_0 hq64_8_2 hq77_9_1 hq77_9_2; omega)
            · exact absurd hq77_10_3 (by intro hz; have := own_i0; have := own_i1; have := own_i2; have := own_j2147483647; have := own_i3; have := own_i5; simp only [Int32.lt_iff_toInt_lt, ← Int32.toInt_inj] at hz hq77_10_0 hq64_8_2 hq77_10_1 hq77_10_2; omega)
            · exact absurd (by apply Decidable.by_contra; intro hz; have := own_i0; have := own_i1; have := own_i2; have := own_j2147483647; have := own_i5; simp only [Int32.lt_iff_toInt_lt, ← Int32.toInt_inj] at hz hq77_11_0 hq64_8_2 hq77_11_1; omega) hq77_11_2
            · exact absurd (by apply Decidable.by_contra; intro hz; have := own_i0; have := own_i1; have := own_i2; have := own_j2147483647; have := own_i5; simp only [Int32.lt_iff_toInt_lt, ← Int32.toInt_inj] at hz hq77_12_0 hq64_8_2 hq77_12_1; omega) hq77_12_2
            · exact absurd (by apply Decidable.by_contra; intro hz; have := own_i0; have := own_i1; have := own_i2; have := own_j2147483647; have := own_i5; simp only [Int32.lt_iff_toInt_lt, ← Int32.toInt_inj] at hz hq77_13_0 hq64_8_2 hq77_13_1; omega) hq77_13_2
        · exact absurd hq64_9_3 (by intro hz; have := own_i0; have := own_i1; have := own_i2; have := own_j2147483647; have := own_i3; have := own_i5; simp only [Int32.lt_iff_toInt_lt, ← Int32.toInt_inj] at hz hq64_9_0 hc59 hq64_9_1 hq64_9_2; omega)
        · exact absurd hq64_10_3 (by intro hz; have := own_i0; have := own_i1; have := own_i2; have := own_j2147483647; have := own_i3; have := own_i5; simp only [Int32.lt_iff_toInt_lt, ← Int32.toInt_inj] at hz hq64_10_0 hc59 hq64_10_1 hq64_10_2; omega)
        · exact absurd (by apply Decidable.by_contra; intro hz; have := own_i0; have := own_i1; have := own_i2; have := own_j2147483647; have := own_i5; simp only [Int32.lt_iff_toInt_lt, ← Int32.toInt_inj] at hz hq64_11_0 hc59 hq64_11_1; omega) hq64_11_2
        · exact absurd (by apply Decidable.by_contra; intro hz; have := own_i0; have := own_i1; have := own_i2; have := own_j2147483647; have := own_i5; simp only [Int32.lt_iff_toInt_lt, ← Int32.toInt_inj] at hz hq64_12_0 hc59 hq64_12_1; omega) hq64_12_2
        · exact absurd (by apply Decidable.by_contra; intro hz; have := own_i0; have := own_i1; have := own_i2; have := own_j2147483647; have := own_i5; simp only [Int32.lt_iff_toInt_lt, ← Int32.toInt_inj] at hz hq64_13_0 hc59 hq64_13_1; omega) hq64_13_2
      · obtain ⟨_, _, ⟨T87, L87, k87, n87⟩, -, X87, ⟨Lc87, hQ87, l87, y87, z87⟩, st87⟩ := Jvm.LawKit.callS X61 hx (y := (⟨"com/example/fawley/fawley/protocol/CommandTakesPinLaw", "expected", "(II)Z"⟩ : MethodName)) hown (mvT hZ (own_w hw 13 rfl)) (mvT hZ (own_w hw 14 rfl)) (mvT hZ (own_w hw 15 rfl)) (mvT hZ (own_w hw 16 rfl)) (by decide) (backOf (W := 1) (rmExp l Z a0 hw [] ((p0_ &&& (2147483647 : Int32)) % (5 : Int32)) p1_ h0 n0 O0 ) hZ (own_w hw 16 rfl) (own_w hw 15 rfl) (by decide) (by decide)) (g := (mkF m 79 #[lvI p0_, lvI p1_, lvI p2_, lvI ((p0_ &&& (2147483647 : Int32)) % (5 : Int32)), lvR w_SET, lvI ((p2_ &&& (7 : Int32)) - (1 : Int32))] [(.int p1_), (.int ((p0_ &&& (2147483647 : Int32)) % (5 : Int32))), (.int (0 : Int32))])) rfl (by rw [hml]; rfl) (argsL := [(.int ((p0_ &&& (2147483647 : Int32)) % (5 : Int32))), (.int p1_)]) (rest := [(.int (0 : Int32))]) (lenOf pd_1 rfl) rfl (by show 2 * 0 + _ ≤ _; exact Nat.le_of_eq rfl) (hb hby at_79) (fun _ _ => ⟨rfl, e61', (by decide : 0 + 0 ≤ _), (by decide : 0 + 0 ≤ _)⟩)
        dsimp only [Pt.U, Pt.locs, Pt.cells, Pt.slots] at X87 l87 y87 z87 st87 hQ87
        subst l87 y87 z87
        obtain ⟨h87, e87⟩ : ∃ z, T87.heap = z := ⟨_, rfl⟩
        rw [e87] at hQ87
        obtain ⟨rr87, rfl, hs87, N87q, hh87⟩ := hQ87
        have N88 := Fr.app N63 N87q
        have e87' : T87.heap = h0 := e87.trans hh87
        rcases hs87 with ⟨rfl, hq87_0_0, hq87_0_1⟩ | ⟨rfl, hq87_1_0, hq87_1_1⟩ | ⟨rfl, hq87_2_0, hq87_2_1, hq87_2_2⟩ | ⟨rfl, hq87_3_0, hq87_3_1, hq87_3_2⟩ | ⟨rfl, hq87_4_0, hq87_4_1, hq87_4_2, hq87_4_3⟩ | ⟨rfl, hq87_5_0, hq87_5_1, hq87_5_2, hq87_5_3, hq87_5_4⟩ | ⟨rfl, hq87_6_0, hq87_6_1, hq87_6_2, hq87_6_3, hq87_6_4, hq87_6_5⟩ | ⟨rfl, hq87_7_0, hq87_7_1, hq87_7_2, hq87_7_3, hq87_7_4, hq87_7_5, hq87_7_6⟩ | ⟨rfl, hq87_8_0, hq87_8_1, hq87_8_2, hq87_8_3, hq87_8_4, hq87_8_5, hq87_8_6⟩ | ⟨rfl, hq87_9_0, hq87_9_1, hq87_9_2, hq87_9_3, hq87_9_4⟩ | ⟨rfl, hq87_10_0, hq87_10_1, hq87_10_2, hq87_10_3, hq87_10_4⟩ | ⟨rfl, hq87_11_0, hq87_11_1, hq87_11_2, hq87_11_3, hq87_11_4⟩ | ⟨rfl, hq87_12_0, hq87_12_1, hq87_12_2, hq87_12_3, hq87_12_4, hq87_12_5⟩ | ⟨rfl, hq87_13_0, hq87_13_1, hq87_13_2, hq87_13_3, hq87_13_4, hq87_13_5⟩
        · exact absurd hq87_0_0 (by intro hz; have := own_i0; have := own_i1; have := own_j2147483647; have := own_i5; simp only [Int32.lt_iff_toInt_lt, ← Int32.toInt_inj] at hz hc2 hc59; omega)
        · exact absurd hq87_1_0 (by intro hz; have := own_i0; have := own_i1; have := own_j2147483647; have := own_i5; simp only [Int32.lt_iff_toInt_lt, ← Int32.toInt_inj] at hz hc2 hc59; omega)
        · exact absurd hq87_2_1 (by intro hz; have := own_i0; have := own_i1; have := own_i2; have := own_j2147483647; have := own_i5; simp only [Int32.lt_iff_toInt_lt, ← Int32.toInt_inj] at hz hq87_2_0 hc59; omega)
        · exact absurd hq87_3_1 (by intro hz; have := own_i0; have := own_i1; have := own_i2; have := own_j2147483647; have := own_i5; simp only [Int32.lt_iff_toInt_lt, ← Int32.toInt_inj] at hz hq87_3_0 hc59; omega)
        · exact absurd hq87_4_3 (by intro hz; have := own_i2; have := own_i5; simp only [Int32.lt_iff_toInt_lt, ← Int32.toInt_inj] at hz hq61_1_0 hq61_1_1; omega)
        · exact absurd hq87_5_4 (by intro hz; have := own_i2; have := own_i3; have := own_i5; simp only [Int32.lt_iff_toInt_lt, ← Int32.toInt_inj] at hz hq61_1_0 hq61_1_1 hq87_5_3; omega)
        · exact absurd hq87_6_5 (by intro hz; have := own_i2; have := own_i3; have := own_i4; have := own_i5; simp only [Int32.lt_iff_toInt_lt, ← Int32.toInt_inj] at hz hq61_1_0 hq61_1_1 hq87_6_3 hq87_6_4; omega)
        · exact absurd hq87_7_6 (by intro hz; have := own_i2; have := own_i3; have := own_i4; have := own_i5; simp only [Int32.lt_iff_toInt_lt, ← Int32.toInt_inj] at hz hq61_1_0 hq61_1_1 hq87_7_3 hq87_7_4 hq87_7_5; omega)
        · have f90 : Exa Z h0 w_SET cn0 := P5.ext O0.2
          obtain ⟨cq89, kq89, q89a, q89b, q89c⟩ := isOf hZ e87' f90
          obtain ⟨_, _, ⟨T89, L89, k89, n89⟩, -, X89, ⟨Lc89, hQ89, l89, y89, z89⟩, st89⟩ := X87.virtualBack hx (y := (⟨"com/example/fawley/fawley/protocol/Command", "takes", "(I)Z"⟩ : MethodName)) (z := (⟨"com/example/fawley/fawley/protocol/Command", "takes", "(I)Z"⟩ : MethodName)) hown (mvT hZ (own_w hw 4 rfl)) (mvT hZ (own_w hw 5 rfl)) (notFace_of_selects (args := #[]) (mvT hZ (own_w hw 7 rfl))) (mvT hZ (own_w hw 7 rfl)) (mvT hZ (own_w hw 6 rfl)) (by decide) (backOf (W := 0) (rmTak l Z a0 hw [] w_SET ((p2_ &&& (7 : Int32)) - (1 : Int32)) (2 : Int32) (5 : Int32) h0 n0 O0 P6 P7) hZ (own_w hw 8 rfl) (own_w hw 2 rfl) (by decide) (by decide)) q89a q89c (g := (mkF m 89 #[lvI p0_, lvI p1_, lvI p2_, lvI ((p0_ &&& (2147483647 : Int32)) % (5 : Int32)), lvR w_SET, lvI ((p2_ &&& (7 : Int32)) - (1 : Int32))] [(.int ((p2_ &&& (7 : Int32)) - (1 : Int32))), (.ref w_SET)])) rfl (by rw [hml]; rfl) (Steps.refl _) (argsL := [(.int ((p2_ &&& (7 : Int32)) - (1 : Int32)))]) (rest := []) (lenOf pd_0 rfl) rfl (by show 2 * 0 + _ ≤ _; exact Nat.le_of_eq rfl) (hb hby at_89) (fun _ _ => ⟨rfl, e87', (by decide : 0 + 0 ≤ _), (by decide : 0 + 0 ≤ _)⟩)
          dsimp only [Pt.U, Pt.locs, Pt.cells, Pt.slots] at X89 l89 y89 z89 st89 hQ89
          subst l89 y89 z89
          obtain ⟨h89, e89⟩ : ∃ z, T89.heap = z := ⟨_, rfl⟩
          rw [e89] at hQ89
          obtain ⟨rr89, rfl, hs89, N89q, hh89⟩ := hQ89
          have N91 := Fr.app N88 N89q
          have e89' : T89.heap = h0 := e89.trans hh89
          rcases hs89 with ⟨rfl, hq89_0_0⟩ | ⟨rfl, hq89_1_0, hq89_1_1⟩ | ⟨rfl, hq89_2_0, hq89_2_1⟩
          · obtain ⟨_, _, ⟨T92, L92, k92, n92⟩, -, X92, ⟨Lc92, hQ92, l92, y92, z92⟩, st92⟩ := Jvm.LawKit.callS X89 hx (y := (⟨"com/example/fawley/fawley/protocol/CommandTakesPinLaw", "expected", "(II)Z"⟩ : MethodName)) hown (mvT hZ (own_w hw 13 rfl)) (mvT hZ (own_w hw 14 rfl)) (mvT hZ (own_w hw 15 rfl)) (mvT hZ (own_w hw 16 rfl)) (by decide) (backOf (W := 1) (rmExp l Z a0 hw [] ((p0_ &&& (2147483647 : Int32)) % (5 : Int32)) ((p2_ &&& (7 : Int32)) - (1 : Int32)) h0 n0 O0 ) hZ (own_w hw 16 rfl) (own_w hw 15 rfl) (by decide) (by decide)) (g := (mkF m 95 #[lvI p0_, lvI p1_, lvI p2_, lvI ((p0_ &&& (2147483647 : Int32)) % (5 : Int32)), lvR w_SET, lvI ((p2_ &&& (7 : Int32)) - (1 : Int32))] [(.int ((p2_ &&& (7 : Int32)) - (1 : Int32))), (.int ((p0_ &&& (2147483647 : Int32)) % (5 : Int32))), (.int (0 : Int32))])) rfl (by rw [hml]; rfl) (argsL := [(.int ((p0_ &&& (2147483647 : Int32)) % (5 : Int32))), (.int ((p2_ &&& (7 : Int32)) - (1 : Int32)))]) (rest := [(.int (0 : Int32))]) (lenOf pd_1 rfl) rfl (by show 2 * 0 + _ ≤ _; exact Nat.le_of_eq rfl) (hb hby at_95) (fun _ _ => ⟨rfl, e89', (by decide : 0 + 0 ≤ _), (by decide : 0 + 0 ≤ _)⟩)
            dsimp only [Pt.U, Pt.locs, Pt.cells, Pt.slots] at X92 l92 y92 z92 st92 hQ92
            subst l92 y92 z92
            obtain ⟨h92, e92⟩ : ∃ z, T92.heap = z := ⟨_, rfl⟩
            rw [e92] at hQ92
            obtain ⟨rr92, rfl, hs92, N92q, hh92⟩ := hQ92
            have N93 := Fr.app N91 N92q
            have e92' : T92.heap = h0 := e92.trans hh92
            rcases hs92 with ⟨rfl, hq92_0_0, hq92_0_1⟩ | ⟨rfl, hq92_1_0, hq92_1_1⟩ | ⟨rfl, hq92_2_0, hq92_2_1, hq92_2_2⟩ | ⟨rfl, hq92_3_0, hq92_3_1, hq92_3_2⟩ | ⟨rfl, hq92_4_0, hq92_4_1, hq92_4_2, hq92_4_3⟩ | ⟨rfl, hq92_5_0, hq92_5_1, hq92_5_2, hq92_5_3, hq92_5_4⟩ | ⟨rfl, hq92_6_0, hq92_6_1, hq92_6_2, hq92_6_3, hq92_6_4, hq92_6_5⟩ | ⟨rfl, hq92_7_0, hq92_7_1, hq92_7_2, hq92_7_3, hq92_7_4, hq92_7_5, hq92_7_6⟩ | ⟨rfl, hq92_8_0, hq92_8_1, hq92_8_2, hq92_8_3, hq92_8_4, hq92_8_5, hq92_8_6⟩ | ⟨rfl, hq92_9_0, hq92_9_1, hq92_9_2, hq92_9_3, hq92_9_4⟩ | ⟨rfl, hq92_10_0, hq92_10_1, hq92_10_2, hq92_10_3, hq92_10_4⟩ | ⟨rfl, hq92_11_0, hq92_11_1, hq92_11_2, hq92_11_3, hq92_11_4⟩ | ⟨rfl, hq92_12_0, hq92_12_1, hq92_12_2, hq92_12_3, hq92_12_4, hq92_12_5⟩ | ⟨rfl, hq92_13_0, hq92_13_1, hq92_13_2, hq92_13_3, hq92_13_4, hq92_13_5⟩
            · exact absurd hq92_0_0 (by intro hz; have := own_i0; have := own_i1; have := own_i2; have := own_j2147483647; have := own_i5; simp only [Int32.lt_iff_toInt_lt, ← Int32.toInt_inj] at hz hq87_8_0 hq87_8_2 hq87_8_1; omega)
            · exact absurd hq92_1_0 (by intro hz; have := own_i0; have := own_i1; have := own_i2; have := own_j2147483647; have := own_i5; simp only [Int32.lt_iff_toInt_lt, ← Int32.toInt_inj] at hz hq87_8_0 hq87_8_2 hq87_8_1; omega)
            · exact absurd hq92_2_1 (by intro hz; have := own_i0; have := own_i1; have := own_i2; have := own_j2147483647; have := own_i5; simp only [Int32.lt_iff_toInt_lt, ← Int32.toInt_inj] at hz hq92_2_0 hq87_8_2 hq87_8_1; omega)
            · exact absurd hq92_3_1 (by intro hz; have := own_i0; have := own_i1; have := own_i2; have := own_j2147483647; have := own_i5; simp only [Int32.lt_iff_toInt_lt, ← Int32.toInt_inj] at hz hq92_3_0 hq87_8_2 hq87_8_1; omega)
            · exact absurd hq92_4_3 (by intro hz; have := own_i1; have := own_i2; have := own_i7; simp only [Int32.lt_iff_toInt_lt, ← Int32.toInt_inj] at hz hq89_0_0; omega)
            · exact absurd hq92_5_4 (by intro hz; have := own_i1; have := own_i2; have := own_i3; have := own_i7; simp only [Int32.lt_iff_toInt_lt, ← Int32.toInt_inj] at hz hq89_0_0 hq92_5_3; omega)
            · exact absurd hq92_6_5 (by intro hz; have := own_i1; have := own_i2; have := own_i3; have := own_i4; have := own_i7; simp only [Int32.lt_iff_toInt_lt, ← Int32.toInt_inj] at hz hq89_0_0 hq92_6_3 hq92_6_4; omega)
            · exact absurd hq92_7_6 (by intro hz; have := own_i1; have := own_i2; have := own_i3; have := own_i4; have := own_i5; have := own_i7; simp only [Int32.lt_iff_toInt_lt, ← Int32.toInt_inj] at hz hq89_0_0 hq92_7_3 hq92_7_4 hq92_7_5; omega)
            · have pre94 : ∀ t, own_S p e below m T92 106 #[lvI p0_, lvI p1_, lvI p2_, lvI ((p0_ &&& (2147483647 : Int32)) % (5 : Int32)), lvR w_SET, lvI ((p2_ &&& (7 : Int32)) - (1 : Int32))] [(.int (1 : Int32))] t → G t := by
                intro t kt
                refine pre58 t ?_
                show own_S p e below m s₁ 21 #[lvI p0_, lvI p1_, lvI p2_, lvI ((p0_ &&& (2147483647 : Int32)) % (5 : Int32)), .unset, .unset] [(.int (1 : Int32)), (.int ((p0_ &&& (2147483647 : Int32)) % (5 : Int32)))] _
                refine XS.icmpNo X0.here hx rfl (hb hby at_21) rfl (teq hc59).2 ?_
                show own_S p e below m s₁ 24 #[lvI p0_, lvI p1_, lvI p2_, lvI ((p0_ &&& (2147483647 : Int32)) % (5 : Int32)), .unset, .unset] [] _
                refine st60 _ ?_
                refine XS.astore X60.here hx rfl (hb hby at_27) rfl rfl (l' := #[lvI p0_, lvI p1_, lvI p2_, lvI ((p0_ &&& (2147483647 : Int32)) % (5 : Int32)), lvR w_SET, .unset]) rfl ?_
                refine XS.goto X60.here hx rfl (pc0 := 29) (pc' := 63) rfl (hb hby at_29) (by decide) (by decide) ?_
                refine XS.iloadN X60.here hx rfl (hb hby at_63) rfl ?_
                refine XS.bipush X60.here hx rfl (hb hby at_64) ?_
                refine XS.iand X60.here hx rfl (hb hby at_66) rfl ?_
                show own_S p e below m T60 67 #[lvI p0_, lvI p1_, lvI p2_, lvI ((p0_ &&& (2147483647 : Int32)) % (5 : Int32)), lvR w_SET, .unset] [(.int (p2_ &&& (7 : Int32)))] _
                refine XS.iconst X60.here hx rfl (hb hby at_67) ?_
                refine XS.isub X60.here hx rfl (hb hby at_68) rfl ?_
                refine XS.istore X60.here hx rfl (hb hby at_69) rfl (l' := #[lvI p0_, lvI p1_, lvI p2_, lvI ((p0_ &&& (2147483647 : Int32)) % (5 : Int32)), lvR w_SET, lvI ((p2_ &&& (7 : Int32)) - (1 : Int32))]) rfl ?_
                refine XS.aload X60.here hx rfl (hb hby at_71) rfl rfl ?_
                refine XS.iloadN X60.here hx rfl (hb hby at_73) rfl ?_
                show own_S p e below m T60 74 #[lvI p0_, lvI p1_, lvI p2_, lvI ((p0_ &&& (2147483647 : Int32)) % (5 : Int32)), lvR w_SET, lvI ((p2_ &&& (7 : Int32)) - (1 : Int32))] [(.int p1_), (.ref w_SET)] _
                refine st61.trans ?_
                refine XS.iloadN X61.here hx rfl (hb hby at_77) rfl ?_
                refine XS.iloadN X61.here hx rfl (hb hby at_78) rfl ?_
                show own_S p e below m T61 79 #[lvI p0_, lvI p1_, lvI p2_, lvI ((p0_ &&& (2147483647 : Int32)) % (5 : Int32)), lvR w_SET, lvI ((p2_ &&& (7 : Int32)) - (1 : Int32))] [(.int p1_), (.int ((p0_ &&& (2147483647 : Int32)) % (5 : Int32))), (.int (0 : Int32))] _
                refine st87 _ ?_
                show own_S p e below m T87 82 #[lvI p0_, lvI p1_, lvI p2_, lvI ((p0_ &&& (2147483647 : Int32)) % (5 : Int32)), lvR w_SET, lvI ((p2_ &&& (7 : Int32)) - (1 : Int32))] [(.int (0 : Int32)), (.int (0 : Int32))] _
                refine XS.icmpNo X87.here hx rfl (hb hby at_82) rfl (teq (by decide : (0 : Int32) = (0 : Int32))).2 ?_
                refine XS.aload X87.here hx rfl (hb hby at_85) rfl rfl ?_
                refine XS.iload X87.here hx rfl (hb hby at_87) rfl ?_
                show own_S p e below m T87 89 #[lvI p0_, lvI p1_, lvI p2_, lvI ((p0_ &&& (2147483647 : Int32)) % (5 : Int32)), lvR w_SET, lvI ((p2_ &&& (7 : Int32)) - (1 : Int32))] [(.int ((p2_ &&& (7 : Int32)) - (1 : Int32))), (.ref w_SET)] _
                refine st89.trans ?_
                refine XS.iloadN X89.here hx rfl (hb hby at_92) rfl ?_
                refine XS.iload X89.here hx rfl (hb hby at_93) rfl ?_
                show own_S p e below m T89 95 #[lvI p0_, lvI p1_, lvI p2_, lvI ((p0_ &&& (2147483647 : Int32)) % (5 : Int32)), lvR w_SET, lvI ((p2_ &&& (7 : Int32)) - (1 : Int32))] [(.int ((p2_ &&& (7 : Int32)) - (1 : Int32))), (.int ((p0_ &&& (2147483647 : Int32)) % (5 : Int32))), (.int (0 : Int32))] _
                refine st92 _ ?_
                show own_S p e below m T92 98 #[lvI p0_, lvI p1_, lvI p2_, lvI ((p0_ &&& (2147483647 : Int32)) % (5 : Int32)), lvR w_SET, lvI ((p2_ &&& (7 : Int32)) - (1 : Int32))] [(.int (0 : Int32)), (.int (0 : Int32))] _
                refine XS.icmpNo X92.here hx rfl (hb hby at_98) rfl (teq (by decide : (0 : Int32) = (0 : Int32))).2 ?_
                refine XS.iconst X92.here hx rfl (hb hby at_101) ?_
                refine XS.goto X92.here hx rfl (pc0 := 102) (pc' := 106) rfl (hb hby at_102) (by decide) (by decide) ?_
                exact kt
              obtain ⟨fs, hr, hrun, hended, hW, hsame⟩ := X92.leave (v := some (.int (1 : Int32))) (fun h => by rw [Bd.returns] at h; cases h)
              refine ⟨_, _, hG _ (pre94 _ (retN X92 hx (t := .boolean) Bd.returns (by simp) (hb hby at_106) hr)), hrun, hended, _, _, rfl, ?_, ⟨_, rfl⟩, hW, hsame.mono (by decide) (by decide)⟩
              show QLaw Z p0_ p1_ p2_ w_GET w_SET w_DEL w_VDEL w_KEYNOTIFY h0 n0 _ T92.heap _
              rw [e92']
              exact ⟨rfl, N93⟩
            · exact absurd hq92_9_3 (by intro hz; have := own_i0; have := own_i1; have := own_i2; have := own_j2147483647; have := own_i3; have := own_i5; simp only [Int32.lt_iff_toInt_lt, ← Int32.toInt_inj] at hz hq92_9_0 hq87_8_2 hq92_9_1 hq92_9_2; omega)
            · exact absurd hq92_10_3 (by intro hz; have := own_i0; have := own_i1; have := own_i2; have := own_j2147483647; have := own_i3; have := own_i5; simp only [Int32.lt_iff_toInt_lt, ← Int32.toInt_inj] at hz hq92_10_0 hq87_8_2 hq92_10_1 hq92_10_2; omega)
            · exact absurd (by apply Decidable.by_contra; intro hz; have := own_i0; have := own_i1; have := own_i2; have := own_j2147483647; have := own_i5; simp only [Int32.lt_iff_toInt_lt, ← Int32.toInt_inj] at hz hq92_11_0 hq87_8_2 hq92_11_1; omega) hq92_11_2
            · exact absurd (by apply Decidable.by_contra; intro hz; have := own_i0; have := own_i1; have := own_i2; have := own_j2147483647; have := own_i5; simp only [Int32.lt_iff_toInt_lt, ← Int32.toInt_inj] at hz hq92_12_0 hq87_8_2 hq92_12_1; omega) hq92_12_2
            · exact absurd (by apply Decidable.by_contra; intro hz; have := own_i0; have := own_i1; have := own_i2; have := own_j2147483647; have := own_i5; simp only [Int32.lt_iff_toInt_lt, ← Int32.toInt_inj] at hz hq92_13_0 hq87_8_2 hq92_13_1; omega) hq92_13_2
          · obtain ⟨_, _, ⟨T96, L96, k96, n96⟩, -, X96, ⟨Lc96, hQ96, l96, y96, z96⟩, st96⟩ := Jvm.LawKit.callS X89 hx (y := (⟨"com/example/fawley/fawley/protocol/CommandTakesPinLaw", "expected", "(II)Z"⟩ : MethodName)) hown (mvT hZ (own_w hw 13 rfl)) (mvT hZ (own_w hw 14 rfl)) (mvT hZ (own_w hw 15 rfl)) (mvT hZ (own_w hw 16 rfl)) (by decide) (backOf (W := 1) (rmExp l Z a0 hw [] ((p0_ &&& (2147483647 : Int32)) % (5 : Int32)) ((p2_ &&& (7 : Int32)) - (1 : Int32)) h0 n0 O0 ) hZ (own_w hw 16 rfl) (own_w hw 15 rfl) (by decide) (by decide)) (g := (mkF m 95 #[lvI p0_, lvI p1_, lvI p2_, lvI ((p0_ &&& (2147483647 : Int32)) % (5 : Int32)), lvR w_SET, lvI ((p2_ &&& (7 : Int32)) - (1 : Int32))] [(.int ((p2_ &&& (7 : Int32)) - (1 : Int32))), (.int ((p0_ &&& (2147483647 : Int32)) % (5 : Int32))), (.int (0 : Int32))])) rfl (by rw [hml]; rfl) (argsL := [(.int ((p0_ &&& (2147483647 : Int32)) % (5 : Int32))), (.int ((p2_ &&& (7 : Int32)) - (1 : Int32)))]) (rest := [(.int (0 : Int32))]) (lenOf pd_1 rfl) rfl (by show 2 * 0 + _ ≤ _; exact Nat.le_of_eq rfl) (hb hby at_95) (fun _ _ => ⟨rfl, e89', (by decide : 0 + 0 ≤ _), (by decide : 0 + 0 ≤ _)⟩)
            dsimp only [Pt.U, Pt.locs, Pt.cells, Pt.slots] at X96 l96 y96 z96 st96 hQ96
            subst l96 y96 z96
            obtain ⟨h96, e96⟩ : ∃ z, T96.heap = z := ⟨_, rfl⟩
            rw [e96] at hQ96
            obtain ⟨rr96, rfl, hs96, N96q, hh96⟩ := hQ96
            have N97 := Fr.app N91 N96q
            have e96' : T96.heap = h0 := e96.trans hh96
            rcases hs96 with ⟨rfl, hq96_0_0, hq96_0_1⟩ | ⟨rfl, hq96_1_0, hq96_1_1⟩ | ⟨rfl, hq96_2_0, hq96_2_1, hq96_2_2⟩ | ⟨rfl, hq96_3_0, hq96_3_1, hq96_3_2⟩ | ⟨rfl, hq96_4_0, hq96_4_1, hq96_4_2, hq96_4_3⟩ | ⟨rfl, hq96_5_0, hq96_5_1, hq96_5_2, hq96_5_3, hq96_5_4⟩ | ⟨rfl, hq96_6_0, hq96_6_1, hq96_6_2, hq96_6_3, hq96_6_4, hq96_6_5⟩ | ⟨rfl, hq96_7_0, hq96_7_1, hq96_7_2, hq96_7_3, hq96_7_4, hq96_7_5, hq96_7_6⟩ | ⟨rfl, hq96_8_0, hq96_8_1, hq96_8_2, hq96_8_3, hq96_8_4, hq96_8_5, hq96_8_6⟩ | ⟨rfl, hq96_9_0, hq96_9_1, hq96_9_2, hq96_9_3, hq96_9_4⟩ | ⟨rfl, hq96_10_0, hq96_10_1, hq96_10_2, hq96_10_3, hq96_10_4⟩ | ⟨rfl, hq96_11_0, hq96_11_1, hq96_11_2, hq96_11_3, hq96_11_4⟩ | ⟨rfl, hq96_12_0, hq96_12_1, hq96_12_2, hq96_12_3, hq96_12_4, hq96_12_5⟩ | ⟨rfl, hq96_13_0, hq96_13_1, hq96_13_2, hq96_13_3, hq96_13_4, hq96_13_5⟩
            · exact absurd hq96_0_0 (by intro hz; have := own_i0; have := own_i1; have := own_i2; have := own_j2147483647; have := own_i5; simp only [Int32.lt_iff_toInt_lt, ← Int32.toInt_inj] at hz hq87_8_0 hq87_8_2 hq87_8_1; omega)
            · exact absurd hq96_1_0 (by intro hz; have := own_i0; have := own_i1; have := own_i2; have := own_j2147483647; have := own_i5; simp only [Int32.lt_iff_toInt_lt, ← Int32.toInt_inj] at hz hq87_8_0 hq87_8_2 hq87_8_1; omega)
            · exact absurd hq96_2_1 (by intro hz; have := own_i0; have := own_i1; have := own_i2; have := own_j2147483647; have := own_i5; simp only [Int32.lt_iff_toInt_lt, ← Int32.toInt_inj] at hz hq96_2_0 hq87_8_2 hq87_8_1; omega)
            · exact absurd hq96_3_1 (by intro hz; have := own_i0; have := own_i1; have := own_i2; have := own_j2147483647; have := own_i5; simp only [Int32.lt_iff_toInt_lt, ← Int32.toInt_inj] at hz hq96_3_0 hq87_8_2 hq87_8_1; omega)
            · exact absurd hq96_4_3 (by intro hz; have := own_i1; have := own_i2; have := own_i5; have := own_i7; simp only [Int32.lt_iff_toInt_lt, ← Int32.toInt_inj] at hz hq89_1_0 hq89_1_1; omega)
            · exact absurd hq96_5_4 (by intro hz; have := own_i1; have := own_i2; have := own_i3; have := own_i5; have := own_i7; simp only [Int32.lt_iff_toInt_lt, ← Int32.toInt_inj] at hz hq89_1_0 hq89_1_1 hq96_5_3; omega)
            · exact absurd hq96_6_5 (by intro hz; have := own_i1; have := own_i2; have := own_i3; have := own_i4; have := own_i5; have := own_i7; simp only [Int32.lt_iff_toInt_lt, ← Int32.toInt_inj] at hz hq89_1_0 hq89_1_1 hq96_6_3 hq96_6_4; omega)
            · exact absurd hq96_7_6 (by intro hz; have := own_i1; have := own_i2; have := own_i3; have := own_i4; have := own_i5; have := own_i7; simp only [Int32.lt_iff_toInt_lt, ← Int32.toInt_inj] at hz hq89_1_0 hq89_1_1 hq96_7_3 hq96_7_4 hq96_7_5; omega)
            · have pre98 : ∀ t, own_S p e below m T96 106 #[lvI p0_, lvI p1_, lvI p2_, lvI ((p0_ &&& (2147483647 : Int32)) % (5 : Int32)), lvR w_SET, lvI ((p2_ &&& (7 : Int32)) - (1 : Int32))] [(.int (1 : Int32))] t → G t := by
                intro t kt
                refine pre58 t ?_
                show own_S p e below m s₁ 21 #[lvI p0_, lvI p1_, lvI p2_, lvI ((p0_ &&& (2147483647 : Int32)) % (5 : Int32)), .unset, .unset] [(.int (1 : Int32)), (.int ((p0_ &&& (2147483647 : Int32)) % (5 : Int32)))] _
                refine XS.icmpNo X0.here hx rfl (hb hby at_21) rfl (teq hc59).2 ?_
                show own_S p e below m s₁ 24 #[lvI p0_, lvI p1_, lvI p2_, lvI ((p0_ &&& (2147483647 : Int32)) % (5 : Int32)), .unset, .unset] [] _
                refine st60 _ ?_
                refine XS.astore X60.here hx rfl (hb hby at_27) rfl rfl (l' := #[lvI p0_, lvI p1_, lvI p2_, lvI ((p0_ &&& (2147483647 : Int32)) % (5 : Int32)), lvR w_SET, .unset]) rfl ?_
                refine XS.goto X60.here hx rfl (pc0 := 29) (pc' := 63) rfl (hb hby at_29) (by decide) (by decide) ?_
                refine XS.iloadN X60.here hx rfl (hb hby at_63) rfl ?_
                refine XS.bipush X60.here hx rfl (hb hby at_64) ?_
                refine XS.iand X60.here hx rfl (hb hby at_66) rfl ?_
                show own_S p e below m T60 67 #[lvI p0_, lvI p1_, lvI p2_, lvI ((p0_ &&& (2147483647 : Int32)) % (5 : Int32)), lvR w_SET, .unset] [(.int (p2_ &&& (7 : Int32)))] _
                refine XS.iconst X60.here hx rfl (hb hby at_67) ?_
                refine XS.isub X60.here hx rfl (hb hby at_68) rfl ?_
                refine XS.istore X60.here hx rfl (hb hby at_69) rfl (l' := #[lvI p0_, lvI p1_, lvI p2_, lvI ((p0_ &&& (2147483647 : Int32)) % (5 : Int32)), lvR w_SET, lvI ((p2_ &&& (7 : Int32)) - (1 : Int32))]) rfl ?_
                refine XS.aload X60.here hx rfl (hb hby at_71) rfl rfl ?_
                refine XS.iloadN X60.here hx rfl (hb hby at_73) rfl ?_
                show own_S p e below m T60 74 #[lvI p0_, lvI p1_, lvI p2_, lvI ((p0_ &&& (2147483647 : Int32)) % (5 : Int32)), lvR w_SET, lvI ((p2_ &&& (7 : Int32)) - (1 : Int32))] [(.int p1_), (.ref w_SET)] _
                refine st61.trans ?_
                refine XS.iloadN X61.here hx rfl (hb hby at_77) rfl ?_
                refine XS.iloadN X61.here hx rfl (hb hby at_78) rfl ?_
                show own_S p e below m T61 79 #[lvI p0_, lvI p1_, lvI p2_, lvI ((p0_ &&& (2147483647 : Int32)) % (5 : Int32)), lvR w_SET, lvI ((p2_ &&& (7 : Int32)) - (1 : Int32))] [(.int p1_), (.int ((p0_ &&& (2147483647 : Int32)) % (5 : Int32))), (.int (0 : Int32))] _
                refine st87 _ ?_
                show own_S p e below m T87 82 #[lvI p0_, lvI p1_, lvI p2_, lvI ((p0_ &&& (2147483647 : Int32)) % (5 : Int32)), lvR w_SET, lvI ((p2_ &&& (7 : Int32)) - (1 : Int32))] [(.int (0 : Int32)), (.int (0 : Int32))] _
                refine XS.icmpNo X87.here hx rfl (hb hby at_82) rfl (teq (by decide : (0 : Int32) = (0 : Int32))).2 ?_
                refine XS.aload X87.here hx rfl (hb hby at_85) rfl rfl ?_
                refine XS.iload X87.here hx rfl (hb hby at_87) rfl ?_
                show own_S p e below m T87 89 #[lvI p0_, lvI p1_, lvI p2_, lvI ((p0_ &&& (2147483647 : Int32)) % (5 : Int32)), lvR w_SET, lvI ((p2_ &&& (7 : Int32)) - (1 : Int32))] [(.int ((p2_ &&& (7 : Int32)) - (1 : Int32))), (.ref w_SET)] _
                refine st89.trans ?_
                refine XS.iloadN X89.here hx rfl (hb hby at_92) rfl ?_
                refine XS.iload X89.here hx rfl (hb hby at_93) rfl ?_
                show own_S p e below m T89 95 #[lvI p0_, lvI p1_, lvI p2_, lvI ((p0_ &&& (2147483647 : Int32)) % (5 : Int32)), lvR w_SET, lvI ((p2_ &&& (7 : Int32)) - (1 : Int32))] [(.int ((p2_ &&& (7 : Int32)) - (1 : Int32))), (.int ((p0_ &&& (2147483647 : Int32)) % (5 : Int32))), (.int (0 : Int32))] _
                refine st96 _ ?_
                show own_S p e below m T96 98 #[lvI p0_, lvI p1_, lvI p2_, lvI ((p0_ &&& (2147483647 : Int32)) % (5 : Int32)), lvR w_SET, lvI ((p2_ &&& (7 : Int32)) - (1 : Int32))] [(.int (0 : Int32)), (.int (0 : Int32))] _
                refine XS.icmpNo X96.here hx rfl (hb hby at_98) rfl (teq (by decide : (0 : Int32) = (0 : Int32))).2 ?_
                refine XS.iconst X96.here hx rfl (hb hby at_101) ?_
                refine XS.goto X96.here hx rfl (pc0 := 102) (pc' := 106) rfl (hb hby at_102) (by decide) (by decide) ?_
                exact kt
              obtain ⟨fs, hr, hrun, hended, hW, hsame⟩ := X96.leave (v := some (.int (1 : Int32))) (fun h => by rw [Bd.returns] at h; cases h)
              refine ⟨_, _, hG _ (pre98 _ (retN X96 hx (t := .boolean) Bd.returns (by simp) (hb hby at_106) hr)), hrun, hended, _, _, rfl, ?_, ⟨_, rfl⟩, hW, hsame.mono (by decide) (by decide)⟩
              show QLaw Z p0_ p1_ p2_ w_GET w_SET w_DEL w_VDEL w_KEYNOTIFY h0 n0 _ T96.heap _
              rw [e96']
              exact ⟨rfl, N97⟩
            · exact absurd hq96_9_3 (by intro hz; have := own_i0; have := own_i1; have := own_i2; have := own_j2147483647; have := own_i3; have := own_i5; simp only [Int32.lt_iff_toInt_lt, ← Int32.toInt_inj] at hz hq96_9_0 hq87_8_2 hq96_9_1 hq96_9_2; omega)
            · exact absurd hq96_10_3 (by intro hz; have := own_i0; have := own_i1; have := own_i2; have := own_j2147483647; have := own_i3; have := own_i5; simp only [Int32.lt_iff_toInt_lt, ← Int32.toInt_inj] at hz hq96_10_0 hq87_8_2 hq96_10_1 hq96_10_2; omega)
            · exact absurd (by apply Decidable.by_contra; intro hz; have := own_i0; have := own_i1; have := own_i2; have := own_j2147483647; have := own_i5; simp only [Int32.lt_iff_toInt_lt, ← Int32.toInt_inj] at hz hq96_11_0 hq87_8_2 hq96_11_1; omega) hq96_11_2
            · exact absurd (by apply Decidable.by_contra; intro hz; have := own_i0; have := own_i1; have := own_i2; have := own_j2147483647; have := own_i5; simp only [Int32.lt_iff_toInt_lt, ← Int32.toInt_inj] at hz hq96_12_0 hq87_8_2 hq96_12_1; omega) hq96_12_2
            · exact absurd (by apply Decidable.by_contra; intro hz; have := own_i0; have := own_i1; have := own_i2; have := own_j2147483647; have := own_i5; simp only [Int32.lt_iff_toInt_lt, ← Int32.toInt_inj] at hz hq96_13_0 hq87_8_2 hq96_13_1; omega) hq96_13_2
          · obtain ⟨_, _, ⟨T100, L100, k100, n100⟩, -, X100, ⟨Lc100, hQ100, l100, y100, z100⟩, st100⟩ := Jvm.LawKit.callS X89 hx (y := (⟨"com/example/fawley/fawley/protocol/CommandTakesPinLaw", "expected", "(II)Z"⟩ : MethodName)) hown (mvT hZ (own_w hw 13 rfl)) (mvT hZ (own_w hw 14 rfl)) (mvT hZ (own_w hw 15 rfl)) (mvT hZ (own_w hw 16 rfl)) (by decide) (backOf (W := 1) (rmExp l Z a0 hw [] ((p0_ &&& (2147483647 : Int32)) % (5 : Int32)) ((p2_ &&& (7 : Int32)) - (1 : Int32)) h0 n0 O0 ) hZ (own_w hw 16 rfl) (own_w hw 15 rfl) (by decide) (by decide)) (g := (mkF m 95 #[lvI p0_, lvI p1_, lvI p2_, lvI ((p0_ &&& (2147483647 : Int32)) % (5 : Int32)), lvR w_SET, lvI ((p2_ &&& (7 : Int32)) - (1 : Int32))] [(.int ((p2_ &&& (7 : Int32)) - (1 : Int32))), (.int ((p0_ &&& (2147483647 : Int32)) % (5 : Int32))), (.int (1 : Int32))])) rfl (by rw [hml]; rfl) (argsL := [(.int ((p0_ &&& (2147483647 : Int32)) % (5 : Int32))), (.int ((p2_ &&& (7 : Int32)) - (1 : Int32)))]) (rest := [(.int (1 : Int32))]) (lenOf pd_1 rfl) rfl (by show 2 * 0 + _ ≤ _; exact Nat.le_of_eq rfl) (hb hby at_95) (fun _ _ => ⟨rfl, e89', (by decide : 0 + 0 ≤ _), (by decide : 0 + 0 ≤ _)⟩)
            dsimp only [Pt.U, Pt.locs, Pt.cells, Pt.slots] at X100 l100 y100 z100 st100 hQ100
            subst l100 y100 z100
            obtain ⟨h100, e100⟩ : ∃ z, T100.heap = z := ⟨_, rfl⟩
            rw [e100] at hQ100
            obtain ⟨rr100, rfl, hs100, N100q, hh100⟩ := hQ100
            have N101 := Fr.app N91 N100q
            have e100' : T100.heap = h0 := e100.trans hh100
            rcases hs100 with ⟨rfl, hq100_0_0, hq100_0_1⟩ | ⟨rfl, hq100_1_0, hq100_1_1⟩ | ⟨rfl, hq100_2_0, hq100_2_1, hq100_2_2⟩ | ⟨rfl, hq100_3_0, hq100_3_1, hq100_3_2⟩ | ⟨rfl, hq100_4_0, hq100_4_1, hq100_4_2, hq100_4_3⟩ | ⟨rfl, hq100_5_0, hq100_5_1, hq100_5_2, hq100_5_3, hq100_5_4⟩ | ⟨rfl, hq100_6_0, hq100_6_1, hq100_6_2, hq100_6_3, hq100_6_4, hq100_6_5⟩ | ⟨rfl, hq100_7_0, hq100_7_1, hq100_7_2, hq100_7_3, hq100_7_4, hq100_7_5, hq100_7_6⟩ | ⟨rfl, hq100_8_0, hq100_8_1, hq100_8_2, hq100_8_3, hq100_8_4, hq100_8_5, hq100_8_6⟩ | ⟨rfl, hq100_9_0, hq100_9_1, hq100_9_2, hq100_9_3, hq100_9_4⟩ | ⟨rfl, hq100_10_0, hq100_10_1, hq100_10_2, hq100_10_3, hq100_10_4⟩ | ⟨rfl, hq100_11_0, hq100_11_1, hq100_11_2, hq100_11_3, hq100_11_4⟩ | ⟨rfl, hq100_12_0, hq100_12_1, hq100_12_2, hq100_12_3, hq100_12_4, hq100_12_5⟩ | ⟨rfl, hq100_13_0, hq100_13_1, hq100_13_2, hq100_13_3, hq100_13_4, hq100_13_5⟩
            · exact absurd hq100_0_0 (by intro hz; have := own_i0; have := own_i1; have := own_i2; have := own_j2147483647; have := own_i5; simp only [Int32.lt_iff_toInt_lt, ← Int32.toInt_inj] at hz hq87_8_0 hq87_8_2 hq87_8_1; omega)
            · exact absurd hq100_1_0 (by intro hz; have := own_i0; have := own_i1; have := own_i2; have := own_j2147483647; have := own_i5; simp only [Int32.lt_iff_toInt_lt, ← Int32.toInt_inj] at hz hq87_8_0 hq87_8_2 hq87_8_1; omega)
            · exact absurd hq100_2_1 (by intro hz; have := own_i0; have := own_i1; have := own_i2; have := own_j2147483647; have := own_i5; simp only [Int32.lt_iff_toInt_lt, ← Int32.toInt_inj] at hz hq100_2_0 hq87_8_2 hq87_8_1; omega)
            · exact absurd hq100_3_1 (by intro hz; have := own_i0; have := own_i1; have := own_i2; have := own_j2147483647; have := own_i5; simp only [Int32.lt_iff_toInt_lt, ← Int32.toInt_inj] at hz hq100_3_0 hq87_8_2 hq87_8_1; omega)
            · have pre102 : ∀ t, own_S p e below m T100 106 #[lvI p0_, lvI p1_, lvI p2_, lvI ((p0_ &&& (2147483647 : Int32)) % (5 : Int32)), lvR w_SET, lvI ((p2_ &&& (7 : Int32)) - (1 : Int32))] [(.int (1 : Int32))] t → G t := by
                intro t kt
                refine pre58 t ?_
                show own_S p e below m s₁ 21 #[lvI p0_, lvI p1_, lvI p2_, lvI ((p0_ &&& (2147483647 : Int32)) % (5 : Int32)), .unset, .unset] [(.int (1 : Int32)), (.int ((p0_ &&& (2147483647 : Int32)) % (5 : Int32)))] _
                refine XS.icmpNo X0.here hx rfl (hb hby at_21) rfl (teq hc59).2 ?_
                show own_S p e below m s₁ 24 #[lvI p0_, lvI p1_, lvI p2_, lvI ((p0_ &&& (2147483647 : Int32)) % (5 : Int32)), .unset, .unset] [] _
                refine st60 _ ?_
                refine XS.astore X60.here hx rfl (hb hby at_27) rfl rfl (l' := #[lvI p0_, lvI p1_, lvI p2_, lvI ((p0_ &&& (2147483647 : Int32)) % (5 : Int32)), lvR w_SET, .unset]) rfl ?_
                refine XS.goto X60.here hx rfl (pc0 := 29) (pc' := 63) rfl (hb hby at_29) (by decide) (by decide) ?_
                refine XS.iloadN X60.here hx rfl (hb hby at_63) rfl ?_
                refine XS.bipush X60.here hx rfl (hb hby at_64) ?_
                refine XS.iand X60.here hx rfl (hb hby at_66) rfl ?_
                show own_S p e below m T60 67 #[lvI p0_, lvI p1_, lvI p2_, lvI ((p0_ &&& (2147483647 : Int32)) % (5 : Int32)), lvR w_SET, .unset] [(.int (p2_ &&& (7 : Int32)))] _
                refine XS.iconst X60.here hx rfl (hb hby at_67) ?_
                refine XS.isub X60.here hx rfl (hb hby at_68) rfl ?_
                refine XS.istore X60.here hx rfl (hb hby at_69) rfl (l' := #[lvI p0_, lvI p1_, lvI p2_, lvI ((p0_ &&& (2147483647 : Int32)) % (5 : Int32)), lvR w_SET, lvI ((p2_ &&& (7 : Int32)) - (1 : Int32))]) rfl ?_
                refine XS.aload X60.here hx rfl (hb hby at_71) rfl rfl ?_
                refine XS.iloadN X60.here hx rfl (hb hby at_73) rfl ?_
                show own_S p e below m T60 74 #[lvI p0_, lvI p1_, lvI p2_, lvI ((p0_ &&& (2147483647 : Int32)) % (5 : Int32)), lvR w_SET, lvI ((p2_ &&& (7 : Int32)) - (1 : Int32))] [(.int p1_), (.ref w_SET)] _
                refine st61.trans ?_
                refine XS.iloadN X61.here hx rfl (hb hby at_77) rfl ?_
                refine XS.iloadN X61.here hx rfl (hb hby at_78) rfl ?_
                show own_S p e below m T61 79 #[lvI p0_, lvI p1_, lvI p2_, lvI ((p0_ &&& (2147483647 : Int32)) % (5 : Int32)), lvR w_SET, lvI ((p2_ &&& (7 : Int32)) - (1 : Int32))] [(.int p1_), (.int ((p0_ &&& (2147483647 : Int32)) % (5 : Int32))), (.int (0 : Int32))] _
                refine st87 _ ?_
                show own_S p e below m T87 82 #[lvI p0_, lvI p1_, lvI p2_, lvI ((p0_ &&& (2147483647 : Int32)) % (5 : Int32)), lvR w_SET, lvI ((p2_ &&& (7 : Int32)) - (1 : Int32))] [(.int (0 : Int32)), (.int (0 : Int32))] _
                refine XS.icmpNo X87.here hx rfl (hb hby at_82) rfl (teq (by decide : (0 : Int32) = (0 : Int32))).2 ?_
                refine XS.aload X87.here hx rfl (hb hby at_85) rfl rfl ?_
                refine XS.iload X87.here hx rfl (hb hby at_87) rfl ?_
                show own_S p e below m T87 89 #[lvI p0_, lvI p1_, lvI p2_, lvI ((p0_ &&& (2147483647 : Int32)) % (5 : Int32)), lvR w_SET, lvI ((p2_ &&& (7 : Int32)) - (1 : Int32))] [(.int ((p2_ &&& (7 : Int32)) - (1 : Int32))), (.ref w_SET)] _
                refine st89.trans ?_
                refine XS.iloadN X89.here hx rfl (hb hby at_92) rfl ?_
                refine XS.iload X89.here hx rfl (hb hby at_93) rfl ?_
                show own_S p e below m T89 95 #[lvI p0_, lvI p1_, lvI p2_, lvI ((p0_ &&& (2147483647 : Int32)) % (5 : Int32)), lvR w_SET, lvI ((p2_ &&& (7 : Int32)) - (1 : Int32))] [(.int ((p2_ &&& (7 : Int32)) - (1 : Int32))), (.int ((p0_ &&& (2147483647 : Int32)) % (5 : Int32))), (.int (1 : Int32))] _
                refine st100 _ ?_
                show own_S p e below m T100 98 #[lvI p0_, lvI p1_, lvI p2_, lvI ((p0_ &&& (2147483647 : Int32)) % (5 : Int32)), lvR w_SET, lvI ((p2_ &&& (7 : Int32)) - (1 : Int32))] [(.int (1 : Int32)), (.int (1 : Int32))] _
                refine XS.icmpNo X100.here hx rfl (hb hby at_98) rfl (teq (by decide : (1 : Int32) = (1 : Int32))).2 ?_
                refine XS.iconst X100.here hx rfl (hb hby at_101) ?_
                refine XS.goto X100.here hx rfl (pc0 := 102) (pc' := 106) rfl (hb hby at_102) (by decide) (by decide) ?_
                exact kt
              obtain ⟨fs, hr, hrun, hended, hW, hsame⟩ := X100.leave (v := some (.int (1 : Int32))) (fun h => by rw [Bd.returns] at h; cases h)
              refine ⟨_, _, hG _ (pre102 _ (retN X100 hx (t := .boolean) Bd.returns (by simp) (hb hby at_106) hr)), hrun, hended, _, _, rfl, ?_, ⟨_, rfl⟩, hW, hsame.mono (by decide) (by decide)⟩
              show QLaw Z p0_ p1_ p2_ w_GET w_SET w_DEL w_VDEL w_KEYNOTIFY h0 n0 _ T100.heap _
              rw [e100']
              exact ⟨rfl, N101⟩
            · have pre104 : ∀ t, own_S p e below m T100 106 #[lvI p0_, lvI p1_, lvI p2_, lvI ((p0_ &&& (2147483647 : Int32)) % (5 : Int32)), lvR w_SET, lvI ((p2_ &&& (7 : Int32)) - (1 : Int32))] [(.int (1 : Int32))] t → G t := by
                intro t kt
                refine pre58 t ?_
                show own_S p e below m s₁ 21 #[lvI p0_, lvI p1_, lvI p2_, lvI ((p0_ &&& (2147483647 : Int32)) % (5 : Int32)), .unset, .unset] [(.int (1 : Int32)), (.int ((p0_ &&& (2147483647 : Int32)) % (5 : Int32)))] _
                refine XS.icmpNo X0.here hx rfl (hb hby at_21) rfl (teq hc59).2 ?_
                show own_S p e below m s₁ 24 #[lvI p0_, lvI p1_, lvI p2_, lvI ((p0_ &&& (2147483647 : Int32)) % (5 : Int32)), .unset, .unset] [] _
                refine st60 _ ?_
                refine XS.astore X60.here hx rfl (hb hby at_27) rfl rfl (l' := #[lvI p0_, lvI p1_, lvI p2_, lvI ((p0_ &&& (2147483647 : Int32)) % (5 : Int32)), lvR w_SET, .unset]) rfl ?_
                refine XS.goto X60.here hx rfl (pc0 := 29) (pc' := 63) rfl (hb hby at_29) (by decide) (by decide) ?_
                refine XS.iloadN X60.here hx rfl (hb hby at_63) rfl ?_
                refine XS.bipush X60.here hx rfl (hb hby at_64) ?_
                refine XS.iand X60.here hx rfl (hb hby at_66) rfl ?_
                show own_S p e below m T60 67 #[lvI p0_, lvI p1_, lvI p2_, lvI ((p0_ &&& (2147483647 : Int32)) % (5 : Int32)), lvR w_SET, .unset] [(.int (p2_ &&& (7 : Int32)))] _
                refine XS.iconst X60.here hx rfl (hb hby at_67) ?_
                refine XS.isub X60.here hx rfl (hb hby at_68) rfl ?_
                refine XS.istore X60.here hx rfl (hb hby at_69) rfl (l' := #[lvI p0_, lvI p1_, lvI p2_, lvI ((p0_ &&& (2147483647 : Int32)) % (5 : Int32)), lvR w_SET, lvI ((p2_ &&& (7 : Int32)) - (1 : Int32))]) rfl ?_
                refine XS.aload X60.here hx rfl (hb hby at_71) rfl rfl ?_
                refine XS.iloadN X60.here hx rfl (hb hby at_73) rfl ?_
                show own_S p e below m T60 74 #[lvI p0_, lvI p1_, lvI p2_, lvI ((p0_ &&& (2147483647 : Int32)) % (5 : Int32)), lvR w_SET, lvI ((p2_ &&& (7 : Int32)) - (1 : Int32))] [(.int p1_), (.ref w_SET)] _
                refine st61.trans ?_
                refine XS.iloadN X61.here hx rfl (hb hby at_77) rfl ?_
                refine XS.iloadN X61.here hx rfl (hb hby at_78) rfl ?_
                show own_S p e below m T61 79 #[lvI p0_, lvI p1_, lvI p2_, lvI ((p0_ &&& (2147483647 : Int32)) % (5 : Int32)), lvR w_SET, lvI ((p2_ &&& (7 : Int32)) - (1 : Int32))] [(.int p1_), (.int ((p0_ &&& (2147483647 : Int32)) % (5 : Int32))), (.int (0 : Int32))] _
                refine st87 _ ?_
                show own_S p e below m T87 82 #[lvI p0_, lvI p1_, lvI p2_, lvI ((p0_ &&& (2147483647 : Int32)) % (5 : Int32)), lvR w_SET, lvI ((p2_ &&& (7 : Int32)) - (1 : Int32))] [(.int (0 : Int32)), (.int (0 : Int32))] _
                refine XS.icmpNo X87.here hx rfl (hb hby at_82) rfl (teq (by decide : (0 : Int32) = (0 : Int32))).2 ?_
                refine XS.aload X87.here hx rfl (hb hby at_85) rfl rfl ?_
                refine XS.iload X87.here hx rfl (hb hby at_87) rfl ?_
                show own_S p e below m T87 89 #[lvI p0_, lvI p1_, lvI p2_, lvI ((p0_ &&& (2147483647 : Int32)) % (5 : Int32)), lvR w_SET, lvI ((p2_ &&& (7 : Int32)) - (1 : Int32))] [(.int ((p2_ &&& (7 : Int32)) - (1 : Int32))), (.ref w_SET)] _
                refine st89.trans ?_
                refine XS.iloadN X89.here hx rfl (hb hby at_92) rfl ?_
                refine XS.iload X89.here hx rfl (hb hby at_93) rfl ?_
                show own_S p e below m T89 95 #[lvI p0_, lvI p1_, lvI p2_, lvI ((p0_ &&& (2147483647 : Int32)) % (5 : Int32)), lvR w_SET, lvI ((p2_ &&& (7 : Int32)) - (1 : Int32))] [(.int ((p2_ &&& (7 : Int32)) - (1 : Int32))), (.int ((p0_ &&& (2147483647 : Int32)) % (5 : Int32))), (.int (1 : Int32))] _
                refine st100 _ ?_
                show own_S p e below m T100 98 #[lvI p0_, lvI p1_, lvI p2_, lvI ((p0_ &&& (2147483647 : Int32)) % (5 : Int32)), lvR w_SET, lvI ((p2_ &&& (7 : Int32)) - (1 : Int32))] [(.int (1 : Int32)), (.int (1 : Int32))] _
                refine XS.icmpNo X100.here hx rfl (hb hby at_98) rfl (teq (by decide : (1 : Int32) = (1 : Int32))).2 ?_
                refine XS.iconst X100.here hx rfl (hb hby at_101) ?_
                refine XS.goto X100.here hx rfl (pc0 := 102) (pc' := 106) rfl (hb hby at_102) (by decide) (by decide) ?_
                exact kt
              obtain ⟨fs, hr, hrun, hended, hW, hsame⟩ := X100.leave (v := some (.int (1 : Int32))) (fun h => by rw [Bd.returns] at h; cases h)
              refine ⟨_, _, hG _ (pre104 _ (retN X100 hx (t := .boolean) Bd.returns (by simp) (hb hby at_106) hr)), hrun, hended, _, _, rfl, ?_, ⟨_, rfl⟩, hW, hsame.mono (by decide) (by decide)⟩
              show QLaw Z p0_ p1_ p2_ w_GET w_SET w_DEL w_VDEL w_KEYNOTIFY h0 n0 _ T100.heap _
              rw [e100']
              exact ⟨rfl, N101⟩
            · have pre106 : ∀ t, own_S p e below m T100 106 #[lvI p0_, lvI p1_, lvI p2_, lvI ((p0_ &&& (2147483647 : Int32)) % (5 : Int32)), lvR w_SET, lvI ((p2_ &&& (7 : Int32)) - (1 : Int32))] [(.int (1 : Int32))] t → G t := by
                intro t kt
                refine pre58 t ?_
                show own_S p e below m s₁ 21 #[lvI p0_, lvI p1_, lvI p2_, lvI ((p0_ &&& (2147483647 : Int32)) % (5 : Int32)), .unset, .unset] [(.int (1 : Int32)), (.int ((p0_ &&& (2147483647 : Int32)) % (5 : Int32)))] _
                refine XS.icmpNo X0.here hx rfl (hb hby at_21) rfl (teq hc59).2 ?_
                show own_S p e below m s₁ 24 #[lvI p0_, lvI p1_, lvI p2_, lvI ((p0_ &&& (2147483647 : Int32)) % (5 : Int32)), .unset, .unset] [] _
                refine st60 _ ?_
                refine XS.astore X60.here hx rfl (hb hby at_27) rfl rfl (l' := #[lvI p0_, lvI p1_, lvI p2_, lvI ((p0_ &&& (2147483647 : Int32)) % (5 : Int32)), lvR w_SET, .unset]) rfl ?_
                refine XS.goto X60.here hx rfl (pc0 := 29) (pc' := 63) rfl (hb hby at_29) (by decide) (by decide) ?_
                refine XS.iloadN X60.here hx rfl (hb hby at_63) rfl ?_
                refine XS.bipush X60.here hx rfl (hb hby at_64) ?_
                refine XS.iand X60.here hx rfl (hb hby at_66) rfl ?_
                show own_S p e below m T60 67 #[lvI p0_, lvI p1_, lvI p2_, lvI ((p0_ &&& (2147483647 : Int32)) % (5 : Int32)), lvR w_SET, .unset] [(.int (p2_ &&& (7 : Int32)))] _
                refine XS.iconst X60.here hx rfl (hb hby at_67) ?_
                refine XS.isub X60.here hx rfl (hb hby at_68) rfl ?_
                refine XS.istore X60.here hx rfl (hb hby at_69) rfl (l' := #[lvI p0_, lvI p1_, lvI p2_, lvI ((p0_ &&& (2147483647 : Int32)) % (5 : Int32)), lvR w_SET, lvI ((p2_ &&& (7 : Int32)) - (1 : Int32))]) rfl ?_
                refine XS.aload X60.here hx rfl (hb hby at_71) rfl rfl ?_
                refine XS.iloadN X60.here hx rfl (hb hby at_73) rfl ?_
                show own_S p e below m T60 74 #[lvI p0_, lvI p1_, lvI p2_, lvI ((p0_ &&& (2147483647 : Int32)) % (5 : Int32)), lvR w_SET, lvI ((p2_ &&& (7 : Int32)) - (1 : Int32))] [(.int p1_), (.ref w_SET)] _
                refine st61.trans ?_
                refine XS.iloadN X61.here hx rfl (hb hby at_77) rfl ?_
                refine XS.iloadN X61.here hx rfl (hb hby at_78) rfl ?_
                show own_S p e below m T61 79 #[lvI p0_, lvI p1_, lvI p2_, lvI ((p0_ &&& (2147483647 : Int32)) % (5 : Int32)), lvR w_SET, lvI ((p2_ &&& (7 : Int32)) - (1 : Int32))] [(.int p1_), (.int ((p0_ &&& (2147483647 : Int32)) % (5 : Int32))), (.int (0 : Int32))] _
                refine st87 _ ?_
                show own_S p e below m T87 82 #[lvI p0_, lvI p1_, lvI p2_, lvI ((p0_ &&& (2147483647 : Int32)) % (5 : Int32)), lvR w_SET, lvI ((p2_ &&& (7 : Int32)) - (1 : Int32))] [(.int (0 : Int32)), (.int (0 : Int32))] _
                refine XS.icmpNo X87.here hx rfl (hb hby at_82) rfl (teq (by decide : (0 : Int32) = (0 : Int32))).2 ?_
                refine XS.aload X87.here hx rfl (hb hby at_85) rfl rfl ?_
                refine XS.iload X87.here hx rfl (hb hby at_87) rfl ?_
                show own_S p e below m T87 89 #[lvI p0_, lvI p1_, lvI p2_, lvI ((p0_ &&& (2147483647 : Int32)) % (5 : Int32)), lvR w_SET, lvI ((p2_ &&& (7 : Int32)) - (1 : Int32))] [(.int ((p2_ &&& (7 : Int32)) - (1 : Int32))), (.ref w_SET)] _
                refine st89.trans ?_
                refine XS.iloadN X89.here hx rfl (hb hby at_92) rfl ?_
                refine XS.iload X89.here hx rfl (hb hby at_93) rfl ?_
                show own_S p e below m T89 95 #[lvI p0_, lvI p1_, lvI p2_, lvI ((p0_ &&& (2147483647 : Int32)) % (5 : Int32)), lvR w_SET, lvI ((p2_ &&& (7 : Int32)) - (1 : Int32))] [(.int ((p2_ &&& (7 : Int32)) - (1 : Int32))), (.int ((p0_ &&& (2147483647 : Int32)) % (5 : Int32))), (.int (1 : Int32))] _
                refine st100 _ ?_
                show own_S p e below m T100 98 #[lvI p0_, lvI p1_, lvI p2_, lvI ((p0_ &&& (2147483647 : Int32)) % (5 : Int32)), lvR w_SET, lvI ((p2_ &&& (7 : Int32)) - (1 : Int32))] [(.int (1 : Int32)), (.int (1 : Int32))] _
                refine XS.icmpNo X100.here hx rfl (hb hby at_98) rfl (teq (by decide : (1 : Int32) = (1 : Int32))).2 ?_
                refine XS.iconst X100.here hx rfl (hb hby at_101) ?_
                refine XS.goto X100.here hx rfl (pc0 := 102) (pc' := 106) rfl (hb hby at_102) (by decide) (by decide) ?_
                exact kt
              obtain ⟨fs, hr, hrun, hended, hW, hsame⟩ := X100.leave (v := some (.int (1 : Int32))) (fun h => by rw [Bd.returns] at h; cases h)
              refine ⟨_, _, hG _ (pre106 _ (retN X100 hx (t := .boolean) Bd.returns (by simp) (hb hby at_106) hr)), hrun, hended, _, _, rfl, ?_, ⟨_, rfl⟩, hW, hsame.mono (by decide) (by decide)⟩
              show QLaw Z p0_ p1_ p2_ w_GET w_SET w_DEL w_VDEL w_KEYNOTIFY h0 n0 _ T100.heap _
              rw [e100']
              exact ⟨rfl, N101⟩
            · have pre108 : ∀ t, own_S p e below m T100 106 #[lvI p0_, lvI p1_, lvI p2_, lvI ((p0_ &&& (2147483647 : Int32)) % (5 : Int32)), lvR w_SET, lvI ((p2_ &&& (7 : Int32)) - (1 : Int32))] [(.int (1 : Int32))] t → G t := by
                intro t kt
                refine pre58 t ?_
                show own_S p e below m s₁ 21 #[lvI p0_, lvI p1_, lvI p2_, lvI ((p0_ &&& (2147483647 : Int32)) % (5 : Int32)), .unset, .unset] [(.int (1 : Int32)), (.int ((p0_ &&& (2147483647 : Int32)) % (5 : Int32)))] _
                refine XS.icmpNo X0.here hx rfl (hb hby at_21) rfl (teq hc59).2 ?_
                show own_S p e below m s₁ 24 #[lvI p0_, lvI p1_, lvI p2_, lvI ((p0_ &&& (2147483647 : Int32)) % (5 : Int32)), .unset, .unset] [] _
                refine st60 _ ?_
                refine XS.astore X60.here hx rfl (hb hby at_27) rfl rfl (l' := #[lvI p0_, lvI p1_, lvI p2_, lvI ((p0_ &&& (2147483647 : Int32)) % (5 : Int32)), lvR w_SET, .unset]) rfl ?_
                refine XS.goto X60.here hx rfl (pc0 := 29) (pc' := 63) rfl (hb hby at_29) (by decide) (by decide) ?_
                refine XS.iloadN X60.here hx rfl (hb hby at_63) rfl ?_
                refine XS.bipush X60.here hx rfl (hb hby at_64) ?_
                refine XS.iand X60.here hx rfl (hb hby at_66) rfl ?_
                show own_S p e below m T60 67 #[lvI p0_, lvI p1_, lvI p2_, lvI ((p0_ &&& (2147483647 : Int32)) % (5 : Int32)), lvR w_SET, .unset] [(.int (p2_ &&& (7 : Int32)))] _
                refine XS.iconst X60.here hx rfl (hb hby at_67) ?_
                refine XS.isub X60.here hx rfl (hb hby at_68) rfl ?_
                refine XS.istore X60.here hx rfl (hb hby at_69) rfl (l' := #[lvI p0_, lvI p1_, lvI p2_, lvI ((p0_ &&& (2147483647 : Int32)) % (5 : Int32)), lvR w_SET, lvI ((p2_ &&& (7 : Int32)) - (1 : Int32))]) rfl ?_
                refine XS.aload X60.here hx rfl (hb hby at_71) rfl rfl ?_
                refine XS.iloadN X60.here hx rfl (hb hby at_73) rfl ?_
                show own_S p e below m T60 74 #[lvI p0_, lvI p1_, lvI p2_, lvI ((p0_ &&& (2147483647 : Int32)) % (5 : Int32)), lvR w_SET, lvI ((p2_ &&& (7 : Int32)) - (1 : Int32))] [(.int p1_), (.ref w_SET)] _
                refine st61.trans ?_
                refine XS.iloadN X61.here hx rfl (hb hby at_77) rfl ?_
                refine XS.iloadN X61.here hx rfl (hb hby at_78) rfl ?_
                show own_S p e below m T61 79 #[lvI p0_, lvI p1_, lvI p2_, lvI ((p0_ &&& (2147483647 : Int32)) % (5 : Int32)), lvR w_SET, lvI ((p2_ &&& (7 : Int32)) - (1 : Int32))] [(.int p1_), (.int ((p0_ &&& (2147483647 : Int32)) % (5 : Int32))), (.int (0 : Int32))] _
                refine st87 _ ?_
                show own_S p e below m T87 82 #[lvI p0_, lvI p1_, lvI p2_, lvI ((p0_ &&& (2147483647 : Int32)) % (5 : Int32)), lvR w_SET, lvI ((p2_ &&& (7 : Int32)) - (1 : Int32))] [(.int (0 : Int32)), (.int (0 : Int32))] _
                refine XS.icmpNo X87.here hx rfl (hb hby at_82) rfl (teq (by decide : (0 : Int32) = (0 : Int32))).2 ?_
                refine XS.aload X87.here hx rfl (hb hby at_85) rfl rfl ?_
                refine XS.iload X87.here hx rfl (hb hby at_87) rfl ?_
                show own_S p e below m T87 89 #[lvI p0_, lvI p1_, lvI p2_, lvI ((p0_ &&& (2147483647 : Int32)) % (5 : Int32)), lvR w_SET, lvI ((p2_ &&& (7 : Int32)) - (1 : Int32))] [(.int ((p2_ &&& (7 : Int32)) - (1 : Int32))), (.ref w_SET)] _
                refine st89.trans ?_
                refine XS.iloadN X89.here hx rfl (hb hby at_92) rfl ?_
                refine XS.iload X89.here hx rfl (hb hby at_93) rfl ?_
                show own_S p e below m T89 95 #[lvI p0_, lvI p1_, lvI p2_, lvI ((p0_ &&& (2147483647 : Int32)) % (5 : Int32)), lvR w_SET, lvI ((p2_ &&& (7 : Int32)) - (1 : Int32))] [(.int ((p2_ &&& (7 : Int32)) - (1 : Int32))), (.int ((p0_ &&& (2147483647 : Int32)) % (5 : Int32))), (.int (1 : Int32))] _
                refine st100 _ ?_
                show own_S p e below m T100 98 #[lvI p0_, lvI p1_, lvI p2_, lvI ((p0_ &&& (2147483647 : Int32)) % (5 : Int32)), lvR w_SET, lvI ((p2_ &&& (7 : Int32)) - (1 : Int32))] [(.int (1 : Int32)), (.int (1 : Int32))] _
                refine XS.icmpNo X100.here hx rfl (hb hby at_98) rfl (teq (by decide : (1 : Int32) = (1 : Int32))).2 ?_
                refine XS.iconst X100.here hx rfl (hb hby at_101) ?_
                refine XS.goto X100.here hx rfl (pc0 := 102) (pc' := 106) rfl (hb hby at_102) (by decide) (by decide) ?_
                exact kt
              obtain ⟨fs, hr, hrun, hended, hW, hsame⟩ := X100.leave (v := some (.int (1 : Int32))) (fun h => by rw [Bd.returns] at h; cases h)
              refine ⟨_, _, hG _ (pre108 _ (retN X100 hx (t := .boolean) Bd.returns (by simp) (hb hby at_106) hr)), hrun, hended, _, _, rfl, ?_, ⟨_, rfl⟩, hW, hsame.mono (by decide) (by decide)⟩
              show QLaw Z p0_ p1_ p2_ w_GET w_SET w_DEL w_VDEL w_KEYNOTIFY h0 n0 _ T100.heap _
              rw [e100']
              exact ⟨rfl, N101⟩
            · exact absurd (by apply Decidable.by_contra; intro hz; have := own_i1; have := own_i2; have := own_i3; have := own_i4; have := own_i5; have := own_i7; simp only [Int32.lt_iff_toInt_lt, ← Int32.toInt_inj] at hz hq89_2_0 hq89_2_1 hq100_8_3 hq100_8_4 hq100_8_5; omega) hq100_8_6
            · exact absurd hq100_9_3 (by intro hz; have := own_i0; have := own_i1; have := own_i2; have := own_j2147483647; have := own_i3; have := own_i5; simp only [Int32.lt_iff_toInt_lt, ← Int32.toInt_inj] at hz hq100_9_0 hq87_8_2 hq100_9_1 hq100_9_2; omega)
            · exact absurd hq100_10_3 (by intro hz; have := own_i0; have := own_i1; have := own_i2; have := own_j2147483647; have := own_i3; have := own_i5; simp only [Int32.lt_iff_toInt_lt, ← Int32.toInt_inj] at hz hq100_10_0 hq87_8_2 hq100_10_1 hq100_10_2; omega)
            · exact absurd (by apply Decidable.by_contra; intro hz; have := own_i0; have := own_i1; have := own_i2; have := own_j2147483647; have := own_i5; simp only [Int32.lt_iff_toInt_lt, ← Int32.toInt_inj] at hz hq100_11_0 hq87_8_2 hq100_11_1; omega) hq100_11_2
            · exact absurd (by apply Decidable.by_contra; intro hz; have := own_i0; have := own_i1; have := own_i2; have := own_j2147483647; have := own_i5; simp only [Int32.lt_iff_toInt_lt, ← Int32.toInt_inj] at hz hq100_12_0 hq87_8_2 hq100_12_1; omega) hq100_12_2
            · exact absurd (by apply Decidable.by_contra; intro hz; have := own_i0; have := own_i1; have := own_i2; have := own_j2147483647; have := own_i5; simp only [Int32.lt_iff_toInt_lt, ← Int32.toInt_inj] at hz hq100_13_0 hq87_8_2 hq100_13_1; omega) hq100_13_2
        · exact absurd hq87_9_3 (by intro hz; have := own_i0; have := own_i1; have := own_i2; have := own_j2147483647; have := own_i3; have := own_i5; simp only [Int32.lt_iff_toInt_lt, ← Int32.toInt_inj] at hz hq87_9_0 hc59 hq87_9_1 hq87_9_2; omega)
        · exact absurd hq87_10_3 (by intro hz; have := own_i0; have := own_i1; have := own_i2; have := own_j2147483647; have := own_i3; have := own_i5; simp only [Int32.lt_iff_toInt_lt, ← Int32.toInt_inj] at hz hq87_10_0 hc59 hq87_10_1 hq87_10_2; omega)
        · exact absurd (by apply Decidable.by_contra; intro hz; have := own_i0; have := own_i1; have := own_i2; have := own_j2147483647; have := own_i5; simp only [Int32.lt_iff_toInt_lt, ← Int32.toInt_inj] at hz hq87_11_0 hc59 hq87_11_1; omega) hq87_11_2
        · exact absurd (by apply Decidable.by_contra; intro hz; have := own_i0; have := own_i1; have := own_i2; have := own_j2147483647; have := own_i5; simp only [Int32.lt_iff_toInt_lt, ← Int32.toInt_inj] at hz hq87_12_0 hc59 hq87_12_1; omega) hq87_12_2
        · exact absurd (by apply Decidable.by_contra; intro hz; have := own_i0; have := own_i1; have := own_i2; have := own_j2147483647; have := own_i5; simp only [Int32.lt_iff_toInt_lt, ← Int32.toInt_inj] at hz hq87_13_0 hc59 hq87_13_1; omega) hq87_13_2
      · obtain ⟨_, _, ⟨T110, L110, k110, n110⟩, -, X110, ⟨Lc110, hQ110, l110, y110, z110⟩, st110⟩ := Jvm.LawKit.callS X61 hx (y := (⟨"com/example/fawley/fawley/protocol/CommandTakesPinLaw", "expected", "(II)Z"⟩ : MethodName)) hown (mvT hZ (own_w hw 13 rfl)) (mvT hZ (own_w hw 14 rfl)) (mvT hZ (own_w hw 15 rfl)) (mvT hZ (own_w hw 16 rfl)) (by decide) (backOf (W := 1) (rmExp l Z a0 hw [] ((p0_ &&& (2147483647 : Int32)) % (5 : Int32)) p1_ h0 n0 O0 ) hZ (own_w hw 16 rfl) (own_w hw 15 rfl) (by decide) (by decide)) (g := (mkF m 79 #[lvI p0_, lvI p1_, lvI p2_, lvI ((p0_ &&& (2147483647 : Int32)) % (5 : Int32)), lvR w_SET, lvI ((p2_ &&& (7 : Int32)) - (1 : Int32))] [(.int p1_), (.int ((p0_ &&& (2147483647 : Int32)) % (5 : Int32))), (.int (1 : Int32))])) rfl (by rw [hml]; rfl) (argsL := [(.int ((p0_ &&& (2147483647 : Int32)) % (5 : Int32))), (.int p1_)]) (rest := [(.int (1 : Int32))]) (lenOf pd_1 rfl) rfl (by show 2 * 0 + _ ≤ _; exact Nat.le_of_eq rfl) (hb hby at_79) (fun _ _ => ⟨rfl, e61', (by decide : 0 + 0 ≤ _), (by decide : 0 + 0 ≤ _)⟩)
        dsimp only [Pt.U, Pt.locs, Pt.cells, Pt.slots] at X110 l110 y110 z110 st110 hQ110
        subst l110 y110 z110
        obtain ⟨h110, e110⟩ : ∃ z, T110.heap = z := ⟨_, rfl⟩
        rw [e110] at hQ110
        obtain ⟨rr110, rfl, hs110, N110q, hh110⟩ := hQ110
        have N111 := Fr.app N63 N110q
        have e110' : T110.heap = h0 := e110.trans hh110
        rcases hs110 with ⟨rfl, hq110_0_0, hq110_0_1⟩ | ⟨rfl, hq110_1_0, hq110_1_1⟩ | ⟨rfl, hq110_2_0, hq110_2_1, hq110_2_2⟩ | ⟨rfl, hq110_3_0, hq110_3_1, hq110_3_2⟩ | ⟨rfl, hq110_4_0, hq110_4_1, hq110_4_2, hq110_4_3⟩ | ⟨rfl, hq110_5_0, hq110_5_1, hq110_5_2, hq110_5_3, hq110_5_4⟩ | ⟨rfl, hq110_6_0, hq110_6_1, hq110_6_2, hq110_6_3, hq110_6_4, hq110_6_5⟩ | ⟨rfl, hq110_7_0, hq110_7_1, hq110_7_2, hq110_7_3, hq110_7_4, hq110_7_5, hq110_7_6⟩ | ⟨rfl, hq110_8_0, hq110_8_1, hq110_8_2, hq110_8_3, hq110_8_4, hq110_8_5, hq110_8_6⟩ | ⟨rfl, hq110_9_0, hq110_9_1, hq110_9_2, hq110_9_3, hq110_9_4⟩ | ⟨rfl, hq110_10_0, hq110_10_1, hq110_10_2, hq110_10_3, hq110_10_4⟩ | ⟨rfl, hq110_11_0, hq110_11_1, hq110_11_2, hq110_11_3, hq110_11_4⟩ | ⟨rfl, hq110_12_0, hq110_12_1, hq110_12_2, hq110_12_3, hq110_12_4, hq110_12_5⟩ | ⟨rfl, hq110_13_0, hq110_13_1, hq110_13_2, hq110_13_3, hq110_13_4, hq110_13_5⟩
        · exact absurd hq110_0_0 (by intro hz; have := own_i0; have := own_i1; have := own_j2147483647; have := own_i5; simp only [Int32.lt_iff_toInt_lt, ← Int32.toInt_inj] at hz hc2 hc59; omega)
        · exact absurd hq110_1_0 (by intro hz; have := own_i0; have := own_i1; have := own_j2147483647; have := own_i5; simp only [Int32.lt_iff_toInt_lt, ← Int32.toInt_inj] at hz hc2 hc59; omega)
        · exact absurd hq110_2_1 (by intro hz; have := own_i0; have := own_i1; have := own_i2; have := own_j2147483647; have := own_i5; simp only [Int32.lt_iff_toInt_lt, ← Int32.toInt_inj] at hz hq110_2_0 hc59; omega)
        · exact absurd hq110_3_1 (by intro hz; have := own_i0; have := own_i1; have := own_i2; have := own_j2147483647; have := own_i5; simp only [Int32.lt_iff_toInt_lt, ← Int32.toInt_inj] at hz hq110_3_0 hc59; omega)
        · have f113 : Exa Z h0 w_SET cn0 := P5.ext O0.2
          obtain ⟨cq112, kq112, q112a, q112b, q112c⟩ := isOf hZ e110' f113
          obtain ⟨_, _, ⟨T112, L112, k112, n112⟩, -, X112, ⟨Lc112, hQ112, l112, y112, z112⟩, st112⟩ := X110.virtualBack hx (y := (⟨"com/example/fawley/fawley/protocol/Command", "takes", "(I)Z"⟩ : MethodName)) (z := (⟨"com/example/fawley/fawley/protocol/Command", "takes", "(I)Z"⟩ : MethodName)) hown (mvT hZ (own_w hw 4 rfl)) (mvT hZ (own_w hw 5 rfl)) (notFace_of_selects (args := #[]) (mvT hZ (own_w hw 7 rfl))) (mvT hZ (own_w hw 7 rfl)) (mvT hZ (own_w hw 6 rfl)) (by decide) (backOf (W := 0) (rmTak l Z a0 hw [] w_SET ((p2_ &&& (7 : Int32)) - (1 : Int32)) (2 : Int32) (5 : Int32) h0 n0 O0 P6 P7) hZ (own_w hw 8 rfl) (own_w hw 2 rfl) (by decide) (by decide)) q112a q112c (g := (mkF m 89 #[lvI p0_, lvI p1_, lvI p2_, lvI ((p0_ &&& (2147483647 : Int32)) % (5 : Int32)), lvR w_SET, lvI ((p2_ &&& (7 : Int32)) - (1 : Int32))] [(.int ((p2_ &&& (7 : Int32)) - (1 : Int32))), (.ref w_SET)])) rfl (by rw [hml]; rfl) (Steps.refl _) (argsL := [(.int ((p2_ &&& (7 : Int32)) - (1 : Int32)))]) (rest := []) (lenOf pd_0 rfl) rfl (by show 2 * 0 + _ ≤ _; exact Nat.le_of_eq rfl) (hb hby at_89) (fun _ _ => ⟨rfl, e110', (by decide : 0 + 0 ≤ _), (by decide : 0 + 0 ≤ _)⟩)
          dsimp only [Pt.U, Pt.locs, Pt.cells, Pt.slots] at X112 l112 y112 z112 st112 hQ112
          subst l112 y112 z112
          obtain ⟨h112, e112⟩ : ∃ z, T112.heap = z := ⟨_, rfl⟩
          rw [e112] at hQ112
          obtain ⟨rr112, rfl, hs112, N112q, hh112⟩ := hQ112
          have N114 := Fr.app N111 N112q
          have e112' : T112.heap = h0 := e112.trans hh112
          rcases hs112 with ⟨rfl, hq112_0_0⟩ | ⟨rfl, hq112_1_0, hq112_1_1⟩ | ⟨rfl, hq112_2_0, hq112_2_1⟩
          · obtain ⟨_, _, ⟨T115, L115, k115, n115⟩, -, X115, ⟨Lc115, hQ115, l115, y115, z115⟩, st115⟩ := Jvm.LawKit.callS X112 hx (y := (⟨"com/example/fawley/fawley/protocol/CommandTakesPinLaw", "expected", "(II)Z"⟩ : MethodName)) hown (mvT hZ (own_w hw 13 rfl)) (mvT hZ (own_w hw 14 rfl)) (mvT hZ (own_w hw 15 rfl)) (mvT hZ (own_w hw 16 rfl)) (by decide) (backOf (W := 1) (rmExp l Z a0 hw [] ((p0_ &&& (2147483647 : Int32)) % (5 : Int32)) ((p2_ &&& (7 : Int32)) - (1 : Int32)) h0 n0 O0 ) hZ (own_w hw 16 rfl) (own_w hw 15 rfl) (by decide) (by decide)) (g := (mkF m 95 #[lvI p0_, lvI p1_, lvI p2_, lvI ((p0_ &&& (2147483647 : Int32)) % (5 : Int32)), lvR w_SET, lvI ((p2_ &&& (7 : Int32)) - (1 : Int32))] [(.int ((p2_ &&& (7 : Int32)) - (1 : Int32))), (.int ((p0_ &&& (2147483647 : Int32)) % (5 : Int32))), (.int (0 : Int32))])) rfl (by rw [hml]; rfl) (argsL := [(.int ((p0_ &&& (2147483647 : Int32)) % (5 : Int32))), (.int ((p2_ &&& (7 : Int32)) - (1 : Int32)))]) (rest := [(.int (0 : Int32))]) (lenOf pd_1 rfl) rfl (by show 2 * 0 + _ ≤ _; exact Nat.le_of_eq rfl) (hb hby at_95) (fun _ _ => ⟨rfl, e112', (by decide : 0 + 0 ≤ _), (by decide : 0 + 0 ≤ _)⟩)
            dsimp only [Pt.U, Pt.locs, Pt.cells, Pt.slots] at X115 l115 y115 z115 st115 hQ115
            subst l115 y115 z115
            obtain ⟨h115, e115⟩ : ∃ z, T115.heap = z := ⟨_, rfl⟩
            rw [e115] at hQ115
            obtain ⟨rr115, rfl, hs115, N115q, hh115⟩ := hQ115
            have N116 := Fr.app N114 N115q
            have e115' : T115.heap = h0 := e115.trans hh115
            rcases hs115 with ⟨rfl, hq115_0_0, hq115_0_1⟩ | ⟨rfl, hq115_1_0, hq115_1_1⟩ | ⟨rfl, hq115_2_0, hq115_2_1, hq115_2_2⟩ | ⟨rfl, hq115_3_0, hq115_3_1, hq115_3_2⟩ | ⟨rfl, hq115_4_0, hq115_4_1, hq115_4_2, hq115_4_3⟩ | ⟨rfl, hq115_5_0, hq115_5_1, hq115_5_2, hq115_5_3, hq115_5_4⟩ | ⟨rfl, hq115_6_0, hq115_6_1, hq115_6_2, hq115_6_3, hq115_6_4, hq115_6_5⟩ | ⟨rfl, hq115_7_0, hq115_7_1, hq115_7_2, hq115_7_3, hq115_7_4, hq115_7_5, hq115_7_6⟩ | ⟨rfl, hq115_8_0, hq115_8_1, hq115_8_2, hq115_8_3, hq115_8_4, hq115_8_5, hq115_8_6⟩ | ⟨rfl, hq115_9_0, hq115_9_1, hq115_9_2, hq115_9_3, hq115_9_4⟩ | ⟨rfl, hq115_10_0, hq115_10_1, hq115_10_2, hq115_10_3, hq115_10_4⟩ | ⟨rfl, hq115_11_0, hq115_11_1, hq115_11_2, hq115_11_3, hq115_11_4⟩ | ⟨rfl, hq115_12_0, hq115_12_1, hq115_12_2, hq115_12_3, hq115_12_4, hq115_12_5⟩ | ⟨rfl, hq115_13_0, hq115_13_1, hq115_13_2, hq115_13_3, hq115_13_4, hq115_13_5⟩
            · exact absurd hq115_0_0 (by intro hz; have := own_i0; have := own_i1; have := own_i2; have := own_j2147483647; have := own_i5; simp only [Int32.lt_iff_toInt_lt, ← Int32.toInt_inj] at hz hq110_4_0 hq110_4_2 hq110_4_1; omega)
            · exact absurd hq115_1_0 (by intro hz; have := own_i0; have := own_i1; have := own_i2; have := own_j2147483647; have := own_i5; simp only [Int32.lt_iff_toInt_lt, ← Int32.toInt_inj] at hz hq110_4_0 hq110_4_2 hq110_4_1; omega)
            · exact absurd hq115_2_1 (by intro hz; have := own_i0; have := own_i1; have := own_i2; have := own_j2147483647; have := own_i5; simp only [Int32.lt_iff_toInt_lt, ← Int32.toInt_inj] at hz hq115_2_0 hq110_4_2 hq110_4_1; omega)
            · exact absurd hq115_3_1 (by intro hz; have := own_i0; have := own_i1; have := own_i2; have := own_j2147483647; have := own_i5; simp only [Int32.lt_iff_toInt_lt, ← Int32.toInt_inj] at hz hq115_3_0 hq110_4_2 hq110_4_1; omega)
            · exact absurd hq115_4_3 (by intro hz; have := own_i1; have := own_i2; have := own_i7; simp only [Int32.lt_iff_toInt_lt, ← Int32.toInt_inj] at hz hq112_0_0; omega)
            · exact absurd hq115_5_4 (by intro hz; have := own_i1; have := own_i2; have := own_i3; have := own_i7; simp only [Int32.lt_iff_toInt_lt, ← Int32.toInt_inj] at hz hq112_0_0 hq115_5_3; omega)
            · exact absurd hq115_6_5 (by intro hz; have := own_i1; have := own_i2; have := own_i3; have := own_i4; have := own_i7; simp only [Int32.lt_iff_toInt_lt, ← Int32.toInt_inj] at hz hq112_0_0 hq115_6_3 hq115_6_4; omega)
            · exact absurd hq115_7_6 (by intro hz; have := own_i1; have := own_i2; have := own_i3; have := own_i4; have := own_i5; have := own_i7; simp only [Int32.lt_iff_toInt_lt, ← Int32.toInt_inj] at hz hq112_0_0 hq115_7_3 hq115_7_4 hq115_7_5; omega)
            · have pre117 : ∀ t, own_S p e below m T115 106 #[lvI p0_, lvI p1_, lvI p2_, lvI ((p0_ &&& (2147483647 : Int32)) % (5 : Int32)), lvR w_SET, lvI ((p2_ &&& (7 : Int32)) - (1 : Int32))] [(.int (1 : Int32))] t → G t := by
                intro t kt
                refine pre58 t ?_
                show own_S p e below m s₁ 21 #[lvI p0_, lvI p1_, lvI p2_, lvI ((p0_ &&& (2147483647 : Int32)) % (5 : Int32)), .unset, .unset] [(.int (1 : Int32)), (.int ((p0_ &&& (2147483647 : Int32)) % (5 : Int32)))] _
                refine XS.icmpNo X0.here hx rfl (hb hby at_21) rfl (teq hc59).2 ?_
                show own_S p e below m s₁ 24 #[lvI p0_, lvI p1_, lvI p2_, lvI ((p0_ &&& (2147483647 : Int32)) % (5 : Int32)), .unset, .unset] [] _
                refine st60 _ ?_
                refine XS.astore X60.here hx rfl (hb hby at_27) rfl rfl (l' := #[lvI p0_, lvI p1_, lvI p2_, lvI ((p0_ &&& (2147483647 : Int32)) % (5 : Int32)), lvR w_SET, .unset]) rfl ?_
                refine XS.goto X60.here hx rfl (pc0 := 29) (pc' := 63) rfl (hb hby at_29) (by decide) (by decide) ?_
                refine XS.iloadN X60.here hx rfl (hb hby at_63) rfl ?_
                refine XS.bipush X60.here hx rfl (hb hby at_64) ?_
                refine XS.iand X60.here hx rfl (hb hby at_66) rfl ?_
                show own_S p e below m T60 67 #[lvI p0_, lvI p1_, lvI p2_, lvI ((p0_ &&& (2147483647 : Int32)) % (5 : Int32)), lvR w_SET, .unset] [(.int (p2_ &&& (7 : Int32)))] _
                refine XS.iconst X60.here hx rfl (hb hby at_67) ?_
                refine XS.isub X60.here hx rfl (hb hby at_68) rfl ?_
                refine XS.istore X60.here hx rfl (hb hby at_69) rfl (l' := #[lvI p0_, lvI p1_, lvI p2_, lvI ((p0_ &&& (2147483647 : Int32)) % (5 : Int32)), lvR w_SET, lvI ((p2_ &&& (7 : Int32)) - (1 : Int32))]) rfl ?_
                refine XS.aload X60.here hx rfl (hb hby at_71) rfl rfl ?_
                refine XS.iloadN X60.here hx rfl (hb hby at_73) rfl ?_
                show own_S p e below m T60 74 #[lvI p0_, lvI p1_, lvI p2_, lvI ((p0_ &&& (2147483647 : Int32)) % (5 : Int32)), lvR w_SET, lvI ((p2_ &&& (7 : Int32)) - (1 : Int32))] [(.int p1_), (.ref w_SET)] _
                refine st61.trans ?_
                refine XS.iloadN X61.here hx rfl (hb hby at_77) rfl ?_
                refine XS.iloadN X61.here hx rfl (hb hby at_78) rfl ?_
                show own_S p e below m T61 79 #[lvI p0_, lvI p1_, lvI p2_, lvI ((p0_ &&& (2147483647 : Int32)) % (5 : Int32)), lvR w_SET, lvI ((p2_ &&& (7 : Int32)) - (1 : Int32))] [(.int p1_), (.int ((p0_ &&& (2147483647 : Int32)) % (5 : Int32))), (.int (1 : Int32))] _
                refine st110 _ ?_
                show own_S p e below m T110 82 #[lvI p0_, lvI p1_, lvI p2_, lvI ((p0_ &&& (2147483647 : Int32)) % (5 : Int32)), lvR w_SET, lvI ((p2_ &&& (7 : Int32)) - (1 : Int32))] [(.int (1 : Int32)), (.int (1 : Int32))] _
                refine XS.icmpNo X110.here hx rfl (hb hby at_82) rfl (teq (by decide : (1 : Int32) = (1 : Int32))).2 ?_
                refine XS.aload X110.here hx rfl (hb hby at_85) rfl rfl ?_
                refine XS.iload X110.here hx rfl (hb hby at_87) rfl ?_
                show own_S p e below m T110 89 #[lvI p0_, lvI p1_, lvI p2_, lvI ((p0_ &&& (2147483647 : Int32)) % (5 : Int32)), lvR w_SET, lvI ((p2_ &&& (7 : Int32)) - (1 : Int32))] [(.int ((p2_ &&& (7 : Int32)) - (1 : Int32))), (.ref w_SET)] _
                refine st112.trans ?_
                refine XS.iloadN X112.here hx rfl (hb hby at_92) rfl ?_
                refine XS.iload X112.here hx rfl (hb hby at_93) rfl ?_
                show own_S p e below m T112 95 #[lvI p0_, lvI p1_, lvI p2_, lvI ((p0_ &&& (2147483647 : Int32)) % (5 : Int32)), lvR w_SET, lvI ((p2_ &&& (7 : Int32)) - (1 : Int32))] [(.int ((p2_ &&& (7 : Int32)) - (1 : Int32))), (.int ((p0_ &&& (2147483647 : Int32)) % (5 : Int32))), (.int (0 : Int32))] _
                refine st115 _ ?_
                show own_S p e below m T115 98 #[lvI p0_, lvI p1_, lvI p2_, lvI ((p0_ &&& (2147483647 : Int32)) % (5 : Int32)), lvR w_SET, lvI ((p2_ &&& (7 : Int32)) - (1 : Int32))] [(.int (0 : Int32)), (.int (0 : Int32))] _
                refine XS.icmpNo X115.here hx rfl (hb hby at_98) rfl (teq (by decide : (0 : Int32) = (0 : Int32))).2 ?_
                refine XS.iconst X115.here hx rfl (hb hby at_101) ?_
                refine XS.goto X115.here hx rfl (pc0 := 102) (pc' := 106) rfl (hb hby at_102) (by decide) (by decide) ?_
                exact kt
              obtain ⟨fs, hr, hrun, hended, hW, hsame⟩ := X115.leave (v := some (.int (1 : Int32))) (fun h => by rw [Bd.returns] at h; cases h)
              refine ⟨_, _, hG _ (pre117 _ (retN X115 hx (t := .boolean) Bd.returns (by simp) (hb hby at_106) hr)), hrun, hended, _, _, rfl, ?_, ⟨_, rfl⟩, hW, hsame.mono (by decide) (by decide)⟩
              show QLaw Z p0_ p1_ p2_ w_GET w_SET w_DEL w_VDEL w_KEYNOTIFY h0 n0 _ T115.heap _
              rw [e115']
              exact ⟨rfl, N116⟩
            · exact absurd hq115_9_3 (by intro hz; have := own_i0; have := own_i1; have := own_i2; have := own_j2147483647; have := own_i3; have := own_i5; simp only [Int32.lt_iff_toInt_lt, ← Int32.toInt_inj] at hz hq115_9_0 hq110_4_2 hq115_9_1 hq115_9_2; omega)
            · exact absurd hq115_10_3 (by intro hz; have := own_i0; have := own_i1; have := own_i2; have := own_j2147483647; have := own_i3; have := own_i5; simp only [Int32.lt_iff_toInt_lt, ← Int32.toInt_inj] at hz hq115_10_0 hq110_4_2 hq115_10_1 hq115_10_2; omega)
            · exact absurd (by apply Decidable.by_contra; intro hz; have := own_i0; have := own_i1; have := own_i2; have := own_j2147483647; have := own_i5; simp only [Int32.lt_iff_toInt_lt, ← Int32.toInt_inj] at hz hq115_11_0 hq110_4_2 hq115_11_1; omega) hq115_11_2
            · exact absurd (by apply Decidable.by_contra; intro hz; have := own_i0; have := own_i1; have := own_i2; have := own_j2147483647; have := own_i5; simp only [Int32.lt_iff_toInt_lt, ← Int32.toInt_inj] at hz hq115_12_0 hq110_4_2 hq115_12_1; omega) hq115_12_2
            · exact absurd (by apply Decidable.by_contra; intro hz; have := own_i0; have := own_i1; have := own_i2; have := own_j2147483647; have := own_i5; simp only [Int32.lt_iff_toInt_lt, ← Int32.toInt_inj] at hz hq115_13_0 hq110_4_2 hq115_13_1; omega) hq115_13_2
          · obtain ⟨_, _, ⟨T119, L119, k119, n119⟩, -, X119, ⟨Lc119, hQ119, l119, y119, z119⟩, st119⟩ := Jvm.LawKit.callS X112 hx (y := (⟨"com/example/fawley/fawley/protocol/CommandTakesPinLaw", "expected", "(II)Z"⟩ : MethodName)) hown (mvT hZ (own_w hw 13 rfl)) (mvT hZ (own_w hw 14 rfl)) (mvT hZ (own_w hw 15 rfl)) (mvT hZ (own_w hw 16 rfl)) (by decide) (backOf (W := 1) (rmExp l Z a0 hw [] ((p0_ &&& (2147483647 : Int32)) % (5 : Int32)) ((p2_ &&& (7 : Int32)) - (1 : Int32)) h0 n0 O0 ) hZ (own_w hw 16 rfl) (own_w hw 15 rfl) (by decide) (by decide)) (g := (mkF m 95 #[lvI p0_, lvI p1_, lvI p2_, lvI ((p0_ &&& (2147483647 : Int32)) % (5 : Int32)), lvR w_SET, lvI ((p2_ &&& (7 : Int32)) - (1 : Int32))] [(.int ((p2_ &&& (7 : Int32)) - (1 : Int32))), (.int ((p0_ &&& (2147483647 : Int32)) % (5 : Int32))), (.int (0 : Int32))])) rfl (by rw [hml]; rfl) (argsL := [(.int ((p0_ &&& (2147483647 : Int32)) % (5 : Int32))), (.int ((p2_ &&& (7 : Int32)) - (1 : Int32)))]) (rest := [(.int (0 : Int32))]) (lenOf pd_1 rfl) rfl (by show 2 * 0 + _ ≤ _; exact Nat.le_of_eq rfl) (hb hby at_95) (fun _ _ => ⟨rfl, e112', (by decide : 0 + 0 ≤ _), (by decide : 0 + 0 ≤ _)⟩)
            dsimp only [Pt.U, Pt.locs, Pt.cells, Pt.slots] at X119 l119 y119 z119 st119 hQ119
            subst l119 y119 z119
            obtain ⟨h119, e119⟩ : ∃ z, T119.heap = z := ⟨_, rfl⟩
            rw [e119] at hQ119
            obtain ⟨rr119, rfl, hs119, N119q, hh119⟩ := hQ119
            have N120 := Fr.app N114 N119q
            have e119' : T119.heap = h0 := e119.trans hh119
            rcases hs119 with ⟨rfl, hq119_0_0, hq119_0_1⟩ | ⟨rfl, hq119_1_0, hq119_1_1⟩ | ⟨rfl, hq119_2_0, hq119_2_1, hq119_2_2⟩ | ⟨rfl, hq119_3_0, hq119_3_1, hq119_3_2⟩ | ⟨rfl, hq119_4_0, hq119_4_1, hq119_4_2, hq119_4_3⟩ | ⟨rfl, hq119_5_0, hq119_5_1, hq119_5_2, hq119_5_3, hq119_5_4⟩ | ⟨rfl, hq119_6_0, hq119_6_1, hq119_6_2, hq119_6_3, hq119_6_4, hq119_6_5⟩ | ⟨rfl, hq119_7_0, hq119_7_1, hq119_7_2, hq119_7_3, hq119_7_4, hq119_7_5, hq119_7_6⟩ | ⟨rfl, hq119_8_0, hq119_8_1, hq119_8_2, hq119_8_3, hq119_8_4, hq119_8_5, hq119_8_6⟩ | ⟨rfl, hq119_9_0, hq119_9_1, hq119_9_2, hq119_9_3, hq119_9_4⟩ | ⟨rfl, hq119_10_0, hq119_10_1, hq119_10_2, hq119_10_3, hq119_10_4⟩ | ⟨rfl, hq119_11_0, hq119_11_1, hq119_11_2, hq119_11_3, hq119_11_4⟩ | ⟨rfl, hq119_12_0, hq119_12_1, hq119_12_2, hq119_12_3, hq119_12_4, hq119_12_5⟩ | ⟨rfl, hq119_13_0, hq119_13_1, hq119_13_2, hq119_13_3, hq119_13_4, hq119_13_5⟩
            · exact absurd hq119_0_0 (by intro hz; have := own_i0; have := own_i1; have := own_i2; have := own_j2147483647; have := own_i5; simp only [Int32.lt_iff_toInt_lt, ← Int32.toInt_inj] at hz hq110_4_0 hq110_4_2 hq110_4_1; omega)
            · exact absurd hq119_1_0 (by intro hz; have := own_i0; have := own_i1; have := own_i2; have := own_j2147483647; have := own_i5; simp only [Int32.lt_iff_toInt_lt, ← Int32.toInt_inj] at hz hq110_4_0 hq110_4_2 hq110_4_1; omega)
            · exact absurd hq119_2_1 (by intro hz; have := own_i0; have := own_i1; have := own_i2; have := own_j2147483647; have := own_i5; simp only [Int32.lt_iff_toInt_lt, ← Int32.toInt_inj] at hz hq119_2_0 hq110_4_2 hq110_4_1; omega)
            · exact absurd hq119_3_1 (by intro hz; have := own_i0; have := own_i1; have := own_i2; have := own_j2147483647; have := own_i5; simp only [Int32.lt_iff_toInt_lt, ← Int32.toInt_inj] at hz hq119_3_0 hq110_4_2 hq110_4_1; omega)
            · exact absurd hq119_4_3 (by intro hz; have := own_i1; have := own_i2; have := own_i5; have := own_i7; simp only [Int32.lt_iff_toInt_lt, ← Int32.toInt_inj] at hz hq112_1_0 hq112_1_1; omega)
            · exact absurd hq119_5_4 (by intro hz; have := own_i1; have := own_i2; have := own_i3; have := own_i5; have := own_i7; simp only [Int32.lt_iff_toInt_lt, ← Int32.toInt_inj] at hz hq112_1_0 hq112_1_1 hq119_5_3; omega)
            · exact absurd hq119_6_5 (by intro hz; have := own_i1; have := own_i2; have := own_i3; have := own_i4; have := own_i5; have := own_i7; simp only [Int32.lt_iff_toInt_lt, ← Int32.toInt_inj] at hz hq112_1_0 hq112_1_1 hq119_6_3 hq119_6_4; omega)
            · exact absurd hq119_7_6 (by intro hz; have := own_i1; have := own_i2; have := own_i3; have := own_i4; have := own_i5; have := own_i7; simp only [Int32.lt_iff_toInt_lt, ← Int32.toInt_inj] at hz hq112_1_0 hq112_1_1 hq119_7_3 hq119_7_4 hq119_7_5; omega)
            · have pre121 : ∀ t, own_S p e below m T119 106 #[lvI p0_, lvI p1_, lvI p2_, lvI ((p0_ &&& (2147483647 : Int32)) % (5 : Int32)), lvR w_SET, lvI ((p2_ &&& (7 : Int32)) - (1 : Int32))] [(.int (1 : Int32))] t → G t := by
                intro t kt
                refine pre58 t ?_
                show own_S p e below m s₁ 21 #[lvI p0_, lvI p1_, lvI p2_, lvI ((p0_ &&& (2147483647 : Int32)) % (5 : Int32)), .unset, .unset] [(.int (1 : Int32)), (.int ((p0_ &&& (2147483647 : Int32)) % (5 : Int32)))] _
                refine XS.icmpNo X0.here hx rfl (hb hby at_21) rfl (teq hc59).2 ?_
                show own_S p e below m s₁ 24 #[lvI p0_, lvI p1_, lvI p2_, lvI ((p0_ &&& (2147483647 : Int32)) % (5 : Int32)), .unset, .unset] [] _
                refine st60 _ ?_
                refine XS.astore X60.here hx rfl (hb hby at_27) rfl rfl (l' := #[lvI p0_, lvI p1_, lvI p2_, lvI ((p0_ &&& (2147483647 : Int32)) % (5 : Int32)), lvR w_SET, .unset]) rfl ?_
                refine XS.goto X60.here hx rfl (pc0 := 29) (pc' := 63) rfl (hb hby at_29) (by decide) (by decide) ?_
                refine XS.iloadN X60.here hx rfl (hb hby at_63) rfl ?_
                refine XS.bipush X60.here hx rfl (hb hby at_64) ?_
                refine XS.iand X60.here hx rfl (hb hby at_66) rfl ?_
                show own_S p e below m T60 67 #[lvI p0_, lvI p1_, lvI p2_, lvI ((p0_ &&& (2147483647 : Int32)) % (5 : Int32)), lvR w_SET, .unset] [(.int (p2_ &&& (7 : Int32)))] _
                refine XS.iconst X60.here hx rfl (hb hby at_67) ?_
                refine XS.isub X60.here hx rfl (hb hby at_68) rfl ?_
                refine XS.istore X60.here hx rfl (hb hby at_69) rfl (l' := #[lvI p0_, lvI p1_, lvI p2_, lvI ((p0_ &&& (2147483647 : Int32)) % (5 : Int32)), lvR w_SET, lvI ((p2_ &&& (7 : Int32)) - (1 : Int32))]) rfl ?_
                refine XS.aload X60.here hx rfl (hb hby at_71) rfl rfl ?_
                refine XS.iloadN X60.here hx rfl (hb hby at_73) rfl ?_
                show own_S p e below m T60 74 #[lvI p0_, lvI p1_, lvI p2_, lvI ((p0_ &&& (2147483647 : Int32)) % (5 : Int32)), lvR w_SET, lvI ((p2_ &&& (7 : Int32)) - (1 : Int32))] [(.int p1_), (.ref w_SET)] _
                refine st61.trans ?_
                refine XS.iloadN X61.here hx rfl (hb hby at_77) rfl ?_
                refine XS.iloadN X61.here hx rfl (hb hby at_78) rfl ?_
                show own_S p e below m T61 79 #[lvI p0_, lvI p1_, lvI p2_, lvI ((p0_ &&& (2147483647 : Int32)) % (5 : Int32)), lvR w_SET, lvI ((p2_ &&& (7 : Int32)) - (1 : Int32))] [(.int p1_), (.int ((p0_ &&& (2147483647 : Int32)) % (5 : Int32))), (.int (1 : Int32))] _
                refine st110 _ ?_
                show own_S p e below m T110 82 #[lvI p0_, lvI p1_, lvI p2_, lvI ((p0_ &&& (2147483647 : Int32)) % (5 : Int32)), lvR w_SET, lvI ((p2_ &&& (7 : Int32)) - (1 : Int32))] [(.int (1 : Int32)), (.int (1 : Int32))] _
                refine XS.icmpNo X110.here hx rfl (hb hby at_82) rfl (teq (by decide : (1 : Int32) = (1 : Int32))).2 ?_
                refine XS.aload X110.here hx rfl (hb hby at_85) rfl rfl ?_
                refine XS.iload X110.here hx rfl (hb hby at_87) rfl ?_
                show own_S p e below m T110 89 #[lvI p0_, lvI p1_, lvI p2_, lvI ((p0_ &&& (2147483647 : Int32)) % (5 : Int32)), lvR w_SET, lvI ((p2_ &&& (7 : Int32)) - (1 : Int32))] [(.int ((p2_ &&& (7 : Int32)) - (1 : Int32))), (.ref w_SET)] _
                refine st112.trans ?_
                refine XS.iloadN X112.here hx rfl (hb hby at_92) rfl ?_
                refine XS.iload X112.here hx rfl (hb hby at_93) rfl ?_
                show own_S p e below m T112 95 #[lvI p0_, lvI p1_, lvI p2_, lvI ((p0_ &&& (2147483647 : Int32)) % (5 : Int32)), lvR w_SET, lvI ((p2_ &&& (7 : Int32)) - (1 : Int32))] [(.int ((p2_ &&& (7 : Int32)) - (1 : Int32))), (.int ((p0_ &&& (2147483647 : Int32)) % (5 : Int32))), (.int (0 : Int32))] _
                refine st119 _ ?_
                show own_S p e below m T119 98 #[lvI p0_, lvI p1_, lvI p2_, lvI ((p0_ &&& (2147483647 : Int32)) % (5 : Int32)), lvR w_SET, lvI ((p2_ &&& (7 : Int32)) - (1 : Int32))] [(.int (0 : Int32)), (.int (0 : Int32))] _
                refine XS.icmpNo X119.here hx rfl (hb hby at_98) rfl (teq (by decide : (0 : Int32) = (0 : Int32))).2 ?_
                refine XS.iconst X119.here hx rfl (hb hby at_101) ?_
                refine XS.goto X119.here hx rfl (pc0 := 102) (pc' := 106) rfl (hb hby at_102) (by decide) (by decide) ?_
                exact kt
              obtain ⟨fs, hr, hrun, hended, hW, hsame⟩ := X119.leave (v := some (.int (1 : Int32))) (fun h => by rw [Bd.returns] at h; cases h)
              refine ⟨_, _, hG _ (pre121 _ (retN X119 hx (t := .boolean) Bd.returns (by simp) (hb hby at_106) hr)), hrun, hended, _, _, rfl, ?_, ⟨_, rfl⟩, hW, hsame.mono (by decide) (by decide)⟩
              show QLaw Z p0_ p1_ p2_ w_GET w_SET w_DEL w_VDEL w_KEYNOTIFY h0 n0 _ T119.heap _
              rw [e119']
              exact ⟨rfl, N120⟩
            · exact absurd hq119_9_3 (by intro hz; have := own_i0; have := own_i1; have := own_i2; have := own_j2147483647; have := own_i3; have := own_i5; simp only [Int32.lt_iff_toInt_lt, ← Int32.toInt_inj] at hz hq119_9_0 hq110_4_2 hq119_9_1 hq119_9_2; omega)
            · exact absurd hq119_10_3 (by intro hz; have := own_i0; have := own_i1; have := own_i2; have := own_j2147483647; have := own_i3; have := own_i5; simp only [Int32.lt_iff_toInt_lt, ← Int32.toInt_inj] at hz hq119_10_0 hq110_4_2 hq119_10_1 hq119_10_2; omega)
            · exact absurd (by apply Decidable.by_contra; intro hz; have := own_i0; have := own_i1; have := own_i2; have := own_j2147483647; have := own_i5; simp only [Int32.lt_iff_toInt_lt, ← Int32.toInt_inj] at hz hq119_11_0 hq110_4_2 hq119_11_1; omega) hq119_11_2
            · exact absurd (by apply Decidable.by_contra; intro hz; have := own_i0; have := own_i1; have := own_i2; have := own_j2147483647; have := own_i5; simp only [Int32.lt_iff_toInt_lt, ← Int32.toInt_inj] at hz hq119_12_0 hq110_4_2 hq119_12_1; omega) hq119_12_2
            · exact absurd (by apply Decidable.by_contra; intro hz; have := own_i0; have := own_i1; have := own_i2; have := own_j2147483647; have := own_i5; simp only [Int32.lt_iff_toInt_lt, ← Int32.toInt_inj] at hz hq119_13_0 hq110_4_2 hq119_13_1; omega) hq119_13_2
          · obtain ⟨_, _, ⟨T123, L123, k123, n123⟩, -, X123, ⟨Lc123, hQ123, l123, y123, z123⟩, st123⟩ := Jvm.LawKit.callS X112 hx (y := (⟨"com/example/fawley/fawley/protocol/CommandTakesPinLaw", "expected", "(II)Z"⟩ : MethodName)) hown (mvT hZ (own_w hw 13 rfl)) (mvT hZ (own_w hw 14 rfl)) (mvT hZ (own_w hw 15 rfl)) (mvT hZ (own_w hw 16 rfl)) (by decide) (backOf (W := 1) (rmExp l Z a0 hw [] ((p0_ &&& (2147483647 : Int32)) % (5 : Int32)) ((p2_ &&& (7 : Int32)) - (1 : Int32)) h0 n0 O0 ) hZ (own_w hw 16 rfl) (own_w hw 15 rfl) (by decide) (by decide)) (g := (mkF m 95 #[lvI p0_, lvI p1_, lvI p2_, lvI ((p0_ &&& (2147483647 : Int32)) % (5 : Int32)), lvR w_SET, lvI ((p2_ &&& (7 : Int32)) - (1 : Int32))] [(.int ((p2_ &&& (7 : Int32)) - (1 : Int32))), (.int ((p0_ &&& (2147483647 : Int32)) % (5 : Int32))), (.int (1 : Int32))])) rfl (by rw [hml]; rfl) (argsL := [(.int ((p0_ &&& (2147483647 : Int32)) % (5 : Int32))), (.int ((p2_ &&& (7 : Int32)) - (1 : Int32)))]) (rest := [(.int (1 : Int32))]) (lenOf pd_1 rfl) rfl (by show 2 * 0 + _ ≤ _; exact Nat.le_of_eq rfl) (hb hby at_95) (fun _ _ => ⟨rfl, e112', (by decide : 0 + 0 ≤ _), (by decide : 0 + 0 ≤ _)⟩)
            dsimp only [Pt.U, Pt.locs, Pt.cells, Pt.slots] at X123 l123 y123 z123 st123 hQ123
            subst l123 y123 z123
            obtain ⟨h123, e123⟩ : ∃ z, T123.heap = z := ⟨_, rfl⟩
            rw [e123] at hQ123
            obtain ⟨rr123, rfl, hs123, N123q, hh123⟩ := hQ123
            have N124 := Fr.app N114 N123q
            have e123' : T123.heap = h0 := e123.trans hh123
            rcases hs123 with ⟨rfl, hq123_0_0, hq123_0_1⟩ | ⟨rfl, hq123_1_0, hq123_1_1⟩ | ⟨rfl, hq123_2_0, hq123_2_1, hq123_2_2⟩ | ⟨rfl, hq123_3_0, hq123_3_1, hq123_3_2⟩ | ⟨rfl, hq123_4_0, hq123_4_1, hq123_4_2, hq123_4_3⟩ | ⟨rfl, hq123_5_0, hq123_5_1, hq123_5_2, hq123_5_3, hq123_5_4⟩ | ⟨rfl, hq123_6_0, hq123_6_1, hq123_6_2, hq123_6_3, hq123_6_4, hq123_6_5⟩ | ⟨rfl, hq123_7_0, hq123_7_1, hq123_7_2, hq123_7_3, hq123_7_4, hq123_7_5, hq123_7_6⟩ | ⟨rfl, hq123_8_0, hq123_8_1, hq123_8_2, hq123_8_3, hq123_8_4, hq123_8_5, hq123_8_6⟩ | ⟨rfl, hq123_9_0, hq123_9_1, hq123_9_2, hq123_9_3, hq123_9_4⟩ | ⟨rfl, hq123_10_0, hq123_10_1, hq123_10_2, hq123_10_3, hq123_10_4⟩ | ⟨rfl, hq123_11_0, hq123_11_1, hq123_11_2, hq123_11_3, hq123_11_4⟩ | ⟨rfl, hq123_12_0, hq123_12_1, hq123_12_2, hq123_12_3, hq123_12_4, hq123_12_5⟩ | ⟨rfl, hq123_13_0, hq123_13_1, hq123_13_2, hq123_13_3, hq123_13_4, hq123_13_5⟩
            · exact absurd hq123_0_0 (by intro hz; have := own_i0; have := own_i1; have := own_i2; have := own_j2147483647; have := own_i5; simp only [Int32.lt_iff_toInt_lt, ← Int32.toInt_inj] at hz hq110_4_0 hq110_4_2 hq110_4_1; omega)
            · exact absurd hq123_1_0 (by intro hz; have := own_i0; have := own_i1; have := own_i2; have := own_j2147483647; have := own_i5; simp only [Int32.lt_iff_toInt_lt, ← Int32.toInt_inj] at hz hq110_4_0 hq110_4_2 hq110_4_1; omega)
            · exact absurd hq123_2_1 (by intro hz; have := own_i0; have := own_i1; have := own_i2; have := own_j2147483647; have := own_i5; simp only [Int32.lt_iff_toInt_lt, ← Int32.toInt_inj] at hz hq123_2_0 hq110_4_2 hq110_4_1; omega)
            · exact absurd hq123_3_1 (by intro hz; have := own_i0; have := own_i1; have := own_i2; have := own_j2147483647; have := own_i5; simp only [Int32.lt_iff_toInt_lt, ← Int32.toInt_inj] at hz hq123_3_0 hq110_4_2 hq110_4_1; omega)
            · have pre125 : ∀ t, own_S p e below m T123 106 #[lvI p0_, lvI p1_, lvI p2_, lvI ((p0_ &&& (2147483647 : Int32)) % (5 : Int32)), lvR w_SET, lvI ((p2_ &&& (7 : Int32)) - (1 : Int32))] [(.int (1 : Int32))] t → G t := by
                intro t kt
                refine pre58 t ?_
                show own_S p e below m s₁ 21 #[lvI p0_, lvI p1_, lvI p2_, lvI ((p0_ &&& (2147483647 : Int32)) % (5 : Int32)), .unset, .unset] [(.int (1 : Int32)), (.int ((p0_ &&& (2147483647 : Int32)) % (5 : Int32)))] _
                refine XS.icmpNo X0.here hx rfl (hb hby at_21) rfl (teq hc59).2 ?_
                show own_S p e below m s₁ 24 #[lvI p0_, lvI p1_, lvI p2_, lvI ((p0_ &&& (2147483647 : Int32)) % (5 : Int32)), .unset, .unset] [] _
                refine st60 _ ?_
                refine XS.astore X60.here hx rfl (hb hby at_27) rfl rfl (l' := #[lvI p0_, lvI p1_, lvI p2_, lvI ((p0_ &&& (2147483647 : Int32)) % (5 : Int32)), lvR w_SET, .unset]) rfl ?_
                refine XS.goto X60.here hx rfl (pc0 := 29) (pc' := 63) rfl (hb hby at_29) (by decide) (by decide) ?_
                refine XS.iloadN X60.here hx rfl (hb hby at_63) rfl ?_
                refine XS.bipush X60.here hx rfl (hb hby at_64) ?_
                refine XS.iand X60.here hx rfl (hb hby at_66) rfl ?_
                show own_S p e below m T60 67 #[lvI p0_, lvI p1_, lvI p2_, lvI ((p0_ &&& (2147483647 : Int32)) % (5 : Int32)), lvR w_SET, .unset] [(.int (p2_ &&& (7 : Int32)))] _
                refine XS.iconst X60.here hx rfl (hb hby at_67) ?_
                refine XS.isub X60.here hx rfl (hb hby at_68) rfl ?_
                refine XS.istore X60.here hx rfl (hb hby at_69) rfl (l' := #[lvI p0_, lvI p1_, lvI p2_, lvI ((p0_ &&& (2147483647 : Int32)) % (5 : Int32)), lvR w_SET, lvI ((p2_ &&& (7 : Int32)) - (1 : Int32))]) rfl ?_
                refine XS.aload X60.here hx rfl (hb hby at_71) rfl rfl ?_
                refine XS.iloadN X60.here hx rfl (hb hby at_73) rfl ?_
                show own_S p e below m T60 74 #[lvI p0_, lvI p1_, lvI p2_, lvI ((p0_ &&& (2147483647 : Int32)) % (5 : Int32)), lvR w_SET, lvI ((p2_ &&& (7 : Int32)) - (1 : Int32))] [(.int p1_), (.ref w_SET)] _
                refine st61.trans ?_
                refine XS.iloadN X61.here hx rfl (hb hby at_77) rfl ?_
                refine XS.iloadN X61.here hx rfl (hb hby at_78) rfl ?_
                show own_S p e below m T61 79 #[lvI p0_, lvI p1_, lvI p2_, lvI ((p0_ &&& (2147483647 : Int32)) % (5 : Int32)), lvR w_SET, lvI ((p2_ &&& (7 : Int32)) - (1 : Int32))] [(.int p1_), (.int ((p0_ &&& (2147483647 : Int32)) % (5 : Int32))), (.int (1 : Int32))] _
                refine st110 _ ?_
                show own_S p e below m T110 82 #[lvI p0_, lvI p1_, lvI p2_, lvI ((p0_ &&& (2147483647 : Int32)) % (5 : Int32)), lvR w_SET, lvI ((p2_ &&& (7 : Int32)) - (1 : Int32))] [(.int (1 : Int32)), (.int (1 : Int32))] _
                refine XS.icmpNo X110.here hx rfl (hb hby at_82) rfl (teq (by decide : (1 : Int32) = (1 : Int32))).2 ?_
                refine XS.aload X110.here hx rfl (hb hby at_85) rfl rfl ?_
                refine XS.iload X110.here hx rfl (hb hby at_87) rfl ?_
                show own_S p e below m T110 89 #[lvI p0_, lvI p1_, lvI p2_, lvI ((p0_ &&& (2147483647 : Int32)) % (5 : Int32)), lvR w_SET, lvI ((p2_ &&& (7 : Int32)) - (1 : Int32))] [(.int ((p2_ &&& (7 : Int32)) - (1 : Int32))), (.ref w_SET)] _
                refine st112.trans ?_
                refine XS.iloadN X112.here hx rfl (hb hby at_92) rfl ?_
                refine XS.iload X112.here hx rfl (hb hby at_93) rfl ?_
                show own_S p e below m T112 95 #[lvI p0_, lvI p1_, lvI p2_, lvI ((p0_ &&& (2147483647 : Int32)) % (5 : Int32)), lvR w_SET, lvI ((p2_ &&& (7 : Int32)) - (1 : Int32))] [(.int ((p2_ &&& (7 : Int32)) - (1 : Int32))), (.int ((p0_ &&& (2147483647 : Int32)) % (5 : Int32))), (.int (1 : Int32))] _
                refine st123 _ ?_
                show own_S p e below m T123 98 #[lvI p0_, lvI p1_, lvI p2_, lvI ((p0_ &&& (2147483647 : Int32)) % (5 : Int32)), lvR w_SET, lvI ((p2_ &&& (7 : Int32)) - (1 : Int32))] [(.int (1 : Int32)), (.int (1 : Int32))] _
                refine XS.icmpNo X123.here hx rfl (hb hby at_98) rfl (teq (by decide : (1 : Int32) = (1 : Int32))).2 ?_
                refine XS.iconst X123.here hx rfl (hb hby at_101) ?_
                refine XS.goto X123.here hx rfl (pc0 := 102) (pc' := 106) rfl (hb hby at_102) (by decide) (by decide) ?_
                exact kt
              obtain ⟨fs, hr, hrun, hended, hW, hsame⟩ := X123.leave (v := some (.int (1 : Int32))) (fun h => by rw [Bd.returns] at h; cases h)
              refine ⟨_, _, hG _ (pre125 _ (retN X123 hx (t := .boolean) Bd.returns (by simp) (hb hby at_106) hr)), hrun, hended, _, _, rfl, ?_, ⟨_, rfl⟩, hW, hsame.mono (by decide) (by decide)⟩
              show QLaw Z p0_ p1_ p2_ w_GET w_SET w_DEL w_VDEL w_KEYNOTIFY h0 n0 _ T123.heap _
              rw [e123']
              exact ⟨rfl, N124⟩
            · have pre127 : ∀ t, own_S p e below m T123 106 #[lvI p0_, lvI p1_, lvI p2_, lvI ((p0_ &&& (2147483647 : Int32)) % (5 : Int32)), lvR w_SET, lvI ((p2_ &&& (7 : Int32)) - (1 : Int32))] [(.int (1 : Int32))] t → G t := by
                intro t kt
                refine pre58 t ?_
                show own_S p e below m s₁ 21 #[lvI p0_, lvI p1_, lvI p2_, lvI ((p0_ &&& (2147483647 : Int32)) % (5 : Int32)), .unset, .unset] [(.int (1 : Int32)), (.int ((p0_ &&& (2147483647 : Int32)) % (5 : Int32)))] _
                refine XS.icmpNo X0.here hx rfl (hb hby at_21) rfl (teq hc59).2 ?_
                show own_S p e below m s₁ 24 #[lvI p0_, lvI p1_, lvI p2_, lvI ((p0_ &&& (2147483647 : Int32)) % (5 : Int32)), .unset, .unset] [] _
                refine st60 _ ?_
                refine XS.astore X60.here hx rfl (hb hby at_27) rfl rfl (l' := #[lvI p0_, lvI p1_, lvI p2_, lvI ((p0_ &&& (2147483647 : Int32)) % (5 : Int32)), lvR w_SET, .unset]) rfl ?_
                refine XS.goto X60.here hx rfl (pc0 := 29) (pc' := 63) rfl (hb hby at_29) (by decide) (by decide) ?_
                refine XS.iloadN X60.here hx rfl (hb hby at_63) rfl ?_
                refine XS.bipush X60.here hx rfl (hb hby at_64) ?_
                refine XS.iand X60.here hx rfl (hb hby at_66) rfl ?_
                show own_S p e below m T60 67 #[lvI p0_, lvI p1_, lvI p2_, lvI ((p0_ &&& (2147483647 : Int32)) % (5 : Int32)), lvR w_SET, .unset] [(.int (p2_ &&& (7 : Int32)))] _
                refine XS.iconst X60.here hx rfl (hb hby at_67) ?_
                refine XS.isub X60.here hx rfl (hb hby at_68) rfl ?_
                refine XS.istore X60.here hx rfl (hb hby at_69) rfl (l' := #[lvI p0_, lvI p1_, lvI p2_, lvI ((p0_ &&& (2147483647 : Int32)) % (5 : Int32)), lvR w_SET, lvI ((p2_ &&& (7 : Int32)) - (1 : Int32))]) rfl ?_
                refine XS.aload X60.here hx rfl (hb hby at_71) rfl rfl ?_
                refine XS.iloadN X60.here hx rfl (hb hby at_73) rfl ?_
                show own_S p e below m T60 74 #[lvI p0_, lvI p1_, lvI p2_, lvI ((p0_ &&& (2147483647 : Int32)) % (5 : Int32)), lvR w_SET, lvI ((p2_ &&& (7 : Int32)) - (1 : Int32))] [(.int p1_), (.ref w_SET)] _
                refine st61.trans ?_
                refine XS.iloadN X61.here hx rfl (hb hby at_77) rfl ?_
                refine XS.iloadN X61.here hx rfl (hb hby at_78) rfl ?_
                show own_S p e below m T61 79 #[lvI p0_, lvI p1_, lvI p2_, lvI ((p0_ &&& (2147483647 : Int32)) % (5 : Int32)), lvR w_SET, lvI ((p2_ &&& (7 : Int32)) - (1 : Int32))] [(.int p1_), (.int ((p0_ &&& (2147483647 : Int32)) % (5 : Int32))), (.int (1 : Int32))] _
                refine st110 _ ?_
                show own_S p e below m T110 82 #[lvI p0_, lvI p1_, lvI p2_, lvI ((p0_ &&& (2147483647 : Int32)) % (5 : Int32)), lvR w_SET, lvI ((p2_ &&& (7 : Int32)) - (1 : Int32))] [(.int (1 : Int32)), (.int (1 : Int32))] _
                refine XS.icmpNo X110.here hx rfl (hb hby at_82) rfl (teq (by decide : (1 : Int32) = (1 : Int32))).2 ?_
                refine XS.aload X110.here hx rfl (hb hby at_85) rfl rfl ?_
                refine XS.iload X110.here hx rfl (hb hby at_87) rfl ?_
                show own_S p e below m T110 89 #[lvI p0_, lvI p1_, lvI p2_, lvI ((p0_ &&& (2147483647 : Int32)) % (5 : Int32)), lvR w_SET, lvI ((p2_ &&& (7 : Int32)) - (1 : Int32))] [(.int ((p2_ &&& (7 : Int32)) - (1 : Int32))), (.ref w_SET)] _
                refine st112.trans ?_
                refine XS.iloadN X112.here hx rfl (hb hby at_92) rfl ?_
                refine XS.iload X112.here hx rfl (hb hby at_93) rfl ?_
                show own_S p e below m T112 95 #[lvI p0_, lvI p1_, lvI p2_, lvI ((p0_ &&& (2147483647 : Int32)) % (5 : Int32)), lvR w_SET, lvI ((p2_ &&& (7 : Int32)) - (1 : Int32))] [(.int ((p2_ &&& (7 : Int32)) - (1 : Int32))), (.int ((p0_ &&& (2147483647 : Int32)) % (5 : Int32))), (.int (1 : Int32))] _
                refine st123 _ ?_
                show own_S p e below m T123 98 #[lvI p0_, lvI p1_, lvI p2_, lvI ((p0_ &&& (2147483647 : Int32)) % (5 : Int32)), lvR w_SET, lvI ((p2_ &&& (7 : Int32)) - (1 : Int32))] [(.int (1 : Int32)), (.int (1 : Int32))] _
                refine XS.icmpNo X123.here hx rfl (hb hby at_98) rfl (teq (by decide : (1 : Int32) = (1 : Int32))).2 ?_
                refine XS.iconst X123.here hx rfl (hb hby at_101) ?_
                refine XS.goto X123.here hx rfl (pc0 := 102) (pc' := 106) rfl (hb hby at_102) (by decide) (by decide) ?_
                exact kt
              obtain ⟨fs, hr, hrun, hended, hW, hsame⟩ := X123.leave (v := some (.int (1 : Int32))) (fun h => by rw [Bd.returns] at h; cases h)
              refine ⟨_, _, hG _ (pre127 _ (retN X123 hx (t := .boolean) Bd.returns (by simp) (hb hby at_106) hr)), hrun, hended, _, _, rfl, ?_, ⟨_, rfl⟩, hW, hsame.mono (by decide) (by decide)⟩
              show QLaw Z p0_ p1_ p2_ w_GET w_SET w_DEL w_VDEL w_KEYNOTIFY h0 n0 _ T123.heap _
              rw [e123']
              exact ⟨rfl, N124⟩
            · have pre129 : ∀ t, own_S p e below m T123 106 #[lvI p0_, lvI p1_, lvI p2_, lvI ((p0_ &&& (2147483647 : Int32)) % (5 : Int32)), lvR w_SET, lvI ((p2_ &&& (7 : Int32)) - (1 : Int32))] [(.int (1 : Int32))] t → G t := by
                intro t kt
                refine pre58 t ?_
                show own_S p e below m s₁ 21 #[lvI p0_, lvI p1_, lvI p2_, lvI ((p0_ &&& (2147483647 : Int32)) % (5 : Int32)), .unset, .unset] [(.int (1 : Int32)), (.int ((p0_ &&& (2147483647 : Int32)) % (5 : Int32)))] _
                refine XS.icmpNo X0.here hx rfl (hb hby at_21) rfl (teq hc59).2 ?_
                show own_S p e below m s₁ 24 #[lvI p0_, lvI p1_, lvI p2_, lvI ((p0_ &&& (2147483647 : Int32)) % (5 : Int32)), .unset, .unset] [] _
                refine st60 _ ?_
                refine XS.astore X60.here hx rfl (hb hby at_27) rfl rfl (l' := #[lvI p0_, lvI p1_, lvI p2_, lvI ((p0_ &&& (2147483647 : Int32)) % (5 : Int32)), lvR w_SET, .unset]) rfl ?_
                refine XS.goto X60.here hx rfl (pc0 := 29) (pc' := 63) rfl (hb hby at_29) (by decide) (by decide) ?_
                refine XS.iloadN X60.here hx rfl (hb hby at_63) rfl ?_
                refine XS.bipush X60.here hx rfl (hb hby at_64) ?_
                refine XS.iand X60.here hx rfl (hb hby at_66) rfl ?_
                show own_S p e below m T60 67 #[lvI p0_, lvI p1_, lvI p2_, lvI ((p0_ &&& (2147483647 : Int32)) % (5 : Int32)), lvR w_SET, .unset] [(.int (p2_ &&& (7 : Int32)))] _
                refine XS.iconst X60.here hx rfl (hb hby at_67) ?_
                refine XS.isub X60.here hx rfl (hb hby at_68) rfl ?_
                refine XS.istore X60.here hx rfl (hb hby at_69) rfl (l' := #[lvI p0_, lvI p1_, lvI p2_, lvI ((p0_ &&& (2147483647 : Int32)) % (5 : Int32)), lvR w_SET, lvI ((p2_ &&& (7 : Int32)) - (1 : Int32))]) rfl ?_
                refine XS.aload X60.here hx rfl (hb hby at_71) rfl rfl ?_
                refine XS.iloadN X60.here hx rfl (hb hby at_73) rfl ?_
                show own_S p e below m T60 74 #[lvI p0_, lvI p1_, lvI p2_, lvI ((p0_ &&& (2147483647 : Int32)) % (5 : Int32)), lvR w_SET, lvI ((p2_ &&& (7 : Int32)) - (1 : Int32))] [(.int p1_), (.ref w_SET)] _
                refine st61.trans ?_
                refine XS.iloadN X61.here hx rfl (hb hby at_77) rfl ?_
                refine XS.iloadN X61.here hx rfl (hb hby at_78) rfl ?_
                show own_S p e below m T61 79 #[lvI p0_, lvI p1_, lvI p2_, lvI ((p0_ &&& (2147483647 : Int32)) % (5 : Int32)), lvR w_SET, lvI ((p2_ &&& (7 : Int32)) - (1 : Int32))] [(.int p1_), (.int ((p0_ &&& (2147483647 : Int32)) % (5 : Int32))), (.int (1 : Int32))] _
                refine st110 _ ?_
                show own_S p e below m T110 82 #[lvI p0_, lvI p1_, lvI p2_, lvI ((p0_ &&& (2147483647 : Int32)) % (5 : Int32)), lvR w_SET, lvI ((p2_ &&& (7 : Int32)) - (1 : Int32))] [(.int (1 : Int32)), (.int (1 : Int32))] _
                refine XS.icmpNo X110.here hx rfl (hb hby at_82) rfl (teq (by decide : (1 : Int32) = (1 : Int32))).2 ?_
                refine XS.aload X110.here hx rfl (hb hby at_85) rfl rfl ?_
                refine XS.iload X110.here hx rfl (hb hby at_87) rfl ?_
                show own_S p e below m T110 89 #[lvI p0_, lvI p1_, lvI p2_, lvI ((p0_ &&& (2147483647 : Int32)) % (5 : Int32)), lvR w_SET, lvI ((p2_ &&& (7 : Int32)) - (1 : Int32))] [(.int ((p2_ &&& (7 : Int32)) - (1 : Int32))), (.ref w_SET)] _
                refine st112.trans ?_
                refine XS.iloadN X112.here hx rfl (hb hby at_92) rfl ?_
                refine XS.iload X112.here hx rfl (hb hby at_93) rfl ?_
                show own_S p e below m T112 95 #[lvI p0_, lvI p1_, lvI p2_, lvI ((p0_ &&& (2147483647 : Int32)) % (5 : Int32)), lvR w_SET, lvI ((p2_ &&& (7 : Int32)) - (1 : Int32))] [(.int ((p2_ &&& (7 : Int32)) - (1 : Int32))), (.int ((p0_ &&& (2147483647 : Int32)) % (5 : Int32))), (.int (1 : Int32))] _
                refine st123 _ ?_
                show own_S p e below m T123 98 #[lvI p0_, lvI p1_, lvI p2_, lvI ((p0_ &&& (2147483647 : Int32)) % (5 : Int32)), lvR w_SET, lvI ((p2_ &&& (7 : Int32)) - (1 : Int32))] [(.int (1 : Int32)), (.int (1 : Int32))] _
                refine XS.icmpNo X123.here hx rfl (hb hby at_98) rfl (teq (by decide : (1 : Int32) = (1 : Int32))).2 ?_
                refine XS.iconst X123.here hx rfl (hb hby at_101) ?_
                refine XS.goto X123.here hx rfl (pc0 := 102) (pc' := 106) rfl (hb hby at_102) (by decide) (by decide) ?_
                exact kt
              obtain ⟨fs, hr, hrun, hended, hW, hsame⟩ := X123.leave (v := some (.int (1 : Int32))) (fun h => by rw [Bd.returns] at h; cases h)
              refine ⟨_, _, hG _ (pre129 _ (retN X123 hx (t := .boolean) Bd.returns (by simp) (hb hby at_106) hr)), hrun, hended, _, _, rfl, ?_, ⟨_, rfl⟩, hW, hsame.mono (by decide) (by decide)⟩
              show QLaw Z p0_ p1_ p2_ w_GET w_SET w_DEL w_VDEL w_KEYNOTIFY h0 n0 _ T123.heap _
              rw [e123']
              exact ⟨rfl, N124⟩
            · have pre131 : ∀ t, own_S p e below m T123 106 #[lvI p0_, lvI p1_, lvI p2_, lvI ((p0_ &&& (2147483647 : Int32)) % (5 : Int32)), lvR w_SET, lvI ((p2_ &&& (7 : Int32)) - (1 : Int32))] [(.int (1 : Int32))] t → G t := by
                intro t kt
                refine pre58 t ?_
                show own_S p e below m s₁ 21 #[lvI p0_, lvI p1_, lvI p2_, lvI ((p0_ &&& (2147483647 : Int32)) % (5 : Int32)), .unset, .unset] [(.int (1 : Int32)), (.int ((p0_ &&& (2147483647 : Int32)) % (5 : Int32)))] _
                refine XS.icmpNo X0.here hx rfl (hb hby at_21) rfl (teq hc59).2 ?_
                show own_S p e below m s₁ 24 #[lvI p0_, lvI p1_, lvI p2_, lvI ((p0_ &&& (2147483647 : Int32)) % (5 : Int32)), .unset, .unset] [] _
                refine st60 _ ?_
                refine XS.astore X60.here hx rfl (hb hby at_27) rfl rfl (l' := #[lvI p0_, lvI p1_, lvI p2_, lvI ((p0_ &&& (2147483647 : Int32)) % (5 : Int32)), lvR w_SET, .unset]) rfl ?_
                refine XS.goto X60.here hx rfl (pc0 := 29) (pc' := 63) rfl (hb hby at_29) (by decide) (by decide) ?_
                refine XS.iloadN X60.here hx rfl (hb hby at_63) rfl ?_
                refine XS.bipush X60.here hx rfl (hb hby at_64) ?_
                refine XS.iand X60.here hx rfl (hb hby at_66) rfl ?_
                show own_S p e below m T60 67 #[lvI p0_, lvI p1_, lvI p2_, lvI ((p0_ &&& (2147483647 : Int32)) % (5 : Int32)), lvR w_SET, .unset] [(.int (p2_ &&& (7 : Int32)))] _
                refine XS.iconst X60.here hx rfl (hb hby at_67) ?_
                refine XS.isub X60.here hx rfl (hb hby at_68) rfl ?_
                refine XS.istore X60.here hx rfl (hb hby at_69) rfl (l' := #[lvI p0_, lvI p1_, lvI p2_, lvI ((p0_ &&& (2147483647 : Int32)) % (5 : Int32)), lvR w_SET, lvI ((p2_ &&& (7 : Int32)) - (1 : Int32))]) rfl ?_
                refine XS.aload X60.here hx rfl (hb hby at_71) rfl rfl ?_
                refine XS.iloadN X60.here hx rfl (hb hby at_73) rfl ?_
                show own_S p e below m T60 74 #[lvI p0_, lvI p1_, lvI p2_, lvI ((p0_ &&& (2147483647 : Int32)) % (5 : Int32)), lvR w_SET, lvI ((p2_ &&& (7 : Int32)) - (1 : Int32))] [(.int p1_), (.ref w_SET)] _
                refine st61.trans ?_
                refine XS.iloadN X61.here hx rfl (hb hby at_77) rfl ?_
                refine XS.iloadN X61.here hx rfl (hb hby at_78) rfl ?_
                show own_S p e below m T61 79 #[lvI p0_, lvI p1_, lvI p2_, lvI ((p0_ &&& (2147483647 : Int32)) % (5 : Int32)), lvR w_SET, lvI ((p2_ &&& (7 : Int32)) - (1 : Int32))] [(.int p1_), (.int ((p0_ &&& (2147483647 : Int32)) % (5 : Int32))), (.int (1 : Int32))] _
                refine st110 _ ?_
                show own_S p e below m T110 82 #[lvI p0_, lvI p1_, lvI p2_, lvI ((p0_ &&& (2147483647 : Int32)) % (5 : Int32)), lvR w_SET, lvI ((p2_ &&& (7 : Int32)) - (1 : Int32))] [(.int (1 : Int32)), (.int (1 : Int32))] _
                refine XS.icmpNo X110.here hx rfl (hb hby at_82) rfl (teq (by decide : (1 : Int32) = (1 : Int32))).2 ?_
                refine XS.aload X110.here hx rfl (hb hby at_85) rfl rfl ?_
                refine XS.iload X110.here hx rfl (hb hby at_87) rfl ?_
                show own_S p e below m T110 89 #[lvI p0_, lvI p1_, lvI p2_, lvI ((p0_ &&& (2147483647 : Int32)) % (5 : Int32)), lvR w_SET, lvI ((p2_ &&& (7 : Int32)) - (1 : Int32))] [(.int ((p2_ &&& (7 : Int32)) - (1 : Int32))), (.ref w_SET)] _
                refine st112.trans ?_
                refine XS.iloadN X112.here hx rfl (hb hby at_92) rfl ?_
                refine XS.iload X112.here hx rfl (hb hby at_93) rfl ?_
                show own_S p e below m T112 95 #[lvI p0_, lvI p1_, lvI p2_, lvI ((p0_ &&& (2147483647 : Int32)) % (5 : Int32)), lvR w_SET, lvI ((p2_ &&& (7 : Int32)) - (1 : Int32))] [(.int ((p2_ &&& (7 : Int32)) - (1 : Int32))), (.int ((p0_ &&& (2147483647 : Int32)) % (5 : Int32))), (.int (1 : Int32))] _
                refine st123 _ ?_
                show own_S p e below m T123 98 #[lvI p0_, lvI p1_, lvI p2_, lvI ((p0_ &&& (2147483647 : Int32)) % (5 : Int32)), lvR w_SET, lvI ((p2_ &&& (7 : Int32)) - (1 : Int32))] [(.int (1 : Int32)), (.int (1 : Int32))] _
                refine XS.icmpNo X123.here hx rfl (hb hby at_98) rfl (teq (by decide : (1 : Int32) = (1 : Int32))).2 ?_
                refine XS.iconst X123.here hx rfl (hb hby at_101) ?_
                refine XS.goto X123.here hx rfl (pc0 := 102) (pc' := 106) rfl (hb hby at_102) (by decide) (by decide) ?_
                exact kt
              obtain ⟨fs, hr, hrun, hended, hW, hsame⟩ := X123.leave (v := some (.int (1 : Int32))) (fun h => by rw [Bd.returns] at h; cases h)
              refine ⟨_, _, hG _ (pre131 _ (retN X123 hx (t := .boolean) Bd.returns (by simp) (hb hby at_106) hr)), hrun, hended, _, _, rfl, ?_, ⟨_, rfl⟩, hW, hsame.mono (by decide) (by decide)⟩
              show QLaw Z p0_ p1_ p2_ w_GET w_SET w_DEL w_VDEL w_KEYNOTIFY h0 n0 _ T123.heap _
              rw [e123']
              exact ⟨rfl, N124⟩
            · exact absurd (by apply Decidable.by_contra; intro hz; have := own_i1; have := own_i2; have := own_i3; have := own_i4; have := own_i5; have := own_i7; simp only [Int32.lt_iff_toInt_lt, ← Int32.toInt_inj] at hz hq112_2_0 hq112_2_1 hq123_8_3 hq123_8_4 hq123_8_5; omega) hq123_8_6
            · exact absurd hq123_9_3 (by intro hz; have := own_i0; have := own_i1; have := own_i2; have := own_j2147483647; have := own_i3; have := own_i5; simp only [Int32.lt_iff_toInt_lt, ← Int32.toInt_inj] at hz hq123_9_0 hq110_4_2 hq123_9_1 hq123_9_2; omega)
            · exact absurd hq123_10_3 (by intro hz; have := own_i0; have := own_i1; have := own_i2; have := own_j2147483647; have := own_i3; have := own_i5; simp only [Int32.lt_iff_toInt_lt, ← Int32.toInt_inj] at hz hq123_10_0 hq110_4_2 hq123_10_1 hq123_10_2; omega)
            · exact absurd (by apply Decidable.by_contra; intro hz; have := own_i0; have := own_i1; have := own_i2; have := own_j2147483647; have := own_i5; simp only [Int32.lt_iff_toInt_lt, ← Int32.toInt_inj] at hz hq123_11_0 hq110_4_2 hq123_11_1; omega) hq123_11_2
            · exact absurd (by apply Decidable.by_contra; intro hz; have := own_i0; have := own_i1; have := own_i2; have := own_j2147483647; have := own_i5; simp only [Int32.lt_iff_toInt_lt, ← Int32.toInt_inj] at hz hq123_12_0 hq110_4_2 hq123_12_1; omega) hq123_12_2
            · exact absurd (by apply Decidable.by_contra; intro hz; have := own_i0; have := own_i1; have := own_i2; have := own_j2147483647; have := own_i5; simp only [Int32.lt_iff_toInt_lt, ← Int32.toInt_inj] at hz hq123_13_0 hq110_4_2 hq123_13_1; omega) hq123_13_2
        · have f134 : Exa Z h0 w_SET cn0 := P5.ext O0.2
          obtain ⟨cq133, kq133, q133a, q133b, q133c⟩ := isOf hZ e110' f134
          obtain ⟨_, _, ⟨T133, L133, k133, n133⟩, -, X133, ⟨Lc133, hQ133, l133, y133, z133⟩, st133⟩ := X110.virtualBack hx (y := (⟨"com/example/fawley/fawley/protocol/Command", "takes", "(I)Z"⟩ : MethodName)) (z := (⟨"com/example/fawley/fawley/protocol/Command", "takes", "(I)Z"⟩ : MethodName)) hown (mvT hZ (own_w hw 4 rfl)) (mvT hZ (own_w hw 5 rfl)) (notFace_of_selects (args := #[]) (mvT hZ (own_w hw 7 rfl))) (mvT hZ (own_w hw 7 rfl)) (mvT hZ (own_w hw 6 rfl)) (by decide) (backOf (W := 0) (rmTak l Z a0 hw [] w_SET ((p2_ &&& (7 : Int32)) - (1 : Int32)) (2 : Int32) (5 : Int32) h0 n0 O0 P6 P7) hZ (own_w hw 8 rfl) (own_w hw 2 rfl) (by decide) (by decide)) q133a q133c (g := (mkF m 89 #[lvI p0_, lvI p1_, lvI p2_, lvI ((p0_ &&& (2147483647 : Int32)) % (5 : Int32)), lvR w_SET, lvI ((p2_ &&& (7 : Int32)) - (1 : Int32))] [(.int ((p2_ &&& (7 : Int32)) - (1 : Int32))), (.ref w_SET)])) rfl (by rw [hml]; rfl) (Steps.refl _) (argsL := [(.int ((p2_ &&& (7 : Int32)) - (1 : Int32)))]) (rest := []) (lenOf pd_0 rfl) rfl (by show 2 * 0 + _ ≤ _; exact Nat.le_of_eq rfl) (hb hby at_89) (fun _ _ => ⟨rfl, e110', (by decide : 0 + 0 ≤ _), (by decide : 0 + 0 ≤ _)⟩)
          dsimp only [Pt.U, Pt.locs, Pt.cells, Pt.slots] at X133 l133 y133 z133 st133 hQ133
          subst l133 y133 z133
          obtain ⟨h133, e133⟩ : ∃ z, T133.heap = z := ⟨_, rfl⟩
          rw [e133] at hQ133
          obtain ⟨rr133, rfl, hs133, N133q, hh133⟩ := hQ133
          have N135 := Fr.app N111 N133q
          have e133' : T133.heap = h0 := e133.trans hh133
          rcases hs133 with ⟨rfl, hq133_0_0⟩ | ⟨rfl, hq133_1_0, hq133_1_1⟩ | ⟨rfl, hq133_2_0, hq133_2_1⟩
          · obtain ⟨_, _, ⟨T136, L136, k136, n136⟩, -, X136, ⟨Lc136, hQ136, l136, y136, z136⟩, st136⟩ := Jvm.LawKit.callS X133 hx (y := (⟨"com/example/fawley/fawley/protocol/CommandTakesPinLaw", "expected", "(II)Z"⟩ : MethodName)) hown (mvT hZ (own_w hw 13 rfl)) (mvT hZ (own_w hw 14 rfl)) (mvT hZ (own_w hw 15 rfl)) (mvT hZ (own_w hw 16 rfl)) (by decide) (backOf (W := 1) (rmExp l Z a0 hw [] ((p0_ &&& (2147483647 : Int32)) % (5 : Int32)) ((p2_ &&& (7 : Int32)) - (1 : Int32)) h0 n0 O0 ) hZ (own_w hw 16 rfl) (own_w hw 15 rfl) (by decide) (by decide)) (g := (mkF m 95 #[lvI p0_, lvI p1_, lvI p2_, lvI ((p0_ &&& (2147483647 : Int32)) % (5 : Int32)), lvR w_SET, lvI ((p2_ &&& (7 : Int32)) - (1 : Int32))] [(.int ((p2_ &&& (7 : Int32)) - (1 : Int32))), (.int ((p0_ &&& (2147483647 : Int32)) % (5 : Int32))), (.int (0 : Int32))])) rfl (by rw [hml]; rfl) (argsL := [(.int ((p0_ &&& (2147483647 : Int32)) % (5 : Int32))), (.int ((p2_ &&& (7 : Int32)) - (1 : Int32)))]) (rest := [(.int (0 : Int32))]) (lenOf pd_1 rfl) rfl (by show 2 * 0 + _ ≤ _; exact Nat.le_of_eq rfl) (hb hby at_95) (fun _ _ => ⟨rfl, e133', (by decide : 0 + 0 ≤ _), (by decide : 0 + 0 ≤ _)⟩)
            dsimp only [Pt.U, Pt.locs, Pt.cells, Pt.slots] at X136 l136 y136 z136 st136 hQ136
            subst l136 y136 z136
            obtain ⟨h136, e136⟩ : ∃ z, T136.heap = z := ⟨_, rfl⟩
            rw [e136] at hQ136
            obtain ⟨rr136, rfl, hs136, N136q, hh136⟩ := hQ136
            have N137 := Fr.app N135 N136q
            have e136' : T136.heap = h0 := e136.trans hh136
            rcases hs136 with ⟨rfl, hq136_0_0, hq136_0_1⟩ | ⟨rfl, hq136_1_0, hq136_1_1⟩ | ⟨rfl, hq136_2_0, hq136_2_1, hq136_2_2⟩ | ⟨rfl, hq136_3_0, hq136_3_1, hq136_3_2⟩ | ⟨rfl, hq136_4_0, hq136_4_1, hq136_4_2, hq136_4_3⟩ | ⟨rfl, hq136_5_0, hq136_5_1, hq136_5_2, hq136_5_3, hq136_5_4⟩ | ⟨rfl, hq136_6_0, hq136_6_1, hq136_6_2, hq136_6_3, hq136_6_4, hq136_6_5⟩ | ⟨rfl, hq136_7_0, hq136_7_1, hq136_7_2, hq136_7_3, hq136_7_4, hq136_7_5, hq136_7_6⟩ | ⟨rfl, hq136_8_0, hq136_8_1, hq136_8_2, hq136_8_3, hq136_8_4, hq136_8_5, hq136_8_6⟩ | ⟨rfl, hq136_9_0, hq136_9_1, hq136_9_2, hq136_9_3, hq136_9_4⟩ | ⟨rfl, hq136_10_0, hq136_10_1, hq136_10_2, hq136_10_3, hq136_10_4⟩ | ⟨rfl, hq136_11_0, hq136_11_1, hq136_11_2, hq136_11_3, hq136_11_4⟩ | ⟨rfl, hq136_12_0, hq136_12_1, hq136_12_2, hq136_12_3, hq136_12_4, hq136_12_5⟩ | ⟨rfl, hq136_13_0, hq136_13_1, hq136_13_2, hq136_13_3, hq136_13_4, hq136_13_5⟩
            · exact absurd hq136_0_0 (by intro hz; have := own_i0; have := own_i1; have := own_i2; have := own_j2147483647; have := own_i5; simp only [Int32.lt_iff_toInt_lt, ← Int32.toInt_inj] at hz hq110_5_0 hq110_5_2 hq110_5_1; omega)
            · exact absurd hq136_1_0 (by intro hz; have := own_i0; have := own_i1; have := own_i2; have := own_j2147483647; have := own_i5; simp only [Int32.lt_iff_toInt_lt, ← Int32.toInt_inj] at hz hq110_5_0 hq110_5_2 hq110_5_1; omega)
            · exact absurd hq136_2_1 (by intro hz; have := own_i0; have := own_i1; have := own_i2; have := own_j2147483647; have := own_i5; simp only [Int32.lt_iff_toInt_lt, ← Int32.toInt_inj] at hz hq136_2_0 hq110_5_2 hq110_5_1; omega)
            · exact absurd hq136_3_1 (by intro hz; have := own_i0; have := own_i1; have := own_i2; have := own_j2147483647; have := own_i5; simp only [Int32.lt_iff_toInt_lt, ← Int32.toInt_inj] at hz hq136_3_0 hq110_5_2 hq110_5_1; omega)
            · exact absurd hq136_4_3 (by intro hz; have := own_i1; have := own_i2; have := own_i7; simp only [Int32.lt_iff_toInt_lt, ← Int32.toInt_inj] at hz hq133_0_0; omega)
            · exact absurd hq136_5_4 (by intro hz; have := own_i1; have := own_i2; have := own_i3; have := own_i7; simp only [Int32.lt_iff_toInt_lt, ← Int32.toInt_inj] at hz hq133_0_0 hq136_5_3; omega)
            · exact absurd hq136_6_5 (by intro hz; have := own_i1; have := own_i2; have := own_i3; have := own_i4; have := own_i7; simp only [Int32.lt_iff_toInt_lt, ← Int32.toInt_inj] at hz hq133_0_0 hq136_6_3 hq136_6_4; omega)
            · exact absurd hq136_7_6 (by intro hz; have := own_i1; have := own_i2; have := own_i3; have := own_i4; have := own_i5; have := own_i7; simp only [Int32.lt_iff_toInt_lt, ← Int32.toInt_inj] at hz hq133_0_0 hq136_7_3 hq136_7_4 hq136_7_5; omega)
            · have pre138 : ∀ t, own_S p e below m T136 106 #[lvI p0_, lvI p1_, lvI p2_, lvI ((p0_ &&& (2147483647 : Int32)) % (5 : Int32)), lvR w_SET, lvI ((p2_ &&& (7 : Int32)) - (1 : Int32))] [(.int (1 : Int32))] t → G t := by
                intro t kt
                refine pre58 t ?_
                show own_S p e below m s₁ 21 #[lvI p0_, lvI p1_, lvI p2_, lvI ((p0_ &&& (2147483647 : Int32)) % (5 : Int32)), .unset, .unset] [(.int (1 : Int32)), (.int ((p0_ &&& (2147483647 : Int32)) % (5 : Int32)))] _
                refine XS.icmpNo X0.here hx rfl (hb hby at_21) rfl (teq hc59).2 ?_
                show own_S p e below m s₁ 24 #[lvI p0_, lvI p1_, lvI p2_, lvI ((p0_ &&& (2147483647 : Int32)) % (5 : Int32)), .unset, .unset] [] _
                refine st60 _ ?_
                refine XS.astore X60.here hx rfl (hb hby at_27) rfl rfl (l' := #[lvI p0_, lvI p1_, lvI p2_, lvI ((p0_ &&& (2147483647 : Int32)) % (5 : Int32)), lvR w_SET, .unset]) rfl ?_
                refine XS.goto X60.here hx rfl (pc0 := 29) (pc' := 63) rfl (hb hby at_29) (by decide) (by decide) ?_
                refine XS.iloadN X60.here hx rfl (hb hby at_63) rfl ?_
                refine XS.bipush X60.here hx rfl (hb hby at_64) ?_
                refine XS.iand X60.here hx rfl (hb hby at_66) rfl ?_
                show own_S p e below m T60 67 #[lvI p0_, lvI p1_, lvI p2_, lvI ((p0_ &&& (2147483647 : Int32)) % (5 : Int32)), lvR w_SET, .unset] [(.int (p2_ &&& (7 : Int32)))] _
                refine XS.iconst X60.here hx rfl (hb hby at_67) ?_
                refine XS.isub X60.here hx rfl (hb hby at_68) rfl ?_
                refine XS.istore X60.here hx rfl (hb hby at_69) rfl (l' := #[lvI p0_, lvI p1_, lvI p2_, lvI ((p0_ &&& (2147483647 : Int32)) % (5 : Int32)), lvR w_SET, lvI ((p2_ &&& (7 : Int32)) - (1 : Int32))]) rfl ?_
                refine XS.aload X60.here hx rfl (hb hby at_71) rfl rfl ?_
                refine XS.iloadN X60.here hx rfl (hb hby at_73) rfl ?_
                show own_S p e below m T60 74 #[lvI p0_, lvI p1_, lvI p2_, lvI ((p0_ &&& (2147483647 : Int32)) % (5 : Int32)), lvR w_SET, lvI ((p2_ &&& (7 : Int32)) - (1 : Int32))] [(.int p1_), (.ref w_SET)] _
                refine st61.trans ?_
                refine XS.iloadN X61.here hx rfl (hb hby at_77) rfl ?_
                refine XS.iloadN X61.here hx rfl (hb hby at_78) rfl ?_
                show own_S p e below m T61 79 #[lvI p0_, lvI p1_, lvI p2_, lvI ((p0_ &&& (2147483647 : Int32)) % (5 : Int32)), lvR w_SET, lvI ((p2_ &&& (7 : Int32)) - (1 : Int32))] [(.int p1_), (.int ((p0_ &&& (2147483647 : Int32)) % (5 : Int32))), (.int (1 : Int32))] _
                refine st110 _ ?_
                show own_S p e below m T110 82 #[lvI p0_, lvI p1_, lvI p2_, lvI ((p0_ &&& (2147483647 : Int32)) % (5 : Int32)), lvR w_SET, lvI ((p2_ &&& (7 : Int32)) - (1 : Int32))] [(.int (1 : Int32)), (.int (1 : Int32))] _
                refine XS.icmpNo X110.here hx rfl (hb hby at_82) rfl (teq (by decide : (1 : Int32) = (1 : Int32))).2 ?_
                refine XS.aload X110.here hx rfl (hb hby at_85) rfl rfl ?_
                refine XS.iload X110.here hx rfl (hb hby at_87) rfl ?_
                show own_S p e below m T110 89 #[lvI p0_, lvI p1_, lvI p2_, lvI ((p0_ &&& (2147483647 : Int32)) % (5 : Int32)), lvR w_SET, lvI ((p2_ &&& (7 : Int32)) - (1 : Int32))] [(.int ((p2_ &&& (7 : Int32)) - (1 : Int32))), (.ref w_SET)] _
                refine st133.trans ?_
                refine XS.iloadN X133.here hx rfl (hb hby at_92) rfl ?_
                refine XS.iload X133.here hx rfl (hb hby at_93) rfl ?_
                show own_S p e below m T133 95 #[lvI p0_, lvI p1_, lvI p2_, lvI ((p0_ &&& (2147483647 : Int32)) % (5 : Int32)), lvR w_SET, lvI ((p2_ &&& (7 : Int32)) - (1 : Int32))] [(.int ((p2_ &&& (7 : Int32)) - (1 : Int32))), (.int ((p0_ &&& (2147483647 : Int32)) % (5 : Int32))), (.int (0 : Int32))] _
                refine st136 _ ?_
                show own_S p e below m T136 98 #[lvI p0_, lvI p1_, lvI p2_, lvI ((p0_ &&& (2147483647 : Int32)) % (5 : Int32)), lvR w_SET, lvI ((p2_ &&& (7 : Int32)) - (1 : Int32))] [(.int (0 : Int32)), (.int (0 : Int32))] _
                refine XS.icmpNo X136.here hx rfl (hb hby at_98) rfl (teq (by decide : (0 : Int32) = (0 : Int32))).2 ?_
                refine XS.iconst X136.here hx rfl (hb hby at_101) ?_
                refine XS.goto X136.here hx rfl (pc0 := 102) (pc' := 106) rfl (hb hby at_102) (by decide) (by decide) ?_
                exact kt
              obtain ⟨fs, hr, hrun, hended, hW, hsame⟩ := X136.leave (v := some (.int (1 : Int32))) (fun h => by rw [Bd.returns] at h; cases h)
              refine ⟨_, _, hG _ (pre138 _ (retN X136 hx (t := .boolean) Bd.returns (by simp) (hb hby at_106) hr)), hrun, hended, _, _, rfl, ?_, ⟨_, rfl⟩, hW, hsame.mono (by decide) (by decide)⟩
              show QLaw Z p0_ p1_ p2_ w_GET w_SET w_DEL w_VDEL w_KEYNOTIFY h0 n0 _ T136.heap _
              rw [e136']
              exact ⟨rfl, N137⟩
            · exact absurd hq136_9_3 (by intro hz; have := own_i0; have := own_i1; have := own_i2; have := own_j2147483647; have := own_i3; have := own_i5; simp only [Int32.lt_iff_toInt_lt, ← Int32.toInt_inj] at hz hq136_9_0 hq110_5_2 hq136_9_1 hq136_9_2; omega)
            · exact absurd hq136_10_3 (by intro hz; have := own_i0; have := own_i1; have := own_i2; have := own_j2147483647; have := own_i3; have := own_i5; simp only [Int32.lt_iff_toInt_lt, ← Int32.toInt_inj] at hz hq136_10_0 hq110_5_2 hq136_10_1 hq136_10_2; omega)
            · exact absurd (by apply Decidable.by_contra; intro hz; have := own_i0; have := own_i1; have := own_i2; have := own_j2147483647; have := own_i5; simp only [Int32.lt_iff_toInt_lt, ← Int32.toInt_inj] at hz hq136_11_0 hq110_5_2 hq136_11_1; omega) hq136_11_2
            · exact absurd (by apply Decidable.by_contra; intro hz; have := own_i0; have := own_i1; have := own_i2; have := own_j2147483647; have := own_i5; simp only [Int32.lt_iff_toInt_lt, ← Int32.toInt_inj] at hz hq136_12_0 hq110_5_2 hq136_12_1; omega) hq136_12_2
            · exact absurd (by apply Decidable.by_contra; intro hz; have := own_i0; have := own_i1; have := own_i2; have := own_j2147483647; have := own_i5; simp only [Int32.lt_iff_toInt_lt, ← Int32.toInt_inj] at hz hq136_13_0 hq110_5_2 hq136_13_1; omega) hq136_13_2
          · obtain ⟨_, _, ⟨T140, L140, k140, n140⟩, -, X140, ⟨Lc140, hQ140, l140, y140, z140⟩, st140⟩ := Jvm.LawKit.callS X133 hx (y := (⟨"com/example/fawley/fawley/protocol/CommandTakesPinLaw", "expected", "(II)Z"⟩ : MethodName)) hown (mvT hZ (own_w hw 13 rfl)) (mvT hZ (own_w hw 14 rfl)) (mvT hZ (own_w hw 15 rfl)) (mvT hZ (own_w hw 16 rfl)) (by decide) (backOf (W := 1) (rmExp l Z a0 hw [] ((p0_ &&& (2147483647 : Int32)) % (5 : Int32)) ((p2_ &&& (7 : Int32)) - (1 : Int32)) h0 n0 O0 ) hZ (own_w hw 16 rfl) (own_w hw 15 rfl) (by decide) (by decide)) (g := (mkF m 95 #[lvI p0_, lvI p1_, lvI p2_, lvI ((p0_ &&& (2147483647 : Int32)) % (5 : Int32)), lvR w_SET, lvI ((p2_ &&& (7 : Int32)) - (1 : Int32))] [(.int ((p2_ &&& (7 : Int32)) - (1 : Int32))), (.int ((p0_ &&& (2147483647 : Int32)) % (5 : Int32))), (.int (0 : Int32))])) rfl (by rw [hml]; rfl) (argsL := [(.int ((p0_ &&& (2147483647 : Int32)) % (5 : Int32))), (.int ((p2_ &&& (7 : Int32)) - (1 : Int32)))]) (rest := [(.int (0 : Int32))]) (lenOf pd_1 rfl) rfl (by show 2 * 0 + _ ≤ _; exact Nat.le_of_eq rfl) (hb hby at_95) (fun _ _ => ⟨rfl, e133', (by decide : 0 + 0 ≤ _), (by decide : 0 + 0 ≤ _)⟩)
            dsimp only [Pt.U, Pt.locs, Pt.cells, Pt.slots] at X140 l140 y140 z140 st140 hQ140
            subst l140 y140 z140
            obtain ⟨h140, e140⟩ : ∃ z, T140.heap = z := ⟨_, rfl⟩
            rw [e140] at hQ140
            obtain ⟨rr140, rfl, hs140, N140q, hh140⟩ := hQ140
            have N141 := Fr.app N135 N140q
            have e140' : T140.heap = h0 := e140.trans hh140
            rcases hs140 with ⟨rfl, hq140_0_0, hq140_0_1⟩ | ⟨rfl, hq140_1_0, hq140_1_1⟩ | ⟨rfl, hq140_2_0, hq140_2_1, hq140_2_2⟩ | ⟨rfl, hq140_3_0, hq140_3_1, hq140_3_2⟩ | ⟨rfl, hq140_4_0, hq140_4_1, hq140_4_2, hq140_4_3⟩ | ⟨rfl, hq140_5_0, hq140_5_1, hq140_5_2, hq140_5_3, hq140_5_4⟩ | ⟨rfl, hq140_6_0, hq140_6_1, hq140_6_2, hq140_6_3, hq140_6_4, hq140_6_5⟩ | ⟨rfl, hq140_7_0, hq140_7_1, hq140_7_2, hq140_7_3, hq140_7_4, hq140_7_5, hq140_7_6⟩ | ⟨rfl, hq140_8_0, hq140_8_1, hq140_8_2, hq140_8_3, hq140_8_4, hq140_8_5, hq140_8_6⟩ | ⟨rfl, hq140_9_0, hq140_9_1, hq140_9_2, hq140_9_3, hq140_9_4⟩ | ⟨rfl, hq140_10_0, hq140_10_1, hq140_10_2, hq140_10_3, hq140_10_4⟩ | ⟨rfl, hq140_11_0, hq140_11_1, hq140_11_2, hq140_11_3, hq140_11_4⟩ | ⟨rfl, hq140_12_0, hq140_12_1, hq140_12_2, hq140_12_3, hq140_12_4, hq140_12_5⟩ | ⟨rfl, hq140_13_0, hq140_13_1, hq140_13_2, hq140_13_3, hq140_13_4, hq140_13_5⟩
            · exact absurd hq140_0_0 (by intro hz; have := own_i0; have := own_i1; have := own_i2; have := own_j2147483647; have := own_i5; simp only [Int32.lt_iff_toInt_lt, ← Int32.toInt_inj] at hz hq110_5_0 hq110_5_2 hq110_5_1; omega)
            · exact absurd hq140_1_0 (by intro hz; have := own_i0; have := own_i1; have := own_i2; have := own_j2147483647; have := own_i5; simp only [Int32.lt_iff_toInt_lt, ← Int32.toInt_inj] at hz hq110_5_0 hq110_5_2 hq110_5_1; omega)
            · exact absurd hq140_2_1 (by intro hz; have := own_i0; have := own_i1; have := own_i2; have := own_j2147483647; have := own_i5; simp only [Int32.lt_iff_toInt_lt, ← Int32.toInt_inj] at hz hq140_2_0 hq110_5_2 hq110_5_1; omega)
            · exact absurd hq140_3_1 (by intro hz; have := own_i0; have := own_i1; have := own_i2; have := own_j2147483647; have := own_i5; simp only [Int32.lt_iff_toInt_lt, ← Int32.toInt_inj] at hz hq140_3_0 hq110_5_2 hq110_5_1; omega)
            · exact absurd hq140_4_3 (by intro hz; have := own_i1; have := own_i2; have := own_i5; have := own_i7; simp only [Int32.lt_iff_toInt_lt, ← Int32.toInt_inj] at hz hq133_1_0 hq133_1_1; omega)
            · exact absurd hq140_5_4 (by intro hz; have := own_i1; have := own_i2; have := own_i3; have := own_i5; have := own_i7; simp only [Int32.lt_iff_toInt_lt, ← Int32.toInt_inj] at hz hq133_1_0 hq133_1_1 hq140_5_3; omega)
            · exact absurd hq140_6_5 (by intro hz; have := own_i1; have := own_i2; have := own_i3; have := own_i4; have := own_i5; have := own_i7; simp only [Int32.lt_iff_toInt_lt, ← Int32.toInt_inj] at hz hq133_1_0 hq133_1_1 hq140_6_3 hq140_6_4; omega)
            · exact absurd hq140_7_6 (by intro hz; have := own_i1; have := own_i2; have := own_i3; have := own_i4; have := own_i5; have := own_i7; simp only [Int32.lt_iff_toInt_lt, ← Int32.toInt_inj] at hz hq133_1_0 hq133_1_1 hq140_7_3 hq140_7_4 hq140_7_5; omega)
            · have pre142 : ∀ t, own_S p e below m T140 106 #[lvI p0_, lvI p1_, lvI p2_, lvI ((p0_ &&& (2147483647 : Int32)) % (5 : Int32)), lvR w_SET, lvI ((p2_ &&& (7 : Int32)) - (1 : Int32))] [(.int (1 : Int32))] t → G t := by
                intro t kt
                refine pre58 t ?_
                show own_S p e below m s₁ 21 #[lvI p0_, lvI p1_, lvI p2_, lvI ((p0_ &&& (2147483647 : Int32)) % (5 : Int32)), .unset, .unset] [(.int (1 : Int32)), (.int ((p0_ &&& (2147483647 : Int32)) % (5 : Int32)))] _
                refine XS.icmpNo X0.here hx rfl (hb hby at_21) rfl (teq hc59).2 ?_
                show own_S p e below m s₁ 24 #[lvI p0_, lvI p1_, lvI p2_, lvI ((p0_ &&& (2147483647 : Int32)) % (5 : Int32)), .unset, .unset] [] _
                refine st60 _ ?_
                refine XS.astore X60.here hx rfl (hb hby at_27) rfl rfl (l' := #[lvI p0_, lvI p1_, lvI p2_, lvI ((p0_ &&& (2147483647 : Int32)) % (5 : Int32)), lvR w_SET, .unset]) rfl ?_
                refine XS.goto X60.here hx rfl (pc0 := 29) (pc' := 63) rfl (hb hby at_29) (by decide) (by decide) ?_
                refine XS.iloadN X60.here hx rfl (hb hby at_63) rfl ?_
                refine XS.bipush X60.here hx rfl (hb hby at_64) ?_
                refine XS.iand X60.here hx rfl (hb hby at_66) rfl ?_
                show own_S p e below m T60 67 #[lvI p0_, lvI p1_, lvI p2_, lvI ((p0_ &&& (2147483647 : Int32)) % (5 : Int32)), lvR w_SET, .unset] [(.int (p2_ &&& (7 : Int32)))] _
                refine XS.iconst X60.here hx rfl (hb hby at_67) ?_
                refine XS.isub X60.here hx rfl (hb hby at_68) rfl ?_
                refine XS.istore X60.here hx rfl (hb hby at_69) rfl (l' := #[lvI p0_, lvI p1_, lvI p2_, lvI ((p0_ &&& (2147483647 : Int32)) % (5 : Int32)), lvR w_SET, lvI ((p2_ &&& (7 : Int32)) - (1 : Int32))]) rfl ?_
                refine XS.aload X60.here hx rfl (hb hby at_71) rfl rfl ?_
                refine XS.iloadN X60.here hx rfl (hb hby at_73) rfl ?_
                show own_S p e below m T60 74 #[lvI p0_, lvI p1_, lvI p2_, lvI ((p0_ &&& (2147483647 : Int32)) % (5 : Int32)), lvR w_SET, lvI ((p2_ &&& (7 : Int32)) - (1 : Int32))] [(.int p1_), (.ref w_SET)] _
                refine st61.trans ?_
                refine XS.iloadN X61.here hx rfl (hb hby at_77) rfl ?_
                refine XS.iloadN X61.here hx rfl (hb hby at_78) rfl ?_
                show own_S p e below m T61 79 #[lvI p0_, lvI p1_, lvI p2_, lvI ((p0_ &&& (2147483647 : Int32)) % (5 : Int32)), lvR w_SET, lvI ((p2_ &&& (7 : Int32)) - (1 : Int32))] [(.int p1_), (.int ((p0_ &&& (2147483647 : Int32)) % (5 : Int32))), (.int (1 : Int32))] _
                refine st110 _ ?_
                show own_S p e below m T110 82 #[lvI p0_, lvI p1_, lvI p2_, lvI ((p0_ &&& (2147483647 : Int32)) % (5 : Int32)), lvR w_SET, lvI ((p2_ &&& (7 : Int32)) - (1 : Int32))] [(.int (1 : Int32)), (.int (1 : Int32))] _
                refine XS.icmpNo X110.here hx rfl (hb hby at_82) rfl (teq (by decide : (1 : Int32) = (1 : Int32))).2 ?_
                refine XS.aload X110.here hx rfl (hb hby at_85) rfl rfl ?_
                refine XS.iload X110.here hx rfl (hb hby at_87) rfl ?_
                show own_S p e below m T110 89 #[lvI p0_, lvI p1_, lvI p2_, lvI ((p0_ &&& (2147483647 : Int32)) % (5 : Int32)), lvR w_SET, lvI ((p2_ &&& (7 : Int32)) - (1 : Int32))] [(.int ((p2_ &&& (7 : Int32)) - (1 : Int32))), (.ref w_SET)] _
                refine st133.trans ?_
                refine XS.iloadN X133.here hx rfl (hb hby at_92) rfl ?_
                refine XS.iload X133.here hx rfl (hb hby at_93) rfl ?_
                show own_S p e below m T133 95 #[lvI p0_, lvI p1_, lvI p2_, lvI ((p0_ &&& (2147483647 : Int32)) % (5 : Int32)), lvR w_SET, lvI ((p2_ &&& (7 : Int32)) - (1 : Int32))] [(.int ((p2_ &&& (7 : Int32)) - (1 : Int32))), (.int ((p0_ &&& (2147483647 : Int32)) % (5 : Int32))), (.int (0 : Int32))] _
                refine st140 _ ?_
                show own_S p e below m T140 98 #[lvI p0_, lvI p1_, lvI p2_, lvI ((p0_ &&& (2147483647 : Int32)) % (5 : Int32)), lvR w_SET, lvI ((p2_ &&& (7 : Int32)) - (1 : Int32))] [(.int (0 : Int32)), (.int (0 : Int32))] _
                refine XS.icmpNo X140.here hx rfl (hb hby at_98) rfl (teq (by decide : (0 : Int32) = (0 : Int32))).2 ?_
                refine XS.iconst X140.here hx rfl (hb hby at_101) ?_
                refine XS.goto X140.here hx rfl (pc0 := 102) (pc' := 106) rfl (hb hby at_102) (by decide) (by decide) ?_
                exact kt
              obtain ⟨fs, hr, hrun, hended, hW, hsame⟩ := X140.leave (v := some (.int (1 : Int32))) (fun h => by rw [Bd.returns] at h; cases h)
              refine ⟨_, _, hG _ (pre142 _ (retN X140 hx (t := .boolean) Bd.returns (by simp) (hb hby at_106) hr)), hrun, hended, _, _, rfl, ?_, ⟨_, rfl⟩, hW, hsame.mono (by decide) (by decide)⟩
              show QLaw Z p0_ p1_ p2_ w_GET w_SET w_DEL w_VDEL w_KEYNOTIFY h0 n0 _ T140.heap _
              rw [e140']
              exact ⟨rfl, N141⟩
            · exact absurd hq140_9_3 (by intro hz; have := own_i0; have := own_i1; have := own_i2; have := own_j2147483647; have := own_i3; have := own_i5; simp only [Int32.lt_iff_toInt_lt, ← Int32.toInt_inj] at hz hq140_9_0 hq110_5_2 hq140_9_1 hq140_9_2; omega)
            · exact absurd hq140_10_3 (by intro hz; have := own_i0; have := own_i1; have := own_i2; have := own_j2147483647; have := own_i3; have := own_i5; simp only [Int32.lt_iff_toInt_lt, ← Int32.toInt_inj] at hz hq140_10_0 hq110_5_2 hq140_10_1 hq140_10_2; omega)
            · exact absurd (by apply Decidable.by_contra; intro hz; have := own_i0; have := own_i1; have := own_i2; have := own_j2147483647; have := own_i5; simp only [Int32.lt_iff_toInt_lt, ← Int32.toInt_inj] at hz hq140_11_0 hq110_5_2 hq140_11_1; omega) hq140_11_2
            · exact absurd (by apply Decidable.by_contra; intro hz; have := own_i0; have := own_i1; have := own_i2; have := own_j2147483647; have := own_i5; simp only [Int32.lt_iff_toInt_lt, ← Int32.toInt_inj] at hz hq140_12_0 hq110_5_2 hq140_12_1; omega) hq140_12_2
            · exact absurd (by apply Decidable.by_contra; intro hz; have := own_i0; have := own_i1; have := own_i2; have := own_j2147483647; have := own_i5; simp only [Int32.lt_iff_toInt_lt, ← Int32.toInt_inj] at hz hq140_13_0 hq110_5_2 hq140_13_1; omega) hq140_13_2
          · obtain ⟨_, _, ⟨T144, L144, k144, n144⟩, -, X144, ⟨Lc144, hQ144, l144, y144, z144⟩, st144⟩ := Jvm.LawKit.callS X133 hx (y := (⟨"com/example/fawley/fawley/protocol/CommandTakesPinLaw", "expected", "(II)Z"⟩ : MethodName)) hown (mvT hZ (own_w hw 13 rfl)) (mvT hZ (own_w hw 14 rfl)) (mvT hZ (own_w hw 15 rfl)) (mvT hZ (own_w hw 16 rfl)) (by decide) (backOf (W := 1) (rmExp l Z a0 hw [] ((p0_ &&& (2147483647 : Int32)) % (5 : Int32)) ((p2_ &&& (7 : Int32)) - (1 : Int32)) h0 n0 O0 ) hZ (own_w hw 16 rfl) (own_w hw 15 rfl) (by decide) (by decide)) (g := (mkF m 95 #[lvI p0_, lvI p1_, lvI p2_, lvI ((p0_ &&& (2147483647 : Int32)) % (5 : Int32)), lvR w_SET, lvI ((p2_ &&& (7 : Int32)) - (1 : Int32))] [(.int ((p2_ &&& (7 : Int32)) - (1 : Int32))), (.int ((p0_ &&& (2147483647 : Int32)) % (5 : Int32))), (.int (1 : Int32))])) rfl (by rw [hml]; rfl) (argsL := [(.int ((p0_ &&& (2147483647 : Int32)) % (5 : Int32))), (.int ((p2_ &&& (7 : Int32)) - (1 : Int32)))]) (rest := [(.int (1 : Int32))]) (lenOf pd_1 rfl) rfl (by show 2 * 0 + _ ≤ _; exact Nat.le_of_eq rfl) (hb hby at_95) (fun _ _ => ⟨rfl, e133', (by decide : 0 + 0 ≤ _), (by decide : 0 + 0 ≤ _)⟩)
            dsimp only [Pt.U, Pt.locs, Pt.cells, Pt.slots] at X144 l144 y144 z144 st144 hQ144
            subst l144 y144 z144
            obtain ⟨h144, e144⟩ : ∃ z, T144.heap = z := ⟨_, rfl⟩
            rw [e144] at hQ144
            obtain ⟨rr144, rfl, hs144, N144q, hh144⟩ := hQ144
            have N145 := Fr.app N135 N144q
            have e144' : T144.heap = h0 := e144.trans hh144
            rcases hs144 with ⟨rfl, hq144_0_0, hq144_0_1⟩ | ⟨rfl, hq144_1_0, hq144_1_1⟩ | ⟨rfl, hq144_2_0, hq144_2_1, hq144_2_2⟩ | ⟨rfl, hq144_3_0, hq144_3_1, hq144_3_2⟩ | ⟨rfl, hq144_4_0, hq144_4_1, hq144_4_2, hq144_4_3⟩ | ⟨rfl, hq144_5_0, hq144_5_1, hq144_5_2, hq144_5_3, hq144_5_4⟩ | ⟨rfl, hq144_6_0, hq144_6_1, hq144_6_2, hq144_6_3, hq144_6_4, hq144_6_5⟩ | ⟨rfl, hq144_7_0, hq144_7_1, hq144_7_2, hq144_7_3, hq144_7_4, hq144_7_5, hq144_7_6⟩ | ⟨rfl, hq144_8_0, hq144_8_1, hq144_8_2, hq144_8_3, hq144_8_4, hq144_8_5, hq144_8_6⟩ | ⟨rfl, hq144_9_0, hq144_9_1, hq144_9_2, hq144_9_3, hq144_9_4⟩ | ⟨rfl, hq144_10_0, hq144_10_1, hq144_10_2, hq144_10_3, hq144_10_4⟩ | ⟨rfl, hq144_11_0, hq144_11_1, hq144_11_2, hq144_11_3, hq144_11_4⟩ | ⟨rfl, hq144_12_0, hq144_12_1, hq144_12_2, hq144_12_3, hq144_12_4, hq144_12_5⟩ | ⟨rfl, hq144_13_0, hq144_13_1, hq144_13_2, hq144_13_3, hq144_13_4, hq144_13_5⟩
            · exact absurd hq144_0_0 (by intro hz; have := own_i0; have := own_i1; have := own_i2; have := own_j2147483647; have := own_i5; simp only [Int32.lt_iff_toInt_lt, ← Int32.toInt_inj] at hz hq110_5_0 hq110_5_2 hq110_5_1; omega)
            · exact absurd hq144_1_0 (by intro hz; have := own_i0; have := own_i1; have := own_i2; have := own_j2147483647; have := own_i5; simp only [Int32.lt_iff_toInt_lt, ← Int32.toInt_inj] at hz hq110_5_0 hq110_5_2 hq110_5_1; omega)
            · exact absurd hq144_2_1 (by intro hz; have := own_i0; have := own_i1; have := own_i2; have := own_j2147483647; have := own_i5; simp only [Int32.lt_iff_toInt_lt, ← Int32.toInt_inj] at hz hq144_2_0 hq110_5_2 hq110_5_1; omega)
            · exact absurd hq144_3_1 (by intro hz; have := own_i0; have := own_i1; have := own_i2; have := own_j2147483647; have := own_i5; simp only [Int32.lt_iff_toInt_lt, ← Int32.toInt_inj] at hz hq144_3_0 hq110_5_2 hq110_5_1; omega)
            · have pre146 : ∀ t, own_S p e below m T144 106 #[lvI p0_, lvI p1_, lvI p2_, lvI ((p0_ &&& (2147483647 : Int32)) % (5 : Int32)), lvR w_SET, lvI ((p2_ &&& (7 : Int32)) - (1 : Int32))] [(.int (1 : Int32))] t → G t := by
                intro t kt
                refine pre58 t ?_
                show own_S p e below m s₁ 21 #[lvI p0_, lvI p1_, lvI p2_, lvI ((p0_ &&& (2147483647 : Int32)) % (5 : Int32)), .unset, .unset] [(.int (1 : Int32)), (.int ((p0_ &&& (2147483647 : Int32)) % (5 : Int32)))] _
                refine XS.icmpNo X0.here hx rfl (hb hby at_21) rfl (teq hc59).2 ?_
                show own_S p e below m s₁ 24 #[lvI p0_, lvI p1_, lvI p2_, lvI ((p0_ &&& (2147483647 : Int32)) % (5 : Int32)), .unset, .unset] [] _
                refine st60 _ ?_
                refine XS.astore X60.here hx rfl (hb hby at_27) rfl rfl (l' := #[lvI p0_, lvI p1_, lvI p2_, lvI ((p0_ &&& (2147483647 : Int32)) % (5 : Int32)), lvR w_SET, .unset]) rfl ?_
                refine XS.goto X60.here hx rfl (pc0 := 29) (pc' := 63) rfl (hb hby at_29) (by decide) (by decide) ?_
                refine XS.iloadN X60.here hx rfl (hb hby at_63) rfl ?_
                refine XS.bipush X60.here hx rfl (hb hby at_64) ?_
                refine XS.iand X60.here hx rfl (hb hby at_66) rfl ?_
                show own_S p e below m T60 67 #[lvI p0_, lvI p1_, lvI p2_, lvI ((p0_ &&& (2147483647 : Int32)) % (5 : Int32)), lvR w_SET, .unset] [(.int (p2_ &&& (7 : Int32)))] _
                refine XS.iconst X60.here hx rfl (hb hby at_67) ?_
                refine XS.isub X60.here hx rfl (hb hby at_68) rfl ?_
                refine XS.istore X60.here hx rfl (hb hby at_69) rfl (l' := #[lvI p0_, lvI p1_, lvI p2_, lvI ((p0_ &&& (2147483647 : Int32)) % (5 : Int32)), lvR w_SET, lvI ((p2_ &&& (7 : Int32)) - (1 : Int32))]) rfl ?_
                refine XS.aload X60.here hx rfl (hb hby at_71) rfl rfl ?_
                refine XS.iloadN X60.here hx rfl (hb hby at_73) rfl ?_
                show own_S p e below m T60 74 #[lvI p0_, lvI p1_, lvI p2_, lvI ((p0_ &&& (2147483647 : Int32)) % (5 : Int32)), lvR w_SET, lvI ((p2_ &&& (7 : Int32)) - (1 : Int32))] [(.int p1_), (.ref w_SET)] _
                refine st61.trans ?_
                refine XS.iloadN X61.here hx rfl (hb hby at_77) rfl ?_
                refine XS.iloadN X61.here hx rfl (hb hby at_78) rfl ?_
                show own_S p e below m T61 79 #[lvI p0_, lvI p1_, lvI p2_, lvI ((p0_ &&& (2147483647 : Int32)) % (5 : Int32)), lvR w_SET, lvI ((p2_ &&& (7 : Int32)) - (1 : Int32))] [(.int p1_), (.int ((p0_ &&& (2147483647 : Int32)) % (5 : Int32))), (.int (1 : Int32))] _
                refine st110 _ ?_
                show own_S p e below m T110 82 #[lvI p0_, lvI p1_, lvI p2_, lvI ((p0_ &&& (2147483647 : Int32)) % (5 : Int32)), lvR w_SET, lvI ((p2_ &&& (7 : Int32)) - (1 : Int32))] [(.int (1 : Int32)), (.int (1 : Int32))] _
                refine XS.icmpNo X110.here hx rfl (hb hby at_82) rfl (teq (by decide : (1 : Int32) = (1 : Int32))).2 ?_
                refine XS.aload X110.here hx rfl (hb hby at_85) rfl rfl ?_
                refine XS.iload X110.here hx rfl (hb hby at_87) rfl ?_
                show own_S p e below m T110 89 #[lvI p0_, lvI p1_, lvI p2_, lvI ((p0_ &&& (2147483647 : Int32)) % (5 : Int32)), lvR w_SET, lvI ((p2_ &&& (7 : Int32)) - (1 : Int32))] [(.int ((p2_ &&& (7 : Int32)) - (1 : Int32))), (.ref w_SET)] _
                refine st133.trans ?_
                refine XS.iloadN X133.here hx rfl (hb hby at_92) rfl ?_
                refine XS.iload X133.here hx rfl (hb hby at_93) rfl ?_
                show own_S p e below m T133 95 #[lvI p0_, lvI p1_, lvI p2_, lvI ((p0_ &&& (2147483647 : Int32)) % (5 : Int32)), lvR w_SET, lvI ((p2_ &&& (7 : Int32)) - (1 : Int32))] [(.int ((p2_ &&& (7 : Int32)) - (1 : Int32))), (.int ((p0_ &&& (2147483647 : Int32)) % (5 : Int32))), (.int (1 : Int32))] _
                refine st144 _ ?_
                show own_S p e below m T144 98 #[lvI p0_, lvI p1_, lvI p2_, lvI ((p0_ &&& (2147483647 : Int32)) % (5 : Int32)), lvR w_SET, lvI ((p2_ &&& (7 : Int32)) - (1 : Int32))] [(.int (1 : Int32)), (.int (1 : Int32))] _
                refine XS.icmpNo X144.here hx rfl (hb hby at_98) rfl (teq (by decide : (1 : Int32) = (1 : Int32))).2 ?_
                refine XS.iconst X144.here hx rfl (hb hby at_101) ?_
                refine XS.goto X144.here hx rfl (pc0 := 102) (pc' := 106) rfl (hb hby at_102) (by decide) (by decide) ?_
                exact kt
              obtain ⟨fs, hr, hrun, hended, hW, hsame⟩ := X144.leave (v := some (.int (1 : Int32))) (fun h => by rw [Bd.returns] at h; cases h)
              refine ⟨_, _, hG _ (pre146 _ (retN X144 hx (t := .boolean) Bd.returns (by simp) (hb hby at_106) hr)), hrun, hended, _, _, rfl, ?_, ⟨_, rfl⟩, hW, hsame.mono (by decide) (by decide)⟩
              show QLaw Z p0_ p1_ p2_ w_GET w_SET w_DEL w_VDEL w_KEYNOTIFY h0 n0 _ T144.heap _
              rw [e144']
              exact ⟨rfl, N145⟩
            · have pre148 : ∀ t, own_S p e below m T144 106 #[lvI p0_, lvI p1_, lvI p2_, lvI ((p0_ &&& (2147483647 : Int32)) % (5 : Int32)), lvR w_SET, lvI ((p2_ &&& (7 : Int32)) - (1 : Int32))] [(.int (1 : Int32))] t → G t := by
                intro t kt
                refine pre58 t ?_
                show own_S p e below m s₁ 21 #[lvI p0_, lvI p1_, lvI p2_, lvI ((p0_ &&& (2147483647 : Int32)) % (5 : Int32)), .unset, .unset] [(.int (1 : Int32)), (.int ((p0_ &&& (2147483647 : Int32)) % (5 : Int32)))] _
                refine XS.icmpNo X0.here hx rfl (hb hby at_21) rfl (teq hc59).2 ?_
                show own_S p e below m s₁ 24 #[lvI p0_, lvI p1_, lvI p2_, lvI ((p0_ &&& (2147483647 : Int32)) % (5 : Int32)), .unset, .unset] [] _
                refine st60 _ ?_
                refine XS.astore X60.here hx rfl (hb hby at_27) rfl rfl (l' := #[lvI p0_, lvI p1_, lvI p2_, lvI ((p0_ &&& (2147483647 : Int32)) % (5 : Int32)), lvR w_SET, .unset]) rfl ?_
                refine XS.goto X60.here hx rfl (pc0 := 29) (pc' := 63) rfl (hb hby at_29) (by decide) (by decide) ?_
                refine XS.iloadN X60.here hx rfl (hb hby at_63) rfl ?_
                refine XS.bipush X60.here hx rfl (hb hby at_64) ?_
                refine XS.iand X60.here hx rfl (hb hby at_66) rfl ?_
                show own_S p e below m T60 67 #[lvI p0_, lvI p1_, lvI p2_, lvI ((p0_ &&& (2147483647 : Int32)) % (5 : Int32)), lvR w_SET, .unset] [(.int (p2_ &&& (7 : Int32)))] _
                refine XS.iconst X60.here hx rfl (hb hby at_67) ?_
                refine XS.isub X60.here hx rfl (hb hby at_68) rfl ?_
                refine XS.istore X60.here hx rfl (hb hby at_69) rfl (l' := #[lvI p0_, lvI p1_, lvI p2_, lvI ((p0_ &&& (2147483647 : Int32)) % (5 : Int32)), lvR w_SET, lvI ((p2_ &&& (7 : Int32)) - (1 : Int32))]) rfl ?_
                refine XS.aload X60.here hx rfl (hb hby at_71) rfl rfl ?_
                refine XS.iloadN X60.here hx rfl (hb hby at_73) rfl ?_
                show own_S p e below m T60 74 #[lvI p0_, lvI p1_, lvI p2_, lvI ((p0_ &&& (2147483647 : Int32)) % (5 : Int32)), lvR w_SET, lvI ((p2_ &&& (7 : Int32)) - (1 : Int32))] [(.int p1_), (.ref w_SET)] _
                refine st61.trans ?_
                refine XS.iloadN X61.here hx rfl (hb hby at_77) rfl ?_
                refine XS.iloadN X61.here hx rfl (hb hby at_78) rfl ?_
                show own_S p e below m T61 79 #[lvI p0_, lvI p1_, lvI p2_, lvI ((p0_ &&& (2147483647 : Int32)) % (5 : Int32)), lvR w_SET, lvI ((p2_ &&& (7 : Int32)) - (1 : Int32))] [(.int p1_), (.int ((p0_ &&& (2147483647 : Int32)) % (5 : Int32))), (.int (1 : Int32))] _
                refine st110 _ ?_
                show own_S p e below m T110 82 #[lvI p0_, lvI p1_, lvI p2_, lvI ((p0_ &&& (2147483647 : Int32)) % (5 : Int32)), lvR w_SET, lvI ((p2_ &&& (7 : Int32)) - (1 : Int32))] [(.int (1 : Int32)), (.int (1 : Int32))] _
                refine XS.icmpNo X110.here hx rfl (hb hby at_82) rfl (teq (by decide : (1 : Int32) = (1 : Int32))).2 ?_
                refine XS.aload X110.here hx rfl (hb hby at_85) rfl rfl ?_
                refine XS.iload X110.here hx rfl (hb hby at_87) rfl ?_
                show own_S p e below m T110 89 #[lvI p0_, lvI p1_, lvI p2_, lvI ((p0_ &&& (2147483647 : Int32)) % (5 : Int32)), lvR w_SET, lvI ((p2_ &&& (7 : Int32)) - (1 : Int32))] [(.int ((p2_ &&& (7 : Int32)) - (1 : Int32))), (.ref w_SET)] _
                refine st133.trans ?_
                refine XS.iloadN X133.here hx rfl (hb hby at_92) rfl ?_
                refine XS.iload X133.here hx rfl (hb hby at_93) rfl ?_
                show own_S p e below m T133 95 #[lvI p0_, lvI p1_, lvI p2_, lvI ((p0_ &&& (2147483647 : Int32)) % (5 : Int32)), lvR w_SET, lvI ((p2_ &&& (7 : Int32)) - (1 : Int32))] [(.int ((p2_ &&& (7 : Int32)) - (1 : Int32))), (.int ((p0_ &&& (2147483647 : Int32)) % (5 : Int32))), (.int (1 : Int32))] _
                refine st144 _ ?_
                show own_S p e below m T144 98 #[lvI p0_, lvI p1_, lvI p2_, lvI ((p0_ &&& (2147483647 : Int32)) % (5 : Int32)), lvR w_SET, lvI ((p2_ &&& (7 : Int32)) - (1 : Int32))] [(.int (1 : Int32)), (.int (1 : Int32))] _
                refine XS.icmpNo X144.here hx rfl (hb hby at_98) rfl (teq (by decide : (1 : Int32) = (1 : Int32))).2 ?_
                refine XS.iconst X144.here hx rfl (hb hby at_101) ?_
                refine XS.goto X144.here hx rfl (pc0 := 102) (pc' := 106) rfl (hb hby at_102) (by decide) (by decide) ?_
                exact kt
              obtain ⟨fs, hr, hrun, hended, hW, hsame⟩ := X144.leave (v := some (.int (1 : Int32))) (fun h => by rw [Bd.returns] at h; cases h)
              refine ⟨_, _, hG _ (pre148 _ (retN X144 hx (t := .boolean) Bd.returns (by simp) (hb hby at_106) hr)), hrun, hended, _, _, rfl, ?_, ⟨_, rfl⟩, hW, hsame.mono (by decide) (by decide)⟩
              show QLaw Z p0_ p1_ p2_ w_GET w_SET w_DEL w_VDEL w_KEYNOTIFY h0 n0 _ T144.heap _
              rw [e144']
              exact ⟨rfl, N145⟩
            · have pre150 : ∀ t, own_S p e below m T144 106 #[lvI p0_, lvI p1_, lvI p2_, lvI ((p0_ &&& (2147483647 : Int32)) % (5 : Int32)), lvR w_SET, lvI ((p2_ &&& (7 : Int32)) - (1 : Int32))] [(.int (1 : Int32))] t → G t := by
                intro t kt
                refine pre58 t ?_
                show own_S p e below m s₁ 21 #[lvI p0_, lvI p1_, lvI p2_, lvI ((p0_ &&& (2147483647 : Int32)) % (5 : Int32)), .unset, .unset] [(.int (1 : Int32)), (.int ((p0_ &&& (2147483647 : Int32)) % (5 : Int32)))] _
                refine XS.icmpNo X0.here hx rfl (hb hby at_21) rfl (teq hc59).2 ?_
                show own_S p e below m s₁ 24 #[lvI p0_, lvI p1_, lvI p2_, lvI ((p0_ &&& (2147483647 : Int32)) % (5 : Int32)), .unset, .unset] [] _
                refine st60 _ ?_
                refine XS.astore X60.here hx rfl (hb hby at_27) rfl rfl (l' := #[lvI p0_, lvI p1_, lvI p2_, lvI ((p0_ &&& (2147483647 : Int32)) % (5 : Int32)), lvR w_SET, .unset]) rfl ?_
                refine XS.goto X60.here hx rfl (pc0 := 29) (pc' := 63) rfl (hb hby at_29) (by decide) (by decide) ?_
                refine XS.iloadN X60.here hx rfl (hb hby at_63) rfl ?_
                refine XS.bipush X60.here hx rfl (hb hby at_64) ?_
                refine XS.iand X60.here hx rfl (hb hby at_66) rfl ?_
                show own_S p e below m T60 67 #[lvI p0_, lvI p1_, lvI p2_, lvI ((p0_ &&& (2147483647 : Int32)) % (5 : Int32)), lvR w_SET, .unset] [(.int (p2_ &&& (7 : Int32)))] _
                refine XS.iconst X60.here hx rfl (hb hby at_67) ?_
                refine XS.isub X60.here hx rfl (hb hby at_68) rfl ?_
                refine XS.istore X60.here hx rfl (hb hby at_69) rfl (l' := #[lvI p0_, lvI p1_, lvI p2_, lvI ((p0_ &&& (2147483647 : Int32)) % (5 : Int32)), lvR w_SET, lvI ((p2_ &&& (7 : Int32)) - (1 : Int32))]) rfl ?_
                refine XS.aload X60.here hx rfl (hb hby at_71) rfl rfl ?_
                refine XS.iloadN X60.here hx rfl (hb hby at_73) rfl ?_
                show own_S p e below m T60 74 #[lvI p0_, lvI p1_, lvI p2_, lvI ((p0_ &&& (2147483647 : Int32)) % (5 : Int32)), lvR w_SET, lvI ((p2_ &&& (7 : Int32)) - (1 : Int32))] [(.int p1_), (.ref w_SET)] _
                refine st61.trans ?_
                refine XS.iloadN X61.here hx rfl (hb hby at_77) rfl ?_
                refine XS.iloadN X61.here hx rfl (hb hby at_78) rfl ?_
                show own_S p e below m T61 79 #[lvI p0_, lvI p1_, lvI p2_, lvI ((p0_ &&& (2147483647 : Int32)) % (5 : Int32)), lvR w_SET, lvI ((p2_ &&& (7 : Int32)) - (1 : Int32))] [(.int p1_), (.int ((p0_ &&& (2147483647 : Int32)) % (5 : Int32))), (.int (1 : Int32))] _
                refine st110 _ ?_
                show own_S p e below m T110 82 #[lvI p0_, lvI p1_, lvI p2_, lvI ((p0_ &&& (2147483647 : Int32)) % (5 : Int32)), lvR w_SET, lvI ((p2_ &&& (7 : Int32)) - (1 : Int32))] [(.int (1 : Int32)), (.int (1 : Int32))] _
                refine XS.icmpNo X110.here hx rfl (hb hby at_82) rfl (teq (by decide : (1 : Int32) = (1 : Int32))).2 ?_
                refine XS.aload X110.here hx rfl (hb hby at_85) rfl rfl ?_
                refine XS.iload X110.here hx rfl (hb hby at_87) rfl ?_
                show own_S p e below m T110 89 #[lvI p0_, lvI p1_, lvI p2_, lvI ((p0_ &&& (2147483647 : Int32)) % (5 : Int32)), lvR w_SET, lvI ((p2_ &&& (7 : Int32)) - (1 : Int32))] [(.int ((p2_ &&& (7 : Int32)) - (1 : Int32))), (.ref w_SET)] _
                refine st133.trans ?_
                refine XS.iloadN X133.here hx rfl (hb hby at_92) rfl ?_
                refine XS.iload X133.here hx rfl (hb hby at_93) rfl ?_
                show own_S p e below m T133 95 #[lvI p0_, lvI p1_, lvI p2_, lvI ((p0_ &&& (2147483647 : Int32)) % (5 : Int32)), lvR w_SET, lvI ((p2_ &&& (7 : Int32)) - (1 : Int32))] [(.int ((p2_ &&& (7 : Int32)) - (1 : Int32))), (.int ((p0_ &&& (2147483647 : Int32)) % (5 : Int32))), (.int (1 : Int32))] _
                refine st144 _ ?_
                show own_S p e below m T144 98 #[lvI p0_, lvI p1_, lvI p2_, lvI ((p0_ &&& (2147483647 : Int32)) % (5 : Int32)), lvR w_SET, lvI ((p2_ &&& (7 : Int32)) - (1 : Int32))] [(.int (1 : Int32)), (.int (1 : Int32))] _
                refine XS.icmpNo X144.here hx rfl (hb hby at_98) rfl (teq (by decide : (1 : Int32) = (1 : Int32))).2 ?_
                refine XS.iconst X144.here hx rfl (hb hby at_101) ?_
                refine XS.goto X144.here hx rfl (pc0 := 102) (pc' := 106) rfl (hb hby at_102) (by decide) (by decide) ?_
                exact kt
              obtain ⟨fs, hr, hrun, hended, hW, hsame⟩ := X144.leave (v := some (.int (1 : Int32))) (fun h => by rw [Bd.returns] at h; cases h)
              refine ⟨_, _, hG _ (pre150 _ (retN X144 hx (t := .boolean) Bd.returns (by simp) (hb hby at_106) hr)), hrun, hended, _, _, rfl, ?_, ⟨_, rfl⟩, hW, hsame.mono (by decide) (by decide)⟩
              show QLaw Z p0_ p1_ p2_ w_GET w_SET w_DEL w_VDEL w_KEYNOTIFY h0 n0 _ T144.heap _
              rw [e144']
              exact ⟨rfl, N145⟩
            · have pre152 : ∀ t, own_S p e below m T144 106 #[lvI p0_, lvI p1_, lvI p2_, lvI ((p0_ &&& (2147483647 : Int32)) % (5 : Int32)), lvR w_SET, lvI ((p2_ &&& (7 : Int32)) - (1 : Int32))] [(.int (1 : Int32))] t → G t := by
                intro t kt
                refine pre58 t ?_
                show own_S p e below m s₁ 21 #[lvI p0_, lvI p1_, lvI p2_, lvI ((p0_ &&& (2147483647 : Int32)) % (5 : Int32)), .unset, .unset] [(.int (1 : Int32)), (.int ((p0_ &&& (2147483647 : Int32)) % (5 : Int32)))] _
                refine XS.icmpNo X0.here hx rfl (hb hby at_21) rfl (teq hc59).2 ?_
                show own_S p e below m s₁ 24 #[lvI p0_, lvI p1_, lvI p2_, lvI ((p0_ &&& (2147483647 : Int32)) % (5 : Int32)), .unset, .unset] [] _
                refine st60 _ ?_
                refine XS.astore X60.here hx rfl (hb hby at_27) rfl rfl (l' := #[lvI p0_, lvI p1_, lvI p2_, lvI ((p0_ &&& (2147483647 : Int32)) % (5 : Int32)), lvR w_SET, .unset]) rfl ?_
                refine XS.goto X60.here hx rfl (pc0 := 29) (pc' := 63) rfl (hb hby at_29) (by decide) (by decide) ?_
                refine XS.iloadN X60.here hx rfl (hb hby at_63) rfl ?_
                refine XS.bipush X60.here hx rfl (hb hby at_64) ?_
                refine XS.iand X60.here hx rfl (hb hby at_66) rfl ?_
                show own_S p e below m T60 67 #[lvI p0_, lvI p1_, lvI p2_, lvI ((p0_ &&& (2147483647 : Int32)) % (5 : Int32)), lvR w_SET, .unset] [(.int (p2_ &&& (7 : Int32)))] _
                refine XS.iconst X60.here hx rfl (hb hby at_67) ?_
                refine XS.isub X60.here hx rfl (hb hby at_68) rfl ?_
                refine XS.istore X60.here hx rfl (hb hby at_69) rfl (l' := #[lvI p0_, lvI p1_, lvI p2_, lvI ((p0_ &&& (2147483647 : Int32)) % (5 : Int32)), lvR w_SET, lvI ((p2_ &&& (7 : Int32)) - (1 : Int32))]) rfl ?_
                refine XS.aload X60.here hx rfl (hb hby at_71) rfl rfl ?_
                refine XS.iloadN X60.here hx rfl (hb hby at_73) rfl ?_
                show own_S p e below m T60 74 #[lvI p0_, lvI p1_, lvI p2_, lvI ((p0_ &&& (2147483647 : Int32)) % (5 : Int32)), lvR w_SET, lvI ((p2_ &&& (7 : Int32)) - (1 : Int32))] [(.int p1_), (.ref w_SET)] _
                refine st61.trans ?_
                refine XS.iloadN X61.here hx rfl (hb hby at_77) rfl ?_
                refine XS.iloadN X61.here hx rfl (hb hby at_78) rfl ?_
                show own_S p e below m T61 79 #[lvI p0_, lvI p1_, lvI p2_, lvI ((p0_ &&& (2147483647 : Int32)) % (5 : Int32)), lvR w_SET, lvI ((p2_ &&& (7 : Int32)) - (1 : Int32))] [(.int p1_), (.int ((p0_ &&& (2147483647 : Int32)) % (5 : Int32))), (.int (1 : Int32))] _
                refine st110 _ ?_
                show own_S p e below m T110 82 #[lvI p0_, lvI p1_, lvI p2_, lvI ((p0_ &&& (2147483647 : Int32)) % (5 : Int32)), lvR w_SET, lvI ((p2_ &&& (7 : Int32)) - (1 : Int32))] [(.int (1 : Int32)), (.int (1 : Int32))] _
                refine XS.icmpNo X110.here hx rfl (hb hby at_82) rfl (teq (by decide : (1 : Int32) = (1 : Int32))).2 ?_
                refine XS.aload X110.here hx rfl (hb hby at_85) rfl rfl ?_
                refine XS.iload X110.here hx rfl (hb hby at_87) rfl ?_
                show own_S p e below m T110 89 #[lvI p0_, lvI p1_, lvI p2_, lvI ((p0_ &&& (2147483647 : Int32)) % (5 : Int32)), lvR w_SET, lvI ((p2_ &&& (7 : Int32)) - (1 : Int32))] [(.int ((p2_ &&& (7 : Int32)) - (1 : Int32))), (.ref w_SET)] _
                refine st133.trans ?_
                refine XS.iloadN X133.here hx rfl (hb hby at_92) rfl ?_
                refine XS.iload X133.here hx rfl (hb hby at_93) rfl ?_
                show own_S p e below m T133 95 #[lvI p0_, lvI p1_, lvI p2_, lvI ((p0_ &&& (2147483647 : Int32)) % (5 : Int32)), lvR w_SET, lvI ((p2_ &&& (7 : Int32)) - (1 : Int32))] [(.int ((p2_ &&& (7 : Int32)) - (1 : Int32))), (.int ((p0_ &&& (2147483647 : Int32)) % (5 : Int32))), (.int (1 : Int32))] _
                refine st144 _ ?_
                show own_S p e below m T144 98 #[lvI p0_, lvI p1_, lvI p2_, lvI ((p0_ &&& (2147483647 : Int32)) % (5 : Int32)), lvR w_SET, lvI ((p2_ &&& (7 : Int32)) - (1 : Int32))] [(.int (1 : Int32)), (.int (1 : Int32))] _
                refine XS.icmpNo X144.here hx rfl (hb hby at_98) rfl (teq (by decide : (1 : Int32) = (1 : Int32))).2 ?_
                refine XS.iconst X144.here hx rfl (hb hby at_101) ?_
                refine XS.goto X144.here hx rfl (pc0 := 102) (pc' := 106) rfl (hb hby at_102) (by decide) (by decide) ?_
                exact kt
              obtain ⟨fs, hr, hrun, hended, hW, hsame⟩ := X144.leave (v := some (.int (1 : Int32))) (fun h => by rw [Bd.returns] at h; cases h)
              refine ⟨_, _, hG _ (pre152 _ (retN X144 hx (t := .boolean) Bd.returns (by simp) (hb hby at_106) hr)), hrun, hended, _, _, rfl, ?_, ⟨_, rfl⟩, hW, hsame.mono (by decide) (by decide)⟩
              show QLaw Z p0_ p1_ p2_ w_GET w_SET w_DEL w_VDEL w_KEYNOTIFY h0 n0 _ T144.heap _
              rw [e144']
              exact ⟨rfl, N145⟩
            · exact absurd (by apply Decidable.by_contra; intro hz; have := own_i1; have := own_i2; have := own_i3; have := own_i4; have := own_i5; have := own_i7; simp only [Int32.lt_iff_toInt_lt, ← Int32.toInt_inj] at hz hq133_2_0 hq133_2_1 hq144_8_3 hq144_8_4 hq144_8_5; omega) hq144_8_6
            · exact absurd hq144_9_3 (by intro hz; have := own_i0; have := own_i1; have := own_i2; have := own_j2147483647; have := own_i3; have := own_i5; simp only [Int32.lt_iff_toInt_lt, ← Int32.toInt_inj] at hz hq144_9_0 hq110_5_2 hq144_9_1 hq144_9_2; omega)
            · exact absurd hq144_10_3 (by intro hz; have := own_i0; have := own_i1; have := own_i2; have := own_j2147483647; have := own_i3; have := own_i5; simp only [Int32.lt_iff_toInt_lt, ← Int32.toInt_inj] at hz hq144_10_0 hq110_5_2 hq144_10_1 hq144_10_2; omega)
            · exact absurd (by apply Decidable.by_contra; intro hz; have := own_i0; have := own_i1; have := own_i2; have := own_j2147483647; have := own_i5; simp only [Int32.lt_iff_toInt_lt, ← Int32.toInt_inj] at hz hq144_11_0 hq110_5_2 hq144_11_1; omega) hq144_11_2
            · exact absurd (by apply Decidable.by_contra; intro hz; have := own_i0; have := own_i1; have := own_i2; have := own_j2147483647; have := own_i5; simp only [Int32.lt_iff_toInt_lt, ← Int32.toInt_inj] at hz hq144_12_0 hq110_5_2 hq144_12_1; omega) hq144_12_2
            · exact absurd (by apply Decidable.by_contra; intro hz; have := own_i0; have := own_i1; have := own_i2; have := own_j2147483647; have := own_i5; simp only [Int32.lt_iff_toInt_lt, ← Int32.toInt_inj] at hz hq144_13_0 hq110_5_2 hq144_13_1; omega) hq144_13_2
        · have f155 : Exa Z h0 w_SET cn0 := P5.ext O0.2
          obtain ⟨cq154, kq154, q154a, q154b, q154c⟩ := isOf hZ e110' f155
          obtain ⟨_, _, ⟨T154, L154, k154, n154⟩, -, X154, ⟨Lc154, hQ154, l154, y154, z154⟩, st154⟩ := X110.virtualBack hx (y := (⟨"com/example/fawley/fawley/protocol/Command", "takes", "(I)Z"⟩ : MethodName)) (z := (⟨"com/example/fawley/fawley/protocol/Command", "takes", "(I)Z"⟩ : MethodName)) hown (mvT hZ (own_w hw 4 rfl)) (mvT hZ (own_w hw 5 rfl)) (notFace_of_selects (args := #[]) (mvT hZ (own_w hw 7 rfl))) (mvT hZ (own_w hw 7 rfl)) (mvT hZ (own_w hw 6 rfl)) (by decide) (backOf (W := 0) (rmTak l Z a0 hw [] w_SET ((p2_ &&& (7 : Int32)) - (1 : Int32)) (2 : Int32) (5 : Int32) h0 n0 O0 P6 P7) hZ (own_w hw 8 rfl) (own_w hw 2 rfl) (by decide) (by decide)) q154a q154c (g := (mkF m 89 #[lvI p0_, lvI p1_, lvI p2_, lvI ((p0_ &&& (2147483647 : Int32)) % (5 : Int32)), lvR w_SET, lvI ((p2_ &&& (7 : Int32)) - (1 : Int32))] [(.int ((p2_ &&& (7 : Int32)) - (1 : Int32))), (.ref w_SET)])) rfl (by rw [hml]; rfl) (Steps.refl _) (argsL := [(.int ((p2_ &&& (7 : Int32)) - (1 : Int32)))]) (rest := []) (lenOf pd_0 rfl) rfl (by show 2 * 0 + _ ≤ _; exact Nat.le_of_eq rfl) (hb hby at_89) (fun _ _ => ⟨rfl, e110', (by decide : 0 + 0 ≤ _), (by decide : 0 + 0 ≤ _)⟩)
          dsimp only [Pt.U, Pt.locs, Pt.cells, Pt.slots] at X154 l154 y154 z154 st154 hQ154
          subst l154 y154 z154
          obtain ⟨h154, e154⟩ : ∃ z, T154.heap = z := ⟨_, rfl⟩
          rw [e154] at hQ154
          obtain ⟨rr154, rfl, hs154, N154q, hh154⟩ := hQ154
          have N156 := Fr.app N111 N154q
          have e154' : T154.heap = h0 := e154.trans hh154
          rcases hs154 with ⟨rfl, hq154_0_0⟩ | ⟨rfl, hq154_1_0, hq154_1_1⟩ | ⟨rfl, hq154_2_0, hq154_2_1⟩
          · obtain ⟨_, _, ⟨T157, L157, k157, n157⟩, -, X157, ⟨Lc157, hQ157, l157, y157, z157⟩, st157⟩ := Jvm.LawKit.callS X154 hx (y := (⟨"com/example/fawley/fawley/protocol/CommandTakesPinLaw", "expected", "(II)Z"⟩ : MethodName)) hown (mvT hZ (own_w hw 13 rfl)) (mvT hZ (own_w hw 14 rfl)) (mvT hZ (own_w hw 15 rfl)) (mvT hZ (own_w hw 16 rfl)) (by decide) (backOf (W := 1) (rmExp l Z a0 hw [] ((p0_ &&& (2147483647 : Int32)) % (5 : Int32)) ((p2_ &&& (7 : Int32)) - (1 : Int32)) h0 n0 O0 ) hZ (own_w hw 16 rfl) (own_w hw 15 rfl) (by decide) (by decide)) (g := (mkF m 95 #[lvI p0_, lvI p1_, lvI p2_, lvI ((p0_ &&& (2147483647 : Int32)) % (5 : Int32)), lvR w_SET, lvI ((p2_ &&& (7 : Int32)) - (1 : Int32))] [(.int ((p2_ &&& (7 : Int32)) - (1 : Int32))), (.int ((p0_ &&& (2147483647 : Int32)) % (5 : Int32))), (.int (0 : Int32))])) rfl (by rw [hml]; rfl) (argsL := [(.int ((p0_ &&& (2147483647 : Int32)) % (5 : Int32))), (.int ((p2_ &&& (7 : Int32)) - (1 : Int32)))]) (rest := [(.int (0 : Int32))]) (lenOf pd_1 rfl) rfl (by show 2 * 0 + _ ≤ _; exact Nat.le_of_eq rfl) (hb hby at_95) (fun _ _ => ⟨rfl, e154', (by decide : 0 + 0 ≤ _), (by decide : 0 + 0 ≤ _)⟩)
            dsimp only [Pt.U, Pt.locs, Pt.cells, Pt.slots] at X157 l157 y157 z157 st157 hQ157
            subst l157 y157 z157
            obtain ⟨h157, e157⟩ : ∃ z, T157.heap = z := ⟨_, rfl⟩
            rw [e157] at hQ157
            obtain ⟨rr157, rfl, hs157, N157q, hh157⟩ := hQ157
            have N158 := Fr.app N156 N157q
            have e157' : T157.heap = h0 := e157.trans hh157
            rcases hs157 with ⟨rfl, hq157_0_0, hq157_0_1⟩ | ⟨rfl, hq157_1_0, hq157_1_1⟩ | ⟨rfl, hq157_2_0, hq157_2_1, hq157_2_2⟩ | ⟨rfl, hq157_3_0, hq157_3_1, hq157_3_2⟩ | ⟨rfl, hq157_4_0, hq157_4_1, hq157_4_2, hq157_4_3⟩ | ⟨rfl, hq157_5_0, hq157_5_1, hq157_5_2, hq157_5_3, hq157_5_4⟩ | ⟨rfl, hq157_6_0, hq157_6_1, hq157_6_2, hq157_6_3, hq157_6_4, hq157_6_5⟩ | ⟨rfl, hq157_7_0, hq157_7_1, hq157_7_2, hq157_7_3, hq157_7_4, hq157_7_5, hq157_7_6⟩ | ⟨rfl, hq157_8_0, hq157_8_1, hq157_8_2, hq157_8_3, hq157_8_4, hq157_8_5, hq157_8_6⟩ | ⟨rfl, hq157_9_0, hq157_9_1, hq157_9_2, hq157_9_3, hq157_9_4⟩ | ⟨rfl, hq157_10_0, hq157_10_1, hq157_10_2, hq157_10_3, hq157_10_4⟩ | ⟨rfl, hq157_11_0, hq157_11_1, hq157_11_2, hq157_11_3, hq157_11_4⟩ | ⟨rfl, hq157_12_0, hq157_12_1, hq157_12_2, hq157_12_3, hq157_12_4, hq157_12_5⟩ | ⟨rfl, hq157_13_0, hq157_13_1, hq157_13_2, hq157_13_3, hq157_13_4, hq157_13_5⟩
            · exact absurd hq157_0_0 (by intro hz; have := own_i0; have := own_i1; have := own_i2; have := own_j2147483647; have := own_i5; simp only [Int32.lt_iff_toInt_lt, ← Int32.toInt_inj] at hz hq110_6_0 hq110_6_2 hq110_6_1; omega)
            · exact absurd hq157_1_0 (by intro hz; have := own_i0; have := own_i1; have := own_i2; have := own_j2147483647; have := own_i5; simp only [Int32.lt_iff_toInt_lt, ← Int32.toInt_inj] at hz hq110_6_0 hq110_6_2 hq110_6_1; omega)
            · exact absurd hq157_2_1 (by intro hz; have := own_i0; have := own_i1; have := own_i2; have := own_j2147483647; have := own_i5; simp only [Int32.lt_iff_toInt_lt, ← Int32.toInt_inj] at hz hq157_2_0 hq110_6_2 hq110_6_1; omega)
            · exact absurd hq157_3_1 (by intro hz; have := own_i0; have := own_i1; have := own_i2; have := own_j2147483647; have := own_i5; simp only [Int32.lt_iff_toInt_lt, ← Int32.toInt_inj] at hz hq157_3_0 hq110_6_2 hq110_6_1; omega)
            · exact absurd hq157_4_3 (by intro hz; have := own_i1; have := own_i2; have := own_i7; simp only [Int32.lt_iff_toInt_lt, ← Int32.toInt_inj] at hz hq154_0_0; omega)
            · exact absurd hq157_5_4 (by intro hz; have := own_i1; have := own_i2; have := own_i3; have := own_i7; simp only [Int32.lt_iff_toInt_lt, ← Int32.toInt_inj] at hz hq154_0_0 hq157_5_3; omega)
            · exact absurd hq157_6_5 (by intro hz; have := own_i1; have := own_i2; have := own_i3; have := own_i4; have := own_i7; simp only [Int32.lt_iff_toInt_lt, ← Int32.toInt_inj] at hz hq154_0_0 hq157_6_3 hq157_6_4; omega)
            · exact absurd hq157_7_6 (by intro hz; have := own_i1; have := own_i2; have := own_i3; have := own_i4; have := own_i5; have := own_i7; simp only [Int32.lt_iff_toInt_lt, ← Int32.toInt_inj] at hz hq154_0_0 hq157_7_3 hq157_7_4 hq157_7_5; omega)
            · have pre159 : ∀ t, own_S p e below m T157 106 #[lvI p0_, lvI p1_, lvI p2_, lvI ((p0_ &&& (2147483647 : Int32)) % (5 : Int32)), lvR w_SET, lvI ((p2_ &&& (7 : Int32)) - (1 : Int32))] [(.int (1 : Int32))] t → G t := by
                intro t kt
                refine pre58 t ?_
                show own_S p e below m s₁ 21 #[lvI p0_, lvI p1_, lvI p2_, lvI ((p0_ &&& (2147483647 : Int32)) % (5 : Int32)), .unset, .unset] [(.int (1 : Int32)), (.int ((p0_ &&& (2147483647 : Int32)) % (5 : Int32)))] _
                refine XS.icmpNo X0.here hx rfl (hb hby at_21) rfl (teq hc59).2 ?_
                show own_S p e below m s₁ 24 #[lvI p0_, lvI p1_, lvI p2_, lvI ((p0_ &&& (2147483647 : Int32)) % (5 : Int32)), .unset, .unset] [] _
                refine st60 _ ?_
                refine XS.astore X60.here hx rfl (hb hby at_27) rfl rfl (l' := #[lvI p0_, lvI p1_, lvI p2_, lvI ((p0_ &&& (2147483647 : Int32)) % (5 : Int32)), lvR w_SET, .unset]) rfl ?_
                refine XS.goto X60.here hx rfl (pc0 := 29) (pc' := 63) rfl (hb hby at_29) (by decide) (by decide) ?_
                refine XS.iloadN X60.here hx rfl (hb hby at_63) rfl ?_
                refine XS.bipush X60.here hx rfl (hb hby at_64) ?_
                refine XS.iand X60.here hx rfl (hb hby at_66) rfl ?_
                show own_S p e below m T60 67 #[lvI p0_, lvI p1_, lvI p2_, lvI ((p0_ &&& (2147483647 : Int32)) % (5 : Int32)), lvR w_SET, .unset] [(.int (p2_ &&& (7 : Int32)))] _
                refine XS.iconst X60.here hx rfl (hb hby at_67) ?_
                refine XS.isub X60.here hx rfl (hb hby at_68) rfl ?_
                refine XS.istore X60.here hx rfl (hb hby at_69) rfl (l' := #[lvI p0_, lvI p1_, lvI p2_, lvI ((p0_ &&& (2147483647 : Int32)) % (5 : Int32)), lvR w_SET, lvI ((p2_ &&& (7 : Int32)) - (1 : Int32))]) rfl ?_
                refine XS.aload X60.here hx rfl (hb hby at_71) rfl rfl ?_
                refine XS.iloadN X60.here hx rfl (hb hby at_73) rfl ?_
                show own_S p e below m T60 74 #[lvI p0_, lvI p1_, lvI p2_, lvI ((p0_ &&& (2147483647 : Int32)) % (5 : Int32)), lvR w_SET, lvI ((p2_ &&& (7 : Int32)) - (1 : Int32))] [(.int p1_), (.ref w_SET)] _
                refine st61.trans ?_
                refine XS.iloadN X61.here hx rfl (hb hby at_77) rfl ?_
                refine XS.iloadN X61.here hx rfl (hb hby at_78) rfl ?_
                show own_S p e below m T61 79 #[lvI p0_, lvI p1_, lvI p2_, lvI ((p0_ &&& (2147483647 : Int32)) % (5 : Int32)), lvR w_SET, lvI ((p2_ &&& (7 : Int32)) - (1 : Int32))] [(.int p1_), (.int ((p0_ &&& (2147483647 : Int32)) % (5 : Int32))), (.int (1 : Int32))] _
                refine st110 _ ?_
                show own_S p e below m T110 82 #[lvI p0_, lvI p1_, lvI p2_, lvI ((p0_ &&& (2147483647 : Int32)) % (5 : Int32)), lvR w_SET, lvI ((p2_ &&& (7 : Int32)) - (1 : Int32))] [(.int (1 : Int32)), (.int (1 : Int32))] _
                refine XS.icmpNo X110.here hx rfl (hb hby at_82) rfl (teq (by decide : (1 : Int32) = (1 : Int32))).2 ?_
                refine XS.aload X110.here hx rfl (hb hby at_85) rfl rfl ?_
                refine XS.iload X110.here hx rfl (hb hby at_87) rfl ?_
                show own_S p e below m T110 89 #[lvI p0_, lvI p1_, lvI p2_, lvI ((p0_ &&& (2147483647 : Int32)) % (5 : Int32)), lvR w_SET, lvI ((p2_ &&& (7 : Int32)) - (1 : Int32))] [(.int ((p2_ &&& (7 : Int32)) - (1 : Int32))), (.ref w_SET)] _
                refine st154.trans ?_
                refine XS.iloadN X154.here hx rfl (hb hby at_92) rfl ?_
                refine XS.iload X154.here hx rfl (hb hby at_93) rfl ?_
                show own_S p e below m T154 95 #[lvI p0_, lvI p1_, lvI p2_, lvI ((p0_ &&& (2147483647 : Int32)) % (5 : Int32)), lvR w_SET, lvI ((p2_ &&& (7 : Int32)) - (1 : Int32))] [(.int ((p2_ &&& (7 : Int32)) - (1 : Int32))), (.int ((p0_ &&& (2147483647 : Int32)) % (5 : Int32))), (.int (0 : Int32))] _
                refine st157 _ ?_
                show own_S p e below m T157 98 #[lvI p0_, lvI p1_, lvI p2_, lvI ((p0_ &&& (2147483647 : Int32)) % (5 : Int32)), lvR w_SET, lvI ((p2_ &&& (7 : Int32)) - (1 : Int32))] [(.int (0 : Int32)), (.int (0 : Int32))] _
                refine XS.icmpNo X157.here hx rfl (hb hby at_98) rfl (teq (by decide : (0 : Int32) = (0 : Int32))).2 ?_
                refine XS.iconst X157.here hx rfl (hb hby at_101) ?_
                refine XS.goto X157.here hx rfl (pc0 := 102) (pc' := 106) rfl (hb hby at_102) (by decide) (by decide) ?_
                exact kt
              obtain ⟨fs, hr, hrun, hended, hW, hsame⟩ := X157.leave (v := some (.int (1 : Int32))) (fun h => by rw [Bd.returns] at h; cases h)
              refine ⟨_, _, hG _ (pre159 _ (retN X157 hx (t := .boolean) Bd.returns (by simp) (hb hby at_106) hr)), hrun, hended, _, _, rfl, ?_, ⟨_, rfl⟩, hW, hsame.mono (by decide) (by decide)⟩
              show QLaw Z p0_ p1_ p2_ w_GET w_SET w_DEL w_VDEL w_KEYNOTIFY h0 n0 _ T157.heap _
              rw [e157']
              exact ⟨rfl, N158⟩
            · exact absurd hq157_9_3 (by intro hz; have := own_i0; have := own_i1; have := own_i2; have := own_j2147483647; have := own_i3; have := own_i5; simp only [Int32.lt_iff_toInt_lt, ← Int32.toInt_inj] at hz hq157_9_0 hq110_6_2 hq157_9_1 hq157_9_2; omega)
            · exact absurd hq157_10_3 (by intro hz; have := own_i0; have := own_i1; have := own_i2; have := own_j2147483647; have := own_i3; have := own_i5; simp only [Int32.lt_iff_toInt_lt, ← Int32.toInt_inj] at hz hq157_10_0 hq110_6_2 hq157_10_1 hq157_10_2; omega)
            · exact absurd (by apply Decidable.by_contra; intro hz; have := own_i0; have := own_i1; have := own_i2; have := own_j2147483647; have := own_i5; simp only [Int32.lt_iff_toInt_lt, ← Int32.toInt_inj] at hz hq157_11_0 hq110_6_2 hq157_11_1; omega) hq157_11_2
            · exact absurd (by apply Decidable.by_contra; intro hz; have := own_i0; have := own_i1; have := own_i2; have := own_j2147483647; have := own_i5; simp only [Int32.lt_iff_toInt_lt, ← Int32.toInt_inj] at hz hq157_12_0 hq110_6_2 hq157_12_1; omega) hq157_12_2
            · exact absurd (by apply Decidable.by_contra; intro hz; have := own_i0; have := own_i1; have := own_i2; have := own_j2147483647; have := own_i5; simp only [Int32.lt_iff_toInt_lt, ← Int32.toInt_inj] at hz hq157_13_0 hq110_6_2 hq157_13_1; omega) hq157_13_2
          · obtain ⟨_, _, ⟨T161, L161, k161, n161⟩, -, X161, ⟨Lc161, hQ161, l161, y161, z161⟩, st161⟩ := Jvm.LawKit.callS X154 hx (y := (⟨"com/example/fawley/fawley/protocol/CommandTakesPinLaw", "expected", "(II)Z"⟩ : MethodName)) hown (mvT hZ (own_w hw 13 rfl)) (mvT hZ (own_w hw 14 rfl)) (mvT hZ (own_w hw 15 rfl)) (mvT hZ (own_w hw 16 rfl)) (by decide) (backOf (W := 1) (rmExp l Z a0 hw [] ((p0_ &&& (2147483647 : Int32)) % (5 : Int32)) ((p2_ &&& (7 : Int32)) - (1 : Int32)) h0 n0 O0 ) hZ (own_w hw 16 rfl) (own_w hw 15 rfl) (by decide) (by decide)) (g := (mkF m 95 #[lvI p0_, lvI p1_, lvI p2_, lvI ((p0_ &&& (2147483647 : Int32)) % (5 : Int32)), lvR w_SET, lvI ((p2_ &&& (7 : Int32)) - (1 : Int32))] [(.int ((p2_ &&& (7 : Int32)) - (1 : Int32))), (.int ((p0_ &&& (2147483647 : Int32)) % (5 : Int32))), (.int (0 : Int32))])) rfl (by rw [hml]; rfl) (argsL := [(.int ((p0_ &&& (2147483647 : Int32)) % (5 : Int32))), (.int ((p2_ &&& (7 : Int32)) - (1 : Int32)))]) (rest := [(.int (0 : Int32))]) (lenOf pd_1 rfl) rfl (by show 2 * 0 + _ ≤ _; exact Nat.le_of_eq rfl) (hb hby at_95) (fun _ _ => ⟨rfl, e154', (by decide : 0 + 0 ≤ _), (by decide : 0 + 0 ≤ _)⟩)
            dsimp only [Pt.U, Pt.locs, Pt.cells, Pt.slots] at X161 l161 y161 z161 st161 hQ161
            subst l161 y161 z161
            obtain ⟨h161, e161⟩ : ∃ z, T161.heap = z := ⟨_, rfl⟩
            rw [e161] at hQ161
            obtain ⟨rr161, rfl, hs161, N161q, hh161⟩ := hQ161
            have N162 := Fr.app N156 N161q
            have e161' : T161.heap = h0 := e161.trans hh161
            rcases hs161 with ⟨rfl, hq161_0_0, hq161_0_1⟩ | ⟨rfl, hq161_1_0, hq161_1_1⟩ | ⟨rfl, hq161_2_0, hq161_2_1, hq161_2_2⟩ | ⟨rfl, hq161_3_0, hq161_3_1, hq161_3_2⟩ | ⟨rfl, hq161_4_0, hq161_4_1, hq161_4_2, hq161_4_3⟩ | ⟨rfl, hq161_5_0, hq161_5_1, hq161_5_2, hq161_5_3, hq161_5_4⟩ | ⟨rfl, hq161_6_0, hq161_6_1, hq161_6_2, hq161_6_3, hq161_6_4, hq161_6_5⟩ | ⟨rfl, hq161_7_0, hq161_7_1, hq161_7_2, hq161_7_3, hq161_7_4, hq161_7_5, hq161_7_6⟩ | ⟨rfl, hq161_8_0, hq161_8_1, hq161_8_2, hq161_8_3, hq161_8_4, hq161_8_5, hq161_8_6⟩ | ⟨rfl, hq161_9_0, hq161_9_1, hq161_9_2, hq161_9_3, hq161_9_4⟩ | ⟨rfl, hq161_10_0, hq161_10_1, hq161_10_2, hq161_10_3, hq161_10_4⟩ | ⟨rfl, hq161_11_0, hq161_11_1, hq161_11_2, hq161_11_3, hq161_11_4⟩ | ⟨rfl, hq161_12_0, hq161_12_1, hq161_12_2, hq161_12_3, hq161_12_4, hq161_12_5⟩ | ⟨rfl, hq161_13_0, hq161_13_1, hq161_13_2, hq161_13_3, hq161_13_4, hq161_13_5⟩
            · exact absurd hq161_0_0 (by intro hz; have := own_i0; have := own_i1; have := own_i2; have := own_j2147483647; have := own_i5; simp only [Int32.lt_iff_toInt_lt, ← Int32.toInt_inj] at hz hq110_6_0 hq110_6_2 hq110_6_1; omega)
            · exact absurd hq161_1_0 (by intro hz; have := own_i0; have := own_i1; have := own_i2; have := own_j2147483647; have := own_i5; simp only [Int32.lt_iff_toInt_lt, ← Int32.toInt_inj] at hz hq110_6_0 hq110_6_2 hq110_6_1; omega)
            · exact absurd hq161_2_1 (by intro hz; have := own_i0; have := own_i1; have := own_i2; have := own_j2147483647; have := own_i5; simp only [Int32.lt_iff_toInt_lt, ← Int32.toInt_inj] at hz hq161_2_0 hq110_6_2 hq110_6_1; omega)
            · exact absurd hq161_3_1 (by intro hz; have := own_i0; have := own_i1; have := own_i2; have := own_j2147483647; have := own_i5; simp only [Int32.lt_iff_toInt_lt, ← Int32.toInt_inj] at hz hq161_3_0 hq110_6_2 hq110_6_1; omega)
            · exact absurd hq161_4_3 (by intro hz; have := own_i1; have := own_i2; have := own_i5; have := own_i7; simp only [Int32.lt_iff_toInt_lt, ← Int32.toInt_inj] at hz hq154_1_0 hq154_1_1; omega)
            · exact absurd hq161_5_4 (by intro hz; have := own_i1; have := own_i2; have := own_i3; have := own_i5; have := own_i7; simp only [Int32.lt_iff_toInt_lt, ← Int32.toInt_inj] at hz hq154_1_0 hq154_1_1 hq161_5_3; omega)
            · exact absurd hq161_6_5 (by intro hz; have := own_i1; have := own_i2; have := own_i3; have := own_i4; have := own_i5; have := own_i7; simp only [Int32.lt_iff_toInt_lt, ← Int32.toInt_inj] at hz hq154_1_0 hq154_1_1 hq161_6_3 hq161_6_4; omega)
            · exact absurd hq161_7_6 (by intro hz; have := own_i1; have := own_i2; have := own_i3; have := own_i4; have := own_i5; have := own_i7; simp only [Int32.lt_iff_toInt_lt, ← Int32.toInt_inj] at hz hq154_1_0 hq154_1_1 hq161_7_3 hq161_7_4 hq161_7_5; omega)
            · have pre163 : ∀ t, own_S p e below m T161 106 #[lvI p0_, lvI p1_, lvI p2_, lvI ((p0_ &&& (2147483647 : Int32)) % (5 : Int32)), lvR w_SET, lvI ((p2_ &&& (7 : Int32)) - (1 : Int32))] [(.int (1 : Int32))] t → G t := by
                intro t kt
                refine pre58 t ?_
                show own_S p e below m s₁ 21 #[lvI p0_, lvI p1_, lvI p2_, lvI ((p0_ &&& (2147483647 : Int32)) % (5 : Int32)), .unset, .unset] [(.int (1 : Int32)), (.int ((p0_ &&& (2147483647 : Int32)) % (5 : Int32)))] _
                refine XS.icmpNo X0.here hx rfl (hb hby at_21) rfl (teq hc59).2 ?_
                show own_S p e below m s₁ 24 #[lvI p0_, lvI p1_, lvI p2_, lvI ((p0_ &&& (2147483647 : Int32)) % (5 : Int32)), .unset, .unset] [] _
                refine st60 _ ?_
                refine XS.astore X60.here hx rfl (hb hby at_27) rfl rfl (l' := #[lvI p0_, lvI p1_, lvI p2_, lvI ((p0_ &&& (2147483647 : Int32)) % (5 : Int32)), lvR w_SET, .unset]) rfl ?_
                refine XS.goto X60.here hx rfl (pc0 := 29) (pc' := 63) rfl (hb hby at_29) (by decide) (by decide) ?_
                refine XS.iloadN X60.here hx rfl (hb hby at_63) rfl ?_
                refine XS.bipush X60.here hx rfl (hb hby at_64) ?_
                refine XS.iand X60.here hx rfl (hb hby at_66) rfl ?_
                show own_S p e below m T60 67 #[lvI p0_, lvI p1_, lvI p2_, lvI ((p0_ &&& (2147483647 : Int32)) % (5 : Int32)), lvR w_SET, .unset] [(.int (p2_ &&& (7 : Int32)))] _
                refine XS.iconst X60.here hx rfl (hb hby at_67) ?_
                refine XS.isub X60.here hx rfl (hb hby at_68) rfl ?_
                refine XS.istore X60.here hx rfl (hb hby at_69) rfl (l' := #[lvI p0_, lvI p1_, lvI p2_, lvI ((p0_ &&& (2147483647 : Int32)) % (5 : Int32)), lvR w_SET, lvI ((p2_ &&& (7 : Int32)) - (1 : Int32))]) rfl ?_
                refine XS.aload X60.here hx rfl (hb hby at_71) rfl rfl ?_
                refine XS.iloadN X60.here hx rfl (hb hby at_73) rfl ?_
                show own_S p e below m T60 74 #[lvI p0_, lvI p1_, lvI p2_, lvI ((p0_ &&& (2147483647 : Int32)) % (5 : Int32)), lvR w_SET, lvI ((p2_ &&& (7 : Int32)) - (1 : Int32))] [(.int p1_), (.ref w_SET)] _
                refine st61.trans ?_
                refine XS.iloadN X61.here hx rfl (hb hby at_77) rfl ?_
                refine XS.iloadN X61.here hx rfl (hb hby at_78) rfl ?_
                show own_S p e below m T61 79 #[lvI p0_, lvI p1_, lvI p2_, lvI ((p0_ &&& (2147483647 : Int32)) % (5 : Int32)), lvR w_SET, lvI ((p2_ &&& (7 : Int32)) - (1 : Int32))] [(.int p1_), (.int ((p0_ &&& (2147483647 : Int32)) % (5 : Int32))), (.int (1 : Int32))] _
                refine st110 _ ?_
                show own_S p e below m T110 82 #[lvI p0_, lvI p1_, lvI p2_, lvI ((p0_ &&& (2147483647 : Int32)) % (5 : Int32)), lvR w_SET, lvI ((p2_ &&& (7 : Int32)) - (1 : Int32))] [(.int (1 : Int32)), (.int (1 : Int32))] _
                refine XS.icmpNo X110.here hx rfl (hb hby at_82) rfl (teq (by decide : (1 : Int32) = (1 : Int32))).2 ?_
                refine XS.aload X110.here hx rfl (hb hby at_85) rfl rfl ?_
                refine XS.iload X110.here hx rfl (hb hby at_87) rfl ?_
                show own_S p e below m T110 89 #[lvI p0_, lvI p1_, lvI p2_, lvI ((p0_ &&& (2147483647 : Int32)) % (5 : Int32)), lvR w_SET, lvI ((p2_ &&& (7 : Int32)) - (1 : Int32))] [(.int ((p2_ &&& (7 : Int32)) - (1 : Int32))), (.ref w_SET)] _
                refine st154.trans ?_
                refine XS.iloadN X154.here hx rfl (hb hby at_92) rfl ?_
                refine XS.iload X154.here hx rfl (hb hby at_93) rfl ?_
                show own_S p e below m T154 95 #[lvI p0_, lvI p1_, lvI p2_, lvI ((p0_ &&& (2147483647 : Int32)) % (5 : Int32)), lvR w_SET, lvI ((p2_ &&& (7 : Int32)) - (1 : Int32))] [(.int ((p2_ &&& (7 : Int32)) - (1 : Int32))), (.int ((p0_ &&& (2147483647 : Int32)) % (5 : Int32))), (.int (0 : Int32))] _
                refine st161 _ ?_
                show own_S p e below m T161 98 #[lvI p0_, lvI p1_, lvI p2_, lvI ((p0_ &&& (2147483647 : Int32)) % (5 : Int32)), lvR w_SET, lvI ((p2_ &&& (7 : Int32)) - (1 : Int32))] [(.int (0 : Int32)), (.int (0 : Int32))] _
                refine XS.icmpNo X161.here hx rfl (hb hby at_98) rfl (teq (by decide : (0 : Int32) = (0 : Int32))).2 ?_
                refine XS.iconst X161.here hx rfl (hb hby at_101) ?_
                refine XS.goto X161.here hx rfl (pc0 := 102) (pc' := 106) rfl (hb hby at_102) (by decide) (by decide) ?_
                exact kt
              obtain ⟨fs, hr, hrun, hended, hW, hsame⟩ := X161.leave (v := some (.int (1 : Int32))) (fun h => by rw [Bd.returns] at h; cases h)
              refine ⟨_, _, hG _ (pre163 _ (retN X161 hx (t := .boolean) Bd.returns (by simp) (hb hby at_106) hr)), hrun, hended, _, _, rfl, ?_, ⟨_, rfl⟩, hW, hsame.mono (by decide) (by decide)⟩
              show QLaw Z p0_ p1_ p2_ w_GET w_SET w_DEL w_VDEL w_KEYNOTIFY h0 n0 _ T161.heap _
              rw [e161']
              exact ⟨rfl, N162⟩
            · exact absurd hq161_9_3 (by intro hz; have := own_i0; have := own_i1; have := own_i2; have := own_j2147483647; have := own_i3; have := own_i5; simp only [Int32.lt_iff_toInt_lt, ← Int32.toInt_inj] at hz hq161_9_0 hq110_6_2 hq161_9_1 hq161_9_2; omega)
            · exact absurd hq161_10_3 (by intro hz; have := own_i0; have := own_i1; have := own_i2; have := own_j2147483647; have := own_i3; have := own_i5; simp only [Int32.lt_iff_toInt_lt, ← Int32.toInt_inj] at hz hq161_10_0 hq110_6_2 hq161_10_1 hq161_10_2; omega)
            · exact absurd (by apply Decidable.by_contra; intro hz; have := own_i0; have := own_i1; have := own_i2; have := own_j2147483647; have := own_i5; simp only [Int32.lt_iff_toInt_lt, ← Int32.toInt_inj] at hz hq161_11_0 hq110_6_2 hq161_11_1; omega) hq161_11_2
            · exact absurd (by apply Decidable.by_contra; intro hz; have := own_i0; have := own_i1; have := own_i2; have := own_j2147483647; have := own_i5; simp only [Int32.lt_iff_toInt_lt, ← Int32.toInt_inj] at hz hq161_12_0 hq110_6_2 hq161_12_1; omega) hq161_12_2
            · exact absurd (by apply Decidable.by_contra; intro hz; have := own_i0; have := own_i1; have := own_i2; have := own_j2147483647; have := own_i5; simp only [Int32.lt_iff_toInt_lt, ← Int32.toInt_inj] at hz hq161_13_0 hq110_6_2 hq161_13_1; omega) hq161_13_2
          · obtain ⟨_, _, ⟨T165, L165, k165, n165⟩, -, X165, ⟨Lc165, hQ165, l165, y165, z165⟩, st165⟩ := Jvm.LawKit.callS X154 hx (y := (⟨"com/example/fawley/fawley/protocol/CommandTakesPinLaw", "expected", "(II)Z"⟩ : MethodName)) hown (mvT hZ (own_w hw 13 rfl)) (mvT hZ (own_w hw 14 rfl)) (mvT hZ (own_w hw 15 rfl)) (mvT hZ (own_w hw 16 rfl)) (by decide) (backOf (W := 1) (rmExp l Z a0 hw [] ((p0_ &&& (2147483647 : Int32)) % (5 : Int32)) ((p2_ &&& (7 : Int32)) - (1 : Int32)) h0 n0 O0 ) hZ (own_w hw 16 rfl) (own_w hw 15 rfl) (by decide) (by decide)) (g := (mkF m 95 #[lvI p0_, lvI p1_, lvI p2_, lvI ((p0_ &&& (2147483647 : Int32)) % (5 : Int32)), lvR w_SET, lvI ((p2_ &&& (7 : Int32)) - (1 : Int32))] [(.int ((p2_ &&& (7 : Int32)) - (1 : Int32))), (.int ((p0_ &&& (2147483647 : Int32)) % (5 : Int32))), (.int (1 : Int32))])) rfl (by rw [hml]; rfl) (argsL := [(.int ((p0_ &&& (2147483647 : Int32)) % (5 : Int32))), (.int ((p2_ &&& (7 : Int32)) - (1 : Int32)))]) (rest := [(.int (1 : Int32))]) (lenOf pd_1 rfl) rfl (by show 2 * 0 + _ ≤ _; exact Nat.le_of_eq rfl) (hb hby at_95) (fun _ _ => ⟨rfl, e154', (by decide : 0 + 0 ≤ _), (by decide : 0 + 0 ≤ _)⟩)
            dsimp only [Pt.U, Pt.locs, Pt.cells, Pt.slots] at X165 l165 y165 z165 st165 hQ165
            subst l165 y165 z165
            obtain ⟨h165, e165⟩ : ∃ z, T165.heap = z := ⟨_, rfl⟩
            rw [e165] at hQ165
            obtain ⟨rr165, rfl, hs165, N165q, hh165⟩ := hQ165
            have N166 := Fr.app N156 N165q
            have e165' : T165.heap = h0 := e165.trans hh165
            rcases hs165 with ⟨rfl, hq165_0_0, hq165_0_1⟩ | ⟨rfl, hq165_1_0, hq165_1_1⟩ | ⟨rfl, hq165_2_0, hq165_2_1, hq165_2_2⟩ | ⟨rfl, hq165_3_0, hq165_3_1, hq165_3_2⟩ | ⟨rfl, hq165_4_0, hq165_4_1, hq165_4_2, hq165_4_3⟩ | ⟨rfl, hq165_5_0, hq165_5_1, hq165_5_2, hq165_5_3, hq165_5_4⟩ | ⟨rfl, hq165_6_0, hq165_6_1, hq165_6_2, hq165_6_3, hq165_6_4, hq165_6_5⟩ | ⟨rfl, hq165_7_0, hq165_7_1, hq165_7_2, hq165_7_3, hq165_7_4, hq165_7_5, hq165_7_6⟩ | ⟨rfl, hq165_8_0, hq165_8_1, hq165_8_2, hq165_8_3, hq165_8_4, hq165_8_5, hq165_8_6⟩ | ⟨rfl, hq165_9_0, hq165_9_1, hq165_9_2, hq165_9_3, hq165_9_4⟩ | ⟨rfl, hq165_10_0, hq165_10_1, hq165_10_2, hq165_10_3, hq165_10_4⟩ | ⟨rfl, hq165_11_0, hq165_11_1, hq165_11_2, hq165_11_3, hq165_11_4⟩ | ⟨rfl, hq165_12_0, hq165_12_1, hq165_12_2, hq165_12_3, hq165_12_4, hq165_12_5⟩ | ⟨rfl, hq165_13_0, hq165_13_1, hq165_13_2, hq165_13_3, hq165_13_4, hq165_13_5⟩
            · exact absurd hq165_0_0 (by intro hz; have := own_i0; have := own_i1; have := own_i2; have := own_j2147483647; have := own_i5; simp only [Int32.lt_iff_toInt_lt, ← Int32.toInt_inj] at hz hq110_6_0 hq110_6_2 hq110_6_1; omega)
            · exact absurd hq165_1_0 (by intro hz; have := own_i0; have := own_i1; have := own_i2; have := own_j2147483647; have := own_i5; simp only [Int32.lt_iff_toInt_lt, ← Int32.toInt_inj] at hz hq110_6_0 hq110_6_2 hq110_6_1; omega)
            · exact absurd hq165_2_1 (by intro hz; have := own_i0; have := own_i1; have := own_i2; have := own_j2147483647; have := own_i5; simp only [Int32.lt_iff_toInt_lt, ← Int32.toInt_inj] at hz hq165_2_0 hq110_6_2 hq110_6_1; omega)
            · exact absurd hq165_3_1 (by intro hz; have := own_i0; have := own_i1; have := own_i2; have := own_j2147483647; have := own_i5; simp only [Int32.lt_iff_toInt_lt, ← Int32.toInt_inj] at hz hq165_3_0 hq110_6_2 hq110_6_1; omega)
            · have pre167 : ∀ t, own_S p e below m T165 106 #[lvI p0_, lvI p1_, lvI p2_, lvI ((p0_ &&& (2147483647 : Int32)) % (5 : Int32)), lvR w_SET, lvI ((p2_ &&& (7 : Int32)) - (1 : Int32))] [(.int (1 : Int32))] t → G t := by
                intro t kt
                refine pre58 t ?_
                show own_S p e below m s₁ 21 #[lvI p0_, lvI p1_, lvI p2_, lvI ((p0_ &&& (2147483647 : Int32)) % (5 : Int32)), .unset, .unset] [(.int (1 : Int32)), (.int ((p0_ &&& (2147483647 : Int32)) % (5 : Int32)))] _
                refine XS.icmpNo X0.here hx rfl (hb hby at_21) rfl (teq hc59).2 ?_
                show own_S p e below m s₁ 24 #[lvI p0_, lvI p1_, lvI p2_, lvI ((p0_ &&& (2147483647 : Int32)) % (5 : Int32)), .unset, .unset] [] _
                refine st60 _ ?_
                refine XS.astore X60.here hx rfl (hb hby at_27) rfl rfl (l' := #[lvI p0_, lvI p1_, lvI p2_, lvI ((p0_ &&& (2147483647 : Int32)) % (5 : Int32)), lvR w_SET, .unset]) rfl ?_
                refine XS.goto X60.here hx rfl (pc0 := 29) (pc' := 63) rfl (hb hby at_29) (by decide) (by decide) ?_
                refine XS.iloadN X60.here hx rfl (hb hby at_63) rfl ?_
                refine XS.bipush X60.here hx rfl (hb hby at_64) ?_
                refine XS.iand X60.here hx rfl (hb hby at_66) rfl ?_
                show own_S p e below m T60 67 #[lvI p0_, lvI p1_, lvI p2_, lvI ((p0_ &&& (2147483647 : Int32)) % (5 : Int32)), lvR w_SET, .unset] [(.int (p2_ &&& (7 : Int32)))] _
                refine XS.iconst X60.here hx rfl (hb hby at_67) ?_
                refine XS.isub X60.here hx rfl (hb hby at_68) rfl ?_
                refine XS.istore X60.here hx rfl (hb hby at_69) rfl (l' := #[lvI p0_, lvI p1_, lvI p2_, lvI ((p0_ &&& (2147483647 : Int32)) % (5 : Int32)), lvR w_SET, lvI ((p2_ &&& (7 : Int32)) - (1 : Int32))]) rfl ?_
                refine XS.aload X60.here hx rfl (hb hby at_71) rfl rfl ?_
                refine XS.iloadN X60.here hx rfl (hb hby at_73) rfl ?_
                show own_S p e below m T60 74 #[lvI p0_, lvI p1_, lvI p2_, lvI ((p0_ &&& (2147483647 : Int32)) % (5 : Int32)), lvR w_SET, lvI ((p2_ &&& (7 : Int32)) - (1 : Int32))] [(.int p1_), (.ref w_SET)] _
                refine st61.trans ?_
                refine XS.iloadN X61.here hx rfl (hb hby at_77) rfl ?_
                refine XS.iloadN X61.here hx rfl (hb hby at_78) rfl ?_
                show own_S p e below m T61 79 #[lvI p0_, lvI p1_, lvI p2_, lvI ((p0_ &&& (2147483647 : Int32)) % (5 : Int32)), lvR w_SET, lvI ((p2_ &&& (7 : Int32)) - (1 : Int32))] [(.int p1_), (.int ((p0_ &&& (2147483647 : Int32)) % (5 : Int32))), (.int (1 : Int32))] _
                refine st110 _ ?_
                show own_S p e below m T110 82 #[lvI p0_, lvI p1_, lvI p2_, lvI ((p0_ &&& (2147483647 : Int32)) % (5 : Int32)), lvR w_SET, lvI ((p2_ &&& (7 : Int32)) - (1 : Int32))] [(.int (1 : Int32)), (.int (1 : Int32))] _
                refine XS.icmpNo X110.here hx rfl (hb hby at_82) rfl (teq (by decide : (1 : Int32) = (1 : Int32))).2 ?_
                refine XS.aload X110.here hx rfl (hb hby at_85) rfl rfl ?_
                refine XS.iload X110.here hx rfl (hb hby at_87) rfl ?_
                show own_S p e below m T110 89 #[lvI p0_, lvI p1_, lvI p2_, lvI ((p0_ &&& (2147483647 : Int32)) % (5 : Int32)), lvR w_SET, lvI ((p2_ &&& (7 : Int32)) - (1 : Int32))] [(.int ((p2_ &&& (7 : Int32)) - (1 : Int32))), (.ref w_SET)] _
                refine st154.trans ?_
                refine XS.iloadN X154.here hx rfl (hb hby at_92) rfl ?_
                refine XS.iload X154.here hx rfl (hb hby at_93) rfl ?_
                show own_S p e below m T154 95 #[lvI p0_, lvI p1_, lvI p2_, lvI ((p0_ &&& (2147483647 : Int32)) % (5 : Int32)), lvR w_SET, lvI ((p2_ &&& (7 : Int32)) - (1 : Int32))] [(.int ((p2_ &&& (7 : Int32)) - (1 : Int32))), (.int ((p0_ &&& (2147483647 : Int32)) % (5 : Int32))), (.int (1 : Int32))] _
                refine st165 _ ?_
                show own_S p e below m T165 98 #[lvI p0_, lvI p1_, lvI p2_, lvI ((p0_ &&& (2147483647 : Int32)) % (5 : Int32)), lvR w_SET, lvI ((p2_ &&& (7 : Int32)) - (1 : Int32))] [(.int (1 : Int32)), (.int (1 : Int32))] _
                refine XS.icmpNo X165.here hx rfl (hb hby at_98) rfl (teq (by decide : (1 : Int32) = (1 : Int32))).2 ?_
                refine XS.iconst X165.here hx rfl (hb hby at_101) ?_
                refine XS.goto X165.here hx rfl (pc0 := 102) (pc' := 106) rfl (hb hby at_102) (by decide) (by decide) ?_
                exact kt
              obtain ⟨fs, hr, hrun, hended, hW, hsame⟩ := X165.leave (v := some (.int (1 : Int32))) (fun h => by rw [Bd.returns] at h; cases h)
              refine ⟨_, _, hG _ (pre167 _ (retN X165 hx (t := .boolean) Bd.returns (by simp) (hb hby at_106) hr)), hrun, hended, _, _, rfl, ?_, ⟨_, rfl⟩, hW, hsame.mono (by decide) (by decide)⟩
              show QLaw Z p0_ p1_ p2_ w_GET w_SET w_DEL w_VDEL w_KEYNOTIFY h0 n0 _ T165.heap _
              rw [e165']
              exact ⟨rfl, N166⟩
            · have pre169 : ∀ t, own_S p e below m T165 106 #[lvI p0_, lvI p1_, lvI p2_, lvI ((p0_ &&& (2147483647 : Int32)) % (5 : Int32)), lvR w_SET, lvI ((p2_ &&& (7 : Int32)) - (1 : Int32))] [(.int (1 : Int32))] t → G t := by
                intro t kt
                refine pre58 t ?_
                show own_S p e below m s₁ 21 #[lvI p0_, lvI p1_, lvI p2_, lvI ((p0_ &&& (2147483647 : Int32)) % (5 : Int32)), .unset, .unset] [(.int (1 : Int32)), (.int ((p0_ &&& (2147483647 : Int32)) % (5 : Int32)))] _
                refine XS.icmpNo X0.here hx rfl (hb hby at_21) rfl (teq hc59).2 ?_
                show own_S p e below m s₁ 24 #[lvI p0_, lvI p1_, lvI p2_, lvI ((p0_ &&& (2147483647 : Int32)) % (5 : Int32)), .unset, .unset] [] _
                refine st60 _ ?_
                refine XS.astore X60.here hx rfl (hb hby at_27) rfl rfl (l' := #[lvI p0_, lvI p1_, lvI p2_, lvI ((p0_ &&& (2147483647 : Int32)) % (5 : Int32)), lvR w_SET, .unset]) rfl ?_
                refine XS.goto X60.here hx rfl (pc0 := 29) (pc' := 63) rfl (hb hby at_29) (by decide) (by decide) ?_
                refine XS.iloadN X60.here hx rfl (hb hby at_63) rfl ?_
                refine XS.bipush X60.here hx rfl (hb hby at_64) ?_
                refine XS.iand X60.here hx rfl (hb hby at_66) rfl ?_
                show own_S p e below m T60 67 #[lvI p0_, lvI p1_, lvI p2_, lvI ((p0_ &&& (2147483647 : Int32)) % (5 : Int32)), lvR w_SET, .unset] [(.int (p2_ &&& (7 : Int32)))] _
                refine XS.iconst X60.here hx rfl (hb hby at_67) ?_
                refine XS.isub X60.here hx rfl (hb hby at_68) rfl ?_
                refine XS.istore X60.here hx rfl (hb hby at_69) rfl (l' := #[lvI p0_, lvI p1_, lvI p2_, lvI ((p0_ &&& (2147483647 : Int32)) % (5 : Int32)), lvR w_SET, lvI ((p2_ &&& (7 : Int32)) - (1 : Int32))]) rfl ?_
                refine XS.aload X60.here hx rfl (hb hby at_71) rfl rfl ?_
                refine XS.iloadN X60.here hx rfl (hb hby at_73) rfl ?_
                show own_S p e below m T60 74 #[lvI p0_, lvI p1_, lvI p2_, lvI ((p0_ &&& (2147483647 : Int32)) % (5 : Int32)), lvR w_SET, lvI ((p2_ &&& (7 : Int32)) - (1 : Int32))] [(.int p1_), (.ref w_SET)] _
                refine st61.trans ?_
                refine XS.iloadN X61.here hx rfl (hb hby at_77) rfl ?_
                refine XS.iloadN X61.here hx rfl (hb hby at_78) rfl ?_
                show own_S p e below m T61 79 #[lvI p0_, lvI p1_, lvI p2_, lvI ((p0_ &&& (2147483647 : Int32)) % (5 : Int32)), lvR w_SET, lvI ((p2_ &&& (7 : Int32)) - (1 : Int32))] [(.int p1_), (.int ((p0_ &&& (2147483647 : Int32)) % (5 : Int32))), (.int (1 : Int32))] _
                refine st110 _ ?_
                show own_S p e below m T110 82 #[lvI p0_, lvI p1_, lvI p2_, lvI ((p0_ &&& (2147483647 : Int32)) % (5 : Int32)), lvR w_SET, lvI ((p2_ &&& (7 : Int32)) - (1 : Int32))] [(.int (1 : Int32)), (.int (1 : Int32))] _
                refine XS.icmpNo X110.here hx rfl (hb hby at_82) rfl (teq (by decide : (1 : Int32) = (1 : Int32))).2 ?_
                refine XS.aload X110.here hx rfl (hb hby at_85) rfl rfl ?_
                refine XS.iload X110.here hx rfl (hb hby at_87) rfl ?_
                show own_S p e below m T110 89 #[lvI p0_, lvI p1_, lvI p2_, lvI ((p0_ &&& (2147483647 : Int32)) % (5 : Int32)), lvR w_SET, lvI ((p2_ &&& (7 : Int32)) - (1 : Int32))] [(.int ((p2_ &&& (7 : Int32)) - (1 : Int32))), (.ref w_SET)] _
                refine st154.trans ?_
                refine XS.iloadN X154.here hx rfl (hb hby at_92) rfl ?_
                refine XS.iload X154.here hx rfl (hb hby at_93) rfl ?_
                show own_S p e below m T154 95 #[lvI p0_, lvI p1_, lvI p2_, lvI ((p0_ &&& (2147483647 : Int32)) % (5 : Int32)), lvR w_SET, lvI ((p2_ &&& (7 : Int32)) - (1 : Int32))] [(.int ((p2_ &&& (7 : Int32)) - (1 : Int32))), (.int ((p0_ &&& (2147483647 : Int32)) % (5 : Int32))), (.int (1 : Int32))] _
                refine st165 _ ?_
                show own_S p e below m T165 98 #[lvI p0_, lvI p1_, lvI p2_, lvI ((p0_ &&& (2147483647 : Int32)) % (5 : Int32)), lvR w_SET, lvI ((p2_ &&& (7 : Int32)) - (1 : Int32))] [(.int (1 : Int32)), (.int (1 : Int32))] _
                refine XS.icmpNo X165.here hx rfl (hb hby at_98) rfl (teq (by decide : (1 : Int32) = (1 : Int32))).2 ?_
                refine XS.iconst X165.here hx rfl (hb hby at_101) ?_
                refine XS.goto X165.here hx rfl (pc0 := 102) (pc' := 106) rfl (hb hby at_102) (by decide) (by decide) ?_
                exact kt
              obtain ⟨fs, hr, hrun, hended, hW, hsame⟩ := X165.leave (v := some (.int (1 : Int32))) (fun h => by rw [Bd.returns] at h; cases h)
              refine ⟨_, _, hG _ (pre169 _ (retN X165 hx (t := .boolean) Bd.returns (by simp) (hb hby at_106) hr)), hrun, hended, _, _, rfl, ?_, ⟨_, rfl⟩, hW, hsame.mono (by decide) (by decide)⟩
              show QLaw Z p0_ p1_ p2_ w_GET w_SET w_DEL w_VDEL w_KEYNOTIFY h0 n0 _ T165.heap _
              rw [e165']
              exact ⟨rfl, N166⟩
            · have pre171 : ∀ t, own_S p e below m T165 106 #[lvI p0_, lvI p1_, lvI p2_, lvI ((p0_ &&& (2147483647 : Int32)) % (5 : Int32)), lvR w_SET, lvI ((p2_ &&& (7 : Int32)) - (1 : Int32))] [(.int (1 : Int32))] t → G t := by
                intro t kt
                refine pre58 t ?_
                show own_S p e below m s₁ 21 #[lvI p0_, lvI p1_, lvI p2_, lvI ((p0_ &&& (2147483647 : Int32)) % (5 : Int32)), .unset, .unset] [(.int (1 : Int32)), (.int ((p0_ &&& (2147483647 : Int32)) % (5 : Int32)))] _
                refine XS.icmpNo X0.here hx rfl (hb hby at_21) rfl (teq hc59).2 ?_
                show own_S p e below m s₁ 24 #[lvI p0_, lvI p1_, lvI p2_, lvI ((p0_ &&& (2147483647 : Int32)) % (5 : Int32)), .unset, .unset] [] _
                refine st60 _ ?_
                refine XS.astore X60.here hx rfl (hb hby at_27) rfl rfl (l' := #[lvI p0_, lvI p1_, lvI p2_, lvI ((p0_ &&& (2147483647 : Int32)) % (5 : Int32)), lvR w_SET, .unset]) rfl ?_
                refine XS.goto X60.here hx rfl (pc0 := 29) (pc' := 63) rfl (hb hby at_29) (by decide) (by decide) ?_
                refine XS.iloadN X60.here hx rfl (hb hby at_63) rfl ?_
                refine XS.bipush X60.here hx rfl (hb hby at_64) ?_
                refine XS.iand X60.here hx rfl (hb hby at_66) rfl ?_
                show own_S p e below m T60 67 #[lvI p0_, lvI p1_, lvI p2_, lvI ((p0_ &&& (2147483647 : Int32)) % (5 : Int32)), lvR w_SET, .unset] [(.int (p2_ &&& (7 : Int32)))] _
                refine XS.iconst X60.here hx rfl (hb hby at_67) ?_
                refine XS.isub X60.here hx rfl (hb hby at_68) rfl ?_
                refine XS.istore X60.here hx rfl (hb hby at_69) rfl (l' := #[lvI p0_, lvI p1_, lvI p2_, lvI ((p0_ &&& (2147483647 : Int32)) % (5 : Int32)), lvR w_SET, lvI ((p2_ &&& (7 : Int32)) - (1 : Int32))]) rfl ?_
                refine XS.aload X60.here hx rfl (hb hby at_71) rfl rfl ?_
                refine XS.iloadN X60.here hx rfl (hb hby at_73) rfl ?_
                show own_S p e below m T60 74 #[lvI p0_, lvI p1_, lvI p2_, lvI ((p0_ &&& (2147483647 : Int32)) % (5 : Int32)), lvR w_SET, lvI ((p2_ &&& (7 : Int32)) - (1 : Int32))] [(.int p1_), (.ref w_SET)] _
                refine st61.trans ?_
                refine XS.iloadN X61.here hx rfl (hb hby at_77) rfl ?_
                refine XS.iloadN X61.here hx rfl (hb hby at_78) rfl ?_
                show own_S p e below m T61 79 #[lvI p0_, lvI p1_, lvI p2_, lvI ((p0_ &&& (2147483647 : Int32)) % (5 : Int32)), lvR w_SET, lvI ((p2_ &&& (7 : Int32)) - (1 : Int32))] [(.int p1_), (.int ((p0_ &&& (2147483647 : Int32)) % (5 : Int32))), (.int (1 : Int32))] _
                refine st110 _ ?_
                show own_S p e below m T110 82 #[lvI p0_, lvI p1_, lvI p2_, lvI ((p0_ &&& (2147483647 : Int32)) % (5 : Int32)), lvR w_SET, lvI ((p2_ &&& (7 : Int32)) - (1 : Int32))] [(.int (1 : Int32)), (.int (1 : Int32))] _
                refine XS.icmpNo X110.here hx rfl (hb hby at_82) rfl (teq (by decide : (1 : Int32) = (1 : Int32))).2 ?_
                refine XS.aload X110.here hx rfl (hb hby at_85) rfl rfl ?_
                refine XS.iload X110.here hx rfl (hb hby at_87) rfl ?_
                show own_S p e below m T110 89 #[lvI p0_, lvI p1_, lvI p2_, lvI ((p0_ &&& (2147483647 : Int32)) % (5 : Int32)), lvR w_SET, lvI ((p2_ &&& (7 : Int32)) - (1 : Int32))] [(.int ((p2_ &&& (7 : Int32)) - (1 : Int32))), (.ref w_SET)] _
                refine st154.trans ?_
                refine XS.iloadN X154.here hx rfl (hb hby at_92) rfl ?_
                refine XS.iload X154.here hx rfl (hb hby at_93) rfl ?_
                show own_S p e below m T154 95 #[lvI p0_, lvI p1_, lvI p2_, lvI ((p0_ &&& (2147483647 : Int32)) % (5 : Int32)), lvR w_SET, lvI ((p2_ &&& (7 : Int32)) - (1 : Int32))] [(.int ((p2_ &&& (7 : Int32)) - (1 : Int32))), (.int ((p0_ &&& (2147483647 : Int32)) % (5 : Int32))), (.int (1 : Int32))] _
                refine st165 _ ?_
                show own_S p e below m T165 98 #[lvI p0_, lvI p1_, lvI p2_, lvI ((p0_ &&& (2147483647 : Int32)) % (5 : Int32)), lvR w_SET, lvI ((p2_ &&& (7 : Int32)) - (1 : Int32))] [(.int (1 : Int32)), (.int (1 : Int32))] _
                refine XS.icmpNo X165.here hx rfl (hb hby at_98) rfl (teq (by decide : (1 : Int32) = (1 : Int32))).2 ?_
                refine XS.iconst X165.here hx rfl (hb hby at_101) ?_
                refine XS.goto X165.here hx rfl (pc0 := 102) (pc' := 106) rfl (hb hby at_102) (by decide) (by decide) ?_
                exact kt
              obtain ⟨fs, hr, hrun, hended, hW, hsame⟩ := X165.leave (v := some (.int (1 : Int32))) (fun h => by rw [Bd.returns] at h; cases h)
              refine ⟨_, _, hG _ (pre171 _ (retN X165 hx (t := .boolean) Bd.returns (by simp) (hb hby at_106) hr)), hrun, hended, _, _, rfl, ?_, ⟨_, rfl⟩, hW, hsame.mono (by decide) (by decide)⟩
              show QLaw Z p0_ p1_ p2_ w_GET w_SET w_DEL w_VDEL w_KEYNOTIFY h0 n0 _ T165.heap _
              rw [e165']
              exact ⟨rfl, N166⟩
            · have pre173 : ∀ t, own_S p e below m T165 106 #[lvI p0_, lvI p1_, lvI p2_, lvI ((p0_ &&& (2147483647 : Int32)) % (5 : Int32)), lvR w_SET, lvI ((p2_ &&& (7 : Int32)) - (1 : Int32))] [(.int (1 : Int32))] t → G t := by
                intro t kt
                refine pre58 t ?_
                show own_S p e below m s₁ 21 #[lvI p0_, lvI p1_, lvI p2_, lvI ((p0_ &&& (2147483647 : Int32)) % (5 : Int32)), .unset, .unset] [(.int (1 : Int32)), (.int ((p0_ &&& (2147483647 : Int32)) % (5 : Int32)))] _
                refine XS.icmpNo X0.here hx rfl (hb hby at_21) rfl (teq hc59).2 ?_
                show own_S p e below m s₁ 24 #[lvI p0_, lvI p1_, lvI p2_, lvI ((p0_ &&& (2147483647 : Int32)) % (5 : Int32)), .unset, .unset] [] _
                refine st60 _ ?_
                refine XS.astore X60.here hx rfl (hb hby at_27) rfl rfl (l' := #[lvI p0_, lvI p1_, lvI p2_, lvI ((p0_ &&& (2147483647 : Int32)) % (5 : Int32)), lvR w_SET, .unset]) rfl ?_
                refine XS.goto X60.here hx rfl (pc0 := 29) (pc' := 63) rfl (hb hby at_29) (by decide) (by decide) ?_
                refine XS.iloadN X60.here hx rfl (hb hby at_63) rfl ?_
                refine XS.bipush X60.here hx rfl (hb hby at_64) ?_
                refine XS.iand X60.here hx rfl (hb hby at_66) rfl ?_
                show own_S p e below m T60 67 #[lvI p0_, lvI p1_, lvI p2_, lvI ((p0_ &&& (2147483647 : Int32)) % (5 : Int32)), lvR w_SET, .unset] [(.int (p2_ &&& (7 : Int32)))] _
                refine XS.iconst X60.here hx rfl (hb hby at_67) ?_
                refine XS.isub X60.here hx rfl (hb hby at_68) rfl ?_
                refine XS.istore X60.here hx rfl (hb hby at_69) rfl (l' := #[lvI p0_, lvI p1_, lvI p2_, lvI ((p0_ &&& (2147483647 : Int32)) % (5 : Int32)), lvR w_SET, lvI ((p2_ &&& (7 : Int32)) - (1 : Int32))]) rfl ?_
                refine XS.aload X60.here hx rfl (hb hby at_71) rfl rfl ?_
                refine XS.iloadN X60.here hx rfl (hb hby at_73) rfl ?_
                show own_S p e below m T60 74 #[lvI p0_, lvI p1_, lvI p2_, lvI ((p0_ &&& (2147483647 : Int32)) % (5 : Int32)), lvR w_SET, lvI ((p2_ &&& (7 : Int32)) - (1 : Int32))] [(.int p1_), (.ref w_SET)] _
                refine st61.trans ?_
                refine XS.iloadN X61.here hx rfl (hb hby at_77) rfl ?_
                refine XS.iloadN X61.here hx rfl (hb hby at_78) rfl ?_
                show own_S p e below m T61 79 #[lvI p0_, lvI p1_, lvI p2_, lvI ((p0_ &&& (2147483647 : Int32)) % (5 : Int32)), lvR w_SET, lvI ((p2_ &&& (7 : Int32)) - (1 : Int32))] [(.int p1_), (.int ((p0_ &&& (2147483647 : Int32)) % (5 : Int32))), (.int (1 : Int32))] _
                refine st110 _ ?_
                show own_S p e below m T110 82 #[lvI p0_, lvI p1_, lvI p2_, lvI ((p0_ &&& (2147483647 : Int32)) % (5 : Int32)), lvR w_SET, lvI ((p2_ &&& (7 : Int32)) - (1 : Int32))] [(.int (1 : Int32)), (.int (1 : Int32))] _
                refine XS.icmpNo X110.here hx rfl (hb hby at_82) rfl (teq (by decide : (1 : Int32) = (1 : Int32))).2 ?_
                refine XS.aload X110.here hx rfl (hb hby at_85) rfl rfl ?_
                refine XS.iload X110.here hx rfl (hb hby at_87) rfl ?_
                show own_S p e below m T110 89 #[lvI p0_, lvI p1_, lvI p2_, lvI ((p0_ &&& (2147483647 : Int32)) % (5 : Int32)), lvR w_SET, lvI ((p2_ &&& (7 : Int32)) - (1 : Int32))] [(.int ((p2_ &&& (7 : Int32)) - (1 : Int32))), (.ref w_SET)] _
                refine st154.trans ?_
                refine XS.iloadN X154.here hx rfl (hb hby at_92) rfl ?_
                refine XS.iload X154.here hx rfl (hb hby at_93) rfl ?_
                show own_S p e below m T154 95 #[lvI p0_, lvI p1_, lvI p2_, lvI ((p0_ &&& (2147483647 : Int32)) % (5 : Int32)), lvR w_SET, lvI ((p2_ &&& (7 : Int32)) - (1 : Int32))] [(.int ((p2_ &&& (7 : Int32)) - (1 : Int32))), (.int ((p0_ &&& (2147483647 : Int32)) % (5 : Int32))), (.int (1 : Int32))] _
                refine st165 _ ?_
                show own_S p e below m T165 98 #[lvI p0_, lvI p1_, lvI p2_, lvI ((p0_ &&& (2147483647 : Int32)) % (5 : Int32)), lvR w_SET, lvI ((p2_ &&& (7 : Int32)) - (1 : Int32))] [(.int (1 : Int32)), (.int (1 : Int32))] _
                refine XS.icmpNo X165.here hx rfl (hb hby at_98) rfl (teq (by decide : (1 : Int32) = (1 : Int32))).2 ?_
                refine XS.iconst X165.here hx rfl (hb hby at_101) ?_
                refine XS.goto X165.here hx rfl (pc0 := 102) (pc' := 106) rfl (hb hby at_102) (by decide) (by decide) ?_
                exact kt
              obtain ⟨fs, hr, hrun, hended, hW, hsame⟩ := X165.leave (v := some (.int (1 : Int32))) (fun h => by rw [Bd.returns] at h; cases h)
              refine ⟨_, _, hG _ (pre173 _ (retN X165 hx (t := .boolean) Bd.returns (by simp) (hb hby at_106) hr)), hrun, hended, _, _, rfl, ?_, ⟨_, rfl⟩, hW, hsame.mono (by decide) (by decide)⟩
              show QLaw Z p0_ p1_ p2_ w_GET w_SET w_DEL w_VDEL w_KEYNOTIFY h0 n0 _ T165.heap _
              rw [e165']
              exact ⟨rfl, N166⟩
            · exact absurd (by apply Decidable.by_contra; intro hz; have := own_i1; have := own_i2; have := own_i3; have := own_i4; have := own_i5; have := own_i7; simp only [Int32.lt_iff_toInt_lt, ← Int32.toInt_inj] at hz hq154_2_0 hq154_2_1 hq165_8_3 hq165_8_4 hq165_8_5; omega) hq165_8_6
            · exact absurd hq165_9_3 (by intro hz; have := own_i0; have := own_i1; have := own_i2; have := own_j2147483647; have := own_i3; have := own_i5; simp only [Int32.lt_iff_toInt_lt, ← Int32.toInt_inj] at hz hq165_9_0 hq110_6_2 hq165_9_1 hq165_9_2; omega)
            · exact absurd hq165_10_3 (by intro hz; have := own_i0; have := own_i1; have := own_i2; have := own_j2147483647; have := own_i3; have := own_i5; simp only [Int32.lt_iff_toInt_lt, ← Int32.toInt_inj] at hz hq165_10_0 hq110_6_2 hq165_10_1 hq165_10_2; omega)
            · exact absurd (by apply Decidable.by_contra; intro hz; have := own_i0; have := own_i1; have := own_i2; have := own_j2147483647; have := own_i5; simp only [Int32.lt_iff_toInt_lt, ← Int32.toInt_inj] at hz hq165_11_0 hq110_6_2 hq165_11_1; omega) hq165_11_2
            · exact absurd (by apply Decidable.by_contra; intro hz; have := own_i0; have := own_i1; have := own_i2; have := own_j2147483647; have := own_i5; simp only [Int32.lt_iff_toInt_lt, ← Int32.toInt_inj] at hz hq165_12_0 hq110_6_2 hq165_12_1; omega) hq165_12_2
            · exact absurd (by apply Decidable.by_contra; intro hz; have := own_i0; have := own_i1; have := own_i2; have := own_j2147483647; have := own_i5; simp only [Int32.lt_iff_toInt_lt, ← Int32.toInt_inj] at hz hq165_13_0 hq110_6_2 hq165_13_1; omega) hq165_13_2
        · have f176 : Exa Z h0 w_SET cn0 := P5.ext O0.2
          obtain ⟨cq175, kq175, q175a, q175b, q175c⟩ := isOf hZ e110' f176
          obtain ⟨_, _, ⟨T175, L175, k175, n175⟩, -, X175, ⟨Lc175, hQ175, l175, y175, z175⟩, st175⟩ := X110.virtualBack hx (y := (⟨"com/example/fawley/fawley/protocol/Command", "takes", "(I)Z"⟩ : MethodName)) (z := (⟨"com/example/fawley/fawley/protocol/Command", "takes", "(I)Z"⟩ : MethodName)) hown (mvT hZ (own_w hw 4 rfl)) (mvT hZ (own_w hw 5 rfl)) (notFace_of_selects (args := #[]) (mvT hZ (own_w hw 7 rfl))) (mvT hZ (own_w hw 7 rfl)) (mvT hZ (own_w hw 6 rfl)) (by decide) (backOf (W := 0) (rmTak l Z a0 hw [] w_SET ((p2_ &&& (7 : Int32)) - (1 : Int32)) (2 : Int32) (5 : Int32) h0 n0 O0 P6 P7) hZ (own_w hw 8 rfl) (own_w hw 2 rfl) (by decide) (by decide)) q175a q175c (g := (mkF m 89 #[lvI p0_, lvI p1_, lvI p2_, lvI ((p0_ &&& (2147483647 : Int32)) % (5 : Int32)), lvR w_SET, lvI ((p2_ &&& (7 : Int32)) - (1 : Int32))] [(.int ((p2_ &&& (7 : Int32)) - (1 : Int32))), (.ref w_SET)])) rfl (by rw [hml]; rfl) (Steps.refl _) (argsL := [(.int ((p2_ &&& (7 : Int32)) - (1 : Int32)))]) (rest := []) (lenOf pd_0 rfl) rfl (by show 2 * 0 + _ ≤ _; exact Nat.le_of_eq rfl) (hb hby at_89) (fun _ _ => ⟨rfl, e110', (by decide : 0 + 0 ≤ _), (by decide : 0 + 0 ≤ _)⟩)
          dsimp only [Pt.U, Pt.locs, Pt.cells, Pt.slots] at X175 l175 y175 z175 st175 hQ175
          subst l175 y175 z175
          obtain ⟨h175, e175⟩ : ∃ z, T175.heap = z := ⟨_, rfl⟩
          rw [e175] at hQ175
          obtain ⟨rr175, rfl, hs175, N175q, hh175⟩ := hQ175
          have N177 := Fr.app N111 N175q
          have e175' : T175.heap = h0 := e175.trans hh175
          rcases hs175 with ⟨rfl, hq175_0_0⟩ | ⟨rfl, hq175_1_0, hq175_1_1⟩ | ⟨rfl, hq175_2_0, hq175_2_1⟩
          · obtain ⟨_, _, ⟨T178, L178, k178, n178⟩, -, X178, ⟨Lc178, hQ178, l178, y178, z178⟩, st178⟩ := Jvm.LawKit.callS X175 hx (y := (⟨"com/example/fawley/fawley/protocol/CommandTakesPinLaw", "expected", "(II)Z"⟩ : MethodName)) hown (mvT hZ (own_w hw 13 rfl)) (mvT hZ (own_w hw 14 rfl)) (mvT hZ (own_w hw 15 rfl)) (mvT hZ (own_w hw 16 rfl)) (by decide) (backOf (W := 1) (rmExp l Z a0 hw [] ((p0_ &&& (2147483647 : Int32)) % (5 : Int32)) ((p2_ &&& (7 : Int32)) - (1 : Int32)) h0 n0 O0 ) hZ (own_w hw 16 rfl) (own_w hw 15 rfl) (by decide) (by decide)) (g := (mkF m 95 #[lvI p0_, lvI p1_, lvI p2_, lvI ((p0_ &&& (2147483647 : Int32)) % (5 : Int32)), lvR w_SET, lvI ((p2_ &&& (7 : Int32)) - (1 : Int32))] [(.int ((p2_ &&& (7 : Int32)) - (1 : Int32))), (.int ((p0_ &&& (2147483647 : Int32)) % (5 : Int32))), (.int (0 : Int32))])) rfl (by rw [hml]; rfl) (argsL := [(.int ((p0_ &&& (2147483647 : Int32)) % (5 : Int32))), (.int ((p2_ &&& (7 : Int32)) - (1 : Int32)))]) (rest := [(.int (0 : Int32))]) (lenOf pd_1 rfl) rfl (by show 2 * 0 + _ ≤ _; exact Nat.le_of_eq rfl) (hb hby at_95) (fun _ _ => ⟨rfl, e175', (by decide : 0 + 0 ≤ _), (by decide : 0 + 0 ≤ _)⟩)
            dsimp only [Pt.U, Pt.locs, Pt.cells, Pt.slots] at X178 l178 y178 z178 st178 hQ178
            subst l178 y178 z178
            obtain ⟨h178, e178⟩ : ∃ z, T178.heap = z := ⟨_, rfl⟩
            rw [e178] at hQ178
            obtain ⟨rr178, rfl, hs178, N178q, hh178⟩ := hQ178
            have N179 := Fr.app N177 N178q
            have e178' : T178.heap = h0 := e178.trans hh178
            rcases hs178 with ⟨rfl, hq178_0_0, hq178_0_1⟩ | ⟨rfl, hq178_1_0, hq178_1_1⟩ | ⟨rfl, hq178_2_0, hq178_2_1, hq178_2_2⟩ | ⟨rfl, hq178_3_0, hq178_3_1, hq178_3_2⟩ | ⟨rfl, hq178_4_0, hq178_4_1, hq178_4_2, hq178_4_3⟩ | ⟨rfl, hq178_5_0, hq178_5_1, hq178_5_2, hq178_5_3, hq178_5_4⟩ | ⟨rfl, hq178_6_0, hq178_6_1, hq178_6_2, hq178_6_3, hq178_6_4, hq178_6_5⟩ | ⟨rfl, hq178_7_0, hq178_7_1, hq178_7_2, hq178_7_3, hq178_7_4, hq178_7_5, hq178_7_6⟩ | ⟨rfl, hq178_8_0, hq178_8_1, hq178_8_2, hq178_8_3, hq178_8_4, hq178_8_5, hq178_8_6⟩ | ⟨rfl, hq178_9_0, hq178_9_1, hq178_9_2, hq178_9_3, hq178_9_4⟩ | ⟨rfl, hq178_10_0, hq178_10_1, hq178_10_2, hq178_10_3, hq178_10_4⟩ | ⟨rfl, hq178_11_0, hq178_11_1, hq178_11_2, hq178_11_3, hq178_11_4⟩ | ⟨rfl, hq178_12_0, hq178_12_1, hq178_12_2, hq178_12_3, hq178_12_4, hq178_12_5⟩ | ⟨rfl, hq178_13_0, hq178_13_1, hq178_13_2, hq178_13_3, hq178_13_4, hq178_13_5⟩
            · exact absurd hq178_0_0 (by intro hz; have := own_i0; have := own_i1; have := own_i2; have := own_j2147483647; have := own_i5; simp only [Int32.lt_iff_toInt_lt, ← Int32.toInt_inj] at hz hq110_7_0 hq110_7_2 hq110_7_1; omega)
            · exact absurd hq178_1_0 (by intro hz; have := own_i0; have := own_i1; have := own_i2; have := own_j2147483647; have := own_i5; simp only [Int32.lt_iff_toInt_lt, ← Int32.toInt_inj] at hz hq110_7_0 hq110_7_2 hq110_7_1; omega)
            · exact absurd hq178_2_1 (by intro hz; have := own_i0; have := own_i1; have := own_i2; have := own_j2147483647; have := own_i5; simp only [Int32.lt_iff_toInt_lt, ← Int32.toInt_inj] at hz hq178_2_0 hq110_7_2 hq110_7_1; omega)
            · exact absurd hq178_3_1 (by intro hz; have := own_i0; have := own_i1; have := own_i2; have := own_j2147483647; have := own_i5; simp only [Int32.lt_iff_toInt_lt, ← Int32.toInt_inj] at hz hq178_3_0 hq110_7_2 hq110_7_1; omega)
            · exact absurd hq178_4_3 (by intro hz; have := own_i1; have := own_i2; have := own_i7; simp only [Int32.lt_iff_toInt_lt, ← Int32.toInt_inj] at hz hq175_0_0; omega)
            · exact absurd hq178_5_4 (by intro hz; have := own_i1; have := own_i2; have := own_i3; have := own_i7; simp only [Int32.lt_iff_toInt_lt, ← Int32.toInt_inj] at hz hq175_0_0 hq178_5_3; omega)
            · exact absurd hq178_6_5 (by intro hz; have := own_i1; have := own_i2; have := own_i3; have := own_i4; have := own_i7; simp only [Int32.lt_iff_toInt_lt, ← Int32.toInt_inj] at hz hq175_0_0 hq178_6_3 hq178_6_4; omega)
            · exact absurd hq178_7_6 (by intro hz; have := own_i1; have := own_i2; have := own_i3; have := own_i4; have := own_i5; have := own_i7; simp only [Int32.lt_iff_toInt_lt, ← Int32.toInt_inj] at hz hq175_0_0 hq178_7_3 hq178_7_4 hq178_7_5; omega)
            · have pre180 : ∀ t, own_S p e below m T178 106 #[lvI p0_, lvI p1_, lvI p2_, lvI ((p0_ &&& (2147483647 : Int32)) % (5 : Int32)), lvR w_SET, lvI ((p2_ &&& (7 : Int32)) - (1 : Int32))] [(.int (1 : Int32))] t → G t := by
                intro t kt
                refine pre58 t ?_
                show own_S p e below m s₁ 21 #[lvI p0_, lvI p1_, lvI p2_, lvI ((p0_ &&& (2147483647 : Int32)) % (5 : Int32)), .unset, .unset] [(.int (1 : Int32)), (.int ((p0_ &&& (2147483647 : Int32)) % (5 : Int32)))] _
                refine XS.icmpNo X0.here hx rfl (hb hby at_21) rfl (teq hc59).2 ?_
                show own_S p e below m s₁ 24 #[lvI p0_, lvI p1_, lvI p2_, lvI ((p0_ &&& (2147483647 : Int32)) % (5 : Int32)), .unset, .unset] [] _
                refine st60 _ ?_
                refine XS.astore X60.here hx rfl (hb hby at_27) rfl rfl (l' := #[lvI p0_, lvI p1_, lvI p2_, lvI ((p0_ &&& (2147483647 : Int32)) % (5 : Int32)), lvR w_SET, .unset]) rfl ?_
                refine XS.goto X60.here hx rfl (pc0 := 29) (pc' := 63) rfl (hb hby at_29) (by decide) (by decide) ?_
                refine XS.iloadN X60.here hx rfl (hb hby at_63) rfl ?_
                refine XS.bipush X60.here hx rfl (hb hby at_64) ?_
                refine XS.iand X60.here hx rfl (hb hby at_66) rfl ?_
                show own_S p e below m T60 67 #[lvI p0_, lvI p1_, lvI p2_, lvI ((p0_ &&& (2147483647 : Int32)) % (5 : Int32)), lvR w_SET, .unset] [(.int (p2_ &&& (7 : Int32)))] _
                refine XS.iconst X60.here hx rfl (hb hby at_67) ?_
                refine XS.isub X60.here hx rfl (hb hby at_68) rfl ?_
                refine XS.istore X60.here hx rfl (hb hby at_69) rfl (l' := #[lvI p0_, lvI p1_, lvI p2_, lvI ((p0_ &&& (2147483647 : Int32)) % (5 : Int32)), lvR w_SET, lvI ((p2_ &&& (7 : Int32)) - (1 : Int32))]) rfl ?_
                refine XS.aload X60.here hx rfl (hb hby at_71) rfl rfl ?_
                refine XS.iloadN X60.here hx rfl (hb hby at_73) rfl ?_
                show own_S p e below m T60 74 #[lvI p0_, lvI p1_, lvI p2_, lvI ((p0_ &&& (2147483647 : Int32)) % (5 : Int32)), lvR w_SET, lvI ((p2_ &&& (7 : Int32)) - (1 : Int32))] [(.int p1_), (.ref w_SET)] _
                refine st61.trans ?_
                refine XS.iloadN X61.here hx rfl (hb hby at_77) rfl ?_
                refine XS.iloadN X61.here hx rfl (hb hby at_78) rfl ?_
                show own_S p e below m T61 79 #[lvI p0_, lvI p1_, lvI p2_, lvI ((p0_ &&& (2147483647 : Int32)) % (5 : Int32)), lvR w_SET, lvI ((p2_ &&& (7 : Int32)) - (1 : Int32))] [(.int p1_), (.int ((p0_ &&& (2147483647 : Int32)) % (5 : Int32))), (.int (1 : Int32))] _
                refine st110 _ ?_
                show own_S p e below m T110 82 #[lvI p0_, lvI p1_, lvI p2_, lvI ((p0_ &&& (2147483647 : Int32)) % (5 : Int32)), lvR w_SET, lvI ((p2_ &&& (7 : Int32)) - (1 : Int32))] [(.int (1 : Int32)), (.int (1 : Int32))] _
                refine XS.icmpNo X110.here hx rfl (hb hby at_82) rfl (teq (by decide : (1 : Int32) = (1 : Int32))).2 ?_
                refine XS.aload X110.here hx rfl (hb hby at_85) rfl rfl ?_
                refine XS.iload X110.here hx rfl (hb hby at_87) rfl ?_
                show own_S p e below m T110 89 #[lvI p0_, lvI p1_, lvI p2_, lvI ((p0_ &&& (2147483647 : Int32)) % (5 : Int32)), lvR w_SET, lvI ((p2_ &&& (7 : Int32)) - (1 : Int32))] [(.int ((p2_ &&& (7 : Int32)) - (1 : Int32))), (.ref w_SET)] _
                refine st175.trans ?_
                refine XS.iloadN X175.here hx rfl (hb hby at_92) rfl ?_
                refine XS.iload X175.here hx rfl (hb hby at_93) rfl ?_
                show own_S p e below m T175 95 #[lvI p0_, lvI p1_, lvI p2_, lvI ((p0_ &&& (2147483647 : Int32)) % (5 : Int32)), lvR w_SET, lvI ((p2_ &&& (7 : Int32)) - (1 : Int32))] [(.int ((p2_ &&& (7 : Int32)) - (1 : Int32))), (.int ((p0_ &&& (2147483647 : Int32)) % (5 : Int32))), (.int (0 : Int32))] _
                refine st178 _ ?_
                show own_S p e below m T178 98 #[lvI p0_, lvI p1_, lvI p2_, lvI ((p0_ &&& (2147483647 : Int32)) % (5 : Int32)), lvR w_SET, lvI ((p2_ &&& (7 : Int32)) - (1 : Int32))] [(.int (0 : Int32)), (.int (0 : Int32))] _
                refine XS.icmpNo X178.here hx rfl (hb hby at_98) rfl (teq (by decide : (0 : Int32) = (0 : Int32))).2 ?_
                refine XS.iconst X178.here hx rfl (hb hby at_101) ?_
                refine XS.goto X178.here hx rfl (pc0 := 102) (pc' := 106) rfl (hb hby at_102) (by decide) (by decide) ?_
                exact kt
              obtain ⟨fs, hr, hrun, hended, hW, hsame⟩ := X178.leave (v := some (.int (1 : Int32))) (fun h => by rw [Bd.returns] at h; cases h)
              refine ⟨_, _, hG _ (pre180 _ (retN X178 hx (t := .boolean) Bd.returns (by simp) (hb hby at_106) hr)), hrun, hended, _, _, rfl, ?_, ⟨_, rfl⟩, hW, hsame.mono (by decide) (by decide)⟩
              show QLaw Z p0_ p1_ p2_ w_GET w_SET w_DEL w_VDEL w_KEYNOTIFY h0 n0 _ T178.heap _
              rw [e178']
              exact ⟨rfl, N179⟩
            · exact absurd hq178_9_3 (by intro hz; have := own_i0; have := own_i1; have := own_i2; have := own_j2147483647; have := own_i3; have := own_i5; simp only [Int32.lt_iff_toInt_lt, ← Int32.toInt_inj] at hz hq178_9_0 hq110_7_2 hq178_9_1 hq178_9_2; omega)
            · exact absurd hq178_10_3 (by intro hz; have := own_i0; have := own_i1; have := own_i2; have := own_j2147483647; have := own_i3; have := own_i5; simp only [Int32.lt_iff_toInt_lt, ← Int32.toInt_inj] at hz hq178_10_0 hq110_7_2 hq178_10_1 hq178_10_2; omega)
            · exact absurd (by apply Decidable.by_contra; intro hz; have := own_i0; have := own_i1; have := own_i2; have := own_j2147483647; have := own_i5; simp only [Int32.lt_iff_toInt_lt, ← Int32.toInt_inj] at hz hq178_11_0 hq110_7_2 hq178_11_1; omega) hq178_11_2
            · exact absurd (by apply Decidable.by_contra; intro hz; have := own_i0; have := own_i1; have := own_i2; have := own_j2147483647; have := own_i5; simp only [Int32.lt_iff_toInt_lt, ← Int32.toInt_inj] at hz hq178_12_0 hq110_7_2 hq178_12_1; omega) hq178_12_2
            · exact absurd (by apply Decidable.by_contra; intro hz; have := own_i0; have := own_i1; have := own_i2; have := own_j2147483647; have := own_i5; simp only [Int32.lt_iff_toInt_lt, ← Int32.toInt_inj] at hz hq178_13_0 hq110_7_2 hq178_13_1; omega) hq178_13_2
          · obtain ⟨_, _, ⟨T182, L182, k182, n182⟩, -, X182, ⟨Lc182, hQ182, l182, y182, z182⟩, st182⟩ := Jvm.LawKit.callS X175 hx (y := (⟨"com/example/fawley/fawley/protocol/CommandTakesPinLaw", "expected", "(II)Z"⟩ : MethodName)) hown (mvT hZ (own_w hw 13 rfl)) (mvT hZ (own_w hw 14 rfl)) (mvT hZ (own_w hw 15 rfl)) (mvT hZ (own_w hw 16 rfl)) (by decide) (backOf (W := 1) (rmExp l Z a0 hw [] ((p0_ &&& (2147483647 : Int32)) % (5 : Int32)) ((p2_ &&& (7 : Int32)) - (1 : Int32)) h0 n0 O0 ) hZ (own_w hw 16 rfl) (own_w hw 15 rfl) (by decide) (by decide)) (g := (mkF m 95 #[lvI p0_, lvI p1_, lvI p2_, lvI ((p0_ &&& (2147483647 : Int32)) % (5 : Int32)), lvR w_SET, lvI ((p2_ &&& (7 : Int32)) - (1 : Int32))] [(.int ((p2_ &&& (7 : Int32)) - (1 : Int32))), (.int ((p0_ &&& (2147483647 : Int32)) % (5 : Int32))), (.int (0 : Int32))])) rfl (by rw [hml]; rfl) (argsL := [(.int ((p0_ &&& (2147483647 : Int32)) % (5 : Int32))), (.int ((p2_ &&& (7 : Int32)) - (1 : Int32)))]) (rest := [(.int (0 : Int32))]) (lenOf pd_1 rfl) rfl (by show 2 * 0 + _ ≤ _; exact Nat.le_of_eq rfl) (hb hby at_95) (fun _ _ => ⟨rfl, e175', (by decide : 0 + 0 ≤ _), (by decide : 0 + 0 ≤ _)⟩)
            dsimp only [Pt.U, Pt.locs, Pt.cells, Pt.slots] at X182 l182 y182 z182 st182 hQ182
            subst l182 y182 z182
            obtain ⟨h182, e182⟩ : ∃ z, T182.heap = z := ⟨_, rfl⟩
            rw [e182] at hQ182
            obtain ⟨rr182, rfl, hs182, N182q, hh182⟩ := hQ182
            have N183 := Fr.app N177 N182q
            have e182' : T182.heap = h0 := e182.trans hh182
            rcases hs182 with ⟨rfl, hq182_0_0, hq182_0_1⟩ | ⟨rfl, hq182_1_0, hq182_1_1⟩ | ⟨rfl, hq182_2_0, hq182_2_1, hq182_2_2⟩ | ⟨rfl, hq182_3_0, hq182_3_1, hq182_3_2⟩ | ⟨rfl, hq182_4_0, hq182_4_1, hq182_4_2, hq182_4_3⟩ | ⟨rfl, hq182_5_0, hq182_5_1, hq182_5_2, hq182_5_3, hq182_5_4⟩ | ⟨rfl, hq182_6_0, hq182_6_1, hq182_6_2, hq182_6_3, hq182_6_4, hq182_6_5⟩ | ⟨rfl, hq182_7_0, hq182_7_1, hq182_7_2, hq182_7_3, hq182_7_4, hq182_7_5, hq182_7_6⟩ | ⟨rfl, hq182_8_0, hq182_8_1, hq182_8_2, hq182_8_3, hq182_8_4, hq182_8_5, hq182_8_6⟩ | ⟨rfl, hq182_9_0, hq182_9_1, hq182_9_2, hq182_9_3, hq182_9_4⟩ | ⟨rfl, hq182_10_0, hq182_10_1, hq182_10_2, hq182_10_3, hq182_10_4⟩ | ⟨rfl, hq182_11_0, hq182_11_1, hq182_11_2, hq182_11_3, hq182_11_4⟩ | ⟨rfl, hq182_12_0, hq182_12_1, hq182_12_2, hq182_12_3, hq182_12_4, hq182_12_5⟩ | ⟨rfl, hq182_13_0, hq182_13_1, hq182_13_2, hq182_13_3, hq182_13_4, hq182_13_5⟩
            · exact absurd hq182_0_0 (by intro hz; have := own_i0; have := own_i1; have := own_i2; have := own_j2147483647; have := own_i5; simp only [Int32.lt_iff_toInt_lt, ← Int32.toInt_inj] at hz hq110_7_0 hq110_7_2 hq110_7_1; omega)
            · exact absurd hq182_1_0 (by intro hz; have := own_i0; have := own_i1; have := own_i2; have := own_j2147483647; have := own_i5; simp only [Int32.lt_iff_toInt_lt, ← Int32.toInt_inj] at hz hq110_7_0 hq110_7_2 hq110_7_1; omega)
            · exact absurd hq182_2_1 (by intro hz; have := own_i0; have := own_i1; have := own_i2; have := own_j2147483647; have := own_i5; simp only [Int32.lt_iff_toInt_lt, ← Int32.toInt_inj] at hz hq182_2_0 hq110_7_2 hq110_7_1; omega)
            · exact absurd hq182_3_1 (by intro hz; have := own_i0; have := own_i1; have := own_i2; have := own_j2147483647; have := own_i5; simp only [Int32.lt_iff_toInt_lt, ← Int32.toInt_inj] at hz hq182_3_0 hq110_7_2 hq110_7_1; omega)
            · exact absurd hq182_4_3 (by intro hz; have := own_i1; have := own_i2; have := own_i5; have := own_i7; simp only [Int32.lt_iff_toInt_lt, ← Int32.toInt_inj] at hz hq175_1_0 hq175_1_1; omega)
            · exact absurd hq182_5_4 (by intro hz; have := own_i1; have := own_i2; have := own_i3; have := own_i5; have := own_i7; simp only [Int32.lt_iff_toInt_lt, ← Int32.toInt_inj] at hz hq175_1_0 hq175_1_1 hq182_5_3; omega)
            · exact absurd hq182_6_5 (by intro hz; have := own_i1; have := own_i2; have := own_i3; have := own_i4; have := own_i5; have := own_i7; simp only [Int32.lt_iff_toInt_lt, ← Int32.toInt_inj] at hz hq175_1_0 hq175_1_1 hq182_6_3 hq182_6_4; omega)
            · exact absurd hq182_7_6 (by intro hz; have := own_i1; have := own_i2; have := own_i3; have := own_i4; have := own_i5; have := own_i7; simp only [Int32.lt_iff_toInt_lt, ← Int32.toInt_inj] at hz hq175_1_0 hq175_1_1 hq182_7_3 hq182_7_4 hq182_7_5; omega)
            · have pre184 : ∀ t, own_S p e below m T182 106 #[lvI p0_, lvI p1_, lvI p2_, lvI ((p0_ &&& (2147483647 : Int32)) % (5 : Int32)), lvR w_SET, lvI ((p2_ &&& (7 : Int32)) - (1 : Int32))] [(.int (1 : Int32))] t → G t := by
                intro t kt
                refine pre58 t ?_
                show own_S p e below m s₁ 21 #[lvI p0_, lvI p1_, lvI p2_, lvI ((p0_ &&& (2147483647 : Int32)) % (5 : Int32)), .unset, .unset] [(.int (1 : Int32)), (.int ((p0_ &&& (2147483647 : Int32)) % (5 : Int32)))] _
                refine XS.icmpNo X0.here hx rfl (hb hby at_21) rfl (teq hc59).2 ?_
                show own_S p e below m s₁ 24 #[lvI p0_, lvI p1_, lvI p2_, lvI ((p0_ &&& (2147483647 : Int32)) % (5 : Int32)), .unset, .unset] [] _
                refine st60 _ ?_
                refine XS.astore X60.here hx rfl (hb hby at_27) rfl rfl (l' := #[lvI p0_, lvI p1_, lvI p2_, lvI ((p0_ &&& (2147483647 : Int32)) % (5 : Int32)), lvR w_SET, .unset]) rfl ?_
                refine XS.goto X60.here hx rfl (pc0 := 29) (pc' := 63) rfl (hb hby at_29) (by decide) (by decide) ?_
                refine XS.iloadN X60.here hx rfl (hb hby at_63) rfl ?_
                refine XS.bipush X60.here hx rfl (hb hby at_64) ?_
                refine XS.iand X60.here hx rfl (hb hby at_66) rfl ?_
                show own_S p e below m T60 67 #[lvI p0_, lvI p1_, lvI p2_, lvI ((p0_ &&& (2147483647 : Int32)) % (5 : Int32)), lvR w_SET, .unset] [(.int (p2_ &&& (7 : Int32)))] _
                refine XS.iconst X60.here hx rfl (hb hby at_67) ?_
                refine XS.isub X60.here hx rfl (hb hby at_68) rfl ?_
                refine XS.istore X60.here hx rfl (hb hby at_69) rfl (l' := #[lvI p0_, lvI p1_, lvI p2_, lvI ((p0_ &&& (2147483647 : Int32)) % (5 : Int32)), lvR w_SET, lvI ((p2_ &&& (7 : Int32)) - (1 : Int32))]) rfl ?_
                refine XS.aload X60.here hx rfl (hb hby at_71) rfl rfl ?_
                refine XS.iloadN X60.here hx rfl (hb hby at_73) rfl ?_
                show own_S p e below m T60 74 #[lvI p0_, lvI p1_, lvI p2_, lvI ((p0_ &&& (2147483647 : Int32)) % (5 : Int32)), lvR w_SET, lvI ((p2_ &&& (7 : Int32)) - (1 : Int32))] [(.int p1_), (.ref w_SET)] _
                refine st61.trans ?_
                refine XS.iloadN X61.here hx rfl (hb hby at_77) rfl ?_
                refine XS.iloadN X61.here hx rfl (hb hby at_78) rfl ?_
                show own_S p e below m T61 79 #[lvI p0_, lvI p1_, lvI p2_, lvI ((p0_ &&& (2147483647 : Int32)) % (5 : Int32)), lvR w_SET, lvI ((p2_ &&& (7 : Int32)) - (1 : Int32))] [(.int p1_), (.int ((p0_ &&& (2147483647 : Int32)) % (5 : Int32))), (.int (1 : Int32))] _
                refine st110 _ ?_
                show own_S p e below m T110 82 #[lvI p0_, lvI p1_, lvI p2_, lvI ((p0_ &&& (2147483647 : Int32)) % (5 : Int32)), lvR w_SET, lvI ((p2_ &&& (7 : Int32)) - (1 : Int32))] [(.int (1 : Int32)), (.int (1 : Int32))] _
                refine XS.icmpNo X110.here hx rfl (hb hby at_82) rfl (teq (by decide : (1 : Int32) = (1 : Int32))).2 ?_
                refine XS.aload X110.here hx rfl (hb hby at_85) rfl rfl ?_
                refine XS.iload X110.here hx rfl (hb hby at_87) rfl ?_
                show own_S p e below m T110 89 #[lvI p0_, lvI p1_, lvI p2_, lvI ((p0_ &&& (2147483647 : Int32)) % (5 : Int32)), lvR w_SET, lvI ((p2_ &&& (7 : Int32)) - (1 : Int32))] [(.int ((p2_ &&& (7 : Int32)) - (1 : Int32))), (.ref w_SET)] _
                refine st175.trans ?_
                refine XS.iloadN X175.here hx rfl (hb hby at_92) rfl ?_
                refine XS.iload X175.here hx rfl (hb hby at_93) rfl ?_
                show own_S p e below m T175 95 #[lvI p0_, lvI p1_, lvI p2_, lvI ((p0_ &&& (2147483647 : Int32)) % (5 : Int32)), lvR w_SET, lvI ((p2_ &&& (7 : Int32)) - (1 : Int32))] [(.int ((p2_ &&& (7 : Int32)) - (1 : Int32))), (.int ((p0_ &&& (2147483647 : Int32)) % (5 : Int32))), (.int (0 : Int32))] _
                refine st182 _ ?_
                show own_S p e below m T182 98 #[lvI p0_, lvI p1_, lvI p2_, lvI ((p0_ &&& (2147483647 : Int32)) % (5 : Int32)), lvR w_SET, lvI ((p2_ &&& (7 : Int32)) - (1 : Int32))] [(.int (0 : Int32)), (.int (0 : Int32))] _
                refine XS.icmpNo X182.here hx rfl (hb hby at_98) rfl (teq (by decide : (0 : Int32) = (0 : Int32))).2 ?_
                refine XS.iconst X182.here hx rfl (hb hby at_101) ?_
                refine XS.goto X182.here hx rfl (pc0 := 102) (pc' := 106) rfl (hb hby at_102) (by decide) (by decide) ?_
                exact kt
              obtain ⟨fs, hr, hrun, hended, hW, hsame⟩ := X182.leave (v := some (.int (1 : Int32))) (fun h => by rw [Bd.returns] at h; cases h)
              refine ⟨_, _, hG _ (pre184 _ (retN X182 hx (t := .boolean) Bd.returns (by simp) (hb hby at_106) hr)), hrun, hended, _, _, rfl, ?_, ⟨_, rfl⟩, hW, hsame.mono (by decide) (by decide)⟩
              show QLaw Z p0_ p1_ p2_ w_GET w_SET w_DEL w_VDEL w_KEYNOTIFY h0 n0 _ T182.heap _
              rw [e182']
              exact ⟨rfl, N183⟩
            · exact absurd hq182_9_3 (by intro hz; have := own_i0; have := own_i1; have := own_i2; have := own_j2147483647; have := own_i3; have := own_i5; simp only [Int32.lt_iff_toInt_lt, ← Int32.toInt_inj] at hz hq182_9_0 hq110_7_2 hq182_9_1 hq182_9_2; omega)
            · exact absurd hq182_10_3 (by intro hz; have := own_i0; have := own_i1; have := own_i2; have := own_j2147483647; have := own_i3; have := own_i5; simp only [Int32.lt_iff_toInt_lt, ← Int32.toInt_inj] at hz hq182_10_0 hq110_7_2 hq182_10_1 hq182_10_2; omega)
            · exact absurd (by apply Decidable.by_contra; intro hz; have := own_i0; have := own_i1; have := own_i2; have := own_j2147483647; have := own_i5; simp only [Int32.lt_iff_toInt_lt, ← Int32.toInt_inj] at hz hq182_11_0 hq110_7_2 hq182_11_1; omega) hq182_11_2
            · exact absurd (by apply Decidable.by_contra; intro hz; have := own_i0; have := own_i1; have := own_i2; have := own_j2147483647; have := own_i5; simp only [Int32.lt_iff_toInt_lt, ← Int32.toInt_inj] at hz hq182_12_0 hq110_7_2 hq182_12_1; omega) hq182_12_2
            · exact absurd (by apply Decidable.by_contra; intro hz; have := own_i0; have := own_i1; have := own_i2; have := own_j2147483647; have := own_i5; simp only [Int32.lt_iff_toInt_lt, ← Int32.toInt_inj] at hz hq182_13_0 hq110_7_2 hq182_13_1; omega) hq182_13_2
          · obtain ⟨_, _, ⟨T186, L186, k186, n186⟩, -, X186, ⟨Lc186, hQ186, l186, y186, z186⟩, st186⟩ := Jvm.LawKit.callS X175 hx (y := (⟨"com/example/fawley/fawley/protocol/CommandTakesPinLaw", "expected", "(II)Z"⟩ : MethodName)) hown (mvT hZ (own_w hw 13 rfl)) (mvT hZ (own_w hw 14 rfl)) (mvT hZ (own_w hw 15 rfl)) (mvT hZ (own_w hw 16 rfl)) (by decide) (backOf (W := 1) (rmExp l Z a0 hw [] ((p0_ &&& (2147483647 : Int32)) % (5 : Int32)) ((p2_ &&& (7 : Int32)) - (1 : Int32)) h0 n0 O0 ) hZ (own_w hw 16 rfl) (own_w hw 15 rfl) (by decide) (by decide)) (g := (mkF m 95 #[lvI p0_, lvI p1_, lvI p2_, lvI ((p0_ &&& (2147483647 : Int32)) % (5 : Int32)), lvR w_SET, lvI ((p2_ &&& (7 : Int32)) - (1 : Int32))] [(.int ((p2_ &&& (7 : Int32)) - (1 : Int32))), (.int ((p0_ &&& (2147483647 : Int32)) % (5 : Int32))), (.int (1 : Int32))])) rfl (by rw [hml]; rfl) (argsL := [(.int ((p0_ &&& (2147483647 : Int32)) % (5 : Int32))), (.int ((p2_ &&& (7 : Int32)) - (1 : Int32)))]) (rest := [(.int (1 : Int32))]) (lenOf pd_1 rfl) rfl (by show 2 * 0 + _ ≤ _; exact Nat.le_of_eq rfl) (hb hby at_95) (fun _ _ => ⟨rfl, e175', (by decide : 0 + 0 ≤ _), (by decide : 0 + 0 ≤ _)⟩)
            dsimp only [Pt.U, Pt.locs, Pt.cells, Pt.slots] at X186 l186 y186 z186 st186 hQ186
            subst l186 y186 z186
            obtain ⟨h186, e186⟩ : ∃ z, T186.heap = z := ⟨_, rfl⟩
            rw [e186] at hQ186
            obtain ⟨rr186, rfl, hs186, N186q, hh186⟩ := hQ186
            have N187 := Fr.app N177 N186q
            have e186' : T186.heap = h0 := e186.trans hh186
            rcases hs186 with ⟨rfl, hq186_0_0, hq186_0_1⟩ | ⟨rfl, hq186_1_0, hq186_1_1⟩ | ⟨rfl, hq186_2_0, hq186_2_1, hq186_2_2⟩ | ⟨rfl, hq186_3_0, hq186_3_1, hq186_3_2⟩ | ⟨rfl, hq186_4_0, hq186_4_1, hq186_4_2, hq186_4_3⟩ | ⟨rfl, hq186_5_0, hq186_5_1, hq186_5_2, hq186_5_3, hq186_5_4⟩ | ⟨rfl, hq186_6_0, hq186_6_1, hq186_6_2, hq186_6_3, hq186_6_4, hq186_6_5⟩ | ⟨rfl, hq186_7_0, hq186_7_1, hq186_7_2, hq186_7_3, hq186_7_4, hq186_7_5, hq186_7_6⟩ | ⟨rfl, hq186_8_0, hq186_8_1, hq186_8_2, hq186_8_3, hq186_8_4, hq186_8_5, hq186_8_6⟩ | ⟨rfl, hq186_9_0, hq186_9_1, hq186_9_2, hq186_9_3, hq186_9_4⟩ | ⟨rfl, hq186_10_0, hq186_10_1, hq186_10_2, hq186_10_3, hq186_10_4⟩ | ⟨rfl, hq186_11_0, hq186_11_1, hq186_11_2, hq186_11_3, hq186_11_4⟩ | ⟨rfl, hq186_12_0, hq186_12_1, hq186_12_2, hq186_12_3, hq186_12_4, hq186_12_5⟩ | ⟨rfl, hq186_13_0, hq186_13_1, hq186_13_2, hq186_13_3, hq186_13_4, hq186_13_5⟩
            · exact absurd hq186_0_0 (by intro hz; have := own_i0; have := own_i1; have := own_i2; have := own_j2147483647; have := own_i5; simp only [Int32.lt_iff_toInt_lt, ← Int32.toInt_inj] at hz hq110_7_0 hq110_7_2 hq110_7_1; omega)
            · exact absurd hq186_1_0 (by intro hz; have := own_i0; have := own_i1; have := own_i2; have := own_j2147483647; have := own_i5; simp only [Int32.lt_iff_toInt_lt, ← Int32.toInt_inj] at hz hq110_7_0 hq110_7_2 hq110_7_1; omega)
            · exact absurd hq186_2_1 (by intro hz; have := own_i0; have := own_i1; have := own_i2; have := own_j2147483647; have := own_i5; simp only [Int32.lt_iff_toInt_lt, ← Int32.toInt_inj] at hz hq186_2_0 hq110_7_2 hq110_7_1; omega)
            · exact absurd hq186_3_1 (by intro hz; have := own_i0; have := own_i1; have := own_i2; have := own_j2147483647; have := own_i5; simp only [Int32.lt_iff_toInt_lt, ← Int32.toInt_inj] at hz hq186_3_0 hq110_7_2 hq110_7_1; omega)
            · have pre188 : ∀ t, own_S p e below m T186 106 #[lvI p0_, lvI p1_, lvI p2_, lvI ((p0_ &&& (2147483647 : Int32)) % (5 : Int32)), lvR w_SET, lvI ((p2_ &&& (7 : Int32)) - (1 : Int32))] [(.int (1 : Int32))] t → G t := by
                intro t kt
                refine pre58 t ?_
                show own_S p e below m s₁ 21 #[lvI p0_, lvI p1_, lvI p2_, lvI ((p0_ &&& (2147483647 : Int32)) % (5 : Int32)), .unset, .unset] [(.int (1 : Int32)), (.int ((p0_ &&& (2147483647 : Int32)) % (5 : Int32)))] _
                refine XS.icmpNo X0.here hx rfl (hb hby at_21) rfl (teq hc59).2 ?_
                show own_S p e below m s₁ 24 #[lvI p0_, lvI p1_, lvI p2_, lvI ((p0_ &&& (2147483647 : Int32)) % (5 : Int32)), .unset, .unset] [] _
                refine st60 _ ?_
                refine XS.astore X60.here hx rfl (hb hby at_27) rfl rfl (l' := #[lvI p0_, lvI p1_, lvI p2_, lvI ((p0_ &&& (2147483647 : Int32)) % (5 : Int32)), lvR w_SET, .unset]) rfl ?_
                refine XS.goto X60.here hx rfl (pc0 := 29) (pc' := 63) rfl (hb hby at_29) (by decide) (by decide) ?_
                refine XS.iloadN X60.here hx rfl (hb hby at_63) rfl ?_
                refine XS.bipush X60.here hx rfl (hb hby at_64) ?_
                refine XS.iand X60.here hx rfl (hb hby at_66) rfl ?_
                show own_S p e below m T60 67 #[lvI p0_, lvI p1_, lvI p2_, lvI ((p0_ &&& (2147483647 : Int32)) % (5 : Int32)), lvR w_SET, .unset] [(.int (p2_ &&& (7 : Int32)))] _
                refine XS.iconst X60.here hx rfl (hb hby at_67) ?_
                refine XS.isub X60.here hx rfl (hb hby at_68) rfl ?_
                refine XS.istore X60.here hx rfl (hb hby at_69) rfl (l' := #[lvI p0_, lvI p1_, lvI p2_, lvI ((p0_ &&& (2147483647 : Int32)) % (5 : Int32)), lvR w_SET, lvI ((p2_ &&& (7 : Int32)) - (1 : Int32))]) rfl ?_
                refine XS.aload X60.here hx rfl (hb hby at_71) rfl rfl ?_
                refine XS.iloadN X60.here hx rfl (hb hby at_73) rfl ?_
                show own_S p e below m T60 74 #[lvI p0_, lvI p1_, lvI p2_, lvI ((p0_ &&& (2147483647 : Int32)) % (5 : Int32)), lvR w_SET, lvI ((p2_ &&& (7 : Int32)) - (1 : Int32))] [(.int p1_), (.ref w_SET)] _
                refine st61.trans ?_
                refine XS.iloadN X61.here hx rfl (hb hby at_77) rfl ?_
                refine XS.iloadN X61.here hx rfl (hb hby at_78) rfl ?_
                show own_S p e below m T61 79 #[lvI p0_, lvI p1_, lvI p2_, lvI ((p0_ &&& (2147483647 : Int32)) % (5 : Int32)), lvR w_SET, lvI ((p2_ &&& (7 : Int32)) - (1 : Int32))] [(.int p1_), (.int ((p0_ &&& (2147483647 : Int32)) % (5 : Int32))), (.int (1 : Int32))] _
                refine st110 _ ?_
                show own_S p e below m T110 82 #[lvI p0_, lvI p1_, lvI p2_, lvI ((p0_ &&& (2147483647 : Int32)) % (5 : Int32)), lvR w_SET, lvI ((p2_ &&& (7 : Int32)) - (1 : Int32))] [(.int (1 : Int32)), (.int (1 : Int32))] _
                refine XS.icmpNo X110.here hx rfl (hb hby at_82) rfl (teq (by decide : (1 : Int32) = (1 : Int32))).2 ?_
                refine XS.aload X110.here hx rfl (hb hby at_85) rfl rfl ?_
                refine XS.iload X110.here hx rfl (hb hby at_87) rfl ?_
                show own_S p e below m T110 89 #[lvI p0_, lvI p1_, lvI p2_, lvI ((p0_ &&& (2147483647 : Int32)) % (5 : Int32)), lvR w_SET, lvI ((p2_ &&& (7 : Int32)) - (1 : Int32))] [(.int ((p2_ &&& (7 : Int32)) - (1 : Int32))), (.ref w_SET)] _
                refine st175.trans ?_
                refine XS.iloadN X175.here hx rfl (hb hby at_92) rfl ?_
                refine XS.iload X175.here hx rfl (hb hby at_93) rfl ?_
                show own_S p e below m T175 95 #[lvI p0_, lvI p1_, lvI p2_, lvI ((p0_ &&& (2147483647 : Int32)) % (5 : Int32)), lvR w_SET, lvI ((p2_ &&& (7 : Int32)) - (1 : Int32))] [(.int ((p2_ &&& (7 : Int32)) - (1 : Int32))), (.int ((p0_ &&& (2147483647 : Int32)) % (5 : Int32))), (.int (1 : Int32))] _
                refine st186 _ ?_
                show own_S p e below m T186 98 #[lvI p0_, lvI p1_, lvI p2_, lvI ((p0_ &&& (2147483647 : Int32)) % (5 : Int32)), lvR w_SET, lvI ((p2_ &&& (7 : Int32)) - (1 : Int32))] [(.int (1 : Int32)), (.int (1 : Int32))] _
                refine XS.icmpNo X186.here hx rfl (hb hby at_98) rfl (teq (by decide : (1 : Int32) = (1 : Int32))).2 ?_
                refine XS.iconst X186.here hx rfl (hb hby at_101) ?_
                refine XS.goto X186.here hx rfl (pc0 := 102) (pc' := 106) rfl (hb hby at_102) (by decide) (by decide) ?_
                exact kt
              obtain ⟨fs, hr, hrun, hended, hW, hsame⟩ := X186.leave (v := some (.int (1 : Int32))) (fun h => by rw [Bd.returns] at h; cases h)
              refine ⟨_, _, hG _ (pre188 _ (retN X186 hx (t := .boolean) Bd.returns (by simp) (hb hby at_106) hr)), hrun, hended, _, _, rfl, ?_, ⟨_, rfl⟩, hW, hsame.mono (by decide) (by decide)⟩
              show QLaw Z p0_ p1_ p2_ w_GET w_SET w_DEL w_VDEL w_KEYNOTIFY h0 n0 _ T186.heap _
              rw [e186']
              exact ⟨rfl, N187⟩
            · have pre190 : ∀ t, own_S p e below m T186 106 #[lvI p0_, lvI p1_, lvI p2_, lvI ((p0_ &&& (2147483647 : Int32)) % (5 : Int32)), lvR w_SET, lvI ((p2_ &&& (7 : Int32)) - (1 : Int32))] [(.int (1 : Int32))] t → G t := by
                intro t kt
                refine pre58 t ?_
                show own_S p e below m s₁ 21 #[lvI p0_, lvI p1_, lvI p2_, lvI ((p0_ &&& (2147483647 : Int32)) % (5 : Int32)), .unset, .unset] [(.int (1 : Int32)), (.int ((p0_ &&& (2147483647 : Int32)) % (5 : Int32)))] _
                refine XS.icmpNo X0.here hx rfl (hb hby at_21) rfl (teq hc59).2 ?_
                show own_S p e below m s₁ 24 #[lvI p0_, lvI p1_, lvI p2_, lvI ((p0_ &&& (2147483647 : Int32)) % (5 : Int32)), .unset, .unset] [] _
                refine st60 _ ?_
                refine XS.astore X60.here hx rfl (hb hby at_27) rfl rfl (l' := #[lvI p0_, lvI p1_, lvI p2_, lvI ((p0_ &&& (2147483647 : Int32)) % (5 : Int32)), lvR w_SET, .unset]) rfl ?_
                refine XS.goto X60.here hx rfl (pc0 := 29) (pc' := 63) rfl (hb hby at_29) (by decide) (by decide) ?_
                refine XS.iloadN X60.here hx rfl (hb hby at_63) rfl ?_
                refine XS.bipush X60.here hx rfl (hb hby at_64) ?_
                refine XS.iand X60.here hx rfl (hb hby at_66) rfl ?_
                show own_S p e below m T60 67 #[lvI p0_, lvI p1_, lvI p2_, lvI ((p0_ &&& (2147483647 : Int32)) % (5 : Int32)), lvR w_SET, .unset] [(.int (p2_ &&& (7 : Int32)))] _
                refine XS.iconst X60.here hx rfl (hb hby at_67) ?_
                refine XS.isub X60.here hx rfl (hb hby at_68) rfl ?_
                refine XS.istore X60.here hx rfl (hb hby at_69) rfl (l' := #[lvI p0_, lvI p1_, lvI p2_, lvI ((p0_ &&& (2147483647 : Int32)) % (5 : Int32)), lvR w_SET, lvI ((p2_ &&& (7 : Int32)) - (1 : Int32))]) rfl ?_
                refine XS.aload X60.here hx rfl (hb hby at_71) rfl rfl ?_
                refine XS.iloadN X60.here hx rfl (hb hby at_73) rfl ?_
                show own_S p e below m T60 74 #[lvI p0_, lvI p1_, lvI p2_, lvI ((p0_ &&& (2147483647 : Int32)) % (5 : Int32)), lvR w_SET, lvI ((p2_ &&& (7 : Int32)) - (1 : Int32))] [(.int p1_), (.ref w_SET)] _
                refine st61.trans ?_
                refine XS.iloadN X61.here hx rfl (hb hby at_77) rfl ?_
                refine XS.iloadN X61.here hx rfl (hb hby at_78) rfl ?_
                show own_S p e below m T61 79 #[lvI p0_, lvI p1_, lvI p2_, lvI ((p0_ &&& (2147483647 : Int32)) % (5 : Int32)), lvR w_SET, lvI ((p2_ &&& (7 : Int32)) - (1 : Int32))] [(.int p1_), (.int ((p0_ &&& (2147483647 : Int32)) % (5 : Int32))), (.int (1 : Int32))] _
                refine st110 _ ?_
                show own_S p e below m T110 82 #[lvI p0_, lvI p1_, lvI p2_, lvI ((p0_ &&& (2147483647 : Int32)) % (5 : Int32)), lvR w_SET, lvI ((p2_ &&& (7 : Int32)) - (1 : Int32))] [(.int (1 : Int32)), (.int (1 : Int32))] _
                refine XS.icmpNo X110.here hx rfl (hb hby at_82) rfl (teq (by decide : (1 : Int32) = (1 : Int32))).2 ?_
                refine XS.aload X110.here hx rfl (hb hby at_85) rfl rfl ?_
                refine XS.iload X110.here hx rfl (hb hby at_87) rfl ?_
                show own_S p e below m T110 89 #[lvI p0_, lvI p1_, lvI p2_, lvI ((p0_ &&& (2147483647 : Int32)) % (5 : Int32)), lvR w_SET, lvI ((p2_ &&& (7 : Int32)) - (1 : Int32))] [(.int ((p2_ &&& (7 : Int32)) - (1 : Int32))), (.ref w_SET)] _
                refine st175.trans ?_
                refine XS.iloadN X175.here hx rfl (hb hby at_92) rfl ?_
                refine XS.iload X175.here hx rfl (hb hby at_93) rfl ?_
                show own_S p e below m T175 95 #[lvI p0_, lvI p1_, lvI p2_, lvI ((p0_ &&& (2147483647 : Int32)) % (5 : Int32)), lvR w_SET, lvI ((p2_ &&& (7 : Int32)) - (1 : Int32))] [(.int ((p2_ &&& (7 : Int32)) - (1 : Int32))), (.int ((p0_ &&& (2147483647 : Int32)) % (5 : Int32))), (.int (1 : Int32))] _
                refine st186 _ ?_
                show own_S p e below m T186 98 #[lvI p0_, lvI p1_, lvI p2_, lvI ((p0_ &&& (2147483647 : Int32)) % (5 : Int32)), lvR w_SET, lvI ((p2_ &&& (7 : Int32)) - (1 : Int32))] [(.int (1 : Int32)), (.int (1 : Int32))] _
                refine XS.icmpNo X186.here hx rfl (hb hby at_98) rfl (teq (by decide : (1 : Int32) = (1 : Int32))).2 ?_
                refine XS.iconst X186.here hx rfl (hb hby at_101) ?_
                refine XS.goto X186.here hx rfl (pc0 := 102) (pc' := 106) rfl (hb hby at_102) (by decide) (by decide) ?_
                exact kt
              obtain ⟨fs, hr, hrun, hended, hW, hsame⟩ := X186.leave (v := some (.int (1 : Int32))) (fun h => by rw [Bd.returns] at h; cases h)
              refine ⟨_, _, hG _ (pre190 _ (retN X186 hx (t := .boolean) Bd.returns (by simp) (hb hby at_106) hr)), hrun, hended, _, _, rfl, ?_, ⟨_, rfl⟩, hW, hsame.mono (by decide) (by decide)⟩
              show QLaw Z p0_ p1_ p2_ w_GET w_SET w_DEL w_VDEL w_KEYNOTIFY h0 n0 _ T186.heap _
              rw [e186']
              exact ⟨rfl, N187⟩
            · have pre192 : ∀ t, own_S p e below m T186 106 #[lvI p0_, lvI p1_, lvI p2_, lvI ((p0_ &&& (2147483647 : Int32)) % (5 : Int32)), lvR w_SET, lvI ((p2_ &&& (7 : Int32)) - (1 : Int32))] [(.int (1 : Int32))] t → G t := by
                intro t kt
                refine pre58 t ?_
                show own_S p e below m s₁ 21 #[lvI p0_, lvI p1_, lvI p2_, lvI ((p0_ &&& (2147483647 : Int32)) % (5 : Int32)), .unset, .unset] [(.int (1 : Int32)), (.int ((p0_ &&& (2147483647 : Int32)) % (5 : Int32)))] _
                refine XS.icmpNo X0.here hx rfl (hb hby at_21) rfl (teq hc59).2 ?_
                show own_S p e below m s₁ 24 #[lvI p0_, lvI p1_, lvI p2_, lvI ((p0_ &&& (2147483647 : Int32)) % (5 : Int32)), .unset, .unset] [] _
                refine st60 _ ?_
                refine XS.astore X60.here hx rfl (hb hby at_27) rfl rfl (l' := #[lvI p0_, lvI p1_, lvI p2_, lvI ((p0_ &&& (2147483647 : Int32)) % (5 : Int32)), lvR w_SET, .unset]) rfl ?_
                refine XS.goto X60.here hx rfl (pc0 := 29) (pc' := 63) rfl (hb hby at_29) (by decide) (by decide) ?_
                refine XS.iloadN X60.here hx rfl (hb hby at_63) rfl ?_
                refine XS.bipush X60.here hx rfl (hb hby at_64) ?_
                refine XS.iand X60.here hx rfl (hb hby at_66) rfl ?_
                show own_S p e below m T60 67 #[lvI p0_, lvI p1_, lvI p2_, lvI ((p0_ &&& (2147483647 : Int32)) % (5 : Int32)), lvR w_SET, .unset] [(.int (p2_ &&& (7 : Int32)))] _
                refine XS.iconst X60.here hx rfl (hb hby at_67) ?_
                refine XS.isub X60.here hx rfl (hb hby at_68) rfl ?_
                refine XS.istore X60.here hx rfl (hb hby at_69) rfl (l' := #[lvI p0_, lvI p1_, lvI p2_, lvI ((p0_ &&& (2147483647 : Int32)) % (5 : Int32)), lvR w_SET, lvI ((p2_ &&& (7 : Int32)) - (1 : Int32))]) rfl ?_
                refine XS.aload X60.here hx rfl (hb hby at_71) rfl rfl ?_
                refine XS.iloadN X60.here hx rfl (hb hby at_73) rfl ?_
                show own_S p e below m T60 74 #[lvI p0_, lvI p1_, lvI p2_, lvI ((p0_ &&& (2147483647 : Int32)) % (5 : Int32)), lvR w_SET, lvI ((p2_ &&& (7 : Int32)) - (1 : Int32))] [(.int p1_), (.ref w_SET)] _
                refine st61.trans ?_
                refine XS.iloadN X61.here hx rfl (hb hby at_77) rfl ?_
                refine XS.iloadN X61.here hx rfl (hb hby at_78) rfl ?_
                show own_S p e below m T61 79 #[lvI p0_, lvI p1_, lvI p2_, lvI ((p0_ &&& (2147483647 : Int32)) % (5 : Int32)), lvR w_SET, lvI ((p2_ &&& (7 : Int32)) - (1 : Int32))] [(.int p1_), (.int ((p0_ &&& (2147483647 : Int32)) % (5 : Int32))), (.int (1 : Int32))] _
                refine st110 _ ?_
                show own_S p e below m T110 82 #[lvI p0_, lvI p1_, lvI p2_, lvI ((p0_ &&& (2147483647 : Int32)) % (5 : Int32)), lvR w_SET, lvI ((p2_ &&& (7 : Int32)) - (1 : Int32))] [(.int (1 : Int32)), (.int (1 : Int32))] _
                refine XS.icmpNo X110.here hx rfl (hb hby at_82) rfl (teq (by decide : (1 : Int32) = (1 : Int32))).2 ?_
                refine XS.aload X110.here hx rfl (hb hby at_85) rfl rfl ?_
                refine XS.iload X110.here hx rfl (hb hby at_87) rfl ?_
                show own_S p e below m T110 89 #[lvI p0_, lvI p1_, lvI p2_, lvI ((p0_ &&& (2147483647 : Int32)) % (5 : Int32)), lvR w_SET, lvI ((p2_ &&& (7 : Int32)) - (1 : Int32))] [(.int ((p2_ &&& (7 : Int32)) - (1 : Int32))), (.ref w_SET)] _
                refine st175.trans ?_
                refine XS.iloadN X175.here hx rfl (hb hby at_92) rfl ?_
                refine XS.iload X175.here hx rfl (hb hby at_93) rfl ?_
                show own_S p e below m T175 95 #[lvI p0_, lvI p1_, lvI p2_, lvI ((p0_ &&& (2147483647 : Int32)) % (5 : Int32)), lvR w_SET, lvI ((p2_ &&& (7 : Int32)) - (1 : Int32))] [(.int ((p2_ &&& (7 : Int32)) - (1 : Int32))), (.int ((p0_ &&& (2147483647 : Int32)) % (5 : Int32))), (.int (1 : Int32))] _
                refine st186 _ ?_
                show own_S p e below m T186 98 #[lvI p0_, lvI p1_, lvI p2_, lvI ((p0_ &&& (2147483647 : Int32)) % (5 : Int32)), lvR w_SET, lvI ((p2_ &&& (7 : Int32)) - (1 : Int32))] [(.int (1 : Int32)), (.int (1 : Int32))] _
                refine XS.icmpNo X186.here hx rfl (hb hby at_98) rfl (teq (by decide : (1 : Int32) = (1 : Int32))).2 ?_
                refine XS.iconst X186.here hx rfl (hb hby at_101) ?_
                refine XS.goto X186.here hx rfl (pc0 := 102) (pc' := 106) rfl (hb hby at_102) (by decide) (by decide) ?_
                exact kt
              obtain ⟨fs, hr, hrun, hended, hW, hsame⟩ := X186.leave (v := some (.int (1 : Int32))) (fun h => by rw [Bd.returns] at h; cases h)
              refine ⟨_, _, hG _ (pre192 _ (retN X186 hx (t := .boolean) Bd.returns (by simp) (hb hby at_106) hr)), hrun, hended, _, _, rfl, ?_, ⟨_, rfl⟩, hW, hsame.mono (by decide) (by decide)⟩
              show QLaw Z p0_ p1_ p2_ w_GET w_SET w_DEL w_VDEL w_KEYNOTIFY h0 n0 _ T186.heap _
              rw [e186']
              exact ⟨rfl, N187⟩
            · have pre194 : ∀ t, own_S p e below m T186 106 #[lvI p0_, lvI p1_, lvI p2_, lvI ((p0_ &&& (2147483647 : Int32)) % (5 : Int32)), lvR w_SET, lvI ((p2_ &&& (7 : Int32)) - (1 : Int32))] [(.int (1 : Int32))] t → G t := by
                intro t kt
                refine pre58 t ?_
                show own_S p e below m s₁ 21 #[lvI p0_, lvI p1_, lvI p2_, lvI ((p0_ &&& (2147483647 : Int32)) % (5 : Int32)), .unset, .unset] [(.int (1 : Int32)), (.int ((p0_ &&& (2147483647 : Int32)) % (5 : Int32)))] _
                refine XS.icmpNo X0.here hx rfl (hb hby at_21) rfl (teq hc59).2 ?_
                show own_S p e below m s₁ 24 #[lvI p0_, lvI p1_, lvI p2_, lvI ((p0_ &&& (2147483647 : Int32)) % (5 : Int32)), .unset, .unset] [] _
                refine st60 _ ?_
                refine XS.astore X60.here hx rfl (hb hby at_27) rfl rfl (l' := #[lvI p0_, lvI p1_, lvI p2_, lvI ((p0_ &&& (2147483647 : Int32)) % (5 : Int32)), lvR w_SET, .unset]) rfl ?_
                refine XS.goto X60.here hx rfl (pc0 := 29) (pc' := 63) rfl (hb hby at_29) (by decide) (by decide) ?_
                refine XS.iloadN X60.here hx rfl (hb hby at_63) rfl ?_
                refine XS.bipush X60.here hx rfl (hb hby at_64) ?_
                refine XS.iand X60.here hx rfl (hb hby at_66) rfl ?_
                show own_S p e below m T60 67 #[lvI p0_, lvI p1_, lvI p2_, lvI ((p0_ &&& (2147483647 : Int32)) % (5 : Int32)), lvR w_SET, .unset] [(.int (p2_ &&& (7 : Int32)))] _
                refine XS.iconst X60.here hx rfl (hb hby at_67) ?_
                refine XS.isub X60.here hx rfl (hb hby at_68) rfl ?_
                refine XS.istore X60.here hx rfl (hb hby at_69) rfl (l' := #[lvI p0_, lvI p1_, lvI p2_, lvI ((p0_ &&& (2147483647 : Int32)) % (5 : Int32)), lvR w_SET, lvI ((p2_ &&& (7 : Int32)) - (1 : Int32))]) rfl ?_
                refine XS.aload X60.here hx rfl (hb hby at_71) rfl rfl ?_
                refine XS.iloadN X60.here hx rfl (hb hby at_73) rfl ?_
                show own_S p e below m T60 74 #[lvI p0_, lvI p1_, lvI p2_, lvI ((p0_ &&& (2147483647 : Int32)) % (5 : Int32)), lvR w_SET, lvI ((p2_ &&& (7 : Int32)) - (1 : Int32))] [(.int p1_), (.ref w_SET)] _
                refine st61.trans ?_
                refine XS.iloadN X61.here hx rfl (hb hby at_77) rfl ?_
                refine XS.iloadN X61.here hx rfl (hb hby at_78) rfl ?_
                show own_S p e below m T61 79 #[lvI p0_, lvI p1_, lvI p2_, lvI ((p0_ &&& (2147483647 : Int32)) % (5 : Int32)), lvR w_SET, lvI ((p2_ &&& (7 : Int32)) - (1 : Int32))] [(.int p1_), (.int ((p0_ &&& (2147483647 : Int32)) % (5 : Int32))), (.int (1 : Int32))] _
                refine st110 _ ?_
                show own_S p e below m T110 82 #[lvI p0_, lvI p1_, lvI p2_, lvI ((p0_ &&& (2147483647 : Int32)) % (5 : Int32)), lvR w_SET, lvI ((p2_ &&& (7 : Int32)) - (1 : Int32))] [(.int (1 : Int32)), (.int (1 : Int32))] _
                refine XS.icmpNo X110.here hx rfl (hb hby at_82) rfl (teq (by decide : (1 : Int32) = (1 : Int32))).2 ?_
                refine XS.aload X110.here hx rfl (hb hby at_85) rfl rfl ?_
                refine XS.iload X110.here hx rfl (hb hby at_87) rfl ?_
                show own_S p e below m T110 89 #[lvI p0_, lvI p1_, lvI p2_, lvI ((p0_ &&& (2147483647 : Int32)) % (5 : Int32)), lvR w_SET, lvI ((p2_ &&& (7 : Int32)) - (1 : Int32))] [(.int ((p2_ &&& (7 : Int32)) - (1 : Int32))), (.ref w_SET)] _
                refine st175.trans ?_
                refine XS.iloadN X175.here hx rfl (hb hby at_92) rfl ?_
                refine XS.iload X175.here hx rfl (hb hby at_93) rfl ?_
                show own_S p e below m T175 95 #[lvI p0_, lvI p1_, lvI p2_, lvI ((p0_ &&& (2147483647 : Int32)) % (5 : Int32)), lvR w_SET, lvI ((p2_ &&& (7 : Int32)) - (1 : Int32))] [(.int ((p2_ &&& (7 : Int32)) - (1 : Int32))), (.int ((p0_ &&& (2147483647 : Int32)) % (5 : Int32))), (.int (1 : Int32))] _
                refine st186 _ ?_
                show own_S p e below m T186 98 #[lvI p0_, lvI p1_, lvI p2_, lvI ((p0_ &&& (2147483647 : Int32)) % (5 : Int32)), lvR w_SET, lvI ((p2_ &&& (7 : Int32)) - (1 : Int32))] [(.int (1 : Int32)), (.int (1 : Int32))] _
                refine XS.icmpNo X186.here hx rfl (hb hby at_98) rfl (teq (by decide : (1 : Int32) = (1 : Int32))).2 ?_
                refine XS.iconst X186.here hx rfl (hb hby at_101) ?_
                refine XS.goto X186.here hx rfl (pc0 := 102) (pc' := 106) rfl (hb hby at_102) (by decide) (by decide) ?_
                exact kt
              obtain ⟨fs, hr, hrun, hended, hW, hsame⟩ := X186.leave (v := some (.int (1 : Int32))) (fun h => by rw [Bd.returns] at h; cases h)
              refine ⟨_, _, hG _ (pre194 _ (retN X186 hx (t := .boolean) Bd.returns (by simp) (hb hby at_106) hr)), hrun, hended, _, _, rfl, ?_, ⟨_, rfl⟩, hW, hsame.mono (by decide) (by decide)⟩
              show QLaw Z p0_ p1_ p2_ w_GET w_SET w_DEL w_VDEL w_KEYNOTIFY h0 n0 _ T186.heap _
              rw [e186']
              exact ⟨rfl, N187⟩
            · exact absurd (by apply Decidable.by_contra; intro hz; have := own_i1; have := own_i2; have := own_i3; have := own_i4; have := own_i5; have := own_i7; simp only [Int32.lt_iff_toInt_lt, ← Int32.toInt_inj] at hz hq175_2_0 hq175_2_1 hq186_8_3 hq186_8_4 hq186_8_5; omega) hq186_8_6
            · exact absurd hq186_9_3 (by intro hz; have := own_i0; have := own_i1; have := own_i2; have := own_j2147483647; have := own_i3; have := own_i5; simp only [Int32.lt_iff_toInt_lt, ← Int32.toInt_inj] at hz hq186_9_0 hq110_7_2 hq186_9_1 hq186_9_2; omega)
            · exact absurd hq186_10_3 (by intro hz; have := own_i0; have := own_i1; have := own_i2; have := own_j2147483647; have := own_i3; have := own_i5; simp only [Int32.lt_iff_toInt_lt, ← Int32.toInt_inj] at hz hq186_10_0 hq110_7_2 hq186_10_1 hq186_10_2; omega)
            · exact absurd (by apply Decidable.by_contra; intro hz; have := own_i0; have := own_i1; have := own_i2; have := own_j2147483647; have := own_i5; simp only [Int32.lt_iff_toInt_lt, ← Int32.toInt_inj] at hz hq186_11_0 hq110_7_2 hq186_11_1; omega) hq186_11_2
            · exact absurd (by apply Decidable.by_contra; intro hz; have := own_i0; have := own_i1; have := own_i2; have := own_j2147483647; have := own_i5; simp only [Int32.lt_iff_toInt_lt, ← Int32.toInt_inj] at hz hq186_12_0 hq110_7_2 hq186_12_1; omega) hq186_12_2
            · exact absurd (by apply Decidable.by_contra; intro hz; have := own_i0; have := own_i1; have := own_i2; have := own_j2147483647; have := own_i5; simp only [Int32.lt_iff_toInt_lt, ← Int32.toInt_inj] at hz hq186_13_0 hq110_7_2 hq186_13_1; omega) hq186_13_2
        · exact absurd (by apply Decidable.by_contra; intro hz; have := own_i2; have := own_i3; have := own_i4; have := own_i5; simp only [Int32.lt_iff_toInt_lt, ← Int32.toInt_inj] at hz hq61_2_0 hq61_2_1 hq110_8_3 hq110_8_4 hq110_8_5; omega) hq110_8_6
        · exact absurd hq110_9_3 (by intro hz; have := own_i0; have := own_i1; have := own_i2; have := own_j2147483647; have := own_i3; have := own_i5; simp only [Int32.lt_iff_toInt_lt, ← Int32.toInt_inj] at hz hq110_9_0 hc59 hq110_9_1 hq110_9_2; omega)
        · exact absurd hq110_10_3 (by intro hz; have := own_i0; have := own_i1; have := own_i2; have := own_j2147483647; have := own_i3; have := own_i5; simp only [Int32.lt_iff_toInt_lt, ← Int32.toInt_inj] at hz hq110_10_0 hc59 hq110_10_1 hq110_10_2; omega)
        · exact absurd (by apply Decidable.by_contra; intro hz; have := own_i0; have := own_i1; have := own_i2; have := own_j2147483647; have := own_i5; simp only [Int32.lt_iff_toInt_lt, ← Int32.toInt_inj] at hz hq110_11_0 hc59 hq110_11_1; omega) hq110_11_2
        · exact absurd (by apply Decidable.by_contra; intro hz; have := own_i0; have := own_i1; have := own_i2; have := own_j2147483647; have := own_i5; simp only [Int32.lt_iff_toInt_lt, ← Int32.toInt_inj] at hz hq110_12_0 hc59 hq110_12_1; omega) hq110_12_2
        · exact absurd (by apply Decidable.by_contra; intro hz; have := own_i0; have := own_i1; have := own_i2; have := own_j2147483647; have := own_i5; simp only [Int32.lt_iff_toInt_lt, ← Int32.toInt_inj] at hz hq110_13_0 hc59 hq110_13_1; omega) hq110_13_2
    · have pre196 : ∀ t, own_S p e below m s₁ 34 #[lvI p0_, lvI p1_, lvI p2_, lvI ((p0_ &&& (2147483647 : Int32)) % (5 : Int32)), .unset, .unset] [(.int (2 : Int32)), (.int ((p0_ &&& (2147483647 : Int32)) % (5 : Int32)))] t → G t := by
        intro t kt
        refine pre58 t ?_
        show own_S p e below m s₁ 21 #[lvI p0_, lvI p1_, lvI p2_, lvI ((p0_ &&& (2147483647 : Int32)) % (5 : Int32)), .unset, .unset] [(.int (1 : Int32)), (.int ((p0_ &&& (2147483647 : Int32)) % (5 : Int32)))] _
        refine XS.icmpYes X0.here hx rfl (pc0 := 21) (pc' := 32) rfl (hb hby at_21) rfl (feq hc59).2 (by decide) (by decide) ?_
        refine XS.iloadN X0.here hx rfl (hb hby at_32) rfl ?_
        refine XS.iconst X0.here hx rfl (hb hby at_33) ?_
        exact kt
      by_cases hc197 : ((p0_ &&& (2147483647 : Int32)) % (5 : Int32)) = (2 : Int32)
      · obtain ⟨T198, X198, e198, st198⟩ := getS2 X0 hx hZ hown (host := "") (Or.inl (own_w hw 23 rfl)) Via.refl e0 (P8.ext O0.2) (g := (mkF m 37 #[lvI p0_, lvI p1_, lvI p2_, lvI ((p0_ &&& (2147483647 : Int32)) % (5 : Int32)), .unset, .unset] [])) rfl (hb hby at_37)
        have f200 : Exa Z h0 w_DEL cn0 := P9.ext O0.2
        obtain ⟨cq199, kq199, q199a, q199b, q199c⟩ := isOf hZ e198 f200
        obtain ⟨_, _, ⟨T199, L199, k199, n199⟩, -, X199, ⟨Lc199, hQ199, l199, y199, z199⟩, st199⟩ := X198.virtualBack hx (y := (⟨"com/example/fawley/fawley/protocol/Command", "takes", "(I)Z"⟩ : MethodName)) (z := (⟨"com/example/fawley/fawley/protocol/Command", "takes", "(I)Z"⟩ : MethodName)) hown (mvT hZ (own_w hw 4 rfl)) (mvT hZ (own_w hw 5 rfl)) (notFace_of_selects (args := #[]) (mvT hZ (own_w hw 7 rfl))) (mvT hZ (own_w hw 7 rfl)) (mvT hZ (own_w hw 6 rfl)) (by decide) (backOf (W := 0) (rmTak l Z a0 hw [] w_DEL p1_ (1 : Int32) (1 : Int32) h0 n0 O0 P10 P11) hZ (own_w hw 8 rfl) (own_w hw 2 rfl) (by decide) (by decide)) q199a q199c (g := (mkF m 74 #[lvI p0_, lvI p1_, lvI p2_, lvI ((p0_ &&& (2147483647 : Int32)) % (5 : Int32)), lvR w_DEL, lvI ((p2_ &&& (7 : Int32)) - (1 : Int32))] [(.int p1_), (.ref w_DEL)])) rfl (by rw [hml]; rfl) (Steps.refl _) (argsL := [(.int p1_)]) (rest := []) (lenOf pd_0 rfl) rfl (by show 2 * 0 + _ ≤ _; exact Nat.le_of_eq rfl) (hb hby at_74) (fun _ _ => ⟨rfl, e198, (by decide : 0 + 0 ≤ _), (by decide : 0 + 0 ≤ _)⟩)
        dsimp only [Pt.U, Pt.locs, Pt.cells, Pt.slots] at X199 l199 y199 z199 st199 hQ199
        subst l199 y199 z199
        obtain ⟨h199, e199⟩ : ∃ z, T199.heap = z := ⟨_, rfl⟩
        rw [e199] at hQ199
        obtain ⟨rr199, rfl, hs199, N199q, hh199⟩ := hQ199
        have N201 := Fr.app N0 N199q
        have e199' : T199.heap = h0 := e199.trans hh199
        rcases hs199 with ⟨rfl, hq199_0_0⟩ | ⟨rfl, hq199_1_0, hq199_1_1⟩ | ⟨rfl, hq199_2_0, hq199_2_1⟩
        · obtain ⟨_, _, ⟨T202, L202, k202, n202⟩, -, X202, ⟨Lc202, hQ202, l202, y202, z202⟩, st202⟩ := Jvm.LawKit.callS X199 hx (y := (⟨"com/example/fawley/fawley/protocol/CommandTakesPinLaw", "expected", "(II)Z"⟩ : MethodName)) hown (mvT hZ (own_w hw 13 rfl)) (mvT hZ (own_w hw 14 rfl)) (mvT hZ (own_w hw 15 rfl)) (mvT hZ (own_w hw 16 rfl)) (by decide) (backOf (W := 1) (rmExp l Z a0 hw [] ((p0_ &&& (2147483647 : Int32)) % (5 : Int32)) p1_ h0 n0 O0 ) hZ (own_w hw 16 rfl) (own_w hw 15 rfl) (by decide) (by decide)) (g := (mkF m 79 #[lvI p0_, lvI p1_, lvI p2_, lvI ((p0_ &&& (2147483647 : Int32)) % (5 : Int32)), lvR w_DEL, lvI ((p2_ &&& (7 : Int32)) - (1 : Int32))] [(.int p1_), (.int ((p0_ &&& (2147483647 : Int32)) % (5 : Int32))), (.int (0 : Int32))])) rfl (by rw [hml]; rfl) (argsL := [(.int ((p0_ &&& (2147483647 : Int32)) % (5 : Int32))), (.int p1_)]) (rest := [(.int (0 : Int32))]) (lenOf pd_1 rfl) rfl (by show 2 * 0 + _ ≤ _; exact Nat.le_of_eq rfl) (hb hby at_79) (fun _ _ => ⟨rfl, e199', (by decide : 0 + 0 ≤ _), (by decide : 0 + 0 ≤ _)⟩)
          dsimp only [Pt.U, Pt.locs, Pt.cells, Pt.slots] at X202 l202 y202 z202 st202 hQ202
          subst l202 y202 z202
          obtain ⟨h202, e202⟩ : ∃ z, T202.heap = z := ⟨_, rfl⟩
          rw [e202] at hQ202
          obtain ⟨rr202, rfl, hs202, N202q, hh202⟩ := hQ202
          have N203 := Fr.app N201 N202q
          have e202' : T202.heap = h0 := e202.trans hh202
          rcases hs202 with ⟨rfl, hq202_0_0, hq202_0_1⟩ | ⟨rfl, hq202_1_0, hq202_1_1⟩ | ⟨rfl, hq202_2_0, hq202_2_1, hq202_2_2⟩ | ⟨rfl, hq202_3_0, hq202_3_1, hq202_3_2⟩ | ⟨rfl, hq202_4_0, hq202_4_1, hq202_4_2, hq202_4_3⟩ | ⟨rfl, hq202_5_0, hq202_5_1, hq202_5_2, hq202_5_3, hq202_5_4⟩ | ⟨rfl, hq202_6_0, hq202_6_1, hq202_6_2, hq202_6_3, hq202_6_4, hq202_6_5⟩ | ⟨rfl, hq202_7_0, hq202_7_1, hq202_7_2, hq202_7_3, hq202_7_4, hq202_7_5, hq202_7_6⟩ | ⟨rfl, hq202_8_0, hq202_8_1, hq202_8_2, hq202_8_3, hq202_8_4, hq202_8_5, hq202_8_6⟩ | ⟨rfl, hq202_9_0, hq202_9_1, hq202_9_2, hq202_9_3, hq202_9_4⟩ | ⟨rfl, hq202_10_0, hq202_10_1, hq202_10_2, hq202_10_3, hq202_10_4⟩ | ⟨rfl, hq202_11_0, hq202_11_1, hq202_11_2, hq202_11_3, hq202_11_4⟩ | ⟨rfl, hq202_12_0, hq202_12_1, hq202_12_2, hq202_12_3, hq202_12_4, hq202_12_5⟩ | ⟨rfl, hq202_13_0, hq202_13_1, hq202_13_2, hq202_13_3, hq202_13_4, hq202_13_5⟩
          · exact absurd hq202_0_0 (by intro hz; have := own_i0; have := own_i1; have := own_i2; have := own_j2147483647; have := own_i5; simp only [Int32.lt_iff_toInt_lt, ← Int32.toInt_inj] at hz hc2 hc59 hc197; omega)
          · exact absurd hq202_1_0 (by intro hz; have := own_i0; have := own_i1; have := own_i2; have := own_j2147483647; have := own_i5; simp only [Int32.lt_iff_toInt_lt, ← Int32.toInt_inj] at hz hc2 hc59 hc197; omega)
          · exact absurd hq202_2_2 (by intro hz; have := own_i1; simp only [Int32.lt_iff_toInt_lt, ← Int32.toInt_inj] at hz hq199_0_0; omega)
          · have f205 : Exa Z h0 w_DEL cn0 := P9.ext O0.2
            obtain ⟨cq204, kq204, q204a, q204b, q204c⟩ := isOf hZ e202' f205
            obtain ⟨_, _, ⟨T204, L204, k204, n204⟩, -, X204, ⟨Lc204, hQ204, l204, y204, z204⟩, st204⟩ := X202.virtualBack hx (y := (⟨"com/example/fawley/fawley/protocol/Command", "takes", "(I)Z"⟩ : MethodName)) (z := (⟨"com/example/fawley/fawley/protocol/Command", "takes", "(I)Z"⟩ : MethodName)) hown (mvT hZ (own_w hw 4 rfl)) (mvT hZ (own_w hw 5 rfl)) (notFace_of_selects (args := #[]) (mvT hZ (own_w hw 7 rfl))) (mvT hZ (own_w hw 7 rfl)) (mvT hZ (own_w hw 6 rfl)) (by decide) (backOf (W := 0) (rmTak l Z a0 hw [] w_DEL ((p2_ &&& (7 : Int32)) - (1 : Int32)) (1 : Int32) (1 : Int32) h0 n0 O0 P10 P11) hZ (own_w hw 8 rfl) (own_w hw 2 rfl) (by decide) (by decide)) q204a q204c (g := (mkF m 89 #[lvI p0_, lvI p1_, lvI p2_, lvI ((p0_ &&& (2147483647 : Int32)) % (5 : Int32)), lvR w_DEL, lvI ((p2_ &&& (7 : Int32)) - (1 : Int32))] [(.int ((p2_ &&& (7 : Int32)) - (1 : Int32))), (.ref w_DEL)])) rfl (by rw [hml]; rfl) (Steps.refl _) (argsL := [(.int ((p2_ &&& (7 : Int32)) - (1 : Int32)))]) (rest := []) (lenOf pd_0 rfl) rfl (by show 2 * 0 + _ ≤ _; exact Nat.le_of_eq rfl) (hb hby at_89) (fun _ _ => ⟨rfl, e202', (by decide : 0 + 0 ≤ _), (by decide : 0 + 0 ≤ _)⟩)
            dsimp only [Pt.U, Pt.locs, Pt.cells, Pt.slots] at X204 l204 y204 z204 st204 hQ204
            subst l204 y204 z204
            obtain ⟨h204, e204⟩ : ∃ z, T204.heap = z := ⟨_, rfl⟩
            rw [e204] at hQ204
            obtain ⟨rr204, rfl, hs204, N204q, hh204⟩ := hQ204
            have N206 := Fr.app N203 N204q
            have e204' : T204.heap = h0 := e204.trans hh204
            rcases hs204 with ⟨rfl, hq204_0_0⟩ | ⟨rfl, hq204_1_0, hq204_1_1⟩ | ⟨rfl, hq204_2_0, hq204_2_1⟩
            · obtain ⟨_, _, ⟨T207, L207, k207, n207⟩, -, X207, ⟨Lc207, hQ207, l207, y207, z207⟩, st207⟩ := Jvm.LawKit.callS X204 hx (y := (⟨"com/example/fawley/fawley/protocol/CommandTakesPinLaw", "expected", "(II)Z"⟩ : MethodName)) hown (mvT hZ (own_w hw 13 rfl)) (mvT hZ (own_w hw 14 rfl)) (mvT hZ (own_w hw 15 rfl)) (mvT hZ (own_w hw 16 rfl)) (by decide) (backOf (W := 1) (rmExp l Z a0 hw [] ((p0_ &&& (2147483647 : Int32)) % (5 : Int32)) ((p2_ &&& (7 : Int32)) - (1 : Int32)) h0 n0 O0 ) hZ (own_w hw 16 rfl) (own_w hw 15 rfl) (by decide) (by decide)) (g := (mkF m 95 #[lvI p0_, lvI p1_, lvI p2_, lvI ((p0_ &&& (2147483647 : Int32)) % (5 : Int32)), lvR w_DEL, lvI ((p2_ &&& (7 : Int32)) - (1 : Int32))] [(.int ((p2_ &&& (7 : Int32)) - (1 : Int32))), (.int ((p0_ &&& (2147483647 : Int32)) % (5 : Int32))), (.int (0 : Int32))])) rfl (by rw [hml]; rfl) (argsL := [(.int ((p0_ &&& (2147483647 : Int32)) % (5 : Int32))), (.int ((p2_ &&& (7 : Int32)) - (1 : Int32)))]) (rest := [(.int (0 : Int32))]) (lenOf pd_1 rfl) rfl (by show 2 * 0 + _ ≤ _; exact Nat.le_of_eq rfl) (hb hby at_95) (fun _ _ => ⟨rfl, e204', (by decide : 0 + 0 ≤ _), (by decide : 0 + 0 ≤ _)⟩)
              dsimp only [Pt.U, Pt.locs, Pt.cells, Pt.slots] at X207 l207 y207 z207 st207 hQ207
              subst l207 y207 z207
              obtain ⟨h207, e207⟩ : ∃ z, T207.heap = z := ⟨_, rfl⟩
              rw [e207] at hQ207
              obtain ⟨rr207, rfl, hs207, N207q, hh207⟩ := hQ207
              have N208 := Fr.app N206 N207q
              have e207' : T207.heap = h0 := e207.trans hh207
              rcases hs207 with ⟨rfl, hq207_0_0, hq207_0_1⟩ | ⟨rfl, hq207_1_0, hq207_1_1⟩ | ⟨rfl, hq207_2_0, hq207_2_1, hq207_2_2⟩ | ⟨rfl, hq207_3_0, hq207_3_1, hq207_3_2⟩ | ⟨rfl, hq207_4_0, hq207_4_1, hq207_4_2, hq207_4_3⟩ | ⟨rfl, hq207_5_0, hq207_5_1, hq207_5_2, hq207_5_3, hq207_5_4⟩ | ⟨rfl, hq207_6_0, hq207_6_1, hq207_6_2, hq207_6_3, hq207_6_4, hq207_6_5⟩ | ⟨rfl, hq207_7_0, hq207_7_1, hq207_7_2, hq207_7_3, hq207_7_4, hq207_7_5, hq207_7_6⟩ | ⟨rfl, hq207_8_0, hq207_8_1, hq207_8_2, hq207_8_3, hq207_8_4, hq207_8_5, hq207_8_6⟩ | ⟨rfl, hq207_9_0, hq207_9_1, hq207_9_2, hq207_9_3, hq207_9_4⟩ | ⟨rfl, hq207_10_0, hq207_10_1, hq207_10_2, hq207_10_3, hq207_10_4⟩ | ⟨rfl, hq207_11_0, hq207_11_1, hq207_11_2, hq207_11_3, hq207_11_4⟩ | ⟨rfl, hq207_12_0, hq207_12_1, hq207_12_2, hq207_12_3, hq207_12_4, hq207_12_5⟩ | ⟨rfl, hq207_13_0, hq207_13_1, hq207_13_2, hq207_13_3, hq207_13_4, hq207_13_5⟩
              · exact absurd hq207_0_0 (by intro hz; have := own_i0; have := own_i1; have := own_i2; have := own_j2147483647; have := own_i5; simp only [Int32.lt_iff_toInt_lt, ← Int32.toInt_inj] at hz hq202_3_0 hc59 hq202_3_1; omega)
              · exact absurd hq207_1_0 (by intro hz; have := own_i0; have := own_i1; have := own_i2; have := own_j2147483647; have := own_i5; simp only [Int32.lt_iff_toInt_lt, ← Int32.toInt_inj] at hz hq202_3_0 hc59 hq202_3_1; omega)
              · exact absurd hq207_2_2 (by intro hz; have := own_i1; have := own_i7; simp only [Int32.lt_iff_toInt_lt, ← Int32.toInt_inj] at hz hq204_0_0; omega)
              · have pre209 : ∀ t, own_S p e below m T207 106 #[lvI p0_, lvI p1_, lvI p2_, lvI ((p0_ &&& (2147483647 : Int32)) % (5 : Int32)), lvR w_DEL, lvI ((p2_ &&& (7 : Int32)) - (1 : Int32))] [(.int (1 : Int32))] t → G t := by
                  intro t kt
                  refine pre196 t ?_
                  show own_S p e below m s₁ 34 #[lvI p0_, lvI p1_, lvI p2_, lvI ((p0_ &&& (2147483647 : Int32)) % (5 : Int32)), .unset, .unset] [(.int (2 : Int32)), (.int ((p0_ &&& (2147483647 : Int32)) % (5 : Int32)))] _
                  refine XS.icmpNo X0.here hx rfl (hb hby at_34) rfl (teq hc197).2 ?_
                  show own_S p e below m s₁ 37 #[lvI p0_, lvI p1_, lvI p2_, lvI ((p0_ &&& (2147483647 : Int32)) % (5 : Int32)), .unset, .unset] [] _
                  refine st198 _ ?_
                  refine XS.astore X198.here hx rfl (hb hby at_40) rfl rfl (l' := #[lvI p0_, lvI p1_, lvI p2_, lvI ((p0_ &&& (2147483647 : Int32)) % (5 : Int32)), lvR w_DEL, .unset]) rfl ?_
                  refine XS.goto X198.here hx rfl (pc0 := 42) (pc' := 63) rfl (hb hby at_42) (by decide) (by decide) ?_
                  refine XS.iloadN X198.here hx rfl (hb hby at_63) rfl ?_
                  refine XS.bipush X198.here hx rfl (hb hby at_64) ?_
                  refine XS.iand X198.here hx rfl (hb hby at_66) rfl ?_
                  show own_S p e below m T198 67 #[lvI p0_, lvI p1_, lvI p2_, lvI ((p0_ &&& (2147483647 : Int32)) % (5 : Int32)), lvR w_DEL, .unset] [(.int (p2_ &&& (7 : Int32)))] _
                  refine XS.iconst X198.here hx rfl (hb hby at_67) ?_
                  refine XS.isub X198.here hx rfl (hb hby at_68) rfl ?_
                  refine XS.istore X198.here hx rfl (hb hby at_69) rfl (l' := #[lvI p0_, lvI p1_, lvI p2_, lvI ((p0_ &&& (2147483647 : Int32)) % (5 : Int32)), lvR w_DEL, lvI ((p2_ &&& (7 : Int32)) - (1 : Int32))]) rfl ?_
                  refine XS.aload X198.here hx rfl (hb hby at_71) rfl rfl ?_
                  refine XS.iloadN X198.here hx rfl (hb hby at_73) rfl ?_
                  show own_S p e below m T198 74 #[lvI p0_, lvI p1_, lvI p2_, lvI ((p0_ &&& (2147483647 : Int32)) % (5 : Int32)), lvR w_DEL, lvI ((p2_ &&& (7 : Int32)) - (1 : Int32))] [(.int p1_), (.ref w_DEL)] _
                  refine st199.trans ?_
                  refine XS.iloadN X199.here hx rfl (hb hby at_77) rfl ?_
                  refine XS.iloadN X199.here hx rfl (hb hby at_78) rfl ?_
                  show own_S p e below m T199 79 #[lvI p0_, lvI p1_, lvI p2_, lvI ((p0_ &&& (2147483647 : Int32)) % (5 : Int32)), lvR w_DEL, lvI ((p2_ &&& (7 : Int32)) - (1 : Int32))] [(.int p1_), (.int ((p0_ &&& (2147483647 : Int32)) % (5 : Int32))), (.int (0 : Int32))] _
                  refine st202 _ ?_
                  show own_S p e below m T202 82 #[lvI p0_, lvI p1_, lvI p2_, lvI ((p0_ &&& (2147483647 : Int32)) % (5 : Int32)), lvR w_DEL, lvI ((p2_ &&& (7 : Int32)) - (1 : Int32))] [(.int (0 : Int32)), (.int (0 : Int32))] _
                  refine XS.icmpNo X202.here hx rfl (hb hby at_82) rfl (teq (by decide : (0 : Int32) = (0 : Int32))).2 ?_
                  refine XS.aload X202.here hx rfl (hb hby at_85) rfl rfl ?_
                  refine XS.iload X202.here hx rfl (hb hby at_87) rfl ?_
                  show own_S p e below m T202 89 #[lvI p0_, lvI p1_, lvI p2_, lvI ((p0_ &&& (2147483647 : Int32)) % (5 : Int32)), lvR w_DEL, lvI ((p2_ &&& (7 : Int32)) - (1 : Int32))] [(.int ((p2_ &&& (7 : Int32)) - (1 : Int32))), (.ref w_DEL)] _
                  refine st204.trans ?_
                  refine XS.iloadN X204.here hx rfl (hb hby at_92) rfl ?_
                  refine XS.iload X204.here hx rfl (hb hby at_93) rfl ?_
                  show own_S p e below m T204 95 #[lvI p0_, lvI p1_, lvI p2_, lvI ((p0_ &&& (2147483647 : Int32)) % (5 : Int32)), lvR w_DEL, lvI ((p2_ &&& (7 : Int32)) - (1 : Int32))] [(.int ((p2_ &&& (7 : Int32)) - (1 : Int32))), (.int ((p0_ &&& (2147483647 : Int32)) % (5 : Int32))), (.int (0 : Int32))] _
                  refine st207 _ ?_
                  show own_S p e below m T207 98 #[lvI p0_, lvI p1_, lvI p2_, lvI ((p0_ &&& (2147483647 : Int32)) % (5 : Int32)), lvR w_DEL, lvI ((p2_ &&& (7 : Int32)) - (1 : Int32))] [(.int (0 : Int32)), (.int (0 : Int32))] _
                  refine XS.icmpNo X207.here hx rfl (hb hby at_98) rfl (teq (by decide : (0 : Int32) = (0 : Int32))).2 ?_
                  refine XS.iconst X207.here hx rfl (hb hby at_101) ?_
                  refine XS.goto X207.here hx rfl (pc0 := 102) (pc' := 106) rfl (hb hby at_102) (by decide) (by decide) ?_
                  exact kt
                obtain ⟨fs, hr, hrun, hended, hW, hsame⟩ := X207.leave (v := some (.int (1 : Int32))) (fun h => by rw [Bd.returns] at h; cases h)
                refine ⟨_, _, hG _ (pre209 _ (retN X207 hx (t := .boolean) Bd.returns (by simp) (hb hby at_106) hr)), hrun, hended, _, _, rfl, ?_, ⟨_, rfl⟩, hW, hsame.mono (by decide) (by decide)⟩
                show QLaw Z p0_ p1_ p2_ w_GET w_SET w_DEL w_VDEL w_KEYNOTIFY h0 n0 _ T207.heap _
                rw [e207']
                exact ⟨rfl, N208⟩
              · exact absurd hq207_4_2 (by intro hz; have := own_i0; have := own_i1; have := own_i2; have := own_j2147483647; have := own_i5; simp only [Int32.lt_iff_toInt_lt, ← Int32.toInt_inj] at hz hq207_4_0 hc59 hq202_3_1 hq207_4_1; omega)
              · exact absurd hq207_5_2 (by intro hz; have := own_i0; have := own_i1; have := own_i2; have := own_j2147483647; have := own_i5; simp only [Int32.lt_iff_toInt_lt, ← Int32.toInt_inj] at hz hq207_5_0 hc59 hq202_3_1 hq207_5_1; omega)
              · exact absurd hq207_6_2 (by intro hz; have := own_i0; have := own_i1; have := own_i2; have := own_j2147483647; have := own_i5; simp only [Int32.lt_iff_toInt_lt, ← Int32.toInt_inj] at hz hq207_6_0 hc59 hq202_3_1 hq207_6_1; omega)
              · exact absurd hq207_7_2 (by intro hz; have := own_i0; have := own_i1; have := own_i2; have := own_j2147483647; have := own_i5; simp only [Int32.lt_iff_toInt_lt, ← Int32.toInt_inj] at hz hq207_7_0 hc59 hq202_3_1 hq207_7_1; omega)
              · exact absurd hq207_8_2 (by intro hz; have := own_i0; have := own_i1; have := own_i2; have := own_j2147483647; have := own_i5; simp only [Int32.lt_iff_toInt_lt, ← Int32.toInt_inj] at hz hq207_8_0 hc59 hq202_3_1 hq207_8_1; omega)
              · exact absurd hq207_9_3 (by intro hz; have := own_i0; have := own_i1; have := own_i2; have := own_j2147483647; have := own_i3; have := own_i5; simp only [Int32.lt_iff_toInt_lt, ← Int32.toInt_inj] at hz hq207_9_0 hq207_9_2 hq202_3_1 hq207_9_1; omega)
              · exact absurd hq207_10_3 (by intro hz; have := own_i0; have := own_i1; have := own_i2; have := own_j2147483647; have := own_i3; have := own_i5; simp only [Int32.lt_iff_toInt_lt, ← Int32.toInt_inj] at hz hq207_10_0 hq207_10_2 hq202_3_1 hq207_10_1; omega)
              · exact absurd (by apply Decidable.by_contra; intro hz; have := own_i0; have := own_i1; have := own_i2; have := own_j2147483647; have := own_i5; simp only [Int32.lt_iff_toInt_lt, ← Int32.toInt_inj] at hz hq207_11_0 hc59 hq202_3_1; omega) hq207_11_1
              · exact absurd (by apply Decidable.by_contra; intro hz; have := own_i0; have := own_i1; have := own_i2; have := own_j2147483647; have := own_i5; simp only [Int32.lt_iff_toInt_lt, ← Int32.toInt_inj] at hz hq207_12_0 hc59 hq202_3_1; omega) hq207_12_1
              · exact absurd (by apply Decidable.by_contra; intro hz; have := own_i0; have := own_i1; have := own_i2; have := own_j2147483647; have := own_i5; simp only [Int32.lt_iff_toInt_lt, ← Int32.toInt_inj] at hz hq207_13_0 hc59 hq202_3_1; omega) hq207_13_1
            · obtain ⟨_, _, ⟨T211, L211, k211, n211⟩, -, X211, ⟨Lc211, hQ211, l211, y211, z211⟩, st211⟩ := Jvm.LawKit.callS X204 hx (y := (⟨"com/example/fawley/fawley/protocol/CommandTakesPinLaw", "expected", "(II)Z"⟩ : MethodName)) hown (mvT hZ (own_w hw 13 rfl)) (mvT hZ (own_w hw 14 rfl)) (mvT hZ (own_w hw 15 rfl)) (mvT hZ (own_w hw 16 rfl)) (by decide) (backOf (W := 1) (rmExp l Z a0 hw [] ((p0_ &&& (2147483647 : Int32)) % (5 : Int32)) ((p2_ &&& (7 : Int32)) - (1 : Int32)) h0 n0 O0 ) hZ (own_w hw 16 rfl) (own_w hw 15 rfl) (by decide) (by decide)) (g := (mkF m 95 #[lvI p0_, lvI p1_, lvI p2_, lvI ((p0_ &&& (2147483647 : Int32)) % (5 : Int32)), lvR w_DEL, lvI ((p2_ &&& (7 : Int32)) - (1 : Int32))] [(.int ((p2_ &&& (7 : Int32)) - (1 : Int32))), (.int ((p0_ &&& (2147483647 : Int32)) % (5 : Int32))), (.int (0 : Int32))])) rfl (by rw [hml]; rfl) (argsL := [(.int ((p0_ &&& (2147483647 : Int32)) % (5 : Int32))), (.int ((p2_ &&& (7 : Int32)) - (1 : Int32)))]) (rest := [(.int (0 : Int32))]) (lenOf pd_1 rfl) rfl (by show 2 * 0 + _ ≤ _; exact Nat.le_of_eq rfl) (hb hby at_95) (fun _ _ => ⟨rfl, e204', (by decide : 0 + 0 ≤ _), (by decide : 0 + 0 ≤ _)⟩)
              dsimp only [Pt.U, Pt.locs, Pt.cells, Pt.slots] at X211 l211 y211 z211 st211 hQ211
              subst l211 y211 z211
              obtain ⟨h211, e211⟩ : ∃ z, T211.heap = z := ⟨_, rfl⟩
              rw [e211] at hQ211
              obtain ⟨rr211, rfl, hs211, N211q, hh211⟩ := hQ211
              have N212 := Fr.app N206 N211q
              have e211' : T211.heap = h0 := e211.trans hh211
              rcases hs211 with ⟨rfl, hq211_0_0, hq211_0_1⟩ | ⟨rfl, hq211_1_0, hq211_1_1⟩ | ⟨rfl, hq211_2_0, hq211_2_1, hq211_2_2⟩ | ⟨rfl, hq211_3_0, hq211_3_1, hq211_3_2⟩ | ⟨rfl, hq211_4_0, hq211_4_1, hq211_4_2, hq211_4_3⟩ | ⟨rfl, hq211_5_0, hq211_5_1, hq211_5_2, hq211_5_3, hq211_5_4⟩ | ⟨rfl, hq211_6_0, hq211_6_1, hq211_6_2, hq211_6_3, hq211_6_4, hq211_6_5⟩ | ⟨rfl, hq211_7_0, hq211_7_1, hq211_7_2, hq211_7_3, hq211_7_4, hq211_7_5, hq211_7_6⟩ | ⟨rfl, hq211_8_0, hq211_8_1, hq211_8_2, hq211_8_3, hq211_8_4, hq211_8_5, hq211_8_6⟩ | ⟨rfl, hq211_9_0, hq211_9_1, hq211_9_2, hq211_9_3, hq211_9_4⟩ | ⟨rfl, hq211_10_0, hq211_10_1, hq211_10_2, hq211_10_3, hq211_10_4⟩ | ⟨rfl, hq211_11_0, hq211_11_1, hq211_11_2, hq211_11_3, hq211_11_4⟩ | ⟨rfl, hq211_12_0, hq211_12_1, hq211_12_2, hq211_12_3, hq211_12_4, hq211_12_5⟩ | ⟨rfl, hq211_13_0, hq211_13_1, hq211_13_2, hq211_13_3, hq211_13_4, hq211_13_5⟩
              · exact absurd hq211_0_0 (by intro hz; have := own_i0; have := own_i1; have := own_i2; have := own_j2147483647; have := own_i5; simp only [Int32.lt_iff_toInt_lt, ← Int32.toInt_inj] at hz hq202_3_0 hc59 hq202_3_1; omega)
              · exact absurd hq211_1_0 (by intro hz; have := own_i0; have := own_i1; have := own_i2; have := own_j2147483647; have := own_i5; simp only [Int32.lt_iff_toInt_lt, ← Int32.toInt_inj] at hz hq202_3_0 hc59 hq202_3_1; omega)
              · exact absurd hq211_2_2 (by intro hz; have := own_i1; have := own_i7; simp only [Int32.lt_iff_toInt_lt, ← Int32.toInt_inj] at hz hq204_1_0 hq204_1_1; omega)
              · have pre213 : ∀ t, own_S p e below m T211 106 #[lvI p0_, lvI p1_, lvI p2_, lvI ((p0_ &&& (2147483647 : Int32)) % (5 : Int32)), lvR w_DEL, lvI ((p2_ &&& (7 : Int32)) - (1 : Int32))] [(.int (1 : Int32))] t → G t := by
                  intro t kt
                  refine pre196 t ?_
                  show own_S p e below m s₁ 34 #[lvI p0_, lvI p1_, lvI p2_, lvI ((p0_ &&& (2147483647 : Int32)) % (5 : Int32)), .unset, .unset] [(.int (2 : Int32)), (.int ((p0_ &&& (2147483647 : Int32)) % (5 : Int32)))] _
                  refine XS.icmpNo X0.here hx rfl (hb hby at_34) rfl (teq hc197).2 ?_
                  show own_S p e below m s₁ 37 #[lvI p0_, lvI p1_, lvI p2_, lvI ((p0_ &&& (2147483647 : Int32)) % (5 : Int32)), .unset, .unset] [] _
                  refine st198 _ ?_
                  refine XS.astore X198.here hx rfl (hb hby at_40) rfl rfl (l' := #[lvI p0_, lvI p1_, lvI p2_, lvI ((p0_ &&& (2147483647 : Int32)) % (5 : Int32)), lvR w_DEL, .unset]) rfl ?_
                  refine XS.goto X198.here hx rfl (pc0 := 42) (pc' := 63) rfl (hb hby at_42) (by decide) (by decide) ?_
                  refine XS.iloadN X198.here hx rfl (hb hby at_63) rfl ?_
                  refine XS.bipush X198.here hx rfl (hb hby at_64) ?_
                  refine XS.iand X198.here hx rfl (hb hby at_66) rfl ?_
                  show own_S p e below m T198 67 #[lvI p0_, lvI p1_, lvI p2_, lvI ((p0_ &&& (2147483647 : Int32)) % (5 : Int32)), lvR w_DEL, .unset] [(.int (p2_ &&& (7 : Int32)))] _
                  refine XS.iconst X198.here hx rfl (hb hby at_67) ?_
                  refine XS.isub X198.here hx rfl (hb hby at_68) rfl ?_
                  refine XS.istore X198.here hx rfl (hb hby at_69) rfl (l' := #[lvI p0_, lvI p1_, lvI p2_, lvI ((p0_ &&& (2147483647 : Int32)) % (5 : Int32)), lvR w_DEL, lvI ((p2_ &&& (7 : Int32)) - (1 : Int32))]) rfl ?_
                  refine XS.aload X198.here hx rfl (hb hby at_71) rfl rfl ?_
                  refine XS.iloadN X198.here hx rfl (hb hby at_73) rfl ?_
                  show own_S p e below m T198 74 #[lvI p0_, lvI p1_, lvI p2_, lvI ((p0_ &&& (2147483647 : Int32)) % (5 : Int32)), lvR w_DEL, lvI ((p2_ &&& (7 : Int32)) - (1 : Int32))] [(.int p1_), (.ref w_DEL)] _
                  refine st199.trans ?_
                  refine XS.iloadN X199.here hx rfl (hb hby at_77) rfl ?_
                  refine XS.iloadN X199.here hx rfl (hb hby at_78) rfl ?_
                  show own_S p e below m T199 79 #[lvI p0_, lvI p1_, lvI p2_, lvI ((p0_ &&& (2147483647 : Int32)) % (5 : Int32)), lvR w_DEL, lvI ((p2_ &&& (7 : Int32)) - (1 : Int32))] [(.int p1_), (.int ((p0_ &&& (2147483647 : Int32)) % (5 : Int32))), (.int (0 : Int32))] _
                  refine st202 _ ?_
                  show own_S p e below m T202 82 #[lvI p0_, lvI p1_, lvI p2_, lvI ((p0_ &&& (2147483647 : Int32)) % (5 : Int32)), lvR w_DEL, lvI ((p2_ &&& (7 : Int32)) - (1 : Int32))] [(.int (0 : Int32)), (.int (0 : Int32))] _
                  refine XS.icmpNo X202.here hx rfl (hb hby at_82) rfl (teq (by decide : (0 : Int32) = (0 : Int32))).2 ?_
                  refine XS.aload X202.here hx rfl (hb hby at_85) rfl rfl ?_
                  refine XS.iload X202.here hx rfl (hb hby at_87) rfl ?_
                  show own_S p e below m T202 89 #[lvI p0_, lvI p1_, lvI p2_, lvI ((p0_ &&& (2147483647 : Int32)) % (5 : Int32)), lvR w_DEL, lvI ((p2_ &&& (7 : Int32)) - (1 : Int32))] [(.int ((p2_ &&& (7 : Int32)) - (1 : Int32))), (.ref w_DEL)] _
                  refine st204.trans ?_
                  refine XS.iloadN X204.here hx rfl (hb hby at_92) rfl ?_
                  refine XS.iload X204.here hx rfl (hb hby at_93) rfl ?_
                  show own_S p e below m T204 95 #[lvI p0_, lvI p1_, lvI p2_, lvI ((p0_ &&& (2147483647 : Int32)) % (5 : Int32)), lvR w_DEL, lvI ((p2_ &&& (7 : Int32)) - (1 : Int32))] [(.int ((p2_ &&& (7 : Int32)) - (1 : Int32))), (.int ((p0_ &&& (2147483647 : Int32)) % (5 : Int32))), (.int (0 : Int32))] _
                  refine st211 _ ?_
                  show own_S p e below m T211 98 #[lvI p0_, lvI p1_, lvI p2_, lvI ((p0_ &&& (2147483647 : Int32)) % (5 : Int32)), lvR w_DEL, lvI ((p2_ &&& (7 : Int32)) - (1 : Int32))] [(.int (0 : Int32)), (.int (0 : Int32))] _
                  refine XS.icmpNo X211.here hx rfl (hb hby at_98) rfl (teq (by decide : (0 : Int32) = (0 : Int32))).2 ?_
                  refine XS.iconst X211.here hx rfl (hb hby at_101) ?_
                  refine XS.goto X211.here hx rfl (pc0 := 102) (pc' := 106) rfl (hb hby at_102) (by decide) (by decide) ?_
                  exact kt
                obtain ⟨fs, hr, hrun, hended, hW, hsame⟩ := X211.leave (v := some (.int (1 : Int32))) (fun h => by rw [Bd.returns] at h; cases h)
                refine ⟨_, _, hG _ (pre213 _ (retN X211 hx (t := .boolean) Bd.returns (by simp) (hb hby at_106) hr)), hrun, hended, _, _, rfl, ?_, ⟨_, rfl⟩, hW, hsame.mono (by decide) (by decide)⟩
                show QLaw Z p0_ p1_ p2_ w_GET w_SET w_DEL w_VDEL w_KEYNOTIFY h0 n0 _ T211.heap _
                rw [e211']
                exact ⟨rfl, N212⟩
              · exact absurd hq211_4_2 (by intro hz; have := own_i0; have := own_i1; have := own_i2; have := own_j2147483647; have := own_i5; simp only [Int32.lt_iff_toInt_lt, ← Int32.toInt_inj] at hz hq211_4_0 hc59 hq202_3_1 hq211_4_1; omega)
              · exact absurd hq211_5_2 (by intro hz; have := own_i0; have := own_i1; have := own_i2; have := own_j2147483647; have := own_i5; simp only [Int32.lt_iff_toInt_lt, ← Int32.toInt_inj] at hz hq211_5_0 hc59 hq202_3_1 hq211_5_1; omega)
              · exact absurd hq211_6_2 (by intro hz; have := own_i0; have := own_i1; have := own_i2; have := own_j2147483647; have := own_i5; simp only [Int32.lt_iff_toInt_lt, ← Int32.toInt_inj] at hz hq211_6_0 hc59 hq202_3_1 hq211_6_1; omega)
              · exact absurd hq211_7_2 (by intro hz; have := own_i0; have := own_i1; have := own_i2; have := own_j2147483647; have := own_i5; simp only [Int32.lt_iff_toInt_lt, ← Int32.toInt_inj] at hz hq211_7_0 hc59 hq202_3_1 hq211_7_1; omega)
              · exact absurd hq211_8_2 (by intro hz; have := own_i0; have := own_i1; have := own_i2; have := own_j2147483647; have := own_i5; simp only [Int32.lt_iff_toInt_lt, ← Int32.toInt_inj] at hz hq211_8_0 hc59 hq202_3_1 hq211_8_1; omega)
              · exact absurd hq211_9_3 (by intro hz; have := own_i0; have := own_i1; have := own_i2; have := own_j2147483647; have := own_i3; have := own_i5; simp only [Int32.lt_iff_toInt_lt, ← Int32.toInt_inj] at hz hq211_9_0 hq211_9_2 hq202_3_1 hq211_9_1; omega)
              · exact absurd hq211_10_3 (by intro hz; have := own_i0; have := own_i1; have := own_i2; have := own_j2147483647; have := own_i3; have := own_i5; simp only [Int32.lt_iff_toInt_lt, ← Int32.toInt_inj] at hz hq211_10_0 hq211_10_2 hq202_3_1 hq211_10_1; omega)
              · exact absurd (by apply Decidable.by_contra; intro hz; have := own_i0; have := own_i1; have := own_i2; have := own_j2147483647; have := own_i5; simp only [Int32.lt_iff_toInt_lt, ← Int32.toInt_inj] at hz hq211_11_0 hc59 hq202_3_1; omega) hq211_11_1
              · exact absurd (by apply Decidable.by_contra; intro hz; have := own_i0; have := own_i1; have := own_i2; have := own_j2147483647; have := own_i5; simp only [Int32.lt_iff_toInt_lt, ← Int32.toInt_inj] at hz hq211_12_0 hc59 hq202_3_1; omega) hq211_12_1
              · exact absurd (by apply Decidable.by_contra; intro hz; have := own_i0; have := own_i1; have := own_i2; have := own_j2147483647; have := own_i5; simp only [Int32.lt_iff_toInt_lt, ← Int32.toInt_inj] at hz hq211_13_0 hc59 hq202_3_1; omega) hq211_13_1
            · obtain ⟨_, _, ⟨T215, L215, k215, n215⟩, -, X215, ⟨Lc215, hQ215, l215, y215, z215⟩, st215⟩ := Jvm.LawKit.callS X204 hx (y := (⟨"com/example/fawley/fawley/protocol/CommandTakesPinLaw", "expected", "(II)Z"⟩ : MethodName)) hown (mvT hZ (own_w hw 13 rfl)) (mvT hZ (own_w hw 14 rfl)) (mvT hZ (own_w hw 15 rfl)) (mvT hZ (own_w hw 16 rfl)) (by decide) (backOf (W := 1) (rmExp l Z a0 hw [] ((p0_ &&& (2147483647 : Int32)) % (5 : Int32)) ((p2_ &&& (7 : Int32)) - (1 : Int32)) h0 n0 O0 ) hZ (own_w hw 16 rfl) (own_w hw 15 rfl) (by decide) (by decide)) (g := (mkF m 95 #[lvI p0_, lvI p1_, lvI p2_, lvI ((p0_ &&& (2147483647 : Int32)) % (5 : Int32)), lvR w_DEL, lvI ((p2_ &&& (7 : Int32)) - (1 : Int32))] [(.int ((p2_ &&& (7 : Int32)) - (1 : Int32))), (.int ((p0_ &&& (2147483647 : Int32)) % (5 : Int32))), (.int (1 : Int32))])) rfl (by rw [hml]; rfl) (argsL := [(.int ((p0_ &&& (2147483647 : Int32)) % (5 : Int32))), (.int ((p2_ &&& (7 : Int32)) - (1 : Int32)))]) (rest := [(.int (1 : Int32))]) (lenOf pd_1 rfl) rfl (by show 2 * 0 + _ ≤ _; exact Nat.le_of_eq rfl) (hb hby at_95) (fun _ _ => ⟨rfl, e204', (by decide : 0 + 0 ≤ _), (by decide : 0 + 0 ≤ _)⟩)
              dsimp only [Pt.U, Pt.locs, Pt.cells, Pt.slots] at X215 l215 y215 z215 st215 hQ215
              subst l215 y215 z215
              obtain ⟨h215, e215⟩ : ∃ z, T215.heap = z := ⟨_, rfl⟩
              rw [e215] at hQ215
              obtain ⟨rr215, rfl, hs215, N215q, hh215⟩ := hQ215
              have N216 := Fr.app N206 N215q
              have e215' : T215.heap = h0 := e215.trans hh215
              rcases hs215 with ⟨rfl, hq215_0_0, hq215_0_1⟩ | ⟨rfl, hq215_1_0, hq215_1_1⟩ | ⟨rfl, hq215_2_0, hq215_2_1, hq215_2_2⟩ | ⟨rfl, hq215_3_0, hq215_3_1, hq215_3_2⟩ | ⟨rfl, hq215_4_0, hq215_4_1, hq215_4_2, hq215_4_3⟩ | ⟨rfl, hq215_5_0, hq215_5_1, hq215_5_2, hq215_5_3, hq215_5_4⟩ | ⟨rfl, hq215_6_0, hq215_6_1, hq215_6_2, hq215_6_3, hq215_6_4, hq215_6_5⟩ | ⟨rfl, hq215_7_0, hq215_7_1, hq215_7_2, hq215_7_3, hq215_7_4, hq215_7_5, hq215_7_6⟩ | ⟨rfl, hq215_8_0, hq215_8_1, hq215_8_2, hq215_8_3, hq215_8_4, hq215_8_5, hq215_8_6⟩ | ⟨rfl, hq215_9_0, hq215_9_1, hq215_9_2, hq215_9_3, hq215_9_4⟩ | ⟨rfl, hq215_10_0, hq215_10_1, hq215_10_2, hq215_10_3, hq215_10_4⟩ | ⟨rfl, hq215_11_0, hq215_11_1, hq215_11_2, hq215_11_3, hq215_11_4⟩ | ⟨rfl, hq215_12_0, hq215_12_1, hq215_12_2, hq215_12_3, hq215_12_4, hq215_12_5⟩ | ⟨rfl, hq215_13_0, hq215_13_1, hq215_13_2, hq215_13_3, hq215_13_4, hq215_13_5⟩
              · exact absurd hq215_0_0 (by intro hz; have := own_i0; have := own_i1; have := own_i2; have := own_j2147483647; have := own_i5; simp only [Int32.lt_iff_toInt_lt, ← Int32.toInt_inj] at hz hq202_3_0 hc59 hq202_3_1; omega)
              · exact absurd hq215_1_0 (by intro hz; have := own_i0; have := own_i1; have := own_i2; have := own_j2147483647; have := own_i5; simp only [Int32.lt_iff_toInt_lt, ← Int32.toInt_inj] at hz hq202_3_0 hc59 hq202_3_1; omega)
              · have pre217 : ∀ t, own_S p e below m T215 106 #[lvI p0_, lvI p1_, lvI p2_, lvI ((p0_ &&& (2147483647 : Int32)) % (5 : Int32)), lvR w_DEL, lvI ((p2_ &&& (7 : Int32)) - (1 : Int32))] [(.int (1 : Int32))] t → G t := by
                  intro t kt
                  refine pre196 t ?_
                  show own_S p e below m s₁ 34 #[lvI p0_, lvI p1_, lvI p2_, lvI ((p0_ &&& (2147483647 : Int32)) % (5 : Int32)), .unset, .unset] [(.int (2 : Int32)), (.int ((p0_ &&& (2147483647 : Int32)) % (5 : Int32)))] _
                  refine XS.icmpNo X0.here hx rfl (hb hby at_34) rfl (teq hc197).2 ?_
                  show own_S p e below m s₁ 37 #[lvI p0_, lvI p1_, lvI p2_, lvI ((p0_ &&& (2147483647 : Int32)) % (5 : Int32)), .unset, .unset] [] _
                  refine st198 _ ?_
                  refine XS.astore X198.here hx rfl (hb hby at_40) rfl rfl (l' := #[lvI p0_, lvI p1_, lvI p2_, lvI ((p0_ &&& (2147483647 : Int32)) % (5 : Int32)), lvR w_DEL, .unset]) rfl ?_
                  refine XS.goto X198.here hx rfl (pc0 := 42) (pc' := 63) rfl (hb hby at_42) (by decide) (by decide) ?_
                  refine XS.iloadN X198.here hx rfl (hb hby at_63) rfl ?_
                  refine XS.bipush X198.here hx rfl (hb hby at_64) ?_
                  refine XS.iand X198.here hx rfl (hb hby at_66) rfl ?_
                  show own_S p e below m T198 67 #[lvI p0_, lvI p1_, lvI p2_, lvI ((p0_ &&& (2147483647 : Int32)) % (5 : Int32)), lvR w_DEL, .unset] [(.int (p2_ &&& (7 : Int32)))] _
                  refine XS.iconst X198.here hx rfl (hb hby at_67) ?_
                  refine XS.isub X198.here hx rfl (hb hby at_68) rfl ?_
                  refine XS.istore X198.here hx rfl (hb hby at_69) rfl (l' := #[lvI p0_, lvI p1_, lvI p2_, lvI ((p0_ &&& (2147483647 : Int32)) % (5 : Int32)), lvR w_DEL, lvI ((p2_ &&& (7 : Int32)) - (1 : Int32))]) rfl ?_
                  refine XS.aload X198.here hx rfl (hb hby at_71) rfl rfl ?_
                  refine XS.iloadN X198.here hx rfl (hb hby at_73) rfl ?_
                  show own_S p e below m T198 74 #[lvI p0_, lvI p1_, lvI p2_, lvI ((p0_ &&& (2147483647 : Int32)) % (5 : Int32)), lvR w_DEL, lvI ((p2_ &&& (7 : Int32)) - (1 : Int32))] [(.int p1_), (.ref w_DEL)] _
                  refine st199.trans ?_
                  refine XS.iloadN X199.here hx rfl (hb hby at_77) rfl ?_
                  refine XS.iloadN X199.here hx rfl (hb hby at_78) rfl ?_
                  show own_S p e below m T199 79 #[lvI p0_, lvI p1_, lvI p2_, lvI ((p0_ &&& (2147483647 : Int32)) % (5 : Int32)), lvR w_DEL, lvI ((p2_ &&& (7 : Int32)) - (1 : Int32))] [(.int p1_), (.int ((p0_ &&& (2147483647 : Int32)) % (5 : Int32))), (.int (0 : Int32))] _
                  refine st202 _ ?_
                  show own_S p e below m T202 82 #[lvI p0_, lvI p1_, lvI p2_, lvI ((p0_ &&& (2147483647 : Int32)) % (5 : Int32)), lvR w_DEL, lvI ((p2_ &&& (7 : Int32)) - (1 : Int32))] [(.int (0 : Int32)), (.int (0 : Int32))] _
                  refine XS.icmpNo X202.here hx rfl (hb hby at_82) rfl (teq (by decide : (0 : Int32) = (0 : Int32))).2 ?_
                  refine XS.aload X202.here hx rfl (hb hby at_85) rfl rfl ?_
                  refine XS.iload X202.here hx rfl (hb hby at_87) rfl ?_
                  show own_S p e below m T202 89 #[lvI p0_, lvI p1_, lvI p2_, lvI ((p0_ &&& (2147483647 : Int32)) % (5 : Int32)), lvR w_DEL, lvI ((p2_ &&& (7 : Int32)) - (1 : Int32))] [(.int ((p2_ &&& (7 : Int32)) - (1 : Int32))), (.ref w_DEL)] _
                  refine st204.trans ?_
                  refine XS.iloadN X204.here hx rfl (hb hby at_92) rfl ?_
                  refine XS.iload X204.here hx rfl (hb hby at_93) rfl ?_
                  show own_S p e below m T204 95 #[lvI p0_, lvI p1_, lvI p2_, lvI ((p0_ &&& (2147483647 : Int32)) % (5 : Int32)), lvR w_DEL, lvI ((p2_ &&& (7 : Int32)) - (1 : Int32))] [(.int ((p2_ &&& (7 : Int32)) - (1 : Int32))), (.int ((p0_ &&& (2147483647 : Int32)) % (5 : Int32))), (.int (1 : Int32))] _
                  refine st215 _ ?_
                  show own_S p e below m T215 98 #[lvI p0_, lvI p1_, lvI p2_, lvI ((p0_ &&& (2147483647 : Int32)) % (5 : Int32)), lvR w_DEL, lvI ((p2_ &&& (7 : Int32)) - (1 : Int32))] [(.int (1 : Int32)), (.int (1 : Int32))] _
                  refine XS.icmpNo X215.here hx rfl (hb hby at_98) rfl (teq (by decide : (1 : Int32) = (1 : Int32))).2 ?_
                  refine XS.iconst X215.here hx rfl (hb hby at_101) ?_
                  refine XS.goto X215.here hx rfl (pc0 := 102) (pc' := 106) rfl (hb hby at_102) (by decide) (by decide) ?_
                  exact kt
                obtain ⟨fs, hr, hrun, hended, hW, hsame⟩ := X215.leave (v := some (.int (1 : Int32))) (fun h => by rw [Bd.returns] at h; cases h)
                refine ⟨_, _, hG _ (pre217 _ (retN X215 hx (t := .boolean) Bd.returns (by simp) (hb hby at_106) hr)), hrun, hended, _, _, rfl, ?_, ⟨_, rfl⟩, hW, hsame.mono (by decide) (by decide)⟩
                show QLaw Z p0_ p1_ p2_ w_GET w_SET w_DEL w_VDEL w_KEYNOTIFY h0 n0 _ T215.heap _
                rw [e215']
                exact ⟨rfl, N216⟩
              · exact absurd (by apply Decidable.by_contra; intro hz; have := own_i1; have := own_i7; simp only [Int32.lt_iff_toInt_lt, ← Int32.toInt_inj] at hz hq204_2_0 hq204_2_1; omega) hq215_3_2
              · exact absurd hq215_4_2 (by intro hz; have := own_i0; have := own_i1; have := own_i2; have := own_j2147483647; have := own_i5; simp only [Int32.lt_iff_toInt_lt, ← Int32.toInt_inj] at hz hq215_4_0 hc59 hq202_3_1 hq215_4_1; omega)
              · exact absurd hq215_5_2 (by intro hz; have := own_i0; have := own_i1; have := own_i2; have := own_j2147483647; have := own_i5; simp only [Int32.lt_iff_toInt_lt, ← Int32.toInt_inj] at hz hq215_5_0 hc59 hq202_3_1 hq215_5_1; omega)
              · exact absurd hq215_6_2 (by intro hz; have := own_i0; have := own_i1; have := own_i2; have := own_j2147483647; have := own_i5; simp only [Int32.lt_iff_toInt_lt, ← Int32.toInt_inj] at hz hq215_6_0 hc59 hq202_3_1 hq215_6_1; omega)
              · exact absurd hq215_7_2 (by intro hz; have := own_i0; have := own_i1; have := own_i2; have := own_j2147483647; have := own_i5; simp only [Int32.lt_iff_toInt_lt, ← Int32.toInt_inj] at hz hq215_7_0 hc59 hq202_3_1 hq215_7_1; omega)
              · exact absurd hq215_8_2 (by intro hz; have := own_i0; have := own_i1; have := own_i2; have := own_j2147483647; have := own_i5; simp only [Int32.lt_iff_toInt_lt, ← Int32.toInt_inj] at hz hq215_8_0 hc59 hq202_3_1 hq215_8_1; omega)
              · exact absurd hq215_9_3 (by intro hz; have := own_i0; have := own_i1; have := own_i2; have := own_j2147483647; have := own_i3; have := own_i5; simp only [Int32.lt_iff_toInt_lt, ← Int32.toInt_inj] at hz hq215_9_0 hq215_9_2 hq202_3_1 hq215_9_1; omega)
              · exact absurd hq215_10_3 (by intro hz; have := own_i0; have := own_i1; have := own_i2; have := own_j2147483647; have := own_i3; have := own_i5; simp only [Int32.lt_iff_toInt_lt, ← Int32.toInt_inj] at hz hq215_10_0 hq215_10_2 hq202_3_1 hq215_10_1; omega)
              · exact absurd (by apply Decidable.by_contra; intro hz; have := own_i0; have := own_i1; have := own_i2; have := own_j2147483647; have := own_i5; simp only [Int32.lt_iff_toInt_lt, ← Int32.toInt_inj] at hz hq215_11_0 hc59 hq202_3_1; omega) hq215_11_1
              · exact absurd (by apply Decidable.by_contra; intro hz; have := own_i0; have := own_i1; have := own_i2; have := own_j2147483647; have := own_i5; simp only [Int32.lt_iff_toInt_lt, ← Int32.toInt_inj] at hz hq215_12_0 hc59 hq202_3_1; omega) hq215_12_1
              · exact absurd (by apply Decidable.by_contra; intro hz; have := own_i0; have := own_i1; have := own_i2; have := own_j2147483647; have := own_i5; simp only [Int32.lt_iff_toInt_lt, ← Int32.toInt_inj] at hz hq215_13_0 hc59 hq202_3_1; omega) hq215_13_1
          · exact absurd hq202_4_2 (by intro hz; have := own_i0; have := own_i1; have := own_i2; have := own_j2147483647; have := own_i5; simp only [Int32.lt_iff_toInt_lt, ← Int32.toInt_inj] at hz hq202_4_0 hc59 hc197 hq202_4_1; omega)
          · exact absurd hq202_5_2 (by intro hz; have := own_i0; have := own_i1; have := own_i2; have := own_j2147483647; have := own_i5; simp only [Int32.lt_iff_toInt_lt, ← Int32.toInt_inj] at hz hq202_5_0 hc59 hc197 hq202_5_1; omega)
          · exact absurd hq202_6_2 (by intro hz; have := own_i0; have := own_i1; have := own_i2; have := own_j2147483647; have := own_i5; simp only [Int32.lt_iff_toInt_lt, ← Int32.toInt_inj] at hz hq202_6_0 hc59 hc197 hq202_6_1; omega)
          · exact absurd hq202_7_2 (by intro hz; have := own_i0; have := own_i1; have := own_i2; have := own_j2147483647; have := own_i5; simp only [Int32.lt_iff_toInt_lt, ← Int32.toInt_inj] at hz hq202_7_0 hc59 hc197 hq202_7_1; omega)
          · exact absurd hq202_8_2 (by intro hz; have := own_i0; have := own_i1; have := own_i2; have := own_j2147483647; have := own_i5; simp only [Int32.lt_iff_toInt_lt, ← Int32.toInt_inj] at hz hq202_8_0 hc59 hc197 hq202_8_1; omega)
          · exact absurd hq202_9_3 (by intro hz; have := own_i0; have := own_i1; have := own_i2; have := own_j2147483647; have := own_i3; have := own_i5; simp only [Int32.lt_iff_toInt_lt, ← Int32.toInt_inj] at hz hq202_9_0 hq202_9_2 hc197 hq202_9_1; omega)
          · exact absurd hq202_10_3 (by intro hz; have := own_i0; have := own_i1; have := own_i2; have := own_j2147483647; have := own_i3; have := own_i5; simp only [Int32.lt_iff_toInt_lt, ← Int32.toInt_inj] at hz hq202_10_0 hq202_10_2 hc197 hq202_10_1; omega)
          · exact absurd (by apply Decidable.by_contra; intro hz; have := own_i0; have := own_i1; have := own_i2; have := own_j2147483647; have := own_i5; simp only [Int32.lt_iff_toInt_lt, ← Int32.toInt_inj] at hz hq202_11_0 hc59 hc197; omega) hq202_11_1
          · exact absurd (by apply Decidable.by_contra; intro hz; have := own_i0; have := own_i1; have := own_i2; have := own_j2147483647; have := own_i5; simp only [Int32.lt_iff_toInt_lt, ← Int32.toInt_inj] at hz hq202_12_0 hc59 hc197; omega) hq202_12_1
          · exact absurd (by apply Decidable.by_contra; intro hz; have := own_i0; have := own_i1; have := own_i2; have := own_j2147483647; have := own_i5; simp only [Int32.lt_iff_toInt_lt, ← Int32.toInt_inj] at hz hq202_13_0 hc59 hc197; omega) hq202_13_1
        · obtain ⟨_, _, ⟨T219, L219, k219, n219⟩, -, X219, ⟨Lc219, hQ219, l219, y219, z219⟩, st219⟩ := Jvm.LawKit.callS X199 hx (y := (⟨"com/example/fawley/fawley/protocol/CommandTakesPinLaw", "expected", "(II)Z"⟩ : MethodName)) hown (mvT hZ (own_w hw 13 rfl)) (mvT hZ (own_w hw 14 rfl)) (mvT hZ (own_w hw 15 rfl)) (mvT hZ (own_w hw 16 rfl)) (by decide) (backOf (W := 1) (rmExp l Z a0 hw [] ((p0_ &&& (2147483647 : Int32)) % (5 : Int32)) p1_ h0 n0 O0 ) hZ (own_w hw 16 rfl) (own_w hw 15 rfl) (by decide) (by decide)) (g := (mkF m 79 #[lvI p0_, lvI p1_, lvI p2_, lvI ((p0_ &&& (2147483647 : Int32)) % (5 : Int32)), lvR w_DEL, lvI ((p2_ &&& (7 : Int32)) - (1 : Int32))] [(.int p1_), (.int ((p0_ &&& (2147483647 : Int32)) % (5 : Int32))), (.int (0 : Int32))])) rfl (by rw [hml]; rfl) (argsL := [(.int ((p0_ &&& (2147483647 : Int32)) % (5 : Int32))), (.int p1_)]) (rest := [(.int (0 : Int32))]) (lenOf pd_1 rfl) rfl (by show 2 * 0 + _ ≤ _; exact Nat.le_of_eq rfl) (hb hby at_79) (fun _ _ => ⟨rfl, e199', (by decide : 0 + 0 ≤ _), (by decide : 0 + 0 ≤ _)⟩)
          dsimp only [Pt.U, Pt.locs, Pt.cells, Pt.slots] at X219 l219 y219 z219 st219 hQ219
          subst l219 y219 z219
          obtain ⟨h219, e219⟩ : ∃ z, T219.heap = z := ⟨_, rfl⟩
          rw [e219] at hQ219
          obtain ⟨rr219, rfl, hs219, N219q, hh219⟩ := hQ219
          have N220 := Fr.app N201 N219q
          have e219' : T219.heap = h0 := e219.trans hh219
          rcases hs219 with ⟨rfl, hq219_0_0, hq219_0_1⟩ | ⟨rfl, hq219_1_0, hq219_1_1⟩ | ⟨rfl, hq219_2_0, hq219_2_1, hq219_2_2⟩ | ⟨rfl, hq219_3_0, hq219_3_1, hq219_3_2⟩ | ⟨rfl, hq219_4_0, hq219_4_1, hq219_4_2, hq219_4_3⟩ | ⟨rfl, hq219_5_0, hq219_5_1, hq219_5_2, hq219_5_3, hq219_5_4⟩ | ⟨rfl, hq219_6_0, hq219_6_1, hq219_6_2, hq219_6_3, hq219_6_4, hq219_6_5⟩ | ⟨rfl, hq219_7_0, hq219_7_1, hq219_7_2, hq219_7_3, hq219_7_4, hq219_7_5, hq219_7_6⟩ | ⟨rfl, hq219_8_0, hq219_8_1, hq219_8_2, hq219_8_3, hq219_8_4, hq219_8_5, hq219_8_6⟩ | ⟨rfl, hq219_9_0, hq219_9_1, hq219_9_2, hq219_9_3, hq219_9_4⟩ | ⟨rfl, hq219_10_0, hq219_10_1, hq219_10_2, hq219_10_3, hq219_10_4⟩ | ⟨rfl, hq219_11_0, hq219_11_1, hq219_11_2, hq219_11_3, hq219_11_4⟩ | ⟨rfl, hq219_12_0, hq219_12_1, hq219_12_2, hq219_12_3, hq219_12_4, hq219_12_5⟩ | ⟨rfl, hq219_13_0, hq219_13_1, hq219_13_2, hq219_13_3, hq219_13_4, hq219_13_5⟩
          · exact absurd hq219_0_0 (by intro hz; have := own_i0; have := own_i1; have := own_i2; have := own_j2147483647; have := own_i5; simp only [Int32.lt_iff_toInt_lt, ← Int32.toInt_inj] at hz hc2 hc59 hc197; omega)
          · exact absurd hq219_1_0 (by intro hz; have := own_i0; have := own_i1; have := own_i2; have := own_j2147483647; have := own_i5; simp only [Int32.lt_iff_toInt_lt, ← Int32.toInt_inj] at hz hc2 hc59 hc197; omega)
          · exact absurd hq219_2_2 (by intro hz; have := own_i1; simp only [Int32.lt_iff_toInt_lt, ← Int32.toInt_inj] at hz hq199_1_0 hq199_1_1; omega)
          · have f222 : Exa Z h0 w_DEL cn0 := P9.ext O0.2
            obtain ⟨cq221, kq221, q221a, q221b, q221c⟩ := isOf hZ e219' f222
            obtain ⟨_, _, ⟨T221, L221, k221, n221⟩, -, X221, ⟨Lc221, hQ221, l221, y221, z221⟩, st221⟩ := X219.virtualBack hx (y := (⟨"com/example/fawley/fawley/protocol/Command", "takes", "(I)Z"⟩ : MethodName)) (z := (⟨"com/example/fawley/fawley/protocol/Command", "takes", "(I)Z"⟩ : MethodName)) hown (mvT hZ (own_w hw 4 rfl)) (mvT hZ (own_w hw 5 rfl)) (notFace_of_selects (args := #[]) (mvT hZ (own_w hw 7 rfl))) (mvT hZ (own_w hw 7 rfl)) (mvT hZ (own_w hw 6 rfl)) (by decide) (backOf (W := 0) (rmTak l Z a0 hw [] w_DEL ((p2_ &&& (7 : Int32)) - (1 : Int32)) (1 : Int32) (1 : Int32) h0 n0 O0 P10 P11) hZ (own_w hw 8 rfl) (own_w hw 2 rfl) (by decide) (by decide)) q221a q221c (g := (mkF m 89 #[lvI p0_, lvI p1_, lvI p2_, lvI ((p0_ &&& (2147483647 : Int32)) % (5 : Int32)), lvR w_DEL, lvI ((p2_ &&& (7 : Int32)) - (1 : Int32))] [(.int ((p2_ &&& (7 : Int32)) - (1 : Int32))), (.ref w_DEL)])) rfl (by rw [hml]; rfl) (Steps.refl _) (argsL := [(.int ((p2_ &&& (7 : Int32)) - (1 : Int32)))]) (rest := []) (lenOf pd_0 rfl) rfl (by show 2 * 0 + _ ≤ _; exact Nat.le_of_eq rfl) (hb hby at_89) (fun _ _ => ⟨rfl, e219', (by decide : 0 + 0 ≤ _), (by decide : 0 + 0 ≤ _)⟩)
            dsimp only [Pt.U, Pt.locs, Pt.cells, Pt.slots] at X221 l221 y221 z221 st221 hQ221
            subst l221 y221 z221
            obtain ⟨h221, e221⟩ : ∃ z, T221.heap = z := ⟨_, rfl⟩
            rw [e221] at hQ221
            obtain ⟨rr221, rfl, hs221, N221q, hh221⟩ := hQ221
            have N223 := Fr.app N220 N221q
            have e221' : T221.heap = h0 := e221.trans hh221
            rcases hs221 with ⟨rfl, hq221_0_0⟩ | ⟨rfl, hq221_1_0, hq221_1_1⟩ | ⟨rfl, hq221_2_0, hq221_2_1⟩
            · obtain ⟨_, _, ⟨T224, L224, k224, n224⟩, -, X224, ⟨Lc224, hQ224, l224, y224, z224⟩, st224⟩ := Jvm.LawKit.callS X221 hx (y := (⟨"com/example/fawley/fawley/protocol/CommandTakesPinLaw", "expected", "(II)Z"⟩ : MethodName)) hown (mvT hZ (own_w hw 13 rfl)) (mvT hZ (own_w hw 14 rfl)) (mvT hZ (own_w hw 15 rfl)) (mvT hZ (own_w hw 16 rfl)) (by decide) (backOf (W := 1) (rmExp l Z a0 hw [] ((p0_ &&& (2147483647 : Int32)) % (5 : Int32)) ((p2_ &&& (7 : Int32)) - (1 : Int32)) h0 n0 O0 ) hZ (own_w hw 16 rfl) (own_w hw 15 rfl) (by decide) (by decide)) (g := (mkF m 95 #[lvI p0_, lvI p1_, lvI p2_, lvI ((p0_ &&& (2147483647 : Int32)) % (5 : Int32)), lvR w_DEL, lvI ((p2_ &&& (7 : Int32)) - (1 : Int32))] [(.int ((p2_ &&& (7 : Int32)) - (1 : Int32))), (.int ((p0_ &&& (2147483647 : Int32)) % (5 : Int32))), (.int (0 : Int32))])) rfl (by rw [hml]; rfl) (argsL := [(.int ((p0_ &&& (2147483647 : Int32)) % (5 : Int32))), (.int ((p2_ &&& (7 : Int32)) - (1 : Int32)))]) (rest := [(.int (0 : Int32))]) (lenOf pd_1 rfl) rfl (by show 2 * 0 + _ ≤ _; exact Nat.le_of_eq rfl) (hb hby at_95) (fun _ _ => ⟨rfl, e221', (by decide : 0 + 0 ≤ _), (by decide : 0 + 0 ≤ _)⟩)
              dsimp only [Pt.U, Pt.locs, Pt.cells, Pt.slots] at X224 l224 y224 z224 st224 hQ224
              subst l224 y224 z224
              obtain ⟨h224, e224⟩ : ∃ z, T224.heap = z := ⟨_, rfl⟩
              rw [e224] at hQ224
              obtain ⟨rr224, rfl, hs224, N224q, hh224⟩ := hQ224
              have N225 := Fr.app N223 N224q
              have e224' : T224.heap = h0 := e224.trans hh224
              rcases hs224 with ⟨rfl, hq224_0_0, hq224_0_1⟩ | ⟨rfl, hq224_1_0, hq224_1_1⟩ | ⟨rfl, hq224_2_0, hq224_2_1, hq224_2_2⟩ | ⟨rfl, hq224_3_0, hq224_3_1, hq224_3_2⟩ | ⟨rfl, hq224_4_0, hq224_4_1, hq224_4_2, hq224_4_3⟩ | ⟨rfl, hq224_5_0, hq224_5_1, hq224_5_2, hq224_5_3, hq224_5_4⟩ | ⟨rfl, hq224_6_0, hq224_6_1, hq224_6_2, hq224_6_3, hq224_6_4, hq224_6_5⟩ | ⟨rfl, hq224_7_0, hq224_7_1, hq224_7_2, hq224_7_3, hq224_7_4, hq224_7_5, hq224_7_6⟩ | ⟨rfl, hq224_8_0, hq224_8_1, hq224_8_2, hq224_8_3, hq224_8_4, hq224_8_5, hq224_8_6⟩ | ⟨rfl, hq224_9_0, hq224_9_1, hq224_9_2, hq224_9_3, hq224_9_4⟩ | ⟨rfl, hq224_10_0, hq224_10_1, hq224_10_2, hq224_10_3, hq224_10_4⟩ | ⟨rfl, hq224_11_0, hq224_11_1, hq224_11_2, hq224_11_3, hq224_11_4⟩ | ⟨rfl, hq224_12_0, hq224_12_1, hq224_12_2, hq224_12_3, hq224_12_4, hq224_12_5⟩ | ⟨rfl, hq224_13_0, hq224_13_1, hq224_13_2, hq224_13_3, hq224_13_4, hq224_13_5⟩
              · exact absurd hq224_0_0 (by intro hz; have := own_i0; have := own_i1; have := own_i2; have := own_j2147483647; have := own_i5; simp only [Int32.lt_iff_toInt_lt, ← Int32.toInt_inj] at hz hq219_3_0 hc59 hq219_3_1; omega)
              · exact absurd hq224_1_0 (by intro hz; have := own_i0; have := own_i1; have := own_i2; have := own_j2147483647; have := own_i5; simp only [Int32.lt_iff_toInt_lt, ← Int32.toInt_inj] at hz hq219_3_0 hc59 hq219_3_1; omega)
              · exact absurd hq224_2_2 (by intro hz; have := own_i1; have := own_i7; simp only [Int32.lt_iff_toInt_lt, ← Int32.toInt_inj] at hz hq221_0_0; omega)
              · have pre226 : ∀ t, own_S p e below m T224 106 #[lvI p0_, lvI p1_, lvI p2_, lvI ((p0_ &&& (2147483647 : Int32)) % (5 : Int32)), lvR w_DEL, lvI ((p2_ &&& (7 : Int32)) - (1 : Int32))] [(.int (1 : Int32))] t → G t := by
                  intro t kt
                  refine pre196 t ?_
                  show own_S p e below m s₁ 34 #[lvI p0_, lvI p1_, lvI p2_, lvI ((p0_ &&& (2147483647 : Int32)) % (5 : Int32)), .unset, .unset] [(.int (2 : Int32)), (.int ((p0_ &&& (2147483647 : Int32)) % (5 : Int32)))] _
                  refine XS.icmpNo X0.here hx rfl (hb hby at_34) rfl (teq hc197).2 ?_
                  show own_S p e below m s₁ 37 #[lvI p0_, lvI p1_, lvI p2_, lvI ((p0_ &&& (2147483647 : Int32)) % (5 : Int32)), .unset, .unset] [] _
                  refine st198 _ ?_
                  refine XS.astore X198.here hx rfl (hb hby at_40) rfl rfl (l' := #[lvI p0_, lvI p1_, lvI p2_, lvI ((p0_ &&& (2147483647 : Int32)) % (5 : Int32)), lvR w_DEL, .unset]) rfl ?_
                  refine XS.goto X198.here hx rfl (pc0 := 42) (pc' := 63) rfl (hb hby at_42) (by decide) (by decide) ?_
                  refine XS.iloadN X198.here hx rfl (hb hby at_63) rfl ?_
                  refine XS.bipush X198.here hx rfl (hb hby at_64) ?_
                  refine XS.iand X198.here hx rfl (hb hby at_66) rfl ?_
                  show own_S p e below m T198 67 #[lvI p0_, lvI p1_, lvI p2_, lvI ((p0_ &&& (2147483647 : Int32)) % (5 : Int32)), lvR w_DEL, .unset] [(.int (p2_ &&& (7 : Int32)))] _
                  refine XS.iconst X198.here hx rfl (hb hby at_67) ?_
                  refine XS.isub X198.here hx rfl (hb hby at_68) rfl ?_
                  refine XS.istore X198.here hx rfl (hb hby at_69) rfl (l' := #[lvI p0_, lvI p1_, lvI p2_, lvI ((p0_ &&& (2147483647 : Int32)) % (5 : Int32)), lvR w_DEL, lvI ((p2_ &&& (7 : Int32)) - (1 : Int32))]) rfl ?_
                  refine XS.aload X198.here hx rfl (hb hby at_71) rfl rfl ?_
                  refine XS.iloadN X198.here hx rfl (hb hby at_73) rfl ?_
                  show own_S p e below m T198 74 #[lvI p0_, lvI p1_, lvI p2_, lvI ((p0_ &&& (2147483647 : Int32)) % (5 : Int32)), lvR w_DEL, lvI ((p2_ &&& (7 : Int32)) - (1 : Int32))] [(.int p1_), (.ref w_DEL)] _
                  refine st199.trans ?_
                  refine XS.iloadN X199.here hx rfl (hb hby at_77) rfl ?_
                  refine XS.iloadN X199.here hx rfl (hb hby at_78) rfl ?_
                  show own_S p e below m T199 79 #[lvI p0_, lvI p1_, lvI p2_, lvI ((p0_ &&& (2147483647 : Int32)) % (5 : Int32)), lvR w_DEL, lvI ((p2_ &&& (7 : Int32)) - (1 : Int32))] [(.int p1_), (.int ((p0_ &&& (2147483647 : Int32)) % (5 : Int32))), (.int (0 : Int32))] _
                  refine st219 _ ?_
                  show own_S p e below m T219 82 #[lvI p0_, lvI p1_, lvI p2_, lvI ((p0_ &&& (2147483647 : Int32)) % (5 : Int32)), lvR w_DEL, lvI ((p2_ &&& (7 : Int32)) - (1 : Int32))] [(.int (0 : Int32)), (.int (0 : Int32))] _
                  refine XS.icmpNo X219.here hx rfl (hb hby at_82) rfl (teq (by decide : (0 : Int32) = (0 : Int32))).2 ?_
                  refine XS.aload X219.here hx rfl (hb hby at_85) rfl rfl ?_
                  refine XS.iload X219.here hx rfl (hb hby at_87) rfl ?_
                  show own_S p e below m T219 89 #[lvI p0_, lvI p1_, lvI p2_, lvI ((p0_ &&& (2147483647 : Int32)) % (5 : Int32)), lvR w_DEL, lvI ((p2_ &&& (7 : Int32)) - (1 : Int32))] [(.int ((p2_ &&& (7 : Int32)) - (1 : Int32))), (.ref w_DEL)] _
                  refine st221.trans ?_
                  refine XS.iloadN X221.here hx rfl (hb hby at_92) rfl ?_
                  refine XS.iload X221.here hx rfl (hb hby at_93) rfl ?_
                  show own_S p e below m T221 95 #[lvI p0_, lvI p1_, lvI p2_, lvI ((p0_ &&& (2147483647 : Int32)) % (5 : Int32)), lvR w_DEL, lvI ((p2_ &&& (7 : Int32)) - (1 : Int32))] [(.int ((p2_ &&& (7 : Int32)) - (1 : Int32))), (.int ((p0_ &&& (2147483647 : Int32)) % (5 : Int32))), (.int (0 : Int32))] _
                  refine st224 _ ?_
                  show own_S p e below m T224 98 #[lvI p0_, lvI p1_, lvI p2_, lvI ((p0_ &&& (2147483647 : Int32)) % (5 : Int32)), lvR w_DEL, lvI ((p2_ &&& (7 : Int32)) - (1 : Int32))] [(.int (0 : Int32)), (.int (0 : Int32))] _
                  refine XS.icmpNo X224.here hx rfl (hb hby at_98) rfl (teq (by decide : (0 : Int32) = (0 : Int32))).2 ?_
                  refine XS.iconst X224.here hx rfl (hb hby at_101) ?_
                  refine XS.goto X224.here hx rfl (pc0 := 102) (pc' := 106) rfl (hb hby at_102) (by decide) (by decide) ?_
                  exact kt
                obtain ⟨fs, hr, hrun, hended, hW, hsame⟩ := X224.leave (v := some (.int (1 : Int32))) (fun h => by rw [Bd.returns] at h; cases h)
                refine ⟨_, _, hG _ (pre226 _ (retN X224 hx (t := .boolean) Bd.returns (by simp) (hb hby at_106) hr)), hrun, hended, _, _, rfl, ?_, ⟨_, rfl⟩, hW, hsame.mono (by decide) (by decide)⟩
                show QLaw Z p0_ p1_ p2_ w_GET w_SET w_DEL w_VDEL w_KEYNOTIFY h0 n0 _ T224.heap _
                rw [e224']
                exact ⟨rfl, N225⟩
              · exact absurd hq224_4_2 (by intro hz; have := own_i0; have := own_i1; have := own_i2; have := own_j2147483647; have := own_i5; simp only [Int32.lt_iff_toInt_lt, ← Int32.toInt_inj] at hz hq224_4_0 hc59 hq219_3_1 hq224_4_1; omega)
              · exact absurd hq224_5_2 (by intro hz; have := own_i0; have := own_i1; have := own_i2; have := own_j2147483647; have := own_i5; simp only [Int32.lt_iff_toInt_lt, ← Int32.toInt_inj] at hz hq224_5_0 hc59 hq219_3_1 hq224_5_1; omega)
              · exact absurd hq224_6_2 (by intro hz; have := own_i0; have := own_i1; have := own_i2; have := own_j2147483647; have := own_i5; simp only [Int32.lt_iff_toInt_lt, ← Int32.toInt_inj] at hz hq224_6_0 hc59 hq219_3_1 hq224_6_1; omega)
              · exact absurd hq224_7_2 (by intro hz; have := own_i0; have := own_i1; have := own_i2; have := own_j2147483647; have := own_i5; simp only [Int32.lt_iff_toInt_lt, ← Int32.toInt_inj] at hz hq224_7_0 hc59 hq219_3_1 hq224_7_1; omega)
              · exact absurd hq224_8_2 (by intro hz; have := own_i0; have := own_i1; have := own_i2; have := own_j2147483647; have := own_i5; simp only [Int32.lt_iff_toInt_lt, ← Int32.toInt_inj] at hz hq224_8_0 hc59 hq219_3_1 hq224_8_1; omega)
              · exact absurd hq224_9_3 (by intro hz; have := own_i0; have := own_i1; have := own_i2; have := own_j2147483647; have := own_i3; have := own_i5; simp only [Int32.lt_iff_toInt_lt, ← Int32.toInt_inj] at hz hq224_9_0 hq224_9_2 hq219_3_1 hq224_9_1; omega)
              · exact absurd hq224_10_3 (by intro hz; have := own_i0; have := own_i1; have := own_i2; have := own_j2147483647; have := own_i3; have := own_i5; simp only [Int32.lt_iff_toInt_lt, ← Int32.toInt_inj] at hz hq224_10_0 hq224_10_2 hq219_3_1 hq224_10_1; omega)
              · exact absurd (by apply Decidable.by_contra; intro hz; have := own_i0; have := own_i1; have := own_i2; have := own_j2147483647; have := own_i5; simp only [Int32.lt_iff_toInt_lt, ← Int32.toInt_inj] at hz hq224_11_0 hc59 hq219_3_1; omega) hq224_11_1
              · exact absurd (by apply Decidable.by_contra; intro hz; have := own_i0; have := own_i1; have := own_i2; have := own_j2147483647; have := own_i5; simp only [Int32.lt_iff_toInt_lt, ← Int32.toInt_inj] at hz hq224_12_0 hc59 hq219_3_1; omega) hq224_12_1
              · exact absurd (by apply Decidable.by_contra; intro hz; have := own_i0; have := own_i1; have := own_i2; have := own_j2147483647; have := own_i5; simp only [Int32.lt_iff_toInt_lt, ← Int32.toInt_inj] at hz hq224_13_0 hc59 hq219_3_1; omega) hq224_13_1
            · obtain ⟨_, _, ⟨T228, L228, k228, n228⟩, -, X228, ⟨Lc228, hQ228, l228, y228, z228⟩, st228⟩ := Jvm.LawKit.callS X221 hx (y := (⟨"com/example/fawley/fawley/protocol/CommandTakesPinLaw", "expected", "(II)Z"⟩ : MethodName)) hown (mvT hZ (own_w hw 13 rfl)) (mvT hZ (own_w hw 14 rfl)) (mvT hZ (own_w hw 15 rfl)) (mvT hZ (own_w hw 16 rfl)) (by decide) (backOf (W := 1) (rmExp l Z a0 hw [] ((p0_ &&& (2147483647 : Int32)) % (5 : Int32)) ((p2_ &&& (7 : Int32)) - (1 : Int32)) h0 n0 O0 ) hZ (own_w hw 16 rfl) (own_w hw 15 rfl) (by decide) (by decide)) (g := (mkF m 95 #[lvI p0_, lvI p1_, lvI p2_, lvI ((p0_ &&& (2147483647 : Int32)) % (5 : Int32)), lvR w_DEL, lvI ((p2_ &&& (7 : Int32)) - (1 : Int32))] [(.int ((p2_ &&& (7 : Int32)) - (1 : Int32))), (.int ((p0_ &&& (2147483647 : Int32)) % (5 : Int32))), (.int (0 : Int32))])) rfl (by rw [hml]; rfl) (argsL := [(.int ((p0_ &&& (2147483647 : Int32)) % (5 : Int32))), (.int ((p2_ &&& (7 : Int32)) - (1 : Int32)))]) (rest := [(.int (0 : Int32))]) (lenOf pd_1 rfl) rfl (by show 2 * 0 + _ ≤ _; exact Nat.le_of_eq rfl) (hb hby at_95) (fun _ _ => ⟨rfl, e221', (by decide : 0 + 0 ≤ _), (by decide : 0 + 0 ≤ _)⟩)
              dsimp only [Pt.U, Pt.locs, Pt.cells, Pt.slots] at X228 l228 y228 z228 st228 hQ228
              subst l228 y228 z228
              obtain ⟨h228, e228⟩ : ∃ z, T228.heap = z := ⟨_, rfl⟩
              rw [e228] at hQ228
              obtain ⟨rr228, rfl, hs228, N228q, hh228⟩ := hQ228
              have N229 := Fr.app N223 N228q
              have e228' : T228.heap = h0 := e228.trans hh228
              rcases hs228 with ⟨rfl, hq228_0_0, hq228_0_1⟩ | ⟨rfl, hq228_1_0, hq228_1_1⟩ | ⟨rfl, hq228_2_0, hq228_2_1, hq228_2_2⟩ | ⟨rfl, hq228_3_0, hq228_3_1, hq228_3_2⟩ | ⟨rfl, hq228_4_0, hq228_4_1, hq228_4_2, hq228_4_3⟩ | ⟨rfl, hq228_5_0, hq228_5_1, hq228_5_2, hq228_5_3, hq228_5_4⟩ | ⟨rfl, hq228_6_0, hq228_6_1, hq228_6_2, hq228_6_3, hq228_6_4, hq228_6_5⟩ | ⟨rfl, hq228_7_0, hq228_7_1, hq228_7_2, hq228_7_3, hq228_7_4, hq228_7_5, hq228_7_6⟩ | ⟨rfl, hq228_8_0, hq228_8_1, hq228_8_2, hq228_8_3, hq228_8_4, hq228_8_5, hq228_8_6⟩ | ⟨rfl, hq228_9_0, hq228_9_1, hq228_9_2, hq228_9_3, hq228_9_4⟩ | ⟨rfl, hq228_10_0, hq228_10_1, hq228_10_2, hq228_10_3, hq228_10_4⟩ | ⟨rfl, hq228_11_0, hq228_11_1, hq228_11_2, hq228_11_3, hq228_11_4⟩ | ⟨rfl, hq228_12_0, hq228_12_1, hq228_12_2, hq228_12_3, hq228_12_4, hq228_12_5⟩ | ⟨rfl, hq228_13_0, hq228_13_1, hq228_13_2, hq228_13_3, hq228_13_4, hq228_13_5⟩
              · exact absurd hq228_0_0 (by intro hz; have := own_i0; have := own_i1; have := own_i2; have := own_j2147483647; have := own_i5; simp only [Int32.lt_iff_toInt_lt, ← Int32.toInt_inj] at hz hq219_3_0 hc59 hq219_3_1; omega)
              · exact absurd hq228_1_0 (by intro hz; have := own_i0; have := own_i1; have := own_i2; have := own_j2147483647; have := own_i5; simp only [Int32.lt_iff_toInt_lt, ← Int32.toInt_inj] at hz hq219_3_0 hc59 hq219_3_1; omega)
              · exact absurd hq228_2_2 (by intro hz; have := own_i1; have := own_i7; simp only [Int32.lt_iff_toInt_lt, ← Int32.toInt_inj] at hz hq221_1_0 hq221_1_1; omega)
              · have pre230 : ∀ t, own_S p e below m T228 106 #[lvI p0_, lvI p1_, lvI p2_, lvI ((p0_ &&& (2147483647 : Int32)) % (5 : Int32)), lvR w_DEL, lvI ((p2_ &&& (7 : Int32)) - (1 : Int32))] [(.int (1 : Int32))] t → G t := by
                  intro t kt
                  refine pre196 t ?_
                  show own_S p e below m s₁ 34 #[lvI p0_, lvI p1_, lvI p2_, lvI ((p0_ &&& (2147483647 : Int32)) % (5 : Int32)), .unset, .unset] [(.int (2 : Int32)), (.int ((p0_ &&& (2147483647 : Int32)) % (5 : Int32)))] _
                  refine XS.icmpNo X0.here hx rfl (hb hby at_34) rfl (teq hc197).2 ?_
                  show own_S p e below m s₁ 37 #[lvI p0_, lvI p1_, lvI p2_, lvI ((p0_ &&& (2147483647 : Int32)) % (5 : Int32)), .unset, .unset] [] _
                  refine st198 _ ?_
                  refine XS.astore X198.here hx rfl (hb hby at_40) rfl rfl (l' := #[lvI p0_, lvI p1_, lvI p2_, lvI ((p0_ &&& (2147483647 : Int32)) % (5 : Int32)), lvR w_DEL, .unset]) rfl ?_
                  refine XS.goto X198.here hx rfl (pc0 := 42) (pc' := 63) rfl (hb hby at_42) (by decide) (by decide) ?_
                  refine XS.iloadN X198.here hx rfl (hb hby at_63) rfl ?_
                  refine XS.bipush X198.here hx rfl (hb hby at_64) ?_
                  refine XS.iand X198.here hx rfl (hb hby at_66) rfl ?_
                  show own_S p e below m T198 67 #[lvI p0_, lvI p1_, lvI p2_, lvI ((p0_ &&& (2147483647 : Int32)) % (5 : Int32)), lvR w_DEL, .unset] [(.int (p2_ &&& (7 : Int32)))] _
                  refine XS.iconst X198.here hx rfl (hb hby at_67) ?_
                  refine XS.isub X198.here hx rfl (hb hby at_68) rfl ?_
                  refine XS.istore X198.here hx rfl (hb hby at_69) rfl (l' := #[lvI p0_, lvI p1_, lvI p2_, lvI ((p0_ &&& (2147483647 : Int32)) % (5 : Int32)), lvR w_DEL, lvI ((p2_ &&& (7 : Int32)) - (1 : Int32))]) rfl ?_
                  refine XS.aload X198.here hx rfl (hb hby at_71) rfl rfl ?_
                  refine XS.iloadN X198.here hx rfl (hb hby at_73) rfl ?_
                  show own_S p e below m T198 74 #[lvI p0_, lvI p1_, lvI p2_, lvI ((p0_ &&& (2147483647 : Int32)) % (5 : Int32)), lvR w_DEL, lvI ((p2_ &&& (7 : Int32)) - (1 : Int32))] [(.int p1_), (.ref w_DEL)] _
                  refine st199.trans ?_
                  refine XS.iloadN X199.here hx rfl (hb hby at_77) rfl ?_
                  refine XS.iloadN X199.here hx rfl (hb hby at_78) rfl ?_
                  show own_S p e below m T199 79 #[lvI p0_, lvI p1_, lvI p2_, lvI ((p0_ &&& (2147483647 : Int32)) % (5 : Int32)), lvR w_DEL, lvI ((p2_ &&& (7 : Int32)) - (1 : Int32))] [(.int p1_), (.int ((p0_ &&& (2147483647 : Int32)) % (5 : Int32))), (.int (0 : Int32))] _
                  refine st219 _ ?_
                  show own_S p e below m T219 82 #[lvI p0_, lvI p1_, lvI p2_, lvI ((p0_ &&& (2147483647 : Int32)) % (5 : Int32)), lvR w_DEL, lvI ((p2_ &&& (7 : Int32)) - (1 : Int32))] [(.int (0 : Int32)), (.int (0 : Int32))] _
                  refine XS.icmpNo X219.here hx rfl (hb hby at_82) rfl (teq (by decide : (0 : Int32) = (0 : Int32))).2 ?_
                  refine XS.aload X219.here hx rfl (hb hby at_85) rfl rfl ?_
                  refine XS.iload X219.here hx rfl (hb hby at_87) rfl ?_
                  show own_S p e below m T219 89 #[lvI p0_, lvI p1_, lvI p2_, lvI ((p0_ &&& (2147483647 : Int32)) % (5 : Int32)), lvR w_DEL, lvI ((p2_ &&& (7 : Int32)) - (1 : Int32))] [(.int ((p2_ &&& (7 : Int32)) - (1 : Int32))), (.ref w_DEL)] _
                  refine st221.trans ?_
                  refine XS.iloadN X221.here hx rfl (hb hby at_92) rfl ?_
                  refine XS.iload X221.here hx rfl (hb hby at_93) rfl ?_
                  show own_S p e below m T221 95 #[lvI p0_, lvI p1_, lvI p2_, lvI ((p0_ &&& (2147483647 : Int32)) % (5 : Int32)), lvR w_DEL, lvI ((p2_ &&& (7 : Int32)) - (1 : Int32))] [(.int ((p2_ &&& (7 : Int32)) - (1 : Int32))), (.int ((p0_ &&& (2147483647 : Int32)) % (5 : Int32))), (.int (0 : Int32))] _
                  refine st228 _ ?_
                  show own_S p e below m T228 98 #[lvI p0_, lvI p1_, lvI p2_, lvI ((p0_ &&& (2147483647 : Int32)) % (5 : Int32)), lvR w_DEL, lvI ((p2_ &&& (7 : Int32)) - (1 : Int32))] [(.int (0 : Int32)), (.int (0 : Int32))] _
                  refine XS.icmpNo X228.here hx rfl (hb hby at_98) rfl (teq (by decide : (0 : Int32) = (0 : Int32))).2 ?_
                  refine XS.iconst X228.here hx rfl (hb hby at_101) ?_
                  refine XS.goto X228.here hx rfl (pc0 := 102) (pc' := 106) rfl (hb hby at_102) (by decide) (by decide) ?_
                  exact kt
                obtain ⟨fs, hr, hrun, hended, hW, hsame⟩ := X228.leave (v := some (.int (1 : Int32))) (fun h => by rw [Bd.returns] at h; cases h)
                refine ⟨_, _, hG _ (pre230 _ (retN X228 hx (t := .boolean) Bd.returns (by simp) (hb hby at_106) hr)), hrun, hended, _, _, rfl, ?_, ⟨_, rfl⟩, hW, hsame.mono (by decide) (by decide)⟩
                show QLaw Z p0_ p1_ p2_ w_GET w_SET w_DEL w_VDEL w_KEYNOTIFY h0 n0 _ T228.heap _
                rw [e228']
                exact ⟨rfl, N229⟩
              · exact absurd hq228_4_2 (by intro hz; have := own_i0; have := own_i1; have := own_i2; have := own_j2147483647; have := own_i5; simp only [Int32.lt_iff_toInt_lt, ← Int32.toInt_inj] at hz hq228_4_0 hc59 hq219_3_1 hq228_4_1; omega)
              · exact absurd hq228_5_2 (by intro hz; have := own_i0; have := own_i1; have := own_i2; have := own_j2147483647; have := own_i5; simp only [Int32.lt_iff_toInt_lt, ← Int32.toInt_inj] at hz hq228_5_0 hc59 hq219_3_1 hq228_5_1; omega)
              · exact absurd hq228_6_2 (by intro hz; have := own_i0; have := own_i1; have := own_i2; have := own_j2147483647; have := own_i5; simp only [Int32.lt_iff_toInt_lt, ← Int32.toInt_inj] at hz hq228_6_0 hc59 hq219_3_1 hq228_6_1; omega)
              · exact absurd hq228_7_2 (by intro hz; have := own_i0; have := own_i1; have := own_i2; have := own_j2147483647; have := own_i5; simp only [Int32.lt_iff_toInt_lt, ← Int32.toInt_inj] at hz hq228_7_0 hc59 hq219_3_1 hq228_7_1; omega)
              · exact absurd hq228_8_2 (by intro hz; have := own_i0; have := own_i1; have := own_i2; have := own_j2147483647; have := own_i5; simp only [Int32.lt_iff_toInt_lt, ← Int32.toInt_inj] at hz hq228_8_0 hc59 hq219_3_1 hq228_8_1; omega)
              · exact absurd hq228_9_3 (by intro hz; have := own_i0; have := own_i1; have := own_i2; have := own_j2147483647; have := own_i3; have := own_i5; simp only [Int32.lt_iff_toInt_lt, ← Int32.toInt_inj] at hz hq228_9_0 hq228_9_2 hq219_3_1 hq228_9_1; omega)
              · exact absurd hq228_10_3 (by intro hz; have := own_i0; have := own_i1; have := own_i2; have := own_j2147483647; have := own_i3; have := own_i5; simp only [Int32.lt_iff_toInt_lt, ← Int32.toInt_inj] at hz hq228_10_0 hq228_10_2 hq219_3_1 hq228_10_1; omega)
              · exact absurd (by apply Decidable.by_contra; intro hz; have := own_i0; have := own_i1; have := own_i2; have := own_j2147483647; have := own_i5; simp only [Int32.lt_iff_toInt_lt, ← Int32.toInt_inj] at hz hq228_11_0 hc59 hq219_3_1; omega) hq228_11_1
              · exact absurd (by apply Decidable.by_contra; intro hz; have := own_i0; have := own_i1; have := own_i2; have := own_j2147483647; have := own_i5; simp only [Int32.lt_iff_toInt_lt, ← Int32.toInt_inj] at hz hq228_12_0 hc59 hq219_3_1; omega) hq228_12_1
              · exact absurd (by apply Decidable.by_contra; intro hz; have := own_i0; have := own_i1; have := own_i2; have := own_j2147483647; have := own_i5; simp only [Int32.lt_iff_toInt_lt, ← Int32.toInt_inj] at hz hq228_13_0 hc59 hq219_3_1; omega) hq228_13_1
            · obtain ⟨_, _, ⟨T232, L232, k232, n232⟩, -, X232, ⟨Lc232, hQ232, l232, y232, z232⟩, st232⟩ := Jvm.LawKit.callS X221 hx (y := (⟨"com/example/fawley/fawley/protocol/CommandTakesPinLaw", "expected", "(II)Z"⟩ : MethodName)) hown (mvT hZ (own_w hw 13 rfl)) (mvT hZ (own_w hw 14 rfl)) (mvT hZ (own_w hw 15 rfl)) (mvT hZ (own_w hw 16 rfl)) (by decide) (backOf (W := 1) (rmExp l Z a0 hw [] ((p0_ &&& (2147483647 : Int32)) % (5 : Int32)) ((p2_ &&& (7 : Int32)) - (1 : Int32)) h0 n0 O0 ) hZ (own_w hw 16 rfl) (own_w hw 15 rfl) (by decide) (by decide)) (g := (mkF m 95 #[lvI p0_, lvI p1_, lvI p2_, lvI ((p0_ &&& (2147483647 : Int32)) % (5 : Int32)), lvR w_DEL, lvI ((p2_ &&& (7 : Int32)) - (1 : Int32))] [(.int ((p2_ &&& (7 : Int32)) - (1 : Int32))), (.int ((p0_ &&& (2147483647 : Int32)) % (5 : Int32))), (.int (1 : Int32))])) rfl (by rw [hml]; rfl) (argsL := [(.int ((p0_ &&& (2147483647 : Int32)) % (5 : Int32))), (.int ((p2_ &&& (7 : Int32)) - (1 : Int32)))]) (rest := [(.int (1 : Int32))]) (lenOf pd_1 rfl) rfl (by show 2 * 0 + _ ≤ _; exact Nat.le_of_eq rfl) (hb hby at_95) (fun _ _ => ⟨rfl, e221', (by decide : 0 + 0 ≤ _), (by decide : 0 + 0 ≤ _)⟩)
              dsimp only [Pt.U, Pt.locs, Pt.cells, Pt.slots] at X232 l232 y232 z232 st232 hQ232
              subst l232 y232 z232
              obtain ⟨h232, e232⟩ : ∃ z, T232.heap = z := ⟨_, rfl⟩
              rw [e232] at hQ232
              obtain ⟨rr232, rfl, hs232, N232q, hh232⟩ := hQ232
              have N233 := Fr.app N223 N232q
              have e232' : T232.heap = h0 := e232.trans hh232
              rcases hs232 with ⟨rfl, hq232_0_0, hq232_0_1⟩ | ⟨rfl, hq232_1_0, hq232_1_1⟩ | ⟨rfl, hq232_2_0, hq232_2_1, hq232_2_2⟩ | ⟨rfl, hq232_3_0, hq232_3_1, hq232_3_2⟩ | ⟨rfl, hq232_4_0, hq232_4_1, hq232_4_2, hq232_4_3⟩ | ⟨rfl, hq232_5_0, hq232_5_1, hq232_5_2, hq232_5_3, hq232_5_4⟩ | ⟨rfl, hq232_6_0, hq232_6_1, hq232_6_2, hq232_6_3, hq232_6_4, hq232_6_5⟩ | ⟨rfl, hq232_7_0, hq232_7_1, hq232_7_2, hq232_7_3, hq232_7_4, hq232_7_5, hq232_7_6⟩ | ⟨rfl, hq232_8_0, hq232_8_1, hq232_8_2, hq232_8_3, hq232_8_4, hq232_8_5, hq232_8_6⟩ | ⟨rfl, hq232_9_0, hq232_9_1, hq232_9_2, hq232_9_3, hq232_9_4⟩ | ⟨rfl, hq232_10_0, hq232_10_1, hq232_10_2, hq232_10_3, hq232_10_4⟩ | ⟨rfl, hq232_11_0, hq232_11_1, hq232_11_2, hq232_11_3, hq232_11_4⟩ | ⟨rfl, hq232_12_0, hq232_12_1, hq232_12_2, hq232_12_3, hq232_12_4, hq232_12_5⟩ | ⟨rfl, hq232_13_0, hq232_13_1, hq232_13_2, hq232_13_3, hq232_13_4, hq232_13_5⟩
              · exact absurd hq232_0_0 (by intro hz; have := own_i0; have := own_i1; have := own_i2; have := own_j2147483647; have := own_i5; simp only [Int32.lt_iff_toInt_lt, ← Int32.toInt_inj] at hz hq219_3_0 hc59 hq219_3_1; omega)
              · exact absurd hq232_1_0 (by intro hz; have := own_i0; have := own_i1; have := own_i2; have := own_j2147483647; have := own_i5; simp only [Int32.lt_iff_toInt_lt, ← Int32.toInt_inj] at hz hq219_3_0 hc59 hq219_3_1; omega)
              · have pre234 : ∀ t, own_S p e below m T232 106 #[lvI p0_, lvI p1_, lvI p2_, lvI ((p0_ &&& (2147483647 : Int32)) % (5 : Int32)), lvR w_DEL, lvI ((p2_ &&& (7 : Int32)) - (1 : Int32))] [(.int (1 : Int32))] t → G t := by
                  intro t kt
                  refine pre196 t ?_
                  show own_S p e below m s₁ 34 #[lvI p0_, lvI p1_, lvI p2_, lvI ((p0_ &&& (2147483647 : Int32)) % (5 : Int32)), .unset, .unset] [(.int (2 : Int32)), (.int ((p0_ &&& (2147483647 : Int32)) % (5 : Int32)))] _
                  refine XS.icmpNo X0.here hx rfl (hb hby at_34) rfl (teq hc197).2 ?_
                  show own_S p e below m s₁ 37 #[lvI p0_, lvI p1_, lvI p2_, lvI ((p0_ &&& (2147483647 : Int32)) % (5 : Int32)), .unset, .unset] [] _
                  refine st198 _ ?_
                  refine XS.astore X198.here hx rfl (hb hby at_40) rfl rfl (l' := #[lvI p0_, lvI p1_, lvI p2_, lvI ((p0_ &&& (2147483647 : Int32)) % (5 : Int32)), lvR w_DEL, .unset]) rfl ?_
                  refine XS.goto X198.here hx rfl (pc0 := 42) (pc' := 63) rfl (hb hby at_42) (by decide) (by decide) ?_
                  refine XS.iloadN X198.here hx rfl (hb hby at_63) rfl ?_
                  refine XS.bipush X198.here hx rfl (hb hby at_64) ?_
                  refine XS.iand X198.here hx rfl (hb hby at_66) rfl ?_
                  show own_S p e below m T198 67 #[lvI p0_, lvI p1_, lvI p2_, lvI ((p0_ &&& (2147483647 : Int32)) % (5 : Int32)), lvR w_DEL, .unset] [(.int (p2_ &&& (7 : Int32)))] _
                  refine XS.iconst X198.here hx rfl (hb hby at_67) ?_
                  refine XS.isub X198.here hx rfl (hb hby at_68) rfl ?_
                  refine XS.istore X198.here hx rfl (hb hby at_69) rfl (l' := #[lvI p0_, lvI p1_, lvI p2_, lvI ((p0_ &&& (2147483647 : Int32)) % (5 : Int32)), lvR w_DEL, lvI ((p2_ &&& (7 : Int32)) - (1 : Int32))]) rfl ?_
                  refine XS.aload X198.here hx rfl (hb hby at_71) rfl rfl ?_
                  refine XS.iloadN X198.here hx rfl (hb hby at_73) rfl ?_
                  show own_S p e below m T198 74 #[lvI p0_, lvI p1_, lvI p2_, lvI ((p0_ &&& (2147483647 : Int32)) % (5 : Int32)), lvR w_DEL, lvI ((p2_ &&& (7 : Int32)) - (1 : Int32))] [(.int p1_), (.ref w_DEL)] _
                  refine st199.trans ?_
                  refine XS.iloadN X199.here hx rfl (hb hby at_77) rfl ?_
                  refine XS.iloadN X199.here hx rfl (hb hby at_78) rfl ?_
                  show own_S p e below m T199 79 #[lvI p0_, lvI p1_, lvI p2_, lvI ((p0_ &&& (2147483647 : Int32)) % (5 : Int32)), lvR w_DEL, lvI ((p2_ &&& (7 : Int32)) - (1 : Int32))] [(.int p1_), (.int ((p0_ &&& (2147483647 : Int32)) % (5 : Int32))), (.int (0 : Int32))] _
                  refine st219 _ ?_
                  show own_S p e below m T219 82 #[lvI p0_, lvI p1_, lvI p2_, lvI ((p0_ &&& (2147483647 : Int32)) % (5 : Int32)), lvR w_DEL, lvI ((p2_ &&& (7 : Int32)) - (1 : Int32))] [(.int (0 : Int32)), (.int (0 : Int32))] _
                  refine XS.icmpNo X219.here hx rfl (hb hby at_82) rfl (teq (by decide : (0 : Int32) = (0 : Int32))).2 ?_
                  refine XS.aload X219.here hx rfl (hb hby at_85) rfl rfl ?_
                  refine XS.iload X219.here hx rfl (hb hby at_87) rfl ?_
                  show own_S p e below m T219 89 #[lvI p0_, lvI p1_, lvI p2_, lvI ((p0_ &&& (2147483647 : Int32)) % (5 : Int32)), lvR w_DEL, lvI ((p2_ &&& (7 : Int32)) - (1 : Int32))] [(.int ((p2_ &&& (7 : Int32)) - (1 : Int32))), (.ref w_DEL)] _
                  refine st221.trans ?_
                  refine XS.iloadN X221.here hx rfl (hb hby at_92) rfl ?_
                  refine XS.iload X221.here hx rfl (hb hby at_93) rfl ?_
                  show own_S p e below m T221 95 #[lvI p0_, lvI p1_, lvI p2_, lvI ((p0_ &&& (2147483647 : Int32)) % (5 : Int32)), lvR w_DEL, lvI ((p2_ &&& (7 : Int32)) - (1 : Int32))] [(.int ((p2_ &&& (7 : Int32)) - (1 : Int32))), (.int ((p0_ &&& (2147483647 : Int32)) % (5 : Int32))), (.int (1 : Int32))] _
                  refine st232 _ ?_
                  show own_S p e below m T232 98 #[lvI p0_, lvI p1_, lvI p2_, lvI ((p0_ &&& (2147483647 : Int32)) % (5 : Int32)), lvR w_DEL, lvI ((p2_ &&& (7 : Int32)) - (1 : Int32))] [(.int (1 : Int32)), (.int (1 : Int32))] _
                  refine XS.icmpNo X232.here hx rfl (hb hby at_98) rfl (teq (by decide : (1 : Int32) = (1 : Int32))).2 ?_
                  refine XS.iconst X232.here hx rfl (hb hby at_101) ?_
                  refine XS.goto X232.here hx rfl (pc0 := 102) (pc' := 106) rfl (hb hby at_102) (by decide) (by decide) ?_
                  exact kt
                obtain ⟨fs, hr, hrun, hended, hW, hsame⟩ := X232.leave (v := some (.int (1 : Int32))) (fun h => by rw [Bd.returns] at h; cases h)
                refine ⟨_, _, hG _ (pre234 _ (retN X232 hx (t := .boolean) Bd.returns (by simp) (hb hby at_106) hr)), hrun, hended, _, _, rfl, ?_, ⟨_, rfl⟩, hW, hsame.mono (by decide) (by decide)⟩
                show QLaw Z p0_ p1_ p2_ w_GET w_SET w_DEL w_VDEL w_KEYNOTIFY h0 n0 _ T232.heap _
                rw [e232']
                exact ⟨rfl, N233⟩
              · exact absurd (by apply Decidable.by_contra; intro hz; have := own_i1; have := own_i7; simp only [Int32.lt_iff_toInt_lt, ← Int32.toInt_inj] at hz hq221_2_0 hq221_2_1; omega) hq232_3_2
              · exact absurd hq232_4_2 (by intro hz; have := own_i0; have := own_i1; have := own_i2; have := own_j2147483647; have := own_i5; simp only [Int32.lt_iff_toInt_lt, ← Int32.toInt_inj] at hz hq232_4_0 hc59 hq219_3_1 hq232_4_1; omega)
              · exact absurd hq232_5_2 (by intro hz; have := own_i0; have := own_i1; have := own_i2; have := own_j2147483647; have := own_i5; simp only [Int32.lt_iff_toInt_lt, ← Int32.toInt_inj] at hz hq232_5_0 hc59 hq219_3_1 hq232_5_1; omega)
              · exact absurd hq232_6_2 (by intro hz; have := own_i0; have := own_i1; have := own_i2; have := own_j2147483647; have := own_i5; simp only [Int32.lt_iff_toInt_lt, ← Int32.toInt_inj] at hz hq232_6_0 hc59 hq219_3_1 hq232_6_1; omega)
              · exact absurd hq232_7_2 (by intro hz; have := own_i0; have := own_i1; have := own_i2; have := own_j2147483647; have := own_i5; simp only [Int32.lt_iff_toInt_lt, ← Int32.toInt_inj] at hz hq232_7_0 hc59 hq219_3_1 hq232_7_1; omega)
              · exact absurd hq232_8_2 (by intro hz; have := own_i0; have := own_i1; have := own_i2; have := own_j2147483647; have := own_i5; simp only [Int32.lt_iff_toInt_lt, ← Int32.toInt_inj] at hz hq232_8_0 hc59 hq219_3_1 hq232_8_1; omega)
              · exact absurd hq232_9_3 (by intro hz; have := own_i0; have := own_i1; have := own_i2; have := own_j2147483647; have := own_i3; have := own_i5; simp only [Int32.lt_iff_toInt_lt, ← Int32.toInt_inj] at hz hq232_9_0 hq232_9_2 hq219_3_1 hq232_9_1; omega)
              · exact absurd hq232_10_3 (by intro hz; have := own_i0; have := own_i1; have := own_i2; have := own_j2147483647; have := own_i3; have := own_i5; simp only [Int32.lt_iff_toInt_lt, ← Int32.toInt_inj] at hz hq232_10_0 hq232_10_2 hq219_3_1 hq232_10_1; omega)
              · exact absurd (by apply Decidable.by_contra; intro hz; have := own_i0; have := own_i1; have := own_i2; have := own_j2147483647; have := own_i5; simp only [Int32.lt_iff_toInt_lt, ← Int32.toInt_inj] at hz hq232_11_0 hc59 hq219_3_1; omega) hq232_11_1
              · exact absurd (by apply Decidable.by_contra; intro hz; have := own_i0; have := own_i1; have := own_i2; have := own_j2147483647; have := own_i5; simp only [Int32.lt_iff_toInt_lt, ← Int32.toInt_inj] at hz hq232_12_0 hc59 hq219_3_1; omega) hq232_12_1
              · exact absurd (by apply Decidable.by_contra; intro hz; have := own_i0; have := own_i1; have := own_i2; have := own_j2147483647; have := own_i5; simp only [Int32.lt_iff_toInt_lt, ← Int32.toInt_inj] at hz hq232_13_0 hc59 hq219_3_1; omega) hq232_13_1
          · exact absurd hq219_4_2 (by intro hz; have := own_i0; have := own_i1; have := own_i2; have := own_j2147483647; have := own_i5; simp only [Int32.lt_iff_toInt_lt, ← Int32.toInt_inj] at hz hq219_4_0 hc59 hc197 hq219_4_1; omega)
          · exact absurd hq219_5_2 (by intro hz; have := own_i0; have := own_i1; have := own_i2; have := own_j2147483647; have := own_i5; simp only [Int32.lt_iff_toInt_lt, ← Int32.toInt_inj] at hz hq219_5_0 hc59 hc197 hq219_5_1; omega)
          · exact absurd hq219_6_2 (by intro hz; have := own_i0; have := own_i1; have := own_i2; have := own_j2147483647; have := own_i5; simp only [Int32.lt_iff_toInt_lt, ← Int32.toInt_inj] at hz hq219_6_0 hc59 hc197 hq219_6_1; omega)
          · exact absurd hq219_7_2 (by intro hz; have := own_i0; have := own_i1; have := own_i2; have := own_j2147483647; have := own_i5; simp only [Int32.lt_iff_toInt_lt, ← Int32.toInt_inj] at hz hq219_7_0 hc59 hc197 hq219_7_1; omega)
          · exact absurd hq219_8_2 (by intro hz; have := own_i0; have := own_i1; have := own_i2; have := own_j2147483647; have := own_i5; simp only [Int32.lt_iff_toInt_lt, ← Int32.toInt_inj] at hz hq219_8_0 hc59 hc197 hq219_8_1; omega)
          · exact absurd hq219_9_3 (by intro hz; have := own_i0; have := own_i1; have := own_i2; have := own_j2147483647; have := own_i3; have := own_i5; simp only [Int32.lt_iff_toInt_lt, ← Int32.toInt_inj] at hz hq219_9_0 hq219_9_2 hc197 hq219_9_1; omega)
          · exact absurd hq219_10_3 (by intro hz; have := own_i0; have := own_i1; have := own_i2; have := own_j2147483647; have := own_i3; have := own_i5; simp only [Int32.lt_iff_toInt_lt, ← Int32.toInt_inj] at hz hq219_10_0 hq219_10_2 hc197 hq219_10_1; omega)
          · exact absurd (by apply Decidable.by_contra; intro hz; have := own_i0; have := own_i1; have := own_i2; have := own_j2147483647; have := own_i5; simp only [Int32.lt_iff_toInt_lt, ← Int32.toInt_inj] at hz hq219_11_0 hc59 hc197; omega) hq219_11_1
          · exact absurd (by apply Decidable.by_contra; intro hz; have := own_i0; have := own_i1; have := own_i2; have := own_j2147483647; have := own_i5; simp only [Int32.lt_iff_toInt_lt, ← Int32.toInt_inj] at hz hq219_12_0 hc59 hc197; omega) hq219_12_1
          · exact absurd (by apply Decidable.by_contra; intro hz; have := own_i0; have := own_i1; have := own_i2; have := own_j2147483647; have := own_i5; simp only [Int32.lt_iff_toInt_lt, ← Int32.toInt_inj] at hz hq219_13_0 hc59 hc197; omega) hq219_13_1
        · obtain ⟨_, _, ⟨T236, L236, k236, n236⟩, -, X236, ⟨Lc236, hQ236, l236, y236, z236⟩, st236⟩ := Jvm.LawKit.callS X199 hx (y := (⟨"com/example/fawley/fawley/protocol/CommandTakesPinLaw", "expected", "(II)Z"⟩ : MethodName)) hown (mvT hZ (own_w hw 13 rfl)) (mvT hZ (own_w hw 14 rfl)) (mvT hZ (own_w hw 15 rfl)) (mvT hZ (own_w hw 16 rfl)) (by decide) (backOf (W := 1) (rmExp l Z a0 hw [] ((p0_ &&& (2147483647 : Int32)) % (5 : Int32)) p1_ h0 n0 O0 ) hZ (own_w hw 16 rfl) (own_w hw 15 rfl) (by decide) (by decide)) (g := (mkF m 79 #[lvI p0_, lvI p1_, lvI p2_, lvI ((p0_ &&& (2147483647 : Int32)) % (5 : Int32)), lvR w_DEL, lvI ((p2_ &&& (7 : Int32)) - (1 : Int32))] [(.int p1_), (.int ((p0_ &&& (2147483647 : Int32)) % (5 : Int32))), (.int (1 : Int32))])) rfl (by rw [hml]; rfl) (argsL := [(.int ((p0_ &&& (2147483647 : Int32)) % (5 : Int32))), (.int p1_)]) (rest := [(.int (1 : Int32))]) (lenOf pd_1 rfl) rfl (by show 2 * 0 + _ ≤ _; exact Nat.le_of_eq rfl) (hb hby at_79) (fun _ _ => ⟨rfl, e199', (by decide : 0 + 0 ≤ _), (by decide : 0 + 0 ≤ _)⟩)
          dsimp only [Pt.U, Pt.locs, Pt.cells, Pt.slots] at X236 l236 y236 z236 st236 hQ236
          subst l236 y236 z236
          obtain ⟨h236, e236⟩ : ∃ z, T236.heap = z := ⟨_, rfl⟩
          rw [e236] at hQ236
          obtain ⟨rr236, rfl, hs236, N236q, hh236⟩ := hQ236
          have N237 := Fr.app N201 N236q
          have e236' : T236.heap = h0 := e236.trans hh236
          rcases hs236 with ⟨rfl, hq236_0_0, hq236_0_1⟩ | ⟨rfl, hq236_1_0, hq236_1_1⟩ | ⟨rfl, hq236_2_0, hq236_2_1, hq236_2_2⟩ | ⟨rfl, hq236_3_0, hq236_3_1, hq236_3_2⟩ | ⟨rfl, hq236_4_0, hq236_4_1, hq236_4_2, hq236_4_3⟩ | ⟨rfl, hq236_5_0, hq236_5_1, hq236_5_2, hq236_5_3, hq236_5_4⟩ | ⟨rfl, hq236_6_0, hq236_6_1, hq236_6_2, hq236_6_3, hq236_6_4, hq236_6_5⟩ | ⟨rfl, hq236_7_0, hq236_7_1, hq236_7_2, hq236_7_3, hq236_7_4, hq236_7_5, hq236_7_6⟩ | ⟨rfl, hq236_8_0, hq236_8_1, hq236_8_2, hq236_8_3, hq236_8_4, hq236_8_5, hq236_8_6⟩ | ⟨rfl, hq236_9_0, hq236_9_1, hq236_9_2, hq236_9_3, hq236_9_4⟩ | ⟨rfl, hq236_10_0, hq236_10_1, hq236_10_2, hq236_10_3, hq236_10_4⟩ | ⟨rfl, hq236_11_0, hq236_11_1, hq236_11_2, hq236_11_3, hq236_11_4⟩ | ⟨rfl, hq236_12_0, hq236_12_1, hq236_12_2, hq236_12_3, hq236_12_4, hq236_12_5⟩ | ⟨rfl, hq236_13_0, hq236_13_1, hq236_13_2, hq236_13_3, hq236_13_4, hq236_13_5⟩
          · exact absurd hq236_0_0 (by intro hz; have := own_i0; have := own_i1; have := own_i2; have := own_j2147483647; have := own_i5; simp only [Int32.lt_iff_toInt_lt, ← Int32.toInt_inj] at hz hc2 hc59 hc197; omega)
          · exact absurd hq236_1_0 (by intro hz; have := own_i0; have := own_i1; have := own_i2; have := own_j2147483647; have := own_i5; simp only [Int32.lt_iff_toInt_lt, ← Int32.toInt_inj] at hz hc2 hc59 hc197; omega)
          · have f239 : Exa Z h0 w_DEL cn0 := P9.ext O0.2
            obtain ⟨cq238, kq238, q238a, q238b, q238c⟩ := isOf hZ e236' f239
            obtain ⟨_, _, ⟨T238, L238, k238, n238⟩, -, X238, ⟨Lc238, hQ238, l238, y238, z238⟩, st238⟩ := X236.virtualBack hx (y := (⟨"com/example/fawley/fawley/protocol/Command", "takes", "(I)Z"⟩ : MethodName)) (z := (⟨"com/example/fawley/fawley/protocol/Command", "takes", "(I)Z"⟩ : MethodName)) hown (mvT hZ (own_w hw 4 rfl)) (mvT hZ (own_w hw 5 rfl)) (notFace_of_selects (args := #[]) (mvT hZ (own_w hw 7 rfl))) (mvT hZ (own_w hw 7 rfl)) (mvT hZ (own_w hw 6 rfl)) (by decide) (backOf (W := 0) (rmTak l Z a0 hw [] w_DEL ((p2_ &&& (7 : Int32)) - (1 : Int32)) (1 : Int32) (1 : Int32) h0 n0 O0 P10 P11) hZ (own_w hw 8 rfl) (own_w hw 2 rfl) (by decide) (by decide)) q238a q238c (g := (mkF m 89 #[lvI p0_, lvI p1_, lvI p2_, lvI ((p0_ &&& (2147483647 : Int32)) % (5 : Int32)), lvR w_DEL, lvI ((p2_ &&& (7 : Int32)) - (1 : Int32))] [(.int ((p2_ &&& (7 : Int32)) - (1 : Int32))), (.ref w_DEL)])) rfl (by rw [hml]; rfl) (Steps.refl _) (argsL := [(.int ((p2_ &&& (7 : Int32)) - (1 : Int32)))]) (rest := []) (lenOf pd_0 rfl) rfl (by show 2 * 0 + _ ≤ _; exact Nat.le_of_eq rfl) (hb hby at_89) (fun _ _ => ⟨rfl, e236', (by decide : 0 + 0 ≤ _), (by decide : 0 + 0 ≤ _)⟩)
            dsimp only [Pt.U, Pt.locs, Pt.cells, Pt.slots] at X238 l238 y238 z238 st238 hQ238
            subst l238 y238 z238
            obtain ⟨h238, e238⟩ : ∃ z, T238.heap = z := ⟨_, rfl⟩
            rw [e238] at hQ238
            obtain ⟨rr238, rfl, hs238, N238q, hh238⟩ := hQ238
            have N240 := Fr.app N237 N238q
            have e238' : T238.heap = h0 := e238.trans hh238
            rcases hs238 with ⟨rfl, hq238_0_0⟩ | ⟨rfl, hq238_1_0, hq238_1_1⟩ | ⟨rfl, hq238_2_0, hq238_2_1⟩
            · obtain ⟨_, _, ⟨T241, L241, k241, n241⟩, -, X241, ⟨Lc241, hQ241, l241, y241, z241⟩, st241⟩ := Jvm.LawKit.callS X238 hx (y := (⟨"com/example/fawley/fawley/protocol/CommandTakesPinLaw", "expected", "(II)Z"⟩ : MethodName)) hown (mvT hZ (own_w hw 13 rfl)) (mvT hZ (own_w hw 14 rfl)) (mvT hZ (own_w hw 15 rfl)) (mvT hZ (own_w hw 16 rfl)) (by decide) (backOf (W := 1) (rmExp l Z a0 hw [] ((p0_ &&& (2147483647 : Int32)) % (5 : Int32)) ((p2_ &&& (7 : Int32)) - (1 : Int32)) h0 n0 O0 ) hZ (own_w hw 16 rfl) (own_w hw 15 rfl) (by decide) (by decide)) (g := (mkF m 95 #[lvI p0_, lvI p1_, lvI p2_, lvI ((p0_ &&& (2147483647 : Int32)) % (5 : Int32)), lvR w_DEL, lvI ((p2_ &&& (7 : Int32)) - (1 : Int32))] [(.int ((p2_ &&& (7 : Int32)) - (1 : Int32))), (.int ((p0_ &&& (2147483647 : Int32)) % (5 : Int32))), (.int (0 : Int32))])) rfl (by rw [hml]; rfl) (argsL := [(.int ((p0_ &&& (2147483647 : Int32)) % (5 : Int32))), (.int ((p2_ &&& (7 : Int32)) - (1 : Int32)))]) (rest := [(.int (0 : Int32))]) (lenOf pd_1 rfl) rfl (by show 2 * 0 + _ ≤ _; exact Nat.le_of_eq rfl) (hb hby at_95) (fun _ _ => ⟨rfl, e238', (by decide : 0 + 0 ≤ _), (by decide : 0 + 0 ≤ _)⟩)
              dsimp only [Pt.U, Pt.locs, Pt.cells, Pt.slots] at X241 l241 y241 z241 st241 hQ241
              subst l241 y241 z241
              obtain ⟨h241, e241⟩ : ∃ z, T241.heap = z := ⟨_, rfl⟩
              rw [e241] at hQ241
              obtain ⟨rr241, rfl, hs241, N241q, hh241⟩ := hQ241
              have N242 := Fr.app N240 N241q
              have e241' : T241.heap = h0 := e241.trans hh241
              rcases hs241 with ⟨rfl, hq241_0_0, hq241_0_1⟩ | ⟨rfl, hq241_1_0, hq241_1_1⟩ | ⟨rfl, hq241_2_0, hq241_2_1, hq241_2_2⟩ | ⟨rfl, hq241_3_0, hq241_3_1, hq241_3_2⟩ | ⟨rfl, hq241_4_0, hq241_4_1, hq241_4_2, hq241_4_3⟩ | ⟨rfl, hq241_5_0, hq241_5_1, hq241_5_2, hq241_5_3, hq241_5_4⟩ | ⟨rfl, hq241_6_0, hq241_6_1, hq241_6_2, hq241_6_3, hq241_6_4, hq241_6_5⟩ | ⟨rfl, hq241_7_0, hq241_7_1, hq241_7_2, hq241_7_3, hq241_7_4, hq241_7_5, hq241_7_6⟩ | ⟨rfl, hq241_8_0, hq241_8_1, hq241_8_2, hq241_8_3, hq241_8_4, hq241_8_5, hq241_8_6⟩ | ⟨rfl, hq241_9_0, hq241_9_1, hq241_9_2, hq241_9_3, hq241_9_4⟩ | ⟨rfl, hq241_10_0, hq241_10_1, hq241_10_2, hq241_10_3, hq241_10_4⟩ | ⟨rfl, hq241_11_0, hq241_11_1, hq241_11_2, hq241_11_3, hq241_11_4⟩ | ⟨rfl, hq241_12_0, hq241_12_1, hq241_12_2, hq241_12_3, hq241_12_4, hq241_12_5⟩ | ⟨rfl, hq241_13_0, hq241_13_1, hq241_13_2, hq241_13_3, hq241_13_4, hq241_13_5⟩
              · exact absurd hq241_0_0 (by intro hz; have := own_i0; have := own_i1; have := own_i2; have := own_j2147483647; have := own_i5; simp only [Int32.lt_iff_toInt_lt, ← Int32.toInt_inj] at hz hq236_2_0 hc59 hq236_2_1; omega)
              · exact absurd hq241_1_0 (by intro hz; have := own_i0; have := own_i1; have := own_i2; have := own_j2147483647; have := own_i5; simp only [Int32.lt_iff_toInt_lt, ← Int32.toInt_inj] at hz hq236_2_0 hc59 hq236_2_1; omega)
              · exact absurd hq241_2_2 (by intro hz; have := own_i1; have := own_i7; simp only [Int32.lt_iff_toInt_lt, ← Int32.toInt_inj] at hz hq238_0_0; omega)
              · have pre243 : ∀ t, own_S p e below m T241 106 #[lvI p0_, lvI p1_, lvI p2_, lvI ((p0_ &&& (2147483647 : Int32)) % (5 : Int32)), lvR w_DEL, lvI ((p2_ &&& (7 : Int32)) - (1 : Int32))] [(.int (1 : Int32))] t → G t := by
                  intro t kt
                  refine pre196 t ?_
                  show own_S p e below m s₁ 34 #[lvI p0_, lvI p1_, lvI p2_, lvI ((p0_ &&& (2147483647 : Int32)) % (5 : Int32)), .unset, .unset] [(.int (2 : Int32)), (.int ((p0_ &&& (2147483647 : Int32)) % (5 : Int32)))] _
                  refine XS.icmpNo X0.here hx rfl (hb hby at_34) rfl (teq hc197).2 ?_
                  show own_S p e below m s₁ 37 #[lvI p0_, lvI p1_, lvI p2_, lvI ((p0_ &&& (2147483647 : Int32)) % (5 : Int32)), .unset, .unset] [] _
                  refine st198 _ ?_
                  refine XS.astore X198.here hx rfl (hb hby at_40) rfl rfl (l' := #[lvI p0_, lvI p1_, lvI p2_, lvI ((p0_ &&& (2147483647 : Int32)) % (5 : Int32)), lvR w_DEL, .unset]) rfl ?_
                  refine XS.goto X198.here hx rfl (pc0 := 42) (pc' := 63) rfl (hb hby at_42) (by decide) (by decide) ?_
                  refine XS.iloadN X198.here hx rfl (hb hby at_63) rfl ?_
                  refine XS.bipush X198.here hx rfl (hb hby at_64) ?_
                  refine XS.iand X198.here hx rfl (hb hby at_66) rfl ?_
                  show own_S p e below m T198 67 #[lvI p0_, lvI p1_, lvI p2_, lvI ((p0_ &&& (2147483647 : Int32)) % (5 : Int32)), lvR w_DEL, .unset] [(.int (p2_ &&& (7 : Int32)))] _
                  refine XS.iconst X198.here hx rfl (hb hby at_67) ?_
                  refine XS.isub X198.here hx rfl (hb hby at_68) rfl ?_
                  refine XS.istore X198.here hx rfl (hb hby at_69) rfl (l' := #[lvI p0_, lvI p1_, lvI p2_, lvI ((p0_ &&& (2147483647 : Int32)) % (5 : Int32)), lvR w_DEL, lvI ((p2_ &&& (7 : Int32)) - (1 : Int32))]) rfl ?_
                  refine XS.aload X198.here hx rfl (hb hby at_71) rfl rfl ?_
                  refine XS.iloadN X198.here hx rfl (hb hby at_73) rfl ?_
                  show own_S p e below m T198 74 #[lvI p0_, lvI p1_, lvI p2_, lvI ((p0_ &&& (2147483647 : Int32)) % (5 : Int32)), lvR w_DEL, lvI ((p2_ &&& (7 : Int32)) - (1 : Int32))] [(.int p1_), (.ref w_DEL)] _
                  refine st199.trans ?_
                  refine XS.iloadN X199.here hx rfl (hb hby at_77) rfl ?_
                  refine XS.iloadN X199.here hx rfl (hb hby at_78) rfl ?_
                  show own_S p e below m T199 79 #[lvI p0_, lvI p1_, lvI p2_, lvI ((p0_ &&& (2147483647 : Int32)) % (5 : Int32)), lvR w_DEL, lvI ((p2_ &&& (7 : Int32)) - (1 : Int32))] [(.int p1_), (.int ((p0_ &&& (2147483647 : Int32)) % (5 : Int32))), (.int (1 : Int32))] _
                  refine st236 _ ?_
                  show own_S p e below m T236 82 #[lvI p0_, lvI p1_, lvI p2_, lvI ((p0_ &&& (2147483647 : Int32)) % (5 : Int32)), lvR w_DEL, lvI ((p2_ &&& (7 : Int32)) - (1 : Int32))] [(.int (1 : Int32)), (.int (1 : Int32))] _
                  refine XS.icmpNo X236.here hx rfl (hb hby at_82) rfl (teq (by decide : (1 : Int32) = (1 : Int32))).2 ?_
                  refine XS.aload X236.here hx rfl (hb hby at_85) rfl rfl ?_
                  refine XS.iload X236.here hx rfl (hb hby at_87) rfl ?_
                  show own_S p e below m T236 89 #[lvI p0_, lvI p1_, lvI p2_, lvI ((p0_ &&& (2147483647 : Int32)) % (5 : Int32)), lvR w_DEL, lvI ((p2_ &&& (7 : Int32)) - (1 : Int32))] [(.int ((p2_ &&& (7 : Int32)) - (1 : Int32))), (.ref w_DEL)] _
                  refine st238.trans ?_
                  refine XS.iloadN X238.here hx rfl (hb hby at_92) rfl ?_
                  refine XS.iload X238.here hx rfl (hb hby at_93) rfl ?_
                  show own_S p e below m T238 95 #[lvI p0_, lvI p1_, lvI p2_, lvI ((p0_ &&& (2147483647 : Int32)) % (5 : Int32)), lvR w_DEL, lvI ((p2_ &&& (7 : Int32)) - (1 : Int32))] [(.int ((p2_ &&& (7 : Int32)) - (1 : Int32))), (.int ((p0_ &&& (2147483647 : Int32)) % (5 : Int32))), (.int (0 : Int32))] _
                  refine st241 _ ?_
                  show own_S p e below m T241 98 #[lvI p0_, lvI p1_, lvI p2_, lvI ((p0_ &&& (2147483647 : Int32)) % (5 : Int32)), lvR w_DEL, lvI ((p2_ &&& (7 : Int32)) - (1 : Int32))] [(.int (0 : Int32)), (.int (0 : Int32))] _
                  refine XS.icmpNo X241.here hx rfl (hb hby at_98) rfl (teq (by decide : (0 : Int32) = (0 : Int32))).2 ?_
                  refine XS.iconst X241.here hx rfl (hb hby at_101) ?_
                  refine XS.goto X241.here hx rfl (pc0 := 102) (pc' := 106) rfl (hb hby at_102) (by decide) (by decide) ?_
                  exact kt
                obtain ⟨fs, hr, hrun, hended, hW, hsame⟩ := X241.leave (v := some (.int (1 : Int32))) (fun h => by rw [Bd.returns] at h; cases h)
                refine ⟨_, _, hG _ (pre243 _ (retN X241 hx (t := .boolean) Bd.returns (by simp) (hb hby at_106) hr)), hrun, hended, _, _, rfl, ?_, ⟨_, rfl⟩, hW, hsame.mono (by decide) (by decide)⟩
                show QLaw Z p0_ p1_ p2_ w_GET w_SET w_DEL w_VDEL w_KEYNOTIFY h0 n0 _ T241.heap _
                rw [e241']
                exact ⟨rfl, N242⟩
              · exact absurd hq241_4_2 (by intro hz; have := own_i0; have := own_i1; have := own_i2; have := own_j2147483647; have := own_i5; simp only [Int32.lt_iff_toInt_lt, ← Int32.toInt_inj] at hz hq241_4_0 hc59 hq236_2_1 hq241_4_1; omega)
              · exact absurd hq241_5_2 (by intro hz; have := own_i0; have := own_i1; have := own_i2; have := own_j2147483647; have := own_i5; simp only [Int32.lt_iff_toInt_lt, ← Int32.toInt_inj] at hz hq241_5_0 hc59 hq236_2_1 hq241_5_1; omega)
              · exact absurd hq241_6_2 (by intro hz; have := own_i0; have := own_i1; have := own_i2; have := own_j2147483647; have := own_i5; simp only [Int32.lt_iff_toInt_lt, ← Int32.toInt_inj] at hz hq241_6_0 hc59 hq236_2_1 hq241_6_1; omega)
              · exact absurd hq241_7_2 (by intro hz; have := own_i0; have := own_i1; have := own_i2; have := own_j2147483647; have := own_i5; simp only [Int32.lt_iff_toInt_lt, ← Int32.toInt_inj] at hz hq241_7_0 hc59 hq236_2_1 hq241_7_1; omega)
              · exact absurd hq241_8_2 (by intro hz; have := own_i0; have := own_i1; have := own_i2; have := own_j2147483647; have := own_i5; simp only [Int32.lt_iff_toInt_lt, ← Int32.toInt_inj] at hz hq241_8_0 hc59 hq236_2_1 hq241_8_1; omega)
              · exact absurd hq241_9_3 (by intro hz; have := own_i0; have := own_i1; have := own_i2; have := own_j2147483647; have := own_i3; have := own_i5; simp only [Int32.lt_iff_toInt_lt, ← Int32.toInt_inj] at hz hq241_9_0 hq241_9_2 hq236_2_1 hq241_9_1; omega)
              · exact absurd hq241_10_3 (by intro hz; have := own_i0; have := own_i1; have := own_i2; have := own_j2147483647; have := own_i3; have := own_i5; simp only [Int32.lt_iff_toInt_lt, ← Int32.toInt_inj] at hz hq241_10_0 hq241_10_2 hq236_2_1 hq241_10_1; omega)
              · exact absurd (by apply Decidable.by_contra; intro hz; have := own_i0; have := own_i1; have := own_i2; have := own_j2147483647; have := own_i5; simp only [Int32.lt_iff_toInt_lt, ← Int32.toInt_inj] at hz hq241_11_0 hc59 hq236_2_1; omega) hq241_11_1
              · exact absurd (by apply Decidable.by_contra; intro hz; have := own_i0; have := own_i1; have := own_i2; have := own_j2147483647; have := own_i5; simp only [Int32.lt_iff_toInt_lt, ← Int32.toInt_inj] at hz hq241_12_0 hc59 hq236_2_1; omega) hq241_12_1
              · exact absurd (by apply Decidable.by_contra; intro hz; have := own_i0; have := own_i1; have := own_i2; have := own_j2147483647; have := own_i5; simp only [Int32.lt_iff_toInt_lt, ← Int32.toInt_inj] at hz hq241_13_0 hc59 hq236_2_1; omega) hq241_13_1
            · obtain ⟨_, _, ⟨T245, L245, k245, n245⟩, -, X245, ⟨Lc245, hQ245, l245, y245, z245⟩, st245⟩ := Jvm.LawKit.callS X238 hx (y := (⟨"com/example/fawley/fawley/protocol/CommandTakesPinLaw", "expected", "(II)Z"⟩ : MethodName)) hown (mvT hZ (own_w hw 13 rfl)) (mvT hZ (own_w hw 14 rfl)) (mvT hZ (own_w hw 15 rfl)) (mvT hZ (own_w hw 16 rfl)) (by decide) (backOf (W := 1) (rmExp l Z a0 hw [] ((p0_ &&& (2147483647 : Int32)) % (5 : Int32)) ((p2_ &&& (7 : Int32)) - (1 : Int32)) h0 n0 O0 ) hZ (own_w hw 16 rfl) (own_w hw 15 rfl) (by decide) (by decide)) (g := (mkF m 95 #[lvI p0_, lvI p1_, lvI p2_, lvI ((p0_ &&& (2147483647 : Int32)) % (5 : Int32)), lvR w_DEL, lvI ((p2_ &&& (7 : Int32)) - (1 : Int32))] [(.int ((p2_ &&& (7 : Int32)) - (1 : Int32))), (.int ((p0_ &&& (2147483647 : Int32)) % (5 : Int32))), (.int (0 : Int32))])) rfl (by rw [hml]; rfl) (argsL := [(.int ((p0_ &&& (2147483647 : Int32)) % (5 : Int32))), (.int ((p2_ &&& (7 : Int32)) - (1 : Int32)))]) (rest := [(.int (0 : Int32))]) (lenOf pd_1 rfl) rfl (by show 2 * 0 + _ ≤ _; exact Nat.le_of_eq rfl) (hb hby at_95) (fun _ _ => ⟨rfl, e238', (by decide : 0 + 0 ≤ _), (by decide : 0 + 0 ≤ _)⟩)
              dsimp only [Pt.U, Pt.locs, Pt.cells, Pt.slots] at X245 l245 y245 z245 st245 hQ245
              subst l245 y245 z245
              obtain ⟨h245, e245⟩ : ∃ z, T245.heap = z := ⟨_, rfl⟩
              rw [e245] at hQ245
              obtain ⟨rr245, rfl, hs245, N245q, hh245⟩ := hQ245
              have N246 := Fr.app N240 N245q
              have e245' : T245.heap = h0 := e245.trans hh245
              rcases hs245 with ⟨rfl, hq245_0_0, hq245_0_1⟩ | ⟨rfl, hq245_1_0, hq245_1_1⟩ | ⟨rfl, hq245_2_0, hq245_2_1, hq245_2_2⟩ | ⟨rfl, hq245_3_0, hq245_3_1, hq245_3_2⟩ | ⟨rfl, hq245_4_0, hq245_4_1, hq245_4_2, hq245_4_3⟩ | ⟨rfl, hq245_5_0, hq245_5_1, hq245_5_2, hq245_5_3, hq245_5_4⟩ | ⟨rfl, hq245_6_0, hq245_6_1, hq245_6_2, hq245_6_3, hq245_6_4, hq245_6_5⟩ | ⟨rfl, hq245_7_0, hq245_7_1, hq245_7_2, hq245_7_3, hq245_7_4, hq245_7_5, hq245_7_6⟩ | ⟨rfl, hq245_8_0, hq245_8_1, hq245_8_2, hq245_8_3, hq245_8_4, hq245_8_5, hq245_8_6⟩ | ⟨rfl, hq245_9_0, hq245_9_1, hq245_9_2, hq245_9_3, hq245_9_4⟩ | ⟨rfl, hq245_10_0, hq245_10_1, hq245_10_2, hq245_10_3, hq245_10_4⟩ | ⟨rfl, hq245_11_0, hq245_11_1, hq245_11_2, hq245_11_3, hq245_11_4⟩ | ⟨rfl, hq245_12_0, hq245_12_1, hq245_12_2, hq245_12_3, hq245_12_4, hq245_12_5⟩ | ⟨rfl, hq245_13_0, hq245_13_1, hq245_13_2, hq245_13_3, hq245_13_4, hq245_13_5⟩
              · exact absurd hq245_0_0 (by intro hz; have := own_i0; have := own_i1; have := own_i2; have := own_j2147483647; have := own_i5; simp only [Int32.lt_iff_toInt_lt, ← Int32.toInt_inj] at hz hq236_2_0 hc59 hq236_2_1; omega)
              · exact absurd hq245_1_0 (by intro hz; have := own_i0; have := own_i1; have := own_i2; have := own_j2147483647; have := own_i5; simp only [Int32.lt_iff_toInt_lt, ← Int32.toInt_inj] at hz hq236_2_0 hc59 hq236_2_1; omega)
              · exact absurd hq245_2_2 (by intro hz; have := own_i1; have := own_i7; simp only [Int32.lt_iff_toInt_lt, ← Int32.toInt_inj] at hz hq238_1_0 hq238_1_1; omega)
              · have pre247 : ∀ t, own_S p e below m T245 106 #[lvI p0_, lvI p1_, lvI p2_, lvI ((p0_ &&& (2147483647 : Int32)) % (5 : Int32)), lvR w_DEL, lvI ((p2_ &&& (7 : Int32)) - (1 : Int32))] [(.int (1 : Int32))] t → G t := by
                  intro t kt
                  refine pre196 t ?_
                  show own_S p e below m s₁ 34 #[lvI p0_, lvI p1_, lvI p2_, lvI ((p0_ &&& (2147483647 : Int32)) % (5 : Int32)), .unset, .unset] [(.int (2 : Int32)), (.int ((p0_ &&& (2147483647 : Int32)) % (5 : Int32)))] _
                  refine XS.icmpNo X0.here hx rfl (hb hby at_34) rfl (teq hc197).2 ?_
                  show own_S p e below m s₁ 37 #[lvI p0_, lvI p1_, lvI p2_, lvI ((p0_ &&& (2147483647 : Int32)) % (5 : Int32)), .unset, .unset] [] _
                  refine st198 _ ?_
                  refine XS.astore X198.here hx rfl (hb hby at_40) rfl rfl (l' := #[lvI p0_, lvI p1_, lvI p2_, lvI ((p0_ &&& (2147483647 : Int32)) % (5 : Int32)), lvR w_DEL, .unset]) rfl ?_
                  refine XS.goto X198.here hx rfl (pc0 := 42) (pc' := 63) rfl (hb hby at_42) (by decide) (by decide) ?_
                  refine XS.iloadN X198.here hx rfl (hb hby at_63) rfl ?_
                  refine XS.bipush X198.here hx rfl (hb hby at_64) ?_
                  refine XS.iand X198.here hx rfl (hb hby at_66) rfl ?_
                  show own_S p e below m T198 67 #[lvI p0_, lvI p1_, lvI p2_, lvI ((p0_ &&& (2147483647 : Int32)) % (5 : Int32)), lvR w_DEL, .unset] [(.int (p2_ &&& (7 : Int32)))] _
                  refine XS.iconst X198.here hx rfl (hb hby at_67) ?_
                  refine XS.isub X198.here hx rfl (hb hby at_68) rfl ?_
                  refine XS.istore X198.here hx rfl (hb hby at_69) rfl (l' := #[lvI p0_, lvI p1_, lvI p2_, lvI ((p0_ &&& (2147483647 : Int32)) % (5 : Int32)), lvR w_DEL, lvI ((p2_ &&& (7 : Int32)) - (1 : Int32))]) rfl ?_
                  refine XS.aload X198.here hx rfl (hb hby at_71) rfl rfl ?_
                  refine XS.iloadN X198.here hx rfl (hb hby at_73) rfl ?_
                  show own_S p e below m T198 74 #[lvI p0_, lvI p1_, lvI p2_, lvI ((p0_ &&& (2147483647 : Int32)) % (5 : Int32)), lvR w_DEL, lvI ((p2_ &&& (7 : Int32)) - (1 : Int32))] [(.int p1_), (.ref w_DEL)] _
                  refine st199.trans ?_
                  refine XS.iloadN X199.here hx rfl (hb hby at_77) rfl ?_
                  refine XS.iloadN X199.here hx rfl (hb hby at_78) rfl ?_
                  show own_S p e below m T199 79 #[lvI p0_, lvI p1_, lvI p2_, lvI ((p0_ &&& (2147483647 : Int32)) % (5 : Int32)), lvR w_DEL, lvI ((p2_ &&& (7 : Int32)) - (1 : Int32))] [(.int p1_), (.int ((p0_ &&& (2147483647 : Int32)) % (5 : Int32))), (.int (1 : Int32))] _
                  refine st236 _ ?_
                  show own_S p e below m T236 82 #[lvI p0_, lvI p1_, lvI p2_, lvI ((p0_ &&& (2147483647 : Int32)) % (5 : Int32)), lvR w_DEL, lvI ((p2_ &&& (7 : Int32)) - (1 : Int32))] [(.int (1 : Int32)), (.int (1 : Int32))] _
                  refine XS.icmpNo X236.here hx rfl (hb hby at_82) rfl (teq (by decide : (1 : Int32) = (1 : Int32))).2 ?_
                  refine XS.aload X236.here hx rfl (hb hby at_85) rfl rfl ?_
                  refine XS.iload X236.here hx rfl (hb hby at_87) rfl ?_
                  show own_S p e below m T236 89 #[lvI p0_, lvI p1_, lvI p2_, lvI ((p0_ &&& (2147483647 : Int32)) % (5 : Int32)), lvR w_DEL, lvI ((p2_ &&& (7 : Int32)) - (1 : Int32))] [(.int ((p2_ &&& (7 : Int32)) - (1 : Int32))), (.ref w_DEL)] _
                  refine st238.trans ?_
                  refine XS.iloadN X238.here hx rfl (hb hby at_92) rfl ?_
                  refine XS.iload X238.here hx rfl (hb hby at_93) rfl ?_
                  show own_S p e below m T238 95 #[lvI p0_, lvI p1_, lvI p2_, lvI ((p0_ &&& (2147483647 : Int32)) % (5 : Int32)), lvR w_DEL, lvI ((p2_ &&& (7 : Int32)) - (1 : Int32))] [(.int ((p2_ &&& (7 : Int32)) - (1 : Int32))), (.int ((p0_ &&& (2147483647 : Int32)) % (5 : Int32))), (.int (0 : Int32))] _
                  refine st245 _ ?_
                  show own_S p e below m T245 98 #[lvI p0_, lvI p1_, lvI p2_, lvI ((p0_ &&& (2147483647 : Int32)) % (5 : Int32)), lvR w_DEL, lvI ((p2_ &&& (7 : Int32)) - (1 : Int32))] [(.int (0 : Int32)), (.int (0 : Int32))] _
                  refine XS.icmpNo X245.here hx rfl (hb hby at_98) rfl (teq (by decide : (0 : Int32) = (0 : Int32))).2 ?_
                  refine XS.iconst X245.here hx rfl (hb hby at_101) ?_
                  refine XS.goto X245.here hx rfl (pc0 := 102) (pc' := 106) rfl (hb hby at_102) (by decide) (by decide) ?_
                  exact kt
                obtain ⟨fs, hr, hrun, hended, hW, hsame⟩ := X245.leave (v := some (.int (1 : Int32))) (fun h => by rw [Bd.returns] at h; cases h)
                refine ⟨_, _, hG _ (pre247 _ (retN X245 hx (t := .boolean) Bd.returns (by simp) (hb hby at_106) hr)), hrun, hended, _, _, rfl, ?_, ⟨_, rfl⟩, hW, hsame.mono (by decide) (by decide)⟩
                show QLaw Z p0_ p1_ p2_ w_GET w_SET w_DEL w_VDEL w_KEYNOTIFY h0 n0 _ T245.heap _
                rw [e245']
                exact ⟨rfl, N246⟩
              · exact absurd hq245_4_2 (by intro hz; have := own_i0; have := own_i1; have := own_i2; have := own_j2147483647; have := own_i5; simp only [Int32.lt_iff_toInt_lt, ← Int32.toInt_inj] at hz hq245_4_0 hc59 hq236_2_1 hq245_4_1; omega)
              · exact absurd hq245_5_2 (by intro hz; have := own_i0; have := own_i1; have := own_i2; have := own_j2147483647; have := own_i5; simp only [Int32.lt_iff_toInt_lt, ← Int32.toInt_inj] at hz hq245_5_0 hc59 hq236_2_1 hq245_5_1; omega)
              · exact absurd hq245_6_2 (by intro hz; have := own_i0; have := own_i1; have := own_i2; have := own_j2147483647; have := own_i5; simp only [Int32.lt_iff_toInt_lt, ← Int32.toInt_inj] at hz hq245_6_0 hc59 hq236_2_1 hq245_6_1; omega)
              · exact absurd hq245_7_2 (by intro hz; have := own_i0; have := own_i1; have := own_i2; have := own_j2147483647; have := own_i5; simp only [Int32.lt_iff_toInt_lt, ← Int32.toInt_inj] at hz hq245_7_0 hc59 hq236_2_1 hq245_7_1; omega)
              · exact absurd hq245_8_2 (by intro hz; have := own_i0; have := own_i1; have := own_i2; have := own_j2147483647; have := own_i5; simp only [Int32.lt_iff_toInt_lt, ← Int32.toInt_inj] at hz hq245_8_0 hc59 hq236_2_1 hq245_8_1; omega)
              · exact absurd hq245_9_3 (by intro hz; have := own_i0; have := own_i1; have := own_i2; have := own_j2147483647; have := own_i3; have := own_i5; simp only [Int32.lt_iff_toInt_lt, ← Int32.toInt_inj] at hz hq245_9_0 hq245_9_2 hq236_2_1 hq245_9_1; omega)
              · exact absurd hq245_10_3 (by intro hz; have := own_i0; have := own_i1; have := own_i2; have := own_j2147483647; have := own_i3; have := own_i5; simp only [Int32.lt_iff_toInt_lt, ← Int32.toInt_inj] at hz hq245_10_0 hq245_10_2 hq236_2_1 hq245_10_1; omega)
              · exact absurd (by apply Decidable.by_contra; intro hz; have := own_i0; have := own_i1; have := own_i2; have := own_j2147483647; have := own_i5; simp only [Int32.lt_iff_toInt_lt, ← Int32.toInt_inj] at hz hq245_11_0 hc59 hq236_2_1; omega) hq245_11_1
              · exact absurd (by apply Decidable.by_contra; intro hz; have := own_i0; have := own_i1; have := own_i2; have := own_j2147483647; have := own_i5; simp only [Int32.lt_iff_toInt_lt, ← Int32.toInt_inj] at hz hq245_12_0 hc59 hq236_2_1; omega) hq245_12_1
              · exact absurd (by apply Decidable.by_contra; intro hz; have := own_i0; have := own_i1; have := own_i2; have := own_j2147483647; have := own_i5; simp only [Int32.lt_iff_toInt_lt, ← Int32.toInt_inj] at hz hq245_13_0 hc59 hq236_2_1; omega) hq245_13_1
            · obtain ⟨_, _, ⟨T249, L249, k249, n249⟩, -, X249, ⟨Lc249, hQ249, l249, y249, z249⟩, st249⟩ := Jvm.LawKit.callS X238 hx (y := (⟨"com/example/fawley/fawley/protocol/CommandTakesPinLaw", "expected", "(II)Z"⟩ : MethodName)) hown (mvT hZ (own_w hw 13 rfl)) (mvT hZ (own_w hw 14 rfl)) (mvT hZ (own_w hw 15 rfl)) (mvT hZ (own_w hw 16 rfl)) (by decide) (backOf (W := 1) (rmExp l Z a0 hw [] ((p0_ &&& (2147483647 : Int32)) % (5 : Int32)) ((p2_ &&& (7 : Int32)) - (1 : Int32)) h0 n0 O0 ) hZ (own_w hw 16 rfl) (own_w hw 15 rfl) (by decide) (by decide)) (g := (mkF m 95 #[lvI p0_, lvI p1_, lvI p2_, lvI ((p0_ &&& (2147483647 : Int32)) % (5 : Int32)), lvR w_DEL, lvI ((p2_ &&& (7 : Int32)) - (1 : Int32))] [(.int ((p2_ &&& (7 : Int32)) - (1 : Int32))), (.int ((p0_ &&& (2147483647 : Int32)) % (5 : Int32))), (.int (1 : Int32))])) rfl (by rw [hml]; rfl) (argsL := [(.int ((p0_ &&& (2147483647 : Int32)) % (5 : Int32))), (.int ((p2_ &&& (7 : Int32)) - (1 : Int32)))]) (rest := [(.int (1 : Int32))]) (lenOf pd_1 rfl) rfl (by show 2 * 0 + _ ≤ _; exact Nat.le_of_eq rfl) (hb hby at_95) (fun _ _ => ⟨rfl, e238', (by decide : 0 + 0 ≤ _), (by decide : 0 + 0 ≤ _)⟩)
              dsimp only [Pt.U, Pt.locs, Pt.cells, Pt.slots] at X249 l249 y249 z249 st249 hQ249
              subst l249 y249 z249
              obtain ⟨h249, e249⟩ : ∃ z, T249.heap = z := ⟨_, rfl⟩
              rw [e249] at hQ249
              obtain ⟨rr249, rfl, hs249, N249q, hh249⟩ := hQ249
              have N250 := Fr.app N240 N249q
              have e249' : T249.heap = h0 := e249.trans hh249
              rcases hs249 with ⟨rfl, hq249_0_0, hq249_0_1⟩ | ⟨rfl, hq249_1_0, hq249_1_1⟩ | ⟨rfl, hq249_2_0, hq249_2_1, hq249_2_2⟩ | ⟨rfl, hq249_3_0, hq249_3_1, hq249_3_2⟩ | ⟨rfl, hq249_4_0, hq249_4_1, hq249_4_2, hq249_4_3⟩ | ⟨rfl, hq249_5_0, hq249_5_1, hq249_5_2, hq249_5_3, hq249_5_4⟩ | ⟨rfl, hq249_6_0, hq249_6_1, hq249_6_2, hq249_6_3, hq249_6_4, hq249_6_5⟩ | ⟨rfl, hq249_7_0, hq249_7_1, hq249_7_2, hq249_7_3, hq249_7_4, hq249_7_5, hq249_7_6⟩ | ⟨rfl, hq249_8_0, hq249_8_1, hq249_8_2, hq249_8_3, hq249_8_4, hq249_8_5, hq249_8_6⟩ | ⟨rfl, hq249_9_0, hq249_9_1, hq249_9_2, hq249_9_3, hq249_9_4⟩ | ⟨rfl, hq249_10_0, hq249_10_1, hq249_10_2, hq249_10_3, hq249_10_4⟩ | ⟨rfl, hq249_11_0, hq249_11_1, hq249_11_2, hq249_11_3, hq249_11_4⟩ | ⟨rfl, hq249_12_0, hq249_12_1, hq249_12_2, hq249_12_3, hq249_12_4, hq249_12_5⟩ | ⟨rfl, hq249_13_0, hq249_13_1, hq249_13_2, hq249_13_3, hq249_13_4, hq249_13_5⟩
              · exact absurd hq249_0_0 (by intro hz; have := own_i0; have := own_i1; have := own_i2; have := own_j2147483647; have := own_i5; simp only [Int32.lt_iff_toInt_lt, ← Int32.toInt_inj] at hz hq236_2_0 hc59 hq236_2_1; omega)
              · exact absurd hq249_1_0 (by intro hz; have := own_i0; have := own_i1; have := own_i2; have := own_j2147483647; have := own_i5; simp only [Int32.lt_iff_toInt_lt, ← Int32.toInt_inj] at hz hq236_2_0 hc59 hq236_2_1; omega)
              · have pre251 : ∀ t, own_S p e below m T249 106 #[lvI p0_, lvI p1_, lvI p2_, lvI ((p0_ &&& (2147483647 : Int32)) % (5 : Int32)), lvR w_DEL, lvI ((p2_ &&& (7 : Int32)) - (1 : Int32))] [(.int (1 : Int32))] t → G t := by
                  intro t kt
                  refine pre196 t ?_
                  show own_S p e below m s₁ 34 #[lvI p0_, lvI p1_, lvI p2_, lvI ((p0_ &&& (2147483647 : Int32)) % (5 : Int32)), .unset, .unset] [(.int (2 : Int32)), (.int ((p0_ &&& (2147483647 : Int32)) % (5 : Int32)))] _
                  refine XS.icmpNo X0.here hx rfl (hb hby at_34) rfl (teq hc197).2 ?_
                  show own_S p e below m s₁ 37 #[lvI p0_, lvI p1_, lvI p2_, lvI ((p0_ &&& (2147483647 : Int32)) % (5 : Int32)), .unset, .unset] [] _
                  refine st198 _ ?_
                  refine XS.astore X198.here hx rfl (hb hby at_40) rfl rfl (l' := #[lvI p0_, lvI p1_, lvI p2_, lvI ((p0_ &&& (2147483647 : Int32)) % (5 : Int32)), lvR w_DEL, .unset]) rfl ?_
                  refine XS.goto X198.here hx rfl (pc0 := 42) (pc' := 63) rfl (hb hby at_42) (by decide) (by decide) ?_
                  refine XS.iloadN X198.here hx rfl (hb hby at_63) rfl ?_
                  refine XS.bipush X198.here hx rfl (hb hby at_64) ?_
                  refine XS.iand X198.here hx rfl (hb hby at_66) rfl ?_
                  show own_S p e below m T198 67 #[lvI p0_, lvI p1_, lvI p2_, lvI ((p0_ &&& (2147483647 : Int32)) % (5 : Int32)), lvR w_DEL, .unset] [(.int (p2_ &&& (7 : Int32)))] _
                  refine XS.iconst X198.here hx rfl (hb hby at_67) ?_
                  refine XS.isub X198.here hx rfl (hb hby at_68) rfl ?_
                  refine XS.istore X198.here hx rfl (hb hby at_69) rfl (l' := #[lvI p0_, lvI p1_, lvI p2_, lvI ((p0_ &&& (2147483647 : Int32)) % (5 : Int32)), lvR w_DEL, lvI ((p2_ &&& (7 : Int32)) - (1 : Int32))]) rfl ?_
                  refine XS.aload X198.here hx rfl (hb hby at_71) rfl rfl ?_
                  refine XS.iloadN X198.here hx rfl (hb hby at_73) rfl ?_
                  show own_S p e below m T198 74 #[lvI p0_, lvI p1_, lvI p2_, lvI ((p0_ &&& (2147483647 : Int32)) % (5 : Int32)), lvR w_DEL, lvI ((p2_ &&& (7 : Int32)) - (1 : Int32))] [(.int p1_), (.ref w_DEL)] _
                  refine st199.trans ?_
                  refine XS.iloadN X199.here hx rfl (hb hby at_77) rfl ?_
                  refine XS.iloadN X199.here hx rfl (hb hby at_78) rfl ?_
                  show own_S p e below m T199 79 #[lvI p0_, lvI p1_, lvI p2_, lvI ((p0_ &&& (2147483647 : Int32)) % (5 : Int32)), lvR w_DEL, lvI ((p2_ &&& (7 : Int32)) - (1 : Int32))] [(.int p1_), (.int ((p0_ &&& (2147483647 : Int32)) % (5 : Int32))), (.int (1 : Int32))] _
                  refine st236 _ ?_
                  show own_S p e below m T236 82 #[lvI p0_, lvI p1_, lvI p2_, lvI ((p0_ &&& (2147483647 : Int32)) % (5 : Int32)), lvR w_DEL, lvI ((p2_ &&& (7 : Int32)) - (1 : Int32))] [(.int (1 : Int32)), (.int (1 : Int32))] _
                  refine XS.icmpNo X236.here hx rfl (hb hby at_82) rfl (teq (by decide : (1 : Int32) = (1 : Int32))).2 ?_
                  refine XS.aload X236.here hx rfl (hb hby at_85) rfl rfl ?_
                  refine XS.iload X236.here hx rfl (hb hby at_87) rfl ?_
                  show own_S p e below m T236 89 #[lvI p0_, lvI p1_, lvI p2_, lvI ((p0_ &&& (2147483647 : Int32)) % (5 : Int32)), lvR w_DEL, lvI ((p2_ &&& (7 : Int32)) - (1 : Int32))] [(.int ((p2_ &&& (7 : Int32)) - (1 : Int32))), (.ref w_DEL)] _
                  refine st238.trans ?_
                  refine XS.iloadN X238.here hx rfl (hb hby at_92) rfl ?_
                  refine XS.iload X238.here hx rfl (hb hby at_93) rfl ?_
                  show own_S p e below m T238 95 #[lvI p0_, lvI p1_, lvI p2_, lvI ((p0_ &&& (2147483647 : Int32)) % (5 : Int32)), lvR w_DEL, lvI ((p2_ &&& (7 : Int32)) - (1 : Int32))] [(.int ((p2_ &&& (7 : Int32)) - (1 : Int32))), (.int ((p0_ &&& (2147483647 : Int32)) % (5 : Int32))), (.int (1 : Int32))] _
                  refine st249 _ ?_
                  show own_S p e below m T249 98 #[lvI p0_, lvI p1_, lvI p2_, lvI ((p0_ &&& (2147483647 : Int32)) % (5 : Int32)), lvR w_DEL, lvI ((p2_ &&& (7 : Int32)) - (1 : Int32))] [(.int (1 : Int32)), (.int (1 : Int32))] _
                  refine XS.icmpNo X249.here hx rfl (hb hby at_98) rfl (teq (by decide : (1 : Int32) = (1 : Int32))).2 ?_
                  refine XS.iconst X249.here hx rfl (hb hby at_101) ?_
                  refine XS.goto X249.here hx rfl (pc0 := 102) (pc' := 106) rfl (hb hby at_102) (by decide) (by decide) ?_
                  exact kt
                obtain ⟨fs, hr, hrun, hended, hW, hsame⟩ := X249.leave (v := some (.int (1 : Int32))) (fun h => by rw [Bd.returns] at h; cases h)
                refine ⟨_, _, hG _ (pre251 _ (retN X249 hx (t := .boolean) Bd.returns (by simp) (hb hby at_106) hr)), hrun, hended, _, _, rfl, ?_, ⟨_, rfl⟩, hW, hsame.mono (by decide) (by decide)⟩
                show QLaw Z p0_ p1_ p2_ w_GET w_SET w_DEL w_VDEL w_KEYNOTIFY h0 n0 _ T249.heap _
                rw [e249']
                exact ⟨rfl, N250⟩
              · exact absurd (by apply Decidable.by_contra; intro hz; have := own_i1; have := own_i7; simp only [Int32.lt_iff_toInt_lt, ← Int32.toInt_inj] at hz hq238_2_0 hq238_2_1; omega) hq249_3_2
              · exact absurd hq249_4_2 (by intro hz; have := own_i0; have := own_i1; have := own_i2; have := own_j2147483647; have := own_i5; simp only [Int32.lt_iff_toInt_lt, ← Int32.toInt_inj] at hz hq249_4_0 hc59 hq236_2_1 hq249_4_1; omega)
              · exact absurd hq249_5_2 (by intro hz; have := own_i0; have := own_i1; have := own_i2; have := own_j2147483647; have := own_i5; simp only [Int32.lt_iff_toInt_lt, ← Int32.toInt_inj] at hz hq249_5_0 hc59 hq236_2_1 hq249_5_1; omega)
              · exact absurd hq249_6_2 (by intro hz; have := own_i0; have := own_i1; have := own_i2; have := own_j2147483647; have := own_i5; simp only [Int32.lt_iff_toInt_lt, ← Int32.toInt_inj] at hz hq249_6_0 hc59 hq236_2_1 hq249_6_1; omega)
              · exact absurd hq249_7_2 (by intro hz; have := own_i0; have := own_i1; have := own_i2; have := own_j2147483647; have := own_i5; simp only [Int32.lt_iff_toInt_lt, ← Int32.toInt_inj] at hz hq249_7_0 hc59 hq236_2_1 hq249_7_1; omega)
              · exact absurd hq249_8_2 (by intro hz; have := own_i0; have := own_i1; have := own_i2; have := own_j2147483647; have := own_i5; simp only [Int32.lt_iff_toInt_lt, ← Int32.toInt_inj] at hz hq249_8_0 hc59 hq236_2_1 hq249_8_1; omega)
              · exact absurd hq249_9_3 (by intro hz; have := own_i0; have := own_i1; have := own_i2; have := own_j2147483647; have := own_i3; have := own_i5; simp only [Int32.lt_iff_toInt_lt, ← Int32.toInt_inj] at hz hq249_9_0 hq249_9_2 hq236_2_1 hq249_9_1; omega)
              · exact absurd hq249_10_3 (by intro hz; have := own_i0; have := own_i1; have := own_i2; have := own_j2147483647; have := own_i3; have := own_i5; simp only [Int32.lt_iff_toInt_lt, ← Int32.toInt_inj] at hz hq249_10_0 hq249_10_2 hq236_2_1 hq249_10_1; omega)
              · exact absurd (by apply Decidable.by_contra; intro hz; have := own_i0; have := own_i1; have := own_i2; have := own_j2147483647; have := own_i5; simp only [Int32.lt_iff_toInt_lt, ← Int32.toInt_inj] at hz hq249_11_0 hc59 hq236_2_1; omega) hq249_11_1
              · exact absurd (by apply Decidable.by_contra; intro hz; have := own_i0; have := own_i1; have := own_i2; have := own_j2147483647; have := own_i5; simp only [Int32.lt_iff_toInt_lt, ← Int32.toInt_inj] at hz hq249_12_0 hc59 hq236_2_1; omega) hq249_12_1
              · exact absurd (by apply Decidable.by_contra; intro hz; have := own_i0; have := own_i1; have := own_i2; have := own_j2147483647; have := own_i5; simp only [Int32.lt_iff_toInt_lt, ← Int32.toInt_inj] at hz hq249_13_0 hc59 hq236_2_1; omega) hq249_13_1
          · exact absurd (by apply Decidable.by_contra; intro hz; have := own_i1; simp only [Int32.lt_iff_toInt_lt, ← Int32.toInt_inj] at hz hq199_2_0 hq199_2_1; omega) hq236_3_2
          · exact absurd hq236_4_2 (by intro hz; have := own_i0; have := own_i1; have := own_i2; have := own_j2147483647; have := own_i5; simp only [Int32.lt_iff_toInt_lt, ← Int32.toInt_inj] at hz hq236_4_0 hc59 hc197 hq236_4_1; omega)
          · exact absurd hq236_5_2 (by intro hz; have := own_i0; have := own_i1; have := own_i2; have := own_j2147483647; have := own_i5; simp only [Int32.lt_iff_toInt_lt, ← Int32.toInt_inj] at hz hq236_5_0 hc59 hc197 hq236_5_1; omega)
          · exact absurd hq236_6_2 (by intro hz; have := own_i0; have := own_i1; have := own_i2; have := own_j2147483647; have := own_i5; simp only [Int32.lt_iff_toInt_lt, ← Int32.toInt_inj] at hz hq236_6_0 hc59 hc197 hq236_6_1; omega)
          · exact absurd hq236_7_2 (by intro hz; have := own_i0; have := own_i1; have := own_i2; have := own_j2147483647; have := own_i5; simp only [Int32.lt_iff_toInt_lt, ← Int32.toInt_inj] at hz hq236_7_0 hc59 hc197 hq236_7_1; omega)
          · exact absurd hq236_8_2 (by intro hz; have := own_i0; have := own_i1; have := own_i2; have := own_j2147483647; have := own_i5; simp only [Int32.lt_iff_toInt_lt, ← Int32.toInt_inj] at hz hq236_8_0 hc59 hc197 hq236_8_1; omega)
          · exact absurd hq236_9_3 (by intro hz; have := own_i0; have := own_i1; have := own_i2; have := own_j2147483647; have := own_i3; have := own_i5; simp only [Int32.lt_iff_toInt_lt, ← Int32.toInt_inj] at hz hq236_9_0 hq236_9_2 hc197 hq236_9_1; omega)
          · exact absurd hq236_10_3 (by intro hz; have := own_i0; have := own_i1; have := own_i2; have := own_j2147483647; have := own_i3; have := own_i5; simp only [Int32.lt_iff_toInt_lt, ← Int32.toInt_inj] at hz hq236_10_0 hq236_10_2 hc197 hq236_10_1; omega)
          · exact absurd (by apply Decidable.by_contra; intro hz; have := own_i0; have := own_i1; have := own_i2; have := own_j2147483647; have := own_i5; simp only [Int32.lt_iff_toInt_lt, ← Int32.toInt_inj] at hz hq236_11_0 hc59 hc197; omega) hq236_11_1
          · exact absurd (by apply Decidable.by_contra; intro hz; have := own_i0; have := own_i1; have := own_i2; have := own_j2147483647; have := own_i5; simp only [Int32.lt_iff_toInt_lt, ← Int32.toInt_inj] at hz hq236_12_0 hc59 hc197; omega) hq236_12_1
          · exact absurd (by apply Decidable.by_contra; intro hz; have := own_i0; have := own_i1; have := own_i2; have := own_j2147483647; have := own_i5; simp only [Int32.lt_iff_toInt_lt, ← Int32.toInt_inj] at hz hq236_13_0 hc59 hc197; omega) hq236_13_1
      · have pre253 : ∀ t, own_S p e below m s₁ 47 #[lvI p0_, lvI p1_, lvI p2_, lvI ((p0_ &&& (2147483647 : Int32)) % (5 : Int32)), .unset, .unset] [(.int (3 : Int32)), (.int ((p0_ &&& (2147483647 : Int32)) % (5 : Int32)))] t → G t := by
          intro t kt
          refine pre196 t ?_
          show own_S p e below m s₁ 34 #[lvI p0_, lvI p1_, lvI p2_, lvI ((p0_ &&& (2147483647 : Int32)) % (5 : Int32)), .unset, .unset] [(.int (2 : Int32)), (.int ((p0_ &&& (2147483647 : Int32)) % (5 : Int32)))] _
          refine XS.icmpYes X0.here hx rfl (pc0 := 34) (pc' := 45) rfl (hb hby at_34) rfl (feq hc197).2 (by decide) (by decide) ?_
          refine XS.iloadN X0.here hx rfl (hb hby at_45) rfl ?_
          refine XS.iconst X0.here hx rfl (hb hby at_46) ?_
          exact kt
        by_cases hc254 : ((p0_ &&& (2147483647 : Int32)) % (5 : Int32)) = (3 : Int32)
        · obtain ⟨T255, X255, e255, st255⟩ := getS2 X0 hx hZ hown (host := "") (Or.inl (own_w hw 21 rfl)) Via.refl e0 (P12.ext O0.2) (g := (mkF m 50 #[lvI p0_, lvI p1_, lvI p2_, lvI ((p0_ &&& (2147483647 : Int32)) % (5 : Int32)), .unset, .unset] [])) rfl (hb hby at_50)
          have f257 : Exa Z h0 w_VDEL cn0 := P13.ext O0.2
          obtain ⟨cq256, kq256, q256a, q256b, q256c⟩ := isOf hZ e255 f257
          obtain ⟨_, _, ⟨T256, L256, k256, n256⟩, -, X256, ⟨Lc256, hQ256, l256, y256, z256⟩, st256⟩ := X255.virtualBack hx (y := (⟨"com/example/fawley/fawley/protocol/Command", "takes", "(I)Z"⟩ : MethodName)) (z := (⟨"com/example/fawley/fawley/protocol/Command", "takes", "(I)Z"⟩ : MethodName)) hown (mvT hZ (own_w hw 4 rfl)) (mvT hZ (own_w hw 5 rfl)) (notFace_of_selects (args := #[]) (mvT hZ (own_w hw 7 rfl))) (mvT hZ (own_w hw 7 rfl)) (mvT hZ (own_w hw 6 rfl)) (by decide) (backOf (W := 0) (rmTak l Z a0 hw [] w_VDEL p1_ (2 : Int32) (2 : Int32) h0 n0 O0 P14 P15) hZ (own_w hw 8 rfl) (own_w hw 2 rfl) (by decide) (by decide)) q256a q256c (g := (mkF m 74 #[lvI p0_, lvI p1_, lvI p2_, lvI ((p0_ &&& (2147483647 : Int32)) % (5 : Int32)), lvR w_VDEL, lvI ((p2_ &&& (7 : Int32)) - (1 : Int32))] [(.int p1_), (.ref w_VDEL)])) rfl (by rw [hml]; rfl) (Steps.refl _) (argsL := [(.int p1_)]) (rest := []) (lenOf pd_0 rfl) rfl (by show 2 * 0 + _ ≤ _; exact Nat.le_of_eq rfl) (hb hby at_74) (fun _ _ => ⟨rfl, e255, (by decide : 0 + 0 ≤ _), (by decide : 0 + 0 ≤ _)⟩)
          dsimp only [Pt.U, Pt.locs, Pt.cells, Pt.slots] at X256 l256 y256 z256 st256 hQ256
          subst l256 y256 z256
          obtain ⟨h256, e256⟩ : ∃ z, T256.heap = z := ⟨_, rfl⟩
          rw [e256] at hQ256
          obtain ⟨rr256, rfl, hs256, N256q, hh256⟩ := hQ256
          have N258 := Fr.app N0 N256q
          have e256' : T256.heap = h0 := e256.trans hh256
          rcases hs256 with ⟨rfl, hq256_0_0⟩ | ⟨rfl, hq256_1_0, hq256_1_1⟩ | ⟨rfl, hq256_2_0, hq256_2_1⟩
          · obtain ⟨_, _, ⟨T259, L259, k259, n259⟩, -, X259, ⟨Lc259, hQ259, l259, y259, z259⟩, st259⟩ := Jvm.LawKit.callS X256 hx (y := (⟨"com/example/fawley/fawley/protocol/CommandTakesPinLaw", "expected", "(II)Z"⟩ : MethodName)) hown (mvT hZ (own_w hw 13 rfl)) (mvT hZ (own_w hw 14 rfl)) (mvT hZ (own_w hw 15 rfl)) (mvT hZ (own_w hw 16 rfl)) (by decide) (backOf (W := 1) (rmExp l Z a0 hw [] ((p0_ &&& (2147483647 : Int32)) % (5 : Int32)) p1_ h0 n0 O0 ) hZ (own_w hw 16 rfl) (own_w hw 15 rfl) (by decide) (by decide)) (g := (mkF m 79 #[lvI p0_, lvI p1_, lvI p2_, lvI ((p0_ &&& (2147483647 : Int32)) % (5 : Int32)), lvR w_VDEL, lvI ((p2_ &&& (7 : Int32)) - (1 : Int32))] [(.int p1_), (.int ((p0_ &&& (2147483647 : Int32)) % (5 : Int32))), (.int (0 : Int32))])) rfl (by rw [hml]; rfl) (argsL := [(.int ((p0_ &&& (2147483647 : Int32)) % (5 : Int32))), (.int p1_)]) (rest := [(.int (0 : Int32))]) (lenOf pd_1 rfl) rfl (by show 2 * 0 + _ ≤ _; exact Nat.le_of_eq rfl) (hb hby at_79) (fun _ _ => ⟨rfl, e256', (by decide : 0 + 0 ≤ _), (by decide : 0 + 0 ≤ _)⟩)
            dsimp only [Pt.U, Pt.locs, Pt.cells, Pt.slots] at X259 l259 y259 z259 st259 hQ259
            subst l259 y259 z259
            obtain ⟨h259, e259⟩ : ∃ z, T259.heap = z := ⟨_, rfl⟩
            rw [e259] at hQ259
            obtain ⟨rr259, rfl, hs259, N259q, hh259⟩ := hQ259
            have N260 := Fr.app N258 N259q
            have e259' : T259.heap = h0 := e259.trans hh259
            rcases hs259 with ⟨rfl, hq259_0_0, hq259_0_1⟩ | ⟨rfl, hq259_1_0, hq259_1_1⟩ | ⟨rfl, hq259_2_0, hq259_2_1, hq259_2_2⟩ | ⟨rfl, hq259_3_0, hq259_3_1, hq259_3_2⟩ | ⟨rfl, hq259_4_0, hq259_4_1, hq259_4_2, hq259_4_3⟩ | ⟨rfl, hq259_5_0, hq259_5_1, hq259_5_2, hq259_5_3, hq259_5_4⟩ | ⟨rfl, hq259_6_0, hq259_6_1, hq259_6_2, hq259_6_3, hq259_6_4, hq259_6_5⟩ | ⟨rfl, hq259_7_0, hq259_7_1, hq259_7_2, hq259_7_3, hq259_7_4, hq259_7_5, hq259_7_6⟩ | ⟨rfl, hq259_8_0, hq259_8_1, hq259_8_2, hq259_8_3, hq259_8_4, hq259_8_5, hq259_8_6⟩ | ⟨rfl, hq259_9_0, hq259_9_1, hq259_9_2, hq259_9_3, hq259_9_4⟩ | ⟨rfl, hq259_10_0, hq259_10_1, hq259_10_2, hq259_10_3, hq259_10_4⟩ | ⟨rfl, hq259_11_0, hq259_11_1, hq259_11_2, hq259_11_3, hq259_11_4⟩ | ⟨rfl, hq259_12_0, hq259_12_1, hq259_12_2, hq259_12_3, hq259_12_4, hq259_12_5⟩ | ⟨rfl, hq259_13_0, hq259_13_1, hq259_13_2, hq259_13_3, hq259_13_4, hq259_13_5⟩
            · exact absurd hq259_0_0 (by intro hz; have := own_i0; have := own_i1; have := own_i2; have := own_j2147483647; have := own_i3; have := own_i5; simp only [Int32.lt_iff_toInt_lt, ← Int32.toInt_inj] at hz hc2 hc59 hc197 hc254; omega)
            · exact absurd hq259_1_0 (by intro hz; have := own_i0; have := own_i1; have := own_i2; have := own_j2147483647; have := own_i3; have := own_i5; simp only [Int32.lt_iff_toInt_lt, ← Int32.toInt_inj] at hz hc2 hc59 hc197 hc254; omega)
            · exact absurd hq259_2_1 (by intro hz; have := own_i0; have := own_i1; have := own_i2; have := own_j2147483647; have := own_i3; have := own_i5; simp only [Int32.lt_iff_toInt_lt, ← Int32.toInt_inj] at hz hq259_2_0 hc59 hc197 hc254; omega)
            · exact absurd hq259_3_1 (by intro hz; have := own_i0; have := own_i1; have := own_i2; have := own_j2147483647; have := own_i3; have := own_i5; simp only [Int32.lt_iff_toInt_lt, ← Int32.toInt_inj] at hz hq259_3_0 hc59 hc197 hc254; omega)
            · exact absurd hq259_4_2 (by intro hz; have := own_i0; have := own_i1; have := own_i2; have := own_j2147483647; have := own_i3; have := own_i5; simp only [Int32.lt_iff_toInt_lt, ← Int32.toInt_inj] at hz hq259_4_0 hc59 hq259_4_1 hc254; omega)
            · exact absurd hq259_5_2 (by intro hz; have := own_i0; have := own_i1; have := own_i2; have := own_j2147483647; have := own_i3; have := own_i5; simp only [Int32.lt_iff_toInt_lt, ← Int32.toInt_inj] at hz hq259_5_0 hc59 hq259_5_1 hc254; omega)
            · exact absurd hq259_6_2 (by intro hz; have := own_i0; have := own_i1; have := own_i2; have := own_j2147483647; have := own_i3; have := own_i5; simp only [Int32.lt_iff_toInt_lt, ← Int32.toInt_inj] at hz hq259_6_0 hc59 hq259_6_1 hc254; omega)
            · exact absurd hq259_7_2 (by intro hz; have := own_i0; have := own_i1; have := own_i2; have := own_j2147483647; have := own_i3; have := own_i5; simp only [Int32.lt_iff_toInt_lt, ← Int32.toInt_inj] at hz hq259_7_0 hc59 hq259_7_1 hc254; omega)
            · exact absurd hq259_8_2 (by intro hz; have := own_i0; have := own_i1; have := own_i2; have := own_j2147483647; have := own_i3; have := own_i5; simp only [Int32.lt_iff_toInt_lt, ← Int32.toInt_inj] at hz hq259_8_0 hc59 hq259_8_1 hc254; omega)
            · exact absurd hq259_9_4 (by intro hz; have := own_i2; simp only [Int32.lt_iff_toInt_lt, ← Int32.toInt_inj] at hz hq256_0_0; omega)
            · have f262 : Exa Z h0 w_VDEL cn0 := P13.ext O0.2
              obtain ⟨cq261, kq261, q261a, q261b, q261c⟩ := isOf hZ e259' f262
              obtain ⟨_, _, ⟨T261, L261, k261, n261⟩, -, X261, ⟨Lc261, hQ261, l261, y261, z261⟩, st261⟩ := X259.virtualBack hx (y := (⟨"com/example/fawley/fawley/protocol/Command", "takes", "(I)Z"⟩ : MethodName)) (z := (⟨"com/example/fawley/fawley/protocol/Command", "takes", "(I)Z"⟩ : MethodName)) hown (mvT hZ (own_w hw 4 rfl)) (mvT hZ (own_w hw 5 rfl)) (notFace_of_selects (args := #[]) (mvT hZ (own_w hw 7 rfl))) (mvT hZ (own_w hw 7 rfl)) (mvT hZ (own_w hw 6 rfl)) (by decide) (backOf (W := 0) (rmTak l Z a0 hw [] w_VDEL ((p2_ &&& (7 : Int32)) - (1 : Int32)) (2 : Int32) (2 : Int32) h0 n0 O0 P14 P15) hZ (own_w hw 8 rfl) (own_w hw 2 rfl) (by decide) (by decide)) q261a q261c (g := (mkF m 89 #[lvI p0_, lvI p1_, lvI p2_, lvI ((p0_ &&& (2147483647 : Int32)) % (5 : Int32)), lvR w_VDEL, lvI ((p2_ &&& (7 : Int32)) - (1 : Int32))] [(.int ((p2_ &&& (7 : Int32)) - (1 : Int32))), (.ref w_VDEL)])) rfl (by rw [hml]; rfl) (Steps.refl _) (argsL := [(.int ((p2_ &&& (7 : Int32)) - (1 : Int32)))]) (rest := []) (lenOf pd_0 rfl) rfl (by show 2 * 0 + _ ≤ _; exact Nat.le_of_eq rfl) (hb hby at_89) (fun _ _ => ⟨rfl, e259', (by decide : 0 + 0 ≤ _), (by decide : 0 + 0 ≤ _)⟩)
              dsimp only [Pt.U, Pt.locs, Pt.cells, Pt.slots] at X261 l261 y261 z261 st261 hQ261
              subst l261 y261 z261
              obtain ⟨h261, e261⟩ : ∃ z, T261.heap = z := ⟨_, rfl⟩
              rw [e261] at hQ261
              obtain ⟨rr261, rfl, hs261, N261q, hh261⟩ := hQ261
              have N263 := Fr.app N260 N261q
              have e261' : T261.heap = h0 := e261.trans hh261
              rcases hs261 with ⟨rfl, hq261_0_0⟩ | ⟨rfl, hq261_1_0, hq261_1_1⟩ | ⟨rfl, hq261_2_0, hq261_2_1⟩
              · obtain ⟨_, _, ⟨T264, L264, k264, n264⟩, -, X264, ⟨Lc264, hQ264, l264, y264, z264⟩, st264⟩ := Jvm.LawKit.callS X261 hx (y := (⟨"com/example/fawley/fawley/protocol/CommandTakesPinLaw", "expected", "(II)Z"⟩ : MethodName)) hown (mvT hZ (own_w hw 13 rfl)) (mvT hZ (own_w hw 14 rfl)) (mvT hZ (own_w hw 15 rfl)) (mvT hZ (own_w hw 16 rfl)) (by decide) (backOf (W := 1) (rmExp l Z a0 hw [] ((p0_ &&& (2147483647 : Int32)) % (5 : Int32)) ((p2_ &&& (7 : Int32)) - (1 : Int32)) h0 n0 O0 ) hZ (own_w hw 16 rfl) (own_w hw 15 rfl) (by decide) (by decide)) (g := (mkF m 95 #[lvI p0_, lvI p1_, lvI p2_, lvI ((p0_ &&& (2147483647 : Int32)) % (5 : Int32)), lvR w_VDEL, lvI ((p2_ &&& (7 : Int32)) - (1 : Int32))] [(.int ((p2_ &&& (7 : Int32)) - (1 : Int32))), (.int ((p0_ &&& (2147483647 : Int32)) % (5 : Int32))), (.int (0 : Int32))])) rfl (by rw [hml]; rfl) (argsL := [(.int ((p0_ &&& (2147483647 : Int32)) % (5 : Int32))), (.int ((p2_ &&& (7 : Int32)) - (1 : Int32)))]) (rest := [(.int (0 : Int32))]) (lenOf pd_1 rfl) rfl (by show 2 * 0 + _ ≤ _; exact Nat.le_of_eq rfl) (hb hby at_95) (fun _ _ => ⟨rfl, e261', (by decide : 0 + 0 ≤ _), (by decide : 0 + 0 ≤ _)⟩)
                dsimp only [Pt.U, Pt.locs, Pt.cells, Pt.slots] at X264 l264 y264 z264 st264 hQ264
                subst l264 y264 z264
                obtain ⟨h264, e264⟩ : ∃ z, T264.heap = z := ⟨_, rfl⟩
                rw [e264] at hQ264
                obtain ⟨rr264, rfl, hs264, N264q, hh264⟩ := hQ264
                have N265 := Fr.app N263 N264q
                have e264' : T264.heap = h0 := e264.trans hh264
                rcases hs264 with ⟨rfl, hq264_0_0, hq264_0_1⟩ | ⟨rfl, hq264_1_0, hq264_1_1⟩ | ⟨rfl, hq264_2_0, hq264_2_1, hq264_2_2⟩ | ⟨rfl, hq264_3_0, hq264_3_1, hq264_3_2⟩ | ⟨rfl, hq264_4_0, hq264_4_1, hq264_4_2, hq264_4_3⟩ | ⟨rfl, hq264_5_0, hq264_5_1, hq264_5_2, hq264_5_3, hq264_5_4⟩ | ⟨rfl, hq264_6_0, hq264_6_1, hq264_6_2, hq264_6_3, hq264_6_4, hq264_6_5⟩ | ⟨rfl, hq264_7_0, hq264_7_1, hq264_7_2, hq264_7_3, hq264_7_4, hq264_7_5, hq264_7_6⟩ | ⟨rfl, hq264_8_0, hq264_8_1, hq264_8_2, hq264_8_3, hq264_8_4, hq264_8_5, hq264_8_6⟩ | ⟨rfl, hq264_9_0, hq264_9_1, hq264_9_2, hq264_9_3, hq264_9_4⟩ | ⟨rfl, hq264_10_0, hq264_10_1, hq264_10_2, hq264_10_3, hq264_10_4⟩ | ⟨rfl, hq264_11_0, hq264_11_1, hq264_11_2, hq264_11_3, hq264_11_4⟩ | ⟨rfl, hq264_12_0, hq264_12_1, hq264_12_2, hq264_12_3, hq264_12_4, hq264_12_5⟩ | ⟨rfl, hq264_13_0, hq264_13_1, hq264_13_2, hq264_13_3, hq264_13_4, hq264_13_5⟩
                · exact absurd hq264_0_0 (by intro hz; have := own_i0; have := own_i1; have := own_i2; have := own_j2147483647; have := own_i3; have := own_i5; simp only [Int32.lt_iff_toInt_lt, ← Int32.toInt_inj] at hz hq259_10_0 hq259_10_2 hq259_10_1 hq259_10_3; omega)
                · exact absurd hq264_1_0 (by intro hz; have := own_i0; have := own_i1; have := own_i2; have := own_j2147483647; have := own_i3; have := own_i5; simp only [Int32.lt_iff_toInt_lt, ← Int32.toInt_inj] at hz hq259_10_0 hq259_10_2 hq259_10_1 hq259_10_3; omega)
                · exact absurd hq264_2_1 (by intro hz; have := own_i0; have := own_i1; have := own_i2; have := own_j2147483647; have := own_i3; have := own_i5; simp only [Int32.lt_iff_toInt_lt, ← Int32.toInt_inj] at hz hq264_2_0 hq259_10_2 hq259_10_1 hq259_10_3; omega)
                · exact absurd hq264_3_1 (by intro hz; have := own_i0; have := own_i1; have := own_i2; have := own_j2147483647; have := own_i3; have := own_i5; simp only [Int32.lt_iff_toInt_lt, ← Int32.toInt_inj] at hz hq264_3_0 hq259_10_2 hq259_10_1 hq259_10_3; omega)
                · exact absurd hq264_4_2 (by intro hz; have := own_i0; have := own_i1; have := own_i2; have := own_j2147483647; have := own_i3; have := own_i5; simp only [Int32.lt_iff_toInt_lt, ← Int32.toInt_inj] at hz hq264_4_0 hq259_10_2 hq264_4_1 hq259_10_3; omega)
                · exact absurd hq264_5_2 (by intro hz; have := own_i0; have := own_i1; have := own_i2; have := own_j2147483647; have := own_i3; have := own_i5; simp only [Int32.lt_iff_toInt_lt, ← Int32.toInt_inj] at hz hq264_5_0 hq259_10_2 hq264_5_1 hq259_10_3; omega)
                · exact absurd hq264_6_2 (by intro hz; have := own_i0; have := own_i1; have := own_i2; have := own_j2147483647; have := own_i3; have := own_i5; simp only [Int32.lt_iff_toInt_lt, ← Int32.toInt_inj] at hz hq264_6_0 hq259_10_2 hq264_6_1 hq259_10_3; omega)
                · exact absurd hq264_7_2 (by intro hz; have := own_i0; have := own_i1; have := own_i2; have := own_j2147483647; have := own_i3; have := own_i5; simp only [Int32.lt_iff_toInt_lt, ← Int32.toInt_inj] at hz hq264_7_0 hq259_10_2 hq264_7_1 hq259_10_3; omega)
                · exact absurd hq264_8_2 (by intro hz; have := own_i0; have := own_i1; have := own_i2; have := own_j2147483647; have := own_i3; have := own_i5; simp only [Int32.lt_iff_toInt_lt, ← Int32.toInt_inj] at hz hq264_8_0 hq259_10_2 hq264_8_1 hq259_10_3; omega)
                · exact absurd hq264_9_4 (by intro hz; have := own_i1; have := own_i2; have := own_i7; simp only [Int32.lt_iff_toInt_lt, ← Int32.toInt_inj] at hz hq261_0_0; omega)
                · have pre266 : ∀ t, own_S p e below m T264 106 #[lvI p0_, lvI p1_, lvI p2_, lvI ((p0_ &&& (2147483647 : Int32)) % (5 : Int32)), lvR w_VDEL, lvI ((p2_ &&& (7 : Int32)) - (1 : Int32))] [(.int (1 : Int32))] t → G t := by
                    intro t kt
                    refine pre253 t ?_
                    show own_S p e below m s₁ 47 #[lvI p0_, lvI p1_, lvI p2_, lvI ((p0_ &&& (2147483647 : Int32)) % (5 : Int32)), .unset, .unset] [(.int (3 : Int32)), (.int ((p0_ &&& (2147483647 : Int32)) % (5 : Int32)))] _
                    refine XS.icmpNo X0.here hx rfl (hb hby at_47) rfl (teq hc254).2 ?_
                    show own_S p e below m s₁ 50 #[lvI p0_, lvI p1_, lvI p2_, lvI ((p0_ &&& (2147483647 : Int32)) % (5 : Int32)), .unset, .unset] [] _
                    refine st255 _ ?_
                    refine XS.astore X255.here hx rfl (hb hby at_53) rfl rfl (l' := #[lvI p0_, lvI p1_, lvI p2_, lvI ((p0_ &&& (2147483647 : Int32)) % (5 : Int32)), lvR w_VDEL, .unset]) rfl ?_
                    refine XS.goto X255.here hx rfl (pc0 := 55) (pc' := 63) rfl (hb hby at_55) (by decide) (by decide) ?_
                    refine XS.iloadN X255.here hx rfl (hb hby at_63) rfl ?_
                    refine XS.bipush X255.here hx rfl (hb hby at_64) ?_
                    refine XS.iand X255.here hx rfl (hb hby at_66) rfl ?_
                    show own_S p e below m T255 67 #[lvI p0_, lvI p1_, lvI p2_, lvI ((p0_ &&& (2147483647 : Int32)) % (5 : Int32)), lvR w_VDEL, .unset] [(.int (p2_ &&& (7 : Int32)))] _
                    refine XS.iconst X255.here hx rfl (hb hby at_67) ?_
                    refine XS.isub X255.here hx rfl (hb hby at_68) rfl ?_
                    refine XS.istore X255.here hx rfl (hb hby at_69) rfl (l' := #[lvI p0_, lvI p1_, lvI p2_, lvI ((p0_ &&& (2147483647 : Int32)) % (5 : Int32)), lvR w_VDEL, lvI ((p2_ &&& (7 : Int32)) - (1 : Int32))]) rfl ?_
                    refine XS.aload X255.here hx rfl (hb hby at_71) rfl rfl ?_
                    refine XS.iloadN X255.here hx rfl (hb hby at_73) rfl ?_
                    show own_S p e below m T255 74 #[lvI p0_, lvI p1_, lvI p2_, lvI ((p0_ &&& (2147483647 : Int32)) % (5 : Int32)), lvR w_VDEL, lvI ((p2_ &&& (7 : Int32)) - (1 : Int32))] [(.int p1_), (.ref w_VDEL)] _
                    refine st256.trans ?_
                    refine XS.iloadN X256.here hx rfl (hb hby at_77) rfl ?_
                    refine XS.iloadN X256.here hx rfl (hb hby at_78) rfl ?_
                    show own_S p e below m T256 79 #[lvI p0_, lvI p1_, lvI p2_, lvI ((p0_ &&& (2147483647 : Int32)) % (5 : Int32)), lvR w_VDEL, lvI ((p2_ &&& (7 : Int32)) - (1 : Int32))] [(.int p1_), (.int ((p0_ &&& (2147483647 : Int32)) % (5 : Int32))), (.int (0 : Int32))] _
                    refine st259 _ ?_
                    show own_S p e below m T259 82 #[lvI p0_, lvI p1_, lvI p2_, lvI ((p0_ &&& (2147483647 : Int32)) % (5 : Int32)), lvR w_VDEL, lvI ((p2_ &&& (7 : Int32)) - (1 : Int32))] [(.int (0 : Int32)), (.int (0 : Int32))] _
                    refine XS.icmpNo X259.here hx rfl (hb hby at_82) rfl (teq (by decide : (0 : Int32) = (0 : Int32))).2 ?_
                    refine XS.aload X259.here hx rfl (hb hby at_85) rfl rfl ?_
                    refine XS.iload X259.here hx rfl (hb hby at_87) rfl ?_
                    show own_S p e below m T259 89 #[lvI p0_, lvI p1_, lvI p2_, lvI ((p0_ &&& (2147483647 : Int32)) % (5 : Int32)), lvR w_VDEL, lvI ((p2_ &&& (7 : Int32)) - (1 : Int32))] [(.int ((p2_ &&& (7 : Int32)) - (1 : Int32))), (.ref w_VDEL)] _
                    refine st261.trans ?_
                    refine XS.iloadN X261.here hx rfl (hb hby at_92) rfl ?_
                    refine XS.iload X261.here hx rfl (hb hby at_93) rfl ?_
                    show own_S p e below m T261 95 #[lvI p0_, lvI p1_, lvI p2_, lvI ((p0_ &&& (2147483647 : Int32)) % (5 : Int32)), lvR w_VDEL, lvI ((p2_ &&& (7 : Int32)) - (1 : Int32))] [(.int ((p2_ &&& (7 : Int32)) - (1 : Int32))), (.int ((p0_ &&& (2147483647 : Int32)) % (5 : Int32))), (.int (0 : Int32))] _
                    refine st264 _ ?_
                    show own_S p e below m T264 98 #[lvI p0_, lvI p1_, lvI p2_, lvI ((p0_ &&& (2147483647 : Int32)) % (5 : Int32)), lvR w_VDEL, lvI ((p2_ &&& (7 : Int32)) - (1 : Int32))] [(.int (0 : Int32)), (.int (0 : Int32))] _
                    refine XS.icmpNo X264.here hx rfl (hb hby at_98) rfl (teq (by decide : (0 : Int32) = (0 : Int32))).2 ?_
                    refine XS.iconst X264.here hx rfl (hb hby at_101) ?_
                    refine XS.goto X264.here hx rfl (pc0 := 102) (pc' := 106) rfl (hb hby at_102) (by decide) (by decide) ?_
                    exact kt
                  obtain ⟨fs, hr, hrun, hended, hW, hsame⟩ := X264.leave (v := some (.int (1 : Int32))) (fun h => by rw [Bd.returns] at h; cases h)
                  refine ⟨_, _, hG _ (pre266 _ (retN X264 hx (t := .boolean) Bd.returns (by simp) (hb hby at_106) hr)), hrun, hended, _, _, rfl, ?_, ⟨_, rfl⟩, hW, hsame.mono (by decide) (by decide)⟩
                  show QLaw Z p0_ p1_ p2_ w_GET w_SET w_DEL w_VDEL w_KEYNOTIFY h0 n0 _ T264.heap _
                  rw [e264']
                  exact ⟨rfl, N265⟩
                · exact absurd (by apply Decidable.by_contra; intro hz; have := own_i0; have := own_i1; have := own_i2; have := own_j2147483647; have := own_i3; have := own_i5; simp only [Int32.lt_iff_toInt_lt, ← Int32.toInt_inj] at hz hq264_11_0 hq264_11_2 hq264_11_1 hq259_10_3; omega) hq264_11_3
                · exact absurd (by apply Decidable.by_contra; intro hz; have := own_i0; have := own_i1; have := own_i2; have := own_j2147483647; have := own_i3; have := own_i5; simp only [Int32.lt_iff_toInt_lt, ← Int32.toInt_inj] at hz hq264_12_0 hq264_12_2 hq264_12_1 hq259_10_3; omega) hq264_12_3
                · exact absurd (by apply Decidable.by_contra; intro hz; have := own_i0; have := own_i1; have := own_i2; have := own_j2147483647; have := own_i3; have := own_i5; simp only [Int32.lt_iff_toInt_lt, ← Int32.toInt_inj] at hz hq264_13_0 hq264_13_2 hq264_13_1 hq259_10_3; omega) hq264_13_3
              · obtain ⟨_, _, ⟨T268, L268, k268, n268⟩, -, X268, ⟨Lc268, hQ268, l268, y268, z268⟩, st268⟩ := Jvm.LawKit.callS X261 hx (y := (⟨"com/example/fawley/fawley/protocol/CommandTakesPinLaw", "expected", "(II)Z"⟩ : MethodName)) hown (mvT hZ (own_w hw 13 rfl)) (mvT hZ (own_w hw 14 rfl)) (mvT hZ (own_w hw 15 rfl)) (mvT hZ (own_w hw 16 rfl)) (by decide) (backOf (W := 1) (rmExp l Z a0 hw [] ((p0_ &&& (2147483647 : Int32)) % (5 : Int32)) ((p2_ &&& (7 : Int32)) - (1 : Int32)) h0 n0 O0 ) hZ (own_w hw 16 rfl) (own_w hw 15 rfl) (by decide) (by decide)) (g := (mkF m 95 #[lvI p0_, lvI p1_, lvI p2_, lvI ((p0_ &&& (2147483647 : Int32)) % (5 : Int32)), lvR w_VDEL, lvI ((p2_ &&& (7 : Int32)) - (1 : Int32))] [(.int ((p2_ &&& (7 : Int32)) - (1 : Int32))), (.int ((p0_ &&& (2147483647 : Int32)) % (5 : Int32))), (.int (0 : Int32))])) rfl (by rw [hml]; rfl) (argsL := [(.int ((p0_ &&& (2147483647 : Int32)) % (5 : Int32))), (.int ((p2_ &&& (7 : Int32)) - (1 : Int32)))]) (rest := [(.int (0 : Int32))]) (lenOf pd_1 rfl) rfl (by show 2 * 0 + _ ≤ _; exact Nat.le_of_eq rfl) (hb hby at_95) (fun _ _ => ⟨rfl, e261', (by decide : 0 + 0 ≤ _), (by decide : 0 + 0 ≤ _)⟩)
                dsimp only [Pt.U, Pt.locs, Pt.cells, Pt.slots] at X268 l268 y268 z268 st268 hQ268
                subst l268 y268 z268
                obtain ⟨h268, e268⟩ : ∃ z, T268.heap = z := ⟨_, rfl⟩
                rw [e268] at hQ268
                obtain ⟨rr268, rfl, hs268, N268q, hh268⟩ := hQ268
                have N269 := Fr.app N263 N268q
                have e268' : T268.heap = h0 := e268.trans hh268
                rcases hs268 with ⟨rfl, hq268_0_0, hq268_0_1⟩ | ⟨rfl, hq268_1_0, hq268_1_1⟩ | ⟨rfl, hq268_2_0, hq268_2_1, hq268_2_2⟩ | ⟨rfl, hq268_3_0, hq268_3_1, hq268_3_2⟩ | ⟨rfl, hq268_4_0, hq268_4_1, hq268_4_2, hq268_4_3⟩ | ⟨rfl, hq268_5_0, hq268_5_1, hq268_5_2, hq268_5_3, hq268_5_4⟩ | ⟨rfl, hq268_6_0, hq268_6_1, hq268_6_2, hq268_6_3, hq268_6_4, hq268_6_5⟩ | ⟨rfl, hq268_7_0, hq268_7_1, hq268_7_2, hq268_7_3, hq268_7_4, hq268_7_5, hq268_7_6⟩ | ⟨rfl, hq268_8_0, hq268_8_1, hq268_8_2, hq268_8_3, hq268_8_4, hq268_8_5, hq268_8_6⟩ | ⟨rfl, hq268_9_0, hq268_9_1, hq268_9_2, hq268_9_3, hq268_9_4⟩ | ⟨rfl, hq268_10_0, hq268_10_1, hq268_10_2, hq268_10_3, hq268_10_4⟩ | ⟨rfl, hq268_11_0, hq268_11_1, hq268_11_2, hq268_11_3, hq268_11_4⟩ | ⟨rfl, hq268_12_0, hq268_12_1, hq268_12_2, hq268_12_3, hq268_12_4, hq268_12_5⟩ | ⟨rfl, hq268_13_0, hq268_13_1, hq268_13_2, hq268_13_3, hq268_13_4, hq268_13_5⟩
                · exact absurd hq268_0_0 (by intro hz; have := own_i0; have := own_i1; have := own_i2; have := own_j2147483647; have := own_i3; have := own_i5; simp only [Int32.lt_iff_toInt_lt, ← Int32.toInt_inj] at hz hq259_10_0 hq259_10_2 hq259_10_1 hq259_10_3; omega)
                · exact absurd hq268_1_0 (by intro hz; have := own_i0; have := own_i1; have := own_i2; have := own_j2147483647; have := own_i3; have := own_i5; simp only [Int32.lt_iff_toInt_lt, ← Int32.toInt_inj] at hz hq259_10_0 hq259_10_2 hq259_10_1 hq259_10_3; omega)
                · exact absurd hq268_2_1 (by intro hz; have := own_i0; have := own_i1; have := own_i2; have := own_j2147483647; have := own_i3; have := own_i5; simp only [Int32.lt_iff_toInt_lt, ← Int32.toInt_inj] at hz hq268_2_0 hq259_10_2 hq259_10_1 hq259_10_3; omega)
                · exact absurd hq268_3_1 (by intro hz; have := own_i0; have := own_i1; have := own_i2; have := own_j2147483647; have := own_i3; have := own_i5; simp only [Int32.lt_iff_toInt_lt, ← Int32.toInt_inj] at hz hq268_3_0 hq259_10_2 hq259_10_1 hq259_10_3; omega)
                · exact absurd hq268_4_2 (by intro hz; have := own_i0; have := own_i1; have := own_i2; have := own_j2147483647; have := own_i3; have := own_i5; simp only [Int32.lt_iff_toInt_lt, ← Int32.toInt_inj] at hz hq268_4_0 hq259_10_2 hq268_4_1 hq259_10_3; omega)
                · exact absurd hq268_5_2 (by intro hz; have := own_i0; have := own_i1; have := own_i2; have := own_j2147483647; have := own_i3; have := own_i5; simp only [Int32.lt_iff_toInt_lt, ← Int32.toInt_inj] at hz hq268_5_0 hq259_10_2 hq268_5_1 hq259_10_3; omega)
                · exact absurd hq268_6_2 (by intro hz; have := own_i0; have := own_i1; have := own_i2; have := own_j2147483647; have := own_i3; have := own_i5; simp only [Int32.lt_iff_toInt_lt, ← Int32.toInt_inj] at hz hq268_6_0 hq259_10_2 hq268_6_1 hq259_10_3; omega)
                · exact absurd hq268_7_2 (by intro hz; have := own_i0; have := own_i1; have := own_i2; have := own_j2147483647; have := own_i3; have := own_i5; simp only [Int32.lt_iff_toInt_lt, ← Int32.toInt_inj] at hz hq268_7_0 hq259_10_2 hq268_7_1 hq259_10_3; omega)
                · exact absurd hq268_8_2 (by intro hz; have := own_i0; have := own_i1; have := own_i2; have := own_j2147483647; have := own_i3; have := own_i5; simp only [Int32.lt_iff_toInt_lt, ← Int32.toInt_inj] at hz hq268_8_0 hq259_10_2 hq268_8_1 hq259_10_3; omega)
                · exact absurd hq268_9_4 (by intro hz; have := own_i1; have := own_i2; have := own_i7; simp only [Int32.lt_iff_toInt_lt, ← Int32.toInt_inj] at hz hq261_1_0 hq261_1_1; omega)
                · have pre270 : ∀ t, own_S p e below m T268 106 #[lvI p0_, lvI p1_, lvI p2_, lvI ((p0_ &&& (2147483647 : Int32)) % (5 : Int32)), lvR w_VDEL, lvI ((p2_ &&& (7 : Int32)) - (1 : Int32))] [(.int (1 : Int32))] t → G t := by
                    intro t kt
                    refine pre253 t ?_
                    show own_S p e below m s₁ 47 #[lvI p0_, lvI p1_, lvI p2_, lvI ((p0_ &&& (2147483647 : Int32)) % (5 : Int32)), .unset, .unset] [(.int (3 : Int32)), (.int ((p0_ &&& (2147483647 : Int32)) % (5 : Int32)))] _
                    refine XS.icmpNo X0.here hx rfl (hb hby at_47) rfl (teq hc254).2 ?_
                    show own_S p e below m s₁ 50 #[lvI p0_, lvI p1_, lvI p2_, lvI ((p0_ &&& (2147483647 : Int32)) % (5 : Int32)), .unset, .unset] [] _
                    refine st255 _ ?_
                    refine XS.astore X255.here hx rfl (hb hby at_53) rfl rfl (l' := #[lvI p0_, lvI p1_, lvI p2_, lvI ((p0_ &&& (2147483647 : Int32)) % (5 : Int32)), lvR w_VDEL, .unset]) rfl ?_
                    refine XS.goto X255.here hx rfl (pc0 := 55) (pc' := 63) rfl (hb hby at_55) (by decide) (by decide) ?_
                    refine XS.iloadN X255.here hx rfl (hb hby at_63) rfl ?_
                    refine XS.bipush X255.here hx rfl (hb hby at_64) ?_
                    refine XS.iand X255.here hx rfl (hb hby at_66) rfl ?_
                    show own_S p e below m T255 67 #[lvI p0_, lvI p1_, lvI p2_, lvI ((p0_ &&& (2147483647 : Int32)) % (5 : Int32)), lvR w_VDEL, .unset] [(.int (p2_ &&& (7 : Int32)))] _
                    refine XS.iconst X255.here hx rfl (hb hby at_67) ?_
                    refine XS.isub X255.here hx rfl (hb hby at_68) rfl ?_
                    refine XS.istore X255.here hx rfl (hb hby at_69) rfl (l' := #[lvI p0_, lvI p1_, lvI p2_, lvI ((p0_ &&& (2147483647 : Int32)) % (5 : Int32)), lvR w_VDEL, lvI ((p2_ &&& (7 : Int32)) - (1 : Int32))]) rfl ?_
                    refine XS.aload X255.here hx rfl (hb hby at_71) rfl rfl ?_
                    refine XS.iloadN X255.here hx rfl (hb hby at_73) rfl ?_
                    show own_S p e below m T255 74 #[lvI p0_, lvI p1_, lvI p2_, lvI ((p0_ &&& (2147483647 : Int32)) % (5 : Int32)), lvR w_VDEL, lvI ((p2_ &&& (7 : Int32)) - (1 : Int32))] [(.int p1_), (.ref w_VDEL)] _
                    refine st256.trans ?_
                    refine XS.iloadN X256.here hx rfl (hb hby at_77) rfl ?_
                    refine XS.iloadN X256.here hx rfl (hb hby at_78) rfl ?_
                    show own_S p e below m T256 79 #[lvI p0_, lvI p1_, lvI p2_, lvI ((p0_ &&& (2147483647 : Int32)) % (5 : Int32)), lvR w_VDEL, lvI ((p2_ &&& (7 : Int32)) - (1 : Int32))] [(.int p1_), (.int ((p0_ &&& (2147483647 : Int32)) % (5 : Int32))), (.int (0 : Int32))] _
                    refine st259 _ ?_
                    show own_S p e below m T259 82 #[lvI p0_, lvI p1_, lvI p2_, lvI ((p0_ &&& (2147483647 : Int32)) % (5 : Int32)), lvR w_VDEL, lvI ((p2_ &&& (7 : Int32)) - (1 : Int32))] [(.int (0 : Int32)), (.int (0 : Int32))] _
                    refine XS.icmpNo X259.here hx rfl (hb hby at_82) rfl (teq (by decide : (0 : Int32) = (0 : Int32))).2 ?_
                    refine XS.aload X259.here hx rfl (hb hby at_85) rfl rfl ?_
                    refine XS.iload X259.here hx rfl (hb hby at_87) rfl ?_
                    show own_S p e below m T259 89 #[lvI p0_, lvI p1_, lvI p2_, lvI ((p0_ &&& (2147483647 : Int32)) % (5 : Int32)), lvR w_VDEL, lvI ((p2_ &&& (7 : Int32)) - (1 : Int32))] [(.int ((p2_ &&& (7 : Int32)) - (1 : Int32))), (.ref w_VDEL)] _
                    refine st261.trans ?_
                    refine XS.iloadN X261.here hx rfl (hb hby at_92) rfl ?_
                    refine XS.iload X261.here hx rfl (hb hby at_93) rfl ?_
                    show own_S p e below m T261 95 #[lvI p0_, lvI p1_, lvI p2_, lvI ((p0_ &&& (2147483647 : Int32)) % (5 : Int32)), lvR w_VDEL, lvI ((p2_ &&& (7 : Int32)) - (1 : Int32))] [(.int ((p2_ &&& (7 : Int32)) - (1 : Int32))), (.int ((p0_ &&& (2147483647 : Int32)) % (5 : Int32))), (.int (0 : Int32))] _
                    refine st268 _ ?_
                    show own_S p e below m T268 98 #[lvI p0_, lvI p1_, lvI p2_, lvI ((p0_ &&& (2147483647 : Int32)) % (5 : Int32)), lvR w_VDEL, lvI ((p2_ &&& (7 : Int32)) - (1 : Int32))] [(.int (0 : Int32)), (.int (0 : Int32))] _
                    refine XS.icmpNo X268.here hx rfl (hb hby at_98) rfl (teq (by decide : (0 : Int32) = (0 : Int32))).2 ?_
                    refine XS.iconst X268.here hx rfl (hb hby at_101) ?_
                    refine XS.goto X268.here hx rfl (pc0 := 102) (pc' := 106) rfl (hb hby at_102) (by decide) (by decide) ?_
                    exact kt
                  obtain ⟨fs, hr, hrun, hended, hW, hsame⟩ := X268.leave (v := some (.int (1 : Int32))) (fun h => by rw [Bd.returns] at h; cases h)
                  refine ⟨_, _, hG _ (pre270 _ (retN X268 hx (t := .boolean) Bd.returns (by simp) (hb hby at_106) hr)), hrun, hended, _, _, rfl, ?_, ⟨_, rfl⟩, hW, hsame.mono (by decide) (by decide)⟩
                  show QLaw Z p0_ p1_ p2_ w_GET w_SET w_DEL w_VDEL w_KEYNOTIFY h0 n0 _ T268.heap _
                  rw [e268']
                  exact ⟨rfl, N269⟩
                · exact absurd (by apply Decidable.by_contra; intro hz; have := own_i0; have := own_i1; have := own_i2; have := own_j2147483647; have := own_i3; have := own_i5; simp only [Int32.lt_iff_toInt_lt, ← Int32.toInt_inj] at hz hq268_11_0 hq268_11_2 hq268_11_1 hq259_10_3; omega) hq268_11_3
                · exact absurd (by apply Decidable.by_contra; intro hz; have := own_i0; have := own_i1; have := own_i2; have := own_j2147483647; have := own_i3; have := own_i5; simp only [Int32.lt_iff_toInt_lt, ← Int32.toInt_inj] at hz hq268_12_0 hq268_12_2 hq268_12_1 hq259_10_3; omega) hq268_12_3
                · exact absurd (by apply Decidable.by_contra; intro hz; have := own_i0; have := own_i1; have := own_i2; have := own_j2147483647; have := own_i3; have := own_i5; simp only [Int32.lt_iff_toInt_lt, ← Int32.toInt_inj] at hz hq268_13_0 hq268_13_2 hq268_13_1 hq259_10_3; omega) hq268_13_3
              · obtain ⟨_, _, ⟨T272, L272, k272, n272⟩, -, X272, ⟨Lc272, hQ272, l272, y272, z272⟩, st272⟩ := Jvm.LawKit.callS X261 hx (y := (⟨"com/example/fawley/fawley/protocol/CommandTakesPinLaw", "expected", "(II)Z"⟩ : MethodName)) hown (mvT hZ (own_w hw 13 rfl)) (mvT hZ (own_w hw 14 rfl)) (mvT hZ (own_w hw 15 rfl)) (mvT hZ (own_w hw 16 rfl)) (by decide) (backOf (W := 1) (rmExp l Z a0 hw [] ((p0_ &&& (2147483647 : Int32)) % (5 : Int32)) ((p2_ &&& (7 : Int32)) - (1 : Int32)) h0 n0 O0 ) hZ (own_w hw 16 rfl) (own_w hw 15 rfl) (by decide) (by decide)) (g := (mkF m 95 #[lvI p0_, lvI p1_, lvI p2_, lvI ((p0_ &&& (2147483647 : Int32)) % (5 : Int32)), lvR w_VDEL, lvI ((p2_ &&& (7 : Int32)) - (1 : Int32))] [(.int ((p2_ &&& (7 : Int32)) - (1 : Int32))), (.int ((p0_ &&& (2147483647 : Int32)) % (5 : Int32))), (.int (1 : Int32))])) rfl (by rw [hml]; rfl) (argsL := [(.int ((p0_ &&& (2147483647 : Int32)) % (5 : Int32))), (.int ((p2_ &&& (7 : Int32)) - (1 : Int32)))]) (rest := [(.int (1 : Int32))]) (lenOf pd_1 rfl) rfl (by show 2 * 0 + _ ≤ _; exact Nat.le_of_eq rfl) (hb hby at_95) (fun _ _ => ⟨rfl, e261', (by decide : 0 + 0 ≤ _), (by decide : 0 + 0 ≤ _)⟩)
                dsimp only [Pt.U, Pt.locs, Pt.cells, Pt.slots] at X272 l272 y272 z272 st272 hQ272
                subst l272 y272 z272
                obtain ⟨h272, e272⟩ : ∃ z, T272.heap = z := ⟨_, rfl⟩
                rw [e272] at hQ272
                obtain ⟨rr272, rfl, hs272, N272q, hh272⟩ := hQ272
                have N273 := Fr.app N263 N272q
                have e272' : T272.heap = h0 := e272.trans hh272
                rcases hs272 with ⟨rfl, hq272_0_0, hq272_0_1⟩ | ⟨rfl, hq272_1_0, hq272_1_1⟩ | ⟨rfl, hq272_2_0, hq272_2_1, hq272_2_2⟩ | ⟨rfl, hq272_3_0, hq272_3_1, hq272_3_2⟩ | ⟨rfl, hq272_4_0, hq272_4_1, hq272_4_2, hq272_4_3⟩ | ⟨rfl, hq272_5_0, hq272_5_1, hq272_5_2, hq272_5_3, hq272_5_4⟩ | ⟨rfl, hq272_6_0, hq272_6_1, hq272_6_2, hq272_6_3, hq272_6_4, hq272_6_5⟩ | ⟨rfl, hq272_7_0, hq272_7_1, hq272_7_2, hq272_7_3, hq272_7_4, hq272_7_5, hq272_7_6⟩ | ⟨rfl, hq272_8_0, hq272_8_1, hq272_8_2, hq272_8_3, hq272_8_4, hq272_8_5, hq272_8_6⟩ | ⟨rfl, hq272_9_0, hq272_9_1, hq272_9_2, hq272_9_3, hq272_9_4⟩ | ⟨rfl, hq272_10_0, hq272_10_1, hq272_10_2, hq272_10_3, hq272_10_4⟩ | ⟨rfl, hq272_11_0, hq272_11_1, hq272_11_2, hq272_11_3, hq272_11_4⟩ | ⟨rfl, hq272_12_0, hq272_12_1, hq272_12_2, hq272_12_3, hq272_12_4, hq272_12_5⟩ | ⟨rfl, hq272_13_0, hq272_13_1, hq272_13_2, hq272_13_3, hq272_13_4, hq272_13_5⟩
                · exact absurd hq272_0_0 (by intro hz; have := own_i0; have := own_i1; have := own_i2; have := own_j2147483647; have := own_i3; have := own_i5; simp only [Int32.lt_iff_toInt_lt, ← Int32.toInt_inj] at hz hq259_10_0 hq259_10_2 hq259_10_1 hq259_10_3; omega)
                · exact absurd hq272_1_0 (by intro hz; have := own_i0; have := own_i1; have := own_i2; have := own_j2147483647; have := own_i3; have := own_i5; simp only [Int32.lt_iff_toInt_lt, ← Int32.toInt_inj] at hz hq259_10_0 hq259_10_2 hq259_10_1 hq259_10_3; omega)
                · exact absurd hq272_2_1 (by intro hz; have := own_i0; have := own_i1; have := own_i2; have := own_j2147483647; have := own_i3; have := own_i5; simp only [Int32.lt_iff_toInt_lt, ← Int32.toInt_inj] at hz hq272_2_0 hq259_10_2 hq259_10_1 hq259_10_3; omega)
                · exact absurd hq272_3_1 (by intro hz; have := own_i0; have := own_i1; have := own_i2; have := own_j2147483647; have := own_i3; have := own_i5; simp only [Int32.lt_iff_toInt_lt, ← Int32.toInt_inj] at hz hq272_3_0 hq259_10_2 hq259_10_1 hq259_10_3; omega)
                · exact absurd hq272_4_2 (by intro hz; have := own_i0; have := own_i1; have := own_i2; have := own_j2147483647; have := own_i3; have := own_i5; simp only [Int32.lt_iff_toInt_lt, ← Int32.toInt_inj] at hz hq272_4_0 hq259_10_2 hq272_4_1 hq259_10_3; omega)
                · exact absurd hq272_5_2 (by intro hz; have := own_i0; have := own_i1; have := own_i2; have := own_j2147483647; have := own_i3; have := own_i5; simp only [Int32.lt_iff_toInt_lt, ← Int32.toInt_inj] at hz hq272_5_0 hq259_10_2 hq272_5_1 hq259_10_3; omega)
                · exact absurd hq272_6_2 (by intro hz; have := own_i0; have := own_i1; have := own_i2; have := own_j2147483647; have := own_i3; have := own_i5; simp only [Int32.lt_iff_toInt_lt, ← Int32.toInt_inj] at hz hq272_6_0 hq259_10_2 hq272_6_1 hq259_10_3; omega)
                · exact absurd hq272_7_2 (by intro hz; have := own_i0; have := own_i1; have := own_i2; have := own_j2147483647; have := own_i3; have := own_i5; simp only [Int32.lt_iff_toInt_lt, ← Int32.toInt_inj] at hz hq272_7_0 hq259_10_2 hq272_7_1 hq259_10_3; omega)
                · exact absurd hq272_8_2 (by intro hz; have := own_i0; have := own_i1; have := own_i2; have := own_j2147483647; have := own_i3; have := own_i5; simp only [Int32.lt_iff_toInt_lt, ← Int32.toInt_inj] at hz hq272_8_0 hq259_10_2 hq272_8_1 hq259_10_3; omega)
                · have pre274 : ∀ t, own_S p e below m T272 106 #[lvI p0_, lvI p1_, lvI p2_, lvI ((p0_ &&& (2147483647 : Int32)) % (5 : Int32)), lvR w_VDEL, lvI ((p2_ &&& (7 : Int32)) - (1 : Int32))] [(.int (1 : Int32))] t → G t := by
                    intro t kt
                    refine pre253 t ?_
                    show own_S p e below m s₁ 47 #[lvI p0_, lvI p1_, lvI p2_, lvI ((p0_ &&& (2147483647 : Int32)) % (5 : Int32)), .unset, .unset] [(.int (3 : Int32)), (.int ((p0_ &&& (2147483647 : Int32)) % (5 : Int32)))] _
                    refine XS.icmpNo X0.here hx rfl (hb hby at_47) rfl (teq hc254).2 ?_
                    show own_S p e below m s₁ 50 #[lvI p0_, lvI p1_, lvI p2_, lvI ((p0_ &&& (2147483647 : Int32)) % (5 : Int32)), .unset, .unset] [] _
                    refine st255 _ ?_
                    refine XS.astore X255.here hx rfl (hb hby at_53) rfl rfl (l' := #[lvI p0_, lvI p1_, lvI p2_, lvI ((p0_ &&& (2147483647 : Int32)) % (5 : Int32)), lvR w_VDEL, .unset]) rfl ?_
                    refine XS.goto X255.here hx rfl (pc0 := 55) (pc' := 63) rfl (hb hby at_55) (by decide) (by decide) ?_
                    refine XS.iloadN X255.here hx rfl (hb hby at_63) rfl ?_
                    refine XS.bipush X255.here hx rfl (hb hby at_64) ?_
                    refine XS.iand X255.here hx rfl (hb hby at_66) rfl ?_
                    show own_S p e below m T255 67 #[lvI p0_, lvI p1_, lvI p2_, lvI ((p0_ &&& (2147483647 : Int32)) % (5 : Int32)), lvR w_VDEL, .unset] [(.int (p2_ &&& (7 : Int32)))] _
                    refine XS.iconst X255.here hx rfl (hb hby at_67) ?_
                    refine XS.isub X255.here hx rfl (hb hby at_68) rfl ?_
                    refine XS.istore X255.here hx rfl (hb hby at_69) rfl (l' := #[lvI p0_, lvI p1_, lvI p2_, lvI ((p0_ &&& (2147483647 : Int32)) % (5 : Int32)), lvR w_VDEL, lvI ((p2_ &&& (7 : Int32)) - (1 : Int32))]) rfl ?_
                    refine XS.aload X255.here hx rfl (hb hby at_71) rfl rfl ?_
                    refine XS.iloadN X255.here hx rfl (hb hby at_73) rfl ?_
                    show own_S p e below m T255 74 #[lvI p0_, lvI p1_, lvI p2_, lvI ((p0_ &&& (2147483647 : Int32)) % (5 : Int32)), lvR w_VDEL, lvI ((p2_ &&& (7 : Int32)) - (1 : Int32))] [(.int p1_), (.ref w_VDEL)] _
                    refine st256.trans ?_
                    refine XS.iloadN X256.here hx rfl (hb hby at_77) rfl ?_
                    refine XS.iloadN X256.here hx rfl (hb hby at_78) rfl ?_
                    show own_S p e below m T256 79 #[lvI p0_, lvI p1_, lvI p2_, lvI ((p0_ &&& (2147483647 : Int32)) % (5 : Int32)), lvR w_VDEL, lvI ((p2_ &&& (7 : Int32)) - (1 : Int32))] [(.int p1_), (.int ((p0_ &&& (2147483647 : Int32)) % (5 : Int32))), (.int (0 : Int32))] _
                    refine st259 _ ?_
                    show own_S p e below m T259 82 #[lvI p0_, lvI p1_, lvI p2_, lvI ((p0_ &&& (2147483647 : Int32)) % (5 : Int32)), lvR w_VDEL, lvI ((p2_ &&& (7 : Int32)) - (1 : Int32))] [(.int (0 : Int32)), (.int (0 : Int32))] _
                    refine XS.icmpNo X259.here hx rfl (hb hby at_82) rfl (teq (by decide : (0 : Int32) = (0 : Int32))).2 ?_
                    refine XS.aload X259.here hx rfl (hb hby at_85) rfl rfl ?_
                    refine XS.iload X259.here hx rfl (hb hby at_87) rfl ?_
                    show own_S p e below m T259 89 #[lvI p0_, lvI p1_, lvI p2_, lvI ((p0_ &&& (2147483647 : Int32)) % (5 : Int32)), lvR w_VDEL, lvI ((p2_ &&& (7 : Int32)) - (1 : Int32))] [(.int ((p2_ &&& (7 : Int32)) - (1 : Int32))), (.ref w_VDEL)] _
                    refine st261.trans ?_
                    refine XS.iloadN X261.here hx rfl (hb hby at_92) rfl ?_
                    refine XS.iload X261.here hx rfl (hb hby at_93) rfl ?_
                    show own_S p e below m T261 95 #[lvI p0_, lvI p1_, lvI p2_, lvI ((p0_ &&& (2147483647 : Int32)) % (5 : Int32)), lvR w_VDEL, lvI ((p2_ &&& (7 : Int32)) - (1 : Int32))] [(.int ((p2_ &&& (7 : Int32)) - (1 : Int32))), (.int ((p0_ &&& (2147483647 : Int32)) % (5 : Int32))), (.int (1 : Int32))] _
                    refine st272 _ ?_
                    show own_S p e below m T272 98 #[lvI p0_, lvI p1_, lvI p2_, lvI ((p0_ &&& (2147483647 : Int32)) % (5 : Int32)), lvR w_VDEL, lvI ((p2_ &&& (7 : Int32)) - (1 : Int32))] [(.int (1 : Int32)), (.int (1 : Int32))] _
                    refine XS.icmpNo X272.here hx rfl (hb hby at_98) rfl (teq (by decide : (1 : Int32) = (1 : Int32))).2 ?_
                    refine XS.iconst X272.here hx rfl (hb hby at_101) ?_
                    refine XS.goto X272.here hx rfl (pc0 := 102) (pc' := 106) rfl (hb hby at_102) (by decide) (by decide) ?_
                    exact kt
                  obtain ⟨fs, hr, hrun, hended, hW, hsame⟩ := X272.leave (v := some (.int (1 : Int32))) (fun h => by rw [Bd.returns] at h; cases h)
                  refine ⟨_, _, hG _ (pre274 _ (retN X272 hx (t := .boolean) Bd.returns (by simp) (hb hby at_106) hr)), hrun, hended, _, _, rfl, ?_, ⟨_, rfl⟩, hW, hsame.mono (by decide) (by decide)⟩
                  show QLaw Z p0_ p1_ p2_ w_GET w_SET w_DEL w_VDEL w_KEYNOTIFY h0 n0 _ T272.heap _
                  rw [e272']
                  exact ⟨rfl, N273⟩
                · exact absurd (by apply Decidable.by_contra; intro hz; have := own_i1; have := own_i2; have := own_i7; simp only [Int32.lt_iff_toInt_lt, ← Int32.toInt_inj] at hz hq261_2_0 hq261_2_1; omega) hq272_10_4
                · exact absurd (by apply Decidable.by_contra; intro hz; have := own_i0; have := own_i1; have := own_i2; have := own_j2147483647; have := own_i3; have := own_i5; simp only [Int32.lt_iff_toInt_lt, ← Int32.toInt_inj] at hz hq272_11_0 hq272_11_2 hq272_11_1 hq259_10_3; omega) hq272_11_3
                · exact absurd (by apply Decidable.by_contra; intro hz; have := own_i0; have := own_i1; have := own_i2; have := own_j2147483647; have := own_i3; have := own_i5; simp only [Int32.lt_iff_toInt_lt, ← Int32.toInt_inj] at hz hq272_12_0 hq272_12_2 hq272_12_1 hq259_10_3; omega) hq272_12_3
                · exact absurd (by apply Decidable.by_contra; intro hz; have := own_i0; have := own_i1; have := own_i2; have := own_j2147483647; have := own_i3; have := own_i5; simp only [Int32.lt_iff_toInt_lt, ← Int32.toInt_inj] at hz hq272_13_0 hq272_13_2 hq272_13_1 hq259_10_3; omega) hq272_13_3
            · exact absurd (by apply Decidable.by_contra; intro hz; have := own_i0; have := own_i1; have := own_i2; have := own_j2147483647; have := own_i3; have := own_i5; simp only [Int32.lt_iff_toInt_lt, ← Int32.toInt_inj] at hz hq259_11_0 hq259_11_2 hq259_11_1 hc254; omega) hq259_11_3
            · exact absurd (by apply Decidable.by_contra; intro hz; have := own_i0; have := own_i1; have := own_i2; have := own_j2147483647; have := own_i3; have := own_i5; simp only [Int32.lt_iff_toInt_lt, ← Int32.toInt_inj] at hz hq259_12_0 hq259_12_2 hq259_12_1 hc254; omega) hq259_12_3
            · exact absurd (by apply Decidable.by_contra; intro hz; have := own_i0; have := own_i1; have := own_i2; have := own_j2147483647; have := own_i3; have := own_i5; simp only [Int32.lt_iff_toInt_lt, ← Int32.toInt_inj] at hz hq259_13_0 hq259_13_2 hq259_13_1 hc254; omega) hq259_13_3
          · obtain ⟨_, _, ⟨T276, L276, k276, n276⟩, -, X276, ⟨Lc276, hQ276, l276, y276, z276⟩, st276⟩ := Jvm.LawKit.callS X256 hx (y := (⟨"com/example/fawley/fawley/protocol/CommandTakesPinLaw", "expected", "(II)Z"⟩ : MethodName)) hown (mvT hZ (own_w hw 13 rfl)) (mvT hZ (own_w hw 14 rfl)) (mvT hZ (own_w hw 15 rfl)) (mvT hZ (own_w hw 16 rfl)) (by decide) (backOf (W := 1) (rmExp l Z a0 hw [] ((p0_ &&& (2147483647 : Int32)) % (5 : Int32)) p1_ h0 n0 O0 ) hZ (own_w hw 16 rfl) (own_w hw 15 rfl) (by decide) (by decide)) (g := (mkF m 79 #[lvI p0_, lvI p1_, lvI p2_, lvI ((p0_ &&& (2147483647 : Int32)) % (5 : Int32)), lvR w_VDEL, lvI ((p2_ &&& (7 : Int32)) - (1 : Int32))] [(.int p1_), (.int ((p0_ &&& (2147483647 : Int32)) % (5 : Int32))), (.int (0 : Int32))])) rfl (by rw [hml]; rfl) (argsL := [(.int ((p0_ &&& (2147483647 : Int32)) % (5 : Int32))), (.int p1_)]) (rest := [(.int (0 : Int32))]) (lenOf pd_1 rfl) rfl (by show 2 * 0 + _ ≤ _; exact Nat.le_of_eq rfl) (hb hby at_79) (fun _ _ => ⟨rfl, e256', (by decide : 0 + 0 ≤ _), (by decide : 0 + 0 ≤ _)⟩)
            dsimp only [Pt.U, Pt.locs, Pt.cells, Pt.slots] at X276 l276 y276 z276 st276 hQ276
            subst l276 y276 z276
            obtain ⟨h276, e276⟩ : ∃ z, T276.heap = z := ⟨_, rfl⟩
            rw [e276] at hQ276
            obtain ⟨rr276, rfl, hs276, N276q, hh276⟩ := hQ276
            have N277 := Fr.app N258 N276q
            have e276' : T276.heap = h0 := e276.trans hh276
            rcases hs276 with ⟨rfl, hq276_0_0, hq276_0_1⟩ | ⟨rfl, hq276_1_0, hq276_1_1⟩ | ⟨rfl, hq276_2_0, hq276_2_1, hq276_2_2⟩ | ⟨rfl, hq276_3_0, hq276_3_1, hq276_3_2⟩ | ⟨rfl, hq276_4_0, hq276_4_1, hq276_4_2, hq276_4_3⟩ | ⟨rfl, hq276_5_0, hq276_5_1, hq276_5_2, hq276_5_3, hq276_5_4⟩ | ⟨rfl, hq276_6_0, hq276_6_1, hq276_6_2, hq276_6_3, hq276_6_4, hq276_6_5⟩ | ⟨rfl, hq276_7_0, hq276_7_1, hq276_7_2, hq276_7_3, hq276_7_4, hq276_7_5, hq276_7_6⟩ | ⟨rfl, hq276_8_0, hq276_8_1, hq276_8_2, hq276_8_3, hq276_8_4, hq276_8_5, hq276_8_6⟩ | ⟨rfl, hq276_9_0, hq276_9_1, hq276_9_2, hq276_9_3, hq276_9_4⟩ | ⟨rfl, hq276_10_0, hq276_10_1, hq276_10_2, hq276_10_3, hq276_10_4⟩ | ⟨rfl, hq276_11_0, hq276_11_1, hq276_11_2, hq276_11_3, hq276_11_4⟩ | ⟨rfl, hq276_12_0, hq276_12_1, hq276_12_2, hq276_12_3, hq276_12_4, hq276_12_5⟩ | ⟨rfl, hq276_13_0, hq276_13_1, hq276_13_2, hq276_13_3, hq276_13_4, hq276_13_5⟩
            · exact absurd hq276_0_0 (by intro hz; have := own_i0; have := own_i1; have := own_i2; have := own_j2147483647; have := own_i3; have := own_i5; simp only [Int32.lt_iff_toInt_lt, ← Int32.toInt_inj] at hz hc2 hc59 hc197 hc254; omega)
            · exact absurd hq276_1_0 (by intro hz; have := own_i0; have := own_i1; have := own_i2; have := own_j2147483647; have := own_i3; have := own_i5; simp only [Int32.lt_iff_toInt_lt, ← Int32.toInt_inj] at hz hc2 hc59 hc197 hc254; omega)
            · exact absurd hq276_2_1 (by intro hz; have := own_i0; have := own_i1; have := own_i2; have := own_j2147483647; have := own_i3; have := own_i5; simp only [Int32.lt_iff_toInt_lt, ← Int32.toInt_inj] at hz hq276_2_0 hc59 hc197 hc254; omega)
            · exact absurd hq276_3_1 (by intro hz; have := own_i0; have := own_i1; have := own_i2; have := own_j2147483647; have := own_i3; have := own_i5; simp only [Int32.lt_iff_toInt_lt, ← Int32.toInt_inj] at hz hq276_3_0 hc59 hc197 hc254; omega)
            · exact absurd hq276_4_2 (by intro hz; have := own_i0; have := own_i1; have := own_i2; have := own_j2147483647; have := own_i3; have := own_i5; simp only [Int32.lt_iff_toInt_lt, ← Int32.toInt_inj] at hz hq276_4_0 hc59 hq276_4_1 hc254; omega)
            · exact absurd hq276_5_2 (by intro hz; have := own_i0; have := own_i1; have := own_i2; have := own_j2147483647; have := own_i3; have := own_i5; simp only [Int32.lt_iff_toInt_lt, ← Int32.toInt_inj] at hz hq276_5_0 hc59 hq276_5_1 hc254; omega)
            · exact absurd hq276_6_2 (by intro hz; have := own_i0; have := own_i1; have := own_i2; have := own_j2147483647; have := own_i3; have := own_i5; simp only [Int32.lt_iff_toInt_lt, ← Int32.toInt_inj] at hz hq276_6_0 hc59 hq276_6_1 hc254; omega)
            · exact absurd hq276_7_2 (by intro hz; have := own_i0; have := own_i1; have := own_i2; have := own_j2147483647; have := own_i3; have := own_i5; simp only [Int32.lt_iff_toInt_lt, ← Int32.toInt_inj] at hz hq276_7_0 hc59 hq276_7_1 hc254; omega)
            · exact absurd hq276_8_2 (by intro hz; have := own_i0; have := own_i1; have := own_i2; have := own_j2147483647; have := own_i3; have := own_i5; simp only [Int32.lt_iff_toInt_lt, ← Int32.toInt_inj] at hz hq276_8_0 hc59 hq276_8_1 hc254; omega)
            · exact absurd hq276_9_4 (by intro hz; have := own_i2; simp only [Int32.lt_iff_toInt_lt, ← Int32.toInt_inj] at hz hq256_1_0 hq256_1_1; omega)
            · have f279 : Exa Z h0 w_VDEL cn0 := P13.ext O0.2
              obtain ⟨cq278, kq278, q278a, q278b, q278c⟩ := isOf hZ e276' f279
              obtain ⟨_, _, ⟨T278, L278, k278, n278⟩, -, X278, ⟨Lc278, hQ278, l278, y278, z278⟩, st278⟩ := X276.virtualBack hx (y := (⟨"com/example/fawley/fawley/protocol/Command", "takes", "(I)Z"⟩ : MethodName)) (z := (⟨"com/example/fawley/fawley/protocol/Command", "takes", "(I)Z"⟩ : MethodName)) hown (mvT hZ (own_w hw 4 rfl)) (mvT hZ (own_w hw 5 rfl)) (notFace_of_selects (args := #[]) (mvT hZ (own_w hw 7 rfl))) (mvT hZ (own_w hw 7 rfl)) (mvT hZ (own_w hw 6 rfl)) (by decide) (backOf (W := 0) (rmTak l Z a0 hw [] w_VDEL ((p2_ &&& (7 : Int32)) - (1 : Int32)) (2 : Int32) (2 : Int32) h0 n0 O0 P14 P15) hZ (own_w hw 8 rfl) (own_w hw 2 rfl) (by decide) (by decide)) q278a q278c (g := (mkF m 89 #[lvI p0_, lvI p1_, lvI p2_, lvI ((p0_ &&& (2147483647 : Int32)) % (5 : Int32)), lvR w_VDEL, lvI ((p2_ &&& (7 : Int32)) - (1 : Int32))] [(.int ((p2_ &&& (7 : Int32)) - (1 : Int32))), (.ref w_VDEL)])) rfl (by rw [hml]; rfl) (Steps.refl _) (argsL := [(.int ((p2_ &&& (7 : Int32)) - (1 : Int32)))]) (rest := []) (lenOf pd_0 rfl) rfl (by show 2 * 0 + _ ≤ _; exact Nat.le_of_eq rfl) (hb hby at_89) (fun _ _ => ⟨rfl, e276', (by decide : 0 + 0 ≤ _), (by decide : 0 + 0 ≤ _)⟩)
              dsimp only [Pt.U, Pt.locs, Pt.cells, Pt.slots] at X278 l278 y278 z278 st278 hQ278
              subst l278 y278 z278
              obtain ⟨h278, e278⟩ : ∃ z, T278.heap = z := ⟨_, rfl⟩
              rw [e278] at hQ278
              obtain ⟨rr278, rfl, hs278, N278q, hh278⟩ := hQ278
              have N280 := Fr.app N277 N278q
              have e278' : T278.heap = h0 := e278.trans hh278
              rcases hs278 with ⟨rfl, hq278_0_0⟩ | ⟨rfl, hq278_1_0, hq278_1_1⟩ | ⟨rfl, hq278_2_0, hq278_2_1⟩
              · obtain ⟨_, _, ⟨T281, L281, k281, n281⟩, -, X281, ⟨Lc281, hQ281, l281, y281, z281⟩, st281⟩ := Jvm.LawKit.callS X278 hx (y := (⟨"com/example/fawley/fawley/protocol/CommandTakesPinLaw", "expected", "(II)Z"⟩ : MethodName)) hown (mvT hZ (own_w hw 13 rfl)) (mvT hZ (own_w hw 14 rfl)) (mvT hZ (own_w hw 15 rfl)) (mvT hZ (own_w hw 16 rfl)) (by decide) (backOf (W := 1) (rmExp l Z a0 hw [] ((p0_ &&& (2147483647 : Int32)) % (5 : Int32)) ((p2_ &&& (7 : Int32)) - (1 : Int32)) h0 n0 O0 ) hZ (own_w hw 16 rfl) (own_w hw 15 rfl) (by decide) (by decide)) (g := (mkF m 95 #[lvI p0_, lvI p1_, lvI p2_, lvI ((p0_ &&& (2147483647 : Int32)) % (5 : Int32)), lvR w_VDEL, lvI ((p2_ &&& (7 : Int32)) - (1 : Int32))] [(.int ((p2_ &&& (7 : Int32)) - (1 : Int32))), (.int ((p0_ &&& (2147483647 : Int32)) % (5 : Int32))), (.int (0 : Int32))])) rfl (by rw [hml]; rfl) (argsL := [(.int ((p0_ &&& (2147483647 : Int32)) % (5 : Int32))), (.int ((p2_ &&& (7 : Int32)) - (1 : Int32)))]) (rest := [(.int (0 : Int32))]) (lenOf pd_1 rfl) rfl (by show 2 * 0 + _ ≤ _; exact Nat.le_of_eq rfl) (hb hby at_95) (fun _ _ => ⟨rfl, e278', (by decide : 0 + 0 ≤ _), (by decide : 0 + 0 ≤ _)⟩)
                dsimp only [Pt.U, Pt.locs, Pt.cells, Pt.slots] at X281 l281 y281 z281 st281 hQ281
                subst l281 y281 z281
                obtain ⟨h281, e281⟩ : ∃ z, T281.heap = z := ⟨_, rfl⟩
                rw [e281] at hQ281
                obtain ⟨rr281, rfl, hs281, N281q, hh281⟩ := hQ281
                have N282 := Fr.app N280 N281q
                have e281' : T281.heap = h0 := e281.trans hh281
                rcases hs281 with ⟨rfl, hq281_0_0, hq281_0_1⟩ | ⟨rfl, hq281_1_0, hq281_1_1⟩ | ⟨rfl, hq281_2_0, hq281_2_1, hq281_2_2⟩ | ⟨rfl, hq281_3_0, hq281_3_1, hq281_3_2⟩ | ⟨rfl, hq281_4_0, hq281_4_1, hq281_4_2, hq281_4_3⟩ | ⟨rfl, hq281_5_0, hq281_5_1, hq281_5_2, hq281_5_3, hq281_5_4⟩ | ⟨rfl, hq281_6_0, hq281_6_1, hq281_6_2, hq281_6_3, hq281_6_4, hq281_6_5⟩ | ⟨rfl, hq281_7_0, hq281_7_1, hq281_7_2, hq281_7_3, hq281_7_4, hq281_7_5, hq281_7_6⟩ | ⟨rfl, hq281_8_0, hq281_8_1, hq281_8_2, hq281_8_3, hq281_8_4, hq281_8_5, hq281_8_6⟩ | ⟨rfl, hq281_9_0, hq281_9_1, hq281_9_2, hq281_9_3, hq281_9_4⟩ | ⟨rfl, hq281_10_0, hq281_10_1, hq281_10_2, hq281_10_3, hq281_10_4⟩ | ⟨rfl, hq281_11_0, hq281_11_1, hq281_11_2, hq281_11_3, hq281_11_4⟩ | ⟨rfl, hq281_12_0, hq281_12_1, hq281_12_2, hq281_12_3, hq281_12_4, hq281_12_5⟩ | ⟨rfl, hq281_13_0, hq281_13_1, hq281_13_2, hq281_13_3, hq281_13_4, hq281_13_5⟩
                · exact absurd hq281_0_0 (by intro hz; have := own_i0; have := own_i1; have := own_i2; have := own_j2147483647; have := own_i3; have := own_i5; simp only [Int32.lt_iff_toInt_lt, ← Int32.toInt_inj] at hz hq276_10_0 hq276_10_2 hq276_10_1 hq276_10_3; omega)
                · exact absurd hq281_1_0 (by intro hz; have := own_i0; have := own_i1; have := own_i2; have := own_j2147483647; have := own_i3; have := own_i5; simp only [Int32.lt_iff_toInt_lt, ← Int32.toInt_inj] at hz hq276_10_0 hq276_10_2 hq276_10_1 hq276_10_3; omega)
                · exact absurd hq281_2_1 (by intro hz; have := own_i0; have := own_i1; have := own_i2; have := own_j2147483647; have := own_i3; have := own_i5; simp only [Int32.lt_iff_toInt_lt, ← Int32.toInt_inj] at hz hq281_2_0 hq276_10_2 hq276_10_1 hq276_10_3; omega)
                · exact absurd hq281_3_1 (by intro hz; have := own_i0; have := own_i1; have := own_i2; have := own_j2147483647; have := own_i3; have := own_i5; simp only [Int32.lt_iff_toInt_lt, ← Int32.toInt_inj] at hz hq281_3_0 hq276_10_2 hq276_10_1 hq276_10_3; omega)
                · exact absurd hq281_4_2 (by intro hz; have := own_i0; have := own_i1; have := own_i2; have := own_j2147483647; have := own_i3; have := own_i5; simp only [Int32.lt_iff_toInt_lt, ← Int32.toInt_inj] at hz hq281_4_0 hq276_10_2 hq281_4_1 hq276_10_3; omega)
                · exact absurd hq281_5_2 (by intro hz; have := own_i0; have := own_i1; have := own_i2; have := own_j2147483647; have := own_i3; have := own_i5; simp only [Int32.lt_iff_toInt_lt, ← Int32.toInt_inj] at hz hq281_5_0 hq276_10_2 hq281_5_1 hq276_10_3; omega)
                · exact absurd hq281_6_2 (by intro hz; have := own_i0; have := own_i1; have := own_i2; have := own_j2147483647; have := own_i3; have := own_i5; simp only [Int32.lt_iff_toInt_lt, ← Int32.toInt_inj] at hz hq281_6_0 hq276_10_2 hq281_6_1 hq276_10_3; omega)
                · exact absurd hq281_7_2 (by intro hz; have := own_i0; have := own_i1; have := own_i2; have := own_j2147483647; have := own_i3; have := own_i5; simp only [Int32.lt_iff_toInt_lt, ← Int32.toInt_inj] at hz hq281_7_0 hq276_10_2 hq281_7_1 hq276_10_3; omega)
                · exact absurd hq281_8_2 (by intro hz; have := own_i0; have := own_i1; have := own_i2; have := own_j2147483647; have := own_i3; have := own_i5; simp only [Int32.lt_iff_toInt_lt, ← Int32.toInt_inj] at hz hq281_8_0 hq276_10_2 hq281_8_1 hq276_10_3; omega)
                · exact absurd hq281_9_4 (by intro hz; have := own_i1; have := own_i2; have := own_i7; simp only [Int32.lt_iff_toInt_lt, ← Int32.toInt_inj] at hz hq278_0_0; omega)
                · have pre283 : ∀ t, own_S p e below m T281 106 #[lvI p0_, lvI p1_, lvI p2_, lvI ((p0_ &&& (2147483647 : Int32)) % (5 : Int32)), lvR w_VDEL, lvI ((p2_ &&& (7 : Int32)) - (1 : Int32))] [(.int (1 : Int32))] t → G t := by
                    intro t kt
                    refine pre253 t ?_
                    show own_S p e below m s₁ 47 #[lvI p0_, lvI p1_, lvI p2_, lvI ((p0_ &&& (2147483647 : Int32)) % (5 : Int32)), .unset, .unset] [(.int (3 : Int32)), (.int ((p0_ &&& (2147483647 : Int32)) % (5 : Int32)))] _
                    refine XS.icmpNo X0.here hx rfl (hb hby at_47) rfl (teq hc254).2 ?_
                    show own_S p e below m s₁ 50 #[lvI p0_, lvI p1_, lvI p2_, lvI ((p0_ &&& (2147483647 : Int32)) % (5 : Int32)), .unset, .unset] [] _
                    refine st255 _ ?_
                    refine XS.astore X255.here hx rfl (hb hby at_53) rfl rfl (l' := #[lvI p0_, lvI p1_, lvI p2_, lvI ((p0_ &&& (2147483647 : Int32)) % (5 : Int32)), lvR w_VDEL, .unset]) rfl ?_
                    refine XS.goto X255.here hx rfl (pc0 := 55) (pc' := 63) rfl (hb hby at_55) (by decide) (by decide) ?_
                    refine XS.iloadN X255.here hx rfl (hb hby at_63) rfl ?_
                    refine XS.bipush X255.here hx rfl (hb hby at_64) ?_
                    refine XS.iand X255.here hx rfl (hb hby at_66) rfl ?_
                    show own_S p e below m T255 67 #[lvI p0_, lvI p1_, lvI p2_, lvI ((p0_ &&& (2147483647 : Int32)) % (5 : Int32)), lvR w_VDEL, .unset] [(.int (p2_ &&& (7 : Int32)))] _
                    refine XS.iconst X255.here hx rfl (hb hby at_67) ?_
                    refine XS.isub X255.here hx rfl (hb hby at_68) rfl ?_
                    refine XS.istore X255.here hx rfl (hb hby at_69) rfl (l' := #[lvI p0_, lvI p1_, lvI p2_, lvI ((p0_ &&& (2147483647 : Int32)) % (5 : Int32)), lvR w_VDEL, lvI ((p2_ &&& (7 : Int32)) - (1 : Int32))]) rfl ?_
                    refine XS.aload X255.here hx rfl (hb hby at_71) rfl rfl ?_
                    refine XS.iloadN X255.here hx rfl (hb hby at_73) rfl ?_
                    show own_S p e below m T255 74 #[lvI p0_, lvI p1_, lvI p2_, lvI ((p0_ &&& (2147483647 : Int32)) % (5 : Int32)), lvR w_VDEL, lvI ((p2_ &&& (7 : Int32)) - (1 : Int32))] [(.int p1_), (.ref w_VDEL)] _
                    refine st256.trans ?_
                    refine XS.iloadN X256.here hx rfl (hb hby at_77) rfl ?_
                    refine XS.iloadN X256.here hx rfl (hb hby at_78) rfl ?_
                    show own_S p e below m T256 79 #[lvI p0_, lvI p1_, lvI p2_, lvI ((p0_ &&& (2147483647 : Int32)) % (5 : Int32)), lvR w_VDEL, lvI ((p2_ &&& (7 : Int32)) - (1 : Int32))] [(.int p1_), (.int ((p0_ &&& (2147483647 : Int32)) % (5 : Int32))), (.int (0 : Int32))] _
                    refine st276 _ ?_
                    show own_S p e below m T276 82 #[lvI p0_, lvI p1_, lvI p2_, lvI ((p0_ &&& (2147483647 : Int32)) % (5 : Int32)), lvR w_VDEL, lvI ((p2_ &&& (7 : Int32)) - (1 : Int32))] [(.int (0 : Int32)), (.int (0 : Int32))] _
                    refine XS.icmpNo X276.here hx rfl (hb hby at_82) rfl (teq (by decide : (0 : Int32) = (0 : Int32))).2 ?_
                    refine XS.aload X276.here hx rfl (hb hby at_85) rfl rfl ?_
                    refine XS.iload X276.here hx rfl (hb hby at_87) rfl ?_
                    show own_S p e below m T276 89 #[lvI p0_, lvI p1_, lvI p2_, lvI ((p0_ &&& (2147483647 : Int32)) % (5 : Int32)), lvR w_VDEL, lvI ((p2_ &&& (7 : Int32)) - (1 : Int32))] [(.int ((p2_ &&& (7 : Int32)) - (1 : Int32))), (.ref w_VDEL)] _
                    refine st278.trans ?_
                    refine XS.iloadN X278.here hx rfl (hb hby at_92) rfl ?_
                    refine XS.iload X278.here hx rfl (hb hby at_93) rfl ?_
                    show own_S p e below m T278 95 #[lvI p0_, lvI p1_, lvI p2_, lvI ((p0_ &&& (2147483647 : Int32)) % (5 : Int32)), lvR w_VDEL, lvI ((p2_ &&& (7 : Int32)) - (1 : Int32))] [(.int ((p2_ &&& (7 : Int32)) - (1 : Int32))), (.int ((p0_ &&& (2147483647 : Int32)) % (5 : Int32))), (.int (0 : Int32))] _
                    refine st281 _ ?_
                    show own_S p e below m T281 98 #[lvI p0_, lvI p1_, lvI p2_, lvI ((p0_ &&& (2147483647 : Int32)) % (5 : Int32)), lvR w_VDEL, lvI ((p2_ &&& (7 : Int32)) - (1 : Int32))] [(.int (0 : Int32)), (.int (0 : Int32))] _
                    refine XS.icmpNo X281.here hx rfl (hb hby at_98) rfl (teq (by decide : (0 : Int32) = (0 : Int32))).2 ?_
                    refine XS.iconst X281.here hx rfl (hb hby at_101) ?_
                    refine XS.goto X281.here hx rfl (pc0 := 102) (pc' := 106) rfl (hb hby at_102) (by decide) (by decide) ?_
                    exact kt
                  obtain ⟨fs, hr, hrun, hended, hW, hsame⟩ := X281.leave (v := some (.int (1 : Int32))) (fun h => by rw [Bd.returns] at h; cases h)
                  refine ⟨_, _, hG _ (pre283 _ (retN X281 hx (t := .boolean) Bd.returns (by simp) (hb hby at_106) hr)), hrun, hended, _, _, rfl, ?_, ⟨_, rfl⟩, hW, hsame.mono (by decide) (by decide)⟩
                  show QLaw Z p0_ p1_ p2_ w_GET w_SET w_DEL w_VDEL w_KEYNOTIFY h0 n0 _ T281.heap _
                  rw [e281']
                  exact ⟨rfl, N282⟩
                · exact absurd (by apply Decidable.by_contra; intro hz; have := own_i0; have := own_i1; have := own_i2; have := own_j2147483647; have := own_i3; have := own_i5; simp only [Int32.lt_iff_toInt_lt, ← Int32.toInt_inj] at hz hq281_11_0 hq281_11_2 hq281_11_1 hq276_10_3; omega) hq281_11_3
                · exact absurd (by apply Decidable.by_contra; intro hz; have := own_i0; have := own_i1; have := own_i2; have := own_j2147483647; have := own_i3; have := own_i5; simp only [Int32.lt_iff_toInt_lt, ← Int32.toInt_inj] at hz hq281_12_0 hq281_12_2 hq281_12_1 hq276_10_3; omega) hq281_12_3
                · exact absurd (by apply Decidable.by_contra; intro hz; have := own_i0; have := own_i1; have := own_i2; have := own_j2147483647; have := own_i3; have := own_i5; simp only [Int32.lt_iff_toInt_lt, ← Int32.toInt_inj] at hz hq281_13_0 hq281_13_2 hq281_13_1 hq276_10_3; omega) hq281_13_3
              · obtain ⟨_, _, ⟨T285, L285, k285, n285⟩, -, X285, ⟨Lc285, hQ285, l285, y285, z285⟩, st285⟩ := Jvm.LawKit.callS X278 hx (y := (⟨"com/example/fawley/fawley/protocol/CommandTakesPinLaw", "expected", "(II)Z"⟩ : MethodName)) hown (mvT hZ (own_w hw 13 rfl)) (mvT hZ (own_w hw 14 rfl)) (mvT hZ (own_w hw 15 rfl)) (mvT hZ (own_w hw 16 rfl)) (by decide) (backOf (W := 1) (rmExp l Z a0 hw [] ((p0_ &&& (2147483647 : Int32)) % (5 : Int32)) ((p2_ &&& (7 : Int32)) - (1 : Int32)) h0 n0 O0 ) hZ (own_w hw 16 rfl) (own_w hw 15 rfl) (by decide) (by decide)) (g := (mkF m 95 #[lvI p0_, lvI p1_, lvI p2_, lvI ((p0_ &&& (2147483647 : Int32)) % (5 : Int32)), lvR w_VDEL, lvI ((p2_ &&& (7 : Int32)) - (1 : Int32))] [(.int ((p2_ &&& (7 : Int32)) - (1 : Int32))), (.int ((p0_ &&& (2147483647 : Int32)) % (5 : Int32))), (.int (0 : Int32))])) rfl (by rw [hml]; rfl) (argsL := [(.int ((p0_ &&& (2147483647 : Int32)) % (5 : Int32))), (.int ((p2_ &&& (7 : Int32)) - (1 : Int32)))]) (rest := [(.int (0 : Int32))]) (lenOf pd_1 rfl) rfl (by show 2 * 0 + _ ≤ _; exact Nat.le_of_eq rfl) (hb hby at_95) (fun _ _ => ⟨rfl, e278', (by decide : 0 + 0 ≤ _), (by decide : 0 + 0 ≤ _)⟩)
                dsimp only [Pt.U, Pt.locs, Pt.cells, Pt.slots] at X285 l285 y285 z285 st285 hQ285
                subst l285 y285 z285
                obtain ⟨h285, e285⟩ : ∃ z, T285.heap = z := ⟨_, rfl⟩
                rw [e285] at hQ285
                obtain ⟨rr285, rfl, hs285, N285q, hh285⟩ := hQ285
                have N286 := Fr.app N280 N285q
                have e285' : T285.heap = h0 := e285.trans hh285
                rcases hs285 with ⟨rfl, hq285_0_0, hq285_0_1⟩ | ⟨rfl, hq285_1_0, hq285_1_1⟩ | ⟨rfl, hq285_2_0, hq285_2_1, hq285_2_2⟩ | ⟨rfl, hq285_3_0, hq285_3_1, hq285_3_2⟩ | ⟨rfl, hq285_4_0, hq285_4_1, hq285_4_2, hq285_4_3⟩ | ⟨rfl, hq285_5_0, hq285_5_1, hq285_5_2, hq285_5_3, hq285_5_4⟩ | ⟨rfl, hq285_6_0, hq285_6_1, hq285_6_2, hq285_6_3, hq285_6_4, hq285_6_5⟩ | ⟨rfl, hq285_7_0, hq285_7_1, hq285_7_2, hq285_7_3, hq285_7_4, hq285_7_5, hq285_7_6⟩ | ⟨rfl, hq285_8_0, hq285_8_1, hq285_8_2, hq285_8_3, hq285_8_4, hq285_8_5, hq285_8_6⟩ | ⟨rfl, hq285_9_0, hq285_9_1, hq285_9_2, hq285_9_3, hq285_9_4⟩ | ⟨rfl, hq285_10_0, hq285_10_1, hq285_10_2, hq285_10_3, hq285_10_4⟩ | ⟨rfl, hq285_11_0, hq285_11_1, hq285_11_2, hq285_11_3, hq285_11_4⟩ | ⟨rfl, hq285_12_0, hq285_12_1, hq285_12_2, hq285_12_3, hq285_12_4, hq285_12_5⟩ | ⟨rfl, hq285_13_0, hq285_13_1, hq285_13_2, hq285_13_3, hq285_13_4, hq285_13_5⟩
                · exact absurd hq285_0_0 (by intro hz; have := own_i0; have := own_i1; have := own_i2; have := own_j2147483647; have := own_i3; have := own_i5; simp only [Int32.lt_iff_toInt_lt, ← Int32.toInt_inj] at hz hq276_10_0 hq276_10_2 hq276_10_1 hq276_10_3; omega)
                · exact absurd hq285_1_0 (by intro hz; have := own_i0; have := own_i1; have := own_i2; have := own_j2147483647; have := own_i3; have := own_i5; simp only [Int32.lt_iff_toInt_lt, ← Int32.toInt_inj] at hz hq276_10_0 hq276_10_2 hq276_10_1 hq276_10_3; omega)
                · exact absurd hq285_2_1 (by intro hz; have := own_i0; have := own_i1; have := own_i2; have := own_j2147483647; have := own_i3; have := own_i5; simp only [Int32.lt_iff_toInt_lt, ← Int32.toInt_inj] at hz hq285_2_0 hq276_10_2 hq276_10_1 hq276_10_3; omega)
                · exact absurd hq285_3_1 (by intro hz; have := own_i0; have := own_i1; have := own_i2; have := own_j2147483647; have := own_i3; have := own_i5; simp only [Int32.lt_iff_toInt_lt, ← Int32.toInt_inj] at hz hq285_3_0 hq276_10_2 hq276_10_1 hq276_10_3; omega)
                · exact absurd hq285_4_2 (by intro hz; have := own_i0; have := own_i1; have := own_i2; have := own_j2147483647; have := own_i3; have := own_i5; simp only [Int32.lt_iff_toInt_lt, ← Int32.toInt_inj] at hz hq285_4_0 hq276_10_2 hq285_4_1 hq276_10_3; omega)
                · exact absurd hq285_5_2 (by intro hz; have := own_i0; have := own_i1; have := own_i2; have := own_j2147483647; have := own_i3; have := own_i5; simp only [Int32.lt_iff_toInt_lt, ← Int32.toInt_inj] at hz hq285_5_0 hq276_10_2 hq285_5_1 hq276_10_3; omega)
                · exact absurd hq285_6_2 (by intro hz; have := own_i0; have := own_i1; have := own_i2; have := own_j2147483647; have := own_i3; have := own_i5; simp only [Int32.lt_iff_toInt_lt, ← Int32.toInt_inj] at hz hq285_6_0 hq276_10_2 hq285_6_1 hq276_10_3; omega)
                · exact absurd hq285_7_2 (by intro hz; have := own_i0; have := own_i1; have := own_i2; have := own_j2147483647; have := own_i3; have := own_i5; simp only [Int32.lt_iff_toInt_lt, ← Int32.toInt_inj] at hz hq285_7_0 hq276_10_2 hq285_7_1 hq276_10_3; omega)
                · exact absurd hq285_8_2 (by intro hz; have := own_i0; have := own_i1; have := own_i2; have := own_j2147483647; have := own_i3; have := own_i5; simp only [Int32.lt_iff_toInt_lt, ← Int32.toInt_inj] at hz hq285_8_0 hq276_10_2 hq285_8_1 hq276_10_3; omega)
                · exact absurd hq285_9_4 (by intro hz; have := own_i1; have := own_i2; have := own_i7; simp only [Int32.lt_iff_toInt_lt, ← Int32.toInt_inj] at hz hq278_1_0 hq278_1_1; omega)
                · have pre287 : ∀ t, own_S p e below m T285 106 #[lvI p0_, lvI p1_, lvI p2_, lvI ((p0_ &&& (2147483647 : Int32)) % (5 : Int32)), lvR w_VDEL, lvI ((p2_ &&& (7 : Int32)) - (1 : Int32))] [(.int (1 : Int32))] t → G t := by
                    intro t kt
                    refine pre253 t ?_
                    show own_S p e below m s₁ 47 #[lvI p0_, lvI p1_, lvI p2_, lvI ((p0_ &&& (2147483647 : Int32)) % (5 : Int32)), .unset, .unset] [(.int (3 : Int32)), (.int ((p0_ &&& (2147483647 : Int32)) % (5 : Int32)))] _
                    refine XS.icmpNo X0.here hx rfl (hb hby at_47) rfl (teq hc254).2 ?_
                    show own_S p e below m s₁ 50 #[lvI p0_, lvI p1_, lvI p2_, lvI ((p0_ &&& (2147483647 : Int32)) % (5 : Int32)), .unset, .unset] [] _
                    refine st255 _ ?_
                    refine XS.astore X255.here hx rfl (hb hby at_53) rfl rfl (l' := #[lvI p0_, lvI p1_, lvI p2_, lvI ((p0_ &&& (2147483647 : Int32)) % (5 : Int32)), lvR w_VDEL, .unset]) rfl ?_
                    refine XS.goto X255.here hx rfl (pc0 := 55) (pc' := 63) rfl (hb hby at_55) (by decide) (by decide) ?_
                    refine XS.iloadN X255.here hx rfl (hb hby at_63) rfl ?_
                    refine XS.bipush X255.here hx rfl (hb hby at_64) ?_
                    refine XS.iand X255.here hx rfl (hb hby at_66) rfl ?_
                    show own_S p e below m T255 67 #[lvI p0_, lvI p1_, lvI p2_, lvI ((p0_ &&& (2147483647 : Int32)) % (5 : Int32)), lvR w_VDEL, .unset] [(.int (p2_ &&& (7 : Int32)))] _
                    refine XS.iconst X255.here hx rfl (hb hby at_67) ?_
                    refine XS.isub X255.here hx rfl (hb hby at_68) rfl ?_
                    refine XS.istore X255.here hx rfl (hb hby at_69) rfl (l' := #[lvI p0_, lvI p1_, lvI p2_, lvI ((p0_ &&& (2147483647 : Int32)) % (5 : Int32)), lvR w_VDEL, lvI ((p2_ &&& (7 : Int32)) - (1 : Int32))]) rfl ?_
                    refine XS.aload X255.here hx rfl (hb hby at_71) rfl rfl ?_
                    refine XS.iloadN X255.here hx rfl (hb hby at_73) rfl ?_
                    show own_S p e below m T255 74 #[lvI p0_, lvI p1_, lvI p2_, lvI ((p0_ &&& (2147483647 : Int32)) % (5 : Int32)), lvR w_VDEL, lvI ((p2_ &&& (7 : Int32)) - (1 : Int32))] [(.int p1_), (.ref w_VDEL)] _
                    refine st256.trans ?_
                    refine XS.iloadN X256.here hx rfl (hb hby at_77) rfl ?_
                    refine XS.iloadN X256.here hx rfl (hb hby at_78) rfl ?_
                    show own_S p e below m T256 79 #[lvI p0_, lvI p1_, lvI p2_, lvI ((p0_ &&& (2147483647 : Int32)) % (5 : Int32)), lvR w_VDEL, lvI ((p2_ &&& (7 : Int32)) - (1 : Int32))] [(.int p1_), (.int ((p0_ &&& (2147483647 : Int32)) % (5 : Int32))), (.int (0 : Int32))] _
                    refine st276 _ ?_
                    show own_S p e below m T276 82 #[lvI p0_, lvI p1_, lvI p2_, lvI ((p0_ &&& (2147483647 : Int32)) % (5 : Int32)), lvR w_VDEL, lvI ((p2_ &&& (7 : Int32)) - (1 : Int32))] [(.int (0 : Int32)), (.int (0 : Int32))] _
                    refine XS.icmpNo X276.here hx rfl (hb hby at_82) rfl (teq (by decide : (0 : Int32) = (0 : Int32))).2 ?_
                    refine XS.aload X276.here hx rfl (hb hby at_85) rfl rfl ?_
                    refine XS.iload X276.here hx rfl (hb hby at_87) rfl ?_
                    show own_S p e below m T276 89 #[lvI p0_, lvI p1_, lvI p2_, lvI ((p0_ &&& (2147483647 : Int32)) % (5 : Int32)), lvR w_VDEL, lvI ((p2_ &&& (7 : Int32)) - (1 : Int32))] [(.int ((p2_ &&& (7 : Int32)) - (1 : Int32))), (.ref w_VDEL)] _
                    refine st278.trans ?_
                    refine XS.iloadN X278.here hx rfl (hb hby at_92) rfl ?_
                    refine XS.iload X278.here hx rfl (hb hby at_93) rfl ?_
                    show own_S p e below m T278 95 #[lvI p0_, lvI p1_, lvI p2_, lvI ((p0_ &&& (2147483647 : Int32)) % (5 : Int32)), lvR w_VDEL, lvI ((p2_ &&& (7 : Int32)) - (1 : Int32))] [(.int ((p2_ &&& (7 : Int32)) - (1 : Int32))), (.int ((p0_ &&& (2147483647 : Int32)) % (5 : Int32))), (.int (0 : Int32))] _
                    refine st285 _ ?_
                    show own_S p e below m T285 98 #[lvI p0_, lvI p1_, lvI p2_, lvI ((p0_ &&& (2147483647 : Int32)) % (5 : Int32)), lvR w_VDEL, lvI ((p2_ &&& (7 : Int32)) - (1 : Int32))] [(.int (0 : Int32)), (.int (0 : Int32))] _
                    refine XS.icmpNo X285.here hx rfl (hb hby at_98) rfl (teq (by decide : (0 : Int32) = (0 : Int32))).2 ?_
                    refine XS.iconst X285.here hx rfl (hb hby at_101) ?_
                    refine XS.goto X285.here hx rfl (pc0 := 102) (pc' := 106) rfl (hb hby at_102) (by decide) (by decide) ?_
                    exact kt
                  obtain ⟨fs, hr, hrun, hended, hW, hsame⟩ := X285.leave (v := some (.int (1 : Int32))) (fun h => by rw [Bd.returns] at h; cases h)
                  refine ⟨_, _, hG _ (pre287 _ (retN X285 hx (t := .boolean) Bd.returns (by simp) (hb hby at_106) hr)), hrun, hended, _, _, rfl, ?_, ⟨_, rfl⟩, hW, hsame.mono (by decide) (by decide)⟩
                  show QLaw Z p0_ p1_ p2_ w_GET w_SET w_DEL w_VDEL w_KEYNOTIFY h0 n0 _ T285.heap _
                  rw [e285']
                  exact ⟨rfl, N286⟩
                · exact absurd (by apply Decidable.by_contra; intro hz; have := own_i0; have := own_i1; have := own_i2; have := own_j2147483647; have := own_i3; have := own_i5; simp only [Int32.lt_iff_toInt_lt, ← Int32.toInt_inj] at hz hq285_11_0 hq285_11_2 hq285_11_1 hq276_10_3; omega) hq285_11_3
                · exact absurd (by apply Decidable.by_contra; intro hz; have := own_i0; have := own_i1; have := own_i2; have := own_j2147483647; have := own_i3; have := own_i5; simp only [Int32.lt_iff_toInt_lt, ← Int32.toInt_inj] at hz hq285_12_0 hq285_12_2 hq285_12_1 hq276_10_3; omega) hq285_12_3
                · exact absurd (by apply Decidable.by_contra; intro hz; have := own_i0; have := own_i1; have := own_i2; have := own_j2147483647; have := own_i3; have := own_i5; simp only [Int32.lt_iff_toInt_lt, ← Int32.toInt_inj] at hz hq285_13_0 hq285_13_2 hq285_13_1 hq276_10_3; omega) hq285_13_3
              · obtain ⟨_, _, ⟨T289, L289, k289, n289⟩, -, X289, ⟨Lc289, hQ289, l289, y289, z289⟩, st289⟩ := Jvm.LawKit.callS X278 hx (y := (⟨"com/example/fawley/fawley/protocol/CommandTakesPinLaw", "expected", "(II)Z"⟩ : MethodName)) hown (mvT hZ (own_w hw 13 rfl)) (mvT hZ (own_w hw 14 rfl)) (mvT hZ (own_w hw 15 rfl)) (mvT hZ (own_w hw 16 rfl)) (by decide) (backOf (W := 1) (rmExp l Z a0 hw [] ((p0_ &&& (2147483647 : Int32)) % (5 : Int32)) ((p2_ &&& (7 : Int32)) - (1 : Int32)) h0 n0 O0 ) hZ (own_w hw 16 rfl) (own_w hw 15 rfl) (by decide) (by decide)) (g := (mkF m 95 #[lvI p0_, lvI p1_, lvI p2_, lvI ((p0_ &&& (2147483647 : Int32)) % (5 : Int32)), lvR w_VDEL, lvI ((p2_ &&& (7 : Int32)) - (1 : Int32))] [(.int ((p2_ &&& (7 : Int32)) - (1 : Int32))), (.int ((p0_ &&& (2147483647 : Int32)) % (5 : Int32))), (.int (1 : Int32))])) rfl (by rw [hml]; rfl) (argsL := [(.int ((p0_ &&& (2147483647 : Int32)) % (5 : Int32))), (.int ((p2_ &&& (7 : Int32)) - (1 : Int32)))]) (rest := [(.int (1 : Int32))]) (lenOf pd_1 rfl) rfl (by show 2 * 0 + _ ≤ _; exact Nat.le_of_eq rfl) (hb hby at_95) (fun _ _ => ⟨rfl, e278', (by decide : 0 + 0 ≤ _), (by decide : 0 + 0 ≤ _)⟩)
                dsimp only [Pt.U, Pt.locs, Pt.cells, Pt.slots] at X289 l289 y289 z289 st289 hQ289
                subst l289 y289 z289
                obtain ⟨h289, e289⟩ : ∃ z, T289.heap = z := ⟨_, rfl⟩
                rw [e289] at hQ289
                obtain ⟨rr289, rfl, hs289, N289q, hh289⟩ := hQ289
                have N290 := Fr.app N280 N289q
                have e289' : T289.heap = h0 := e289.trans hh289
                rcases hs289 with ⟨rfl, hq289_0_0, hq289_0_1⟩ | ⟨rfl, hq289_1_0, hq289_1_1⟩ | ⟨rfl, hq289_2_0, hq289_2_1, hq289_2_2⟩ | ⟨rfl, hq289_3_0, hq289_3_1, hq289_3_2⟩ | ⟨rfl, hq289_4_0, hq289_4_1, hq289_4_2, hq289_4_3⟩ | ⟨rfl, hq289_5_0, hq289_5_1, hq289_5_2, hq289_5_3, hq289_5_4⟩ | ⟨rfl, hq289_6_0, hq289_6_1, hq289_6_2, hq289_6_3, hq289_6_4, hq289_6_5⟩ | ⟨rfl, hq289_7_0, hq289_7_1, hq289_7_2, hq289_7_3, hq289_7_4, hq289_7_5, hq289_7_6⟩ | ⟨rfl, hq289_8_0, hq289_8_1, hq289_8_2, hq289_8_3, hq289_8_4, hq289_8_5, hq289_8_6⟩ | ⟨rfl, hq289_9_0, hq289_9_1, hq289_9_2, hq289_9_3, hq289_9_4⟩ | ⟨rfl, hq289_10_0, hq289_10_1, hq289_10_2, hq289_10_3, hq289_10_4⟩ | ⟨rfl, hq289_11_0, hq289_11_1, hq289_11_2, hq289_11_3, hq289_11_4⟩ | ⟨rfl, hq289_12_0, hq289_12_1, hq289_12_2, hq289_12_3, hq289_12_4, hq289_12_5⟩ | ⟨rfl, hq289_13_0, hq289_13_1, hq289_13_2, hq289_13_3, hq289_13_4, hq289_13_5⟩
                · exact absurd hq289_0_0 (by intro hz; have := own_i0; have := own_i1; have := own_i2; have := own_j2147483647; have := own_i3; have := own_i5; simp only [Int32.lt_iff_toInt_lt, ← Int32.toInt_inj] at hz hq276_10_0 hq276_10_2 hq276_10_1 hq276_10_3; omega)
                · exact absurd hq289_1_0 (by intro hz; have := own_i0; have := own_i1; have := own_i2; have := own_j2147483647; have := own_i3; have := own_i5; simp only [Int32.lt_iff_toInt_lt, ← Int32.toInt_inj] at hz hq276_10_0 hq276_10_2 hq276_10_1 hq276_10_3; omega)
                · exact absurd hq289_2_1 (by intro hz; have := own_i0; have := own_i1; have := own_i2; have := own_j2147483647; have := own_i3; have := own_i5; simp only [Int32.lt_iff_toInt_lt, ← Int32.toInt_inj] at hz hq289_2_0 hq276_10_2 hq276_10_1 hq276_10_3; omega)
                · exact absurd hq289_3_1 (by intro hz; have := own_i0; have := own_i1; have := own_i2; have := own_j2147483647; have := own_i3; have := own_i5; simp only [Int32.lt_iff_toInt_lt, ← Int32.toInt_inj] at hz hq289_3_0 hq276_10_2 hq276_10_1 hq276_10_3; omega)
                · exact absurd hq289_4_2 (by intro hz; have := own_i0; have := own_i1; have := own_i2; have := own_j2147483647; have := own_i3; have := own_i5; simp only [Int32.lt_iff_toInt_lt, ← Int32.toInt_inj] at hz hq289_4_0 hq276_10_2 hq289_4_1 hq276_10_3; omega)
                · exact absurd hq289_5_2 (by intro hz; have := own_i0; have := own_i1; have := own_i2; have := own_j2147483647; have := own_i3; have := own_i5; simp only [Int32.lt_iff_toInt_lt, ← Int32.toInt_inj] at hz hq289_5_0 hq276_10_2 hq289_5_1 hq276_10_3; omega)
                · exact absurd hq289_6_2 (by intro hz; have := own_i0; have := own_i1; have := own_i2; have := own_j2147483647; have := own_i3; have := own_i5; simp only [Int32.lt_iff_toInt_lt, ← Int32.toInt_inj] at hz hq289_6_0 hq276_10_2 hq289_6_1 hq276_10_3; omega)
                · exact absurd hq289_7_2 (by intro hz; have := own_i0; have := own_i1; have := own_i2; have := own_j2147483647; have := own_i3; have := own_i5; simp only [Int32.lt_iff_toInt_lt, ← Int32.toInt_inj] at hz hq289_7_0 hq276_10_2 hq289_7_1 hq276_10_3; omega)
                · exact absurd hq289_8_2 (by intro hz; have := own_i0; have := own_i1; have := own_i2; have := own_j2147483647; have := own_i3; have := own_i5; simp only [Int32.lt_iff_toInt_lt, ← Int32.toInt_inj] at hz hq289_8_0 hq276_10_2 hq289_8_1 hq276_10_3; omega)
                · have pre291 : ∀ t, own_S p e below m T289 106 #[lvI p0_, lvI p1_, lvI p2_, lvI ((p0_ &&& (2147483647 : Int32)) % (5 : Int32)), lvR w_VDEL, lvI ((p2_ &&& (7 : Int32)) - (1 : Int32))] [(.int (1 : Int32))] t → G t := by
                    intro t kt
                    refine pre253 t ?_
                    show own_S p e below m s₁ 47 #[lvI p0_, lvI p1_, lvI p2_, lvI ((p0_ &&& (2147483647 : Int32)) % (5 : Int32)), .unset, .unset] [(.int (3 : Int32)), (.int ((p0_ &&& (2147483647 : Int32)) % (5 : Int32)))] _
                    refine XS.icmpNo X0.here hx rfl (hb hby at_47) rfl (teq hc254).2 ?_
                    show own_S p e below m s₁ 50 #[lvI p0_, lvI p1_, lvI p2_, lvI ((p0_ &&& (2147483647 : Int32)) % (5 : Int32)), .unset, .unset] [] _
                    refine st255 _ ?_
                    refine XS.astore X255.here hx rfl (hb hby at_53) rfl rfl (l' := #[lvI p0_, lvI p1_, lvI p2_, lvI ((p0_ &&& (2147483647 : Int32)) % (5 : Int32)), lvR w_VDEL, .unset]) rfl ?_
                    refine XS.goto X255.here hx rfl (pc0 := 55) (pc' := 63) rfl (hb hby at_55) (by decide) (by decide) ?_
                    refine XS.iloadN X255.here hx rfl (hb hby at_63) rfl ?_
                    refine XS.bipush X255.here hx rfl (hb hby at_64) ?_
                    refine XS.iand X255.here hx rfl (hb hby at_66) rfl ?_
                    show own_S p e below m T255 67 #[lvI p0_, lvI p1_, lvI p2_, lvI ((p0_ &&& (2147483647 : Int32)) % (5 : Int32)), lvR w_VDEL, .unset] [(.int (p2_ &&& (7 : Int32)))] _
                    refine XS.iconst X255.here hx rfl (hb hby at_67) ?_
                    refine XS.isub X255.here hx rfl (hb hby at_68) rfl ?_
                    refine XS.istore X255.here hx rfl (hb hby at_69) rfl (l' := #[lvI p0_, lvI p1_, lvI p2_, lvI ((p0_ &&& (2147483647 : Int32)) % (5 : Int32)), lvR w_VDEL, lvI ((p2_ &&& (7 : Int32)) - (1 : Int32))]) rfl ?_
                    refine XS.aload X255.here hx rfl (hb hby at_71) rfl rfl ?_
                    refine XS.iloadN X255.here hx rfl (hb hby at_73) rfl ?_
                    show own_S p e below m T255 74 #[lvI p0_, lvI p1_, lvI p2_, lvI ((p0_ &&& (2147483647 : Int32)) % (5 : Int32)), lvR w_VDEL, lvI ((p2_ &&& (7 : Int32)) - (1 : Int32))] [(.int p1_), (.ref w_VDEL)] _
                    refine st256.trans ?_
                    refine XS.iloadN X256.here hx rfl (hb hby at_77) rfl ?_
                    refine XS.iloadN X256.here hx rfl (hb hby at_78) rfl ?_
                    show own_S p e below m T256 79 #[lvI p0_, lvI p1_, lvI p2_, lvI ((p0_ &&& (2147483647 : Int32)) % (5 : Int32)), lvR w_VDEL, lvI ((p2_ &&& (7 : Int32)) - (1 : Int32))] [(.int p1_), (.int ((p0_ &&& (2147483647 : Int32)) % (5 : Int32))), (.int (0 : Int32))] _
                    refine st276 _ ?_
                    show own_S p e below m T276 82 #[lvI p0_, lvI p1_, lvI p2_, lvI ((p0_ &&& (2147483647 : Int32)) % (5 : Int32)), lvR w_VDEL, lvI ((p2_ &&& (7 : Int32)) - (1 : Int32))] [(.int (0 : Int32)), (.int (0 : Int32))] _
                    refine XS.icmpNo X276.here hx rfl (hb hby at_82) rfl (teq (by decide : (0 : Int32) = (0 : Int32))).2 ?_
                    refine XS.aload X276.here hx rfl (hb hby at_85) rfl rfl ?_
                    refine XS.iload X276.here hx rfl (hb hby at_87) rfl ?_
                    show own_S p e below m T276 89 #[lvI p0_, lvI p1_, lvI p2_, lvI ((p0_ &&& (2147483647 : Int32)) % (5 : Int32)), lvR w_VDEL, lvI ((p2_ &&& (7 : Int32)) - (1 : Int32))] [(.int ((p2_ &&& (7 : Int32)) - (1 : Int32))), (.ref w_VDEL)] _
                    refine st278.trans ?_
                    refine XS.iloadN X278.here hx rfl (hb hby at_92) rfl ?_
                    refine XS.iload X278.here hx rfl (hb hby at_93) rfl ?_
                    show own_S p e below m T278 95 #[lvI p0_, lvI p1_, lvI p2_, lvI ((p0_ &&& (2147483647 : Int32)) % (5 : Int32)), lvR w_VDEL, lvI ((p2_ &&& (7 : Int32)) - (1 : Int32))] [(.int ((p2_ &&& (7 : Int32)) - (1 : Int32))), (.int ((p0_ &&& (2147483647 : Int32)) % (5 : Int32))), (.int (1 : Int32))] _
                    refine st289 _ ?_
                    show own_S p e below m T289 98 #[lvI p0_, lvI p1_, lvI p2_, lvI ((p0_ &&& (2147483647 : Int32)) % (5 : Int32)), lvR w_VDEL, lvI ((p2_ &&& (7 : Int32)) - (1 : Int32))] [(.int (1 : Int32)), (.int (1 : Int32))] _
                    refine XS.icmpNo X289.here hx rfl (hb hby at_98) rfl (teq (by decide : (1 : Int32) = (1 : Int32))).2 ?_
                    refine XS.iconst X289.here hx rfl (hb hby at_101) ?_
                    refine XS.goto X289.here hx rfl (pc0 := 102) (pc' := 106) rfl (hb hby at_102) (by decide) (by decide) ?_
                    exact kt
                  obtain ⟨fs, hr, hrun, hended, hW, hsame⟩ := X289.leave (v := some (.int (1 : Int32))) (fun h => by rw [Bd.returns] at h; cases h)
                  refine ⟨_, _, hG _ (pre291 _ (retN X289 hx (t := .boolean) Bd.returns (by simp) (hb hby at_106) hr)), hrun, hended, _, _, rfl, ?_, ⟨_, rfl⟩, hW, hsame.mono (by decide) (by decide)⟩
                  show QLaw Z p0_ p1_ p2_ w_GET w_SET w_DEL w_VDEL w_KEYNOTIFY h0 n0 _ T289.heap _
                  rw [e289']
                  exact ⟨rfl, N290⟩
                · exact absurd (by apply Decidable.by_contra; intro hz; have := own_i1; have := own_i2; have := own_i7; simp only [Int32.lt_iff_toInt_lt, ← Int32.toInt_inj] at hz hq278_2_0 hq278_2_1; omega) hq289_10_4
                · exact absurd (by apply Decidable.by_contra; intro hz; have := own_i0; have := own_i1; have := own_i2; have := own_j2147483647; have := own_i3; have := own_i5; simp only [Int32.lt_iff_toInt_lt, ← Int32.toInt_inj] at hz hq289_11_0 hq289_11_2 hq289_11_1 hq276_10_3; omega) hq289_11_3
                · exact absurd (by apply Decidable.by_contra; intro hz; have := own_i0; have := own_i1; have := own_i2; have := own_j2147483647; have := own_i3; have := own_i5; simp only [Int32.lt_iff_toInt_lt, ← Int32.toInt_inj] at hz hq289_12_0 hq289_12_2 hq289_12_1 hq276_10_3; omega) hq289_12_3
                · exact absurd (by apply Decidable.by_contra; intro hz; have := own_i0; have := own_i1; have := own_i2; have := own_j2147483647; have := own_i3; have := own_i5; simp only [Int32.lt_iff_toInt_lt, ← Int32.toInt_inj] at hz hq289_13_0 hq289_13_2 hq289_13_1 hq276_10_3; omega) hq289_13_3
            · exact absurd (by apply Decidable.by_contra; intro hz; have := own_i0; have := own_i1; have := own_i2; have := own_j2147483647; have := own_i3; have := own_i5; simp only [Int32.lt_iff_toInt_lt, ← Int32.toInt_inj] at hz hq276_11_0 hq276_11_2 hq276_11_1 hc254; omega) hq276_11_3
            · exact absurd (by apply Decidable.by_contra; intro hz; have := own_i0; have := own_i1; have := own_i2; have := own_j2147483647; have := own_i3; have := own_i5; simp only [Int32.lt_iff_toInt_lt, ← Int32.toInt_inj] at hz hq276_12_0 hq276_12_2 hq276_12_1 hc254; omega) hq276_12_3
            · exact absurd (by apply Decidable.by_contra; intro hz; have := own_i0; have := own_i1; have := own_i2; have := own_j2147483647; have := own_i3; have := own_i5; simp only [Int32.lt_iff_toInt_lt, ← Int32.toInt_inj] at hz hq276_13_0 hq276_13_2 hq276_13_1 hc254; omega) hq276_13_3
          · obtain ⟨_, _, ⟨T293, L293, k293, n293⟩, -, X293, ⟨Lc293, hQ293, l293, y293, z293⟩, st293⟩ := Jvm.LawKit.callS X256 hx (y := (⟨"com/example/fawley/fawley/protocol/CommandTakesPinLaw", "expected", "(II)Z"⟩ : MethodName)) hown (mvT hZ (own_w hw 13 rfl)) (mvT hZ (own_w hw 14 rfl)) (mvT hZ (own_w hw 15 rfl)) (mvT hZ (own_w hw 16 rfl)) (by decide) (backOf (W := 1) (rmExp l Z a0 hw [] ((p0_ &&& (2147483647 : Int32)) % (5 : Int32)) p1_ h0 n0 O0 ) hZ (own_w hw 16 rfl) (own_w hw 15 rfl) (by decide) (by decide)) (g := (mkF m 79 #[lvI p0_, lvI p1_, lvI p2_, lvI ((p0_ &&& (2147483647 : Int32)) % (5 : Int32)), lvR w_VDEL, lvI ((p2_ &&& (7 : Int32)) - (1 : Int32))] [(.int p1_), (.int ((p0_ &&& (2147483647 : Int32)) % (5 : Int32))), (.int (1 : Int32))])) rfl (by rw [hml]; rfl) (argsL := [(.int ((p0_ &&& (2147483647 : Int32)) % (5 : Int32))), (.int p1_)]) (rest := [(.int (1 : Int32))]) (lenOf pd_1 rfl) rfl (by show 2 * 0 + _ ≤ _; exact Nat.le_of_eq rfl) (hb hby at_79) (fun _ _ => ⟨rfl, e256', (by decide : 0 + 0 ≤ _), (by decide : 0 + 0 ≤ _)⟩)
            dsimp only [Pt.U, Pt.locs, Pt.cells, Pt.slots] at X293 l293 y293 z293 st293 hQ293
            subst l293 y293 z293
            obtain ⟨h293, e293⟩ : ∃ z, T293.heap = z := ⟨_, rfl⟩
            rw [e293] at hQ293
            obtain ⟨rr293, rfl, hs293, N293q, hh293⟩ := hQ293
            have N294 := Fr.app N258 N293q
            have e293' : T293.heap = h0 := e293.trans hh293
            rcases hs293 with ⟨rfl, hq293_0_0, hq293_0_1⟩ | ⟨rfl, hq293_1_0, hq293_1_1⟩ | ⟨rfl, hq293_2_0, hq293_2_1, hq293_2_2⟩ | ⟨rfl, hq293_3_0, hq293_3_1, hq293_3_2⟩ | ⟨rfl, hq293_4_0, hq293_4_1, hq293_4_2, hq293_4_3⟩ | ⟨rfl, hq293_5_0, hq293_5_1, hq293_5_2, hq293_5_3, hq293_5_4⟩ | ⟨rfl, hq293_6_0, hq293_6_1, hq293_6_2, hq293_6_3, hq293_6_4, hq293_6_5⟩ | ⟨rfl, hq293_7_0, hq293_7_1, hq293_7_2, hq293_7_3, hq293_7_4, hq293_7_5, hq293_7_6⟩ | ⟨rfl, hq293_8_0, hq293_8_1, hq293_8_2, hq293_8_3, hq293_8_4, hq293_8_5, hq293_8_6⟩ | ⟨rfl, hq293_9_0, hq293_9_1, hq293_9_2, hq293_9_3, hq293_9_4⟩ | ⟨rfl, hq293_10_0, hq293_10_1, hq293_10_2, hq293_10_3, hq293_10_4⟩ | ⟨rfl, hq293_11_0, hq293_11_1, hq293_11_2, hq293_11_3, hq293_11_4⟩ | ⟨rfl, hq293_12_0, hq293_12_1, hq293_12_2, hq293_12_3, hq293_12_4, hq293_12_5⟩ | ⟨rfl, hq293_13_0, hq293_13_1, hq293_13_2, hq293_13_3, hq293_13_4, hq293_13_5⟩
            · exact absurd hq293_0_0 (by intro hz; have := own_i0; have := own_i1; have := own_i2; have := own_j2147483647; have := own_i3; have := own_i5; simp only [Int32.lt_iff_toInt_lt, ← Int32.toInt_inj] at hz hc2 hc59 hc197 hc254; omega)
            · exact absurd hq293_1_0 (by intro hz; have := own_i0; have := own_i1; have := own_i2; have := own_j2147483647; have := own_i3; have := own_i5; simp only [Int32.lt_iff_toInt_lt, ← Int32.toInt_inj] at hz hc2 hc59 hc197 hc254; omega)
            · exact absurd hq293_2_1 (by intro hz; have := own_i0; have := own_i1; have := own_i2; have := own_j2147483647; have := own_i3; have := own_i5; simp only [Int32.lt_iff_toInt_lt, ← Int32.toInt_inj] at hz hq293_2_0 hc59 hc197 hc254; omega)
            · exact absurd hq293_3_1 (by intro hz; have := own_i0; have := own_i1; have := own_i2; have := own_j2147483647; have := own_i3; have := own_i5; simp only [Int32.lt_iff_toInt_lt, ← Int32.toInt_inj] at hz hq293_3_0 hc59 hc197 hc254; omega)
            · exact absurd hq293_4_2 (by intro hz; have := own_i0; have := own_i1; have := own_i2; have := own_j2147483647; have := own_i3; have := own_i5; simp only [Int32.lt_iff_toInt_lt, ← Int32.toInt_inj] at hz hq293_4_0 hc59 hq293_4_1 hc254; omega)
            · exact absurd hq293_5_2 (by intro hz; have := own_i0; have := own_i1; have := own_i2; have := own_j2147483647; have := own_i3; have := own_i5; simp only [Int32.lt_iff_toInt_lt, ← Int32.toInt_inj] at hz hq293_5_0 hc59 hq293_5_1 hc254; omega)
            · exact absurd hq293_6_2 (by intro hz; have := own_i0; have := own_i1; have := own_i2; have := own_j2147483647; have := own_i3; have := own_i5; simp only [Int32.lt_iff_toInt_lt, ← Int32.toInt_inj] at hz hq293_6_0 hc59 hq293_6_1 hc254; omega)
            · exact absurd hq293_7_2 (by intro hz; have := own_i0; have := own_i1; have := own_i2; have := own_j2147483647; have := own_i3; have := own_i5; simp only [Int32.lt_iff_toInt_lt, ← Int32.toInt_inj] at hz hq293_7_0 hc59 hq293_7_1 hc254; omega)
            · exact absurd hq293_8_2 (by intro hz; have := own_i0; have := own_i1; have := own_i2; have := own_j2147483647; have := own_i3; have := own_i5; simp only [Int32.lt_iff_toInt_lt, ← Int32.toInt_inj] at hz hq293_8_0 hc59 hq293_8_1 hc254; omega)
            · have f296 : Exa Z h0 w_VDEL cn0 := P13.ext O0.2
              obtain ⟨cq295, kq295, q295a, q295b, q295c⟩ := isOf hZ e293' f296
              obtain ⟨_, _, ⟨T295, L295, k295, n295⟩, -, X295, ⟨Lc295, hQ295, l295, y295, z295⟩, st295⟩ := X293.virtualBack hx (y := (⟨"com/example/fawley/fawley/protocol/Command", "takes", "(I)Z"⟩ : MethodName)) (z := (⟨"com/example/fawley/fawley/protocol/Command", "takes", "(I)Z"⟩ : MethodName)) hown (mvT hZ (own_w hw 4 rfl)) (mvT hZ (own_w hw 5 rfl)) (notFace_of_selects (args := #[]) (mvT hZ (own_w hw 7 rfl))) (mvT hZ (own_w hw 7 rfl)) (mvT hZ (own_w hw 6 rfl)) (by decide) (backOf (W := 0) (rmTak l Z a0 hw [] w_VDEL ((p2_ &&& (7 : Int32)) - (1 : Int32)) (2 : Int32) (2 : Int32) h0 n0 O0 P14 P15) hZ (own_w hw 8 rfl) (own_w hw 2 rfl) (by decide) (by decide)) q295a q295c (g := (mkF m 89 #[lvI p0_, lvI p1_, lvI p2_, lvI ((p0_ &&& (2147483647 : Int32)) % (5 : Int32)), lvR w_VDEL, lvI ((p2_ &&& (7 : Int32)) - (1 : Int32))] [(.int ((p2_ &&& (7 : Int32)) - (1 : Int32))), (.ref w_VDEL)])) rfl (by rw [hml]; rfl) (Steps.refl _) (argsL := [(.int ((p2_ &&& (7 : Int32)) - (1 : Int32)))]) (rest := []) (lenOf pd_0 rfl) rfl (by show 2 * 0 + _ ≤ _; exact Nat.le_of_eq rfl) (hb hby at_89) (fun _ _ => ⟨rfl, e293', (by decide : 0 + 0 ≤ _), (by decide : 0 + 0 ≤ _)⟩)
              dsimp only [Pt.U, Pt.locs, Pt.cells, Pt.slots] at X295 l295 y295 z295 st295 hQ295
              subst l295 y295 z295
              obtain ⟨h295, e295⟩ : ∃ z, T295.heap = z := ⟨_, rfl⟩
              rw [e295] at hQ295
              obtain ⟨rr295, rfl, hs295, N295q, hh295⟩ := hQ295
              have N297 := Fr.app N294 N295q
              have e295' : T295.heap = h0 := e295.trans hh295
              rcases hs295 with ⟨rfl, hq295_0_0⟩ | ⟨rfl, hq295_1_0, hq295_1_1⟩ | ⟨rfl, hq295_2_0, hq295_2_1⟩
              · obtain ⟨_, _, ⟨T298, L298, k298, n298⟩, -, X298, ⟨Lc298, hQ298, l298, y298, z298⟩, st298⟩ := Jvm.LawKit.callS X295 hx (y := (⟨"com/example/fawley/fawley/protocol/CommandTakesPinLaw", "expected", "(II)Z"⟩ : MethodName)) hown (mvT hZ (own_w hw 13 rfl)) (mvT hZ (own_w hw 14 rfl)) (mvT hZ (own_w hw 15 rfl)) (mvT hZ (own_w hw 16 rfl)) (by decide) (backOf (W := 1) (rmExp l Z a0 hw [] ((p0_ &&& (2147483647 : Int32)) % (5 : Int32)) ((p2_ &&& (7 : Int32)) - (1 : Int32)) h0 n0 O0 ) hZ (own_w hw 16 rfl) (own_w hw 15 rfl) (by decide) (by decide)) (g := (mkF m 95 #[lvI p0_, lvI p1_, lvI p2_, lvI ((p0_ &&& (2147483647 : Int32)) % (5 : Int32)), lvR w_VDEL, lvI ((p2_ &&& (7 : Int32)) - (1 : Int32))] [(.int ((p2_ &&& (7 : Int32)) - (1 : Int32))), (.int ((p0_ &&& (2147483647 : Int32)) % (5 : Int32))), (.int (0 : Int32))])) rfl (by rw [hml]; rfl) (argsL := [(.int ((p0_ &&& (2147483647 : Int32)) % (5 : Int32))), (.int ((p2_ &&& (7 : Int32)) - (1 : Int32)))]) (rest := [(.int (0 : Int32))]) (lenOf pd_1 rfl) rfl (by show 2 * 0 + _ ≤ _; exact Nat.le_of_eq rfl) (hb hby at_95) (fun _ _ => ⟨rfl, e295', (by decide : 0 + 0 ≤ _), (by decide : 0 + 0 ≤ _)⟩)
                dsimp only [Pt.U, Pt.locs, Pt.cells, Pt.slots] at X298 l298 y298 z298 st298 hQ298
                subst l298 y298 z298
                obtain ⟨h298, e298⟩ : ∃ z, T298.heap = z := ⟨_, rfl⟩
                rw [e298] at hQ298
                obtain ⟨rr298, rfl, hs298, N298q, hh298⟩ := hQ298
                have N299 := Fr.app N297 N298q
                have e298' : T298.heap = h0 := e298.trans hh298
                rcases hs298 with ⟨rfl, hq298_0_0, hq298_0_1⟩ | ⟨rfl, hq298_1_0, hq298_1_1⟩ | ⟨rfl, hq298_2_0, hq298_2_1, hq298_2_2⟩ | ⟨rfl, hq298_3_0, hq298_3_1, hq298_3_2⟩ | ⟨rfl, hq298_4_0, hq298_4_1, hq298_4_2, hq298_4_3⟩ | ⟨rfl, hq298_5_0, hq298_5_1, hq298_5_2, hq298_5_3, hq298_5_4⟩ | ⟨rfl, hq298_6_0, hq298_6_1, hq298_6_2, hq298_6_3, hq298_6_4, hq298_6_5⟩ | ⟨rfl, hq298_7_0, hq298_7_1, hq298_7_2, hq298_7_3, hq298_7_4, hq298_7_5, hq298_7_6⟩ | ⟨rfl, hq298_8_0, hq298_8_1, hq298_8_2, hq298_8_3, hq298_8_4, hq298_8_5, hq298_8_6⟩ | ⟨rfl, hq298_9_0, hq298_9_1, hq298_9_2, hq298_9_3, hq298_9_4⟩ | ⟨rfl, hq298_10_0, hq298_10_1, hq298_10_2, hq298_10_3, hq298_10_4⟩ | ⟨rfl, hq298_11_0, hq298_11_1, hq298_11_2, hq298_11_3, hq298_11_4⟩ | ⟨rfl, hq298_12_0, hq298_12_1, hq298_12_2, hq298_12_3, hq298_12_4, hq298_12_5⟩ | ⟨rfl, hq298_13_0, hq298_13_1, hq298_13_2, hq298_13_3, hq298_13_4, hq298_13_5⟩
                · exact absurd hq298_0_0 (by intro hz; have := own_i0; have := own_i1; have := own_i2; have := own_j2147483647; have := own_i3; have := own_i5; simp only [Int32.lt_iff_toInt_lt, ← Int32.toInt_inj] at hz hq293_9_0 hq293_9_2 hq293_9_1 hq293_9_3; omega)
                · exact absurd hq298_1_0 (by intro hz; have := own_i0; have := own_i1; have := own_i2; have := own_j2147483647; have := own_i3; have := own_i5; simp only [Int32.lt_iff_toInt_lt, ← Int32.toInt_inj] at hz hq293_9_0 hq293_9_2 hq293_9_1 hq293_9_3; omega)
                · exact absurd hq298_2_1 (by intro hz; have := own_i0; have := own_i1; have := own_i2; have := own_j2147483647; have := own_i3; have := own_i5; simp only [Int32.lt_iff_toInt_lt, ← Int32.toInt_inj] at hz hq298_2_0 hq293_9_2 hq293_9_1 hq293_9_3; omega)
                · exact absurd hq298_3_1 (by intro hz; have := own_i0; have := own_i1; have := own_i2; have := own_j2147483647; have := own_i3; have := own_i5; simp only [Int32.lt_iff_toInt_lt, ← Int32.toInt_inj] at hz hq298_3_0 hq293_9_2 hq293_9_1 hq293_9_3; omega)
                · exact absurd hq298_4_2 (by intro hz; have := own_i0; have := own_i1; have := own_i2; have := own_j2147483647; have := own_i3; have := own_i5; simp only [Int32.lt_iff_toInt_lt, ← Int32.toInt_inj] at hz hq298_4_0 hq293_9_2 hq298_4_1 hq293_9_3; omega)
                · exact absurd hq298_5_2 (by intro hz; have := own_i0; have := own_i1; have := own_i2; have := own_j2147483647; have := own_i3; have := own_i5; simp only [Int32.lt_iff_toInt_lt, ← Int32.toInt_inj] at hz hq298_5_0 hq293_9_2 hq298_5_1 hq293_9_3; omega)
                · exact absurd hq298_6_2 (by intro hz; have := own_i0; have := own_i1; have := own_i2; have := own_j2147483647; have := own_i3; have := own_i5; simp only [Int32.lt_iff_toInt_lt, ← Int32.toInt_inj] at hz hq298_6_0 hq293_9_2 hq298_6_1 hq293_9_3; omega)
                · exact absurd hq298_7_2 (by intro hz; have := own_i0; have := own_i1; have := own_i2; have := own_j2147483647; have := own_i3; have := own_i5; simp only [Int32.lt_iff_toInt_lt, ← Int32.toInt_inj] at hz hq298_7_0 hq293_9_2 hq298_7_1 hq293_9_3; omega)
                · exact absurd hq298_8_2 (by intro hz; have := own_i0; have := own_i1; have := own_i2; have := own_j2147483647; have := own_i3; have := own_i5; simp only [Int32.lt_iff_toInt_lt, ← Int32.toInt_inj] at hz hq298_8_0 hq293_9_2 hq298_8_1 hq293_9_3; omega)
                · exact absurd hq298_9_4 (by intro hz; have := own_i1; have := own_i2; have := own_i7; simp only [Int32.lt_iff_toInt_lt, ← Int32.toInt_inj] at hz hq295_0_0; omega)
                · have pre300 : ∀ t, own_S p e below m T298 106 #[lvI p0_, lvI p1_, lvI p2_, lvI ((p0_ &&& (2147483647 : Int32)) % (5 : Int32)), lvR w_VDEL, lvI ((p2_ &&& (7 : Int32)) - (1 : Int32))] [(.int (1 : Int32))] t → G t := by
                    intro t kt
                    refine pre253 t ?_
                    show own_S p e below m s₁ 47 #[lvI p0_, lvI p1_, lvI p2_, lvI ((p0_ &&& (2147483647 : Int32)) % (5 : Int32)), .unset, .unset] [(.int (3 : Int32)), (.int ((p0_ &&& (2147483647 : Int32)) % (5 : Int32)))] _
                    refine XS.icmpNo X0.here hx rfl (hb hby at_47) rfl (teq hc254).2 ?_
                    show own_S p e below m s₁ 50 #[lvI p0_, lvI p1_, lvI p2_, lvI ((p0_ &&& (2147483647 : Int32)) % (5 : Int32)), .unset, .unset] [] _
                    refine st255 _ ?_
                    refine XS.astore X255.here hx rfl (hb hby at_53) rfl rfl (l' := #[lvI p0_, lvI p1_, lvI p2_, lvI ((p0_ &&& (2147483647 : Int32)) % (5 : Int32)), lvR w_VDEL, .unset]) rfl ?_
                    refine XS.goto X255.here hx rfl (pc0 := 55) (pc' := 63) rfl (hb hby at_55) (by decide) (by decide) ?_
                    refine XS.iloadN X255.here hx rfl (hb hby at_63) rfl ?_
                    refine XS.bipush X255.here hx rfl (hb hby at_64) ?_
                    refine XS.iand X255.here hx rfl (hb hby at_66) rfl ?_
                    show own_S p e below m T255 67 #[lvI p0_, lvI p1_, lvI p2_, lvI ((p0_ &&& (2147483647 : Int32)) % (5 : Int32)), lvR w_VDEL, .unset] [(.int (p2_ &&& (7 : Int32)))] _
                    refine XS.iconst X255.here hx rfl (hb hby at_67) ?_
                    refine XS.isub X255.here hx rfl (hb hby at_68) rfl ?_
                    refine XS.istore X255.here hx rfl (hb hby at_69) rfl (l' := #[lvI p0_, lvI p1_, lvI p2_, lvI ((p0_ &&& (2147483647 : Int32)) % (5 : Int32)), lvR w_VDEL, lvI ((p2_ &&& (7 : Int32)) - (1 : Int32))]) rfl ?_
                    refine XS.aload X255.here hx rfl (hb hby at_71) rfl rfl ?_
                    refine XS.iloadN X255.here hx rfl (hb hby at_73) rfl ?_
                    show own_S p e below m T255 74 #[lvI p0_, lvI p1_, lvI p2_, lvI ((p0_ &&& (2147483647 : Int32)) % (5 : Int32)), lvR w_VDEL, lvI ((p2_ &&& (7 : Int32)) - (1 : Int32))] [(.int p1_), (.ref w_VDEL)] _
                    refine st256.trans ?_
                    refine XS.iloadN X256.here hx rfl (hb hby at_77) rfl ?_
                    refine XS.iloadN X256.here hx rfl (hb hby at_78) rfl ?_
                    show own_S p e below m T256 79 #[lvI p0_, lvI p1_, lvI p2_, lvI ((p0_ &&& (2147483647 : Int32)) % (5 : Int32)), lvR w_VDEL, lvI ((p2_ &&& (7 : Int32)) - (1 : Int32))] [(.int p1_), (.int ((p0_ &&& (2147483647 : Int32)) % (5 : Int32))), (.int (1 : Int32))] _
                    refine st293 _ ?_
                    show own_S p e below m T293 82 #[lvI p0_, lvI p1_, lvI p2_, lvI ((p0_ &&& (2147483647 : Int32)) % (5 : Int32)), lvR w_VDEL, lvI ((p2_ &&& (7 : Int32)) - (1 : Int32))] [(.int (1 : Int32)), (.int (1 : Int32))] _
                    refine XS.icmpNo X293.here hx rfl (hb hby at_82) rfl (teq (by decide : (1 : Int32) = (1 : Int32))).2 ?_
                    refine XS.aload X293.here hx rfl (hb hby at_85) rfl rfl ?_
                    refine XS.iload X293.here hx rfl (hb hby at_87) rfl ?_
                    show own_S p e below m T293 89 #[lvI p0_, lvI p1_, lvI p2_, lvI ((p0_ &&& (2147483647 : Int32)) % (5 : Int32)), lvR w_VDEL, lvI ((p2_ &&& (7 : Int32)) - (1 : Int32))] [(.int ((p2_ &&& (7 : Int32)) - (1 : Int32))), (.ref w_VDEL)] _
                    refine st295.trans ?_
                    refine XS.iloadN X295.here hx rfl (hb hby at_92) rfl ?_
                    refine XS.iload X295.here hx rfl (hb hby at_93) rfl ?_
                    show own_S p e below m T295 95 #[lvI p0_, lvI p1_, lvI p2_, lvI ((p0_ &&& (2147483647 : Int32)) % (5 : Int32)), lvR w_VDEL, lvI ((p2_ &&& (7 : Int32)) - (1 : Int32))] [(.int ((p2_ &&& (7 : Int32)) - (1 : Int32))), (.int ((p0_ &&& (2147483647 : Int32)) % (5 : Int32))), (.int (0 : Int32))] _
                    refine st298 _ ?_
                    show own_S p e below m T298 98 #[lvI p0_, lvI p1_, lvI p2_, lvI ((p0_ &&& (2147483647 : Int32)) % (5 : Int32)), lvR w_VDEL, lvI ((p2_ &&& (7 : Int32)) - (1 : Int32))] [(.int (0 : Int32)), (.int (0 : Int32))] _
                    refine XS.icmpNo X298.here hx rfl (hb hby at_98) rfl (teq (by decide : (0 : Int32) = (0 : Int32))).2 ?_
                    refine XS.iconst X298.here hx rfl (hb hby at_101) ?_
                    refine XS.goto X298.here hx rfl (pc0 := 102) (pc' := 106) rfl (hb hby at_102) (by decide) (by decide) ?_
                    exact kt
                  obtain ⟨fs, hr, hrun, hended, hW, hsame⟩ := X298.leave (v := some (.int (1 : Int32))) (fun h => by rw [Bd.returns] at h; cases h)
                  refine ⟨_, _, hG _ (pre300 _ (retN X298 hx (t := .boolean) Bd.returns (by simp) (hb hby at_106) hr)), hrun, hended, _, _, rfl, ?_, ⟨_, rfl⟩, hW, hsame.mono (by decide) (by decide)⟩
                  show QLaw Z p0_ p1_ p2_ w_GET w_SET w_DEL w_VDEL w_KEYNOTIFY h0 n0 _ T298.heap _
                  rw [e298']
                  exact ⟨rfl, N299⟩
                · exact absurd (by apply Decidable.by_contra; intro hz; have := own_i0; have := own_i1; have := own_i2; have := own_j2147483647; have := own_i3; have := own_i5; simp only [Int32.lt_iff_toInt_lt, ← Int32.toInt_inj] at hz hq298_11_0 hq298_11_2 hq298_11_1 hq293_9_3; omega) hq298_11_3
                · exact absurd (by apply Decidable.by_contra; intro hz; have := own_i0; have := own_i1; have := own_i2; have := own_j2147483647; have := own_i3; have := own_i5; simp only [Int32.lt_iff_toInt_lt, ← Int32.toInt_inj] at hz hq298_12_0 hq298_12_2 hq298_12_1 hq293_9_3; omega) hq298_12_3
                · exact absurd (by apply Decidable.by_contra; intro hz; have := own_i0; have := own_i1; have := own_i2; have := own_j2147483647; have := own_i3; have := own_i5; simp only [Int32.lt_iff_toInt_lt, ← Int32.toInt_inj] at hz hq298_13_0 hq298_13_2 hq298_13_1 hq293_9_3; omega) hq298_13_3
              · obtain ⟨_, _, ⟨T302, L302, k302, n302⟩, -, X302, ⟨Lc302, hQ302, l302, y302, z302⟩, st302⟩ := Jvm.LawKit.callS X295 hx (y := (⟨"com/example/fawley/fawley/protocol/CommandTakesPinLaw", "expected", "(II)Z"⟩ : MethodName)) hown (mvT hZ (own_w hw 13 rfl)) (mvT hZ (own_w hw 14 rfl)) (mvT hZ (own_w hw 15 rfl)) (mvT hZ (own_w hw 16 rfl)) (by decide) (backOf (W := 1) (rmExp l Z a0 hw [] ((p0_ &&& (2147483647 : Int32)) % (5 : Int32)) ((p2_ &&& (7 : Int32)) - (1 : Int32)) h0 n0 O0 ) hZ (own_w hw 16 rfl) (own_w hw 15 rfl) (by decide) (by decide)) (g := (mkF m 95 #[lvI p0_, lvI p1_, lvI p2_, lvI ((p0_ &&& (2147483647 : Int32)) % (5 : Int32)), lvR w_VDEL, lvI ((p2_ &&& (7 : Int32)) - (1 : Int32))] [(.int ((p2_ &&& (7 : Int32)) - (1 : Int32))), (.int ((p0_ &&& (2147483647 : Int32)) % (5 : Int32))), (.int (0 : Int32))])) rfl (by rw [hml]; rfl) (argsL := [(.int ((p0_ &&& (2147483647 : Int32)) % (5 : Int32))), (.int ((p2_ &&& (7 : Int32)) - (1 : Int32)))]) (rest := [(.int (0 : Int32))]) (lenOf pd_1 rfl) rfl (by show 2 * 0 + _ ≤ _; exact Nat.le_of_eq rfl) (hb hby at_95) (fun _ _ => ⟨rfl, e295', (by decide : 0 + 0 ≤ _), (by decide : 0 + 0 ≤ _)⟩)
                dsimp only [Pt.U, Pt.locs, Pt.cells, Pt.slots] at X302 l302 y302 z302 st302 hQ302
                subst l302 y302 z302
                obtain ⟨h302, e302⟩ : ∃ z, T302.heap = z := ⟨_, rfl⟩
                rw [e302] at hQ302
                obtain ⟨rr302, rfl, hs302, N302q, hh302⟩ := hQ302
                have N303 := Fr.app N297 N302q
                have e302' : T302.heap = h0 := e302.trans hh302
                rcases hs302 with ⟨rfl, hq302_0_0, hq302_0_1⟩ | ⟨rfl, hq302_1_0, hq302_1_1⟩ | ⟨rfl, hq302_2_0, hq302_2_1, hq302_2_2⟩ | ⟨rfl, hq302_3_0, hq302_3_1, hq302_3_2⟩ | ⟨rfl, hq302_4_0, hq302_4_1, hq302_4_2, hq302_4_3⟩ | ⟨rfl, hq302_5_0, hq302_5_1, hq302_5_2, hq302_5_3, hq302_5_4⟩ | ⟨rfl, hq302_6_0, hq302_6_1, hq302_6_2, hq302_6_3, hq302_6_4, hq302_6_5⟩ | ⟨rfl, hq302_7_0, hq302_7_1, hq302_7_2, hq302_7_3, hq302_7_4, hq302_7_5, hq302_7_6⟩ | ⟨rfl, hq302_8_0, hq302_8_1, hq302_8_2, hq302_8_3, hq302_8_4, hq302_8_5, hq302_8_6⟩ | ⟨rfl, hq302_9_0, hq302_9_1, hq302_9_2, hq302_9_3, hq302_9_4⟩ | ⟨rfl, hq302_10_0, hq302_10_1, hq302_10_2, hq302_10_3, hq302_10_4⟩ | ⟨rfl, hq302_11_0, hq302_11_1, hq302_11_2, hq302_11_3, hq302_11_4⟩ | ⟨rfl, hq302_12_0, hq302_12_1, hq302_12_2, hq302_12_3, hq302_12_4, hq302_12_5⟩ | ⟨rfl, hq302_13_0, hq302_13_1, hq302_13_2, hq302_13_3, hq302_13_4, hq302_13_5⟩
                · exact absurd hq302_0_0 (by intro hz; have := own_i0; have := own_i1; have := own_i2; have := own_j2147483647; have := own_i3; have := own_i5; simp only [Int32.lt_iff_toInt_lt, ← Int32.toInt_inj] at hz hq293_9_0 hq293_9_2 hq293_9_1 hq293_9_3; omega)
                · exact absurd hq302_1_0 (by intro hz; have := own_i0; have := own_i1; have := own_i2; have := own_j2147483647; have := own_i3; have := own_i5; simp only [Int32.lt_iff_toInt_lt, ← Int32.toInt_inj] at hz hq293_9_0 hq293_9_2 hq293_9_1 hq293_9_3; omega)
                · exact absurd hq302_2_1 (by intro hz; have := own_i0; have := own_i1; have := own_i2; have := own_j2147483647; have := own_i3; have := own_i5; simp only [Int32.lt_iff_toInt_lt, ← Int32.toInt_inj] at hz hq302_2_0 hq293_9_2 hq293_9_1 hq293_9_3; omega)
                · exact absurd hq302_3_1 (by intro hz; have := own_i0; have := own_i1; have := own_i2; have := own_j2147483647; have := own_i3; have := own_i5; simp only [Int32.lt_iff_toInt_lt, ← Int32.toInt_inj] at hz hq302_3_0 hq293_9_2 hq293_9_1 hq293_9_3; omega)
                · exact absurd hq302_4_2 (by intro hz; have := own_i0; have := own_i1; have := own_i2; have := own_j2147483647; have := own_i3; have := own_i5; simp only [Int32.lt_iff_toInt_lt, ← Int32.toInt_inj] at hz hq302_4_0 hq293_9_2 hq302_4_1 hq293_9_3; omega)
                · exact absurd hq302_5_2 (by intro hz; have := own_i0; have := own_i1; have := own_i2; have := own_j2147483647; have := own_i3; have := own_i5; simp only [Int32.lt_iff_toInt_lt, ← Int32.toInt_inj] at hz hq302_5_0 hq293_9_2 hq302_5_1 hq293_9_3; omega)
                · exact absurd hq302_6_2 (by intro hz; have := own_i0; have := own_i1; have := own_i2; have := own_j2147483647; have := own_i3; have := own_i5; simp only [Int32.lt_iff_toInt_lt, ← Int32.toInt_inj] at hz hq302_6_0 hq293_9_2 hq302_6_1 hq293_9_3; omega)
                · exact absurd hq302_7_2 (by intro hz; have := own_i0; have := own_i1; have := own_i2; have := own_j2147483647; have := own_i3; have := own_i5; simp only [Int32.lt_iff_toInt_lt, ← Int32.toInt_inj] at hz hq302_7_0 hq293_9_2 hq302_7_1 hq293_9_3; omega)
                · exact absurd hq302_8_2 (by intro hz; have := own_i0; have := own_i1; have := own_i2; have := own_j2147483647; have := own_i3; have := own_i5; simp only [Int32.lt_iff_toInt_lt, ← Int32.toInt_inj] at hz hq302_8_0 hq293_9_2 hq302_8_1 hq293_9_3; omega)
                · exact absurd hq302_9_4 (by intro hz; have := own_i1; have := own_i2; have := own_i7; simp only [Int32.lt_iff_toInt_lt, ← Int32.toInt_inj] at hz hq295_1_0 hq295_1_1; omega)
                · have pre304 : ∀ t, own_S p e below m T302 106 #[lvI p0_, lvI p1_, lvI p2_, lvI ((p0_ &&& (2147483647 : Int32)) % (5 : Int32)), lvR w_VDEL, lvI ((p2_ &&& (7 : Int32)) - (1 : Int32))] [(.int (1 : Int32))] t → G t := by
                    intro t kt
                    refine pre253 t ?_
                    show own_S p e below m s₁ 47 #[lvI p0_, lvI p1_, lvI p2_, lvI ((p0_ &&& (2147483647 : Int32)) % (5 : Int32)), .unset, .unset] [(.int (3 : Int32)), (.int ((p0_ &&& (2147483647 : Int32)) % (5 : Int32)))] _
                    refine XS.icmpNo X0.here hx rfl (hb hby at_47) rfl (teq hc254).2 ?_
                    show own_S p e below m s₁ 50 #[lvI p0_, lvI p1_, lvI p2_, lvI ((p0_ &&& (2147483647 : Int32)) % (5 : Int32)), .unset, .unset] [] _
                    refine st255 _ ?_
                    refine XS.astore X255.here hx rfl (hb hby at_53) rfl rfl (l' := #[lvI p0_, lvI p1_, lvI p2_, lvI ((p0_ &&& (2147483647 : Int32)) % (5 : Int32)), lvR w_VDEL, .unset]) rfl ?_
                    refine XS.goto X255.here hx rfl (pc0 := 55) (pc' := 63) rfl (hb hby at_55) (by decide) (by decide) ?_
                    refine XS.iloadN X255.here hx rfl (hb hby at_63) rfl ?_
                    refine XS.bipush X255.here hx rfl (hb hby at_64) ?_
                    refine XS.iand X255.here hx rfl (hb hby at_66) rfl ?_
                    show own_S p e below m T255 67 #[lvI p0_, lvI p1_, lvI p2_, lvI ((p0_ &&& (2147483647 : Int32)) % (5 : Int32)), lvR w_VDEL, .unset] [(.int (p2_ &&& (7 : Int32)))] _
                    refine XS.iconst X255.here hx rfl (hb hby at_67) ?_
                    refine XS.isub X255.here hx rfl (hb hby at_68) rfl ?_
                    refine XS.istore X255.here hx rfl (hb hby at_69) rfl (l' := #[lvI p0_, lvI p1_, lvI p2_, lvI ((p0_ &&& (2147483647 : Int32)) % (5 : Int32)), lvR w_VDEL, lvI ((p2_ &&& (7 : Int32)) - (1 : Int32))]) rfl ?_
                    refine XS.aload X255.here hx rfl (hb hby at_71) rfl rfl ?_
                    refine XS.iloadN X255.here hx rfl (hb hby at_73) rfl ?_
                    show own_S p e below m T255 74 #[lvI p0_, lvI p1_, lvI p2_, lvI ((p0_ &&& (2147483647 : Int32)) % (5 : Int32)), lvR w_VDEL, lvI ((p2_ &&& (7 : Int32)) - (1 : Int32))] [(.int p1_), (.ref w_VDEL)] _
                    refine st256.trans ?_
                    refine XS.iloadN X256.here hx rfl (hb hby at_77) rfl ?_
                    refine XS.iloadN X256.here hx rfl (hb hby at_78) rfl ?_
                    show own_S p e below m T256 79 #[lvI p0_, lvI p1_, lvI p2_, lvI ((p0_ &&& (2147483647 : Int32)) % (5 : Int32)), lvR w_VDEL, lvI ((p2_ &&& (7 : Int32)) - (1 : Int32))] [(.int p1_), (.int ((p0_ &&& (2147483647 : Int32)) % (5 : Int32))), (.int (1 : Int32))] _
                    refine st293 _ ?_
                    show own_S p e below m T293 82 #[lvI p0_, lvI p1_, lvI p2_, lvI ((p0_ &&& (2147483647 : Int32)) % (5 : Int32)), lvR w_VDEL, lvI ((p2_ &&& (7 : Int32)) - (1 : Int32))] [(.int (1 : Int32)), (.int (1 : Int32))] _
                    refine XS.icmpNo X293.here hx rfl (hb hby at_82) rfl (teq (by decide : (1 : Int32) = (1 : Int32))).2 ?_
                    refine XS.aload X293.here hx rfl (hb hby at_85) rfl rfl ?_
                    refine XS.iload X293.here hx rfl (hb hby at_87) rfl ?_
                    show own_S p e below m T293 89 #[lvI p0_, lvI p1_, lvI p2_, lvI ((p0_ &&& (2147483647 : Int32)) % (5 : Int32)), lvR w_VDEL, lvI ((p2_ &&& (7 : Int32)) - (1 : Int32))] [(.int ((p2_ &&& (7 : Int32)) - (1 : Int32))), (.ref w_VDEL)] _
                    refine st295.trans ?_
                    refine XS.iloadN X295.here hx rfl (hb hby at_92) rfl ?_
                    refine XS.iload X295.here hx rfl (hb hby at_93) rfl ?_
                    show own_S p e below m T295 95 #[lvI p0_, lvI p1_, lvI p2_, lvI ((p0_ &&& (2147483647 : Int32)) % (5 : Int32)), lvR w_VDEL, lvI ((p2_ &&& (7 : Int32)) - (1 : Int32))] [(.int ((p2_ &&& (7 : Int32)) - (1 : Int32))), (.int ((p0_ &&& (2147483647 : Int32)) % (5 : Int32))), (.int (0 : Int32))] _
                    refine st302 _ ?_
                    show own_S p e below m T302 98 #[lvI p0_, lvI p1_, lvI p2_, lvI ((p0_ &&& (2147483647 : Int32)) % (5 : Int32)), lvR w_VDEL, lvI ((p2_ &&& (7 : Int32)) - (1 : Int32))] [(.int (0 : Int32)), (.int (0 : Int32))] _
                    refine XS.icmpNo X302.here hx rfl (hb hby at_98) rfl (teq (by decide : (0 : Int32) = (0 : Int32))).2 ?_
                    refine XS.iconst X302.here hx rfl (hb hby at_101) ?_
                    refine XS.goto X302.here hx rfl (pc0 := 102) (pc' := 106) rfl (hb hby at_102) (by decide) (by decide) ?_
                    exact kt
                  obtain ⟨fs, hr, hrun, hended, hW, hsame⟩ := X302.leave (v := some (.int (1 : Int32))) (fun h => by rw [Bd.returns] at h; cases h)
                  refine ⟨_, _, hG _ (pre304 _ (retN X302 hx (t := .boolean) Bd.returns (by simp) (hb hby at_106) hr)), hrun, hended, _, _, rfl, ?_, ⟨_, rfl⟩, hW, hsame.mono (by decide) (by decide)⟩
                  show QLaw Z p0_ p1_ p2_ w_GET w_SET w_DEL w_VDEL w_KEYNOTIFY h0 n0 _ T302.heap _
                  rw [e302']
                  exact ⟨rfl, N303⟩
                · exact absurd (by apply Decidable.by_contra; intro hz; have := own_i0; have := own_i1; have := own_i2; have := own_j2147483647; have := own_i3; have := own_i5; simp only [Int32.lt_iff_toInt_lt, ← Int32.toInt_inj] at hz hq302_11_0 hq302_11_2 hq302_11_1 hq293_9_3; omega) hq302_11_3
                · exact absurd (by apply Decidable.by_contra; intro hz; have := own_i0; have := own_i1; have := own_i2; have := own_j2147483647; have := own_i3; have := own_i5; simp only [Int32.lt_iff_toInt_lt, ← Int32.toInt_inj] at hz hq302_12_0 hq302_12_2 hq302_12_1 hq293_9_3; omega) hq302_12_3
                · exact absurd (by apply Decidable.by_contra; intro hz; have := own_i0; have := own_i1; have := own_i2; have := own_j2147483647; have := own_i3; have := own_i5; simp only [Int32.lt_iff_toInt_lt, ← Int32.toInt_inj] at hz hq302_13_0 hq302_13_2 hq302_13_1 hq293_9_3; omega) hq302_13_3
              · obtain ⟨_, _, ⟨T306, L306, k306, n306⟩, -, X306, ⟨Lc306, hQ306, l306, y306, z306⟩, st306⟩ := Jvm.LawKit.callS X295 hx (y := (⟨"com/example/fawley/fawley/protocol/CommandTakesPinLaw", "expected", "(II)Z"⟩ : MethodName)) hown (mvT hZ (own_w hw 13 rfl)) (mvT hZ (own_w hw 14 rfl)) (mvT hZ (own_w hw 15 rfl)) (mvT hZ (own_w hw 16 rfl)) (by decide) (backOf (W := 1) (rmExp l Z a0 hw [] ((p0_ &&& (2147483647 : Int32)) % (5 : Int32)) ((p2_ &&& (7 : Int32)) - (1 : Int32)) h0 n0 O0 ) hZ (own_w hw 16 rfl) (own_w hw 15 rfl) (by decide) (by decide)) (g := (mkF m 95 #[lvI p0_, lvI p1_, lvI p2_, lvI ((p0_ &&& (2147483647 : Int32)) % (5 : Int32)), lvR w_VDEL, lvI ((p2_ &&& (7 : Int32)) - (1 : Int32))] [(.int ((p2_ &&& (7 : Int32)) - (1 : Int32))), (.int ((p0_ &&& (2147483647 : Int32)) % (5 : Int32))), (.int (1 : Int32))])) rfl (by rw [hml]; rfl) (argsL := [(.int ((p0_ &&& (2147483647 : Int32)) % (5 : Int32))), (.int ((p2_ &&& (7 : Int32)) - (1 : Int32)))]) (rest := [(.int (1 : Int32))]) (lenOf pd_1 rfl) rfl (by show 2 * 0 + _ ≤ _; exact Nat.le_of_eq rfl) (hb hby at_95) (fun _ _ => ⟨rfl, e295', (by decide : 0 + 0 ≤ _), (by decide : 0 + 0 ≤ _)⟩)
                dsimp only [Pt.U, Pt.locs, Pt.cells, Pt.slots] at X306 l306 y306 z306 st306 hQ306
                subst l306 y306 z306
                obtain ⟨h306, e306⟩ : ∃ z, T306.heap = z := ⟨_, rfl⟩
                rw [e306] at hQ306
                obtain ⟨rr306, rfl, hs306, N306q, hh306⟩ := hQ306
                have N307 := Fr.app N297 N306q
                have e306' : T306.heap = h0 := e306.trans hh306
                rcases hs306 with ⟨rfl, hq306_0_0, hq306_0_1⟩ | ⟨rfl, hq306_1_0, hq306_1_1⟩ | ⟨rfl, hq306_2_0, hq306_2_1, hq306_2_2⟩ | ⟨rfl, hq306_3_0, hq306_3_1, hq306_3_2⟩ | ⟨rfl, hq306_4_0, hq306_4_1, hq306_4_2, hq306_4_3⟩ | ⟨rfl, hq306_5_0, hq306_5_1, hq306_5_2, hq306_5_3, hq306_5_4⟩ | ⟨rfl, hq306_6_0, hq306_6_1, hq306_6_2, hq306_6_3, hq306_6_4, hq306_6_5⟩ | ⟨rfl, hq306_7_0, hq306_7_1, hq306_7_2, hq306_7_3, hq306_7_4, hq306_7_5, hq306_7_6⟩ | ⟨rfl, hq306_8_0, hq306_8_1, hq306_8_2, hq306_8_3, hq306_8_4, hq306_8_5, hq306_8_6⟩ | ⟨rfl, hq306_9_0, hq306_9_1, hq306_9_2, hq306_9_3, hq306_9_4⟩ | ⟨rfl, hq306_10_0, hq306_10_1, hq306_10_2, hq306_10_3, hq306_10_4⟩ | ⟨rfl, hq306_11_0, hq306_11_1, hq306_11_2, hq306_11_3, hq306_11_4⟩ | ⟨rfl, hq306_12_0, hq306_12_1, hq306_12_2, hq306_12_3, hq306_12_4, hq306_12_5⟩ | ⟨rfl, hq306_13_0, hq306_13_1, hq306_13_2, hq306_13_3, hq306_13_4, hq306_13_5⟩
                · exact absurd hq306_0_0 (by intro hz; have := own_i0; have := own_i1; have := own_i2; have := own_j2147483647; have := own_i3; have := own_i5; simp only [Int32.lt_iff_toInt_lt, ← Int32.toInt_inj] at hz hq293_9_0 hq293_9_2 hq293_9_1 hq293_9_3; omega)
                · exact absurd hq306_1_0 (by intro hz; have := own_i0; have := own_i1; have := own_i2; have := own_j2147483647; have := own_i3; have := own_i5; simp only [Int32.lt_iff_toInt_lt, ← Int32.toInt_inj] at hz hq293_9_0 hq293_9_2 hq293_9_1 hq293_9_3; omega)
                · exact absurd hq306_2_1 (by intro hz; have := own_i0; have := own_i1; have := own_i2; have := own_j2147483647; have := own_i3; have := own_i5; simp only [Int32.lt_iff_toInt_lt, ← Int32.toInt_inj] at hz hq306_2_0 hq293_9_2 hq293_9_1 hq293_9_3; omega)
                · exact absurd hq306_3_1 (by intro hz; have := own_i0; have := own_i1; have := own_i2; have := own_j2147483647; have := own_i3; have := own_i5; simp only [Int32.lt_iff_toInt_lt, ← Int32.toInt_inj] at hz hq306_3_0 hq293_9_2 hq293_9_1 hq293_9_3; omega)
                · exact absurd hq306_4_2 (by intro hz; have := own_i0; have := own_i1; have := own_i2; have := own_j2147483647; have := own_i3; have := own_i5; simp only [Int32.lt_iff_toInt_lt, ← Int32.toInt_inj] at hz hq306_4_0 hq293_9_2 hq306_4_1 hq293_9_3; omega)
                · exact absurd hq306_5_2 (by intro hz; have := own_i0; have := own_i1; have := own_i2; have := own_j2147483647; have := own_i3; have := own_i5; simp only [Int32.lt_iff_toInt_lt, ← Int32.toInt_inj] at hz hq306_5_0 hq293_9_2 hq306_5_1 hq293_9_3; omega)
                · exact absurd hq306_6_2 (by intro hz; have := own_i0; have := own_i1; have := own_i2; have := own_j2147483647; have := own_i3; have := own_i5; simp only [Int32.lt_iff_toInt_lt, ← Int32.toInt_inj] at hz hq306_6_0 hq293_9_2 hq306_6_1 hq293_9_3; omega)
                · exact absurd hq306_7_2 (by intro hz; have := own_i0; have := own_i1; have := own_i2; have := own_j2147483647; have := own_i3; have := own_i5; simp only [Int32.lt_iff_toInt_lt, ← Int32.toInt_inj] at hz hq306_7_0 hq293_9_2 hq306_7_1 hq293_9_3; omega)
                · exact absurd hq306_8_2 (by intro hz; have := own_i0; have := own_i1; have := own_i2; have := own_j2147483647; have := own_i3; have := own_i5; simp only [Int32.lt_iff_toInt_lt, ← Int32.toInt_inj] at hz hq306_8_0 hq293_9_2 hq306_8_1 hq293_9_3; omega)
                · have pre308 : ∀ t, own_S p e below m T306 106 #[lvI p0_, lvI p1_, lvI p2_, lvI ((p0_ &&& (2147483647 : Int32)) % (5 : Int32)), lvR w_VDEL, lvI ((p2_ &&& (7 : Int32)) - (1 : Int32))] [(.int (1 : Int32))] t → G t := by
                    intro t kt
                    refine pre253 t ?_
                    show own_S p e below m s₁ 47 #[lvI p0_, lvI p1_, lvI p2_, lvI ((p0_ &&& (2147483647 : Int32)) % (5 : Int32)), .unset, .unset] [(.int (3 : Int32)), (.int ((p0_ &&& (2147483647 : Int32)) % (5 : Int32)))] _
                    refine XS.icmpNo X0.here hx rfl (hb hby at_47) rfl (teq hc254).2 ?_
                    show own_S p e below m s₁ 50 #[lvI p0_, lvI p1_, lvI p2_, lvI ((p0_ &&& (2147483647 : Int32)) % (5 : Int32)), .unset, .unset] [] _
                    refine st255 _ ?_
                    refine XS.astore X255.here hx rfl (hb hby at_53) rfl rfl (l' := #[lvI p0_, lvI p1_, lvI p2_, lvI ((p0_ &&& (2147483647 : Int32)) % (5 : Int32)), lvR w_VDEL, .unset]) rfl ?_
                    refine XS.goto X255.here hx rfl (pc0 := 55) (pc' := 63) rfl (hb hby at_55) (by decide) (by decide) ?_
                    refine XS.iloadN X255.here hx rfl (hb hby at_63) rfl ?_
                    refine XS.bipush X255.here hx rfl (hb hby at_64) ?_
                    refine XS.iand X255.here hx rfl (hb hby at_66) rfl ?_
                    show own_S p e below m T255 67 #[lvI p0_, lvI p1_, lvI p2_, lvI ((p0_ &&& (2147483647 : Int32)) % (5 : Int32)), lvR w_VDEL, .unset] [(.int (p2_ &&& (7 : Int32)))] _
                    refine XS.iconst X255.here hx rfl (hb hby at_67) ?_
                    refine XS.isub X255.here hx rfl (hb hby at_68) rfl ?_
                    refine XS.istore X255.here hx rfl (hb hby at_69) rfl (l' := #[lvI p0_, lvI p1_, lvI p2_, lvI ((p0_ &&& (2147483647 : Int32)) % (5 : Int32)), lvR w_VDEL, lvI ((p2_ &&& (7 : Int32)) - (1 : Int32))]) rfl ?_
                    refine XS.aload X255.here hx rfl (hb hby at_71) rfl rfl ?_
                    refine XS.iloadN X255.here hx rfl (hb hby at_73) rfl ?_
                    show own_S p e below m T255 74 #[lvI p0_, lvI p1_, lvI p2_, lvI ((p0_ &&& (2147483647 : Int32)) % (5 : Int32)), lvR w_VDEL, lvI ((p2_ &&& (7 : Int32)) - (1 : Int32))] [(.int p1_), (.ref w_VDEL)] _
                    refine st256.trans ?_
                    refine XS.iloadN X256.here hx rfl (hb hby at_77) rfl ?_
                    refine XS.iloadN X256.here hx rfl (hb hby at_78) rfl ?_
                    show own_S p e below m T256 79 #[lvI p0_, lvI p1_, lvI p2_, lvI ((p0_ &&& (2147483647 : Int32)) % (5 : Int32)), lvR w_VDEL, lvI ((p2_ &&& (7 : Int32)) - (1 : Int32))] [(.int p1_), (.int ((p0_ &&& (2147483647 : Int32)) % (5 : Int32))), (.int (1 : Int32))] _
                    refine st293 _ ?_
                    show own_S p e below m T293 82 #[lvI p0_, lvI p1_, lvI p2_, lvI ((p0_ &&& (2147483647 : Int32)) % (5 : Int32)), lvR w_VDEL, lvI ((p2_ &&& (7 : Int32)) - (1 : Int32))] [(.int (1 : Int32)), (.int (1 : Int32))] _
                    refine XS.icmpNo X293.here hx rfl (hb hby at_82) rfl (teq (by decide : (1 : Int32) = (1 : Int32))).2 ?_
                    refine XS.aload X293.here hx rfl (hb hby at_85) rfl rfl ?_
                    refine XS.iload X293.here hx rfl (hb hby at_87) rfl ?_
                    show own_S p e below m T293 89 #[lvI p0_, lvI p1_, lvI p2_, lvI ((p0_ &&& (2147483647 : Int32)) % (5 : Int32)), lvR w_VDEL, lvI ((p2_ &&& (7 : Int32)) - (1 : Int32))] [(.int ((p2_ &&& (7 : Int32)) - (1 : Int32))), (.ref w_VDEL)] _
                    refine st295.trans ?_
                    refine XS.iloadN X295.here hx rfl (hb hby at_92) rfl ?_
                    refine XS.iload X295.here hx rfl (hb hby at_93) rfl ?_
                    show own_S p e below m T295 95 #[lvI p0_, lvI p1_, lvI p2_, lvI ((p0_ &&& (2147483647 : Int32)) % (5 : Int32)), lvR w_VDEL, lvI ((p2_ &&& (7 : Int32)) - (1 : Int32))] [(.int ((p2_ &&& (7 : Int32)) - (1 : Int32))), (.int ((p0_ &&& (2147483647 : Int32)) % (5 : Int32))), (.int (1 : Int32))] _
                    refine st306 _ ?_
                    show own_S p e below m T306 98 #[lvI p0_, lvI p1_, lvI p2_, lvI ((p0_ &&& (2147483647 : Int32)) % (5 : Int32)), lvR w_VDEL, lvI ((p2_ &&& (7 : Int32)) - (1 : Int32))] [(.int (1 : Int32)), (.int (1 : Int32))] _
                    refine XS.icmpNo X306.here hx rfl (hb hby at_98) rfl (teq (by decide : (1 : Int32) = (1 : Int32))).2 ?_
                    refine XS.iconst X306.here hx rfl (hb hby at_101) ?_
                    refine XS.goto X306.here hx rfl (pc0 := 102) (pc' := 106) rfl (hb hby at_102) (by decide) (by decide) ?_
                    exact kt
                  obtain ⟨fs, hr, hrun, hended, hW, hsame⟩ := X306.leave (v := some (.int (1 : Int32))) (fun h => by rw [Bd.returns] at h; cases h)
                  refine ⟨_, _, hG _ (pre308 _ (retN X306 hx (t := .boolean) Bd.returns (by simp) (hb hby at_106) hr)), hrun, hended, _, _, rfl, ?_, ⟨_, rfl⟩, hW, hsame.mono (by decide) (by decide)⟩
                  show QLaw Z p0_ p1_ p2_ w_GET w_SET w_DEL w_VDEL w_KEYNOTIFY h0 n0 _ T306.heap _
                  rw [e306']
                  exact ⟨rfl, N307⟩
                · exact absurd (by apply Decidable.by_contra; intro hz; have := own_i1; have := own_i2; have := own_i7; simp only [Int32.lt_iff_toInt_lt, ← Int32.toInt_inj] at hz hq295_2_0 hq295_2_1; omega) hq306_10_4
                · exact absurd (by apply Decidable.by_contra; intro hz; have := own_i0; have := own_i1; have := own_i2; have := own_j2147483647; have := own_i3; have := own_i5; simp only [Int32.lt_iff_toInt_lt, ← Int32.toInt_inj] at hz hq306_11_0 hq306_11_2 hq306_11_1 hq293_9_3; omega) hq306_11_3
                · exact absurd (by apply Decidable.by_contra; intro hz; have := own_i0; have := own_i1; have := own_i2; have := own_j2147483647; have := own_i3; have := own_i5; simp only [Int32.lt_iff_toInt_lt, ← Int32.toInt_inj] at hz hq306_12_0 hq306_12_2 hq306_12_1 hq293_9_3; omega) hq306_12_3
                · exact absurd (by apply Decidable.by_contra; intro hz; have := own_i0; have := own_i1; have := own_i2; have := own_j2147483647; have := own_i3; have := own_i5; simp only [Int32.lt_iff_toInt_lt, ← Int32.toInt_inj] at hz hq306_13_0 hq306_13_2 hq306_13_1 hq293_9_3; omega) hq306_13_3
            · exact absurd (by apply Decidable.by_contra; intro hz; have := own_i2; simp only [Int32.lt_iff_toInt_lt, ← Int32.toInt_inj] at hz hq256_2_0 hq256_2_1; omega) hq293_10_4
            · exact absurd (by apply Decidable.by_contra; intro hz; have := own_i0; have := own_i1; have := own_i2; have := own_j2147483647; have := own_i3; have := own_i5; simp only [Int32.lt_iff_toInt_lt, ← Int32.toInt_inj] at hz hq293_11_0 hq293_11_2 hq293_11_1 hc254; omega) hq293_11_3
            · exact absurd (by apply Decidable.by_contra; intro hz; have := own_i0; have := own_i1; have := own_i2; have := own_j2147483647; have := own_i3; have := own_i5; simp only [Int32.lt_iff_toInt_lt, ← Int32.toInt_inj] at hz hq293_12_0 hq293_12_2 hq293_12_1 hc254; omega) hq293_12_3
            · exact absurd (by apply Decidable.by_contra; intro hz; have := own_i0; have := own_i1; have := own_i2; have := own_j2147483647; have := own_i3; have := own_i5; simp only [Int32.lt_iff_toInt_lt, ← Int32.toInt_inj] at hz hq293_13_0 hq293_13_2 hq293_13_1 hc254; omega) hq293_13_3
        · obtain ⟨T310, X310, e310, st310⟩ := getS2 X0 hx hZ hown (host := "") (Or.inl (own_w hw 19 rfl)) Via.refl e0 (P16.ext O0.2) (g := (mkF m 58 #[lvI p0_, lvI p1_, lvI p2_, lvI ((p0_ &&& (2147483647 : Int32)) % (5 : Int32)), .unset, .unset] [])) rfl (hb hby at_58)
          have f312 : Exa Z h0 w_KEYNOTIFY cn0 := P17.ext O0.2
          obtain ⟨cq311, kq311, q311a, q311b, q311c⟩ := isOf hZ e310 f312
          obtain ⟨_, _, ⟨T311, L311, k311, n311⟩, -, X311, ⟨Lc311, hQ311, l311, y311, z311⟩, st311⟩ := X310.virtualBack hx (y := (⟨"com/example/fawley/fawley/protocol/Command", "takes", "(I)Z"⟩ : MethodName)) (z := (⟨"com/example/fawley/fawley/protocol/Command", "takes", "(I)Z"⟩ : MethodName)) hown (mvT hZ (own_w hw 4 rfl)) (mvT hZ (own_w hw 5 rfl)) (notFace_of_selects (args := #[]) (mvT hZ (own_w hw 7 rfl))) (mvT hZ (own_w hw 7 rfl)) (mvT hZ (own_w hw 6 rfl)) (by decide) (backOf (W := 0) (rmTak l Z a0 hw [] w_KEYNOTIFY p1_ (1 : Int32) (2 : Int32) h0 n0 O0 P18 P19) hZ (own_w hw 8 rfl) (own_w hw 2 rfl) (by decide) (by decide)) q311a q311c (g := (mkF m 74 #[lvI p0_, lvI p1_, lvI p2_, lvI ((p0_ &&& (2147483647 : Int32)) % (5 : Int32)), lvR w_KEYNOTIFY, lvI ((p2_ &&& (7 : Int32)) - (1 : Int32))] [(.int p1_), (.ref w_KEYNOTIFY)])) rfl (by rw [hml]; rfl) (Steps.refl _) (argsL := [(.int p1_)]) (rest := []) (lenOf pd_0 rfl) rfl (by show 2 * 0 + _ ≤ _; exact Nat.le_of_eq rfl) (hb hby at_74) (fun _ _ => ⟨rfl, e310, (by decide : 0 + 0 ≤ _), (by decide : 0 + 0 ≤ _)⟩)
          dsimp only [Pt.U, Pt.locs, Pt.cells, Pt.slots] at X311 l311 y311 z311 st311 hQ311
          subst l311 y311 z311
          obtain ⟨h311, e311⟩ : ∃ z, T311.heap = z := ⟨_, rfl⟩
          rw [e311] at hQ311
          obtain ⟨rr311, rfl, hs311, N311q, hh311⟩ := hQ311
          have N313 := Fr.app N0 N311q
          have e311' : T311.heap = h0 := e311.trans hh311
          rcases hs311 with ⟨rfl, hq311_0_0⟩ | ⟨rfl, hq311_1_0, hq311_1_1⟩ | ⟨rfl, hq311_2_0, hq311_2_1⟩
          · obtain ⟨_, _, ⟨T314, L314, k314, n314⟩, -, X314, ⟨Lc314, hQ314, l314, y314, z314⟩, st314⟩ := Jvm.LawKit.callS X311 hx (y := (⟨"com/example/fawley/fawley/protocol/CommandTakesPinLaw", "expected", "(II)Z"⟩ : MethodName)) hown (mvT hZ (own_w hw 13 rfl)) (mvT hZ (own_w hw 14 rfl)) (mvT hZ (own_w hw 15 rfl)) (mvT hZ (own_w hw 16 rfl)) (by decide) (backOf (W := 1) (rmExp l Z a0 hw [] ((p0_ &&& (2147483647 : Int32)) % (5 : Int32)) p1_ h0 n0 O0 ) hZ (own_w hw 16 rfl) (own_w hw 15 rfl) (by decide) (by decide)) (g := (mkF m 79 #[lvI p0_, lvI p1_, lvI p2_, lvI ((p0_ &&& (2147483647 : Int32)) % (5 : Int32)), lvR w_KEYNOTIFY, lvI ((p2_ &&& (7 : Int32)) - (1 : Int32))] [(.int p1_), (.int ((p0_ &&& (2147483647 : Int32)) % (5 : Int32))), (.int (0 : Int32))])) rfl (by rw [hml]; rfl) (argsL := [(.int ((p0_ &&& (2147483647 : Int32)) % (5 : Int32))), (.int p1_)]) (rest := [(.int (0 : Int32))]) (lenOf pd_1 rfl) rfl (by show 2 * 0 + _ ≤ _; exact Nat.le_of_eq rfl) (hb hby at_79) (fun _ _ => ⟨rfl, e311', (by decide : 0 + 0 ≤ _), (by decide : 0 + 0 ≤ _)⟩)
            dsimp only [Pt.U, Pt.locs, Pt.cells, Pt.slots] at X314 l314 y314 z314 st314 hQ314
            subst l314 y314 z314
            obtain ⟨h314, e314⟩ : ∃ z, T314.heap = z := ⟨_, rfl⟩
            rw [e314] at hQ314
            obtain ⟨rr314, rfl, hs314, N314q, hh314⟩ := hQ314
            have N315 := Fr.app N313 N314q
            have e314' : T314.heap = h0 := e314.trans hh314
            rcases hs314 with ⟨rfl, hq314_0_0, hq314_0_1⟩ | ⟨rfl, hq314_1_0, hq314_1_1⟩ | ⟨rfl, hq314_2_0, hq314_2_1, hq314_2_2⟩ | ⟨rfl, hq314_3_0, hq314_3_1, hq314_3_2⟩ | ⟨rfl, hq314_4_0, hq314_4_1, hq314_4_2, hq314_4_3⟩ | ⟨rfl, hq314_5_0, hq314_5_1, hq314_5_2, hq314_5_3, hq314_5_4⟩ | ⟨rfl, hq314_6_0, hq314_6_1, hq314_6_2, hq314_6_3, hq314_6_4, hq314_6_5⟩ | ⟨rfl, hq314_7_0, hq314_7_1, hq314_7_2, hq314_7_3, hq314_7_4, hq314_7_5, hq314_7_6⟩ | ⟨rfl, hq314_8_0, hq314_8_1, hq314_8_2, hq314_8_3, hq314_8_4, hq314_8_5, hq314_8_6⟩ | ⟨rfl, hq314_9_0, hq314_9_1, hq314_9_2, hq314_9_3, hq314_9_4⟩ | ⟨rfl, hq314_10_0, hq314_10_1, hq314_10_2, hq314_10_3, hq314_10_4⟩ | ⟨rfl, hq314_11_0, hq314_11_1, hq314_11_2, hq314_11_3, hq314_11_4⟩ | ⟨rfl, hq314_12_0, hq314_12_1, hq314_12_2, hq314_12_3, hq314_12_4, hq314_12_5⟩ | ⟨rfl, hq314_13_0, hq314_13_1, hq314_13_2, hq314_13_3, hq314_13_4, hq314_13_5⟩
            · exact absurd hq314_0_0 (by intro hz; have := own_i0; have := own_i1; have := own_i2; have := own_j2147483647; have := own_i3; have := own_i5; simp only [Int32.lt_iff_toInt_lt, ← Int32.toInt_inj] at hz hc2 hc59 hc197 hc254; omega)
            · exact absurd hq314_1_0 (by intro hz; have := own_i0; have := own_i1; have := own_i2; have := own_j2147483647; have := own_i3; have := own_i5; simp only [Int32.lt_iff_toInt_lt, ← Int32.toInt_inj] at hz hc2 hc59 hc197 hc254; omega)
            · exact absurd hq314_2_1 (by intro hz; have := own_i0; have := own_i1; have := own_i2; have := own_j2147483647; have := own_i3; have := own_i5; simp only [Int32.lt_iff_toInt_lt, ← Int32.toInt_inj] at hz hq314_2_0 hc59 hc197 hc254; omega)
            · exact absurd hq314_3_1 (by intro hz; have := own_i0; have := own_i1; have := own_i2; have := own_j2147483647; have := own_i3; have := own_i5; simp only [Int32.lt_iff_toInt_lt, ← Int32.toInt_inj] at hz hq314_3_0 hc59 hc197 hc254; omega)
            · exact absurd hq314_4_2 (by intro hz; have := own_i0; have := own_i1; have := own_i2; have := own_j2147483647; have := own_i3; have := own_i5; simp only [Int32.lt_iff_toInt_lt, ← Int32.toInt_inj] at hz hq314_4_0 hc59 hq314_4_1 hc254; omega)
            · exact absurd hq314_5_2 (by intro hz; have := own_i0; have := own_i1; have := own_i2; have := own_j2147483647; have := own_i3; have := own_i5; simp only [Int32.lt_iff_toInt_lt, ← Int32.toInt_inj] at hz hq314_5_0 hc59 hq314_5_1 hc254; omega)
            · exact absurd hq314_6_2 (by intro hz; have := own_i0; have := own_i1; have := own_i2; have := own_j2147483647; have := own_i3; have := own_i5; simp only [Int32.lt_iff_toInt_lt, ← Int32.toInt_inj] at hz hq314_6_0 hc59 hq314_6_1 hc254; omega)
            · exact absurd hq314_7_2 (by intro hz; have := own_i0; have := own_i1; have := own_i2; have := own_j2147483647; have := own_i3; have := own_i5; simp only [Int32.lt_iff_toInt_lt, ← Int32.toInt_inj] at hz hq314_7_0 hc59 hq314_7_1 hc254; omega)
            · exact absurd hq314_8_2 (by intro hz; have := own_i0; have := own_i1; have := own_i2; have := own_j2147483647; have := own_i3; have := own_i5; simp only [Int32.lt_iff_toInt_lt, ← Int32.toInt_inj] at hz hq314_8_0 hc59 hq314_8_1 hc254; omega)
            · exact absurd hq314_9_3 (by intro hz; have := own_i0; have := own_i1; have := own_i2; have := own_j2147483647; have := own_i3; have := own_i5; simp only [Int32.lt_iff_toInt_lt, ← Int32.toInt_inj] at hz hq314_9_0 hq314_9_2 hq314_9_1 hc254; omega)
            · exact absurd hq314_10_3 (by intro hz; have := own_i0; have := own_i1; have := own_i2; have := own_j2147483647; have := own_i3; have := own_i5; simp only [Int32.lt_iff_toInt_lt, ← Int32.toInt_inj] at hz hq314_10_0 hq314_10_2 hq314_10_1 hc254; omega)
            · exact absurd hq314_11_4 (by intro hz; have := own_i1; simp only [Int32.lt_iff_toInt_lt, ← Int32.toInt_inj] at hz hq311_0_0; omega)
            · exact absurd hq314_12_5 (by intro hz; have := own_i1; have := own_i2; simp only [Int32.lt_iff_toInt_lt, ← Int32.toInt_inj] at hz hq311_0_0 hq314_12_4; omega)
            · have f317 : Exa Z h0 w_KEYNOTIFY cn0 := P17.ext O0.2
              obtain ⟨cq316, kq316, q316a, q316b, q316c⟩ := isOf hZ e314' f317
              obtain ⟨_, _, ⟨T316, L316, k316, n316⟩, -, X316, ⟨Lc316, hQ316, l316, y316, z316⟩, st316⟩ := X314.virtualBack hx (y := (⟨"com/example/fawley/fawley/protocol/Command", "takes", "(I)Z"⟩ : MethodName)) (z := (⟨"com/example/fawley/fawley/protocol/Command", "takes", "(I)Z"⟩ : MethodName)) hown (mvT hZ (own_w hw 4 rfl)) (mvT hZ (own_w hw 5 rfl)) (notFace_of_selects (args := #[]) (mvT hZ (own_w hw 7 rfl))) (mvT hZ (own_w hw 7 rfl)) (mvT hZ (own_w hw 6 rfl)) (by decide) (backOf (W := 0) (rmTak l Z a0 hw [] w_KEYNOTIFY ((p2_ &&& (7 : Int32)) - (1 : Int32)) (1 : Int32) (2 : Int32) h0 n0 O0 P18 P19) hZ (own_w hw 8 rfl) (own_w hw 2 rfl) (by decide) (by decide)) q316a q316c (g := (mkF m 89 #[lvI p0_, lvI p1_, lvI p2_, lvI ((p0_ &&& (2147483647 : Int32)) % (5 : Int32)), lvR w_KEYNOTIFY, lvI ((p2_ &&& (7 : Int32)) - (1 : Int32))] [(.int ((p2_ &&& (7 : Int32)) - (1 : Int32))), (.ref w_KEYNOTIFY)])) rfl (by rw [hml]; rfl) (Steps.refl _) (argsL := [(.int ((p2_ &&& (7 : Int32)) - (1 : Int32)))]) (rest := []) (lenOf pd_0 rfl) rfl (by show 2 * 0 + _ ≤ _; exact Nat.le_of_eq rfl) (hb hby at_89) (fun _ _ => ⟨rfl, e314', (by decide : 0 + 0 ≤ _), (by decide : 0 + 0 ≤ _)⟩)
              dsimp only [Pt.U, Pt.locs, Pt.cells, Pt.slots] at X316 l316 y316 z316 st316 hQ316
              subst l316 y316 z316
              obtain ⟨h316, e316⟩ : ∃ z, T316.heap = z := ⟨_, rfl⟩
              rw [e316] at hQ316
              obtain ⟨rr316, rfl, hs316, N316q, hh316⟩ := hQ316
              have N318 := Fr.app N315 N316q
              have e316' : T316.heap = h0 := e316.trans hh316
              rcases hs316 with ⟨rfl, hq316_0_0⟩ | ⟨rfl, hq316_1_0, hq316_1_1⟩ | ⟨rfl, hq316_2_0, hq316_2_1⟩
              · obtain ⟨_, _, ⟨T319, L319, k319, n319⟩, -, X319, ⟨Lc319, hQ319, l319, y319, z319⟩, st319⟩ := Jvm.LawKit.callS X316 hx (y := (⟨"com/example/fawley/fawley/protocol/CommandTakesPinLaw", "expected", "(II)Z"⟩ : MethodName)) hown (mvT hZ (own_w hw 13 rfl)) (mvT hZ (own_w hw 14 rfl)) (mvT hZ (own_w hw 15 rfl)) (mvT hZ (own_w hw 16 rfl)) (by decide) (backOf (W := 1) (rmExp l Z a0 hw [] ((p0_ &&& (2147483647 : Int32)) % (5 : Int32)) ((p2_ &&& (7 : Int32)) - (1 : Int32)) h0 n0 O0 ) hZ (own_w hw 16 rfl) (own_w hw 15 rfl) (by decide) (by decide)) (g := (mkF m 95 #[lvI p0_, lvI p1_, lvI p2_, lvI ((p0_ &&& (2147483647 : Int32)) % (5 : Int32)), lvR w_KEYNOTIFY, lvI ((p2_ &&& (7 : Int32)) - (1 : Int32))] [(.int ((p2_ &&& (7 : Int32)) - (1 : Int32))), (.int ((p0_ &&& (2147483647 : Int32)) % (5 : Int32))), (.int (0 : Int32))])) rfl (by rw [hml]; rfl) (argsL := [(.int ((p0_ &&& (2147483647 : Int32)) % (5 : Int32))), (.int ((p2_ &&& (7 : Int32)) - (1 : Int32)))]) (rest := [(.int (0 : Int32))]) (lenOf pd_1 rfl) rfl (by show 2 * 0 + _ ≤ _; exact Nat.le_of_eq rfl) (hb hby at_95) (fun _ _ => ⟨rfl, e316', (by decide : 0 + 0 ≤ _), (by decide : 0 + 0 ≤ _)⟩)
                dsimp only [Pt.U, Pt.locs, Pt.cells, Pt.slots] at X319 l319 y319 z319 st319 hQ319
                subst l319 y319 z319
                obtain ⟨h319, e319⟩ : ∃ z, T319.heap = z := ⟨_, rfl⟩
                rw [e319] at hQ319
                obtain ⟨rr319, rfl, hs319, N319q, hh319⟩ := hQ319
                have N320 := Fr.app N318 N319q
                have e319' : T319.heap = h0 := e319.trans hh319
                rcases hs319 with ⟨rfl, hq319_0_0, hq319_0_1⟩ | ⟨rfl, hq319_1_0, hq319_1_1⟩ | ⟨rfl, hq319_2_0, hq319_2_1, hq319_2_2⟩ | ⟨rfl, hq319_3_0, hq319_3_1, hq319_3_2⟩ | ⟨rfl, hq319_4_0, hq319_4_1, hq319_4_2, hq319_4_3⟩ | ⟨rfl, hq319_5_0, hq319_5_1, hq319_5_2, hq319_5_3, hq319_5_4⟩ | ⟨rfl, hq319_6_0, hq319_6_1, hq319_6_2, hq319_6_3, hq319_6_4, hq319_6_5⟩ | ⟨rfl, hq319_7_0, hq319_7_1, hq319_7_2, hq319_7_3, hq319_7_4, hq319_7_5, hq319_7_6⟩ | ⟨rfl, hq319_8_0, hq319_8_1, hq319_8_2, hq319_8_3, hq319_8_4, hq319_8_5, hq319_8_6⟩ | ⟨rfl, hq319_9_0, hq319_9_1, hq319_9_2, hq319_9_3, hq319_9_4⟩ | ⟨rfl, hq319_10_0, hq319_10_1, hq319_10_2, hq319_10_3, hq319_10_4⟩ | ⟨rfl, hq319_11_0, hq319_11_1, hq319_11_2, hq319_11_3, hq319_11_4⟩ | ⟨rfl, hq319_12_0, hq319_12_1, hq319_12_2, hq319_12_3, hq319_12_4, hq319_12_5⟩ | ⟨rfl, hq319_13_0, hq319_13_1, hq319_13_2, hq319_13_3, hq319_13_4, hq319_13_5⟩
                · exact absurd hq319_0_0 (by intro hz; have := own_i0; have := own_i1; have := own_i2; have := own_j2147483647; have := own_i3; have := own_i5; simp only [Int32.lt_iff_toInt_lt, ← Int32.toInt_inj] at hz hq314_13_0 hq314_13_2 hq314_13_1 hq314_13_3; omega)
                · exact absurd hq319_1_0 (by intro hz; have := own_i0; have := own_i1; have := own_i2; have := own_j2147483647; have := own_i3; have := own_i5; simp only [Int32.lt_iff_toInt_lt, ← Int32.toInt_inj] at hz hq314_13_0 hq314_13_2 hq314_13_1 hq314_13_3; omega)
                · exact absurd hq319_2_1 (by intro hz; have := own_i0; have := own_i1; have := own_i2; have := own_j2147483647; have := own_i3; have := own_i5; simp only [Int32.lt_iff_toInt_lt, ← Int32.toInt_inj] at hz hq319_2_0 hq314_13_2 hq314_13_1 hq314_13_3; omega)
                · exact absurd hq319_3_1 (by intro hz; have := own_i0; have := own_i1; have := own_i2; have := own_j2147483647; have := own_i3; have := own_i5; simp only [Int32.lt_iff_toInt_lt, ← Int32.toInt_inj] at hz hq319_3_0 hq314_13_2 hq314_13_1 hq314_13_3; omega)
                · exact absurd hq319_4_2 (by intro hz; have := own_i0; have := own_i1; have := own_i2; have := own_j2147483647; have := own_i3; have := own_i5; simp only [Int32.lt_iff_toInt_lt, ← Int32.toInt_inj] at hz hq319_4_0 hq314_13_2 hq319_4_1 hq314_13_3; omega)
                · exact absurd hq319_5_2 (by intro hz; have := own_i0; have := own_i1; have := own_i2; have := own_j2147483647; have := own_i3; have := own_i5; simp only [Int32.lt_iff_toInt_lt, ← Int32.toInt_inj] at hz hq319_5_0 hq314_13_2 hq319_5_1 hq314_13_3; omega)
                · exact absurd hq319_6_2 (by intro hz; have := own_i0; have := own_i1; have := own_i2; have := own_j2147483647; have := own_i3; have := own_i5; simp only [Int32.lt_iff_toInt_lt, ← Int32.toInt_inj] at hz hq319_6_0 hq314_13_2 hq319_6_1 hq314_13_3; omega)
                · exact absurd hq319_7_2 (by intro hz; have := own_i0; have := own_i1; have := own_i2; have := own_j2147483647; have := own_i3; have := own_i5; simp only [Int32.lt_iff_toInt_lt, ← Int32.toInt_inj] at hz hq319_7_0 hq314_13_2 hq319_7_1 hq314_13_3; omega)
                · exact absurd hq319_8_2 (by intro hz; have := own_i0; have := own_i1; have := own_i2; have := own_j2147483647; have := own_i3; have := own_i5; simp only [Int32.lt_iff_toInt_lt, ← Int32.toInt_inj] at hz hq319_8_0 hq314_13_2 hq319_8_1 hq314_13_3; omega)
                · exact absurd hq319_9_3 (by intro hz; have := own_i0; have := own_i1; have := own_i2; have := own_j2147483647; have := own_i3; have := own_i5; simp only [Int32.lt_iff_toInt_lt, ← Int32.toInt_inj] at hz hq319_9_0 hq319_9_2 hq319_9_1 hq314_13_3; omega)
                · exact absurd hq319_10_3 (by intro hz; have := own_i0; have := own_i1; have := own_i2; have := own_j2147483647; have := own_i3; have := own_i5; simp only [Int32.lt_iff_toInt_lt, ← Int32.toInt_inj] at hz hq319_10_0 hq319_10_2 hq319_10_1 hq314_13_3; omega)
                · exact absurd hq319_11_4 (by intro hz; have := own_i1; have := own_i7; simp only [Int32.lt_iff_toInt_lt, ← Int32.toInt_inj] at hz hq316_0_0; omega)
                · exact absurd hq319_12_5 (by intro hz; have := own_i1; have := own_i2; have := own_i7; simp only [Int32.lt_iff_toInt_lt, ← Int32.toInt_inj] at hz hq316_0_0 hq319_12_4; omega)
                · have pre321 : ∀ t, own_S p e below m T319 106 #[lvI p0_, lvI p1_, lvI p2_, lvI ((p0_ &&& (2147483647 : Int32)) % (5 : Int32)), lvR w_KEYNOTIFY, lvI ((p2_ &&& (7 : Int32)) - (1 : Int32))] [(.int (1 : Int32))] t → G t := by
                    intro t kt
                    refine pre253 t ?_
                    show own_S p e below m s₁ 47 #[lvI p0_, lvI p1_, lvI p2_, lvI ((p0_ &&& (2147483647 : Int32)) % (5 : Int32)), .unset, .unset] [(.int (3 : Int32)), (.int ((p0_ &&& (2147483647 : Int32)) % (5 : Int32)))] _
                    refine XS.icmpYes X0.here hx rfl (pc0 := 47) (pc' := 58) rfl (hb hby at_47) rfl (feq hc254).2 (by decide) (by decide) ?_
                    show own_S p e below m s₁ 58 #[lvI p0_, lvI p1_, lvI p2_, lvI ((p0_ &&& (2147483647 : Int32)) % (5 : Int32)), .unset, .unset] [] _
                    refine st310 _ ?_
                    refine XS.astore X310.here hx rfl (hb hby at_61) rfl rfl (l' := #[lvI p0_, lvI p1_, lvI p2_, lvI ((p0_ &&& (2147483647 : Int32)) % (5 : Int32)), lvR w_KEYNOTIFY, .unset]) rfl ?_
                    refine XS.iloadN X310.here hx rfl (hb hby at_63) rfl ?_
                    refine XS.bipush X310.here hx rfl (hb hby at_64) ?_
                    refine XS.iand X310.here hx rfl (hb hby at_66) rfl ?_
                    refine XS.iconst X310.here hx rfl (hb hby at_67) ?_
                    show own_S p e below m T310 68 #[lvI p0_, lvI p1_, lvI p2_, lvI ((p0_ &&& (2147483647 : Int32)) % (5 : Int32)), lvR w_KEYNOTIFY, .unset] [(.int (1 : Int32)), (.int (p2_ &&& (7 : Int32)))] _
                    refine XS.isub X310.here hx rfl (hb hby at_68) rfl ?_
                    refine XS.istore X310.here hx rfl (hb hby at_69) rfl (l' := #[lvI p0_, lvI p1_, lvI p2_, lvI ((p0_ &&& (2147483647 : Int32)) % (5 : Int32)), lvR w_KEYNOTIFY, lvI ((p2_ &&& (7 : Int32)) - (1 : Int32))]) rfl ?_
                    refine XS.aload X310.here hx rfl (hb hby at_71) rfl rfl ?_
                    refine XS.iloadN X310.here hx rfl (hb hby at_73) rfl ?_
                    show own_S p e below m T310 74 #[lvI p0_, lvI p1_, lvI p2_, lvI ((p0_ &&& (2147483647 : Int32)) % (5 : Int32)), lvR w_KEYNOTIFY, lvI ((p2_ &&& (7 : Int32)) - (1 : Int32))] [(.int p1_), (.ref w_KEYNOTIFY)] _
                    refine st311.trans ?_
                    refine XS.iloadN X311.here hx rfl (hb hby at_77) rfl ?_
                    refine XS.iloadN X311.here hx rfl (hb hby at_78) rfl ?_
                    show own_S p e below m T311 79 #[lvI p0_, lvI p1_, lvI p2_, lvI ((p0_ &&& (2147483647 : Int32)) % (5 : Int32)), lvR w_KEYNOTIFY, lvI ((p2_ &&& (7 : Int32)) - (1 : Int32))] [(.int p1_), (.int ((p0_ &&& (2147483647 : Int32)) % (5 : Int32))), (.int (0 : Int32))] _
                    refine st314 _ ?_
                    show own_S p e below m T314 82 #[lvI p0_, lvI p1_, lvI p2_, lvI ((p0_ &&& (2147483647 : Int32)) % (5 : Int32)), lvR w_KEYNOTIFY, lvI ((p2_ &&& (7 : Int32)) - (1 : Int32))] [(.int (0 : Int32)), (.int (0 : Int32))] _
                    refine XS.icmpNo X314.here hx rfl (hb hby at_82) rfl (teq (by decide : (0 : Int32) = (0 : Int32))).2 ?_
                    refine XS.aload X314.here hx rfl (hb hby at_85) rfl rfl ?_
                    refine XS.iload X314.here hx rfl (hb hby at_87) rfl ?_
                    show own_S p e below m T314 89 #[lvI p0_, lvI p1_, lvI p2_, lvI ((p0_ &&& (2147483647 : Int32)) % (5 : Int32)), lvR w_KEYNOTIFY, lvI ((p2_ &&& (7 : Int32)) - (1 : Int32))] [(.int ((p2_ &&& (7 : Int32)) - (1 : Int32))), (.ref w_KEYNOTIFY)] _
                    refine st316.trans ?_
                    refine XS.iloadN X316.here hx rfl (hb hby at_92) rfl ?_
                    refine XS.iload X316.here hx rfl (hb hby at_93) rfl ?_
                    show own_S p e below m T316 95 #[lvI p0_, lvI p1_, lvI p2_, lvI ((p0_ &&& (2147483647 : Int32)) % (5 : Int32)), lvR w_KEYNOTIFY, lvI ((p2_ &&& (7 : Int32)) - (1 : Int32))] [(.int ((p2_ &&& (7 : Int32)) - (1 : Int32))), (.int ((p0_ &&& (2147483647 : Int32)) % (5 : Int32))), (.int (0 : Int32))] _
                    refine st319 _ ?_
                    show own_S p e below m T319 98 #[lvI p0_, lvI p1_, lvI p2_, lvI ((p0_ &&& (2147483647 : Int32)) % (5 : Int32)), lvR w_KEYNOTIFY, lvI ((p2_ &&& (7 : Int32)) - (1 : Int32))] [(.int (0 : Int32)), (.int (0 : Int32))] _
                    refine XS.icmpNo X319.here hx rfl (hb hby at_98) rfl (teq (by decide : (0 : Int32) = (0 : Int32))).2 ?_
                    refine XS.iconst X319.here hx rfl (hb hby at_101) ?_
                    refine XS.goto X319.here hx rfl (pc0 := 102) (pc' := 106) rfl (hb hby at_102) (by decide) (by decide) ?_
                    exact kt
                  obtain ⟨fs, hr, hrun, hended, hW, hsame⟩ := X319.leave (v := some (.int (1 : Int32))) (fun h => by rw [Bd.returns] at h; cases h)
                  refine ⟨_, _, hG _ (pre321 _ (retN X319 hx (t := .boolean) Bd.returns (by simp) (hb hby at_106) hr)), hrun, hended, _, _, rfl, ?_, ⟨_, rfl⟩, hW, hsame.mono (by decide) (by decide)⟩
                  show QLaw Z p0_ p1_ p2_ w_GET w_SET w_DEL w_VDEL w_KEYNOTIFY h0 n0 _ T319.heap _
                  rw [e319']
                  exact ⟨rfl, N320⟩
              · obtain ⟨_, _, ⟨T323, L323, k323, n323⟩, -, X323, ⟨Lc323, hQ323, l323, y323, z323⟩, st323⟩ := Jvm.LawKit.callS X316 hx (y := (⟨"com/example/fawley/fawley/protocol/CommandTakesPinLaw", "expected", "(II)Z"⟩ : MethodName)) hown (mvT hZ (own_w hw 13 rfl)) (mvT hZ (own_w hw 14 rfl)) (mvT hZ (own_w hw 15 rfl)) (mvT hZ (own_w hw 16 rfl)) (by decide) (backOf (W := 1) (rmExp l Z a0 hw [] ((p0_ &&& (2147483647 : Int32)) % (5 : Int32)) ((p2_ &&& (7 : Int32)) - (1 : Int32)) h0 n0 O0 ) hZ (own_w hw 16 rfl) (own_w hw 15 rfl) (by decide) (by decide)) (g := (mkF m 95 #[lvI p0_, lvI p1_, lvI p2_, lvI ((p0_ &&& (2147483647 : Int32)) % (5 : Int32)), lvR w_KEYNOTIFY, lvI ((p2_ &&& (7 : Int32)) - (1 : Int32))] [(.int ((p2_ &&& (7 : Int32)) - (1 : Int32))), (.int ((p0_ &&& (2147483647 : Int32)) % (5 : Int32))), (.int (0 : Int32))])) rfl (by rw [hml]; rfl) (argsL := [(.int ((p0_ &&& (2147483647 : Int32)) % (5 : Int32))), (.int ((p2_ &&& (7 : Int32)) - (1 : Int32)))]) (rest := [(.int (0 : Int32))]) (lenOf pd_1 rfl) rfl (by show 2 * 0 + _ ≤ _; exact Nat.le_of_eq rfl) (hb hby at_95) (fun _ _ => ⟨rfl, e316', (by decide : 0 + 0 ≤ _), (by decide : 0 + 0 ≤ _)⟩)
                dsimp only [Pt.U, Pt.locs, Pt.cells, Pt.slots] at X323 l323 y323 z323 st323 hQ323
                subst l323 y323 z323
                obtain ⟨h323, e323⟩ : ∃ z, T323.heap = z := ⟨_, rfl⟩
                rw [e323] at hQ323
                obtain ⟨rr323, rfl, hs323, N323q, hh323⟩ := hQ323
                have N324 := Fr.app N318 N323q
                have e323' : T323.heap = h0 := e323.trans hh323
                rcases hs323 with ⟨rfl, hq323_0_0, hq323_0_1⟩ | ⟨rfl, hq323_1_0, hq323_1_1⟩ | ⟨rfl, hq323_2_0, hq323_2_1, hq323_2_2⟩ | ⟨rfl, hq323_3_0, hq323_3_1, hq323_3_2⟩ | ⟨rfl, hq323_4_0, hq323_4_1, hq323_4_2, hq323_4_3⟩ | ⟨rfl, hq323_5_0, hq323_5_1, hq323_5_2, hq323_5_3, hq323_5_4⟩ | ⟨rfl, hq323_6_0, hq323_6_1, hq323_6_2, hq323_6_3, hq323_6_4, hq323_6_5⟩ | ⟨rfl, hq323_7_0, hq323_7_1, hq323_7_2, hq323_7_3, hq323_7_4, hq323_7_5, hq323_7_6⟩ | ⟨rfl, hq323_8_0, hq323_8_1, hq323_8_2, hq323_8_3, hq323_8_4, hq323_8_5, hq323_8_6⟩ | ⟨rfl, hq323_9_0, hq323_9_1, hq323_9_2, hq323_9_3, hq323_9_4⟩ | ⟨rfl, hq323_10_0, hq323_10_1, hq323_10_2, hq323_10_3, hq323_10_4⟩ | ⟨rfl, hq323_11_0, hq323_11_1, hq323_11_2, hq323_11_3, hq323_11_4⟩ | ⟨rfl, hq323_12_0, hq323_12_1, hq323_12_2, hq323_12_3, hq323_12_4, hq323_12_5⟩ | ⟨rfl, hq323_13_0, hq323_13_1, hq323_13_2, hq323_13_3, hq323_13_4, hq323_13_5⟩
                · exact absurd hq323_0_0 (by intro hz; have := own_i0; have := own_i1; have := own_i2; have := own_j2147483647; have := own_i3; have := own_i5; simp only [Int32.lt_iff_toInt_lt, ← Int32.toInt_inj] at hz hq314_13_0 hq314_13_2 hq314_13_1 hq314_13_3; omega)
                · exact absurd hq323_1_0 (by intro hz; have := own_i0; have := own_i1; have := own_i2; have := own_j2147483647; have := own_i3; have := own_i5; simp only [Int32.lt_iff_toInt_lt, ← Int32.toInt_inj] at hz hq314_13_0 hq314_13_2 hq314_13_1 hq314_13_3; omega)
                · exact absurd hq323_2_1 (by intro hz; have := own_i0; have := own_i1; have := own_i2; have := own_j2147483647; have := own_i3; have := own_i5; simp only [Int32.lt_iff_toInt_lt, ← Int32.toInt_inj] at hz hq323_2_0 hq314_13_2 hq314_13_1 hq314_13_3; omega)
                · exact absurd hq323_3_1 (by intro hz; have := own_i0; have := own_i1; have := own_i2; have := own_j2147483647; have := own_i3; have := own_i5; simp only [Int32.lt_iff_toInt_lt, ← Int32.toInt_inj] at hz hq323_3_0 hq314_13_2 hq314_13_1 hq314_13_3; omega)
                · exact absurd hq323_4_2 (by intro hz; have := own_i0; have := own_i1; have := own_i2; have := own_j2147483647; have := own_i3; have := own_i5; simp only [Int32.lt_iff_toInt_lt, ← Int32.toInt_inj] at hz hq323_4_0 hq314_13_2 hq323_4_1 hq314_13_3; omega)
                · exact absurd hq323_5_2 (by intro hz; have := own_i0; have := own_i1; have := own_i2; have := own_j2147483647; have := own_i3; have := own_i5; simp only [Int32.lt_iff_toInt_lt, ← Int32.toInt_inj] at hz hq323_5_0 hq314_13_2 hq323_5_1 hq314_13_3; omega)
                · exact absurd hq323_6_2 (by intro hz; have := own_i0; have := own_i1; have := own_i2; have := own_j2147483647; have := own_i3; have := own_i5; simp only [Int32.lt_iff_toInt_lt, ← Int32.toInt_inj] at hz hq323_6_0 hq314_13_2 hq323_6_1 hq314_13_3; omega)
                · exact absurd hq323_7_2 (by intro hz; have := own_i0; have := own_i1; have := own_i2; have := own_j2147483647; have := own_i3; have := own_i5; simp only [Int32.lt_iff_toInt_lt, ← Int32.toInt_inj] at hz hq323_7_0 hq314_13_2 hq323_7_1 hq314_13_3; omega)
                · exact absurd hq323_8_2 (by intro hz; have := own_i0; have := own_i1; have := own_i2; have := own_j2147483647; have := own_i3; have := own_i5; simp only [Int32.lt_iff_toInt_lt, ← Int32.toInt_inj] at hz hq323_8_0 hq314_13_2 hq323_8_1 hq314_13_3; omega)
                · exact absurd hq323_9_3 (by intro hz; have := own_i0; have := own_i1; have := own_i2; have := own_j2147483647; have := own_i3; have := own_i5; simp only [Int32.lt_iff_toInt_lt, ← Int32.toInt_inj] at hz hq323_9_0 hq323_9_2 hq323_9_1 hq314_13_3; omega)
                · exact absurd hq323_10_3 (by intro hz; have := own_i0; have := own_i1; have := own_i2; have := own_j2147483647; have := own_i3; have := own_i5; simp only [Int32.lt_iff_toInt_lt, ← Int32.toInt_inj] at hz hq323_10_0 hq323_10_2 hq323_10_1 hq314_13_3; omega)
                · exact absurd hq323_11_4 (by intro hz; have := own_i1; have := own_i2; have := own_i7; simp only [Int32.lt_iff_toInt_lt, ← Int32.toInt_inj] at hz hq316_1_0 hq316_1_1; omega)
                · exact absurd hq323_12_5 (by intro hz; have := own_i1; have := own_i2; have := own_i7; simp only [Int32.lt_iff_toInt_lt, ← Int32.toInt_inj] at hz hq316_1_0 hq316_1_1 hq323_12_4; omega)
                · have pre325 : ∀ t, own_S p e below m T323 106 #[lvI p0_, lvI p1_, lvI p2_, lvI ((p0_ &&& (2147483647 : Int32)) % (5 : Int32)), lvR w_KEYNOTIFY, lvI ((p2_ &&& (7 : Int32)) - (1 : Int32))] [(.int (1 : Int32))] t → G t := by
                    intro t kt
                    refine pre253 t ?_
                    show own_S p e below m s₁ 47 #[lvI p0_, lvI p1_, lvI p2_, lvI ((p0_ &&& (2147483647 : Int32)) % (5 : Int32)), .unset, .unset] [(.int (3 : Int32)), (.int ((p0_ &&& (2147483647 : Int32)) % (5 : Int32)))] _
                    refine XS.icmpYes X0.here hx rfl (pc0 := 47) (pc' := 58) rfl (hb hby at_47) rfl (feq hc254).2 (by decide) (by decide) ?_
                    show own_S p e below m s₁ 58 #[lvI p0_, lvI p1_, lvI p2_, lvI ((p0_ &&& (2147483647 : Int32)) % (5 : Int32)), .unset, .unset] [] _
                    refine st310 _ ?_
                    refine XS.astore X310.here hx rfl (hb hby at_61) rfl rfl (l' := #[lvI p0_, lvI p1_, lvI p2_, lvI ((p0_ &&& (2147483647 : Int32)) % (5 : Int32)), lvR w_KEYNOTIFY, .unset]) rfl ?_
                    refine XS.iloadN X310.here hx rfl (hb hby at_63) rfl ?_
                    refine XS.bipush X310.here hx rfl (hb hby at_64) ?_
                    refine XS.iand X310.here hx rfl (hb hby at_66) rfl ?_
                    refine XS.iconst X310.here hx rfl (hb hby at_67) ?_
                    show own_S p e below m T310 68 #[lvI p0_, lvI p1_, lvI p2_, lvI ((p0_ &&& (2147483647 : Int32)) % (5 : Int32)), lvR w_KEYNOTIFY, .unset] [(.int (1 : Int32)), (.int (p2_ &&& (7 : Int32)))] _
                    refine XS.isub X310.here hx rfl (hb hby at_68) rfl ?_
                    refine XS.istore X310.here hx rfl (hb hby at_69) rfl (l' := #[lvI p0_, lvI p1_, lvI p2_, lvI ((p0_ &&& (2147483647 : Int32)) % (5 : Int32)), lvR w_KEYNOTIFY, lvI ((p2_ &&& (7 : Int32)) - (1 : Int32))]) rfl ?_
                    refine XS.aload X310.here hx rfl (hb hby at_71) rfl rfl ?_
                    refine XS.iloadN X310.here hx rfl (hb hby at_73) rfl ?_
                    show own_S p e below m T310 74 #[lvI p0_, lvI p1_, lvI p2_, lvI ((p0_ &&& (2147483647 : Int32)) % (5 : Int32)), lvR w_KEYNOTIFY, lvI ((p2_ &&& (7 : Int32)) - (1 : Int32))] [(.int p1_), (.ref w_KEYNOTIFY)] _
                    refine st311.trans ?_
                    refine XS.iloadN X311.here hx rfl (hb hby at_77) rfl ?_
                    refine XS.iloadN X311.here hx rfl (hb hby at_78) rfl ?_
                    show own_S p e below m T311 79 #[lvI p0_, lvI p1_, lvI p2_, lvI ((p0_ &&& (2147483647 : Int32)) % (5 : Int32)), lvR w_KEYNOTIFY, lvI ((p2_ &&& (7 : Int32)) - (1 : Int32))] [(.int p1_), (.int ((p0_ &&& (2147483647 : Int32)) % (5 : Int32))), (.int (0 : Int32))] _
                    refine st314 _ ?_
                    show own_S p e below m T314 82 #[lvI p0_, lvI p1_, lvI p2_, lvI ((p0_ &&& (2147483647 : Int32)) % (5 : Int32)), lvR w_KEYNOTIFY, lvI ((p2_ &&& (7 : Int32)) - (1 : Int32))] [(.int (0 : Int32)), (.int (0 : Int32))] _
                    refine XS.icmpNo X314.here hx rfl (hb hby at_82) rfl (teq (by decide : (0 : Int32) = (0 : Int32))).2 ?_
                    refine XS.aload X314.here hx rfl (hb hby at_85) rfl rfl ?_
                    refine XS.iload X314.here hx rfl (hb hby at_87) rfl ?_
                    show own_S p e below m T314 89 #[lvI p0_, lvI p1_, lvI p2_, lvI ((p0_ &&& (2147483647 : Int32)) % (5 : Int32)), lvR w_KEYNOTIFY, lvI ((p2_ &&& (7 : Int32)) - (1 : Int32))] [(.int ((p2_ &&& (7 : Int32)) - (1 : Int32))), (.ref w_KEYNOTIFY)] _
                    refine st316.trans ?_
                    refine XS.iloadN X316.here hx rfl (hb hby at_92) rfl ?_
                    refine XS.iload X316.here hx rfl (hb hby at_93) rfl ?_
                    show own_S p e below m T316 95 #[lvI p0_, lvI p1_, lvI p2_, lvI ((p0_ &&& (2147483647 : Int32)) % (5 : Int32)), lvR w_KEYNOTIFY, lvI ((p2_ &&& (7 : Int32)) - (1 : Int32))] [(.int ((p2_ &&& (7 : Int32)) - (1 : Int32))), (.int ((p0_ &&& (2147483647 : Int32)) % (5 : Int32))), (.int (0 : Int32))] _
                    refine st323 _ ?_
                    show own_S p e below m T323 98 #[lvI p0_, lvI p1_, lvI p2_, lvI ((p0_ &&& (2147483647 : Int32)) % (5 : Int32)), lvR w_KEYNOTIFY, lvI ((p2_ &&& (7 : Int32)) - (1 : Int32))] [(.int (0 : Int32)), (.int (0 : Int32))] _
                    refine XS.icmpNo X323.here hx rfl (hb hby at_98) rfl (teq (by decide : (0 : Int32) = (0 : Int32))).2 ?_
                    refine XS.iconst X323.here hx rfl (hb hby at_101) ?_
                    refine XS.goto X323.here hx rfl (pc0 := 102) (pc' := 106) rfl (hb hby at_102) (by decide) (by decide) ?_
                    exact kt
                  obtain ⟨fs, hr, hrun, hended, hW, hsame⟩ := X323.leave (v := some (.int (1 : Int32))) (fun h => by rw [Bd.returns] at h; cases h)
                  refine ⟨_, _, hG _ (pre325 _ (retN X323 hx (t := .boolean) Bd.returns (by simp) (hb hby at_106) hr)), hrun, hended, _, _, rfl, ?_, ⟨_, rfl⟩, hW, hsame.mono (by decide) (by decide)⟩
                  show QLaw Z p0_ p1_ p2_ w_GET w_SET w_DEL w_VDEL w_KEYNOTIFY h0 n0 _ T323.heap _
                  rw [e323']
                  exact ⟨rfl, N324⟩
              · obtain ⟨_, _, ⟨T327, L327, k327, n327⟩, -, X327, ⟨Lc327, hQ327, l327, y327, z327⟩, st327⟩ := Jvm.LawKit.callS X316 hx (y := (⟨"com/example/fawley/fawley/protocol/CommandTakesPinLaw", "expected", "(II)Z"⟩ : MethodName)) hown (mvT hZ (own_w hw 13 rfl)) (mvT hZ (own_w hw 14 rfl)) (mvT hZ (own_w hw 15 rfl)) (mvT hZ (own_w hw 16 rfl)) (by decide) (backOf (W := 1) (rmExp l Z a0 hw [] ((p0_ &&& (2147483647 : Int32)) % (5 : Int32)) ((p2_ &&& (7 : Int32)) - (1 : Int32)) h0 n0 O0 ) hZ (own_w hw 16 rfl) (own_w hw 15 rfl) (by decide) (by decide)) (g := (mkF m 95 #[lvI p0_, lvI p1_, lvI p2_, lvI ((p0_ &&& (2147483647 : Int32)) % (5 : Int32)), lvR w_KEYNOTIFY, lvI ((p2_ &&& (7 : Int32)) - (1 : Int32))] [(.int ((p2_ &&& (7 : Int32)) - (1 : Int32))), (.int ((p0_ &&& (2147483647 : Int32)) % (5 : Int32))), (.int (1 : Int32))])) rfl (by rw [hml]; rfl) (argsL := [(.int ((p0_ &&& (2147483647 : Int32)) % (5 : Int32))), (.int ((p2_ &&& (7 : Int32)) - (1 : Int32)))]) (rest := [(.int (1 : Int32))]) (lenOf pd_1 rfl) rfl (by show 2 * 0 + _ ≤ _; exact Nat.le_of_eq rfl) (hb hby at_95) (fun _ _ => ⟨rfl, e316', (by decide : 0 + 0 ≤ _), (by decide : 0 + 0 ≤ _)⟩)
                dsimp only [Pt.U, Pt.locs, Pt.cells, Pt.slots] at X327 l327 y327 z327 st327 hQ327
                subst l327 y327 z327
                obtain ⟨h327, e327⟩ : ∃ z, T327.heap = z := ⟨_, rfl⟩
                rw [e327] at hQ327
                obtain ⟨rr327, rfl, hs327, N327q, hh327⟩ := hQ327
                have N328 := Fr.app N318 N327q
                have e327' : T327.heap = h0 := e327.trans hh327
                rcases hs327 with ⟨rfl, hq327_0_0, hq327_0_1⟩ | ⟨rfl, hq327_1_0, hq327_1_1⟩ | ⟨rfl, hq327_2_0, hq327_2_1, hq327_2_2⟩ | ⟨rfl, hq327_3_0, hq327_3_1, hq327_3_2⟩ | ⟨rfl, hq327_4_0, hq327_4_1, hq327_4_2, hq327_4_3⟩ | ⟨rfl, hq327_5_0, hq327_5_1, hq327_5_2, hq327_5_3, hq327_5_4⟩ | ⟨rfl, hq327_6_0, hq327_6_1, hq327_6_2, hq327_6_3, hq327_6_4, hq327_6_5⟩ | ⟨rfl, hq327_7_0, hq327_7_1, hq327_7_2, hq327_7_3, hq327_7_4, hq327_7_5, hq327_7_6⟩ | ⟨rfl, hq327_8_0, hq327_8_1, hq327_8_2, hq327_8_3, hq327_8_4, hq327_8_5, hq327_8_6⟩ | ⟨rfl, hq327_9_0, hq327_9_1, hq327_9_2, hq327_9_3, hq327_9_4⟩ | ⟨rfl, hq327_10_0, hq327_10_1, hq327_10_2, hq327_10_3, hq327_10_4⟩ | ⟨rfl, hq327_11_0, hq327_11_1, hq327_11_2, hq327_11_3, hq327_11_4⟩ | ⟨rfl, hq327_12_0, hq327_12_1, hq327_12_2, hq327_12_3, hq327_12_4, hq327_12_5⟩ | ⟨rfl, hq327_13_0, hq327_13_1, hq327_13_2, hq327_13_3, hq327_13_4, hq327_13_5⟩
                · exact absurd hq327_0_0 (by intro hz; have := own_i0; have := own_i1; have := own_i2; have := own_j2147483647; have := own_i3; have := own_i5; simp only [Int32.lt_iff_toInt_lt, ← Int32.toInt_inj] at hz hq314_13_0 hq314_13_2 hq314_13_1 hq314_13_3; omega)
                · exact absurd hq327_1_0 (by intro hz; have := own_i0; have := own_i1; have := own_i2; have := own_j2147483647; have := own_i3; have := own_i5; simp only [Int32.lt_iff_toInt_lt, ← Int32.toInt_inj] at hz hq314_13_0 hq314_13_2 hq314_13_1 hq314_13_3; omega)
                · exact absurd hq327_2_1 (by intro hz; have := own_i0; have := own_i1; have := own_i2; have := own_j2147483647; have := own_i3; have := own_i5; simp only [Int32.lt_iff_toInt_lt, ← Int32.toInt_inj] at hz hq327_2_0 hq314_13_2 hq314_13_1 hq314_13_3; omega)
                · exact absurd hq327_3_1 (by intro hz; have := own_i0; have := own_i1; have := own_i2; have := own_j2147483647; have := own_i3; have := own_i5; simp only [Int32.lt_iff_toInt_lt, ← Int32.toInt_inj] at hz hq327_3_0 hq314_13_2 hq314_13_1 hq314_13_3; omega)
                · exact absurd hq327_4_2 (by intro hz; have := own_i0; have := own_i1; have := own_i2; have := own_j2147483647; have := own_i3; have := own_i5; simp only [Int32.lt_iff_toInt_lt, ← Int32.toInt_inj] at hz hq327_4_0 hq314_13_2 hq327_4_1 hq314_13_3; omega)
                · exact absurd hq327_5_2 (by intro hz; have := own_i0; have := own_i1; have := own_i2; have := own_j2147483647; have := own_i3; have := own_i5; simp only [Int32.lt_iff_toInt_lt, ← Int32.toInt_inj] at hz hq327_5_0 hq314_13_2 hq327_5_1 hq314_13_3; omega)
                · exact absurd hq327_6_2 (by intro hz; have := own_i0; have := own_i1; have := own_i2; have := own_j2147483647; have := own_i3; have := own_i5; simp only [Int32.lt_iff_toInt_lt, ← Int32.toInt_inj] at hz hq327_6_0 hq314_13_2 hq327_6_1 hq314_13_3; omega)
                · exact absurd hq327_7_2 (by intro hz; have := own_i0; have := own_i1; have := own_i2; have := own_j2147483647; have := own_i3; have := own_i5; simp only [Int32.lt_iff_toInt_lt, ← Int32.toInt_inj] at hz hq327_7_0 hq314_13_2 hq327_7_1 hq314_13_3; omega)
                · exact absurd hq327_8_2 (by intro hz; have := own_i0; have := own_i1; have := own_i2; have := own_j2147483647; have := own_i3; have := own_i5; simp only [Int32.lt_iff_toInt_lt, ← Int32.toInt_inj] at hz hq327_8_0 hq314_13_2 hq327_8_1 hq314_13_3; omega)
                · exact absurd hq327_9_3 (by intro hz; have := own_i0; have := own_i1; have := own_i2; have := own_j2147483647; have := own_i3; have := own_i5; simp only [Int32.lt_iff_toInt_lt, ← Int32.toInt_inj] at hz hq327_9_0 hq327_9_2 hq327_9_1 hq314_13_3; omega)
                · exact absurd hq327_10_3 (by intro hz; have := own_i0; have := own_i1; have := own_i2; have := own_j2147483647; have := own_i3; have := own_i5; simp only [Int32.lt_iff_toInt_lt, ← Int32.toInt_inj] at hz hq327_10_0 hq327_10_2 hq327_10_1 hq314_13_3; omega)
                · have pre329 : ∀ t, own_S p e below m T327 106 #[lvI p0_, lvI p1_, lvI p2_, lvI ((p0_ &&& (2147483647 : Int32)) % (5 : Int32)), lvR w_KEYNOTIFY, lvI ((p2_ &&& (7 : Int32)) - (1 : Int32))] [(.int (1 : Int32))] t → G t := by
                    intro t kt
                    refine pre253 t ?_
                    show own_S p e below m s₁ 47 #[lvI p0_, lvI p1_, lvI p2_, lvI ((p0_ &&& (2147483647 : Int32)) % (5 : Int32)), .unset, .unset] [(.int (3 : Int32)), (.int ((p0_ &&& (2147483647 : Int32)) % (5 : Int32)))] _
                    refine XS.icmpYes X0.here hx rfl (pc0 := 47) (pc' := 58) rfl (hb hby at_47) rfl (feq hc254).2 (by decide) (by decide) ?_
                    show own_S p e below m s₁ 58 #[lvI p0_, lvI p1_, lvI p2_, lvI ((p0_ &&& (2147483647 : Int32)) % (5 : Int32)), .unset, .unset] [] _
                    refine st310 _ ?_
                    refine XS.astore X310.here hx rfl (hb hby at_61) rfl rfl (l' := #[lvI p0_, lvI p1_, lvI p2_, lvI ((p0_ &&& (2147483647 : Int32)) % (5 : Int32)), lvR w_KEYNOTIFY, .unset]) rfl ?_
                    refine XS.iloadN X310.here hx rfl (hb hby at_63) rfl ?_
                    refine XS.bipush X310.here hx rfl (hb hby at_64) ?_
                    refine XS.iand X310.here hx rfl (hb hby at_66) rfl ?_
                    refine XS.iconst X310.here hx rfl (hb hby at_67) ?_
                    show own_S p e below m T310 68 #[lvI p0_, lvI p1_, lvI p2_, lvI ((p0_ &&& (2147483647 : Int32)) % (5 : Int32)), lvR w_KEYNOTIFY, .unset] [(.int (1 : Int32)), (.int (p2_ &&& (7 : Int32)))] _
                    refine XS.isub X310.here hx rfl (hb hby at_68) rfl ?_
                    refine XS.istore X310.here hx rfl (hb hby at_69) rfl (l' := #[lvI p0_, lvI p1_, lvI p2_, lvI ((p0_ &&& (2147483647 : Int32)) % (5 : Int32)), lvR w_KEYNOTIFY, lvI ((p2_ &&& (7 : Int32)) - (1 : Int32))]) rfl ?_
                    refine XS.aload X310.here hx rfl (hb hby at_71) rfl rfl ?_
                    refine XS.iloadN X310.here hx rfl (hb hby at_73) rfl ?_
                    show own_S p e below m T310 74 #[lvI p0_, lvI p1_, lvI p2_, lvI ((p0_ &&& (2147483647 : Int32)) % (5 : Int32)), lvR w_KEYNOTIFY, lvI ((p2_ &&& (7 : Int32)) - (1 : Int32))] [(.int p1_), (.ref w_KEYNOTIFY)] _
                    refine st311.trans ?_
                    refine XS.iloadN X311.here hx rfl (hb hby at_77) rfl ?_
                    refine XS.iloadN X311.here hx rfl (hb hby at_78) rfl ?_
                    show own_S p e below m T311 79 #[lvI p0_, lvI p1_, lvI p2_, lvI ((p0_ &&& (2147483647 : Int32)) % (5 : Int32)), lvR w_KEYNOTIFY, lvI ((p2_ &&& (7 : Int32)) - (1 : Int32))] [(.int p1_), (.int ((p0_ &&& (2147483647 : Int32)) % (5 : Int32))), (.int (0 : Int32))] _
                    refine st314 _ ?_
                    show own_S p e below m T314 82 #[lvI p0_, lvI p1_, lvI p2_, lvI ((p0_ &&& (2147483647 : Int32)) % (5 : Int32)), lvR w_KEYNOTIFY, lvI ((p2_ &&& (7 : Int32)) - (1 : Int32))] [(.int (0 : Int32)), (.int (0 : Int32))] _
                    refine XS.icmpNo X314.here hx rfl (hb hby at_82) rfl (teq (by decide : (0 : Int32) = (0 : Int32))).2 ?_
                    refine XS.aload X314.here hx rfl (hb hby at_85) rfl rfl ?_
                    refine XS.iload X314.here hx rfl (hb hby at_87) rfl ?_
                    show own_S p e below m T314 89 #[lvI p0_, lvI p1_, lvI p2_, lvI ((p0_ &&& (2147483647 : Int32)) % (5 : Int32)), lvR w_KEYNOTIFY, lvI ((p2_ &&& (7 : Int32)) - (1 : Int32))] [(.int ((p2_ &&& (7 : Int32)) - (1 : Int32))), (.ref w_KEYNOTIFY)] _
                    refine st316.trans ?_
                    refine XS.iloadN X316.here hx rfl (hb hby at_92) rfl ?_
                    refine XS.iload X316.here hx rfl (hb hby at_93) rfl ?_
                    show own_S p e below m T316 95 #[lvI p0_, lvI p1_, lvI p2_, lvI ((p0_ &&& (2147483647 : Int32)) % (5 : Int32)), lvR w_KEYNOTIFY, lvI ((p2_ &&& (7 : Int32)) - (1 : Int32))] [(.int ((p2_ &&& (7 : Int32)) - (1 : Int32))), (.int ((p0_ &&& (2147483647 : Int32)) % (5 : Int32))), (.int (1 : Int32))] _
                    refine st327 _ ?_
                    show own_S p e below m T327 98 #[lvI p0_, lvI p1_, lvI p2_, lvI ((p0_ &&& (2147483647 : Int32)) % (5 : Int32)), lvR w_KEYNOTIFY, lvI ((p2_ &&& (7 : Int32)) - (1 : Int32))] [(.int (1 : Int32)), (.int (1 : Int32))] _
                    refine XS.icmpNo X327.here hx rfl (hb hby at_98) rfl (teq (by decide : (1 : Int32) = (1 : Int32))).2 ?_
                    refine XS.iconst X327.here hx rfl (hb hby at_101) ?_
                    refine XS.goto X327.here hx rfl (pc0 := 102) (pc' := 106) rfl (hb hby at_102) (by decide) (by decide) ?_
                    exact kt
                  obtain ⟨fs, hr, hrun, hended, hW, hsame⟩ := X327.leave (v := some (.int (1 : Int32))) (fun h => by rw [Bd.returns] at h; cases h)
                  refine ⟨_, _, hG _ (pre329 _ (retN X327 hx (t := .boolean) Bd.returns (by simp) (hb hby at_106) hr)), hrun, hended, _, _, rfl, ?_, ⟨_, rfl⟩, hW, hsame.mono (by decide) (by decide)⟩
                  show QLaw Z p0_ p1_ p2_ w_GET w_SET w_DEL w_VDEL w_KEYNOTIFY h0 n0 _ T327.heap _
                  rw [e327']
                  exact ⟨rfl, N328⟩
                · have pre331 : ∀ t, own_S p e below m T327 106 #[lvI p0_, lvI p1_, lvI p2_, lvI ((p0_ &&& (2147483647 : Int32)) % (5 : Int32)), lvR w_KEYNOTIFY, lvI ((p2_ &&& (7 : Int32)) - (1 : Int32))] [(.int (1 : Int32))] t → G t := by
                    intro t kt
                    refine pre253 t ?_
                    show own_S p e below m s₁ 47 #[lvI p0_, lvI p1_, lvI p2_, lvI ((p0_ &&& (2147483647 : Int32)) % (5 : Int32)), .unset, .unset] [(.int (3 : Int32)), (.int ((p0_ &&& (2147483647 : Int32)) % (5 : Int32)))] _
                    refine XS.icmpYes X0.here hx rfl (pc0 := 47) (pc' := 58) rfl (hb hby at_47) rfl (feq hc254).2 (by decide) (by decide) ?_
                    show own_S p e below m s₁ 58 #[lvI p0_, lvI p1_, lvI p2_, lvI ((p0_ &&& (2147483647 : Int32)) % (5 : Int32)), .unset, .unset] [] _
                    refine st310 _ ?_
                    refine XS.astore X310.here hx rfl (hb hby at_61) rfl rfl (l' := #[lvI p0_, lvI p1_, lvI p2_, lvI ((p0_ &&& (2147483647 : Int32)) % (5 : Int32)), lvR w_KEYNOTIFY, .unset]) rfl ?_
                    refine XS.iloadN X310.here hx rfl (hb hby at_63) rfl ?_
                    refine XS.bipush X310.here hx rfl (hb hby at_64) ?_
                    refine XS.iand X310.here hx rfl (hb hby at_66) rfl ?_
                    refine XS.iconst X310.here hx rfl (hb hby at_67) ?_
                    show own_S p e below m T310 68 #[lvI p0_, lvI p1_, lvI p2_, lvI ((p0_ &&& (2147483647 : Int32)) % (5 : Int32)), lvR w_KEYNOTIFY, .unset] [(.int (1 : Int32)), (.int (p2_ &&& (7 : Int32)))] _
                    refine XS.isub X310.here hx rfl (hb hby at_68) rfl ?_
                    refine XS.istore X310.here hx rfl (hb hby at_69) rfl (l' := #[lvI p0_, lvI p1_, lvI p2_, lvI ((p0_ &&& (2147483647 : Int32)) % (5 : Int32)), lvR w_KEYNOTIFY, lvI ((p2_ &&& (7 : Int32)) - (1 : Int32))]) rfl ?_
                    refine XS.aload X310.here hx rfl (hb hby at_71) rfl rfl ?_
                    refine XS.iloadN X310.here hx rfl (hb hby at_73) rfl ?_
                    show own_S p e below m T310 74 #[lvI p0_, lvI p1_, lvI p2_, lvI ((p0_ &&& (2147483647 : Int32)) % (5 : Int32)), lvR w_KEYNOTIFY, lvI ((p2_ &&& (7 : Int32)) - (1 : Int32))] [(.int p1_), (.ref w_KEYNOTIFY)] _
                    refine st311.trans ?_
                    refine XS.iloadN X311.here hx rfl (hb hby at_77) rfl ?_
                    refine XS.iloadN X311.here hx rfl (hb hby at_78) rfl ?_
                    show own_S p e below m T311 79 #[lvI p0_, lvI p1_, lvI p2_, lvI ((p0_ &&& (2147483647 : Int32)) % (5 : Int32)), lvR w_KEYNOTIFY, lvI ((p2_ &&& (7 : Int32)) - (1 : Int32))] [(.int p1_), (.int ((p0_ &&& (2147483647 : Int32)) % (5 : Int32))), (.int (0 : Int32))] _
                    refine st314 _ ?_
                    show own_S p e below m T314 82 #[lvI p0_, lvI p1_, lvI p2_, lvI ((p0_ &&& (2147483647 : Int32)) % (5 : Int32)), lvR w_KEYNOTIFY, lvI ((p2_ &&& (7 : Int32)) - (1 : Int32))] [(.int (0 : Int32)), (.int (0 : Int32))] _
                    refine XS.icmpNo X314.here hx rfl (hb hby at_82) rfl (teq (by decide : (0 : Int32) = (0 : Int32))).2 ?_
                    refine XS.aload X314.here hx rfl (hb hby at_85) rfl rfl ?_
                    refine XS.iload X314.here hx rfl (hb hby at_87) rfl ?_
                    show own_S p e below m T314 89 #[lvI p0_, lvI p1_, lvI p2_, lvI ((p0_ &&& (2147483647 : Int32)) % (5 : Int32)), lvR w_KEYNOTIFY, lvI ((p2_ &&& (7 : Int32)) - (1 : Int32))] [(.int ((p2_ &&& (7 : Int32)) - (1 : Int32))), (.ref w_KEYNOTIFY)] _
                    refine st316.trans ?_
                    refine XS.iloadN X316.here hx rfl (hb hby at_92) rfl ?_
                    refine XS.iload X316.here hx rfl (hb hby at_93) rfl ?_
                    show own_S p e below m T316 95 #[lvI p0_, lvI p1_, lvI p2_, lvI ((p0_ &&& (2147483647 : Int32)) % (5 : Int32)), lvR w_KEYNOTIFY, lvI ((p2_ &&& (7 : Int32)) - (1 : Int32))] [(.int ((p2_ &&& (7 : Int32)) - (1 : Int32))), (.int ((p0_ &&& (2147483647 : Int32)) % (5 : Int32))), (.int (1 : Int32))] _
                    refine st327 _ ?_
                    show own_S p e below m T327 98 #[lvI p0_, lvI p1_, lvI p2_, lvI ((p0_ &&& (2147483647 : Int32)) % (5 : Int32)), lvR w_KEYNOTIFY, lvI ((p2_ &&& (7 : Int32)) - (1 : Int32))] [(.int (1 : Int32)), (.int (1 : Int32))] _
                    refine XS.icmpNo X327.here hx rfl (hb hby at_98) rfl (teq (by decide : (1 : Int32) = (1 : Int32))).2 ?_
                    refine XS.iconst X327.here hx rfl (hb hby at_101) ?_
                    refine XS.goto X327.here hx rfl (pc0 := 102) (pc' := 106) rfl (hb hby at_102) (by decide) (by decide) ?_
                    exact kt
                  obtain ⟨fs, hr, hrun, hended, hW, hsame⟩ := X327.leave (v := some (.int (1 : Int32))) (fun h => by rw [Bd.returns] at h; cases h)
                  refine ⟨_, _, hG _ (pre331 _ (retN X327 hx (t := .boolean) Bd.returns (by simp) (hb hby at_106) hr)), hrun, hended, _, _, rfl, ?_, ⟨_, rfl⟩, hW, hsame.mono (by decide) (by decide)⟩
                  show QLaw Z p0_ p1_ p2_ w_GET w_SET w_DEL w_VDEL w_KEYNOTIFY h0 n0 _ T327.heap _
                  rw [e327']
                  exact ⟨rfl, N328⟩
                · exact absurd (by apply Decidable.by_contra; intro hz; have := own_i1; have := own_i2; have := own_i7; simp only [Int32.lt_iff_toInt_lt, ← Int32.toInt_inj] at hz hq316_2_0 hq316_2_1 hq327_13_4; omega) hq327_13_5
          · obtain ⟨_, _, ⟨T333, L333, k333, n333⟩, -, X333, ⟨Lc333, hQ333, l333, y333, z333⟩, st333⟩ := Jvm.LawKit.callS X311 hx (y := (⟨"com/example/fawley/fawley/protocol/CommandTakesPinLaw", "expected", "(II)Z"⟩ : MethodName)) hown (mvT hZ (own_w hw 13 rfl)) (mvT hZ (own_w hw 14 rfl)) (mvT hZ (own_w hw 15 rfl)) (mvT hZ (own_w hw 16 rfl)) (by decide) (backOf (W := 1) (rmExp l Z a0 hw [] ((p0_ &&& (2147483647 : Int32)) % (5 : Int32)) p1_ h0 n0 O0 ) hZ (own_w hw 16 rfl) (own_w hw 15 rfl) (by decide) (by decide)) (g := (mkF m 79 #[lvI p0_, lvI p1_, lvI p2_, lvI ((p0_ &&& (2147483647 : Int32)) % (5 : Int32)), lvR w_KEYNOTIFY, lvI ((p2_ &&& (7 : Int32)) - (1 : Int32))] [(.int p1_), (.int ((p0_ &&& (2147483647 : Int32)) % (5 : Int32))), (.int (0 : Int32))])) rfl (by rw [hml]; rfl) (argsL := [(.int ((p0_ &&& (2147483647 : Int32)) % (5 : Int32))), (.int p1_)]) (rest := [(.int (0 : Int32))]) (lenOf pd_1 rfl) rfl (by show 2 * 0 + _ ≤ _; exact Nat.le_of_eq rfl) (hb hby at_79) (fun _ _ => ⟨rfl, e311', (by decide : 0 + 0 ≤ _), (by decide : 0 + 0 ≤ _)⟩)
            dsimp only [Pt.U, Pt.locs, Pt.cells, Pt.slots] at X333 l333 y333 z333 st333 hQ333
            subst l333 y333 z333
            obtain ⟨h333, e333⟩ : ∃ z, T333.heap = z := ⟨_, rfl⟩
            rw [e333] at hQ333
            obtain ⟨rr333, rfl, hs333, N333q, hh333⟩ := hQ333
            have N334 := Fr.app N313 N333q
            have e333' : T333.heap = h0 := e333.trans hh333
            rcases hs333 with ⟨rfl, hq333_0_0, hq333_0_1⟩ | ⟨rfl, hq333_1_0, hq333_1_1⟩ | ⟨rfl, hq333_2_0, hq333_2_1, hq333_2_2⟩ | ⟨rfl, hq333_3_0, hq333_3_1, hq333_3_2⟩ | ⟨rfl, hq333_4_0, hq333_4_1, hq333_4_2, hq333_4_3⟩ | ⟨rfl, hq333_5_0, hq333_5_1, hq333_5_2, hq333_5_3, hq333_5_4⟩ | ⟨rfl, hq333_6_0, hq333_6_1, hq333_6_2, hq333_6_3, hq333_6_4, hq333_6_5⟩ | ⟨rfl, hq333_7_0, hq333_7_1, hq333_7_2, hq333_7_3, hq333_7_4, hq333_7_5, hq333_7_6⟩ | ⟨rfl, hq333_8_0, hq333_8_1, hq333_8_2, hq333_8_3, hq333_8_4, hq333_8_5, hq333_8_6⟩ | ⟨rfl, hq333_9_0, hq333_9_1, hq333_9_2, hq333_9_3, hq333_9_4⟩ | ⟨rfl, hq333_10_0, hq333_10_1, hq333_10_2, hq333_10_3, hq333_10_4⟩ | ⟨rfl, hq333_11_0, hq333_11_1, hq333_11_2, hq333_11_3, hq333_11_4⟩ | ⟨rfl, hq333_12_0, hq333_12_1, hq333_12_2, hq333_12_3, hq333_12_4, hq333_12_5⟩ | ⟨rfl, hq333_13_0, hq333_13_1, hq333_13_2, hq333_13_3, hq333_13_4, hq333_13_5⟩
            · exact absurd hq333_0_0 (by intro hz; have := own_i0; have := own_i1; have := own_i2; have := own_j2147483647; have := own_i3; have := own_i5; simp only [Int32.lt_iff_toInt_lt, ← Int32.toInt_inj] at hz hc2 hc59 hc197 hc254; omega)
            · exact absurd hq333_1_0 (by intro hz; have := own_i0; have := own_i1; have := own_i2; have := own_j2147483647; have := own_i3; have := own_i5; simp only [Int32.lt_iff_toInt_lt, ← Int32.toInt_inj] at hz hc2 hc59 hc197 hc254; omega)
            · exact absurd hq333_2_1 (by intro hz; have := own_i0; have := own_i1; have := own_i2; have := own_j2147483647; have := own_i3; have := own_i5; simp only [Int32.lt_iff_toInt_lt, ← Int32.toInt_inj] at hz hq333_2_0 hc59 hc197 hc254; omega)
            · exact absurd hq333_3_1 (by intro hz; have := own_i0; have := own_i1; have := own_i2; have := own_j2147483647; have := own_i3; have := own_i5; simp only [Int32.lt_iff_toInt_lt, ← Int32.toInt_inj] at hz hq333_3_0 hc59 hc197 hc254; omega)
            · exact absurd hq333_4_2 (by intro hz; have := own_i0; have := own_i1; have := own_i2; have := own_j2147483647; have := own_i3; have := own_i5; simp only [Int32.lt_iff_toInt_lt, ← Int32.toInt_inj] at hz hq333_4_0 hc59 hq333_4_1 hc254; omega)
            · exact absurd hq333_5_2 (by intro hz; have := own_i0; have := own_i1; have := own_i2; have := own_j2147483647; have := own_i3; have := own_i5; simp only [Int32.lt_iff_toInt_lt, ← Int32.toInt_inj] at hz hq333_5_0 hc59 hq333_5_1 hc254; omega)
            · exact absurd hq333_6_2 (by intro hz; have := own_i0; have := own_i1; have := own_i2; have := own_j2147483647; have := own_i3; have := own_i5; simp only [Int32.lt_iff_toInt_lt, ← Int32.toInt_inj] at hz hq333_6_0 hc59 hq333_6_1 hc254; omega)
            · exact absurd hq333_7_2 (by intro hz; have := own_i0; have := own_i1; have := own_i2; have := own_j2147483647; have := own_i3; have := own_i5; simp only [Int32.lt_iff_toInt_lt, ← Int32.toInt_inj] at hz hq333_7_0 hc59 hq333_7_1 hc254; omega)
            · exact absurd hq333_8_2 (by intro hz; have := own_i0; have := own_i1; have := own_i2; have := own_j2147483647; have := own_i3; have := own_i5; simp only [Int32.lt_iff_toInt_lt, ← Int32.toInt_inj] at hz hq333_8_0 hc59 hq333_8_1 hc254; omega)
            · exact absurd hq333_9_3 (by intro hz; have := own_i0; have := own_i1; have := own_i2; have := own_j2147483647; have := own_i3; have := own_i5; simp only [Int32.lt_iff_toInt_lt, ← Int32.toInt_inj] at hz hq333_9_0 hq333_9_2 hq333_9_1 hc254; omega)
            · exact absurd hq333_10_3 (by intro hz; have := own_i0; have := own_i1; have := own_i2; have := own_j2147483647; have := own_i3; have := own_i5; simp only [Int32.lt_iff_toInt_lt, ← Int32.toInt_inj] at hz hq333_10_0 hq333_10_2 hq333_10_1 hc254; omega)
            · exact absurd hq333_11_4 (by intro hz; have := own_i1; have := own_i2; simp only [Int32.lt_iff_toInt_lt, ← Int32.toInt_inj] at hz hq311_1_0 hq311_1_1; omega)
            · exact absurd hq333_12_5 (by intro hz; have := own_i1; have := own_i2; simp only [Int32.lt_iff_toInt_lt, ← Int32.toInt_inj] at hz hq311_1_0 hq311_1_1 hq333_12_4; omega)
            · have f336 : Exa Z h0 w_KEYNOTIFY cn0 := P17.ext O0.2
              obtain ⟨cq335, kq335, q335a, q335b, q335c⟩ := isOf hZ e333' f336
              obtain ⟨_, _, ⟨T335, L335, k335, n335⟩, -, X335, ⟨Lc335, hQ335, l335, y335, z335⟩, st335⟩ := X333.virtualBack hx (y := (⟨"com/example/fawley/fawley/protocol/Command", "takes", "(I)Z"⟩ : MethodName)) (z := (⟨"com/example/fawley/fawley/protocol/Command", "takes", "(I)Z"⟩ : MethodName)) hown (mvT hZ (own_w hw 4 rfl)) (mvT hZ (own_w hw 5 rfl)) (notFace_of_selects (args := #[]) (mvT hZ (own_w hw 7 rfl))) (mvT hZ (own_w hw 7 rfl)) (mvT hZ (own_w hw 6 rfl)) (by decide) (backOf (W := 0) (rmTak l Z a0 hw [] w_KEYNOTIFY ((p2_ &&& (7 : Int32)) - (1 : Int32)) (1 : Int32) (2 : Int32) h0 n0 O0 P18 P19) hZ (own_w hw 8 rfl) (own_w hw 2 rfl) (by decide) (by decide)) q335a q335c (g := (mkF m 89 #[lvI p0_, lvI p1_, lvI p2_, lvI ((p0_ &&& (2147483647 : Int32)) % (5 : Int32)), lvR w_KEYNOTIFY, lvI ((p2_ &&& (7 : Int32)) - (1 : Int32))] [(.int ((p2_ &&& (7 : Int32)) - (1 : Int32))), (.ref w_KEYNOTIFY)])) rfl (by rw [hml]; rfl) (Steps.refl _) (argsL := [(.int ((p2_ &&& (7 : Int32)) - (1 : Int32)))]) (rest := []) (lenOf pd_0 rfl) rfl (by show 2 * 0 + _ ≤ _; exact Nat.le_of_eq rfl) (hb hby at_89) (fun _ _ => ⟨rfl, e333', (by decide : 0 + 0 ≤ _), (by decide : 0 + 0 ≤ _)⟩)
              dsimp only [Pt.U, Pt.locs, Pt.cells, Pt.slots] at X335 l335 y335 z335 st335 hQ335
              subst l335 y335 z335
              obtain ⟨h335, e335⟩ : ∃ z, T335.heap = z := ⟨_, rfl⟩
              rw [e335] at hQ335
              obtain ⟨rr335, rfl, hs335, N335q, hh335⟩ := hQ335
              have N337 := Fr.app N334 N335q
              have e335' : T335.heap = h0 := e335.trans hh335
              rcases hs335 with ⟨rfl, hq335_0_0⟩ | ⟨rfl, hq335_1_0, hq335_1_1⟩ | ⟨rfl, hq335_2_0, hq335_2_1⟩
              · obtain ⟨_, _, ⟨T338, L338, k338, n338⟩, -, X338, ⟨Lc338, hQ338, l338, y338, z338⟩, st338⟩ := Jvm.LawKit.callS X335 hx (y := (⟨"com/example/fawley/fawley/protocol/CommandTakesPinLaw", "expected", "(II)Z"⟩ : MethodName)) hown (mvT hZ (own_w hw 13 rfl)) (mvT hZ (own_w hw 14 rfl)) (mvT hZ (own_w hw 15 rfl)) (mvT hZ (own_w hw 16 rfl)) (by decide) (backOf (W := 1) (rmExp l Z a0 hw [] ((p0_ &&& (2147483647 : Int32)) % (5 : Int32)) ((p2_ &&& (7 : Int32)) - (1 : Int32)) h0 n0 O0 ) hZ (own_w hw 16 rfl) (own_w hw 15 rfl) (by decide) (by decide)) (g := (mkF m 95 #[lvI p0_, lvI p1_, lvI p2_, lvI ((p0_ &&& (2147483647 : Int32)) % (5 : Int32)), lvR w_KEYNOTIFY, lvI ((p2_ &&& (7 : Int32)) - (1 : Int32))] [(.int ((p2_ &&& (7 : Int32)) - (1 : Int32))), (.int ((p0_ &&& (2147483647 : Int32)) % (5 : Int32))), (.int (0 : Int32))])) rfl (by rw [hml]; rfl) (argsL := [(.int ((p0_ &&& (2147483647 : Int32)) % (5 : Int32))), (.int ((p2_ &&& (7 : Int32)) - (1 : Int32)))]) (rest := [(.int (0 : Int32))]) (lenOf pd_1 rfl) rfl (by show 2 * 0 + _ ≤ _; exact Nat.le_of_eq rfl) (hb hby at_95) (fun _ _ => ⟨rfl, e335', (by decide : 0 + 0 ≤ _), (by decide : 0 + 0 ≤ _)⟩)
                dsimp only [Pt.U, Pt.locs, Pt.cells, Pt.slots] at X338 l338 y338 z338 st338 hQ338
                subst l338 y338 z338
                obtain ⟨h338, e338⟩ : ∃ z, T338.heap = z := ⟨_, rfl⟩
                rw [e338] at hQ338
                obtain ⟨rr338, rfl, hs338, N338q, hh338⟩ := hQ338
                have N339 := Fr.app N337 N338q
                have e338' : T338.heap = h0 := e338.trans hh338
                rcases hs338 with ⟨rfl, hq338_0_0, hq338_0_1⟩ | ⟨rfl, hq338_1_0, hq338_1_1⟩ | ⟨rfl, hq338_2_0, hq338_2_1, hq338_2_2⟩ | ⟨rfl, hq338_3_0, hq338_3_1, hq338_3_2⟩ | ⟨rfl, hq338_4_0, hq338_4_1, hq338_4_2, hq338_4_3⟩ | ⟨rfl, hq338_5_0, hq338_5_1, hq338_5_2, hq338_5_3, hq338_5_4⟩ | ⟨rfl, hq338_6_0, hq338_6_1, hq338_6_2, hq338_6_3, hq338_6_4, hq338_6_5⟩ | ⟨rfl, hq338_7_0, hq338_7_1, hq338_7_2, hq338_7_3, hq338_7_4, hq338_7_5, hq338_7_6⟩ | ⟨rfl, hq338_8_0, hq338_8_1, hq338_8_2, hq338_8_3, hq338_8_4, hq338_8_5, hq338_8_6⟩ | ⟨rfl, hq338_9_0, hq338_9_1, hq338_9_2, hq338_9_3, hq338_9_4⟩ | ⟨rfl, hq338_10_0, hq338_10_1, hq338_10_2, hq338_10_3, hq338_10_4⟩ | ⟨rfl, hq338_11_0, hq338_11_1, hq338_11_2, hq338_11_3, hq338_11_4⟩ | ⟨rfl, hq338_12_0, hq338_12_1, hq338_12_2, hq338_12_3, hq338_12_4, hq338_12_5⟩ | ⟨rfl, hq338_13_0, hq338_13_1, hq338_13_2, hq338_13_3, hq338_13_4, hq338_13_5⟩
                · exact absurd hq338_0_0 (by intro hz; have := own_i0; have := own_i1; have := own_i2; have := own_j2147483647; have := own_i3; have := own_i5; simp only [Int32.lt_iff_toInt_lt, ← Int32.toInt_inj] at hz hq333_13_0 hq333_13_2 hq333_13_1 hq333_13_3; omega)
                · exact absurd hq338_1_0 (by intro hz; have := own_i0; have := own_i1; have := own_i2; have := own_j2147483647; have := own_i3; have := own_i5; simp only [Int32.lt_iff_toInt_lt, ← Int32.toInt_inj] at hz hq333_13_0 hq333_13_2 hq333_13_1 hq333_13_3; omega)
                · exact absurd hq338_2_1 (by intro hz; have := own_i0; have := own_i1; have := own_i2; have := own_j2147483647; have := own_i3; have := own_i5; simp only [Int32.lt_iff_toInt_lt, ← Int32.toInt_inj] at hz hq338_2_0 hq333_13_2 hq333_13_1 hq333_13_3; omega)
                · exact absurd hq338_3_1 (by intro hz; have := own_i0; have := own_i1; have := own_i2; have := own_j2147483647; have := own_i3; have := own_i5; simp only [Int32.lt_iff_toInt_lt, ← Int32.toInt_inj] at hz hq338_3_0 hq333_13_2 hq333_13_1 hq333_13_3; omega)
                · exact absurd hq338_4_2 (by intro hz; have := own_i0; have := own_i1; have := own_i2; have := own_j2147483647; have := own_i3; have := own_i5; simp only [Int32.lt_iff_toInt_lt, ← Int32.toInt_inj] at hz hq338_4_0 hq333_13_2 hq338_4_1 hq333_13_3; omega)
                · exact absurd hq338_5_2 (by intro hz; have := own_i0; have := own_i1; have := own_i2; have := own_j2147483647; have := own_i3; have := own_i5; simp only [Int32.lt_iff_toInt_lt, ← Int32.toInt_inj] at hz hq338_5_0 hq333_13_2 hq338_5_1 hq333_13_3; omega)
                · exact absurd hq338_6_2 (by intro hz; have := own_i0; have := own_i1; have := own_i2; have := own_j2147483647; have := own_i3; have := own_i5; simp only [Int32.lt_iff_toInt_lt, ← Int32.toInt_inj] at hz hq338_6_0 hq333_13_2 hq338_6_1 hq333_13_3; omega)
                · exact absurd hq338_7_2 (by intro hz; have := own_i0; have := own_i1; have := own_i2; have := own_j2147483647; have := own_i3; have := own_i5; simp only [Int32.lt_iff_toInt_lt, ← Int32.toInt_inj] at hz hq338_7_0 hq333_13_2 hq338_7_1 hq333_13_3; omega)
                · exact absurd hq338_8_2 (by intro hz; have := own_i0; have := own_i1; have := own_i2; have := own_j2147483647; have := own_i3; have := own_i5; simp only [Int32.lt_iff_toInt_lt, ← Int32.toInt_inj] at hz hq338_8_0 hq333_13_2 hq338_8_1 hq333_13_3; omega)
                · exact absurd hq338_9_3 (by intro hz; have := own_i0; have := own_i1; have := own_i2; have := own_j2147483647; have := own_i3; have := own_i5; simp only [Int32.lt_iff_toInt_lt, ← Int32.toInt_inj] at hz hq338_9_0 hq338_9_2 hq338_9_1 hq333_13_3; omega)
                · exact absurd hq338_10_3 (by intro hz; have := own_i0; have := own_i1; have := own_i2; have := own_j2147483647; have := own_i3; have := own_i5; simp only [Int32.lt_iff_toInt_lt, ← Int32.toInt_inj] at hz hq338_10_0 hq338_10_2 hq338_10_1 hq333_13_3; omega)
                · exact absurd hq338_11_4 (by intro hz; have := own_i1; have := own_i7; simp only [Int32.lt_iff_toInt_lt, ← Int32.toInt_inj] at hz hq335_0_0; omega)
                · exact absurd hq338_12_5 (by intro hz; have := own_i1; have := own_i2; have := own_i7; simp only [Int32.lt_iff_toInt_lt, ← Int32.toInt_inj] at hz hq335_0_0 hq338_12_4; omega)
                · have pre340 : ∀ t, own_S p e below m T338 106 #[lvI p0_, lvI p1_, lvI p2_, lvI ((p0_ &&& (2147483647 : Int32)) % (5 : Int32)), lvR w_KEYNOTIFY, lvI ((p2_ &&& (7 : Int32)) - (1 : Int32))] [(.int (1 : Int32))] t → G t := by
                    intro t kt
                    refine pre253 t ?_
                    show own_S p e below m s₁ 47 #[lvI p0_, lvI p1_, lvI p2_, lvI ((p0_ &&& (2147483647 : Int32)) % (5 : Int32)), .unset, .unset] [(.int (3 : Int32)), (.int ((p0_ &&& (2147483647 : Int32)) % (5 : Int32)))] _
                    refine XS.icmpYes X0.here hx rfl (pc0 := 47) (pc' := 58) rfl (hb hby at_47) rfl (feq hc254).2 (by decide) (by decide) ?_
                    show own_S p e below m s₁ 58 #[lvI p0_, lvI p1_, lvI p2_, lvI ((p0_ &&& (2147483647 : Int32)) % (5 : Int32)), .unset, .unset] [] _
                    refine st310 _ ?_
                    refine XS.astore X310.here hx rfl (hb hby at_61) rfl rfl (l' := #[lvI p0_, lvI p1_, lvI p2_, lvI ((p0_ &&& (2147483647 : Int32)) % (5 : Int32)), lvR w_KEYNOTIFY, .unset]) rfl ?_
                    refine XS.iloadN X310.here hx rfl (hb hby at_63) rfl ?_
                    refine XS.bipush X310.here hx rfl (hb hby at_64) ?_
                    refine XS.iand X310.here hx rfl (hb hby at_66) rfl ?_
                    refine XS.iconst X310.here hx rfl (hb hby at_67) ?_
                    show own_S p e below m T310 68 #[lvI p0_, lvI p1_, lvI p2_, lvI ((p0_ &&& (2147483647 : Int32)) % (5 : Int32)), lvR w_KEYNOTIFY, .unset] [(.int (1 : Int32)), (.int (p2_ &&& (7 : Int32)))] _
                    refine XS.isub X310.here hx rfl (hb hby at_68) rfl ?_
                    refine XS.istore X310.here hx rfl (hb hby at_69) rfl (l' := #[lvI p0_, lvI p1_, lvI p2_, lvI ((p0_ &&& (2147483647 : Int32)) % (5 : Int32)), lvR w_KEYNOTIFY, lvI ((p2_ &&& (7 : Int32)) - (1 : Int32))]) rfl ?_
                    refine XS.aload X310.here hx rfl (hb hby at_71) rfl rfl ?_
                    refine XS.iloadN X310.here hx rfl (hb hby at_73) rfl ?_
                    show own_S p e below m T310 74 #[lvI p0_, lvI p1_, lvI p2_, lvI ((p0_ &&& (2147483647 : Int32)) % (5 : Int32)), lvR w_KEYNOTIFY, lvI ((p2_ &&& (7 : Int32)) - (1 : Int32))] [(.int p1_), (.ref w_KEYNOTIFY)] _
                    refine st311.trans ?_
                    refine XS.iloadN X311.here hx rfl (hb hby at_77) rfl ?_
                    refine XS.iloadN X311.here hx rfl (hb hby at_78) rfl ?_
                    show own_S p e below m T311 79 #[lvI p0_, lvI p1_, lvI p2_, lvI ((p0_ &&& (2147483647 : Int32)) % (5 : Int32)), lvR w_KEYNOTIFY, lvI ((p2_ &&& (7 : Int32)) - (1 : Int32))] [(.int p1_), (.int ((p0_ &&& (2147483647 : Int32)) % (5 : Int32))), (.int (0 : Int32))] _
                    refine st333 _ ?_
                    show own_S p e below m T333 82 #[lvI p0_, lvI p1_, lvI p2_, lvI ((p0_ &&& (2147483647 : Int32)) % (5 : Int32)), lvR w_KEYNOTIFY, lvI ((p2_ &&& (7 : Int32)) - (1 : Int32))] [(.int (0 : Int32)), (.int (0 : Int32))] _
                    refine XS.icmpNo X333.here hx rfl (hb hby at_82) rfl (teq (by decide : (0 : Int32) = (0 : Int32))).2 ?_
                    refine XS.aload X333.here hx rfl (hb hby at_85) rfl rfl ?_
                    refine XS.iload X333.here hx rfl (hb hby at_87) rfl ?_
                    show own_S p e below m T333 89 #[lvI p0_, lvI p1_, lvI p2_, lvI ((p0_ &&& (2147483647 : Int32)) % (5 : Int32)), lvR w_KEYNOTIFY, lvI ((p2_ &&& (7 : Int32)) - (1 : Int32))] [(.int ((p2_ &&& (7 : Int32)) - (1 : Int32))), (.ref w_KEYNOTIFY)] _
                    refine st335.trans ?_
                    refine XS.iloadN X335.here hx rfl (hb hby at_92) rfl ?_
                    refine XS.iload X335.here hx rfl (hb hby at_93) rfl ?_
                    show own_S p e below m T335 95 #[lvI p0_, lvI p1_, lvI p2_, lvI ((p0_ &&& (2147483647 : Int32)) % (5 : Int32)), lvR w_KEYNOTIFY, lvI ((p2_ &&& (7 : Int32)) - (1 : Int32))] [(.int ((p2_ &&& (7 : Int32)) - (1 : Int32))), (.int ((p0_ &&& (2147483647 : Int32)) % (5 : Int32))), (.int (0 : Int32))] _
                    refine st338 _ ?_
                    show own_S p e below m T338 98 #[lvI p0_, lvI p1_, lvI p2_, lvI ((p0_ &&& (2147483647 : Int32)) % (5 : Int32)), lvR w_KEYNOTIFY, lvI ((p2_ &&& (7 : Int32)) - (1 : Int32))] [(.int (0 : Int32)), (.int (0 : Int32))] _
                    refine XS.icmpNo X338.here hx rfl (hb hby at_98) rfl (teq (by decide : (0 : Int32) = (0 : Int32))).2 ?_
                    refine XS.iconst X338.here hx rfl (hb hby at_101) ?_
                    refine XS.goto X338.here hx rfl (pc0 := 102) (pc' := 106) rfl (hb hby at_102) (by decide) (by decide) ?_
                    exact kt
                  obtain ⟨fs, hr, hrun, hended, hW, hsame⟩ := X338.leave (v := some (.int (1 : Int32))) (fun h => by rw [Bd.returns] at h; cases h)
                  refine ⟨_, _, hG _ (pre340 _ (retN X338 hx (t := .boolean) Bd.returns (by simp) (hb hby at_106) hr)), hrun, hended, _, _, rfl, ?_, ⟨_, rfl⟩, hW, hsame.mono (by decide) (by decide)⟩
                  show QLaw Z p0_ p1_ p2_ w_GET w_SET w_DEL w_VDEL w_KEYNOTIFY h0 n0 _ T338.heap _
                  rw [e338']
                  exact ⟨rfl, N339⟩
              · obtain ⟨_, _, ⟨T342, L342, k342, n342⟩, -, X342, ⟨Lc342, hQ342, l342, y342, z342⟩, st342⟩ := Jvm.LawKit.callS X335 hx (y := (⟨"com/example/fawley/fawley/protocol/CommandTakesPinLaw", "expected", "(II)Z"⟩ : MethodName)) hown (mvT hZ (own_w hw 13 rfl)) (mvT hZ (own_w hw 14 rfl)) (mvT hZ (own_w hw 15 rfl)) (mvT hZ (own_w hw 16 rfl)) (by decide) (backOf (W := 1) (rmExp l Z a0 hw [] ((p0_ &&& (2147483647 : Int32)) % (5 : Int32)) ((p2_ &&& (7 : Int32)) - (1 : Int32)) h0 n0 O0 ) hZ (own_w hw 16 rfl) (own_w hw 15 rfl) (by decide) (by decide)) (g := (mkF m 95 #[lvI p0_, lvI p1_, lvI p2_, lvI ((p0_ &&& (2147483647 : Int32)) % (5 : Int32)), lvR w_KEYNOTIFY, lvI ((p2_ &&& (7 : Int32)) - (1 : Int32))] [(.int ((p2_ &&& (7 : Int32)) - (1 : Int32))), (.int ((p0_ &&& (2147483647 : Int32)) % (5 : Int32))), (.int (0 : Int32))])) rfl (by rw [hml]; rfl) (argsL := [(.int ((p0_ &&& (2147483647 : Int32)) % (5 : Int32))), (.int ((p2_ &&& (7 : Int32)) - (1 : Int32)))]) (rest := [(.int (0 : Int32))]) (lenOf pd_1 rfl) rfl (by show 2 * 0 + _ ≤ _; exact Nat.le_of_eq rfl) (hb hby at_95) (fun _ _ => ⟨rfl, e335', (by decide : 0 + 0 ≤ _), (by decide : 0 + 0 ≤ _)⟩)
                dsimp only [Pt.U, Pt.locs, Pt.cells, Pt.slots] at X342 l342 y342 z342 st342 hQ342
                subst l342 y342 z342
                obtain ⟨h342, e342⟩ : ∃ z, T342.heap = z := ⟨_, rfl⟩
                rw [e342] at hQ342
                obtain ⟨rr342, rfl, hs342, N342q, hh342⟩ := hQ342
                have N343 := Fr.app N337 N342q
                have e342' : T342.heap = h0 := e342.trans hh342
                rcases hs342 with ⟨rfl, hq342_0_0, hq342_0_1⟩ | ⟨rfl, hq342_1_0, hq342_1_1⟩ | ⟨rfl, hq342_2_0, hq342_2_1, hq342_2_2⟩ | ⟨rfl, hq342_3_0, hq342_3_1, hq342_3_2⟩ | ⟨rfl, hq342_4_0, hq342_4_1, hq342_4_2, hq342_4_3⟩ | ⟨rfl, hq342_5_0, hq342_5_1, hq342_5_2, hq342_5_3, hq342_5_4⟩ | ⟨rfl, hq342_6_0, hq342_6_1, hq342_6_2, hq342_6_3, hq342_6_4, hq342_6_5⟩ | ⟨rfl, hq342_7_0, hq342_7_1, hq342_7_2, hq342_7_3, hq342_7_4, hq342_7_5, hq342_7_6⟩ | ⟨rfl, hq342_8_0, hq342_8_1, hq342_8_2, hq342_8_3, hq342_8_4, hq342_8_5, hq342_8_6⟩ | ⟨rfl, hq342_9_0, hq342_9_1, hq342_9_2, hq342_9_3, hq342_9_4⟩ | ⟨rfl, hq342_10_0, hq342_10_1, hq342_10_2, hq342_10_3, hq342_10_4⟩ | ⟨rfl, hq342_11_0, hq342_11_1, hq342_11_2, hq342_11_3, hq342_11_4⟩ | ⟨rfl, hq342_12_0, hq342_12_1, hq342_12_2, hq342_12_3, hq342_12_4, hq342_12_5⟩ | ⟨rfl, hq342_13_0, hq342_13_1, hq342_13_2, hq342_13_3, hq342_13_4, hq342_13_5⟩
                · exact absurd hq342_0_0 (by intro hz; have := own_i0; have := own_i1; have := own_i2; have := own_j2147483647; have := own_i3; have := own_i5; simp only [Int32.lt_iff_toInt_lt, ← Int32.toInt_inj] at hz hq333_13_0 hq333_13_2 hq333_13_1 hq333_13_3; omega)
                · exact absurd hq342_1_0 (by intro hz; have := own_i0; have := own_i1; have := own_i2; have := own_j2147483647; have := own_i3; have := own_i5; simp only [Int32.lt_iff_toInt_lt, ← Int32.toInt_inj] at hz hq333_13_0 hq333_13_2 hq333_13_1 hq333_13_3; omega)
                · exact absurd hq342_2_1 (by intro hz; have := own_i0; have := own_i1; have := own_i2; have := own_j2147483647; have := own_i3; have := own_i5; simp only [Int32.lt_iff_toInt_lt, ← Int32.toInt_inj] at hz hq342_2_0 hq333_13_2 hq333_13_1 hq333_13_3; omega)
                · exact absurd hq342_3_1 (by intro hz; have := own_i0; have := own_i1; have := own_i2; have := own_j2147483647; have := own_i3; have := own_i5; simp only [Int32.lt_iff_toInt_lt, ← Int32.toInt_inj] at hz hq342_3_0 hq333_13_2 hq333_13_1 hq333_13_3; omega)
                · exact absurd hq342_4_2 (by intro hz; have := own_i0; have := own_i1; have := own_i2; have := own_j2147483647; have := own_i3; have := own_i5; simp only [Int32.lt_iff_toInt_lt, ← Int32.toInt_inj] at hz hq342_4_0 hq333_13_2 hq342_4_1 hq333_13_3; omega)
                · exact absurd hq342_5_2 (by intro hz; have := own_i0; have := own_i1; have := own_i2; have := own_j2147483647; have := own_i3; have := own_i5; simp only [Int32.lt_iff_toInt_lt, ← Int32.toInt_inj] at hz hq342_5_0 hq333_13_2 hq342_5_1 hq333_13_3; omega)
                · exact absurd hq342_6_2 (by intro hz; have := own_i0; have := own_i1; have := own_i2; have := own_j2147483647; have := own_i3; have := own_i5; simp only [Int32.lt_iff_toInt_lt, ← Int32.toInt_inj] at hz hq342_6_0 hq333_13_2 hq342_6_1 hq333_13_3; omega)
                · exact absurd hq342_7_2 (by intro hz; have := own_i0; have := own_i1; have := own_i2; have := own_j2147483647; have := own_i3; have := own_i5; simp only [Int32.lt_iff_toInt_lt, ← Int32.toInt_inj] at hz hq342_7_0 hq333_13_2 hq342_7_1 hq333_13_3; omega)
                · exact absurd hq342_8_2 (by intro hz; have := own_i0; have := own_i1; have := own_i2; have := own_j2147483647; have := own_i3; have := own_i5; simp only [Int32.lt_iff_toInt_lt, ← Int32.toInt_inj] at hz hq342_8_0 hq333_13_2 hq342_8_1 hq333_13_3; omega)
                · exact absurd hq342_9_3 (by intro hz; have := own_i0; have := own_i1; have := own_i2; have := own_j2147483647; have := own_i3; have := own_i5; simp only [Int32.lt_iff_toInt_lt, ← Int32.toInt_inj] at hz hq342_9_0 hq342_9_2 hq342_9_1 hq333_13_3; omega)
                · exact absurd hq342_10_3 (by intro hz; have := own_i0; have := own_i1; have := own_i2; have := own_j2147483647; have := own_i3; have := own_i5; simp only [Int32.lt_iff_toInt_lt, ← Int32.toInt_inj] at hz hq342_10_0 hq342_10_2 hq342_10_1 hq333_13_3; omega)
                · exact absurd hq342_11_4 (by intro hz; have := own_i1; have := own_i2; have := own_i7; simp only [Int32.lt_iff_toInt_lt, ← Int32.toInt_inj] at hz hq335_1_0 hq335_1_1; omega)
                · exact absurd hq342_12_5 (by intro hz; have := own_i1; have := own_i2; have := own_i7; simp only [Int32.lt_iff_toInt_lt, ← Int32.toInt_inj] at hz hq335_1_0 hq335_1_1 hq342_12_4; omega)
                · have pre344 : ∀ t, own_S p e below m T342 106 #[lvI p0_, lvI p1_, lvI p2_, lvI ((p0_ &&& (2147483647 : Int32)) % (5 : Int32)), lvR w_KEYNOTIFY, lvI ((p2_ &&& (7 : Int32)) - (1 : Int32))] [(.int (1 : Int32))] t → G t := by
                    intro t kt
                    refine pre253 t ?_
                    show own_S p e below m s₁ 47 #[lvI p0_, lvI p1_, lvI p2_, lvI ((p0_ &&& (2147483647 : Int32)) % (5 : Int32)), .unset, .unset] [(.int (3 : Int32)), (.int ((p0_ &&& (2147483647 : Int32)) % (5 : Int32)))] _
                    refine XS.icmpYes X0.here hx rfl (pc0 := 47) (pc' := 58) rfl (hb hby at_47) rfl (feq hc254).2 (by decide) (by decide) ?_
                    show own_S p e below m s₁ 58 #[lvI p0_, lvI p1_, lvI p2_, lvI ((p0_ &&& (2147483647 : Int32)) % (5 : Int32)), .unset, .unset] [] _
                    refine st310 _ ?_
                    refine XS.astore X310.here hx rfl (hb hby at_61) rfl rfl (l' := #[lvI p0_, lvI p1_, lvI p2_, lvI ((p0_ &&& (2147483647 : Int32)) % (5 : Int32)), lvR w_KEYNOTIFY, .unset]) rfl ?_
                    refine XS.iloadN X310.here hx rfl (hb hby at_63) rfl ?_
                    refine XS.bipush X310.here hx rfl (hb hby at_64) ?_
                    refine XS.iand X310.here hx rfl (hb hby at_66) rfl ?_
                    refine XS.iconst X310.here hx rfl (hb hby at_67) ?_
                    show own_S p e below m T310 68 #[lvI p0_, lvI p1_, lvI p2_, lvI ((p0_ &&& (2147483647 : Int32)) % (5 : Int32)), lvR w_KEYNOTIFY, .unset] [(.int (1 : Int32)), (.int (p2_ &&& (7 : Int32)))] _
                    refine XS.isub X310.here hx rfl (hb hby at_68) rfl ?_
                    refine XS.istore X310.here hx rfl (hb hby at_69) rfl (l' := #[lvI p0_, lvI p1_, lvI p2_, lvI ((p0_ &&& (2147483647 : Int32)) % (5 : Int32)), lvR w_KEYNOTIFY, lvI ((p2_ &&& (7 : Int32)) - (1 : Int32))]) rfl ?_
                    refine XS.aload X310.here hx rfl (hb hby at_71) rfl rfl ?_
                    refine XS.iloadN X310.here hx rfl (hb hby at_73) rfl ?_
                    show own_S p e below m T310 74 #[lvI p0_, lvI p1_, lvI p2_, lvI ((p0_ &&& (2147483647 : Int32)) % (5 : Int32)), lvR w_KEYNOTIFY, lvI ((p2_ &&& (7 : Int32)) - (1 : Int32))] [(.int p1_), (.ref w_KEYNOTIFY)] _
                    refine st311.trans ?_
                    refine XS.iloadN X311.here hx rfl (hb hby at_77) rfl ?_
                    refine XS.iloadN X311.here hx rfl (hb hby at_78) rfl ?_
                    show own_S p e below m T311 79 #[lvI p0_, lvI p1_, lvI p2_, lvI ((p0_ &&& (2147483647 : Int32)) % (5 : Int32)), lvR w_KEYNOTIFY, lvI ((p2_ &&& (7 : Int32)) - (1 : Int32))] [(.int p1_), (.int ((p0_ &&& (2147483647 : Int32)) % (5 : Int32))), (.int (0 : Int32))] _
                    refine st333 _ ?_
                    show own_S p e below m T333 82 #[lvI p0_, lvI p1_, lvI p2_, lvI ((p0_ &&& (2147483647 : Int32)) % (5 : Int32)), lvR w_KEYNOTIFY, lvI ((p2_ &&& (7 : Int32)) - (1 : Int32))] [(.int (0 : Int32)), (.int (0 : Int32))] _
                    refine XS.icmpNo X333.here hx rfl (hb hby at_82) rfl (teq (by decide : (0 : Int32) = (0 : Int32))).2 ?_
                    refine XS.aload X333.here hx rfl (hb hby at_85) rfl rfl ?_
                    refine XS.iload X333.here hx rfl (hb hby at_87) rfl ?_
                    show own_S p e below m T333 89 #[lvI p0_, lvI p1_, lvI p2_, lvI ((p0_ &&& (2147483647 : Int32)) % (5 : Int32)), lvR w_KEYNOTIFY, lvI ((p2_ &&& (7 : Int32)) - (1 : Int32))] [(.int ((p2_ &&& (7 : Int32)) - (1 : Int32))), (.ref w_KEYNOTIFY)] _
                    refine st335.trans ?_
                    refine XS.iloadN X335.here hx rfl (hb hby at_92) rfl ?_
                    refine XS.iload X335.here hx rfl (hb hby at_93) rfl ?_
                    show own_S p e below m T335 95 #[lvI p0_, lvI p1_, lvI p2_, lvI ((p0_ &&& (2147483647 : Int32)) % (5 : Int32)), lvR w_KEYNOTIFY, lvI ((p2_ &&& (7 : Int32)) - (1 : Int32))] [(.int ((p2_ &&& (7 : Int32)) - (1 : Int32))), (.int ((p0_ &&& (2147483647 : Int32)) % (5 : Int32))), (.int (0 : Int32))] _
                    refine st342 _ ?_
                    show own_S p e below m T342 98 #[lvI p0_, lvI p1_, lvI p2_, lvI ((p0_ &&& (2147483647 : Int32)) % (5 : Int32)), lvR w_KEYNOTIFY, lvI ((p2_ &&& (7 : Int32)) - (1 : Int32))] [(.int (0 : Int32)), (.int (0 : Int32))] _
                    refine XS.icmpNo X342.here hx rfl (hb hby at_98) rfl (teq (by decide : (0 : Int32) = (0 : Int32))).2 ?_
                    refine XS.iconst X342.here hx rfl (hb hby at_101) ?_
                    refine XS.goto X342.here hx rfl (pc0 := 102) (pc' := 106) rfl (hb hby at_102) (by decide) (by decide) ?_
                    exact kt
                  obtain ⟨fs, hr, hrun, hended, hW, hsame⟩ := X342.leave (v := some (.int (1 : Int32))) (fun h => by rw [Bd.returns] at h; cases h)
                  refine ⟨_, _, hG _ (pre344 _ (retN X342 hx (t := .boolean) Bd.returns (by simp) (hb hby at_106) hr)), hrun, hended, _, _, rfl, ?_, ⟨_, rfl⟩, hW, hsame.mono (by decide) (by decide)⟩
                  show QLaw Z p0_ p1_ p2_ w_GET w_SET w_DEL w_VDEL w_KEYNOTIFY h0 n0 _ T342.heap _
                  rw [e342']
                  exact ⟨rfl, N343⟩
              · obtain ⟨_, _, ⟨T346, L346, k346, n346⟩, -, X346, ⟨Lc346, hQ346, l346, y346, z346⟩, st346⟩ := Jvm.LawKit.callS X335 hx (y := (⟨"com/example/fawley/fawley/protocol/CommandTakesPinLaw", "expected", "(II)Z"⟩ : MethodName)) hown (mvT hZ (own_w hw 13 rfl)) (mvT hZ (own_w hw 14 rfl)) (mvT hZ (own_w hw 15 rfl)) (mvT hZ (own_w hw 16 rfl)) (by decide) (backOf (W := 1) (rmExp l Z a0 hw [] ((p0_ &&& (2147483647 : Int32)) % (5 : Int32)) ((p2_ &&& (7 : Int32)) - (1 : Int32)) h0 n0 O0 ) hZ (own_w hw 16 rfl) (own_w hw 15 rfl) (by decide) (by decide)) (g := (mkF m 95 #[lvI p0_, lvI p1_, lvI p2_, lvI ((p0_ &&& (2147483647 : Int32)) % (5 : Int32)), lvR w_KEYNOTIFY, lvI ((p2_ &&& (7 : Int32)) - (1 : Int32))] [(.int ((p2_ &&& (7 : Int32)) - (1 : Int32))), (.int ((p0_ &&& (2147483647 : Int32)) % (5 : Int32))), (.int (1 : Int32))])) rfl (by rw [hml]; rfl) (argsL := [(.int ((p0_ &&& (2147483647 : Int32)) % (5 : Int32))), (.int ((p2_ &&& (7 : Int32)) - (1 : Int32)))]) (rest := [(.int (1 : Int32))]) (lenOf pd_1 rfl) rfl (by show 2 * 0 + _ ≤ _; exact Nat.le_of_eq rfl) (hb hby at_95) (fun _ _ => ⟨rfl, e335', (by decide : 0 + 0 ≤ _), (by decide : 0 + 0 ≤ _)⟩)
                dsimp only [Pt.U, Pt.locs, Pt.cells, Pt.slots] at X346 l346 y346 z346 st346 hQ346
                subst l346 y346 z346
                obtain ⟨h346, e346⟩ : ∃ z, T346.heap = z := ⟨_, rfl⟩
                rw [e346] at hQ346
                obtain ⟨rr346, rfl, hs346, N346q, hh346⟩ := hQ346
                have N347 := Fr.app N337 N346q
                have e346' : T346.heap = h0 := e346.trans hh346
                rcases hs346 with ⟨rfl, hq346_0_0, hq346_0_1⟩ | ⟨rfl, hq346_1_0, hq346_1_1⟩ | ⟨rfl, hq346_2_0, hq346_2_1, hq346_2_2⟩ | ⟨rfl, hq346_3_0, hq346_3_1, hq346_3_2⟩ | ⟨rfl, hq346_4_0, hq346_4_1, hq346_4_2, hq346_4_3⟩ | ⟨rfl, hq346_5_0, hq346_5_1, hq346_5_2, hq346_5_3, hq346_5_4⟩ | ⟨rfl, hq346_6_0, hq346_6_1, hq346_6_2, hq346_6_3, hq346_6_4, hq346_6_5⟩ | ⟨rfl, hq346_7_0, hq346_7_1, hq346_7_2, hq346_7_3, hq346_7_4, hq346_7_5, hq346_7_6⟩ | ⟨rfl, hq346_8_0, hq346_8_1, hq346_8_2, hq346_8_3, hq346_8_4, hq346_8_5, hq346_8_6⟩ | ⟨rfl, hq346_9_0, hq346_9_1, hq346_9_2, hq346_9_3, hq346_9_4⟩ | ⟨rfl, hq346_10_0, hq346_10_1, hq346_10_2, hq346_10_3, hq346_10_4⟩ | ⟨rfl, hq346_11_0, hq346_11_1, hq346_11_2, hq346_11_3, hq346_11_4⟩ | ⟨rfl, hq346_12_0, hq346_12_1, hq346_12_2, hq346_12_3, hq346_12_4, hq346_12_5⟩ | ⟨rfl, hq346_13_0, hq346_13_1, hq346_13_2, hq346_13_3, hq346_13_4, hq346_13_5⟩
                · exact absurd hq346_0_0 (by intro hz; have := own_i0; have := own_i1; have := own_i2; have := own_j2147483647; have := own_i3; have := own_i5; simp only [Int32.lt_iff_toInt_lt, ← Int32.toInt_inj] at hz hq333_13_0 hq333_13_2 hq333_13_1 hq333_13_3; omega)
                · exact absurd hq346_1_0 (by intro hz; have := own_i0; have := own_i1; have := own_i2; have := own_j2147483647; have := own_i3; have := own_i5; simp only [Int32.lt_iff_toInt_lt, ← Int32.toInt_inj] at hz hq333_13_0 hq333_13_2 hq333_13_1 hq333_13_3; omega)
                · exact absurd hq346_2_1 (by intro hz; have := own_i0; have := own_i1; have := own_i2; have := own_j2147483647; have := own_i3; have := own_i5; simp only [Int32.lt_iff_toInt_lt, ← Int32.toInt_inj] at hz hq346_2_0 hq333_13_2 hq333_13_1 hq333_13_3; omega)
                · exact absurd hq346_3_1 (by intro hz; have := own_i0; have := own_i1; have := own_i2; have := own_j2147483647; have := own_i3; have := own_i5; simp only [Int32.lt_iff_toInt_lt, ← Int32.toInt_inj] at hz hq346_3_0 hq333_13_2 hq333_13_1 hq333_13_3; omega)
                · exact absurd hq346_4_2 (by intro hz; have := own_i0; have := own_i1; have := own_i2; have := own_j2147483647; have := own_i3; have := own_i5; simp only [Int32.lt_iff_toInt_lt, ← Int32.toInt_inj] at hz hq346_4_0 hq333_13_2 hq346_4_1 hq333_13_3; omega)
                · exact absurd hq346_5_2 (by intro hz; have := own_i0; have := own_i1; have := own_i2; have := own_j2147483647; have := own_i3; have := own_i5; simp only [Int32.lt_iff_toInt_lt, ← Int32.toInt_inj] at hz hq346_5_0 hq333_13_2 hq346_5_1 hq333_13_3; omega)
                · exact absurd hq346_6_2 (by intro hz; have := own_i0; have := own_i1; have := own_i2; have := own_j2147483647; have := own_i3; have := own_i5; simp only [Int32.lt_iff_toInt_lt, ← Int32.toInt_inj] at hz hq346_6_0 hq333_13_2 hq346_6_1 hq333_13_3; omega)
                · exact absurd hq346_7_2 (by intro hz; have := own_i0; have := own_i1; have := own_i2; have := own_j2147483647; have := own_i3; have := own_i5; simp only [Int32.lt_iff_toInt_lt, ← Int32.toInt_inj] at hz hq346_7_0 hq333_13_2 hq346_7_1 hq333_13_3; omega)
                · exact absurd hq346_8_2 (by intro hz; have := own_i0; have := own_i1; have := own_i2; have := own_j2147483647; have := own_i3; have := own_i5; simp only [Int32.lt_iff_toInt_lt, ← Int32.toInt_inj] at hz hq346_8_0 hq333_13_2 hq346_8_1 hq333_13_3; omega)
                · exact absurd hq346_9_3 (by intro hz; have := own_i0; have := own_i1; have := own_i2; have := own_j2147483647; have := own_i3; have := own_i5; simp only [Int32.lt_iff_toInt_lt, ← Int32.toInt_inj] at hz hq346_9_0 hq346_9_2 hq346_9_1 hq333_13_3; omega)
                · exact absurd hq346_10_3 (by intro hz; have := own_i0; have := own_i1; have := own_i2; have := own_j2147483647; have := own_i3; have := own_i5; simp only [Int32.lt_iff_toInt_lt, ← Int32.toInt_inj] at hz hq346_10_0 hq346_10_2 hq346_10_1 hq333_13_3; omega)
                · have pre348 : ∀ t, own_S p e below m T346 106 #[lvI p0_, lvI p1_, lvI p2_, lvI ((p0_ &&& (2147483647 : Int32)) % (5 : Int32)), lvR w_KEYNOTIFY, lvI ((p2_ &&& (7 : Int32)) - (1 : Int32))] [(.int (1 : Int32))] t → G t := by
                    intro t kt
                    refine pre253 t ?_
                    show own_S p e below m s₁ 47 #[lvI p0_, lvI p1_, lvI p2_, lvI ((p0_ &&& (2147483647 : Int32)) % (5 : Int32)), .unset, .unset] [(.int (3 : Int32)), (.int ((p0_ &&& (2147483647 : Int32)) % (5 : Int32)))] _
                    refine XS.icmpYes X0.here hx rfl (pc0 := 47) (pc' := 58) rfl (hb hby at_47) rfl (feq hc254).2 (by decide) (by decide) ?_
                    show own_S p e below m s₁ 58 #[lvI p0_, lvI p1_, lvI p2_, lvI ((p0_ &&& (2147483647 : Int32)) % (5 : Int32)), .unset, .unset] [] _
                    refine st310 _ ?_
                    refine XS.astore X310.here hx rfl (hb hby at_61) rfl rfl (l' := #[lvI p0_, lvI p1_, lvI p2_, lvI ((p0_ &&& (2147483647 : Int32)) % (5 : Int32)), lvR w_KEYNOTIFY, .unset]) rfl ?_
                    refine XS.iloadN X310.here hx rfl (hb hby at_63) rfl ?_
                    refine XS.bipush X310.here hx rfl (hb hby at_64) ?_
                    refine XS.iand X310.here hx rfl (hb hby at_66) rfl ?_
                    refine XS.iconst X310.here hx rfl (hb hby at_67) ?_
                    show own_S p e below m T310 68 #[lvI p0_, lvI p1_, lvI p2_, lvI ((p0_ &&& (2147483647 : Int32)) % (5 : Int32)), lvR w_KEYNOTIFY, .unset] [(.int (1 : Int32)), (.int (p2_ &&& (7 : Int32)))] _
                    refine XS.isub X310.here hx rfl (hb hby at_68) rfl ?_
                    refine XS.istore X310.here hx rfl (hb hby at_69) rfl (l' := #[lvI p0_, lvI p1_, lvI p2_, lvI ((p0_ &&& (2147483647 : Int32)) % (5 : Int32)), lvR w_KEYNOTIFY, lvI ((p2_ &&& (7 : Int32)) - (1 : Int32))]) rfl ?_
                    refine XS.aload X310.here hx rfl (hb hby at_71) rfl rfl ?_
                    refine XS.iloadN X310.here hx rfl (hb hby at_73) rfl ?_
                    show own_S p e below m T310 74 #[lvI p0_, lvI p1_, lvI p2_, lvI ((p0_ &&& (2147483647 : Int32)) % (5 : Int32)), lvR w_KEYNOTIFY, lvI ((p2_ &&& (7 : Int32)) - (1 : Int32))] [(.int p1_), (.ref w_KEYNOTIFY)] _
                    refine st311.trans ?_
                    refine XS.iloadN X311.here hx rfl (hb hby at_77) rfl ?_
                    refine XS.iloadN X311.here hx rfl (hb hby at_78) rfl ?_
                    show own_S p e below m T311 79 #[lvI p0_, lvI p1_, lvI p2_, lvI ((p0_ &&& (2147483647 : Int32)) % (5 : Int32)), lvR w_KEYNOTIFY, lvI ((p2_ &&& (7 : Int32)) - (1 : Int32))] [(.int p1_), (.int ((p0_ &&& (2147483647 : Int32)) % (5 : Int32))), (.int (0 : Int32))] _
                    refine st333 _ ?_
                    show own_S p e below m T333 82 #[lvI p0_, lvI p1_, lvI p2_, lvI ((p0_ &&& (2147483647 : Int32)) % (5 : Int32)), lvR w_KEYNOTIFY, lvI ((p2_ &&& (7 : Int32)) - (1 : Int32))] [(.int (0 : Int32)), (.int (0 : Int32))] _
                    refine XS.icmpNo X333.here hx rfl (hb hby at_82) rfl (teq (by decide : (0 : Int32) = (0 : Int32))).2 ?_
                    refine XS.aload X333.here hx rfl (hb hby at_85) rfl rfl ?_
                    refine XS.iload X333.here hx rfl (hb hby at_87) rfl ?_
                    show own_S p e below m T333 89 #[lvI p0_, lvI p1_, lvI p2_, lvI ((p0_ &&& (2147483647 : Int32)) % (5 : Int32)), lvR w_KEYNOTIFY, lvI ((p2_ &&& (7 : Int32)) - (1 : Int32))] [(.int ((p2_ &&& (7 : Int32)) - (1 : Int32))), (.ref w_KEYNOTIFY)] _
                    refine st335.trans ?_
                    refine XS.iloadN X335.here hx rfl (hb hby at_92) rfl ?_
                    refine XS.iload X335.here hx rfl (hb hby at_93) rfl ?_
                    show own_S p e below m T335 95 #[lvI p0_, lvI p1_, lvI p2_, lvI ((p0_ &&& (2147483647 : Int32)) % (5 : Int32)), lvR w_KEYNOTIFY, lvI ((p2_ &&& (7 : Int32)) - (1 : Int32))] [(.int ((p2_ &&& (7 : Int32)) - (1 : Int32))), (.int ((p0_ &&& (2147483647 : Int32)) % (5 : Int32))), (.int (1 : Int32))] _
                    refine st346 _ ?_
                    show own_S p e below m T346 98 #[lvI p0_, lvI p1_, lvI p2_, lvI ((p0_ &&& (2147483647 : Int32)) % (5 : Int32)), lvR w_KEYNOTIFY, lvI ((p2_ &&& (7 : Int32)) - (1 : Int32))] [(.int (1 : Int32)), (.int (1 : Int32))] _
                    refine XS.icmpNo X346.here hx rfl (hb hby at_98) rfl (teq (by decide : (1 : Int32) = (1 : Int32))).2 ?_
                    refine XS.iconst X346.here hx rfl (hb hby at_101) ?_
                    refine XS.goto X346.here hx rfl (pc0 := 102) (pc' := 106) rfl (hb hby at_102) (by decide) (by decide) ?_
                    exact kt
                  obtain ⟨fs, hr, hrun, hended, hW, hsame⟩ := X346.leave (v := some (.int (1 : Int32))) (fun h => by rw [Bd.returns] at h; cases h)
                  refine ⟨_, _, hG _ (pre348 _ (retN X346 hx (t := .boolean) Bd.returns (by simp) (hb hby at_106) hr)), hrun, hended, _, _, rfl, ?_, ⟨_, rfl⟩, hW, hsame.mono (by decide) (by decide)⟩
                  show QLaw Z p0_ p1_ p2_ w_GET w_SET w_DEL w_VDEL w_KEYNOTIFY h0 n0 _ T346.heap _
                  rw [e346']
                  exact ⟨rfl, N347⟩
                · have pre350 : ∀ t, own_S p e below m T346 106 #[lvI p0_, lvI p1_, lvI p2_, lvI ((p0_ &&& (2147483647 : Int32)) % (5 : Int32)), lvR w_KEYNOTIFY, lvI ((p2_ &&& (7 : Int32)) - (1 : Int32))] [(.int (1 : Int32))] t → G t := by
                    intro t kt
                    refine pre253 t ?_
                    show own_S p e below m s₁ 47 #[lvI p0_, lvI p1_, lvI p2_, lvI ((p0_ &&& (2147483647 : Int32)) % (5 : Int32)), .unset, .unset] [(.int (3 : Int32)), (.int ((p0_ &&& (2147483647 : Int32)) % (5 : Int32)))] _
                    refine XS.icmpYes X0.here hx rfl (pc0 := 47) (pc' := 58) rfl (hb hby at_47) rfl (feq hc254).2 (by decide) (by decide) ?_
                    show own_S p e below m s₁ 58 #[lvI p0_, lvI p1_, lvI p2_, lvI ((p0_ &&& (2147483647 : Int32)) % (5 : Int32)), .unset, .unset] [] _
                    refine st310 _ ?_
                    refine XS.astore X310.here hx rfl (hb hby at_61) rfl rfl (l' := #[lvI p0_, lvI p1_, lvI p2_, lvI ((p0_ &&& (2147483647 : Int32)) % (5 : Int32)), lvR w_KEYNOTIFY, .unset]) rfl ?_
                    refine XS.iloadN X310.here hx rfl (hb hby at_63) rfl ?_
                    refine XS.bipush X310.here hx rfl (hb hby at_64) ?_
                    refine XS.iand X310.here hx rfl (hb hby at_66) rfl ?_
                    refine XS.iconst X310.here hx rfl (hb hby at_67) ?_
                    show own_S p e below m T310 68 #[lvI p0_, lvI p1_, lvI p2_, lvI ((p0_ &&& (2147483647 : Int32)) % (5 : Int32)), lvR w_KEYNOTIFY, .unset] [(.int (1 : Int32)), (.int (p2_ &&& (7 : Int32)))] _
                    refine XS.isub X310.here hx rfl (hb hby at_68) rfl ?_
                    refine XS.istore X310.here hx rfl (hb hby at_69) rfl (l' := #[lvI p0_, lvI p1_, lvI p2_, lvI ((p0_ &&& (2147483647 : Int32)) % (5 : Int32)), lvR w_KEYNOTIFY, lvI ((p2_ &&& (7 : Int32)) - (1 : Int32))]) rfl ?_
                    refine XS.aload X310.here hx rfl (hb hby at_71) rfl rfl ?_
                    refine XS.iloadN X310.here hx rfl (hb hby at_73) rfl ?_
                    show own_S p e below m T310 74 #[lvI p0_, lvI p1_, lvI p2_, lvI ((p0_ &&& (2147483647 : Int32)) % (5 : Int32)), lvR w_KEYNOTIFY, lvI ((p2_ &&& (7 : Int32)) - (1 : Int32))] [(.int p1_), (.ref w_KEYNOTIFY)] _
                    refine st311.trans ?_
                    refine XS.iloadN X311.here hx rfl (hb hby at_77) rfl ?_
                    refine XS.iloadN X311.here hx rfl (hb hby at_78) rfl ?_
                    show own_S p e below m T311 79 #[lvI p0_, lvI p1_, lvI p2_, lvI ((p0_ &&& (2147483647 : Int32)) % (5 : Int32)), lvR w_KEYNOTIFY, lvI ((p2_ &&& (7 : Int32)) - (1 : Int32))] [(.int p1_), (.int ((p0_ &&& (2147483647 : Int32)) % (5 : Int32))), (.int (0 : Int32))] _
                    refine st333 _ ?_
                    show own_S p e below m T333 82 #[lvI p0_, lvI p1_, lvI p2_, lvI ((p0_ &&& (2147483647 : Int32)) % (5 : Int32)), lvR w_KEYNOTIFY, lvI ((p2_ &&& (7 : Int32)) - (1 : Int32))] [(.int (0 : Int32)), (.int (0 : Int32))] _
                    refine XS.icmpNo X333.here hx rfl (hb hby at_82) rfl (teq (by decide : (0 : Int32) = (0 : Int32))).2 ?_
                    refine XS.aload X333.here hx rfl (hb hby at_85) rfl rfl ?_
                    refine XS.iload X333.here hx rfl (hb hby at_87) rfl ?_
                    show own_S p e below m T333 89 #[lvI p0_, lvI p1_, lvI p2_, lvI ((p0_ &&& (2147483647 : Int32)) % (5 : Int32)), lvR w_KEYNOTIFY, lvI ((p2_ &&& (7 : Int32)) - (1 : Int32))] [(.int ((p2_ &&& (7 : Int32)) - (1 : Int32))), (.ref w_KEYNOTIFY)] _
                    refine st335.trans ?_
                    refine XS.iloadN X335.here hx rfl (hb hby at_92) rfl ?_
                    refine XS.iload X335.here hx rfl (hb hby at_93) rfl ?_
                    show own_S p e below m T335 95 #[lvI p0_, lvI p1_, lvI p2_, lvI ((p0_ &&& (2147483647 : Int32)) % (5 : Int32)), lvR w_KEYNOTIFY, lvI ((p2_ &&& (7 : Int32)) - (1 : Int32))] [(.int ((p2_ &&& (7 : Int32)) - (1 : Int32))), (.int ((p0_ &&& (2147483647 : Int32)) % (5 : Int32))), (.int (1 : Int32))] _
                    refine st346 _ ?_
                    show own_S p e below m T346 98 #[lvI p0_, lvI p1_, lvI p2_, lvI ((p0_ &&& (2147483647 : Int32)) % (5 : Int32)), lvR w_KEYNOTIFY, lvI ((p2_ &&& (7 : Int32)) - (1 : Int32))] [(.int (1 : Int32)), (.int (1 : Int32))] _
                    refine XS.icmpNo X346.here hx rfl (hb hby at_98) rfl (teq (by decide : (1 : Int32) = (1 : Int32))).2 ?_
                    refine XS.iconst X346.here hx rfl (hb hby at_101) ?_
                    refine XS.goto X346.here hx rfl (pc0 := 102) (pc' := 106) rfl (hb hby at_102) (by decide) (by decide) ?_
                    exact kt
                  obtain ⟨fs, hr, hrun, hended, hW, hsame⟩ := X346.leave (v := some (.int (1 : Int32))) (fun h => by rw [Bd.returns] at h; cases h)
                  refine ⟨_, _, hG _ (pre350 _ (retN X346 hx (t := .boolean) Bd.returns (by simp) (hb hby at_106) hr)), hrun, hended, _, _, rfl, ?_, ⟨_, rfl⟩, hW, hsame.mono (by decide) (by decide)⟩
                  show QLaw Z p0_ p1_ p2_ w_GET w_SET w_DEL w_VDEL w_KEYNOTIFY h0 n0 _ T346.heap _
                  rw [e346']
                  exact ⟨rfl, N347⟩
                · exact absurd (by apply Decidable.by_contra; intro hz; have := own_i1; have := own_i2; have := own_i7; simp only [Int32.lt_iff_toInt_lt, ← Int32.toInt_inj] at hz hq335_2_0 hq335_2_1 hq346_13_4; omega) hq346_13_5
          · obtain ⟨_, _, ⟨T352, L352, k352, n352⟩, -, X352, ⟨Lc352, hQ352, l352, y352, z352⟩, st352⟩ := Jvm.LawKit.callS X311 hx (y := (⟨"com/example/fawley/fawley/protocol/CommandTakesPinLaw", "expected", "(II)Z"⟩ : MethodName)) hown (mvT hZ (own_w hw 13 rfl)) (mvT hZ (own_w hw 14 rfl)) (mvT hZ (own_w hw 15 rfl)) (mvT hZ (own_w hw 16 rfl)) (by decide) (backOf (W := 1) (rmExp l Z a0 hw [] ((p0_ &&& (2147483647 : Int32)) % (5 : Int32)) p1_ h0 n0 O0 ) hZ (own_w hw 16 rfl) (own_w hw 15 rfl) (by decide) (by decide)) (g := (mkF m 79 #[lvI p0_, lvI p1_, lvI p2_, lvI ((p0_ &&& (2147483647 : Int32)) % (5 : Int32)), lvR w_KEYNOTIFY, lvI ((p2_ &&& (7 : Int32)) - (1 : Int32))] [(.int p1_), (.int ((p0_ &&& (2147483647 : Int32)) % (5 : Int32))), (.int (1 : Int32))])) rfl (by rw [hml]; rfl) (argsL := [(.int ((p0_ &&& (2147483647 : Int32)) % (5 : Int32))), (.int p1_)]) (rest := [(.int (1 : Int32))]) (lenOf pd_1 rfl) rfl (by show 2 * 0 + _ ≤ _; exact Nat.le_of_eq rfl) (hb hby at_79) (fun _ _ => ⟨rfl, e311', (by decide : 0 + 0 ≤ _), (by decide : 0 + 0 ≤ _)⟩)
            dsimp only [Pt.U, Pt.locs, Pt.cells, Pt.slots] at X352 l352 y352 z352 st352 hQ352
            subst l352 y352 z352
            obtain ⟨h352, e352⟩ : ∃ z, T352.heap = z := ⟨_, rfl⟩
            rw [e352] at hQ352
            obtain ⟨rr352, rfl, hs352, N352q, hh352⟩ := hQ352
            have N353 := Fr.app N313 N352q
            have e352' : T352.heap = h0 := e352.trans hh352
            rcases hs352 with ⟨rfl, hq352_0_0, hq352_0_1⟩ | ⟨rfl, hq352_1_0, hq352_1_1⟩ | ⟨rfl, hq352_2_0, hq352_2_1, hq352_2_2⟩ | ⟨rfl, hq352_3_0, hq352_3_1, hq352_3_2⟩ | ⟨rfl, hq352_4_0, hq352_4_1, hq352_4_2, hq352_4_3⟩ | ⟨rfl, hq352_5_0, hq352_5_1, hq352_5_2, hq352_5_3, hq352_5_4⟩ | ⟨rfl, hq352_6_0, hq352_6_1, hq352_6_2, hq352_6_3, hq352_6_4, hq352_6_5⟩ | ⟨rfl, hq352_7_0, hq352_7_1, hq352_7_2, hq352_7_3, hq352_7_4, hq352_7_5, hq352_7_6⟩ | ⟨rfl, hq352_8_0, hq352_8_1, hq352_8_2, hq352_8_3, hq352_8_4, hq352_8_5, hq352_8_6⟩ | ⟨rfl, hq352_9_0, hq352_9_1, hq352_9_2, hq352_9_3, hq352_9_4⟩ | ⟨rfl, hq352_10_0, hq352_10_1, hq352_10_2, hq352_10_3, hq352_10_4⟩ | ⟨rfl, hq352_11_0, hq352_11_1, hq352_11_2, hq352_11_3, hq352_11_4⟩ | ⟨rfl, hq352_12_0, hq352_12_1, hq352_12_2, hq352_12_3, hq352_12_4, hq352_12_5⟩ | ⟨rfl, hq352_13_0, hq352_13_1, hq352_13_2, hq352_13_3, hq352_13_4, hq352_13_5⟩
            · exact absurd hq352_0_0 (by intro hz; have := own_i0; have := own_i1; have := own_i2; have := own_j2147483647; have := own_i3; have := own_i5; simp only [Int32.lt_iff_toInt_lt, ← Int32.toInt_inj] at hz hc2 hc59 hc197 hc254; omega)
            · exact absurd hq352_1_0 (by intro hz; have := own_i0; have := own_i1; have := own_i2; have := own_j2147483647; have := own_i3; have := own_i5; simp only [Int32.lt_iff_toInt_lt, ← Int32.toInt_inj] at hz hc2 hc59 hc197 hc254; omega)
            · exact absurd hq352_2_1 (by intro hz; have := own_i0; have := own_i1; have := own_i2; have := own_j2147483647; have := own_i3; have := own_i5; simp only [Int32.lt_iff_toInt_lt, ← Int32.toInt_inj] at hz hq352_2_0 hc59 hc197 hc254; omega)
            · exact absurd hq352_3_1 (by intro hz; have := own_i0; have := own_i1; have := own_i2; have := own_j2147483647; have := own_i3; have := own_i5; simp only [Int32.lt_iff_toInt_lt, ← Int32.toInt_inj] at hz hq352_3_0 hc59 hc197 hc254; omega)
            · exact absurd hq352_4_2 (by intro hz; have := own_i0; have := own_i1; have := own_i2; have := own_j2147483647; have := own_i3; have := own_i5; simp only [Int32.lt_iff_toInt_lt, ← Int32.toInt_inj] at hz hq352_4_0 hc59 hq352_4_1 hc254; omega)
            · exact absurd hq352_5_2 (by intro hz; have := own_i0; have := own_i1; have := own_i2; have := own_j2147483647; have := own_i3; have := own_i5; simp only [Int32.lt_iff_toInt_lt, ← Int32.toInt_inj] at hz hq352_5_0 hc59 hq352_5_1 hc254; omega)
            · exact absurd hq352_6_2 (by intro hz; have := own_i0; have := own_i1; have := own_i2; have := own_j2147483647; have := own_i3; have := own_i5; simp only [Int32.lt_iff_toInt_lt, ← Int32.toInt_inj] at hz hq352_6_0 hc59 hq352_6_1 hc254; omega)
            · exact absurd hq352_7_2 (by intro hz; have := own_i0; have := own_i1; have := own_i2; have := own_j2147483647; have := own_i3; have := own_i5; simp only [Int32.lt_iff_toInt_lt, ← Int32.toInt_inj] at hz hq352_7_0 hc59 hq352_7_1 hc254; omega)
            · exact absurd hq352_8_2 (by intro hz; have := own_i0; have := own_i1; have := own_i2; have := own_j2147483647; have := own_i3; have := own_i5; simp only [Int32.lt_iff_toInt_lt, ← Int32.toInt_inj] at hz hq352_8_0 hc59 hq352_8_1 hc254; omega)
            · exact absurd hq352_9_3 (by intro hz; have := own_i0; have := own_i1; have := own_i2; have := own_j2147483647; have := own_i3; have := own_i5; simp only [Int32.lt_iff_toInt_lt, ← Int32.toInt_inj] at hz hq352_9_0 hq352_9_2 hq352_9_1 hc254; omega)
            · exact absurd hq352_10_3 (by intro hz; have := own_i0; have := own_i1; have := own_i2; have := own_j2147483647; have := own_i3; have := own_i5; simp only [Int32.lt_iff_toInt_lt, ← Int32.toInt_inj] at hz hq352_10_0 hq352_10_2 hq352_10_1 hc254; omega)
            · have f355 : Exa Z h0 w_KEYNOTIFY cn0 := P17.ext O0.2
              obtain ⟨cq354, kq354, q354a, q354b, q354c⟩ := isOf hZ e352' f355
              obtain ⟨_, _, ⟨T354, L354, k354, n354⟩, -, X354, ⟨Lc354, hQ354, l354, y354, z354⟩, st354⟩ := X352.virtualBack hx (y := (⟨"com/example/fawley/fawley/protocol/Command", "takes", "(I)Z"⟩ : MethodName)) (z := (⟨"com/example/fawley/fawley/protocol/Command", "takes", "(I)Z"⟩ : MethodName)) hown (mvT hZ (own_w hw 4 rfl)) (mvT hZ (own_w hw 5 rfl)) (notFace_of_selects (args := #[]) (mvT hZ (own_w hw 7 rfl))) (mvT hZ (own_w hw 7 rfl)) (mvT hZ (own_w hw 6 rfl)) (by decide) (backOf (W := 0) (rmTak l Z a0 hw [] w_KEYNOTIFY ((p2_ &&& (7 : Int32)) - (1 : Int32)) (1 : Int32) (2 : Int32) h0 n0 O0 P18 P19) hZ (own_w hw 8 rfl) (own_w hw 2 rfl) (by decide) (by decide)) q354a q354c (g := (mkF m 89 #[lvI p0_, lvI p1_, lvI p2_, lvI ((p0_ &&& (2147483647 : Int32)) % (5 : Int32)), lvR w_KEYNOTIFY, lvI ((p2_ &&& (7 : Int32)) - (1 : Int32))] [(.int ((p2_ &&& (7 : Int32)) - (1 : Int32))), (.ref w_KEYNOTIFY)])) rfl (by rw [hml]; rfl) (Steps.refl _) (argsL := [(.int ((p2_ &&& (7 : Int32)) - (1 : Int32)))]) (rest := []) (lenOf pd_0 rfl) rfl (by show 2 * 0 + _ ≤ _; exact Nat.le_of_eq rfl) (hb hby at_89) (fun _ _ => ⟨rfl, e352', (by decide : 0 + 0 ≤ _), (by decide : 0 + 0 ≤ _)⟩)
              dsimp only [Pt.U, Pt.locs, Pt.cells, Pt.slots] at X354 l354 y354 z354 st354 hQ354
              subst l354 y354 z354
              obtain ⟨h354, e354⟩ : ∃ z, T354.heap = z := ⟨_, rfl⟩
              rw [e354] at hQ354
              obtain ⟨rr354, rfl, hs354, N354q, hh354⟩ := hQ354
              have N356 := Fr.app N353 N354q
              have e354' : T354.heap = h0 := e354.trans hh354
              rcases hs354 with ⟨rfl, hq354_0_0⟩ | ⟨rfl, hq354_1_0, hq354_1_1⟩ | ⟨rfl, hq354_2_0, hq354_2_1⟩
              · obtain ⟨_, _, ⟨T357, L357, k357, n357⟩, -, X357, ⟨Lc357, hQ357, l357, y357, z357⟩, st357⟩ := Jvm.LawKit.callS X354 hx (y := (⟨"com/example/fawley/fawley/protocol/CommandTakesPinLaw", "expected", "(II)Z"⟩ : MethodName)) hown (mvT hZ (own_w hw 13 rfl)) (mvT hZ (own_w hw 14 rfl)) (mvT hZ (own_w hw 15 rfl)) (mvT hZ (own_w hw 16 rfl)) (by decide) (backOf (W := 1) (rmExp l Z a0 hw [] ((p0_ &&& (2147483647 : Int32)) % (5 : Int32)) ((p2_ &&& (7 : Int32)) - (1 : Int32)) h0 n0 O0 ) hZ (own_w hw 16 rfl) (own_w hw 15 rfl) (by decide) (by decide)) (g := (mkF m 95 #[lvI p0_, lvI p1_, lvI p2_, lvI ((p0_ &&& (2147483647 : Int32)) % (5 : Int32)), lvR w_KEYNOTIFY, lvI ((p2_ &&& (7 : Int32)) - (1 : Int32))] [(.int ((p2_ &&& (7 : Int32)) - (1 : Int32))), (.int ((p0_ &&& (2147483647 : Int32)) % (5 : Int32))), (.int (0 : Int32))])) rfl (by rw [hml]; rfl) (argsL := [(.int ((p0_ &&& (2147483647 : Int32)) % (5 : Int32))), (.int ((p2_ &&& (7 : Int32)) - (1 : Int32)))]) (rest := [(.int (0 : Int32))]) (lenOf pd_1 rfl) rfl (by show 2 * 0 + _ ≤ _; exact Nat.le_of_eq rfl) (hb hby at_95) (fun _ _ => ⟨rfl, e354', (by decide : 0 + 0 ≤ _), (by decide : 0 + 0 ≤ _)⟩)
                dsimp only [Pt.U, Pt.locs, Pt.cells, Pt.slots] at X357 l357 y357 z357 st357 hQ357
                subst l357 y357 z357
                obtain ⟨h357, e357⟩ : ∃ z, T357.heap = z := ⟨_, rfl⟩
                rw [e357] at hQ357
                obtain ⟨rr357, rfl, hs357, N357q, hh357⟩ := hQ357
                have N358 := Fr.app N356 N357q
                have e357' : T357.heap = h0 := e357.trans hh357
                rcases hs357 with ⟨rfl, hq357_0_0, hq357_0_1⟩ | ⟨rfl, hq357_1_0, hq357_1_1⟩ | ⟨rfl, hq357_2_0, hq357_2_1, hq357_2_2⟩ | ⟨rfl, hq357_3_0, hq357_3_1, hq357_3_2⟩ | ⟨rfl, hq357_4_0, hq357_4_1, hq357_4_2, hq357_4_3⟩ | ⟨rfl, hq357_5_0, hq357_5_1, hq357_5_2, hq357_5_3, hq357_5_4⟩ | ⟨rfl, hq357_6_0, hq357_6_1, hq357_6_2, hq357_6_3, hq357_6_4, hq357_6_5⟩ | ⟨rfl, hq357_7_0, hq357_7_1, hq357_7_2, hq357_7_3, hq357_7_4, hq357_7_5, hq357_7_6⟩ | ⟨rfl, hq357_8_0, hq357_8_1, hq357_8_2, hq357_8_3, hq357_8_4, hq357_8_5, hq357_8_6⟩ | ⟨rfl, hq357_9_0, hq357_9_1, hq357_9_2, hq357_9_3, hq357_9_4⟩ | ⟨rfl, hq357_10_0, hq357_10_1, hq357_10_2, hq357_10_3, hq357_10_4⟩ | ⟨rfl, hq357_11_0, hq357_11_1, hq357_11_2, hq357_11_3, hq357_11_4⟩ | ⟨rfl, hq357_12_0, hq357_12_1, hq357_12_2, hq357_12_3, hq357_12_4, hq357_12_5⟩ | ⟨rfl, hq357_13_0, hq357_13_1, hq357_13_2, hq357_13_3, hq357_13_4, hq357_13_5⟩
                · exact absurd hq357_0_0 (by intro hz; have := own_i0; have := own_i1; have := own_i2; have := own_j2147483647; have := own_i3; have := own_i5; simp only [Int32.lt_iff_toInt_lt, ← Int32.toInt_inj] at hz hq352_11_0 hq352_11_2 hq352_11_1 hq352_11_3; omega)
                · exact absurd hq357_1_0 (by intro hz; have := own_i0; have := own_i1; have := own_i2; have := own_j2147483647; have := own_i3; have := own_i5; simp only [Int32.lt_iff_toInt_lt, ← Int32.toInt_inj] at hz hq352_11_0 hq352_11_2 hq352_11_1 hq352_11_3; omega)
                · exact absurd hq357_2_1 (by intro hz; have := own_i0; have := own_i1; have := own_i2; have := own_j2147483647; have := own_i3; have := own_i5; simp only [Int32.lt_iff_toInt_lt, ← Int32.toInt_inj] at hz hq357_2_0 hq352_11_2 hq352_11_1 hq352_11_3; omega)
                · exact absurd hq357_3_1 (by intro hz; have := own_i0; have := own_i1; have := own_i2; have := own_j2147483647; have := own_i3; have := own_i5; simp only [Int32.lt_iff_toInt_lt, ← Int32.toInt_inj] at hz hq357_3_0 hq352_11_2 hq352_11_1 hq352_11_3; omega)
                · exact absurd hq357_4_2 (by intro hz; have := own_i0; have := own_i1; have := own_i2; have := own_j2147483647; have := own_i3; have := own_i5; simp only [Int32.lt_iff_toInt_lt, ← Int32.toInt_inj] at hz hq357_4_0 hq352_11_2 hq357_4_1 hq352_11_3; omega)
                · exact absurd hq357_5_2 (by intro hz; have := own_i0; have := own_i1; have := own_i2; have := own_j2147483647; have := own_i3; have := own_i5; simp only [Int32.lt_iff_toInt_lt, ← Int32.toInt_inj] at hz hq357_5_0 hq352_11_2 hq357_5_1 hq352_11_3; omega)
                · exact absurd hq357_6_2 (by intro hz; have := own_i0; have := own_i1; have := own_i2; have := own_j2147483647; have := own_i3; have := own_i5; simp only [Int32.lt_iff_toInt_lt, ← Int32.toInt_inj] at hz hq357_6_0 hq352_11_2 hq357_6_1 hq352_11_3; omega)
                · exact absurd hq357_7_2 (by intro hz; have := own_i0; have := own_i1; have := own_i2; have := own_j2147483647; have := own_i3; have := own_i5; simp only [Int32.lt_iff_toInt_lt, ← Int32.toInt_inj] at hz hq357_7_0 hq352_11_2 hq357_7_1 hq352_11_3; omega)
                · exact absurd hq357_8_2 (by intro hz; have := own_i0; have := own_i1; have := own_i2; have := own_j2147483647; have := own_i3; have := own_i5; simp only [Int32.lt_iff_toInt_lt, ← Int32.toInt_inj] at hz hq357_8_0 hq352_11_2 hq357_8_1 hq352_11_3; omega)
                · exact absurd hq357_9_3 (by intro hz; have := own_i0; have := own_i1; have := own_i2; have := own_j2147483647; have := own_i3; have := own_i5; simp only [Int32.lt_iff_toInt_lt, ← Int32.toInt_inj] at hz hq357_9_0 hq357_9_2 hq357_9_1 hq352_11_3; omega)
                · exact absurd hq357_10_3 (by intro hz; have := own_i0; have := own_i1; have := own_i2; have := own_j2147483647; have := own_i3; have := own_i5; simp only [Int32.lt_iff_toInt_lt, ← Int32.toInt_inj] at hz hq357_10_0 hq357_10_2 hq357_10_1 hq352_11_3; omega)
                · exact absurd hq357_11_4 (by intro hz; have := own_i1; have := own_i7; simp only [Int32.lt_iff_toInt_lt, ← Int32.toInt_inj] at hz hq354_0_0; omega)
                · exact absurd hq357_12_5 (by intro hz; have := own_i1; have := own_i2; have := own_i7; simp only [Int32.lt_iff_toInt_lt, ← Int32.toInt_inj] at hz hq354_0_0 hq357_12_4; omega)
                · have pre359 : ∀ t, own_S p e below m T357 106 #[lvI p0_, lvI p1_, lvI p2_, lvI ((p0_ &&& (2147483647 : Int32)) % (5 : Int32)), lvR w_KEYNOTIFY, lvI ((p2_ &&& (7 : Int32)) - (1 : Int32))] [(.int (1 : Int32))] t → G t := by
                    intro t kt
                    refine pre253 t ?_
                    show own_S p e below m s₁ 47 #[lvI p0_, lvI p1_, lvI p2_, lvI ((p0_ &&& (2147483647 : Int32)) % (5 : Int32)), .unset, .unset] [(.int (3 : Int32)), (.int ((p0_ &&& (2147483647 : Int32)) % (5 : Int32)))] _
                    refine XS.icmpYes X0.here hx rfl (pc0 := 47) (pc' := 58) rfl (hb hby at_47) rfl (feq hc254).2 (by decide) (by decide) ?_
                    show own_S p e below m s₁ 58 #[lvI p0_, lvI p1_, lvI p2_, lvI ((p0_ &&& (2147483647 : Int32)) % (5 : Int32)), .unset, .unset] [] _
                    refine st310 _ ?_
                    refine XS.astore X310.here hx rfl (hb hby at_61) rfl rfl (l' := #[lvI p0_, lvI p1_, lvI p2_, lvI ((p0_ &&& (2147483647 : Int32)) % (5 : Int32)), lvR w_KEYNOTIFY, .unset]) rfl ?_
                    refine XS.iloadN X310.here hx rfl (hb hby at_63) rfl ?_
                    refine XS.bipush X310.here hx rfl (hb hby at_64) ?_
                    refine XS.iand X310.here hx rfl (hb hby at_66) rfl ?_
                    refine XS.iconst X310.here hx rfl (hb hby at_67) ?_
                    show own_S p e below m T310 68 #[lvI p0_, lvI p1_, lvI p2_, lvI ((p0_ &&& (2147483647 : Int32)) % (5 : Int32)), lvR w_KEYNOTIFY, .unset] [(.int (1 : Int32)), (.int (p2_ &&& (7 : Int32)))] _
                    refine XS.isub X310.here hx rfl (hb hby at_68) rfl ?_
                    refine XS.istore X310.here hx rfl (hb hby at_69) rfl (l' := #[lvI p0_, lvI p1_, lvI p2_, lvI ((p0_ &&& (2147483647 : Int32)) % (5 : Int32)), lvR w_KEYNOTIFY, lvI ((p2_ &&& (7 : Int32)) - (1 : Int32))]) rfl ?_
                    refine XS.aload X310.here hx rfl (hb hby at_71) rfl rfl ?_
                    refine XS.iloadN X310.here hx rfl (hb hby at_73) rfl ?_
                    show own_S p e below m T310 74 #[lvI p0_, lvI p1_, lvI p2_, lvI ((p0_ &&& (2147483647 : Int32)) % (5 : Int32)), lvR w_KEYNOTIFY, lvI ((p2_ &&& (7 : Int32)) - (1 : Int32))] [(.int p1_), (.ref w_KEYNOTIFY)] _
                    refine st311.trans ?_
                    refine XS.iloadN X311.here hx rfl (hb hby at_77) rfl ?_
                    refine XS.iloadN X311.here hx rfl (hb hby at_78) rfl ?_
                    show own_S p e below m T311 79 #[lvI p0_, lvI p1_, lvI p2_, lvI ((p0_ &&& (2147483647 : Int32)) % (5 : Int32)), lvR w_KEYNOTIFY, lvI ((p2_ &&& (7 : Int32)) - (1 : Int32))] [(.int p1_), (.int ((p0_ &&& (2147483647 : Int32)) % (5 : Int32))), (.int (1 : Int32))] _
                    refine st352 _ ?_
                    show own_S p e below m T352 82 #[lvI p0_, lvI p1_, lvI p2_, lvI ((p0_ &&& (2147483647 : Int32)) % (5 : Int32)), lvR w_KEYNOTIFY, lvI ((p2_ &&& (7 : Int32)) - (1 : Int32))] [(.int (1 : Int32)), (.int (1 : Int32))] _
                    refine XS.icmpNo X352.here hx rfl (hb hby at_82) rfl (teq (by decide : (1 : Int32) = (1 : Int32))).2 ?_
                    refine XS.aload X352.here hx rfl (hb hby at_85) rfl rfl ?_
                    refine XS.iload X352.here hx rfl (hb hby at_87) rfl ?_
                    show own_S p e below m T352 89 #[lvI p0_, lvI p1_, lvI p2_, lvI ((p0_ &&& (2147483647 : Int32)) % (5 : Int32)), lvR w_KEYNOTIFY, lvI ((p2_ &&& (7 : Int32)) - (1 : Int32))] [(.int ((p2_ &&& (7 : Int32)) - (1 : Int32))), (.ref w_KEYNOTIFY)] _
                    refine st354.trans ?_
                    refine XS.iloadN X354.here hx rfl (hb hby at_92) rfl ?_
                    refine XS.iload X354.here hx rfl (hb hby at_93) rfl ?_
                    show own_S p e below m T354 95 #[lvI p0_, lvI p1_, lvI p2_, lvI ((p0_ &&& (2147483647 : Int32)) % (5 : Int32)), lvR w_KEYNOTIFY, lvI ((p2_ &&& (7 : Int32)) - (1 : Int32))] [(.int ((p2_ &&& (7 : Int32)) - (1 : Int32))), (.int ((p0_ &&& (2147483647 : Int32)) % (5 : Int32))), (.int (0 : Int32))] _
                    refine st357 _ ?_
                    show own_S p e below m T357 98 #[lvI p0_, lvI p1_, lvI p2_, lvI ((p0_ &&& (2147483647 : Int32)) % (5 : Int32)), lvR w_KEYNOTIFY, lvI ((p2_ &&& (7 : Int32)) - (1 : Int32))] [(.int (0 : Int32)), (.int (0 : Int32))] _
                    refine XS.icmpNo X357.here hx rfl (hb hby at_98) rfl (teq (by decide : (0 : Int32) = (0 : Int32))).2 ?_
                    refine XS.iconst X357.here hx rfl (hb hby at_101) ?_
                    refine XS.goto X357.here hx rfl (pc0 := 102) (pc' := 106) rfl (hb hby at_102) (by decide) (by decide) ?_
                    exact kt
                  obtain ⟨fs, hr, hrun, hended, hW, hsame⟩ := X357.leave (v := some (.int (1 : Int32))) (fun h => by rw [Bd.returns] at h; cases h)
                  refine ⟨_, _, hG _ (pre359 _ (retN X357 hx (t := .boolean) Bd.returns (by simp) (hb hby at_106) hr)), hrun, hended, _, _, rfl, ?_, ⟨_, rfl⟩, hW, hsame.mono (by decide) (by decide)⟩
                  show QLaw Z p0_ p1_ p2_ w_GET w_SET w_DEL w_VDEL w_KEYNOTIFY h0 n0 _ T357.heap _
                  rw [e357']
                  exact ⟨rfl, N358⟩
              · obtain ⟨_, _, ⟨T361, L361, k361, n361⟩, -, X361, ⟨Lc361, hQ361, l361, y361, z361⟩, st361⟩ := Jvm.LawKit.callS X354 hx (y := (⟨"com/example/fawley/fawley/protocol/CommandTakesPinLaw", "expected", "(II)Z"⟩ : MethodName)) hown (mvT hZ (own_w hw 13 rfl)) (mvT hZ (own_w hw 14 rfl)) (mvT hZ (own_w hw 15 rfl)) (mvT hZ (own_w hw 16 rfl)) (by decide) (backOf (W := 1) (rmExp l Z a0 hw [] ((p0_ &&& (2147483647 : Int32)) % (5 : Int32)) ((p2_ &&& (7 : Int32)) - (1 : Int32)) h0 n0 O0 ) hZ (own_w hw 16 rfl) (own_w hw 15 rfl) (by decide) (by decide)) (g := (mkF m 95 #[lvI p0_, lvI p1_, lvI p2_, lvI ((p0_ &&& (2147483647 : Int32)) % (5 : Int32)), lvR w_KEYNOTIFY, lvI ((p2_ &&& (7 : Int32)) - (1 : Int32))] [(.int ((p2_ &&& (7 : Int32)) - (1 : Int32))), (.int ((p0_ &&& (2147483647 : Int32)) % (5 : Int32))), (.int (0 : Int32))])) rfl (by rw [hml]; rfl) (argsL := [(.int ((p0_ &&& (2147483647 : Int32)) % (5 : Int32))), (.int ((p2_ &&& (7 : Int32)) - (1 : Int32)))]) (rest := [(.int (0 : Int32))]) (lenOf pd_1 rfl) rfl (by show 2 * 0 + _ ≤ _; exact Nat.le_of_eq rfl) (hb hby at_95) (fun _ _ => ⟨rfl, e354', (by decide : 0 + 0 ≤ _), (by decide : 0 + 0 ≤ _)⟩)
                dsimp only [Pt.U, Pt.locs, Pt.cells, Pt.slots] at X361 l361 y361 z361 st361 hQ361
                subst l361 y361 z361
                obtain ⟨h361, e361⟩ : ∃ z, T361.heap = z := ⟨_, rfl⟩
                rw [e361] at hQ361
                obtain ⟨rr361, rfl, hs361, N361q, hh361⟩ := hQ361
                have N362 := Fr.app N356 N361q
                have e361' : T361.heap = h0 := e361.trans hh361
                rcases hs361 with ⟨rfl, hq361_0_0, hq361_0_1⟩ | ⟨rfl, hq361_1_0, hq361_1_1⟩ | ⟨rfl, hq361_2_0, hq361_2_1, hq361_2_2⟩ | ⟨rfl, hq361_3_0, hq361_3_1, hq361_3_2⟩ | ⟨rfl, hq361_4_0, hq361_4_1, hq361_4_2, hq361_4_3⟩ | ⟨rfl, hq361_5_0, hq361_5_1, hq361_5_2, hq361_5_3, hq361_5_4⟩ | ⟨rfl, hq361_6_0, hq361_6_1, hq361_6_2, hq361_6_3, hq361_6_4, hq361_6_5⟩ | ⟨rfl, hq361_7_0, hq361_7_1, hq361_7_2, hq361_7_3, hq361_7_4, hq361_7_5, hq361_7_6⟩ | ⟨rfl, hq361_8_0, hq361_8_1, hq361_8_2, hq361_8_3, hq361_8_4, hq361_8_5, hq361_8_6⟩ | ⟨rfl, hq361_9_0, hq361_9_1, hq361_9_2, hq361_9_3, hq361_9_4⟩ | ⟨rfl, hq361_10_0, hq361_10_1, hq361_10_2, hq361_10_3, hq361_10_4⟩ | ⟨rfl, hq361_11_0, hq361_11_1, hq361_11_2, hq361_11_3, hq361_11_4⟩ | ⟨rfl, hq361_12_0, hq361_12_1, hq361_12_2, hq361_12_3, hq361_12_4, hq361_12_5⟩ | ⟨rfl, hq361_13_0, hq361_13_1, hq361_13_2, hq361_13_3, hq361_13_4, hq361_13_5⟩
                · exact absurd hq361_0_0 (by intro hz; have := own_i0; have := own_i1; have := own_i2; have := own_j2147483647; have := own_i3; have := own_i5; simp only [Int32.lt_iff_toInt_lt, ← Int32.toInt_inj] at hz hq352_11_0 hq352_11_2 hq352_11_1 hq352_11_3; omega)
                · exact absurd hq361_1_0 (by intro hz; have := own_i0; have := own_i1; have := own_i2; have := own_j2147483647; have := own_i3; have := own_i5; simp only [Int32.lt_iff_toInt_lt, ← Int32.toInt_inj] at hz hq352_11_0 hq352_11_2 hq352_11_1 hq352_11_3; omega)
                · exact absurd hq361_2_1 (by intro hz; have := own_i0; have := own_i1; have := own_i2; have := own_j2147483647; have := own_i3; have := own_i5; simp only [Int32.lt_iff_toInt_lt, ← Int32.toInt_inj] at hz hq361_2_0 hq352_11_2 hq352_11_1 hq352_11_3; omega)
                · exact absurd hq361_3_1 (by intro hz; have := own_i0; have := own_i1; have := own_i2; have := own_j2147483647; have := own_i3; have := own_i5; simp only [Int32.lt_iff_toInt_lt, ← Int32.toInt_inj] at hz hq361_3_0 hq352_11_2 hq352_11_1 hq352_11_3; omega)
                · exact absurd hq361_4_2 (by intro hz; have := own_i0; have := own_i1; have := own_i2; have := own_j2147483647; have := own_i3; have := own_i5; simp only [Int32.lt_iff_toInt_lt, ← Int32.toInt_inj] at hz hq361_4_0 hq352_11_2 hq361_4_1 hq352_11_3; omega)
                · exact absurd hq361_5_2 (by intro hz; have := own_i0; have := own_i1; have := own_i2; have := own_j2147483647; have := own_i3; have := own_i5; simp only [Int32.lt_iff_toInt_lt, ← Int32.toInt_inj] at hz hq361_5_0 hq352_11_2 hq361_5_1 hq352_11_3; omega)
                · exact absurd hq361_6_2 (by intro hz; have := own_i0; have := own_i1; have := own_i2; have := own_j2147483647; have := own_i3; have := own_i5; simp only [Int32.lt_iff_toInt_lt, ← Int32.toInt_inj] at hz hq361_6_0 hq352_11_2 hq361_6_1 hq352_11_3; omega)
                · exact absurd hq361_7_2 (by intro hz; have := own_i0; have := own_i1; have := own_i2; have := own_j2147483647; have := own_i3; have := own_i5; simp only [Int32.lt_iff_toInt_lt, ← Int32.toInt_inj] at hz hq361_7_0 hq352_11_2 hq361_7_1 hq352_11_3; omega)
                · exact absurd hq361_8_2 (by intro hz; have := own_i0; have := own_i1; have := own_i2; have := own_j2147483647; have := own_i3; have := own_i5; simp only [Int32.lt_iff_toInt_lt, ← Int32.toInt_inj] at hz hq361_8_0 hq352_11_2 hq361_8_1 hq352_11_3; omega)
                · exact absurd hq361_9_3 (by intro hz; have := own_i0; have := own_i1; have := own_i2; have := own_j2147483647; have := own_i3; have := own_i5; simp only [Int32.lt_iff_toInt_lt, ← Int32.toInt_inj] at hz hq361_9_0 hq361_9_2 hq361_9_1 hq352_11_3; omega)
                · exact absurd hq361_10_3 (by intro hz; have := own_i0; have := own_i1; have := own_i2; have := own_j2147483647; have := own_i3; have := own_i5; simp only [Int32.lt_iff_toInt_lt, ← Int32.toInt_inj] at hz hq361_10_0 hq361_10_2 hq361_10_1 hq352_11_3; omega)
                · exact absurd hq361_11_4 (by intro hz; have := own_i1; have := own_i2; have := own_i7; simp only [Int32.lt_iff_toInt_lt, ← Int32.toInt_inj] at hz hq354_1_0 hq354_1_1; omega)
                · exact absurd hq361_12_5 (by intro hz; have := own_i1; have := own_i2; have := own_i7; simp only [Int32.lt_iff_toInt_lt, ← Int32.toInt_inj] at hz hq354_1_0 hq354_1_1 hq361_12_4; omega)
                · have pre363 : ∀ t, own_S p e below m T361 106 #[lvI p0_, lvI p1_, lvI p2_, lvI ((p0_ &&& (2147483647 : Int32)) % (5 : Int32)), lvR w_KEYNOTIFY, lvI ((p2_ &&& (7 : Int32)) - (1 : Int32))] [(.int (1 : Int32))] t → G t := by
                    intro t kt
                    refine pre253 t ?_
                    show own_S p e below m s₁ 47 #[lvI p0_, lvI p1_, lvI p2_, lvI ((p0_ &&& (2147483647 : Int32)) % (5 : Int32)), .unset, .unset] [(.int (3 : Int32)), (.int ((p0_ &&& (2147483647 : Int32)) % (5 : Int32)))] _
                    refine XS.icmpYes X0.here hx rfl (pc0 := 47) (pc' := 58) rfl (hb hby at_47) rfl (feq hc254).2 (by decide) (by decide) ?_
                    show own_S p e below m s₁ 58 #[lvI p0_, lvI p1_, lvI p2_, lvI ((p0_ &&& (2147483647 : Int32)) % (5 : Int32)), .unset, .unset] [] _
                    refine st310 _ ?_
                    refine XS.astore X310.here hx rfl (hb hby at_61) rfl rfl (l' := #[lvI p0_, lvI p1_, lvI p2_, lvI ((p0_ &&& (2147483647 : Int32)) % (5 : Int32)), lvR w_KEYNOTIFY, .unset]) rfl ?_
                    refine XS.iloadN X310.here hx rfl (hb hby at_63) rfl ?_
                    refine XS.bipush X310.here hx rfl (hb hby at_64) ?_
                    refine XS.iand X310.here hx rfl (hb hby at_66) rfl ?_
                    refine XS.iconst X310.here hx rfl (hb hby at_67) ?_
                    show own_S p e below m T310 68 #[lvI p0_, lvI p1_, lvI p2_, lvI ((p0_ &&& (2147483647 : Int32)) % (5 : Int32)), lvR w_KEYNOTIFY, .unset] [(.int (1 : Int32)), (.int (p2_ &&& (7 : Int32)))] _
                    refine XS.isub X310.here hx rfl (hb hby at_68) rfl ?_
                    refine XS.istore X310.here hx rfl (hb hby at_69) rfl (l' := #[lvI p0_, lvI p1_, lvI p2_, lvI ((p0_ &&& (2147483647 : Int32)) % (5 : Int32)), lvR w_KEYNOTIFY, lvI ((p2_ &&& (7 : Int32)) - (1 : Int32))]) rfl ?_
                    refine XS.aload X310.here hx rfl (hb hby at_71) rfl rfl ?_
                    refine XS.iloadN X310.here hx rfl (hb hby at_73) rfl ?_
                    show own_S p e below m T310 74 #[lvI p0_, lvI p1_, lvI p2_, lvI ((p0_ &&& (2147483647 : Int32)) % (5 : Int32)), lvR w_KEYNOTIFY, lvI ((p2_ &&& (7 : Int32)) - (1 : Int32))] [(.int p1_), (.ref w_KEYNOTIFY)] _
                    refine st311.trans ?_
                    refine XS.iloadN X311.here hx rfl (hb hby at_77) rfl ?_
                    refine XS.iloadN X311.here hx rfl (hb hby at_78) rfl ?_
                    show own_S p e below m T311 79 #[lvI p0_, lvI p1_, lvI p2_, lvI ((p0_ &&& (2147483647 : Int32)) % (5 : Int32)), lvR w_KEYNOTIFY, lvI ((p2_ &&& (7 : Int32)) - (1 : Int32))] [(.int p1_), (.int ((p0_ &&& (2147483647 : Int32)) % (5 : Int32))), (.int (1 : Int32))] _
                    refine st352 _ ?_
                    show own_S p e below m T352 82 #[lvI p0_, lvI p1_, lvI p2_, lvI ((p0_ &&& (2147483647 : Int32)) % (5 : Int32)), lvR w_KEYNOTIFY, lvI ((p2_ &&& (7 : Int32)) - (1 : Int32))] [(.int (1 : Int32)), (.int (1 : Int32))] _
                    refine XS.icmpNo X352.here hx rfl (hb hby at_82) rfl (teq (by decide : (1 : Int32) = (1 : Int32))).2 ?_
                    refine XS.aload X352.here hx rfl (hb hby at_85) rfl rfl ?_
                    refine XS.iload X352.here hx rfl (hb hby at_87) rfl ?_
                    show own_S p e below m T352 89 #[lvI p0_, lvI p1_, lvI p2_, lvI ((p0_ &&& (2147483647 : Int32)) % (5 : Int32)), lvR w_KEYNOTIFY, lvI ((p2_ &&& (7 : Int32)) - (1 : Int32))] [(.int ((p2_ &&& (7 : Int32)) - (1 : Int32))), (.ref w_KEYNOTIFY)] _
                    refine st354.trans ?_
                    refine XS.iloadN X354.here hx rfl (hb hby at_92) rfl ?_
                    refine XS.iload X354.here hx rfl (hb hby at_93) rfl ?_
                    show own_S p e below m T354 95 #[lvI p0_, lvI p1_, lvI p2_, lvI ((p0_ &&& (2147483647 : Int32)) % (5 : Int32)), lvR w_KEYNOTIFY, lvI ((p2_ &&& (7 : Int32)) - (1 : Int32))] [(.int ((p2_ &&& (7 : Int32)) - (1 : Int32))), (.int ((p0_ &&& (2147483647 : Int32)) % (5 : Int32))), (.int (0 : Int32))] _
                    refine st361 _ ?_
                    show own_S p e below m T361 98 #[lvI p0_, lvI p1_, lvI p2_, lvI ((p0_ &&& (2147483647 : Int32)) % (5 : Int32)), lvR w_KEYNOTIFY, lvI ((p2_ &&& (7 : Int32)) - (1 : Int32))] [(.int (0 : Int32)), (.int (0 : Int32))] _
                    refine XS.icmpNo X361.here hx rfl (hb hby at_98) rfl (teq (by decide : (0 : Int32) = (0 : Int32))).2 ?_
                    refine XS.iconst X361.here hx rfl (hb hby at_101) ?_
                    refine XS.goto X361.here hx rfl (pc0 := 102) (pc' := 106) rfl (hb hby at_102) (by decide) (by decide) ?_
                    exact kt
                  obtain ⟨fs, hr, hrun, hended, hW, hsame⟩ := X361.leave (v := some (.int (1 : Int32))) (fun h => by rw [Bd.returns] at h; cases h)
                  refine ⟨_, _, hG _ (pre363 _ (retN X361 hx (t := .boolean) Bd.returns (by simp) (hb hby at_106) hr)), hrun, hended, _, _, rfl, ?_, ⟨_, rfl⟩, hW, hsame.mono (by decide) (by decide)⟩
                  show QLaw Z p0_ p1_ p2_ w_GET w_SET w_DEL w_VDEL w_KEYNOTIFY h0 n0 _ T361.heap _
                  rw [e361']
                  exact ⟨rfl, N362⟩
              · obtain ⟨_, _, ⟨T365, L365, k365, n365⟩, -, X365, ⟨Lc365, hQ365, l365, y365, z365⟩, st365⟩ := Jvm.LawKit.callS X354 hx (y := (⟨"com/example/fawley/fawley/protocol/CommandTakesPinLaw", "expected", "(II)Z"⟩ : MethodName)) hown (mvT hZ (own_w hw 13 rfl)) (mvT hZ (own_w hw 14 rfl)) (mvT hZ (own_w hw 15 rfl)) (mvT hZ (own_w hw 16 rfl)) (by decide) (backOf (W := 1) (rmExp l Z a0 hw [] ((p0_ &&& (2147483647 : Int32)) % (5 : Int32)) ((p2_ &&& (7 : Int32)) - (1 : Int32)) h0 n0 O0 ) hZ (own_w hw 16 rfl) (own_w hw 15 rfl) (by decide) (by decide)) (g := (mkF m 95 #[lvI p0_, lvI p1_, lvI p2_, lvI ((p0_ &&& (2147483647 : Int32)) % (5 : Int32)), lvR w_KEYNOTIFY, lvI ((p2_ &&& (7 : Int32)) - (1 : Int32))] [(.int ((p2_ &&& (7 : Int32)) - (1 : Int32))), (.int ((p0_ &&& (2147483647 : Int32)) % (5 : Int32))), (.int (1 : Int32))])) rfl (by rw [hml]; rfl) (argsL := [(.int ((p0_ &&& (2147483647 : Int32)) % (5 : Int32))), (.int ((p2_ &&& (7 : Int32)) - (1 : Int32)))]) (rest := [(.int (1 : Int32))]) (lenOf pd_1 rfl) rfl (by show 2 * 0 + _ ≤ _; exact Nat.le_of_eq rfl) (hb hby at_95) (fun _ _ => ⟨rfl, e354', (by decide : 0 + 0 ≤ _), (by decide : 0 + 0 ≤ _)⟩)
                dsimp only [Pt.U, Pt.locs, Pt.cells, Pt.slots] at X365 l365 y365 z365 st365 hQ365
                subst l365 y365 z365
                obtain ⟨h365, e365⟩ : ∃ z, T365.heap = z := ⟨_, rfl⟩
                rw [e365] at hQ365
                obtain ⟨rr365, rfl, hs365, N365q, hh365⟩ := hQ365
                have N366 := Fr.app N356 N365q
                have e365' : T365.heap = h0 := e365.trans hh365
                rcases hs365 with ⟨rfl, hq365_0_0, hq365_0_1⟩ | ⟨rfl, hq365_1_0, hq365_1_1⟩ | ⟨rfl, hq365_2_0, hq365_2_1, hq365_2_2⟩ | ⟨rfl, hq365_3_0, hq365_3_1, hq365_3_2⟩ | ⟨rfl, hq365_4_0, hq365_4_1, hq365_4_2, hq365_4_3⟩ | ⟨rfl, hq365_5_0, hq365_5_1, hq365_5_2, hq365_5_3, hq365_5_4⟩ | ⟨rfl, hq365_6_0, hq365_6_1, hq365_6_2, hq365_6_3, hq365_6_4, hq365_6_5⟩ | ⟨rfl, hq365_7_0, hq365_7_1, hq365_7_2, hq365_7_3, hq365_7_4, hq365_7_5, hq365_7_6⟩ | ⟨rfl, hq365_8_0, hq365_8_1, hq365_8_2, hq365_8_3, hq365_8_4, hq365_8_5, hq365_8_6⟩ | ⟨rfl, hq365_9_0, hq365_9_1, hq365_9_2, hq365_9_3, hq365_9_4⟩ | ⟨rfl, hq365_10_0, hq365_10_1, hq365_10_2, hq365_10_3, hq365_10_4⟩ | ⟨rfl, hq365_11_0, hq365_11_1, hq365_11_2, hq365_11_3, hq365_11_4⟩ | ⟨rfl, hq365_12_0, hq365_12_1, hq365_12_2, hq365_12_3, hq365_12_4, hq365_12_5⟩ | ⟨rfl, hq365_13_0, hq365_13_1, hq365_13_2, hq365_13_3, hq365_13_4, hq365_13_5⟩
                · exact absurd hq365_0_0 (by intro hz; have := own_i0; have := own_i1; have := own_i2; have := own_j2147483647; have := own_i3; have := own_i5; simp only [Int32.lt_iff_toInt_lt, ← Int32.toInt_inj] at hz hq352_11_0 hq352_11_2 hq352_11_1 hq352_11_3; omega)
                · exact absurd hq365_1_0 (by intro hz; have := own_i0; have := own_i1; have := own_i2; have := own_j2147483647; have := own_i3; have := own_i5; simp only [Int32.lt_iff_toInt_lt, ← Int32.toInt_inj] at hz hq352_11_0 hq352_11_2 hq352_11_1 hq352_11_3; omega)
                · exact absurd hq365_2_1 (by intro hz; have := own_i0; have := own_i1; have := own_i2; have := own_j2147483647; have := own_i3; have := own_i5; simp only [Int32.lt_iff_toInt_lt, ← Int32.toInt_inj] at hz hq365_2_0 hq352_11_2 hq352_11_1 hq352_11_3; omega)
                · exact absurd hq365_3_1 (by intro hz; have := own_i0; have := own_i1; have := own_i2; have := own_j2147483647; have := own_i3; have := own_i5; simp only [Int32.lt_iff_toInt_lt, ← Int32.toInt_inj] at hz hq365_3_0 hq352_11_2 hq352_11_1 hq352_11_3; omega)
                · exact absurd hq365_4_2 (by intro hz; have := own_i0; have := own_i1; have := own_i2; have := own_j2147483647; have := own_i3; have := own_i5; simp only [Int32.lt_iff_toInt_lt, ← Int32.toInt_inj] at hz hq365_4_0 hq352_11_2 hq365_4_1 hq352_11_3; omega)
                · exact absurd hq365_5_2 (by intro hz; have := own_i0; have := own_i1; have := own_i2; have := own_j2147483647; have := own_i3; have := own_i5; simp only [Int32.lt_iff_toInt_lt, ← Int32.toInt_inj] at hz hq365_5_0 hq352_11_2 hq365_5_1 hq352_11_3; omega)
                · exact absurd hq365_6_2 (by intro hz; have := own_i0; have := own_i1; have := own_i2; have := own_j2147483647; have := own_i3; have := own_i5; simp only [Int32.lt_iff_toInt_lt, ← Int32.toInt_inj] at hz hq365_6_0 hq352_11_2 hq365_6_1 hq352_11_3; omega)
                · exact absurd hq365_7_2 (by intro hz; have := own_i0; have := own_i1; have := own_i2; have := own_j2147483647; have := own_i3; have := own_i5; simp only [Int32.lt_iff_toInt_lt, ← Int32.toInt_inj] at hz hq365_7_0 hq352_11_2 hq365_7_1 hq352_11_3; omega)
                · exact absurd hq365_8_2 (by intro hz; have := own_i0; have := own_i1; have := own_i2; have := own_j2147483647; have := own_i3; have := own_i5; simp only [Int32.lt_iff_toInt_lt, ← Int32.toInt_inj] at hz hq365_8_0 hq352_11_2 hq365_8_1 hq352_11_3; omega)
                · exact absurd hq365_9_3 (by intro hz; have := own_i0; have := own_i1; have := own_i2; have := own_j2147483647; have := own_i3; have := own_i5; simp only [Int32.lt_iff_toInt_lt, ← Int32.toInt_inj] at hz hq365_9_0 hq365_9_2 hq365_9_1 hq352_11_3; omega)
                · exact absurd hq365_10_3 (by intro hz; have := own_i0; have := own_i1; have := own_i2; have := own_j2147483647; have := own_i3; have := own_i5; simp only [Int32.lt_iff_toInt_lt, ← Int32.toInt_inj] at hz hq365_10_0 hq365_10_2 hq365_10_1 hq352_11_3; omega)
                · have pre367 : ∀ t, own_S p e below m T365 106 #[lvI p0_, lvI p1_, lvI p2_, lvI ((p0_ &&& (2147483647 : Int32)) % (5 : Int32)), lvR w_KEYNOTIFY, lvI ((p2_ &&& (7 : Int32)) - (1 : Int32))] [(.int (1 : Int32))] t → G t := by
                    intro t kt
                    refine pre253 t ?_
                    show own_S p e below m s₁ 47 #[lvI p0_, lvI p1_, lvI p2_, lvI ((p0_ &&& (2147483647 : Int32)) % (5 : Int32)), .unset, .unset] [(.int (3 : Int32)), (.int ((p0_ &&& (2147483647 : Int32)) % (5 : Int32)))] _
                    refine XS.icmpYes X0.here hx rfl (pc0 := 47) (pc' := 58) rfl (hb hby at_47) rfl (feq hc254).2 (by decide) (by decide) ?_
                    show own_S p e below m s₁ 58 #[lvI p0_, lvI p1_, lvI p2_, lvI ((p0_ &&& (2147483647 : Int32)) % (5 : Int32)), .unset, .unset] [] _
                    refine st310 _ ?_
                    refine XS.astore X310.here hx rfl (hb hby at_61) rfl rfl (l' := #[lvI p0_, lvI p1_, lvI p2_, lvI ((p0_ &&& (2147483647 : Int32)) % (5 : Int32)), lvR w_KEYNOTIFY, .unset]) rfl ?_
                    refine XS.iloadN X310.here hx rfl (hb hby at_63) rfl ?_
                    refine XS.bipush X310.here hx rfl (hb hby at_64) ?_
                    refine XS.iand X310.here hx rfl (hb hby at_66) rfl ?_
                    refine XS.iconst X310.here hx rfl (hb hby at_67) ?_
                    show own_S p e below m T310 68 #[lvI p0_, lvI p1_, lvI p2_, lvI ((p0_ &&& (2147483647 : Int32)) % (5 : Int32)), lvR w_KEYNOTIFY, .unset] [(.int (1 : Int32)), (.int (p2_ &&& (7 : Int32)))] _
                    refine XS.isub X310.here hx rfl (hb hby at_68) rfl ?_
                    refine XS.istore X310.here hx rfl (hb hby at_69) rfl (l' := #[lvI p0_, lvI p1_, lvI p2_, lvI ((p0_ &&& (2147483647 : Int32)) % (5 : Int32)), lvR w_KEYNOTIFY, lvI ((p2_ &&& (7 : Int32)) - (1 : Int32))]) rfl ?_
                    refine XS.aload X310.here hx rfl (hb hby at_71) rfl rfl ?_
                    refine XS.iloadN X310.here hx rfl (hb hby at_73) rfl ?_
                    show own_S p e below m T310 74 #[lvI p0_, lvI p1_, lvI p2_, lvI ((p0_ &&& (2147483647 : Int32)) % (5 : Int32)), lvR w_KEYNOTIFY, lvI ((p2_ &&& (7 : Int32)) - (1 : Int32))] [(.int p1_), (.ref w_KEYNOTIFY)] _
                    refine st311.trans ?_
                    refine XS.iloadN X311.here hx rfl (hb hby at_77) rfl ?_
                    refine XS.iloadN X311.here hx rfl (hb hby at_78) rfl ?_
                    show own_S p e below m T311 79 #[lvI p0_, lvI p1_, lvI p2_, lvI ((p0_ &&& (2147483647 : Int32)) % (5 : Int32)), lvR w_KEYNOTIFY, lvI ((p2_ &&& (7 : Int32)) - (1 : Int32))] [(.int p1_), (.int ((p0_ &&& (2147483647 : Int32)) % (5 : Int32))), (.int (1 : Int32))] _
                    refine st352 _ ?_
                    show own_S p e below m T352 82 #[lvI p0_, lvI p1_, lvI p2_, lvI ((p0_ &&& (2147483647 : Int32)) % (5 : Int32)), lvR w_KEYNOTIFY, lvI ((p2_ &&& (7 : Int32)) - (1 : Int32))] [(.int (1 : Int32)), (.int (1 : Int32))] _
                    refine XS.icmpNo X352.here hx rfl (hb hby at_82) rfl (teq (by decide : (1 : Int32) = (1 : Int32))).2 ?_
                    refine XS.aload X352.here hx rfl (hb hby at_85) rfl rfl ?_
                    refine XS.iload X352.here hx rfl (hb hby at_87) rfl ?_
                    show own_S p e below m T352 89 #[lvI p0_, lvI p1_, lvI p2_, lvI ((p0_ &&& (2147483647 : Int32)) % (5 : Int32)), lvR w_KEYNOTIFY, lvI ((p2_ &&& (7 : Int32)) - (1 : Int32))] [(.int ((p2_ &&& (7 : Int32)) - (1 : Int32))), (.ref w_KEYNOTIFY)] _
                    refine st354.trans ?_
                    refine XS.iloadN X354.here hx rfl (hb hby at_92) rfl ?_
                    refine XS.iload X354.here hx rfl (hb hby at_93) rfl ?_
                    show own_S p e below m T354 95 #[lvI p0_, lvI p1_, lvI p2_, lvI ((p0_ &&& (2147483647 : Int32)) % (5 : Int32)), lvR w_KEYNOTIFY, lvI ((p2_ &&& (7 : Int32)) - (1 : Int32))] [(.int ((p2_ &&& (7 : Int32)) - (1 : Int32))), (.int ((p0_ &&& (2147483647 : Int32)) % (5 : Int32))), (.int (1 : Int32))] _
                    refine st365 _ ?_
                    show own_S p e below m T365 98 #[lvI p0_, lvI p1_, lvI p2_, lvI ((p0_ &&& (2147483647 : Int32)) % (5 : Int32)), lvR w_KEYNOTIFY, lvI ((p2_ &&& (7 : Int32)) - (1 : Int32))] [(.int (1 : Int32)), (.int (1 : Int32))] _
                    refine XS.icmpNo X365.here hx rfl (hb hby at_98) rfl (teq (by decide : (1 : Int32) = (1 : Int32))).2 ?_
                    refine XS.iconst X365.here hx rfl (hb hby at_101) ?_
                    refine XS.goto X365.here hx rfl (pc0 := 102) (pc' := 106) rfl (hb hby at_102) (by decide) (by decide) ?_
                    exact kt
                  obtain ⟨fs, hr, hrun, hended, hW, hsame⟩ := X365.leave (v := some (.int (1 : Int32))) (fun h => by rw [Bd.returns] at h; cases h)
                  refine ⟨_, _, hG _ (pre367 _ (retN X365 hx (t := .boolean) Bd.returns (by simp) (hb hby at_106) hr)), hrun, hended, _, _, rfl, ?_, ⟨_, rfl⟩, hW, hsame.mono (by decide) (by decide)⟩
                  show QLaw Z p0_ p1_ p2_ w_GET w_SET w_DEL w_VDEL w_KEYNOTIFY h0 n0 _ T365.heap _
                  rw [e365']
                  exact ⟨rfl, N366⟩
                · have pre369 : ∀ t, own_S p e below m T365 106 #[lvI p0_, lvI p1_, lvI p2_, lvI ((p0_ &&& (2147483647 : Int32)) % (5 : Int32)), lvR w_KEYNOTIFY, lvI ((p2_ &&& (7 : Int32)) - (1 : Int32))] [(.int (1 : Int32))] t → G t := by
                    intro t kt
                    refine pre253 t ?_
                    show own_S p e below m s₁ 47 #[lvI p0_, lvI p1_, lvI p2_, lvI ((p0_ &&& (2147483647 : Int32)) % (5 : Int32)), .unset, .unset] [(.int (3 : Int32)), (.int ((p0_ &&& (2147483647 : Int32)) % (5 : Int32)))] _
                    refine XS.icmpYes X0.here hx rfl (pc0 := 47) (pc' := 58) rfl (hb hby at_47) rfl (feq hc254).2 (by decide) (by decide) ?_
                    show own_S p e below m s₁ 58 #[lvI p0_, lvI p1_, lvI p2_, lvI ((p0_ &&& (2147483647 : Int32)) % (5 : Int32)), .unset, .unset] [] _
                    refine st310 _ ?_
                    refine XS.astore X310.here hx rfl (hb hby at_61) rfl rfl (l' := #[lvI p0_, lvI p1_, lvI p2_, lvI ((p0_ &&& (2147483647 : Int32)) % (5 : Int32)), lvR w_KEYNOTIFY, .unset]) rfl ?_
                    refine XS.iloadN X310.here hx rfl (hb hby at_63) rfl ?_
                    refine XS.bipush X310.here hx rfl (hb hby at_64) ?_
                    refine XS.iand X310.here hx rfl (hb hby at_66) rfl ?_
                    refine XS.iconst X310.here hx rfl (hb hby at_67) ?_
                    show own_S p e below m T310 68 #[lvI p0_, lvI p1_, lvI p2_, lvI ((p0_ &&& (2147483647 : Int32)) % (5 : Int32)), lvR w_KEYNOTIFY, .unset] [(.int (1 : Int32)), (.int (p2_ &&& (7 : Int32)))] _
                    refine XS.isub X310.here hx rfl (hb hby at_68) rfl ?_
                    refine XS.istore X310.here hx rfl (hb hby at_69) rfl (l' := #[lvI p0_, lvI p1_, lvI p2_, lvI ((p0_ &&& (2147483647 : Int32)) % (5 : Int32)), lvR w_KEYNOTIFY, lvI ((p2_ &&& (7 : Int32)) - (1 : Int32))]) rfl ?_
                    refine XS.aload X310.here hx rfl (hb hby at_71) rfl rfl ?_
                    refine XS.iloadN X310.here hx rfl (hb hby at_73) rfl ?_
                    show own_S p e below m T310 74 #[lvI p0_, lvI p1_, lvI p2_, lvI ((p0_ &&& (2147483647 : Int32)) % (5 : Int32)), lvR w_KEYNOTIFY, lvI ((p2_ &&& (7 : Int32)) - (1 : Int32))] [(.int p1_), (.ref w_KEYNOTIFY)] _
                    refine st311.trans ?_
                    refine XS.iloadN X311.here hx rfl (hb hby at_77) rfl ?_
                    refine XS.iloadN X311.here hx rfl (hb hby at_78) rfl ?_
                    show own_S p e below m T311 79 #[lvI p0_, lvI p1_, lvI p2_, lvI ((p0_ &&& (2147483647 : Int32)) % (5 : Int32)), lvR w_KEYNOTIFY, lvI ((p2_ &&& (7 : Int32)) - (1 : Int32))] [(.int p1_), (.int ((p0_ &&& (2147483647 : Int32)) % (5 : Int32))), (.int (1 : Int32))] _
                    refine st352 _ ?_
                    show own_S p e below m T352 82 #[lvI p0_, lvI p1_, lvI p2_, lvI ((p0_ &&& (2147483647 : Int32)) % (5 : Int32)), lvR w_KEYNOTIFY, lvI ((p2_ &&& (7 : Int32)) - (1 : Int32))] [(.int (1 : Int32)), (.int (1 : Int32))] _
                    refine XS.icmpNo X352.here hx rfl (hb hby at_82) rfl (teq (by decide : (1 : Int32) = (1 : Int32))).2 ?_
                    refine XS.aload X352.here hx rfl (hb hby at_85) rfl rfl ?_
                    refine XS.iload X352.here hx rfl (hb hby at_87) rfl ?_
                    show own_S p e below m T352 89 #[lvI p0_, lvI p1_, lvI p2_, lvI ((p0_ &&& (2147483647 : Int32)) % (5 : Int32)), lvR w_KEYNOTIFY, lvI ((p2_ &&& (7 : Int32)) - (1 : Int32))] [(.int ((p2_ &&& (7 : Int32)) - (1 : Int32))), (.ref w_KEYNOTIFY)] _
                    refine st354.trans ?_
                    refine XS.iloadN X354.here hx rfl (hb hby at_92) rfl ?_
                    refine XS.iload X354.here hx rfl (hb hby at_93) rfl ?_
                    show own_S p e below m T354 95 #[lvI p0_, lvI p1_, lvI p2_, lvI ((p0_ &&& (2147483647 : Int32)) % (5 : Int32)), lvR w_KEYNOTIFY, lvI ((p2_ &&& (7 : Int32)) - (1 : Int32))] [(.int ((p2_ &&& (7 : Int32)) - (1 : Int32))), (.int ((p0_ &&& (2147483647 : Int32)) % (5 : Int32))), (.int (1 : Int32))] _
                    refine st365 _ ?_
                    show own_S p e below m T365 98 #[lvI p0_, lvI p1_, lvI p2_, lvI ((p0_ &&& (2147483647 : Int32)) % (5 : Int32)), lvR w_KEYNOTIFY, lvI ((p2_ &&& (7 : Int32)) - (1 : Int32))] [(.int (1 : Int32)), (.int (1 : Int32))] _
                    refine XS.icmpNo X365.here hx rfl (hb hby at_98) rfl (teq (by decide : (1 : Int32) = (1 : Int32))).2 ?_
                    refine XS.iconst X365.here hx rfl (hb hby at_101) ?_
                    refine XS.goto X365.here hx rfl (pc0 := 102) (pc' := 106) rfl (hb hby at_102) (by decide) (by decide) ?_
                    exact kt
                  obtain ⟨fs, hr, hrun, hended, hW, hsame⟩ := X365.leave (v := some (.int (1 : Int32))) (fun h => by rw [Bd.returns] at h; cases h)
                  refine ⟨_, _, hG _ (pre369 _ (retN X365 hx (t := .boolean) Bd.returns (by simp) (hb hby at_106) hr)), hrun, hended, _, _, rfl, ?_, ⟨_, rfl⟩, hW, hsame.mono (by decide) (by decide)⟩
                  show QLaw Z p0_ p1_ p2_ w_GET w_SET w_DEL w_VDEL w_KEYNOTIFY h0 n0 _ T365.heap _
                  rw [e365']
                  exact ⟨rfl, N366⟩
                · exact absurd (by apply Decidable.by_contra; intro hz; have := own_i1; have := own_i2; have := own_i7; simp only [Int32.lt_iff_toInt_lt, ← Int32.toInt_inj] at hz hq354_2_0 hq354_2_1 hq365_13_4; omega) hq365_13_5
            · have f372 : Exa Z h0 w_KEYNOTIFY cn0 := P17.ext O0.2
              obtain ⟨cq371, kq371, q371a, q371b, q371c⟩ := isOf hZ e352' f372
              obtain ⟨_, _, ⟨T371, L371, k371, n371⟩, -, X371, ⟨Lc371, hQ371, l371, y371, z371⟩, st371⟩ := X352.virtualBack hx (y := (⟨"com/example/fawley/fawley/protocol/Command", "takes", "(I)Z"⟩ : MethodName)) (z := (⟨"com/example/fawley/fawley/protocol/Command", "takes", "(I)Z"⟩ : MethodName)) hown (mvT hZ (own_w hw 4 rfl)) (mvT hZ (own_w hw 5 rfl)) (notFace_of_selects (args := #[]) (mvT hZ (own_w hw 7 rfl))) (mvT hZ (own_w hw 7 rfl)) (mvT hZ (own_w hw 6 rfl)) (by decide) (backOf (W := 0) (rmTak l Z a0 hw [] w_KEYNOTIFY ((p2_ &&& (7 : Int32)) - (1 : Int32)) (1 : Int32) (2 : Int32) h0 n0 O0 P18 P19) hZ (own_w hw 8 rfl) (own_w hw 2 rfl) (by decide) (by decide)) q371a q371c (g := (mkF m 89 #[lvI p0_, lvI p1_, lvI p2_, lvI ((p0_ &&& (2147483647 : Int32)) % (5 : Int32)), lvR w_KEYNOTIFY, lvI ((p2_ &&& (7 : Int32)) - (1 : Int32))] [(.int ((p2_ &&& (7 : Int32)) - (1 : Int32))), (.ref w_KEYNOTIFY)])) rfl (by rw [hml]; rfl) (Steps.refl _) (argsL := [(.int ((p2_ &&& (7 : Int32)) - (1 : Int32)))]) (rest := []) (lenOf pd_0 rfl) rfl (by show 2 * 0 + _ ≤ _; exact Nat.le_of_eq rfl) (hb hby at_89) (fun _ _ => ⟨rfl, e352', (by decide : 0 + 0 ≤ _), (by decide : 0 + 0 ≤ _)⟩)
              dsimp only [Pt.U, Pt.locs, Pt.cells, Pt.slots] at X371 l371 y371 z371 st371 hQ371
              subst l371 y371 z371
              obtain ⟨h371, e371⟩ : ∃ z, T371.heap = z := ⟨_, rfl⟩
              rw [e371] at hQ371
              obtain ⟨rr371, rfl, hs371, N371q, hh371⟩ := hQ371
              have N373 := Fr.app N353 N371q
              have e371' : T371.heap = h0 := e371.trans hh371
              rcases hs371 with ⟨rfl, hq371_0_0⟩ | ⟨rfl, hq371_1_0, hq371_1_1⟩ | ⟨rfl, hq371_2_0, hq371_2_1⟩
              · obtain ⟨_, _, ⟨T374, L374, k374, n374⟩, -, X374, ⟨Lc374, hQ374, l374, y374, z374⟩, st374⟩ := Jvm.LawKit.callS X371 hx (y := (⟨"com/example/fawley/fawley/protocol/CommandTakesPinLaw", "expected", "(II)Z"⟩ : MethodName)) hown (mvT hZ (own_w hw 13 rfl)) (mvT hZ (own_w hw 14 rfl)) (mvT hZ (own_w hw 15 rfl)) (mvT hZ (own_w hw 16 rfl)) (by decide) (backOf (W := 1) (rmExp l Z a0 hw [] ((p0_ &&& (2147483647 : Int32)) % (5 : Int32)) ((p2_ &&& (7 : Int32)) - (1 : Int32)) h0 n0 O0 ) hZ (own_w hw 16 rfl) (own_w hw 15 rfl) (by decide) (by decide)) (g := (mkF m 95 #[lvI p0_, lvI p1_, lvI p2_, lvI ((p0_ &&& (2147483647 : Int32)) % (5 : Int32)), lvR w_KEYNOTIFY, lvI ((p2_ &&& (7 : Int32)) - (1 : Int32))] [(.int ((p2_ &&& (7 : Int32)) - (1 : Int32))), (.int ((p0_ &&& (2147483647 : Int32)) % (5 : Int32))), (.int (0 : Int32))])) rfl (by rw [hml]; rfl) (argsL := [(.int ((p0_ &&& (2147483647 : Int32)) % (5 : Int32))), (.int ((p2_ &&& (7 : Int32)) - (1 : Int32)))]) (rest := [(.int (0 : Int32))]) (lenOf pd_1 rfl) rfl (by show 2 * 0 + _ ≤ _; exact Nat.le_of_eq rfl) (hb hby at_95) (fun _ _ => ⟨rfl, e371', (by decide : 0 + 0 ≤ _), (by decide : 0 + 0 ≤ _)⟩)
                dsimp only [Pt.U, Pt.locs, Pt.cells, Pt.slots] at X374 l374 y374 z374 st374 hQ374
                subst l374 y374 z374
                obtain ⟨h374, e374⟩ : ∃ z, T374.heap = z := ⟨_, rfl⟩
                rw [e374] at hQ374
                obtain ⟨rr374, rfl, hs374, N374q, hh374⟩ := hQ374
                have N375 := Fr.app N373 N374q
                have e374' : T374.heap = h0 := e374.trans hh374
                rcases hs374 with ⟨rfl, hq374_0_0, hq374_0_1⟩ | ⟨rfl, hq374_1_0, hq374_1_1⟩ | ⟨rfl, hq374_2_0, hq374_2_1, hq374_2_2⟩ | ⟨rfl, hq374_3_0, hq374_3_1, hq374_3_2⟩ | ⟨rfl, hq374_4_0, hq374_4_1, hq374_4_2, hq374_4_3⟩ | ⟨rfl, hq374_5_0, hq374_5_1, hq374_5_2, hq374_5_3, hq374_5_4⟩ | ⟨rfl, hq374_6_0, hq374_6_1, hq374_6_2, hq374_6_3, hq374_6_4, hq374_6_5⟩ | ⟨rfl, hq374_7_0, hq374_7_1, hq374_7_2, hq374_7_3, hq374_7_4, hq374_7_5, hq374_7_6⟩ | ⟨rfl, hq374_8_0, hq374_8_1, hq374_8_2, hq374_8_3, hq374_8_4, hq374_8_5, hq374_8_6⟩ | ⟨rfl, hq374_9_0, hq374_9_1, hq374_9_2, hq374_9_3, hq374_9_4⟩ | ⟨rfl, hq374_10_0, hq374_10_1, hq374_10_2, hq374_10_3, hq374_10_4⟩ | ⟨rfl, hq374_11_0, hq374_11_1, hq374_11_2, hq374_11_3, hq374_11_4⟩ | ⟨rfl, hq374_12_0, hq374_12_1, hq374_12_2, hq374_12_3, hq374_12_4, hq374_12_5⟩ | ⟨rfl, hq374_13_0, hq374_13_1, hq374_13_2, hq374_13_3, hq374_13_4, hq374_13_5⟩
                · exact absurd hq374_0_0 (by intro hz; have := own_i0; have := own_i1; have := own_i2; have := own_j2147483647; have := own_i3; have := own_i5; simp only [Int32.lt_iff_toInt_lt, ← Int32.toInt_inj] at hz hq352_12_0 hq352_12_2 hq352_12_1 hq352_12_3; omega)
                · exact absurd hq374_1_0 (by intro hz; have := own_i0; have := own_i1; have := own_i2; have := own_j2147483647; have := own_i3; have := own_i5; simp only [Int32.lt_iff_toInt_lt, ← Int32.toInt_inj] at hz hq352_12_0 hq352_12_2 hq352_12_1 hq352_12_3; omega)
                · exact absurd hq374_2_1 (by intro hz; have := own_i0; have := own_i1; have := own_i2; have := own_j2147483647; have := own_i3; have := own_i5; simp only [Int32.lt_iff_toInt_lt, ← Int32.toInt_inj] at hz hq374_2_0 hq352_12_2 hq352_12_1 hq352_12_3; omega)
                · exact absurd hq374_3_1 (by intro hz; have := own_i0; have := own_i1; have := own_i2; have := own_j2147483647; have := own_i3; have := own_i5; simp only [Int32.lt_iff_toInt_lt, ← Int32.toInt_inj] at hz hq374_3_0 hq352_12_2 hq352_12_1 hq352_12_3; omega)
                · exact absurd hq374_4_2 (by intro hz; have := own_i0; have := own_i1; have := own_i2; have := own_j2147483647; have := own_i3; have := own_i5; simp only [Int32.lt_iff_toInt_lt, ← Int32.toInt_inj] at hz hq374_4_0 hq352_12_2 hq374_4_1 hq352_12_3; omega)
                · exact absurd hq374_5_2 (by intro hz; have := own_i0; have := own_i1; have := own_i2; have := own_j2147483647; have := own_i3; have := own_i5; simp only [Int32.lt_iff_toInt_lt, ← Int32.toInt_inj] at hz hq374_5_0 hq352_12_2 hq374_5_1 hq352_12_3; omega)
                · exact absurd hq374_6_2 (by intro hz; have := own_i0; have := own_i1; have := own_i2; have := own_j2147483647; have := own_i3; have := own_i5; simp only [Int32.lt_iff_toInt_lt, ← Int32.toInt_inj] at hz hq374_6_0 hq352_12_2 hq374_6_1 hq352_12_3; omega)
                · exact absurd hq374_7_2 (by intro hz; have := own_i0; have := own_i1; have := own_i2; have := own_j2147483647; have := own_i3; have := own_i5; simp only [Int32.lt_iff_toInt_lt, ← Int32.toInt_inj] at hz hq374_7_0 hq352_12_2 hq374_7_1 hq352_12_3; omega)
                · exact absurd hq374_8_2 (by intro hz; have := own_i0; have := own_i1; have := own_i2; have := own_j2147483647; have := own_i3; have := own_i5; simp only [Int32.lt_iff_toInt_lt, ← Int32.toInt_inj] at hz hq374_8_0 hq352_12_2 hq374_8_1 hq352_12_3; omega)
                · exact absurd hq374_9_3 (by intro hz; have := own_i0; have := own_i1; have := own_i2; have := own_j2147483647; have := own_i3; have := own_i5; simp only [Int32.lt_iff_toInt_lt, ← Int32.toInt_inj] at hz hq374_9_0 hq374_9_2 hq374_9_1 hq352_12_3; omega)
                · exact absurd hq374_10_3 (by intro hz; have := own_i0; have := own_i1; have := own_i2; have := own_j2147483647; have := own_i3; have := own_i5; simp only [Int32.lt_iff_toInt_lt, ← Int32.toInt_inj] at hz hq374_10_0 hq374_10_2 hq374_10_1 hq352_12_3; omega)
                · exact absurd hq374_11_4 (by intro hz; have := own_i1; have := own_i7; simp only [Int32.lt_iff_toInt_lt, ← Int32.toInt_inj] at hz hq371_0_0; omega)
                · exact absurd hq374_12_5 (by intro hz; have := own_i1; have := own_i2; have := own_i7; simp only [Int32.lt_iff_toInt_lt, ← Int32.toInt_inj] at hz hq371_0_0 hq374_12_4; omega)
                · have pre376 : ∀ t, own_S p e below m T374 106 #[lvI p0_, lvI p1_, lvI p2_, lvI ((p0_ &&& (2147483647 : Int32)) % (5 : Int32)), lvR w_KEYNOTIFY, lvI ((p2_ &&& (7 : Int32)) - (1 : Int32))] [(.int (1 : Int32))] t → G t := by
                    intro t kt
                    refine pre253 t ?_
                    show own_S p e below m s₁ 47 #[lvI p0_, lvI p1_, lvI p2_, lvI ((p0_ &&& (2147483647 : Int32)) % (5 : Int32)), .unset, .unset] [(.int (3 : Int32)), (.int ((p0_ &&& (2147483647 : Int32)) % (5 : Int32)))] _
                    refine XS.icmpYes X0.here hx rfl (pc0 := 47) (pc' := 58) rfl (hb hby at_47) rfl (feq hc254).2 (by decide) (by decide) ?_
                    show own_S p e below m s₁ 58 #[lvI p0_, lvI p1_, lvI p2_, lvI ((p0_ &&& (2147483647 : Int32)) % (5 : Int32)), .unset, .unset] [] _
                    refine st310 _ ?_
                    refine XS.astore X310.here hx rfl (hb hby at_61) rfl rfl (l' := #[lvI p0_, lvI p1_, lvI p2_, lvI ((p0_ &&& (2147483647 : Int32)) % (5 : Int32)), lvR w_KEYNOTIFY, .unset]) rfl ?_
                    refine XS.iloadN X310.here hx rfl (hb hby at_63) rfl ?_
                    refine XS.bipush X310.here hx rfl (hb hby at_64) ?_
                    refine XS.iand X310.here hx rfl (hb hby at_66) rfl ?_
                    refine XS.iconst X310.here hx rfl (hb hby at_67) ?_
                    show own_S p e below m T310 68 #[lvI p0_, lvI p1_, lvI p2_, lvI ((p0_ &&& (2147483647 : Int32)) % (5 : Int32)), lvR w_KEYNOTIFY, .unset] [(.int (1 : Int32)), (.int (p2_ &&& (7 : Int32)))] _
                    refine XS.isub X310.here hx rfl (hb hby at_68) rfl ?_
                    refine XS.istore X310.here hx rfl (hb hby at_69) rfl (l' := #[lvI p0_, lvI p1_, lvI p2_, lvI ((p0_ &&& (2147483647 : Int32)) % (5 : Int32)), lvR w_KEYNOTIFY, lvI ((p2_ &&& (7 : Int32)) - (1 : Int32))]) rfl ?_
                    refine XS.aload X310.here hx rfl (hb hby at_71) rfl rfl ?_
                    refine XS.iloadN X310.here hx rfl (hb hby at_73) rfl ?_
                    show own_S p e below m T310 74 #[lvI p0_, lvI p1_, lvI p2_, lvI ((p0_ &&& (2147483647 : Int32)) % (5 : Int32)), lvR w_KEYNOTIFY, lvI ((p2_ &&& (7 : Int32)) - (1 : Int32))] [(.int p1_), (.ref w_KEYNOTIFY)] _
                    refine st311.trans ?_
                    refine XS.iloadN X311.here hx rfl (hb hby at_77) rfl ?_
                    refine XS.iloadN X311.here hx rfl (hb hby at_78) rfl ?_
                    show own_S p e below m T311 79 #[lvI p0_, lvI p1_, lvI p2_, lvI ((p0_ &&& (2147483647 : Int32)) % (5 : Int32)), lvR w_KEYNOTIFY, lvI ((p2_ &&& (7 : Int32)) - (1 : Int32))] [(.int p1_), (.int ((p0_ &&& (2147483647 : Int32)) % (5 : Int32))), (.int (1 : Int32))] _
                    refine st352 _ ?_
                    show own_S p e below m T352 82 #[lvI p0_, lvI p1_, lvI p2_, lvI ((p0_ &&& (2147483647 : Int32)) % (5 : Int32)), lvR w_KEYNOTIFY, lvI ((p2_ &&& (7 : Int32)) - (1 : Int32))] [(.int (1 : Int32)), (.int (1 : Int32))] _
                    refine XS.icmpNo X352.here hx rfl (hb hby at_82) rfl (teq (by decide : (1 : Int32) = (1 : Int32))).2 ?_
                    refine XS.aload X352.here hx rfl (hb hby at_85) rfl rfl ?_
                    refine XS.iload X352.here hx rfl (hb hby at_87) rfl ?_
                    show own_S p e below m T352 89 #[lvI p0_, lvI p1_, lvI p2_, lvI ((p0_ &&& (2147483647 : Int32)) % (5 : Int32)), lvR w_KEYNOTIFY, lvI ((p2_ &&& (7 : Int32)) - (1 : Int32))] [(.int ((p2_ &&& (7 : Int32)) - (1 : Int32))), (.ref w_KEYNOTIFY)] _
                    refine st371.trans ?_
                    refine XS.iloadN X371.here hx rfl (hb hby at_92) rfl ?_
                    refine XS.iload X371.here hx rfl (hb hby at_93) rfl ?_
                    show own_S p e below m T371 95 #[lvI p0_, lvI p1_, lvI p2_, lvI ((p0_ &&& (2147483647 : Int32)) % (5 : Int32)), lvR w_KEYNOTIFY, lvI ((p2_ &&& (7 : Int32)) - (1 : Int32))] [(.int ((p2_ &&& (7 : Int32)) - (1 : Int32))), (.int ((p0_ &&& (2147483647 : Int32)) % (5 : Int32))), (.int (0 : Int32))] _
                    refine st374 _ ?_
                    show own_S p e below m T374 98 #[lvI p0_, lvI p1_, lvI p2_, lvI ((p0_ &&& (2147483647 : Int32)) % (5 : Int32)), lvR w_KEYNOTIFY, lvI ((p2_ &&& (7 : Int32)) - (1 : Int32))] [(.int (0 : Int32)), (.int (0 : Int32))] _
                    refine XS.icmpNo X374.here hx rfl (hb hby at_98) rfl (teq (by decide : (0 : Int32) = (0 : Int32))).2 ?_
                    refine XS.iconst X374.here hx rfl (hb hby at_101) ?_
                    refine XS.goto X374.here hx rfl (pc0 := 102) (pc' := 106) rfl (hb hby at_102) (by decide) (by decide) ?_
                    exact kt
                  obtain ⟨fs, hr, hrun, hended, hW, hsame⟩ := X374.leave (v := some (.int (1 : Int32))) (fun h => by rw [Bd.returns] at h; cases h)
                  refine ⟨_, _, hG _ (pre376 _ (retN X374 hx (t := .boolean) Bd.returns (by simp) (hb hby at_106) hr)), hrun, hended, _, _, rfl, ?_, ⟨_, rfl⟩, hW, hsame.mono (by decide) (by decide)⟩
                  show QLaw Z p0_ p1_ p2_ w_GET w_SET w_DEL w_VDEL w_KEYNOTIFY h0 n0 _ T374.heap _
                  rw [e374']
                  exact ⟨rfl, N375⟩
              · obtain ⟨_, _, ⟨T378, L378, k378, n378⟩, -, X378, ⟨Lc378, hQ378, l378, y378, z378⟩, st378⟩ := Jvm.LawKit.callS X371 hx (y := (⟨"com/example/fawley/fawley/protocol/CommandTakesPinLaw", "expected", "(II)Z"⟩ : MethodName)) hown (mvT hZ (own_w hw 13 rfl)) (mvT hZ (own_w hw 14 rfl)) (mvT hZ (own_w hw 15 rfl)) (mvT hZ (own_w hw 16 rfl)) (by decide) (backOf (W := 1) (rmExp l Z a0 hw [] ((p0_ &&& (2147483647 : Int32)) % (5 : Int32)) ((p2_ &&& (7 : Int32)) - (1 : Int32)) h0 n0 O0 ) hZ (own_w hw 16 rfl) (own_w hw 15 rfl) (by decide) (by decide)) (g := (mkF m 95 #[lvI p0_, lvI p1_, lvI p2_, lvI ((p0_ &&& (2147483647 : Int32)) % (5 : Int32)), lvR w_KEYNOTIFY, lvI ((p2_ &&& (7 : Int32)) - (1 : Int32))] [(.int ((p2_ &&& (7 : Int32)) - (1 : Int32))), (.int ((p0_ &&& (2147483647 : Int32)) % (5 : Int32))), (.int (0 : Int32))])) rfl (by rw [hml]; rfl) (argsL := [(.int ((p0_ &&& (2147483647 : Int32)) % (5 : Int32))), (.int ((p2_ &&& (7 : Int32)) - (1 : Int32)))]) (rest := [(.int (0 : Int32))]) (lenOf pd_1 rfl) rfl (by show 2 * 0 + _ ≤ _; exact Nat.le_of_eq rfl) (hb hby at_95) (fun _ _ => ⟨rfl, e371', (by decide : 0 + 0 ≤ _), (by decide : 0 + 0 ≤ _)⟩)
                dsimp only [Pt.U, Pt.locs, Pt.cells, Pt.slots] at X378 l378 y378 z378 st378 hQ378
                subst l378 y378 z378
                obtain ⟨h378, e378⟩ : ∃ z, T378.heap = z := ⟨_, rfl⟩
                rw [e378] at hQ378
                obtain ⟨rr378, rfl, hs378, N378q, hh378⟩ := hQ378
                have N379 := Fr.app N373 N378q
                have e378' : T378.heap = h0 := e378.trans hh378
                rcases hs378 with ⟨rfl, hq378_0_0, hq378_0_1⟩ | ⟨rfl, hq378_1_0, hq378_1_1⟩ | ⟨rfl, hq378_2_0, hq378_2_1, hq378_2_2⟩ | ⟨rfl, hq378_3_0, hq378_3_1, hq378_3_2⟩ | ⟨rfl, hq378_4_0, hq378_4_1, hq378_4_2, hq378_4_3⟩ | ⟨rfl, hq378_5_0, hq378_5_1, hq378_5_2, hq378_5_3, hq378_5_4⟩ | ⟨rfl, hq378_6_0, hq378_6_1, hq378_6_2, hq378_6_3, hq378_6_4, hq378_6_5⟩ | ⟨rfl, hq378_7_0, hq378_7_1, hq378_7_2, hq378_7_3, hq378_7_4, hq378_7_5, hq378_7_6⟩ | ⟨rfl, hq378_8_0, hq378_8_1, hq378_8_2, hq378_8_3, hq378_8_4, hq378_8_5, hq378_8_6⟩ | ⟨rfl, hq378_9_0, hq378_9_1, hq378_9_2, hq378_9_3, hq378_9_4⟩ | ⟨rfl, hq378_10_0, hq378_10_1, hq378_10_2, hq378_10_3, hq378_10_4⟩ | ⟨rfl, hq378_11_0, hq378_11_1, hq378_11_2, hq378_11_3, hq378_11_4⟩ | ⟨rfl, hq378_12_0, hq378_12_1, hq378_12_2, hq378_12_3, hq378_12_4, hq378_12_5⟩ | ⟨rfl, hq378_13_0, hq378_13_1, hq378_13_2, hq378_13_3, hq378_13_4, hq378_13_5⟩
                · exact absurd hq378_0_0 (by intro hz; have := own_i0; have := own_i1; have := own_i2; have := own_j2147483647; have := own_i3; have := own_i5; simp only [Int32.lt_iff_toInt_lt, ← Int32.toInt_inj] at hz hq352_12_0 hq352_12_2 hq352_12_1 hq352_12_3; omega)
                · exact absurd hq378_1_0 (by intro hz; have := own_i0; have := own_i1; have := own_i2; have := own_j2147483647; have := own_i3; have := own_i5; simp only [Int32.lt_iff_toInt_lt, ← Int32.toInt_inj] at hz hq352_12_0 hq352_12_2 hq352_12_1 hq352_12_3; omega)
                · exact absurd hq378_2_1 (by intro hz; have := own_i0; have := own_i1; have := own_i2; have := own_j2147483647; have := own_i3; have := own_i5; simp only [Int32.lt_iff_toInt_lt, ← Int32.toInt_inj] at hz hq378_2_0 hq352_12_2 hq352_12_1 hq352_12_3; omega)
                · exact absurd hq378_3_1 (by intro hz; have := own_i0; have := own_i1; have := own_i2; have := own_j2147483647; have := own_i3; have := own_i5; simp only [Int32.lt_iff_toInt_lt, ← Int32.toInt_inj] at hz hq378_3_0 hq352_12_2 hq352_12_1 hq352_12_3; omega)
                · exact absurd hq378_4_2 (by intro hz; have := own_i0; have := own_i1; have := own_i2; have := own_j2147483647; have := own_i3; have := own_i5; simp only [Int32.lt_iff_toInt_lt, ← Int32.toInt_inj] at hz hq378_4_0 hq352_12_2 hq378_4_1 hq352_12_3; omega)
                · exact absurd hq378_5_2 (by intro hz; have := own_i0; have := own_i1; have := own_i2; have := own_j2147483647; have := own_i3; have := own_i5; simp only [Int32.lt_iff_toInt_lt, ← Int32.toInt_inj] at hz hq378_5_0 hq352_12_2 hq378_5_1 hq352_12_3; omega)
                · exact absurd hq378_6_2 (by intro hz; have := own_i0; have := own_i1; have := own_i2; have := own_j2147483647; have := own_i3; have := own_i5; simp only [Int32.lt_iff_toInt_lt, ← Int32.toInt_inj] at hz hq378_6_0 hq352_12_2 hq378_6_1 hq352_12_3; omega)
                · exact absurd hq378_7_2 (by intro hz; have := own_i0; have := own_i1; have := own_i2; have := own_j2147483647; have := own_i3; have := own_i5; simp only [Int32.lt_iff_toInt_lt, ← Int32.toInt_inj] at hz hq378_7_0 hq352_12_2 hq378_7_1 hq352_12_3; omega)
                · exact absurd hq378_8_2 (by intro hz; have := own_i0; have := own_i1; have := own_i2; have := own_j2147483647; have := own_i3; have := own_i5; simp only [Int32.lt_iff_toInt_lt, ← Int32.toInt_inj] at hz hq378_8_0 hq352_12_2 hq378_8_1 hq352_12_3; omega)
                · exact absurd hq378_9_3 (by intro hz; have := own_i0; have := own_i1; have := own_i2; have := own_j2147483647; have := own_i3; have := own_i5; simp only [Int32.lt_iff_toInt_lt, ← Int32.toInt_inj] at hz hq378_9_0 hq378_9_2 hq378_9_1 hq352_12_3; omega)
                · exact absurd hq378_10_3 (by intro hz; have := own_i0; have := own_i1; have := own_i2; have := own_j2147483647; have := own_i3; have := own_i5; simp only [Int32.lt_iff_toInt_lt, ← Int32.toInt_inj] at hz hq378_10_0 hq378_10_2 hq378_10_1 hq352_12_3; omega)
                · exact absurd hq378_11_4 (by intro hz; have := own_i1; have := own_i2; have := own_i7; simp only [Int32.lt_iff_toInt_lt, ← Int32.toInt_inj] at hz hq371_1_0 hq371_1_1; omega)
                · exact absurd hq378_12_5 (by intro hz; have := own_i1; have := own_i2; have := own_i7; simp only [Int32.lt_iff_toInt_lt, ← Int32.toInt_inj] at hz hq371_1_0 hq371_1_1 hq378_12_4; omega)
                · have pre380 : ∀ t, own_S p e below m T378 106 #[lvI p0_, lvI p1_, lvI p2_, lvI ((p0_ &&& (2147483647 : Int32)) % (5 : Int32)), lvR w_KEYNOTIFY, lvI ((p2_ &&& (7 : Int32)) - (1 : Int32))] [(.int (1 : Int32))] t → G t := by
                    intro t kt
                    refine pre253 t ?_
                    show own_S p e below m s₁ 47 #[lvI p0_, lvI p1_, lvI p2_, lvI ((p0_ &&& (2147483647 : Int32)) % (5 : Int32)), .unset, .unset] [(.int (3 : Int32)), (.int ((p0_ &&& (2147483647 : Int32)) % (5 : Int32)))] _
                    refine XS.icmpYes X0.here hx rfl (pc0 := 47) (pc' := 58) rfl (hb hby at_47) rfl (feq hc254).2 (by decide) (by decide) ?_
                    show own_S p e below m s₁ 58 #[lvI p0_, lvI p1_, lvI p2_, lvI ((p0_ &&& (2147483647 : Int32)) % (5 : Int32)), .unset, .unset] [] _
                    refine st310 _ ?_
                    refine XS.astore X310.here hx rfl (hb hby at_61) rfl rfl (l' := #[lvI p0_, lvI p1_, lvI p2_, lvI ((p0_ &&& (2147483647 : Int32)) % (5 : Int32)), lvR w_KEYNOTIFY, .unset]) rfl ?_
                    refine XS.iloadN X310.here hx rfl (hb hby at_63) rfl ?_
                    refine XS.bipush X310.here hx rfl (hb hby at_64) ?_
                    refine XS.iand X310.here hx rfl (hb hby at_66) rfl ?_
                    refine XS.iconst X310.here hx rfl (hb hby at_67) ?_
                    show own_S p e below m T310 68 #[lvI p0_, lvI p1_, lvI p2_, lvI ((p0_ &&& (2147483647 : Int32)) % (5 : Int32)), lvR w_KEYNOTIFY, .unset] [(.int (1 : Int32)), (.int (p2_ &&& (7 : Int32)))] _
                    refine XS.isub X310.here hx rfl (hb hby at_68) rfl ?_
                    refine XS.istore X310.here hx rfl (hb hby at_69) rfl (l' := #[lvI p0_, lvI p1_, lvI p2_, lvI ((p0_ &&& (2147483647 : Int32)) % (5 : Int32)), lvR w_KEYNOTIFY, lvI ((p2_ &&& (7 : Int32)) - (1 : Int32))]) rfl ?_
                    refine XS.aload X310.here hx rfl (hb hby at_71) rfl rfl ?_
                    refine XS.iloadN X310.here hx rfl (hb hby at_73) rfl ?_
                    show own_S p e below m T310 74 #[lvI p0_, lvI p1_, lvI p2_, lvI ((p0_ &&& (2147483647 : Int32)) % (5 : Int32)), lvR w_KEYNOTIFY, lvI ((p2_ &&& (7 : Int32)) - (1 : Int32))] [(.int p1_), (.ref w_KEYNOTIFY)] _
                    refine st311.trans ?_
                    refine XS.iloadN X311.here hx rfl (hb hby at_77) rfl ?_
                    refine XS.iloadN X311.here hx rfl (hb hby at_78) rfl ?_
                    show own_S p e below m T311 79 #[lvI p0_, lvI p1_, lvI p2_, lvI ((p0_ &&& (2147483647 : Int32)) % (5 : Int32)), lvR w_KEYNOTIFY, lvI ((p2_ &&& (7 : Int32)) - (1 : Int32))] [(.int p1_), (.int ((p0_ &&& (2147483647 : Int32)) % (5 : Int32))), (.int (1 : Int32))] _
                    refine st352 _ ?_
                    show own_S p e below m T352 82 #[lvI p0_, lvI p1_, lvI p2_, lvI ((p0_ &&& (2147483647 : Int32)) % (5 : Int32)), lvR w_KEYNOTIFY, lvI ((p2_ &&& (7 : Int32)) - (1 : Int32))] [(.int (1 : Int32)), (.int (1 : Int32))] _
                    refine XS.icmpNo X352.here hx rfl (hb hby at_82) rfl (teq (by decide : (1 : Int32) = (1 : Int32))).2 ?_
                    refine XS.aload X352.here hx rfl (hb hby at_85) rfl rfl ?_
                    refine XS.iload X352.here hx rfl (hb hby at_87) rfl ?_
                    show own_S p e below m T352 89 #[lvI p0_, lvI p1_, lvI p2_, lvI ((p0_ &&& (2147483647 : Int32)) % (5 : Int32)), lvR w_KEYNOTIFY, lvI ((p2_ &&& (7 : Int32)) - (1 : Int32))] [(.int ((p2_ &&& (7 : Int32)) - (1 : Int32))), (.ref w_KEYNOTIFY)] _
                    refine st371.trans ?_
                    refine XS.iloadN X371.here hx rfl (hb hby at_92) rfl ?_
                    refine XS.iload X371.here hx rfl (hb hby at_93) rfl ?_
                    show own_S p e below m T371 95 #[lvI p0_, lvI p1_, lvI p2_, lvI ((p0_ &&& (2147483647 : Int32)) % (5 : Int32)), lvR w_KEYNOTIFY, lvI ((p2_ &&& (7 : Int32)) - (1 : Int32))] [(.int ((p2_ &&& (7 : Int32)) - (1 : Int32))), (.int ((p0_ &&& (2147483647 : Int32)) % (5 : Int32))), (.int (0 : Int32))] _
                    refine st378 _ ?_
                    show own_S p e below m T378 98 #[lvI p0_, lvI p1_, lvI p2_, lvI ((p0_ &&& (2147483647 : Int32)) % (5 : Int32)), lvR w_KEYNOTIFY, lvI ((p2_ &&& (7 : Int32)) - (1 : Int32))] [(.int (0 : Int32)), (.int (0 : Int32))] _
                    refine XS.icmpNo X378.here hx rfl (hb hby at_98) rfl (teq (by decide : (0 : Int32) = (0 : Int32))).2 ?_
                    refine XS.iconst X378.here hx rfl (hb hby at_101) ?_
                    refine XS.goto X378.here hx rfl (pc0 := 102) (pc' := 106) rfl (hb hby at_102) (by decide) (by decide) ?_
                    exact kt
                  obtain ⟨fs, hr, hrun, hended, hW, hsame⟩ := X378.leave (v := some (.int (1 : Int32))) (fun h => by rw [Bd.returns] at h; cases h)
                  refine ⟨_, _, hG _ (pre380 _ (retN X378 hx (t := .boolean) Bd.returns (by simp) (hb hby at_106) hr)), hrun, hended, _, _, rfl, ?_, ⟨_, rfl⟩, hW, hsame.mono (by decide) (by decide)⟩
                  show QLaw Z p0_ p1_ p2_ w_GET w_SET w_DEL w_VDEL w_KEYNOTIFY h0 n0 _ T378.heap _
                  rw [e378']
                  exact ⟨rfl, N379⟩
              · obtain ⟨_, _, ⟨T382, L382, k382, n382⟩, -, X382, ⟨Lc382, hQ382, l382, y382, z382⟩, st382⟩ := Jvm.LawKit.callS X371 hx (y := (⟨"com/example/fawley/fawley/protocol/CommandTakesPinLaw", "expected", "(II)Z"⟩ : MethodName)) hown (mvT hZ (own_w hw 13 rfl)) (mvT hZ (own_w hw 14 rfl)) (mvT hZ (own_w hw 15 rfl)) (mvT hZ (own_w hw 16 rfl)) (by decide) (backOf (W := 1) (rmExp l Z a0 hw [] ((p0_ &&& (2147483647 : Int32)) % (5 : Int32)) ((p2_ &&& (7 : Int32)) - (1 : Int32)) h0 n0 O0 ) hZ (own_w hw 16 rfl) (own_w hw 15 rfl) (by decide) (by decide)) (g := (mkF m 95 #[lvI p0_, lvI p1_, lvI p2_, lvI ((p0_ &&& (2147483647 : Int32)) % (5 : Int32)), lvR w_KEYNOTIFY, lvI ((p2_ &&& (7 : Int32)) - (1 : Int32))] [(.int ((p2_ &&& (7 : Int32)) - (1 : Int32))), (.int ((p0_ &&& (2147483647 : Int32)) % (5 : Int32))), (.int (1 : Int32))])) rfl (by rw [hml]; rfl) (argsL := [(.int ((p0_ &&& (2147483647 : Int32)) % (5 : Int32))), (.int ((p2_ &&& (7 : Int32)) - (1 : Int32)))]) (rest := [(.int (1 : Int32))]) (lenOf pd_1 rfl) rfl (by show 2 * 0 + _ ≤ _; exact Nat.le_of_eq rfl) (hb hby at_95) (fun _ _ => ⟨rfl, e371', (by decide : 0 + 0 ≤ _), (by decide : 0 + 0 ≤ _)⟩)
                dsimp only [Pt.U, Pt.locs, Pt.cells, Pt.slots] at X382 l382 y382 z382 st382 hQ382
                subst l382 y382 z382
                obtain ⟨h382, e382⟩ : ∃ z, T382.heap = z := ⟨_, rfl⟩
                rw [e382] at hQ382
                obtain ⟨rr382, rfl, hs382, N382q, hh382⟩ := hQ382
                have N383 := Fr.app N373 N382q
                have e382' : T382.heap = h0 := e382.trans hh382
                rcases hs382 with ⟨rfl, hq382_0_0, hq382_0_1⟩ | ⟨rfl, hq382_1_0, hq382_1_1⟩ | ⟨rfl, hq382_2_0, hq382_2_1, hq382_2_2⟩ | ⟨rfl, hq382_3_0, hq382_3_1, hq382_3_2⟩ | ⟨rfl, hq382_4_0, hq382_4_1, hq382_4_2, hq382_4_3⟩ | ⟨rfl, hq382_5_0, hq382_5_1, hq382_5_2, hq382_5_3, hq382_5_4⟩ | ⟨rfl, hq382_6_0, hq382_6_1, hq382_6_2, hq382_6_3, hq382_6_4, hq382_6_5⟩ | ⟨rfl, hq382_7_0, hq382_7_1, hq382_7_2, hq382_7_3, hq382_7_4, hq382_7_5, hq382_7_6⟩ | ⟨rfl, hq382_8_0, hq382_8_1, hq382_8_2, hq382_8_3, hq382_8_4, hq382_8_5, hq382_8_6⟩ | ⟨rfl, hq382_9_0, hq382_9_1, hq382_9_2, hq382_9_3, hq382_9_4⟩ | ⟨rfl, hq382_10_0, hq382_10_1, hq382_10_2, hq382_10_3, hq382_10_4⟩ | ⟨rfl, hq382_11_0, hq382_11_1, hq382_11_2, hq382_11_3, hq382_11_4⟩ | ⟨rfl, hq382_12_0, hq382_12_1, hq382_12_2, hq382_12_3, hq382_12_4, hq382_12_5⟩ | ⟨rfl, hq382_13_0, hq382_13_1, hq382_13_2, hq382_13_3, hq382_13_4, hq382_13_5⟩
                · exact absurd hq382_0_0 (by intro hz; have := own_i0; have := own_i1; have := own_i2; have := own_j2147483647; have := own_i3; have := own_i5; simp only [Int32.lt_iff_toInt_lt, ← Int32.toInt_inj] at hz hq352_12_0 hq352_12_2 hq352_12_1 hq352_12_3; omega)
                · exact absurd hq382_1_0 (by intro hz; have := own_i0; have := own_i1; have := own_i2; have := own_j2147483647; have := own_i3; have := own_i5; simp only [Int32.lt_iff_toInt_lt, ← Int32.toInt_inj] at hz hq352_12_0 hq352_12_2 hq352_12_1 hq352_12_3; omega)
                · exact absurd hq382_2_1 (by intro hz; have := own_i0; have := own_i1; have := own_i2; have := own_j2147483647; have := own_i3; have := own_i5; simp only [Int32.lt_iff_toInt_lt, ← Int32.toInt_inj] at hz hq382_2_0 hq352_12_2 hq352_12_1 hq352_12_3; omega)
                · exact absurd hq382_3_1 (by intro hz; have := own_i0; have := own_i1; have := own_i2; have := own_j2147483647; have := own_i3; have := own_i5; simp only [Int32.lt_iff_toInt_lt, ← Int32.toInt_inj] at hz hq382_3_0 hq352_12_2 hq352_12_1 hq352_12_3; omega)
                · exact absurd hq382_4_2 (by intro hz; have := own_i0; have := own_i1; have := own_i2; have := own_j2147483647; have := own_i3; have := own_i5; simp only [Int32.lt_iff_toInt_lt, ← Int32.toInt_inj] at hz hq382_4_0 hq352_12_2 hq382_4_1 hq352_12_3; omega)
                · exact absurd hq382_5_2 (by intro hz; have := own_i0; have := own_i1; have := own_i2; have := own_j2147483647; have := own_i3; have := own_i5; simp only [Int32.lt_iff_toInt_lt, ← Int32.toInt_inj] at hz hq382_5_0 hq352_12_2 hq382_5_1 hq352_12_3; omega)
                · exact absurd hq382_6_2 (by intro hz; have := own_i0; have := own_i1; have := own_i2; have := own_j2147483647; have := own_i3; have := own_i5; simp only [Int32.lt_iff_toInt_lt, ← Int32.toInt_inj] at hz hq382_6_0 hq352_12_2 hq382_6_1 hq352_12_3; omega)
                · exact absurd hq382_7_2 (by intro hz; have := own_i0; have := own_i1; have := own_i2; have := own_j2147483647; have := own_i3; have := own_i5; simp only [Int32.lt_iff_toInt_lt, ← Int32.toInt_inj] at hz hq382_7_0 hq352_12_2 hq382_7_1 hq352_12_3; omega)
                · exact absurd hq382_8_2 (by intro hz; have := own_i0; have := own_i1; have := own_i2; have := own_j2147483647; have := own_i3; have := own_i5; simp only [Int32.lt_iff_toInt_lt, ← Int32.toInt_inj] at hz hq382_8_0 hq352_12_2 hq382_8_1 hq352_12_3; omega)
                · exact absurd hq382_9_3 (by intro hz; have := own_i0; have := own_i1; have := own_i2; have := own_j2147483647; have := own_i3; have := own_i5; simp only [Int32.lt_iff_toInt_lt, ← Int32.toInt_inj] at hz hq382_9_0 hq382_9_2 hq382_9_1 hq352_12_3; omega)
                · exact absurd hq382_10_3 (by intro hz; have := own_i0; have := own_i1; have := own_i2; have := own_j2147483647; have := own_i3; have := own_i5; simp only [Int32.lt_iff_toInt_lt, ← Int32.toInt_inj] at hz hq382_10_0 hq382_10_2 hq382_10_1 hq352_12_3; omega)
                · have pre384 : ∀ t, own_S p e below m T382 106 #[lvI p0_, lvI p1_, lvI p2_, lvI ((p0_ &&& (2147483647 : Int32)) % (5 : Int32)), lvR w_KEYNOTIFY, lvI ((p2_ &&& (7 : Int32)) - (1 : Int32))] [(.int (1 : Int32))] t → G t := by
                    intro t kt
                    refine pre253 t ?_
                    show own_S p e below m s₁ 47 #[lvI p0_, lvI p1_, lvI p2_, lvI ((p0_ &&& (2147483647 : Int32)) % (5 : Int32)), .unset, .unset] [(.int (3 : Int32)), (.int ((p0_ &&& (2147483647 : Int32)) % (5 : Int32)))] _
                    refine XS.icmpYes X0.here hx rfl (pc0 := 47) (pc' := 58) rfl (hb hby at_47) rfl (feq hc254).2 (by decide) (by decide) ?_
                    show own_S p e below m s₁ 58 #[lvI p0_, lvI p1_, lvI p2_, lvI ((p0_ &&& (2147483647 : Int32)) % (5 : Int32)), .unset, .unset] [] _
                    refine st310 _ ?_
                    refine XS.astore X310.here hx rfl (hb hby at_61) rfl rfl (l' := #[lvI p0_, lvI p1_, lvI p2_, lvI ((p0_ &&& (2147483647 : Int32)) % (5 : Int32)), lvR w_KEYNOTIFY, .unset]) rfl ?_
                    refine XS.iloadN X310.here hx rfl (hb hby at_63) rfl ?_
                    refine XS.bipush X310.here hx rfl (hb hby at_64) ?_
                    refine XS.iand X310.here hx rfl (hb hby at_66) rfl ?_
                    refine XS.iconst X310.here hx rfl (hb hby at_67) ?_
                    show own_S p e below m T310 68 #[lvI p0_, lvI p1_, lvI p2_, lvI ((p0_ &&& (2147483647 : Int32)) % (5 : Int32)), lvR w_KEYNOTIFY, .unset] [(.int (1 : Int32)), (.int (p2_ &&& (7 : Int32)))] _
                    refine XS.isub X310.here hx rfl (hb hby at_68) rfl ?_
                    refine XS.istore X310.here hx rfl (hb hby at_69) rfl (l' := #[lvI p0_, lvI p1_, lvI p2_, lvI ((p0_ &&& (2147483647 : Int32)) % (5 : Int32)), lvR w_KEYNOTIFY, lvI ((p2_ &&& (7 : Int32)) - (1 : Int32))]) rfl ?_
                    refine XS.aload X310.here hx rfl (hb hby at_71) rfl rfl ?_
                    refine XS.iloadN X310.here hx rfl (hb hby at_73) rfl ?_
                    show own_S p e below m T310 74 #[lvI p0_, lvI p1_, lvI p2_, lvI ((p0_ &&& (2147483647 : Int32)) % (5 : Int32)), lvR w_KEYNOTIFY, lvI ((p2_ &&& (7 : Int32)) - (1 : Int32))] [(.int p1_), (.ref w_KEYNOTIFY)] _
                    refine st311.trans ?_
                    refine XS.iloadN X311.here hx rfl (hb hby at_77) rfl ?_
                    refine XS.iloadN X311.here hx rfl (hb hby at_78) rfl ?_
                    show own_S p e below m T311 79 #[lvI p0_, lvI p1_, lvI p2_, lvI ((p0_ &&& (2147483647 : Int32)) % (5 : Int32)), lvR w_KEYNOTIFY, lvI ((p2_ &&& (7 : Int32)) - (1 : Int32))] [(.int p1_), (.int ((p0_ &&& (2147483647 : Int32)) % (5 : Int32))), (.int (1 : Int32))] _
                    refine st352 _ ?_
                    show own_S p e below m T352 82 #[lvI p0_, lvI p1_, lvI p2_, lvI ((p0_ &&& (2147483647 : Int32)) % (5 : Int32)), lvR w_KEYNOTIFY, lvI ((p2_ &&& (7 : Int32)) - (1 : Int32))] [(.int (1 : Int32)), (.int (1 : Int32))] _
                    refine XS.icmpNo X352.here hx rfl (hb hby at_82) rfl (teq (by decide : (1 : Int32) = (1 : Int32))).2 ?_
                    refine XS.aload X352.here hx rfl (hb hby at_85) rfl rfl ?_
                    refine XS.iload X352.here hx rfl (hb hby at_87) rfl ?_
                    show own_S p e below m T352 89 #[lvI p0_, lvI p1_, lvI p2_, lvI ((p0_ &&& (2147483647 : Int32)) % (5 : Int32)), lvR w_KEYNOTIFY, lvI ((p2_ &&& (7 : Int32)) - (1 : Int32))] [(.int ((p2_ &&& (7 : Int32)) - (1 : Int32))), (.ref w_KEYNOTIFY)] _
                    refine st371.trans ?_
                    refine XS.iloadN X371.here hx rfl (hb hby at_92) rfl ?_
                    refine XS.iload X371.here hx rfl (hb hby at_93) rfl ?_
                    show own_S p e below m T371 95 #[lvI p0_, lvI p1_, lvI p2_, lvI ((p0_ &&& (2147483647 : Int32)) % (5 : Int32)), lvR w_KEYNOTIFY, lvI ((p2_ &&& (7 : Int32)) - (1 : Int32))] [(.int ((p2_ &&& (7 : Int32)) - (1 : Int32))), (.int ((p0_ &&& (2147483647 : Int32)) % (5 : Int32))), (.int (1 : Int32))] _
                    refine st382 _ ?_
                    show own_S p e below m T382 98 #[lvI p0_, lvI p1_, lvI p2_, lvI ((p0_ &&& (2147483647 : Int32)) % (5 : Int32)), lvR w_KEYNOTIFY, lvI ((p2_ &&& (7 : Int32)) - (1 : Int32))] [(.int (1 : Int32)), (.int (1 : Int32))] _
                    refine XS.icmpNo X382.here hx rfl (hb hby at_98) rfl (teq (by decide : (1 : Int32) = (1 : Int32))).2 ?_
                    refine XS.iconst X382.here hx rfl (hb hby at_101) ?_
                    refine XS.goto X382.here hx rfl (pc0 := 102) (pc' := 106) rfl (hb hby at_102) (by decide) (by decide) ?_
                    exact kt
                  obtain ⟨fs, hr, hrun, hended, hW, hsame⟩ := X382.leave (v := some (.int (1 : Int32))) (fun h => by rw [Bd.returns] at h; cases h)
                  refine ⟨_, _, hG _ (pre384 _ (retN X382 hx (t := .boolean) Bd.returns (by simp) (hb hby at_106) hr)), hrun, hended, _, _, rfl, ?_, ⟨_, rfl⟩, hW, hsame.mono (by decide) (by decide)⟩
                  show QLaw Z p0_ p1_ p2_ w_GET w_SET w_DEL w_VDEL w_KEYNOTIFY h0 n0 _ T382.heap _
                  rw [e382']
                  exact ⟨rfl, N383⟩
                · have pre386 : ∀ t, own_S p e below m T382 106 #[lvI p0_, lvI p1_, lvI p2_, lvI ((p0_ &&& (2147483647 : Int32)) % (5 : Int32)), lvR w_KEYNOTIFY, lvI ((p2_ &&& (7 : Int32)) - (1 : Int32))] [(.int (1 : Int32))] t → G t := by
                    intro t kt
                    refine pre253 t ?_
                    show own_S p e below m s₁ 47 #[lvI p0_, lvI p1_, lvI p2_, lvI ((p0_ &&& (2147483647 : Int32)) % (5 : Int32)), .unset, .unset] [(.int (3 : Int32)), (.int ((p0_ &&& (2147483647 : Int32)) % (5 : Int32)))] _
                    refine XS.icmpYes X0.here hx rfl (pc0 := 47) (pc' := 58) rfl (hb hby at_47) rfl (feq hc254).2 (by decide) (by decide) ?_
                    show own_S p e below m s₁ 58 #[lvI p0_, lvI p1_, lvI p2_, lvI ((p0_ &&& (2147483647 : Int32)) % (5 : Int32)), .unset, .unset] [] _
                    refine st310 _ ?_
                    refine XS.astore X310.here hx rfl (hb hby at_61) rfl rfl (l' := #[lvI p0_, lvI p1_, lvI p2_, lvI ((p0_ &&& (2147483647 : Int32)) % (5 : Int32)), lvR w_KEYNOTIFY, .unset]) rfl ?_
                    refine XS.iloadN X310.here hx rfl (hb hby at_63) rfl ?_
                    refine XS.bipush X310.here hx rfl (hb hby at_64) ?_
                    refine XS.iand X310.here hx rfl (hb hby at_66) rfl ?_
                    refine XS.iconst X310.here hx rfl (hb hby at_67) ?_
                    show own_S p e below m T310 68 #[lvI p0_, lvI p1_, lvI p2_, lvI ((p0_ &&& (2147483647 : Int32)) % (5 : Int32)), lvR w_KEYNOTIFY, .unset] [(.int (1 : Int32)), (.int (p2_ &&& (7 : Int32)))] _
                    refine XS.isub X310.here hx rfl (hb hby at_68) rfl ?_
                    refine XS.istore X310.here hx rfl (hb hby at_69) rfl (l' := #[lvI p0_, lvI p1_, lvI p2_, lvI ((p0_ &&& (2147483647 : Int32)) % (5 : Int32)), lvR w_KEYNOTIFY, lvI ((p2_ &&& (7 : Int32)) - (1 : Int32))]) rfl ?_
                    refine XS.aload X310.here hx rfl (hb hby at_71) rfl rfl ?_
                    refine XS.iloadN X310.here hx rfl (hb hby at_73) rfl ?_
                    show own_S p e below m T310 74 #[lvI p0_, lvI p1_, lvI p2_, lvI ((p0_ &&& (2147483647 : Int32)) % (5 : Int32)), lvR w_KEYNOTIFY, lvI ((p2_ &&& (7 : Int32)) - (1 : Int32))] [(.int p1_), (.ref w_KEYNOTIFY)] _
                    refine st311.trans ?_
                    refine XS.iloadN X311.here hx rfl (hb hby at_77) rfl ?_
                    refine XS.iloadN X311.here hx rfl (hb hby at_78) rfl ?_
                    show own_S p e below m T311 79 #[lvI p0_, lvI p1_, lvI p2_, lvI ((p0_ &&& (2147483647 : Int32)) % (5 : Int32)), lvR w_KEYNOTIFY, lvI ((p2_ &&& (7 : Int32)) - (1 : Int32))] [(.int p1_), (.int ((p0_ &&& (2147483647 : Int32)) % (5 : Int32))), (.int (1 : Int32))] _
                    refine st352 _ ?_
                    show own_S p e below m T352 82 #[lvI p0_, lvI p1_, lvI p2_, lvI ((p0_ &&& (2147483647 : Int32)) % (5 : Int32)), lvR w_KEYNOTIFY, lvI ((p2_ &&& (7 : Int32)) - (1 : Int32))] [(.int (1 : Int32)), (.int (1 : Int32))] _
                    refine XS.icmpNo X352.here hx rfl (hb hby at_82) rfl (teq (by decide : (1 : Int32) = (1 : Int32))).2 ?_
                    refine XS.aload X352.here hx rfl (hb hby at_85) rfl rfl ?_
                    refine XS.iload X352.here hx rfl (hb hby at_87) rfl ?_
                    show own_S p e below m T352 89 #[lvI p0_, lvI p1_, lvI p2_, lvI ((p0_ &&& (2147483647 : Int32)) % (5 : Int32)), lvR w_KEYNOTIFY, lvI ((p2_ &&& (7 : Int32)) - (1 : Int32))] [(.int ((p2_ &&& (7 : Int32)) - (1 : Int32))), (.ref w_KEYNOTIFY)] _
                    refine st371.trans ?_
                    refine XS.iloadN X371.here hx rfl (hb hby at_92) rfl ?_
                    refine XS.iload X371.here hx rfl (hb hby at_93) rfl ?_
                    show own_S p e below m T371 95 #[lvI p0_, lvI p1_, lvI p2_, lvI ((p0_ &&& (2147483647 : Int32)) % (5 : Int32)), lvR w_KEYNOTIFY, lvI ((p2_ &&& (7 : Int32)) - (1 : Int32))] [(.int ((p2_ &&& (7 : Int32)) - (1 : Int32))), (.int ((p0_ &&& (2147483647 : Int32)) % (5 : Int32))), (.int (1 : Int32))] _
                    refine st382 _ ?_
                    show own_S p e below m T382 98 #[lvI p0_, lvI p1_, lvI p2_, lvI ((p0_ &&& (2147483647 : Int32)) % (5 : Int32)), lvR w_KEYNOTIFY, lvI ((p2_ &&& (7 : Int32)) - (1 : Int32))] [(.int (1 : Int32)), (.int (1 : Int32))] _
                    refine XS.icmpNo X382.here hx rfl (hb hby at_98) rfl (teq (by decide : (1 : Int32) = (1 : Int32))).2 ?_
                    refine XS.iconst X382.here hx rfl (hb hby at_101) ?_
                    refine XS.goto X382.here hx rfl (pc0 := 102) (pc' := 106) rfl (hb hby at_102) (by decide) (by decide) ?_
                    exact kt
                  obtain ⟨fs, hr, hrun, hended, hW, hsame⟩ := X382.leave (v := some (.int (1 : Int32))) (fun h => by rw [Bd.returns] at h; cases h)
                  refine ⟨_, _, hG _ (pre386 _ (retN X382 hx (t := .boolean) Bd.returns (by simp) (hb hby at_106) hr)), hrun, hended, _, _, rfl, ?_, ⟨_, rfl⟩, hW, hsame.mono (by decide) (by decide)⟩
                  show QLaw Z p0_ p1_ p2_ w_GET w_SET w_DEL w_VDEL w_KEYNOTIFY h0 n0 _ T382.heap _
                  rw [e382']
                  exact ⟨rfl, N383⟩
                · exact absurd (by apply Decidable.by_contra; intro hz; have := own_i1; have := own_i2; have := own_i7; simp only [Int32.lt_iff_toInt_lt, ← Int32.toInt_inj] at hz hq371_2_0 hq371_2_1 hq382_13_4; omega) hq382_13_5
            · exact absurd (by apply Decidable.by_contra; intro hz; have := own_i1; have := own_i2; simp only [Int32.lt_iff_toInt_lt, ← Int32.toInt_inj] at hz hq311_2_0 hq311_2_1 hq352_13_4; omega) hq352_13_5
set_option maxRecDepth 65536 in
set_option maxHeartbeats 40000000 in
theorem comes_1 {Post : Tables → Env → Array Value → State → Outcome → State → Prop} (hpost : ∀ tb e args s v u, (limb_1_1.after args s (.returned v) u = true ∧ limb_1_2.after args s (.returned v) u = true ∧ True) → FrameEnd s (.returned v) u (Jvm.fieldLocs frame_1_writes args s ++ Jvm.arrayLocs frame_1_arrays args s ++ Jvm.staticLocs frame_1_statics s) 0 0 → Post tb e args s (.returned v) u) :
    ArmFor flags0 classFile x code maxLocals ret World_1 tables_1 room_1 Calls_1 rest_1 Pre_1 Post := by
  intro l hfl _ _ p e ha hc hk s m args below hf hA hF happ hP
  obtain ⟨hcalls, hrest, hpre⟩ := hP
  obtain ⟨-, -, -, hnamed, -, -, -, hat⟩ := (Spec.applies_iff hf).mp happ
  obtain ⟨hg, hn⟩ := and_e (Cond.before_iff.mp (show (Jvm.Cond.and given_1 narrow_1).before args s = true from hpre))
  obtain ⟨g1, g2⟩ := and_e hg
  obtain ⟨g3, g4⟩ := and_e g2
  obtain ⟨g5, g6⟩ := and_e g4
  obtain ⟨w0, w1, w2, rfl⟩ : ∃ w0 w1 w2 : Value, args = #[w0, w1, w2] := by
    have hs : args.size = 3 := by simpa [Cond.value, given_1] using g1
    obtain ⟨L⟩ := args
    match L, hs with
    | [w0, w1, w2], _ => exact ⟨w0, w1, w2, rfl⟩
  have hw := fun d (hd : d ∈ tables_1) => atoms_spec (ws := Jvm.Cond.code x code maxLocals ret :: tables_1) hat d (List.mem_cons_of_mem _ hd)
  have hfit : Fit s := fun {y c} hc i hi => by
    obtain ⟨ha, rfl⟩ := Array.getElem?_eq_some_iff.mp hc
    have q := List.all_eq_true.mp ((Array.all_eq_true_iff_forall_mem.mp hF) _ (Array.getElem_mem ha)) i (List.mem_range.mpr hi)
    simpa [Array.getElem?_eq_getElem hi] using q
  obtain ⟨i0, ei0⟩ := is_v g3
  obtain rfl : w0 = (.int i0) := Option.some.inj ei0
  obtain ⟨i1, ei1⟩ := is_v g5
  obtain rfl : w1 = (.int i1) := Option.some.inj ei1
  obtain ⟨i2, ei2⟩ := is_v g6
  obtain rfl : w2 = (.int i2) := Option.some.inj ei2
  obtain ⟨g7, g8⟩ := and_e hn
  obtain ⟨g9, g10⟩ := and_e g8
  obtain ⟨g11, g12⟩ := and_e g10
  obtain ⟨g13, g14⟩ := and_e g12
  obtain ⟨g15, g16⟩ := and_e g14
  obtain ⟨g17, g18⟩ := and_e g16
  obtain ⟨g19, g20⟩ := and_e g18
  obtain ⟨g21, g22⟩ := and_e g20
  obtain ⟨g23, g24⟩ := and_e g22
  obtain ⟨g25, g26⟩ := and_e g24
  obtain ⟨g27, g28⟩ := and_e g26
  obtain ⟨g29, g30⟩ := and_e g28
  obtain ⟨g31, g32⟩ := and_e g30
  obtain ⟨g33, g34⟩ := and_e g32
  obtain ⟨w_GET, ev_w_GET⟩ := exa_v g7
  have S_w_GET := Sta.start ev_w_GET (Or.inr ⟨(own_w hw 2 rfl), (own_w hw 3 rfl)⟩)
  have E_w_GET := Exa.start ev_w_GET g7
  obtain ⟨w_SET, ev_w_SET⟩ := exa_v g13
  have S_w_SET := Sta.start ev_w_SET (Or.inr ⟨(own_w hw 2 rfl), (own_w hw 18 rfl)⟩)
  have E_w_SET := Exa.start ev_w_SET g13
  obtain ⟨w_KEYNOTIFY, ev_w_KEYNOTIFY⟩ := exa_v g19
  have S_w_KEYNOTIFY := Sta.start ev_w_KEYNOTIFY (Or.inr ⟨(own_w hw 2 rfl), (own_w hw 20 rfl)⟩)
  have E_w_KEYNOTIFY := Exa.start ev_w_KEYNOTIFY g19
  obtain ⟨w_VDEL, ev_w_VDEL⟩ := exa_v g25
  have S_w_VDEL := Sta.start ev_w_VDEL (Or.inr ⟨(own_w hw 2 rfl), (own_w hw 22 rfl)⟩)
  have E_w_VDEL := Exa.start ev_w_VDEL g25
  obtain ⟨w_DEL, ev_w_DEL⟩ := exa_v g31
  have S_w_DEL := Sta.start ev_w_DEL (Or.inr ⟨(own_w hw 2 rfl), (own_w hw 24 rfl)⟩)
  have E_w_DEL := Exa.start ev_w_DEL g31
  have F_minArguments_w_GET := Fld.start ((fld_at ev_w_GET).symm.trans (own_eqi g9))
  have F_maxArguments_w_GET := Fld.start ((fld_at ev_w_GET).symm.trans (own_eqi g11))
  have F_minArguments_w_SET := Fld.start ((fld_at ev_w_SET).symm.trans (own_eqi g15))
  have F_maxArguments_w_SET := Fld.start ((fld_at ev_w_SET).symm.trans (own_eqi g17))
  have F_minArguments_w_KEYNOTIFY := Fld.start ((fld_at ev_w_KEYNOTIFY).symm.trans (own_eqi g21))
  have F_maxArguments_w_KEYNOTIFY := Fld.start ((fld_at ev_w_KEYNOTIFY).symm.trans (own_eqi g23))
  have F_minArguments_w_VDEL := Fld.start ((fld_at ev_w_VDEL).symm.trans (own_eqi g27))
  have F_maxArguments_w_VDEL := Fld.start ((fld_at ev_w_VDEL).symm.trans (own_eqi g29))
  have F_minArguments_w_DEL := Fld.start ((fld_at ev_w_DEL).symm.trans (own_eqi g33))
  have F_maxArguments_w_DEL := Fld.start ((fld_at ev_w_DEL).symm.trans (own_eqi g34))
  obtain ⟨n, o, h1, h2, h3, _, L, rfl, ⟨rfl, N⟩, hq⟩ := rmLaw l s _ hw tables_1 i0 i1 i2 w_GET w_SET w_DEL w_VDEL w_KEYNOTIFY s.heap s.heap.size (Old.start s) S_w_GET E_w_GET F_minArguments_w_GET F_maxArguments_w_GET S_w_SET E_w_SET F_minArguments_w_SET F_maxArguments_w_SET S_w_DEL E_w_DEL F_minArguments_w_DEL F_maxArguments_w_DEL S_w_VDEL E_w_VDEL F_minArguments_w_VDEL F_maxArguments_w_VDEL S_w_KEYNOTIFY E_w_KEYNOTIFY F_minArguments_w_KEYNOTIFY F_maxArguments_w_KEYNOTIFY p e ha hc hk s m _ below hf ((Spec.applies_iff_loose hf).mp happ).1 ⟨rfl, State.Warmed39.refl s, rfl⟩ trivial
  refine ⟨n, _, h1, h2, h3, hpost _ _ _ _ _ _ ⟨Cond.after_iff.mpr rfl, Cond.after_iff.mpr (eq_i res_at (Term.int_eval (1)) rfl), trivial⟩ ⟨hq.1, hq.2.1, (hq.2.2.sift fun y hy => Or.inr (N y hy)).mono (by decide) (by decide)⟩⟩
theorem main_1_1 : Claimed_1_1 := comes_1 fun _ _ _ _ _ _ h hF => ⟨h.1, hF⟩
theorem main_1_2 : Claimed_1_2 := comes_1 fun _ _ _ _ _ _ h hF => ⟨h.2.1, hF⟩
end Jvm.Pilot.@@N@@
namespace Jvm.Pilot.@@N@@
open Jvm Jvm.ClassFile Sem Op Lib Jvm.Free Jvm.Stand Jvm.Pilot.@@N@@.Jvm.D
/-! MADE BY PROGRAM (witnessworld.py) out of the Statement's table words and the real class files: 12 classes; the members and pool entries that the words name. The judged class is class 1, her method 1. -/
namespace start1
open Jvm.ClassFile
def u (s : String) : CpInfo := .utf8 (stringToUtf16 s)
/-- a pool by its gaps: so many unusable entries, then the entry; so many at the end -/
def gap : Nat → List CpInfo → List CpInfo
  | 0, r => r
  | n + 1, r => .unusable :: gap n r
def poolList (es : List (Nat × CpInfo)) (last : Nat) : List CpInfo := es.foldr (fun e r => gap e.1 (e.2 :: r)) (gap last [])
def pool (es : List (Nat × CpInfo)) (last : Nat) : Array CpInfo := ⟨poolList es last⟩
def fileOf (pool : Array CpInfo) (this : Nat) (attrs : Array Attribute := #[]) (ms : Array MethodInfo := #[]) (fl : Nat := 33) (sup : Nat := 0) (ifs : Array Nat := #[]) (fds : Array FieldInfo := #[]) : ClassFile where
  minorVersion := 0
  majorVersion := 65
  constantPool := pool
  accessFlags := fl
  thisClass := this
  superClass := sup
  interfaces := ifs
  fields := fds
  methods := ms
  attributes := attrs
def plain (name : String) (sup : Option ClassId) : Class where
  name := name
  kind := .ordinary
  loader := none
  accessFlags := 33
  super := sup
  interfaces := #[]
  cf := none
  fields := #[]
  methods := #[]
  instanceTypes := #[]
  staticTypes := #[]
  resolved := #[]
  callSites := []
  init := .initialized
  statics := none
  mirror := none

def pool0 : Array CpInfo := pool [(5, u "<init>"), (0, u "()V"), (1, .class_ 10), (1, u "java/lang/Object")] 113

def k0m0 : Method := { name := "<init>", desc := "()V", sig := { parameters := [], returnType := none }, accessFlags := 1, code := none }
/-- java/lang/Object -/
def k0 : Class := { plain "java/lang/Object" none with
  accessFlags := 33
  interfaces := #[]
  cf := some (fileOf pool0 8 #[] #[{ accessFlags := 1, nameIndex := 5, descriptorIndex := 6, attributes := #[] }] 33 0 #[] #[])
  fields := #[]
  methods := #[k0m0]
  instanceTypes := #[]
  staticTypes := #[]
  resolved := Array.replicate 124 none
  statics := none }

def pool1 : Array CpInfo := pool [(2, .class_ 4), (1, u "java/lang/Object"), (0, u "<init>"), (0, u "()V"), (0, .integer 2147483647), (0, .fieldref 9 10), (0, .class_ 11), (0, .nameAndType 12 13), (0, u "com/example/fawley/fawley/protocol/Command"), (0, u "GET"), (0, u "Lcom/example/fawley/fawley/protocol/Command;"), (0, .fieldref 9 15), (0, .nameAndType 16 13), (0, u "SET"), (0, .fieldref 9 18), (0, .nameAndType 19 13), (0, u "DEL"), (0, .fieldref 9 21), (0, .nameAndType 22 13), (0, u "VDEL"), (0, .fieldref 9 24), (0, .nameAndType 25 13), (0, u "KEYNOTIFY"), (0, .methodref 9 27), (0, .nameAndType 28 29), (0, u "takes"), (0, u "(I)Z"), (0, .methodref 31 32), (0, .class_ 33), (0, .nameAndType 34 35), (0, u "com/example/fawley/fawley/protocol/CommandTakesPinLaw"), (0, u "expected"), (0, u "(II)Z"), (2, u "law"), (0, u "(III)Z")] 3

def k1m0 : Method := { name := "<init>", desc := "()V", sig := { parameters := [], returnType := none }, accessFlags := 1, code := none }
def k1c1 : Code := { maxStack := 3, maxLocals := 6, code := code, exceptionTable := #[], attributes := #[] }
def k1m1 : Method := { name := "law", desc := "(III)Z", sig := { parameters := [.int, .int, .int], returnType := some .boolean }, accessFlags := 9, code := some k1c1 }
def k1c2 : Code := { maxStack := 2, maxLocals := 2, code := method_3_code, exceptionTable := #[], attributes := #[] }
def k1m2 : Method := { name := "expected", desc := "(II)Z", sig := { parameters := [.int, .int], returnType := some .boolean }, accessFlags := 10, code := some k1c2 }
/-- com/example/fawley/fawley/protocol/CommandTakesPinLaw -/
def k1 : Class := { plain "com/example/fawley/fawley/protocol/CommandTakesPinLaw" (some 0) with
  accessFlags := 49
  interfaces := #[]
  cf := some (fileOf pool1 31 #[] #[{ accessFlags := 1, nameIndex := 5, descriptorIndex := 6, attributes := #[] }, { accessFlags := 9, nameIndex := 38, descriptorIndex := 39, attributes := #[] }, { accessFlags := 10, nameIndex := 34, descriptorIndex := 35, attributes := #[] }] 49 2 #[] #[])
  fields := #[]
  methods := #[k1m0, k1m1, k1m2]
  instanceTypes := #[]
  staticTypes := #[]
  resolved := Array.replicate 43 none
  statics := none }

def pool2 : Array CpInfo := pool [(1, .class_ 2), (0, u "java/lang/constant/Constable"), (0, .class_ 4), (0, u "java/lang/Object")] 6

/-- java/lang/constant/Constable -/
def k2 : Class := { plain "java/lang/constant/Constable" (some 0) with
  accessFlags := 1537
  interfaces := #[]
  cf := some (fileOf pool2 1 #[] #[] 1537 3 #[] #[])
  fields := #[]
  methods := #[]
  instanceTypes := #[]
  staticTypes := #[]
  resolved := Array.replicate 11 none
  statics := none }

def pool3 : Array CpInfo := pool [(1, .class_ 2), (0, u "java/lang/Comparable"), (0, .class_ 4), (0, u "java/lang/Object")] 7

/-- java/lang/Comparable -/
def k3 : Class := { plain "java/lang/Comparable" (some 0) with
  accessFlags := 1537
  interfaces := #[]
  cf := some (fileOf pool3 1 #[] #[] 1537 3 #[] #[])
  fields := #[]
  methods := #[]
  instanceTypes := #[]
  staticTypes := #[]
  resolved := Array.replicate 12 none
  statics := none }

def pool4 : Array CpInfo := pool [(1, .class_ 2), (0, u "java/io/Serializable"), (0, .class_ 4), (0, u "java/lang/Object")] 2

/-- java/io/Serializable -/
def k4 : Class := { plain "java/io/Serializable" (some 0) with
  accessFlags := 1537
  interfaces := #[]
  cf := some (fileOf pool4 1 #[] #[] 1537 3 #[] #[])
  fields := #[]
  methods := #[]
  instanceTypes := #[]
  staticTypes := #[]
  resolved := Array.replicate 7 none
  statics := none }

def pool5 : Array CpInfo := pool [(2, .class_ 4), (1, u "java/lang/Enum"), (0, u "name"), (0, u "Ljava/lang/String;"), (2, u "ordinal"), (0, u "I"), (1, .class_ 14), (1, u "java/lang/Object"), (4, u "hash"), (86, .class_ 108), (1, u "java/lang/Enum$EnumDesc"), (2, .class_ 112), (0, u "java/lang/constant/Constable"), (0, .class_ 114), (0, u "java/lang/Comparable"), (0, .class_ 116), (0, u "java/io/Serializable")] 87

/-- java/lang/Enum -/
def k5 : Class := { plain "java/lang/Enum" (some 0) with
  accessFlags := 1057
  interfaces := #[2, 3, 4]
  cf := some (fileOf pool5 2 #[.nestMembers #[106]] #[] 1057 12 #[111, 113, 115] #[{ accessFlags := 18, nameIndex := 5, descriptorIndex := 6, attributes := #[] }, { accessFlags := 18, nameIndex := 9, descriptorIndex := 10, attributes := #[] }, { accessFlags := 2, nameIndex := 19, descriptorIndex := 10, attributes := #[] }])
  fields := #[{ name := "name", type := (.object "java/lang/String"), accessFlags := 18, slot := 0, constantValue := 0 }, { name := "ordinal", type := .int, accessFlags := 18, slot := 1, constantValue := 0 }, { name := "hash", type := .int, accessFlags := 2, slot := 2, constantValue := 0 }]
  methods := #[]
  instanceTypes := #[(.object "java/lang/String"), .int, .int]
  staticTypes := #[]
  resolved := Array.replicate 204 none
  statics := none }

def pool6 : Array CpInfo := pool [(1, .class_ 2), (0, u "com/example/fawley/fawley/protocol/Command"), (2, u "GET"), (0, u "Lcom/example/fawley/fawley/protocol/Command;"), (2, u "SET"), (2, u "DEL"), (2, u "VDEL"), (2, u "KEYNOTIFY"), (2, u "$VALUES"), (0, u "[Lcom/example/fawley/fawley/protocol/Command;"), (6, .class_ 31), (1, u "java/lang/Enum"), (6, .fieldref 1 39), (0, .nameAndType 40 41), (0, u "minArguments"), (0, u "I"), (0, .fieldref 1 43), (0, .nameAndType 44 41), (0, u "maxArguments"), (45, u "takes"), (0, u "(I)Z")] 5

def k6c0 : Code := { maxStack := 2, maxLocals := 2, code := prog_7_method_5_code, exceptionTable := #[], attributes := #[] }
def k6m0 : Method := { name := "takes", desc := "(I)Z", sig := { parameters := [.int], returnType := some .boolean }, accessFlags := 1, code := some k6c0 }
/-- com/example/fawley/fawley/protocol/Command -/
def k6 : Class := { plain "com/example/fawley/fawley/protocol/Command" (some 5) with
  accessFlags := 16433
  interfaces := #[]
  cf := some (fileOf pool6 1 #[] #[{ accessFlags := 1, nameIndex := 90, descriptorIndex := 91, attributes := #[] }] 16433 29 #[] #[{ accessFlags := 16409, nameIndex := 5, descriptorIndex := 6, attributes := #[] }, { accessFlags := 16409, nameIndex := 9, descriptorIndex := 6, attributes := #[] }, { accessFlags := 16409, nameIndex := 12, descriptorIndex := 6, attributes := #[] }, { accessFlags := 16409, nameIndex := 15, descriptorIndex := 6, attributes := #[] }, { accessFlags := 16409, nameIndex := 18, descriptorIndex := 6, attributes := #[] }, { accessFlags := 18, nameIndex := 40, descriptorIndex := 41, attributes := #[] }, { accessFlags := 18, nameIndex := 44, descriptorIndex := 41, attributes := #[] }, { accessFlags := 4122, nameIndex := 21, descriptorIndex := 22, attributes := #[] }])
  fields := #[{ name := "GET", type := (.object "com/example/fawley/fawley/protocol/Command"), accessFlags := 16409, slot := 0, constantValue := 0 }, { name := "SET", type := (.object "com/example/fawley/fawley/protocol/Command"), accessFlags := 16409, slot := 1, constantValue := 0 }, { name := "DEL", type := (.object "com/example/fawley/fawley/protocol/Command"), accessFlags := 16409, slot := 2, constantValue := 0 }, { name := "VDEL", type := (.object "com/example/fawley/fawley/protocol/Command"), accessFlags := 16409, slot := 3, constantValue := 0 }, { name := "KEYNOTIFY", type := (.object "com/example/fawley/fawley/protocol/Command"), accessFlags := 16409, slot := 4, constantValue := 0 }, { name := "minArguments", type := .int, accessFlags := 18, slot := 3, constantValue := 0 }, { name := "maxArguments", type := .int, accessFlags := 18, slot := 4, constantValue := 0 }, { name := "$VALUES", type := (.array (.object "com/example/fawley/fawley/protocol/Command")), accessFlags := 4122, slot := 5, constantValue := 0 }]
  methods := #[k6m0]
  instanceTypes := #[(.object "java/lang/String"), .int, .int, .int, .int]
  staticTypes := #[(.object "com/example/fawley/fawley/protocol/Command"), (.object "com/example/fawley/fawley/protocol/Command"), (.object "com/example/fawley/fawley/protocol/Command"), (.object "com/example/fawley/fawley/protocol/Command"), (.object "com/example/fawley/fawley/protocol/Command"), (.array (.object "com/example/fawley/fawley/protocol/Command"))]
  resolved := Array.replicate 97 none
  statics := some 0 }

def pool7 : Array CpInfo := pool [(1, u "java/lang/Cloneable"), (0, .class_ 1), (0, u "java/lang/Object"), (0, .class_ 3)] 3

/-- java/lang/Cloneable -/
def k7 : Class := { plain "java/lang/Cloneable" (some 0) with
  accessFlags := 1537
  interfaces := #[]
  cf := some (fileOf pool7 2 #[] #[] 1537 4 #[] #[])
  fields := #[]
  methods := #[]
  instanceTypes := #[]
  staticTypes := #[]
  resolved := Array.replicate 8 none
  statics := none }

/-- the primitive byte -/
def k8 : Class := { plain "byte" none with kind := .primitive 'B', accessFlags := 0x411 }
/-- [B -/
def k9 : Class := { plain "[B" (some 0) with kind := .array 8 .byte, interfaces := #[7, 4], accessFlags := 1041 }

/-- the primitive int -/
def k10 : Class := { plain "int" none with kind := .primitive 'I', accessFlags := 0x411 }
/-- [I -/
def k11 : Class := { plain "[I" (some 0) with kind := .array 10 .int, interfaces := #[7, 4], accessFlags := 1041 }

def heap : Heap := #[{ cls := 6, slots := #[.ref 1, .ref 2, .ref 5, .ref 4, .ref 3, .null], vm := .statics 6 },
  { cls := 6, slots := #[.null, .int 0, .int 0, .int 1, .int 1], vm := .none },
  { cls := 6, slots := #[.null, .int 0, .int 0, .int 2, .int 5], vm := .none },
  { cls := 6, slots := #[.null, .int 0, .int 0, .int 1, .int 2], vm := .none },
  { cls := 6, slots := #[.null, .int 0, .int 0, .int 2, .int 2], vm := .none },
  { cls := 6, slots := #[.null, .int 0, .int 0, .int 1, .int 1], vm := .none }]
def classes : Array Class := #[k0, k1, k2, k3, k4, k5, k6, k7, k8, k9, k10, k11]
def interned : List (Array UInt16 × Addr) := []
def slotsUsed : Nat := 31
def theMethod : MethodId := ⟨1, 1⟩
def args0 : Array Value := #[.int 7, .int 1, .int 3]
def aboutOver (below : List Frame) : State where
  vm := { classes := classes, interned := interned.toArray }
  heap := heap
  slotsUsed := slotsUsed
  threads := #[{ frames := .invoking theMethod args0 :: below }]
def below0 : List Frame := [.native { method := ⟨0, 0⟩, args := #[] }]
def about1 : State := aboutOver below0
def p0 : Program := .bare "" "" ""
def e0 : Env := launch0.env 0 0 0
theorem w_frames : about1.frames = Frame.invoking theMethod args0 :: below0 := rfl
set_option maxRecDepth 65536 in
theorem w_args : argsFit about1.vm theMethod args0 = true := by decide +kernel
set_option maxRecDepth 65536 in
theorem w_heap : heapFits about1 = true := by decide +kernel
set_option maxRecDepth 65536 in
theorem w_runnable : about1.curStatus? = some .runnable := by decide +kernel
set_option maxRecDepth 65536 in
theorem w_alone : about1.alone = true := by decide +kernel
set_option maxRecDepth 65536 in
theorem w_named : about1.methodNamed? x = some theMethod := by decide +kernel
set_option maxRecDepth 65536 in
theorem w_hears : about1.hears theMethod below0 = true := by decide +kernel
set_option maxRecDepth 65536 in
theorem w_ripe : about1.ripe theMethod args0 below0 = true := by decide +kernel
theorem w_running : about1.status = .running := rfl
set_option maxRecDepth 65536 in
theorem w_room : about1.hasRoom e0.platform room_1 = true :=
  launch0.hasRoom_least _ room_1 (by decide +kernel) (by decide +kernel) (by decide +kernel) (by decide +kernel) (by decide +kernel) (by decide +kernel)
theorem allAtoms_all (ts : List Jvm.Cond) (a : Array Jvm.Value) (st : Jvm.State) : (allAtoms ts).before a st = ts.all (fun c => c.before a st) := by
  induction ts with
  | nil => rfl
  | cons c t ih =>
    show (Jvm.Cond.and c (allAtoms t)).before a st = _
    rw [Jvm.Cond.before_and, ih, List.all_cons]
def words1 : List Jvm.Cond := Jvm.Cond.code x code maxLocals ret :: tables_1
/-- a 'code' word, met by the world's own term for the bytes: nothing is compared byte by byte -/
theorem code_word {y : MethodName} {bytes : ByteArray} {mx : Nat} {rt : Option FieldType} {a : Array Value} {s : State} {m : MethodId} {meth : Method} {c : Code} (h1 : s.methodNamed? y = some m) (h2 : s.vm.method? m = some meth) (h3 : meth.code = some c) (h4 : c.code = bytes)
    (h5 : (c.maxLocals == mx && c.exceptionTable.isEmpty && decide (c.maxStack ≤ mostOperands) && decide (meth.sig.returnType = rt) && !meth.locks && decide (parseMethodDescriptor y.desc = some meth.sig)) = true) : (Jvm.Cond.code y bytes mx rt).before a s = true := by
  simp only [Bool.and_eq_true, beq_iff_eq, Bool.not_eq_true', decide_eq_true_eq] at h5
  obtain ⟨⟨⟨⟨⟨g1, g2⟩, g3⟩, g4⟩, g5⟩, g6⟩ := h5
  simp [Cond.before, Cond.holds, Cond.value, h1, h2, h3, h4, g1, g2, g3, g4, g5, g6]
def isCode : Jvm.Cond → Bool
  | .code _ _ _ _ => true
  | _ => false
theorem all_split {L : List Jvm.Cond} {P : Jvm.Cond → Bool} (h1 : L.all (fun c => isCode c || P c) = true) (h2 : ∀ c ∈ L.filter isCode, P c = true) : L.all P = true := by
  refine List.all_eq_true.mpr fun c hc => ?_
  have h := List.all_eq_true.mp h1 c hc
  rcases Bool.eq_false_or_eq_true (isCode c) with hi | hi
  · exact h2 c (List.mem_filter.mpr ⟨hc, hi⟩)
  · simpa [hi] using h
set_option maxRecDepth 65536 in
theorem w_c0 : (Jvm.Cond.code x code maxLocals ret).before args0 about1 = true := code_word (m := ⟨1, 1⟩) (meth := k1m1) (c := k1c1) (by decide +kernel) rfl rfl rfl (by decide +kernel)
set_option maxRecDepth 65536 in
theorem w_c1 : (Jvm.Cond.code ({ cls := "com/example/fawley/fawley/protocol/Command", name := "takes", desc := "(I)Z" } : Jvm.MethodName) prog_7_method_5_code (2 : Nat) (Option.some Jvm.ClassFile.FieldType.boolean)).before args0 about1 = true := code_word (m := ⟨6, 0⟩) (meth := k6m0) (c := k6c0) (by decide +kernel) rfl rfl rfl (by decide +kernel)
set_option maxRecDepth 65536 in
theorem w_c2 : (Jvm.Cond.code ({ cls := "com/example/fawley/fawley/protocol/CommandTakesPinLaw", name := "expected", desc := "(II)Z" } : Jvm.MethodName) method_3_code (2 : Nat) (Option.some Jvm.ClassFile.FieldType.boolean)).before args0 about1 = true := code_word (m := ⟨1, 2⟩) (meth := k1m2) (c := k1c2) (by decide +kernel) rfl rfl rfl (by decide +kernel)
def codes1 : List Jvm.Cond := [Jvm.Cond.code x code maxLocals ret, Jvm.Cond.code ({ cls := "com/example/fawley/fawley/protocol/Command", name := "takes", desc := "(I)Z" } : Jvm.MethodName) prog_7_method_5_code (2 : Nat) (Option.some Jvm.ClassFile.FieldType.boolean), Jvm.Cond.code ({ cls := "com/example/fawley/fawley/protocol/CommandTakesPinLaw", name := "expected", desc := "(II)Z" } : Jvm.MethodName) method_3_code (2 : Nat) (Option.some Jvm.ClassFile.FieldType.boolean)]
set_option maxRecDepth 65536 in
theorem codes_eq : words1.filter isCode = codes1 := rfl
theorem w_codes : ∀ c ∈ words1.filter isCode, c.before args0 about1 = true := by
  rw [codes_eq]
  intro c hc
  simp only [codes1, List.mem_cons, List.not_mem_nil, or_false] at hc
  rcases hc with rfl | rfl | rfl
  · exact w_c0
  · exact w_c1
  · exact w_c2
set_option maxRecDepth 65536 in
theorem w_t1 : (words1.take 24).all (fun c => isCode c || c.before args0 about1) = true := by decide +kernel
set_option maxRecDepth 65536 in
theorem w_t2 : (words1.drop 24).all (fun c => isCode c || c.before args0 about1) = true := by decide +kernel
theorem w_tables : (allAtoms (Jvm.Cond.code x code maxLocals ret :: tables_1)).before args0 about1 = true := by
  rw [allAtoms_all]
  show words1.all (fun c => c.before args0 about1) = true
  refine all_split ?_ w_codes
  rw [← List.take_append_drop 24 words1, List.all_append, w_t1, w_t2]
  rfl
set_option maxRecDepth 65536 in
theorem w_case : (Jvm.Cond.and given_1 narrow_1).before args0 about1 = true := by decide +kernel
theorem w_applies : (headSpec (Jvm.Cond.code x code maxLocals ret :: tables_1) room_1).applies x e0.platform about1 = true :=
  (Spec.applies_iff w_frames).mpr ⟨w_running, w_runnable, w_alone, w_named, w_hears, w_ripe, w_room, w_tables⟩
theorem atStart : AtStart classFile x code maxLocals ret World_1 tables_1 room_1 Calls_1 rest_1 Pre_1 launch0 p0 e0 about1 theMethod args0 below0 :=
  ⟨lists_1, trivial, launch0.admits_env _ _ _, launch0.least_env, fairChoices_fair.cas, fairChoices_fair.clock, w_frames, w_args, w_heap, w_applies, trivial, trivial, w_case⟩
end start1
theorem witness_1 : WitnessClaimed_1 := ⟨start1.p0, start1.e0, start1.about1, start1.theMethod, start1.args0, start1.below0, start1.atStart⟩
end Jvm.Pilot.@@N@@
