import JvmDerived
import JvmDerived.Pilot.@@N@@Statement
import JvmDerived.Pilot.@@N@@Code
set_option linter.unusedVariables false
set_option linter.unusedSimpArgs false
namespace Jvm.Pilot.@@N@@
open Jvm Jvm.ClassFile Sem Op Lib Jvm.Free Jvm.Stand Jvm.LawKit Jvm.RoadKit Bundle Jvm.Pilot.@@N@@.Jvm.D
theorem own_w {a0 : Array Value} {Z : State} {d : Jvm.Cond} (hw : ∀ d ∈ tables_1, d.before a0 Z = true) (i : Nat) (h : tables_1[i]? = some d) : d.before a0 Z = true := hw _ (List.mem_of_getElem? h)
abbrev lvI (x : Int32) : Slot := .val (.int x)
abbrev lvJ (x : Int64) : Slot := .val (.long x)
abbrev lvR (x : Addr) : Slot := .val (.ref x)
abbrev own_S (p : Program) (e : Env) (b : List Frame) (m : MethodId) (T : State) (pc : Nat) (l : Array Slot) (st : List Value) (t : State) : Prop := Steps p.tables e b (T.setTop (mkF m pc l st)) t
theorem own_eqi {args : Array Value} {s : State} {t : Term} {k : Int32} (h : (Jvm.Cond.eq t (.int k)).value args s none s [] = some true) : t.eval args s none [] s = some (.int k) := by
  simp only [Cond.value, Term.eval] at h
  cases ht : t.eval args s none [] s with
  | none => simp [ht] at h
  | some x => cases x <;> simp [ht] at h ⊢ <;> exact h
def own_max (x y : Int64) : Int64 := if x < y then y else x
theorem own_maxl {x y : Int64} (h : ¬ (x < y)) : x = own_max x y := by simp [own_max, h]
theorem own_maxr {x y : Int64} (h : x < y) : y = own_max x y := by simp [own_max, h]
theorem own_minl (x : Int64) : own_max (-9223372036854775808 : Int64) x = x := by
  have h1 := rng64 x
  have h2 : (-9223372036854775808 : Int64).toInt = -9223372036854775808 := rfl
  unfold own_max
  split
  · rfl
  · rename_i h
    rw [Int64.lt_iff_toInt_lt] at h
    apply Int64.toInt_inj.mp
    omega
theorem own_minr (x : Int64) : own_max x (-9223372036854775808 : Int64) = x := by
  have h1 := rng64 x
  have h2 : (-9223372036854775808 : Int64).toInt = -9223372036854775808 := rfl
  unfold own_max
  split
  · rename_i h
    rw [Int64.lt_iff_toInt_lt] at h
    omega
  · rfl
theorem own_ml {x y : Int64} (h : y < x) : own_max x y = x := by
  unfold own_max
  split
  · rename_i h2
    rw [Int64.lt_iff_toInt_lt] at h h2
    omega
  · rfl
theorem own_mr {x y : Int64} (h : ¬ (y < x)) : own_max x y = y := by
  unfold own_max
  split
  · rfl
  · rename_i h2
    rw [Int64.lt_iff_toInt_lt] at h h2
    apply Int64.toInt_inj.mp
    omega
theorem d1_0 : decode jdk_29_method_66_code 0 = .ok (.lload_n 0, 1) := by decide +kernel
theorem d1_1 : decode jdk_29_method_66_code 1 = .ok (.lload_n 2, 1) := by decide +kernel
theorem d1_2 : decode jdk_29_method_66_code 2 = .ok (.lcmp, 1) := by decide +kernel
theorem d1_3 : decode jdk_29_method_66_code 3 = .ok (.ifCond .lt 7, 3) := by decide +kernel
theorem d1_10 : decode jdk_29_method_66_code 10 = .ok (.lload_n 2, 1) := by decide +kernel
theorem d1_11 : decode jdk_29_method_66_code 11 = .ok (.lreturn, 1) := by decide +kernel
theorem d1_6 : decode jdk_29_method_66_code 6 = .ok (.lload_n 0, 1) := by decide +kernel
theorem d1_7 : decode jdk_29_method_66_code 7 = .ok (.goto 4, 3) := by decide +kernel
theorem efMax (m : MethodId) (q0_ : Int64) (q1_ : Int64) : entryFrame m #[(.long q0_), (.long q1_)] 4 = mkF m 0 #[lvJ q0_, .second, lvJ q1_, .second] [] := by first | (simp [entryFrame, mkF, argsToLocals, Value.category]; done) | rfl
def QMax (Z : State) (q0_ : Int64) (q1_ : Int64) (h0 : Heap) (n0 : Nat) (v : Option Value) (h : Heap) (L : List Loc) : Prop := v = some (.long (own_max q0_ q1_)) ∧ Fr n0 L ∧ h = h0
set_option maxRecDepth 65536 in
set_option maxHeartbeats 40000000 in
theorem rmMax (l : Launch) (Z : State) (a0 : Array Value) (hw : ∀ d ∈ tables_1, d.before a0 Z = true) (ws : List Jvm.Cond) (q0_ : Int64) (q1_ : Int64) (h0 : Heap) (n0 : Nat) (O0 : Old Z n0 h0)  :
    MetFree l (⟨"java/lang/Math", "max", "(JJ)J"⟩ : MethodName) (head1 (Jvm.Cond.code (⟨"java/lang/Math", "max", "(JJ)J"⟩ : MethodName) jdk_29_method_66_code 4 (some .long) :: ws) ({ frames := 0, cells := 0, slots := 0, locals := 0 } : Room)) (fun a U => a = #[(.long q0_), (.long q1_)] ∧ Z.Warmed39 U.vm ∧ U.heap = h0) (fun _ _ _ _ _ => True) (fun _ U o U' => ∃ v L, o = .returned v ∧ QMax Z q0_ q1_ h0 n0 v U'.heap L ∧ FrameEnd U o U' L ({ frames := 0, cells := 0, slots := 0, locals := 0 } : Room).cells ({ frames := 0, cells := 0, slots := 0, locals := 0 } : Room).slots) := by
  refine MetFree.of_bodySF (Jvm.Free.JP.mathPlain rfl (by decide +kernel)) hisR ?_
  intro p e s m args below meth c s₁ Bd hml0 hP hK
  obtain ⟨rfl, hZ, hh⟩ := hP
  have hx := Bd.exec
  have hby := Bd.bytes
  have hml : c.maxLocals = 4 := hml0
  have hown : s.vm.findClass "java/lang/Math" = some m.cls := findClass_of_methodNamed Bd.named
  have hnm := (name_of_methodNamed Bd.named Bd.method).1
  have X0 : Stand p l e ({ frames := 0, cells := 0, slots := 0, locals := 0 } : Room) s m #[(.long q0_), (.long q1_)] below meth c s₁ [] 0 0 := Stand.of_body Bd
  have e0 : s₁.heap = h0 := by rw [← hh, Bd.state]; rfl
  have N0 := Fr.nil n0
  obtain ⟨G, pre0, hG⟩ : ∃ G : State → Prop, (∀ t, own_S p e below m s₁ 0 #[lvJ q0_, .second, lvJ q1_, .second] [] t → G t) ∧ (∀ t, G t → Steps p.tables e below (s₁.setTop (entryFrame m #[(.long q0_), (.long q1_)] 4)) t) := ⟨fun t => Steps p.tables e below (s₁.setTop (entryFrame m #[(.long q0_), (.long q1_)] 4)) t, fun t k => castTop (efMax m q0_ q1_) k, fun _ k => k⟩
  have K0 : Keep h0 h0 [] := Keep.refl _ _
  have pre1 : ∀ t, own_S p e below m s₁ 3 #[lvJ q0_, .second, lvJ q1_, .second] [(.int (lcmpW q0_ q1_))] t → G t := by
    intro t kt
    refine pre0 t ?_
    show own_S p e below m s₁ 0 #[lvJ q0_, .second, lvJ q1_, .second] [] _
    refine XS.lloadN X0.here hx rfl (hb hby d1_0) rfl ?_
    refine XS.lloadN X0.here hx rfl (hb hby d1_1) rfl ?_
    refine XS.lcmp X0.here hx rfl (hb hby d1_2) rfl ?_
    exact kt
  by_cases hc2 : q0_ < q1_
  · have pre3 : ∀ t, own_S p e below m s₁ 11 #[lvJ q0_, .second, lvJ q1_, .second] [(.long q1_)] t → G t := by
      intro t kt
      refine pre1 t ?_
      show own_S p e below m s₁ 3 #[lvJ q0_, .second, lvJ q1_, .second] [(.int (lcmpW q0_ q1_))] _
      refine XS.ifYes X0.here hx rfl (pc0 := 3) (pc' := 10) rfl (hb hby d1_3) rfl ((if0 _ _).trans (tlt ((lw_lt _ _).mpr hc2)).1) (by decide) (by decide) ?_
      refine XS.lloadN X0.here hx rfl (hb hby d1_10) rfl ?_
      exact kt
    obtain ⟨fs, hr, hrun, hended, hW, hsame⟩ := X0.leave (v := some (.long q1_)) (fun h => by rw [Bd.returns] at h; cases h)
    refine ⟨_, _, hG _ (pre3 _ (retOut X0 hx Bd.returns rfl (Or.inr (Or.inl ⟨rfl, rfl, _, rfl⟩)) (hb hby d1_11) hr)), hrun, hended, _, _, rfl, ?_, ⟨_, rfl⟩, hW, hsame.mono (by decide) (by decide)⟩
    show QMax Z q0_ q1_ h0 n0 _ s₁.heap _
    rw [e0]
    exact ⟨(congrArg (fun z => some (Value.long z)) (own_maxr hc2)), N0, rfl⟩
  · have pre5 : ∀ t, own_S p e below m s₁ 11 #[lvJ q0_, .second, lvJ q1_, .second] [(.long q0_)] t → G t := by
      intro t kt
      refine pre1 t ?_
      show own_S p e below m s₁ 3 #[lvJ q0_, .second, lvJ q1_, .second] [(.int (lcmpW q0_ q1_))] _
      refine XS.ifNo X0.here hx rfl (hb hby d1_3) rfl ((if0 _ _).trans (flt (fun z => hc2 ((lw_lt _ _).mp z))).1) ?_
      refine XS.lloadN X0.here hx rfl (hb hby d1_6) rfl ?_
      refine XS.goto X0.here hx rfl (pc0 := 7) (pc' := 11) rfl (hb hby d1_7) (by decide) (by decide) ?_
      exact kt
    obtain ⟨fs, hr, hrun, hended, hW, hsame⟩ := X0.leave (v := some (.long q0_)) (fun h => by rw [Bd.returns] at h; cases h)
    refine ⟨_, _, hG _ (pre5 _ (retOut X0 hx Bd.returns rfl (Or.inr (Or.inl ⟨rfl, rfl, _, rfl⟩)) (hb hby d1_11) hr)), hrun, hended, _, _, rfl, ?_, ⟨_, rfl⟩, hW, hsame.mono (by decide) (by decide)⟩
    show QMax Z q0_ q1_ h0 n0 _ s₁.heap _
    rw [e0]
    exact ⟨(congrArg (fun z => some (Value.long z)) (own_maxl hc2)), N0, rfl⟩
abbrev cn0 : String := "com/example/zenodotus/zenodotus/io/RowCodec$Tally"
theorem d2_0 : decode prog_38_method_1_code 0 = .ok (.aload_n 0, 1) := by decide +kernel
theorem d2_1 : decode prog_38_method_1_code 1 = .ok (.invokespecial 1, 3) := by decide +kernel
theorem d2_4 : decode prog_38_method_1_code 4 = .ok (.aload_n 0, 1) := by decide +kernel
theorem d2_5 : decode prog_38_method_1_code 5 = .ok (.ldc2_w 9, 3) := by decide +kernel
theorem d2_8 : decode prog_38_method_1_code 8 = .ok (.putfield 11, 3) := by decide +kernel
theorem d2_11 : decode prog_38_method_1_code 11 = .ok (.aload_n 0, 1) := by decide +kernel
theorem d2_12 : decode prog_38_method_1_code 12 = .ok (.ldc2_w 9, 3) := by decide +kernel
theorem d2_15 : decode prog_38_method_1_code 15 = .ok (.putfield 17, 3) := by decide +kernel
theorem d2_18 : decode prog_38_method_1_code 18 = .ok (.return_, 1) := by decide +kernel
theorem pn_0 : plainName "com/example/zenodotus/zenodotus/io/RowCodec$Tally" = true := by first | (simp [plainName, overriddenIn]; done) | decide +kernel
theorem efinit1 (m : MethodId) (o0_ : Addr) : entryFrame m #[(.ref o0_)] 1 = mkF m 0 #[lvR o0_] [] := by first | (simp [entryFrame, mkF, argsToLocals, Value.category]; done) | rfl
def Qinit1 (Z : State) (o0_ : Addr) (h0 : Heap) (n0 : Nat) (v : Option Value) (h : Heap) (L : List Loc) : Prop := v = none ∧ Fr n0 L ∧ Keep h0 h [o0_] ∧ Exa Z h o0_ cn0 ∧ Fld Z h o0_ cn0 "latestTimestamp" "J" (.long (-9223372036854775808 : Int64)) ∧ Fld Z h o0_ cn0 "latestDeleteTimestamp" "J" (.long (-9223372036854775808 : Int64)) ∧ Fld Z h o0_ cn0 "cells" "J" (.long (0 : Int64))
set_option maxRecDepth 65536 in
set_option maxHeartbeats 40000000 in
theorem rminit1 (l : Launch) (Z : State) (a0 : Array Value) (hw : ∀ d ∈ tables_1, d.before a0 Z = true) (ws : List Jvm.Cond) (o0_ : Addr) (h0 : Heap) (n0 : Nat) (O0 : Old Z n0 h0) (P0 : Exa Z h0 o0_ cn0) (P1 : Fld Z h0 o0_ cn0 "latestTimestamp" "J" (.long (0 : Int64))) (P2 : Fld Z h0 o0_ cn0 "latestDeleteTimestamp" "J" (.long (0 : Int64))) (P3 : Fld Z h0 o0_ cn0 "cells" "J" (.long (0 : Int64))) (P4 : n0 ≤ o0_) :
    MetFree l (⟨"com/example/zenodotus/zenodotus/io/RowCodec$Tally", "<init>", "()V"⟩ : MethodName) (head1 (Jvm.Cond.code (⟨"com/example/zenodotus/zenodotus/io/RowCodec$Tally", "<init>", "()V"⟩ : MethodName) prog_38_method_1_code 1 none :: ws) ({ frames := 1, cells := 0, slots := 0, locals := 12 } : Room)) (fun a U => a = #[(.ref o0_)] ∧ Z.Warmed39 U.vm ∧ U.heap = h0) (fun _ _ _ _ _ => True) (fun _ U o U' => ∃ v L, o = .returned v ∧ Qinit1 Z o0_ h0 n0 v U'.heap L ∧ FrameEnd U o U' L ({ frames := 1, cells := 0, slots := 0, locals := 12 } : Room).cells ({ frames := 1, cells := 0, slots := 0, locals := 12 } : Room).slots) := by
  refine MetFree.of_bodySF (plainFor_of_name pn_0) hisR ?_
  intro p e s m args below meth c s₁ Bd hml0 hP hK
  obtain ⟨rfl, hZ, hh⟩ := hP
  have hx := Bd.exec
  have hby := Bd.bytes
  have hml : c.maxLocals = 1 := hml0
  have hown : s.vm.findClass "com/example/zenodotus/zenodotus/io/RowCodec$Tally" = some m.cls := findClass_of_methodNamed Bd.named
  have hnm := (name_of_methodNamed Bd.named Bd.method).1
  have X0 : Stand p l e ({ frames := 1, cells := 0, slots := 0, locals := 12 } : Room) s m #[(.ref o0_)] below meth c s₁ [] 0 0 := Stand.of_body Bd
  have e0 : s₁.heap = h0 := by rw [← hh, Bd.state]; rfl
  have N0 := Fr.nil n0
  obtain ⟨G, pre0, hG⟩ : ∃ G : State → Prop, (∀ t, own_S p e below m s₁ 0 #[lvR o0_] [] t → G t) ∧ (∀ t, G t → Steps p.tables e below (s₁.setTop (entryFrame m #[(.ref o0_)] 1)) t) := ⟨fun t => Steps p.tables e below (s₁.setTop (entryFrame m #[(.ref o0_)] 1)) t, fun t k => castTop (efinit1 m o0_) k, fun _ k => k⟩
  have K0 : Keep h0 h0 [o0_] := Keep.refl _ _
  obtain ⟨T1, X1, e1, st1⟩ := initO X0 hx hZ hown (own_w hw 9 rfl) (own_w hw 10 rfl) (own_w hw 11 rfl) e0 (g := (mkF m 1 #[lvR o0_] [(.ref o0_)])) rfl (by rw [hml]; rfl) rfl (hb hby d2_1) (by decide) (W := 0) (by show 2 * 0 + _ ≤ _; exact Nat.le_of_eq rfl) (by decide)
  obtain ⟨T2, h2, X2, e2, W2, st2⟩ := putF X1 hx hZ hown (host := "") (Or.inl (own_w hw 13 rfl)) Via.refl e1 P1 P0 (Or.inl (own_w hw 14 rfl)) (own_w hw 4 rfl) (ty := .long) (by decide) rfl rfl (g := (mkF m 8 #[lvR o0_] [(.long (-9223372036854775808 : Int64)), (.ref o0_)])) rfl rfl (hb hby d2_8)
  have N3 := Fr.snoc X2 N0 P4
  have f4 : Fld Z h2 o0_ cn0 "latestTimestamp" "J" (.long (-9223372036854775808 : Int64)) := P1.same W2
  have f5 : Fld Z h2 o0_ cn0 "latestDeleteTimestamp" "J" (.long (0 : Int64)) := P2.other W2 (Or.inr (slot_ne (Or.inl (own_w hw 16 rfl)) (Or.inl (own_w hw 14 rfl)) (by decide) (t := .long) (t' := .long) (by decide) (by decide)))
  have f6 : Exa Z h2 o0_ cn0 := P0.wr W2
  obtain ⟨T7, h7, X7, e7, W7, st7⟩ := putF X2 hx hZ hown (host := "") (Or.inl (own_w hw 15 rfl)) Via.refl e2 f5 f6 (Or.inl (own_w hw 16 rfl)) (own_w hw 4 rfl) (ty := .long) (by decide) rfl rfl (g := (mkF m 15 #[lvR o0_] [(.long (-9223372036854775808 : Int64)), (.ref o0_)])) rfl rfl (hb hby d2_15)
  have N8 := Fr.snoc X7 N3 P4
  have f9 : Fld Z h7 o0_ cn0 "latestDeleteTimestamp" "J" (.long (-9223372036854775808 : Int64)) := f5.same W7
  have pre10 : ∀ t, own_S p e below m T7 18 #[lvR o0_] [] t → G t := by
    intro t kt
    refine pre0 t ?_
    show own_S p e below m s₁ 0 #[lvR o0_] [] _
    refine XS.aloadN X0.here hx rfl (hb hby d2_0) rfl rfl ?_
    show own_S p e below m s₁ 1 #[lvR o0_] [(.ref o0_)] _
    refine st1 _ ?_
    refine XS.aloadN X1.here hx rfl (hb hby d2_4) rfl rfl ?_
    show own_S p e below m T1 5 #[lvR o0_] [(.ref o0_)] _
    refine X1.ldc2Long hx hown (mvT hZ (own_w hw 12 rfl)) (g := (mkF m 5 #[lvR o0_] [(.ref o0_)])) rfl (hb hby d2_5) _ ?_
    show own_S p e below m T1 8 #[lvR o0_] [(.long (-9223372036854775808 : Int64)), (.ref o0_)] _
    refine st2 _ ?_
    refine XS.aloadN X2.here hx rfl (hb hby d2_11) rfl rfl ?_
    show own_S p e below m T2 12 #[lvR o0_] [(.ref o0_)] _
    refine X2.ldc2Long hx hown (mvT hZ (own_w hw 12 rfl)) (g := (mkF m 12 #[lvR o0_] [(.ref o0_)])) rfl (hb hby d2_12) _ ?_
    show own_S p e below m T2 15 #[lvR o0_] [(.long (-9223372036854775808 : Int64)), (.ref o0_)] _
    refine st7 _ ?_
    exact kt
  have f12 : Keep h0 h2 [o0_] := K0.wr W2 (Or.inl (List.mem_of_getElem? (i := 0) rfl))
  have f13 : Keep h0 h7 [o0_] := f12.wr W7 (Or.inl (List.mem_of_getElem? (i := 0) rfl))
  have f14 : Exa Z h7 o0_ cn0 := f6.wr W7
  have f15 : Fld Z h7 o0_ cn0 "latestTimestamp" "J" (.long (-9223372036854775808 : Int64)) := f4.other W7 (Or.inr (slot_ne (Or.inl (own_w hw 14 rfl)) (Or.inl (own_w hw 16 rfl)) (by decide) (t := .long) (t' := .long) (by decide) (by decide)))
  have f16 : Fld Z h2 o0_ cn0 "cells" "J" (.long (0 : Int64)) := P3.other W2 (Or.inr (slot_ne (Or.inl (own_w hw 25 rfl)) (Or.inl (own_w hw 14 rfl)) (by decide) (t := .long) (t' := .long) (by decide) (by decide)))
  have f17 : Fld Z h7 o0_ cn0 "cells" "J" (.long (0 : Int64)) := f16.other W7 (Or.inr (slot_ne (Or.inl (own_w hw 25 rfl)) (Or.inl (own_w hw 16 rfl)) (by decide) (t := .long) (t' := .long) (by decide) (by decide)))
  obtain ⟨fs, hr, hrun, hended, hW, hsame⟩ := X7.leave (v := none) (fun _ => rfl)
  refine ⟨_, _, hG _ (pre10 _ (X7.returnOut hx Bd.returns (hb hby d2_18) hr)), hrun, hended, _, _, rfl, ?_, ⟨_, rfl⟩, hW, hsame.mono (by decide) (by decide)⟩
  show Qinit1 Z o0_ h0 n0 _ T7.heap _
  rw [e7]
  exact ⟨rfl, N8, f13, f14, f15, f9, f17⟩
theorem pd_0 : parseMethodDescriptor "()V" = some ⟨[], none⟩ := by decide +kernel
theorem d3_0 : decode prog_38_method_3_code 0 = .ok (.aload_n 0, 1) := by decide +kernel
theorem d3_1 : decode prog_38_method_3_code 1 = .ok (.dup, 1) := by decide +kernel
theorem d3_2 : decode prog_38_method_3_code 2 = .ok (.getfield 20, 3) := by decide +kernel
theorem d3_5 : decode prog_38_method_3_code 5 = .ok (.aload_n 1, 1) := by decide +kernel
theorem d3_6 : decode prog_38_method_3_code 6 = .ok (.getfield 20, 3) := by decide +kernel
theorem d3_9 : decode prog_38_method_3_code 9 = .ok (.ladd, 1) := by decide +kernel
theorem d3_10 : decode prog_38_method_3_code 10 = .ok (.putfield 20, 3) := by decide +kernel
theorem d3_13 : decode prog_38_method_3_code 13 = .ok (.aload_n 0, 1) := by decide +kernel
theorem d3_14 : decode prog_38_method_3_code 14 = .ok (.aload_n 0, 1) := by decide +kernel
theorem d3_15 : decode prog_38_method_3_code 15 = .ok (.getfield 11, 3) := by decide +kernel
theorem d3_18 : decode prog_38_method_3_code 18 = .ok (.aload_n 1, 1) := by decide +kernel
theorem d3_19 : decode prog_38_method_3_code 19 = .ok (.getfield 11, 3) := by decide +kernel
theorem d3_22 : decode prog_38_method_3_code 22 = .ok (.invokestatic 29, 3) := by decide +kernel
theorem pd_1 : parseMethodDescriptor "(JJ)J" = some ⟨[.long, .long], some .long⟩ := by decide +kernel
theorem d3_25 : decode prog_38_method_3_code 25 = .ok (.putfield 11, 3) := by decide +kernel
theorem d3_28 : decode prog_38_method_3_code 28 = .ok (.aload_n 0, 1) := by decide +kernel
theorem d3_29 : decode prog_38_method_3_code 29 = .ok (.aload_n 0, 1) := by decide +kernel
theorem d3_30 : decode prog_38_method_3_code 30 = .ok (.getfield 17, 3) := by decide +kernel
theorem d3_33 : decode prog_38_method_3_code 33 = .ok (.aload_n 1, 1) := by decide +kernel
theorem d3_34 : decode prog_38_method_3_code 34 = .ok (.getfield 17, 3) := by decide +kernel
theorem d3_37 : decode prog_38_method_3_code 37 = .ok (.invokestatic 29, 3) := by decide +kernel
theorem d3_40 : decode prog_38_method_3_code 40 = .ok (.putfield 17, 3) := by decide +kernel
theorem d3_43 : decode prog_38_method_3_code 43 = .ok (.return_, 1) := by decide +kernel
theorem efadd2 (m : MethodId) (o0_ : Addr) (o1_ : Addr) : entryFrame m #[(.ref o0_), (.ref o1_)] 2 = mkF m 0 #[lvR o0_, lvR o1_] [] := by first | (simp [entryFrame, mkF, argsToLocals, Value.category]; done) | rfl
def Qadd2 (Z : State) (o0_ : Addr) (o1_ : Addr) (h0 : Heap) (n0 : Nat) (v : Option Value) (h : Heap) (L : List Loc) : Prop := v = none ∧ Fr n0 L ∧ Keep h0 h [o0_] ∧ Exa Z h o0_ cn0 ∧ Fld Z h o0_ cn0 "latestTimestamp" "J" (.long (own_max (-9223372036854775808 : Int64) (-9223372036854775808 : Int64))) ∧ Fld Z h o0_ cn0 "latestDeleteTimestamp" "J" (.long (own_max (-9223372036854775808 : Int64) (-9223372036854775808 : Int64))) ∧ Fld Z h o0_ cn0 "cells" "J" (.long (0 : Int64))
set_option maxRecDepth 65536 in
set_option maxHeartbeats 40000000 in
theorem rmadd2 (l : Launch) (Z : State) (a0 : Array Value) (hw : ∀ d ∈ tables_1, d.before a0 Z = true) (ws : List Jvm.Cond) (o0_ : Addr) (o1_ : Addr) (h0 : Heap) (n0 : Nat) (O0 : Old Z n0 h0) (P0 : Exa Z h0 o0_ cn0) (P1 : Fld Z h0 o0_ cn0 "latestTimestamp" "J" (.long (-9223372036854775808 : Int64))) (P2 : Fld Z h0 o0_ cn0 "latestDeleteTimestamp" "J" (.long (-9223372036854775808 : Int64))) (P3 : Fld Z h0 o0_ cn0 "cells" "J" (.long (0 : Int64))) (P4 : Exa Z h0 o1_ cn0) (P5 : Fld Z h0 o1_ cn0 "latestTimestamp" "J" (.long (-9223372036854775808 : Int64))) (P6 : Fld Z h0 o1_ cn0 "latestDeleteTimestamp" "J" (.long (-9223372036854775808 : Int64))) (P7 : Fld Z h0 o1_ cn0 "cells" "J" (.long (0 : Int64))) (P8 : n0 ≤ o0_) (P9 : o1_ ≠ o0_) :
    MetFree l (⟨"com/example/zenodotus/zenodotus/io/RowCodec$Tally", "add", "(Lcom/example/zenodotus/zenodotus/io/RowCodec$Tally;)V"⟩ : MethodName) (head1 (Jvm.Cond.code (⟨"com/example/zenodotus/zenodotus/io/RowCodec$Tally", "add", "(Lcom/example/zenodotus/zenodotus/io/RowCodec$Tally;)V"⟩ : MethodName) prog_38_method_3_code 2 none :: ws) ({ frames := 1, cells := 0, slots := 0, locals := 16 } : Room)) (fun a U => a = #[(.ref o0_), (.ref o1_)] ∧ Z.Warmed39 U.vm ∧ U.heap = h0) (fun _ _ _ _ _ => True) (fun _ U o U' => ∃ v L, o = .returned v ∧ Qadd2 Z o0_ o1_ h0 n0 v U'.heap L ∧ FrameEnd U o U' L ({ frames := 1, cells := 0, slots := 0, locals := 16 } : Room).cells ({ frames := 1, cells := 0, slots := 0, locals := 16 } : Room).slots) := by
  refine MetFree.of_bodySF (plainFor_of_name pn_0) hisR ?_
  intro p e s m args below meth c s₁ Bd hml0 hP hK
  obtain ⟨rfl, hZ, hh⟩ := hP
  have hx := Bd.exec
  have hby := Bd.bytes
  have hml : c.maxLocals = 2 := hml0
  have hown : s.vm.findClass "com/example/zenodotus/zenodotus/io/RowCodec$Tally" = some m.cls := findClass_of_methodNamed Bd.named
  have hnm := (name_of_methodNamed Bd.named Bd.method).1
  have X0 : Stand p l e ({ frames := 1, cells := 0, slots := 0, locals := 16 } : Room) s m #[(.ref o0_), (.ref o1_)] below meth c s₁ [] 0 0 := Stand.of_body Bd
  have e0 : s₁.heap = h0 := by rw [← hh, Bd.state]; rfl
  have N0 := Fr.nil n0
  obtain ⟨G, pre0, hG⟩ : ∃ G : State → Prop, (∀ t, own_S p e below m s₁ 0 #[lvR o0_, lvR o1_] [] t → G t) ∧ (∀ t, G t → Steps p.tables e below (s₁.setTop (entryFrame m #[(.ref o0_), (.ref o1_)] 2)) t) := ⟨fun t => Steps p.tables e below (s₁.setTop (entryFrame m #[(.ref o0_), (.ref o1_)] 2)) t, fun t k => castTop (efadd2 m o0_ o1_) k, fun _ k => k⟩
  have K0 : Keep h0 h0 [o0_] := Keep.refl _ _
  obtain ⟨T1, X1, e1, st1⟩ := getF X0 hx hZ hown (host := "") (Or.inl (own_w hw 24 rfl)) Via.refl e0 P3 (g := (mkF m 2 #[lvR o0_, lvR o1_] [(.ref o0_), (.ref o0_)])) rfl rfl (hb hby d3_2)
  obtain ⟨T2, X2, e2, st2⟩ := getF X1 hx hZ hown (host := "") (Or.inl (own_w hw 24 rfl)) Via.refl e1 P7 (g := (mkF m 6 #[lvR o0_, lvR o1_] [(.ref o1_), (.long (0 : Int64)), (.ref o0_)])) rfl rfl (hb hby d3_6)
  obtain ⟨T3, h3, X3, e3, W3, st3⟩ := putF X2 hx hZ hown (host := "") (Or.inl (own_w hw 24 rfl)) Via.refl e2 P3 P0 (Or.inl (own_w hw 25 rfl)) (own_w hw 4 rfl) (ty := .long) (by decide) rfl rfl (g := (mkF m 10 #[lvR o0_, lvR o1_] [(.long (0 : Int64)), (.ref o0_)])) rfl rfl (hb hby d3_10)
  have N4 := Fr.snoc X3 N0 P8
  have f5 : Fld Z h3 o0_ cn0 "cells" "J" (.long (0 : Int64)) := P3.same W3
  have f6 : Fld Z h3 o0_ cn0 "latestTimestamp" "J" (.long (-9223372036854775808 : Int64)) := P1.other W3 (Or.inr (slot_ne (Or.inl (own_w hw 14 rfl)) (Or.inl (own_w hw 25 rfl)) (by decide) (t := .long) (t' := .long) (by decide) (by decide)))
  obtain ⟨T7, X7, e7, st7⟩ := getF X3 hx hZ hown (host := "") (Or.inl (own_w hw 13 rfl)) Via.refl e3 f6 (g := (mkF m 15 #[lvR o0_, lvR o1_] [(.ref o0_), (.ref o0_)])) rfl rfl (hb hby d3_15)
  have f8 : Fld Z h3 o1_ cn0 "latestTimestamp" "J" (.long (-9223372036854775808 : Int64)) := P5.other W3 (Or.inl P9)
  obtain ⟨T9, X9, e9, st9⟩ := getF X7 hx hZ hown (host := "") (Or.inl (own_w hw 13 rfl)) Via.refl e7 f8 (g := (mkF m 19 #[lvR o0_, lvR o1_] [(.ref o1_), (.long (-9223372036854775808 : Int64)), (.ref o0_)])) rfl rfl (hb hby d3_19)
  have f11 : Old Z n0 h3 := O0.wr W3 P8
  obtain ⟨_, _, ⟨T10, L10, k10, n10⟩, -, X10, ⟨Lc10, hQ10, l10, y10, z10⟩, st10⟩ := Jvm.LawKit.callS X9 hx (y := (⟨"java/lang/Math", "max", "(JJ)J"⟩ : MethodName)) hown (mvT hZ (own_w hw 27 rfl)) (mvT hZ (own_w hw 28 rfl)) (mvT hZ (own_w hw 29 rfl)) (mvT hZ (own_w hw 30 rfl)) (by decide) (backOf (W := 1) (rmMax l Z a0 hw [] (-9223372036854775808 : Int64) (-9223372036854775808 : Int64) h3 n0 f11 ) hZ (own_w hw 30 rfl) (own_w hw 29 rfl) (by decide) (by decide)) (g := (mkF m 22 #[lvR o0_, lvR o1_] [(.long (-9223372036854775808 : Int64)), (.long (-9223372036854775808 : Int64)), (.ref o0_)])) rfl (by rw [hml]; rfl) (argsL := [(.long (-9223372036854775808 : Int64)), (.long (-9223372036854775808 : Int64))]) (rest := [(.ref o0_)]) (lenOf pd_1 rfl) rfl (by show 2 * 0 + _ ≤ _; exact Nat.le_of_eq rfl) (hb hby d3_22) (fun _ _ => ⟨rfl, e9, (by decide : 0 + 0 ≤ _), (by decide : 0 + 0 ≤ _)⟩)
  dsimp only [Pt.U, Pt.locs, Pt.cells, Pt.slots] at X10 l10 y10 z10 st10 hQ10
  subst l10 y10 z10
  obtain ⟨h10, e10⟩ : ∃ z, T10.heap = z := ⟨_, rfl⟩
  rw [e10] at hQ10
  obtain ⟨rfl, N10q, hh10⟩ := hQ10
  have N12 := Fr.app N4 N10q
  have e10' : T10.heap = h3 := e10.trans hh10
  have f13 : Exa Z h3 o0_ cn0 := P0.wr W3
  obtain ⟨T14, h14, X14, e14, W14, st14⟩ := putF X10 hx hZ hown (host := "") (Or.inl (own_w hw 13 rfl)) Via.refl e10' f6 f13 (Or.inl (own_w hw 14 rfl)) (own_w hw 4 rfl) (ty := .long) (by decide) rfl rfl (g := (mkF m 25 #[lvR o0_, lvR o1_] [(.long (own_max (-9223372036854775808 : Int64) (-9223372036854775808 : Int64))), (.ref o0_)])) rfl rfl (hb hby d3_25)
  have N15 := Fr.snoc X14 N12 P8
  have f16 : Fld Z h14 o0_ cn0 "latestTimestamp" "J" (.long (own_max (-9223372036854775808 : Int64) (-9223372036854775808 : Int64))) := f6.same W14
  have f17 : Fld Z h3 o0_ cn0 "latestDeleteTimestamp" "J" (.long (-9223372036854775808 : Int64)) := P2.other W3 (Or.inr (slot_ne (Or.inl (own_w hw 16 rfl)) (Or.inl (own_w hw 25 rfl)) (by decide) (t := .long) (t' := .long) (by decide) (by decide)))
  have f18 : Fld Z h14 o0_ cn0 "latestDeleteTimestamp" "J" (.long (-9223372036854775808 : Int64)) := f17.other W14 (Or.inr (slot_ne (Or.inl (own_w hw 16 rfl)) (Or.inl (own_w hw 14 rfl)) (by decide) (t := .long) (t' := .long) (by decide) (by decide)))
  obtain ⟨T19, X19, e19, st19⟩ := getF X14 hx hZ hown (host := "") (Or.inl (own_w hw 15 rfl)) Via.refl e14 f18 (g := (mkF m 30 #[lvR o0_, lvR o1_] [(.ref o0_), (.ref o0_)])) rfl rfl (hb hby d3_30)
  have f20 : Fld Z h3 o1_ cn0 "latestDeleteTimestamp" "J" (.long (-9223372036854775808 : Int64)) := P6.other W3 (Or.inl P9)
  have f21 : Fld Z h14 o1_ cn0 "latestDeleteTimestamp" "J" (.long (-9223372036854775808 : Int64)) := f20.other W14 (Or.inl P9)
  obtain ⟨T22, X22, e22, st22⟩ := getF X19 hx hZ hown (host := "") (Or.inl (own_w hw 15 rfl)) Via.refl e19 f21 (g := (mkF m 34 #[lvR o0_, lvR o1_] [(.ref o1_), (.long (-9223372036854775808 : Int64)), (.ref o0_)])) rfl rfl (hb hby d3_34)
  have f24 : Old Z n0 h14 := f11.wr W14 P8
  obtain ⟨_, _, ⟨T23, L23, k23, n23⟩, -, X23, ⟨Lc23, hQ23, l23, y23, z23⟩, st23⟩ := Jvm.LawKit.callS X22 hx (y := (⟨"java/lang/Math", "max", "(JJ)J"⟩ : MethodName)) hown (mvT hZ (own_w hw 27 rfl)) (mvT hZ (own_w hw 28 rfl)) (mvT hZ (own_w hw 29 rfl)) (mvT hZ (own_w hw 30 rfl)) (by decide) (backOf (W := 1) (rmMax l Z a0 hw [] (-9223372036854775808 : Int64) (-9223372036854775808 : Int64) h14 n0 f24 ) hZ (own_w hw 30 rfl) (own_w hw 29 rfl) (by decide) (by decide)) (g := (mkF m 37 #[lvR o0_, lvR o1_] [(.long (-9223372036854775808 : Int64)), (.long (-9223372036854775808 : Int64)), (.ref o0_)])) rfl (by rw [hml]; rfl) (argsL := [(.long (-9223372036854775808 : Int64)), (.long (-9223372036854775808 : Int64))]) (rest := [(.ref o0_)]) (lenOf pd_1 rfl) rfl (by show 2 * 0 + _ ≤ _; exact Nat.le_of_eq rfl) (hb hby d3_37) (fun _ _ => ⟨rfl, e22, (by decide : 0 + 0 ≤ _), (by decide : 0 + 0 ≤ _)⟩)
  dsimp only [Pt.U, Pt.locs, Pt.cells, Pt.slots] at X23 l23 y23 z23 st23 hQ23
  subst l23 y23 z23
  obtain ⟨h23, e23⟩ : ∃ z, T23.heap = z := ⟨_, rfl⟩
  rw [e23] at hQ23
  obtain ⟨rfl, N23q, hh23⟩ := hQ23
  have N25 := Fr.app N15 N23q
  have e23' : T23.heap = h14 := e23.trans hh23
  have f26 : Exa Z h14 o0_ cn0 := f13.wr W14
  obtain ⟨T27, h27, X27, e27, W27, st27⟩ := putF X23 hx hZ hown (host := "") (Or.inl (own_w hw 15 rfl)) Via.refl e23' f18 f26 (Or.inl (own_w hw 16 rfl)) (own_w hw 4 rfl) (ty := .long) (by decide) rfl rfl (g := (mkF m 40 #[lvR o0_, lvR o1_] [(.long (own_max (-9223372036854775808 : Int64) (-9223372036854775808 : Int64))), (.ref o0_)])) rfl rfl (hb hby d3_40)
  have N28 := Fr.snoc X27 N25 P8
  have f29 : Fld Z h27 o0_ cn0 "latestDeleteTimestamp" "J" (.long (own_max (-9223372036854775808 : Int64) (-9223372036854775808 : Int64))) := f18.same W27
  have pre30 : ∀ t, own_S p e below m T27 43 #[lvR o0_, lvR o1_] [] t → G t := by
    intro t kt
    refine pre0 t ?_
    show own_S p e below m s₁ 0 #[lvR o0_, lvR o1_] [] _
    refine XS.aloadN X0.here hx rfl (hb hby d3_0) rfl rfl ?_
    refine XS.dup X0.here hx rfl (hb hby d3_1) rfl rfl ?_
    show own_S p e below m s₁ 2 #[lvR o0_, lvR o1_] [(.ref o0_), (.ref o0_)] _
    refine st1 _ ?_
    refine XS.aloadN X1.here hx rfl (hb hby d3_5) rfl rfl ?_
    show own_S p e below m T1 6 #[lvR o0_, lvR o1_] [(.ref o1_), (.long (0 : Int64)), (.ref o0_)] _
    refine st2 _ ?_
    refine XS.ladd X2.here hx rfl (hb hby d3_9) rfl ?_
    show own_S p e below m T2 10 #[lvR o0_, lvR o1_] [(.long (0 : Int64)), (.ref o0_)] _
    refine st3 _ ?_
    refine XS.aloadN X3.here hx rfl (hb hby d3_13) rfl rfl ?_
    refine XS.aloadN X3.here hx rfl (hb hby d3_14) rfl rfl ?_
    show own_S p e below m T3 15 #[lvR o0_, lvR o1_] [(.ref o0_), (.ref o0_)] _
    refine st7 _ ?_
    refine XS.aloadN X7.here hx rfl (hb hby d3_18) rfl rfl ?_
    show own_S p e below m T7 19 #[lvR o0_, lvR o1_] [(.ref o1_), (.long (-9223372036854775808 : Int64)), (.ref o0_)] _
    refine st9 _ ?_
    show own_S p e below m T9 22 #[lvR o0_, lvR o1_] [(.long (-9223372036854775808 : Int64)), (.long (-9223372036854775808 : Int64)), (.ref o0_)] _
    refine st10 _ ?_
    show own_S p e below m T10 25 #[lvR o0_, lvR o1_] [(.long (own_max (-9223372036854775808 : Int64) (-9223372036854775808 : Int64))), (.ref o0_)] _
    refine st14 _ ?_
    refine XS.aloadN X14.here hx rfl (hb hby d3_28) rfl rfl ?_
    refine XS.aloadN X14.here hx rfl (hb hby d3_29) rfl rfl ?_
    show own_S p e below m T14 30 #[lvR o0_, lvR o1_] [(.ref o0_), (.ref o0_)] _
    refine st19 _ ?_
    refine XS.aloadN X19.here hx rfl (hb hby d3_33) rfl rfl ?_
    show own_S p e below m T19 34 #[lvR o0_, lvR o1_] [(.ref o1_), (.long (-9223372036854775808 : Int64)), (.ref o0_)] _
    refine st22 _ ?_
    show own_S p e below m T22 37 #[lvR o0_, lvR o1_] [(.long (-9223372036854775808 : Int64)), (.long (-9223372036854775808 : Int64)), (.ref o0_)] _
    refine st23 _ ?_
    show own_S p e below m T23 40 #[lvR o0_, lvR o1_] [(.long (own_max (-9223372036854775808 : Int64) (-9223372036854775808 : Int64))), (.ref o0_)] _
    refine st27 _ ?_
    exact kt
  have f32 : Keep h0 h3 [o0_] := K0.wr W3 (Or.inl (List.mem_of_getElem? (i := 0) rfl))
  have f33 : Keep h0 h14 [o0_] := f32.wr W14 (Or.inl (List.mem_of_getElem? (i := 0) rfl))
  have f34 : Keep h0 h27 [o0_] := f33.wr W27 (Or.inl (List.mem_of_getElem? (i := 0) rfl))
  have f35 : Exa Z h27 o0_ cn0 := f26.wr W27
  have f36 : Fld Z h27 o0_ cn0 "latestTimestamp" "J" (.long (own_max (-9223372036854775808 : Int64) (-9223372036854775808 : Int64))) := f16.other W27 (Or.inr (slot_ne (Or.inl (own_w hw 14 rfl)) (Or.inl (own_w hw 16 rfl)) (by decide) (t := .long) (t' := .long) (by decide) (by decide)))
  have f37 : Fld Z h14 o0_ cn0 "cells" "J" (.long (0 : Int64)) := f5.other W14 (Or.inr (slot_ne (Or.inl (own_w hw 25 rfl)) (Or.inl (own_w hw 14 rfl)) (by decide) (t := .long) (t' := .long) (by decide) (by decide)))
  have f38 : Fld Z h27 o0_ cn0 "cells" "J" (.long (0 : Int64)) := f37.other W27 (Or.inr (slot_ne (Or.inl (own_w hw 25 rfl)) (Or.inl (own_w hw 16 rfl)) (by decide) (t := .long) (t' := .long) (by decide) (by decide)))
  obtain ⟨fs, hr, hrun, hended, hW, hsame⟩ := X27.leave (v := none) (fun _ => rfl)
  refine ⟨_, _, hG _ (pre30 _ (X27.returnOut hx Bd.returns (hb hby d3_43) hr)), hrun, hended, _, _, rfl, ?_, ⟨_, rfl⟩, hW, hsame.mono (by decide) (by decide)⟩
  show Qadd2 Z o0_ o1_ h0 n0 _ T27.heap _
  rw [e27]
  exact ⟨rfl, N28, f34, f35, f36, f29, f38⟩
theorem pd_2 : parseMethodDescriptor "(Lcom/example/zenodotus/zenodotus/io/RowCodec$Tally;)V" = some ⟨[(.object "com/example/zenodotus/zenodotus/io/RowCodec$Tally")], none⟩ := by decide +kernel
theorem d4_0 : decode prog_38_method_4_code 0 = .ok (.aload_n 0, 1) := by decide +kernel
theorem d4_1 : decode prog_38_method_4_code 1 = .ok (.getfield 20, 3) := by decide +kernel
theorem d4_4 : decode prog_38_method_4_code 4 = .ok (.lreturn, 1) := by decide +kernel
theorem efcells3 (m : MethodId) (o0_ : Addr) : entryFrame m #[(.ref o0_)] 1 = mkF m 0 #[lvR o0_] [] := by first | (simp [entryFrame, mkF, argsToLocals, Value.category]; done) | rfl
def Qcells3 (Z : State) (o0_ : Addr) (y0_ : Int64) (h0 : Heap) (n0 : Nat) (v : Option Value) (h : Heap) (L : List Loc) : Prop := v = some (.long (0 : Int64)) ∧ Fr n0 L ∧ h = h0
set_option maxRecDepth 65536 in
set_option maxHeartbeats 40000000 in
theorem rmcells3 (l : Launch) (Z : State) (a0 : Array Value) (hw : ∀ d ∈ tables_1, d.before a0 Z = true) (ws : List Jvm.Cond) (o0_ : Addr) (y0_ : Int64) (h0 : Heap) (n0 : Nat) (O0 : Old Z n0 h0) (P0 : Exa Z h0 o0_ cn0) (P1 : Fld Z h0 o0_ cn0 "latestTimestamp" "J" (.long y0_)) (P2 : Fld Z h0 o0_ cn0 "latestDeleteTimestamp" "J" (.long y0_)) (P3 : Fld Z h0 o0_ cn0 "cells" "J" (.long (0 : Int64))) :
    MetFree l (⟨"com/example/zenodotus/zenodotus/io/RowCodec$Tally", "cells", "()J"⟩ : MethodName) (head1 (Jvm.Cond.code (⟨"com/example/zenodotus/zenodotus/io/RowCodec$Tally", "cells", "()J"⟩ : MethodName) prog_38_method_4_code 1 (some .long) :: ws) ({ frames := 0, cells := 0, slots := 0, locals := 0 } : Room)) (fun a U => a = #[(.ref o0_)] ∧ Z.Warmed39 U.vm ∧ U.heap = h0) (fun _ _ _ _ _ => True) (fun _ U o U' => ∃ v L, o = .returned v ∧ Qcells3 Z o0_ y0_ h0 n0 v U'.heap L ∧ FrameEnd U o U' L ({ frames := 0, cells := 0, slots := 0, locals := 0 } : Room).cells ({ frames := 0, cells := 0, slots := 0, locals := 0 } : Room).slots) := by
  refine MetFree.of_bodySF (plainFor_of_name pn_0) hisR ?_
  intro p e s m args below meth c s₁ Bd hml0 hP hK
  obtain ⟨rfl, hZ, hh⟩ := hP
  have hx := Bd.exec
  have hby := Bd.bytes
  have hml : c.maxLocals = 1 := hml0
  have hown : s.vm.findClass "com/example/zenodotus/zenodotus/io/RowCodec$Tally" = some m.cls := findClass_of_methodNamed Bd.named
  have hnm := (name_of_methodNamed Bd.named Bd.method).1
  have X0 : Stand p l e ({ frames := 0, cells := 0, slots := 0, locals := 0 } : Room) s m #[(.ref o0_)] below meth c s₁ [] 0 0 := Stand.of_body Bd
  have e0 : s₁.heap = h0 := by rw [← hh, Bd.state]; rfl
  have N0 := Fr.nil n0
  obtain ⟨G, pre0, hG⟩ : ∃ G : State → Prop, (∀ t, own_S p e below m s₁ 0 #[lvR o0_] [] t → G t) ∧ (∀ t, G t → Steps p.tables e below (s₁.setTop (entryFrame m #[(.ref o0_)] 1)) t) := ⟨fun t => Steps p.tables e below (s₁.setTop (entryFrame m #[(.ref o0_)] 1)) t, fun t k => castTop (efcells3 m o0_) k, fun _ k => k⟩
  have K0 : Keep h0 h0 [] := Keep.refl _ _
  obtain ⟨T1, X1, e1, st1⟩ := getF X0 hx hZ hown (host := "") (Or.inl (own_w hw 24 rfl)) Via.refl e0 P3 (g := (mkF m 1 #[lvR o0_] [(.ref o0_)])) rfl rfl (hb hby d4_1)
  have pre2 : ∀ t, own_S p e below m T1 4 #[lvR o0_] [(.long (0 : Int64))] t → G t := by
    intro t kt
    refine pre0 t ?_
    show own_S p e below m s₁ 0 #[lvR o0_] [] _
    refine XS.aloadN X0.here hx rfl (hb hby d4_0) rfl rfl ?_
    show own_S p e below m s₁ 1 #[lvR o0_] [(.ref o0_)] _
    refine st1 _ ?_
    exact kt
  obtain ⟨fs, hr, hrun, hended, hW, hsame⟩ := X1.leave (v := some (.long (0 : Int64))) (fun h => by rw [Bd.returns] at h; cases h)
  refine ⟨_, _, hG _ (pre2 _ (retOut X1 hx Bd.returns rfl (Or.inr (Or.inl ⟨rfl, rfl, _, rfl⟩)) (hb hby d4_4) hr)), hrun, hended, _, _, rfl, ?_, ⟨_, rfl⟩, hW, hsame.mono (by decide) (by decide)⟩
  show Qcells3 Z o0_ y0_ h0 n0 _ T1.heap _
  rw [e1]
  exact ⟨rfl, N0, rfl⟩
theorem pd_3 : parseMethodDescriptor "()J" = some ⟨[], some .long⟩ := by decide +kernel
theorem d5_0 : decode prog_38_method_5_code 0 = .ok (.aload_n 0, 1) := by decide +kernel
theorem d5_1 : decode prog_38_method_5_code 1 = .ok (.getfield 11, 3) := by decide +kernel
theorem d5_4 : decode prog_38_method_5_code 4 = .ok (.lreturn, 1) := by decide +kernel
theorem eflatestTimestamp4 (m : MethodId) (o0_ : Addr) : entryFrame m #[(.ref o0_)] 1 = mkF m 0 #[lvR o0_] [] := by first | (simp [entryFrame, mkF, argsToLocals, Value.category]; done) | rfl
def QlatestTimestamp4 (Z : State) (o0_ : Addr) (y0_ : Int64) (h0 : Heap) (n0 : Nat) (v : Option Value) (h : Heap) (L : List Loc) : Prop := v = some (.long y0_) ∧ Fr n0 L ∧ h = h0
set_option maxRecDepth 65536 in
set_option maxHeartbeats 40000000 in
theorem rmlatestTimestamp4 (l : Launch) (Z : State) (a0 : Array Value) (hw : ∀ d ∈ tables_1, d.before a0 Z = true) (ws : List Jvm.Cond) (o0_ : Addr) (y0_ : Int64) (h0 : Heap) (n0 : Nat) (O0 : Old Z n0 h0) (P0 : Exa Z h0 o0_ cn0) (P1 : Fld Z h0 o0_ cn0 "latestTimestamp" "J" (.long y0_)) (P2 : Fld Z h0 o0_ cn0 "latestDeleteTimestamp" "J" (.long y0_)) (P3 : Fld Z h0 o0_ cn0 "cells" "J" (.long (0 : Int64))) :
    MetFree l (⟨"com/example/zenodotus/zenodotus/io/RowCodec$Tally", "latestTimestamp", "()J"⟩ : MethodName) (head1 (Jvm.Cond.code (⟨"com/example/zenodotus/zenodotus/io/RowCodec$Tally", "latestTimestamp", "()J"⟩ : MethodName) prog_38_method_5_code 1 (some .long) :: ws) ({ frames := 0, cells := 0, slots := 0, locals := 0 } : Room)) (fun a U => a = #[(.ref o0_)] ∧ Z.Warmed39 U.vm ∧ U.heap = h0) (fun _ _ _ _ _ => True) (fun _ U o U' => ∃ v L, o = .returned v ∧ QlatestTimestamp4 Z o0_ y0_ h0 n0 v U'.heap L ∧ FrameEnd U o U' L ({ frames := 0, cells := 0, slots := 0, locals := 0 } : Room).cells ({ frames := 0, cells := 0, slots := 0, locals := 0 } : Room).slots) := by
  refine MetFree.of_bodySF (plainFor_of_name pn_0) hisR ?_
  intro p e s m args below meth c s₁ Bd hml0 hP hK
  obtain ⟨rfl, hZ, hh⟩ := hP
  have hx := Bd.exec
  have hby := Bd.bytes
  have hml : c.maxLocals = 1 := hml0
  have hown : s.vm.findClass "com/example/zenodotus/zenodotus/io/RowCodec$Tally" = some m.cls := findClass_of_methodNamed Bd.named
  have hnm := (name_of_methodNamed Bd.named Bd.method).1
  have X0 : Stand p l e ({ frames := 0, cells := 0, slots := 0, locals := 0 } : Room) s m #[(.ref o0_)] below meth c s₁ [] 0 0 := Stand.of_body Bd
  have e0 : s₁.heap = h0 := by rw [← hh, Bd.state]; rfl
  have N0 := Fr.nil n0
  obtain ⟨G, pre0, hG⟩ : ∃ G : State → Prop, (∀ t, own_S p e below m s₁ 0 #[lvR o0_] [] t → G t) ∧ (∀ t, G t → Steps p.tables e below (s₁.setTop (entryFrame m #[(.ref o0_)] 1)) t) := ⟨fun t => Steps p.tables e below (s₁.setTop (entryFrame m #[(.ref o0_)] 1)) t, fun t k => castTop (eflatestTimestamp4 m o0_) k, fun _ k => k⟩
  have K0 : Keep h0 h0 [] := Keep.refl _ _
  obtain ⟨T1, X1, e1, st1⟩ := getF X0 hx hZ hown (host := "") (Or.inl (own_w hw 13 rfl)) Via.refl e0 P1 (g := (mkF m 1 #[lvR o0_] [(.ref o0_)])) rfl rfl (hb hby d5_1)
  have pre2 : ∀ t, own_S p e below m T1 4 #[lvR o0_] [(.long y0_)] t → G t := by
    intro t kt
    refine pre0 t ?_
    show own_S p e below m s₁ 0 #[lvR o0_] [] _
    refine XS.aloadN X0.here hx rfl (hb hby d5_0) rfl rfl ?_
    show own_S p e below m s₁ 1 #[lvR o0_] [(.ref o0_)] _
    refine st1 _ ?_
    exact kt
  obtain ⟨fs, hr, hrun, hended, hW, hsame⟩ := X1.leave (v := some (.long y0_)) (fun h => by rw [Bd.returns] at h; cases h)
  refine ⟨_, _, hG _ (pre2 _ (retOut X1 hx Bd.returns rfl (Or.inr (Or.inl ⟨rfl, rfl, _, rfl⟩)) (hb hby d5_4) hr)), hrun, hended, _, _, rfl, ?_, ⟨_, rfl⟩, hW, hsame.mono (by decide) (by decide)⟩
  show QlatestTimestamp4 Z o0_ y0_ h0 n0 _ T1.heap _
  rw [e1]
  exact ⟨rfl, N0, rfl⟩
theorem d6_0 : decode method_2_code 0 = .ok (.iload_n 0, 1) := by decide +kernel
theorem d6_1 : decode method_2_code 1 = .ok (.ifCond .eq 21, 3) := by decide +kernel
theorem d6_22 : decode method_2_code 22 = .ok (.iload_n 0, 1) := by decide +kernel
theorem d6_23 : decode method_2_code 23 = .ok (.ifCond .eq 5, 3) := by decide +kernel
theorem d6_28 : decode method_2_code 28 = .ok (.iload_n 3, 1) := by decide +kernel
theorem d6_29 : decode method_2_code 29 = .ok (.ifCond .eq 6, 3) := by decide +kernel
theorem d6_35 : decode method_2_code 35 = .ok (.ldc2_w 9, 3) := by decide +kernel
theorem d6_38 : decode method_2_code 38 = .ok (.lreturn, 1) := by decide +kernel
theorem pn_1 : plainName "com/example/zenodotus/zenodotus/io/TallyAddPinLaw" = true := by first | (simp [plainName, overriddenIn]; done) | decide +kernel
theorem efexpect5 (m : MethodId) (y0_ : Int64) (y1_ : Int64) : entryFrame m #[(.int (0 : Int32)), (.long y0_), (.int (0 : Int32)), (.long y1_)] 6 = mkF m 0 #[lvI (0 : Int32), lvJ y0_, .second, lvI (0 : Int32), lvJ y1_, .second] [] := by first | (simp [entryFrame, mkF, argsToLocals, Value.category]; done) | rfl
def Qexpect5 (Z : State) (y0_ : Int64) (y1_ : Int64) (h0 : Heap) (n0 : Nat) (v : Option Value) (h : Heap) (L : List Loc) : Prop := v = some (.long (-9223372036854775808 : Int64)) ∧ Fr n0 L ∧ h = h0
set_option maxRecDepth 65536 in
set_option maxHeartbeats 40000000 in
theorem rmexpect5 (l : Launch) (Z : State) (a0 : Array Value) (hw : ∀ d ∈ tables_1, d.before a0 Z = true) (ws : List Jvm.Cond) (y0_ : Int64) (y1_ : Int64) (h0 : Heap) (n0 : Nat) (O0 : Old Z n0 h0)  :
    MetFree l (⟨"com/example/zenodotus/zenodotus/io/TallyAddPinLaw", "expect", "(ZJZJ)J"⟩ : MethodName) (head1 (Jvm.Cond.code (⟨"com/example/zenodotus/zenodotus/io/TallyAddPinLaw", "expect", "(ZJZJ)J"⟩ : MethodName) method_2_code 6 (some .long) :: ws) ({ frames := 0, cells := 0, slots := 0, locals := 0 } : Room)) (fun a U => a = #[(.int (0 : Int32)), (.long y0_), (.int (0 : Int32)), (.long y1_)] ∧ Z.Warmed39 U.vm ∧ U.heap = h0) (fun _ _ _ _ _ => True) (fun _ U o U' => ∃ v L, o = .returned v ∧ Qexpect5 Z y0_ y1_ h0 n0 v U'.heap L ∧ FrameEnd U o U' L ({ frames := 0, cells := 0, slots := 0, locals := 0 } : Room).cells ({ frames := 0, cells := 0, slots := 0, locals := 0 } : Room).slots) := by
  refine MetFree.of_bodySF (plainFor_of_name pn_1) hisR ?_
  intro p e s m args below meth c s₁ Bd hml0 hP hK
  obtain ⟨rfl, hZ, hh⟩ := hP
  have hx := Bd.exec
  have hby := Bd.bytes
  have hml : c.maxLocals = 6 := hml0
  have hown : s.vm.findClass "com/example/zenodotus/zenodotus/io/TallyAddPinLaw" = some m.cls := findClass_of_methodNamed Bd.named
  have hnm := (name_of_methodNamed Bd.named Bd.method).1
  have X0 : Stand p l e ({ frames := 0, cells := 0, slots := 0, locals := 0 } : Room) s m #[(.int (0 : Int32)), (.long y0_), (.int (0 : Int32)), (.long y1_)] below meth c s₁ [] 0 0 := Stand.of_body Bd
  have e0 : s₁.heap = h0 := by rw [← hh, Bd.state]; rfl
  have N0 := Fr.nil n0
  obtain ⟨G, pre0, hG⟩ : ∃ G : State → Prop, (∀ t, own_S p e below m s₁ 0 #[lvI (0 : Int32), lvJ y0_, .second, lvI (0 : Int32), lvJ y1_, .second] [] t → G t) ∧ (∀ t, G t → Steps p.tables e below (s₁.setTop (entryFrame m #[(.int (0 : Int32)), (.long y0_), (.int (0 : Int32)), (.long y1_)] 6)) t) := ⟨fun t => Steps p.tables e below (s₁.setTop (entryFrame m #[(.int (0 : Int32)), (.long y0_), (.int (0 : Int32)), (.long y1_)] 6)) t, fun t k => castTop (efexpect5 m y0_ y1_) k, fun _ k => k⟩
  have K0 : Keep h0 h0 [] := Keep.refl _ _
  have pre1 : ∀ t, own_S p e below m s₁ 38 #[lvI (0 : Int32), lvJ y0_, .second, lvI (0 : Int32), lvJ y1_, .second] [(.long (-9223372036854775808 : Int64))] t → G t := by
    intro t kt
    refine pre0 t ?_
    show own_S p e below m s₁ 0 #[lvI (0 : Int32), lvJ y0_, .second, lvI (0 : Int32), lvJ y1_, .second] [] _
    refine XS.iloadN X0.here hx rfl (hb hby d6_0) rfl ?_
    show own_S p e below m s₁ 1 #[lvI (0 : Int32), lvJ y0_, .second, lvI (0 : Int32), lvJ y1_, .second] [(.int (0 : Int32))] _
    refine XS.ifYes X0.here hx rfl (pc0 := 1) (pc' := 22) rfl (hb hby d6_1) rfl ((if0 _ _).trans (teq (by decide : (0 : Int32) = (0 : Int32))).1) (by decide) (by decide) ?_
    refine XS.iloadN X0.here hx rfl (hb hby d6_22) rfl ?_
    show own_S p e below m s₁ 23 #[lvI (0 : Int32), lvJ y0_, .second, lvI (0 : Int32), lvJ y1_, .second] [(.int (0 : Int32))] _
    refine XS.ifYes X0.here hx rfl (pc0 := 23) (pc' := 28) rfl (hb hby d6_23) rfl ((if0 _ _).trans (teq (by decide : (0 : Int32) = (0 : Int32))).1) (by decide) (by decide) ?_
    refine XS.iloadN X0.here hx rfl (hb hby d6_28) rfl ?_
    show own_S p e below m s₁ 29 #[lvI (0 : Int32), lvJ y0_, .second, lvI (0 : Int32), lvJ y1_, .second] [(.int (0 : Int32))] _
    refine XS.ifYes X0.here hx rfl (pc0 := 29) (pc' := 35) rfl (hb hby d6_29) rfl ((if0 _ _).trans (teq (by decide : (0 : Int32) = (0 : Int32))).1) (by decide) (by decide) ?_
    show own_S p e below m s₁ 35 #[lvI (0 : Int32), lvJ y0_, .second, lvI (0 : Int32), lvJ y1_, .second] [] _
    refine X0.ldc2Long hx hown (mvT hZ (own_w hw 57 rfl)) (g := (mkF m 35 #[lvI (0 : Int32), lvJ y0_, .second, lvI (0 : Int32), lvJ y1_, .second] [])) rfl (hb hby d6_35) _ ?_
    exact kt
  obtain ⟨fs, hr, hrun, hended, hW, hsame⟩ := X0.leave (v := some (.long (-9223372036854775808 : Int64))) (fun h => by rw [Bd.returns] at h; cases h)
  refine ⟨_, _, hG _ (pre1 _ (retOut X0 hx Bd.returns rfl (Or.inr (Or.inl ⟨rfl, rfl, _, rfl⟩)) (hb hby d6_38) hr)), hrun, hended, _, _, rfl, ?_, ⟨_, rfl⟩, hW, hsame.mono (by decide) (by decide)⟩
  show Qexpect5 Z y0_ y1_ h0 n0 _ s₁.heap _
  rw [e0]
  exact ⟨rfl, N0, rfl⟩
theorem pd_4 : parseMethodDescriptor "(ZJZJ)J" = some ⟨[.boolean, .long, .boolean, .long], some .long⟩ := by decide +kernel
theorem d7_0 : decode prog_38_method_6_code 0 = .ok (.aload_n 0, 1) := by decide +kernel
theorem d7_1 : decode prog_38_method_6_code 1 = .ok (.getfield 17, 3) := by decide +kernel
theorem d7_4 : decode prog_38_method_6_code 4 = .ok (.lreturn, 1) := by decide +kernel
theorem eflatestDeleteTimestamp6 (m : MethodId) (o0_ : Addr) : entryFrame m #[(.ref o0_)] 1 = mkF m 0 #[lvR o0_] [] := by first | (simp [entryFrame, mkF, argsToLocals, Value.category]; done) | rfl
def QlatestDeleteTimestamp6 (Z : State) (o0_ : Addr) (y0_ : Int64) (h0 : Heap) (n0 : Nat) (v : Option Value) (h : Heap) (L : List Loc) : Prop := v = some (.long y0_) ∧ Fr n0 L ∧ h = h0
set_option maxRecDepth 65536 in
set_option maxHeartbeats 40000000 in
theorem rmlatestDeleteTimestamp6 (l : Launch) (Z : State) (a0 : Array Value) (hw : ∀ d ∈ tables_1, d.before a0 Z = true) (ws : List Jvm.Cond) (o0_ : Addr) (y0_ : Int64) (h0 : Heap) (n0 : Nat) (O0 : Old Z n0 h0) (P0 : Exa Z h0 o0_ cn0) (P1 : Fld Z h0 o0_ cn0 "latestTimestamp" "J" (.long y0_)) (P2 : Fld Z h0 o0_ cn0 "latestDeleteTimestamp" "J" (.long y0_)) (P3 : Fld Z h0 o0_ cn0 "cells" "J" (.long (0 : Int64))) :
    MetFree l (⟨"com/example/zenodotus/zenodotus/io/RowCodec$Tally", "latestDeleteTimestamp", "()J"⟩ : MethodName) (head1 (Jvm.Cond.code (⟨"com/example/zenodotus/zenodotus/io/RowCodec$Tally", "latestDeleteTimestamp", "()J"⟩ : MethodName) prog_38_method_6_code 1 (some .long) :: ws) ({ frames := 0, cells := 0, slots := 0, locals := 0 } : Room)) (fun a U => a = #[(.ref o0_)] ∧ Z.Warmed39 U.vm ∧ U.heap = h0) (fun _ _ _ _ _ => True) (fun _ U o U' => ∃ v L, o = .returned v ∧ QlatestDeleteTimestamp6 Z o0_ y0_ h0 n0 v U'.heap L ∧ FrameEnd U o U' L ({ frames := 0, cells := 0, slots := 0, locals := 0 } : Room).cells ({ frames := 0, cells := 0, slots := 0, locals := 0 } : Room).slots) := by
  refine MetFree.of_bodySF (plainFor_of_name pn_0) hisR ?_
  intro p e s m args below meth c s₁ Bd hml0 hP hK
  obtain ⟨rfl, hZ, hh⟩ := hP
  have hx := Bd.exec
  have hby := Bd.bytes
  have hml : c.maxLocals = 1 := hml0
  have hown : s.vm.findClass "com/example/zenodotus/zenodotus/io/RowCodec$Tally" = some m.cls := findClass_of_methodNamed Bd.named
  have hnm := (name_of_methodNamed Bd.named Bd.method).1
  have X0 : Stand p l e ({ frames := 0, cells := 0, slots := 0, locals := 0 } : Room) s m #[(.ref o0_)] below meth c s₁ [] 0 0 := Stand.of_body Bd
  have e0 : s₁.heap = h0 := by rw [← hh, Bd.state]; rfl
  have N0 := Fr.nil n0
  obtain ⟨G, pre0, hG⟩ : ∃ G : State → Prop, (∀ t, own_S p e below m s₁ 0 #[lvR o0_] [] t → G t) ∧ (∀ t, G t → Steps p.tables e below (s₁.setTop (entryFrame m #[(.ref o0_)] 1)) t) := ⟨fun t => Steps p.tables e below (s₁.setTop (entryFrame m #[(.ref o0_)] 1)) t, fun t k => castTop (eflatestDeleteTimestamp6 m o0_) k, fun _ k => k⟩
  have K0 : Keep h0 h0 [] := Keep.refl _ _
  obtain ⟨T1, X1, e1, st1⟩ := getF X0 hx hZ hown (host := "") (Or.inl (own_w hw 15 rfl)) Via.refl e0 P2 (g := (mkF m 1 #[lvR o0_] [(.ref o0_)])) rfl rfl (hb hby d7_1)
  have pre2 : ∀ t, own_S p e below m T1 4 #[lvR o0_] [(.long y0_)] t → G t := by
    intro t kt
    refine pre0 t ?_
    show own_S p e below m s₁ 0 #[lvR o0_] [] _
    refine XS.aloadN X0.here hx rfl (hb hby d7_0) rfl rfl ?_
    show own_S p e below m s₁ 1 #[lvR o0_] [(.ref o0_)] _
    refine st1 _ ?_
    exact kt
  obtain ⟨fs, hr, hrun, hended, hW, hsame⟩ := X1.leave (v := some (.long y0_)) (fun h => by rw [Bd.returns] at h; cases h)
  refine ⟨_, _, hG _ (pre2 _ (retOut X1 hx Bd.returns rfl (Or.inr (Or.inl ⟨rfl, rfl, _, rfl⟩)) (hb hby d7_4) hr)), hrun, hended, _, _, rfl, ?_, ⟨_, rfl⟩, hW, hsame.mono (by decide) (by decide)⟩
  show QlatestDeleteTimestamp6 Z o0_ y0_ h0 n0 _ T1.heap _
  rw [e1]
  exact ⟨rfl, N0, rfl⟩
theorem d8_0 : decode prog_38_method_2_code 0 = .ok (.aload_n 0, 1) := by decide +kernel
theorem d8_1 : decode prog_38_method_2_code 1 = .ok (.dup, 1) := by decide +kernel
theorem d8_2 : decode prog_38_method_2_code 2 = .ok (.getfield 20, 3) := by decide +kernel
theorem d8_5 : decode prog_38_method_2_code 5 = .ok (.lconst 1, 1) := by decide +kernel
theorem d8_6 : decode prog_38_method_2_code 6 = .ok (.ladd, 1) := by decide +kernel
theorem d8_7 : decode prog_38_method_2_code 7 = .ok (.putfield 20, 3) := by decide +kernel
theorem d8_10 : decode prog_38_method_2_code 10 = .ok (.aload_n 1, 1) := by decide +kernel
theorem d8_11 : decode prog_38_method_2_code 11 = .ok (.getstatic 23, 3) := by decide +kernel
theorem d8_14 : decode prog_38_method_2_code 14 = .ok (.if_acmp .ne 18, 3) := by decide +kernel
theorem d8_32 : decode prog_38_method_2_code 32 = .ok (.aload_n 0, 1) := by decide +kernel
theorem d8_33 : decode prog_38_method_2_code 33 = .ok (.aload_n 0, 1) := by decide +kernel
theorem d8_34 : decode prog_38_method_2_code 34 = .ok (.getfield 17, 3) := by decide +kernel
theorem d8_37 : decode prog_38_method_2_code 37 = .ok (.lload_n 2, 1) := by decide +kernel
theorem d8_38 : decode prog_38_method_2_code 38 = .ok (.invokestatic 29, 3) := by decide +kernel
theorem d8_41 : decode prog_38_method_2_code 41 = .ok (.putfield 17, 3) := by decide +kernel
theorem d8_44 : decode prog_38_method_2_code 44 = .ok (.return_, 1) := by decide +kernel
theorem efcount7 (m : MethodId) (o0_ : Addr) (o1_ : Addr) (y0_ : Int64) : entryFrame m #[(.ref o0_), (.ref o1_), (.long y0_)] 4 = mkF m 0 #[lvR o0_, lvR o1_, lvJ y0_, .second] [] := by first | (simp [entryFrame, mkF, argsToLocals, Value.category]; done) | rfl
def Qcount7 (Z : State) (o0_ : Addr) (o1_ : Addr) (y0_ : Int64) (o2_ : Addr) (h0 : Heap) (n0 : Nat) (v : Option Value) (h : Heap) (L : List Loc) : Prop := v = none ∧ Fr n0 L ∧ Keep h0 h [o0_] ∧ Exa Z h o0_ cn0 ∧ Fld Z h o0_ cn0 "latestTimestamp" "J" (.long (-9223372036854775808 : Int64)) ∧ Fld Z h o0_ cn0 "latestDeleteTimestamp" "J" (.long (own_max (-9223372036854775808 : Int64) y0_)) ∧ Fld Z h o0_ cn0 "cells" "J" (.long (1 : Int64))
abbrev cn1 : String := "com/example/zenodotus/zenodotus/model/Cell$Kind"
set_option maxRecDepth 65536 in
set_option maxHeartbeats 40000000 in
theorem rmcount7 (l : Launch) (Z : State) (a0 : Array Value) (hw : ∀ d ∈ tables_1, d.before a0 Z = true) (ws : List Jvm.Cond) (o0_ : Addr) (o1_ : Addr) (y0_ : Int64) (o2_ : Addr) (h0 : Heap) (n0 : Nat) (O0 : Old Z n0 h0) (P0 : Exa Z h0 o0_ cn0) (P1 : Fld Z h0 o0_ cn0 "latestTimestamp" "J" (.long (-9223372036854775808 : Int64))) (P2 : Fld Z h0 o0_ cn0 "latestDeleteTimestamp" "J" (.long (-9223372036854775808 : Int64))) (P3 : Fld Z h0 o0_ cn0 "cells" "J" (.long (0 : Int64))) (P4 : Exa Z Z.heap o1_ cn1) (P5 : n0 ≤ o0_) (P6 : Exa Z Z.heap o2_ cn1) (P7 : Fld Z Z.heap o2_ "java/lang/Enum" "ordinal" "I" (.int (0 : Int32))) (P8 : Sta Z Z.heap "com/example/zenodotus/zenodotus/model/Cell$Kind" "PUT" "Lcom/example/zenodotus/zenodotus/model/Cell$Kind;" (.ref o2_)) (P9 : o1_ ≠ o2_) :
    MetFree l (⟨"com/example/zenodotus/zenodotus/io/RowCodec$Tally", "count", "(Lcom/example/zenodotus/zenodotus/model/Cell$Kind;J)V"⟩ : MethodName) (head1 (Jvm.Cond.code (⟨"com/example/zenodotus/zenodotus/io/RowCodec$Tally", "count", "(Lcom/example/zenodotus/zenodotus/model/Cell$Kind;J)V"⟩ : MethodName) prog_38_method_2_code 4 none :: ws) ({ frames := 1, cells := 0, slots := 0, locals := 16 } : Room)) (fun a U => a = #[(.ref o0_), (.ref o1_), (.long y0_)] ∧ Z.Warmed39 U.vm ∧ U.heap = h0) (fun _ _ _ _ _ => True) (fun _ U o U' => ∃ v L, o = .returned v ∧ Qcount7 Z o0_ o1_ y0_ o2_ h0 n0 v U'.heap L ∧ FrameEnd U o U' L ({ frames := 1, cells := 0, slots := 0, locals := 16 } : Room).cells ({ frames := 1, cells := 0, slots := 0, locals := 16 } : Room).slots) := by
  refine MetFree.of_bodySF (plainFor_of_name pn_0) hisR ?_
  intro p e s m args below meth c s₁ Bd hml0 hP hK
  obtain ⟨rfl, hZ, hh⟩ := hP
  have hx := Bd.exec
  have hby := Bd.bytes
  have hml : c.maxLocals = 4 := hml0
  have hown : s.vm.findClass "com/example/zenodotus/zenodotus/io/RowCodec$Tally" = some m.cls := findClass_of_methodNamed Bd.named
  have hnm := (name_of_methodNamed Bd.named Bd.method).1
  have X0 : Stand p l e ({ frames := 1, cells := 0, slots := 0, locals := 16 } : Room) s m #[(.ref o0_), (.ref o1_), (.long y0_)] below meth c s₁ [] 0 0 := Stand.of_body Bd
  have e0 : s₁.heap = h0 := by rw [← hh, Bd.state]; rfl
  have N0 := Fr.nil n0
  obtain ⟨G, pre0, hG⟩ : ∃ G : State → Prop, (∀ t, own_S p e below m s₁ 0 #[lvR o0_, lvR o1_, lvJ y0_, .second] [] t → G t) ∧ (∀ t, G t → Steps p.tables e below (s₁.setTop (entryFrame m #[(.ref o0_), (.ref o1_), (.long y0_)] 4)) t) := ⟨fun t => Steps p.tables e below (s₁.setTop (entryFrame m #[(.ref o0_), (.ref o1_), (.long y0_)] 4)) t, fun t k => castTop (efcount7 m o0_ o1_ y0_) k, fun _ k => k⟩
  have K0 : Keep h0 h0 [o0_] := Keep.refl _ _
  obtain ⟨T1, X1, e1, st1⟩ := getF X0 hx hZ hown (host := "") (Or.inl (own_w hw 24 rfl)) Via.refl e0 P3 (g := (mkF m 2 #[lvR o0_, lvR o1_, lvJ y0_, .second] [(.ref o0_), (.ref o0_)])) rfl rfl (hb hby d8_2)
  obtain ⟨T2, h2, X2, e2, W2, st2⟩ := putF X1 hx hZ hown (host := "") (Or.inl (own_w hw 24 rfl)) Via.refl e1 P3 P0 (Or.inl (own_w hw 25 rfl)) (own_w hw 4 rfl) (ty := .long) (by decide) rfl rfl (g := (mkF m 7 #[lvR o0_, lvR o1_, lvJ y0_, .second] [(.long (1 : Int64)), (.ref o0_)])) rfl rfl (hb hby d8_7)
  have N3 := Fr.snoc X2 N0 P5
  have f4 : Fld Z h2 o0_ cn0 "cells" "J" (.long (1 : Int64)) := P3.same W2
  have f5 : Old Z n0 h2 := O0.wr W2 P5
  obtain ⟨T6, X6, e6, st6⟩ := getS2 X2 hx hZ hown (host := "") (Or.inl (own_w hw 26 rfl)) Via.refl e2 (P8.ext f5.2) (g := (mkF m 11 #[lvR o0_, lvR o1_, lvJ y0_, .second] [(.ref o1_)])) rfl (hb hby d8_11)
  have f7 : Fld Z h2 o0_ cn0 "latestDeleteTimestamp" "J" (.long (-9223372036854775808 : Int64)) := P2.other W2 (Or.inr (slot_ne (Or.inl (own_w hw 16 rfl)) (Or.inl (own_w hw 25 rfl)) (by decide) (t := .long) (t' := .long) (by decide) (by decide)))
  obtain ⟨T8, X8, e8, st8⟩ := getF X6 hx hZ hown (host := "") (Or.inl (own_w hw 15 rfl)) Via.refl e6 f7 (g := (mkF m 34 #[lvR o0_, lvR o1_, lvJ y0_, .second] [(.ref o0_), (.ref o0_)])) rfl rfl (hb hby d8_34)
  obtain ⟨_, _, ⟨T9, L9, k9, n9⟩, -, X9, ⟨Lc9, hQ9, l9, y9, z9⟩, st9⟩ := Jvm.LawKit.callS X8 hx (y := (⟨"java/lang/Math", "max", "(JJ)J"⟩ : MethodName)) hown (mvT hZ (own_w hw 27 rfl)) (mvT hZ (own_w hw 28 rfl)) (mvT hZ (own_w hw 29 rfl)) (mvT hZ (own_w hw 30 rfl)) (by decide) (backOf (W := 1) (rmMax l Z a0 hw [] (-9223372036854775808 : Int64) y0_ h2 n0 f5 ) hZ (own_w hw 30 rfl) (own_w hw 29 rfl) (by decide) (by decide)) (g := (mkF m 38 #[lvR o0_, lvR o1_, lvJ y0_, .second] [(.long y0_), (.long (-9223372036854775808 : Int64)), (.ref o0_)])) rfl (by rw [hml]; rfl) (argsL := [(.long (-9223372036854775808 : Int64)), (.long y0_)]) (rest := [(.ref o0_)]) (lenOf pd_1 rfl) rfl (by show 2 * 0 + _ ≤ _; exact Nat.le_of_eq rfl) (hb hby d8_38) (fun _ _ => ⟨rfl, e8, (by decide : 0 + 0 ≤ _), (by decide : 0 + 0 ≤ _)⟩)
  dsimp only [Pt.U, Pt.locs, Pt.cells, Pt.slots] at X9 l9 y9 z9 st9 hQ9
  subst l9 y9 z9
  obtain ⟨h9, e9⟩ : ∃ z, T9.heap = z := ⟨_, rfl⟩
  rw [e9] at hQ9
  obtain ⟨rfl, N9q, hh9⟩ := hQ9
  have N10 := Fr.app N3 N9q
  have e9' : T9.heap = h2 := e9.trans hh9
  have f11 : Exa Z h2 o0_ cn0 := P0.wr W2
  obtain ⟨T12, h12, X12, e12, W12, st12⟩ := putF X9 hx hZ hown (host := "") (Or.inl (own_w hw 15 rfl)) Via.refl e9' f7 f11 (Or.inl (own_w hw 16 rfl)) (own_w hw 4 rfl) (ty := .long) (by decide) rfl rfl (g := (mkF m 41 #[lvR o0_, lvR o1_, lvJ y0_, .second] [(.long (own_max (-9223372036854775808 : Int64) y0_)), (.ref o0_)])) rfl rfl (hb hby d8_41)
  have N13 := Fr.snoc X12 N10 P5
  have f14 : Fld Z h12 o0_ cn0 "latestDeleteTimestamp" "J" (.long (own_max (-9223372036854775808 : Int64) y0_)) := f7.same W12
  have pre15 : ∀ t, own_S p e below m T12 44 #[lvR o0_, lvR o1_, lvJ y0_, .second] [] t → G t := by
    intro t kt
    refine pre0 t ?_
    show own_S p e below m s₁ 0 #[lvR o0_, lvR o1_, lvJ y0_, .second] [] _
    refine XS.aloadN X0.here hx rfl (hb hby d8_0) rfl rfl ?_
    refine XS.dup X0.here hx rfl (hb hby d8_1) rfl rfl ?_
    show own_S p e below m s₁ 2 #[lvR o0_, lvR o1_, lvJ y0_, .second] [(.ref o0_), (.ref o0_)] _
    refine st1 _ ?_
    refine XS.lconst X1.here hx rfl (hb hby d8_5) ?_
    refine XS.ladd X1.here hx rfl (hb hby d8_6) rfl ?_
    show own_S p e below m T1 7 #[lvR o0_, lvR o1_, lvJ y0_, .second] [(.long (1 : Int64)), (.ref o0_)] _
    refine st2 _ ?_
    refine XS.aloadN X2.here hx rfl (hb hby d8_10) rfl rfl ?_
    show own_S p e below m T2 11 #[lvR o0_, lvR o1_, lvJ y0_, .second] [(.ref o1_)] _
    refine st6 _ ?_
    show own_S p e below m T6 14 #[lvR o0_, lvR o1_, lvJ y0_, .second] [(.ref o2_), (.ref o1_)] _
    refine Jvm.RoadKit.acmp (g := (mkF m 14 #[lvR o0_, lvR o1_, lvJ y0_, .second] [(.ref o2_), (.ref o1_)])) X6 hx rfl rfl rfl (pc0 := 14) (pc' := 32) (same := false) rfl (hb hby d8_14) rfl (decide_eq_false fun q => P9 (Value.ref.inj q)) (by decide) (by decide) ?_
    refine XS.aloadN X6.here hx rfl (hb hby d8_32) rfl rfl ?_
    refine XS.aloadN X6.here hx rfl (hb hby d8_33) rfl rfl ?_
    show own_S p e below m T6 34 #[lvR o0_, lvR o1_, lvJ y0_, .second] [(.ref o0_), (.ref o0_)] _
    refine st8 _ ?_
    refine XS.lloadN X8.here hx rfl (hb hby d8_37) rfl ?_
    show own_S p e below m T8 38 #[lvR o0_, lvR o1_, lvJ y0_, .second] [(.long y0_), (.long (-9223372036854775808 : Int64)), (.ref o0_)] _
    refine st9 _ ?_
    show own_S p e below m T9 41 #[lvR o0_, lvR o1_, lvJ y0_, .second] [(.long (own_max (-9223372036854775808 : Int64) y0_)), (.ref o0_)] _
    refine st12 _ ?_
    exact kt
  have f17 : Keep h0 h2 [o0_] := K0.wr W2 (Or.inl (List.mem_of_getElem? (i := 0) rfl))
  have f18 : Keep h0 h12 [o0_] := f17.wr W12 (Or.inl (List.mem_of_getElem? (i := 0) rfl))
  have f19 : Exa Z h12 o0_ cn0 := f11.wr W12
  have f20 : Fld Z h2 o0_ cn0 "latestTimestamp" "J" (.long (-9223372036854775808 : Int64)) := P1.other W2 (Or.inr (slot_ne (Or.inl (own_w hw 14 rfl)) (Or.inl (own_w hw 25 rfl)) (by decide) (t := .long) (t' := .long) (by decide) (by decide)))
  have f21 : Fld Z h12 o0_ cn0 "latestTimestamp" "J" (.long (-9223372036854775808 : Int64)) := f20.other W12 (Or.inr (slot_ne (Or.inl (own_w hw 14 rfl)) (Or.inl (own_w hw 16 rfl)) (by decide) (t := .long) (t' := .long) (by decide) (by decide)))
  have f22 : Fld Z h12 o0_ cn0 "cells" "J" (.long (1 : Int64)) := f4.other W12 (Or.inr (slot_ne (Or.inl (own_w hw 25 rfl)) (Or.inl (own_w hw 16 rfl)) (by decide) (t := .long) (t' := .long) (by decide) (by decide)))
  obtain ⟨fs, hr, hrun, hended, hW, hsame⟩ := X12.leave (v := none) (fun _ => rfl)
  refine ⟨_, _, hG _ (pre15 _ (X12.returnOut hx Bd.returns (hb hby d8_44) hr)), hrun, hended, _, _, rfl, ?_, ⟨_, rfl⟩, hW, hsame.mono (by decide) (by decide)⟩
  show Qcount7 Z o0_ o1_ y0_ o2_ h0 n0 _ T12.heap _
  rw [e12]
  exact ⟨rfl, N13, f18, f19, f21, f14, f22⟩
theorem pd_5 : parseMethodDescriptor "(Lcom/example/zenodotus/zenodotus/model/Cell$Kind;J)V" = some ⟨[(.object "com/example/zenodotus/zenodotus/model/Cell$Kind"), .long], none⟩ := by decide +kernel
theorem efadd8 (m : MethodId) (o0_ : Addr) (o1_ : Addr) : entryFrame m #[(.ref o0_), (.ref o1_)] 2 = mkF m 0 #[lvR o0_, lvR o1_] [] := by first | (simp [entryFrame, mkF, argsToLocals, Value.category]; done) | rfl
def Qadd8 (Z : State) (o0_ : Addr) (o1_ : Addr) (y0_ : Int64) (h0 : Heap) (n0 : Nat) (v : Option Value) (h : Heap) (L : List Loc) : Prop := v = none ∧ Fr n0 L ∧ Keep h0 h [o0_] ∧ Exa Z h o0_ cn0 ∧ Fld Z h o0_ cn0 "latestTimestamp" "J" (.long (own_max (-9223372036854775808 : Int64) (-9223372036854775808 : Int64))) ∧ Fld Z h o0_ cn0 "latestDeleteTimestamp" "J" (.long (own_max (-9223372036854775808 : Int64) y0_)) ∧ Fld Z h o0_ cn0 "cells" "J" (.long (1 : Int64))
set_option maxRecDepth 65536 in
set_option maxHeartbeats 40000000 in
theorem rmadd8 (l : Launch) (Z : State) (a0 : Array Value) (hw : ∀ d ∈ tables_1, d.before a0 Z = true) (ws : List Jvm.Cond) (o0_ : Addr) (o1_ : Addr) (y0_ : Int64) (h0 : Heap) (n0 : Nat) (O0 : Old Z n0 h0) (P0 : Exa Z h0 o0_ cn0) (P1 : Fld Z h0 o0_ cn0 "latestTimestamp" "J" (.long (-9223372036854775808 : Int64))) (P2 : Fld Z h0 o0_ cn0 "latestDeleteTimestamp" "J" (.long (-9223372036854775808 : Int64))) (P3 : Fld Z h0 o0_ cn0 "cells" "J" (.long (0 : Int64))) (P4 : Exa Z h0 o1_ cn0) (P5 : Fld Z h0 o1_ cn0 "latestTimestamp" "J" (.long (-9223372036854775808 : Int64))) (P6 : Fld Z h0 o1_ cn0 "latestDeleteTimestamp" "J" (.long y0_)) (P7 : Fld Z h0 o1_ cn0 "cells" "J" (.long (1 : Int64))) (P8 : n0 ≤ o0_) (P9 : o1_ ≠ o0_) :
    MetFree l (⟨"com/example/zenodotus/zenodotus/io/RowCodec$Tally", "add", "(Lcom/example/zenodotus/zenodotus/io/RowCodec$Tally;)V"⟩ : MethodName) (head1 (Jvm.Cond.code (⟨"com/example/zenodotus/zenodotus/io/RowCodec$Tally", "add", "(Lcom/example/zenodotus/zenodotus/io/RowCodec$Tally;)V"⟩ : MethodName) prog_38_method_3_code 2 none :: ws) ({ frames := 1, cells := 0, slots := 0, locals := 16 } : Room)) (fun a U => a = #[(.ref o0_), (.ref o1_)] ∧ Z.Warmed39 U.vm ∧ U.heap = h0) (fun _ _ _ _ _ => True) (fun _ U o U' => ∃ v L, o = .returned v ∧ Qadd8 Z o0_ o1_ y0_ h0 n0 v U'.heap L ∧ FrameEnd U o U' L ({ frames := 1, cells := 0, slots := 0, locals := 16 } : Room).cells ({ frames := 1, cells := 0, slots := 0, locals := 16 } : Room).slots) := by
  refine MetFree.of_bodySF (plainFor_of_name pn_0) hisR ?_
  intro p e s m args below meth c s₁ Bd hml0 hP hK
  obtain ⟨rfl, hZ, hh⟩ := hP
  have hx := Bd.exec
  have hby := Bd.bytes
  have hml : c.maxLocals = 2 := hml0
  have hown : s.vm.findClass "com/example/zenodotus/zenodotus/io/RowCodec$Tally" = some m.cls := findClass_of_methodNamed Bd.named
  have hnm := (name_of_methodNamed Bd.named Bd.method).1
  have X0 : Stand p l e ({ frames := 1, cells := 0, slots := 0, locals := 16 } : Room) s m #[(.ref o0_), (.ref o1_)] below meth c s₁ [] 0 0 := Stand.of_body Bd
  have e0 : s₁.heap = h0 := by rw [← hh, Bd.state]; rfl
  have N0 := Fr.nil n0
  obtain ⟨G, pre0, hG⟩ : ∃ G : State → Prop, (∀ t, own_S p e below m s₁ 0 #[lvR o0_, lvR o1_] [] t → G t) ∧ (∀ t, G t → Steps p.tables e below (s₁.setTop (entryFrame m #[(.ref o0_), (.ref o1_)] 2)) t) := ⟨fun t => Steps p.tables e below (s₁.setTop (entryFrame m #[(.ref o0_), (.ref o1_)] 2)) t, fun t k => castTop (efadd8 m o0_ o1_) k, fun _ k => k⟩
  have K0 : Keep h0 h0 [o0_] := Keep.refl _ _
  obtain ⟨T1, X1, e1, st1⟩ := getF X0 hx hZ hown (host := "") (Or.inl (own_w hw 24 rfl)) Via.refl e0 P3 (g := (mkF m 2 #[lvR o0_, lvR o1_] [(.ref o0_), (.ref o0_)])) rfl rfl (hb hby d3_2)
  obtain ⟨T2, X2, e2, st2⟩ := getF X1 hx hZ hown (host := "") (Or.inl (own_w hw 24 rfl)) Via.refl e1 P7 (g := (mkF m 6 #[lvR o0_, lvR o1_] [(.ref o1_), (.long (0 : Int64)), (.ref o0_)])) rfl rfl (hb hby d3_6)
  obtain ⟨T3, h3, X3, e3, W3, st3⟩ := putF X2 hx hZ hown (host := "") (Or.inl (own_w hw 24 rfl)) Via.refl e2 P3 P0 (Or.inl (own_w hw 25 rfl)) (own_w hw 4 rfl) (ty := .long) (by decide) rfl rfl (g := (mkF m 10 #[lvR o0_, lvR o1_] [(.long (1 : Int64)), (.ref o0_)])) rfl rfl (hb hby d3_10)
  have N4 := Fr.snoc X3 N0 P8
  have f5 : Fld Z h3 o0_ cn0 "cells" "J" (.long (1 : Int64)) := P3.same W3
  have f6 : Fld Z h3 o0_ cn0 "latestTimestamp" "J" (.long (-9223372036854775808 : Int64)) := P1.other W3 (Or.inr (slot_ne (Or.inl (own_w hw 14 rfl)) (Or.inl (own_w hw 25 rfl)) (by decide) (t := .long) (t' := .long) (by decide) (by decide)))
  obtain ⟨T7, X7, e7, st7⟩ := getF X3 hx hZ hown (host := "") (Or.inl (own_w hw 13 rfl)) Via.refl e3 f6 (g := (mkF m 15 #[lvR o0_, lvR o1_] [(.ref o0_), (.ref o0_)])) rfl rfl (hb hby d3_15)
  have f8 : Fld Z h3 o1_ cn0 "latestTimestamp" "J" (.long (-9223372036854775808 : Int64)) := P5.other W3 (Or.inl P9)
  obtain ⟨T9, X9, e9, st9⟩ := getF X7 hx hZ hown (host := "") (Or.inl (own_w hw 13 rfl)) Via.refl e7 f8 (g := (mkF m 19 #[lvR o0_, lvR o1_] [(.ref o1_), (.long (-9223372036854775808 : Int64)), (.ref o0_)])) rfl rfl (hb hby d3_19)
  have f11 : Old Z n0 h3 := O0.wr W3 P8
  obtain ⟨_, _, ⟨T10, L10, k10, n10⟩, -, X10, ⟨Lc10, hQ10, l10, y10, z10⟩, st10⟩ := Jvm.LawKit.callS X9 hx (y := (⟨"java/lang/Math", "max", "(JJ)J"⟩ : MethodName)) hown (mvT hZ (own_w hw 27 rfl)) (mvT hZ (own_w hw 28 rfl)) (mvT hZ (own_w hw 29 rfl)) (mvT hZ (own_w hw 30 rfl)) (by decide) (backOf (W := 1) (rmMax l Z a0 hw [] (-9223372036854775808 : Int64) (-9223372036854775808 : Int64) h3 n0 f11 ) hZ (own_w hw 30 rfl) (own_w hw 29 rfl) (by decide) (by decide)) (g := (mkF m 22 #[lvR o0_, lvR o1_] [(.long (-9223372036854775808 : Int64)), (.long (-9223372036854775808 : Int64)), (.ref o0_)])) rfl (by rw [hml]; rfl) (argsL := [(.long (-9223372036854775808 : Int64)), (.long (-9223372036854775808 : Int64))]) (rest := [(.ref o0_)]) (lenOf pd_1 rfl) rfl (by show 2 * 0 + _ ≤ _; exact Nat.le_of_eq rfl) (hb hby d3_22) (fun _ _ => ⟨rfl, e9, (by decide : 0 + 0 ≤ _), (by decide : 0 + 0 ≤ _)⟩)
  dsimp only [Pt.U, Pt.locs, Pt.cells, Pt.slots] at X10 l10 y10 z10 st10 hQ10
  subst l10 y10 z10
  obtain ⟨h10, e10⟩ : ∃ z, T10.heap = z := ⟨_, rfl⟩
  rw [e10] at hQ10
  obtain ⟨rfl, N10q, hh10⟩ := hQ10
  have N12 := Fr.app N4 N10q
  have e10' : T10.heap = h3 := e10.trans hh10
  have f13 : Exa Z h3 o0_ cn0 := P0.wr W3
  obtain ⟨T14, h14, X14, e14, W14, st14⟩ := putF X10 hx hZ hown (host := "") (Or.inl (own_w hw 13 rfl)) Via.refl e10' f6 f13 (Or.inl (own_w hw 14 rfl)) (own_w hw 4 rfl) (ty := .long) (by decide) rfl rfl (g := (mkF m 25 #[lvR o0_, lvR o1_] [(.long (own_max (-9223372036854775808 : Int64) (-9223372036854775808 : Int64))), (.ref o0_)])) rfl rfl (hb hby d3_25)
  have N15 := Fr.snoc X14 N12 P8
  have f16 : Fld Z h14 o0_ cn0 "latestTimestamp" "J" (.long (own_max (-9223372036854775808 : Int64) (-9223372036854775808 : Int64))) := f6.same W14
  have f17 : Fld Z h3 o0_ cn0 "latestDeleteTimestamp" "J" (.long (-9223372036854775808 : Int64)) := P2.other W3 (Or.inr (slot_ne (Or.inl (own_w hw 16 rfl)) (Or.inl (own_w hw 25 rfl)) (by decide) (t := .long) (t' := .long) (by decide) (by decide)))
  have f18 : Fld Z h14 o0_ cn0 "latestDeleteTimestamp" "J" (.long (-9223372036854775808 : Int64)) := f17.other W14 (Or.inr (slot_ne (Or.inl (own_w hw 16 rfl)) (Or.inl (own_w hw 14 rfl)) (by decide) (t := .long) (t' := .long) (by decide) (by decide)))
  obtain ⟨T19, X19, e19, st19⟩ := getF X14 hx hZ hown (host := "") (Or.inl (own_w hw 15 rfl)) Via.refl e14 f18 (g := (mkF m 30 #[lvR o0_, lvR o1_] [(.ref o0_), (.ref o0_)])) rfl rfl (hb hby d3_30)
  have f20 : Fld Z h3 o1_ cn0 "latestDeleteTimestamp" "J" (.long y0_) := P6.other W3 (Or.inl P9)
  have f21 : Fld Z h14 o1_ cn0 "latestDeleteTimestamp" "J" (.long y0_) := f20.other W14 (Or.inl P9)
  obtain ⟨T22, X22, e22, st22⟩ := getF X19 hx hZ hown (host := "") (Or.inl (own_w hw 15 rfl)) Via.refl e19 f21 (g := (mkF m 34 #[lvR o0_, lvR o1_] [(.ref o1_), (.long (-9223372036854775808 : Int64)), (.ref o0_)])) rfl rfl (hb hby d3_34)
  have f24 : Old Z n0 h14 := f11.wr W14 P8
  obtain ⟨_, _, ⟨T23, L23, k23, n23⟩, -, X23, ⟨Lc23, hQ23, l23, y23, z23⟩, st23⟩ := Jvm.LawKit.callS X22 hx (y := (⟨"java/lang/Math", "max", "(JJ)J"⟩ : MethodName)) hown (mvT hZ (own_w hw 27 rfl)) (mvT hZ (own_w hw 28 rfl)) (mvT hZ (own_w hw 29 rfl)) (mvT hZ (own_w hw 30 rfl)) (by decide) (backOf (W := 1) (rmMax l Z a0 hw [] (-9223372036854775808 : Int64) y0_ h14 n0 f24 ) hZ (own_w hw 30 rfl) (own_w hw 29 rfl) (by decide) (by decide)) (g := (mkF m 37 #[lvR o0_, lvR o1_] [(.long y0_), (.long (-9223372036854775808 : Int64)), (.ref o0_)])) rfl (by rw [hml]; rfl) (argsL := [(.long (-9223372036854775808 : Int64)), (.long y0_)]) (rest := [(.ref o0_)]) (lenOf pd_1 rfl) rfl (by show 2 * 0 + _ ≤ _; exact Nat.le_of_eq rfl) (hb hby d3_37) (fun _ _ => ⟨rfl, e22, (by decide : 0 + 0 ≤ _), (by decide : 0 + 0 ≤ _)⟩)
  dsimp only [Pt.U, Pt.locs, Pt.cells, Pt.slots] at X23 l23 y23 z23 st23 hQ23
  subst l23 y23 z23
  obtain ⟨h23, e23⟩ : ∃ z, T23.heap = z := ⟨_, rfl⟩
  rw [e23] at hQ23
  obtain ⟨rfl, N23q, hh23⟩ := hQ23
  have N25 := Fr.app N15 N23q
  have e23' : T23.heap = h14 := e23.trans hh23
  have f26 : Exa Z h14 o0_ cn0 := f13.wr W14
  obtain ⟨T27, h27, X27, e27, W27, st27⟩ := putF X23 hx hZ hown (host := "") (Or.inl (own_w hw 15 rfl)) Via.refl e23' f18 f26 (Or.inl (own_w hw 16 rfl)) (own_w hw 4 rfl) (ty := .long) (by decide) rfl rfl (g := (mkF m 40 #[lvR o0_, lvR o1_] [(.long (own_max (-9223372036854775808 : Int64) y0_)), (.ref o0_)])) rfl rfl (hb hby d3_40)
  have N28 := Fr.snoc X27 N25 P8
  have f29 : Fld Z h27 o0_ cn0 "latestDeleteTimestamp" "J" (.long (own_max (-9223372036854775808 : Int64) y0_)) := f18.same W27
  have pre30 : ∀ t, own_S p e below m T27 43 #[lvR o0_, lvR o1_] [] t → G t := by
    intro t kt
    refine pre0 t ?_
    show own_S p e below m s₁ 0 #[lvR o0_, lvR o1_] [] _
    refine XS.aloadN X0.here hx rfl (hb hby d3_0) rfl rfl ?_
    refine XS.dup X0.here hx rfl (hb hby d3_1) rfl rfl ?_
    show own_S p e below m s₁ 2 #[lvR o0_, lvR o1_] [(.ref o0_), (.ref o0_)] _
    refine st1 _ ?_
    refine XS.aloadN X1.here hx rfl (hb hby d3_5) rfl rfl ?_
    show own_S p e below m T1 6 #[lvR o0_, lvR o1_] [(.ref o1_), (.long (0 : Int64)), (.ref o0_)] _
    refine st2 _ ?_
    refine XS.ladd X2.here hx rfl (hb hby d3_9) rfl ?_
    show own_S p e below m T2 10 #[lvR o0_, lvR o1_] [(.long (1 : Int64)), (.ref o0_)] _
    refine st3 _ ?_
    refine XS.aloadN X3.here hx rfl (hb hby d3_13) rfl rfl ?_
    refine XS.aloadN X3.here hx rfl (hb hby d3_14) rfl rfl ?_
    show own_S p e below m T3 15 #[lvR o0_, lvR o1_] [(.ref o0_), (.ref o0_)] _
    refine st7 _ ?_
    refine XS.aloadN X7.here hx rfl (hb hby d3_18) rfl rfl ?_
    show own_S p e below m T7 19 #[lvR o0_, lvR o1_] [(.ref o1_), (.long (-9223372036854775808 : Int64)), (.ref o0_)] _
    refine st9 _ ?_
    show own_S p e below m T9 22 #[lvR o0_, lvR o1_] [(.long (-9223372036854775808 : Int64)), (.long (-9223372036854775808 : Int64)), (.ref o0_)] _
    refine st10 _ ?_
    show own_S p e below m T10 25 #[lvR o0_, lvR o1_] [(.long (own_max (-9223372036854775808 : Int64) (-9223372036854775808 : Int64))), (.ref o0_)] _
    refine st14 _ ?_
    refine XS.aloadN X14.here hx rfl (hb hby d3_28) rfl rfl ?_
    refine XS.aloadN X14.here hx rfl (hb hby d3_29) rfl rfl ?_
    show own_S p e below m T14 30 #[lvR o0_, lvR o1_] [(.ref o0_), (.ref o0_)] _
    refine st19 _ ?_
    refine XS.aloadN X19.here hx rfl (hb hby d3_33) rfl rfl ?_
    show own_S p e below m T19 34 #[lvR o0_, lvR o1_] [(.ref o1_), (.long (-9223372036854775808 : Int64)), (.ref o0_)] _
    refine st22 _ ?_
    show own_S p e below m T22 37 #[lvR o0_, lvR o1_] [(.long y0_), (.long (-9223372036854775808 : Int64)), (.ref o0_)] _
    refine st23 _ ?_
    show own_S p e below m T23 40 #[lvR o0_, lvR o1_] [(.long (own_max (-9223372036854775808 : Int64) y0_)), (.ref o0_)] _
    refine st27 _ ?_
    exact kt
  have f32 : Keep h0 h3 [o0_] := K0.wr W3 (Or.inl (List.mem_of_getElem? (i := 0) rfl))
  have f33 : Keep h0 h14 [o0_] := f32.wr W14 (Or.inl (List.mem_of_getElem? (i := 0) rfl))
  have f34 : Keep h0 h27 [o0_] := f33.wr W27 (Or.inl (List.mem_of_getElem? (i := 0) rfl))
  have f35 : Exa Z h27 o0_ cn0 := f26.wr W27
  have f36 : Fld Z h27 o0_ cn0 "latestTimestamp" "J" (.long (own_max (-9223372036854775808 : Int64) (-9223372036854775808 : Int64))) := f16.other W27 (Or.inr (slot_ne (Or.inl (own_w hw 14 rfl)) (Or.inl (own_w hw 16 rfl)) (by decide) (t := .long) (t' := .long) (by decide) (by decide)))
  have f37 : Fld Z h14 o0_ cn0 "cells" "J" (.long (1 : Int64)) := f5.other W14 (Or.inr (slot_ne (Or.inl (own_w hw 25 rfl)) (Or.inl (own_w hw 14 rfl)) (by decide) (t := .long) (t' := .long) (by decide) (by decide)))
  have f38 : Fld Z h27 o0_ cn0 "cells" "J" (.long (1 : Int64)) := f37.other W27 (Or.inr (slot_ne (Or.inl (own_w hw 25 rfl)) (Or.inl (own_w hw 16 rfl)) (by decide) (t := .long) (t' := .long) (by decide) (by decide)))
  obtain ⟨fs, hr, hrun, hended, hW, hsame⟩ := X27.leave (v := none) (fun _ => rfl)
  refine ⟨_, _, hG _ (pre30 _ (X27.returnOut hx Bd.returns (hb hby d3_43) hr)), hrun, hended, _, _, rfl, ?_, ⟨_, rfl⟩, hW, hsame.mono (by decide) (by decide)⟩
  show Qadd8 Z o0_ o1_ y0_ h0 n0 _ T27.heap _
  rw [e27]
  exact ⟨rfl, N28, f34, f35, f36, f29, f38⟩
theorem efcells9 (m : MethodId) (o0_ : Addr) : entryFrame m #[(.ref o0_)] 1 = mkF m 0 #[lvR o0_] [] := by first | (simp [entryFrame, mkF, argsToLocals, Value.category]; done) | rfl
def Qcells9 (Z : State) (o0_ : Addr) (y0_ : Int64) (y1_ : Int64) (h0 : Heap) (n0 : Nat) (v : Option Value) (h : Heap) (L : List Loc) : Prop := v = some (.long (1 : Int64)) ∧ Fr n0 L ∧ h = h0
set_option maxRecDepth 65536 in
set_option maxHeartbeats 40000000 in
theorem rmcells9 (l : Launch) (Z : State) (a0 : Array Value) (hw : ∀ d ∈ tables_1, d.before a0 Z = true) (ws : List Jvm.Cond) (o0_ : Addr) (y0_ : Int64) (y1_ : Int64) (h0 : Heap) (n0 : Nat) (O0 : Old Z n0 h0) (P0 : Exa Z h0 o0_ cn0) (P1 : Fld Z h0 o0_ cn0 "latestTimestamp" "J" (.long y0_)) (P2 : Fld Z h0 o0_ cn0 "latestDeleteTimestamp" "J" (.long y1_)) (P3 : Fld Z h0 o0_ cn0 "cells" "J" (.long (1 : Int64))) :
    MetFree l (⟨"com/example/zenodotus/zenodotus/io/RowCodec$Tally", "cells", "()J"⟩ : MethodName) (head1 (Jvm.Cond.code (⟨"com/example/zenodotus/zenodotus/io/RowCodec$Tally", "cells", "()J"⟩ : MethodName) prog_38_method_4_code 1 (some .long) :: ws) ({ frames := 0, cells := 0, slots := 0, locals := 0 } : Room)) (fun a U => a = #[(.ref o0_)] ∧ Z.Warmed39 U.vm ∧ U.heap = h0) (fun _ _ _ _ _ => True) (fun _ U o U' => ∃ v L, o = .returned v ∧ Qcells9 Z o0_ y0_ y1_ h0 n0 v U'.heap L ∧ FrameEnd U o U' L ({ frames := 0, cells := 0, slots := 0, locals := 0 } : Room).cells ({ frames := 0, cells := 0, slots := 0, locals := 0 } : Room).slots) := by
  refine MetFree.of_bodySF (plainFor_of_name pn_0) hisR ?_
  intro p e s m args below meth c s₁ Bd hml0 hP hK
  obtain ⟨rfl, hZ, hh⟩ := hP
  have hx := Bd.exec
  have hby := Bd.bytes
  have hml : c.maxLocals = 1 := hml0
  have hown : s.vm.findClass "com/example/zenodotus/zenodotus/io/RowCodec$Tally" = some m.cls := findClass_of_methodNamed Bd.named
  have hnm := (name_of_methodNamed Bd.named Bd.method).1
  have X0 : Stand p l e ({ frames := 0, cells := 0, slots := 0, locals := 0 } : Room) s m #[(.ref o0_)] below meth c s₁ [] 0 0 := Stand.of_body Bd
  have e0 : s₁.heap = h0 := by rw [← hh, Bd.state]; rfl
  have N0 := Fr.nil n0
  obtain ⟨G, pre0, hG⟩ : ∃ G : State → Prop, (∀ t, own_S p e below m s₁ 0 #[lvR o0_] [] t → G t) ∧ (∀ t, G t → Steps p.tables e below (s₁.setTop (entryFrame m #[(.ref o0_)] 1)) t) := ⟨fun t => Steps p.tables e below (s₁.setTop (entryFrame m #[(.ref o0_)] 1)) t, fun t k => castTop (efcells9 m o0_) k, fun _ k => k⟩
  have K0 : Keep h0 h0 [] := Keep.refl _ _
  obtain ⟨T1, X1, e1, st1⟩ := getF X0 hx hZ hown (host := "") (Or.inl (own_w hw 24 rfl)) Via.refl e0 P3 (g := (mkF m 1 #[lvR o0_] [(.ref o0_)])) rfl rfl (hb hby d4_1)
  have pre2 : ∀ t, own_S p e below m T1 4 #[lvR o0_] [(.long (1 : Int64))] t → G t := by
    intro t kt
    refine pre0 t ?_
    show own_S p e below m s₁ 0 #[lvR o0_] [] _
    refine XS.aloadN X0.here hx rfl (hb hby d4_0) rfl rfl ?_
    show own_S p e below m s₁ 1 #[lvR o0_] [(.ref o0_)] _
    refine st1 _ ?_
    exact kt
  obtain ⟨fs, hr, hrun, hended, hW, hsame⟩ := X1.leave (v := some (.long (1 : Int64))) (fun h => by rw [Bd.returns] at h; cases h)
  refine ⟨_, _, hG _ (pre2 _ (retOut X1 hx Bd.returns rfl (Or.inr (Or.inl ⟨rfl, rfl, _, rfl⟩)) (hb hby d4_4) hr)), hrun, hended, _, _, rfl, ?_, ⟨_, rfl⟩, hW, hsame.mono (by decide) (by decide)⟩
  show Qcells9 Z o0_ y0_ y1_ h0 n0 _ T1.heap _
  rw [e1]
  exact ⟨rfl, N0, rfl⟩
theorem eflatestTimestamp10 (m : MethodId) (o0_ : Addr) : entryFrame m #[(.ref o0_)] 1 = mkF m 0 #[lvR o0_] [] := by first | (simp [entryFrame, mkF, argsToLocals, Value.category]; done) | rfl
def QlatestTimestamp10 (Z : State) (o0_ : Addr) (y0_ : Int64) (y1_ : Int64) (h0 : Heap) (n0 : Nat) (v : Option Value) (h : Heap) (L : List Loc) : Prop := v = some (.long y0_) ∧ Fr n0 L ∧ h = h0
set_option maxRecDepth 65536 in
set_option maxHeartbeats 40000000 in
theorem rmlatestTimestamp10 (l : Launch) (Z : State) (a0 : Array Value) (hw : ∀ d ∈ tables_1, d.before a0 Z = true) (ws : List Jvm.Cond) (o0_ : Addr) (y0_ : Int64) (y1_ : Int64) (h0 : Heap) (n0 : Nat) (O0 : Old Z n0 h0) (P0 : Exa Z h0 o0_ cn0) (P1 : Fld Z h0 o0_ cn0 "latestTimestamp" "J" (.long y0_)) (P2 : Fld Z h0 o0_ cn0 "latestDeleteTimestamp" "J" (.long y1_)) (P3 : Fld Z h0 o0_ cn0 "cells" "J" (.long (1 : Int64))) :
    MetFree l (⟨"com/example/zenodotus/zenodotus/io/RowCodec$Tally", "latestTimestamp", "()J"⟩ : MethodName) (head1 (Jvm.Cond.code (⟨"com/example/zenodotus/zenodotus/io/RowCodec$Tally", "latestTimestamp", "()J"⟩ : MethodName) prog_38_method_5_code 1 (some .long) :: ws) ({ frames := 0, cells := 0, slots := 0, locals := 0 } : Room)) (fun a U => a = #[(.ref o0_)] ∧ Z.Warmed39 U.vm ∧ U.heap = h0) (fun _ _ _ _ _ => True) (fun _ U o U' => ∃ v L, o = .returned v ∧ QlatestTimestamp10 Z o0_ y0_ y1_ h0 n0 v U'.heap L ∧ FrameEnd U o U' L ({ frames := 0, cells := 0, slots := 0, locals := 0 } : Room).cells ({ frames := 0, cells := 0, slots := 0, locals := 0 } : Room).slots) := by
  refine MetFree.of_bodySF (plainFor_of_name pn_0) hisR ?_
  intro p e s m args below meth c s₁ Bd hml0 hP hK
  obtain ⟨rfl, hZ, hh⟩ := hP
  have hx := Bd.exec
  have hby := Bd.bytes
  have hml : c.maxLocals = 1 := hml0
  have hown : s.vm.findClass "com/example/zenodotus/zenodotus/io/RowCodec$Tally" = some m.cls := findClass_of_methodNamed Bd.named
  have hnm := (name_of_methodNamed Bd.named Bd.method).1
  have X0 : Stand p l e ({ frames := 0, cells := 0, slots := 0, locals := 0 } : Room) s m #[(.ref o0_)] below meth c s₁ [] 0 0 := Stand.of_body Bd
  have e0 : s₁.heap = h0 := by rw [← hh, Bd.state]; rfl
  have N0 := Fr.nil n0
  obtain ⟨G, pre0, hG⟩ : ∃ G : State → Prop, (∀ t, own_S p e below m s₁ 0 #[lvR o0_] [] t → G t) ∧ (∀ t, G t → Steps p.tables e below (s₁.setTop (entryFrame m #[(.ref o0_)] 1)) t) := ⟨fun t => Steps p.tables e below (s₁.setTop (entryFrame m #[(.ref o0_)] 1)) t, fun t k => castTop (eflatestTimestamp10 m o0_) k, fun _ k => k⟩
  have K0 : Keep h0 h0 [] := Keep.refl _ _
  obtain ⟨T1, X1, e1, st1⟩ := getF X0 hx hZ hown (host := "") (Or.inl (own_w hw 13 rfl)) Via.refl e0 P1 (g := (mkF m 1 #[lvR o0_] [(.ref o0_)])) rfl rfl (hb hby d5_1)
  have pre2 : ∀ t, own_S p e below m T1 4 #[lvR o0_] [(.long y0_)] t → G t := by
    intro t kt
    refine pre0 t ?_
    show own_S p e below m s₁ 0 #[lvR o0_] [] _
    refine XS.aloadN X0.here hx rfl (hb hby d5_0) rfl rfl ?_
    show own_S p e below m s₁ 1 #[lvR o0_] [(.ref o0_)] _
    refine st1 _ ?_
    exact kt
  obtain ⟨fs, hr, hrun, hended, hW, hsame⟩ := X1.leave (v := some (.long y0_)) (fun h => by rw [Bd.returns] at h; cases h)
  refine ⟨_, _, hG _ (pre2 _ (retOut X1 hx Bd.returns rfl (Or.inr (Or.inl ⟨rfl, rfl, _, rfl⟩)) (hb hby d5_4) hr)), hrun, hended, _, _, rfl, ?_, ⟨_, rfl⟩, hW, hsame.mono (by decide) (by decide)⟩
  show QlatestTimestamp10 Z o0_ y0_ y1_ h0 n0 _ T1.heap _
  rw [e1]
  exact ⟨rfl, N0, rfl⟩
theorem eflatestDeleteTimestamp11 (m : MethodId) (o0_ : Addr) : entryFrame m #[(.ref o0_)] 1 = mkF m 0 #[lvR o0_] [] := by first | (simp [entryFrame, mkF, argsToLocals, Value.category]; done) | rfl
def QlatestDeleteTimestamp11 (Z : State) (o0_ : Addr) (y0_ : Int64) (y1_ : Int64) (h0 : Heap) (n0 : Nat) (v : Option Value) (h : Heap) (L : List Loc) : Prop := v = some (.long y1_) ∧ Fr n0 L ∧ h = h0
set_option maxRecDepth 65536 in
set_option maxHeartbeats 40000000 in
theorem rmlatestDeleteTimestamp11 (l : Launch) (Z : State) (a0 : Array Value) (hw : ∀ d ∈ tables_1, d.before a0 Z = true) (ws : List Jvm.Cond) (o0_ : Addr) (y0_ : Int64) (y1_ : Int64) (h0 : Heap) (n0 : Nat) (O0 : Old Z n0 h0) (P0 : Exa Z h0 o0_ cn0) (P1 : Fld Z h0 o0_ cn0 "latestTimestamp" "J" (.long y0_)) (P2 : Fld Z h0 o0_ cn0 "latestDeleteTimestamp" "J" (.long y1_)) (P3 : Fld Z h0 o0_ cn0 "cells" "J" (.long (1 : Int64))) :
    MetFree l (⟨"com/example/zenodotus/zenodotus/io/RowCodec$Tally", "latestDeleteTimestamp", "()J"⟩ : MethodName) (head1 (Jvm.Cond.code (⟨"com/example/zenodotus/zenodotus/io/RowCodec$Tally", "latestDeleteTimestamp", "()J"⟩ : MethodName) prog_38_method_6_code 1 (some .long) :: ws) ({ frames := 0, cells := 0, slots := 0, locals := 0 } : Room)) (fun a U => a = #[(.ref o0_)] ∧ Z.Warmed39 U.vm ∧ U.heap = h0) (fun _ _ _ _ _ => True) (fun _ U o U' => ∃ v L, o = .returned v ∧ QlatestDeleteTimestamp11 Z o0_ y0_ y1_ h0 n0 v U'.heap L ∧ FrameEnd U o U' L ({ frames := 0, cells := 0, slots := 0, locals := 0 } : Room).cells ({ frames := 0, cells := 0, slots := 0, locals := 0 } : Room).slots) := by
  refine MetFree.of_bodySF (plainFor_of_name pn_0) hisR ?_
  intro p e s m args below meth c s₁ Bd hml0 hP hK
  obtain ⟨rfl, hZ, hh⟩ := hP
  have hx := Bd.exec
  have hby := Bd.bytes
  have hml : c.maxLocals = 1 := hml0
  have hown : s.vm.findClass "com/example/zenodotus/zenodotus/io/RowCodec$Tally" = some m.cls := findClass_of_methodNamed Bd.named
  have hnm := (name_of_methodNamed Bd.named Bd.method).1
  have X0 : Stand p l e ({ frames := 0, cells := 0, slots := 0, locals := 0 } : Room) s m #[(.ref o0_)] below meth c s₁ [] 0 0 := Stand.of_body Bd
  have e0 : s₁.heap = h0 := by rw [← hh, Bd.state]; rfl
  have N0 := Fr.nil n0
  obtain ⟨G, pre0, hG⟩ : ∃ G : State → Prop, (∀ t, own_S p e below m s₁ 0 #[lvR o0_] [] t → G t) ∧ (∀ t, G t → Steps p.tables e below (s₁.setTop (entryFrame m #[(.ref o0_)] 1)) t) := ⟨fun t => Steps p.tables e below (s₁.setTop (entryFrame m #[(.ref o0_)] 1)) t, fun t k => castTop (eflatestDeleteTimestamp11 m o0_) k, fun _ k => k⟩
  have K0 : Keep h0 h0 [] := Keep.refl _ _
  obtain ⟨T1, X1, e1, st1⟩ := getF X0 hx hZ hown (host := "") (Or.inl (own_w hw 15 rfl)) Via.refl e0 P2 (g := (mkF m 1 #[lvR o0_] [(.ref o0_)])) rfl rfl (hb hby d7_1)
  have pre2 : ∀ t, own_S p e below m T1 4 #[lvR o0_] [(.long y1_)] t → G t := by
    intro t kt
    refine pre0 t ?_
    show own_S p e below m s₁ 0 #[lvR o0_] [] _
    refine XS.aloadN X0.here hx rfl (hb hby d7_0) rfl rfl ?_
    show own_S p e below m s₁ 1 #[lvR o0_] [(.ref o0_)] _
    refine st1 _ ?_
    exact kt
  obtain ⟨fs, hr, hrun, hended, hW, hsame⟩ := X1.leave (v := some (.long y1_)) (fun h => by rw [Bd.returns] at h; cases h)
  refine ⟨_, _, hG _ (pre2 _ (retOut X1 hx Bd.returns rfl (Or.inr (Or.inl ⟨rfl, rfl, _, rfl⟩)) (hb hby d7_4) hr)), hrun, hended, _, _, rfl, ?_, ⟨_, rfl⟩, hW, hsame.mono (by decide) (by decide)⟩
  show QlatestDeleteTimestamp11 Z o0_ y0_ y1_ h0 n0 _ T1.heap _
  rw [e1]
  exact ⟨rfl, N0, rfl⟩
theorem d6_32 : decode method_2_code 32 = .ok (.lload 4, 2) := by decide +kernel
theorem d6_34 : decode method_2_code 34 = .ok (.lreturn, 1) := by decide +kernel
theorem efexpect12 (m : MethodId) (y0_ : Int64) (y1_ : Int64) : entryFrame m #[(.int (0 : Int32)), (.long y0_), (.int (1 : Int32)), (.long y1_)] 6 = mkF m 0 #[lvI (0 : Int32), lvJ y0_, .second, lvI (1 : Int32), lvJ y1_, .second] [] := by first | (simp [entryFrame, mkF, argsToLocals, Value.category]; done) | rfl
def Qexpect12 (Z : State) (y0_ : Int64) (y1_ : Int64) (h0 : Heap) (n0 : Nat) (v : Option Value) (h : Heap) (L : List Loc) : Prop := v = some (.long y1_) ∧ Fr n0 L ∧ h = h0
set_option maxRecDepth 65536 in
set_option maxHeartbeats 40000000 in
theorem rmexpect12 (l : Launch) (Z : State) (a0 : Array Value) (hw : ∀ d ∈ tables_1, d.before a0 Z = true) (ws : List Jvm.Cond) (y0_ : Int64) (y1_ : Int64) (h0 : Heap) (n0 : Nat) (O0 : Old Z n0 h0)  :
    MetFree l (⟨"com/example/zenodotus/zenodotus/io/TallyAddPinLaw", "expect", "(ZJZJ)J"⟩ : MethodName) (head1 (Jvm.Cond.code (⟨"com/example/zenodotus/zenodotus/io/TallyAddPinLaw", "expect", "(ZJZJ)J"⟩ : MethodName) method_2_code 6 (some .long) :: ws) ({ frames := 0, cells := 0, slots := 0, locals := 0 } : Room)) (fun a U => a = #[(.int (0 : Int32)), (.long y0_), (.int (1 : Int32)), (.long y1_)] ∧ Z.Warmed39 U.vm ∧ U.heap = h0) (fun _ _ _ _ _ => True) (fun _ U o U' => ∃ v L, o = .returned v ∧ Qexpect12 Z y0_ y1_ h0 n0 v U'.heap L ∧ FrameEnd U o U' L ({ frames := 0, cells := 0, slots := 0, locals := 0 } : Room).cells ({ frames := 0, cells := 0, slots := 0, locals := 0 } : Room).slots) := by
  refine MetFree.of_bodySF (plainFor_of_name pn_1) hisR ?_
  intro p e s m args below meth c s₁ Bd hml0 hP hK
  obtain ⟨rfl, hZ, hh⟩ := hP
  have hx := Bd.exec
  have hby := Bd.bytes
  have hml : c.maxLocals = 6 := hml0
  have hown : s.vm.findClass "com/example/zenodotus/zenodotus/io/TallyAddPinLaw" = some m.cls := findClass_of_methodNamed Bd.named
  have hnm := (name_of_methodNamed Bd.named Bd.method).1
  have X0 : Stand p l e ({ frames := 0, cells := 0, slots := 0, locals := 0 } : Room) s m #[(.int (0 : Int32)), (.long y0_), (.int (1 : Int32)), (.long y1_)] below meth c s₁ [] 0 0 := Stand.of_body Bd
  have e0 : s₁.heap = h0 := by rw [← hh, Bd.state]; rfl
  have N0 := Fr.nil n0
  obtain ⟨G, pre0, hG⟩ : ∃ G : State → Prop, (∀ t, own_S p e below m s₁ 0 #[lvI (0 : Int32), lvJ y0_, .second, lvI (1 : Int32), lvJ y1_, .second] [] t → G t) ∧ (∀ t, G t → Steps p.tables e below (s₁.setTop (entryFrame m #[(.int (0 : Int32)), (.long y0_), (.int (1 : Int32)), (.long y1_)] 6)) t) := ⟨fun t => Steps p.tables e below (s₁.setTop (entryFrame m #[(.int (0 : Int32)), (.long y0_), (.int (1 : Int32)), (.long y1_)] 6)) t, fun t k => castTop (efexpect12 m y0_ y1_) k, fun _ k => k⟩
  have K0 : Keep h0 h0 [] := Keep.refl _ _
  have pre1 : ∀ t, own_S p e below m s₁ 34 #[lvI (0 : Int32), lvJ y0_, .second, lvI (1 : Int32), lvJ y1_, .second] [(.long y1_)] t → G t := by
    intro t kt
    refine pre0 t ?_
    show own_S p e below m s₁ 0 #[lvI (0 : Int32), lvJ y0_, .second, lvI (1 : Int32), lvJ y1_, .second] [] _
    refine XS.iloadN X0.here hx rfl (hb hby d6_0) rfl ?_
    show own_S p e below m s₁ 1 #[lvI (0 : Int32), lvJ y0_, .second, lvI (1 : Int32), lvJ y1_, .second] [(.int (0 : Int32))] _
    refine XS.ifYes X0.here hx rfl (pc0 := 1) (pc' := 22) rfl (hb hby d6_1) rfl ((if0 _ _).trans (teq (by decide : (0 : Int32) = (0 : Int32))).1) (by decide) (by decide) ?_
    refine XS.iloadN X0.here hx rfl (hb hby d6_22) rfl ?_
    show own_S p e below m s₁ 23 #[lvI (0 : Int32), lvJ y0_, .second, lvI (1 : Int32), lvJ y1_, .second] [(.int (0 : Int32))] _
    refine XS.ifYes X0.here hx rfl (pc0 := 23) (pc' := 28) rfl (hb hby d6_23) rfl ((if0 _ _).trans (teq (by decide : (0 : Int32) = (0 : Int32))).1) (by decide) (by decide) ?_
    refine XS.iloadN X0.here hx rfl (hb hby d6_28) rfl ?_
    show own_S p e below m s₁ 29 #[lvI (0 : Int32), lvJ y0_, .second, lvI (1 : Int32), lvJ y1_, .second] [(.int (1 : Int32))] _
    refine XS.ifNo X0.here hx rfl (hb hby d6_29) rfl ((if0 _ _).trans (feq (by decide : ¬ ((1 : Int32) = (0 : Int32)))).1) ?_
    refine XS.lload X0.here hx rfl (hb hby d6_32) rfl ?_
    exact kt
  obtain ⟨fs, hr, hrun, hended, hW, hsame⟩ := X0.leave (v := some (.long y1_)) (fun h => by rw [Bd.returns] at h; cases h)
  refine ⟨_, _, hG _ (pre1 _ (retOut X0 hx Bd.returns rfl (Or.inr (Or.inl ⟨rfl, rfl, _, rfl⟩)) (hb hby d6_34) hr)), hrun, hended, _, _, rfl, ?_, ⟨_, rfl⟩, hW, hsame.mono (by decide) (by decide)⟩
  show Qexpect12 Z y0_ y1_ h0 n0 _ s₁.heap _
  rw [e0]
  exact ⟨rfl, N0, rfl⟩
theorem d8_17 : decode prog_38_method_2_code 17 = .ok (.aload_n 0, 1) := by decide +kernel
theorem d8_18 : decode prog_38_method_2_code 18 = .ok (.aload_n 0, 1) := by decide +kernel
theorem d8_19 : decode prog_38_method_2_code 19 = .ok (.getfield 11, 3) := by decide +kernel
theorem d8_22 : decode prog_38_method_2_code 22 = .ok (.lload_n 2, 1) := by decide +kernel
theorem d8_23 : decode prog_38_method_2_code 23 = .ok (.invokestatic 29, 3) := by decide +kernel
theorem d8_26 : decode prog_38_method_2_code 26 = .ok (.putfield 11, 3) := by decide +kernel
theorem d8_29 : decode prog_38_method_2_code 29 = .ok (.goto 15, 3) := by decide +kernel
theorem efcount13 (m : MethodId) (o0_ : Addr) (o1_ : Addr) (y0_ : Int64) : entryFrame m #[(.ref o0_), (.ref o1_), (.long y0_)] 4 = mkF m 0 #[lvR o0_, lvR o1_, lvJ y0_, .second] [] := by first | (simp [entryFrame, mkF, argsToLocals, Value.category]; done) | rfl
def Qcount13 (Z : State) (o0_ : Addr) (o1_ : Addr) (y0_ : Int64) (h0 : Heap) (n0 : Nat) (v : Option Value) (h : Heap) (L : List Loc) : Prop := v = none ∧ Fr n0 L ∧ Keep h0 h [o0_] ∧ Exa Z h o0_ cn0 ∧ Fld Z h o0_ cn0 "latestTimestamp" "J" (.long (own_max (-9223372036854775808 : Int64) y0_)) ∧ Fld Z h o0_ cn0 "latestDeleteTimestamp" "J" (.long (-9223372036854775808 : Int64)) ∧ Fld Z h o0_ cn0 "cells" "J" (.long (1 : Int64))
set_option maxRecDepth 65536 in
set_option maxHeartbeats 40000000 in
theorem rmcount13 (l : Launch) (Z : State) (a0 : Array Value) (hw : ∀ d ∈ tables_1, d.before a0 Z = true) (ws : List Jvm.Cond) (o0_ : Addr) (o1_ : Addr) (y0_ : Int64) (h0 : Heap) (n0 : Nat) (O0 : Old Z n0 h0) (P0 : Exa Z h0 o0_ cn0) (P1 : Fld Z h0 o0_ cn0 "latestTimestamp" "J" (.long (-9223372036854775808 : Int64))) (P2 : Fld Z h0 o0_ cn0 "latestDeleteTimestamp" "J" (.long (-9223372036854775808 : Int64))) (P3 : Fld Z h0 o0_ cn0 "cells" "J" (.long (0 : Int64))) (P4 : Exa Z Z.heap o1_ cn1) (P5 : Fld Z Z.heap o1_ "java/lang/Enum" "ordinal" "I" (.int (0 : Int32))) (P6 : n0 ≤ o0_) (P7 : Sta Z Z.heap "com/example/zenodotus/zenodotus/model/Cell$Kind" "PUT" "Lcom/example/zenodotus/zenodotus/model/Cell$Kind;" (.ref o1_)) :
    MetFree l (⟨"com/example/zenodotus/zenodotus/io/RowCodec$Tally", "count", "(Lcom/example/zenodotus/zenodotus/model/Cell$Kind;J)V"⟩ : MethodName) (head1 (Jvm.Cond.code (⟨"com/example/zenodotus/zenodotus/io/RowCodec$Tally", "count", "(Lcom/example/zenodotus/zenodotus/model/Cell$Kind;J)V"⟩ : MethodName) prog_38_method_2_code 4 none :: ws) ({ frames := 1, cells := 0, slots := 0, locals := 16 } : Room)) (fun a U => a = #[(.ref o0_), (.ref o1_), (.long y0_)] ∧ Z.Warmed39 U.vm ∧ U.heap = h0) (fun _ _ _ _ _ => True) (fun _ U o U' => ∃ v L, o = .returned v ∧ Qcount13 Z o0_ o1_ y0_ h0 n0 v U'.heap L ∧ FrameEnd U o U' L ({ frames := 1, cells := 0, slots := 0, locals := 16 } : Room).cells ({ frames := 1, cells := 0, slots := 0, locals := 16 } : Room).slots) := by
  refine MetFree.of_bodySF (plainFor_of_name pn_0) hisR ?_
  intro p e s m args below meth c s₁ Bd hml0 hP hK
  obtain ⟨rfl, hZ, hh⟩ := hP
  have hx := Bd.exec
  have hby := Bd.bytes
  have hml : c.maxLocals = 4 := hml0
  have hown : s.vm.findClass "com/example/zenodotus/zenodotus/io/RowCodec$Tally" = some m.cls := findClass_of_methodNamed Bd.named
  have hnm := (name_of_methodNamed Bd.named Bd.method).1
  have X0 : Stand p l e ({ frames := 1, cells := 0, slots := 0, locals := 16 } : Room) s m #[(.ref o0_), (.ref o1_), (.long y0_)] below meth c s₁ [] 0 0 := Stand.of_body Bd
  have e0 : s₁.heap = h0 := by rw [← hh, Bd.state]; rfl
  have N0 := Fr.nil n0
  obtain ⟨G, pre0, hG⟩ : ∃ G : State → Prop, (∀ t, own_S p e below m s₁ 0 #[lvR o0_, lvR o1_, lvJ y0_, .second] [] t → G t) ∧ (∀ t, G t → Steps p.tables e below (s₁.setTop (entryFrame m #[(.ref o0_), (.ref o1_), (.long y0_)] 4)) t) := ⟨fun t => Steps p.tables e below (s₁.setTop (entryFrame m #[(.ref o0_), (.ref o1_), (.long y0_)] 4)) t, fun t k => castTop (efcount13 m o0_ o1_ y0_) k, fun _ k => k⟩
  have K0 : Keep h0 h0 [o0_] := Keep.refl _ _
  obtain ⟨T1, X1, e1, st1⟩ := getF X0 hx hZ hown (host := "") (Or.inl (own_w hw 24 rfl)) Via.refl e0 P3 (g := (mkF m 2 #[lvR o0_, lvR o1_, lvJ y0_, .second] [(.ref o0_), (.ref o0_)])) rfl rfl (hb hby d8_2)
  obtain ⟨T2, h2, X2, e2, W2, st2⟩ := putF X1 hx hZ hown (host := "") (Or.inl (own_w hw 24 rfl)) Via.refl e1 P3 P0 (Or.inl (own_w hw 25 rfl)) (own_w hw 4 rfl) (ty := .long) (by decide) rfl rfl (g := (mkF m 7 #[lvR o0_, lvR o1_, lvJ y0_, .second] [(.long (1 : Int64)), (.ref o0_)])) rfl rfl (hb hby d8_7)
  have N3 := Fr.snoc X2 N0 P6
  have f4 : Fld Z h2 o0_ cn0 "cells" "J" (.long (1 : Int64)) := P3.same W2
  have f5 : Old Z n0 h2 := O0.wr W2 P6
  obtain ⟨T6, X6, e6, st6⟩ := getS2 X2 hx hZ hown (host := "") (Or.inl (own_w hw 26 rfl)) Via.refl e2 (P7.ext f5.2) (g := (mkF m 11 #[lvR o0_, lvR o1_, lvJ y0_, .second] [(.ref o1_)])) rfl (hb hby d8_11)
  have f7 : Fld Z h2 o0_ cn0 "latestTimestamp" "J" (.long (-9223372036854775808 : Int64)) := P1.other W2 (Or.inr (slot_ne (Or.inl (own_w hw 14 rfl)) (Or.inl (own_w hw 25 rfl)) (by decide) (t := .long) (t' := .long) (by decide) (by decide)))
  obtain ⟨T8, X8, e8, st8⟩ := getF X6 hx hZ hown (host := "") (Or.inl (own_w hw 13 rfl)) Via.refl e6 f7 (g := (mkF m 19 #[lvR o0_, lvR o1_, lvJ y0_, .second] [(.ref o0_), (.ref o0_)])) rfl rfl (hb hby d8_19)
  obtain ⟨_, _, ⟨T9, L9, k9, n9⟩, -, X9, ⟨Lc9, hQ9, l9, y9, z9⟩, st9⟩ := Jvm.LawKit.callS X8 hx (y := (⟨"java/lang/Math", "max", "(JJ)J"⟩ : MethodName)) hown (mvT hZ (own_w hw 27 rfl)) (mvT hZ (own_w hw 28 rfl)) (mvT hZ (own_w hw 29 rfl)) (mvT hZ (own_w hw 30 rfl)) (by decide) (backOf (W := 1) (rmMax l Z a0 hw [] (-9223372036854775808 : Int64) y0_ h2 n0 f5 ) hZ (own_w hw 30 rfl) (own_w hw 29 rfl) (by decide) (by decide)) (g := (mkF m 23 #[lvR o0_, lvR o1_, lvJ y0_, .second] [(.long y0_), (.long (-9223372036854775808 : Int64)), (.ref o0_)])) rfl (by rw [hml]; rfl) (argsL := [(.long (-9223372036854775808 : Int64)), (.long y0_)]) (rest := [(.ref o0_)]) (lenOf pd_1 rfl) rfl (by show 2 * 0 + _ ≤ _; exact Nat.le_of_eq rfl) (hb hby d8_23) (fun _ _ => ⟨rfl, e8, (by decide : 0 + 0 ≤ _), (by decide : 0 + 0 ≤ _)⟩)
  dsimp only [Pt.U, Pt.locs, Pt.cells, Pt.slots] at X9 l9 y9 z9 st9 hQ9
  subst l9 y9 z9
  obtain ⟨h9, e9⟩ : ∃ z, T9.heap = z := ⟨_, rfl⟩
  rw [e9] at hQ9
  obtain ⟨rfl, N9q, hh9⟩ := hQ9
  have N10 := Fr.app N3 N9q
  have e9' : T9.heap = h2 := e9.trans hh9
  have f11 : Exa Z h2 o0_ cn0 := P0.wr W2
  obtain ⟨T12, h12, X12, e12, W12, st12⟩ := putF X9 hx hZ hown (host := "") (Or.inl (own_w hw 13 rfl)) Via.refl e9' f7 f11 (Or.inl (own_w hw 14 rfl)) (own_w hw 4 rfl) (ty := .long) (by decide) rfl rfl (g := (mkF m 26 #[lvR o0_, lvR o1_, lvJ y0_, .second] [(.long (own_max (-9223372036854775808 : Int64) y0_)), (.ref o0_)])) rfl rfl (hb hby d8_26)
  have N13 := Fr.snoc X12 N10 P6
  have f14 : Fld Z h12 o0_ cn0 "latestTimestamp" "J" (.long (own_max (-9223372036854775808 : Int64) y0_)) := f7.same W12
  have pre15 : ∀ t, own_S p e below m T12 44 #[lvR o0_, lvR o1_, lvJ y0_, .second] [] t → G t := by
    intro t kt
    refine pre0 t ?_
    show own_S p e below m s₁ 0 #[lvR o0_, lvR o1_, lvJ y0_, .second] [] _
    refine XS.aloadN X0.here hx rfl (hb hby d8_0) rfl rfl ?_
    refine XS.dup X0.here hx rfl (hb hby d8_1) rfl rfl ?_
    show own_S p e below m s₁ 2 #[lvR o0_, lvR o1_, lvJ y0_, .second] [(.ref o0_), (.ref o0_)] _
    refine st1 _ ?_
    refine XS.lconst X1.here hx rfl (hb hby d8_5) ?_
    refine XS.ladd X1.here hx rfl (hb hby d8_6) rfl ?_
    show own_S p e below m T1 7 #[lvR o0_, lvR o1_, lvJ y0_, .second] [(.long (1 : Int64)), (.ref o0_)] _
    refine st2 _ ?_
    refine XS.aloadN X2.here hx rfl (hb hby d8_10) rfl rfl ?_
    show own_S p e below m T2 11 #[lvR o0_, lvR o1_, lvJ y0_, .second] [(.ref o1_)] _
    refine st6 _ ?_
    show own_S p e below m T6 14 #[lvR o0_, lvR o1_, lvJ y0_, .second] [(.ref o1_), (.ref o1_)] _
    refine Jvm.RoadKit.acmp (g := (mkF m 14 #[lvR o0_, lvR o1_, lvJ y0_, .second] [(.ref o1_), (.ref o1_)])) X6 hx rfl rfl rfl (pc0 := 14) (pc' := 17) (same := true) rfl (hb hby d8_14) rfl (decide_eq_true rfl) (by decide) (by decide) ?_
    refine XS.aloadN X6.here hx rfl (hb hby d8_17) rfl rfl ?_
    refine XS.aloadN X6.here hx rfl (hb hby d8_18) rfl rfl ?_
    show own_S p e below m T6 19 #[lvR o0_, lvR o1_, lvJ y0_, .second] [(.ref o0_), (.ref o0_)] _
    refine st8 _ ?_
    refine XS.lloadN X8.here hx rfl (hb hby d8_22) rfl ?_
    show own_S p e below m T8 23 #[lvR o0_, lvR o1_, lvJ y0_, .second] [(.long y0_), (.long (-9223372036854775808 : Int64)), (.ref o0_)] _
    refine st9 _ ?_
    show own_S p e below m T9 26 #[lvR o0_, lvR o1_, lvJ y0_, .second] [(.long (own_max (-9223372036854775808 : Int64) y0_)), (.ref o0_)] _
    refine st12 _ ?_
    refine XS.goto X12.here hx rfl (pc0 := 29) (pc' := 44) rfl (hb hby d8_29) (by decide) (by decide) ?_
    exact kt
  have f17 : Keep h0 h2 [o0_] := K0.wr W2 (Or.inl (List.mem_of_getElem? (i := 0) rfl))
  have f18 : Keep h0 h12 [o0_] := f17.wr W12 (Or.inl (List.mem_of_getElem? (i := 0) rfl))
  have f19 : Exa Z h12 o0_ cn0 := f11.wr W12
  have f20 : Fld Z h2 o0_ cn0 "latestDeleteTimestamp" "J" (.long (-9223372036854775808 : Int64)) := P2.other W2 (Or.inr (slot_ne (Or.inl (own_w hw 16 rfl)) (Or.inl (own_w hw 25 rfl)) (by decide) (t := .long) (t' := .long) (by decide) (by decide)))
  have f21 : Fld Z h12 o0_ cn0 "latestDeleteTimestamp" "J" (.long (-9223372036854775808 : Int64)) := f20.other W12 (Or.inr (slot_ne (Or.inl (own_w hw 16 rfl)) (Or.inl (own_w hw 14 rfl)) (by decide) (t := .long) (t' := .long) (by decide) (by decide)))
  have f22 : Fld Z h12 o0_ cn0 "cells" "J" (.long (1 : Int64)) := f4.other W12 (Or.inr (slot_ne (Or.inl (own_w hw 25 rfl)) (Or.inl (own_w hw 14 rfl)) (by decide) (t := .long) (t' := .long) (by decide) (by decide)))
  obtain ⟨fs, hr, hrun, hended, hW, hsame⟩ := X12.leave (v := none) (fun _ => rfl)
  refine ⟨_, _, hG _ (pre15 _ (X12.returnOut hx Bd.returns (hb hby d8_44) hr)), hrun, hended, _, _, rfl, ?_, ⟨_, rfl⟩, hW, hsame.mono (by decide) (by decide)⟩
  show Qcount13 Z o0_ o1_ y0_ h0 n0 _ T12.heap _
  rw [e12]
  exact ⟨rfl, N13, f18, f19, f14, f21, f22⟩
theorem efadd14 (m : MethodId) (o0_ : Addr) (o1_ : Addr) : entryFrame m #[(.ref o0_), (.ref o1_)] 2 = mkF m 0 #[lvR o0_, lvR o1_] [] := by first | (simp [entryFrame, mkF, argsToLocals, Value.category]; done) | rfl
def Qadd14 (Z : State) (o0_ : Addr) (o1_ : Addr) (y0_ : Int64) (h0 : Heap) (n0 : Nat) (v : Option Value) (h : Heap) (L : List Loc) : Prop := v = none ∧ Fr n0 L ∧ Keep h0 h [o0_] ∧ Exa Z h o0_ cn0 ∧ Fld Z h o0_ cn0 "latestTimestamp" "J" (.long (own_max (-9223372036854775808 : Int64) y0_)) ∧ Fld Z h o0_ cn0 "latestDeleteTimestamp" "J" (.long (own_max (-9223372036854775808 : Int64) (-9223372036854775808 : Int64))) ∧ Fld Z h o0_ cn0 "cells" "J" (.long (1 : Int64))
set_option maxRecDepth 65536 in
set_option maxHeartbeats 40000000 in
theorem rmadd14 (l : Launch) (Z : State) (a0 : Array Value) (hw : ∀ d ∈ tables_1, d.before a0 Z = true) (ws : List Jvm.Cond) (o0_ : Addr) (o1_ : Addr) (y0_ : Int64) (h0 : Heap) (n0 : Nat) (O0 : Old Z n0 h0) (P0 : Exa Z h0 o0_ cn0) (P1 : Fld Z h0 o0_ cn0 "latestTimestamp" "J" (.long (-9223372036854775808 : Int64))) (P2 : Fld Z h0 o0_ cn0 "latestDeleteTimestamp" "J" (.long (-9223372036854775808 : Int64))) (P3 : Fld Z h0 o0_ cn0 "cells" "J" (.long (0 : Int64))) (P4 : Exa Z h0 o1_ cn0) (P5 : Fld Z h0 o1_ cn0 "latestTimestamp" "J" (.long y0_)) (P6 : Fld Z h0 o1_ cn0 "latestDeleteTimestamp" "J" (.long (-9223372036854775808 : Int64))) (P7 : Fld Z h0 o1_ cn0 "cells" "J" (.long (1 : Int64))) (P8 : n0 ≤ o0_) (P9 : o1_ ≠ o0_) :
    MetFree l (⟨"com/example/zenodotus/zenodotus/io/RowCodec$Tally", "add", "(Lcom/example/zenodotus/zenodotus/io/RowCodec$Tally;)V"⟩ : MethodName) (head1 (Jvm.Cond.code (⟨"com/example/zenodotus/zenodotus/io/RowCodec$Tally", "add", "(Lcom/example/zenodotus/zenodotus/io/RowCodec$Tally;)V"⟩ : MethodName) prog_38_method_3_code 2 none :: ws) ({ frames := 1, cells := 0, slots := 0, locals := 16 } : Room)) (fun a U => a = #[(.ref o0_), (.ref o1_)] ∧ Z.Warmed39 U.vm ∧ U.heap = h0) (fun _ _ _ _ _ => True) (fun _ U o U' => ∃ v L, o = .returned v ∧ Qadd14 Z o0_ o1_ y0_ h0 n0 v U'.heap L ∧ FrameEnd U o U' L ({ frames := 1, cells := 0, slots := 0, locals := 16 } : Room).cells ({ frames := 1, cells := 0, slots := 0, locals := 16 } : Room).slots) := by
  refine MetFree.of_bodySF (plainFor_of_name pn_0) hisR ?_
  intro p e s m args below meth c s₁ Bd hml0 hP hK
  obtain ⟨rfl, hZ, hh⟩ := hP
  have hx := Bd.exec
  have hby := Bd.bytes
  have hml : c.maxLocals = 2 := hml0
  have hown : s.vm.findClass "com/example/zenodotus/zenodotus/io/RowCodec$Tally" = some m.cls := findClass_of_methodNamed Bd.named
  have hnm := (name_of_methodNamed Bd.named Bd.method).1
  have X0 : Stand p l e ({ frames := 1, cells := 0, slots := 0, locals := 16 } : Room) s m #[(.ref o0_), (.ref o1_)] below meth c s₁ [] 0 0 := Stand.of_body Bd
  have e0 : s₁.heap = h0 := by rw [← hh, Bd.state]; rfl
  have N0 := Fr.nil n0
  obtain ⟨G, pre0, hG⟩ : ∃ G : State → Prop, (∀ t, own_S p e below m s₁ 0 #[lvR o0_, lvR o1_] [] t → G t) ∧ (∀ t, G t → Steps p.tables e below (s₁.setTop (entryFrame m #[(.ref o0_), (.ref o1_)] 2)) t) := ⟨fun t => Steps p.tables e below (s₁.setTop (entryFrame m #[(.ref o0_), (.ref o1_)] 2)) t, fun t k => castTop (efadd14 m o0_ o1_) k, fun _ k => k⟩
  have K0 : Keep h0 h0 [o0_] := Keep.refl _ _
  obtain ⟨T1, X1, e1, st1⟩ := getF X0 hx hZ hown (host := "") (Or.inl (own_w hw 24 rfl)) Via.refl e0 P3 (g := (mkF m 2 #[lvR o0_, lvR o1_] [(.ref o0_), (.ref o0_)])) rfl rfl (hb hby d3_2)
  obtain ⟨T2, X2, e2, st2⟩ := getF X1 hx hZ hown (host := "") (Or.inl (own_w hw 24 rfl)) Via.refl e1 P7 (g := (mkF m 6 #[lvR o0_, lvR o1_] [(.ref o1_), (.long (0 : Int64)), (.ref o0_)])) rfl rfl (hb hby d3_6)
  obtain ⟨T3, h3, X3, e3, W3, st3⟩ := putF X2 hx hZ hown (host := "") (Or.inl (own_w hw 24 rfl)) Via.refl e2 P3 P0 (Or.inl (own_w hw 25 rfl)) (own_w hw 4 rfl) (ty := .long) (by decide) rfl rfl (g := (mkF m 10 #[lvR o0_, lvR o1_] [(.long (1 : Int64)), (.ref o0_)])) rfl rfl (hb hby d3_10)
  have N4 := Fr.snoc X3 N0 P8
  have f5 : Fld Z h3 o0_ cn0 "cells" "J" (.long (1 : Int64)) := P3.same W3
  have f6 : Fld Z h3 o0_ cn0 "latestTimestamp" "J" (.long (-9223372036854775808 : Int64)) := P1.other W3 (Or.inr (slot_ne (Or.inl (own_w hw 14 rfl)) (Or.inl (own_w hw 25 rfl)) (by decide) (t := .long) (t' := .long) (by decide) (by decide)))
  obtain ⟨T7, X7, e7, st7⟩ := getF X3 hx hZ hown (host := "") (Or.inl (own_w hw 13 rfl)) Via.refl e3 f6 (g := (mkF m 15 #[lvR o0_, lvR o1_] [(.ref o0_), (.ref o0_)])) rfl rfl (hb hby d3_15)
  have f8 : Fld Z h3 o1_ cn0 "latestTimestamp" "J" (.long y0_) := P5.other W3 (Or.inl P9)
  obtain ⟨T9, X9, e9, st9⟩ := getF X7 hx hZ hown (host := "") (Or.inl (own_w hw 13 rfl)) Via.refl e7 f8 (g := (mkF m 19 #[lvR o0_, lvR o1_] [(.ref o1_), (.long (-9223372036854775808 : Int64)), (.ref o0_)])) rfl rfl (hb hby d3_19)
  have f11 : Old Z n0 h3 := O0.wr W3 P8
  obtain ⟨_, _, ⟨T10, L10, k10, n10⟩, -, X10, ⟨Lc10, hQ10, l10, y10, z10⟩, st10⟩ := Jvm.LawKit.callS X9 hx (y := (⟨"java/lang/Math", "max", "(JJ)J"⟩ : MethodName)) hown (mvT hZ (own_w hw 27 rfl)) (mvT hZ (own_w hw 28 rfl)) (mvT hZ (own_w hw 29 rfl)) (mvT hZ (own_w hw 30 rfl)) (by decide) (backOf (W := 1) (rmMax l Z a0 hw [] (-9223372036854775808 : Int64) y0_ h3 n0 f11 ) hZ (own_w hw 30 rfl) (own_w hw 29 rfl) (by decide) (by decide)) (g := (mkF m 22 #[lvR o0_, lvR o1_] [(.long y0_), (.long (-9223372036854775808 : Int64)), (.ref o0_)])) rfl (by rw [hml]; rfl) (argsL := [(.long (-9223372036854775808 : Int64)), (.long y0_)]) (rest := [(.ref o0_)]) (lenOf pd_1 rfl) rfl (by show 2 * 0 + _ ≤ _; exact Nat.le_of_eq rfl) (hb hby d3_22) (fun _ _ => ⟨rfl, e9, (by decide : 0 + 0 ≤ _), (by decide : 0 + 0 ≤ _)⟩)
  dsimp only [Pt.U, Pt.locs, Pt.cells, Pt.slots] at X10 l10 y10 z10 st10 hQ10
  subst l10 y10 z10
  obtain ⟨h10, e10⟩ : ∃ z, T10.heap = z := ⟨_, rfl⟩
  rw [e10] at hQ10
  obtain ⟨rfl, N10q, hh10⟩ := hQ10
  have N12 := Fr.app N4 N10q
  have e10' : T10.heap = h3 := e10.trans hh10
  have f13 : Exa Z h3 o0_ cn0 := P0.wr W3
  obtain ⟨T14, h14, X14, e14, W14, st14⟩ := putF X10 hx hZ hown (host := "") (Or.inl (own_w hw 13 rfl)) Via.refl e10' f6 f13 (Or.inl (own_w hw 14 rfl)) (own_w hw 4 rfl) (ty := .long) (by decide) rfl rfl (g := (mkF m 25 #[lvR o0_, lvR o1_] [(.long (own_max (-9223372036854775808 : Int64) y0_)), (.ref o0_)])) rfl rfl (hb hby d3_25)
  have N15 := Fr.snoc X14 N12 P8
  have f16 : Fld Z h14 o0_ cn0 "latestTimestamp" "J" (.long (own_max (-9223372036854775808 : Int64) y0_)) := f6.same W14
  have f17 : Fld Z h3 o0_ cn0 "latestDeleteTimestamp" "J" (.long (-9223372036854775808 : Int64)) := P2.other W3 (Or.inr (slot_ne (Or.inl (own_w hw 16 rfl)) (Or.inl (own_w hw 25 rfl)) (by decide) (t := .long) (t' := .long) (by decide) (by decide)))
  have f18 : Fld Z h14 o0_ cn0 "latestDeleteTimestamp" "J" (.long (-9223372036854775808 : Int64)) := f17.other W14 (Or.inr (slot_ne (Or.inl (own_w hw 16 rfl)) (Or.inl (own_w hw 14 rfl)) (by decide) (t := .long) (t' := .long) (by decide) (by decide)))
  obtain ⟨T19, X19, e19, st19⟩ := getF X14 hx hZ hown (host := "") (Or.inl (own_w hw 15 rfl)) Via.refl e14 f18 (g := (mkF m 30 #[lvR o0_, lvR o1_] [(.ref o0_), (.ref o0_)])) rfl rfl (hb hby d3_30)
  have f20 : Fld Z h3 o1_ cn0 "latestDeleteTimestamp" "J" (.long (-9223372036854775808 : Int64)) := P6.other W3 (Or.inl P9)
  have f21 : Fld Z h14 o1_ cn0 "latestDeleteTimestamp" "J" (.long (-9223372036854775808 : Int64)) := f20.other W14 (Or.inl P9)
  obtain ⟨T22, X22, e22, st22⟩ := getF X19 hx hZ hown (host := "") (Or.inl (own_w hw 15 rfl)) Via.refl e19 f21 (g := (mkF m 34 #[lvR o0_, lvR o1_] [(.ref o1_), (.long (-9223372036854775808 : Int64)), (.ref o0_)])) rfl rfl (hb hby d3_34)
  have f24 : Old Z n0 h14 := f11.wr W14 P8
  obtain ⟨_, _, ⟨T23, L23, k23, n23⟩, -, X23, ⟨Lc23, hQ23, l23, y23, z23⟩, st23⟩ := Jvm.LawKit.callS X22 hx (y := (⟨"java/lang/Math", "max", "(JJ)J"⟩ : MethodName)) hown (mvT hZ (own_w hw 27 rfl)) (mvT hZ (own_w hw 28 rfl)) (mvT hZ (own_w hw 29 rfl)) (mvT hZ (own_w hw 30 rfl)) (by decide) (backOf (W := 1) (rmMax l Z a0 hw [] (-9223372036854775808 : Int64) (-9223372036854775808 : Int64) h14 n0 f24 ) hZ (own_w hw 30 rfl) (own_w hw 29 rfl) (by decide) (by decide)) (g := (mkF m 37 #[lvR o0_, lvR o1_] [(.long (-9223372036854775808 : Int64)), (.long (-9223372036854775808 : Int64)), (.ref o0_)])) rfl (by rw [hml]; rfl) (argsL := [(.long (-9223372036854775808 : Int64)), (.long (-9223372036854775808 : Int64))]) (rest := [(.ref o0_)]) (lenOf pd_1 rfl) rfl (by show 2 * 0 + _ ≤ _; exact Nat.le_of_eq rfl) (hb hby d3_37) (fun _ _ => ⟨rfl, e22, (by decide : 0 + 0 ≤ _), (by decide : 0 + 0 ≤ _)⟩)
  dsimp only [Pt.U, Pt.locs, Pt.cells, Pt.slots] at X23 l23 y23 z23 st23 hQ23
  subst l23 y23 z23
  obtain ⟨h23, e23⟩ : ∃ z, T23.heap = z := ⟨_, rfl⟩
  rw [e23] at hQ23
  obtain ⟨rfl, N23q, hh23⟩ := hQ23
  have N25 := Fr.app N15 N23q
  have e23' : T23.heap = h14 := e23.trans hh23
  have f26 : Exa Z h14 o0_ cn0 := f13.wr W14
  obtain ⟨T27, h27, X27, e27, W27, st27⟩ := putF X23 hx hZ hown (host := "") (Or.inl (own_w hw 15 rfl)) Via.refl e23' f18 f26 (Or.inl (own_w hw 16 rfl)) (own_w hw 4 rfl) (ty := .long) (by decide) rfl rfl (g := (mkF m 40 #[lvR o0_, lvR o1_] [(.long (own_max (-9223372036854775808 : Int64) (-9223372036854775808 : Int64))), (.ref o0_)])) rfl rfl (hb hby d3_40)
  have N28 := Fr.snoc X27 N25 P8
  have f29 : Fld Z h27 o0_ cn0 "latestDeleteTimestamp" "J" (.long (own_max (-9223372036854775808 : Int64) (-9223372036854775808 : Int64))) := f18.same W27
  have pre30 : ∀ t, own_S p e below m T27 43 #[lvR o0_, lvR o1_] [] t → G t := by
    intro t kt
    refine pre0 t ?_
    show own_S p e below m s₁ 0 #[lvR o0_, lvR o1_] [] _
    refine XS.aloadN X0.here hx rfl (hb hby d3_0) rfl rfl ?_
    refine XS.dup X0.here hx rfl (hb hby d3_1) rfl rfl ?_
    show own_S p e below m s₁ 2 #[lvR o0_, lvR o1_] [(.ref o0_), (.ref o0_)] _
    refine st1 _ ?_
    refine XS.aloadN X1.here hx rfl (hb hby d3_5) rfl rfl ?_
    show own_S p e below m T1 6 #[lvR o0_, lvR o1_] [(.ref o1_), (.long (0 : Int64)), (.ref o0_)] _
    refine st2 _ ?_
    refine XS.ladd X2.here hx rfl (hb hby d3_9) rfl ?_
    show own_S p e below m T2 10 #[lvR o0_, lvR o1_] [(.long (1 : Int64)), (.ref o0_)] _
    refine st3 _ ?_
    refine XS.aloadN X3.here hx rfl (hb hby d3_13) rfl rfl ?_
    refine XS.aloadN X3.here hx rfl (hb hby d3_14) rfl rfl ?_
    show own_S p e below m T3 15 #[lvR o0_, lvR o1_] [(.ref o0_), (.ref o0_)] _
    refine st7 _ ?_
    refine XS.aloadN X7.here hx rfl (hb hby d3_18) rfl rfl ?_
    show own_S p e below m T7 19 #[lvR o0_, lvR o1_] [(.ref o1_), (.long (-9223372036854775808 : Int64)), (.ref o0_)] _
    refine st9 _ ?_
    show own_S p e below m T9 22 #[lvR o0_, lvR o1_] [(.long y0_), (.long (-9223372036854775808 : Int64)), (.ref o0_)] _
    refine st10 _ ?_
    show own_S p e below m T10 25 #[lvR o0_, lvR o1_] [(.long (own_max (-9223372036854775808 : Int64) y0_)), (.ref o0_)] _
    refine st14 _ ?_
    refine XS.aloadN X14.here hx rfl (hb hby d3_28) rfl rfl ?_
    refine XS.aloadN X14.here hx rfl (hb hby d3_29) rfl rfl ?_
    show own_S p e below m T14 30 #[lvR o0_, lvR o1_] [(.ref o0_), (.ref o0_)] _
    refine st19 _ ?_
    refine XS.aloadN X19.here hx rfl (hb hby d3_33) rfl rfl ?_
    show own_S p e below m T19 34 #[lvR o0_, lvR o1_] [(.ref o1_), (.long (-9223372036854775808 : Int64)), (.ref o0_)] _
    refine st22 _ ?_
    show own_S p e below m T22 37 #[lvR o0_, lvR o1_] [(.long (-9223372036854775808 : Int64)), (.long (-9223372036854775808 : Int64)), (.ref o0_)] _
    refine st23 _ ?_
    show own_S p e below m T23 40 #[lvR o0_, lvR o1_] [(.long (own_max (-9223372036854775808 : Int64) (-9223372036854775808 : Int64))), (.ref o0_)] _
    refine st27 _ ?_
    exact kt
  have f32 : Keep h0 h3 [o0_] := K0.wr W3 (Or.inl (List.mem_of_getElem? (i := 0) rfl))
  have f33 : Keep h0 h14 [o0_] := f32.wr W14 (Or.inl (List.mem_of_getElem? (i := 0) rfl))
  have f34 : Keep h0 h27 [o0_] := f33.wr W27 (Or.inl (List.mem_of_getElem? (i := 0) rfl))
  have f35 : Exa Z h27 o0_ cn0 := f26.wr W27
  have f36 : Fld Z h27 o0_ cn0 "latestTimestamp" "J" (.long (own_max (-9223372036854775808 : Int64) y0_)) := f16.other W27 (Or.inr (slot_ne (Or.inl (own_w hw 14 rfl)) (Or.inl (own_w hw 16 rfl)) (by decide) (t := .long) (t' := .long) (by decide) (by decide)))
  have f37 : Fld Z h14 o0_ cn0 "cells" "J" (.long (1 : Int64)) := f5.other W14 (Or.inr (slot_ne (Or.inl (own_w hw 25 rfl)) (Or.inl (own_w hw 14 rfl)) (by decide) (t := .long) (t' := .long) (by decide) (by decide)))
  have f38 : Fld Z h27 o0_ cn0 "cells" "J" (.long (1 : Int64)) := f37.other W27 (Or.inr (slot_ne (Or.inl (own_w hw 25 rfl)) (Or.inl (own_w hw 16 rfl)) (by decide) (t := .long) (t' := .long) (by decide) (by decide)))
  obtain ⟨fs, hr, hrun, hended, hW, hsame⟩ := X27.leave (v := none) (fun _ => rfl)
  refine ⟨_, _, hG _ (pre30 _ (X27.returnOut hx Bd.returns (hb hby d3_43) hr)), hrun, hended, _, _, rfl, ?_, ⟨_, rfl⟩, hW, hsame.mono (by decide) (by decide)⟩
  show Qadd14 Z o0_ o1_ y0_ h0 n0 _ T27.heap _
  rw [e27]
  exact ⟨rfl, N28, f34, f35, f36, f29, f38⟩
theorem efcount15 (m : MethodId) (o0_ : Addr) (o1_ : Addr) (y0_ : Int64) : entryFrame m #[(.ref o0_), (.ref o1_), (.long y0_)] 4 = mkF m 0 #[lvR o0_, lvR o1_, lvJ y0_, .second] [] := by first | (simp [entryFrame, mkF, argsToLocals, Value.category]; done) | rfl
def Qcount15 (Z : State) (o0_ : Addr) (o1_ : Addr) (y0_ : Int64) (y1_ : Int64) (o2_ : Addr) (h0 : Heap) (n0 : Nat) (v : Option Value) (h : Heap) (L : List Loc) : Prop := v = none ∧ Fr n0 L ∧ Keep h0 h [o0_] ∧ Exa Z h o0_ cn0 ∧ Fld Z h o0_ cn0 "latestTimestamp" "J" (.long y1_) ∧ Fld Z h o0_ cn0 "latestDeleteTimestamp" "J" (.long (own_max (-9223372036854775808 : Int64) y0_)) ∧ Fld Z h o0_ cn0 "cells" "J" (.long (2 : Int64))
set_option maxRecDepth 65536 in
set_option maxHeartbeats 40000000 in
theorem rmcount15 (l : Launch) (Z : State) (a0 : Array Value) (hw : ∀ d ∈ tables_1, d.before a0 Z = true) (ws : List Jvm.Cond) (o0_ : Addr) (o1_ : Addr) (y0_ : Int64) (y1_ : Int64) (o2_ : Addr) (h0 : Heap) (n0 : Nat) (O0 : Old Z n0 h0) (P0 : Exa Z h0 o0_ cn0) (P1 : Fld Z h0 o0_ cn0 "latestTimestamp" "J" (.long y1_)) (P2 : Fld Z h0 o0_ cn0 "latestDeleteTimestamp" "J" (.long (-9223372036854775808 : Int64))) (P3 : Fld Z h0 o0_ cn0 "cells" "J" (.long (1 : Int64))) (P4 : Exa Z Z.heap o1_ cn1) (P5 : n0 ≤ o0_) (P6 : Exa Z Z.heap o2_ cn1) (P7 : Fld Z Z.heap o2_ "java/lang/Enum" "ordinal" "I" (.int (0 : Int32))) (P8 : Sta Z Z.heap "com/example/zenodotus/zenodotus/model/Cell$Kind" "PUT" "Lcom/example/zenodotus/zenodotus/model/Cell$Kind;" (.ref o2_)) (P9 : o1_ ≠ o2_) :
    MetFree l (⟨"com/example/zenodotus/zenodotus/io/RowCodec$Tally", "count", "(Lcom/example/zenodotus/zenodotus/model/Cell$Kind;J)V"⟩ : MethodName) (head1 (Jvm.Cond.code (⟨"com/example/zenodotus/zenodotus/io/RowCodec$Tally", "count", "(Lcom/example/zenodotus/zenodotus/model/Cell$Kind;J)V"⟩ : MethodName) prog_38_method_2_code 4 none :: ws) ({ frames := 1, cells := 0, slots := 0, locals := 16 } : Room)) (fun a U => a = #[(.ref o0_), (.ref o1_), (.long y0_)] ∧ Z.Warmed39 U.vm ∧ U.heap = h0) (fun _ _ _ _ _ => True) (fun _ U o U' => ∃ v L, o = .returned v ∧ Qcount15 Z o0_ o1_ y0_ y1_ o2_ h0 n0 v U'.heap L ∧ FrameEnd U o U' L ({ frames := 1, cells := 0, slots := 0, locals := 16 } : Room).cells ({ frames := 1, cells := 0, slots := 0, locals := 16 } : Room).slots) := by
  refine MetFree.of_bodySF (plainFor_of_name pn_0) hisR ?_
  intro p e s m args below meth c s₁ Bd hml0 hP hK
  obtain ⟨rfl, hZ, hh⟩ := hP
  have hx := Bd.exec
  have hby := Bd.bytes
  have hml : c.maxLocals = 4 := hml0
  have hown : s.vm.findClass "com/example/zenodotus/zenodotus/io/RowCodec$Tally" = some m.cls := findClass_of_methodNamed Bd.named
  have hnm := (name_of_methodNamed Bd.named Bd.method).1
  have X0 : Stand p l e ({ frames := 1, cells := 0, slots := 0, locals := 16 } : Room) s m #[(.ref o0_), (.ref o1_), (.long y0_)] below meth c s₁ [] 0 0 := Stand.of_body Bd
  have e0 : s₁.heap = h0 := by rw [← hh, Bd.state]; rfl
  have N0 := Fr.nil n0
  obtain ⟨G, pre0, hG⟩ : ∃ G : State → Prop, (∀ t, own_S p e below m s₁ 0 #[lvR o0_, lvR o1_, lvJ y0_, .second] [] t → G t) ∧ (∀ t, G t → Steps p.tables e below (s₁.setTop (entryFrame m #[(.ref o0_), (.ref o1_), (.long y0_)] 4)) t) := ⟨fun t => Steps p.tables e below (s₁.setTop (entryFrame m #[(.ref o0_), (.ref o1_), (.long y0_)] 4)) t, fun t k => castTop (efcount15 m o0_ o1_ y0_) k, fun _ k => k⟩
  have K0 : Keep h0 h0 [o0_] := Keep.refl _ _
  obtain ⟨T1, X1, e1, st1⟩ := getF X0 hx hZ hown (host := "") (Or.inl (own_w hw 24 rfl)) Via.refl e0 P3 (g := (mkF m 2 #[lvR o0_, lvR o1_, lvJ y0_, .second] [(.ref o0_), (.ref o0_)])) rfl rfl (hb hby d8_2)
  obtain ⟨T2, h2, X2, e2, W2, st2⟩ := putF X1 hx hZ hown (host := "") (Or.inl (own_w hw 24 rfl)) Via.refl e1 P3 P0 (Or.inl (own_w hw 25 rfl)) (own_w hw 4 rfl) (ty := .long) (by decide) rfl rfl (g := (mkF m 7 #[lvR o0_, lvR o1_, lvJ y0_, .second] [(.long (2 : Int64)), (.ref o0_)])) rfl rfl (hb hby d8_7)
  have N3 := Fr.snoc X2 N0 P5
  have f4 : Fld Z h2 o0_ cn0 "cells" "J" (.long (2 : Int64)) := P3.same W2
  have f5 : Old Z n0 h2 := O0.wr W2 P5
  obtain ⟨T6, X6, e6, st6⟩ := getS2 X2 hx hZ hown (host := "") (Or.inl (own_w hw 26 rfl)) Via.refl e2 (P8.ext f5.2) (g := (mkF m 11 #[lvR o0_, lvR o1_, lvJ y0_, .second] [(.ref o1_)])) rfl (hb hby d8_11)
  have f7 : Fld Z h2 o0_ cn0 "latestDeleteTimestamp" "J" (.long (-9223372036854775808 : Int64)) := P2.other W2 (Or.inr (slot_ne (Or.inl (own_w hw 16 rfl)) (Or.inl (own_w hw 25 rfl)) (by decide) (t := .long) (t' := .long) (by decide) (by decide)))
  obtain ⟨T8, X8, e8, st8⟩ := getF X6 hx hZ hown (host := "") (Or.inl (own_w hw 15 rfl)) Via.refl e6 f7 (g := (mkF m 34 #[lvR o0_, lvR o1_, lvJ y0_, .second] [(.ref o0_), (.ref o0_)])) rfl rfl (hb hby d8_34)
  obtain ⟨_, _, ⟨T9, L9, k9, n9⟩, -, X9, ⟨Lc9, hQ9, l9, y9, z9⟩, st9⟩ := Jvm.LawKit.callS X8 hx (y := (⟨"java/lang/Math", "max", "(JJ)J"⟩ : MethodName)) hown (mvT hZ (own_w hw 27 rfl)) (mvT hZ (own_w hw 28 rfl)) (mvT hZ (own_w hw 29 rfl)) (mvT hZ (own_w hw 30 rfl)) (by decide) (backOf (W := 1) (rmMax l Z a0 hw [] (-9223372036854775808 : Int64) y0_ h2 n0 f5 ) hZ (own_w hw 30 rfl) (own_w hw 29 rfl) (by decide) (by decide)) (g := (mkF m 38 #[lvR o0_, lvR o1_, lvJ y0_, .second] [(.long y0_), (.long (-9223372036854775808 : Int64)), (.ref o0_)])) rfl (by rw [hml]; rfl) (argsL := [(.long (-9223372036854775808 : Int64)), (.long y0_)]) (rest := [(.ref o0_)]) (lenOf pd_1 rfl) rfl (by show 2 * 0 + _ ≤ _; exact Nat.le_of_eq rfl) (hb hby d8_38) (fun _ _ => ⟨rfl, e8, (by decide : 0 + 0 ≤ _), (by decide : 0 + 0 ≤ _)⟩)
  dsimp only [Pt.U, Pt.locs, Pt.cells, Pt.slots] at X9 l9 y9 z9 st9 hQ9
  subst l9 y9 z9
  obtain ⟨h9, e9⟩ : ∃ z, T9.heap = z := ⟨_, rfl⟩
  rw [e9] at hQ9
  obtain ⟨rfl, N9q, hh9⟩ := hQ9
  have N10 := Fr.app N3 N9q
  have e9' : T9.heap = h2 := e9.trans hh9
  have f11 : Exa Z h2 o0_ cn0 := P0.wr W2
  obtain ⟨T12, h12, X12, e12, W12, st12⟩ := putF X9 hx hZ hown (host := "") (Or.inl (own_w hw 15 rfl)) Via.refl e9' f7 f11 (Or.inl (own_w hw 16 rfl)) (own_w hw 4 rfl) (ty := .long) (by decide) rfl rfl (g := (mkF m 41 #[lvR o0_, lvR o1_, lvJ y0_, .second] [(.long (own_max (-9223372036854775808 : Int64) y0_)), (.ref o0_)])) rfl rfl (hb hby d8_41)
  have N13 := Fr.snoc X12 N10 P5
  have f14 : Fld Z h12 o0_ cn0 "latestDeleteTimestamp" "J" (.long (own_max (-9223372036854775808 : Int64) y0_)) := f7.same W12
  have pre15 : ∀ t, own_S p e below m T12 44 #[lvR o0_, lvR o1_, lvJ y0_, .second] [] t → G t := by
    intro t kt
    refine pre0 t ?_
    show own_S p e below m s₁ 0 #[lvR o0_, lvR o1_, lvJ y0_, .second] [] _
    refine XS.aloadN X0.here hx rfl (hb hby d8_0) rfl rfl ?_
    refine XS.dup X0.here hx rfl (hb hby d8_1) rfl rfl ?_
    show own_S p e below m s₁ 2 #[lvR o0_, lvR o1_, lvJ y0_, .second] [(.ref o0_), (.ref o0_)] _
    refine st1 _ ?_
    refine XS.lconst X1.here hx rfl (hb hby d8_5) ?_
    refine XS.ladd X1.here hx rfl (hb hby d8_6) rfl ?_
    show own_S p e below m T1 7 #[lvR o0_, lvR o1_, lvJ y0_, .second] [(.long (2 : Int64)), (.ref o0_)] _
    refine st2 _ ?_
    refine XS.aloadN X2.here hx rfl (hb hby d8_10) rfl rfl ?_
    show own_S p e below m T2 11 #[lvR o0_, lvR o1_, lvJ y0_, .second] [(.ref o1_)] _
    refine st6 _ ?_
    show own_S p e below m T6 14 #[lvR o0_, lvR o1_, lvJ y0_, .second] [(.ref o2_), (.ref o1_)] _
    refine Jvm.RoadKit.acmp (g := (mkF m 14 #[lvR o0_, lvR o1_, lvJ y0_, .second] [(.ref o2_), (.ref o1_)])) X6 hx rfl rfl rfl (pc0 := 14) (pc' := 32) (same := false) rfl (hb hby d8_14) rfl (decide_eq_false fun q => P9 (Value.ref.inj q)) (by decide) (by decide) ?_
    refine XS.aloadN X6.here hx rfl (hb hby d8_32) rfl rfl ?_
    refine XS.aloadN X6.here hx rfl (hb hby d8_33) rfl rfl ?_
    show own_S p e below m T6 34 #[lvR o0_, lvR o1_, lvJ y0_, .second] [(.ref o0_), (.ref o0_)] _
    refine st8 _ ?_
    refine XS.lloadN X8.here hx rfl (hb hby d8_37) rfl ?_
    show own_S p e below m T8 38 #[lvR o0_, lvR o1_, lvJ y0_, .second] [(.long y0_), (.long (-9223372036854775808 : Int64)), (.ref o0_)] _
    refine st9 _ ?_
    show own_S p e below m T9 41 #[lvR o0_, lvR o1_, lvJ y0_, .second] [(.long (own_max (-9223372036854775808 : Int64) y0_)), (.ref o0_)] _
    refine st12 _ ?_
    exact kt
  have f17 : Keep h0 h2 [o0_] := K0.wr W2 (Or.inl (List.mem_of_getElem? (i := 0) rfl))
  have f18 : Keep h0 h12 [o0_] := f17.wr W12 (Or.inl (List.mem_of_getElem? (i := 0) rfl))
  have f19 : Exa Z h12 o0_ cn0 := f11.wr W12
  have f20 : Fld Z h2 o0_ cn0 "latestTimestamp" "J" (.long y1_) := P1.other W2 (Or.inr (slot_ne (Or.inl (own_w hw 14 rfl)) (Or.inl (own_w hw 25 rfl)) (by decide) (t := .long) (t' := .long) (by decide) (by decide)))
  have f21 : Fld Z h12 o0_ cn0 "latestTimestamp" "J" (.long y1_) := f20.other W12 (Or.inr (slot_ne (Or.inl (own_w hw 14 rfl)) (Or.inl (own_w hw 16 rfl)) (by decide) (t := .long) (t' := .long) (by decide) (by decide)))
  have f22 : Fld Z h12 o0_ cn0 "cells" "J" (.long (2 : Int64)) := f4.other W12 (Or.inr (slot_ne (Or.inl (own_w hw 25 rfl)) (Or.inl (own_w hw 16 rfl)) (by decide) (t := .long) (t' := .long) (by decide) (by decide)))
  obtain ⟨fs, hr, hrun, hended, hW, hsame⟩ := X12.leave (v := none) (fun _ => rfl)
  refine ⟨_, _, hG _ (pre15 _ (X12.returnOut hx Bd.returns (hb hby d8_44) hr)), hrun, hended, _, _, rfl, ?_, ⟨_, rfl⟩, hW, hsame.mono (by decide) (by decide)⟩
  show Qcount15 Z o0_ o1_ y0_ y1_ o2_ h0 n0 _ T12.heap _
  rw [e12]
  exact ⟨rfl, N13, f18, f19, f21, f14, f22⟩
theorem efadd16 (m : MethodId) (o0_ : Addr) (o1_ : Addr) : entryFrame m #[(.ref o0_), (.ref o1_)] 2 = mkF m 0 #[lvR o0_, lvR o1_] [] := by first | (simp [entryFrame, mkF, argsToLocals, Value.category]; done) | rfl
def Qadd16 (Z : State) (o0_ : Addr) (o1_ : Addr) (y0_ : Int64) (y1_ : Int64) (h0 : Heap) (n0 : Nat) (v : Option Value) (h : Heap) (L : List Loc) : Prop := v = none ∧ Fr n0 L ∧ Keep h0 h [o0_] ∧ Exa Z h o0_ cn0 ∧ Fld Z h o0_ cn0 "latestTimestamp" "J" (.long (own_max (-9223372036854775808 : Int64) y0_)) ∧ Fld Z h o0_ cn0 "latestDeleteTimestamp" "J" (.long (own_max (-9223372036854775808 : Int64) y1_)) ∧ Fld Z h o0_ cn0 "cells" "J" (.long (2 : Int64))
set_option maxRecDepth 65536 in
set_option maxHeartbeats 40000000 in
theorem rmadd16 (l : Launch) (Z : State) (a0 : Array Value) (hw : ∀ d ∈ tables_1, d.before a0 Z = true) (ws : List Jvm.Cond) (o0_ : Addr) (o1_ : Addr) (y0_ : Int64) (y1_ : Int64) (h0 : Heap) (n0 : Nat) (O0 : Old Z n0 h0) (P0 : Exa Z h0 o0_ cn0) (P1 : Fld Z h0 o0_ cn0 "latestTimestamp" "J" (.long (-9223372036854775808 : Int64))) (P2 : Fld Z h0 o0_ cn0 "latestDeleteTimestamp" "J" (.long (-9223372036854775808 : Int64))) (P3 : Fld Z h0 o0_ cn0 "cells" "J" (.long (0 : Int64))) (P4 : Exa Z h0 o1_ cn0) (P5 : Fld Z h0 o1_ cn0 "latestTimestamp" "J" (.long y0_)) (P6 : Fld Z h0 o1_ cn0 "latestDeleteTimestamp" "J" (.long y1_)) (P7 : Fld Z h0 o1_ cn0 "cells" "J" (.long (2 : Int64))) (P8 : n0 ≤ o0_) (P9 : o1_ ≠ o0_) :
    MetFree l (⟨"com/example/zenodotus/zenodotus/io/RowCodec$Tally", "add", "(Lcom/example/zenodotus/zenodotus/io/RowCodec$Tally;)V"⟩ : MethodName) (head1 (Jvm.Cond.code (⟨"com/example/zenodotus/zenodotus/io/RowCodec$Tally", "add", "(Lcom/example/zenodotus/zenodotus/io/RowCodec$Tally;)V"⟩ : MethodName) prog_38_method_3_code 2 none :: ws) ({ frames := 1, cells := 0, slots := 0, locals := 16 } : Room)) (fun a U => a = #[(.ref o0_), (.ref o1_)] ∧ Z.Warmed39 U.vm ∧ U.heap = h0) (fun _ _ _ _ _ => True) (fun _ U o U' => ∃ v L, o = .returned v ∧ Qadd16 Z o0_ o1_ y0_ y1_ h0 n0 v U'.heap L ∧ FrameEnd U o U' L ({ frames := 1, cells := 0, slots := 0, locals := 16 } : Room).cells ({ frames := 1, cells := 0, slots := 0, locals := 16 } : Room).slots) := by
  refine MetFree.of_bodySF (plainFor_of_name pn_0) hisR ?_
  intro p e s m args below meth c s₁ Bd hml0 hP hK
  obtain ⟨rfl, hZ, hh⟩ := hP
  have hx := Bd.exec
  have hby := Bd.bytes
  have hml : c.maxLocals = 2 := hml0
  have hown : s.vm.findClass "com/example/zenodotus/zenodotus/io/RowCodec$Tally" = some m.cls := findClass_of_methodNamed Bd.named
  have hnm := (name_of_methodNamed Bd.named Bd.method).1
  have X0 : Stand p l e ({ frames := 1, cells := 0, slots := 0, locals := 16 } : Room) s m #[(.ref o0_), (.ref o1_)] below meth c s₁ [] 0 0 := Stand.of_body Bd
  have e0 : s₁.heap = h0 := by rw [← hh, Bd.state]; rfl
  have N0 := Fr.nil n0
  obtain ⟨G, pre0, hG⟩ : ∃ G : State → Prop, (∀ t, own_S p e below m s₁ 0 #[lvR o0_, lvR o1_] [] t → G t) ∧ (∀ t, G t → Steps p.tables e below (s₁.setTop (entryFrame m #[(.ref o0_), (.ref o1_)] 2)) t) := ⟨fun t => Steps p.tables e below (s₁.setTop (entryFrame m #[(.ref o0_), (.ref o1_)] 2)) t, fun t k => castTop (efadd16 m o0_ o1_) k, fun _ k => k⟩
  have K0 : Keep h0 h0 [o0_] := Keep.refl _ _
  obtain ⟨T1, X1, e1, st1⟩ := getF X0 hx hZ hown (host := "") (Or.inl (own_w hw 24 rfl)) Via.refl e0 P3 (g := (mkF m 2 #[lvR o0_, lvR o1_] [(.ref o0_), (.ref o0_)])) rfl rfl (hb hby d3_2)
  obtain ⟨T2, X2, e2, st2⟩ := getF X1 hx hZ hown (host := "") (Or.inl (own_w hw 24 rfl)) Via.refl e1 P7 (g := (mkF m 6 #[lvR o0_, lvR o1_] [(.ref o1_), (.long (0 : Int64)), (.ref o0_)])) rfl rfl (hb hby d3_6)
  obtain ⟨T3, h3, X3, e3, W3, st3⟩ := putF X2 hx hZ hown (host := "") (Or.inl (own_w hw 24 rfl)) Via.refl e2 P3 P0 (Or.inl (own_w hw 25 rfl)) (own_w hw 4 rfl) (ty := .long) (by decide) rfl rfl (g := (mkF m 10 #[lvR o0_, lvR o1_] [(.long (2 : Int64)), (.ref o0_)])) rfl rfl (hb hby d3_10)
  have N4 := Fr.snoc X3 N0 P8
  have f5 : Fld Z h3 o0_ cn0 "cells" "J" (.long (2 : Int64)) := P3.same W3
  have f6 : Fld Z h3 o0_ cn0 "latestTimestamp" "J" (.long (-9223372036854775808 : Int64)) := P1.other W3 (Or.inr (slot_ne (Or.inl (own_w hw 14 rfl)) (Or.inl (own_w hw 25 rfl)) (by decide) (t := .long) (t' := .long) (by decide) (by decide)))
  obtain ⟨T7, X7, e7, st7⟩ := getF X3 hx hZ hown (host := "") (Or.inl (own_w hw 13 rfl)) Via.refl e3 f6 (g := (mkF m 15 #[lvR o0_, lvR o1_] [(.ref o0_), (.ref o0_)])) rfl rfl (hb hby d3_15)
  have f8 : Fld Z h3 o1_ cn0 "latestTimestamp" "J" (.long y0_) := P5.other W3 (Or.inl P9)
  obtain ⟨T9, X9, e9, st9⟩ := getF X7 hx hZ hown (host := "") (Or.inl (own_w hw 13 rfl)) Via.refl e7 f8 (g := (mkF m 19 #[lvR o0_, lvR o1_] [(.ref o1_), (.long (-9223372036854775808 : Int64)), (.ref o0_)])) rfl rfl (hb hby d3_19)
  have f11 : Old Z n0 h3 := O0.wr W3 P8
  obtain ⟨_, _, ⟨T10, L10, k10, n10⟩, -, X10, ⟨Lc10, hQ10, l10, y10, z10⟩, st10⟩ := Jvm.LawKit.callS X9 hx (y := (⟨"java/lang/Math", "max", "(JJ)J"⟩ : MethodName)) hown (mvT hZ (own_w hw 27 rfl)) (mvT hZ (own_w hw 28 rfl)) (mvT hZ (own_w hw 29 rfl)) (mvT hZ (own_w hw 30 rfl)) (by decide) (backOf (W := 1) (rmMax l Z a0 hw [] (-9223372036854775808 : Int64) y0_ h3 n0 f11 ) hZ (own_w hw 30 rfl) (own_w hw 29 rfl) (by decide) (by decide)) (g := (mkF m 22 #[lvR o0_, lvR o1_] [(.long y0_), (.long (-9223372036854775808 : Int64)), (.ref o0_)])) rfl (by rw [hml]; rfl) (argsL := [(.long (-9223372036854775808 : Int64)), (.long y0_)]) (rest := [(.ref o0_)]) (lenOf pd_1 rfl) rfl (by show 2 * 0 + _ ≤ _; exact Nat.le_of_eq rfl) (hb hby d3_22) (fun _ _ => ⟨rfl, e9, (by decide : 0 + 0 ≤ _), (by decide : 0 + 0 ≤ _)⟩)
  dsimp only [Pt.U, Pt.locs, Pt.cells, Pt.slots] at X10 l10 y10 z10 st10 hQ10
  subst l10 y10 z10
  obtain ⟨h10, e10⟩ : ∃ z, T10.heap = z := ⟨_, rfl⟩
  rw [e10] at hQ10
  obtain ⟨rfl, N10q, hh10⟩ := hQ10
  have N12 := Fr.app N4 N10q
  have e10' : T10.heap = h3 := e10.trans hh10
  have f13 : Exa Z h3 o0_ cn0 := P0.wr W3
  obtain ⟨T14, h14, X14, e14, W14, st14⟩ := putF X10 hx hZ hown (host := "") (Or.inl (own_w hw 13 rfl)) Via.refl e10' f6 f13 (Or.inl (own_w hw 14 rfl)) (own_w hw 4 rfl) (ty := .long) (by decide) rfl rfl (g := (mkF m 25 #[lvR o0_, lvR o1_] [(.long (own_max (-9223372036854775808 : Int64) y0_)), (.ref o0_)])) rfl rfl (hb hby d3_25)
  have N15 := Fr.snoc X14 N12 P8
  have f16 : Fld Z h14 o0_ cn0 "latestTimestamp" "J" (.long (own_max (-9223372036854775808 : Int64) y0_)) := f6.same W14
  have f17 : Fld Z h3 o0_ cn0 "latestDeleteTimestamp" "J" (.long (-9223372036854775808 : Int64)) := P2.other W3 (Or.inr (slot_ne (Or.inl (own_w hw 16 rfl)) (Or.inl (own_w hw 25 rfl)) (by decide) (t := .long) (t' := .long) (by decide) (by decide)))
  have f18 : Fld Z h14 o0_ cn0 "latestDeleteTimestamp" "J" (.long (-9223372036854775808 : Int64)) := f17.other W14 (Or.inr (slot_ne (Or.inl (own_w hw 16 rfl)) (Or.inl (own_w hw 14 rfl)) (by decide) (t := .long) (t' := .long) (by decide) (by decide)))
  obtain ⟨T19, X19, e19, st19⟩ := getF X14 hx hZ hown (host := "") (Or.inl (own_w hw 15 rfl)) Via.refl e14 f18 (g := (mkF m 30 #[lvR o0_, lvR o1_] [(.ref o0_), (.ref o0_)])) rfl rfl (hb hby d3_30)
  have f20 : Fld Z h3 o1_ cn0 "latestDeleteTimestamp" "J" (.long y1_) := P6.other W3 (Or.inl P9)
  have f21 : Fld Z h14 o1_ cn0 "latestDeleteTimestamp" "J" (.long y1_) := f20.other W14 (Or.inl P9)
  obtain ⟨T22, X22, e22, st22⟩ := getF X19 hx hZ hown (host := "") (Or.inl (own_w hw 15 rfl)) Via.refl e19 f21 (g := (mkF m 34 #[lvR o0_, lvR o1_] [(.ref o1_), (.long (-9223372036854775808 : Int64)), (.ref o0_)])) rfl rfl (hb hby d3_34)
  have f24 : Old Z n0 h14 := f11.wr W14 P8
  obtain ⟨_, _, ⟨T23, L23, k23, n23⟩, -, X23, ⟨Lc23, hQ23, l23, y23, z23⟩, st23⟩ := Jvm.LawKit.callS X22 hx (y := (⟨"java/lang/Math", "max", "(JJ)J"⟩ : MethodName)) hown (mvT hZ (own_w hw 27 rfl)) (mvT hZ (own_w hw 28 rfl)) (mvT hZ (own_w hw 29 rfl)) (mvT hZ (own_w hw 30 rfl)) (by decide) (backOf (W := 1) (rmMax l Z a0 hw [] (-9223372036854775808 : Int64) y1_ h14 n0 f24 ) hZ (own_w hw 30 rfl) (own_w hw 29 rfl) (by decide) (by decide)) (g := (mkF m 37 #[lvR o0_, lvR o1_] [(.long y1_), (.long (-9223372036854775808 : Int64)), (.ref o0_)])) rfl (by rw [hml]; rfl) (argsL := [(.long (-9223372036854775808 : Int64)), (.long y1_)]) (rest := [(.ref o0_)]) (lenOf pd_1 rfl) rfl (by show 2 * 0 + _ ≤ _; exact Nat.le_of_eq rfl) (hb hby d3_37) (fun _ _ => ⟨rfl, e22, (by decide : 0 + 0 ≤ _), (by decide : 0 + 0 ≤ _)⟩)
  dsimp only [Pt.U, Pt.locs, Pt.cells, Pt.slots] at X23 l23 y23 z23 st23 hQ23
  subst l23 y23 z23
  obtain ⟨h23, e23⟩ : ∃ z, T23.heap = z := ⟨_, rfl⟩
  rw [e23] at hQ23
  obtain ⟨rfl, N23q, hh23⟩ := hQ23
  have N25 := Fr.app N15 N23q
  have e23' : T23.heap = h14 := e23.trans hh23
  have f26 : Exa Z h14 o0_ cn0 := f13.wr W14
  obtain ⟨T27, h27, X27, e27, W27, st27⟩ := putF X23 hx hZ hown (host := "") (Or.inl (own_w hw 15 rfl)) Via.refl e23' f18 f26 (Or.inl (own_w hw 16 rfl)) (own_w hw 4 rfl) (ty := .long) (by decide) rfl rfl (g := (mkF m 40 #[lvR o0_, lvR o1_] [(.long (own_max (-9223372036854775808 : Int64) y1_)), (.ref o0_)])) rfl rfl (hb hby d3_40)
  have N28 := Fr.snoc X27 N25 P8
  have f29 : Fld Z h27 o0_ cn0 "latestDeleteTimestamp" "J" (.long (own_max (-9223372036854775808 : Int64) y1_)) := f18.same W27
  have pre30 : ∀ t, own_S p e below m T27 43 #[lvR o0_, lvR o1_] [] t → G t := by
    intro t kt
    refine pre0 t ?_
    show own_S p e below m s₁ 0 #[lvR o0_, lvR o1_] [] _
    refine XS.aloadN X0.here hx rfl (hb hby d3_0) rfl rfl ?_
    refine XS.dup X0.here hx rfl (hb hby d3_1) rfl rfl ?_
    show own_S p e below m s₁ 2 #[lvR o0_, lvR o1_] [(.ref o0_), (.ref o0_)] _
    refine st1 _ ?_
    refine XS.aloadN X1.here hx rfl (hb hby d3_5) rfl rfl ?_
    show own_S p e below m T1 6 #[lvR o0_, lvR o1_] [(.ref o1_), (.long (0 : Int64)), (.ref o0_)] _
    refine st2 _ ?_
    refine XS.ladd X2.here hx rfl (hb hby d3_9) rfl ?_
    show own_S p e below m T2 10 #[lvR o0_, lvR o1_] [(.long (2 : Int64)), (.ref o0_)] _
    refine st3 _ ?_
    refine XS.aloadN X3.here hx rfl (hb hby d3_13) rfl rfl ?_
    refine XS.aloadN X3.here hx rfl (hb hby d3_14) rfl rfl ?_
    show own_S p e below m T3 15 #[lvR o0_, lvR o1_] [(.ref o0_), (.ref o0_)] _
    refine st7 _ ?_
    refine XS.aloadN X7.here hx rfl (hb hby d3_18) rfl rfl ?_
    show own_S p e below m T7 19 #[lvR o0_, lvR o1_] [(.ref o1_), (.long (-9223372036854775808 : Int64)), (.ref o0_)] _
    refine st9 _ ?_
    show own_S p e below m T9 22 #[lvR o0_, lvR o1_] [(.long y0_), (.long (-9223372036854775808 : Int64)), (.ref o0_)] _
    refine st10 _ ?_
    show own_S p e below m T10 25 #[lvR o0_, lvR o1_] [(.long (own_max (-9223372036854775808 : Int64) y0_)), (.ref o0_)] _
    refine st14 _ ?_
    refine XS.aloadN X14.here hx rfl (hb hby d3_28) rfl rfl ?_
    refine XS.aloadN X14.here hx rfl (hb hby d3_29) rfl rfl ?_
    show own_S p e below m T14 30 #[lvR o0_, lvR o1_] [(.ref o0_), (.ref o0_)] _
    refine st19 _ ?_
    refine XS.aloadN X19.here hx rfl (hb hby d3_33) rfl rfl ?_
    show own_S p e below m T19 34 #[lvR o0_, lvR o1_] [(.ref o1_), (.long (-9223372036854775808 : Int64)), (.ref o0_)] _
    refine st22 _ ?_
    show own_S p e below m T22 37 #[lvR o0_, lvR o1_] [(.long y1_), (.long (-9223372036854775808 : Int64)), (.ref o0_)] _
    refine st23 _ ?_
    show own_S p e below m T23 40 #[lvR o0_, lvR o1_] [(.long (own_max (-9223372036854775808 : Int64) y1_)), (.ref o0_)] _
    refine st27 _ ?_
    exact kt
  have f32 : Keep h0 h3 [o0_] := K0.wr W3 (Or.inl (List.mem_of_getElem? (i := 0) rfl))
  have f33 : Keep h0 h14 [o0_] := f32.wr W14 (Or.inl (List.mem_of_getElem? (i := 0) rfl))
  have f34 : Keep h0 h27 [o0_] := f33.wr W27 (Or.inl (List.mem_of_getElem? (i := 0) rfl))
  have f35 : Exa Z h27 o0_ cn0 := f26.wr W27
  have f36 : Fld Z h27 o0_ cn0 "latestTimestamp" "J" (.long (own_max (-9223372036854775808 : Int64) y0_)) := f16.other W27 (Or.inr (slot_ne (Or.inl (own_w hw 14 rfl)) (Or.inl (own_w hw 16 rfl)) (by decide) (t := .long) (t' := .long) (by decide) (by decide)))
  have f37 : Fld Z h14 o0_ cn0 "cells" "J" (.long (2 : Int64)) := f5.other W14 (Or.inr (slot_ne (Or.inl (own_w hw 25 rfl)) (Or.inl (own_w hw 14 rfl)) (by decide) (t := .long) (t' := .long) (by decide) (by decide)))
  have f38 : Fld Z h27 o0_ cn0 "cells" "J" (.long (2 : Int64)) := f37.other W27 (Or.inr (slot_ne (Or.inl (own_w hw 25 rfl)) (Or.inl (own_w hw 16 rfl)) (by decide) (t := .long) (t' := .long) (by decide) (by decide)))
  obtain ⟨fs, hr, hrun, hended, hW, hsame⟩ := X27.leave (v := none) (fun _ => rfl)
  refine ⟨_, _, hG _ (pre30 _ (X27.returnOut hx Bd.returns (hb hby d3_43) hr)), hrun, hended, _, _, rfl, ?_, ⟨_, rfl⟩, hW, hsame.mono (by decide) (by decide)⟩
  show Qadd16 Z o0_ o1_ y0_ y1_ h0 n0 _ T27.heap _
  rw [e27]
  exact ⟨rfl, N28, f34, f35, f36, f29, f38⟩
theorem efcells17 (m : MethodId) (o0_ : Addr) : entryFrame m #[(.ref o0_)] 1 = mkF m 0 #[lvR o0_] [] := by first | (simp [entryFrame, mkF, argsToLocals, Value.category]; done) | rfl
def Qcells17 (Z : State) (o0_ : Addr) (y0_ : Int64) (y1_ : Int64) (h0 : Heap) (n0 : Nat) (v : Option Value) (h : Heap) (L : List Loc) : Prop := v = some (.long (2 : Int64)) ∧ Fr n0 L ∧ h = h0
set_option maxRecDepth 65536 in
set_option maxHeartbeats 40000000 in
theorem rmcells17 (l : Launch) (Z : State) (a0 : Array Value) (hw : ∀ d ∈ tables_1, d.before a0 Z = true) (ws : List Jvm.Cond) (o0_ : Addr) (y0_ : Int64) (y1_ : Int64) (h0 : Heap) (n0 : Nat) (O0 : Old Z n0 h0) (P0 : Exa Z h0 o0_ cn0) (P1 : Fld Z h0 o0_ cn0 "latestTimestamp" "J" (.long y0_)) (P2 : Fld Z h0 o0_ cn0 "latestDeleteTimestamp" "J" (.long y1_)) (P3 : Fld Z h0 o0_ cn0 "cells" "J" (.long (2 : Int64))) :
    MetFree l (⟨"com/example/zenodotus/zenodotus/io/RowCodec$Tally", "cells", "()J"⟩ : MethodName) (head1 (Jvm.Cond.code (⟨"com/example/zenodotus/zenodotus/io/RowCodec$Tally", "cells", "()J"⟩ : MethodName) prog_38_method_4_code 1 (some .long) :: ws) ({ frames := 0, cells := 0, slots := 0, locals := 0 } : Room)) (fun a U => a = #[(.ref o0_)] ∧ Z.Warmed39 U.vm ∧ U.heap = h0) (fun _ _ _ _ _ => True) (fun _ U o U' => ∃ v L, o = .returned v ∧ Qcells17 Z o0_ y0_ y1_ h0 n0 v U'.heap L ∧ FrameEnd U o U' L ({ frames := 0, cells := 0, slots := 0, locals := 0 } : Room).cells ({ frames := 0, cells := 0, slots := 0, locals := 0 } : Room).slots) := by
  refine MetFree.of_bodySF (plainFor_of_name pn_0) hisR ?_
  intro p e s m args below meth c s₁ Bd hml0 hP hK
  obtain ⟨rfl, hZ, hh⟩ := hP
  have hx := Bd.exec
  have hby := Bd.bytes
  have hml : c.maxLocals = 1 := hml0
  have hown : s.vm.findClass "com/example/zenodotus/zenodotus/io/RowCodec$Tally" = some m.cls := findClass_of_methodNamed Bd.named
  have hnm := (name_of_methodNamed Bd.named Bd.method).1
  have X0 : Stand p l e ({ frames := 0, cells := 0, slots := 0, locals := 0 } : Room) s m #[(.ref o0_)] below meth c s₁ [] 0 0 := Stand.of_body Bd
  have e0 : s₁.heap = h0 := by rw [← hh, Bd.state]; rfl
  have N0 := Fr.nil n0
  obtain ⟨G, pre0, hG⟩ : ∃ G : State → Prop, (∀ t, own_S p e below m s₁ 0 #[lvR o0_] [] t → G t) ∧ (∀ t, G t → Steps p.tables e below (s₁.setTop (entryFrame m #[(.ref o0_)] 1)) t) := ⟨fun t => Steps p.tables e below (s₁.setTop (entryFrame m #[(.ref o0_)] 1)) t, fun t k => castTop (efcells17 m o0_) k, fun _ k => k⟩
  have K0 : Keep h0 h0 [] := Keep.refl _ _
  obtain ⟨T1, X1, e1, st1⟩ := getF X0 hx hZ hown (host := "") (Or.inl (own_w hw 24 rfl)) Via.refl e0 P3 (g := (mkF m 1 #[lvR o0_] [(.ref o0_)])) rfl rfl (hb hby d4_1)
  have pre2 : ∀ t, own_S p e below m T1 4 #[lvR o0_] [(.long (2 : Int64))] t → G t := by
    intro t kt
    refine pre0 t ?_
    show own_S p e below m s₁ 0 #[lvR o0_] [] _
    refine XS.aloadN X0.here hx rfl (hb hby d4_0) rfl rfl ?_
    show own_S p e below m s₁ 1 #[lvR o0_] [(.ref o0_)] _
    refine st1 _ ?_
    exact kt
  obtain ⟨fs, hr, hrun, hended, hW, hsame⟩ := X1.leave (v := some (.long (2 : Int64))) (fun h => by rw [Bd.returns] at h; cases h)
  refine ⟨_, _, hG _ (pre2 _ (retOut X1 hx Bd.returns rfl (Or.inr (Or.inl ⟨rfl, rfl, _, rfl⟩)) (hb hby d4_4) hr)), hrun, hended, _, _, rfl, ?_, ⟨_, rfl⟩, hW, hsame.mono (by decide) (by decide)⟩
  show Qcells17 Z o0_ y0_ y1_ h0 n0 _ T1.heap _
  rw [e1]
  exact ⟨rfl, N0, rfl⟩
theorem eflatestTimestamp18 (m : MethodId) (o0_ : Addr) : entryFrame m #[(.ref o0_)] 1 = mkF m 0 #[lvR o0_] [] := by first | (simp [entryFrame, mkF, argsToLocals, Value.category]; done) | rfl
def QlatestTimestamp18 (Z : State) (o0_ : Addr) (y0_ : Int64) (y1_ : Int64) (h0 : Heap) (n0 : Nat) (v : Option Value) (h : Heap) (L : List Loc) : Prop := v = some (.long y0_) ∧ Fr n0 L ∧ h = h0
set_option maxRecDepth 65536 in
set_option maxHeartbeats 40000000 in
theorem rmlatestTimestamp18 (l : Launch) (Z : State) (a0 : Array Value) (hw : ∀ d ∈ tables_1, d.before a0 Z = true) (ws : List Jvm.Cond) (o0_ : Addr) (y0_ : Int64) (y1_ : Int64) (h0 : Heap) (n0 : Nat) (O0 : Old Z n0 h0) (P0 : Exa Z h0 o0_ cn0) (P1 : Fld Z h0 o0_ cn0 "latestTimestamp" "J" (.long y0_)) (P2 : Fld Z h0 o0_ cn0 "latestDeleteTimestamp" "J" (.long y1_)) (P3 : Fld Z h0 o0_ cn0 "cells" "J" (.long (2 : Int64))) :
    MetFree l (⟨"com/example/zenodotus/zenodotus/io/RowCodec$Tally", "latestTimestamp", "()J"⟩ : MethodName) (head1 (Jvm.Cond.code (⟨"com/example/zenodotus/zenodotus/io/RowCodec$Tally", "latestTimestamp", "()J"⟩ : MethodName) prog_38_method_5_code 1 (some .long) :: ws) ({ frames := 0, cells := 0, slots := 0, locals := 0 } : Room)) (fun a U => a = #[(.ref o0_)] ∧ Z.Warmed39 U.vm ∧ U.heap = h0) (fun _ _ _ _ _ => True) (fun _ U o U' => ∃ v L, o = .returned v ∧ QlatestTimestamp18 Z o0_ y0_ y1_ h0 n0 v U'.heap L ∧ FrameEnd U o U' L ({ frames := 0, cells := 0, slots := 0, locals := 0 } : Room).cells ({ frames := 0, cells := 0, slots := 0, locals := 0 } : Room).slots) := by
  refine MetFree.of_bodySF (plainFor_of_name pn_0) hisR ?_
  intro p e s m args below meth c s₁ Bd hml0 hP hK
  obtain ⟨rfl, hZ, hh⟩ := hP
  have hx := Bd.exec
  have hby := Bd.bytes
  have hml : c.maxLocals = 1 := hml0
  have hown : s.vm.findClass "com/example/zenodotus/zenodotus/io/RowCodec$Tally" = some m.cls := findClass_of_methodNamed Bd.named
  have hnm := (name_of_methodNamed Bd.named Bd.method).1
  have X0 : Stand p l e ({ frames := 0, cells := 0, slots := 0, locals := 0 } : Room) s m #[(.ref o0_)] below meth c s₁ [] 0 0 := Stand.of_body Bd
  have e0 : s₁.heap = h0 := by rw [← hh, Bd.state]; rfl
  have N0 := Fr.nil n0
  obtain ⟨G, pre0, hG⟩ : ∃ G : State → Prop, (∀ t, own_S p e below m s₁ 0 #[lvR o0_] [] t → G t) ∧ (∀ t, G t → Steps p.tables e below (s₁.setTop (entryFrame m #[(.ref o0_)] 1)) t) := ⟨fun t => Steps p.tables e below (s₁.setTop (entryFrame m #[(.ref o0_)] 1)) t, fun t k => castTop (eflatestTimestamp18 m o0_) k, fun _ k => k⟩
  have K0 : Keep h0 h0 [] := Keep.refl _ _
  obtain ⟨T1, X1, e1, st1⟩ := getF X0 hx hZ hown (host := "") (Or.inl (own_w hw 13 rfl)) Via.refl e0 P1 (g := (mkF m 1 #[lvR o0_] [(.ref o0_)])) rfl rfl (hb hby d5_1)
  have pre2 : ∀ t, own_S p e below m T1 4 #[lvR o0_] [(.long y0_)] t → G t := by
    intro t kt
    refine pre0 t ?_
    show own_S p e below m s₁ 0 #[lvR o0_] [] _
    refine XS.aloadN X0.here hx rfl (hb hby d5_0) rfl rfl ?_
    show own_S p e below m s₁ 1 #[lvR o0_] [(.ref o0_)] _
    refine st1 _ ?_
    exact kt
  obtain ⟨fs, hr, hrun, hended, hW, hsame⟩ := X1.leave (v := some (.long y0_)) (fun h => by rw [Bd.returns] at h; cases h)
  refine ⟨_, _, hG _ (pre2 _ (retOut X1 hx Bd.returns rfl (Or.inr (Or.inl ⟨rfl, rfl, _, rfl⟩)) (hb hby d5_4) hr)), hrun, hended, _, _, rfl, ?_, ⟨_, rfl⟩, hW, hsame.mono (by decide) (by decide)⟩
  show QlatestTimestamp18 Z o0_ y0_ y1_ h0 n0 _ T1.heap _
  rw [e1]
  exact ⟨rfl, N0, rfl⟩
theorem eflatestDeleteTimestamp19 (m : MethodId) (o0_ : Addr) : entryFrame m #[(.ref o0_)] 1 = mkF m 0 #[lvR o0_] [] := by first | (simp [entryFrame, mkF, argsToLocals, Value.category]; done) | rfl
def QlatestDeleteTimestamp19 (Z : State) (o0_ : Addr) (y0_ : Int64) (y1_ : Int64) (h0 : Heap) (n0 : Nat) (v : Option Value) (h : Heap) (L : List Loc) : Prop := v = some (.long y1_) ∧ Fr n0 L ∧ h = h0
set_option maxRecDepth 65536 in
set_option maxHeartbeats 40000000 in
theorem rmlatestDeleteTimestamp19 (l : Launch) (Z : State) (a0 : Array Value) (hw : ∀ d ∈ tables_1, d.before a0 Z = true) (ws : List Jvm.Cond) (o0_ : Addr) (y0_ : Int64) (y1_ : Int64) (h0 : Heap) (n0 : Nat) (O0 : Old Z n0 h0) (P0 : Exa Z h0 o0_ cn0) (P1 : Fld Z h0 o0_ cn0 "latestTimestamp" "J" (.long y0_)) (P2 : Fld Z h0 o0_ cn0 "latestDeleteTimestamp" "J" (.long y1_)) (P3 : Fld Z h0 o0_ cn0 "cells" "J" (.long (2 : Int64))) :
    MetFree l (⟨"com/example/zenodotus/zenodotus/io/RowCodec$Tally", "latestDeleteTimestamp", "()J"⟩ : MethodName) (head1 (Jvm.Cond.code (⟨"com/example/zenodotus/zenodotus/io/RowCodec$Tally", "latestDeleteTimestamp", "()J"⟩ : MethodName) prog_38_method_6_code 1 (some .long) :: ws) ({ frames := 0, cells := 0, slots := 0, locals := 0 } : Room)) (fun a U => a = #[(.ref o0_)] ∧ Z.Warmed39 U.vm ∧ U.heap = h0) (fun _ _ _ _ _ => True) (fun _ U o U' => ∃ v L, o = .returned v ∧ QlatestDeleteTimestamp19 Z o0_ y0_ y1_ h0 n0 v U'.heap L ∧ FrameEnd U o U' L ({ frames := 0, cells := 0, slots := 0, locals := 0 } : Room).cells ({ frames := 0, cells := 0, slots := 0, locals := 0 } : Room).slots) := by
  refine MetFree.of_bodySF (plainFor_of_name pn_0) hisR ?_
  intro p e s m args below meth c s₁ Bd hml0 hP hK
  obtain ⟨rfl, hZ, hh⟩ := hP
  have hx := Bd.exec
  have hby := Bd.bytes
  have hml : c.maxLocals = 1 := hml0
  have hown : s.vm.findClass "com/example/zenodotus/zenodotus/io/RowCodec$Tally" = some m.cls := findClass_of_methodNamed Bd.named
  have hnm := (name_of_methodNamed Bd.named Bd.method).1
  have X0 : Stand p l e ({ frames := 0, cells := 0, slots := 0, locals := 0 } : Room) s m #[(.ref o0_)] below meth c s₁ [] 0 0 := Stand.of_body Bd
  have e0 : s₁.heap = h0 := by rw [← hh, Bd.state]; rfl
  have N0 := Fr.nil n0
  obtain ⟨G, pre0, hG⟩ : ∃ G : State → Prop, (∀ t, own_S p e below m s₁ 0 #[lvR o0_] [] t → G t) ∧ (∀ t, G t → Steps p.tables e below (s₁.setTop (entryFrame m #[(.ref o0_)] 1)) t) := ⟨fun t => Steps p.tables e below (s₁.setTop (entryFrame m #[(.ref o0_)] 1)) t, fun t k => castTop (eflatestDeleteTimestamp19 m o0_) k, fun _ k => k⟩
  have K0 : Keep h0 h0 [] := Keep.refl _ _
  obtain ⟨T1, X1, e1, st1⟩ := getF X0 hx hZ hown (host := "") (Or.inl (own_w hw 15 rfl)) Via.refl e0 P2 (g := (mkF m 1 #[lvR o0_] [(.ref o0_)])) rfl rfl (hb hby d7_1)
  have pre2 : ∀ t, own_S p e below m T1 4 #[lvR o0_] [(.long y1_)] t → G t := by
    intro t kt
    refine pre0 t ?_
    show own_S p e below m s₁ 0 #[lvR o0_] [] _
    refine XS.aloadN X0.here hx rfl (hb hby d7_0) rfl rfl ?_
    show own_S p e below m s₁ 1 #[lvR o0_] [(.ref o0_)] _
    refine st1 _ ?_
    exact kt
  obtain ⟨fs, hr, hrun, hended, hW, hsame⟩ := X1.leave (v := some (.long y1_)) (fun h => by rw [Bd.returns] at h; cases h)
  refine ⟨_, _, hG _ (pre2 _ (retOut X1 hx Bd.returns rfl (Or.inr (Or.inl ⟨rfl, rfl, _, rfl⟩)) (hb hby d7_4) hr)), hrun, hended, _, _, rfl, ?_, ⟨_, rfl⟩, hW, hsame.mono (by decide) (by decide)⟩
  show QlatestDeleteTimestamp19 Z o0_ y0_ y1_ h0 n0 _ T1.heap _
  rw [e1]
  exact ⟨rfl, N0, rfl⟩
theorem efadd20 (m : MethodId) (o0_ : Addr) (o1_ : Addr) : entryFrame m #[(.ref o0_), (.ref o1_)] 2 = mkF m 0 #[lvR o0_, lvR o1_] [] := by first | (simp [entryFrame, mkF, argsToLocals, Value.category]; done) | rfl
def Qadd20 (Z : State) (o0_ : Addr) (o1_ : Addr) (y0_ : Int64) (h0 : Heap) (n0 : Nat) (v : Option Value) (h : Heap) (L : List Loc) : Prop := v = none ∧ Fr n0 L ∧ Keep h0 h [o0_] ∧ Exa Z h o0_ cn0 ∧ Fld Z h o0_ cn0 "latestTimestamp" "J" (.long (own_max (-9223372036854775808 : Int64) (-9223372036854775808 : Int64))) ∧ Fld Z h o0_ cn0 "latestDeleteTimestamp" "J" (.long (own_max y0_ (-9223372036854775808 : Int64))) ∧ Fld Z h o0_ cn0 "cells" "J" (.long (1 : Int64))
set_option maxRecDepth 65536 in
set_option maxHeartbeats 40000000 in
theorem rmadd20 (l : Launch) (Z : State) (a0 : Array Value) (hw : ∀ d ∈ tables_1, d.before a0 Z = true) (ws : List Jvm.Cond) (o0_ : Addr) (o1_ : Addr) (y0_ : Int64) (h0 : Heap) (n0 : Nat) (O0 : Old Z n0 h0) (P0 : Exa Z h0 o0_ cn0) (P1 : Fld Z h0 o0_ cn0 "latestTimestamp" "J" (.long (-9223372036854775808 : Int64))) (P2 : Fld Z h0 o0_ cn0 "latestDeleteTimestamp" "J" (.long y0_)) (P3 : Fld Z h0 o0_ cn0 "cells" "J" (.long (1 : Int64))) (P4 : Exa Z h0 o1_ cn0) (P5 : Fld Z h0 o1_ cn0 "latestTimestamp" "J" (.long (-9223372036854775808 : Int64))) (P6 : Fld Z h0 o1_ cn0 "latestDeleteTimestamp" "J" (.long (-9223372036854775808 : Int64))) (P7 : Fld Z h0 o1_ cn0 "cells" "J" (.long (0 : Int64))) (P8 : n0 ≤ o0_) (P9 : o1_ ≠ o0_) :
    MetFree l (⟨"com/example/zenodotus/zenodotus/io/RowCodec$Tally", "add", "(Lcom/example/zenodotus/zenodotus/io/RowCodec$Tally;)V"⟩ : MethodName) (head1 (Jvm.Cond.code (⟨"com/example/zenodotus/zenodotus/io/RowCodec$Tally", "add", "(Lcom/example/zenodotus/zenodotus/io/RowCodec$Tally;)V"⟩ : MethodName) prog_38_method_3_code 2 none :: ws) ({ frames := 1, cells := 0, slots := 0, locals := 16 } : Room)) (fun a U => a = #[(.ref o0_), (.ref o1_)] ∧ Z.Warmed39 U.vm ∧ U.heap = h0) (fun _ _ _ _ _ => True) (fun _ U o U' => ∃ v L, o = .returned v ∧ Qadd20 Z o0_ o1_ y0_ h0 n0 v U'.heap L ∧ FrameEnd U o U' L ({ frames := 1, cells := 0, slots := 0, locals := 16 } : Room).cells ({ frames := 1, cells := 0, slots := 0, locals := 16 } : Room).slots) := by
  refine MetFree.of_bodySF (plainFor_of_name pn_0) hisR ?_
  intro p e s m args below meth c s₁ Bd hml0 hP hK
  obtain ⟨rfl, hZ, hh⟩ := hP
  have hx := Bd.exec
  have hby := Bd.bytes
  have hml : c.maxLocals = 2 := hml0
  have hown : s.vm.findClass "com/example/zenodotus/zenodotus/io/RowCodec$Tally" = some m.cls := findClass_of_methodNamed Bd.named
  have hnm := (name_of_methodNamed Bd.named Bd.method).1
  have X0 : Stand p l e ({ frames := 1, cells := 0, slots := 0, locals := 16 } : Room) s m #[(.ref o0_), (.ref o1_)] below meth c s₁ [] 0 0 := Stand.of_body Bd
  have e0 : s₁.heap = h0 := by rw [← hh, Bd.state]; rfl
  have N0 := Fr.nil n0
  obtain ⟨G, pre0, hG⟩ : ∃ G : State → Prop, (∀ t, own_S p e below m s₁ 0 #[lvR o0_, lvR o1_] [] t → G t) ∧ (∀ t, G t → Steps p.tables e below (s₁.setTop (entryFrame m #[(.ref o0_), (.ref o1_)] 2)) t) := ⟨fun t => Steps p.tables e below (s₁.setTop (entryFrame m #[(.ref o0_), (.ref o1_)] 2)) t, fun t k => castTop (efadd20 m o0_ o1_) k, fun _ k => k⟩
  have K0 : Keep h0 h0 [o0_] := Keep.refl _ _
  obtain ⟨T1, X1, e1, st1⟩ := getF X0 hx hZ hown (host := "") (Or.inl (own_w hw 24 rfl)) Via.refl e0 P3 (g := (mkF m 2 #[lvR o0_, lvR o1_] [(.ref o0_), (.ref o0_)])) rfl rfl (hb hby d3_2)
  obtain ⟨T2, X2, e2, st2⟩ := getF X1 hx hZ hown (host := "") (Or.inl (own_w hw 24 rfl)) Via.refl e1 P7 (g := (mkF m 6 #[lvR o0_, lvR o1_] [(.ref o1_), (.long (1 : Int64)), (.ref o0_)])) rfl rfl (hb hby d3_6)
  obtain ⟨T3, h3, X3, e3, W3, st3⟩ := putF X2 hx hZ hown (host := "") (Or.inl (own_w hw 24 rfl)) Via.refl e2 P3 P0 (Or.inl (own_w hw 25 rfl)) (own_w hw 4 rfl) (ty := .long) (by decide) rfl rfl (g := (mkF m 10 #[lvR o0_, lvR o1_] [(.long (1 : Int64)), (.ref o0_)])) rfl rfl (hb hby d3_10)
  have N4 := Fr.snoc X3 N0 P8
  have f5 : Fld Z h3 o0_ cn0 "cells" "J" (.long (1 : Int64)) := P3.same W3
  have f6 : Fld Z h3 o0_ cn0 "latestTimestamp" "J" (.long (-9223372036854775808 : Int64)) := P1.other W3 (Or.inr (slot_ne (Or.inl (own_w hw 14 rfl)) (Or.inl (own_w hw 25 rfl)) (by decide) (t := .long) (t' := .long) (by decide) (by decide)))
  obtain ⟨T7, X7, e7, st7⟩ := getF X3 hx hZ hown (host := "") (Or.inl (own_w hw 13 rfl)) Via.refl e3 f6 (g := (mkF m 15 #[lvR o0_, lvR o1_] [(.ref o0_), (.ref o0_)])) rfl rfl (hb hby d3_15)
  have f8 : Fld Z h3 o1_ cn0 "latestTimestamp" "J" (.long (-9223372036854775808 : Int64)) := P5.other W3 (Or.inl P9)
  obtain ⟨T9, X9, e9, st9⟩ := getF X7 hx hZ hown (host := "") (Or.inl (own_w hw 13 rfl)) Via.refl e7 f8 (g := (mkF m 19 #[lvR o0_, lvR o1_] [(.ref o1_), (.long (-9223372036854775808 : Int64)), (.ref o0_)])) rfl rfl (hb hby d3_19)
  have f11 : Old Z n0 h3 := O0.wr W3 P8
  obtain ⟨_, _, ⟨T10, L10, k10, n10⟩, -, X10, ⟨Lc10, hQ10, l10, y10, z10⟩, st10⟩ := Jvm.LawKit.callS X9 hx (y := (⟨"java/lang/Math", "max", "(JJ)J"⟩ : MethodName)) hown (mvT hZ (own_w hw 27 rfl)) (mvT hZ (own_w hw 28 rfl)) (mvT hZ (own_w hw 29 rfl)) (mvT hZ (own_w hw 30 rfl)) (by decide) (backOf (W := 1) (rmMax l Z a0 hw [] (-9223372036854775808 : Int64) (-9223372036854775808 : Int64) h3 n0 f11 ) hZ (own_w hw 30 rfl) (own_w hw 29 rfl) (by decide) (by decide)) (g := (mkF m 22 #[lvR o0_, lvR o1_] [(.long (-9223372036854775808 : Int64)), (.long (-9223372036854775808 : Int64)), (.ref o0_)])) rfl (by rw [hml]; rfl) (argsL := [(.long (-9223372036854775808 : Int64)), (.long (-9223372036854775808 : Int64))]) (rest := [(.ref o0_)]) (lenOf pd_1 rfl) rfl (by show 2 * 0 + _ ≤ _; exact Nat.le_of_eq rfl) (hb hby d3_22) (fun _ _ => ⟨rfl, e9, (by decide : 0 + 0 ≤ _), (by decide : 0 + 0 ≤ _)⟩)
  dsimp only [Pt.U, Pt.locs, Pt.cells, Pt.slots] at X10 l10 y10 z10 st10 hQ10
  subst l10 y10 z10
  obtain ⟨h10, e10⟩ : ∃ z, T10.heap = z := ⟨_, rfl⟩
  rw [e10] at hQ10
  obtain ⟨rfl, N10q, hh10⟩ := hQ10
  have N12 := Fr.app N4 N10q
  have e10' : T10.heap = h3 := e10.trans hh10
  have f13 : Exa Z h3 o0_ cn0 := P0.wr W3
  obtain ⟨T14, h14, X14, e14, W14, st14⟩ := putF X10 hx hZ hown (host := "") (Or.inl (own_w hw 13 rfl)) Via.refl e10' f6 f13 (Or.inl (own_w hw 14 rfl)) (own_w hw 4 rfl) (ty := .long) (by decide) rfl rfl (g := (mkF m 25 #[lvR o0_, lvR o1_] [(.long (own_max (-9223372036854775808 : Int64) (-9223372036854775808 : Int64))), (.ref o0_)])) rfl rfl (hb hby d3_25)
  have N15 := Fr.snoc X14 N12 P8
  have f16 : Fld Z h14 o0_ cn0 "latestTimestamp" "J" (.long (own_max (-9223372036854775808 : Int64) (-9223372036854775808 : Int64))) := f6.same W14
  have f17 : Fld Z h3 o0_ cn0 "latestDeleteTimestamp" "J" (.long y0_) := P2.other W3 (Or.inr (slot_ne (Or.inl (own_w hw 16 rfl)) (Or.inl (own_w hw 25 rfl)) (by decide) (t := .long) (t' := .long) (by decide) (by decide)))
  have f18 : Fld Z h14 o0_ cn0 "latestDeleteTimestamp" "J" (.long y0_) := f17.other W14 (Or.inr (slot_ne (Or.inl (own_w hw 16 rfl)) (Or.inl (own_w hw 14 rfl)) (by decide) (t := .long) (t' := .long) (by decide) (by decide)))
  obtain ⟨T19, X19, e19, st19⟩ := getF X14 hx hZ hown (host := "") (Or.inl (own_w hw 15 rfl)) Via.refl e14 f18 (g := (mkF m 30 #[lvR o0_, lvR o1_] [(.ref o0_), (.ref o0_)])) rfl rfl (hb hby d3_30)
  have f20 : Fld Z h3 o1_ cn0 "latestDeleteTimestamp" "J" (.long (-9223372036854775808 : Int64)) := P6.other W3 (Or.inl P9)
  have f21 : Fld Z h14 o1_ cn0 "latestDeleteTimestamp" "J" (.long (-9223372036854775808 : Int64)) := f20.other W14 (Or.inl P9)
  obtain ⟨T22, X22, e22, st22⟩ := getF X19 hx hZ hown (host := "") (Or.inl (own_w hw 15 rfl)) Via.refl e19 f21 (g := (mkF m 34 #[lvR o0_, lvR o1_] [(.ref o1_), (.long y0_), (.ref o0_)])) rfl rfl (hb hby d3_34)
  have f24 : Old Z n0 h14 := f11.wr W14 P8
  obtain ⟨_, _, ⟨T23, L23, k23, n23⟩, -, X23, ⟨Lc23, hQ23, l23, y23, z23⟩, st23⟩ := Jvm.LawKit.callS X22 hx (y := (⟨"java/lang/Math", "max", "(JJ)J"⟩ : MethodName)) hown (mvT hZ (own_w hw 27 rfl)) (mvT hZ (own_w hw 28 rfl)) (mvT hZ (own_w hw 29 rfl)) (mvT hZ (own_w hw 30 rfl)) (by decide) (backOf (W := 1) (rmMax l Z a0 hw [] y0_ (-9223372036854775808 : Int64) h14 n0 f24 ) hZ (own_w hw 30 rfl) (own_w hw 29 rfl) (by decide) (by decide)) (g := (mkF m 37 #[lvR o0_, lvR o1_] [(.long (-9223372036854775808 : Int64)), (.long y0_), (.ref o0_)])) rfl (by rw [hml]; rfl) (argsL := [(.long y0_), (.long (-9223372036854775808 : Int64))]) (rest := [(.ref o0_)]) (lenOf pd_1 rfl) rfl (by show 2 * 0 + _ ≤ _; exact Nat.le_of_eq rfl) (hb hby d3_37) (fun _ _ => ⟨rfl, e22, (by decide : 0 + 0 ≤ _), (by decide : 0 + 0 ≤ _)⟩)
  dsimp only [Pt.U, Pt.locs, Pt.cells, Pt.slots] at X23 l23 y23 z23 st23 hQ23
  subst l23 y23 z23
  obtain ⟨h23, e23⟩ : ∃ z, T23.heap = z := ⟨_, rfl⟩
  rw [e23] at hQ23
  obtain ⟨rfl, N23q, hh23⟩ := hQ23
  have N25 := Fr.app N15 N23q
  have e23' : T23.heap = h14 := e23.trans hh23
  have f26 : Exa Z h14 o0_ cn0 := f13.wr W14
  obtain ⟨T27, h27, X27, e27, W27, st27⟩ := putF X23 hx hZ hown (host := "") (Or.inl (own_w hw 15 rfl)) Via.refl e23' f18 f26 (Or.inl (own_w hw 16 rfl)) (own_w hw 4 rfl) (ty := .long) (by decide) rfl rfl (g := (mkF m 40 #[lvR o0_, lvR o1_] [(.long (own_max y0_ (-9223372036854775808 : Int64))), (.ref o0_)])) rfl rfl (hb hby d3_40)
  have N28 := Fr.snoc X27 N25 P8
  have f29 : Fld Z h27 o0_ cn0 "latestDeleteTimestamp" "J" (.long (own_max y0_ (-9223372036854775808 : Int64))) := f18.same W27
  have pre30 : ∀ t, own_S p e below m T27 43 #[lvR o0_, lvR o1_] [] t → G t := by
    intro t kt
    refine pre0 t ?_
    show own_S p e below m s₁ 0 #[lvR o0_, lvR o1_] [] _
    refine XS.aloadN X0.here hx rfl (hb hby d3_0) rfl rfl ?_
    refine XS.dup X0.here hx rfl (hb hby d3_1) rfl rfl ?_
    show own_S p e below m s₁ 2 #[lvR o0_, lvR o1_] [(.ref o0_), (.ref o0_)] _
    refine st1 _ ?_
    refine XS.aloadN X1.here hx rfl (hb hby d3_5) rfl rfl ?_
    show own_S p e below m T1 6 #[lvR o0_, lvR o1_] [(.ref o1_), (.long (1 : Int64)), (.ref o0_)] _
    refine st2 _ ?_
    refine XS.ladd X2.here hx rfl (hb hby d3_9) rfl ?_
    show own_S p e below m T2 10 #[lvR o0_, lvR o1_] [(.long (1 : Int64)), (.ref o0_)] _
    refine st3 _ ?_
    refine XS.aloadN X3.here hx rfl (hb hby d3_13) rfl rfl ?_
    refine XS.aloadN X3.here hx rfl (hb hby d3_14) rfl rfl ?_
    show own_S p e below m T3 15 #[lvR o0_, lvR o1_] [(.ref o0_), (.ref o0_)] _
    refine st7 _ ?_
    refine XS.aloadN X7.here hx rfl (hb hby d3_18) rfl rfl ?_
    show own_S p e below m T7 19 #[lvR o0_, lvR o1_] [(.ref o1_), (.long (-9223372036854775808 : Int64)), (.ref o0_)] _
    refine st9 _ ?_
    show own_S p e below m T9 22 #[lvR o0_, lvR o1_] [(.long (-9223372036854775808 : Int64)), (.long (-9223372036854775808 : Int64)), (.ref o0_)] _
    refine st10 _ ?_
    show own_S p e below m T10 25 #[lvR o0_, lvR o1_] [(.long (own_max (-9223372036854775808 : Int64) (-9223372036854775808 : Int64))), (.ref o0_)] _
    refine st14 _ ?_
    refine XS.aloadN X14.here hx rfl (hb hby d3_28) rfl rfl ?_
    refine XS.aloadN X14.here hx rfl (hb hby d3_29) rfl rfl ?_
    show own_S p e below m T14 30 #[lvR o0_, lvR o1_] [(.ref o0_), (.ref o0_)] _
    refine st19 _ ?_
    refine XS.aloadN X19.here hx rfl (hb hby d3_33) rfl rfl ?_
    show own_S p e below m T19 34 #[lvR o0_, lvR o1_] [(.ref o1_), (.long y0_), (.ref o0_)] _
    refine st22 _ ?_
    show own_S p e below m T22 37 #[lvR o0_, lvR o1_] [(.long (-9223372036854775808 : Int64)), (.long y0_), (.ref o0_)] _
    refine st23 _ ?_
    show own_S p e below m T23 40 #[lvR o0_, lvR o1_] [(.long (own_max y0_ (-9223372036854775808 : Int64))), (.ref o0_)] _
    refine st27 _ ?_
    exact kt
  have f32 : Keep h0 h3 [o0_] := K0.wr W3 (Or.inl (List.mem_of_getElem? (i := 0) rfl))
  have f33 : Keep h0 h14 [o0_] := f32.wr W14 (Or.inl (List.mem_of_getElem? (i := 0) rfl))
  have f34 : Keep h0 h27 [o0_] := f33.wr W27 (Or.inl (List.mem_of_getElem? (i := 0) rfl))
  have f35 : Exa Z h27 o0_ cn0 := f26.wr W27
  have f36 : Fld Z h27 o0_ cn0 "latestTimestamp" "J" (.long (own_max (-9223372036854775808 : Int64) (-9223372036854775808 : Int64))) := f16.other W27 (Or.inr (slot_ne (Or.inl (own_w hw 14 rfl)) (Or.inl (own_w hw 16 rfl)) (by decide) (t := .long) (t' := .long) (by decide) (by decide)))
  have f37 : Fld Z h14 o0_ cn0 "cells" "J" (.long (1 : Int64)) := f5.other W14 (Or.inr (slot_ne (Or.inl (own_w hw 25 rfl)) (Or.inl (own_w hw 14 rfl)) (by decide) (t := .long) (t' := .long) (by decide) (by decide)))
  have f38 : Fld Z h27 o0_ cn0 "cells" "J" (.long (1 : Int64)) := f37.other W27 (Or.inr (slot_ne (Or.inl (own_w hw 25 rfl)) (Or.inl (own_w hw 16 rfl)) (by decide) (t := .long) (t' := .long) (by decide) (by decide)))
  obtain ⟨fs, hr, hrun, hended, hW, hsame⟩ := X27.leave (v := none) (fun _ => rfl)
  refine ⟨_, _, hG _ (pre30 _ (X27.returnOut hx Bd.returns (hb hby d3_43) hr)), hrun, hended, _, _, rfl, ?_, ⟨_, rfl⟩, hW, hsame.mono (by decide) (by decide)⟩
  show Qadd20 Z o0_ o1_ y0_ h0 n0 _ T27.heap _
  rw [e27]
  exact ⟨rfl, N28, f34, f35, f36, f29, f38⟩
theorem d6_4 : decode method_2_code 4 = .ok (.iload_n 3, 1) := by decide +kernel
theorem d6_5 : decode method_2_code 5 = .ok (.ifCond .eq 17, 3) := by decide +kernel
theorem d6_26 : decode method_2_code 26 = .ok (.lload_n 1, 1) := by decide +kernel
theorem d6_27 : decode method_2_code 27 = .ok (.lreturn, 1) := by decide +kernel
theorem efexpect21 (m : MethodId) (y0_ : Int64) (y1_ : Int64) : entryFrame m #[(.int (1 : Int32)), (.long y0_), (.int (0 : Int32)), (.long y1_)] 6 = mkF m 0 #[lvI (1 : Int32), lvJ y0_, .second, lvI (0 : Int32), lvJ y1_, .second] [] := by first | (simp [entryFrame, mkF, argsToLocals, Value.category]; done) | rfl
def Qexpect21 (Z : State) (y0_ : Int64) (y1_ : Int64) (h0 : Heap) (n0 : Nat) (v : Option Value) (h : Heap) (L : List Loc) : Prop := v = some (.long y0_) ∧ Fr n0 L ∧ h = h0
set_option maxRecDepth 65536 in
set_option maxHeartbeats 40000000 in
theorem rmexpect21 (l : Launch) (Z : State) (a0 : Array Value) (hw : ∀ d ∈ tables_1, d.before a0 Z = true) (ws : List Jvm.Cond) (y0_ : Int64) (y1_ : Int64) (h0 : Heap) (n0 : Nat) (O0 : Old Z n0 h0)  :
    MetFree l (⟨"com/example/zenodotus/zenodotus/io/TallyAddPinLaw", "expect", "(ZJZJ)J"⟩ : MethodName) (head1 (Jvm.Cond.code (⟨"com/example/zenodotus/zenodotus/io/TallyAddPinLaw", "expect", "(ZJZJ)J"⟩ : MethodName) method_2_code 6 (some .long) :: ws) ({ frames := 0, cells := 0, slots := 0, locals := 0 } : Room)) (fun a U => a = #[(.int (1 : Int32)), (.long y0_), (.int (0 : Int32)), (.long y1_)] ∧ Z.Warmed39 U.vm ∧ U.heap = h0) (fun _ _ _ _ _ => True) (fun _ U o U' => ∃ v L, o = .returned v ∧ Qexpect21 Z y0_ y1_ h0 n0 v U'.heap L ∧ FrameEnd U o U' L ({ frames := 0, cells := 0, slots := 0, locals := 0 } : Room).cells ({ frames := 0, cells := 0, slots := 0, locals := 0 } : Room).slots) := by
  refine MetFree.of_bodySF (plainFor_of_name pn_1) hisR ?_
  intro p e s m args below meth c s₁ Bd hml0 hP hK
  obtain ⟨rfl, hZ, hh⟩ := hP
  have hx := Bd.exec
  have hby := Bd.bytes
  have hml : c.maxLocals = 6 := hml0
  have hown : s.vm.findClass "com/example/zenodotus/zenodotus/io/TallyAddPinLaw" = some m.cls := findClass_of_methodNamed Bd.named
  have hnm := (name_of_methodNamed Bd.named Bd.method).1
  have X0 : Stand p l e ({ frames := 0, cells := 0, slots := 0, locals := 0 } : Room) s m #[(.int (1 : Int32)), (.long y0_), (.int (0 : Int32)), (.long y1_)] below meth c s₁ [] 0 0 := Stand.of_body Bd
  have e0 : s₁.heap = h0 := by rw [← hh, Bd.state]; rfl
  have N0 := Fr.nil n0
  obtain ⟨G, pre0, hG⟩ : ∃ G : State → Prop, (∀ t, own_S p e below m s₁ 0 #[lvI (1 : Int32), lvJ y0_, .second, lvI (0 : Int32), lvJ y1_, .second] [] t → G t) ∧ (∀ t, G t → Steps p.tables e below (s₁.setTop (entryFrame m #[(.int (1 : Int32)), (.long y0_), (.int (0 : Int32)), (.long y1_)] 6)) t) := ⟨fun t => Steps p.tables e below (s₁.setTop (entryFrame m #[(.int (1 : Int32)), (.long y0_), (.int (0 : Int32)), (.long y1_)] 6)) t, fun t k => castTop (efexpect21 m y0_ y1_) k, fun _ k => k⟩
  have K0 : Keep h0 h0 [] := Keep.refl _ _
  have pre1 : ∀ t, own_S p e below m s₁ 27 #[lvI (1 : Int32), lvJ y0_, .second, lvI (0 : Int32), lvJ y1_, .second] [(.long y0_)] t → G t := by
    intro t kt
    refine pre0 t ?_
    show own_S p e below m s₁ 0 #[lvI (1 : Int32), lvJ y0_, .second, lvI (0 : Int32), lvJ y1_, .second] [] _
    refine XS.iloadN X0.here hx rfl (hb hby d6_0) rfl ?_
    show own_S p e below m s₁ 1 #[lvI (1 : Int32), lvJ y0_, .second, lvI (0 : Int32), lvJ y1_, .second] [(.int (1 : Int32))] _
    refine XS.ifNo X0.here hx rfl (hb hby d6_1) rfl ((if0 _ _).trans (feq (by decide : ¬ ((1 : Int32) = (0 : Int32)))).1) ?_
    refine XS.iloadN X0.here hx rfl (hb hby d6_4) rfl ?_
    show own_S p e below m s₁ 5 #[lvI (1 : Int32), lvJ y0_, .second, lvI (0 : Int32), lvJ y1_, .second] [(.int (0 : Int32))] _
    refine XS.ifYes X0.here hx rfl (pc0 := 5) (pc' := 22) rfl (hb hby d6_5) rfl ((if0 _ _).trans (teq (by decide : (0 : Int32) = (0 : Int32))).1) (by decide) (by decide) ?_
    refine XS.iloadN X0.here hx rfl (hb hby d6_22) rfl ?_
    show own_S p e below m s₁ 23 #[lvI (1 : Int32), lvJ y0_, .second, lvI (0 : Int32), lvJ y1_, .second] [(.int (1 : Int32))] _
    refine XS.ifNo X0.here hx rfl (hb hby d6_23) rfl ((if0 _ _).trans (feq (by decide : ¬ ((1 : Int32) = (0 : Int32)))).1) ?_
    refine XS.lloadN X0.here hx rfl (hb hby d6_26) rfl ?_
    exact kt
  obtain ⟨fs, hr, hrun, hended, hW, hsame⟩ := X0.leave (v := some (.long y0_)) (fun h => by rw [Bd.returns] at h; cases h)
  refine ⟨_, _, hG _ (pre1 _ (retOut X0 hx Bd.returns rfl (Or.inr (Or.inl ⟨rfl, rfl, _, rfl⟩)) (hb hby d6_27) hr)), hrun, hended, _, _, rfl, ?_, ⟨_, rfl⟩, hW, hsame.mono (by decide) (by decide)⟩
  show Qexpect21 Z y0_ y1_ h0 n0 _ s₁.heap _
  rw [e0]
  exact ⟨rfl, N0, rfl⟩
theorem efadd22 (m : MethodId) (o0_ : Addr) (o1_ : Addr) : entryFrame m #[(.ref o0_), (.ref o1_)] 2 = mkF m 0 #[lvR o0_, lvR o1_] [] := by first | (simp [entryFrame, mkF, argsToLocals, Value.category]; done) | rfl
def Qadd22 (Z : State) (o0_ : Addr) (o1_ : Addr) (y0_ : Int64) (y1_ : Int64) (h0 : Heap) (n0 : Nat) (v : Option Value) (h : Heap) (L : List Loc) : Prop := v = none ∧ Fr n0 L ∧ Keep h0 h [o0_] ∧ Exa Z h o0_ cn0 ∧ Fld Z h o0_ cn0 "latestTimestamp" "J" (.long (own_max (-9223372036854775808 : Int64) (-9223372036854775808 : Int64))) ∧ Fld Z h o0_ cn0 "latestDeleteTimestamp" "J" (.long (own_max y0_ y1_)) ∧ Fld Z h o0_ cn0 "cells" "J" (.long (2 : Int64))
set_option maxRecDepth 65536 in
set_option maxHeartbeats 40000000 in
theorem rmadd22 (l : Launch) (Z : State) (a0 : Array Value) (hw : ∀ d ∈ tables_1, d.before a0 Z = true) (ws : List Jvm.Cond) (o0_ : Addr) (o1_ : Addr) (y0_ : Int64) (y1_ : Int64) (h0 : Heap) (n0 : Nat) (O0 : Old Z n0 h0) (P0 : Exa Z h0 o0_ cn0) (P1 : Fld Z h0 o0_ cn0 "latestTimestamp" "J" (.long (-9223372036854775808 : Int64))) (P2 : Fld Z h0 o0_ cn0 "latestDeleteTimestamp" "J" (.long y0_)) (P3 : Fld Z h0 o0_ cn0 "cells" "J" (.long (1 : Int64))) (P4 : Exa Z h0 o1_ cn0) (P5 : Fld Z h0 o1_ cn0 "latestTimestamp" "J" (.long (-9223372036854775808 : Int64))) (P6 : Fld Z h0 o1_ cn0 "latestDeleteTimestamp" "J" (.long y1_)) (P7 : Fld Z h0 o1_ cn0 "cells" "J" (.long (1 : Int64))) (P8 : n0 ≤ o0_) (P9 : o1_ ≠ o0_) :
    MetFree l (⟨"com/example/zenodotus/zenodotus/io/RowCodec$Tally", "add", "(Lcom/example/zenodotus/zenodotus/io/RowCodec$Tally;)V"⟩ : MethodName) (head1 (Jvm.Cond.code (⟨"com/example/zenodotus/zenodotus/io/RowCodec$Tally", "add", "(Lcom/example/zenodotus/zenodotus/io/RowCodec$Tally;)V"⟩ : MethodName) prog_38_method_3_code 2 none :: ws) ({ frames := 1, cells := 0, slots := 0, locals := 16 } : Room)) (fun a U => a = #[(.ref o0_), (.ref o1_)] ∧ Z.Warmed39 U.vm ∧ U.heap = h0) (fun _ _ _ _ _ => True) (fun _ U o U' => ∃ v L, o = .returned v ∧ Qadd22 Z o0_ o1_ y0_ y1_ h0 n0 v U'.heap L ∧ FrameEnd U o U' L ({ frames := 1, cells := 0, slots := 0, locals := 16 } : Room).cells ({ frames := 1, cells := 0, slots := 0, locals := 16 } : Room).slots) := by
  refine MetFree.of_bodySF (plainFor_of_name pn_0) hisR ?_
  intro p e s m args below meth c s₁ Bd hml0 hP hK
  obtain ⟨rfl, hZ, hh⟩ := hP
  have hx := Bd.exec
  have hby := Bd.bytes
  have hml : c.maxLocals = 2 := hml0
  have hown : s.vm.findClass "com/example/zenodotus/zenodotus/io/RowCodec$Tally" = some m.cls := findClass_of_methodNamed Bd.named
  have hnm := (name_of_methodNamed Bd.named Bd.method).1
  have X0 : Stand p l e ({ frames := 1, cells := 0, slots := 0, locals := 16 } : Room) s m #[(.ref o0_), (.ref o1_)] below meth c s₁ [] 0 0 := Stand.of_body Bd
  have e0 : s₁.heap = h0 := by rw [← hh, Bd.state]; rfl
  have N0 := Fr.nil n0
  obtain ⟨G, pre0, hG⟩ : ∃ G : State → Prop, (∀ t, own_S p e below m s₁ 0 #[lvR o0_, lvR o1_] [] t → G t) ∧ (∀ t, G t → Steps p.tables e below (s₁.setTop (entryFrame m #[(.ref o0_), (.ref o1_)] 2)) t) := ⟨fun t => Steps p.tables e below (s₁.setTop (entryFrame m #[(.ref o0_), (.ref o1_)] 2)) t, fun t k => castTop (efadd22 m o0_ o1_) k, fun _ k => k⟩
  have K0 : Keep h0 h0 [o0_] := Keep.refl _ _
  obtain ⟨T1, X1, e1, st1⟩ := getF X0 hx hZ hown (host := "") (Or.inl (own_w hw 24 rfl)) Via.refl e0 P3 (g := (mkF m 2 #[lvR o0_, lvR o1_] [(.ref o0_), (.ref o0_)])) rfl rfl (hb hby d3_2)
  obtain ⟨T2, X2, e2, st2⟩ := getF X1 hx hZ hown (host := "") (Or.inl (own_w hw 24 rfl)) Via.refl e1 P7 (g := (mkF m 6 #[lvR o0_, lvR o1_] [(.ref o1_), (.long (1 : Int64)), (.ref o0_)])) rfl rfl (hb hby d3_6)
  obtain ⟨T3, h3, X3, e3, W3, st3⟩ := putF X2 hx hZ hown (host := "") (Or.inl (own_w hw 24 rfl)) Via.refl e2 P3 P0 (Or.inl (own_w hw 25 rfl)) (own_w hw 4 rfl) (ty := .long) (by decide) rfl rfl (g := (mkF m 10 #[lvR o0_, lvR o1_] [(.long (2 : Int64)), (.ref o0_)])) rfl rfl (hb hby d3_10)
  have N4 := Fr.snoc X3 N0 P8
  have f5 : Fld Z h3 o0_ cn0 "cells" "J" (.long (2 : Int64)) := P3.same W3
  have f6 : Fld Z h3 o0_ cn0 "latestTimestamp" "J" (.long (-9223372036854775808 : Int64)) := P1.other W3 (Or.inr (slot_ne (Or.inl (own_w hw 14 rfl)) (Or.inl (own_w hw 25 rfl)) (by decide) (t := .long) (t' := .long) (by decide) (by decide)))
  obtain ⟨T7, X7, e7, st7⟩ := getF X3 hx hZ hown (host := "") (Or.inl (own_w hw 13 rfl)) Via.refl e3 f6 (g := (mkF m 15 #[lvR o0_, lvR o1_] [(.ref o0_), (.ref o0_)])) rfl rfl (hb hby d3_15)
  have f8 : Fld Z h3 o1_ cn0 "latestTimestamp" "J" (.long (-9223372036854775808 : Int64)) := P5.other W3 (Or.inl P9)
  obtain ⟨T9, X9, e9, st9⟩ := getF X7 hx hZ hown (host := "") (Or.inl (own_w hw 13 rfl)) Via.refl e7 f8 (g := (mkF m 19 #[lvR o0_, lvR o1_] [(.ref o1_), (.long (-9223372036854775808 : Int64)), (.ref o0_)])) rfl rfl (hb hby d3_19)
  have f11 : Old Z n0 h3 := O0.wr W3 P8
  obtain ⟨_, _, ⟨T10, L10, k10, n10⟩, -, X10, ⟨Lc10, hQ10, l10, y10, z10⟩, st10⟩ := Jvm.LawKit.callS X9 hx (y := (⟨"java/lang/Math", "max", "(JJ)J"⟩ : MethodName)) hown (mvT hZ (own_w hw 27 rfl)) (mvT hZ (own_w hw 28 rfl)) (mvT hZ (own_w hw 29 rfl)) (mvT hZ (own_w hw 30 rfl)) (by decide) (backOf (W := 1) (rmMax l Z a0 hw [] (-9223372036854775808 : Int64) (-9223372036854775808 : Int64) h3 n0 f11 ) hZ (own_w hw 30 rfl) (own_w hw 29 rfl) (by decide) (by decide)) (g := (mkF m 22 #[lvR o0_, lvR o1_] [(.long (-9223372036854775808 : Int64)), (.long (-9223372036854775808 : Int64)), (.ref o0_)])) rfl (by rw [hml]; rfl) (argsL := [(.long (-9223372036854775808 : Int64)), (.long (-9223372036854775808 : Int64))]) (rest := [(.ref o0_)]) (lenOf pd_1 rfl) rfl (by show 2 * 0 + _ ≤ _; exact Nat.le_of_eq rfl) (hb hby d3_22) (fun _ _ => ⟨rfl, e9, (by decide : 0 + 0 ≤ _), (by decide : 0 + 0 ≤ _)⟩)
  dsimp only [Pt.U, Pt.locs, Pt.cells, Pt.slots] at X10 l10 y10 z10 st10 hQ10
  subst l10 y10 z10
  obtain ⟨h10, e10⟩ : ∃ z, T10.heap = z := ⟨_, rfl⟩
  rw [e10] at hQ10
  obtain ⟨rfl, N10q, hh10⟩ := hQ10
  have N12 := Fr.app N4 N10q
  have e10' : T10.heap = h3 := e10.trans hh10
  have f13 : Exa Z h3 o0_ cn0 := P0.wr W3
  obtain ⟨T14, h14, X14, e14, W14, st14⟩ := putF X10 hx hZ hown (host := "") (Or.inl (own_w hw 13 rfl)) Via.refl e10' f6 f13 (Or.inl (own_w hw 14 rfl)) (own_w hw 4 rfl) (ty := .long) (by decide) rfl rfl (g := (mkF m 25 #[lvR o0_, lvR o1_] [(.long (own_max (-9223372036854775808 : Int64) (-9223372036854775808 : Int64))), (.ref o0_)])) rfl rfl (hb hby d3_25)
  have N15 := Fr.snoc X14 N12 P8
  have f16 : Fld Z h14 o0_ cn0 "latestTimestamp" "J" (.long (own_max (-9223372036854775808 : Int64) (-9223372036854775808 : Int64))) := f6.same W14
  have f17 : Fld Z h3 o0_ cn0 "latestDeleteTimestamp" "J" (.long y0_) := P2.other W3 (Or.inr (slot_ne (Or.inl (own_w hw 16 rfl)) (Or.inl (own_w hw 25 rfl)) (by decide) (t := .long) (t' := .long) (by decide) (by decide)))
  have f18 : Fld Z h14 o0_ cn0 "latestDeleteTimestamp" "J" (.long y0_) := f17.other W14 (Or.inr (slot_ne (Or.inl (own_w hw 16 rfl)) (Or.inl (own_w hw 14 rfl)) (by decide) (t := .long) (t' := .long) (by decide) (by decide)))
  obtain ⟨T19, X19, e19, st19⟩ := getF X14 hx hZ hown (host := "") (Or.inl (own_w hw 15 rfl)) Via.refl e14 f18 (g := (mkF m 30 #[lvR o0_, lvR o1_] [(.ref o0_), (.ref o0_)])) rfl rfl (hb hby d3_30)
  have f20 : Fld Z h3 o1_ cn0 "latestDeleteTimestamp" "J" (.long y1_) := P6.other W3 (Or.inl P9)
  have f21 : Fld Z h14 o1_ cn0 "latestDeleteTimestamp" "J" (.long y1_) := f20.other W14 (Or.inl P9)
  obtain ⟨T22, X22, e22, st22⟩ := getF X19 hx hZ hown (host := "") (Or.inl (own_w hw 15 rfl)) Via.refl e19 f21 (g := (mkF m 34 #[lvR o0_, lvR o1_] [(.ref o1_), (.long y0_), (.ref o0_)])) rfl rfl (hb hby d3_34)
  have f24 : Old Z n0 h14 := f11.wr W14 P8
  obtain ⟨_, _, ⟨T23, L23, k23, n23⟩, -, X23, ⟨Lc23, hQ23, l23, y23, z23⟩, st23⟩ := Jvm.LawKit.callS X22 hx (y := (⟨"java/lang/Math", "max", "(JJ)J"⟩ : MethodName)) hown (mvT hZ (own_w hw 27 rfl)) (mvT hZ (own_w hw 28 rfl)) (mvT hZ (own_w hw 29 rfl)) (mvT hZ (own_w hw 30 rfl)) (by decide) (backOf (W := 1) (rmMax l Z a0 hw [] y0_ y1_ h14 n0 f24 ) hZ (own_w hw 30 rfl) (own_w hw 29 rfl) (by decide) (by decide)) (g := (mkF m 37 #[lvR o0_, lvR o1_] [(.long y1_), (.long y0_), (.ref o0_)])) rfl (by rw [hml]; rfl) (argsL := [(.long y0_), (.long y1_)]) (rest := [(.ref o0_)]) (lenOf pd_1 rfl) rfl (by show 2 * 0 + _ ≤ _; exact Nat.le_of_eq rfl) (hb hby d3_37) (fun _ _ => ⟨rfl, e22, (by decide : 0 + 0 ≤ _), (by decide : 0 + 0 ≤ _)⟩)
  dsimp only [Pt.U, Pt.locs, Pt.cells, Pt.slots] at X23 l23 y23 z23 st23 hQ23
  subst l23 y23 z23
  obtain ⟨h23, e23⟩ : ∃ z, T23.heap = z := ⟨_, rfl⟩
  rw [e23] at hQ23
  obtain ⟨rfl, N23q, hh23⟩ := hQ23
  have N25 := Fr.app N15 N23q
  have e23' : T23.heap = h14 := e23.trans hh23
  have f26 : Exa Z h14 o0_ cn0 := f13.wr W14
  obtain ⟨T27, h27, X27, e27, W27, st27⟩ := putF X23 hx hZ hown (host := "") (Or.inl (own_w hw 15 rfl)) Via.refl e23' f18 f26 (Or.inl (own_w hw 16 rfl)) (own_w hw 4 rfl) (ty := .long) (by decide) rfl rfl (g := (mkF m 40 #[lvR o0_, lvR o1_] [(.long (own_max y0_ y1_)), (.ref o0_)])) rfl rfl (hb hby d3_40)
  have N28 := Fr.snoc X27 N25 P8
  have f29 : Fld Z h27 o0_ cn0 "latestDeleteTimestamp" "J" (.long (own_max y0_ y1_)) := f18.same W27
  have pre30 : ∀ t, own_S p e below m T27 43 #[lvR o0_, lvR o1_] [] t → G t := by
    intro t kt
    refine pre0 t ?_
    show own_S p e below m s₁ 0 #[lvR o0_, lvR o1_] [] _
    refine XS.aloadN X0.here hx rfl (hb hby d3_0) rfl rfl ?_
    refine XS.dup X0.here hx rfl (hb hby d3_1) rfl rfl ?_
    show own_S p e below m s₁ 2 #[lvR o0_, lvR o1_] [(.ref o0_), (.ref o0_)] _
    refine st1 _ ?_
    refine XS.aloadN X1.here hx rfl (hb hby d3_5) rfl rfl ?_
    show own_S p e below m T1 6 #[lvR o0_, lvR o1_] [(.ref o1_), (.long (1 : Int64)), (.ref o0_)] _
    refine st2 _ ?_
    refine XS.ladd X2.here hx rfl (hb hby d3_9) rfl ?_
    show own_S p e below m T2 10 #[lvR o0_, lvR o1_] [(.long (2 : Int64)), (.ref o0_)] _
    refine st3 _ ?_
    refine XS.aloadN X3.here hx rfl (hb hby d3_13) rfl rfl ?_
    refine XS.aloadN X3.here hx rfl (hb hby d3_14) rfl rfl ?_
    show own_S p e below m T3 15 #[lvR o0_, lvR o1_] [(.ref o0_), (.ref o0_)] _
    refine st7 _ ?_
    refine XS.aloadN X7.here hx rfl (hb hby d3_18) rfl rfl ?_
    show own_S p e below m T7 19 #[lvR o0_, lvR o1_] [(.ref o1_), (.long (-9223372036854775808 : Int64)), (.ref o0_)] _
    refine st9 _ ?_
    show own_S p e below m T9 22 #[lvR o0_, lvR o1_] [(.long (-9223372036854775808 : Int64)), (.long (-9223372036854775808 : Int64)), (.ref o0_)] _
    refine st10 _ ?_
    show own_S p e below m T10 25 #[lvR o0_, lvR o1_] [(.long (own_max (-9223372036854775808 : Int64) (-9223372036854775808 : Int64))), (.ref o0_)] _
    refine st14 _ ?_
    refine XS.aloadN X14.here hx rfl (hb hby d3_28) rfl rfl ?_
    refine XS.aloadN X14.here hx rfl (hb hby d3_29) rfl rfl ?_
    show own_S p e below m T14 30 #[lvR o0_, lvR o1_] [(.ref o0_), (.ref o0_)] _
    refine st19 _ ?_
    refine XS.aloadN X19.here hx rfl (hb hby d3_33) rfl rfl ?_
    show own_S p e below m T19 34 #[lvR o0_, lvR o1_] [(.ref o1_), (.long y0_), (.ref o0_)] _
    refine st22 _ ?_
    show own_S p e below m T22 37 #[lvR o0_, lvR o1_] [(.long y1_), (.long y0_), (.ref o0_)] _
    refine st23 _ ?_
    show own_S p e below m T23 40 #[lvR o0_, lvR o1_] [(.long (own_max y0_ y1_)), (.ref o0_)] _
    refine st27 _ ?_
    exact kt
  have f32 : Keep h0 h3 [o0_] := K0.wr W3 (Or.inl (List.mem_of_getElem? (i := 0) rfl))
  have f33 : Keep h0 h14 [o0_] := f32.wr W14 (Or.inl (List.mem_of_getElem? (i := 0) rfl))
  have f34 : Keep h0 h27 [o0_] := f33.wr W27 (Or.inl (List.mem_of_getElem? (i := 0) rfl))
  have f35 : Exa Z h27 o0_ cn0 := f26.wr W27
  have f36 : Fld Z h27 o0_ cn0 "latestTimestamp" "J" (.long (own_max (-9223372036854775808 : Int64) (-9223372036854775808 : Int64))) := f16.other W27 (Or.inr (slot_ne (Or.inl (own_w hw 14 rfl)) (Or.inl (own_w hw 16 rfl)) (by decide) (t := .long) (t' := .long) (by decide) (by decide)))
  have f37 : Fld Z h14 o0_ cn0 "cells" "J" (.long (2 : Int64)) := f5.other W14 (Or.inr (slot_ne (Or.inl (own_w hw 25 rfl)) (Or.inl (own_w hw 14 rfl)) (by decide) (t := .long) (t' := .long) (by decide) (by decide)))
  have f38 : Fld Z h27 o0_ cn0 "cells" "J" (.long (2 : Int64)) := f37.other W27 (Or.inr (slot_ne (Or.inl (own_w hw 25 rfl)) (Or.inl (own_w hw 16 rfl)) (by decide) (t := .long) (t' := .long) (by decide) (by decide)))
  obtain ⟨fs, hr, hrun, hended, hW, hsame⟩ := X27.leave (v := none) (fun _ => rfl)
  refine ⟨_, _, hG _ (pre30 _ (X27.returnOut hx Bd.returns (hb hby d3_43) hr)), hrun, hended, _, _, rfl, ?_, ⟨_, rfl⟩, hW, hsame.mono (by decide) (by decide)⟩
  show Qadd22 Z o0_ o1_ y0_ y1_ h0 n0 _ T27.heap _
  rw [e27]
  exact ⟨rfl, N28, f34, f35, f36, f29, f38⟩
theorem d6_8 : decode method_2_code 8 = .ok (.lload_n 1, 1) := by decide +kernel
theorem d6_9 : decode method_2_code 9 = .ok (.lload 4, 2) := by decide +kernel
theorem d6_11 : decode method_2_code 11 = .ok (.lcmp, 1) := by decide +kernel
theorem d6_12 : decode method_2_code 12 = .ok (.ifCond .le 7, 3) := by decide +kernel
theorem d6_15 : decode method_2_code 15 = .ok (.lload_n 1, 1) := by decide +kernel
theorem d6_16 : decode method_2_code 16 = .ok (.goto 5, 3) := by decide +kernel
theorem d6_21 : decode method_2_code 21 = .ok (.lreturn, 1) := by decide +kernel
theorem d6_19 : decode method_2_code 19 = .ok (.lload 4, 2) := by decide +kernel
theorem efexpect23 (m : MethodId) (y0_ : Int64) (y1_ : Int64) : entryFrame m #[(.int (1 : Int32)), (.long y0_), (.int (1 : Int32)), (.long y1_)] 6 = mkF m 0 #[lvI (1 : Int32), lvJ y0_, .second, lvI (1 : Int32), lvJ y1_, .second] [] := by first | (simp [entryFrame, mkF, argsToLocals, Value.category]; done) | rfl
def Qexpect23 (Z : State) (y0_ : Int64) (y1_ : Int64) (h0 : Heap) (n0 : Nat) (v : Option Value) (h : Heap) (L : List Loc) : Prop := ∃ r_ : Int64, v = some (.long r_) ∧ ((y0_ = r_ ∧ (y1_ < y0_)) ∨ (y1_ = r_ ∧ (¬ (y1_ < y0_)))) ∧ Fr n0 L ∧ h = h0
set_option maxRecDepth 65536 in
set_option maxHeartbeats 40000000 in
theorem rmexpect23 (l : Launch) (Z : State) (a0 : Array Value) (hw : ∀ d ∈ tables_1, d.before a0 Z = true) (ws : List Jvm.Cond) (y0_ : Int64) (y1_ : Int64) (h0 : Heap) (n0 : Nat) (O0 : Old Z n0 h0)  :
    MetFree l (⟨"com/example/zenodotus/zenodotus/io/TallyAddPinLaw", "expect", "(ZJZJ)J"⟩ : MethodName) (head1 (Jvm.Cond.code (⟨"com/example/zenodotus/zenodotus/io/TallyAddPinLaw", "expect", "(ZJZJ)J"⟩ : MethodName) method_2_code 6 (some .long) :: ws) ({ frames := 0, cells := 0, slots := 0, locals := 0 } : Room)) (fun a U => a = #[(.int (1 : Int32)), (.long y0_), (.int (1 : Int32)), (.long y1_)] ∧ Z.Warmed39 U.vm ∧ U.heap = h0) (fun _ _ _ _ _ => True) (fun _ U o U' => ∃ v L, o = .returned v ∧ Qexpect23 Z y0_ y1_ h0 n0 v U'.heap L ∧ FrameEnd U o U' L ({ frames := 0, cells := 0, slots := 0, locals := 0 } : Room).cells ({ frames := 0, cells := 0, slots := 0, locals := 0 } : Room).slots) := by
  refine MetFree.of_bodySF (plainFor_of_name pn_1) hisR ?_
  intro p e s m args below meth c s₁ Bd hml0 hP hK
  obtain ⟨rfl, hZ, hh⟩ := hP
  have hx := Bd.exec
  have hby := Bd.bytes
  have hml : c.maxLocals = 6 := hml0
  have hown : s.vm.findClass "com/example/zenodotus/zenodotus/io/TallyAddPinLaw" = some m.cls := findClass_of_methodNamed Bd.named
  have hnm := (name_of_methodNamed Bd.named Bd.method).1
  have X0 : Stand p l e ({ frames := 0, cells := 0, slots := 0, locals := 0 } : Room) s m #[(.int (1 : Int32)), (.long y0_), (.int (1 : Int32)), (.long y1_)] below meth c s₁ [] 0 0 := Stand.of_body Bd
  have e0 : s₁.heap = h0 := by rw [← hh, Bd.state]; rfl
  have N0 := Fr.nil n0
  obtain ⟨G, pre0, hG⟩ : ∃ G : State → Prop, (∀ t, own_S p e below m s₁ 0 #[lvI (1 : Int32), lvJ y0_, .second, lvI (1 : Int32), lvJ y1_, .second] [] t → G t) ∧ (∀ t, G t → Steps p.tables e below (s₁.setTop (entryFrame m #[(.int (1 : Int32)), (.long y0_), (.int (1 : Int32)), (.long y1_)] 6)) t) := ⟨fun t => Steps p.tables e below (s₁.setTop (entryFrame m #[(.int (1 : Int32)), (.long y0_), (.int (1 : Int32)), (.long y1_)] 6)) t, fun t k => castTop (efexpect23 m y0_ y1_) k, fun _ k => k⟩
  have K0 : Keep h0 h0 [] := Keep.refl _ _
  have pre1 : ∀ t, own_S p e below m s₁ 12 #[lvI (1 : Int32), lvJ y0_, .second, lvI (1 : Int32), lvJ y1_, .second] [(.int (lcmpW y0_ y1_))] t → G t := by
    intro t kt
    refine pre0 t ?_
    show own_S p e below m s₁ 0 #[lvI (1 : Int32), lvJ y0_, .second, lvI (1 : Int32), lvJ y1_, .second] [] _
    refine XS.iloadN X0.here hx rfl (hb hby d6_0) rfl ?_
    show own_S p e below m s₁ 1 #[lvI (1 : Int32), lvJ y0_, .second, lvI (1 : Int32), lvJ y1_, .second] [(.int (1 : Int32))] _
    refine XS.ifNo X0.here hx rfl (hb hby d6_1) rfl ((if0 _ _).trans (feq (by decide : ¬ ((1 : Int32) = (0 : Int32)))).1) ?_
    refine XS.iloadN X0.here hx rfl (hb hby d6_4) rfl ?_
    show own_S p e below m s₁ 5 #[lvI (1 : Int32), lvJ y0_, .second, lvI (1 : Int32), lvJ y1_, .second] [(.int (1 : Int32))] _
    refine XS.ifNo X0.here hx rfl (hb hby d6_5) rfl ((if0 _ _).trans (feq (by decide : ¬ ((1 : Int32) = (0 : Int32)))).1) ?_
    refine XS.lloadN X0.here hx rfl (hb hby d6_8) rfl ?_
    refine XS.lload X0.here hx rfl (hb hby d6_9) rfl ?_
    refine XS.lcmp X0.here hx rfl (hb hby d6_11) rfl ?_
    exact kt
  by_cases hc2 : y1_ < y0_
  · have pre3 : ∀ t, own_S p e below m s₁ 21 #[lvI (1 : Int32), lvJ y0_, .second, lvI (1 : Int32), lvJ y1_, .second] [(.long y0_)] t → G t := by
      intro t kt
      refine pre1 t ?_
      show own_S p e below m s₁ 12 #[lvI (1 : Int32), lvJ y0_, .second, lvI (1 : Int32), lvJ y1_, .second] [(.int (lcmpW y0_ y1_))] _
      refine XS.ifNo X0.here hx rfl (hb hby d6_12) rfl ((if0 _ _).trans (tlt ((lw_gt _ _).mpr hc2)).2.2.2) ?_
      refine XS.lloadN X0.here hx rfl (hb hby d6_15) rfl ?_
      refine XS.goto X0.here hx rfl (pc0 := 16) (pc' := 21) rfl (hb hby d6_16) (by decide) (by decide) ?_
      exact kt
    obtain ⟨fs, hr, hrun, hended, hW, hsame⟩ := X0.leave (v := some (.long y0_)) (fun h => by rw [Bd.returns] at h; cases h)
    refine ⟨_, _, hG _ (pre3 _ (retOut X0 hx Bd.returns rfl (Or.inr (Or.inl ⟨rfl, rfl, _, rfl⟩)) (hb hby d6_21) hr)), hrun, hended, _, _, rfl, ?_, ⟨_, rfl⟩, hW, hsame.mono (by decide) (by decide)⟩
    show Qexpect23 Z y0_ y1_ h0 n0 _ s₁.heap _
    rw [e0]
    exact ⟨y0_, rfl, (Or.inl ⟨rfl, hc2⟩), N0, rfl⟩
  · have pre5 : ∀ t, own_S p e below m s₁ 21 #[lvI (1 : Int32), lvJ y0_, .second, lvI (1 : Int32), lvJ y1_, .second] [(.long y1_)] t → G t := by
      intro t kt
      refine pre1 t ?_
      show own_S p e below m s₁ 12 #[lvI (1 : Int32), lvJ y0_, .second, lvI (1 : Int32), lvJ y1_, .second] [(.int (lcmpW y0_ y1_))] _
      refine XS.ifYes X0.here hx rfl (pc0 := 12) (pc' := 19) rfl (hb hby d6_12) rfl ((if0 _ _).trans (flt (fun z => hc2 ((lw_gt _ _).mp z))).2.2.2) (by decide) (by decide) ?_
      refine XS.lload X0.here hx rfl (hb hby d6_19) rfl ?_
      exact kt
    obtain ⟨fs, hr, hrun, hended, hW, hsame⟩ := X0.leave (v := some (.long y1_)) (fun h => by rw [Bd.returns] at h; cases h)
    refine ⟨_, _, hG _ (pre5 _ (retOut X0 hx Bd.returns rfl (Or.inr (Or.inl ⟨rfl, rfl, _, rfl⟩)) (hb hby d6_21) hr)), hrun, hended, _, _, rfl, ?_, ⟨_, rfl⟩, hW, hsame.mono (by decide) (by decide)⟩
    show Qexpect23 Z y0_ y1_ h0 n0 _ s₁.heap _
    rw [e0]
    exact ⟨y1_, rfl, (Or.inr ⟨rfl, hc2⟩), N0, rfl⟩
theorem efadd24 (m : MethodId) (o0_ : Addr) (o1_ : Addr) : entryFrame m #[(.ref o0_), (.ref o1_)] 2 = mkF m 0 #[lvR o0_, lvR o1_] [] := by first | (simp [entryFrame, mkF, argsToLocals, Value.category]; done) | rfl
def Qadd24 (Z : State) (o0_ : Addr) (o1_ : Addr) (y0_ : Int64) (y1_ : Int64) (h0 : Heap) (n0 : Nat) (v : Option Value) (h : Heap) (L : List Loc) : Prop := v = none ∧ Fr n0 L ∧ Keep h0 h [o0_] ∧ Exa Z h o0_ cn0 ∧ Fld Z h o0_ cn0 "latestTimestamp" "J" (.long (own_max (-9223372036854775808 : Int64) y1_)) ∧ Fld Z h o0_ cn0 "latestDeleteTimestamp" "J" (.long (own_max y0_ (-9223372036854775808 : Int64))) ∧ Fld Z h o0_ cn0 "cells" "J" (.long (2 : Int64))
set_option maxRecDepth 65536 in
set_option maxHeartbeats 40000000 in
theorem rmadd24 (l : Launch) (Z : State) (a0 : Array Value) (hw : ∀ d ∈ tables_1, d.before a0 Z = true) (ws : List Jvm.Cond) (o0_ : Addr) (o1_ : Addr) (y0_ : Int64) (y1_ : Int64) (h0 : Heap) (n0 : Nat) (O0 : Old Z n0 h0) (P0 : Exa Z h0 o0_ cn0) (P1 : Fld Z h0 o0_ cn0 "latestTimestamp" "J" (.long (-9223372036854775808 : Int64))) (P2 : Fld Z h0 o0_ cn0 "latestDeleteTimestamp" "J" (.long y0_)) (P3 : Fld Z h0 o0_ cn0 "cells" "J" (.long (1 : Int64))) (P4 : Exa Z h0 o1_ cn0) (P5 : Fld Z h0 o1_ cn0 "latestTimestamp" "J" (.long y1_)) (P6 : Fld Z h0 o1_ cn0 "latestDeleteTimestamp" "J" (.long (-9223372036854775808 : Int64))) (P7 : Fld Z h0 o1_ cn0 "cells" "J" (.long (1 : Int64))) (P8 : n0 ≤ o0_) (P9 : o1_ ≠ o0_) :
    MetFree l (⟨"com/example/zenodotus/zenodotus/io/RowCodec$Tally", "add", "(Lcom/example/zenodotus/zenodotus/io/RowCodec$Tally;)V"⟩ : MethodName) (head1 (Jvm.Cond.code (⟨"com/example/zenodotus/zenodotus/io/RowCodec$Tally", "add", "(Lcom/example/zenodotus/zenodotus/io/RowCodec$Tally;)V"⟩ : MethodName) prog_38_method_3_code 2 none :: ws) ({ frames := 1, cells := 0, slots := 0, locals := 16 } : Room)) (fun a U => a = #[(.ref o0_), (.ref o1_)] ∧ Z.Warmed39 U.vm ∧ U.heap = h0) (fun _ _ _ _ _ => True) (fun _ U o U' => ∃ v L, o = .returned v ∧ Qadd24 Z o0_ o1_ y0_ y1_ h0 n0 v U'.heap L ∧ FrameEnd U o U' L ({ frames := 1, cells := 0, slots := 0, locals := 16 } : Room).cells ({ frames := 1, cells := 0, slots := 0, locals := 16 } : Room).slots) := by
  refine MetFree.of_bodySF (plainFor_of_name pn_0) hisR ?_
  intro p e s m args below meth c s₁ Bd hml0 hP hK
  obtain ⟨rfl, hZ, hh⟩ := hP
  have hx := Bd.exec
  have hby := Bd.bytes
  have hml : c.maxLocals = 2 := hml0
  have hown : s.vm.findClass "com/example/zenodotus/zenodotus/io/RowCodec$Tally" = some m.cls := findClass_of_methodNamed Bd.named
  have hnm := (name_of_methodNamed Bd.named Bd.method).1
  have X0 : Stand p l e ({ frames := 1, cells := 0, slots := 0, locals := 16 } : Room) s m #[(.ref o0_), (.ref o1_)] below meth c s₁ [] 0 0 := Stand.of_body Bd
  have e0 : s₁.heap = h0 := by rw [← hh, Bd.state]; rfl
  have N0 := Fr.nil n0
  obtain ⟨G, pre0, hG⟩ : ∃ G : State → Prop, (∀ t, own_S p e below m s₁ 0 #[lvR o0_, lvR o1_] [] t → G t) ∧ (∀ t, G t → Steps p.tables e below (s₁.setTop (entryFrame m #[(.ref o0_), (.ref o1_)] 2)) t) := ⟨fun t => Steps p.tables e below (s₁.setTop (entryFrame m #[(.ref o0_), (.ref o1_)] 2)) t, fun t k => castTop (efadd24 m o0_ o1_) k, fun _ k => k⟩
  have K0 : Keep h0 h0 [o0_] := Keep.refl _ _
  obtain ⟨T1, X1, e1, st1⟩ := getF X0 hx hZ hown (host := "") (Or.inl (own_w hw 24 rfl)) Via.refl e0 P3 (g := (mkF m 2 #[lvR o0_, lvR o1_] [(.ref o0_), (.ref o0_)])) rfl rfl (hb hby d3_2)
  obtain ⟨T2, X2, e2, st2⟩ := getF X1 hx hZ hown (host := "") (Or.inl (own_w hw 24 rfl)) Via.refl e1 P7 (g := (mkF m 6 #[lvR o0_, lvR o1_] [(.ref o1_), (.long (1 : Int64)), (.ref o0_)])) rfl rfl (hb hby d3_6)
  obtain ⟨T3, h3, X3, e3, W3, st3⟩ := putF X2 hx hZ hown (host := "") (Or.inl (own_w hw 24 rfl)) Via.refl e2 P3 P0 (Or.inl (own_w hw 25 rfl)) (own_w hw 4 rfl) (ty := .long) (by decide) rfl rfl (g := (mkF m 10 #[lvR o0_, lvR o1_] [(.long (2 : Int64)), (.ref o0_)])) rfl rfl (hb hby d3_10)
  have N4 := Fr.snoc X3 N0 P8
  have f5 : Fld Z h3 o0_ cn0 "cells" "J" (.long (2 : Int64)) := P3.same W3
  have f6 : Fld Z h3 o0_ cn0 "latestTimestamp" "J" (.long (-9223372036854775808 : Int64)) := P1.other W3 (Or.inr (slot_ne (Or.inl (own_w hw 14 rfl)) (Or.inl (own_w hw 25 rfl)) (by decide) (t := .long) (t' := .long) (by decide) (by decide)))
  obtain ⟨T7, X7, e7, st7⟩ := getF X3 hx hZ hown (host := "") (Or.inl (own_w hw 13 rfl)) Via.refl e3 f6 (g := (mkF m 15 #[lvR o0_, lvR o1_] [(.ref o0_), (.ref o0_)])) rfl rfl (hb hby d3_15)
  have f8 : Fld Z h3 o1_ cn0 "latestTimestamp" "J" (.long y1_) := P5.other W3 (Or.inl P9)
  obtain ⟨T9, X9, e9, st9⟩ := getF X7 hx hZ hown (host := "") (Or.inl (own_w hw 13 rfl)) Via.refl e7 f8 (g := (mkF m 19 #[lvR o0_, lvR o1_] [(.ref o1_), (.long (-9223372036854775808 : Int64)), (.ref o0_)])) rfl rfl (hb hby d3_19)
  have f11 : Old Z n0 h3 := O0.wr W3 P8
  obtain ⟨_, _, ⟨T10, L10, k10, n10⟩, -, X10, ⟨Lc10, hQ10, l10, y10, z10⟩, st10⟩ := Jvm.LawKit.callS X9 hx (y := (⟨"java/lang/Math", "max", "(JJ)J"⟩ : MethodName)) hown (mvT hZ (own_w hw 27 rfl)) (mvT hZ (own_w hw 28 rfl)) (mvT hZ (own_w hw 29 rfl)) (mvT hZ (own_w hw 30 rfl)) (by decide) (backOf (W := 1) (rmMax l Z a0 hw [] (-9223372036854775808 : Int64) y1_ h3 n0 f11 ) hZ (own_w hw 30 rfl) (own_w hw 29 rfl) (by decide) (by decide)) (g := (mkF m 22 #[lvR o0_, lvR o1_] [(.long y1_), (.long (-9223372036854775808 : Int64)), (.ref o0_)])) rfl (by rw [hml]; rfl) (argsL := [(.long (-9223372036854775808 : Int64)), (.long y1_)]) (rest := [(.ref o0_)]) (lenOf pd_1 rfl) rfl (by show 2 * 0 + _ ≤ _; exact Nat.le_of_eq rfl) (hb hby d3_22) (fun _ _ => ⟨rfl, e9, (by decide : 0 + 0 ≤ _), (by decide : 0 + 0 ≤ _)⟩)
  dsimp only [Pt.U, Pt.locs, Pt.cells, Pt.slots] at X10 l10 y10 z10 st10 hQ10
  subst l10 y10 z10
  obtain ⟨h10, e10⟩ : ∃ z, T10.heap = z := ⟨_, rfl⟩
  rw [e10] at hQ10
  obtain ⟨rfl, N10q, hh10⟩ := hQ10
  have N12 := Fr.app N4 N10q
  have e10' : T10.heap = h3 := e10.trans hh10
  have f13 : Exa Z h3 o0_ cn0 := P0.wr W3
  obtain ⟨T14, h14, X14, e14, W14, st14⟩ := putF X10 hx hZ hown (host := "") (Or.inl (own_w hw 13 rfl)) Via.refl e10' f6 f13 (Or.inl (own_w hw 14 rfl)) (own_w hw 4 rfl) (ty := .long) (by decide) rfl rfl (g := (mkF m 25 #[lvR o0_, lvR o1_] [(.long (own_max (-9223372036854775808 : Int64) y1_)), (.ref o0_)])) rfl rfl (hb hby d3_25)
  have N15 := Fr.snoc X14 N12 P8
  have f16 : Fld Z h14 o0_ cn0 "latestTimestamp" "J" (.long (own_max (-9223372036854775808 : Int64) y1_)) := f6.same W14
  have f17 : Fld Z h3 o0_ cn0 "latestDeleteTimestamp" "J" (.long y0_) := P2.other W3 (Or.inr (slot_ne (Or.inl (own_w hw 16 rfl)) (Or.inl (own_w hw 25 rfl)) (by decide) (t := .long) (t' := .long) (by decide) (by decide)))
  have f18 : Fld Z h14 o0_ cn0 "latestDeleteTimestamp" "J" (.long y0_) := f17.other W14 (Or.inr (slot_ne (Or.inl (own_w hw 16 rfl)) (Or.inl (own_w hw 14 rfl)) (by decide) (t := .long) (t' := .long) (by decide) (by decide)))
  obtain ⟨T19, X19, e19, st19⟩ := getF X14 hx hZ hown (host := "") (Or.inl (own_w hw 15 rfl)) Via.refl e14 f18 (g := (mkF m 30 #[lvR o0_, lvR o1_] [(.ref o0_), (.ref o0_)])) rfl rfl (hb hby d3_30)
  have f20 : Fld Z h3 o1_ cn0 "latestDeleteTimestamp" "J" (.long (-9223372036854775808 : Int64)) := P6.other W3 (Or.inl P9)
  have f21 : Fld Z h14 o1_ cn0 "latestDeleteTimestamp" "J" (.long (-9223372036854775808 : Int64)) := f20.other W14 (Or.inl P9)
  obtain ⟨T22, X22, e22, st22⟩ := getF X19 hx hZ hown (host := "") (Or.inl (own_w hw 15 rfl)) Via.refl e19 f21 (g := (mkF m 34 #[lvR o0_, lvR o1_] [(.ref o1_), (.long y0_), (.ref o0_)])) rfl rfl (hb hby d3_34)
  have f24 : Old Z n0 h14 := f11.wr W14 P8
  obtain ⟨_, _, ⟨T23, L23, k23, n23⟩, -, X23, ⟨Lc23, hQ23, l23, y23, z23⟩, st23⟩ := Jvm.LawKit.callS X22 hx (y := (⟨"java/lang/Math", "max", "(JJ)J"⟩ : MethodName)) hown (mvT hZ (own_w hw 27 rfl)) (mvT hZ (own_w hw 28 rfl)) (mvT hZ (own_w hw 29 rfl)) (mvT hZ (own_w hw 30 rfl)) (by decide) (backOf (W := 1) (rmMax l Z a0 hw [] y0_ (-9223372036854775808 : Int64) h14 n0 f24 ) hZ (own_w hw 30 rfl) (own_w hw 29 rfl) (by decide) (by decide)) (g := (mkF m 37 #[lvR o0_, lvR o1_] [(.long (-9223372036854775808 : Int64)), (.long y0_), (.ref o0_)])) rfl (by rw [hml]; rfl) (argsL := [(.long y0_), (.long (-9223372036854775808 : Int64))]) (rest := [(.ref o0_)]) (lenOf pd_1 rfl) rfl (by show 2 * 0 + _ ≤ _; exact Nat.le_of_eq rfl) (hb hby d3_37) (fun _ _ => ⟨rfl, e22, (by decide : 0 + 0 ≤ _), (by decide : 0 + 0 ≤ _)⟩)
  dsimp only [Pt.U, Pt.locs, Pt.cells, Pt.slots] at X23 l23 y23 z23 st23 hQ23
  subst l23 y23 z23
  obtain ⟨h23, e23⟩ : ∃ z, T23.heap = z := ⟨_, rfl⟩
  rw [e23] at hQ23
  obtain ⟨rfl, N23q, hh23⟩ := hQ23
  have N25 := Fr.app N15 N23q
  have e23' : T23.heap = h14 := e23.trans hh23
  have f26 : Exa Z h14 o0_ cn0 := f13.wr W14
  obtain ⟨T27, h27, X27, e27, W27, st27⟩ := putF X23 hx hZ hown (host := "") (Or.inl (own_w hw 15 rfl)) Via.refl e23' f18 f26 (Or.inl (own_w hw 16 rfl)) (own_w hw 4 rfl) (ty := .long) (by decide) rfl rfl (g := (mkF m 40 #[lvR o0_, lvR o1_] [(.long (own_max y0_ (-9223372036854775808 : Int64))), (.ref o0_)])) rfl rfl (hb hby d3_40)
  have N28 := Fr.snoc X27 N25 P8
  have f29 : Fld Z h27 o0_ cn0 "latestDeleteTimestamp" "J" (.long (own_max y0_ (-9223372036854775808 : Int64))) := f18.same W27
  have pre30 : ∀ t, own_S p e below m T27 43 #[lvR o0_, lvR o1_] [] t → G t := by
    intro t kt
    refine pre0 t ?_
    show own_S p e below m s₁ 0 #[lvR o0_, lvR o1_] [] _
    refine XS.aloadN X0.here hx rfl (hb hby d3_0) rfl rfl ?_
    refine XS.dup X0.here hx rfl (hb hby d3_1) rfl rfl ?_
    show own_S p e below m s₁ 2 #[lvR o0_, lvR o1_] [(.ref o0_), (.ref o0_)] _
    refine st1 _ ?_
    refine XS.aloadN X1.here hx rfl (hb hby d3_5) rfl rfl ?_
    show own_S p e below m T1 6 #[lvR o0_, lvR o1_] [(.ref o1_), (.long (1 : Int64)), (.ref o0_)] _
    refine st2 _ ?_
    refine XS.ladd X2.here hx rfl (hb hby d3_9) rfl ?_
    show own_S p e below m T2 10 #[lvR o0_, lvR o1_] [(.long (2 : Int64)), (.ref o0_)] _
    refine st3 _ ?_
    refine XS.aloadN X3.here hx rfl (hb hby d3_13) rfl rfl ?_
    refine XS.aloadN X3.here hx rfl (hb hby d3_14) rfl rfl ?_
    show own_S p e below m T3 15 #[lvR o0_, lvR o1_] [(.ref o0_), (.ref o0_)] _
    refine st7 _ ?_
    refine XS.aloadN X7.here hx rfl (hb hby d3_18) rfl rfl ?_
    show own_S p e below m T7 19 #[lvR o0_, lvR o1_] [(.ref o1_), (.long (-9223372036854775808 : Int64)), (.ref o0_)] _
    refine st9 _ ?_
    show own_S p e below m T9 22 #[lvR o0_, lvR o1_] [(.long y1_), (.long (-9223372036854775808 : Int64)), (.ref o0_)] _
    refine st10 _ ?_
    show own_S p e below m T10 25 #[lvR o0_, lvR o1_] [(.long (own_max (-9223372036854775808 : Int64) y1_)), (.ref o0_)] _
    refine st14 _ ?_
    refine XS.aloadN X14.here hx rfl (hb hby d3_28) rfl rfl ?_
    refine XS.aloadN X14.here hx rfl (hb hby d3_29) rfl rfl ?_
    show own_S p e below m T14 30 #[lvR o0_, lvR o1_] [(.ref o0_), (.ref o0_)] _
    refine st19 _ ?_
    refine XS.aloadN X19.here hx rfl (hb hby d3_33) rfl rfl ?_
    show own_S p e below m T19 34 #[lvR o0_, lvR o1_] [(.ref o1_), (.long y0_), (.ref o0_)] _
    refine st22 _ ?_
    show own_S p e below m T22 37 #[lvR o0_, lvR o1_] [(.long (-9223372036854775808 : Int64)), (.long y0_), (.ref o0_)] _
    refine st23 _ ?_
    show own_S p e below m T23 40 #[lvR o0_, lvR o1_] [(.long (own_max y0_ (-9223372036854775808 : Int64))), (.ref o0_)] _
    refine st27 _ ?_
    exact kt
  have f32 : Keep h0 h3 [o0_] := K0.wr W3 (Or.inl (List.mem_of_getElem? (i := 0) rfl))
  have f33 : Keep h0 h14 [o0_] := f32.wr W14 (Or.inl (List.mem_of_getElem? (i := 0) rfl))
  have f34 : Keep h0 h27 [o0_] := f33.wr W27 (Or.inl (List.mem_of_getElem? (i := 0) rfl))
  have f35 : Exa Z h27 o0_ cn0 := f26.wr W27
  have f36 : Fld Z h27 o0_ cn0 "latestTimestamp" "J" (.long (own_max (-9223372036854775808 : Int64) y1_)) := f16.other W27 (Or.inr (slot_ne (Or.inl (own_w hw 14 rfl)) (Or.inl (own_w hw 16 rfl)) (by decide) (t := .long) (t' := .long) (by decide) (by decide)))
  have f37 : Fld Z h14 o0_ cn0 "cells" "J" (.long (2 : Int64)) := f5.other W14 (Or.inr (slot_ne (Or.inl (own_w hw 25 rfl)) (Or.inl (own_w hw 14 rfl)) (by decide) (t := .long) (t' := .long) (by decide) (by decide)))
  have f38 : Fld Z h27 o0_ cn0 "cells" "J" (.long (2 : Int64)) := f37.other W27 (Or.inr (slot_ne (Or.inl (own_w hw 25 rfl)) (Or.inl (own_w hw 16 rfl)) (by decide) (t := .long) (t' := .long) (by decide) (by decide)))
  obtain ⟨fs, hr, hrun, hended, hW, hsame⟩ := X27.leave (v := none) (fun _ => rfl)
  refine ⟨_, _, hG _ (pre30 _ (X27.returnOut hx Bd.returns (hb hby d3_43) hr)), hrun, hended, _, _, rfl, ?_, ⟨_, rfl⟩, hW, hsame.mono (by decide) (by decide)⟩
  show Qadd24 Z o0_ o1_ y0_ y1_ h0 n0 _ T27.heap _
  rw [e27]
  exact ⟨rfl, N28, f34, f35, f36, f29, f38⟩
theorem efadd25 (m : MethodId) (o0_ : Addr) (o1_ : Addr) : entryFrame m #[(.ref o0_), (.ref o1_)] 2 = mkF m 0 #[lvR o0_, lvR o1_] [] := by first | (simp [entryFrame, mkF, argsToLocals, Value.category]; done) | rfl
def Qadd25 (Z : State) (o0_ : Addr) (o1_ : Addr) (y0_ : Int64) (y1_ : Int64) (y2_ : Int64) (h0 : Heap) (n0 : Nat) (v : Option Value) (h : Heap) (L : List Loc) : Prop := v = none ∧ Fr n0 L ∧ Keep h0 h [o0_] ∧ Exa Z h o0_ cn0 ∧ Fld Z h o0_ cn0 "latestTimestamp" "J" (.long (own_max (-9223372036854775808 : Int64) y1_)) ∧ Fld Z h o0_ cn0 "latestDeleteTimestamp" "J" (.long (own_max y0_ y2_)) ∧ Fld Z h o0_ cn0 "cells" "J" (.long (3 : Int64))
set_option maxRecDepth 65536 in
set_option maxHeartbeats 40000000 in
theorem rmadd25 (l : Launch) (Z : State) (a0 : Array Value) (hw : ∀ d ∈ tables_1, d.before a0 Z = true) (ws : List Jvm.Cond) (o0_ : Addr) (o1_ : Addr) (y0_ : Int64) (y1_ : Int64) (y2_ : Int64) (h0 : Heap) (n0 : Nat) (O0 : Old Z n0 h0) (P0 : Exa Z h0 o0_ cn0) (P1 : Fld Z h0 o0_ cn0 "latestTimestamp" "J" (.long (-9223372036854775808 : Int64))) (P2 : Fld Z h0 o0_ cn0 "latestDeleteTimestamp" "J" (.long y0_)) (P3 : Fld Z h0 o0_ cn0 "cells" "J" (.long (1 : Int64))) (P4 : Exa Z h0 o1_ cn0) (P5 : Fld Z h0 o1_ cn0 "latestTimestamp" "J" (.long y1_)) (P6 : Fld Z h0 o1_ cn0 "latestDeleteTimestamp" "J" (.long y2_)) (P7 : Fld Z h0 o1_ cn0 "cells" "J" (.long (2 : Int64))) (P8 : n0 ≤ o0_) (P9 : o1_ ≠ o0_) :
    MetFree l (⟨"com/example/zenodotus/zenodotus/io/RowCodec$Tally", "add", "(Lcom/example/zenodotus/zenodotus/io/RowCodec$Tally;)V"⟩ : MethodName) (head1 (Jvm.Cond.code (⟨"com/example/zenodotus/zenodotus/io/RowCodec$Tally", "add", "(Lcom/example/zenodotus/zenodotus/io/RowCodec$Tally;)V"⟩ : MethodName) prog_38_method_3_code 2 none :: ws) ({ frames := 1, cells := 0, slots := 0, locals := 16 } : Room)) (fun a U => a = #[(.ref o0_), (.ref o1_)] ∧ Z.Warmed39 U.vm ∧ U.heap = h0) (fun _ _ _ _ _ => True) (fun _ U o U' => ∃ v L, o = .returned v ∧ Qadd25 Z o0_ o1_ y0_ y1_ y2_ h0 n0 v U'.heap L ∧ FrameEnd U o U' L ({ frames := 1, cells := 0, slots := 0, locals := 16 } : Room).cells ({ frames := 1, cells := 0, slots := 0, locals := 16 } : Room).slots) := by
  refine MetFree.of_bodySF (plainFor_of_name pn_0) hisR ?_
  intro p e s m args below meth c s₁ Bd hml0 hP hK
  obtain ⟨rfl, hZ, hh⟩ := hP
  have hx := Bd.exec
  have hby := Bd.bytes
  have hml : c.maxLocals = 2 := hml0
  have hown : s.vm.findClass "com/example/zenodotus/zenodotus/io/RowCodec$Tally" = some m.cls := findClass_of_methodNamed Bd.named
  have hnm := (name_of_methodNamed Bd.named Bd.method).1
  have X0 : Stand p l e ({ frames := 1, cells := 0, slots := 0, locals := 16 } : Room) s m #[(.ref o0_), (.ref o1_)] below meth c s₁ [] 0 0 := Stand.of_body Bd
  have e0 : s₁.heap = h0 := by rw [← hh, Bd.state]; rfl
  have N0 := Fr.nil n0
  obtain ⟨G, pre0, hG⟩ : ∃ G : State → Prop, (∀ t, own_S p e below m s₁ 0 #[lvR o0_, lvR o1_] [] t → G t) ∧ (∀ t, G t → Steps p.tables e below (s₁.setTop (entryFrame m #[(.ref o0_), (.ref o1_)] 2)) t) := ⟨fun t => Steps p.tables e below (s₁.setTop (entryFrame m #[(.ref o0_), (.ref o1_)] 2)) t, fun t k => castTop (efadd25 m o0_ o1_) k, fun _ k => k⟩
  have K0 : Keep h0 h0 [o0_] := Keep.refl _ _
  obtain ⟨T1, X1, e1, st1⟩ := getF X0 hx hZ hown (host := "") (Or.inl (own_w hw 24 rfl)) Via.refl e0 P3 (g := (mkF m 2 #[lvR o0_, lvR o1_] [(.ref o0_), (.ref o0_)])) rfl rfl (hb hby d3_2)
  obtain ⟨T2, X2, e2, st2⟩ := getF X1 hx hZ hown (host := "") (Or.inl (own_w hw 24 rfl)) Via.refl e1 P7 (g := (mkF m 6 #[lvR o0_, lvR o1_] [(.ref o1_), (.long (1 : Int64)), (.ref o0_)])) rfl rfl (hb hby d3_6)
  obtain ⟨T3, h3, X3, e3, W3, st3⟩ := putF X2 hx hZ hown (host := "") (Or.inl (own_w hw 24 rfl)) Via.refl e2 P3 P0 (Or.inl (own_w hw 25 rfl)) (own_w hw 4 rfl) (ty := .long) (by decide) rfl rfl (g := (mkF m 10 #[lvR o0_, lvR o1_] [(.long (3 : Int64)), (.ref o0_)])) rfl rfl (hb hby d3_10)
  have N4 := Fr.snoc X3 N0 P8
  have f5 : Fld Z h3 o0_ cn0 "cells" "J" (.long (3 : Int64)) := P3.same W3
  have f6 : Fld Z h3 o0_ cn0 "latestTimestamp" "J" (.long (-9223372036854775808 : Int64)) := P1.other W3 (Or.inr (slot_ne (Or.inl (own_w hw 14 rfl)) (Or.inl (own_w hw 25 rfl)) (by decide) (t := .long) (t' := .long) (by decide) (by decide)))
  obtain ⟨T7, X7, e7, st7⟩ := getF X3 hx hZ hown (host := "") (Or.inl (own_w hw 13 rfl)) Via.refl e3 f6 (g := (mkF m 15 #[lvR o0_, lvR o1_] [(.ref o0_), (.ref o0_)])) rfl rfl (hb hby d3_15)
  have f8 : Fld Z h3 o1_ cn0 "latestTimestamp" "J" (.long y1_) := P5.other W3 (Or.inl P9)
  obtain ⟨T9, X9, e9, st9⟩ := getF X7 hx hZ hown (host := "") (Or.inl (own_w hw 13 rfl)) Via.refl e7 f8 (g := (mkF m 19 #[lvR o0_, lvR o1_] [(.ref o1_), (.long (-9223372036854775808 : Int64)), (.ref o0_)])) rfl rfl (hb hby d3_19)
  have f11 : Old Z n0 h3 := O0.wr W3 P8
  obtain ⟨_, _, ⟨T10, L10, k10, n10⟩, -, X10, ⟨Lc10, hQ10, l10, y10, z10⟩, st10⟩ := Jvm.LawKit.callS X9 hx (y := (⟨"java/lang/Math", "max", "(JJ)J"⟩ : MethodName)) hown (mvT hZ (own_w hw 27 rfl)) (mvT hZ (own_w hw 28 rfl)) (mvT hZ (own_w hw 29 rfl)) (mvT hZ (own_w hw 30 rfl)) (by decide) (backOf (W := 1) (rmMax l Z a0 hw [] (-9223372036854775808 : Int64) y1_ h3 n0 f11 ) hZ (own_w hw 30 rfl) (own_w hw 29 rfl) (by decide) (by decide)) (g := (mkF m 22 #[lvR o0_, lvR o1_] [(.long y1_), (.long (-9223372036854775808 : Int64)), (.ref o0_)])) rfl (by rw [hml]; rfl) (argsL := [(.long (-9223372036854775808 : Int64)), (.long y1_)]) (rest := [(.ref o0_)]) (lenOf pd_1 rfl) rfl (by show 2 * 0 + _ ≤ _; exact Nat.le_of_eq rfl) (hb hby d3_22) (fun _ _ => ⟨rfl, e9, (by decide : 0 + 0 ≤ _), (by decide : 0 + 0 ≤ _)⟩)
  dsimp only [Pt.U, Pt.locs, Pt.cells, Pt.slots] at X10 l10 y10 z10 st10 hQ10
  subst l10 y10 z10
  obtain ⟨h10, e10⟩ : ∃ z, T10.heap = z := ⟨_, rfl⟩
  rw [e10] at hQ10
  obtain ⟨rfl, N10q, hh10⟩ := hQ10
  have N12 := Fr.app N4 N10q
  have e10' : T10.heap = h3 := e10.trans hh10
  have f13 : Exa Z h3 o0_ cn0 := P0.wr W3
  obtain ⟨T14, h14, X14, e14, W14, st14⟩ := putF X10 hx hZ hown (host := "") (Or.inl (own_w hw 13 rfl)) Via.refl e10' f6 f13 (Or.inl (own_w hw 14 rfl)) (own_w hw 4 rfl) (ty := .long) (by decide) rfl rfl (g := (mkF m 25 #[lvR o0_, lvR o1_] [(.long (own_max (-9223372036854775808 : Int64) y1_)), (.ref o0_)])) rfl rfl (hb hby d3_25)
  have N15 := Fr.snoc X14 N12 P8
  have f16 : Fld Z h14 o0_ cn0 "latestTimestamp" "J" (.long (own_max (-9223372036854775808 : Int64) y1_)) := f6.same W14
  have f17 : Fld Z h3 o0_ cn0 "latestDeleteTimestamp" "J" (.long y0_) := P2.other W3 (Or.inr (slot_ne (Or.inl (own_w hw 16 rfl)) (Or.inl (own_w hw 25 rfl)) (by decide) (t := .long) (t' := .long) (by decide) (by decide)))
  have f18 : Fld Z h14 o0_ cn0 "latestDeleteTimestamp" "J" (.long y0_) := f17.other W14 (Or.inr (slot_ne (Or.inl (own_w hw 16 rfl)) (Or.inl (own_w hw 14 rfl)) (by decide) (t := .long) (t' := .long) (by decide) (by decide)))
  obtain ⟨T19, X19, e19, st19⟩ := getF X14 hx hZ hown (host := "") (Or.inl (own_w hw 15 rfl)) Via.refl e14 f18 (g := (mkF m 30 #[lvR o0_, lvR o1_] [(.ref o0_), (.ref o0_)])) rfl rfl (hb hby d3_30)
  have f20 : Fld Z h3 o1_ cn0 "latestDeleteTimestamp" "J" (.long y2_) := P6.other W3 (Or.inl P9)
  have f21 : Fld Z h14 o1_ cn0 "latestDeleteTimestamp" "J" (.long y2_) := f20.other W14 (Or.inl P9)
  obtain ⟨T22, X22, e22, st22⟩ := getF X19 hx hZ hown (host := "") (Or.inl (own_w hw 15 rfl)) Via.refl e19 f21 (g := (mkF m 34 #[lvR o0_, lvR o1_] [(.ref o1_), (.long y0_), (.ref o0_)])) rfl rfl (hb hby d3_34)
  have f24 : Old Z n0 h14 := f11.wr W14 P8
  obtain ⟨_, _, ⟨T23, L23, k23, n23⟩, -, X23, ⟨Lc23, hQ23, l23, y23, z23⟩, st23⟩ := Jvm.LawKit.callS X22 hx (y := (⟨"java/lang/Math", "max", "(JJ)J"⟩ : MethodName)) hown (mvT hZ (own_w hw 27 rfl)) (mvT hZ (own_w hw 28 rfl)) (mvT hZ (own_w hw 29 rfl)) (mvT hZ (own_w hw 30 rfl)) (by decide) (backOf (W := 1) (rmMax l Z a0 hw [] y0_ y2_ h14 n0 f24 ) hZ (own_w hw 30 rfl) (own_w hw 29 rfl) (by decide) (by decide)) (g := (mkF m 37 #[lvR o0_, lvR o1_] [(.long y2_), (.long y0_), (.ref o0_)])) rfl (by rw [hml]; rfl) (argsL := [(.long y0_), (.long y2_)]) (rest := [(.ref o0_)]) (lenOf pd_1 rfl) rfl (by show 2 * 0 + _ ≤ _; exact Nat.le_of_eq rfl) (hb hby d3_37) (fun _ _ => ⟨rfl, e22, (by decide : 0 + 0 ≤ _), (by decide : 0 + 0 ≤ _)⟩)
  dsimp only [Pt.U, Pt.locs, Pt.cells, Pt.slots] at X23 l23 y23 z23 st23 hQ23
  subst l23 y23 z23
  obtain ⟨h23, e23⟩ : ∃ z, T23.heap = z := ⟨_, rfl⟩
  rw [e23] at hQ23
  obtain ⟨rfl, N23q, hh23⟩ := hQ23
  have N25 := Fr.app N15 N23q
  have e23' : T23.heap = h14 := e23.trans hh23
  have f26 : Exa Z h14 o0_ cn0 := f13.wr W14
  obtain ⟨T27, h27, X27, e27, W27, st27⟩ := putF X23 hx hZ hown (host := "") (Or.inl (own_w hw 15 rfl)) Via.refl e23' f18 f26 (Or.inl (own_w hw 16 rfl)) (own_w hw 4 rfl) (ty := .long) (by decide) rfl rfl (g := (mkF m 40 #[lvR o0_, lvR o1_] [(.long (own_max y0_ y2_)), (.ref o0_)])) rfl rfl (hb hby d3_40)
  have N28 := Fr.snoc X27 N25 P8
  have f29 : Fld Z h27 o0_ cn0 "latestDeleteTimestamp" "J" (.long (own_max y0_ y2_)) := f18.same W27
  have pre30 : ∀ t, own_S p e below m T27 43 #[lvR o0_, lvR o1_] [] t → G t := by
    intro t kt
    refine pre0 t ?_
    show own_S p e below m s₁ 0 #[lvR o0_, lvR o1_] [] _
    refine XS.aloadN X0.here hx rfl (hb hby d3_0) rfl rfl ?_
    refine XS.dup X0.here hx rfl (hb hby d3_1) rfl rfl ?_
    show own_S p e below m s₁ 2 #[lvR o0_, lvR o1_] [(.ref o0_), (.ref o0_)] _
    refine st1 _ ?_
    refine XS.aloadN X1.here hx rfl (hb hby d3_5) rfl rfl ?_
    show own_S p e below m T1 6 #[lvR o0_, lvR o1_] [(.ref o1_), (.long (1 : Int64)), (.ref o0_)] _
    refine st2 _ ?_
    refine XS.ladd X2.here hx rfl (hb hby d3_9) rfl ?_
    show own_S p e below m T2 10 #[lvR o0_, lvR o1_] [(.long (3 : Int64)), (.ref o0_)] _
    refine st3 _ ?_
    refine XS.aloadN X3.here hx rfl (hb hby d3_13) rfl rfl ?_
    refine XS.aloadN X3.here hx rfl (hb hby d3_14) rfl rfl ?_
    show own_S p e below m T3 15 #[lvR o0_, lvR o1_] [(.ref o0_), (.ref o0_)] _
    refine st7 _ ?_
    refine XS.aloadN X7.here hx rfl (hb hby d3_18) rfl rfl ?_
    show own_S p e below m T7 19 #[lvR o0_, lvR o1_] [(.ref o1_), (.long (-9223372036854775808 : Int64)), (.ref o0_)] _
    refine st9 _ ?_
    show own_S p e below m T9 22 #[lvR o0_, lvR o1_] [(.long y1_), (.long (-9223372036854775808 : Int64)), (.ref o0_)] _
    refine st10 _ ?_
    show own_S p e below m T10 25 #[lvR o0_, lvR o1_] [(.long (own_max (-9223372036854775808 : Int64) y1_)), (.ref o0_)] _
    refine st14 _ ?_
    refine XS.aloadN X14.here hx rfl (hb hby d3_28) rfl rfl ?_
    refine XS.aloadN X14.here hx rfl (hb hby d3_29) rfl rfl ?_
    show own_S p e below m T14 30 #[lvR o0_, lvR o1_] [(.ref o0_), (.ref o0_)] _
    refine st19 _ ?_
    refine XS.aloadN X19.here hx rfl (hb hby d3_33) rfl rfl ?_
    show own_S p e below m T19 34 #[lvR o0_, lvR o1_] [(.ref o1_), (.long y0_), (.ref o0_)] _
    refine st22 _ ?_
    show own_S p e below m T22 37 #[lvR o0_, lvR o1_] [(.long y2_), (.long y0_), (.ref o0_)] _
    refine st23 _ ?_
    show own_S p e below m T23 40 #[lvR o0_, lvR o1_] [(.long (own_max y0_ y2_)), (.ref o0_)] _
    refine st27 _ ?_
    exact kt
  have f32 : Keep h0 h3 [o0_] := K0.wr W3 (Or.inl (List.mem_of_getElem? (i := 0) rfl))
  have f33 : Keep h0 h14 [o0_] := f32.wr W14 (Or.inl (List.mem_of_getElem? (i := 0) rfl))
  have f34 : Keep h0 h27 [o0_] := f33.wr W27 (Or.inl (List.mem_of_getElem? (i := 0) rfl))
  have f35 : Exa Z h27 o0_ cn0 := f26.wr W27
  have f36 : Fld Z h27 o0_ cn0 "latestTimestamp" "J" (.long (own_max (-9223372036854775808 : Int64) y1_)) := f16.other W27 (Or.inr (slot_ne (Or.inl (own_w hw 14 rfl)) (Or.inl (own_w hw 16 rfl)) (by decide) (t := .long) (t' := .long) (by decide) (by decide)))
  have f37 : Fld Z h14 o0_ cn0 "cells" "J" (.long (3 : Int64)) := f5.other W14 (Or.inr (slot_ne (Or.inl (own_w hw 25 rfl)) (Or.inl (own_w hw 14 rfl)) (by decide) (t := .long) (t' := .long) (by decide) (by decide)))
  have f38 : Fld Z h27 o0_ cn0 "cells" "J" (.long (3 : Int64)) := f37.other W27 (Or.inr (slot_ne (Or.inl (own_w hw 25 rfl)) (Or.inl (own_w hw 16 rfl)) (by decide) (t := .long) (t' := .long) (by decide) (by decide)))
  obtain ⟨fs, hr, hrun, hended, hW, hsame⟩ := X27.leave (v := none) (fun _ => rfl)
  refine ⟨_, _, hG _ (pre30 _ (X27.returnOut hx Bd.returns (hb hby d3_43) hr)), hrun, hended, _, _, rfl, ?_, ⟨_, rfl⟩, hW, hsame.mono (by decide) (by decide)⟩
  show Qadd25 Z o0_ o1_ y0_ y1_ y2_ h0 n0 _ T27.heap _
  rw [e27]
  exact ⟨rfl, N28, f34, f35, f36, f29, f38⟩
theorem efcells26 (m : MethodId) (o0_ : Addr) : entryFrame m #[(.ref o0_)] 1 = mkF m 0 #[lvR o0_] [] := by first | (simp [entryFrame, mkF, argsToLocals, Value.category]; done) | rfl
def Qcells26 (Z : State) (o0_ : Addr) (y0_ : Int64) (y1_ : Int64) (h0 : Heap) (n0 : Nat) (v : Option Value) (h : Heap) (L : List Loc) : Prop := v = some (.long (3 : Int64)) ∧ Fr n0 L ∧ h = h0
set_option maxRecDepth 65536 in
set_option maxHeartbeats 40000000 in
theorem rmcells26 (l : Launch) (Z : State) (a0 : Array Value) (hw : ∀ d ∈ tables_1, d.before a0 Z = true) (ws : List Jvm.Cond) (o0_ : Addr) (y0_ : Int64) (y1_ : Int64) (h0 : Heap) (n0 : Nat) (O0 : Old Z n0 h0) (P0 : Exa Z h0 o0_ cn0) (P1 : Fld Z h0 o0_ cn0 "latestTimestamp" "J" (.long y0_)) (P2 : Fld Z h0 o0_ cn0 "latestDeleteTimestamp" "J" (.long y1_)) (P3 : Fld Z h0 o0_ cn0 "cells" "J" (.long (3 : Int64))) :
    MetFree l (⟨"com/example/zenodotus/zenodotus/io/RowCodec$Tally", "cells", "()J"⟩ : MethodName) (head1 (Jvm.Cond.code (⟨"com/example/zenodotus/zenodotus/io/RowCodec$Tally", "cells", "()J"⟩ : MethodName) prog_38_method_4_code 1 (some .long) :: ws) ({ frames := 0, cells := 0, slots := 0, locals := 0 } : Room)) (fun a U => a = #[(.ref o0_)] ∧ Z.Warmed39 U.vm ∧ U.heap = h0) (fun _ _ _ _ _ => True) (fun _ U o U' => ∃ v L, o = .returned v ∧ Qcells26 Z o0_ y0_ y1_ h0 n0 v U'.heap L ∧ FrameEnd U o U' L ({ frames := 0, cells := 0, slots := 0, locals := 0 } : Room).cells ({ frames := 0, cells := 0, slots := 0, locals := 0 } : Room).slots) := by
  refine MetFree.of_bodySF (plainFor_of_name pn_0) hisR ?_
  intro p e s m args below meth c s₁ Bd hml0 hP hK
  obtain ⟨rfl, hZ, hh⟩ := hP
  have hx := Bd.exec
  have hby := Bd.bytes
  have hml : c.maxLocals = 1 := hml0
  have hown : s.vm.findClass "com/example/zenodotus/zenodotus/io/RowCodec$Tally" = some m.cls := findClass_of_methodNamed Bd.named
  have hnm := (name_of_methodNamed Bd.named Bd.method).1
  have X0 : Stand p l e ({ frames := 0, cells := 0, slots := 0, locals := 0 } : Room) s m #[(.ref o0_)] below meth c s₁ [] 0 0 := Stand.of_body Bd
  have e0 : s₁.heap = h0 := by rw [← hh, Bd.state]; rfl
  have N0 := Fr.nil n0
  obtain ⟨G, pre0, hG⟩ : ∃ G : State → Prop, (∀ t, own_S p e below m s₁ 0 #[lvR o0_] [] t → G t) ∧ (∀ t, G t → Steps p.tables e below (s₁.setTop (entryFrame m #[(.ref o0_)] 1)) t) := ⟨fun t => Steps p.tables e below (s₁.setTop (entryFrame m #[(.ref o0_)] 1)) t, fun t k => castTop (efcells26 m o0_) k, fun _ k => k⟩
  have K0 : Keep h0 h0 [] := Keep.refl _ _
  obtain ⟨T1, X1, e1, st1⟩ := getF X0 hx hZ hown (host := "") (Or.inl (own_w hw 24 rfl)) Via.refl e0 P3 (g := (mkF m 1 #[lvR o0_] [(.ref o0_)])) rfl rfl (hb hby d4_1)
  have pre2 : ∀ t, own_S p e below m T1 4 #[lvR o0_] [(.long (3 : Int64))] t → G t := by
    intro t kt
    refine pre0 t ?_
    show own_S p e below m s₁ 0 #[lvR o0_] [] _
    refine XS.aloadN X0.here hx rfl (hb hby d4_0) rfl rfl ?_
    show own_S p e below m s₁ 1 #[lvR o0_] [(.ref o0_)] _
    refine st1 _ ?_
    exact kt
  obtain ⟨fs, hr, hrun, hended, hW, hsame⟩ := X1.leave (v := some (.long (3 : Int64))) (fun h => by rw [Bd.returns] at h; cases h)
  refine ⟨_, _, hG _ (pre2 _ (retOut X1 hx Bd.returns rfl (Or.inr (Or.inl ⟨rfl, rfl, _, rfl⟩)) (hb hby d4_4) hr)), hrun, hended, _, _, rfl, ?_, ⟨_, rfl⟩, hW, hsame.mono (by decide) (by decide)⟩
  show Qcells26 Z o0_ y0_ y1_ h0 n0 _ T1.heap _
  rw [e1]
  exact ⟨rfl, N0, rfl⟩
theorem eflatestTimestamp27 (m : MethodId) (o0_ : Addr) : entryFrame m #[(.ref o0_)] 1 = mkF m 0 #[lvR o0_] [] := by first | (simp [entryFrame, mkF, argsToLocals, Value.category]; done) | rfl
def QlatestTimestamp27 (Z : State) (o0_ : Addr) (y0_ : Int64) (y1_ : Int64) (h0 : Heap) (n0 : Nat) (v : Option Value) (h : Heap) (L : List Loc) : Prop := v = some (.long y0_) ∧ Fr n0 L ∧ h = h0
set_option maxRecDepth 65536 in
set_option maxHeartbeats 40000000 in
theorem rmlatestTimestamp27 (l : Launch) (Z : State) (a0 : Array Value) (hw : ∀ d ∈ tables_1, d.before a0 Z = true) (ws : List Jvm.Cond) (o0_ : Addr) (y0_ : Int64) (y1_ : Int64) (h0 : Heap) (n0 : Nat) (O0 : Old Z n0 h0) (P0 : Exa Z h0 o0_ cn0) (P1 : Fld Z h0 o0_ cn0 "latestTimestamp" "J" (.long y0_)) (P2 : Fld Z h0 o0_ cn0 "latestDeleteTimestamp" "J" (.long y1_)) (P3 : Fld Z h0 o0_ cn0 "cells" "J" (.long (3 : Int64))) :
    MetFree l (⟨"com/example/zenodotus/zenodotus/io/RowCodec$Tally", "latestTimestamp", "()J"⟩ : MethodName) (head1 (Jvm.Cond.code (⟨"com/example/zenodotus/zenodotus/io/RowCodec$Tally", "latestTimestamp", "()J"⟩ : MethodName) prog_38_method_5_code 1 (some .long) :: ws) ({ frames := 0, cells := 0, slots := 0, locals := 0 } : Room)) (fun a U => a = #[(.ref o0_)] ∧ Z.Warmed39 U.vm ∧ U.heap = h0) (fun _ _ _ _ _ => True) (fun _ U o U' => ∃ v L, o = .returned v ∧ QlatestTimestamp27 Z o0_ y0_ y1_ h0 n0 v U'.heap L ∧ FrameEnd U o U' L ({ frames := 0, cells := 0, slots := 0, locals := 0 } : Room).cells ({ frames := 0, cells := 0, slots := 0, locals := 0 } : Room).slots) := by
  refine MetFree.of_bodySF (plainFor_of_name pn_0) hisR ?_
  intro p e s m args below meth c s₁ Bd hml0 hP hK
  obtain ⟨rfl, hZ, hh⟩ := hP
  have hx := Bd.exec
  have hby := Bd.bytes
  have hml : c.maxLocals = 1 := hml0
  have hown : s.vm.findClass "com/example/zenodotus/zenodotus/io/RowCodec$Tally" = some m.cls := findClass_of_methodNamed Bd.named
  have hnm := (name_of_methodNamed Bd.named Bd.method).1
  have X0 : Stand p l e ({ frames := 0, cells := 0, slots := 0, locals := 0 } : Room) s m #[(.ref o0_)] below meth c s₁ [] 0 0 := Stand.of_body Bd
  have e0 : s₁.heap = h0 := by rw [← hh, Bd.state]; rfl
  have N0 := Fr.nil n0
  obtain ⟨G, pre0, hG⟩ : ∃ G : State → Prop, (∀ t, own_S p e below m s₁ 0 #[lvR o0_] [] t → G t) ∧ (∀ t, G t → Steps p.tables e below (s₁.setTop (entryFrame m #[(.ref o0_)] 1)) t) := ⟨fun t => Steps p.tables e below (s₁.setTop (entryFrame m #[(.ref o0_)] 1)) t, fun t k => castTop (eflatestTimestamp27 m o0_) k, fun _ k => k⟩
  have K0 : Keep h0 h0 [] := Keep.refl _ _
  obtain ⟨T1, X1, e1, st1⟩ := getF X0 hx hZ hown (host := "") (Or.inl (own_w hw 13 rfl)) Via.refl e0 P1 (g := (mkF m 1 #[lvR o0_] [(.ref o0_)])) rfl rfl (hb hby d5_1)
  have pre2 : ∀ t, own_S p e below m T1 4 #[lvR o0_] [(.long y0_)] t → G t := by
    intro t kt
    refine pre0 t ?_
    show own_S p e below m s₁ 0 #[lvR o0_] [] _
    refine XS.aloadN X0.here hx rfl (hb hby d5_0) rfl rfl ?_
    show own_S p e below m s₁ 1 #[lvR o0_] [(.ref o0_)] _
    refine st1 _ ?_
    exact kt
  obtain ⟨fs, hr, hrun, hended, hW, hsame⟩ := X1.leave (v := some (.long y0_)) (fun h => by rw [Bd.returns] at h; cases h)
  refine ⟨_, _, hG _ (pre2 _ (retOut X1 hx Bd.returns rfl (Or.inr (Or.inl ⟨rfl, rfl, _, rfl⟩)) (hb hby d5_4) hr)), hrun, hended, _, _, rfl, ?_, ⟨_, rfl⟩, hW, hsame.mono (by decide) (by decide)⟩
  show QlatestTimestamp27 Z o0_ y0_ y1_ h0 n0 _ T1.heap _
  rw [e1]
  exact ⟨rfl, N0, rfl⟩
theorem eflatestDeleteTimestamp28 (m : MethodId) (o0_ : Addr) : entryFrame m #[(.ref o0_)] 1 = mkF m 0 #[lvR o0_] [] := by first | (simp [entryFrame, mkF, argsToLocals, Value.category]; done) | rfl
def QlatestDeleteTimestamp28 (Z : State) (o0_ : Addr) (y0_ : Int64) (y1_ : Int64) (h0 : Heap) (n0 : Nat) (v : Option Value) (h : Heap) (L : List Loc) : Prop := v = some (.long y1_) ∧ Fr n0 L ∧ h = h0
set_option maxRecDepth 65536 in
set_option maxHeartbeats 40000000 in
theorem rmlatestDeleteTimestamp28 (l : Launch) (Z : State) (a0 : Array Value) (hw : ∀ d ∈ tables_1, d.before a0 Z = true) (ws : List Jvm.Cond) (o0_ : Addr) (y0_ : Int64) (y1_ : Int64) (h0 : Heap) (n0 : Nat) (O0 : Old Z n0 h0) (P0 : Exa Z h0 o0_ cn0) (P1 : Fld Z h0 o0_ cn0 "latestTimestamp" "J" (.long y0_)) (P2 : Fld Z h0 o0_ cn0 "latestDeleteTimestamp" "J" (.long y1_)) (P3 : Fld Z h0 o0_ cn0 "cells" "J" (.long (3 : Int64))) :
    MetFree l (⟨"com/example/zenodotus/zenodotus/io/RowCodec$Tally", "latestDeleteTimestamp", "()J"⟩ : MethodName) (head1 (Jvm.Cond.code (⟨"com/example/zenodotus/zenodotus/io/RowCodec$Tally", "latestDeleteTimestamp", "()J"⟩ : MethodName) prog_38_method_6_code 1 (some .long) :: ws) ({ frames := 0, cells := 0, slots := 0, locals := 0 } : Room)) (fun a U => a = #[(.ref o0_)] ∧ Z.Warmed39 U.vm ∧ U.heap = h0) (fun _ _ _ _ _ => True) (fun _ U o U' => ∃ v L, o = .returned v ∧ QlatestDeleteTimestamp28 Z o0_ y0_ y1_ h0 n0 v U'.heap L ∧ FrameEnd U o U' L ({ frames := 0, cells := 0, slots := 0, locals := 0 } : Room).cells ({ frames := 0, cells := 0, slots := 0, locals := 0 } : Room).slots) := by
  refine MetFree.of_bodySF (plainFor_of_name pn_0) hisR ?_
  intro p e s m args below meth c s₁ Bd hml0 hP hK
  obtain ⟨rfl, hZ, hh⟩ := hP
  have hx := Bd.exec
  have hby := Bd.bytes
  have hml : c.maxLocals = 1 := hml0
  have hown : s.vm.findClass "com/example/zenodotus/zenodotus/io/RowCodec$Tally" = some m.cls := findClass_of_methodNamed Bd.named
  have hnm := (name_of_methodNamed Bd.named Bd.method).1
  have X0 : Stand p l e ({ frames := 0, cells := 0, slots := 0, locals := 0 } : Room) s m #[(.ref o0_)] below meth c s₁ [] 0 0 := Stand.of_body Bd
  have e0 : s₁.heap = h0 := by rw [← hh, Bd.state]; rfl
  have N0 := Fr.nil n0
  obtain ⟨G, pre0, hG⟩ : ∃ G : State → Prop, (∀ t, own_S p e below m s₁ 0 #[lvR o0_] [] t → G t) ∧ (∀ t, G t → Steps p.tables e below (s₁.setTop (entryFrame m #[(.ref o0_)] 1)) t) := ⟨fun t => Steps p.tables e below (s₁.setTop (entryFrame m #[(.ref o0_)] 1)) t, fun t k => castTop (eflatestDeleteTimestamp28 m o0_) k, fun _ k => k⟩
  have K0 : Keep h0 h0 [] := Keep.refl _ _
  obtain ⟨T1, X1, e1, st1⟩ := getF X0 hx hZ hown (host := "") (Or.inl (own_w hw 15 rfl)) Via.refl e0 P2 (g := (mkF m 1 #[lvR o0_] [(.ref o0_)])) rfl rfl (hb hby d7_1)
  have pre2 : ∀ t, own_S p e below m T1 4 #[lvR o0_] [(.long y1_)] t → G t := by
    intro t kt
    refine pre0 t ?_
    show own_S p e below m s₁ 0 #[lvR o0_] [] _
    refine XS.aloadN X0.here hx rfl (hb hby d7_0) rfl rfl ?_
    show own_S p e below m s₁ 1 #[lvR o0_] [(.ref o0_)] _
    refine st1 _ ?_
    exact kt
  obtain ⟨fs, hr, hrun, hended, hW, hsame⟩ := X1.leave (v := some (.long y1_)) (fun h => by rw [Bd.returns] at h; cases h)
  refine ⟨_, _, hG _ (pre2 _ (retOut X1 hx Bd.returns rfl (Or.inr (Or.inl ⟨rfl, rfl, _, rfl⟩)) (hb hby d7_4) hr)), hrun, hended, _, _, rfl, ?_, ⟨_, rfl⟩, hW, hsame.mono (by decide) (by decide)⟩
  show QlatestDeleteTimestamp28 Z o0_ y0_ y1_ h0 n0 _ T1.heap _
  rw [e1]
  exact ⟨rfl, N0, rfl⟩
theorem efadd29 (m : MethodId) (o0_ : Addr) (o1_ : Addr) : entryFrame m #[(.ref o0_), (.ref o1_)] 2 = mkF m 0 #[lvR o0_, lvR o1_] [] := by first | (simp [entryFrame, mkF, argsToLocals, Value.category]; done) | rfl
def Qadd29 (Z : State) (o0_ : Addr) (o1_ : Addr) (y0_ : Int64) (h0 : Heap) (n0 : Nat) (v : Option Value) (h : Heap) (L : List Loc) : Prop := v = none ∧ Fr n0 L ∧ Keep h0 h [o0_] ∧ Exa Z h o0_ cn0 ∧ Fld Z h o0_ cn0 "latestTimestamp" "J" (.long (own_max y0_ (-9223372036854775808 : Int64))) ∧ Fld Z h o0_ cn0 "latestDeleteTimestamp" "J" (.long (own_max (-9223372036854775808 : Int64) (-9223372036854775808 : Int64))) ∧ Fld Z h o0_ cn0 "cells" "J" (.long (1 : Int64))
set_option maxRecDepth 65536 in
set_option maxHeartbeats 40000000 in
theorem rmadd29 (l : Launch) (Z : State) (a0 : Array Value) (hw : ∀ d ∈ tables_1, d.before a0 Z = true) (ws : List Jvm.Cond) (o0_ : Addr) (o1_ : Addr) (y0_ : Int64) (h0 : Heap) (n0 : Nat) (O0 : Old Z n0 h0) (P0 : Exa Z h0 o0_ cn0) (P1 : Fld Z h0 o0_ cn0 "latestTimestamp" "J" (.long y0_)) (P2 : Fld Z h0 o0_ cn0 "latestDeleteTimestamp" "J" (.long (-9223372036854775808 : Int64))) (P3 : Fld Z h0 o0_ cn0 "cells" "J" (.long (1 : Int64))) (P4 : Exa Z h0 o1_ cn0) (P5 : Fld Z h0 o1_ cn0 "latestTimestamp" "J" (.long (-9223372036854775808 : Int64))) (P6 : Fld Z h0 o1_ cn0 "latestDeleteTimestamp" "J" (.long (-9223372036854775808 : Int64))) (P7 : Fld Z h0 o1_ cn0 "cells" "J" (.long (0 : Int64))) (P8 : n0 ≤ o0_) (P9 : o1_ ≠ o0_) :
    MetFree l (⟨"com/example/zenodotus/zenodotus/io/RowCodec$Tally", "add", "(Lcom/example/zenodotus/zenodotus/io/RowCodec$Tally;)V"⟩ : MethodName) (head1 (Jvm.Cond.code (⟨"com/example/zenodotus/zenodotus/io/RowCodec$Tally", "add", "(Lcom/example/zenodotus/zenodotus/io/RowCodec$Tally;)V"⟩ : MethodName) prog_38_method_3_code 2 none :: ws) ({ frames := 1, cells := 0, slots := 0, locals := 16 } : Room)) (fun a U => a = #[(.ref o0_), (.ref o1_)] ∧ Z.Warmed39 U.vm ∧ U.heap = h0) (fun _ _ _ _ _ => True) (fun _ U o U' => ∃ v L, o = .returned v ∧ Qadd29 Z o0_ o1_ y0_ h0 n0 v U'.heap L ∧ FrameEnd U o U' L ({ frames := 1, cells := 0, slots := 0, locals := 16 } : Room).cells ({ frames := 1, cells := 0, slots := 0, locals := 16 } : Room).slots) := by
  refine MetFree.of_bodySF (plainFor_of_name pn_0) hisR ?_
  intro p e s m args below meth c s₁ Bd hml0 hP hK
  obtain ⟨rfl, hZ, hh⟩ := hP
  have hx := Bd.exec
  have hby := Bd.bytes
  have hml : c.maxLocals = 2 := hml0
  have hown : s.vm.findClass "com/example/zenodotus/zenodotus/io/RowCodec$Tally" = some m.cls := findClass_of_methodNamed Bd.named
  have hnm := (name_of_methodNamed Bd.named Bd.method).1
  have X0 : Stand p l e ({ frames := 1, cells := 0, slots := 0, locals := 16 } : Room) s m #[(.ref o0_), (.ref o1_)] below meth c s₁ [] 0 0 := Stand.of_body Bd
  have e0 : s₁.heap = h0 := by rw [← hh, Bd.state]; rfl
  have N0 := Fr.nil n0
  obtain ⟨G, pre0, hG⟩ : ∃ G : State → Prop, (∀ t, own_S p e below m s₁ 0 #[lvR o0_, lvR o1_] [] t → G t) ∧ (∀ t, G t → Steps p.tables e below (s₁.setTop (entryFrame m #[(.ref o0_), (.ref o1_)] 2)) t) := ⟨fun t => Steps p.tables e below (s₁.setTop (entryFrame m #[(.ref o0_), (.ref o1_)] 2)) t, fun t k => castTop (efadd29 m o0_ o1_) k, fun _ k => k⟩
  have K0 : Keep h0 h0 [o0_] := Keep.refl _ _
  obtain ⟨T1, X1, e1, st1⟩ := getF X0 hx hZ hown (host := "") (Or.inl (own_w hw 24 rfl)) Via.refl e0 P3 (g := (mkF m 2 #[lvR o0_, lvR o1_] [(.ref o0_), (.ref o0_)])) rfl rfl (hb hby d3_2)
  obtain ⟨T2, X2, e2, st2⟩ := getF X1 hx hZ hown (host := "") (Or.inl (own_w hw 24 rfl)) Via.refl e1 P7 (g := (mkF m 6 #[lvR o0_, lvR o1_] [(.ref o1_), (.long (1 : Int64)), (.ref o0_)])) rfl rfl (hb hby d3_6)
  obtain ⟨T3, h3, X3, e3, W3, st3⟩ := putF X2 hx hZ hown (host := "") (Or.inl (own_w hw 24 rfl)) Via.refl e2 P3 P0 (Or.inl (own_w hw 25 rfl)) (own_w hw 4 rfl) (ty := .long) (by decide) rfl rfl (g := (mkF m 10 #[lvR o0_, lvR o1_] [(.long (1 : Int64)), (.ref o0_)])) rfl rfl (hb hby d3_10)
  have N4 := Fr.snoc X3 N0 P8
  have f5 : Fld Z h3 o0_ cn0 "cells" "J" (.long (1 : Int64)) := P3.same W3
  have f6 : Fld Z h3 o0_ cn0 "latestTimestamp" "J" (.long y0_) := P1.other W3 (Or.inr (slot_ne (Or.inl (own_w hw 14 rfl)) (Or.inl (own_w hw 25 rfl)) (by decide) (t := .long) (t' := .long) (by decide) (by decide)))
  obtain ⟨T7, X7, e7, st7⟩ := getF X3 hx hZ hown (host := "") (Or.inl (own_w hw 13 rfl)) Via.refl e3 f6 (g := (mkF m 15 #[lvR o0_, lvR o1_] [(.ref o0_), (.ref o0_)])) rfl rfl (hb hby d3_15)
  have f8 : Fld Z h3 o1_ cn0 "latestTimestamp" "J" (.long (-9223372036854775808 : Int64)) := P5.other W3 (Or.inl P9)
  obtain ⟨T9, X9, e9, st9⟩ := getF X7 hx hZ hown (host := "") (Or.inl (own_w hw 13 rfl)) Via.refl e7 f8 (g := (mkF m 19 #[lvR o0_, lvR o1_] [(.ref o1_), (.long y0_), (.ref o0_)])) rfl rfl (hb hby d3_19)
  have f11 : Old Z n0 h3 := O0.wr W3 P8
  obtain ⟨_, _, ⟨T10, L10, k10, n10⟩, -, X10, ⟨Lc10, hQ10, l10, y10, z10⟩, st10⟩ := Jvm.LawKit.callS X9 hx (y := (⟨"java/lang/Math", "max", "(JJ)J"⟩ : MethodName)) hown (mvT hZ (own_w hw 27 rfl)) (mvT hZ (own_w hw 28 rfl)) (mvT hZ (own_w hw 29 rfl)) (mvT hZ (own_w hw 30 rfl)) (by decide) (backOf (W := 1) (rmMax l Z a0 hw [] y0_ (-9223372036854775808 : Int64) h3 n0 f11 ) hZ (own_w hw 30 rfl) (own_w hw 29 rfl) (by decide) (by decide)) (g := (mkF m 22 #[lvR o0_, lvR o1_] [(.long (-9223372036854775808 : Int64)), (.long y0_), (.ref o0_)])) rfl (by rw [hml]; rfl) (argsL := [(.long y0_), (.long (-9223372036854775808 : Int64))]) (rest := [(.ref o0_)]) (lenOf pd_1 rfl) rfl (by show 2 * 0 + _ ≤ _; exact Nat.le_of_eq rfl) (hb hby d3_22) (fun _ _ => ⟨rfl, e9, (by decide : 0 + 0 ≤ _), (by decide : 0 + 0 ≤ _)⟩)
  dsimp only [Pt.U, Pt.locs, Pt.cells, Pt.slots] at X10 l10 y10 z10 st10 hQ10
  subst l10 y10 z10
  obtain ⟨h10, e10⟩ : ∃ z, T10.heap = z := ⟨_, rfl⟩
  rw [e10] at hQ10
  obtain ⟨rfl, N10q, hh10⟩ := hQ10
  have N12 := Fr.app N4 N10q
  have e10' : T10.heap = h3 := e10.trans hh10
  have f13 : Exa Z h3 o0_ cn0 := P0.wr W3
  obtain ⟨T14, h14, X14, e14, W14, st14⟩ := putF X10 hx hZ hown (host := "") (Or.inl (own_w hw 13 rfl)) Via.refl e10' f6 f13 (Or.inl (own_w hw 14 rfl)) (own_w hw 4 rfl) (ty := .long) (by decide) rfl rfl (g := (mkF m 25 #[lvR o0_, lvR o1_] [(.long (own_max y0_ (-9223372036854775808 : Int64))), (.ref o0_)])) rfl rfl (hb hby d3_25)
  have N15 := Fr.snoc X14 N12 P8
  have f16 : Fld Z h14 o0_ cn0 "latestTimestamp" "J" (.long (own_max y0_ (-9223372036854775808 : Int64))) := f6.same W14
  have f17 : Fld Z h3 o0_ cn0 "latestDeleteTimestamp" "J" (.long (-9223372036854775808 : Int64)) := P2.other W3 (Or.inr (slot_ne (Or.inl (own_w hw 16 rfl)) (Or.inl (own_w hw 25 rfl)) (by decide) (t := .long) (t' := .long) (by decide) (by decide)))
  have f18 : Fld Z h14 o0_ cn0 "latestDeleteTimestamp" "J" (.long (-9223372036854775808 : Int64)) := f17.other W14 (Or.inr (slot_ne (Or.inl (own_w hw 16 rfl)) (Or.inl (own_w hw 14 rfl)) (by decide) (t := .long) (t' := .long) (by decide) (by decide)))
  obtain ⟨T19, X19, e19, st19⟩ := getF X14 hx hZ hown (host := "") (Or.inl (own_w hw 15 rfl)) Via.refl e14 f18 (g := (mkF m 30 #[lvR o0_, lvR o1_] [(.ref o0_), (.ref o0_)])) rfl rfl (hb hby d3_30)
  have f20 : Fld Z h3 o1_ cn0 "latestDeleteTimestamp" "J" (.long (-9223372036854775808 : Int64)) := P6.other W3 (Or.inl P9)
  have f21 : Fld Z h14 o1_ cn0 "latestDeleteTimestamp" "J" (.long (-9223372036854775808 : Int64)) := f20.other W14 (Or.inl P9)
  obtain ⟨T22, X22, e22, st22⟩ := getF X19 hx hZ hown (host := "") (Or.inl (own_w hw 15 rfl)) Via.refl e19 f21 (g := (mkF m 34 #[lvR o0_, lvR o1_] [(.ref o1_), (.long (-9223372036854775808 : Int64)), (.ref o0_)])) rfl rfl (hb hby d3_34)
  have f24 : Old Z n0 h14 := f11.wr W14 P8
  obtain ⟨_, _, ⟨T23, L23, k23, n23⟩, -, X23, ⟨Lc23, hQ23, l23, y23, z23⟩, st23⟩ := Jvm.LawKit.callS X22 hx (y := (⟨"java/lang/Math", "max", "(JJ)J"⟩ : MethodName)) hown (mvT hZ (own_w hw 27 rfl)) (mvT hZ (own_w hw 28 rfl)) (mvT hZ (own_w hw 29 rfl)) (mvT hZ (own_w hw 30 rfl)) (by decide) (backOf (W := 1) (rmMax l Z a0 hw [] (-9223372036854775808 : Int64) (-9223372036854775808 : Int64) h14 n0 f24 ) hZ (own_w hw 30 rfl) (own_w hw 29 rfl) (by decide) (by decide)) (g := (mkF m 37 #[lvR o0_, lvR o1_] [(.long (-9223372036854775808 : Int64)), (.long (-9223372036854775808 : Int64)), (.ref o0_)])) rfl (by rw [hml]; rfl) (argsL := [(.long (-9223372036854775808 : Int64)), (.long (-9223372036854775808 : Int64))]) (rest := [(.ref o0_)]) (lenOf pd_1 rfl) rfl (by show 2 * 0 + _ ≤ _; exact Nat.le_of_eq rfl) (hb hby d3_37) (fun _ _ => ⟨rfl, e22, (by decide : 0 + 0 ≤ _), (by decide : 0 + 0 ≤ _)⟩)
  dsimp only [Pt.U, Pt.locs, Pt.cells, Pt.slots] at X23 l23 y23 z23 st23 hQ23
  subst l23 y23 z23
  obtain ⟨h23, e23⟩ : ∃ z, T23.heap = z := ⟨_, rfl⟩
  rw [e23] at hQ23
  obtain ⟨rfl, N23q, hh23⟩ := hQ23
  have N25 := Fr.app N15 N23q
  have e23' : T23.heap = h14 := e23.trans hh23
  have f26 : Exa Z h14 o0_ cn0 := f13.wr W14
  obtain ⟨T27, h27, X27, e27, W27, st27⟩ := putF X23 hx hZ hown (host := "") (Or.inl (own_w hw 15 rfl)) Via.refl e23' f18 f26 (Or.inl (own_w hw 16 rfl)) (own_w hw 4 rfl) (ty := .long) (by decide) rfl rfl (g := (mkF m 40 #[lvR o0_, lvR o1_] [(.long (own_max (-9223372036854775808 : Int64) (-9223372036854775808 : Int64))), (.ref o0_)])) rfl rfl (hb hby d3_40)
  have N28 := Fr.snoc X27 N25 P8
  have f29 : Fld Z h27 o0_ cn0 "latestDeleteTimestamp" "J" (.long (own_max (-9223372036854775808 : Int64) (-9223372036854775808 : Int64))) := f18.same W27
  have pre30 : ∀ t, own_S p e below m T27 43 #[lvR o0_, lvR o1_] [] t → G t := by
    intro t kt
    refine pre0 t ?_
    show own_S p e below m s₁ 0 #[lvR o0_, lvR o1_] [] _
    refine XS.aloadN X0.here hx rfl (hb hby d3_0) rfl rfl ?_
    refine XS.dup X0.here hx rfl (hb hby d3_1) rfl rfl ?_
    show own_S p e below m s₁ 2 #[lvR o0_, lvR o1_] [(.ref o0_), (.ref o0_)] _
    refine st1 _ ?_
    refine XS.aloadN X1.here hx rfl (hb hby d3_5) rfl rfl ?_
    show own_S p e below m T1 6 #[lvR o0_, lvR o1_] [(.ref o1_), (.long (1 : Int64)), (.ref o0_)] _
    refine st2 _ ?_
    refine XS.ladd X2.here hx rfl (hb hby d3_9) rfl ?_
    show own_S p e below m T2 10 #[lvR o0_, lvR o1_] [(.long (1 : Int64)), (.ref o0_)] _
    refine st3 _ ?_
    refine XS.aloadN X3.here hx rfl (hb hby d3_13) rfl rfl ?_
    refine XS.aloadN X3.here hx rfl (hb hby d3_14) rfl rfl ?_
    show own_S p e below m T3 15 #[lvR o0_, lvR o1_] [(.ref o0_), (.ref o0_)] _
    refine st7 _ ?_
    refine XS.aloadN X7.here hx rfl (hb hby d3_18) rfl rfl ?_
    show own_S p e below m T7 19 #[lvR o0_, lvR o1_] [(.ref o1_), (.long y0_), (.ref o0_)] _
    refine st9 _ ?_
    show own_S p e below m T9 22 #[lvR o0_, lvR o1_] [(.long (-9223372036854775808 : Int64)), (.long y0_), (.ref o0_)] _
    refine st10 _ ?_
    show own_S p e below m T10 25 #[lvR o0_, lvR o1_] [(.long (own_max y0_ (-9223372036854775808 : Int64))), (.ref o0_)] _
    refine st14 _ ?_
    refine XS.aloadN X14.here hx rfl (hb hby d3_28) rfl rfl ?_
    refine XS.aloadN X14.here hx rfl (hb hby d3_29) rfl rfl ?_
    show own_S p e below m T14 30 #[lvR o0_, lvR o1_] [(.ref o0_), (.ref o0_)] _
    refine st19 _ ?_
    refine XS.aloadN X19.here hx rfl (hb hby d3_33) rfl rfl ?_
    show own_S p e below m T19 34 #[lvR o0_, lvR o1_] [(.ref o1_), (.long (-9223372036854775808 : Int64)), (.ref o0_)] _
    refine st22 _ ?_
    show own_S p e below m T22 37 #[lvR o0_, lvR o1_] [(.long (-9223372036854775808 : Int64)), (.long (-9223372036854775808 : Int64)), (.ref o0_)] _
    refine st23 _ ?_
    show own_S p e below m T23 40 #[lvR o0_, lvR o1_] [(.long (own_max (-9223372036854775808 : Int64) (-9223372036854775808 : Int64))), (.ref o0_)] _
    refine st27 _ ?_
    exact kt
  have f32 : Keep h0 h3 [o0_] := K0.wr W3 (Or.inl (List.mem_of_getElem? (i := 0) rfl))
  have f33 : Keep h0 h14 [o0_] := f32.wr W14 (Or.inl (List.mem_of_getElem? (i := 0) rfl))
  have f34 : Keep h0 h27 [o0_] := f33.wr W27 (Or.inl (List.mem_of_getElem? (i := 0) rfl))
  have f35 : Exa Z h27 o0_ cn0 := f26.wr W27
  have f36 : Fld Z h27 o0_ cn0 "latestTimestamp" "J" (.long (own_max y0_ (-9223372036854775808 : Int64))) := f16.other W27 (Or.inr (slot_ne (Or.inl (own_w hw 14 rfl)) (Or.inl (own_w hw 16 rfl)) (by decide) (t := .long) (t' := .long) (by decide) (by decide)))
  have f37 : Fld Z h14 o0_ cn0 "cells" "J" (.long (1 : Int64)) := f5.other W14 (Or.inr (slot_ne (Or.inl (own_w hw 25 rfl)) (Or.inl (own_w hw 14 rfl)) (by decide) (t := .long) (t' := .long) (by decide) (by decide)))
  have f38 : Fld Z h27 o0_ cn0 "cells" "J" (.long (1 : Int64)) := f37.other W27 (Or.inr (slot_ne (Or.inl (own_w hw 25 rfl)) (Or.inl (own_w hw 16 rfl)) (by decide) (t := .long) (t' := .long) (by decide) (by decide)))
  obtain ⟨fs, hr, hrun, hended, hW, hsame⟩ := X27.leave (v := none) (fun _ => rfl)
  refine ⟨_, _, hG _ (pre30 _ (X27.returnOut hx Bd.returns (hb hby d3_43) hr)), hrun, hended, _, _, rfl, ?_, ⟨_, rfl⟩, hW, hsame.mono (by decide) (by decide)⟩
  show Qadd29 Z o0_ o1_ y0_ h0 n0 _ T27.heap _
  rw [e27]
  exact ⟨rfl, N28, f34, f35, f36, f29, f38⟩
theorem efadd30 (m : MethodId) (o0_ : Addr) (o1_ : Addr) : entryFrame m #[(.ref o0_), (.ref o1_)] 2 = mkF m 0 #[lvR o0_, lvR o1_] [] := by first | (simp [entryFrame, mkF, argsToLocals, Value.category]; done) | rfl
def Qadd30 (Z : State) (o0_ : Addr) (o1_ : Addr) (y0_ : Int64) (y1_ : Int64) (h0 : Heap) (n0 : Nat) (v : Option Value) (h : Heap) (L : List Loc) : Prop := v = none ∧ Fr n0 L ∧ Keep h0 h [o0_] ∧ Exa Z h o0_ cn0 ∧ Fld Z h o0_ cn0 "latestTimestamp" "J" (.long (own_max y0_ (-9223372036854775808 : Int64))) ∧ Fld Z h o0_ cn0 "latestDeleteTimestamp" "J" (.long (own_max (-9223372036854775808 : Int64) y1_)) ∧ Fld Z h o0_ cn0 "cells" "J" (.long (2 : Int64))
set_option maxRecDepth 65536 in
set_option maxHeartbeats 40000000 in
theorem rmadd30 (l : Launch) (Z : State) (a0 : Array Value) (hw : ∀ d ∈ tables_1, d.before a0 Z = true) (ws : List Jvm.Cond) (o0_ : Addr) (o1_ : Addr) (y0_ : Int64) (y1_ : Int64) (h0 : Heap) (n0 : Nat) (O0 : Old Z n0 h0) (P0 : Exa Z h0 o0_ cn0) (P1 : Fld Z h0 o0_ cn0 "latestTimestamp" "J" (.long y0_)) (P2 : Fld Z h0 o0_ cn0 "latestDeleteTimestamp" "J" (.long (-9223372036854775808 : Int64))) (P3 : Fld Z h0 o0_ cn0 "cells" "J" (.long (1 : Int64))) (P4 : Exa Z h0 o1_ cn0) (P5 : Fld Z h0 o1_ cn0 "latestTimestamp" "J" (.long (-9223372036854775808 : Int64))) (P6 : Fld Z h0 o1_ cn0 "latestDeleteTimestamp" "J" (.long y1_)) (P7 : Fld Z h0 o1_ cn0 "cells" "J" (.long (1 : Int64))) (P8 : n0 ≤ o0_) (P9 : o1_ ≠ o0_) :
    MetFree l (⟨"com/example/zenodotus/zenodotus/io/RowCodec$Tally", "add", "(Lcom/example/zenodotus/zenodotus/io/RowCodec$Tally;)V"⟩ : MethodName) (head1 (Jvm.Cond.code (⟨"com/example/zenodotus/zenodotus/io/RowCodec$Tally", "add", "(Lcom/example/zenodotus/zenodotus/io/RowCodec$Tally;)V"⟩ : MethodName) prog_38_method_3_code 2 none :: ws) ({ frames := 1, cells := 0, slots := 0, locals := 16 } : Room)) (fun a U => a = #[(.ref o0_), (.ref o1_)] ∧ Z.Warmed39 U.vm ∧ U.heap = h0) (fun _ _ _ _ _ => True) (fun _ U o U' => ∃ v L, o = .returned v ∧ Qadd30 Z o0_ o1_ y0_ y1_ h0 n0 v U'.heap L ∧ FrameEnd U o U' L ({ frames := 1, cells := 0, slots := 0, locals := 16 } : Room).cells ({ frames := 1, cells := 0, slots := 0, locals := 16 } : Room).slots) := by
  refine MetFree.of_bodySF (plainFor_of_name pn_0) hisR ?_
  intro p e s m args below meth c s₁ Bd hml0 hP hK
  obtain ⟨rfl, hZ, hh⟩ := hP
  have hx := Bd.exec
  have hby := Bd.bytes
  have hml : c.maxLocals = 2 := hml0
  have hown : s.vm.findClass "com/example/zenodotus/zenodotus/io/RowCodec$Tally" = some m.cls := findClass_of_methodNamed Bd.named
  have hnm := (name_of_methodNamed Bd.named Bd.method).1
  have X0 : Stand p l e ({ frames := 1, cells := 0, slots := 0, locals := 16 } : Room) s m #[(.ref o0_), (.ref o1_)] below meth c s₁ [] 0 0 := Stand.of_body Bd
  have e0 : s₁.heap = h0 := by rw [← hh, Bd.state]; rfl
  have N0 := Fr.nil n0
  obtain ⟨G, pre0, hG⟩ : ∃ G : State → Prop, (∀ t, own_S p e below m s₁ 0 #[lvR o0_, lvR o1_] [] t → G t) ∧ (∀ t, G t → Steps p.tables e below (s₁.setTop (entryFrame m #[(.ref o0_), (.ref o1_)] 2)) t) := ⟨fun t => Steps p.tables e below (s₁.setTop (entryFrame m #[(.ref o0_), (.ref o1_)] 2)) t, fun t k => castTop (efadd30 m o0_ o1_) k, fun _ k => k⟩
  have K0 : Keep h0 h0 [o0_] := Keep.refl _ _
  obtain ⟨T1, X1, e1, st1⟩ := getF X0 hx hZ hown (host := "") (Or.inl (own_w hw 24 rfl)) Via.refl e0 P3 (g := (mkF m 2 #[lvR o0_, lvR o1_] [(.ref o0_), (.ref o0_)])) rfl rfl (hb hby d3_2)
  obtain ⟨T2, X2, e2, st2⟩ := getF X1 hx hZ hown (host := "") (Or.inl (own_w hw 24 rfl)) Via.refl e1 P7 (g := (mkF m 6 #[lvR o0_, lvR o1_] [(.ref o1_), (.long (1 : Int64)), (.ref o0_)])) rfl rfl (hb hby d3_6)
  obtain ⟨T3, h3, X3, e3, W3, st3⟩ := putF X2 hx hZ hown (host := "") (Or.inl (own_w hw 24 rfl)) Via.refl e2 P3 P0 (Or.inl (own_w hw 25 rfl)) (own_w hw 4 rfl) (ty := .long) (by decide) rfl rfl (g := (mkF m 10 #[lvR o0_, lvR o1_] [(.long (2 : Int64)), (.ref o0_)])) rfl rfl (hb hby d3_10)
  have N4 := Fr.snoc X3 N0 P8
  have f5 : Fld Z h3 o0_ cn0 "cells" "J" (.long (2 : Int64)) := P3.same W3
  have f6 : Fld Z h3 o0_ cn0 "latestTimestamp" "J" (.long y0_) := P1.other W3 (Or.inr (slot_ne (Or.inl (own_w hw 14 rfl)) (Or.inl (own_w hw 25 rfl)) (by decide) (t := .long) (t' := .long) (by decide) (by decide)))
  obtain ⟨T7, X7, e7, st7⟩ := getF X3 hx hZ hown (host := "") (Or.inl (own_w hw 13 rfl)) Via.refl e3 f6 (g := (mkF m 15 #[lvR o0_, lvR o1_] [(.ref o0_), (.ref o0_)])) rfl rfl (hb hby d3_15)
  have f8 : Fld Z h3 o1_ cn0 "latestTimestamp" "J" (.long (-9223372036854775808 : Int64)) := P5.other W3 (Or.inl P9)
  obtain ⟨T9, X9, e9, st9⟩ := getF X7 hx hZ hown (host := "") (Or.inl (own_w hw 13 rfl)) Via.refl e7 f8 (g := (mkF m 19 #[lvR o0_, lvR o1_] [(.ref o1_), (.long y0_), (.ref o0_)])) rfl rfl (hb hby d3_19)
  have f11 : Old Z n0 h3 := O0.wr W3 P8
  obtain ⟨_, _, ⟨T10, L10, k10, n10⟩, -, X10, ⟨Lc10, hQ10, l10, y10, z10⟩, st10⟩ := Jvm.LawKit.callS X9 hx (y := (⟨"java/lang/Math", "max", "(JJ)J"⟩ : MethodName)) hown (mvT hZ (own_w hw 27 rfl)) (mvT hZ (own_w hw 28 rfl)) (mvT hZ (own_w hw 29 rfl)) (mvT hZ (own_w hw 30 rfl)) (by decide) (backOf (W := 1) (rmMax l Z a0 hw [] y0_ (-9223372036854775808 : Int64) h3 n0 f11 ) hZ (own_w hw 30 rfl) (own_w hw 29 rfl) (by decide) (by decide)) (g := (mkF m 22 #[lvR o0_, lvR o1_] [(.long (-9223372036854775808 : Int64)), (.long y0_), (.ref o0_)])) rfl (by rw [hml]; rfl) (argsL := [(.long y0_), (.long (-9223372036854775808 : Int64))]) (rest := [(.ref o0_)]) (lenOf pd_1 rfl) rfl (by show 2 * 0 + _ ≤ _; exact Nat.le_of_eq rfl) (hb hby d3_22) (fun _ _ => ⟨rfl, e9, (by decide : 0 + 0 ≤ _), (by decide : 0 + 0 ≤ _)⟩)
  dsimp only [Pt.U, Pt.locs, Pt.cells, Pt.slots] at X10 l10 y10 z10 st10 hQ10
  subst l10 y10 z10
  obtain ⟨h10, e10⟩ : ∃ z, T10.heap = z := ⟨_, rfl⟩
  rw [e10] at hQ10
  obtain ⟨rfl, N10q, hh10⟩ := hQ10
  have N12 := Fr.app N4 N10q
  have e10' : T10.heap = h3 := e10.trans hh10
  have f13 : Exa Z h3 o0_ cn0 := P0.wr W3
  obtain ⟨T14, h14, X14, e14, W14, st14⟩ := putF X10 hx hZ hown (host := "") (Or.inl (own_w hw 13 rfl)) Via.refl e10' f6 f13 (Or.inl (own_w hw 14 rfl)) (own_w hw 4 rfl) (ty := .long) (by decide) rfl rfl (g := (mkF m 25 #[lvR o0_, lvR o1_] [(.long (own_max y0_ (-9223372036854775808 : Int64))), (.ref o0_)])) rfl rfl (hb hby d3_25)
  have N15 := Fr.snoc X14 N12 P8
  have f16 : Fld Z h14 o0_ cn0 "latestTimestamp" "J" (.long (own_max y0_ (-9223372036854775808 : Int64))) := f6.same W14
  have f17 : Fld Z h3 o0_ cn0 "latestDeleteTimestamp" "J" (.long (-9223372036854775808 : Int64)) := P2.other W3 (Or.inr (slot_ne (Or.inl (own_w hw 16 rfl)) (Or.inl (own_w hw 25 rfl)) (by decide) (t := .long) (t' := .long) (by decide) (by decide)))
  have f18 : Fld Z h14 o0_ cn0 "latestDeleteTimestamp" "J" (.long (-9223372036854775808 : Int64)) := f17.other W14 (Or.inr (slot_ne (Or.inl (own_w hw 16 rfl)) (Or.inl (own_w hw 14 rfl)) (by decide) (t := .long) (t' := .long) (by decide) (by decide)))
  obtain ⟨T19, X19, e19, st19⟩ := getF X14 hx hZ hown (host := "") (Or.inl (own_w hw 15 rfl)) Via.refl e14 f18 (g := (mkF m 30 #[lvR o0_, lvR o1_] [(.ref o0_), (.ref o0_)])) rfl rfl (hb hby d3_30)
  have f20 : Fld Z h3 o1_ cn0 "latestDeleteTimestamp" "J" (.long y1_) := P6.other W3 (Or.inl P9)
  have f21 : Fld Z h14 o1_ cn0 "latestDeleteTimestamp" "J" (.long y1_) := f20.other W14 (Or.inl P9)
  obtain ⟨T22, X22, e22, st22⟩ := getF X19 hx hZ hown (host := "") (Or.inl (own_w hw 15 rfl)) Via.refl e19 f21 (g := (mkF m 34 #[lvR o0_, lvR o1_] [(.ref o1_), (.long (-9223372036854775808 : Int64)), (.ref o0_)])) rfl rfl (hb hby d3_34)
  have f24 : Old Z n0 h14 := f11.wr W14 P8
  obtain ⟨_, _, ⟨T23, L23, k23, n23⟩, -, X23, ⟨Lc23, hQ23, l23, y23, z23⟩, st23⟩ := Jvm.LawKit.callS X22 hx (y := (⟨"java/lang/Math", "max", "(JJ)J"⟩ : MethodName)) hown (mvT hZ (own_w hw 27 rfl)) (mvT hZ (own_w hw 28 rfl)) (mvT hZ (own_w hw 29 rfl)) (mvT hZ (own_w hw 30 rfl)) (by decide) (backOf (W := 1) (rmMax l Z a0 hw [] (-9223372036854775808 : Int64) y1_ h14 n0 f24 ) hZ (own_w hw 30 rfl) (own_w hw 29 rfl) (by decide) (by decide)) (g := (mkF m 37 #[lvR o0_, lvR o1_] [(.long y1_), (.long (-9223372036854775808 : Int64)), (.ref o0_)])) rfl (by rw [hml]; rfl) (argsL := [(.long (-9223372036854775808 : Int64)), (.long y1_)]) (rest := [(.ref o0_)]) (lenOf pd_1 rfl) rfl (by show 2 * 0 + _ ≤ _; exact Nat.le_of_eq rfl) (hb hby d3_37) (fun _ _ => ⟨rfl, e22, (by decide : 0 + 0 ≤ _), (by decide : 0 + 0 ≤ _)⟩)
  dsimp only [Pt.U, Pt.locs, Pt.cells, Pt.slots] at X23 l23 y23 z23 st23 hQ23
  subst l23 y23 z23
  obtain ⟨h23, e23⟩ : ∃ z, T23.heap = z := ⟨_, rfl⟩
  rw [e23] at hQ23
  obtain ⟨rfl, N23q, hh23⟩ := hQ23
  have N25 := Fr.app N15 N23q
  have e23' : T23.heap = h14 := e23.trans hh23
  have f26 : Exa Z h14 o0_ cn0 := f13.wr W14
  obtain ⟨T27, h27, X27, e27, W27, st27⟩ := putF X23 hx hZ hown (host := "") (Or.inl (own_w hw 15 rfl)) Via.refl e23' f18 f26 (Or.inl (own_w hw 16 rfl)) (own_w hw 4 rfl) (ty := .long) (by decide) rfl rfl (g := (mkF m 40 #[lvR o0_, lvR o1_] [(.long (own_max (-9223372036854775808 : Int64) y1_)), (.ref o0_)])) rfl rfl (hb hby d3_40)
  have N28 := Fr.snoc X27 N25 P8
  have f29 : Fld Z h27 o0_ cn0 "latestDeleteTimestamp" "J" (.long (own_max (-9223372036854775808 : Int64) y1_)) := f18.same W27
  have pre30 : ∀ t, own_S p e below m T27 43 #[lvR o0_, lvR o1_] [] t → G t := by
    intro t kt
    refine pre0 t ?_
    show own_S p e below m s₁ 0 #[lvR o0_, lvR o1_] [] _
    refine XS.aloadN X0.here hx rfl (hb hby d3_0) rfl rfl ?_
    refine XS.dup X0.here hx rfl (hb hby d3_1) rfl rfl ?_
    show own_S p e below m s₁ 2 #[lvR o0_, lvR o1_] [(.ref o0_), (.ref o0_)] _
    refine st1 _ ?_
    refine XS.aloadN X1.here hx rfl (hb hby d3_5) rfl rfl ?_
    show own_S p e below m T1 6 #[lvR o0_, lvR o1_] [(.ref o1_), (.long (1 : Int64)), (.ref o0_)] _
    refine st2 _ ?_
    refine XS.ladd X2.here hx rfl (hb hby d3_9) rfl ?_
    show own_S p e below m T2 10 #[lvR o0_, lvR o1_] [(.long (2 : Int64)), (.ref o0_)] _
    refine st3 _ ?_
    refine XS.aloadN X3.here hx rfl (hb hby d3_13) rfl rfl ?_
    refine XS.aloadN X3.here hx rfl (hb hby d3_14) rfl rfl ?_
    show own_S p e below m T3 15 #[lvR o0_, lvR o1_] [(.ref o0_), (.ref o0_)] _
    refine st7 _ ?_
    refine XS.aloadN X7.here hx rfl (hb hby d3_18) rfl rfl ?_
    show own_S p e below m T7 19 #[lvR o0_, lvR o1_] [(.ref o1_), (.long y0_), (.ref o0_)] _
    refine st9 _ ?_
    show own_S p e below m T9 22 #[lvR o0_, lvR o1_] [(.long (-9223372036854775808 : Int64)), (.long y0_), (.ref o0_)] _
    refine st10 _ ?_
    show own_S p e below m T10 25 #[lvR o0_, lvR o1_] [(.long (own_max y0_ (-9223372036854775808 : Int64))), (.ref o0_)] _
    refine st14 _ ?_
    refine XS.aloadN X14.here hx rfl (hb hby d3_28) rfl rfl ?_
    refine XS.aloadN X14.here hx rfl (hb hby d3_29) rfl rfl ?_
    show own_S p e below m T14 30 #[lvR o0_, lvR o1_] [(.ref o0_), (.ref o0_)] _
    refine st19 _ ?_
    refine XS.aloadN X19.here hx rfl (hb hby d3_33) rfl rfl ?_
    show own_S p e below m T19 34 #[lvR o0_, lvR o1_] [(.ref o1_), (.long (-9223372036854775808 : Int64)), (.ref o0_)] _
    refine st22 _ ?_
    show own_S p e below m T22 37 #[lvR o0_, lvR o1_] [(.long y1_), (.long (-9223372036854775808 : Int64)), (.ref o0_)] _
    refine st23 _ ?_
    show own_S p e below m T23 40 #[lvR o0_, lvR o1_] [(.long (own_max (-9223372036854775808 : Int64) y1_)), (.ref o0_)] _
    refine st27 _ ?_
    exact kt
  have f32 : Keep h0 h3 [o0_] := K0.wr W3 (Or.inl (List.mem_of_getElem? (i := 0) rfl))
  have f33 : Keep h0 h14 [o0_] := f32.wr W14 (Or.inl (List.mem_of_getElem? (i := 0) rfl))
  have f34 : Keep h0 h27 [o0_] := f33.wr W27 (Or.inl (List.mem_of_getElem? (i := 0) rfl))
  have f35 : Exa Z h27 o0_ cn0 := f26.wr W27
  have f36 : Fld Z h27 o0_ cn0 "latestTimestamp" "J" (.long (own_max y0_ (-9223372036854775808 : Int64))) := f16.other W27 (Or.inr (slot_ne (Or.inl (own_w hw 14 rfl)) (Or.inl (own_w hw 16 rfl)) (by decide) (t := .long) (t' := .long) (by decide) (by decide)))
  have f37 : Fld Z h14 o0_ cn0 "cells" "J" (.long (2 : Int64)) := f5.other W14 (Or.inr (slot_ne (Or.inl (own_w hw 25 rfl)) (Or.inl (own_w hw 14 rfl)) (by decide) (t := .long) (t' := .long) (by decide) (by decide)))
  have f38 : Fld Z h27 o0_ cn0 "cells" "J" (.long (2 : Int64)) := f37.other W27 (Or.inr (slot_ne (Or.inl (own_w hw 25 rfl)) (Or.inl (own_w hw 16 rfl)) (by decide) (t := .long) (t' := .long) (by decide) (by decide)))
  obtain ⟨fs, hr, hrun, hended, hW, hsame⟩ := X27.leave (v := none) (fun _ => rfl)
  refine ⟨_, _, hG _ (pre30 _ (X27.returnOut hx Bd.returns (hb hby d3_43) hr)), hrun, hended, _, _, rfl, ?_, ⟨_, rfl⟩, hW, hsame.mono (by decide) (by decide)⟩
  show Qadd30 Z o0_ o1_ y0_ y1_ h0 n0 _ T27.heap _
  rw [e27]
  exact ⟨rfl, N28, f34, f35, f36, f29, f38⟩
theorem efadd31 (m : MethodId) (o0_ : Addr) (o1_ : Addr) : entryFrame m #[(.ref o0_), (.ref o1_)] 2 = mkF m 0 #[lvR o0_, lvR o1_] [] := by first | (simp [entryFrame, mkF, argsToLocals, Value.category]; done) | rfl
def Qadd31 (Z : State) (o0_ : Addr) (o1_ : Addr) (y0_ : Int64) (y1_ : Int64) (h0 : Heap) (n0 : Nat) (v : Option Value) (h : Heap) (L : List Loc) : Prop := v = none ∧ Fr n0 L ∧ Keep h0 h [o0_] ∧ Exa Z h o0_ cn0 ∧ Fld Z h o0_ cn0 "latestTimestamp" "J" (.long (own_max y0_ y1_)) ∧ Fld Z h o0_ cn0 "latestDeleteTimestamp" "J" (.long (own_max (-9223372036854775808 : Int64) (-9223372036854775808 : Int64))) ∧ Fld Z h o0_ cn0 "cells" "J" (.long (2 : Int64))
set_option maxRecDepth 65536 in
set_option maxHeartbeats 40000000 in
theorem rmadd31 (l : Launch) (Z : State) (a0 : Array Value) (hw : ∀ d ∈ tables_1, d.before a0 Z = true) (ws : List Jvm.Cond) (o0_ : Addr) (o1_ : Addr) (y0_ : Int64) (y1_ : Int64) (h0 : Heap) (n0 : Nat) (O0 : Old Z n0 h0) (P0 : Exa Z h0 o0_ cn0) (P1 : Fld Z h0 o0_ cn0 "latestTimestamp" "J" (.long y0_)) (P2 : Fld Z h0 o0_ cn0 "latestDeleteTimestamp" "J" (.long (-9223372036854775808 : Int64))) (P3 : Fld Z h0 o0_ cn0 "cells" "J" (.long (1 : Int64))) (P4 : Exa Z h0 o1_ cn0) (P5 : Fld Z h0 o1_ cn0 "latestTimestamp" "J" (.long y1_)) (P6 : Fld Z h0 o1_ cn0 "latestDeleteTimestamp" "J" (.long (-9223372036854775808 : Int64))) (P7 : Fld Z h0 o1_ cn0 "cells" "J" (.long (1 : Int64))) (P8 : n0 ≤ o0_) (P9 : o1_ ≠ o0_) :
    MetFree l (⟨"com/example/zenodotus/zenodotus/io/RowCodec$Tally", "add", "(Lcom/example/zenodotus/zenodotus/io/RowCodec$Tally;)V"⟩ : MethodName) (head1 (Jvm.Cond.code (⟨"com/example/zenodotus/zenodotus/io/RowCodec$Tally", "add", "(Lcom/example/zenodotus/zenodotus/io/RowCodec$Tally;)V"⟩ : MethodName) prog_38_method_3_code 2 none :: ws) ({ frames := 1, cells := 0, slots := 0, locals := 16 } : Room)) (fun a U => a = #[(.ref o0_), (.ref o1_)] ∧ Z.Warmed39 U.vm ∧ U.heap = h0) (fun _ _ _ _ _ => True) (fun _ U o U' => ∃ v L, o = .returned v ∧ Qadd31 Z o0_ o1_ y0_ y1_ h0 n0 v U'.heap L ∧ FrameEnd U o U' L ({ frames := 1, cells := 0, slots := 0, locals := 16 } : Room).cells ({ frames := 1, cells := 0, slots := 0, locals := 16 } : Room).slots) := by
  refine MetFree.of_bodySF (plainFor_of_name pn_0) hisR ?_
  intro p e s m args below meth c s₁ Bd hml0 hP hK
  obtain ⟨rfl, hZ, hh⟩ := hP
  have hx := Bd.exec
  have hby := Bd.bytes
  have hml : c.maxLocals = 2 := hml0
  have hown : s.vm.findClass "com/example/zenodotus/zenodotus/io/RowCodec$Tally" = some m.cls := findClass_of_methodNamed Bd.named
  have hnm := (name_of_methodNamed Bd.named Bd.method).1
  have X0 : Stand p l e ({ frames := 1, cells := 0, slots := 0, locals := 16 } : Room) s m #[(.ref o0_), (.ref o1_)] below meth c s₁ [] 0 0 := Stand.of_body Bd
  have e0 : s₁.heap = h0 := by rw [← hh, Bd.state]; rfl
  have N0 := Fr.nil n0
  obtain ⟨G, pre0, hG⟩ : ∃ G : State → Prop, (∀ t, own_S p e below m s₁ 0 #[lvR o0_, lvR o1_] [] t → G t) ∧ (∀ t, G t → Steps p.tables e below (s₁.setTop (entryFrame m #[(.ref o0_), (.ref o1_)] 2)) t) := ⟨fun t => Steps p.tables e below (s₁.setTop (entryFrame m #[(.ref o0_), (.ref o1_)] 2)) t, fun t k => castTop (efadd31 m o0_ o1_) k, fun _ k => k⟩
  have K0 : Keep h0 h0 [o0_] := Keep.refl _ _
  obtain ⟨T1, X1, e1, st1⟩ := getF X0 hx hZ hown (host := "") (Or.inl (own_w hw 24 rfl)) Via.refl e0 P3 (g := (mkF m 2 #[lvR o0_, lvR o1_] [(.ref o0_), (.ref o0_)])) rfl rfl (hb hby d3_2)
  obtain ⟨T2, X2, e2, st2⟩ := getF X1 hx hZ hown (host := "") (Or.inl (own_w hw 24 rfl)) Via.refl e1 P7 (g := (mkF m 6 #[lvR o0_, lvR o1_] [(.ref o1_), (.long (1 : Int64)), (.ref o0_)])) rfl rfl (hb hby d3_6)
  obtain ⟨T3, h3, X3, e3, W3, st3⟩ := putF X2 hx hZ hown (host := "") (Or.inl (own_w hw 24 rfl)) Via.refl e2 P3 P0 (Or.inl (own_w hw 25 rfl)) (own_w hw 4 rfl) (ty := .long) (by decide) rfl rfl (g := (mkF m 10 #[lvR o0_, lvR o1_] [(.long (2 : Int64)), (.ref o0_)])) rfl rfl (hb hby d3_10)
  have N4 := Fr.snoc X3 N0 P8
  have f5 : Fld Z h3 o0_ cn0 "cells" "J" (.long (2 : Int64)) := P3.same W3
  have f6 : Fld Z h3 o0_ cn0 "latestTimestamp" "J" (.long y0_) := P1.other W3 (Or.inr (slot_ne (Or.inl (own_w hw 14 rfl)) (Or.inl (own_w hw 25 rfl)) (by decide) (t := .long) (t' := .long) (by decide) (by decide)))
  obtain ⟨T7, X7, e7, st7⟩ := getF X3 hx hZ hown (host := "") (Or.inl (own_w hw 13 rfl)) Via.refl e3 f6 (g := (mkF m 15 #[lvR o0_, lvR o1_] [(.ref o0_), (.ref o0_)])) rfl rfl (hb hby d3_15)
  have f8 : Fld Z h3 o1_ cn0 "latestTimestamp" "J" (.long y1_) := P5.other W3 (Or.inl P9)
  obtain ⟨T9, X9, e9, st9⟩ := getF X7 hx hZ hown (host := "") (Or.inl (own_w hw 13 rfl)) Via.refl e7 f8 (g := (mkF m 19 #[lvR o0_, lvR o1_] [(.ref o1_), (.long y0_), (.ref o0_)])) rfl rfl (hb hby d3_19)
  have f11 : Old Z n0 h3 := O0.wr W3 P8
  obtain ⟨_, _, ⟨T10, L10, k10, n10⟩, -, X10, ⟨Lc10, hQ10, l10, y10, z10⟩, st10⟩ := Jvm.LawKit.callS X9 hx (y := (⟨"java/lang/Math", "max", "(JJ)J"⟩ : MethodName)) hown (mvT hZ (own_w hw 27 rfl)) (mvT hZ (own_w hw 28 rfl)) (mvT hZ (own_w hw 29 rfl)) (mvT hZ (own_w hw 30 rfl)) (by decide) (backOf (W := 1) (rmMax l Z a0 hw [] y0_ y1_ h3 n0 f11 ) hZ (own_w hw 30 rfl) (own_w hw 29 rfl) (by decide) (by decide)) (g := (mkF m 22 #[lvR o0_, lvR o1_] [(.long y1_), (.long y0_), (.ref o0_)])) rfl (by rw [hml]; rfl) (argsL := [(.long y0_), (.long y1_)]) (rest := [(.ref o0_)]) (lenOf pd_1 rfl) rfl (by show 2 * 0 + _ ≤ _; exact Nat.le_of_eq rfl) (hb hby d3_22) (fun _ _ => ⟨rfl, e9, (by decide : 0 + 0 ≤ _), (by decide : 0 + 0 ≤ _)⟩)
  dsimp only [Pt.U, Pt.locs, Pt.cells, Pt.slots] at X10 l10 y10 z10 st10 hQ10
  subst l10 y10 z10
  obtain ⟨h10, e10⟩ : ∃ z, T10.heap = z := ⟨_, rfl⟩
  rw [e10] at hQ10
  obtain ⟨rfl, N10q, hh10⟩ := hQ10
  have N12 := Fr.app N4 N10q
  have e10' : T10.heap = h3 := e10.trans hh10
  have f13 : Exa Z h3 o0_ cn0 := P0.wr W3
  obtain ⟨T14, h14, X14, e14, W14, st14⟩ := putF X10 hx hZ hown (host := "") (Or.inl (own_w hw 13 rfl)) Via.refl e10' f6 f13 (Or.inl (own_w hw 14 rfl)) (own_w hw 4 rfl) (ty := .long) (by decide) rfl rfl (g := (mkF m 25 #[lvR o0_, lvR o1_] [(.long (own_max y0_ y1_)), (.ref o0_)])) rfl rfl (hb hby d3_25)
  have N15 := Fr.snoc X14 N12 P8
  have f16 : Fld Z h14 o0_ cn0 "latestTimestamp" "J" (.long (own_max y0_ y1_)) := f6.same W14
  have f17 : Fld Z h3 o0_ cn0 "latestDeleteTimestamp" "J" (.long (-9223372036854775808 : Int64)) := P2.other W3 (Or.inr (slot_ne (Or.inl (own_w hw 16 rfl)) (Or.inl (own_w hw 25 rfl)) (by decide) (t := .long) (t' := .long) (by decide) (by decide)))
  have f18 : Fld Z h14 o0_ cn0 "latestDeleteTimestamp" "J" (.long (-9223372036854775808 : Int64)) := f17.other W14 (Or.inr (slot_ne (Or.inl (own_w hw 16 rfl)) (Or.inl (own_w hw 14 rfl)) (by decide) (t := .long) (t' := .long) (by decide) (by decide)))
  obtain ⟨T19, X19, e19, st19⟩ := getF X14 hx hZ hown (host := "") (Or.inl (own_w hw 15 rfl)) Via.refl e14 f18 (g := (mkF m 30 #[lvR o0_, lvR o1_] [(.ref o0_), (.ref o0_)])) rfl rfl (hb hby d3_30)
  have f20 : Fld Z h3 o1_ cn0 "latestDeleteTimestamp" "J" (.long (-9223372036854775808 : Int64)) := P6.other W3 (Or.inl P9)
  have f21 : Fld Z h14 o1_ cn0 "latestDeleteTimestamp" "J" (.long (-9223372036854775808 : Int64)) := f20.other W14 (Or.inl P9)
  obtain ⟨T22, X22, e22, st22⟩ := getF X19 hx hZ hown (host := "") (Or.inl (own_w hw 15 rfl)) Via.refl e19 f21 (g := (mkF m 34 #[lvR o0_, lvR o1_] [(.ref o1_), (.long (-9223372036854775808 : Int64)), (.ref o0_)])) rfl rfl (hb hby d3_34)
  have f24 : Old Z n0 h14 := f11.wr W14 P8
  obtain ⟨_, _, ⟨T23, L23, k23, n23⟩, -, X23, ⟨Lc23, hQ23, l23, y23, z23⟩, st23⟩ := Jvm.LawKit.callS X22 hx (y := (⟨"java/lang/Math", "max", "(JJ)J"⟩ : MethodName)) hown (mvT hZ (own_w hw 27 rfl)) (mvT hZ (own_w hw 28 rfl)) (mvT hZ (own_w hw 29 rfl)) (mvT hZ (own_w hw 30 rfl)) (by decide) (backOf (W := 1) (rmMax l Z a0 hw [] (-9223372036854775808 : Int64) (-9223372036854775808 : Int64) h14 n0 f24 ) hZ (own_w hw 30 rfl) (own_w hw 29 rfl) (by decide) (by decide)) (g := (mkF m 37 #[lvR o0_, lvR o1_] [(.long (-9223372036854775808 : Int64)), (.long (-9223372036854775808 : Int64)), (.ref o0_)])) rfl (by rw [hml]; rfl) (argsL := [(.long (-9223372036854775808 : Int64)), (.long (-9223372036854775808 : Int64))]) (rest := [(.ref o0_)]) (lenOf pd_1 rfl) rfl (by show 2 * 0 + _ ≤ _; exact Nat.le_of_eq rfl) (hb hby d3_37) (fun _ _ => ⟨rfl, e22, (by decide : 0 + 0 ≤ _), (by decide : 0 + 0 ≤ _)⟩)
  dsimp only [Pt.U, Pt.locs, Pt.cells, Pt.slots] at X23 l23 y23 z23 st23 hQ23
  subst l23 y23 z23
  obtain ⟨h23, e23⟩ : ∃ z, T23.heap = z := ⟨_, rfl⟩
  rw [e23] at hQ23
  obtain ⟨rfl, N23q, hh23⟩ := hQ23
  have N25 := Fr.app N15 N23q
  have e23' : T23.heap = h14 := e23.trans hh23
  have f26 : Exa Z h14 o0_ cn0 := f13.wr W14
  obtain ⟨T27, h27, X27, e27, W27, st27⟩ := putF X23 hx hZ hown (host := "") (Or.inl (own_w hw 15 rfl)) Via.refl e23' f18 f26 (Or.inl (own_w hw 16 rfl)) (own_w hw 4 rfl) (ty := .long) (by decide) rfl rfl (g := (mkF m 40 #[lvR o0_, lvR o1_] [(.long (own_max (-9223372036854775808 : Int64) (-9223372036854775808 : Int64))), (.ref o0_)])) rfl rfl (hb hby d3_40)
  have N28 := Fr.snoc X27 N25 P8
  have f29 : Fld Z h27 o0_ cn0 "latestDeleteTimestamp" "J" (.long (own_max (-9223372036854775808 : Int64) (-9223372036854775808 : Int64))) := f18.same W27
  have pre30 : ∀ t, own_S p e below m T27 43 #[lvR o0_, lvR o1_] [] t → G t := by
    intro t kt
    refine pre0 t ?_
    show own_S p e below m s₁ 0 #[lvR o0_, lvR o1_] [] _
    refine XS.aloadN X0.here hx rfl (hb hby d3_0) rfl rfl ?_
    refine XS.dup X0.here hx rfl (hb hby d3_1) rfl rfl ?_
    show own_S p e below m s₁ 2 #[lvR o0_, lvR o1_] [(.ref o0_), (.ref o0_)] _
    refine st1 _ ?_
    refine XS.aloadN X1.here hx rfl (hb hby d3_5) rfl rfl ?_
    show own_S p e below m T1 6 #[lvR o0_, lvR o1_] [(.ref o1_), (.long (1 : Int64)), (.ref o0_)] _
    refine st2 _ ?_
    refine XS.ladd X2.here hx rfl (hb hby d3_9) rfl ?_
    show own_S p e below m T2 10 #[lvR o0_, lvR o1_] [(.long (2 : Int64)), (.ref o0_)] _
    refine st3 _ ?_
    refine XS.aloadN X3.here hx rfl (hb hby d3_13) rfl rfl ?_
    refine XS.aloadN X3.here hx rfl (hb hby d3_14) rfl rfl ?_
    show own_S p e below m T3 15 #[lvR o0_, lvR o1_] [(.ref o0_), (.ref o0_)] _
    refine st7 _ ?_
    refine XS.aloadN X7.here hx rfl (hb hby d3_18) rfl rfl ?_
    show own_S p e below m T7 19 #[lvR o0_, lvR o1_] [(.ref o1_), (.long y0_), (.ref o0_)] _
    refine st9 _ ?_
    show own_S p e below m T9 22 #[lvR o0_, lvR o1_] [(.long y1_), (.long y0_), (.ref o0_)] _
    refine st10 _ ?_
    show own_S p e below m T10 25 #[lvR o0_, lvR o1_] [(.long (own_max y0_ y1_)), (.ref o0_)] _
    refine st14 _ ?_
    refine XS.aloadN X14.here hx rfl (hb hby d3_28) rfl rfl ?_
    refine XS.aloadN X14.here hx rfl (hb hby d3_29) rfl rfl ?_
    show own_S p e below m T14 30 #[lvR o0_, lvR o1_] [(.ref o0_), (.ref o0_)] _
    refine st19 _ ?_
    refine XS.aloadN X19.here hx rfl (hb hby d3_33) rfl rfl ?_
    show own_S p e below m T19 34 #[lvR o0_, lvR o1_] [(.ref o1_), (.long (-9223372036854775808 : Int64)), (.ref o0_)] _
    refine st22 _ ?_
    show own_S p e below m T22 37 #[lvR o0_, lvR o1_] [(.long (-9223372036854775808 : Int64)), (.long (-9223372036854775808 : Int64)), (.ref o0_)] _
    refine st23 _ ?_
    show own_S p e below m T23 40 #[lvR o0_, lvR o1_] [(.long (own_max (-9223372036854775808 : Int64) (-9223372036854775808 : Int64))), (.ref o0_)] _
    refine st27 _ ?_
    exact kt
  have f32 : Keep h0 h3 [o0_] := K0.wr W3 (Or.inl (List.mem_of_getElem? (i := 0) rfl))
  have f33 : Keep h0 h14 [o0_] := f32.wr W14 (Or.inl (List.mem_of_getElem? (i := 0) rfl))
  have f34 : Keep h0 h27 [o0_] := f33.wr W27 (Or.inl (List.mem_of_getElem? (i := 0) rfl))
  have f35 : Exa Z h27 o0_ cn0 := f26.wr W27
  have f36 : Fld Z h27 o0_ cn0 "latestTimestamp" "J" (.long (own_max y0_ y1_)) := f16.other W27 (Or.inr (slot_ne (Or.inl (own_w hw 14 rfl)) (Or.inl (own_w hw 16 rfl)) (by decide) (t := .long) (t' := .long) (by decide) (by decide)))
  have f37 : Fld Z h14 o0_ cn0 "cells" "J" (.long (2 : Int64)) := f5.other W14 (Or.inr (slot_ne (Or.inl (own_w hw 25 rfl)) (Or.inl (own_w hw 14 rfl)) (by decide) (t := .long) (t' := .long) (by decide) (by decide)))
  have f38 : Fld Z h27 o0_ cn0 "cells" "J" (.long (2 : Int64)) := f37.other W27 (Or.inr (slot_ne (Or.inl (own_w hw 25 rfl)) (Or.inl (own_w hw 16 rfl)) (by decide) (t := .long) (t' := .long) (by decide) (by decide)))
  obtain ⟨fs, hr, hrun, hended, hW, hsame⟩ := X27.leave (v := none) (fun _ => rfl)
  refine ⟨_, _, hG _ (pre30 _ (X27.returnOut hx Bd.returns (hb hby d3_43) hr)), hrun, hended, _, _, rfl, ?_, ⟨_, rfl⟩, hW, hsame.mono (by decide) (by decide)⟩
  show Qadd31 Z o0_ o1_ y0_ y1_ h0 n0 _ T27.heap _
  rw [e27]
  exact ⟨rfl, N28, f34, f35, f36, f29, f38⟩
theorem efadd32 (m : MethodId) (o0_ : Addr) (o1_ : Addr) : entryFrame m #[(.ref o0_), (.ref o1_)] 2 = mkF m 0 #[lvR o0_, lvR o1_] [] := by first | (simp [entryFrame, mkF, argsToLocals, Value.category]; done) | rfl
def Qadd32 (Z : State) (o0_ : Addr) (o1_ : Addr) (y0_ : Int64) (y1_ : Int64) (y2_ : Int64) (h0 : Heap) (n0 : Nat) (v : Option Value) (h : Heap) (L : List Loc) : Prop := v = none ∧ Fr n0 L ∧ Keep h0 h [o0_] ∧ Exa Z h o0_ cn0 ∧ Fld Z h o0_ cn0 "latestTimestamp" "J" (.long (own_max y0_ y1_)) ∧ Fld Z h o0_ cn0 "latestDeleteTimestamp" "J" (.long (own_max (-9223372036854775808 : Int64) y2_)) ∧ Fld Z h o0_ cn0 "cells" "J" (.long (3 : Int64))
set_option maxRecDepth 65536 in
set_option maxHeartbeats 40000000 in
theorem rmadd32 (l : Launch) (Z : State) (a0 : Array Value) (hw : ∀ d ∈ tables_1, d.before a0 Z = true) (ws : List Jvm.Cond) (o0_ : Addr) (o1_ : Addr) (y0_ : Int64) (y1_ : Int64) (y2_ : Int64) (h0 : Heap) (n0 : Nat) (O0 : Old Z n0 h0) (P0 : Exa Z h0 o0_ cn0) (P1 : Fld Z h0 o0_ cn0 "latestTimestamp" "J" (.long y0_)) (P2 : Fld Z h0 o0_ cn0 "latestDeleteTimestamp" "J" (.long (-9223372036854775808 : Int64))) (P3 : Fld Z h0 o0_ cn0 "cells" "J" (.long (1 : Int64))) (P4 : Exa Z h0 o1_ cn0) (P5 : Fld Z h0 o1_ cn0 "latestTimestamp" "J" (.long y1_)) (P6 : Fld Z h0 o1_ cn0 "latestDeleteTimestamp" "J" (.long y2_)) (P7 : Fld Z h0 o1_ cn0 "cells" "J" (.long (2 : Int64))) (P8 : n0 ≤ o0_) (P9 : o1_ ≠ o0_) :
    MetFree l (⟨"com/example/zenodotus/zenodotus/io/RowCodec$Tally", "add", "(Lcom/example/zenodotus/zenodotus/io/RowCodec$Tally;)V"⟩ : MethodName) (head1 (Jvm.Cond.code (⟨"com/example/zenodotus/zenodotus/io/RowCodec$Tally", "add", "(Lcom/example/zenodotus/zenodotus/io/RowCodec$Tally;)V"⟩ : MethodName) prog_38_method_3_code 2 none :: ws) ({ frames := 1, cells := 0, slots := 0, locals := 16 } : Room)) (fun a U => a = #[(.ref o0_), (.ref o1_)] ∧ Z.Warmed39 U.vm ∧ U.heap = h0) (fun _ _ _ _ _ => True) (fun _ U o U' => ∃ v L, o = .returned v ∧ Qadd32 Z o0_ o1_ y0_ y1_ y2_ h0 n0 v U'.heap L ∧ FrameEnd U o U' L ({ frames := 1, cells := 0, slots := 0, locals := 16 } : Room).cells ({ frames := 1, cells := 0, slots := 0, locals := 16 } : Room).slots) := by
  refine MetFree.of_bodySF (plainFor_of_name pn_0) hisR ?_
  intro p e s m args below meth c s₁ Bd hml0 hP hK
  obtain ⟨rfl, hZ, hh⟩ := hP
  have hx := Bd.exec
  have hby := Bd.bytes
  have hml : c.maxLocals = 2 := hml0
  have hown : s.vm.findClass "com/example/zenodotus/zenodotus/io/RowCodec$Tally" = some m.cls := findClass_of_methodNamed Bd.named
  have hnm := (name_of_methodNamed Bd.named Bd.method).1
  have X0 : Stand p l e ({ frames := 1, cells := 0, slots := 0, locals := 16 } : Room) s m #[(.ref o0_), (.ref o1_)] below meth c s₁ [] 0 0 := Stand.of_body Bd
  have e0 : s₁.heap = h0 := by rw [← hh, Bd.state]; rfl
  have N0 := Fr.nil n0
  obtain ⟨G, pre0, hG⟩ : ∃ G : State → Prop, (∀ t, own_S p e below m s₁ 0 #[lvR o0_, lvR o1_] [] t → G t) ∧ (∀ t, G t → Steps p.tables e below (s₁.setTop (entryFrame m #[(.ref o0_), (.ref o1_)] 2)) t) := ⟨fun t => Steps p.tables e below (s₁.setTop (entryFrame m #[(.ref o0_), (.ref o1_)] 2)) t, fun t k => castTop (efadd32 m o0_ o1_) k, fun _ k => k⟩
  have K0 : Keep h0 h0 [o0_] := Keep.refl _ _
  obtain ⟨T1, X1, e1, st1⟩ := getF X0 hx hZ hown (host := "") (Or.inl (own_w hw 24 rfl)) Via.refl e0 P3 (g := (mkF m 2 #[lvR o0_, lvR o1_] [(.ref o0_), (.ref o0_)])) rfl rfl (hb hby d3_2)
  obtain ⟨T2, X2, e2, st2⟩ := getF X1 hx hZ hown (host := "") (Or.inl (own_w hw 24 rfl)) Via.refl e1 P7 (g := (mkF m 6 #[lvR o0_, lvR o1_] [(.ref o1_), (.long (1 : Int64)), (.ref o0_)])) rfl rfl (hb hby d3_6)
  obtain ⟨T3, h3, X3, e3, W3, st3⟩ := putF X2 hx hZ hown (host := "") (Or.inl (own_w hw 24 rfl)) Via.refl e2 P3 P0 (Or.inl (own_w hw 25 rfl)) (own_w hw 4 rfl) (ty := .long) (by decide) rfl rfl (g := (mkF m 10 #[lvR o0_, lvR o1_] [(.long (3 : Int64)), (.ref o0_)])) rfl rfl (hb hby d3_10)
  have N4 := Fr.snoc X3 N0 P8
  have f5 : Fld Z h3 o0_ cn0 "cells" "J" (.long (3 : Int64)) := P3.same W3
  have f6 : Fld Z h3 o0_ cn0 "latestTimestamp" "J" (.long y0_) := P1.other W3 (Or.inr (slot_ne (Or.inl (own_w hw 14 rfl)) (Or.inl (own_w hw 25 rfl)) (by decide) (t := .long) (t' := .long) (by decide) (by decide)))
  obtain ⟨T7, X7, e7, st7⟩ := getF X3 hx hZ hown (host := "") (Or.inl (own_w hw 13 rfl)) Via.refl e3 f6 (g := (mkF m 15 #[lvR o0_, lvR o1_] [(.ref o0_), (.ref o0_)])) rfl rfl (hb hby d3_15)
  have f8 : Fld Z h3 o1_ cn0 "latestTimestamp" "J" (.long y1_) := P5.other W3 (Or.inl P9)
  obtain ⟨T9, X9, e9, st9⟩ := getF X7 hx hZ hown (host := "") (Or.inl (own_w hw 13 rfl)) Via.refl e7 f8 (g := (mkF m 19 #[lvR o0_, lvR o1_] [(.ref o1_), (.long y0_), (.ref o0_)])) rfl rfl (hb hby d3_19)
  have f11 : Old Z n0 h3 := O0.wr W3 P8
  obtain ⟨_, _, ⟨T10, L10, k10, n10⟩, -, X10, ⟨Lc10, hQ10, l10, y10, z10⟩, st10⟩ := Jvm.LawKit.callS X9 hx (y := (⟨"java/lang/Math", "max", "(JJ)J"⟩ : MethodName)) hown (mvT hZ (own_w hw 27 rfl)) (mvT hZ (own_w hw 28 rfl)) (mvT hZ (own_w hw 29 rfl)) (mvT hZ (own_w hw 30 rfl)) (by decide) (backOf (W := 1) (rmMax l Z a0 hw [] y0_ y1_ h3 n0 f11 ) hZ (own_w hw 30 rfl) (own_w hw 29 rfl) (by decide) (by decide)) (g := (mkF m 22 #[lvR o0_, lvR o1_] [(.long y1_), (.long y0_), (.ref o0_)])) rfl (by rw [hml]; rfl) (argsL := [(.long y0_), (.long y1_)]) (rest := [(.ref o0_)]) (lenOf pd_1 rfl) rfl (by show 2 * 0 + _ ≤ _; exact Nat.le_of_eq rfl) (hb hby d3_22) (fun _ _ => ⟨rfl, e9, (by decide : 0 + 0 ≤ _), (by decide : 0 + 0 ≤ _)⟩)
  dsimp only [Pt.U, Pt.locs, Pt.cells, Pt.slots] at X10 l10 y10 z10 st10 hQ10
  subst l10 y10 z10
  obtain ⟨h10, e10⟩ : ∃ z, T10.heap = z := ⟨_, rfl⟩
  rw [e10] at hQ10
  obtain ⟨rfl, N10q, hh10⟩ := hQ10
  have N12 := Fr.app N4 N10q
  have e10' : T10.heap = h3 := e10.trans hh10
  have f13 : Exa Z h3 o0_ cn0 := P0.wr W3
  obtain ⟨T14, h14, X14, e14, W14, st14⟩ := putF X10 hx hZ hown (host := "") (Or.inl (own_w hw 13 rfl)) Via.refl e10' f6 f13 (Or.inl (own_w hw 14 rfl)) (own_w hw 4 rfl) (ty := .long) (by decide) rfl rfl (g := (mkF m 25 #[lvR o0_, lvR o1_] [(.long (own_max y0_ y1_)), (.ref o0_)])) rfl rfl (hb hby d3_25)
  have N15 := Fr.snoc X14 N12 P8
  have f16 : Fld Z h14 o0_ cn0 "latestTimestamp" "J" (.long (own_max y0_ y1_)) := f6.same W14
  have f17 : Fld Z h3 o0_ cn0 "latestDeleteTimestamp" "J" (.long (-9223372036854775808 : Int64)) := P2.other W3 (Or.inr (slot_ne (Or.inl (own_w hw 16 rfl)) (Or.inl (own_w hw 25 rfl)) (by decide) (t := .long) (t' := .long) (by decide) (by decide)))
  have f18 : Fld Z h14 o0_ cn0 "latestDeleteTimestamp" "J" (.long (-9223372036854775808 : Int64)) := f17.other W14 (Or.inr (slot_ne (Or.inl (own_w hw 16 rfl)) (Or.inl (own_w hw 14 rfl)) (by decide) (t := .long) (t' := .long) (by decide) (by decide)))
  obtain ⟨T19, X19, e19, st19⟩ := getF X14 hx hZ hown (host := "") (Or.inl (own_w hw 15 rfl)) Via.refl e14 f18 (g := (mkF m 30 #[lvR o0_, lvR o1_] [(.ref o0_), (.ref o0_)])) rfl rfl (hb hby d3_30)
  have f20 : Fld Z h3 o1_ cn0 "latestDeleteTimestamp" "J" (.long y2_) := P6.other W3 (Or.inl P9)
  have f21 : Fld Z h14 o1_ cn0 "latestDeleteTimestamp" "J" (.long y2_) := f20.other W14 (Or.inl P9)
  obtain ⟨T22, X22, e22, st22⟩ := getF X19 hx hZ hown (host := "") (Or.inl (own_w hw 15 rfl)) Via.refl e19 f21 (g := (mkF m 34 #[lvR o0_, lvR o1_] [(.ref o1_), (.long (-9223372036854775808 : Int64)), (.ref o0_)])) rfl rfl (hb hby d3_34)
  have f24 : Old Z n0 h14 := f11.wr W14 P8
  obtain ⟨_, _, ⟨T23, L23, k23, n23⟩, -, X23, ⟨Lc23, hQ23, l23, y23, z23⟩, st23⟩ := Jvm.LawKit.callS X22 hx (y := (⟨"java/lang/Math", "max", "(JJ)J"⟩ : MethodName)) hown (mvT hZ (own_w hw 27 rfl)) (mvT hZ (own_w hw 28 rfl)) (mvT hZ (own_w hw 29 rfl)) (mvT hZ (own_w hw 30 rfl)) (by decide) (backOf (W := 1) (rmMax l Z a0 hw [] (-9223372036854775808 : Int64) y2_ h14 n0 f24 ) hZ (own_w hw 30 rfl) (own_w hw 29 rfl) (by decide) (by decide)) (g := (mkF m 37 #[lvR o0_, lvR o1_] [(.long y2_), (.long (-9223372036854775808 : Int64)), (.ref o0_)])) rfl (by rw [hml]; rfl) (argsL := [(.long (-9223372036854775808 : Int64)), (.long y2_)]) (rest := [(.ref o0_)]) (lenOf pd_1 rfl) rfl (by show 2 * 0 + _ ≤ _; exact Nat.le_of_eq rfl) (hb hby d3_37) (fun _ _ => ⟨rfl, e22, (by decide : 0 + 0 ≤ _), (by decide : 0 + 0 ≤ _)⟩)
  dsimp only [Pt.U, Pt.locs, Pt.cells, Pt.slots] at X23 l23 y23 z23 st23 hQ23
  subst l23 y23 z23
  obtain ⟨h23, e23⟩ : ∃ z, T23.heap = z := ⟨_, rfl⟩
  rw [e23] at hQ23
  obtain ⟨rfl, N23q, hh23⟩ := hQ23
  have N25 := Fr.app N15 N23q
  have e23' : T23.heap = h14 := e23.trans hh23
  have f26 : Exa Z h14 o0_ cn0 := f13.wr W14
  obtain ⟨T27, h27, X27, e27, W27, st27⟩ := putF X23 hx hZ hown (host := "") (Or.inl (own_w hw 15 rfl)) Via.refl e23' f18 f26 (Or.inl (own_w hw 16 rfl)) (own_w hw 4 rfl) (ty := .long) (by decide) rfl rfl (g := (mkF m 40 #[lvR o0_, lvR o1_] [(.long (own_max (-9223372036854775808 : Int64) y2_)), (.ref o0_)])) rfl rfl (hb hby d3_40)
  have N28 := Fr.snoc X27 N25 P8
  have f29 : Fld Z h27 o0_ cn0 "latestDeleteTimestamp" "J" (.long (own_max (-9223372036854775808 : Int64) y2_)) := f18.same W27
  have pre30 : ∀ t, own_S p e below m T27 43 #[lvR o0_, lvR o1_] [] t → G t := by
    intro t kt
    refine pre0 t ?_
    show own_S p e below m s₁ 0 #[lvR o0_, lvR o1_] [] _
    refine XS.aloadN X0.here hx rfl (hb hby d3_0) rfl rfl ?_
    refine XS.dup X0.here hx rfl (hb hby d3_1) rfl rfl ?_
    show own_S p e below m s₁ 2 #[lvR o0_, lvR o1_] [(.ref o0_), (.ref o0_)] _
    refine st1 _ ?_
    refine XS.aloadN X1.here hx rfl (hb hby d3_5) rfl rfl ?_
    show own_S p e below m T1 6 #[lvR o0_, lvR o1_] [(.ref o1_), (.long (1 : Int64)), (.ref o0_)] _
    refine st2 _ ?_
    refine XS.ladd X2.here hx rfl (hb hby d3_9) rfl ?_
    show own_S p e below m T2 10 #[lvR o0_, lvR o1_] [(.long (3 : Int64)), (.ref o0_)] _
    refine st3 _ ?_
    refine XS.aloadN X3.here hx rfl (hb hby d3_13) rfl rfl ?_
    refine XS.aloadN X3.here hx rfl (hb hby d3_14) rfl rfl ?_
    show own_S p e below m T3 15 #[lvR o0_, lvR o1_] [(.ref o0_), (.ref o0_)] _
    refine st7 _ ?_
    refine XS.aloadN X7.here hx rfl (hb hby d3_18) rfl rfl ?_
    show own_S p e below m T7 19 #[lvR o0_, lvR o1_] [(.ref o1_), (.long y0_), (.ref o0_)] _
    refine st9 _ ?_
    show own_S p e below m T9 22 #[lvR o0_, lvR o1_] [(.long y1_), (.long y0_), (.ref o0_)] _
    refine st10 _ ?_
    show own_S p e below m T10 25 #[lvR o0_, lvR o1_] [(.long (own_max y0_ y1_)), (.ref o0_)] _
    refine st14 _ ?_
    refine XS.aloadN X14.here hx rfl (hb hby d3_28) rfl rfl ?_
    refine XS.aloadN X14.here hx rfl (hb hby d3_29) rfl rfl ?_
    show own_S p e below m T14 30 #[lvR o0_, lvR o1_] [(.ref o0_), (.ref o0_)] _
    refine st19 _ ?_
    refine XS.aloadN X19.here hx rfl (hb hby d3_33) rfl rfl ?_
    show own_S p e below m T19 34 #[lvR o0_, lvR o1_] [(.ref o1_), (.long (-9223372036854775808 : Int64)), (.ref o0_)] _
    refine st22 _ ?_
    show own_S p e below m T22 37 #[lvR o0_, lvR o1_] [(.long y2_), (.long (-9223372036854775808 : Int64)), (.ref o0_)] _
    refine st23 _ ?_
    show own_S p e below m T23 40 #[lvR o0_, lvR o1_] [(.long (own_max (-9223372036854775808 : Int64) y2_)), (.ref o0_)] _
    refine st27 _ ?_
    exact kt
  have f32 : Keep h0 h3 [o0_] := K0.wr W3 (Or.inl (List.mem_of_getElem? (i := 0) rfl))
  have f33 : Keep h0 h14 [o0_] := f32.wr W14 (Or.inl (List.mem_of_getElem? (i := 0) rfl))
  have f34 : Keep h0 h27 [o0_] := f33.wr W27 (Or.inl (List.mem_of_getElem? (i := 0) rfl))
  have f35 : Exa Z h27 o0_ cn0 := f26.wr W27
  have f36 : Fld Z h27 o0_ cn0 "latestTimestamp" "J" (.long (own_max y0_ y1_)) := f16.other W27 (Or.inr (slot_ne (Or.inl (own_w hw 14 rfl)) (Or.inl (own_w hw 16 rfl)) (by decide) (t := .long) (t' := .long) (by decide) (by decide)))
  have f37 : Fld Z h14 o0_ cn0 "cells" "J" (.long (3 : Int64)) := f5.other W14 (Or.inr (slot_ne (Or.inl (own_w hw 25 rfl)) (Or.inl (own_w hw 14 rfl)) (by decide) (t := .long) (t' := .long) (by decide) (by decide)))
  have f38 : Fld Z h27 o0_ cn0 "cells" "J" (.long (3 : Int64)) := f37.other W27 (Or.inr (slot_ne (Or.inl (own_w hw 25 rfl)) (Or.inl (own_w hw 16 rfl)) (by decide) (t := .long) (t' := .long) (by decide) (by decide)))
  obtain ⟨fs, hr, hrun, hended, hW, hsame⟩ := X27.leave (v := none) (fun _ => rfl)
  refine ⟨_, _, hG _ (pre30 _ (X27.returnOut hx Bd.returns (hb hby d3_43) hr)), hrun, hended, _, _, rfl, ?_, ⟨_, rfl⟩, hW, hsame.mono (by decide) (by decide)⟩
  show Qadd32 Z o0_ o1_ y0_ y1_ y2_ h0 n0 _ T27.heap _
  rw [e27]
  exact ⟨rfl, N28, f34, f35, f36, f29, f38⟩
theorem efadd33 (m : MethodId) (o0_ : Addr) (o1_ : Addr) : entryFrame m #[(.ref o0_), (.ref o1_)] 2 = mkF m 0 #[lvR o0_, lvR o1_] [] := by first | (simp [entryFrame, mkF, argsToLocals, Value.category]; done) | rfl
def Qadd33 (Z : State) (o0_ : Addr) (o1_ : Addr) (y0_ : Int64) (y1_ : Int64) (h0 : Heap) (n0 : Nat) (v : Option Value) (h : Heap) (L : List Loc) : Prop := v = none ∧ Fr n0 L ∧ Keep h0 h [o0_] ∧ Exa Z h o0_ cn0 ∧ Fld Z h o0_ cn0 "latestTimestamp" "J" (.long (own_max y0_ (-9223372036854775808 : Int64))) ∧ Fld Z h o0_ cn0 "latestDeleteTimestamp" "J" (.long (own_max y1_ (-9223372036854775808 : Int64))) ∧ Fld Z h o0_ cn0 "cells" "J" (.long (2 : Int64))
set_option maxRecDepth 65536 in
set_option maxHeartbeats 40000000 in
theorem rmadd33 (l : Launch) (Z : State) (a0 : Array Value) (hw : ∀ d ∈ tables_1, d.before a0 Z = true) (ws : List Jvm.Cond) (o0_ : Addr) (o1_ : Addr) (y0_ : Int64) (y1_ : Int64) (h0 : Heap) (n0 : Nat) (O0 : Old Z n0 h0) (P0 : Exa Z h0 o0_ cn0) (P1 : Fld Z h0 o0_ cn0 "latestTimestamp" "J" (.long y0_)) (P2 : Fld Z h0 o0_ cn0 "latestDeleteTimestamp" "J" (.long y1_)) (P3 : Fld Z h0 o0_ cn0 "cells" "J" (.long (2 : Int64))) (P4 : Exa Z h0 o1_ cn0) (P5 : Fld Z h0 o1_ cn0 "latestTimestamp" "J" (.long (-9223372036854775808 : Int64))) (P6 : Fld Z h0 o1_ cn0 "latestDeleteTimestamp" "J" (.long (-9223372036854775808 : Int64))) (P7 : Fld Z h0 o1_ cn0 "cells" "J" (.long (0 : Int64))) (P8 : n0 ≤ o0_) (P9 : o1_ ≠ o0_) :
    MetFree l (⟨"com/example/zenodotus/zenodotus/io/RowCodec$Tally", "add", "(Lcom/example/zenodotus/zenodotus/io/RowCodec$Tally;)V"⟩ : MethodName) (head1 (Jvm.Cond.code (⟨"com/example/zenodotus/zenodotus/io/RowCodec$Tally", "add", "(Lcom/example/zenodotus/zenodotus/io/RowCodec$Tally;)V"⟩ : MethodName) prog_38_method_3_code 2 none :: ws) ({ frames := 1, cells := 0, slots := 0, locals := 16 } : Room)) (fun a U => a = #[(.ref o0_), (.ref o1_)] ∧ Z.Warmed39 U.vm ∧ U.heap = h0) (fun _ _ _ _ _ => True) (fun _ U o U' => ∃ v L, o = .returned v ∧ Qadd33 Z o0_ o1_ y0_ y1_ h0 n0 v U'.heap L ∧ FrameEnd U o U' L ({ frames := 1, cells := 0, slots := 0, locals := 16 } : Room).cells ({ frames := 1, cells := 0, slots := 0, locals := 16 } : Room).slots) := by
  refine MetFree.of_bodySF (plainFor_of_name pn_0) hisR ?_
  intro p e s m args below meth c s₁ Bd hml0 hP hK
  obtain ⟨rfl, hZ, hh⟩ := hP
  have hx := Bd.exec
  have hby := Bd.bytes
  have hml : c.maxLocals = 2 := hml0
  have hown : s.vm.findClass "com/example/zenodotus/zenodotus/io/RowCodec$Tally" = some m.cls := findClass_of_methodNamed Bd.named
  have hnm := (name_of_methodNamed Bd.named Bd.method).1
  have X0 : Stand p l e ({ frames := 1, cells := 0, slots := 0, locals := 16 } : Room) s m #[(.ref o0_), (.ref o1_)] below meth c s₁ [] 0 0 := Stand.of_body Bd
  have e0 : s₁.heap = h0 := by rw [← hh, Bd.state]; rfl
  have N0 := Fr.nil n0
  obtain ⟨G, pre0, hG⟩ : ∃ G : State → Prop, (∀ t, own_S p e below m s₁ 0 #[lvR o0_, lvR o1_] [] t → G t) ∧ (∀ t, G t → Steps p.tables e below (s₁.setTop (entryFrame m #[(.ref o0_), (.ref o1_)] 2)) t) := ⟨fun t => Steps p.tables e below (s₁.setTop (entryFrame m #[(.ref o0_), (.ref o1_)] 2)) t, fun t k => castTop (efadd33 m o0_ o1_) k, fun _ k => k⟩
  have K0 : Keep h0 h0 [o0_] := Keep.refl _ _
  obtain ⟨T1, X1, e1, st1⟩ := getF X0 hx hZ hown (host := "") (Or.inl (own_w hw 24 rfl)) Via.refl e0 P3 (g := (mkF m 2 #[lvR o0_, lvR o1_] [(.ref o0_), (.ref o0_)])) rfl rfl (hb hby d3_2)
  obtain ⟨T2, X2, e2, st2⟩ := getF X1 hx hZ hown (host := "") (Or.inl (own_w hw 24 rfl)) Via.refl e1 P7 (g := (mkF m 6 #[lvR o0_, lvR o1_] [(.ref o1_), (.long (2 : Int64)), (.ref o0_)])) rfl rfl (hb hby d3_6)
  obtain ⟨T3, h3, X3, e3, W3, st3⟩ := putF X2 hx hZ hown (host := "") (Or.inl (own_w hw 24 rfl)) Via.refl e2 P3 P0 (Or.inl (own_w hw 25 rfl)) (own_w hw 4 rfl) (ty := .long) (by decide) rfl rfl (g := (mkF m 10 #[lvR o0_, lvR o1_] [(.long (2 : Int64)), (.ref o0_)])) rfl rfl (hb hby d3_10)
  have N4 := Fr.snoc X3 N0 P8
  have f5 : Fld Z h3 o0_ cn0 "cells" "J" (.long (2 : Int64)) := P3.same W3
  have f6 : Fld Z h3 o0_ cn0 "latestTimestamp" "J" (.long y0_) := P1.other W3 (Or.inr (slot_ne (Or.inl (own_w hw 14 rfl)) (Or.inl (own_w hw 25 rfl)) (by decide) (t := .long) (t' := .long) (by decide) (by decide)))
  obtain ⟨T7, X7, e7, st7⟩ := getF X3 hx hZ hown (host := "") (Or.inl (own_w hw 13 rfl)) Via.refl e3 f6 (g := (mkF m 15 #[lvR o0_, lvR o1_] [(.ref o0_), (.ref o0_)])) rfl rfl (hb hby d3_15)
  have f8 : Fld Z h3 o1_ cn0 "latestTimestamp" "J" (.long (-9223372036854775808 : Int64)) := P5.other W3 (Or.inl P9)
  obtain ⟨T9, X9, e9, st9⟩ := getF X7 hx hZ hown (host := "") (Or.inl (own_w hw 13 rfl)) Via.refl e7 f8 (g := (mkF m 19 #[lvR o0_, lvR o1_] [(.ref o1_), (.long y0_), (.ref o0_)])) rfl rfl (hb hby d3_19)
  have f11 : Old Z n0 h3 := O0.wr W3 P8
  obtain ⟨_, _, ⟨T10, L10, k10, n10⟩, -, X10, ⟨Lc10, hQ10, l10, y10, z10⟩, st10⟩ := Jvm.LawKit.callS X9 hx (y := (⟨"java/lang/Math", "max", "(JJ)J"⟩ : MethodName)) hown (mvT hZ (own_w hw 27 rfl)) (mvT hZ (own_w hw 28 rfl)) (mvT hZ (own_w hw 29 rfl)) (mvT hZ (own_w hw 30 rfl)) (by decide) (backOf (W := 1) (rmMax l Z a0 hw [] y0_ (-9223372036854775808 : Int64) h3 n0 f11 ) hZ (own_w hw 30 rfl) (own_w hw 29 rfl) (by decide) (by decide)) (g := (mkF m 22 #[lvR o0_, lvR o1_] [(.long (-9223372036854775808 : Int64)), (.long y0_), (.ref o0_)])) rfl (by rw [hml]; rfl) (argsL := [(.long y0_), (.long (-9223372036854775808 : Int64))]) (rest := [(.ref o0_)]) (lenOf pd_1 rfl) rfl (by show 2 * 0 + _ ≤ _; exact Nat.le_of_eq rfl) (hb hby d3_22) (fun _ _ => ⟨rfl, e9, (by decide : 0 + 0 ≤ _), (by decide : 0 + 0 ≤ _)⟩)
  dsimp only [Pt.U, Pt.locs, Pt.cells, Pt.slots] at X10 l10 y10 z10 st10 hQ10
  subst l10 y10 z10
  obtain ⟨h10, e10⟩ : ∃ z, T10.heap = z := ⟨_, rfl⟩
  rw [e10] at hQ10
  obtain ⟨rfl, N10q, hh10⟩ := hQ10
  have N12 := Fr.app N4 N10q
  have e10' : T10.heap = h3 := e10.trans hh10
  have f13 : Exa Z h3 o0_ cn0 := P0.wr W3
  obtain ⟨T14, h14, X14, e14, W14, st14⟩ := putF X10 hx hZ hown (host := "") (Or.inl (own_w hw 13 rfl)) Via.refl e10' f6 f13 (Or.inl (own_w hw 14 rfl)) (own_w hw 4 rfl) (ty := .long) (by decide) rfl rfl (g := (mkF m 25 #[lvR o0_, lvR o1_] [(.long (own_max y0_ (-9223372036854775808 : Int64))), (.ref o0_)])) rfl rfl (hb hby d3_25)
  have N15 := Fr.snoc X14 N12 P8
  have f16 : Fld Z h14 o0_ cn0 "latestTimestamp" "J" (.long (own_max y0_ (-9223372036854775808 : Int64))) := f6.same W14
  have f17 : Fld Z h3 o0_ cn0 "latestDeleteTimestamp" "J" (.long y1_) := P2.other W3 (Or.inr (slot_ne (Or.inl (own_w hw 16 rfl)) (Or.inl (own_w hw 25 rfl)) (by decide) (t := .long) (t' := .long) (by decide) (by decide)))
  have f18 : Fld Z h14 o0_ cn0 "latestDeleteTimestamp" "J" (.long y1_) := f17.other W14 (Or.inr (slot_ne (Or.inl (own_w hw 16 rfl)) (Or.inl (own_w hw 14 rfl)) (by decide) (t := .long) (t' := .long) (by decide) (by decide)))
  obtain ⟨T19, X19, e19, st19⟩ := getF X14 hx hZ hown (host := "") (Or.inl (own_w hw 15 rfl)) Via.refl e14 f18 (g := (mkF m 30 #[lvR o0_, lvR o1_] [(.ref o0_), (.ref o0_)])) rfl rfl (hb hby d3_30)
  have f20 : Fld Z h3 o1_ cn0 "latestDeleteTimestamp" "J" (.long (-9223372036854775808 : Int64)) := P6.other W3 (Or.inl P9)
  have f21 : Fld Z h14 o1_ cn0 "latestDeleteTimestamp" "J" (.long (-9223372036854775808 : Int64)) := f20.other W14 (Or.inl P9)
  obtain ⟨T22, X22, e22, st22⟩ := getF X19 hx hZ hown (host := "") (Or.inl (own_w hw 15 rfl)) Via.refl e19 f21 (g := (mkF m 34 #[lvR o0_, lvR o1_] [(.ref o1_), (.long y1_), (.ref o0_)])) rfl rfl (hb hby d3_34)
  have f24 : Old Z n0 h14 := f11.wr W14 P8
  obtain ⟨_, _, ⟨T23, L23, k23, n23⟩, -, X23, ⟨Lc23, hQ23, l23, y23, z23⟩, st23⟩ := Jvm.LawKit.callS X22 hx (y := (⟨"java/lang/Math", "max", "(JJ)J"⟩ : MethodName)) hown (mvT hZ (own_w hw 27 rfl)) (mvT hZ (own_w hw 28 rfl)) (mvT hZ (own_w hw 29 rfl)) (mvT hZ (own_w hw 30 rfl)) (by decide) (backOf (W := 1) (rmMax l Z a0 hw [] y1_ (-9223372036854775808 : Int64) h14 n0 f24 ) hZ (own_w hw 30 rfl) (own_w hw 29 rfl) (by decide) (by decide)) (g := (mkF m 37 #[lvR o0_, lvR o1_] [(.long (-9223372036854775808 : Int64)), (.long y1_), (.ref o0_)])) rfl (by rw [hml]; rfl) (argsL := [(.long y1_), (.long (-9223372036854775808 : Int64))]) (rest := [(.ref o0_)]) (lenOf pd_1 rfl) rfl (by show 2 * 0 + _ ≤ _; exact Nat.le_of_eq rfl) (hb hby d3_37) (fun _ _ => ⟨rfl, e22, (by decide : 0 + 0 ≤ _), (by decide : 0 + 0 ≤ _)⟩)
  dsimp only [Pt.U, Pt.locs, Pt.cells, Pt.slots] at X23 l23 y23 z23 st23 hQ23
  subst l23 y23 z23
  obtain ⟨h23, e23⟩ : ∃ z, T23.heap = z := ⟨_, rfl⟩
  rw [e23] at hQ23
  obtain ⟨rfl, N23q, hh23⟩ := hQ23
  have N25 := Fr.app N15 N23q
  have e23' : T23.heap = h14 := e23.trans hh23
  have f26 : Exa Z h14 o0_ cn0 := f13.wr W14
  obtain ⟨T27, h27, X27, e27, W27, st27⟩ := putF X23 hx hZ hown (host := "") (Or.inl (own_w hw 15 rfl)) Via.refl e23' f18 f26 (Or.inl (own_w hw 16 rfl)) (own_w hw 4 rfl) (ty := .long) (by decide) rfl rfl (g := (mkF m 40 #[lvR o0_, lvR o1_] [(.long (own_max y1_ (-9223372036854775808 : Int64))), (.ref o0_)])) rfl rfl (hb hby d3_40)
  have N28 := Fr.snoc X27 N25 P8
  have f29 : Fld Z h27 o0_ cn0 "latestDeleteTimestamp" "J" (.long (own_max y1_ (-9223372036854775808 : Int64))) := f18.same W27
  have pre30 : ∀ t, own_S p e below m T27 43 #[lvR o0_, lvR o1_] [] t → G t := by
    intro t kt
    refine pre0 t ?_
    show own_S p e below m s₁ 0 #[lvR o0_, lvR o1_] [] _
    refine XS.aloadN X0.here hx rfl (hb hby d3_0) rfl rfl ?_
    refine XS.dup X0.here hx rfl (hb hby d3_1) rfl rfl ?_
    show own_S p e below m s₁ 2 #[lvR o0_, lvR o1_] [(.ref o0_), (.ref o0_)] _
    refine st1 _ ?_
    refine XS.aloadN X1.here hx rfl (hb hby d3_5) rfl rfl ?_
    show own_S p e below m T1 6 #[lvR o0_, lvR o1_] [(.ref o1_), (.long (2 : Int64)), (.ref o0_)] _
    refine st2 _ ?_
    refine XS.ladd X2.here hx rfl (hb hby d3_9) rfl ?_
    show own_S p e below m T2 10 #[lvR o0_, lvR o1_] [(.long (2 : Int64)), (.ref o0_)] _
    refine st3 _ ?_
    refine XS.aloadN X3.here hx rfl (hb hby d3_13) rfl rfl ?_
    refine XS.aloadN X3.here hx rfl (hb hby d3_14) rfl rfl ?_
    show own_S p e below m T3 15 #[lvR o0_, lvR o1_] [(.ref o0_), (.ref o0_)] _
    refine st7 _ ?_
    refine XS.aloadN X7.here hx rfl (hb hby d3_18) rfl rfl ?_
    show own_S p e below m T7 19 #[lvR o0_, lvR o1_] [(.ref o1_), (.long y0_), (.ref o0_)] _
    refine st9 _ ?_
    show own_S p e below m T9 22 #[lvR o0_, lvR o1_] [(.long (-9223372036854775808 : Int64)), (.long y0_), (.ref o0_)] _
    refine st10 _ ?_
    show own_S p e below m T10 25 #[lvR o0_, lvR o1_] [(.long (own_max y0_ (-9223372036854775808 : Int64))), (.ref o0_)] _
    refine st14 _ ?_
    refine XS.aloadN X14.here hx rfl (hb hby d3_28) rfl rfl ?_
    refine XS.aloadN X14.here hx rfl (hb hby d3_29) rfl rfl ?_
    show own_S p e below m T14 30 #[lvR o0_, lvR o1_] [(.ref o0_), (.ref o0_)] _
    refine st19 _ ?_
    refine XS.aloadN X19.here hx rfl (hb hby d3_33) rfl rfl ?_
    show own_S p e below m T19 34 #[lvR o0_, lvR o1_] [(.ref o1_), (.long y1_), (.ref o0_)] _
    refine st22 _ ?_
    show own_S p e below m T22 37 #[lvR o0_, lvR o1_] [(.long (-9223372036854775808 : Int64)), (.long y1_), (.ref o0_)] _
    refine st23 _ ?_
    show own_S p e below m T23 40 #[lvR o0_, lvR o1_] [(.long (own_max y1_ (-9223372036854775808 : Int64))), (.ref o0_)] _
    refine st27 _ ?_
    exact kt
  have f32 : Keep h0 h3 [o0_] := K0.wr W3 (Or.inl (List.mem_of_getElem? (i := 0) rfl))
  have f33 : Keep h0 h14 [o0_] := f32.wr W14 (Or.inl (List.mem_of_getElem? (i := 0) rfl))
  have f34 : Keep h0 h27 [o0_] := f33.wr W27 (Or.inl (List.mem_of_getElem? (i := 0) rfl))
  have f35 : Exa Z h27 o0_ cn0 := f26.wr W27
  have f36 : Fld Z h27 o0_ cn0 "latestTimestamp" "J" (.long (own_max y0_ (-9223372036854775808 : Int64))) := f16.other W27 (Or.inr (slot_ne (Or.inl (own_w hw 14 rfl)) (Or.inl (own_w hw 16 rfl)) (by decide) (t := .long) (t' := .long) (by decide) (by decide)))
  have f37 : Fld Z h14 o0_ cn0 "cells" "J" (.long (2 : Int64)) := f5.other W14 (Or.inr (slot_ne (Or.inl (own_w hw 25 rfl)) (Or.inl (own_w hw 14 rfl)) (by decide) (t := .long) (t' := .long) (by decide) (by decide)))
  have f38 : Fld Z h27 o0_ cn0 "cells" "J" (.long (2 : Int64)) := f37.other W27 (Or.inr (slot_ne (Or.inl (own_w hw 25 rfl)) (Or.inl (own_w hw 16 rfl)) (by decide) (t := .long) (t' := .long) (by decide) (by decide)))
  obtain ⟨fs, hr, hrun, hended, hW, hsame⟩ := X27.leave (v := none) (fun _ => rfl)
  refine ⟨_, _, hG _ (pre30 _ (X27.returnOut hx Bd.returns (hb hby d3_43) hr)), hrun, hended, _, _, rfl, ?_, ⟨_, rfl⟩, hW, hsame.mono (by decide) (by decide)⟩
  show Qadd33 Z o0_ o1_ y0_ y1_ h0 n0 _ T27.heap _
  rw [e27]
  exact ⟨rfl, N28, f34, f35, f36, f29, f38⟩
theorem efadd34 (m : MethodId) (o0_ : Addr) (o1_ : Addr) : entryFrame m #[(.ref o0_), (.ref o1_)] 2 = mkF m 0 #[lvR o0_, lvR o1_] [] := by first | (simp [entryFrame, mkF, argsToLocals, Value.category]; done) | rfl
def Qadd34 (Z : State) (o0_ : Addr) (o1_ : Addr) (y0_ : Int64) (y1_ : Int64) (y2_ : Int64) (h0 : Heap) (n0 : Nat) (v : Option Value) (h : Heap) (L : List Loc) : Prop := v = none ∧ Fr n0 L ∧ Keep h0 h [o0_] ∧ Exa Z h o0_ cn0 ∧ Fld Z h o0_ cn0 "latestTimestamp" "J" (.long (own_max y0_ (-9223372036854775808 : Int64))) ∧ Fld Z h o0_ cn0 "latestDeleteTimestamp" "J" (.long (own_max y1_ y2_)) ∧ Fld Z h o0_ cn0 "cells" "J" (.long (3 : Int64))
set_option maxRecDepth 65536 in
set_option maxHeartbeats 40000000 in
theorem rmadd34 (l : Launch) (Z : State) (a0 : Array Value) (hw : ∀ d ∈ tables_1, d.before a0 Z = true) (ws : List Jvm.Cond) (o0_ : Addr) (o1_ : Addr) (y0_ : Int64) (y1_ : Int64) (y2_ : Int64) (h0 : Heap) (n0 : Nat) (O0 : Old Z n0 h0) (P0 : Exa Z h0 o0_ cn0) (P1 : Fld Z h0 o0_ cn0 "latestTimestamp" "J" (.long y0_)) (P2 : Fld Z h0 o0_ cn0 "latestDeleteTimestamp" "J" (.long y1_)) (P3 : Fld Z h0 o0_ cn0 "cells" "J" (.long (2 : Int64))) (P4 : Exa Z h0 o1_ cn0) (P5 : Fld Z h0 o1_ cn0 "latestTimestamp" "J" (.long (-9223372036854775808 : Int64))) (P6 : Fld Z h0 o1_ cn0 "latestDeleteTimestamp" "J" (.long y2_)) (P7 : Fld Z h0 o1_ cn0 "cells" "J" (.long (1 : Int64))) (P8 : n0 ≤ o0_) (P9 : o1_ ≠ o0_) :
    MetFree l (⟨"com/example/zenodotus/zenodotus/io/RowCodec$Tally", "add", "(Lcom/example/zenodotus/zenodotus/io/RowCodec$Tally;)V"⟩ : MethodName) (head1 (Jvm.Cond.code (⟨"com/example/zenodotus/zenodotus/io/RowCodec$Tally", "add", "(Lcom/example/zenodotus/zenodotus/io/RowCodec$Tally;)V"⟩ : MethodName) prog_38_method_3_code 2 none :: ws) ({ frames := 1, cells := 0, slots := 0, locals := 16 } : Room)) (fun a U => a = #[(.ref o0_), (.ref o1_)] ∧ Z.Warmed39 U.vm ∧ U.heap = h0) (fun _ _ _ _ _ => True) (fun _ U o U' => ∃ v L, o = .returned v ∧ Qadd34 Z o0_ o1_ y0_ y1_ y2_ h0 n0 v U'.heap L ∧ FrameEnd U o U' L ({ frames := 1, cells := 0, slots := 0, locals := 16 } : Room).cells ({ frames := 1, cells := 0, slots := 0, locals := 16 } : Room).slots) := by
  refine MetFree.of_bodySF (plainFor_of_name pn_0) hisR ?_
  intro p e s m args below meth c s₁ Bd hml0 hP hK
  obtain ⟨rfl, hZ, hh⟩ := hP
  have hx := Bd.exec
  have hby := Bd.bytes
  have hml : c.maxLocals = 2 := hml0
  have hown : s.vm.findClass "com/example/zenodotus/zenodotus/io/RowCodec$Tally" = some m.cls := findClass_of_methodNamed Bd.named
  have hnm := (name_of_methodNamed Bd.named Bd.method).1
  have X0 : Stand p l e ({ frames := 1, cells := 0, slots := 0, locals := 16 } : Room) s m #[(.ref o0_), (.ref o1_)] below meth c s₁ [] 0 0 := Stand.of_body Bd
  have e0 : s₁.heap = h0 := by rw [← hh, Bd.state]; rfl
  have N0 := Fr.nil n0
  obtain ⟨G, pre0, hG⟩ : ∃ G : State → Prop, (∀ t, own_S p e below m s₁ 0 #[lvR o0_, lvR o1_] [] t → G t) ∧ (∀ t, G t → Steps p.tables e below (s₁.setTop (entryFrame m #[(.ref o0_), (.ref o1_)] 2)) t) := ⟨fun t => Steps p.tables e below (s₁.setTop (entryFrame m #[(.ref o0_), (.ref o1_)] 2)) t, fun t k => castTop (efadd34 m o0_ o1_) k, fun _ k => k⟩
  have K0 : Keep h0 h0 [o0_] := Keep.refl _ _
  obtain ⟨T1, X1, e1, st1⟩ := getF X0 hx hZ hown (host := "") (Or.inl (own_w hw 24 rfl)) Via.refl e0 P3 (g := (mkF m 2 #[lvR o0_, lvR o1_] [(.ref o0_), (.ref o0_)])) rfl rfl (hb hby d3_2)
  obtain ⟨T2, X2, e2, st2⟩ := getF X1 hx hZ hown (host := "") (Or.inl (own_w hw 24 rfl)) Via.refl e1 P7 (g := (mkF m 6 #[lvR o0_, lvR o1_] [(.ref o1_), (.long (2 : Int64)), (.ref o0_)])) rfl rfl (hb hby d3_6)
  obtain ⟨T3, h3, X3, e3, W3, st3⟩ := putF X2 hx hZ hown (host := "") (Or.inl (own_w hw 24 rfl)) Via.refl e2 P3 P0 (Or.inl (own_w hw 25 rfl)) (own_w hw 4 rfl) (ty := .long) (by decide) rfl rfl (g := (mkF m 10 #[lvR o0_, lvR o1_] [(.long (3 : Int64)), (.ref o0_)])) rfl rfl (hb hby d3_10)
  have N4 := Fr.snoc X3 N0 P8
  have f5 : Fld Z h3 o0_ cn0 "cells" "J" (.long (3 : Int64)) := P3.same W3
  have f6 : Fld Z h3 o0_ cn0 "latestTimestamp" "J" (.long y0_) := P1.other W3 (Or.inr (slot_ne (Or.inl (own_w hw 14 rfl)) (Or.inl (own_w hw 25 rfl)) (by decide) (t := .long) (t' := .long) (by decide) (by decide)))
  obtain ⟨T7, X7, e7, st7⟩ := getF X3 hx hZ hown (host := "") (Or.inl (own_w hw 13 rfl)) Via.refl e3 f6 (g := (mkF m 15 #[lvR o0_, lvR o1_] [(.ref o0_), (.ref o0_)])) rfl rfl (hb hby d3_15)
  have f8 : Fld Z h3 o1_ cn0 "latestTimestamp" "J" (.long (-9223372036854775808 : Int64)) := P5.other W3 (Or.inl P9)
  obtain ⟨T9, X9, e9, st9⟩ := getF X7 hx hZ hown (host := "") (Or.inl (own_w hw 13 rfl)) Via.refl e7 f8 (g := (mkF m 19 #[lvR o0_, lvR o1_] [(.ref o1_), (.long y0_), (.ref o0_)])) rfl rfl (hb hby d3_19)
  have f11 : Old Z n0 h3 := O0.wr W3 P8
  obtain ⟨_, _, ⟨T10, L10, k10, n10⟩, -, X10, ⟨Lc10, hQ10, l10, y10, z10⟩, st10⟩ := Jvm.LawKit.callS X9 hx (y := (⟨"java/lang/Math", "max", "(JJ)J"⟩ : MethodName)) hown (mvT hZ (own_w hw 27 rfl)) (mvT hZ (own_w hw 28 rfl)) (mvT hZ (own_w hw 29 rfl)) (mvT hZ (own_w hw 30 rfl)) (by decide) (backOf (W := 1) (rmMax l Z a0 hw [] y0_ (-9223372036854775808 : Int64) h3 n0 f11 ) hZ (own_w hw 30 rfl) (own_w hw 29 rfl) (by decide) (by decide)) (g := (mkF m 22 #[lvR o0_, lvR o1_] [(.long (-9223372036854775808 : Int64)), (.long y0_), (.ref o0_)])) rfl (by rw [hml]; rfl) (argsL := [(.long y0_), (.long (-9223372036854775808 : Int64))]) (rest := [(.ref o0_)]) (lenOf pd_1 rfl) rfl (by show 2 * 0 + _ ≤ _; exact Nat.le_of_eq rfl) (hb hby d3_22) (fun _ _ => ⟨rfl, e9, (by decide : 0 + 0 ≤ _), (by decide : 0 + 0 ≤ _)⟩)
  dsimp only [Pt.U, Pt.locs, Pt.cells, Pt.slots] at X10 l10 y10 z10 st10 hQ10
  subst l10 y10 z10
  obtain ⟨h10, e10⟩ : ∃ z, T10.heap = z := ⟨_, rfl⟩
  rw [e10] at hQ10
  obtain ⟨rfl, N10q, hh10⟩ := hQ10
  have N12 := Fr.app N4 N10q
  have e10' : T10.heap = h3 := e10.trans hh10
  have f13 : Exa Z h3 o0_ cn0 := P0.wr W3
  obtain ⟨T14, h14, X14, e14, W14, st14⟩ := putF X10 hx hZ hown (host := "") (Or.inl (own_w hw 13 rfl)) Via.refl e10' f6 f13 (Or.inl (own_w hw 14 rfl)) (own_w hw 4 rfl) (ty := .long) (by decide) rfl rfl (g := (mkF m 25 #[lvR o0_, lvR o1_] [(.long (own_max y0_ (-9223372036854775808 : Int64))), (.ref o0_)])) rfl rfl (hb hby d3_25)
  have N15 := Fr.snoc X14 N12 P8
  have f16 : Fld Z h14 o0_ cn0 "latestTimestamp" "J" (.long (own_max y0_ (-9223372036854775808 : Int64))) := f6.same W14
  have f17 : Fld Z h3 o0_ cn0 "latestDeleteTimestamp" "J" (.long y1_) := P2.other W3 (Or.inr (slot_ne (Or.inl (own_w hw 16 rfl)) (Or.inl (own_w hw 25 rfl)) (by decide) (t := .long) (t' := .long) (by decide) (by decide)))
  have f18 : Fld Z h14 o0_ cn0 "latestDeleteTimestamp" "J" (.long y1_) := f17.other W14 (Or.inr (slot_ne (Or.inl (own_w hw 16 rfl)) (Or.inl (own_w hw 14 rfl)) (by decide) (t := .long) (t' := .long) (by decide) (by decide)))
  obtain ⟨T19, X19, e19, st19⟩ := getF X14 hx hZ hown (host := "") (Or.inl (own_w hw 15 rfl)) Via.refl e14 f18 (g := (mkF m 30 #[lvR o0_, lvR o1_] [(.ref o0_), (.ref o0_)])) rfl rfl (hb hby d3_30)
  have f20 : Fld Z h3 o1_ cn0 "latestDeleteTimestamp" "J" (.long y2_) := P6.other W3 (Or.inl P9)
  have f21 : Fld Z h14 o1_ cn0 "latestDeleteTimestamp" "J" (.long y2_) := f20.other W14 (Or.inl P9)
  obtain ⟨T22, X22, e22, st22⟩ := getF X19 hx hZ hown (host := "") (Or.inl (own_w hw 15 rfl)) Via.refl e19 f21 (g := (mkF m 34 #[lvR o0_, lvR o1_] [(.ref o1_), (.long y1_), (.ref o0_)])) rfl rfl (hb hby d3_34)
  have f24 : Old Z n0 h14 := f11.wr W14 P8
  obtain ⟨_, _, ⟨T23, L23, k23, n23⟩, -, X23, ⟨Lc23, hQ23, l23, y23, z23⟩, st23⟩ := Jvm.LawKit.callS X22 hx (y := (⟨"java/lang/Math", "max", "(JJ)J"⟩ : MethodName)) hown (mvT hZ (own_w hw 27 rfl)) (mvT hZ (own_w hw 28 rfl)) (mvT hZ (own_w hw 29 rfl)) (mvT hZ (own_w hw 30 rfl)) (by decide) (backOf (W := 1) (rmMax l Z a0 hw [] y1_ y2_ h14 n0 f24 ) hZ (own_w hw 30 rfl) (own_w hw 29 rfl) (by decide) (by decide)) (g := (mkF m 37 #[lvR o0_, lvR o1_] [(.long y2_), (.long y1_), (.ref o0_)])) rfl (by rw [hml]; rfl) (argsL := [(.long y1_), (.long y2_)]) (rest := [(.ref o0_)]) (lenOf pd_1 rfl) rfl (by show 2 * 0 + _ ≤ _; exact Nat.le_of_eq rfl) (hb hby d3_37) (fun _ _ => ⟨rfl, e22, (by decide : 0 + 0 ≤ _), (by decide : 0 + 0 ≤ _)⟩)
  dsimp only [Pt.U, Pt.locs, Pt.cells, Pt.slots] at X23 l23 y23 z23 st23 hQ23
  subst l23 y23 z23
  obtain ⟨h23, e23⟩ : ∃ z, T23.heap = z := ⟨_, rfl⟩
  rw [e23] at hQ23
  obtain ⟨rfl, N23q, hh23⟩ := hQ23
  have N25 := Fr.app N15 N23q
  have e23' : T23.heap = h14 := e23.trans hh23
  have f26 : Exa Z h14 o0_ cn0 := f13.wr W14
  obtain ⟨T27, h27, X27, e27, W27, st27⟩ := putF X23 hx hZ hown (host := "") (Or.inl (own_w hw 15 rfl)) Via.refl e23' f18 f26 (Or.inl (own_w hw 16 rfl)) (own_w hw 4 rfl) (ty := .long) (by decide) rfl rfl (g := (mkF m 40 #[lvR o0_, lvR o1_] [(.long (own_max y1_ y2_)), (.ref o0_)])) rfl rfl (hb hby d3_40)
  have N28 := Fr.snoc X27 N25 P8
  have f29 : Fld Z h27 o0_ cn0 "latestDeleteTimestamp" "J" (.long (own_max y1_ y2_)) := f18.same W27
  have pre30 : ∀ t, own_S p e below m T27 43 #[lvR o0_, lvR o1_] [] t → G t := by
    intro t kt
    refine pre0 t ?_
    show own_S p e below m s₁ 0 #[lvR o0_, lvR o1_] [] _
    refine XS.aloadN X0.here hx rfl (hb hby d3_0) rfl rfl ?_
    refine XS.dup X0.here hx rfl (hb hby d3_1) rfl rfl ?_
    show own_S p e below m s₁ 2 #[lvR o0_, lvR o1_] [(.ref o0_), (.ref o0_)] _
    refine st1 _ ?_
    refine XS.aloadN X1.here hx rfl (hb hby d3_5) rfl rfl ?_
    show own_S p e below m T1 6 #[lvR o0_, lvR o1_] [(.ref o1_), (.long (2 : Int64)), (.ref o0_)] _
    refine st2 _ ?_
    refine XS.ladd X2.here hx rfl (hb hby d3_9) rfl ?_
    show own_S p e below m T2 10 #[lvR o0_, lvR o1_] [(.long (3 : Int64)), (.ref o0_)] _
    refine st3 _ ?_
    refine XS.aloadN X3.here hx rfl (hb hby d3_13) rfl rfl ?_
    refine XS.aloadN X3.here hx rfl (hb hby d3_14) rfl rfl ?_
    show own_S p e below m T3 15 #[lvR o0_, lvR o1_] [(.ref o0_), (.ref o0_)] _
    refine st7 _ ?_
    refine XS.aloadN X7.here hx rfl (hb hby d3_18) rfl rfl ?_
    show own_S p e below m T7 19 #[lvR o0_, lvR o1_] [(.ref o1_), (.long y0_), (.ref o0_)] _
    refine st9 _ ?_
    show own_S p e below m T9 22 #[lvR o0_, lvR o1_] [(.long (-9223372036854775808 : Int64)), (.long y0_), (.ref o0_)] _
    refine st10 _ ?_
    show own_S p e below m T10 25 #[lvR o0_, lvR o1_] [(.long (own_max y0_ (-9223372036854775808 : Int64))), (.ref o0_)] _
    refine st14 _ ?_
    refine XS.aloadN X14.here hx rfl (hb hby d3_28) rfl rfl ?_
    refine XS.aloadN X14.here hx rfl (hb hby d3_29) rfl rfl ?_
    show own_S p e below m T14 30 #[lvR o0_, lvR o1_] [(.ref o0_), (.ref o0_)] _
    refine st19 _ ?_
    refine XS.aloadN X19.here hx rfl (hb hby d3_33) rfl rfl ?_
    show own_S p e below m T19 34 #[lvR o0_, lvR o1_] [(.ref o1_), (.long y1_), (.ref o0_)] _
    refine st22 _ ?_
    show own_S p e below m T22 37 #[lvR o0_, lvR o1_] [(.long y2_), (.long y1_), (.ref o0_)] _
    refine st23 _ ?_
    show own_S p e below m T23 40 #[lvR o0_, lvR o1_] [(.long (own_max y1_ y2_)), (.ref o0_)] _
    refine st27 _ ?_
    exact kt
  have f32 : Keep h0 h3 [o0_] := K0.wr W3 (Or.inl (List.mem_of_getElem? (i := 0) rfl))
  have f33 : Keep h0 h14 [o0_] := f32.wr W14 (Or.inl (List.mem_of_getElem? (i := 0) rfl))
  have f34 : Keep h0 h27 [o0_] := f33.wr W27 (Or.inl (List.mem_of_getElem? (i := 0) rfl))
  have f35 : Exa Z h27 o0_ cn0 := f26.wr W27
  have f36 : Fld Z h27 o0_ cn0 "latestTimestamp" "J" (.long (own_max y0_ (-9223372036854775808 : Int64))) := f16.other W27 (Or.inr (slot_ne (Or.inl (own_w hw 14 rfl)) (Or.inl (own_w hw 16 rfl)) (by decide) (t := .long) (t' := .long) (by decide) (by decide)))
  have f37 : Fld Z h14 o0_ cn0 "cells" "J" (.long (3 : Int64)) := f5.other W14 (Or.inr (slot_ne (Or.inl (own_w hw 25 rfl)) (Or.inl (own_w hw 14 rfl)) (by decide) (t := .long) (t' := .long) (by decide) (by decide)))
  have f38 : Fld Z h27 o0_ cn0 "cells" "J" (.long (3 : Int64)) := f37.other W27 (Or.inr (slot_ne (Or.inl (own_w hw 25 rfl)) (Or.inl (own_w hw 16 rfl)) (by decide) (t := .long) (t' := .long) (by decide) (by decide)))
  obtain ⟨fs, hr, hrun, hended, hW, hsame⟩ := X27.leave (v := none) (fun _ => rfl)
  refine ⟨_, _, hG _ (pre30 _ (X27.returnOut hx Bd.returns (hb hby d3_43) hr)), hrun, hended, _, _, rfl, ?_, ⟨_, rfl⟩, hW, hsame.mono (by decide) (by decide)⟩
  show Qadd34 Z o0_ o1_ y0_ y1_ y2_ h0 n0 _ T27.heap _
  rw [e27]
  exact ⟨rfl, N28, f34, f35, f36, f29, f38⟩
theorem efadd35 (m : MethodId) (o0_ : Addr) (o1_ : Addr) : entryFrame m #[(.ref o0_), (.ref o1_)] 2 = mkF m 0 #[lvR o0_, lvR o1_] [] := by first | (simp [entryFrame, mkF, argsToLocals, Value.category]; done) | rfl
def Qadd35 (Z : State) (o0_ : Addr) (o1_ : Addr) (y0_ : Int64) (y1_ : Int64) (y2_ : Int64) (h0 : Heap) (n0 : Nat) (v : Option Value) (h : Heap) (L : List Loc) : Prop := v = none ∧ Fr n0 L ∧ Keep h0 h [o0_] ∧ Exa Z h o0_ cn0 ∧ Fld Z h o0_ cn0 "latestTimestamp" "J" (.long (own_max y0_ y2_)) ∧ Fld Z h o0_ cn0 "latestDeleteTimestamp" "J" (.long (own_max y1_ (-9223372036854775808 : Int64))) ∧ Fld Z h o0_ cn0 "cells" "J" (.long (3 : Int64))
set_option maxRecDepth 65536 in
set_option maxHeartbeats 40000000 in
theorem rmadd35 (l : Launch) (Z : State) (a0 : Array Value) (hw : ∀ d ∈ tables_1, d.before a0 Z = true) (ws : List Jvm.Cond) (o0_ : Addr) (o1_ : Addr) (y0_ : Int64) (y1_ : Int64) (y2_ : Int64) (h0 : Heap) (n0 : Nat) (O0 : Old Z n0 h0) (P0 : Exa Z h0 o0_ cn0) (P1 : Fld Z h0 o0_ cn0 "latestTimestamp" "J" (.long y0_)) (P2 : Fld Z h0 o0_ cn0 "latestDeleteTimestamp" "J" (.long y1_)) (P3 : Fld Z h0 o0_ cn0 "cells" "J" (.long (2 : Int64))) (P4 : Exa Z h0 o1_ cn0) (P5 : Fld Z h0 o1_ cn0 "latestTimestamp" "J" (.long y2_)) (P6 : Fld Z h0 o1_ cn0 "latestDeleteTimestamp" "J" (.long (-9223372036854775808 : Int64))) (P7 : Fld Z h0 o1_ cn0 "cells" "J" (.long (1 : Int64))) (P8 : n0 ≤ o0_) (P9 : o1_ ≠ o0_) :
    MetFree l (⟨"com/example/zenodotus/zenodotus/io/RowCodec$Tally", "add", "(Lcom/example/zenodotus/zenodotus/io/RowCodec$Tally;)V"⟩ : MethodName) (head1 (Jvm.Cond.code (⟨"com/example/zenodotus/zenodotus/io/RowCodec$Tally", "add", "(Lcom/example/zenodotus/zenodotus/io/RowCodec$Tally;)V"⟩ : MethodName) prog_38_method_3_code 2 none :: ws) ({ frames := 1, cells := 0, slots := 0, locals := 16 } : Room)) (fun a U => a = #[(.ref o0_), (.ref o1_)] ∧ Z.Warmed39 U.vm ∧ U.heap = h0) (fun _ _ _ _ _ => True) (fun _ U o U' => ∃ v L, o = .returned v ∧ Qadd35 Z o0_ o1_ y0_ y1_ y2_ h0 n0 v U'.heap L ∧ FrameEnd U o U' L ({ frames := 1, cells := 0, slots := 0, locals := 16 } : Room).cells ({ frames := 1, cells := 0, slots := 0, locals := 16 } : Room).slots) := by
  refine MetFree.of_bodySF (plainFor_of_name pn_0) hisR ?_
  intro p e s m args below meth c s₁ Bd hml0 hP hK
  obtain ⟨rfl, hZ, hh⟩ := hP
  have hx := Bd.exec
  have hby := Bd.bytes
  have hml : c.maxLocals = 2 := hml0
  have hown : s.vm.findClass "com/example/zenodotus/zenodotus/io/RowCodec$Tally" = some m.cls := findClass_of_methodNamed Bd.named
  have hnm := (name_of_methodNamed Bd.named Bd.method).1
  have X0 : Stand p l e ({ frames := 1, cells := 0, slots := 0, locals := 16 } : Room) s m #[(.ref o0_), (.ref o1_)] below meth c s₁ [] 0 0 := Stand.of_body Bd
  have e0 : s₁.heap = h0 := by rw [← hh, Bd.state]; rfl
  have N0 := Fr.nil n0
  obtain ⟨G, pre0, hG⟩ : ∃ G : State → Prop, (∀ t, own_S p e below m s₁ 0 #[lvR o0_, lvR o1_] [] t → G t) ∧ (∀ t, G t → Steps p.tables e below (s₁.setTop (entryFrame m #[(.ref o0_), (.ref o1_)] 2)) t) := ⟨fun t => Steps p.tables e below (s₁.setTop (entryFrame m #[(.ref o0_), (.ref o1_)] 2)) t, fun t k => castTop (efadd35 m o0_ o1_) k, fun _ k => k⟩
  have K0 : Keep h0 h0 [o0_] := Keep.refl _ _
  obtain ⟨T1, X1, e1, st1⟩ := getF X0 hx hZ hown (host := "") (Or.inl (own_w hw 24 rfl)) Via.refl e0 P3 (g := (mkF m 2 #[lvR o0_, lvR o1_] [(.ref o0_), (.ref o0_)])) rfl rfl (hb hby d3_2)
  obtain ⟨T2, X2, e2, st2⟩ := getF X1 hx hZ hown (host := "") (Or.inl (own_w hw 24 rfl)) Via.refl e1 P7 (g := (mkF m 6 #[lvR o0_, lvR o1_] [(.ref o1_), (.long (2 : Int64)), (.ref o0_)])) rfl rfl (hb hby d3_6)
  obtain ⟨T3, h3, X3, e3, W3, st3⟩ := putF X2 hx hZ hown (host := "") (Or.inl (own_w hw 24 rfl)) Via.refl e2 P3 P0 (Or.inl (own_w hw 25 rfl)) (own_w hw 4 rfl) (ty := .long) (by decide) rfl rfl (g := (mkF m 10 #[lvR o0_, lvR o1_] [(.long (3 : Int64)), (.ref o0_)])) rfl rfl (hb hby d3_10)
  have N4 := Fr.snoc X3 N0 P8
  have f5 : Fld Z h3 o0_ cn0 "cells" "J" (.long (3 : Int64)) := P3.same W3
  have f6 : Fld Z h3 o0_ cn0 "latestTimestamp" "J" (.long y0_) := P1.other W3 (Or.inr (slot_ne (Or.inl (own_w hw 14 rfl)) (Or.inl (own_w hw 25 rfl)) (by decide) (t := .long) (t' := .long) (by decide) (by decide)))
  obtain ⟨T7, X7, e7, st7⟩ := getF X3 hx hZ hown (host := "") (Or.inl (own_w hw 13 rfl)) Via.refl e3 f6 (g := (mkF m 15 #[lvR o0_, lvR o1_] [(.ref o0_), (.ref o0_)])) rfl rfl (hb hby d3_15)
  have f8 : Fld Z h3 o1_ cn0 "latestTimestamp" "J" (.long y2_) := P5.other W3 (Or.inl P9)
  obtain ⟨T9, X9, e9, st9⟩ := getF X7 hx hZ hown (host := "") (Or.inl (own_w hw 13 rfl)) Via.refl e7 f8 (g := (mkF m 19 #[lvR o0_, lvR o1_] [(.ref o1_), (.long y0_), (.ref o0_)])) rfl rfl (hb hby d3_19)
  have f11 : Old Z n0 h3 := O0.wr W3 P8
  obtain ⟨_, _, ⟨T10, L10, k10, n10⟩, -, X10, ⟨Lc10, hQ10, l10, y10, z10⟩, st10⟩ := Jvm.LawKit.callS X9 hx (y := (⟨"java/lang/Math", "max", "(JJ)J"⟩ : MethodName)) hown (mvT hZ (own_w hw 27 rfl)) (mvT hZ (own_w hw 28 rfl)) (mvT hZ (own_w hw 29 rfl)) (mvT hZ (own_w hw 30 rfl)) (by decide) (backOf (W := 1) (rmMax l Z a0 hw [] y0_ y2_ h3 n0 f11 ) hZ (own_w hw 30 rfl) (own_w hw 29 rfl) (by decide) (by decide)) (g := (mkF m 22 #[lvR o0_, lvR o1_] [(.long y2_), (.long y0_), (.ref o0_)])) rfl (by rw [hml]; rfl) (argsL := [(.long y0_), (.long y2_)]) (rest := [(.ref o0_)]) (lenOf pd_1 rfl) rfl (by show 2 * 0 + _ ≤ _; exact Nat.le_of_eq rfl) (hb hby d3_22) (fun _ _ => ⟨rfl, e9, (by decide : 0 + 0 ≤ _), (by decide : 0 + 0 ≤ _)⟩)
  dsimp only [Pt.U, Pt.locs, Pt.cells, Pt.slots] at X10 l10 y10 z10 st10 hQ10
  subst l10 y10 z10
  obtain ⟨h10, e10⟩ : ∃ z, T10.heap = z := ⟨_, rfl⟩
  rw [e10] at hQ10
  obtain ⟨rfl, N10q, hh10⟩ := hQ10
  have N12 := Fr.app N4 N10q
  have e10' : T10.heap = h3 := e10.trans hh10
  have f13 : Exa Z h3 o0_ cn0 := P0.wr W3
  obtain ⟨T14, h14, X14, e14, W14, st14⟩ := putF X10 hx hZ hown (host := "") (Or.inl (own_w hw 13 rfl)) Via.refl e10' f6 f13 (Or.inl (own_w hw 14 rfl)) (own_w hw 4 rfl) (ty := .long) (by decide) rfl rfl (g := (mkF m 25 #[lvR o0_, lvR o1_] [(.long (own_max y0_ y2_)), (.ref o0_)])) rfl rfl (hb hby d3_25)
  have N15 := Fr.snoc X14 N12 P8
  have f16 : Fld Z h14 o0_ cn0 "latestTimestamp" "J" (.long (own_max y0_ y2_)) := f6.same W14
  have f17 : Fld Z h3 o0_ cn0 "latestDeleteTimestamp" "J" (.long y1_) := P2.other W3 (Or.inr (slot_ne (Or.inl (own_w hw 16 rfl)) (Or.inl (own_w hw 25 rfl)) (by decide) (t := .long) (t' := .long) (by decide) (by decide)))
  have f18 : Fld Z h14 o0_ cn0 "latestDeleteTimestamp" "J" (.long y1_) := f17.other W14 (Or.inr (slot_ne (Or.inl (own_w hw 16 rfl)) (Or.inl (own_w hw 14 rfl)) (by decide) (t := .long) (t' := .long) (by decide) (by decide)))
  obtain ⟨T19, X19, e19, st19⟩ := getF X14 hx hZ hown (host := "") (Or.inl (own_w hw 15 rfl)) Via.refl e14 f18 (g := (mkF m 30 #[lvR o0_, lvR o1_] [(.ref o0_), (.ref o0_)])) rfl rfl (hb hby d3_30)
  have f20 : Fld Z h3 o1_ cn0 "latestDeleteTimestamp" "J" (.long (-9223372036854775808 : Int64)) := P6.other W3 (Or.inl P9)
  have f21 : Fld Z h14 o1_ cn0 "latestDeleteTimestamp" "J" (.long (-9223372036854775808 : Int64)) := f20.other W14 (Or.inl P9)
  obtain ⟨T22, X22, e22, st22⟩ := getF X19 hx hZ hown (host := "") (Or.inl (own_w hw 15 rfl)) Via.refl e19 f21 (g := (mkF m 34 #[lvR o0_, lvR o1_] [(.ref o1_), (.long y1_), (.ref o0_)])) rfl rfl (hb hby d3_34)
  have f24 : Old Z n0 h14 := f11.wr W14 P8
  obtain ⟨_, _, ⟨T23, L23, k23, n23⟩, -, X23, ⟨Lc23, hQ23, l23, y23, z23⟩, st23⟩ := Jvm.LawKit.callS X22 hx (y := (⟨"java/lang/Math", "max", "(JJ)J"⟩ : MethodName)) hown (mvT hZ (own_w hw 27 rfl)) (mvT hZ (own_w hw 28 rfl)) (mvT hZ (own_w hw 29 rfl)) (mvT hZ (own_w hw 30 rfl)) (by decide) (backOf (W := 1) (rmMax l Z a0 hw [] y1_ (-9223372036854775808 : Int64) h14 n0 f24 ) hZ (own_w hw 30 rfl) (own_w hw 29 rfl) (by decide) (by decide)) (g := (mkF m 37 #[lvR o0_, lvR o1_] [(.long (-9223372036854775808 : Int64)), (.long y1_), (.ref o0_)])) rfl (by rw [hml]; rfl) (argsL := [(.long y1_), (.long (-9223372036854775808 : Int64))]) (rest := [(.ref o0_)]) (lenOf pd_1 rfl) rfl (by show 2 * 0 + _ ≤ _; exact Nat.le_of_eq rfl) (hb hby d3_37) (fun _ _ => ⟨rfl, e22, (by decide : 0 + 0 ≤ _), (by decide : 0 + 0 ≤ _)⟩)
  dsimp only [Pt.U, Pt.locs, Pt.cells, Pt.slots] at X23 l23 y23 z23 st23 hQ23
  subst l23 y23 z23
  obtain ⟨h23, e23⟩ : ∃ z, T23.heap = z := ⟨_, rfl⟩
  rw [e23] at hQ23
  obtain ⟨rfl, N23q, hh23⟩ := hQ23
  have N25 := Fr.app N15 N23q
  have e23' : T23.heap = h14 := e23.trans hh23
  have f26 : Exa Z h14 o0_ cn0 := f13.wr W14
  obtain ⟨T27, h27, X27, e27, W27, st27⟩ := putF X23 hx hZ hown (host := "") (Or.inl (own_w hw 15 rfl)) Via.refl e23' f18 f26 (Or.inl (own_w hw 16 rfl)) (own_w hw 4 rfl) (ty := .long) (by decide) rfl rfl (g := (mkF m 40 #[lvR o0_, lvR o1_] [(.long (own_max y1_ (-9223372036854775808 : Int64))), (.ref o0_)])) rfl rfl (hb hby d3_40)
  have N28 := Fr.snoc X27 N25 P8
  have f29 : Fld Z h27 o0_ cn0 "latestDeleteTimestamp" "J" (.long (own_max y1_ (-9223372036854775808 : Int64))) := f18.same W27
  have pre30 : ∀ t, own_S p e below m T27 43 #[lvR o0_, lvR o1_] [] t → G t := by
    intro t kt
    refine pre0 t ?_
    show own_S p e below m s₁ 0 #[lvR o0_, lvR o1_] [] _
    refine XS.aloadN X0.here hx rfl (hb hby d3_0) rfl rfl ?_
    refine XS.dup X0.here hx rfl (hb hby d3_1) rfl rfl ?_
    show own_S p e below m s₁ 2 #[lvR o0_, lvR o1_] [(.ref o0_), (.ref o0_)] _
    refine st1 _ ?_
    refine XS.aloadN X1.here hx rfl (hb hby d3_5) rfl rfl ?_
    show own_S p e below m T1 6 #[lvR o0_, lvR o1_] [(.ref o1_), (.long (2 : Int64)), (.ref o0_)] _
    refine st2 _ ?_
    refine XS.ladd X2.here hx rfl (hb hby d3_9) rfl ?_
    show own_S p e below m T2 10 #[lvR o0_, lvR o1_] [(.long (3 : Int64)), (.ref o0_)] _
    refine st3 _ ?_
    refine XS.aloadN X3.here hx rfl (hb hby d3_13) rfl rfl ?_
    refine XS.aloadN X3.here hx rfl (hb hby d3_14) rfl rfl ?_
    show own_S p e below m T3 15 #[lvR o0_, lvR o1_] [(.ref o0_), (.ref o0_)] _
    refine st7 _ ?_
    refine XS.aloadN X7.here hx rfl (hb hby d3_18) rfl rfl ?_
    show own_S p e below m T7 19 #[lvR o0_, lvR o1_] [(.ref o1_), (.long y0_), (.ref o0_)] _
    refine st9 _ ?_
    show own_S p e below m T9 22 #[lvR o0_, lvR o1_] [(.long y2_), (.long y0_), (.ref o0_)] _
    refine st10 _ ?_
    show own_S p e below m T10 25 #[lvR o0_, lvR o1_] [(.long (own_max y0_ y2_)), (.ref o0_)] _
    refine st14 _ ?_
    refine XS.aloadN X14.here hx rfl (hb hby d3_28) rfl rfl ?_
    refine XS.aloadN X14.here hx rfl (hb hby d3_29) rfl rfl ?_
    show own_S p e below m T14 30 #[lvR o0_, lvR o1_] [(.ref o0_), (.ref o0_)] _
    refine st19 _ ?_
    refine XS.aloadN X19.here hx rfl (hb hby d3_33) rfl rfl ?_
    show own_S p e below m T19 34 #[lvR o0_, lvR o1_] [(.ref o1_), (.long y1_), (.ref o0_)] _
    refine st22 _ ?_
    show own_S p e below m T22 37 #[lvR o0_, lvR o1_] [(.long (-9223372036854775808 : Int64)), (.long y1_), (.ref o0_)] _
    refine st23 _ ?_
    show own_S p e below m T23 40 #[lvR o0_, lvR o1_] [(.long (own_max y1_ (-9223372036854775808 : Int64))), (.ref o0_)] _
    refine st27 _ ?_
    exact kt
  have f32 : Keep h0 h3 [o0_] := K0.wr W3 (Or.inl (List.mem_of_getElem? (i := 0) rfl))
  have f33 : Keep h0 h14 [o0_] := f32.wr W14 (Or.inl (List.mem_of_getElem? (i := 0) rfl))
  have f34 : Keep h0 h27 [o0_] := f33.wr W27 (Or.inl (List.mem_of_getElem? (i := 0) rfl))
  have f35 : Exa Z h27 o0_ cn0 := f26.wr W27
  have f36 : Fld Z h27 o0_ cn0 "latestTimestamp" "J" (.long (own_max y0_ y2_)) := f16.other W27 (Or.inr (slot_ne (Or.inl (own_w hw 14 rfl)) (Or.inl (own_w hw 16 rfl)) (by decide) (t := .long) (t' := .long) (by decide) (by decide)))
  have f37 : Fld Z h14 o0_ cn0 "cells" "J" (.long (3 : Int64)) := f5.other W14 (Or.inr (slot_ne (Or.inl (own_w hw 25 rfl)) (Or.inl (own_w hw 14 rfl)) (by decide) (t := .long) (t' := .long) (by decide) (by decide)))
  have f38 : Fld Z h27 o0_ cn0 "cells" "J" (.long (3 : Int64)) := f37.other W27 (Or.inr (slot_ne (Or.inl (own_w hw 25 rfl)) (Or.inl (own_w hw 16 rfl)) (by decide) (t := .long) (t' := .long) (by decide) (by decide)))
  obtain ⟨fs, hr, hrun, hended, hW, hsame⟩ := X27.leave (v := none) (fun _ => rfl)
  refine ⟨_, _, hG _ (pre30 _ (X27.returnOut hx Bd.returns (hb hby d3_43) hr)), hrun, hended, _, _, rfl, ?_, ⟨_, rfl⟩, hW, hsame.mono (by decide) (by decide)⟩
  show Qadd35 Z o0_ o1_ y0_ y1_ y2_ h0 n0 _ T27.heap _
  rw [e27]
  exact ⟨rfl, N28, f34, f35, f36, f29, f38⟩
theorem efadd36 (m : MethodId) (o0_ : Addr) (o1_ : Addr) : entryFrame m #[(.ref o0_), (.ref o1_)] 2 = mkF m 0 #[lvR o0_, lvR o1_] [] := by first | (simp [entryFrame, mkF, argsToLocals, Value.category]; done) | rfl
def Qadd36 (Z : State) (o0_ : Addr) (o1_ : Addr) (y0_ : Int64) (y1_ : Int64) (y2_ : Int64) (y3_ : Int64) (h0 : Heap) (n0 : Nat) (v : Option Value) (h : Heap) (L : List Loc) : Prop := v = none ∧ Fr n0 L ∧ Keep h0 h [o0_] ∧ Exa Z h o0_ cn0 ∧ Fld Z h o0_ cn0 "latestTimestamp" "J" (.long (own_max y0_ y2_)) ∧ Fld Z h o0_ cn0 "latestDeleteTimestamp" "J" (.long (own_max y1_ y3_)) ∧ Fld Z h o0_ cn0 "cells" "J" (.long (4 : Int64))
set_option maxRecDepth 65536 in
set_option maxHeartbeats 40000000 in
theorem rmadd36 (l : Launch) (Z : State) (a0 : Array Value) (hw : ∀ d ∈ tables_1, d.before a0 Z = true) (ws : List Jvm.Cond) (o0_ : Addr) (o1_ : Addr) (y0_ : Int64) (y1_ : Int64) (y2_ : Int64) (y3_ : Int64) (h0 : Heap) (n0 : Nat) (O0 : Old Z n0 h0) (P0 : Exa Z h0 o0_ cn0) (P1 : Fld Z h0 o0_ cn0 "latestTimestamp" "J" (.long y0_)) (P2 : Fld Z h0 o0_ cn0 "latestDeleteTimestamp" "J" (.long y1_)) (P3 : Fld Z h0 o0_ cn0 "cells" "J" (.long (2 : Int64))) (P4 : Exa Z h0 o1_ cn0) (P5 : Fld Z h0 o1_ cn0 "latestTimestamp" "J" (.long y2_)) (P6 : Fld Z h0 o1_ cn0 "latestDeleteTimestamp" "J" (.long y3_)) (P7 : Fld Z h0 o1_ cn0 "cells" "J" (.long (2 : Int64))) (P8 : n0 ≤ o0_) (P9 : o1_ ≠ o0_) :
    MetFree l (⟨"com/example/zenodotus/zenodotus/io/RowCodec$Tally", "add", "(Lcom/example/zenodotus/zenodotus/io/RowCodec$Tally;)V"⟩ : MethodName) (head1 (Jvm.Cond.code (⟨"com/example/zenodotus/zenodotus/io/RowCodec$Tally", "add", "(Lcom/example/zenodotus/zenodotus/io/RowCodec$Tally;)V"⟩ : MethodName) prog_38_method_3_code 2 none :: ws) ({ frames := 1, cells := 0, slots := 0, locals := 16 } : Room)) (fun a U => a = #[(.ref o0_), (.ref o1_)] ∧ Z.Warmed39 U.vm ∧ U.heap = h0) (fun _ _ _ _ _ => True) (fun _ U o U' => ∃ v L, o = .returned v ∧ Qadd36 Z o0_ o1_ y0_ y1_ y2_ y3_ h0 n0 v U'.heap L ∧ FrameEnd U o U' L ({ frames := 1, cells := 0, slots := 0, locals := 16 } : Room).cells ({ frames := 1, cells := 0, slots := 0, locals := 16 } : Room).slots) := by
  refine MetFree.of_bodySF (plainFor_of_name pn_0) hisR ?_
  intro p e s m args below meth c s₁ Bd hml0 hP hK
  obtain ⟨rfl, hZ, hh⟩ := hP
  have hx := Bd.exec
  have hby := Bd.bytes
  have hml : c.maxLocals = 2 := hml0
  have hown : s.vm.findClass "com/example/zenodotus/zenodotus/io/RowCodec$Tally" = some m.cls := findClass_of_methodNamed Bd.named
  have hnm := (name_of_methodNamed Bd.named Bd.method).1
  have X0 : Stand p l e ({ frames := 1, cells := 0, slots := 0, locals := 16 } : Room) s m #[(.ref o0_), (.ref o1_)] below meth c s₁ [] 0 0 := Stand.of_body Bd
  have e0 : s₁.heap = h0 := by rw [← hh, Bd.state]; rfl
  have N0 := Fr.nil n0
  obtain ⟨G, pre0, hG⟩ : ∃ G : State → Prop, (∀ t, own_S p e below m s₁ 0 #[lvR o0_, lvR o1_] [] t → G t) ∧ (∀ t, G t → Steps p.tables e below (s₁.setTop (entryFrame m #[(.ref o0_), (.ref o1_)] 2)) t) := ⟨fun t => Steps p.tables e below (s₁.setTop (entryFrame m #[(.ref o0_), (.ref o1_)] 2)) t, fun t k => castTop (efadd36 m o0_ o1_) k, fun _ k => k⟩
  have K0 : Keep h0 h0 [o0_] := Keep.refl _ _
  obtain ⟨T1, X1, e1, st1⟩ := getF X0 hx hZ hown (host := "") (Or.inl (own_w hw 24 rfl)) Via.refl e0 P3 (g := (mkF m 2 #[lvR o0_, lvR o1_] [(.ref o0_), (.ref o0_)])) rfl rfl (hb hby d3_2)
  obtain ⟨T2, X2, e2, st2⟩ := getF X1 hx hZ hown (host := "") (Or.inl (own_w hw 24 rfl)) Via.refl e1 P7 (g := (mkF m 6 #[lvR o0_, lvR o1_] [(.ref o1_), (.long (2 : Int64)), (.ref o0_)])) rfl rfl (hb hby d3_6)
  obtain ⟨T3, h3, X3, e3, W3, st3⟩ := putF X2 hx hZ hown (host := "") (Or.inl (own_w hw 24 rfl)) Via.refl e2 P3 P0 (Or.inl (own_w hw 25 rfl)) (own_w hw 4 rfl) (ty := .long) (by decide) rfl rfl (g := (mkF m 10 #[lvR o0_, lvR o1_] [(.long (4 : Int64)), (.ref o0_)])) rfl rfl (hb hby d3_10)
  have N4 := Fr.snoc X3 N0 P8
  have f5 : Fld Z h3 o0_ cn0 "cells" "J" (.long (4 : Int64)) := P3.same W3
  have f6 : Fld Z h3 o0_ cn0 "latestTimestamp" "J" (.long y0_) := P1.other W3 (Or.inr (slot_ne (Or.inl (own_w hw 14 rfl)) (Or.inl (own_w hw 25 rfl)) (by decide) (t := .long) (t' := .long) (by decide) (by decide)))
  obtain ⟨T7, X7, e7, st7⟩ := getF X3 hx hZ hown (host := "") (Or.inl (own_w hw 13 rfl)) Via.refl e3 f6 (g := (mkF m 15 #[lvR o0_, lvR o1_] [(.ref o0_), (.ref o0_)])) rfl rfl (hb hby d3_15)
  have f8 : Fld Z h3 o1_ cn0 "latestTimestamp" "J" (.long y2_) := P5.other W3 (Or.inl P9)
  obtain ⟨T9, X9, e9, st9⟩ := getF X7 hx hZ hown (host := "") (Or.inl (own_w hw 13 rfl)) Via.refl e7 f8 (g := (mkF m 19 #[lvR o0_, lvR o1_] [(.ref o1_), (.long y0_), (.ref o0_)])) rfl rfl (hb hby d3_19)
  have f11 : Old Z n0 h3 := O0.wr W3 P8
  obtain ⟨_, _, ⟨T10, L10, k10, n10⟩, -, X10, ⟨Lc10, hQ10, l10, y10, z10⟩, st10⟩ := Jvm.LawKit.callS X9 hx (y := (⟨"java/lang/Math", "max", "(JJ)J"⟩ : MethodName)) hown (mvT hZ (own_w hw 27 rfl)) (mvT hZ (own_w hw 28 rfl)) (mvT hZ (own_w hw 29 rfl)) (mvT hZ (own_w hw 30 rfl)) (by decide) (backOf (W := 1) (rmMax l Z a0 hw [] y0_ y2_ h3 n0 f11 ) hZ (own_w hw 30 rfl) (own_w hw 29 rfl) (by decide) (by decide)) (g := (mkF m 22 #[lvR o0_, lvR o1_] [(.long y2_), (.long y0_), (.ref o0_)])) rfl (by rw [hml]; rfl) (argsL := [(.long y0_), (.long y2_)]) (rest := [(.ref o0_)]) (lenOf pd_1 rfl) rfl (by show 2 * 0 + _ ≤ _; exact Nat.le_of_eq rfl) (hb hby d3_22) (fun _ _ => ⟨rfl, e9, (by decide : 0 + 0 ≤ _), (by decide : 0 + 0 ≤ _)⟩)
  dsimp only [Pt.U, Pt.locs, Pt.cells, Pt.slots] at X10 l10 y10 z10 st10 hQ10
  subst l10 y10 z10
  obtain ⟨h10, e10⟩ : ∃ z, T10.heap = z := ⟨_, rfl⟩
  rw [e10] at hQ10
  obtain ⟨rfl, N10q, hh10⟩ := hQ10
  have N12 := Fr.app N4 N10q
  have e10' : T10.heap = h3 := e10.trans hh10
  have f13 : Exa Z h3 o0_ cn0 := P0.wr W3
  obtain ⟨T14, h14, X14, e14, W14, st14⟩ := putF X10 hx hZ hown (host := "") (Or.inl (own_w hw 13 rfl)) Via.refl e10' f6 f13 (Or.inl (own_w hw 14 rfl)) (own_w hw 4 rfl) (ty := .long) (by decide) rfl rfl (g := (mkF m 25 #[lvR o0_, lvR o1_] [(.long (own_max y0_ y2_)), (.ref o0_)])) rfl rfl (hb hby d3_25)
  have N15 := Fr.snoc X14 N12 P8
  have f16 : Fld Z h14 o0_ cn0 "latestTimestamp" "J" (.long (own_max y0_ y2_)) := f6.same W14
  have f17 : Fld Z h3 o0_ cn0 "latestDeleteTimestamp" "J" (.long y1_) := P2.other W3 (Or.inr (slot_ne (Or.inl (own_w hw 16 rfl)) (Or.inl (own_w hw 25 rfl)) (by decide) (t := .long) (t' := .long) (by decide) (by decide)))
  have f18 : Fld Z h14 o0_ cn0 "latestDeleteTimestamp" "J" (.long y1_) := f17.other W14 (Or.inr (slot_ne (Or.inl (own_w hw 16 rfl)) (Or.inl (own_w hw 14 rfl)) (by decide) (t := .long) (t' := .long) (by decide) (by decide)))
  obtain ⟨T19, X19, e19, st19⟩ := getF X14 hx hZ hown (host := "") (Or.inl (own_w hw 15 rfl)) Via.refl e14 f18 (g := (mkF m 30 #[lvR o0_, lvR o1_] [(.ref o0_), (.ref o0_)])) rfl rfl (hb hby d3_30)
  have f20 : Fld Z h3 o1_ cn0 "latestDeleteTimestamp" "J" (.long y3_) := P6.other W3 (Or.inl P9)
  have f21 : Fld Z h14 o1_ cn0 "latestDeleteTimestamp" "J" (.long y3_) := f20.other W14 (Or.inl P9)
  obtain ⟨T22, X22, e22, st22⟩ := getF X19 hx hZ hown (host := "") (Or.inl (own_w hw 15 rfl)) Via.refl e19 f21 (g := (mkF m 34 #[lvR o0_, lvR o1_] [(.ref o1_), (.long y1_), (.ref o0_)])) rfl rfl (hb hby d3_34)
  have f24 : Old Z n0 h14 := f11.wr W14 P8
  obtain ⟨_, _, ⟨T23, L23, k23, n23⟩, -, X23, ⟨Lc23, hQ23, l23, y23, z23⟩, st23⟩ := Jvm.LawKit.callS X22 hx (y := (⟨"java/lang/Math", "max", "(JJ)J"⟩ : MethodName)) hown (mvT hZ (own_w hw 27 rfl)) (mvT hZ (own_w hw 28 rfl)) (mvT hZ (own_w hw 29 rfl)) (mvT hZ (own_w hw 30 rfl)) (by decide) (backOf (W := 1) (rmMax l Z a0 hw [] y1_ y3_ h14 n0 f24 ) hZ (own_w hw 30 rfl) (own_w hw 29 rfl) (by decide) (by decide)) (g := (mkF m 37 #[lvR o0_, lvR o1_] [(.long y3_), (.long y1_), (.ref o0_)])) rfl (by rw [hml]; rfl) (argsL := [(.long y1_), (.long y3_)]) (rest := [(.ref o0_)]) (lenOf pd_1 rfl) rfl (by show 2 * 0 + _ ≤ _; exact Nat.le_of_eq rfl) (hb hby d3_37) (fun _ _ => ⟨rfl, e22, (by decide : 0 + 0 ≤ _), (by decide : 0 + 0 ≤ _)⟩)
  dsimp only [Pt.U, Pt.locs, Pt.cells, Pt.slots] at X23 l23 y23 z23 st23 hQ23
  subst l23 y23 z23
  obtain ⟨h23, e23⟩ : ∃ z, T23.heap = z := ⟨_, rfl⟩
  rw [e23] at hQ23
  obtain ⟨rfl, N23q, hh23⟩ := hQ23
  have N25 := Fr.app N15 N23q
  have e23' : T23.heap = h14 := e23.trans hh23
  have f26 : Exa Z h14 o0_ cn0 := f13.wr W14
  obtain ⟨T27, h27, X27, e27, W27, st27⟩ := putF X23 hx hZ hown (host := "") (Or.inl (own_w hw 15 rfl)) Via.refl e23' f18 f26 (Or.inl (own_w hw 16 rfl)) (own_w hw 4 rfl) (ty := .long) (by decide) rfl rfl (g := (mkF m 40 #[lvR o0_, lvR o1_] [(.long (own_max y1_ y3_)), (.ref o0_)])) rfl rfl (hb hby d3_40)
  have N28 := Fr.snoc X27 N25 P8
  have f29 : Fld Z h27 o0_ cn0 "latestDeleteTimestamp" "J" (.long (own_max y1_ y3_)) := f18.same W27
  have pre30 : ∀ t, own_S p e below m T27 43 #[lvR o0_, lvR o1_] [] t → G t := by
    intro t kt
    refine pre0 t ?_
    show own_S p e below m s₁ 0 #[lvR o0_, lvR o1_] [] _
    refine XS.aloadN X0.here hx rfl (hb hby d3_0) rfl rfl ?_
    refine XS.dup X0.here hx rfl (hb hby d3_1) rfl rfl ?_
    show own_S p e below m s₁ 2 #[lvR o0_, lvR o1_] [(.ref o0_), (.ref o0_)] _
    refine st1 _ ?_
    refine XS.aloadN X1.here hx rfl (hb hby d3_5) rfl rfl ?_
    show own_S p e below m T1 6 #[lvR o0_, lvR o1_] [(.ref o1_), (.long (2 : Int64)), (.ref o0_)] _
    refine st2 _ ?_
    refine XS.ladd X2.here hx rfl (hb hby d3_9) rfl ?_
    show own_S p e below m T2 10 #[lvR o0_, lvR o1_] [(.long (4 : Int64)), (.ref o0_)] _
    refine st3 _ ?_
    refine XS.aloadN X3.here hx rfl (hb hby d3_13) rfl rfl ?_
    refine XS.aloadN X3.here hx rfl (hb hby d3_14) rfl rfl ?_
    show own_S p e below m T3 15 #[lvR o0_, lvR o1_] [(.ref o0_), (.ref o0_)] _
    refine st7 _ ?_
    refine XS.aloadN X7.here hx rfl (hb hby d3_18) rfl rfl ?_
    show own_S p e below m T7 19 #[lvR o0_, lvR o1_] [(.ref o1_), (.long y0_), (.ref o0_)] _
    refine st9 _ ?_
    show own_S p e below m T9 22 #[lvR o0_, lvR o1_] [(.long y2_), (.long y0_), (.ref o0_)] _
    refine st10 _ ?_
    show own_S p e below m T10 25 #[lvR o0_, lvR o1_] [(.long (own_max y0_ y2_)), (.ref o0_)] _
    refine st14 _ ?_
    refine XS.aloadN X14.here hx rfl (hb hby d3_28) rfl rfl ?_
    refine XS.aloadN X14.here hx rfl (hb hby d3_29) rfl rfl ?_
    show own_S p e below m T14 30 #[lvR o0_, lvR o1_] [(.ref o0_), (.ref o0_)] _
    refine st19 _ ?_
    refine XS.aloadN X19.here hx rfl (hb hby d3_33) rfl rfl ?_
    show own_S p e below m T19 34 #[lvR o0_, lvR o1_] [(.ref o1_), (.long y1_), (.ref o0_)] _
    refine st22 _ ?_
    show own_S p e below m T22 37 #[lvR o0_, lvR o1_] [(.long y3_), (.long y1_), (.ref o0_)] _
    refine st23 _ ?_
    show own_S p e below m T23 40 #[lvR o0_, lvR o1_] [(.long (own_max y1_ y3_)), (.ref o0_)] _
    refine st27 _ ?_
    exact kt
  have f32 : Keep h0 h3 [o0_] := K0.wr W3 (Or.inl (List.mem_of_getElem? (i := 0) rfl))
  have f33 : Keep h0 h14 [o0_] := f32.wr W14 (Or.inl (List.mem_of_getElem? (i := 0) rfl))
  have f34 : Keep h0 h27 [o0_] := f33.wr W27 (Or.inl (List.mem_of_getElem? (i := 0) rfl))
  have f35 : Exa Z h27 o0_ cn0 := f26.wr W27
  have f36 : Fld Z h27 o0_ cn0 "latestTimestamp" "J" (.long (own_max y0_ y2_)) := f16.other W27 (Or.inr (slot_ne (Or.inl (own_w hw 14 rfl)) (Or.inl (own_w hw 16 rfl)) (by decide) (t := .long) (t' := .long) (by decide) (by decide)))
  have f37 : Fld Z h14 o0_ cn0 "cells" "J" (.long (4 : Int64)) := f5.other W14 (Or.inr (slot_ne (Or.inl (own_w hw 25 rfl)) (Or.inl (own_w hw 14 rfl)) (by decide) (t := .long) (t' := .long) (by decide) (by decide)))
  have f38 : Fld Z h27 o0_ cn0 "cells" "J" (.long (4 : Int64)) := f37.other W27 (Or.inr (slot_ne (Or.inl (own_w hw 25 rfl)) (Or.inl (own_w hw 16 rfl)) (by decide) (t := .long) (t' := .long) (by decide) (by decide)))
  obtain ⟨fs, hr, hrun, hended, hW, hsame⟩ := X27.leave (v := none) (fun _ => rfl)
  refine ⟨_, _, hG _ (pre30 _ (X27.returnOut hx Bd.returns (hb hby d3_43) hr)), hrun, hended, _, _, rfl, ?_, ⟨_, rfl⟩, hW, hsame.mono (by decide) (by decide)⟩
  show Qadd36 Z o0_ o1_ y0_ y1_ y2_ y3_ h0 n0 _ T27.heap _
  rw [e27]
  exact ⟨rfl, N28, f34, f35, f36, f29, f38⟩
theorem efcells37 (m : MethodId) (o0_ : Addr) : entryFrame m #[(.ref o0_)] 1 = mkF m 0 #[lvR o0_] [] := by first | (simp [entryFrame, mkF, argsToLocals, Value.category]; done) | rfl
def Qcells37 (Z : State) (o0_ : Addr) (y0_ : Int64) (y1_ : Int64) (h0 : Heap) (n0 : Nat) (v : Option Value) (h : Heap) (L : List Loc) : Prop := v = some (.long (4 : Int64)) ∧ Fr n0 L ∧ h = h0
set_option maxRecDepth 65536 in
set_option maxHeartbeats 40000000 in
theorem rmcells37 (l : Launch) (Z : State) (a0 : Array Value) (hw : ∀ d ∈ tables_1, d.before a0 Z = true) (ws : List Jvm.Cond) (o0_ : Addr) (y0_ : Int64) (y1_ : Int64) (h0 : Heap) (n0 : Nat) (O0 : Old Z n0 h0) (P0 : Exa Z h0 o0_ cn0) (P1 : Fld Z h0 o0_ cn0 "latestTimestamp" "J" (.long y0_)) (P2 : Fld Z h0 o0_ cn0 "latestDeleteTimestamp" "J" (.long y1_)) (P3 : Fld Z h0 o0_ cn0 "cells" "J" (.long (4 : Int64))) :
    MetFree l (⟨"com/example/zenodotus/zenodotus/io/RowCodec$Tally", "cells", "()J"⟩ : MethodName) (head1 (Jvm.Cond.code (⟨"com/example/zenodotus/zenodotus/io/RowCodec$Tally", "cells", "()J"⟩ : MethodName) prog_38_method_4_code 1 (some .long) :: ws) ({ frames := 0, cells := 0, slots := 0, locals := 0 } : Room)) (fun a U => a = #[(.ref o0_)] ∧ Z.Warmed39 U.vm ∧ U.heap = h0) (fun _ _ _ _ _ => True) (fun _ U o U' => ∃ v L, o = .returned v ∧ Qcells37 Z o0_ y0_ y1_ h0 n0 v U'.heap L ∧ FrameEnd U o U' L ({ frames := 0, cells := 0, slots := 0, locals := 0 } : Room).cells ({ frames := 0, cells := 0, slots := 0, locals := 0 } : Room).slots) := by
  refine MetFree.of_bodySF (plainFor_of_name pn_0) hisR ?_
  intro p e s m args below meth c s₁ Bd hml0 hP hK
  obtain ⟨rfl, hZ, hh⟩ := hP
  have hx := Bd.exec
  have hby := Bd.bytes
  have hml : c.maxLocals = 1 := hml0
  have hown : s.vm.findClass "com/example/zenodotus/zenodotus/io/RowCodec$Tally" = some m.cls := findClass_of_methodNamed Bd.named
  have hnm := (name_of_methodNamed Bd.named Bd.method).1
  have X0 : Stand p l e ({ frames := 0, cells := 0, slots := 0, locals := 0 } : Room) s m #[(.ref o0_)] below meth c s₁ [] 0 0 := Stand.of_body Bd
  have e0 : s₁.heap = h0 := by rw [← hh, Bd.state]; rfl
  have N0 := Fr.nil n0
  obtain ⟨G, pre0, hG⟩ : ∃ G : State → Prop, (∀ t, own_S p e below m s₁ 0 #[lvR o0_] [] t → G t) ∧ (∀ t, G t → Steps p.tables e below (s₁.setTop (entryFrame m #[(.ref o0_)] 1)) t) := ⟨fun t => Steps p.tables e below (s₁.setTop (entryFrame m #[(.ref o0_)] 1)) t, fun t k => castTop (efcells37 m o0_) k, fun _ k => k⟩
  have K0 : Keep h0 h0 [] := Keep.refl _ _
  obtain ⟨T1, X1, e1, st1⟩ := getF X0 hx hZ hown (host := "") (Or.inl (own_w hw 24 rfl)) Via.refl e0 P3 (g := (mkF m 1 #[lvR o0_] [(.ref o0_)])) rfl rfl (hb hby d4_1)
  have pre2 : ∀ t, own_S p e below m T1 4 #[lvR o0_] [(.long (4 : Int64))] t → G t := by
    intro t kt
    refine pre0 t ?_
    show own_S p e below m s₁ 0 #[lvR o0_] [] _
    refine XS.aloadN X0.here hx rfl (hb hby d4_0) rfl rfl ?_
    show own_S p e below m s₁ 1 #[lvR o0_] [(.ref o0_)] _
    refine st1 _ ?_
    exact kt
  obtain ⟨fs, hr, hrun, hended, hW, hsame⟩ := X1.leave (v := some (.long (4 : Int64))) (fun h => by rw [Bd.returns] at h; cases h)
  refine ⟨_, _, hG _ (pre2 _ (retOut X1 hx Bd.returns rfl (Or.inr (Or.inl ⟨rfl, rfl, _, rfl⟩)) (hb hby d4_4) hr)), hrun, hended, _, _, rfl, ?_, ⟨_, rfl⟩, hW, hsame.mono (by decide) (by decide)⟩
  show Qcells37 Z o0_ y0_ y1_ h0 n0 _ T1.heap _
  rw [e1]
  exact ⟨rfl, N0, rfl⟩
theorem eflatestTimestamp38 (m : MethodId) (o0_ : Addr) : entryFrame m #[(.ref o0_)] 1 = mkF m 0 #[lvR o0_] [] := by first | (simp [entryFrame, mkF, argsToLocals, Value.category]; done) | rfl
def QlatestTimestamp38 (Z : State) (o0_ : Addr) (y0_ : Int64) (y1_ : Int64) (h0 : Heap) (n0 : Nat) (v : Option Value) (h : Heap) (L : List Loc) : Prop := v = some (.long y0_) ∧ Fr n0 L ∧ h = h0
set_option maxRecDepth 65536 in
set_option maxHeartbeats 40000000 in
theorem rmlatestTimestamp38 (l : Launch) (Z : State) (a0 : Array Value) (hw : ∀ d ∈ tables_1, d.before a0 Z = true) (ws : List Jvm.Cond) (o0_ : Addr) (y0_ : Int64) (y1_ : Int64) (h0 : Heap) (n0 : Nat) (O0 : Old Z n0 h0) (P0 : Exa Z h0 o0_ cn0) (P1 : Fld Z h0 o0_ cn0 "latestTimestamp" "J" (.long y0_)) (P2 : Fld Z h0 o0_ cn0 "latestDeleteTimestamp" "J" (.long y1_)) (P3 : Fld Z h0 o0_ cn0 "cells" "J" (.long (4 : Int64))) :
    MetFree l (⟨"com/example/zenodotus/zenodotus/io/RowCodec$Tally", "latestTimestamp", "()J"⟩ : MethodName) (head1 (Jvm.Cond.code (⟨"com/example/zenodotus/zenodotus/io/RowCodec$Tally", "latestTimestamp", "()J"⟩ : MethodName) prog_38_method_5_code 1 (some .long) :: ws) ({ frames := 0, cells := 0, slots := 0, locals := 0 } : Room)) (fun a U => a = #[(.ref o0_)] ∧ Z.Warmed39 U.vm ∧ U.heap = h0) (fun _ _ _ _ _ => True) (fun _ U o U' => ∃ v L, o = .returned v ∧ QlatestTimestamp38 Z o0_ y0_ y1_ h0 n0 v U'.heap L ∧ FrameEnd U o U' L ({ frames := 0, cells := 0, slots := 0, locals := 0 } : Room).cells ({ frames := 0, cells := 0, slots := 0, locals := 0 } : Room).slots) := by
  refine MetFree.of_bodySF (plainFor_of_name pn_0) hisR ?_
  intro p e s m args below meth c s₁ Bd hml0 hP hK
  obtain ⟨rfl, hZ, hh⟩ := hP
  have hx := Bd.exec
  have hby := Bd.bytes
  have hml : c.maxLocals = 1 := hml0
  have hown : s.vm.findClass "com/example/zenodotus/zenodotus/io/RowCodec$Tally" = some m.cls := findClass_of_methodNamed Bd.named
  have hnm := (name_of_methodNamed Bd.named Bd.method).1
  have X0 : Stand p l e ({ frames := 0, cells := 0, slots := 0, locals := 0 } : Room) s m #[(.ref o0_)] below meth c s₁ [] 0 0 := Stand.of_body Bd
  have e0 : s₁.heap = h0 := by rw [← hh, Bd.state]; rfl
  have N0 := Fr.nil n0
  obtain ⟨G, pre0, hG⟩ : ∃ G : State → Prop, (∀ t, own_S p e below m s₁ 0 #[lvR o0_] [] t → G t) ∧ (∀ t, G t → Steps p.tables e below (s₁.setTop (entryFrame m #[(.ref o0_)] 1)) t) := ⟨fun t => Steps p.tables e below (s₁.setTop (entryFrame m #[(.ref o0_)] 1)) t, fun t k => castTop (eflatestTimestamp38 m o0_) k, fun _ k => k⟩
  have K0 : Keep h0 h0 [] := Keep.refl _ _
  obtain ⟨T1, X1, e1, st1⟩ := getF X0 hx hZ hown (host := "") (Or.inl (own_w hw 13 rfl)) Via.refl e0 P1 (g := (mkF m 1 #[lvR o0_] [(.ref o0_)])) rfl rfl (hb hby d5_1)
  have pre2 : ∀ t, own_S p e below m T1 4 #[lvR o0_] [(.long y0_)] t → G t := by
    intro t kt
    refine pre0 t ?_
    show own_S p e below m s₁ 0 #[lvR o0_] [] _
    refine XS.aloadN X0.here hx rfl (hb hby d5_0) rfl rfl ?_
    show own_S p e below m s₁ 1 #[lvR o0_] [(.ref o0_)] _
    refine st1 _ ?_
    exact kt
  obtain ⟨fs, hr, hrun, hended, hW, hsame⟩ := X1.leave (v := some (.long y0_)) (fun h => by rw [Bd.returns] at h; cases h)
  refine ⟨_, _, hG _ (pre2 _ (retOut X1 hx Bd.returns rfl (Or.inr (Or.inl ⟨rfl, rfl, _, rfl⟩)) (hb hby d5_4) hr)), hrun, hended, _, _, rfl, ?_, ⟨_, rfl⟩, hW, hsame.mono (by decide) (by decide)⟩
  show QlatestTimestamp38 Z o0_ y0_ y1_ h0 n0 _ T1.heap _
  rw [e1]
  exact ⟨rfl, N0, rfl⟩
theorem eflatestDeleteTimestamp39 (m : MethodId) (o0_ : Addr) : entryFrame m #[(.ref o0_)] 1 = mkF m 0 #[lvR o0_] [] := by first | (simp [entryFrame, mkF, argsToLocals, Value.category]; done) | rfl
def QlatestDeleteTimestamp39 (Z : State) (o0_ : Addr) (y0_ : Int64) (y1_ : Int64) (h0 : Heap) (n0 : Nat) (v : Option Value) (h : Heap) (L : List Loc) : Prop := v = some (.long y1_) ∧ Fr n0 L ∧ h = h0
set_option maxRecDepth 65536 in
set_option maxHeartbeats 40000000 in
theorem rmlatestDeleteTimestamp39 (l : Launch) (Z : State) (a0 : Array Value) (hw : ∀ d ∈ tables_1, d.before a0 Z = true) (ws : List Jvm.Cond) (o0_ : Addr) (y0_ : Int64) (y1_ : Int64) (h0 : Heap) (n0 : Nat) (O0 : Old Z n0 h0) (P0 : Exa Z h0 o0_ cn0) (P1 : Fld Z h0 o0_ cn0 "latestTimestamp" "J" (.long y0_)) (P2 : Fld Z h0 o0_ cn0 "latestDeleteTimestamp" "J" (.long y1_)) (P3 : Fld Z h0 o0_ cn0 "cells" "J" (.long (4 : Int64))) :
    MetFree l (⟨"com/example/zenodotus/zenodotus/io/RowCodec$Tally", "latestDeleteTimestamp", "()J"⟩ : MethodName) (head1 (Jvm.Cond.code (⟨"com/example/zenodotus/zenodotus/io/RowCodec$Tally", "latestDeleteTimestamp", "()J"⟩ : MethodName) prog_38_method_6_code 1 (some .long) :: ws) ({ frames := 0, cells := 0, slots := 0, locals := 0 } : Room)) (fun a U => a = #[(.ref o0_)] ∧ Z.Warmed39 U.vm ∧ U.heap = h0) (fun _ _ _ _ _ => True) (fun _ U o U' => ∃ v L, o = .returned v ∧ QlatestDeleteTimestamp39 Z o0_ y0_ y1_ h0 n0 v U'.heap L ∧ FrameEnd U o U' L ({ frames := 0, cells := 0, slots := 0, locals := 0 } : Room).cells ({ frames := 0, cells := 0, slots := 0, locals := 0 } : Room).slots) := by
  refine MetFree.of_bodySF (plainFor_of_name pn_0) hisR ?_
  intro p e s m args below meth c s₁ Bd hml0 hP hK
  obtain ⟨rfl, hZ, hh⟩ := hP
  have hx := Bd.exec
  have hby := Bd.bytes
  have hml : c.maxLocals = 1 := hml0
  have hown : s.vm.findClass "com/example/zenodotus/zenodotus/io/RowCodec$Tally" = some m.cls := findClass_of_methodNamed Bd.named
  have hnm := (name_of_methodNamed Bd.named Bd.method).1
  have X0 : Stand p l e ({ frames := 0, cells := 0, slots := 0, locals := 0 } : Room) s m #[(.ref o0_)] below meth c s₁ [] 0 0 := Stand.of_body Bd
  have e0 : s₁.heap = h0 := by rw [← hh, Bd.state]; rfl
  have N0 := Fr.nil n0
  obtain ⟨G, pre0, hG⟩ : ∃ G : State → Prop, (∀ t, own_S p e below m s₁ 0 #[lvR o0_] [] t → G t) ∧ (∀ t, G t → Steps p.tables e below (s₁.setTop (entryFrame m #[(.ref o0_)] 1)) t) := ⟨fun t => Steps p.tables e below (s₁.setTop (entryFrame m #[(.ref o0_)] 1)) t, fun t k => castTop (eflatestDeleteTimestamp39 m o0_) k, fun _ k => k⟩
  have K0 : Keep h0 h0 [] := Keep.refl _ _
  obtain ⟨T1, X1, e1, st1⟩ := getF X0 hx hZ hown (host := "") (Or.inl (own_w hw 15 rfl)) Via.refl e0 P2 (g := (mkF m 1 #[lvR o0_] [(.ref o0_)])) rfl rfl (hb hby d7_1)
  have pre2 : ∀ t, own_S p e below m T1 4 #[lvR o0_] [(.long y1_)] t → G t := by
    intro t kt
    refine pre0 t ?_
    show own_S p e below m s₁ 0 #[lvR o0_] [] _
    refine XS.aloadN X0.here hx rfl (hb hby d7_0) rfl rfl ?_
    show own_S p e below m s₁ 1 #[lvR o0_] [(.ref o0_)] _
    refine st1 _ ?_
    exact kt
  obtain ⟨fs, hr, hrun, hended, hW, hsame⟩ := X1.leave (v := some (.long y1_)) (fun h => by rw [Bd.returns] at h; cases h)
  refine ⟨_, _, hG _ (pre2 _ (retOut X1 hx Bd.returns rfl (Or.inr (Or.inl ⟨rfl, rfl, _, rfl⟩)) (hb hby d7_4) hr)), hrun, hended, _, _, rfl, ?_, ⟨_, rfl⟩, hW, hsame.mono (by decide) (by decide)⟩
  show QlatestDeleteTimestamp39 Z o0_ y0_ y1_ h0 n0 _ T1.heap _
  rw [e1]
  exact ⟨rfl, N0, rfl⟩
theorem efLaw (m : MethodId) (q0_ : Int64) (q1_ : Int64) (q2_ : Int64) (q3_ : Int64) (p4_ : Int32) : entryFrame m #[(.long q0_), (.long q1_), (.long q2_), (.long q3_), (.int p4_)] maxLocals = mkF m 0 #[lvJ q0_, .second, lvJ q1_, .second, lvJ q2_, .second, lvJ q3_, .second, lvI p4_, .unset, .unset, .unset, .unset, .unset, .unset, .unset, .unset, .unset, .unset] [] := by first | (simp [entryFrame, mkF, argsToLocals, Value.category, maxLocals]; done) | rfl
def QLaw (Z : State) (q0_ : Int64) (q1_ : Int64) (q2_ : Int64) (q3_ : Int64) (p4_ : Int32) (w_PUT : Addr) (w_DELETE_COLUMN : Addr) (w_DELETE_FAMILY : Addr) (h0 : Heap) (n0 : Nat) (v : Option Value) (h : Heap) (L : List Loc) : Prop := v = some (.int (1 : Int32)) ∧ Fr n0 L
set_option maxRecDepth 65536 in
set_option maxHeartbeats 40000000 in
theorem rmLaw (l : Launch) (Z : State) (a0 : Array Value) (hw : ∀ d ∈ tables_1, d.before a0 Z = true) (ws : List Jvm.Cond) (q0_ : Int64) (q1_ : Int64) (q2_ : Int64) (q3_ : Int64) (p4_ : Int32) (w_PUT : Addr) (w_DELETE_COLUMN : Addr) (w_DELETE_FAMILY : Addr) (h0 : Heap) (n0 : Nat) (O0 : Old Z n0 h0) (P0 : Sta Z Z.heap "com/example/zenodotus/zenodotus/model/Cell$Kind" "PUT" "Lcom/example/zenodotus/zenodotus/model/Cell$Kind;" (.ref w_PUT)) (P1 : Exa Z Z.heap w_PUT cn1) (P2 : Fld Z Z.heap w_PUT "java/lang/Enum" "ordinal" "I" (.int (0 : Int32))) (P3 : Sta Z Z.heap "com/example/zenodotus/zenodotus/model/Cell$Kind" "DELETE_COLUMN" "Lcom/example/zenodotus/zenodotus/model/Cell$Kind;" (.ref w_DELETE_COLUMN)) (P4 : Exa Z Z.heap w_DELETE_COLUMN cn1) (P5 : Fld Z Z.heap w_DELETE_COLUMN "java/lang/Enum" "ordinal" "I" (.int (1 : Int32))) (P6 : Sta Z Z.heap "com/example/zenodotus/zenodotus/model/Cell$Kind" "DELETE_FAMILY" "Lcom/example/zenodotus/zenodotus/model/Cell$Kind;" (.ref w_DELETE_FAMILY)) (P7 : Exa Z Z.heap w_DELETE_FAMILY cn1) (P8 : Fld Z Z.heap w_DELETE_FAMILY "java/lang/Enum" "ordinal" "I" (.int (2 : Int32))) :
    MetFree l x (head1 (Jvm.Cond.code x code maxLocals ret :: ws) room_1) (fun a U => a = #[(.long q0_), (.long q1_), (.long q2_), (.long q3_), (.int p4_)] ∧ Z.Warmed39 U.vm ∧ U.heap = h0) (fun _ _ _ _ _ => True) (fun _ U o U' => ∃ v L, o = .returned v ∧ QLaw Z q0_ q1_ q2_ q3_ p4_ w_PUT w_DELETE_COLUMN w_DELETE_FAMILY h0 n0 v U'.heap L ∧ FrameEnd U o U' L room_1.cells room_1.slots) := by
  refine MetFree.of_bodySF (plainFor_of_name pn_1) hisR ?_
  intro p e s m args below meth c s₁ Bd hml0 hP hK
  obtain ⟨rfl, hZ, hh⟩ := hP
  have hx := Bd.exec
  have hby := Bd.bytes
  have hml : c.maxLocals = 19 := hml0
  have hown : s.vm.findClass "com/example/zenodotus/zenodotus/io/TallyAddPinLaw" = some m.cls := findClass_of_methodNamed Bd.named
  have hnm := (name_of_methodNamed Bd.named Bd.method).1
  have X0 : Stand p l e room_1 s m #[(.long q0_), (.long q1_), (.long q2_), (.long q3_), (.int p4_)] below meth c s₁ [] 0 0 := Stand.of_body Bd
  have e0 : s₁.heap = h0 := by rw [← hh, Bd.state]; rfl
  have N0 := Fr.nil n0
  obtain ⟨G, pre0, hG⟩ : ∃ G : State → Prop, (∀ t, own_S p e below m s₁ 0 #[lvJ q0_, .second, lvJ q1_, .second, lvJ q2_, .second, lvJ q3_, .second, lvI p4_, .unset, .unset, .unset, .unset, .unset, .unset, .unset, .unset, .unset, .unset] [] t → G t) ∧ (∀ t, G t → Steps p.tables e below (s₁.setTop (entryFrame m #[(.long q0_), (.long q1_), (.long q2_), (.long q3_), (.int p4_)] maxLocals)) t) := ⟨fun t => Steps p.tables e below (s₁.setTop (entryFrame m #[(.long q0_), (.long q1_), (.long q2_), (.long q3_), (.int p4_)] maxLocals)) t, fun t k => castTop (efLaw m q0_ q1_ q2_ q3_ p4_) k, fun _ k => k⟩
  have K0 : Keep h0 h0 [] := Keep.refl _ _
  have pre1 : ∀ t, own_S p e below m s₁ 4 #[lvJ q0_, .second, lvJ q1_, .second, lvJ q2_, .second, lvJ q3_, .second, lvI p4_, .unset, .unset, .unset, .unset, .unset, .unset, .unset, .unset, .unset, .unset] [(.int (p4_ &&& (1 : Int32)))] t → G t := by
    intro t kt
    refine pre0 t ?_
    show own_S p e below m s₁ 0 #[lvJ q0_, .second, lvJ q1_, .second, lvJ q2_, .second, lvJ q3_, .second, lvI p4_, .unset, .unset, .unset, .unset, .unset, .unset, .unset, .unset, .unset, .unset] [] _
    refine XS.iload X0.here hx rfl (hb hby at_0) rfl ?_
    refine XS.iconst X0.here hx rfl (hb hby at_2) ?_
    refine XS.iand X0.here hx rfl (hb hby at_3) rfl ?_
    exact kt
  obtain ⟨z2, hz2, prez2⟩ : ∃ z : Int32, (((0 : Int32) = z ∧ ((p4_ &&& (1 : Int32)) = (0 : Int32))) ∨ ((1 : Int32) = z ∧ ¬ ((p4_ &&& (1 : Int32)) = (0 : Int32)))) ∧ ∀ t, own_S p e below m s₁ 12 #[lvJ q0_, .second, lvJ q1_, .second, lvJ q2_, .second, lvJ q3_, .second, lvI p4_, .unset, .unset, .unset, .unset, .unset, .unset, .unset, .unset, .unset, .unset] [(.int z)] t → G t := by
    by_cases hc3 : (p4_ &&& (1 : Int32)) = (0 : Int32)
    · refine ⟨(0 : Int32), Or.inl ⟨rfl, hc3⟩, fun t kt => pre1 t ?_⟩
      show own_S p e below m s₁ 4 #[lvJ q0_, .second, lvJ q1_, .second, lvJ q2_, .second, lvJ q3_, .second, lvI p4_, .unset, .unset, .unset, .unset, .unset, .unset, .unset, .unset, .unset, .unset] [(.int (p4_ &&& (1 : Int32)))] _
      refine XS.ifYes X0.here hx rfl (pc0 := 4) (pc' := 11) rfl (hb hby at_4) rfl ((if0 _ _).trans (teq hc3).1) (by decide) (by decide) ?_
      refine XS.iconst X0.here hx rfl (hb hby at_11) ?_
      exact kt
    · refine ⟨(1 : Int32), Or.inr ⟨rfl, hc3⟩, fun t kt => pre1 t ?_⟩
      show own_S p e below m s₁ 4 #[lvJ q0_, .second, lvJ q1_, .second, lvJ q2_, .second, lvJ q3_, .second, lvI p4_, .unset, .unset, .unset, .unset, .unset, .unset, .unset, .unset, .unset, .unset] [(.int (p4_ &&& (1 : Int32)))] _
      refine XS.ifNo X0.here hx rfl (hb hby at_4) rfl ((if0 _ _).trans (feq hc3).1) ?_
      refine XS.iconst X0.here hx rfl (hb hby at_7) ?_
      refine XS.goto X0.here hx rfl (pc0 := 8) (pc' := 12) rfl (hb hby at_8) (by decide) (by decide) ?_
      exact kt
  have pre4 : ∀ t, own_S p e below m s₁ 18 #[lvJ q0_, .second, lvJ q1_, .second, lvJ q2_, .second, lvJ q3_, .second, lvI p4_, lvI z2, .unset, .unset, .unset, .unset, .unset, .unset, .unset, .unset, .unset] [(.int (p4_ &&& (2 : Int32)))] t → G t := by
    intro t kt
    refine prez2 t ?_
    show own_S p e below m s₁ 12 #[lvJ q0_, .second, lvJ q1_, .second, lvJ q2_, .second, lvJ q3_, .second, lvI p4_, .unset, .unset, .unset, .unset, .unset, .unset, .unset, .unset, .unset, .unset] [(.int z2)] _
    refine XS.istore X0.here hx rfl (hb hby at_12) rfl (l' := #[lvJ q0_, .second, lvJ q1_, .second, lvJ q2_, .second, lvJ q3_, .second, lvI p4_, lvI z2, .unset, .unset, .unset, .unset, .unset, .unset, .unset, .unset, .unset]) rfl ?_
    refine XS.iload X0.here hx rfl (hb hby at_14) rfl ?_
    refine XS.iconst X0.here hx rfl (hb hby at_16) ?_
    refine XS.iand X0.here hx rfl (hb hby at_17) rfl ?_
    exact kt
  obtain ⟨z5, hz5, prez5⟩ : ∃ z : Int32, (((0 : Int32) = z ∧ ((p4_ &&& (2 : Int32)) = (0 : Int32))) ∨ ((1 : Int32) = z ∧ ¬ ((p4_ &&& (2 : Int32)) = (0 : Int32)))) ∧ ∀ t, own_S p e below m s₁ 26 #[lvJ q0_, .second, lvJ q1_, .second, lvJ q2_, .second, lvJ q3_, .second, lvI p4_, lvI z2, .unset, .unset, .unset, .unset, .unset, .unset, .unset, .unset, .unset] [(.int z)] t → G t := by
    by_cases hc6 : (p4_ &&& (2 : Int32)) = (0 : Int32)
    · refine ⟨(0 : Int32), Or.inl ⟨rfl, hc6⟩, fun t kt => pre4 t ?_⟩
      show own_S p e below m s₁ 18 #[lvJ q0_, .second, lvJ q1_, .second, lvJ q2_, .second, lvJ q3_, .second, lvI p4_, lvI z2, .unset, .unset, .unset, .unset, .unset, .unset, .unset, .unset, .unset] [(.int (p4_ &&& (2 : Int32)))] _
      refine XS.ifYes X0.here hx rfl (pc0 := 18) (pc' := 25) rfl (hb hby at_18) rfl ((if0 _ _).trans (teq hc6).1) (by decide) (by decide) ?_
      refine XS.iconst X0.here hx rfl (hb hby at_25) ?_
      exact kt
    · refine ⟨(1 : Int32), Or.inr ⟨rfl, hc6⟩, fun t kt => pre4 t ?_⟩
      show own_S p e below m s₁ 18 #[lvJ q0_, .second, lvJ q1_, .second, lvJ q2_, .second, lvJ q3_, .second, lvI p4_, lvI z2, .unset, .unset, .unset, .unset, .unset, .unset, .unset, .unset, .unset] [(.int (p4_ &&& (2 : Int32)))] _
      refine XS.ifNo X0.here hx rfl (hb hby at_18) rfl ((if0 _ _).trans (feq hc6).1) ?_
      refine XS.iconst X0.here hx rfl (hb hby at_21) ?_
      refine XS.goto X0.here hx rfl (pc0 := 22) (pc' := 26) rfl (hb hby at_22) (by decide) (by decide) ?_
      exact kt
  have pre7 : ∀ t, own_S p e below m s₁ 32 #[lvJ q0_, .second, lvJ q1_, .second, lvJ q2_, .second, lvJ q3_, .second, lvI p4_, lvI z2, lvI z5, .unset, .unset, .unset, .unset, .unset, .unset, .unset, .unset] [(.int (p4_ &&& (4 : Int32)))] t → G t := by
    intro t kt
    refine prez5 t ?_
    show own_S p e below m s₁ 26 #[lvJ q0_, .second, lvJ q1_, .second, lvJ q2_, .second, lvJ q3_, .second, lvI p4_, lvI z2, .unset, .unset, .unset, .unset, .unset, .unset, .unset, .unset, .unset] [(.int z5)] _
    refine XS.istore X0.here hx rfl (hb hby at_26) rfl (l' := #[lvJ q0_, .second, lvJ q1_, .second, lvJ q2_, .second, lvJ q3_, .second, lvI p4_, lvI z2, lvI z5, .unset, .unset, .unset, .unset, .unset, .unset, .unset, .unset]) rfl ?_
    refine XS.iload X0.here hx rfl (hb hby at_28) rfl ?_
    refine XS.iconst X0.here hx rfl (hb hby at_30) ?_
    refine XS.iand X0.here hx rfl (hb hby at_31) rfl ?_
    exact kt
  obtain ⟨z8, hz8, prez8⟩ : ∃ z : Int32, (((0 : Int32) = z ∧ ((p4_ &&& (4 : Int32)) = (0 : Int32))) ∨ ((1 : Int32) = z ∧ ¬ ((p4_ &&& (4 : Int32)) = (0 : Int32)))) ∧ ∀ t, own_S p e below m s₁ 40 #[lvJ q0_, .second, lvJ q1_, .second, lvJ q2_, .second, lvJ q3_, .second, lvI p4_, lvI z2, lvI z5, .unset, .unset, .unset, .unset, .unset, .unset, .unset, .unset] [(.int z)] t → G t := by
    by_cases hc9 : (p4_ &&& (4 : Int32)) = (0 : Int32)
    · refine ⟨(0 : Int32), Or.inl ⟨rfl, hc9⟩, fun t kt => pre7 t ?_⟩
      show own_S p e below m s₁ 32 #[lvJ q0_, .second, lvJ q1_, .second, lvJ q2_, .second, lvJ q3_, .second, lvI p4_, lvI z2, lvI z5, .unset, .unset, .unset, .unset, .unset, .unset, .unset, .unset] [(.int (p4_ &&& (4 : Int32)))] _
      refine XS.ifYes X0.here hx rfl (pc0 := 32) (pc' := 39) rfl (hb hby at_32) rfl ((if0 _ _).trans (teq hc9).1) (by decide) (by decide) ?_
      refine XS.iconst X0.here hx rfl (hb hby at_39) ?_
      exact kt
    · refine ⟨(1 : Int32), Or.inr ⟨rfl, hc9⟩, fun t kt => pre7 t ?_⟩
      show own_S p e below m s₁ 32 #[lvJ q0_, .second, lvJ q1_, .second, lvJ q2_, .second, lvJ q3_, .second, lvI p4_, lvI z2, lvI z5, .unset, .unset, .unset, .unset, .unset, .unset, .unset, .unset] [(.int (p4_ &&& (4 : Int32)))] _
      refine XS.ifNo X0.here hx rfl (hb hby at_32) rfl ((if0 _ _).trans (feq hc9).1) ?_
      refine XS.iconst X0.here hx rfl (hb hby at_35) ?_
      refine XS.goto X0.here hx rfl (pc0 := 36) (pc' := 40) rfl (hb hby at_36) (by decide) (by decide) ?_
      exact kt
  have pre10 : ∀ t, own_S p e below m s₁ 47 #[lvJ q0_, .second, lvJ q1_, .second, lvJ q2_, .second, lvJ q3_, .second, lvI p4_, lvI z2, lvI z5, lvI z8, .unset, .unset, .unset, .unset, .unset, .unset, .unset] [(.int (p4_ &&& (8 : Int32)))] t → G t := by
    intro t kt
    refine prez8 t ?_
    show own_S p e below m s₁ 40 #[lvJ q0_, .second, lvJ q1_, .second, lvJ q2_, .second, lvJ q3_, .second, lvI p4_, lvI z2, lvI z5, .unset, .unset, .unset, .unset, .unset, .unset, .unset, .unset] [(.int z8)] _
    refine XS.istore X0.here hx rfl (hb hby at_40) rfl (l' := #[lvJ q0_, .second, lvJ q1_, .second, lvJ q2_, .second, lvJ q3_, .second, lvI p4_, lvI z2, lvI z5, lvI z8, .unset, .unset, .unset, .unset, .unset, .unset, .unset]) rfl ?_
    refine XS.iload X0.here hx rfl (hb hby at_42) rfl ?_
    refine XS.bipush X0.here hx rfl (hb hby at_44) ?_
    refine XS.iand X0.here hx rfl (hb hby at_46) rfl ?_
    exact kt
  obtain ⟨z11, hz11, prez11⟩ : ∃ z : Int32, (((0 : Int32) = z ∧ ((p4_ &&& (8 : Int32)) = (0 : Int32))) ∨ ((1 : Int32) = z ∧ ¬ ((p4_ &&& (8 : Int32)) = (0 : Int32)))) ∧ ∀ t, own_S p e below m s₁ 55 #[lvJ q0_, .second, lvJ q1_, .second, lvJ q2_, .second, lvJ q3_, .second, lvI p4_, lvI z2, lvI z5, lvI z8, .unset, .unset, .unset, .unset, .unset, .unset, .unset] [(.int z)] t → G t := by
    by_cases hc12 : (p4_ &&& (8 : Int32)) = (0 : Int32)
    · refine ⟨(0 : Int32), Or.inl ⟨rfl, hc12⟩, fun t kt => pre10 t ?_⟩
      show own_S p e below m s₁ 47 #[lvJ q0_, .second, lvJ q1_, .second, lvJ q2_, .second, lvJ q3_, .second, lvI p4_, lvI z2, lvI z5, lvI z8, .unset, .unset, .unset, .unset, .unset, .unset, .unset] [(.int (p4_ &&& (8 : Int32)))] _
      refine XS.ifYes X0.here hx rfl (pc0 := 47) (pc' := 54) rfl (hb hby at_47) rfl ((if0 _ _).trans (teq hc12).1) (by decide) (by decide) ?_
      refine XS.iconst X0.here hx rfl (hb hby at_54) ?_
      exact kt
    · refine ⟨(1 : Int32), Or.inr ⟨rfl, hc12⟩, fun t kt => pre10 t ?_⟩
      show own_S p e below m s₁ 47 #[lvJ q0_, .second, lvJ q1_, .second, lvJ q2_, .second, lvJ q3_, .second, lvI p4_, lvI z2, lvI z5, lvI z8, .unset, .unset, .unset, .unset, .unset, .unset, .unset] [(.int (p4_ &&& (8 : Int32)))] _
      refine XS.ifNo X0.here hx rfl (hb hby at_47) rfl ((if0 _ _).trans (feq hc12).1) ?_
      refine XS.iconst X0.here hx rfl (hb hby at_50) ?_
      refine XS.goto X0.here hx rfl (pc0 := 51) (pc' := 55) rfl (hb hby at_51) (by decide) (by decide) ?_
      exact kt
  have pre13 : ∀ t, own_S p e below m s₁ 62 #[lvJ q0_, .second, lvJ q1_, .second, lvJ q2_, .second, lvJ q3_, .second, lvI p4_, lvI z2, lvI z5, lvI z8, lvI z11, .unset, .unset, .unset, .unset, .unset, .unset] [(.int (p4_ &&& (16 : Int32)))] t → G t := by
    intro t kt
    refine prez11 t ?_
    show own_S p e below m s₁ 55 #[lvJ q0_, .second, lvJ q1_, .second, lvJ q2_, .second, lvJ q3_, .second, lvI p4_, lvI z2, lvI z5, lvI z8, .unset, .unset, .unset, .unset, .unset, .unset, .unset] [(.int z11)] _
    refine XS.istore X0.here hx rfl (hb hby at_55) rfl (l' := #[lvJ q0_, .second, lvJ q1_, .second, lvJ q2_, .second, lvJ q3_, .second, lvI p4_, lvI z2, lvI z5, lvI z8, lvI z11, .unset, .unset, .unset, .unset, .unset, .unset]) rfl ?_
    refine XS.iload X0.here hx rfl (hb hby at_57) rfl ?_
    refine XS.bipush X0.here hx rfl (hb hby at_59) ?_
    refine XS.iand X0.here hx rfl (hb hby at_61) rfl ?_
    exact kt
  obtain ⟨w14_, T14, X14, e14, E14, n14_0, pre14⟩ : ∃ (w : Addr) (T' : State), Stand p l e room_1 s m #[(.long q0_), (.long q1_), (.long q2_), (.long q3_), (.int p4_)] below meth c T' [] 0 0 ∧ T'.heap = h0 ∧ Exa Z Z.heap w "com/example/zenodotus/zenodotus/model/Cell$Kind" ∧ w ≠ w_PUT ∧ ∀ t, own_S p e below m T' 74 #[lvJ q0_, .second, lvJ q1_, .second, lvJ q2_, .second, lvJ q3_, .second, lvI p4_, lvI z2, lvI z5, lvI z8, lvI z11, .unset, .unset, .unset, .unset, .unset, .unset] [(.ref w)] t → G t := by
    by_cases hc15 : (p4_ &&& (16 : Int32)) = (0 : Int32)
    · obtain ⟨T16, X16, e16, st16⟩ := getS2 X0 hx hZ hown (host := "") (Or.inl (own_w hw 0 rfl)) Via.refl e0 (P3.ext O0.2) (g := (mkF m 71 #[lvJ q0_, .second, lvJ q1_, .second, lvJ q2_, .second, lvJ q3_, .second, lvI p4_, lvI z2, lvI z5, lvI z8, lvI z11, .unset, .unset, .unset, .unset, .unset, .unset] [])) rfl (hb hby at_71)
      have pre17 : ∀ t, own_S p e below m T16 74 #[lvJ q0_, .second, lvJ q1_, .second, lvJ q2_, .second, lvJ q3_, .second, lvI p4_, lvI z2, lvI z5, lvI z8, lvI z11, .unset, .unset, .unset, .unset, .unset, .unset] [(.ref w_DELETE_COLUMN)] t → G t := by
        intro t kt
        refine pre13 t ?_
        show own_S p e below m s₁ 62 #[lvJ q0_, .second, lvJ q1_, .second, lvJ q2_, .second, lvJ q3_, .second, lvI p4_, lvI z2, lvI z5, lvI z8, lvI z11, .unset, .unset, .unset, .unset, .unset, .unset] [(.int (p4_ &&& (16 : Int32)))] _
        refine XS.ifYes X0.here hx rfl (pc0 := 62) (pc' := 71) rfl (hb hby at_62) rfl ((if0 _ _).trans (teq hc15).1) (by decide) (by decide) ?_
        show own_S p e below m s₁ 71 #[lvJ q0_, .second, lvJ q1_, .second, lvJ q2_, .second, lvJ q3_, .second, lvI p4_, lvI z2, lvI z5, lvI z8, lvI z11, .unset, .unset, .unset, .unset, .unset, .unset] [] _
        refine st16 _ ?_
        exact kt
      have ne18 : w_DELETE_COLUMN ≠ w_PUT := Fld.ne P5 P2 (fun q => absurd (Value.int.inj q) (by decide))
      exact ⟨w_DELETE_COLUMN, T16, X16, e16, P4, ne18, pre17⟩
    · obtain ⟨T19, X19, e19, st19⟩ := getS2 X0 hx hZ hown (host := "") (Or.inl (own_w hw 55 rfl)) Via.refl e0 (P6.ext O0.2) (g := (mkF m 65 #[lvJ q0_, .second, lvJ q1_, .second, lvJ q2_, .second, lvJ q3_, .second, lvI p4_, lvI z2, lvI z5, lvI z8, lvI z11, .unset, .unset, .unset, .unset, .unset, .unset] [])) rfl (hb hby at_65)
      have pre20 : ∀ t, own_S p e below m T19 74 #[lvJ q0_, .second, lvJ q1_, .second, lvJ q2_, .second, lvJ q3_, .second, lvI p4_, lvI z2, lvI z5, lvI z8, lvI z11, .unset, .unset, .unset, .unset, .unset, .unset] [(.ref w_DELETE_FAMILY)] t → G t := by
        intro t kt
        refine pre13 t ?_
        show own_S p e below m s₁ 62 #[lvJ q0_, .second, lvJ q1_, .second, lvJ q2_, .second, lvJ q3_, .second, lvI p4_, lvI z2, lvI z5, lvI z8, lvI z11, .unset, .unset, .unset, .unset, .unset, .unset] [(.int (p4_ &&& (16 : Int32)))] _
        refine XS.ifNo X0.here hx rfl (hb hby at_62) rfl ((if0 _ _).trans (feq hc15).1) ?_
        show own_S p e below m s₁ 65 #[lvJ q0_, .second, lvJ q1_, .second, lvJ q2_, .second, lvJ q3_, .second, lvI p4_, lvI z2, lvI z5, lvI z8, lvI z11, .unset, .unset, .unset, .unset, .unset, .unset] [] _
        refine st19 _ ?_
        refine XS.goto X19.here hx rfl (pc0 := 68) (pc' := 74) rfl (hb hby at_68) (by decide) (by decide) ?_
        exact kt
      have ne21 : w_DELETE_FAMILY ≠ w_PUT := Fld.ne P8 P2 (fun q => absurd (Value.int.inj q) (by decide))
      exact ⟨w_DELETE_FAMILY, T19, X19, e19, P7, ne21, pre20⟩
  have pre22 : ∀ t, own_S p e below m T14 81 #[lvJ q0_, .second, lvJ q1_, .second, lvJ q2_, .second, lvJ q3_, .second, lvI p4_, lvI z2, lvI z5, lvI z8, lvI z11, lvR w14_, .unset, .unset, .unset, .unset, .unset] [(.int (p4_ &&& (32 : Int32)))] t → G t := by
    intro t kt
    refine pre14 t ?_
    show own_S p e below m T14 74 #[lvJ q0_, .second, lvJ q1_, .second, lvJ q2_, .second, lvJ q3_, .second, lvI p4_, lvI z2, lvI z5, lvI z8, lvI z11, .unset, .unset, .unset, .unset, .unset, .unset] [(.ref w14_)] _
    refine XS.astore X14.here hx rfl (hb hby at_74) rfl rfl (l' := #[lvJ q0_, .second, lvJ q1_, .second, lvJ q2_, .second, lvJ q3_, .second, lvI p4_, lvI z2, lvI z5, lvI z8, lvI z11, lvR w14_, .unset, .unset, .unset, .unset, .unset]) rfl ?_
    refine XS.iload X14.here hx rfl (hb hby at_76) rfl ?_
    refine XS.bipush X14.here hx rfl (hb hby at_78) ?_
    refine XS.iand X14.here hx rfl (hb hby at_80) rfl ?_
    exact kt
  obtain ⟨w23_, T23, X23, e23, E23, n23_0, pre23⟩ : ∃ (w : Addr) (T' : State), Stand p l e room_1 s m #[(.long q0_), (.long q1_), (.long q2_), (.long q3_), (.int p4_)] below meth c T' [] 0 0 ∧ T'.heap = h0 ∧ Exa Z Z.heap w "com/example/zenodotus/zenodotus/model/Cell$Kind" ∧ w ≠ w_PUT ∧ ∀ t, own_S p e below m T' 93 #[lvJ q0_, .second, lvJ q1_, .second, lvJ q2_, .second, lvJ q3_, .second, lvI p4_, lvI z2, lvI z5, lvI z8, lvI z11, lvR w14_, .unset, .unset, .unset, .unset, .unset] [(.ref w)] t → G t := by
    by_cases hc24 : (p4_ &&& (32 : Int32)) = (0 : Int32)
    · obtain ⟨T25, X25, e25, st25⟩ := getS2 X14 hx hZ hown (host := "") (Or.inl (own_w hw 0 rfl)) Via.refl e14 (P3.ext O0.2) (g := (mkF m 90 #[lvJ q0_, .second, lvJ q1_, .second, lvJ q2_, .second, lvJ q3_, .second, lvI p4_, lvI z2, lvI z5, lvI z8, lvI z11, lvR w14_, .unset, .unset, .unset, .unset, .unset] [])) rfl (hb hby at_90)
      have pre26 : ∀ t, own_S p e below m T25 93 #[lvJ q0_, .second, lvJ q1_, .second, lvJ q2_, .second, lvJ q3_, .second, lvI p4_, lvI z2, lvI z5, lvI z8, lvI z11, lvR w14_, .unset, .unset, .unset, .unset, .unset] [(.ref w_DELETE_COLUMN)] t → G t := by
        intro t kt
        refine pre22 t ?_
        show own_S p e below m T14 81 #[lvJ q0_, .second, lvJ q1_, .second, lvJ q2_, .second, lvJ q3_, .second, lvI p4_, lvI z2, lvI z5, lvI z8, lvI z11, lvR w14_, .unset, .unset, .unset, .unset, .unset] [(.int (p4_ &&& (32 : Int32)))] _
        refine XS.ifYes X14.here hx rfl (pc0 := 81) (pc' := 90) rfl (hb hby at_81) rfl ((if0 _ _).trans (teq hc24).1) (by decide) (by decide) ?_
        show own_S p e below m T14 90 #[lvJ q0_, .second, lvJ q1_, .second, lvJ q2_, .second, lvJ q3_, .second, lvI p4_, lvI z2, lvI z5, lvI z8, lvI z11, lvR w14_, .unset, .unset, .unset, .unset, .unset] [] _
        refine st25 _ ?_
        exact kt
      have ne27 : w_DELETE_COLUMN ≠ w_PUT := Fld.ne P5 P2 (fun q => absurd (Value.int.inj q) (by decide))
      exact ⟨w_DELETE_COLUMN, T25, X25, e25, P4, ne27, pre26⟩
    · obtain ⟨T28, X28, e28, st28⟩ := getS2 X14 hx hZ hown (host := "") (Or.inl (own_w hw 55 rfl)) Via.refl e14 (P6.ext O0.2) (g := (mkF m 84 #[lvJ q0_, .second, lvJ q1_, .second, lvJ q2_, .second, lvJ q3_, .second, lvI p4_, lvI z2, lvI z5, lvI z8, lvI z11, lvR w14_, .unset, .unset, .unset, .unset, .unset] [])) rfl (hb hby at_84)
      have pre29 : ∀ t, own_S p e below m T28 93 #[lvJ q0_, .second, lvJ q1_, .second, lvJ q2_, .second, lvJ q3_, .second, lvI p4_, lvI z2, lvI z5, lvI z8, lvI z11, lvR w14_, .unset, .unset, .unset, .unset, .unset] [(.ref w_DELETE_FAMILY)] t → G t := by
        intro t kt
        refine pre22 t ?_
        show own_S p e below m T14 81 #[lvJ q0_, .second, lvJ q1_, .second, lvJ q2_, .second, lvJ q3_, .second, lvI p4_, lvI z2, lvI z5, lvI z8, lvI z11, lvR w14_, .unset, .unset, .unset, .unset, .unset] [(.int (p4_ &&& (32 : Int32)))] _
        refine XS.ifNo X14.here hx rfl (hb hby at_81) rfl ((if0 _ _).trans (feq hc24).1) ?_
        show own_S p e below m T14 84 #[lvJ q0_, .second, lvJ q1_, .second, lvJ q2_, .second, lvJ q3_, .second, lvI p4_, lvI z2, lvI z5, lvI z8, lvI z11, lvR w14_, .unset, .unset, .unset, .unset, .unset] [] _
        refine st28 _ ?_
        refine XS.goto X28.here hx rfl (pc0 := 87) (pc' := 93) rfl (hb hby at_87) (by decide) (by decide) ?_
        exact kt
      have ne30 : w_DELETE_FAMILY ≠ w_PUT := Fld.ne P8 P2 (fun q => absurd (Value.int.inj q) (by decide))
      exact ⟨w_DELETE_FAMILY, T28, X28, e28, P7, ne30, pre29⟩
  obtain ⟨T31, h31, X31, e31, E31, A31, D31, -, st31⟩ := newO X23 hx hZ hown (own_w hw 3 rfl) (own_w hw 4 rfl) (own_w hw 5 rfl) e23 (g := (mkF m 95 #[lvJ q0_, .second, lvJ q1_, .second, lvJ q2_, .second, lvJ q3_, .second, lvI p4_, lvI z2, lvI z5, lvI z8, lvI z11, lvR w14_, lvR w23_, .unset, .unset, .unset, .unset] [])) rfl (hb hby at_95) (by decide) (by decide)
  obtain ⟨b31, g31⟩ : ∃ z, z = h0.size := ⟨_, rfl⟩
  rw [← g31] at A31 D31 st31
  have ge32 : n0 ≤ b31 := Nat.le_trans (Nat.le_trans (Nat.le_of_eq O0.1.symm) O0.2.1) (Nat.le_of_eq g31.symm)
  have sz33 : h0.size ≤ b31 := Nat.le_trans K0.1 (Nat.le_of_eq g31.symm)
  have f34 : Fld Z h31 b31 cn0 "latestTimestamp" "J" (.long (0 : Int64)) := D31 (Or.inl (own_w hw 14 rfl)) (ty := .long) (by decide)
  have f35 : Fld Z h31 b31 cn0 "latestDeleteTimestamp" "J" (.long (0 : Int64)) := D31 (Or.inl (own_w hw 16 rfl)) (ty := .long) (by decide)
  have f36 : Fld Z h31 b31 cn0 "cells" "J" (.long (0 : Int64)) := D31 (Or.inl (own_w hw 25 rfl)) (ty := .long) (by decide)
  have f38 : Old Z n0 h31 := O0.ext E31
  obtain ⟨_, _, ⟨T37, L37, k37, n37⟩, -, X37, ⟨Lc37, hQ37, l37, y37, z37⟩, st37⟩ := X31.specialBack hx (y := (⟨"com/example/zenodotus/zenodotus/io/RowCodec$Tally", "<init>", "()V"⟩ : MethodName)) rfl hown (mvT hZ (own_w hw 6 rfl)) (mvT hZ (own_w hw 7 rfl)) (mvT hZ (own_w hw 8 rfl)) (by decide) (backOf (W := 1) (rminit1 l Z a0 hw [] b31 h31 n0 f38 A31 f34 f35 f36 ge32) hZ (own_w hw 8 rfl) (own_w hw 5 rfl) (by decide) (by decide)) (g := (mkF m 99 #[lvJ q0_, .second, lvJ q1_, .second, lvJ q2_, .second, lvJ q3_, .second, lvI p4_, lvI z2, lvI z5, lvI z8, lvI z11, lvR w14_, lvR w23_, .unset, .unset, .unset, .unset] [(.ref b31), (.ref b31)])) rfl (by rw [hml]; rfl) (Steps.refl _) (a := b31) (argsL := []) (rest := [(.ref b31)]) (lenOf pd_0 rfl) rfl (by show 2 * 0 + _ ≤ _; exact Nat.le_of_eq rfl) (hb hby at_99) (fun _ _ => ⟨rfl, e31, (by decide : 1 + 0 ≤ _), (by decide : 3 + 0 ≤ _)⟩)
  dsimp only [Pt.U, Pt.locs, Pt.cells, Pt.slots] at X37 l37 y37 z37 st37 hQ37
  subst l37 y37 z37
  obtain ⟨h37, e37⟩ : ∃ z, T37.heap = z := ⟨_, rfl⟩
  rw [e37] at hQ37
  obtain ⟨rfl, N37q, K37, g37_0, g37_1, g37_2, g37_3⟩ := hQ37
  have N39 := Fr.app N0 N37q
  obtain ⟨T40, h40, X40, e40, E40, A40, D40, -, st40⟩ := newO X37 hx hZ hown (own_w hw 3 rfl) (own_w hw 4 rfl) (own_w hw 5 rfl) e37 (g := (mkF m 104 #[lvJ q0_, .second, lvJ q1_, .second, lvJ q2_, .second, lvJ q3_, .second, lvI p4_, lvI z2, lvI z5, lvI z8, lvI z11, lvR w14_, lvR w23_, lvR b31, .unset, .unset, .unset] [])) rfl (hb hby at_104) (by decide) (by decide)
  obtain ⟨b40, g40⟩ : ∃ z, z = h37.size := ⟨_, rfl⟩
  rw [← g40] at A40 D40 st40
  have f41 : Old Z n0 h37 := f38.keep K37 (allS (ge32) all0)
  have ge42 : n0 ≤ b40 := Nat.le_trans (Nat.le_trans (Nat.le_of_eq f41.1.symm) f41.2.1) (Nat.le_of_eq g40.symm)
  have f43 : Keep h0 h31 [] := K0.ext E31
  have f44 : Keep h0 h37 [] := f43.trans K37 (allS (Or.inr sz33) all0)
  have sz45 : h0.size ≤ b40 := Nat.le_trans f44.1 (Nat.le_of_eq g40.symm)
  have f46 : Fld Z h40 b40 cn0 "latestTimestamp" "J" (.long (0 : Int64)) := D40 (Or.inl (own_w hw 14 rfl)) (ty := .long) (by decide)
  have f47 : Fld Z h40 b40 cn0 "latestDeleteTimestamp" "J" (.long (0 : Int64)) := D40 (Or.inl (own_w hw 16 rfl)) (ty := .long) (by decide)
  have f48 : Fld Z h40 b40 cn0 "cells" "J" (.long (0 : Int64)) := D40 (Or.inl (own_w hw 25 rfl)) (ty := .long) (by decide)
  have f50 : Old Z n0 h40 := f41.ext E40
  obtain ⟨_, _, ⟨T49, L49, k49, n49⟩, -, X49, ⟨Lc49, hQ49, l49, y49, z49⟩, st49⟩ := X40.specialBack hx (y := (⟨"com/example/zenodotus/zenodotus/io/RowCodec$Tally", "<init>", "()V"⟩ : MethodName)) rfl hown (mvT hZ (own_w hw 6 rfl)) (mvT hZ (own_w hw 7 rfl)) (mvT hZ (own_w hw 8 rfl)) (by decide) (backOf (W := 1) (rminit1 l Z a0 hw [] b40 h40 n0 f50 A40 f46 f47 f48 ge42) hZ (own_w hw 8 rfl) (own_w hw 5 rfl) (by decide) (by decide)) (g := (mkF m 108 #[lvJ q0_, .second, lvJ q1_, .second, lvJ q2_, .second, lvJ q3_, .second, lvI p4_, lvI z2, lvI z5, lvI z8, lvI z11, lvR w14_, lvR w23_, lvR b31, .unset, .unset, .unset] [(.ref b40), (.ref b40)])) rfl (by rw [hml]; rfl) (Steps.refl _) (a := b40) (argsL := []) (rest := [(.ref b40)]) (lenOf pd_0 rfl) rfl (by show 2 * 0 + _ ≤ _; exact Nat.le_of_eq rfl) (hb hby at_108) (fun _ _ => ⟨rfl, e40, (by decide : 2 + 0 ≤ _), (by decide : 6 + 0 ≤ _)⟩)
  dsimp only [Pt.U, Pt.locs, Pt.cells, Pt.slots] at X49 l49 y49 z49 st49 hQ49
  subst l49 y49 z49
  obtain ⟨h49, e49⟩ : ∃ z, T49.heap = z := ⟨_, rfl⟩
  rw [e49] at hQ49
  obtain ⟨rfl, N49q, K49, g49_0, g49_1, g49_2, g49_3⟩ := hQ49
  have N51 := Fr.app N39 N49q
  have pre52 : ∀ t, own_S p e below m T49 115 #[lvJ q0_, .second, lvJ q1_, .second, lvJ q2_, .second, lvJ q3_, .second, lvI p4_, lvI z2, lvI z5, lvI z8, lvI z11, lvR w14_, lvR w23_, lvR b31, lvR b40, .unset, .unset] [(.int z2)] t → G t := by
    intro t kt
    refine pre23 t ?_
    show own_S p e below m T23 93 #[lvJ q0_, .second, lvJ q1_, .second, lvJ q2_, .second, lvJ q3_, .second, lvI p4_, lvI z2, lvI z5, lvI z8, lvI z11, lvR w14_, .unset, .unset, .unset, .unset, .unset] [(.ref w23_)] _
    refine XS.astore X23.here hx rfl (hb hby at_93) rfl rfl (l' := #[lvJ q0_, .second, lvJ q1_, .second, lvJ q2_, .second, lvJ q3_, .second, lvI p4_, lvI z2, lvI z5, lvI z8, lvI z11, lvR w14_, lvR w23_, .unset, .unset, .unset, .unset]) rfl ?_
    show own_S p e below m T23 95 #[lvJ q0_, .second, lvJ q1_, .second, lvJ q2_, .second, lvJ q3_, .second, lvI p4_, lvI z2, lvI z5, lvI z8, lvI z11, lvR w14_, lvR w23_, .unset, .unset, .unset, .unset] [] _
    refine st31 _ ?_
    refine XS.dup X31.here hx rfl (hb hby at_98) rfl rfl ?_
    show own_S p e below m T31 99 #[lvJ q0_, .second, lvJ q1_, .second, lvJ q2_, .second, lvJ q3_, .second, lvI p4_, lvI z2, lvI z5, lvI z8, lvI z11, lvR w14_, lvR w23_, .unset, .unset, .unset, .unset] [(.ref b31), (.ref b31)] _
    refine st37.trans ?_
    refine XS.astore X37.here hx rfl (hb hby at_102) rfl rfl (l' := #[lvJ q0_, .second, lvJ q1_, .second, lvJ q2_, .second, lvJ q3_, .second, lvI p4_, lvI z2, lvI z5, lvI z8, lvI z11, lvR w14_, lvR w23_, lvR b31, .unset, .unset, .unset]) rfl ?_
    show own_S p e below m T37 104 #[lvJ q0_, .second, lvJ q1_, .second, lvJ q2_, .second, lvJ q3_, .second, lvI p4_, lvI z2, lvI z5, lvI z8, lvI z11, lvR w14_, lvR w23_, lvR b31, .unset, .unset, .unset] [] _
    refine st40 _ ?_
    refine XS.dup X40.here hx rfl (hb hby at_107) rfl rfl ?_
    show own_S p e below m T40 108 #[lvJ q0_, .second, lvJ q1_, .second, lvJ q2_, .second, lvJ q3_, .second, lvI p4_, lvI z2, lvI z5, lvI z8, lvI z11, lvR w14_, lvR w23_, lvR b31, .unset, .unset, .unset] [(.ref b40), (.ref b40)] _
    refine st49.trans ?_
    refine XS.astore X49.here hx rfl (hb hby at_111) rfl rfl (l' := #[lvJ q0_, .second, lvJ q1_, .second, lvJ q2_, .second, lvJ q3_, .second, lvI p4_, lvI z2, lvI z5, lvI z8, lvI z11, lvR w14_, lvR w23_, lvR b31, lvR b40, .unset, .unset]) rfl ?_
    refine XS.iload X49.here hx rfl (hb hby at_113) rfl ?_
    exact kt
  rcases hz2 with ⟨rfl, hj53⟩ | ⟨rfl, hj53⟩
  · have pre54 : ∀ t, own_S p e below m T49 129 #[lvJ q0_, .second, lvJ q1_, .second, lvJ q2_, .second, lvJ q3_, .second, lvI p4_, lvI (0 : Int32), lvI z5, lvI z8, lvI z11, lvR w14_, lvR w23_, lvR b31, lvR b40, .unset, .unset] [(.int z5)] t → G t := by
      intro t kt
      refine pre52 t ?_
      show own_S p e below m T49 115 #[lvJ q0_, .second, lvJ q1_, .second, lvJ q2_, .second, lvJ q3_, .second, lvI p4_, lvI (0 : Int32), lvI z5, lvI z8, lvI z11, lvR w14_, lvR w23_, lvR b31, lvR b40, .unset, .unset] [(.int (0 : Int32))] _
      refine XS.ifYes X49.here hx rfl (pc0 := 115) (pc' := 127) rfl (hb hby at_115) rfl ((if0 _ _).trans (teq (by decide : (0 : Int32) = (0 : Int32))).1) (by decide) (by decide) ?_
      refine XS.iload X49.here hx rfl (hb hby at_127) rfl ?_
      exact kt
    rcases hz5 with ⟨rfl, hj55⟩ | ⟨rfl, hj55⟩
    · have pre56 : ∀ t, own_S p e below m T49 142 #[lvJ q0_, .second, lvJ q1_, .second, lvJ q2_, .second, lvJ q3_, .second, lvI p4_, lvI (0 : Int32), lvI (0 : Int32), lvI z8, lvI z11, lvR w14_, lvR w23_, lvR b31, lvR b40, .unset, .unset] [(.int z8)] t → G t := by
        intro t kt
        refine pre54 t ?_
        show own_S p e below m T49 129 #[lvJ q0_, .second, lvJ q1_, .second, lvJ q2_, .second, lvJ q3_, .second, lvI p4_, lvI (0 : Int32), lvI (0 : Int32), lvI z8, lvI z11, lvR w14_, lvR w23_, lvR b31, lvR b40, .unset, .unset] [(.int (0 : Int32))] _
        refine XS.ifYes X49.here hx rfl (pc0 := 129) (pc' := 140) rfl (hb hby at_129) rfl ((if0 _ _).trans (teq (by decide : (0 : Int32) = (0 : Int32))).1) (by decide) (by decide) ?_
        refine XS.iload X49.here hx rfl (hb hby at_140) rfl ?_
        exact kt
      rcases hz8 with ⟨rfl, hj57⟩ | ⟨rfl, hj57⟩
      · have pre58 : ∀ t, own_S p e below m T49 157 #[lvJ q0_, .second, lvJ q1_, .second, lvJ q2_, .second, lvJ q3_, .second, lvI p4_, lvI (0 : Int32), lvI (0 : Int32), lvI (0 : Int32), lvI z11, lvR w14_, lvR w23_, lvR b31, lvR b40, .unset, .unset] [(.int z11)] t → G t := by
          intro t kt
          refine pre56 t ?_
          show own_S p e below m T49 142 #[lvJ q0_, .second, lvJ q1_, .second, lvJ q2_, .second, lvJ q3_, .second, lvI p4_, lvI (0 : Int32), lvI (0 : Int32), lvI (0 : Int32), lvI z11, lvR w14_, lvR w23_, lvR b31, lvR b40, .unset, .unset] [(.int (0 : Int32))] _
          refine XS.ifYes X49.here hx rfl (pc0 := 142) (pc' := 155) rfl (hb hby at_142) rfl ((if0 _ _).trans (teq (by decide : (0 : Int32) = (0 : Int32))).1) (by decide) (by decide) ?_
          refine XS.iload X49.here hx rfl (hb hby at_155) rfl ?_
          exact kt
        rcases hz11 with ⟨rfl, hj59⟩ | ⟨rfl, hj59⟩
        · have f61 : Exa Z h40 b31 cn0 := g37_0.ext E40
          have f62 : Exa Z h49 b31 cn0 := f61.keep K49
          have f63 : Fld Z h40 b31 cn0 "latestTimestamp" "J" (.long (-9223372036854775808 : Int64)) := g37_1.ext E40
          have ne65 : b31 ≠ b40 := Nat.ne_of_lt (Nat.lt_of_lt_of_le g37_0.lt (Nat.le_of_eq g40.symm))
          have f64 : Fld Z h49 b31 cn0 "latestTimestamp" "J" (.long (-9223372036854775808 : Int64)) := f63.keep K49 (ninS ne65 nin0)
          have f66 : Fld Z h40 b31 cn0 "latestDeleteTimestamp" "J" (.long (-9223372036854775808 : Int64)) := g37_2.ext E40
          have f67 : Fld Z h49 b31 cn0 "latestDeleteTimestamp" "J" (.long (-9223372036854775808 : Int64)) := f66.keep K49 (ninS ne65 nin0)
          have f68 : Fld Z h40 b31 cn0 "cells" "J" (.long (0 : Int64)) := g37_3.ext E40
          have f69 : Fld Z h49 b31 cn0 "cells" "J" (.long (0 : Int64)) := f68.keep K49 (ninS ne65 nin0)
          have f70 : Old Z n0 h49 := f50.keep K49 (allS (ge42) all0)
          obtain ⟨cq60, kq60, q60a, q60b, q60c⟩ := isOf hZ e49 f62
          obtain ⟨_, _, ⟨T60, L60, k60, n60⟩, -, X60, ⟨Lc60, hQ60, l60, y60, z60⟩, st60⟩ := X49.virtualBack hx (y := (⟨"com/example/zenodotus/zenodotus/io/RowCodec$Tally", "add", "(Lcom/example/zenodotus/zenodotus/io/RowCodec$Tally;)V"⟩ : MethodName)) (z := (⟨"com/example/zenodotus/zenodotus/io/RowCodec$Tally", "add", "(Lcom/example/zenodotus/zenodotus/io/RowCodec$Tally;)V"⟩ : MethodName)) hown (mvT hZ (own_w hw 31 rfl)) (mvT hZ (own_w hw 32 rfl)) (notFace_of_selects (args := #[]) (mvT hZ (own_w hw 34 rfl))) (mvT hZ (own_w hw 34 rfl)) (mvT hZ (own_w hw 33 rfl)) (by decide) (backOf (W := 0) (rmadd2 l Z a0 hw [] b31 b40 h49 n0 f70 f62 f64 f67 f69 g49_0 g49_1 g49_2 g49_3 ge32 (Ne.symm ne65)) hZ (own_w hw 35 rfl) (own_w hw 5 rfl) (by decide) (by decide)) q60a q60c (g := (mkF m 173 #[lvJ q0_, .second, lvJ q1_, .second, lvJ q2_, .second, lvJ q3_, .second, lvI p4_, lvI (0 : Int32), lvI (0 : Int32), lvI (0 : Int32), lvI (0 : Int32), lvR w14_, lvR w23_, lvR b31, lvR b40, .unset, .unset] [(.ref b40), (.ref b31)])) rfl (by rw [hml]; rfl) (Steps.refl _) (argsL := [(.ref b40)]) (rest := []) (lenOf pd_2 rfl) rfl (by show 2 * 0 + _ ≤ _; exact Nat.le_of_eq rfl) (hb hby at_173) (fun _ _ => ⟨rfl, e49, (by decide : 2 + 0 ≤ _), (by decide : 6 + 0 ≤ _)⟩)
          dsimp only [Pt.U, Pt.locs, Pt.cells, Pt.slots] at X60 l60 y60 z60 st60 hQ60
          subst l60 y60 z60
          obtain ⟨h60, e60⟩ : ∃ z, T60.heap = z := ⟨_, rfl⟩
          rw [e60] at hQ60
          obtain ⟨rfl, N60q, K60, g60_0, g60_1, g60_2, g60_3⟩ := hQ60
          have N71 := Fr.app N51 N60q
          have f73 : Old Z n0 h60 := f70.keep K60 (allS (ge32) all0)
          obtain ⟨cq72, kq72, q72a, q72b, q72c⟩ := isOf hZ e60 g60_0
          obtain ⟨_, _, ⟨T72, L72, k72, n72⟩, -, X72, ⟨Lc72, hQ72, l72, y72, z72⟩, st72⟩ := X60.virtualBack hx (y := (⟨"com/example/zenodotus/zenodotus/io/RowCodec$Tally", "cells", "()J"⟩ : MethodName)) (z := (⟨"com/example/zenodotus/zenodotus/io/RowCodec$Tally", "cells", "()J"⟩ : MethodName)) hown (mvT hZ (own_w hw 36 rfl)) (mvT hZ (own_w hw 37 rfl)) (notFace_of_selects (args := #[]) (mvT hZ (own_w hw 39 rfl))) (mvT hZ (own_w hw 39 rfl)) (mvT hZ (own_w hw 38 rfl)) (by decide) (backOf (W := 0) (rmcells3 l Z a0 hw [] b31 (own_max (-9223372036854775808 : Int64) (-9223372036854775808 : Int64)) h60 n0 f73 g60_0 g60_1 g60_2 g60_3) hZ (own_w hw 40 rfl) (own_w hw 5 rfl) (by decide) (by decide)) q72a q72c (g := (mkF m 223 #[lvJ q0_, .second, lvJ q1_, .second, lvJ q2_, .second, lvJ q3_, .second, lvI p4_, lvI (0 : Int32), lvI (0 : Int32), lvI (0 : Int32), lvI (0 : Int32), lvR w14_, lvR w23_, lvR b31, lvR b40, lvJ (0 : Int64), .second] [(.ref b31)])) rfl (by rw [hml]; rfl) (Steps.refl _) (argsL := []) (rest := []) (lenOf pd_3 rfl) rfl (by show 2 * 0 + _ ≤ _; exact Nat.le_of_eq rfl) (hb hby at_223) (fun _ _ => ⟨rfl, e60, (by decide : 2 + 0 ≤ _), (by decide : 6 + 0 ≤ _)⟩)
          dsimp only [Pt.U, Pt.locs, Pt.cells, Pt.slots] at X72 l72 y72 z72 st72 hQ72
          subst l72 y72 z72
          obtain ⟨h72, e72⟩ : ∃ z, T72.heap = z := ⟨_, rfl⟩
          rw [e72] at hQ72
          obtain ⟨rfl, N72q, hh72⟩ := hQ72
          have N74 := Fr.app N71 N72q
          have e72' : T72.heap = h60 := e72.trans hh72
          obtain ⟨cq75, kq75, q75a, q75b, q75c⟩ := isOf hZ e72' g60_0
          obtain ⟨_, _, ⟨T75, L75, k75, n75⟩, -, X75, ⟨Lc75, hQ75, l75, y75, z75⟩, st75⟩ := X72.virtualBack hx (y := (⟨"com/example/zenodotus/zenodotus/io/RowCodec$Tally", "latestTimestamp", "()J"⟩ : MethodName)) (z := (⟨"com/example/zenodotus/zenodotus/io/RowCodec$Tally", "latestTimestamp", "()J"⟩ : MethodName)) hown (mvT hZ (own_w hw 41 rfl)) (mvT hZ (own_w hw 42 rfl)) (notFace_of_selects (args := #[]) (mvT hZ (own_w hw 44 rfl))) (mvT hZ (own_w hw 44 rfl)) (mvT hZ (own_w hw 43 rfl)) (by decide) (backOf (W := 0) (rmlatestTimestamp4 l Z a0 hw [] b31 (own_max (-9223372036854775808 : Int64) (-9223372036854775808 : Int64)) h60 n0 f73 g60_0 g60_1 g60_2 g60_3) hZ (own_w hw 45 rfl) (own_w hw 5 rfl) (by decide) (by decide)) q75a q75c (g := (mkF m 234 #[lvJ q0_, .second, lvJ q1_, .second, lvJ q2_, .second, lvJ q3_, .second, lvI p4_, lvI (0 : Int32), lvI (0 : Int32), lvI (0 : Int32), lvI (0 : Int32), lvR w14_, lvR w23_, lvR b31, lvR b40, lvJ (0 : Int64), .second] [(.ref b31)])) rfl (by rw [hml]; rfl) (Steps.refl _) (argsL := []) (rest := []) (lenOf pd_3 rfl) rfl (by show 2 * 0 + _ ≤ _; exact Nat.le_of_eq rfl) (hb hby at_234) (fun _ _ => ⟨rfl, e72', (by decide : 2 + 0 ≤ _), (by decide : 6 + 0 ≤ _)⟩)
          dsimp only [Pt.U, Pt.locs, Pt.cells, Pt.slots] at X75 l75 y75 z75 st75 hQ75
          subst l75 y75 z75
          obtain ⟨h75, e75⟩ : ∃ z, T75.heap = z := ⟨_, rfl⟩
          rw [e75] at hQ75
          obtain ⟨rfl, N75q, hh75⟩ := hQ75
          have N76 := Fr.app N74 N75q
          have e75' : T75.heap = h60 := e75.trans hh75
          obtain ⟨_, _, ⟨T77, L77, k77, n77⟩, -, X77, ⟨Lc77, hQ77, l77, y77, z77⟩, st77⟩ := Jvm.LawKit.callS X75 hx (y := (⟨"com/example/zenodotus/zenodotus/io/TallyAddPinLaw", "expect", "(ZJZJ)J"⟩ : MethodName)) hown (mvT hZ (own_w hw 46 rfl)) (mvT hZ (own_w hw 47 rfl)) (mvT hZ (own_w hw 48 rfl)) (mvT hZ (own_w hw 49 rfl)) (by decide) (backOf (W := 2) (rmexpect5 l Z a0 hw [] q0_ q2_ h60 n0 f73 ) hZ (own_w hw 49 rfl) (own_w hw 48 rfl) (by decide) (by decide)) (g := (mkF m 244 #[lvJ q0_, .second, lvJ q1_, .second, lvJ q2_, .second, lvJ q3_, .second, lvI p4_, lvI (0 : Int32), lvI (0 : Int32), lvI (0 : Int32), lvI (0 : Int32), lvR w14_, lvR w23_, lvR b31, lvR b40, lvJ (0 : Int64), .second] [(.long q2_), (.int (0 : Int32)), (.long q0_), (.int (0 : Int32)), (.long (own_max (-9223372036854775808 : Int64) (-9223372036854775808 : Int64)))])) rfl (by rw [hml]; rfl) (argsL := [(.int (0 : Int32)), (.long q0_), (.int (0 : Int32)), (.long q2_)]) (rest := [(.long (own_max (-9223372036854775808 : Int64) (-9223372036854775808 : Int64)))]) (lenOf pd_4 rfl) rfl (by show 2 * 0 + _ ≤ _; exact Nat.le_of_eq rfl) (hb hby at_244) (fun _ _ => ⟨rfl, e75', (by decide : 2 + 0 ≤ _), (by decide : 6 + 0 ≤ _)⟩)
          dsimp only [Pt.U, Pt.locs, Pt.cells, Pt.slots] at X77 l77 y77 z77 st77 hQ77
          subst l77 y77 z77
          obtain ⟨h77, e77⟩ : ∃ z, T77.heap = z := ⟨_, rfl⟩
          rw [e77] at hQ77
          obtain ⟨rfl, N77q, hh77⟩ := hQ77
          have N78 := Fr.app N76 N77q
          have e77' : T77.heap = h60 := e77.trans hh77
          obtain ⟨cq79, kq79, q79a, q79b, q79c⟩ := isOf hZ e77' g60_0
          obtain ⟨_, _, ⟨T79, L79, k79, n79⟩, -, X79, ⟨Lc79, hQ79, l79, y79, z79⟩, st79⟩ := X77.virtualBack hx (y := (⟨"com/example/zenodotus/zenodotus/io/RowCodec$Tally", "latestDeleteTimestamp", "()J"⟩ : MethodName)) (z := (⟨"com/example/zenodotus/zenodotus/io/RowCodec$Tally", "latestDeleteTimestamp", "()J"⟩ : MethodName)) hown (mvT hZ (own_w hw 50 rfl)) (mvT hZ (own_w hw 51 rfl)) (notFace_of_selects (args := #[]) (mvT hZ (own_w hw 53 rfl))) (mvT hZ (own_w hw 53 rfl)) (mvT hZ (own_w hw 52 rfl)) (by decide) (backOf (W := 0) (rmlatestDeleteTimestamp6 l Z a0 hw [] b31 (own_max (-9223372036854775808 : Int64) (-9223372036854775808 : Int64)) h60 n0 f73 g60_0 g60_1 g60_2 g60_3) hZ (own_w hw 54 rfl) (own_w hw 5 rfl) (by decide) (by decide)) q79a q79c (g := (mkF m 253 #[lvJ q0_, .second, lvJ q1_, .second, lvJ q2_, .second, lvJ q3_, .second, lvI p4_, lvI (0 : Int32), lvI (0 : Int32), lvI (0 : Int32), lvI (0 : Int32), lvR w14_, lvR w23_, lvR b31, lvR b40, lvJ (0 : Int64), .second] [(.ref b31)])) rfl (by rw [hml]; rfl) (Steps.refl _) (argsL := []) (rest := []) (lenOf pd_3 rfl) rfl (by show 2 * 0 + _ ≤ _; exact Nat.le_of_eq rfl) (hb hby at_253) (fun _ _ => ⟨rfl, e77', (by decide : 2 + 0 ≤ _), (by decide : 6 + 0 ≤ _)⟩)
          dsimp only [Pt.U, Pt.locs, Pt.cells, Pt.slots] at X79 l79 y79 z79 st79 hQ79
          subst l79 y79 z79
          obtain ⟨h79, e79⟩ : ∃ z, T79.heap = z := ⟨_, rfl⟩
          rw [e79] at hQ79
          obtain ⟨rfl, N79q, hh79⟩ := hQ79
          have N80 := Fr.app N78 N79q
          have e79' : T79.heap = h60 := e79.trans hh79
          obtain ⟨_, _, ⟨T81, L81, k81, n81⟩, -, X81, ⟨Lc81, hQ81, l81, y81, z81⟩, st81⟩ := Jvm.LawKit.callS X79 hx (y := (⟨"com/example/zenodotus/zenodotus/io/TallyAddPinLaw", "expect", "(ZJZJ)J"⟩ : MethodName)) hown (mvT hZ (own_w hw 46 rfl)) (mvT hZ (own_w hw 47 rfl)) (mvT hZ (own_w hw 48 rfl)) (mvT hZ (own_w hw 49 rfl)) (by decide) (backOf (W := 2) (rmexpect5 l Z a0 hw [] q1_ q3_ h60 n0 f73 ) hZ (own_w hw 49 rfl) (own_w hw 48 rfl) (by decide) (by decide)) (g := (mkF m 263 #[lvJ q0_, .second, lvJ q1_, .second, lvJ q2_, .second, lvJ q3_, .second, lvI p4_, lvI (0 : Int32), lvI (0 : Int32), lvI (0 : Int32), lvI (0 : Int32), lvR w14_, lvR w23_, lvR b31, lvR b40, lvJ (0 : Int64), .second] [(.long q3_), (.int (0 : Int32)), (.long q1_), (.int (0 : Int32)), (.long (own_max (-9223372036854775808 : Int64) (-9223372036854775808 : Int64)))])) rfl (by rw [hml]; rfl) (argsL := [(.int (0 : Int32)), (.long q1_), (.int (0 : Int32)), (.long q3_)]) (rest := [(.long (own_max (-9223372036854775808 : Int64) (-9223372036854775808 : Int64)))]) (lenOf pd_4 rfl) rfl (by show 2 * 0 + _ ≤ _; exact Nat.le_of_eq rfl) (hb hby at_263) (fun _ _ => ⟨rfl, e79', (by decide : 2 + 0 ≤ _), (by decide : 6 + 0 ≤ _)⟩)
          dsimp only [Pt.U, Pt.locs, Pt.cells, Pt.slots] at X81 l81 y81 z81 st81 hQ81
          subst l81 y81 z81
          obtain ⟨h81, e81⟩ : ∃ z, T81.heap = z := ⟨_, rfl⟩
          rw [e81] at hQ81
          obtain ⟨rfl, N81q, hh81⟩ := hQ81
          have N82 := Fr.app N80 N81q
          have e81' : T81.heap = h60 := e81.trans hh81
          have pre83 : ∀ t, own_S p e below m T81 275 #[lvJ q0_, .second, lvJ q1_, .second, lvJ q2_, .second, lvJ q3_, .second, lvI p4_, lvI (0 : Int32), lvI (0 : Int32), lvI (0 : Int32), lvI (0 : Int32), lvR w14_, lvR w23_, lvR b31, lvR b40, lvJ (0 : Int64), .second] [(.int (1 : Int32))] t → G t := by
            intro t kt
            refine pre58 t ?_
            show own_S p e below m T49 157 #[lvJ q0_, .second, lvJ q1_, .second, lvJ q2_, .second, lvJ q3_, .second, lvI p4_, lvI (0 : Int32), lvI (0 : Int32), lvI (0 : Int32), lvI (0 : Int32), lvR w14_, lvR w23_, lvR b31, lvR b40, .unset, .unset] [(.int (0 : Int32))] _
            refine XS.ifYes X49.here hx rfl (pc0 := 157) (pc' := 169) rfl (hb hby at_157) rfl ((if0 _ _).trans (teq (by decide : (0 : Int32) = (0 : Int32))).1) (by decide) (by decide) ?_
            refine XS.aload X49.here hx rfl (hb hby at_169) rfl rfl ?_
            refine XS.aload X49.here hx rfl (hb hby at_171) rfl rfl ?_
            show own_S p e below m T49 173 #[lvJ q0_, .second, lvJ q1_, .second, lvJ q2_, .second, lvJ q3_, .second, lvI p4_, lvI (0 : Int32), lvI (0 : Int32), lvI (0 : Int32), lvI (0 : Int32), lvR w14_, lvR w23_, lvR b31, lvR b40, .unset, .unset] [(.ref b40), (.ref b31)] _
            refine st60.trans ?_
            refine XS.iload X60.here hx rfl (hb hby at_176) rfl ?_
            show own_S p e below m T60 178 #[lvJ q0_, .second, lvJ q1_, .second, lvJ q2_, .second, lvJ q3_, .second, lvI p4_, lvI (0 : Int32), lvI (0 : Int32), lvI (0 : Int32), lvI (0 : Int32), lvR w14_, lvR w23_, lvR b31, lvR b40, .unset, .unset] [(.int (0 : Int32))] _
            refine XS.ifYes X60.here hx rfl (pc0 := 178) (pc' := 185) rfl (hb hby at_178) rfl ((if0 _ _).trans (teq (by decide : (0 : Int32) = (0 : Int32))).1) (by decide) (by decide) ?_
            refine XS.lconst X60.here hx rfl (hb hby at_185) ?_
            refine XS.iload X60.here hx rfl (hb hby at_186) rfl ?_
            show own_S p e below m T60 188 #[lvJ q0_, .second, lvJ q1_, .second, lvJ q2_, .second, lvJ q3_, .second, lvI p4_, lvI (0 : Int32), lvI (0 : Int32), lvI (0 : Int32), lvI (0 : Int32), lvR w14_, lvR w23_, lvR b31, lvR b40, .unset, .unset] [(.int (0 : Int32)), (.long (0 : Int64))] _
            refine XS.ifYes X60.here hx rfl (pc0 := 188) (pc' := 195) rfl (hb hby at_188) rfl ((if0 _ _).trans (teq (by decide : (0 : Int32) = (0 : Int32))).1) (by decide) (by decide) ?_
            refine XS.lconst X60.here hx rfl (hb hby at_195) ?_
            refine XS.ladd X60.here hx rfl (hb hby at_196) rfl ?_
            refine XS.iload X60.here hx rfl (hb hby at_197) rfl ?_
            show own_S p e below m T60 199 #[lvJ q0_, .second, lvJ q1_, .second, lvJ q2_, .second, lvJ q3_, .second, lvI p4_, lvI (0 : Int32), lvI (0 : Int32), lvI (0 : Int32), lvI (0 : Int32), lvR w14_, lvR w23_, lvR b31, lvR b40, .unset, .unset] [(.int (0 : Int32)), (.long (0 : Int64))] _
            refine XS.ifYes X60.here hx rfl (pc0 := 199) (pc' := 206) rfl (hb hby at_199) rfl ((if0 _ _).trans (teq (by decide : (0 : Int32) = (0 : Int32))).1) (by decide) (by decide) ?_
            refine XS.lconst X60.here hx rfl (hb hby at_206) ?_
            refine XS.ladd X60.here hx rfl (hb hby at_207) rfl ?_
            refine XS.iload X60.here hx rfl (hb hby at_208) rfl ?_
            show own_S p e below m T60 210 #[lvJ q0_, .second, lvJ q1_, .second, lvJ q2_, .second, lvJ q3_, .second, lvI p4_, lvI (0 : Int32), lvI (0 : Int32), lvI (0 : Int32), lvI (0 : Int32), lvR w14_, lvR w23_, lvR b31, lvR b40, .unset, .unset] [(.int (0 : Int32)), (.long (0 : Int64))] _
            refine XS.ifYes X60.here hx rfl (pc0 := 210) (pc' := 217) rfl (hb hby at_210) rfl ((if0 _ _).trans (teq (by decide : (0 : Int32) = (0 : Int32))).1) (by decide) (by decide) ?_
            refine XS.lconst X60.here hx rfl (hb hby at_217) ?_
            refine XS.ladd X60.here hx rfl (hb hby at_218) rfl ?_
            refine XS.lstore X60.here hx rfl (hb hby at_219) rfl (l' := #[lvJ q0_, .second, lvJ q1_, .second, lvJ q2_, .second, lvJ q3_, .second, lvI p4_, lvI (0 : Int32), lvI (0 : Int32), lvI (0 : Int32), lvI (0 : Int32), lvR w14_, lvR w23_, lvR b31, lvR b40, lvJ (0 : Int64), .second]) rfl ?_
            show own_S p e below m T60 221 #[lvJ q0_, .second, lvJ q1_, .second, lvJ q2_, .second, lvJ q3_, .second, lvI p4_, lvI (0 : Int32), lvI (0 : Int32), lvI (0 : Int32), lvI (0 : Int32), lvR w14_, lvR w23_, lvR b31, lvR b40, lvJ (0 : Int64), .second] [] _
            refine XS.aload X60.here hx rfl (hb hby at_221) rfl rfl ?_
            show own_S p e below m T60 223 #[lvJ q0_, .second, lvJ q1_, .second, lvJ q2_, .second, lvJ q3_, .second, lvI p4_, lvI (0 : Int32), lvI (0 : Int32), lvI (0 : Int32), lvI (0 : Int32), lvR w14_, lvR w23_, lvR b31, lvR b40, lvJ (0 : Int64), .second] [(.ref b31)] _
            refine st72.trans ?_
            refine XS.lload X72.here hx rfl (hb hby at_226) rfl ?_
            refine XS.lcmp X72.here hx rfl (hb hby at_228) rfl ?_
            show own_S p e below m T72 229 #[lvJ q0_, .second, lvJ q1_, .second, lvJ q2_, .second, lvJ q3_, .second, lvI p4_, lvI (0 : Int32), lvI (0 : Int32), lvI (0 : Int32), lvI (0 : Int32), lvR w14_, lvR w23_, lvR b31, lvR b40, lvJ (0 : Int64), .second] [(.int (lcmpW (0 : Int64) (0 : Int64)))] _
            refine XS.ifNo X72.here hx rfl (hb hby at_229) rfl ((if0 _ _).trans (teq ((lw_eq _ _).mpr (by decide : (0 : Int64) = (0 : Int64)))).2) ?_
            refine XS.aload X72.here hx rfl (hb hby at_232) rfl rfl ?_
            show own_S p e below m T72 234 #[lvJ q0_, .second, lvJ q1_, .second, lvJ q2_, .second, lvJ q3_, .second, lvI p4_, lvI (0 : Int32), lvI (0 : Int32), lvI (0 : Int32), lvI (0 : Int32), lvR w14_, lvR w23_, lvR b31, lvR b40, lvJ (0 : Int64), .second] [(.ref b31)] _
            refine st75.trans ?_
            refine XS.iload X75.here hx rfl (hb hby at_237) rfl ?_
            refine XS.lloadN X75.here hx rfl (hb hby at_239) rfl ?_
            refine XS.iload X75.here hx rfl (hb hby at_240) rfl ?_
            show own_S p e below m T75 242 #[lvJ q0_, .second, lvJ q1_, .second, lvJ q2_, .second, lvJ q3_, .second, lvI p4_, lvI (0 : Int32), lvI (0 : Int32), lvI (0 : Int32), lvI (0 : Int32), lvR w14_, lvR w23_, lvR b31, lvR b40, lvJ (0 : Int64), .second] [(.int (0 : Int32)), (.long q0_), (.int (0 : Int32)), (.long (own_max (-9223372036854775808 : Int64) (-9223372036854775808 : Int64)))] _
            refine XS.lload X75.here hx rfl (hb hby at_242) rfl ?_
            show own_S p e below m T75 244 #[lvJ q0_, .second, lvJ q1_, .second, lvJ q2_, .second, lvJ q3_, .second, lvI p4_, lvI (0 : Int32), lvI (0 : Int32), lvI (0 : Int32), lvI (0 : Int32), lvR w14_, lvR w23_, lvR b31, lvR b40, lvJ (0 : Int64), .second] [(.long q2_), (.int (0 : Int32)), (.long q0_), (.int (0 : Int32)), (.long (own_max (-9223372036854775808 : Int64) (-9223372036854775808 : Int64)))] _
            refine st77 _ ?_
            refine XS.lcmp X77.here hx rfl (hb hby at_247) rfl ?_
            show own_S p e below m T77 248 #[lvJ q0_, .second, lvJ q1_, .second, lvJ q2_, .second, lvJ q3_, .second, lvI p4_, lvI (0 : Int32), lvI (0 : Int32), lvI (0 : Int32), lvI (0 : Int32), lvR w14_, lvR w23_, lvR b31, lvR b40, lvJ (0 : Int64), .second] [(.int (lcmpW (own_max (-9223372036854775808 : Int64) (-9223372036854775808 : Int64)) (-9223372036854775808 : Int64)))] _
            refine XS.ifNo X77.here hx rfl (hb hby at_248) rfl ((if0 _ _).trans (teq ((lw_eq _ _).mpr (by simp only [own_minl, own_minr]))).2) ?_
            refine XS.aload X77.here hx rfl (hb hby at_251) rfl rfl ?_
            show own_S p e below m T77 253 #[lvJ q0_, .second, lvJ q1_, .second, lvJ q2_, .second, lvJ q3_, .second, lvI p4_, lvI (0 : Int32), lvI (0 : Int32), lvI (0 : Int32), lvI (0 : Int32), lvR w14_, lvR w23_, lvR b31, lvR b40, lvJ (0 : Int64), .second] [(.ref b31)] _
            refine st79.trans ?_
            refine XS.iload X79.here hx rfl (hb hby at_256) rfl ?_
            refine XS.lloadN X79.here hx rfl (hb hby at_258) rfl ?_
            refine XS.iload X79.here hx rfl (hb hby at_259) rfl ?_
            show own_S p e below m T79 261 #[lvJ q0_, .second, lvJ q1_, .second, lvJ q2_, .second, lvJ q3_, .second, lvI p4_, lvI (0 : Int32), lvI (0 : Int32), lvI (0 : Int32), lvI (0 : Int32), lvR w14_, lvR w23_, lvR b31, lvR b40, lvJ (0 : Int64), .second] [(.int (0 : Int32)), (.long q1_), (.int (0 : Int32)), (.long (own_max (-9223372036854775808 : Int64) (-9223372036854775808 : Int64)))] _
            refine XS.lload X79.here hx rfl (hb hby at_261) rfl ?_
            show own_S p e below m T79 263 #[lvJ q0_, .second, lvJ q1_, .second, lvJ q2_, .second, lvJ q3_, .second, lvI p4_, lvI (0 : Int32), lvI (0 : Int32), lvI (0 : Int32), lvI (0 : Int32), lvR w14_, lvR w23_, lvR b31, lvR b40, lvJ (0 : Int64), .second] [(.long q3_), (.int (0 : Int32)), (.long q1_), (.int (0 : Int32)), (.long (own_max (-9223372036854775808 : Int64) (-9223372036854775808 : Int64)))] _
            refine st81 _ ?_
            refine XS.lcmp X81.here hx rfl (hb hby at_266) rfl ?_
            show own_S p e below m T81 267 #[lvJ q0_, .second, lvJ q1_, .second, lvJ q2_, .second, lvJ q3_, .second, lvI p4_, lvI (0 : Int32), lvI (0 : Int32), lvI (0 : Int32), lvI (0 : Int32), lvR w14_, lvR w23_, lvR b31, lvR b40, lvJ (0 : Int64), .second] [(.int (lcmpW (own_max (-9223372036854775808 : Int64) (-9223372036854775808 : Int64)) (-9223372036854775808 : Int64)))] _
            refine XS.ifNo X81.here hx rfl (hb hby at_267) rfl ((if0 _ _).trans (teq ((lw_eq _ _).mpr (by simp only [own_minl, own_minr]))).2) ?_
            refine XS.iconst X81.here hx rfl (hb hby at_270) ?_
            refine XS.goto X81.here hx rfl (pc0 := 271) (pc' := 275) rfl (hb hby at_271) (by decide) (by decide) ?_
            exact kt
          obtain ⟨fs, hr, hrun, hended, hW, hsame⟩ := X81.leave (v := some (.int (1 : Int32))) (fun h => by rw [Bd.returns] at h; cases h)
          refine ⟨_, _, hG _ (pre83 _ (retN X81 hx (t := .boolean) Bd.returns (by simp) (hb hby at_275) hr)), hrun, hended, _, _, rfl, ?_, ⟨_, rfl⟩, hW, hsame.mono (by decide) (by decide)⟩
          show QLaw Z q0_ q1_ q2_ q3_ p4_ w_PUT w_DELETE_COLUMN w_DELETE_FAMILY h0 n0 _ T81.heap _
          rw [e81']
          exact ⟨rfl, N82⟩
        · have f86 : Old Z n0 h49 := f50.keep K49 (allS (ge42) all0)
          obtain ⟨cq85, kq85, q85a, q85b, q85c⟩ := isOf hZ e49 g49_0
          obtain ⟨_, _, ⟨T85, L85, k85, n85⟩, -, X85, ⟨Lc85, hQ85, l85, y85, z85⟩, st85⟩ := X49.virtualBack hx (y := (⟨"com/example/zenodotus/zenodotus/io/RowCodec$Tally", "count", "(Lcom/example/zenodotus/zenodotus/model/Cell$Kind;J)V"⟩ : MethodName)) (z := (⟨"com/example/zenodotus/zenodotus/io/RowCodec$Tally", "count", "(Lcom/example/zenodotus/zenodotus/model/Cell$Kind;J)V"⟩ : MethodName)) hown (mvT hZ (own_w hw 19 rfl)) (mvT hZ (own_w hw 20 rfl)) (notFace_of_selects (args := #[]) (mvT hZ (own_w hw 22 rfl))) (mvT hZ (own_w hw 22 rfl)) (mvT hZ (own_w hw 21 rfl)) (by decide) (backOf (W := 0) (rmcount7 l Z a0 hw [] b40 w23_ q3_ w_PUT h49 n0 f86 g49_0 g49_1 g49_2 g49_3 E23 ge42 P1 P2 P0 n23_0) hZ (own_w hw 23 rfl) (own_w hw 5 rfl) (by decide) (by decide)) q85a q85c (g := (mkF m 166 #[lvJ q0_, .second, lvJ q1_, .second, lvJ q2_, .second, lvJ q3_, .second, lvI p4_, lvI (0 : Int32), lvI (0 : Int32), lvI (0 : Int32), lvI (1 : Int32), lvR w14_, lvR w23_, lvR b31, lvR b40, .unset, .unset] [(.long q3_), (.ref w23_), (.ref b40)])) rfl (by rw [hml]; rfl) (Steps.refl _) (argsL := [(.ref w23_), (.long q3_)]) (rest := []) (lenOf pd_5 rfl) rfl (by show 2 * 0 + _ ≤ _; exact Nat.le_of_eq rfl) (hb hby at_166) (fun _ _ => ⟨rfl, e49, (by decide : 2 + 0 ≤ _), (by decide : 6 + 0 ≤ _)⟩)
          dsimp only [Pt.U, Pt.locs, Pt.cells, Pt.slots] at X85 l85 y85 z85 st85 hQ85
          subst l85 y85 z85
          obtain ⟨h85, e85⟩ : ∃ z, T85.heap = z := ⟨_, rfl⟩
          rw [e85] at hQ85
          obtain ⟨rfl, N85q, K85, g85_0, g85_1, g85_2, g85_3⟩ := hQ85
          have N87 := Fr.app N51 N85q
          have f89 : Exa Z h40 b31 cn0 := g37_0.ext E40
          have f90 : Exa Z h49 b31 cn0 := f89.keep K49
          have f91 : Exa Z h85 b31 cn0 := f90.keep K85
          have f92 : Fld Z h40 b31 cn0 "latestTimestamp" "J" (.long (-9223372036854775808 : Int64)) := g37_1.ext E40
          have ne94 : b31 ≠ b40 := Nat.ne_of_lt (Nat.lt_of_lt_of_le g37_0.lt (Nat.le_of_eq g40.symm))
          have f93 : Fld Z h49 b31 cn0 "latestTimestamp" "J" (.long (-9223372036854775808 : Int64)) := f92.keep K49 (ninS ne94 nin0)
          have f95 : Fld Z h85 b31 cn0 "latestTimestamp" "J" (.long (-9223372036854775808 : Int64)) := f93.keep K85 (ninS ne94 nin0)
          have f96 : Fld Z h40 b31 cn0 "latestDeleteTimestamp" "J" (.long (-9223372036854775808 : Int64)) := g37_2.ext E40
          have f97 : Fld Z h49 b31 cn0 "latestDeleteTimestamp" "J" (.long (-9223372036854775808 : Int64)) := f96.keep K49 (ninS ne94 nin0)
          have f98 : Fld Z h85 b31 cn0 "latestDeleteTimestamp" "J" (.long (-9223372036854775808 : Int64)) := f97.keep K85 (ninS ne94 nin0)
          have f99 : Fld Z h40 b31 cn0 "cells" "J" (.long (0 : Int64)) := g37_3.ext E40
          have f100 : Fld Z h49 b31 cn0 "cells" "J" (.long (0 : Int64)) := f99.keep K49 (ninS ne94 nin0)
          have f101 : Fld Z h85 b31 cn0 "cells" "J" (.long (0 : Int64)) := f100.keep K85 (ninS ne94 nin0)
          have f102 : Old Z n0 h85 := f86.keep K85 (allS (ge42) all0)
          obtain ⟨cq88, kq88, q88a, q88b, q88c⟩ := isOf hZ e85 f91
          obtain ⟨_, _, ⟨T88, L88, k88, n88⟩, -, X88, ⟨Lc88, hQ88, l88, y88, z88⟩, st88⟩ := X85.virtualBack hx (y := (⟨"com/example/zenodotus/zenodotus/io/RowCodec$Tally", "add", "(Lcom/example/zenodotus/zenodotus/io/RowCodec$Tally;)V"⟩ : MethodName)) (z := (⟨"com/example/zenodotus/zenodotus/io/RowCodec$Tally", "add", "(Lcom/example/zenodotus/zenodotus/io/RowCodec$Tally;)V"⟩ : MethodName)) hown (mvT hZ (own_w hw 31 rfl)) (mvT hZ (own_w hw 32 rfl)) (notFace_of_selects (args := #[]) (mvT hZ (own_w hw 34 rfl))) (mvT hZ (own_w hw 34 rfl)) (mvT hZ (own_w hw 33 rfl)) (by decide) (backOf (W := 0) (rmadd8 l Z a0 hw [] b31 b40 (own_max (-9223372036854775808 : Int64) q3_) h85 n0 f102 f91 f95 f98 f101 g85_0 g85_1 g85_2 g85_3 ge32 (Ne.symm ne94)) hZ (own_w hw 35 rfl) (own_w hw 5 rfl) (by decide) (by decide)) q88a q88c (g := (mkF m 173 #[lvJ q0_, .second, lvJ q1_, .second, lvJ q2_, .second, lvJ q3_, .second, lvI p4_, lvI (0 : Int32), lvI (0 : Int32), lvI (0 : Int32), lvI (1 : Int32), lvR w14_, lvR w23_, lvR b31, lvR b40, .unset, .unset] [(.ref b40), (.ref b31)])) rfl (by rw [hml]; rfl) (Steps.refl _) (argsL := [(.ref b40)]) (rest := []) (lenOf pd_2 rfl) rfl (by show 2 * 0 + _ ≤ _; exact Nat.le_of_eq rfl) (hb hby at_173) (fun _ _ => ⟨rfl, e85, (by decide : 2 + 0 ≤ _), (by decide : 6 + 0 ≤ _)⟩)
          dsimp only [Pt.U, Pt.locs, Pt.cells, Pt.slots] at X88 l88 y88 z88 st88 hQ88
          subst l88 y88 z88
          obtain ⟨h88, e88⟩ : ∃ z, T88.heap = z := ⟨_, rfl⟩
          rw [e88] at hQ88
          obtain ⟨rfl, N88q, K88, g88_0, g88_1, g88_2, g88_3⟩ := hQ88
          have N103 := Fr.app N87 N88q
          have f105 : Old Z n0 h88 := f102.keep K88 (allS (ge32) all0)
          obtain ⟨cq104, kq104, q104a, q104b, q104c⟩ := isOf hZ e88 g88_0
          obtain ⟨_, _, ⟨T104, L104, k104, n104⟩, -, X104, ⟨Lc104, hQ104, l104, y104, z104⟩, st104⟩ := X88.virtualBack hx (y := (⟨"com/example/zenodotus/zenodotus/io/RowCodec$Tally", "cells", "()J"⟩ : MethodName)) (z := (⟨"com/example/zenodotus/zenodotus/io/RowCodec$Tally", "cells", "()J"⟩ : MethodName)) hown (mvT hZ (own_w hw 36 rfl)) (mvT hZ (own_w hw 37 rfl)) (notFace_of_selects (args := #[]) (mvT hZ (own_w hw 39 rfl))) (mvT hZ (own_w hw 39 rfl)) (mvT hZ (own_w hw 38 rfl)) (by decide) (backOf (W := 0) (rmcells9 l Z a0 hw [] b31 (own_max (-9223372036854775808 : Int64) (-9223372036854775808 : Int64)) (own_max (-9223372036854775808 : Int64) (own_max (-9223372036854775808 : Int64) q3_)) h88 n0 f105 g88_0 g88_1 g88_2 g88_3) hZ (own_w hw 40 rfl) (own_w hw 5 rfl) (by decide) (by decide)) q104a q104c (g := (mkF m 223 #[lvJ q0_, .second, lvJ q1_, .second, lvJ q2_, .second, lvJ q3_, .second, lvI p4_, lvI (0 : Int32), lvI (0 : Int32), lvI (0 : Int32), lvI (1 : Int32), lvR w14_, lvR w23_, lvR b31, lvR b40, lvJ (1 : Int64), .second] [(.ref b31)])) rfl (by rw [hml]; rfl) (Steps.refl _) (argsL := []) (rest := []) (lenOf pd_3 rfl) rfl (by show 2 * 0 + _ ≤ _; exact Nat.le_of_eq rfl) (hb hby at_223) (fun _ _ => ⟨rfl, e88, (by decide : 2 + 0 ≤ _), (by decide : 6 + 0 ≤ _)⟩)
          dsimp only [Pt.U, Pt.locs, Pt.cells, Pt.slots] at X104 l104 y104 z104 st104 hQ104
          subst l104 y104 z104
          obtain ⟨h104, e104⟩ : ∃ z, T104.heap = z := ⟨_, rfl⟩
          rw [e104] at hQ104
          obtain ⟨rfl, N104q, hh104⟩ := hQ104
          have N106 := Fr.app N103 N104q
          have e104' : T104.heap = h88 := e104.trans hh104
          obtain ⟨cq107, kq107, q107a, q107b, q107c⟩ := isOf hZ e104' g88_0
          obtain ⟨_, _, ⟨T107, L107, k107, n107⟩, -, X107, ⟨Lc107, hQ107, l107, y107, z107⟩, st107⟩ := X104.virtualBack hx (y := (⟨"com/example/zenodotus/zenodotus/io/RowCodec$Tally", "latestTimestamp", "()J"⟩ : MethodName)) (z := (⟨"com/example/zenodotus/zenodotus/io/RowCodec$Tally", "latestTimestamp", "()J"⟩ : MethodName)) hown (mvT hZ (own_w hw 41 rfl)) (mvT hZ (own_w hw 42 rfl)) (notFace_of_selects (args := #[]) (mvT hZ (own_w hw 44 rfl))) (mvT hZ (own_w hw 44 rfl)) (mvT hZ (own_w hw 43 rfl)) (by decide) (backOf (W := 0) (rmlatestTimestamp10 l Z a0 hw [] b31 (own_max (-9223372036854775808 : Int64) (-9223372036854775808 : Int64)) (own_max (-9223372036854775808 : Int64) (own_max (-9223372036854775808 : Int64) q3_)) h88 n0 f105 g88_0 g88_1 g88_2 g88_3) hZ (own_w hw 45 rfl) (own_w hw 5 rfl) (by decide) (by decide)) q107a q107c (g := (mkF m 234 #[lvJ q0_, .second, lvJ q1_, .second, lvJ q2_, .second, lvJ q3_, .second, lvI p4_, lvI (0 : Int32), lvI (0 : Int32), lvI (0 : Int32), lvI (1 : Int32), lvR w14_, lvR w23_, lvR b31, lvR b40, lvJ (1 : Int64), .second] [(.ref b31)])) rfl (by rw [hml]; rfl) (Steps.refl _) (argsL := []) (rest := []) (lenOf pd_3 rfl) rfl (by show 2 * 0 + _ ≤ _; exact Nat.le_of_eq rfl) (hb hby at_234) (fun _ _ => ⟨rfl, e104', (by decide : 2 + 0 ≤ _), (by decide : 6 + 0 ≤ _)⟩)
          dsimp only [Pt.U, Pt.locs, Pt.cells, Pt.slots] at X107 l107 y107 z107 st107 hQ107
          subst l107 y107 z107
          obtain ⟨h107, e107⟩ : ∃ z, T107.heap = z := ⟨_, rfl⟩
          rw [e107] at hQ107
          obtain ⟨rfl, N107q, hh107⟩ := hQ107
          have N108 := Fr.app N106 N107q
          have e107' : T107.heap = h88 := e107.trans hh107
          obtain ⟨_, _, ⟨T109, L109, k109, n109⟩, -, X109, ⟨Lc109, hQ109, l109, y109, z109⟩, st109⟩ := Jvm.LawKit.callS X107 hx (y := (⟨"com/example/zenodotus/zenodotus/io/TallyAddPinLaw", "expect", "(ZJZJ)J"⟩ : MethodName)) hown (mvT hZ (own_w hw 46 rfl)) (mvT hZ (own_w hw 47 rfl)) (mvT hZ (own_w hw 48 rfl)) (mvT hZ (own_w hw 49 rfl)) (by decide) (backOf (W := 2) (rmexpect5 l Z a0 hw [] q0_ q2_ h88 n0 f105 ) hZ (own_w hw 49 rfl) (own_w hw 48 rfl) (by decide) (by decide)) (g := (mkF m 244 #[lvJ q0_, .second, lvJ q1_, .second, lvJ q2_, .second, lvJ q3_, .second, lvI p4_, lvI (0 : Int32), lvI (0 : Int32), lvI (0 : Int32), lvI (1 : Int32), lvR w14_, lvR w23_, lvR b31, lvR b40, lvJ (1 : Int64), .second] [(.long q2_), (.int (0 : Int32)), (.long q0_), (.int (0 : Int32)), (.long (own_max (-9223372036854775808 : Int64) (-9223372036854775808 : Int64)))])) rfl (by rw [hml]; rfl) (argsL := [(.int (0 : Int32)), (.long q0_), (.int (0 : Int32)), (.long q2_)]) (rest := [(.long (own_max (-9223372036854775808 : Int64) (-9223372036854775808 : Int64)))]) (lenOf pd_4 rfl) rfl (by show 2 * 0 + _ ≤ _; exact Nat.le_of_eq rfl) (hb hby at_244) (fun _ _ => ⟨rfl, e107', (by decide : 2 + 0 ≤ _), (by decide : 6 + 0 ≤ _)⟩)
          dsimp only [Pt.U, Pt.locs, Pt.cells, Pt.slots] at X109 l109 y109 z109 st109 hQ109
          subst l109 y109 z109
          obtain ⟨h109, e109⟩ : ∃ z, T109.heap = z := ⟨_, rfl⟩
          rw [e109] at hQ109
          obtain ⟨rfl, N109q, hh109⟩ := hQ109
          have N110 := Fr.app N108 N109q
          have e109' : T109.heap = h88 := e109.trans hh109
          obtain ⟨cq111, kq111, q111a, q111b, q111c⟩ := isOf hZ e109' g88_0
          obtain ⟨_, _, ⟨T111, L111, k111, n111⟩, -, X111, ⟨Lc111, hQ111, l111, y111, z111⟩, st111⟩ := X109.virtualBack hx (y := (⟨"com/example/zenodotus/zenodotus/io/RowCodec$Tally", "latestDeleteTimestamp", "()J"⟩ : MethodName)) (z := (⟨"com/example/zenodotus/zenodotus/io/RowCodec$Tally", "latestDeleteTimestamp", "()J"⟩ : MethodName)) hown (mvT hZ (own_w hw 50 rfl)) (mvT hZ (own_w hw 51 rfl)) (notFace_of_selects (args := #[]) (mvT hZ (own_w hw 53 rfl))) (mvT hZ (own_w hw 53 rfl)) (mvT hZ (own_w hw 52 rfl)) (by decide) (backOf (W := 0) (rmlatestDeleteTimestamp11 l Z a0 hw [] b31 (own_max (-9223372036854775808 : Int64) (-9223372036854775808 : Int64)) (own_max (-9223372036854775808 : Int64) (own_max (-9223372036854775808 : Int64) q3_)) h88 n0 f105 g88_0 g88_1 g88_2 g88_3) hZ (own_w hw 54 rfl) (own_w hw 5 rfl) (by decide) (by decide)) q111a q111c (g := (mkF m 253 #[lvJ q0_, .second, lvJ q1_, .second, lvJ q2_, .second, lvJ q3_, .second, lvI p4_, lvI (0 : Int32), lvI (0 : Int32), lvI (0 : Int32), lvI (1 : Int32), lvR w14_, lvR w23_, lvR b31, lvR b40, lvJ (1 : Int64), .second] [(.ref b31)])) rfl (by rw [hml]; rfl) (Steps.refl _) (argsL := []) (rest := []) (lenOf pd_3 rfl) rfl (by show 2 * 0 + _ ≤ _; exact Nat.le_of_eq rfl) (hb hby at_253) (fun _ _ => ⟨rfl, e109', (by decide : 2 + 0 ≤ _), (by decide : 6 + 0 ≤ _)⟩)
          dsimp only [Pt.U, Pt.locs, Pt.cells, Pt.slots] at X111 l111 y111 z111 st111 hQ111
          subst l111 y111 z111
          obtain ⟨h111, e111⟩ : ∃ z, T111.heap = z := ⟨_, rfl⟩
          rw [e111] at hQ111
          obtain ⟨rfl, N111q, hh111⟩ := hQ111
          have N112 := Fr.app N110 N111q
          have e111' : T111.heap = h88 := e111.trans hh111
          obtain ⟨_, _, ⟨T113, L113, k113, n113⟩, -, X113, ⟨Lc113, hQ113, l113, y113, z113⟩, st113⟩ := Jvm.LawKit.callS X111 hx (y := (⟨"com/example/zenodotus/zenodotus/io/TallyAddPinLaw", "expect", "(ZJZJ)J"⟩ : MethodName)) hown (mvT hZ (own_w hw 46 rfl)) (mvT hZ (own_w hw 47 rfl)) (mvT hZ (own_w hw 48 rfl)) (mvT hZ (own_w hw 49 rfl)) (by decide) (backOf (W := 2) (rmexpect12 l Z a0 hw [] q1_ q3_ h88 n0 f105 ) hZ (own_w hw 49 rfl) (own_w hw 48 rfl) (by decide) (by decide)) (g := (mkF m 263 #[lvJ q0_, .second, lvJ q1_, .second, lvJ q2_, .second, lvJ q3_, .second, lvI p4_, lvI (0 : Int32), lvI (0 : Int32), lvI (0 : Int32), lvI (1 : Int32), lvR w14_, lvR w23_, lvR b31, lvR b40, lvJ (1 : Int64), .second] [(.long q3_), (.int (1 : Int32)), (.long q1_), (.int (0 : Int32)), (.long (own_max (-9223372036854775808 : Int64) (own_max (-9223372036854775808 : Int64) q3_)))])) rfl (by rw [hml]; rfl) (argsL := [(.int (0 : Int32)), (.long q1_), (.int (1 : Int32)), (.long q3_)]) (rest := [(.long (own_max (-9223372036854775808 : Int64) (own_max (-9223372036854775808 : Int64) q3_)))]) (lenOf pd_4 rfl) rfl (by show 2 * 0 + _ ≤ _; exact Nat.le_of_eq rfl) (hb hby at_263) (fun _ _ => ⟨rfl, e111', (by decide : 2 + 0 ≤ _), (by decide : 6 + 0 ≤ _)⟩)
          dsimp only [Pt.U, Pt.locs, Pt.cells, Pt.slots] at X113 l113 y113 z113 st113 hQ113
          subst l113 y113 z113
          obtain ⟨h113, e113⟩ : ∃ z, T113.heap = z := ⟨_, rfl⟩
          rw [e113] at hQ113
          obtain ⟨rfl, N113q, hh113⟩ := hQ113
          have N114 := Fr.app N112 N113q
          have e113' : T113.heap = h88 := e113.trans hh113
          have pre115 : ∀ t, own_S p e below m T113 275 #[lvJ q0_, .second, lvJ q1_, .second, lvJ q2_, .second, lvJ q3_, .second, lvI p4_, lvI (0 : Int32), lvI (0 : Int32), lvI (0 : Int32), lvI (1 : Int32), lvR w14_, lvR w23_, lvR b31, lvR b40, lvJ (1 : Int64), .second] [(.int (1 : Int32))] t → G t := by
            intro t kt
            refine pre58 t ?_
            show own_S p e below m T49 157 #[lvJ q0_, .second, lvJ q1_, .second, lvJ q2_, .second, lvJ q3_, .second, lvI p4_, lvI (0 : Int32), lvI (0 : Int32), lvI (0 : Int32), lvI (1 : Int32), lvR w14_, lvR w23_, lvR b31, lvR b40, .unset, .unset] [(.int (1 : Int32))] _
            refine XS.ifNo X49.here hx rfl (hb hby at_157) rfl ((if0 _ _).trans (feq (by decide : ¬ ((1 : Int32) = (0 : Int32)))).1) ?_
            refine XS.aload X49.here hx rfl (hb hby at_160) rfl rfl ?_
            refine XS.aload X49.here hx rfl (hb hby at_162) rfl rfl ?_
            refine XS.lload X49.here hx rfl (hb hby at_164) rfl ?_
            show own_S p e below m T49 166 #[lvJ q0_, .second, lvJ q1_, .second, lvJ q2_, .second, lvJ q3_, .second, lvI p4_, lvI (0 : Int32), lvI (0 : Int32), lvI (0 : Int32), lvI (1 : Int32), lvR w14_, lvR w23_, lvR b31, lvR b40, .unset, .unset] [(.long q3_), (.ref w23_), (.ref b40)] _
            refine st85.trans ?_
            refine XS.aload X85.here hx rfl (hb hby at_169) rfl rfl ?_
            refine XS.aload X85.here hx rfl (hb hby at_171) rfl rfl ?_
            show own_S p e below m T85 173 #[lvJ q0_, .second, lvJ q1_, .second, lvJ q2_, .second, lvJ q3_, .second, lvI p4_, lvI (0 : Int32), lvI (0 : Int32), lvI (0 : Int32), lvI (1 : Int32), lvR w14_, lvR w23_, lvR b31, lvR b40, .unset, .unset] [(.ref b40), (.ref b31)] _
            refine st88.trans ?_
            refine XS.iload X88.here hx rfl (hb hby at_176) rfl ?_
            show own_S p e below m T88 178 #[lvJ q0_, .second, lvJ q1_, .second, lvJ q2_, .second, lvJ q3_, .second, lvI p4_, lvI (0 : Int32), lvI (0 : Int32), lvI (0 : Int32), lvI (1 : Int32), lvR w14_, lvR w23_, lvR b31, lvR b40, .unset, .unset] [(.int (0 : Int32))] _
            refine XS.ifYes X88.here hx rfl (pc0 := 178) (pc' := 185) rfl (hb hby at_178) rfl ((if0 _ _).trans (teq (by decide : (0 : Int32) = (0 : Int32))).1) (by decide) (by decide) ?_
            refine XS.lconst X88.here hx rfl (hb hby at_185) ?_
            refine XS.iload X88.here hx rfl (hb hby at_186) rfl ?_
            show own_S p e below m T88 188 #[lvJ q0_, .second, lvJ q1_, .second, lvJ q2_, .second, lvJ q3_, .second, lvI p4_, lvI (0 : Int32), lvI (0 : Int32), lvI (0 : Int32), lvI (1 : Int32), lvR w14_, lvR w23_, lvR b31, lvR b40, .unset, .unset] [(.int (0 : Int32)), (.long (0 : Int64))] _
            refine XS.ifYes X88.here hx rfl (pc0 := 188) (pc' := 195) rfl (hb hby at_188) rfl ((if0 _ _).trans (teq (by decide : (0 : Int32) = (0 : Int32))).1) (by decide) (by decide) ?_
            refine XS.lconst X88.here hx rfl (hb hby at_195) ?_
            refine XS.ladd X88.here hx rfl (hb hby at_196) rfl ?_
            refine XS.iload X88.here hx rfl (hb hby at_197) rfl ?_
            show own_S p e below m T88 199 #[lvJ q0_, .second, lvJ q1_, .second, lvJ q2_, .second, lvJ q3_, .second, lvI p4_, lvI (0 : Int32), lvI (0 : Int32), lvI (0 : Int32), lvI (1 : Int32), lvR w14_, lvR w23_, lvR b31, lvR b40, .unset, .unset] [(.int (0 : Int32)), (.long (0 : Int64))] _
            refine XS.ifYes X88.here hx rfl (pc0 := 199) (pc' := 206) rfl (hb hby at_199) rfl ((if0 _ _).trans (teq (by decide : (0 : Int32) = (0 : Int32))).1) (by decide) (by decide) ?_
            refine XS.lconst X88.here hx rfl (hb hby at_206) ?_
            refine XS.ladd X88.here hx rfl (hb hby at_207) rfl ?_
            refine XS.iload X88.here hx rfl (hb hby at_208) rfl ?_
            show own_S p e below m T88 210 #[lvJ q0_, .second, lvJ q1_, .second, lvJ q2_, .second, lvJ q3_, .second, lvI p4_, lvI (0 : Int32), lvI (0 : Int32), lvI (0 : Int32), lvI (1 : Int32), lvR w14_, lvR w23_, lvR b31, lvR b40, .unset, .unset] [(.int (1 : Int32)), (.long (0 : Int64))] _
            refine XS.ifNo X88.here hx rfl (hb hby at_210) rfl ((if0 _ _).trans (feq (by decide : ¬ ((1 : Int32) = (0 : Int32)))).1) ?_
            refine XS.lconst X88.here hx rfl (hb hby at_213) ?_
            refine XS.goto X88.here hx rfl (pc0 := 214) (pc' := 218) rfl (hb hby at_214) (by decide) (by decide) ?_
            refine XS.ladd X88.here hx rfl (hb hby at_218) rfl ?_
            show own_S p e below m T88 219 #[lvJ q0_, .second, lvJ q1_, .second, lvJ q2_, .second, lvJ q3_, .second, lvI p4_, lvI (0 : Int32), lvI (0 : Int32), lvI (0 : Int32), lvI (1 : Int32), lvR w14_, lvR w23_, lvR b31, lvR b40, .unset, .unset] [(.long (1 : Int64))] _
            refine XS.lstore X88.here hx rfl (hb hby at_219) rfl (l' := #[lvJ q0_, .second, lvJ q1_, .second, lvJ q2_, .second, lvJ q3_, .second, lvI p4_, lvI (0 : Int32), lvI (0 : Int32), lvI (0 : Int32), lvI (1 : Int32), lvR w14_, lvR w23_, lvR b31, lvR b40, lvJ (1 : Int64), .second]) rfl ?_
            refine XS.aload X88.here hx rfl (hb hby at_221) rfl rfl ?_
            show own_S p e below m T88 223 #[lvJ q0_, .second, lvJ q1_, .second, lvJ q2_, .second, lvJ q3_, .second, lvI p4_, lvI (0 : Int32), lvI (0 : Int32), lvI (0 : Int32), lvI (1 : Int32), lvR w14_, lvR w23_, lvR b31, lvR b40, lvJ (1 : Int64), .second] [(.ref b31)] _
            refine st104.trans ?_
            refine XS.lload X104.here hx rfl (hb hby at_226) rfl ?_
            refine XS.lcmp X104.here hx rfl (hb hby at_228) rfl ?_
            show own_S p e below m T104 229 #[lvJ q0_, .second, lvJ q1_, .second, lvJ q2_, .second, lvJ q3_, .second, lvI p4_, lvI (0 : Int32), lvI (0 : Int32), lvI (0 : Int32), lvI (1 : Int32), lvR w14_, lvR w23_, lvR b31, lvR b40, lvJ (1 : Int64), .second] [(.int (lcmpW (1 : Int64) (1 : Int64)))] _
            refine XS.ifNo X104.here hx rfl (hb hby at_229) rfl ((if0 _ _).trans (teq ((lw_eq _ _).mpr (by decide : (1 : Int64) = (1 : Int64)))).2) ?_
            refine XS.aload X104.here hx rfl (hb hby at_232) rfl rfl ?_
            show own_S p e below m T104 234 #[lvJ q0_, .second, lvJ q1_, .second, lvJ q2_, .second, lvJ q3_, .second, lvI p4_, lvI (0 : Int32), lvI (0 : Int32), lvI (0 : Int32), lvI (1 : Int32), lvR w14_, lvR w23_, lvR b31, lvR b40, lvJ (1 : Int64), .second] [(.ref b31)] _
            refine st107.trans ?_
            refine XS.iload X107.here hx rfl (hb hby at_237) rfl ?_
            refine XS.lloadN X107.here hx rfl (hb hby at_239) rfl ?_
            refine XS.iload X107.here hx rfl (hb hby at_240) rfl ?_
            show own_S p e below m T107 242 #[lvJ q0_, .second, lvJ q1_, .second, lvJ q2_, .second, lvJ q3_, .second, lvI p4_, lvI (0 : Int32), lvI (0 : Int32), lvI (0 : Int32), lvI (1 : Int32), lvR w14_, lvR w23_, lvR b31, lvR b40, lvJ (1 : Int64), .second] [(.int (0 : Int32)), (.long q0_), (.int (0 : Int32)), (.long (own_max (-9223372036854775808 : Int64) (-9223372036854775808 : Int64)))] _
            refine XS.lload X107.here hx rfl (hb hby at_242) rfl ?_
            show own_S p e below m T107 244 #[lvJ q0_, .second, lvJ q1_, .second, lvJ q2_, .second, lvJ q3_, .second, lvI p4_, lvI (0 : Int32), lvI (0 : Int32), lvI (0 : Int32), lvI (1 : Int32), lvR w14_, lvR w23_, lvR b31, lvR b40, lvJ (1 : Int64), .second] [(.long q2_), (.int (0 : Int32)), (.long q0_), (.int (0 : Int32)), (.long (own_max (-9223372036854775808 : Int64) (-9223372036854775808 : Int64)))] _
            refine st109 _ ?_
            refine XS.lcmp X109.here hx rfl (hb hby at_247) rfl ?_
            show own_S p e below m T109 248 #[lvJ q0_, .second, lvJ q1_, .second, lvJ q2_, .second, lvJ q3_, .second, lvI p4_, lvI (0 : Int32), lvI (0 : Int32), lvI (0 : Int32), lvI (1 : Int32), lvR w14_, lvR w23_, lvR b31, lvR b40, lvJ (1 : Int64), .second] [(.int (lcmpW (own_max (-9223372036854775808 : Int64) (-9223372036854775808 : Int64)) (-9223372036854775808 : Int64)))] _
            refine XS.ifNo X109.here hx rfl (hb hby at_248) rfl ((if0 _ _).trans (teq ((lw_eq _ _).mpr (by simp only [own_minl, own_minr]))).2) ?_
            refine XS.aload X109.here hx rfl (hb hby at_251) rfl rfl ?_
            show own_S p e below m T109 253 #[lvJ q0_, .second, lvJ q1_, .second, lvJ q2_, .second, lvJ q3_, .second, lvI p4_, lvI (0 : Int32), lvI (0 : Int32), lvI (0 : Int32), lvI (1 : Int32), lvR w14_, lvR w23_, lvR b31, lvR b40, lvJ (1 : Int64), .second] [(.ref b31)] _
            refine st111.trans ?_
            refine XS.iload X111.here hx rfl (hb hby at_256) rfl ?_
            refine XS.lloadN X111.here hx rfl (hb hby at_258) rfl ?_
            refine XS.iload X111.here hx rfl (hb hby at_259) rfl ?_
            show own_S p e below m T111 261 #[lvJ q0_, .second, lvJ q1_, .second, lvJ q2_, .second, lvJ q3_, .second, lvI p4_, lvI (0 : Int32), lvI (0 : Int32), lvI (0 : Int32), lvI (1 : Int32), lvR w14_, lvR w23_, lvR b31, lvR b40, lvJ (1 : Int64), .second] [(.int (1 : Int32)), (.long q1_), (.int (0 : Int32)), (.long (own_max (-9223372036854775808 : Int64) (own_max (-9223372036854775808 : Int64) q3_)))] _
            refine XS.lload X111.here hx rfl (hb hby at_261) rfl ?_
            show own_S p e below m T111 263 #[lvJ q0_, .second, lvJ q1_, .second, lvJ q2_, .second, lvJ q3_, .second, lvI p4_, lvI (0 : Int32), lvI (0 : Int32), lvI (0 : Int32), lvI (1 : Int32), lvR w14_, lvR w23_, lvR b31, lvR b40, lvJ (1 : Int64), .second] [(.long q3_), (.int (1 : Int32)), (.long q1_), (.int (0 : Int32)), (.long (own_max (-9223372036854775808 : Int64) (own_max (-9223372036854775808 : Int64) q3_)))] _
            refine st113 _ ?_
            refine XS.lcmp X113.here hx rfl (hb hby at_266) rfl ?_
            show own_S p e below m T113 267 #[lvJ q0_, .second, lvJ q1_, .second, lvJ q2_, .second, lvJ q3_, .second, lvI p4_, lvI (0 : Int32), lvI (0 : Int32), lvI (0 : Int32), lvI (1 : Int32), lvR w14_, lvR w23_, lvR b31, lvR b40, lvJ (1 : Int64), .second] [(.int (lcmpW (own_max (-9223372036854775808 : Int64) (own_max (-9223372036854775808 : Int64) q3_)) q3_))] _
            refine XS.ifNo X113.here hx rfl (hb hby at_267) rfl ((if0 _ _).trans (teq ((lw_eq _ _).mpr (by simp only [own_minl, own_minr]))).2) ?_
            refine XS.iconst X113.here hx rfl (hb hby at_270) ?_
            refine XS.goto X113.here hx rfl (pc0 := 271) (pc' := 275) rfl (hb hby at_271) (by decide) (by decide) ?_
            exact kt
          obtain ⟨fs, hr, hrun, hended, hW, hsame⟩ := X113.leave (v := some (.int (1 : Int32))) (fun h => by rw [Bd.returns] at h; cases h)
          refine ⟨_, _, hG _ (pre115 _ (retN X113 hx (t := .boolean) Bd.returns (by simp) (hb hby at_275) hr)), hrun, hended, _, _, rfl, ?_, ⟨_, rfl⟩, hW, hsame.mono (by decide) (by decide)⟩
          show QLaw Z q0_ q1_ q2_ q3_ p4_ w_PUT w_DELETE_COLUMN w_DELETE_FAMILY h0 n0 _ T113.heap _
          rw [e113']
          exact ⟨rfl, N114⟩
      · have f117 : Old Z n0 h49 := f50.keep K49 (allS (ge42) all0)
        obtain ⟨T118, X118, e118, st118⟩ := getS2 X49 hx hZ hown (host := "") (Or.inl (own_w hw 17 rfl)) Via.refl e49 (P0.ext f117.2) (g := (mkF m 147 #[lvJ q0_, .second, lvJ q1_, .second, lvJ q2_, .second, lvJ q3_, .second, lvI p4_, lvI (0 : Int32), lvI (0 : Int32), lvI (1 : Int32), lvI z11, lvR w14_, lvR w23_, lvR b31, lvR b40, .unset, .unset] [(.ref b40)])) rfl (hb hby at_147)
        obtain ⟨cq119, kq119, q119a, q119b, q119c⟩ := isOf hZ e118 g49_0
        obtain ⟨_, _, ⟨T119, L119, k119, n119⟩, -, X119, ⟨Lc119, hQ119, l119, y119, z119⟩, st119⟩ := X118.virtualBack hx (y := (⟨"com/example/zenodotus/zenodotus/io/RowCodec$Tally", "count", "(Lcom/example/zenodotus/zenodotus/model/Cell$Kind;J)V"⟩ : MethodName)) (z := (⟨"com/example/zenodotus/zenodotus/io/RowCodec$Tally", "count", "(Lcom/example/zenodotus/zenodotus/model/Cell$Kind;J)V"⟩ : MethodName)) hown (mvT hZ (own_w hw 19 rfl)) (mvT hZ (own_w hw 20 rfl)) (notFace_of_selects (args := #[]) (mvT hZ (own_w hw 22 rfl))) (mvT hZ (own_w hw 22 rfl)) (mvT hZ (own_w hw 21 rfl)) (by decide) (backOf (W := 0) (rmcount13 l Z a0 hw [] b40 w_PUT q2_ h49 n0 f117 g49_0 g49_1 g49_2 g49_3 P1 P2 ge42 P0) hZ (own_w hw 23 rfl) (own_w hw 5 rfl) (by decide) (by decide)) q119a q119c (g := (mkF m 152 #[lvJ q0_, .second, lvJ q1_, .second, lvJ q2_, .second, lvJ q3_, .second, lvI p4_, lvI (0 : Int32), lvI (0 : Int32), lvI (1 : Int32), lvI z11, lvR w14_, lvR w23_, lvR b31, lvR b40, .unset, .unset] [(.long q2_), (.ref w_PUT), (.ref b40)])) rfl (by rw [hml]; rfl) (Steps.refl _) (argsL := [(.ref w_PUT), (.long q2_)]) (rest := []) (lenOf pd_5 rfl) rfl (by show 2 * 0 + _ ≤ _; exact Nat.le_of_eq rfl) (hb hby at_152) (fun _ _ => ⟨rfl, e118, (by decide : 2 + 0 ≤ _), (by decide : 6 + 0 ≤ _)⟩)
        dsimp only [Pt.U, Pt.locs, Pt.cells, Pt.slots] at X119 l119 y119 z119 st119 hQ119
        subst l119 y119 z119
        obtain ⟨h119, e119⟩ : ∃ z, T119.heap = z := ⟨_, rfl⟩
        rw [e119] at hQ119
        obtain ⟨rfl, N119q, K119, g119_0, g119_1, g119_2, g119_3⟩ := hQ119
        have N120 := Fr.app N51 N119q
        have pre121 : ∀ t, own_S p e below m T119 157 #[lvJ q0_, .second, lvJ q1_, .second, lvJ q2_, .second, lvJ q3_, .second, lvI p4_, lvI (0 : Int32), lvI (0 : Int32), lvI (1 : Int32), lvI z11, lvR w14_, lvR w23_, lvR b31, lvR b40, .unset, .unset] [(.int z11)] t → G t := by
          intro t kt
          refine pre56 t ?_
          show own_S p e below m T49 142 #[lvJ q0_, .second, lvJ q1_, .second, lvJ q2_, .second, lvJ q3_, .second, lvI p4_, lvI (0 : Int32), lvI (0 : Int32), lvI (1 : Int32), lvI z11, lvR w14_, lvR w23_, lvR b31, lvR b40, .unset, .unset] [(.int (1 : Int32))] _
          refine XS.ifNo X49.here hx rfl (hb hby at_142) rfl ((if0 _ _).trans (feq (by decide : ¬ ((1 : Int32) = (0 : Int32)))).1) ?_
          refine XS.aload X49.here hx rfl (hb hby at_145) rfl rfl ?_
          show own_S p e below m T49 147 #[lvJ q0_, .second, lvJ q1_, .second, lvJ q2_, .second, lvJ q3_, .second, lvI p4_, lvI (0 : Int32), lvI (0 : Int32), lvI (1 : Int32), lvI z11, lvR w14_, lvR w23_, lvR b31, lvR b40, .unset, .unset] [(.ref b40)] _
          refine st118 _ ?_
          refine XS.lload X118.here hx rfl (hb hby at_150) rfl ?_
          show own_S p e below m T118 152 #[lvJ q0_, .second, lvJ q1_, .second, lvJ q2_, .second, lvJ q3_, .second, lvI p4_, lvI (0 : Int32), lvI (0 : Int32), lvI (1 : Int32), lvI z11, lvR w14_, lvR w23_, lvR b31, lvR b40, .unset, .unset] [(.long q2_), (.ref w_PUT), (.ref b40)] _
          refine st119.trans ?_
          refine XS.iload X119.here hx rfl (hb hby at_155) rfl ?_
          exact kt
        rcases hz11 with ⟨rfl, hj122⟩ | ⟨rfl, hj122⟩
        · have f124 : Exa Z h40 b31 cn0 := g37_0.ext E40
          have f125 : Exa Z h49 b31 cn0 := f124.keep K49
          have f126 : Exa Z h119 b31 cn0 := f125.keep K119
          have f127 : Fld Z h40 b31 cn0 "latestTimestamp" "J" (.long (-9223372036854775808 : Int64)) := g37_1.ext E40
          have ne129 : b31 ≠ b40 := Nat.ne_of_lt (Nat.lt_of_lt_of_le g37_0.lt (Nat.le_of_eq g40.symm))
          have f128 : Fld Z h49 b31 cn0 "latestTimestamp" "J" (.long (-9223372036854775808 : Int64)) := f127.keep K49 (ninS ne129 nin0)
          have f130 : Fld Z h119 b31 cn0 "latestTimestamp" "J" (.long (-9223372036854775808 : Int64)) := f128.keep K119 (ninS ne129 nin0)
          have f131 : Fld Z h40 b31 cn0 "latestDeleteTimestamp" "J" (.long (-9223372036854775808 : Int64)) := g37_2.ext E40
          have f132 : Fld Z h49 b31 cn0 "latestDeleteTimestamp" "J" (.long (-9223372036854775808 : Int64)) := f131.keep K49 (ninS ne129 nin0)
          have f133 : Fld Z h119 b31 cn0 "latestDeleteTimestamp" "J" (.long (-9223372036854775808 : Int64)) := f132.keep K119 (ninS ne129 nin0)
          have f134 : Fld Z h40 b31 cn0 "cells" "J" (.long (0 : Int64)) := g37_3.ext E40
          have f135 : Fld Z h49 b31 cn0 "cells" "J" (.long (0 : Int64)) := f134.keep K49 (ninS ne129 nin0)
          have f136 : Fld Z h119 b31 cn0 "cells" "J" (.long (0 : Int64)) := f135.keep K119 (ninS ne129 nin0)
          have f137 : Old Z n0 h119 := f117.keep K119 (allS (ge42) all0)
          obtain ⟨cq123, kq123, q123a, q123b, q123c⟩ := isOf hZ e119 f126
          obtain ⟨_, _, ⟨T123, L123, k123, n123⟩, -, X123, ⟨Lc123, hQ123, l123, y123, z123⟩, st123⟩ := X119.virtualBack hx (y := (⟨"com/example/zenodotus/zenodotus/io/RowCodec$Tally", "add", "(Lcom/example/zenodotus/zenodotus/io/RowCodec$Tally;)V"⟩ : MethodName)) (z := (⟨"com/example/zenodotus/zenodotus/io/RowCodec$Tally", "add", "(Lcom/example/zenodotus/zenodotus/io/RowCodec$Tally;)V"⟩ : MethodName)) hown (mvT hZ (own_w hw 31 rfl)) (mvT hZ (own_w hw 32 rfl)) (notFace_of_selects (args := #[]) (mvT hZ (own_w hw 34 rfl))) (mvT hZ (own_w hw 34 rfl)) (mvT hZ (own_w hw 33 rfl)) (by decide) (backOf (W := 0) (rmadd14 l Z a0 hw [] b31 b40 (own_max (-9223372036854775808 : Int64) q2_) h119 n0 f137 f126 f130 f133 f136 g119_0 g119_1 g119_2 g119_3 ge32 (Ne.symm ne129)) hZ (own_w hw 35 rfl) (own_w hw 5 rfl) (by decide) (by decide)) q123a q123c (g := (mkF m 173 #[lvJ q0_, .second, lvJ q1_, .second, lvJ q2_, .second, lvJ q3_, .second, lvI p4_, lvI (0 : Int32), lvI (0 : Int32), lvI (1 : Int32), lvI (0 : Int32), lvR w14_, lvR w23_, lvR b31, lvR b40, .unset, .unset] [(.ref b40), (.ref b31)])) rfl (by rw [hml]; rfl) (Steps.refl _) (argsL := [(.ref b40)]) (rest := []) (lenOf pd_2 rfl) rfl (by show 2 * 0 + _ ≤ _; exact Nat.le_of_eq rfl) (hb hby at_173) (fun _ _ => ⟨rfl, e119, (by decide : 2 + 0 ≤ _), (by decide : 6 + 0 ≤ _)⟩)
          dsimp only [Pt.U, Pt.locs, Pt.cells, Pt.slots] at X123 l123 y123 z123 st123 hQ123
          subst l123 y123 z123
          obtain ⟨h123, e123⟩ : ∃ z, T123.heap = z := ⟨_, rfl⟩
          rw [e123] at hQ123
          obtain ⟨rfl, N123q, K123, g123_0, g123_1, g123_2, g123_3⟩ := hQ123
          have N138 := Fr.app N120 N123q
          have f140 : Old Z n0 h123 := f137.keep K123 (allS (ge32) all0)
          obtain ⟨cq139, kq139, q139a, q139b, q139c⟩ := isOf hZ e123 g123_0
          obtain ⟨_, _, ⟨T139, L139, k139, n139⟩, -, X139, ⟨Lc139, hQ139, l139, y139, z139⟩, st139⟩ := X123.virtualBack hx (y := (⟨"com/example/zenodotus/zenodotus/io/RowCodec$Tally", "cells", "()J"⟩ : MethodName)) (z := (⟨"com/example/zenodotus/zenodotus/io/RowCodec$Tally", "cells", "()J"⟩ : MethodName)) hown (mvT hZ (own_w hw 36 rfl)) (mvT hZ (own_w hw 37 rfl)) (notFace_of_selects (args := #[]) (mvT hZ (own_w hw 39 rfl))) (mvT hZ (own_w hw 39 rfl)) (mvT hZ (own_w hw 38 rfl)) (by decide) (backOf (W := 0) (rmcells9 l Z a0 hw [] b31 (own_max (-9223372036854775808 : Int64) (own_max (-9223372036854775808 : Int64) q2_)) (own_max (-9223372036854775808 : Int64) (-9223372036854775808 : Int64)) h123 n0 f140 g123_0 g123_1 g123_2 g123_3) hZ (own_w hw 40 rfl) (own_w hw 5 rfl) (by decide) (by decide)) q139a q139c (g := (mkF m 223 #[lvJ q0_, .second, lvJ q1_, .second, lvJ q2_, .second, lvJ q3_, .second, lvI p4_, lvI (0 : Int32), lvI (0 : Int32), lvI (1 : Int32), lvI (0 : Int32), lvR w14_, lvR w23_, lvR b31, lvR b40, lvJ (1 : Int64), .second] [(.ref b31)])) rfl (by rw [hml]; rfl) (Steps.refl _) (argsL := []) (rest := []) (lenOf pd_3 rfl) rfl (by show 2 * 0 + _ ≤ _; exact Nat.le_of_eq rfl) (hb hby at_223) (fun _ _ => ⟨rfl, e123, (by decide : 2 + 0 ≤ _), (by decide : 6 + 0 ≤ _)⟩)
          dsimp only [Pt.U, Pt.locs, Pt.cells, Pt.slots] at X139 l139 y139 z139 st139 hQ139
          subst l139 y139 z139
          obtain ⟨h139, e139⟩ : ∃ z, T139.heap = z := ⟨_, rfl⟩
          rw [e139] at hQ139
          obtain ⟨rfl, N139q, hh139⟩ := hQ139
          have N141 := Fr.app N138 N139q
          have e139' : T139.heap = h123 := e139.trans hh139
          obtain ⟨cq142, kq142, q142a, q142b, q142c⟩ := isOf hZ e139' g123_0
          obtain ⟨_, _, ⟨T142, L142, k142, n142⟩, -, X142, ⟨Lc142, hQ142, l142, y142, z142⟩, st142⟩ := X139.virtualBack hx (y := (⟨"com/example/zenodotus/zenodotus/io/RowCodec$Tally", "latestTimestamp", "()J"⟩ : MethodName)) (z := (⟨"com/example/zenodotus/zenodotus/io/RowCodec$Tally", "latestTimestamp", "()J"⟩ : MethodName)) hown (mvT hZ (own_w hw 41 rfl)) (mvT hZ (own_w hw 42 rfl)) (notFace_of_selects (args := #[]) (mvT hZ (own_w hw 44 rfl))) (mvT hZ (own_w hw 44 rfl)) (mvT hZ (own_w hw 43 rfl)) (by decide) (backOf (W := 0) (rmlatestTimestamp10 l Z a0 hw [] b31 (own_max (-9223372036854775808 : Int64) (own_max (-9223372036854775808 : Int64) q2_)) (own_max (-9223372036854775808 : Int64) (-9223372036854775808 : Int64)) h123 n0 f140 g123_0 g123_1 g123_2 g123_3) hZ (own_w hw 45 rfl) (own_w hw 5 rfl) (by decide) (by decide)) q142a q142c (g := (mkF m 234 #[lvJ q0_, .second, lvJ q1_, .second, lvJ q2_, .second, lvJ q3_, .second, lvI p4_, lvI (0 : Int32), lvI (0 : Int32), lvI (1 : Int32), lvI (0 : Int32), lvR w14_, lvR w23_, lvR b31, lvR b40, lvJ (1 : Int64), .second] [(.ref b31)])) rfl (by rw [hml]; rfl) (Steps.refl _) (argsL := []) (rest := []) (lenOf pd_3 rfl) rfl (by show 2 * 0 + _ ≤ _; exact Nat.le_of_eq rfl) (hb hby at_234) (fun _ _ => ⟨rfl, e139', (by decide : 2 + 0 ≤ _), (by decide : 6 + 0 ≤ _)⟩)
          dsimp only [Pt.U, Pt.locs, Pt.cells, Pt.slots] at X142 l142 y142 z142 st142 hQ142
          subst l142 y142 z142
          obtain ⟨h142, e142⟩ : ∃ z, T142.heap = z := ⟨_, rfl⟩
          rw [e142] at hQ142
          obtain ⟨rfl, N142q, hh142⟩ := hQ142
          have N143 := Fr.app N141 N142q
          have e142' : T142.heap = h123 := e142.trans hh142
          obtain ⟨_, _, ⟨T144, L144, k144, n144⟩, -, X144, ⟨Lc144, hQ144, l144, y144, z144⟩, st144⟩ := Jvm.LawKit.callS X142 hx (y := (⟨"com/example/zenodotus/zenodotus/io/TallyAddPinLaw", "expect", "(ZJZJ)J"⟩ : MethodName)) hown (mvT hZ (own_w hw 46 rfl)) (mvT hZ (own_w hw 47 rfl)) (mvT hZ (own_w hw 48 rfl)) (mvT hZ (own_w hw 49 rfl)) (by decide) (backOf (W := 2) (rmexpect12 l Z a0 hw [] q0_ q2_ h123 n0 f140 ) hZ (own_w hw 49 rfl) (own_w hw 48 rfl) (by decide) (by decide)) (g := (mkF m 244 #[lvJ q0_, .second, lvJ q1_, .second, lvJ q2_, .second, lvJ q3_, .second, lvI p4_, lvI (0 : Int32), lvI (0 : Int32), lvI (1 : Int32), lvI (0 : Int32), lvR w14_, lvR w23_, lvR b31, lvR b40, lvJ (1 : Int64), .second] [(.long q2_), (.int (1 : Int32)), (.long q0_), (.int (0 : Int32)), (.long (own_max (-9223372036854775808 : Int64) (own_max (-9223372036854775808 : Int64) q2_)))])) rfl (by rw [hml]; rfl) (argsL := [(.int (0 : Int32)), (.long q0_), (.int (1 : Int32)), (.long q2_)]) (rest := [(.long (own_max (-9223372036854775808 : Int64) (own_max (-9223372036854775808 : Int64) q2_)))]) (lenOf pd_4 rfl) rfl (by show 2 * 0 + _ ≤ _; exact Nat.le_of_eq rfl) (hb hby at_244) (fun _ _ => ⟨rfl, e142', (by decide : 2 + 0 ≤ _), (by decide : 6 + 0 ≤ _)⟩)
          dsimp only [Pt.U, Pt.locs, Pt.cells, Pt.slots] at X144 l144 y144 z144 st144 hQ144
          subst l144 y144 z144
          obtain ⟨h144, e144⟩ : ∃ z, T144.heap = z := ⟨_, rfl⟩
          rw [e144] at hQ144
          obtain ⟨rfl, N144q, hh144⟩ := hQ144
          have N145 := Fr.app N143 N144q
          have e144' : T144.heap = h123 := e144.trans hh144
          obtain ⟨cq146, kq146, q146a, q146b, q146c⟩ := isOf hZ e144' g123_0
          obtain ⟨_, _, ⟨T146, L146, k146, n146⟩, -, X146, ⟨Lc146, hQ146, l146, y146, z146⟩, st146⟩ := X144.virtualBack hx (y := (⟨"com/example/zenodotus/zenodotus/io/RowCodec$Tally", "latestDeleteTimestamp", "()J"⟩ : MethodName)) (z := (⟨"com/example/zenodotus/zenodotus/io/RowCodec$Tally", "latestDeleteTimestamp", "()J"⟩ : MethodName)) hown (mvT hZ (own_w hw 50 rfl)) (mvT hZ (own_w hw 51 rfl)) (notFace_of_selects (args := #[]) (mvT hZ (own_w hw 53 rfl))) (mvT hZ (own_w hw 53 rfl)) (mvT hZ (own_w hw 52 rfl)) (by decide) (backOf (W := 0) (rmlatestDeleteTimestamp11 l Z a0 hw [] b31 (own_max (-9223372036854775808 : Int64) (own_max (-9223372036854775808 : Int64) q2_)) (own_max (-9223372036854775808 : Int64) (-9223372036854775808 : Int64)) h123 n0 f140 g123_0 g123_1 g123_2 g123_3) hZ (own_w hw 54 rfl) (own_w hw 5 rfl) (by decide) (by decide)) q146a q146c (g := (mkF m 253 #[lvJ q0_, .second, lvJ q1_, .second, lvJ q2_, .second, lvJ q3_, .second, lvI p4_, lvI (0 : Int32), lvI (0 : Int32), lvI (1 : Int32), lvI (0 : Int32), lvR w14_, lvR w23_, lvR b31, lvR b40, lvJ (1 : Int64), .second] [(.ref b31)])) rfl (by rw [hml]; rfl) (Steps.refl _) (argsL := []) (rest := []) (lenOf pd_3 rfl) rfl (by show 2 * 0 + _ ≤ _; exact Nat.le_of_eq rfl) (hb hby at_253) (fun _ _ => ⟨rfl, e144', (by decide : 2 + 0 ≤ _), (by decide : 6 + 0 ≤ _)⟩)
          dsimp only [Pt.U, Pt.locs, Pt.cells, Pt.slots] at X146 l146 y146 z146 st146 hQ146
          subst l146 y146 z146
          obtain ⟨h146, e146⟩ : ∃ z, T146.heap = z := ⟨_, rfl⟩
          rw [e146] at hQ146
          obtain ⟨rfl, N146q, hh146⟩ := hQ146
          have N147 := Fr.app N145 N146q
          have e146' : T146.heap = h123 := e146.trans hh146
          obtain ⟨_, _, ⟨T148, L148, k148, n148⟩, -, X148, ⟨Lc148, hQ148, l148, y148, z148⟩, st148⟩ := Jvm.LawKit.callS X146 hx (y := (⟨"com/example/zenodotus/zenodotus/io/TallyAddPinLaw", "expect", "(ZJZJ)J"⟩ : MethodName)) hown (mvT hZ (own_w hw 46 rfl)) (mvT hZ (own_w hw 47 rfl)) (mvT hZ (own_w hw 48 rfl)) (mvT hZ (own_w hw 49 rfl)) (by decide) (backOf (W := 2) (rmexpect5 l Z a0 hw [] q1_ q3_ h123 n0 f140 ) hZ (own_w hw 49 rfl) (own_w hw 48 rfl) (by decide) (by decide)) (g := (mkF m 263 #[lvJ q0_, .second, lvJ q1_, .second, lvJ q2_, .second, lvJ q3_, .second, lvI p4_, lvI (0 : Int32), lvI (0 : Int32), lvI (1 : Int32), lvI (0 : Int32), lvR w14_, lvR w23_, lvR b31, lvR b40, lvJ (1 : Int64), .second] [(.long q3_), (.int (0 : Int32)), (.long q1_), (.int (0 : Int32)), (.long (own_max (-9223372036854775808 : Int64) (-9223372036854775808 : Int64)))])) rfl (by rw [hml]; rfl) (argsL := [(.int (0 : Int32)), (.long q1_), (.int (0 : Int32)), (.long q3_)]) (rest := [(.long (own_max (-9223372036854775808 : Int64) (-9223372036854775808 : Int64)))]) (lenOf pd_4 rfl) rfl (by show 2 * 0 + _ ≤ _; exact Nat.le_of_eq rfl) (hb hby at_263) (fun _ _ => ⟨rfl, e146', (by decide : 2 + 0 ≤ _), (by decide : 6 + 0 ≤ _)⟩)
          dsimp only [Pt.U, Pt.locs, Pt.cells, Pt.slots] at X148 l148 y148 z148 st148 hQ148
          subst l148 y148 z148
          obtain ⟨h148, e148⟩ : ∃ z, T148.heap = z := ⟨_, rfl⟩
          rw [e148] at hQ148
          obtain ⟨rfl, N148q, hh148⟩ := hQ148
          have N149 := Fr.app N147 N148q
          have e148' : T148.heap = h123 := e148.trans hh148
          have pre150 : ∀ t, own_S p e below m T148 275 #[lvJ q0_, .second, lvJ q1_, .second, lvJ q2_, .second, lvJ q3_, .second, lvI p4_, lvI (0 : Int32), lvI (0 : Int32), lvI (1 : Int32), lvI (0 : Int32), lvR w14_, lvR w23_, lvR b31, lvR b40, lvJ (1 : Int64), .second] [(.int (1 : Int32))] t → G t := by
            intro t kt
            refine pre121 t ?_
            show own_S p e below m T119 157 #[lvJ q0_, .second, lvJ q1_, .second, lvJ q2_, .second, lvJ q3_, .second, lvI p4_, lvI (0 : Int32), lvI (0 : Int32), lvI (1 : Int32), lvI (0 : Int32), lvR w14_, lvR w23_, lvR b31, lvR b40, .unset, .unset] [(.int (0 : Int32))] _
            refine XS.ifYes X119.here hx rfl (pc0 := 157) (pc' := 169) rfl (hb hby at_157) rfl ((if0 _ _).trans (teq (by decide : (0 : Int32) = (0 : Int32))).1) (by decide) (by decide) ?_
            refine XS.aload X119.here hx rfl (hb hby at_169) rfl rfl ?_
            refine XS.aload X119.here hx rfl (hb hby at_171) rfl rfl ?_
            show own_S p e below m T119 173 #[lvJ q0_, .second, lvJ q1_, .second, lvJ q2_, .second, lvJ q3_, .second, lvI p4_, lvI (0 : Int32), lvI (0 : Int32), lvI (1 : Int32), lvI (0 : Int32), lvR w14_, lvR w23_, lvR b31, lvR b40, .unset, .unset] [(.ref b40), (.ref b31)] _
            refine st123.trans ?_
            refine XS.iload X123.here hx rfl (hb hby at_176) rfl ?_
            show own_S p e below m T123 178 #[lvJ q0_, .second, lvJ q1_, .second, lvJ q2_, .second, lvJ q3_, .second, lvI p4_, lvI (0 : Int32), lvI (0 : Int32), lvI (1 : Int32), lvI (0 : Int32), lvR w14_, lvR w23_, lvR b31, lvR b40, .unset, .unset] [(.int (0 : Int32))] _
            refine XS.ifYes X123.here hx rfl (pc0 := 178) (pc' := 185) rfl (hb hby at_178) rfl ((if0 _ _).trans (teq (by decide : (0 : Int32) = (0 : Int32))).1) (by decide) (by decide) ?_
            refine XS.lconst X123.here hx rfl (hb hby at_185) ?_
            refine XS.iload X123.here hx rfl (hb hby at_186) rfl ?_
            show own_S p e below m T123 188 #[lvJ q0_, .second, lvJ q1_, .second, lvJ q2_, .second, lvJ q3_, .second, lvI p4_, lvI (0 : Int32), lvI (0 : Int32), lvI (1 : Int32), lvI (0 : Int32), lvR w14_, lvR w23_, lvR b31, lvR b40, .unset, .unset] [(.int (0 : Int32)), (.long (0 : Int64))] _
            refine XS.ifYes X123.here hx rfl (pc0 := 188) (pc' := 195) rfl (hb hby at_188) rfl ((if0 _ _).trans (teq (by decide : (0 : Int32) = (0 : Int32))).1) (by decide) (by decide) ?_
            refine XS.lconst X123.here hx rfl (hb hby at_195) ?_
            refine XS.ladd X123.here hx rfl (hb hby at_196) rfl ?_
            refine XS.iload X123.here hx rfl (hb hby at_197) rfl ?_
            show own_S p e below m T123 199 #[lvJ q0_, .second, lvJ q1_, .second, lvJ q2_, .second, lvJ q3_, .second, lvI p4_, lvI (0 : Int32), lvI (0 : Int32), lvI (1 : Int32), lvI (0 : Int32), lvR w14_, lvR w23_, lvR b31, lvR b40, .unset, .unset] [(.int (1 : Int32)), (.long (0 : Int64))] _
            refine XS.ifNo X123.here hx rfl (hb hby at_199) rfl ((if0 _ _).trans (feq (by decide : ¬ ((1 : Int32) = (0 : Int32)))).1) ?_
            refine XS.lconst X123.here hx rfl (hb hby at_202) ?_
            refine XS.goto X123.here hx rfl (pc0 := 203) (pc' := 207) rfl (hb hby at_203) (by decide) (by decide) ?_
            refine XS.ladd X123.here hx rfl (hb hby at_207) rfl ?_
            show own_S p e below m T123 208 #[lvJ q0_, .second, lvJ q1_, .second, lvJ q2_, .second, lvJ q3_, .second, lvI p4_, lvI (0 : Int32), lvI (0 : Int32), lvI (1 : Int32), lvI (0 : Int32), lvR w14_, lvR w23_, lvR b31, lvR b40, .unset, .unset] [(.long (1 : Int64))] _
            refine XS.iload X123.here hx rfl (hb hby at_208) rfl ?_
            show own_S p e below m T123 210 #[lvJ q0_, .second, lvJ q1_, .second, lvJ q2_, .second, lvJ q3_, .second, lvI p4_, lvI (0 : Int32), lvI (0 : Int32), lvI (1 : Int32), lvI (0 : Int32), lvR w14_, lvR w23_, lvR b31, lvR b40, .unset, .unset] [(.int (0 : Int32)), (.long (1 : Int64))] _
            refine XS.ifYes X123.here hx rfl (pc0 := 210) (pc' := 217) rfl (hb hby at_210) rfl ((if0 _ _).trans (teq (by decide : (0 : Int32) = (0 : Int32))).1) (by decide) (by decide) ?_
            refine XS.lconst X123.here hx rfl (hb hby at_217) ?_
            refine XS.ladd X123.here hx rfl (hb hby at_218) rfl ?_
            refine XS.lstore X123.here hx rfl (hb hby at_219) rfl (l' := #[lvJ q0_, .second, lvJ q1_, .second, lvJ q2_, .second, lvJ q3_, .second, lvI p4_, lvI (0 : Int32), lvI (0 : Int32), lvI (1 : Int32), lvI (0 : Int32), lvR w14_, lvR w23_, lvR b31, lvR b40, lvJ (1 : Int64), .second]) rfl ?_
            show own_S p e below m T123 221 #[lvJ q0_, .second, lvJ q1_, .second, lvJ q2_, .second, lvJ q3_, .second, lvI p4_, lvI (0 : Int32), lvI (0 : Int32), lvI (1 : Int32), lvI (0 : Int32), lvR w14_, lvR w23_, lvR b31, lvR b40, lvJ (1 : Int64), .second] [] _
            refine XS.aload X123.here hx rfl (hb hby at_221) rfl rfl ?_
            show own_S p e below m T123 223 #[lvJ q0_, .second, lvJ q1_, .second, lvJ q2_, .second, lvJ q3_, .second, lvI p4_, lvI (0 : Int32), lvI (0 : Int32), lvI (1 : Int32), lvI (0 : Int32), lvR w14_, lvR w23_, lvR b31, lvR b40, lvJ (1 : Int64), .second] [(.ref b31)] _
            refine st139.trans ?_
            refine XS.lload X139.here hx rfl (hb hby at_226) rfl ?_
            refine XS.lcmp X139.here hx rfl (hb hby at_228) rfl ?_
            show own_S p e below m T139 229 #[lvJ q0_, .second, lvJ q1_, .second, lvJ q2_, .second, lvJ q3_, .second, lvI p4_, lvI (0 : Int32), lvI (0 : Int32), lvI (1 : Int32), lvI (0 : Int32), lvR w14_, lvR w23_, lvR b31, lvR b40, lvJ (1 : Int64), .second] [(.int (lcmpW (1 : Int64) (1 : Int64)))] _
            refine XS.ifNo X139.here hx rfl (hb hby at_229) rfl ((if0 _ _).trans (teq ((lw_eq _ _).mpr (by decide : (1 : Int64) = (1 : Int64)))).2) ?_
            refine XS.aload X139.here hx rfl (hb hby at_232) rfl rfl ?_
            show own_S p e below m T139 234 #[lvJ q0_, .second, lvJ q1_, .second, lvJ q2_, .second, lvJ q3_, .second, lvI p4_, lvI (0 : Int32), lvI (0 : Int32), lvI (1 : Int32), lvI (0 : Int32), lvR w14_, lvR w23_, lvR b31, lvR b40, lvJ (1 : Int64), .second] [(.ref b31)] _
            refine st142.trans ?_
            refine XS.iload X142.here hx rfl (hb hby at_237) rfl ?_
            refine XS.lloadN X142.here hx rfl (hb hby at_239) rfl ?_
            refine XS.iload X142.here hx rfl (hb hby at_240) rfl ?_
            show own_S p e below m T142 242 #[lvJ q0_, .second, lvJ q1_, .second, lvJ q2_, .second, lvJ q3_, .second, lvI p4_, lvI (0 : Int32), lvI (0 : Int32), lvI (1 : Int32), lvI (0 : Int32), lvR w14_, lvR w23_, lvR b31, lvR b40, lvJ (1 : Int64), .second] [(.int (1 : Int32)), (.long q0_), (.int (0 : Int32)), (.long (own_max (-9223372036854775808 : Int64) (own_max (-9223372036854775808 : Int64) q2_)))] _
            refine XS.lload X142.here hx rfl (hb hby at_242) rfl ?_
            show own_S p e below m T142 244 #[lvJ q0_, .second, lvJ q1_, .second, lvJ q2_, .second, lvJ q3_, .second, lvI p4_, lvI (0 : Int32), lvI (0 : Int32), lvI (1 : Int32), lvI (0 : Int32), lvR w14_, lvR w23_, lvR b31, lvR b40, lvJ (1 : Int64), .second] [(.long q2_), (.int (1 : Int32)), (.long q0_), (.int (0 : Int32)), (.long (own_max (-9223372036854775808 : Int64) (own_max (-9223372036854775808 : Int64) q2_)))] _
            refine st144 _ ?_
            refine XS.lcmp X144.here hx rfl (hb hby at_247) rfl ?_
            show own_S p e below m T144 248 #[lvJ q0_, .second, lvJ q1_, .second, lvJ q2_, .second, lvJ q3_, .second, lvI p4_, lvI (0 : Int32), lvI (0 : Int32), lvI (1 : Int32), lvI (0 : Int32), lvR w14_, lvR w23_, lvR b31, lvR b40, lvJ (1 : Int64), .second] [(.int (lcmpW (own_max (-9223372036854775808 : Int64) (own_max (-9223372036854775808 : Int64) q2_)) q2_))] _
            refine XS.ifNo X144.here hx rfl (hb hby at_248) rfl ((if0 _ _).trans (teq ((lw_eq _ _).mpr (by simp only [own_minl, own_minr]))).2) ?_
            refine XS.aload X144.here hx rfl (hb hby at_251) rfl rfl ?_
            show own_S p e below m T144 253 #[lvJ q0_, .second, lvJ q1_, .second, lvJ q2_, .second, lvJ q3_, .second, lvI p4_, lvI (0 : Int32), lvI (0 : Int32), lvI (1 : Int32), lvI (0 : Int32), lvR w14_, lvR w23_, lvR b31, lvR b40, lvJ (1 : Int64), .second] [(.ref b31)] _
            refine st146.trans ?_
            refine XS.iload X146.here hx rfl (hb hby at_256) rfl ?_
            refine XS.lloadN X146.here hx rfl (hb hby at_258) rfl ?_
            refine XS.iload X146.here hx rfl (hb hby at_259) rfl ?_
            show own_S p e below m T146 261 #[lvJ q0_, .second, lvJ q1_, .second, lvJ q2_, .second, lvJ q3_, .second, lvI p4_, lvI (0 : Int32), lvI (0 : Int32), lvI (1 : Int32), lvI (0 : Int32), lvR w14_, lvR w23_, lvR b31, lvR b40, lvJ (1 : Int64), .second] [(.int (0 : Int32)), (.long q1_), (.int (0 : Int32)), (.long (own_max (-9223372036854775808 : Int64) (-9223372036854775808 : Int64)))] _
            refine XS.lload X146.here hx rfl (hb hby at_261) rfl ?_
            show own_S p e below m T146 263 #[lvJ q0_, .second, lvJ q1_, .second, lvJ q2_, .second, lvJ q3_, .second, lvI p4_, lvI (0 : Int32), lvI (0 : Int32), lvI (1 : Int32), lvI (0 : Int32), lvR w14_, lvR w23_, lvR b31, lvR b40, lvJ (1 : Int64), .second] [(.long q3_), (.int (0 : Int32)), (.long q1_), (.int (0 : Int32)), (.long (own_max (-9223372036854775808 : Int64) (-9223372036854775808 : Int64)))] _
            refine st148 _ ?_
            refine XS.lcmp X148.here hx rfl (hb hby at_266) rfl ?_
            show own_S p e below m T148 267 #[lvJ q0_, .second, lvJ q1_, .second, lvJ q2_, .second, lvJ q3_, .second, lvI p4_, lvI (0 : Int32), lvI (0 : Int32), lvI (1 : Int32), lvI (0 : Int32), lvR w14_, lvR w23_, lvR b31, lvR b40, lvJ (1 : Int64), .second] [(.int (lcmpW (own_max (-9223372036854775808 : Int64) (-9223372036854775808 : Int64)) (-9223372036854775808 : Int64)))] _
            refine XS.ifNo X148.here hx rfl (hb hby at_267) rfl ((if0 _ _).trans (teq ((lw_eq _ _).mpr (by simp only [own_minl, own_minr]))).2) ?_
            refine XS.iconst X148.here hx rfl (hb hby at_270) ?_
            refine XS.goto X148.here hx rfl (pc0 := 271) (pc' := 275) rfl (hb hby at_271) (by decide) (by decide) ?_
            exact kt
          obtain ⟨fs, hr, hrun, hended, hW, hsame⟩ := X148.leave (v := some (.int (1 : Int32))) (fun h => by rw [Bd.returns] at h; cases h)
          refine ⟨_, _, hG _ (pre150 _ (retN X148 hx (t := .boolean) Bd.returns (by simp) (hb hby at_275) hr)), hrun, hended, _, _, rfl, ?_, ⟨_, rfl⟩, hW, hsame.mono (by decide) (by decide)⟩
          show QLaw Z q0_ q1_ q2_ q3_ p4_ w_PUT w_DELETE_COLUMN w_DELETE_FAMILY h0 n0 _ T148.heap _
          rw [e148']
          exact ⟨rfl, N149⟩
        · have f153 : Old Z n0 h119 := f117.keep K119 (allS (ge42) all0)
          obtain ⟨cq152, kq152, q152a, q152b, q152c⟩ := isOf hZ e119 g119_0
          obtain ⟨_, _, ⟨T152, L152, k152, n152⟩, -, X152, ⟨Lc152, hQ152, l152, y152, z152⟩, st152⟩ := X119.virtualBack hx (y := (⟨"com/example/zenodotus/zenodotus/io/RowCodec$Tally", "count", "(Lcom/example/zenodotus/zenodotus/model/Cell$Kind;J)V"⟩ : MethodName)) (z := (⟨"com/example/zenodotus/zenodotus/io/RowCodec$Tally", "count", "(Lcom/example/zenodotus/zenodotus/model/Cell$Kind;J)V"⟩ : MethodName)) hown (mvT hZ (own_w hw 19 rfl)) (mvT hZ (own_w hw 20 rfl)) (notFace_of_selects (args := #[]) (mvT hZ (own_w hw 22 rfl))) (mvT hZ (own_w hw 22 rfl)) (mvT hZ (own_w hw 21 rfl)) (by decide) (backOf (W := 0) (rmcount15 l Z a0 hw [] b40 w23_ q3_ (own_max (-9223372036854775808 : Int64) q2_) w_PUT h119 n0 f153 g119_0 g119_1 g119_2 g119_3 E23 ge42 P1 P2 P0 n23_0) hZ (own_w hw 23 rfl) (own_w hw 5 rfl) (by decide) (by decide)) q152a q152c (g := (mkF m 166 #[lvJ q0_, .second, lvJ q1_, .second, lvJ q2_, .second, lvJ q3_, .second, lvI p4_, lvI (0 : Int32), lvI (0 : Int32), lvI (1 : Int32), lvI (1 : Int32), lvR w14_, lvR w23_, lvR b31, lvR b40, .unset, .unset] [(.long q3_), (.ref w23_), (.ref b40)])) rfl (by rw [hml]; rfl) (Steps.refl _) (argsL := [(.ref w23_), (.long q3_)]) (rest := []) (lenOf pd_5 rfl) rfl (by show 2 * 0 + _ ≤ _; exact Nat.le_of_eq rfl) (hb hby at_166) (fun _ _ => ⟨rfl, e119, (by decide : 2 + 0 ≤ _), (by decide : 6 + 0 ≤ _)⟩)
          dsimp only [Pt.U, Pt.locs, Pt.cells, Pt.slots] at X152 l152 y152 z152 st152 hQ152
          subst l152 y152 z152
          obtain ⟨h152, e152⟩ : ∃ z, T152.heap = z := ⟨_, rfl⟩
          rw [e152] at hQ152
          obtain ⟨rfl, N152q, K152, g152_0, g152_1, g152_2, g152_3⟩ := hQ152
          have N154 := Fr.app N120 N152q
          have f156 : Exa Z h40 b31 cn0 := g37_0.ext E40
          have f157 : Exa Z h49 b31 cn0 := f156.keep K49
          have f158 : Exa Z h119 b31 cn0 := f157.keep K119
          have f159 : Exa Z h152 b31 cn0 := f158.keep K152
          have f160 : Fld Z h40 b31 cn0 "latestTimestamp" "J" (.long (-9223372036854775808 : Int64)) := g37_1.ext E40
          have ne162 : b31 ≠ b40 := Nat.ne_of_lt (Nat.lt_of_lt_of_le g37_0.lt (Nat.le_of_eq g40.symm))
          have f161 : Fld Z h49 b31 cn0 "latestTimestamp" "J" (.long (-9223372036854775808 : Int64)) := f160.keep K49 (ninS ne162 nin0)
          have f163 : Fld Z h119 b31 cn0 "latestTimestamp" "J" (.long (-9223372036854775808 : Int64)) := f161.keep K119 (ninS ne162 nin0)
          have f164 : Fld Z h152 b31 cn0 "latestTimestamp" "J" (.long (-9223372036854775808 : Int64)) := f163.keep K152 (ninS ne162 nin0)
          have f165 : Fld Z h40 b31 cn0 "latestDeleteTimestamp" "J" (.long (-9223372036854775808 : Int64)) := g37_2.ext E40
          have f166 : Fld Z h49 b31 cn0 "latestDeleteTimestamp" "J" (.long (-9223372036854775808 : Int64)) := f165.keep K49 (ninS ne162 nin0)
          have f167 : Fld Z h119 b31 cn0 "latestDeleteTimestamp" "J" (.long (-9223372036854775808 : Int64)) := f166.keep K119 (ninS ne162 nin0)
          have f168 : Fld Z h152 b31 cn0 "latestDeleteTimestamp" "J" (.long (-9223372036854775808 : Int64)) := f167.keep K152 (ninS ne162 nin0)
          have f169 : Fld Z h40 b31 cn0 "cells" "J" (.long (0 : Int64)) := g37_3.ext E40
          have f170 : Fld Z h49 b31 cn0 "cells" "J" (.long (0 : Int64)) := f169.keep K49 (ninS ne162 nin0)
          have f171 : Fld Z h119 b31 cn0 "cells" "J" (.long (0 : Int64)) := f170.keep K119 (ninS ne162 nin0)
          have f172 : Fld Z h152 b31 cn0 "cells" "J" (.long (0 : Int64)) := f171.keep K152 (ninS ne162 nin0)
          have f173 : Old Z n0 h152 := f153.keep K152 (allS (ge42) all0)
          obtain ⟨cq155, kq155, q155a, q155b, q155c⟩ := isOf hZ e152 f159
          obtain ⟨_, _, ⟨T155, L155, k155, n155⟩, -, X155, ⟨Lc155, hQ155, l155, y155, z155⟩, st155⟩ := X152.virtualBack hx (y := (⟨"com/example/zenodotus/zenodotus/io/RowCodec$Tally", "add", "(Lcom/example/zenodotus/zenodotus/io/RowCodec$Tally;)V"⟩ : MethodName)) (z := (⟨"com/example/zenodotus/zenodotus/io/RowCodec$Tally", "add", "(Lcom/example/zenodotus/zenodotus/io/RowCodec$Tally;)V"⟩ : MethodName)) hown (mvT hZ (own_w hw 31 rfl)) (mvT hZ (own_w hw 32 rfl)) (notFace_of_selects (args := #[]) (mvT hZ (own_w hw 34 rfl))) (mvT hZ (own_w hw 34 rfl)) (mvT hZ (own_w hw 33 rfl)) (by decide) (backOf (W := 0) (rmadd16 l Z a0 hw [] b31 b40 (own_max (-9223372036854775808 : Int64) q2_) (own_max (-9223372036854775808 : Int64) q3_) h152 n0 f173 f159 f164 f168 f172 g152_0 g152_1 g152_2 g152_3 ge32 (Ne.symm ne162)) hZ (own_w hw 35 rfl) (own_w hw 5 rfl) (by decide) (by decide)) q155a q155c (g := (mkF m 173 #[lvJ q0_, .second, lvJ q1_, .second, lvJ q2_, .second, lvJ q3_, .second, lvI p4_, lvI (0 : Int32), lvI (0 : Int32), lvI (1 : Int32), lvI (1 : Int32), lvR w14_, lvR w23_, lvR b31, lvR b40, .unset, .unset] [(.ref b40), (.ref b31)])) rfl (by rw [hml]; rfl) (Steps.refl _) (argsL := [(.ref b40)]) (rest := []) (lenOf pd_2 rfl) rfl (by show 2 * 0 + _ ≤ _; exact Nat.le_of_eq rfl) (hb hby at_173) (fun _ _ => ⟨rfl, e152, (by decide : 2 + 0 ≤ _), (by decide : 6 + 0 ≤ _)⟩)
          dsimp only [Pt.U, Pt.locs, Pt.cells, Pt.slots] at X155 l155 y155 z155 st155 hQ155
          subst l155 y155 z155
          obtain ⟨h155, e155⟩ : ∃ z, T155.heap = z := ⟨_, rfl⟩
          rw [e155] at hQ155
          obtain ⟨rfl, N155q, K155, g155_0, g155_1, g155_2, g155_3⟩ := hQ155
          have N174 := Fr.app N154 N155q
          have f176 : Old Z n0 h155 := f173.keep K155 (allS (ge32) all0)
          obtain ⟨cq175, kq175, q175a, q175b, q175c⟩ := isOf hZ e155 g155_0
          obtain ⟨_, _, ⟨T175, L175, k175, n175⟩, -, X175, ⟨Lc175, hQ175, l175, y175, z175⟩, st175⟩ := X155.virtualBack hx (y := (⟨"com/example/zenodotus/zenodotus/io/RowCodec$Tally", "cells", "()J"⟩ : MethodName)) (z := (⟨"com/example/zenodotus/zenodotus/io/RowCodec$Tally", "cells", "()J"⟩ : MethodName)) hown (mvT hZ (own_w hw 36 rfl)) (mvT hZ (own_w hw 37 rfl)) (notFace_of_selects (args := #[]) (mvT hZ (own_w hw 39 rfl))) (mvT hZ (own_w hw 39 rfl)) (mvT hZ (own_w hw 38 rfl)) (by decide) (backOf (W := 0) (rmcells17 l Z a0 hw [] b31 (own_max (-9223372036854775808 : Int64) (own_max (-9223372036854775808 : Int64) q2_)) (own_max (-9223372036854775808 : Int64) (own_max (-9223372036854775808 : Int64) q3_)) h155 n0 f176 g155_0 g155_1 g155_2 g155_3) hZ (own_w hw 40 rfl) (own_w hw 5 rfl) (by decide) (by decide)) q175a q175c (g := (mkF m 223 #[lvJ q0_, .second, lvJ q1_, .second, lvJ q2_, .second, lvJ q3_, .second, lvI p4_, lvI (0 : Int32), lvI (0 : Int32), lvI (1 : Int32), lvI (1 : Int32), lvR w14_, lvR w23_, lvR b31, lvR b40, lvJ (2 : Int64), .second] [(.ref b31)])) rfl (by rw [hml]; rfl) (Steps.refl _) (argsL := []) (rest := []) (lenOf pd_3 rfl) rfl (by show 2 * 0 + _ ≤ _; exact Nat.le_of_eq rfl) (hb hby at_223) (fun _ _ => ⟨rfl, e155, (by decide : 2 + 0 ≤ _), (by decide : 6 + 0 ≤ _)⟩)
          dsimp only [Pt.U, Pt.locs, Pt.cells, Pt.slots] at X175 l175 y175 z175 st175 hQ175
          subst l175 y175 z175
          obtain ⟨h175, e175⟩ : ∃ z, T175.heap = z := ⟨_, rfl⟩
          rw [e175] at hQ175
          obtain ⟨rfl, N175q, hh175⟩ := hQ175
          have N177 := Fr.app N174 N175q
          have e175' : T175.heap = h155 := e175.trans hh175
          obtain ⟨cq178, kq178, q178a, q178b, q178c⟩ := isOf hZ e175' g155_0
          obtain ⟨_, _, ⟨T178, L178, k178, n178⟩, -, X178, ⟨Lc178, hQ178, l178, y178, z178⟩, st178⟩ := X175.virtualBack hx (y := (⟨"com/example/zenodotus/zenodotus/io/RowCodec$Tally", "latestTimestamp", "()J"⟩ : MethodName)) (z := (⟨"com/example/zenodotus/zenodotus/io/RowCodec$Tally", "latestTimestamp", "()J"⟩ : MethodName)) hown (mvT hZ (own_w hw 41 rfl)) (mvT hZ (own_w hw 42 rfl)) (notFace_of_selects (args := #[]) (mvT hZ (own_w hw 44 rfl))) (mvT hZ (own_w hw 44 rfl)) (mvT hZ (own_w hw 43 rfl)) (by decide) (backOf (W := 0) (rmlatestTimestamp18 l Z a0 hw [] b31 (own_max (-9223372036854775808 : Int64) (own_max (-9223372036854775808 : Int64) q2_)) (own_max (-9223372036854775808 : Int64) (own_max (-9223372036854775808 : Int64) q3_)) h155 n0 f176 g155_0 g155_1 g155_2 g155_3) hZ (own_w hw 45 rfl) (own_w hw 5 rfl) (by decide) (by decide)) q178a q178c (g := (mkF m 234 #[lvJ q0_, .second, lvJ q1_, .second, lvJ q2_, .second, lvJ q3_, .second, lvI p4_, lvI (0 : Int32), lvI (0 : Int32), lvI (1 : Int32), lvI (1 : Int32), lvR w14_, lvR w23_, lvR b31, lvR b40, lvJ (2 : Int64), .second] [(.ref b31)])) rfl (by rw [hml]; rfl) (Steps.refl _) (argsL := []) (rest := []) (lenOf pd_3 rfl) rfl (by show 2 * 0 + _ ≤ _; exact Nat.le_of_eq rfl) (hb hby at_234) (fun _ _ => ⟨rfl, e175', (by decide : 2 + 0 ≤ _), (by decide : 6 + 0 ≤ _)⟩)
          dsimp only [Pt.U, Pt.locs, Pt.cells, Pt.slots] at X178 l178 y178 z178 st178 hQ178
          subst l178 y178 z178
          obtain ⟨h178, e178⟩ : ∃ z, T178.heap = z := ⟨_, rfl⟩
          rw [e178] at hQ178
          obtain ⟨rfl, N178q, hh178⟩ := hQ178
          have N179 := Fr.app N177 N178q
          have e178' : T178.heap = h155 := e178.trans hh178
          obtain ⟨_, _, ⟨T180, L180, k180, n180⟩, -, X180, ⟨Lc180, hQ180, l180, y180, z180⟩, st180⟩ := Jvm.LawKit.callS X178 hx (y := (⟨"com/example/zenodotus/zenodotus/io/TallyAddPinLaw", "expect", "(ZJZJ)J"⟩ : MethodName)) hown (mvT hZ (own_w hw 46 rfl)) (mvT hZ (own_w hw 47 rfl)) (mvT hZ (own_w hw 48 rfl)) (mvT hZ (own_w hw 49 rfl)) (by decide) (backOf (W := 2) (rmexpect12 l Z a0 hw [] q0_ q2_ h155 n0 f176 ) hZ (own_w hw 49 rfl) (own_w hw 48 rfl) (by decide) (by decide)) (g := (mkF m 244 #[lvJ q0_, .second, lvJ q1_, .second, lvJ q2_, .second, lvJ q3_, .second, lvI p4_, lvI (0 : Int32), lvI (0 : Int32), lvI (1 : Int32), lvI (1 : Int32), lvR w14_, lvR w23_, lvR b31, lvR b40, lvJ (2 : Int64), .second] [(.long q2_), (.int (1 : Int32)), (.long q0_), (.int (0 : Int32)), (.long (own_max (-9223372036854775808 : Int64) (own_max (-9223372036854775808 : Int64) q2_)))])) rfl (by rw [hml]; rfl) (argsL := [(.int (0 : Int32)), (.long q0_), (.int (1 : Int32)), (.long q2_)]) (rest := [(.long (own_max (-9223372036854775808 : Int64) (own_max (-9223372036854775808 : Int64) q2_)))]) (lenOf pd_4 rfl) rfl (by show 2 * 0 + _ ≤ _; exact Nat.le_of_eq rfl) (hb hby at_244) (fun _ _ => ⟨rfl, e178', (by decide : 2 + 0 ≤ _), (by decide : 6 + 0 ≤ _)⟩)
          dsimp only [Pt.U, Pt.locs, Pt.cells, Pt.slots] at X180 l180 y180 z180 st180 hQ180
          subst l180 y180 z180
          obtain ⟨h180, e180⟩ : ∃ z, T180.heap = z := ⟨_, rfl⟩
          rw [e180] at hQ180
          obtain ⟨rfl, N180q, hh180⟩ := hQ180
          have N181 := Fr.app N179 N180q
          have e180' : T180.heap = h155 := e180.trans hh180
          obtain ⟨cq182, kq182, q182a, q182b, q182c⟩ := isOf hZ e180' g155_0
          obtain ⟨_, _, ⟨T182, L182, k182, n182⟩, -, X182, ⟨Lc182, hQ182, l182, y182, z182⟩, st182⟩ := X180.virtualBack hx (y := (⟨"com/example/zenodotus/zenodotus/io/RowCodec$Tally", "latestDeleteTimestamp", "()J"⟩ : MethodName)) (z := (⟨"com/example/zenodotus/zenodotus/io/RowCodec$Tally", "latestDeleteTimestamp", "()J"⟩ : MethodName)) hown (mvT hZ (own_w hw 50 rfl)) (mvT hZ (own_w hw 51 rfl)) (notFace_of_selects (args := #[]) (mvT hZ (own_w hw 53 rfl))) (mvT hZ (own_w hw 53 rfl)) (mvT hZ (own_w hw 52 rfl)) (by decide) (backOf (W := 0) (rmlatestDeleteTimestamp19 l Z a0 hw [] b31 (own_max (-9223372036854775808 : Int64) (own_max (-9223372036854775808 : Int64) q2_)) (own_max (-9223372036854775808 : Int64) (own_max (-9223372036854775808 : Int64) q3_)) h155 n0 f176 g155_0 g155_1 g155_2 g155_3) hZ (own_w hw 54 rfl) (own_w hw 5 rfl) (by decide) (by decide)) q182a q182c (g := (mkF m 253 #[lvJ q0_, .second, lvJ q1_, .second, lvJ q2_, .second, lvJ q3_, .second, lvI p4_, lvI (0 : Int32), lvI (0 : Int32), lvI (1 : Int32), lvI (1 : Int32), lvR w14_, lvR w23_, lvR b31, lvR b40, lvJ (2 : Int64), .second] [(.ref b31)])) rfl (by rw [hml]; rfl) (Steps.refl _) (argsL := []) (rest := []) (lenOf pd_3 rfl) rfl (by show 2 * 0 + _ ≤ _; exact Nat.le_of_eq rfl) (hb hby at_253) (fun _ _ => ⟨rfl, e180', (by decide : 2 + 0 ≤ _), (by decide : 6 + 0 ≤ _)⟩)
          dsimp only [Pt.U, Pt.locs, Pt.cells, Pt.slots] at X182 l182 y182 z182 st182 hQ182
          subst l182 y182 z182
          obtain ⟨h182, e182⟩ : ∃ z, T182.heap = z := ⟨_, rfl⟩
          rw [e182] at hQ182
          obtain ⟨rfl, N182q, hh182⟩ := hQ182
          have N183 := Fr.app N181 N182q
          have e182' : T182.heap = h155 := e182.trans hh182
          obtain ⟨_, _, ⟨T184, L184, k184, n184⟩, -, X184, ⟨Lc184, hQ184, l184, y184, z184⟩, st184⟩ := Jvm.LawKit.callS X182 hx (y := (⟨"com/example/zenodotus/zenodotus/io/TallyAddPinLaw", "expect", "(ZJZJ)J"⟩ : MethodName)) hown (mvT hZ (own_w hw 46 rfl)) (mvT hZ (own_w hw 47 rfl)) (mvT hZ (own_w hw 48 rfl)) (mvT hZ (own_w hw 49 rfl)) (by decide) (backOf (W := 2) (rmexpect12 l Z a0 hw [] q1_ q3_ h155 n0 f176 ) hZ (own_w hw 49 rfl) (own_w hw 48 rfl) (by decide) (by decide)) (g := (mkF m 263 #[lvJ q0_, .second, lvJ q1_, .second, lvJ q2_, .second, lvJ q3_, .second, lvI p4_, lvI (0 : Int32), lvI (0 : Int32), lvI (1 : Int32), lvI (1 : Int32), lvR w14_, lvR w23_, lvR b31, lvR b40, lvJ (2 : Int64), .second] [(.long q3_), (.int (1 : Int32)), (.long q1_), (.int (0 : Int32)), (.long (own_max (-9223372036854775808 : Int64) (own_max (-9223372036854775808 : Int64) q3_)))])) rfl (by rw [hml]; rfl) (argsL := [(.int (0 : Int32)), (.long q1_), (.int (1 : Int32)), (.long q3_)]) (rest := [(.long (own_max (-9223372036854775808 : Int64) (own_max (-9223372036854775808 : Int64) q3_)))]) (lenOf pd_4 rfl) rfl (by show 2 * 0 + _ ≤ _; exact Nat.le_of_eq rfl) (hb hby at_263) (fun _ _ => ⟨rfl, e182', (by decide : 2 + 0 ≤ _), (by decide : 6 + 0 ≤ _)⟩)
          dsimp only [Pt.U, Pt.locs, Pt.cells, Pt.slots] at X184 l184 y184 z184 st184 hQ184
          subst l184 y184 z184
          obtain ⟨h184, e184⟩ : ∃ z, T184.heap = z := ⟨_, rfl⟩
          rw [e184] at hQ184
          obtain ⟨rfl, N184q, hh184⟩ := hQ184
          have N185 := Fr.app N183 N184q
          have e184' : T184.heap = h155 := e184.trans hh184
          have pre186 : ∀ t, own_S p e below m T184 275 #[lvJ q0_, .second, lvJ q1_, .second, lvJ q2_, .second, lvJ q3_, .second, lvI p4_, lvI (0 : Int32), lvI (0 : Int32), lvI (1 : Int32), lvI (1 : Int32), lvR w14_, lvR w23_, lvR b31, lvR b40, lvJ (2 : Int64), .second] [(.int (1 : Int32))] t → G t := by
            intro t kt
            refine pre121 t ?_
            show own_S p e below m T119 157 #[lvJ q0_, .second, lvJ q1_, .second, lvJ q2_, .second, lvJ q3_, .second, lvI p4_, lvI (0 : Int32), lvI (0 : Int32), lvI (1 : Int32), lvI (1 : Int32), lvR w14_, lvR w23_, lvR b31, lvR b40, .unset, .unset] [(.int (1 : Int32))] _
            refine XS.ifNo X119.here hx rfl (hb hby at_157) rfl ((if0 _ _).trans (feq (by decide : ¬ ((1 : Int32) = (0 : Int32)))).1) ?_
            refine XS.aload X119.here hx rfl (hb hby at_160) rfl rfl ?_
            refine XS.aload X119.here hx rfl (hb hby at_162) rfl rfl ?_
            refine XS.lload X119.here hx rfl (hb hby at_164) rfl ?_
            show own_S p e below m T119 166 #[lvJ q0_, .second, lvJ q1_, .second, lvJ q2_, .second, lvJ q3_, .second, lvI p4_, lvI (0 : Int32), lvI (0 : Int32), lvI (1 : Int32), lvI (1 : Int32), lvR w14_, lvR w23_, lvR b31, lvR b40, .unset, .unset] [(.long q3_), (.ref w23_), (.ref b40)] _
            refine st152.trans ?_
            refine XS.aload X152.here hx rfl (hb hby at_169) rfl rfl ?_
            refine XS.aload X152.here hx rfl (hb hby at_171) rfl rfl ?_
            show own_S p e below m T152 173 #[lvJ q0_, .second, lvJ q1_, .second, lvJ q2_, .second, lvJ q3_, .second, lvI p4_, lvI (0 : Int32), lvI (0 : Int32), lvI (1 : Int32), lvI (1 : Int32), lvR w14_, lvR w23_, lvR b31, lvR b40, .unset, .unset] [(.ref b40), (.ref b31)] _
            refine st155.trans ?_
            refine XS.iload X155.here hx rfl (hb hby at_176) rfl ?_
            show own_S p e below m T155 178 #[lvJ q0_, .second, lvJ q1_, .second, lvJ q2_, .second, lvJ q3_, .second, lvI p4_, lvI (0 : Int32), lvI (0 : Int32), lvI (1 : Int32), lvI (1 : Int32), lvR w14_, lvR w23_, lvR b31, lvR b40, .unset, .unset] [(.int (0 : Int32))] _
            refine XS.ifYes X155.here hx rfl (pc0 := 178) (pc' := 185) rfl (hb hby at_178) rfl ((if0 _ _).trans (teq (by decide : (0 : Int32) = (0 : Int32))).1) (by decide) (by decide) ?_
            refine XS.lconst X155.here hx rfl (hb hby at_185) ?_
            refine XS.iload X155.here hx rfl (hb hby at_186) rfl ?_
            show own_S p e below m T155 188 #[lvJ q0_, .second, lvJ q1_, .second, lvJ q2_, .second, lvJ q3_, .second, lvI p4_, lvI (0 : Int32), lvI (0 : Int32), lvI (1 : Int32), lvI (1 : Int32), lvR w14_, lvR w23_, lvR b31, lvR b40, .unset, .unset] [(.int (0 : Int32)), (.long (0 : Int64))] _
            refine XS.ifYes X155.here hx rfl (pc0 := 188) (pc' := 195) rfl (hb hby at_188) rfl ((if0 _ _).trans (teq (by decide : (0 : Int32) = (0 : Int32))).1) (by decide) (by decide) ?_
            refine XS.lconst X155.here hx rfl (hb hby at_195) ?_
            refine XS.ladd X155.here hx rfl (hb hby at_196) rfl ?_
            refine XS.iload X155.here hx rfl (hb hby at_197) rfl ?_
            show own_S p e below m T155 199 #[lvJ q0_, .second, lvJ q1_, .second, lvJ q2_, .second, lvJ q3_, .second, lvI p4_, lvI (0 : Int32), lvI (0 : Int32), lvI (1 : Int32), lvI (1 : Int32), lvR w14_, lvR w23_, lvR b31, lvR b40, .unset, .unset] [(.int (1 : Int32)), (.long (0 : Int64))] _
            refine XS.ifNo X155.here hx rfl (hb hby at_199) rfl ((if0 _ _).trans (feq (by decide : ¬ ((1 : Int32) = (0 : Int32)))).1) ?_
            refine XS.lconst X155.here hx rfl (hb hby at_202) ?_
            refine XS.goto X155.here hx rfl (pc0 := 203) (pc' := 207) rfl (hb hby at_203) (by decide) (by decide) ?_
            refine XS.ladd X155.here hx rfl (hb hby at_207) rfl ?_
            show own_S p e below m T155 208 #[lvJ q0_, .second, lvJ q1_, .second, lvJ q2_, .second, lvJ q3_, .second, lvI p4_, lvI (0 : Int32), lvI (0 : Int32), lvI (1 : Int32), lvI (1 : Int32), lvR w14_, lvR w23_, lvR b31, lvR b40, .unset, .unset] [(.long (1 : Int64))] _
            refine XS.iload X155.here hx rfl (hb hby at_208) rfl ?_
            show own_S p e below m T155 210 #[lvJ q0_, .second, lvJ q1_, .second, lvJ q2_, .second, lvJ q3_, .second, lvI p4_, lvI (0 : Int32), lvI (0 : Int32), lvI (1 : Int32), lvI (1 : Int32), lvR w14_, lvR w23_, lvR b31, lvR b40, .unset, .unset] [(.int (1 : Int32)), (.long (1 : Int64))] _
            refine XS.ifNo X155.here hx rfl (hb hby at_210) rfl ((if0 _ _).trans (feq (by decide : ¬ ((1 : Int32) = (0 : Int32)))).1) ?_
            refine XS.lconst X155.here hx rfl (hb hby at_213) ?_
            refine XS.goto X155.here hx rfl (pc0 := 214) (pc' := 218) rfl (hb hby at_214) (by decide) (by decide) ?_
            refine XS.ladd X155.here hx rfl (hb hby at_218) rfl ?_
            show own_S p e below m T155 219 #[lvJ q0_, .second, lvJ q1_, .second, lvJ q2_, .second, lvJ q3_, .second, lvI p4_, lvI (0 : Int32), lvI (0 : Int32), lvI (1 : Int32), lvI (1 : Int32), lvR w14_, lvR w23_, lvR b31, lvR b40, .unset, .unset] [(.long (2 : Int64))] _
            refine XS.lstore X155.here hx rfl (hb hby at_219) rfl (l' := #[lvJ q0_, .second, lvJ q1_, .second, lvJ q2_, .second, lvJ q3_, .second, lvI p4_, lvI (0 : Int32), lvI (0 : Int32), lvI (1 : Int32), lvI (1 : Int32), lvR w14_, lvR w23_, lvR b31, lvR b40, lvJ (2 : Int64), .second]) rfl ?_
            refine XS.aload X155.here hx rfl (hb hby at_221) rfl rfl ?_
            show own_S p e below m T155 223 #[lvJ q0_, .second, lvJ q1_, .second, lvJ q2_, .second, lvJ q3_, .second, lvI p4_, lvI (0 : Int32), lvI (0 : Int32), lvI (1 : Int32), lvI (1 : Int32), lvR w14_, lvR w23_, lvR b31, lvR b40, lvJ (2 : Int64), .second] [(.ref b31)] _
            refine st175.trans ?_
            refine XS.lload X175.here hx rfl (hb hby at_226) rfl ?_
            refine XS.lcmp X175.here hx rfl (hb hby at_228) rfl ?_
            show own_S p e below m T175 229 #[lvJ q0_, .second, lvJ q1_, .second, lvJ q2_, .second, lvJ q3_, .second, lvI p4_, lvI (0 : Int32), lvI (0 : Int32), lvI (1 : Int32), lvI (1 : Int32), lvR w14_, lvR w23_, lvR b31, lvR b40, lvJ (2 : Int64), .second] [(.int (lcmpW (2 : Int64) (2 : Int64)))] _
            refine XS.ifNo X175.here hx rfl (hb hby at_229) rfl ((if0 _ _).trans (teq ((lw_eq _ _).mpr (by decide : (2 : Int64) = (2 : Int64)))).2) ?_
            refine XS.aload X175.here hx rfl (hb hby at_232) rfl rfl ?_
            show own_S p e below m T175 234 #[lvJ q0_, .second, lvJ q1_, .second, lvJ q2_, .second, lvJ q3_, .second, lvI p4_, lvI (0 : Int32), lvI (0 : Int32), lvI (1 : Int32), lvI (1 : Int32), lvR w14_, lvR w23_, lvR b31, lvR b40, lvJ (2 : Int64), .second] [(.ref b31)] _
            refine st178.trans ?_
            refine XS.iload X178.here hx rfl (hb hby at_237) rfl ?_
            refine XS.lloadN X178.here hx rfl (hb hby at_239) rfl ?_
            refine XS.iload X178.here hx rfl (hb hby at_240) rfl ?_
            show own_S p e below m T178 242 #[lvJ q0_, .second, lvJ q1_, .second, lvJ q2_, .second, lvJ q3_, .second, lvI p4_, lvI (0 : Int32), lvI (0 : Int32), lvI (1 : Int32), lvI (1 : Int32), lvR w14_, lvR w23_, lvR b31, lvR b40, lvJ (2 : Int64), .second] [(.int (1 : Int32)), (.long q0_), (.int (0 : Int32)), (.long (own_max (-9223372036854775808 : Int64) (own_max (-9223372036854775808 : Int64) q2_)))] _
            refine XS.lload X178.here hx rfl (hb hby at_242) rfl ?_
            show own_S p e below m T178 244 #[lvJ q0_, .second, lvJ q1_, .second, lvJ q2_, .second, lvJ q3_, .second, lvI p4_, lvI (0 : Int32), lvI (0 : Int32), lvI (1 : Int32), lvI (1 : Int32), lvR w14_, lvR w23_, lvR b31, lvR b40, lvJ (2 : Int64), .second] [(.long q2_), (.int (1 : Int32)), (.long q0_), (.int (0 : Int32)), (.long (own_max (-9223372036854775808 : Int64) (own_max (-9223372036854775808 : Int64) q2_)))] _
            refine st180 _ ?_
            refine XS.lcmp X180.here hx rfl (hb hby at_247) rfl ?_
            show own_S p e below m T180 248 #[lvJ q0_, .second, lvJ q1_, .second, lvJ q2_, .second, lvJ q3_, .second, lvI p4_, lvI (0 : Int32), lvI (0 : Int32), lvI (1 : Int32), lvI (1 : Int32), lvR w14_, lvR w23_, lvR b31, lvR b40, lvJ (2 : Int64), .second] [(.int (lcmpW (own_max (-9223372036854775808 : Int64) (own_max (-9223372036854775808 : Int64) q2_)) q2_))] _
            refine XS.ifNo X180.here hx rfl (hb hby at_248) rfl ((if0 _ _).trans (teq ((lw_eq _ _).mpr (by simp only [own_minl, own_minr]))).2) ?_
            refine XS.aload X180.here hx rfl (hb hby at_251) rfl rfl ?_
            show own_S p e below m T180 253 #[lvJ q0_, .second, lvJ q1_, .second, lvJ q2_, .second, lvJ q3_, .second, lvI p4_, lvI (0 : Int32), lvI (0 : Int32), lvI (1 : Int32), lvI (1 : Int32), lvR w14_, lvR w23_, lvR b31, lvR b40, lvJ (2 : Int64), .second] [(.ref b31)] _
            refine st182.trans ?_
            refine XS.iload X182.here hx rfl (hb hby at_256) rfl ?_
            refine XS.lloadN X182.here hx rfl (hb hby at_258) rfl ?_
            refine XS.iload X182.here hx rfl (hb hby at_259) rfl ?_
            show own_S p e below m T182 261 #[lvJ q0_, .second, lvJ q1_, .second, lvJ q2_, .second, lvJ q3_, .second, lvI p4_, lvI (0 : Int32), lvI (0 : Int32), lvI (1 : Int32), lvI (1 : Int32), lvR w14_, lvR w23_, lvR b31, lvR b40, lvJ (2 : Int64), .second] [(.int (1 : Int32)), (.long q1_), (.int (0 : Int32)), (.long (own_max (-9223372036854775808 : Int64) (own_max (-9223372036854775808 : Int64) q3_)))] _
            refine XS.lload X182.here hx rfl (hb hby at_261) rfl ?_
            show own_S p e below m T182 263 #[lvJ q0_, .second, lvJ q1_, .second, lvJ q2_, .second, lvJ q3_, .second, lvI p4_, lvI (0 : Int32), lvI (0 : Int32), lvI (1 : Int32), lvI (1 : Int32), lvR w14_, lvR w23_, lvR b31, lvR b40, lvJ (2 : Int64), .second] [(.long q3_), (.int (1 : Int32)), (.long q1_), (.int (0 : Int32)), (.long (own_max (-9223372036854775808 : Int64) (own_max (-9223372036854775808 : Int64) q3_)))] _
            refine st184 _ ?_
            refine XS.lcmp X184.here hx rfl (hb hby at_266) rfl ?_
            show own_S p e below m T184 267 #[lvJ q0_, .second, lvJ q1_, .second, lvJ q2_, .second, lvJ q3_, .second, lvI p4_, lvI (0 : Int32), lvI (0 : Int32), lvI (1 : Int32), lvI (1 : Int32), lvR w14_, lvR w23_, lvR b31, lvR b40, lvJ (2 : Int64), .second] [(.int (lcmpW (own_max (-9223372036854775808 : Int64) (own_max (-9223372036854775808 : Int64) q3_)) q3_))] _
            refine XS.ifNo X184.here hx rfl (hb hby at_267) rfl ((if0 _ _).trans (teq ((lw_eq _ _).mpr (by simp only [own_minl, own_minr]))).2) ?_
            refine XS.iconst X184.here hx rfl (hb hby at_270) ?_
            refine XS.goto X184.here hx rfl (pc0 := 271) (pc' := 275) rfl (hb hby at_271) (by decide) (by decide) ?_
            exact kt
          obtain ⟨fs, hr, hrun, hended, hW, hsame⟩ := X184.leave (v := some (.int (1 : Int32))) (fun h => by rw [Bd.returns] at h; cases h)
          refine ⟨_, _, hG _ (pre186 _ (retN X184 hx (t := .boolean) Bd.returns (by simp) (hb hby at_275) hr)), hrun, hended, _, _, rfl, ?_, ⟨_, rfl⟩, hW, hsame.mono (by decide) (by decide)⟩
          show QLaw Z q0_ q1_ q2_ q3_ p4_ w_PUT w_DELETE_COLUMN w_DELETE_FAMILY h0 n0 _ T184.heap _
          rw [e184']
          exact ⟨rfl, N185⟩
    · have f189 : Exa Z h40 b31 cn0 := g37_0.ext E40
      have f190 : Exa Z h49 b31 cn0 := f189.keep K49
      have f191 : Fld Z h40 b31 cn0 "latestTimestamp" "J" (.long (-9223372036854775808 : Int64)) := g37_1.ext E40
      have ne193 : b31 ≠ b40 := Nat.ne_of_lt (Nat.lt_of_lt_of_le g37_0.lt (Nat.le_of_eq g40.symm))
      have f192 : Fld Z h49 b31 cn0 "latestTimestamp" "J" (.long (-9223372036854775808 : Int64)) := f191.keep K49 (ninS ne193 nin0)
      have f194 : Fld Z h40 b31 cn0 "latestDeleteTimestamp" "J" (.long (-9223372036854775808 : Int64)) := g37_2.ext E40
      have f195 : Fld Z h49 b31 cn0 "latestDeleteTimestamp" "J" (.long (-9223372036854775808 : Int64)) := f194.keep K49 (ninS ne193 nin0)
      have f196 : Fld Z h40 b31 cn0 "cells" "J" (.long (0 : Int64)) := g37_3.ext E40
      have f197 : Fld Z h49 b31 cn0 "cells" "J" (.long (0 : Int64)) := f196.keep K49 (ninS ne193 nin0)
      have f198 : Old Z n0 h49 := f50.keep K49 (allS (ge42) all0)
      obtain ⟨cq188, kq188, q188a, q188b, q188c⟩ := isOf hZ e49 f190
      obtain ⟨_, _, ⟨T188, L188, k188, n188⟩, -, X188, ⟨Lc188, hQ188, l188, y188, z188⟩, st188⟩ := X49.virtualBack hx (y := (⟨"com/example/zenodotus/zenodotus/io/RowCodec$Tally", "count", "(Lcom/example/zenodotus/zenodotus/model/Cell$Kind;J)V"⟩ : MethodName)) (z := (⟨"com/example/zenodotus/zenodotus/io/RowCodec$Tally", "count", "(Lcom/example/zenodotus/zenodotus/model/Cell$Kind;J)V"⟩ : MethodName)) hown (mvT hZ (own_w hw 19 rfl)) (mvT hZ (own_w hw 20 rfl)) (notFace_of_selects (args := #[]) (mvT hZ (own_w hw 22 rfl))) (mvT hZ (own_w hw 22 rfl)) (mvT hZ (own_w hw 21 rfl)) (by decide) (backOf (W := 0) (rmcount7 l Z a0 hw [] b31 w14_ q1_ w_PUT h49 n0 f198 f190 f192 f195 f197 E14 ge32 P1 P2 P0 n14_0) hZ (own_w hw 23 rfl) (own_w hw 5 rfl) (by decide) (by decide)) q188a q188c (g := (mkF m 137 #[lvJ q0_, .second, lvJ q1_, .second, lvJ q2_, .second, lvJ q3_, .second, lvI p4_, lvI (0 : Int32), lvI (1 : Int32), lvI z8, lvI z11, lvR w14_, lvR w23_, lvR b31, lvR b40, .unset, .unset] [(.long q1_), (.ref w14_), (.ref b31)])) rfl (by rw [hml]; rfl) (Steps.refl _) (argsL := [(.ref w14_), (.long q1_)]) (rest := []) (lenOf pd_5 rfl) rfl (by show 2 * 0 + _ ≤ _; exact Nat.le_of_eq rfl) (hb hby at_137) (fun _ _ => ⟨rfl, e49, (by decide : 2 + 0 ≤ _), (by decide : 6 + 0 ≤ _)⟩)
      dsimp only [Pt.U, Pt.locs, Pt.cells, Pt.slots] at X188 l188 y188 z188 st188 hQ188
      subst l188 y188 z188
      obtain ⟨h188, e188⟩ : ∃ z, T188.heap = z := ⟨_, rfl⟩
      rw [e188] at hQ188
      obtain ⟨rfl, N188q, K188, g188_0, g188_1, g188_2, g188_3⟩ := hQ188
      have N199 := Fr.app N51 N188q
      have pre200 : ∀ t, own_S p e below m T188 142 #[lvJ q0_, .second, lvJ q1_, .second, lvJ q2_, .second, lvJ q3_, .second, lvI p4_, lvI (0 : Int32), lvI (1 : Int32), lvI z8, lvI z11, lvR w14_, lvR w23_, lvR b31, lvR b40, .unset, .unset] [(.int z8)] t → G t := by
        intro t kt
        refine pre54 t ?_
        show own_S p e below m T49 129 #[lvJ q0_, .second, lvJ q1_, .second, lvJ q2_, .second, lvJ q3_, .second, lvI p4_, lvI (0 : Int32), lvI (1 : Int32), lvI z8, lvI z11, lvR w14_, lvR w23_, lvR b31, lvR b40, .unset, .unset] [(.int (1 : Int32))] _
        refine XS.ifNo X49.here hx rfl (hb hby at_129) rfl ((if0 _ _).trans (feq (by decide : ¬ ((1 : Int32) = (0 : Int32)))).1) ?_
        refine XS.aload X49.here hx rfl (hb hby at_132) rfl rfl ?_
        refine XS.aload X49.here hx rfl (hb hby at_134) rfl rfl ?_
        refine XS.lloadN X49.here hx rfl (hb hby at_136) rfl ?_
        show own_S p e below m T49 137 #[lvJ q0_, .second, lvJ q1_, .second, lvJ q2_, .second, lvJ q3_, .second, lvI p4_, lvI (0 : Int32), lvI (1 : Int32), lvI z8, lvI z11, lvR w14_, lvR w23_, lvR b31, lvR b40, .unset, .unset] [(.long q1_), (.ref w14_), (.ref b31)] _
        refine st188.trans ?_
        refine XS.iload X188.here hx rfl (hb hby at_140) rfl ?_
        exact kt
      rcases hz8 with ⟨rfl, hj201⟩ | ⟨rfl, hj201⟩
      · have pre202 : ∀ t, own_S p e below m T188 157 #[lvJ q0_, .second, lvJ q1_, .second, lvJ q2_, .second, lvJ q3_, .second, lvI p4_, lvI (0 : Int32), lvI (1 : Int32), lvI (0 : Int32), lvI z11, lvR w14_, lvR w23_, lvR b31, lvR b40, .unset, .unset] [(.int z11)] t → G t := by
          intro t kt
          refine pre200 t ?_
          show own_S p e below m T188 142 #[lvJ q0_, .second, lvJ q1_, .second, lvJ q2_, .second, lvJ q3_, .second, lvI p4_, lvI (0 : Int32), lvI (1 : Int32), lvI (0 : Int32), lvI z11, lvR w14_, lvR w23_, lvR b31, lvR b40, .unset, .unset] [(.int (0 : Int32))] _
          refine XS.ifYes X188.here hx rfl (pc0 := 142) (pc' := 155) rfl (hb hby at_142) rfl ((if0 _ _).trans (teq (by decide : (0 : Int32) = (0 : Int32))).1) (by decide) (by decide) ?_
          refine XS.iload X188.here hx rfl (hb hby at_155) rfl ?_
          exact kt
        rcases hz11 with ⟨rfl, hj203⟩ | ⟨rfl, hj203⟩
        · have f205 : Exa Z h188 b40 cn0 := g49_0.keep K188
          have f206 : Fld Z h188 b40 cn0 "latestTimestamp" "J" (.long (-9223372036854775808 : Int64)) := g49_1.keep K188 (ninS (Ne.symm ne193) nin0)
          have f207 : Fld Z h188 b40 cn0 "latestDeleteTimestamp" "J" (.long (-9223372036854775808 : Int64)) := g49_2.keep K188 (ninS (Ne.symm ne193) nin0)
          have f208 : Fld Z h188 b40 cn0 "cells" "J" (.long (0 : Int64)) := g49_3.keep K188 (ninS (Ne.symm ne193) nin0)
          have f209 : Old Z n0 h188 := f198.keep K188 (allS (ge32) all0)
          obtain ⟨cq204, kq204, q204a, q204b, q204c⟩ := isOf hZ e188 g188_0
          obtain ⟨_, _, ⟨T204, L204, k204, n204⟩, -, X204, ⟨Lc204, hQ204, l204, y204, z204⟩, st204⟩ := X188.virtualBack hx (y := (⟨"com/example/zenodotus/zenodotus/io/RowCodec$Tally", "add", "(Lcom/example/zenodotus/zenodotus/io/RowCodec$Tally;)V"⟩ : MethodName)) (z := (⟨"com/example/zenodotus/zenodotus/io/RowCodec$Tally", "add", "(Lcom/example/zenodotus/zenodotus/io/RowCodec$Tally;)V"⟩ : MethodName)) hown (mvT hZ (own_w hw 31 rfl)) (mvT hZ (own_w hw 32 rfl)) (notFace_of_selects (args := #[]) (mvT hZ (own_w hw 34 rfl))) (mvT hZ (own_w hw 34 rfl)) (mvT hZ (own_w hw 33 rfl)) (by decide) (backOf (W := 0) (rmadd20 l Z a0 hw [] b31 b40 (own_max (-9223372036854775808 : Int64) q1_) h188 n0 f209 g188_0 g188_1 g188_2 g188_3 f205 f206 f207 f208 ge32 (Ne.symm ne193)) hZ (own_w hw 35 rfl) (own_w hw 5 rfl) (by decide) (by decide)) q204a q204c (g := (mkF m 173 #[lvJ q0_, .second, lvJ q1_, .second, lvJ q2_, .second, lvJ q3_, .second, lvI p4_, lvI (0 : Int32), lvI (1 : Int32), lvI (0 : Int32), lvI (0 : Int32), lvR w14_, lvR w23_, lvR b31, lvR b40, .unset, .unset] [(.ref b40), (.ref b31)])) rfl (by rw [hml]; rfl) (Steps.refl _) (argsL := [(.ref b40)]) (rest := []) (lenOf pd_2 rfl) rfl (by show 2 * 0 + _ ≤ _; exact Nat.le_of_eq rfl) (hb hby at_173) (fun _ _ => ⟨rfl, e188, (by decide : 2 + 0 ≤ _), (by decide : 6 + 0 ≤ _)⟩)
          dsimp only [Pt.U, Pt.locs, Pt.cells, Pt.slots] at X204 l204 y204 z204 st204 hQ204
          subst l204 y204 z204
          obtain ⟨h204, e204⟩ : ∃ z, T204.heap = z := ⟨_, rfl⟩
          rw [e204] at hQ204
          obtain ⟨rfl, N204q, K204, g204_0, g204_1, g204_2, g204_3⟩ := hQ204
          have N210 := Fr.app N199 N204q
          have f212 : Old Z n0 h204 := f209.keep K204 (allS (ge32) all0)
          obtain ⟨cq211, kq211, q211a, q211b, q211c⟩ := isOf hZ e204 g204_0
          obtain ⟨_, _, ⟨T211, L211, k211, n211⟩, -, X211, ⟨Lc211, hQ211, l211, y211, z211⟩, st211⟩ := X204.virtualBack hx (y := (⟨"com/example/zenodotus/zenodotus/io/RowCodec$Tally", "cells", "()J"⟩ : MethodName)) (z := (⟨"com/example/zenodotus/zenodotus/io/RowCodec$Tally", "cells", "()J"⟩ : MethodName)) hown (mvT hZ (own_w hw 36 rfl)) (mvT hZ (own_w hw 37 rfl)) (notFace_of_selects (args := #[]) (mvT hZ (own_w hw 39 rfl))) (mvT hZ (own_w hw 39 rfl)) (mvT hZ (own_w hw 38 rfl)) (by decide) (backOf (W := 0) (rmcells9 l Z a0 hw [] b31 (own_max (-9223372036854775808 : Int64) (-9223372036854775808 : Int64)) (own_max (own_max (-9223372036854775808 : Int64) q1_) (-9223372036854775808 : Int64)) h204 n0 f212 g204_0 g204_1 g204_2 g204_3) hZ (own_w hw 40 rfl) (own_w hw 5 rfl) (by decide) (by decide)) q211a q211c (g := (mkF m 223 #[lvJ q0_, .second, lvJ q1_, .second, lvJ q2_, .second, lvJ q3_, .second, lvI p4_, lvI (0 : Int32), lvI (1 : Int32), lvI (0 : Int32), lvI (0 : Int32), lvR w14_, lvR w23_, lvR b31, lvR b40, lvJ (1 : Int64), .second] [(.ref b31)])) rfl (by rw [hml]; rfl) (Steps.refl _) (argsL := []) (rest := []) (lenOf pd_3 rfl) rfl (by show 2 * 0 + _ ≤ _; exact Nat.le_of_eq rfl) (hb hby at_223) (fun _ _ => ⟨rfl, e204, (by decide : 2 + 0 ≤ _), (by decide : 6 + 0 ≤ _)⟩)
          dsimp only [Pt.U, Pt.locs, Pt.cells, Pt.slots] at X211 l211 y211 z211 st211 hQ211
          subst l211 y211 z211
          obtain ⟨h211, e211⟩ : ∃ z, T211.heap = z := ⟨_, rfl⟩
          rw [e211] at hQ211
          obtain ⟨rfl, N211q, hh211⟩ := hQ211
          have N213 := Fr.app N210 N211q
          have e211' : T211.heap = h204 := e211.trans hh211
          obtain ⟨cq214, kq214, q214a, q214b, q214c⟩ := isOf hZ e211' g204_0
          obtain ⟨_, _, ⟨T214, L214, k214, n214⟩, -, X214, ⟨Lc214, hQ214, l214, y214, z214⟩, st214⟩ := X211.virtualBack hx (y := (⟨"com/example/zenodotus/zenodotus/io/RowCodec$Tally", "latestTimestamp", "()J"⟩ : MethodName)) (z := (⟨"com/example/zenodotus/zenodotus/io/RowCodec$Tally", "latestTimestamp", "()J"⟩ : MethodName)) hown (mvT hZ (own_w hw 41 rfl)) (mvT hZ (own_w hw 42 rfl)) (notFace_of_selects (args := #[]) (mvT hZ (own_w hw 44 rfl))) (mvT hZ (own_w hw 44 rfl)) (mvT hZ (own_w hw 43 rfl)) (by decide) (backOf (W := 0) (rmlatestTimestamp10 l Z a0 hw [] b31 (own_max (-9223372036854775808 : Int64) (-9223372036854775808 : Int64)) (own_max (own_max (-9223372036854775808 : Int64) q1_) (-9223372036854775808 : Int64)) h204 n0 f212 g204_0 g204_1 g204_2 g204_3) hZ (own_w hw 45 rfl) (own_w hw 5 rfl) (by decide) (by decide)) q214a q214c (g := (mkF m 234 #[lvJ q0_, .second, lvJ q1_, .second, lvJ q2_, .second, lvJ q3_, .second, lvI p4_, lvI (0 : Int32), lvI (1 : Int32), lvI (0 : Int32), lvI (0 : Int32), lvR w14_, lvR w23_, lvR b31, lvR b40, lvJ (1 : Int64), .second] [(.ref b31)])) rfl (by rw [hml]; rfl) (Steps.refl _) (argsL := []) (rest := []) (lenOf pd_3 rfl) rfl (by show 2 * 0 + _ ≤ _; exact Nat.le_of_eq rfl) (hb hby at_234) (fun _ _ => ⟨rfl, e211', (by decide : 2 + 0 ≤ _), (by decide : 6 + 0 ≤ _)⟩)
          dsimp only [Pt.U, Pt.locs, Pt.cells, Pt.slots] at X214 l214 y214 z214 st214 hQ214
          subst l214 y214 z214
          obtain ⟨h214, e214⟩ : ∃ z, T214.heap = z := ⟨_, rfl⟩
          rw [e214] at hQ214
          obtain ⟨rfl, N214q, hh214⟩ := hQ214
          have N215 := Fr.app N213 N214q
          have e214' : T214.heap = h204 := e214.trans hh214
          obtain ⟨_, _, ⟨T216, L216, k216, n216⟩, -, X216, ⟨Lc216, hQ216, l216, y216, z216⟩, st216⟩ := Jvm.LawKit.callS X214 hx (y := (⟨"com/example/zenodotus/zenodotus/io/TallyAddPinLaw", "expect", "(ZJZJ)J"⟩ : MethodName)) hown (mvT hZ (own_w hw 46 rfl)) (mvT hZ (own_w hw 47 rfl)) (mvT hZ (own_w hw 48 rfl)) (mvT hZ (own_w hw 49 rfl)) (by decide) (backOf (W := 2) (rmexpect5 l Z a0 hw [] q0_ q2_ h204 n0 f212 ) hZ (own_w hw 49 rfl) (own_w hw 48 rfl) (by decide) (by decide)) (g := (mkF m 244 #[lvJ q0_, .second, lvJ q1_, .second, lvJ q2_, .second, lvJ q3_, .second, lvI p4_, lvI (0 : Int32), lvI (1 : Int32), lvI (0 : Int32), lvI (0 : Int32), lvR w14_, lvR w23_, lvR b31, lvR b40, lvJ (1 : Int64), .second] [(.long q2_), (.int (0 : Int32)), (.long q0_), (.int (0 : Int32)), (.long (own_max (-9223372036854775808 : Int64) (-9223372036854775808 : Int64)))])) rfl (by rw [hml]; rfl) (argsL := [(.int (0 : Int32)), (.long q0_), (.int (0 : Int32)), (.long q2_)]) (rest := [(.long (own_max (-9223372036854775808 : Int64) (-9223372036854775808 : Int64)))]) (lenOf pd_4 rfl) rfl (by show 2 * 0 + _ ≤ _; exact Nat.le_of_eq rfl) (hb hby at_244) (fun _ _ => ⟨rfl, e214', (by decide : 2 + 0 ≤ _), (by decide : 6 + 0 ≤ _)⟩)
          dsimp only [Pt.U, Pt.locs, Pt.cells, Pt.slots] at X216 l216 y216 z216 st216 hQ216
          subst l216 y216 z216
          obtain ⟨h216, e216⟩ : ∃ z, T216.heap = z := ⟨_, rfl⟩
          rw [e216] at hQ216
          obtain ⟨rfl, N216q, hh216⟩ := hQ216
          have N217 := Fr.app N215 N216q
          have e216' : T216.heap = h204 := e216.trans hh216
          obtain ⟨cq218, kq218, q218a, q218b, q218c⟩ := isOf hZ e216' g204_0
          obtain ⟨_, _, ⟨T218, L218, k218, n218⟩, -, X218, ⟨Lc218, hQ218, l218, y218, z218⟩, st218⟩ := X216.virtualBack hx (y := (⟨"com/example/zenodotus/zenodotus/io/RowCodec$Tally", "latestDeleteTimestamp", "()J"⟩ : MethodName)) (z := (⟨"com/example/zenodotus/zenodotus/io/RowCodec$Tally", "latestDeleteTimestamp", "()J"⟩ : MethodName)) hown (mvT hZ (own_w hw 50 rfl)) (mvT hZ (own_w hw 51 rfl)) (notFace_of_selects (args := #[]) (mvT hZ (own_w hw 53 rfl))) (mvT hZ (own_w hw 53 rfl)) (mvT hZ (own_w hw 52 rfl)) (by decide) (backOf (W := 0) (rmlatestDeleteTimestamp11 l Z a0 hw [] b31 (own_max (-9223372036854775808 : Int64) (-9223372036854775808 : Int64)) (own_max (own_max (-9223372036854775808 : Int64) q1_) (-9223372036854775808 : Int64)) h204 n0 f212 g204_0 g204_1 g204_2 g204_3) hZ (own_w hw 54 rfl) (own_w hw 5 rfl) (by decide) (by decide)) q218a q218c (g := (mkF m 253 #[lvJ q0_, .second, lvJ q1_, .second, lvJ q2_, .second, lvJ q3_, .second, lvI p4_, lvI (0 : Int32), lvI (1 : Int32), lvI (0 : Int32), lvI (0 : Int32), lvR w14_, lvR w23_, lvR b31, lvR b40, lvJ (1 : Int64), .second] [(.ref b31)])) rfl (by rw [hml]; rfl) (Steps.refl _) (argsL := []) (rest := []) (lenOf pd_3 rfl) rfl (by show 2 * 0 + _ ≤ _; exact Nat.le_of_eq rfl) (hb hby at_253) (fun _ _ => ⟨rfl, e216', (by decide : 2 + 0 ≤ _), (by decide : 6 + 0 ≤ _)⟩)
          dsimp only [Pt.U, Pt.locs, Pt.cells, Pt.slots] at X218 l218 y218 z218 st218 hQ218
          subst l218 y218 z218
          obtain ⟨h218, e218⟩ : ∃ z, T218.heap = z := ⟨_, rfl⟩
          rw [e218] at hQ218
          obtain ⟨rfl, N218q, hh218⟩ := hQ218
          have N219 := Fr.app N217 N218q
          have e218' : T218.heap = h204 := e218.trans hh218
          obtain ⟨_, _, ⟨T220, L220, k220, n220⟩, -, X220, ⟨Lc220, hQ220, l220, y220, z220⟩, st220⟩ := Jvm.LawKit.callS X218 hx (y := (⟨"com/example/zenodotus/zenodotus/io/TallyAddPinLaw", "expect", "(ZJZJ)J"⟩ : MethodName)) hown (mvT hZ (own_w hw 46 rfl)) (mvT hZ (own_w hw 47 rfl)) (mvT hZ (own_w hw 48 rfl)) (mvT hZ (own_w hw 49 rfl)) (by decide) (backOf (W := 2) (rmexpect21 l Z a0 hw [] q1_ q3_ h204 n0 f212 ) hZ (own_w hw 49 rfl) (own_w hw 48 rfl) (by decide) (by decide)) (g := (mkF m 263 #[lvJ q0_, .second, lvJ q1_, .second, lvJ q2_, .second, lvJ q3_, .second, lvI p4_, lvI (0 : Int32), lvI (1 : Int32), lvI (0 : Int32), lvI (0 : Int32), lvR w14_, lvR w23_, lvR b31, lvR b40, lvJ (1 : Int64), .second] [(.long q3_), (.int (0 : Int32)), (.long q1_), (.int (1 : Int32)), (.long (own_max (own_max (-9223372036854775808 : Int64) q1_) (-9223372036854775808 : Int64)))])) rfl (by rw [hml]; rfl) (argsL := [(.int (1 : Int32)), (.long q1_), (.int (0 : Int32)), (.long q3_)]) (rest := [(.long (own_max (own_max (-9223372036854775808 : Int64) q1_) (-9223372036854775808 : Int64)))]) (lenOf pd_4 rfl) rfl (by show 2 * 0 + _ ≤ _; exact Nat.le_of_eq rfl) (hb hby at_263) (fun _ _ => ⟨rfl, e218', (by decide : 2 + 0 ≤ _), (by decide : 6 + 0 ≤ _)⟩)
          dsimp only [Pt.U, Pt.locs, Pt.cells, Pt.slots] at X220 l220 y220 z220 st220 hQ220
          subst l220 y220 z220
          obtain ⟨h220, e220⟩ : ∃ z, T220.heap = z := ⟨_, rfl⟩
          rw [e220] at hQ220
          obtain ⟨rfl, N220q, hh220⟩ := hQ220
          have N221 := Fr.app N219 N220q
          have e220' : T220.heap = h204 := e220.trans hh220
          have pre222 : ∀ t, own_S p e below m T220 275 #[lvJ q0_, .second, lvJ q1_, .second, lvJ q2_, .second, lvJ q3_, .second, lvI p4_, lvI (0 : Int32), lvI (1 : Int32), lvI (0 : Int32), lvI (0 : Int32), lvR w14_, lvR w23_, lvR b31, lvR b40, lvJ (1 : Int64), .second] [(.int (1 : Int32))] t → G t := by
            intro t kt
            refine pre202 t ?_
            show own_S p e below m T188 157 #[lvJ q0_, .second, lvJ q1_, .second, lvJ q2_, .second, lvJ q3_, .second, lvI p4_, lvI (0 : Int32), lvI (1 : Int32), lvI (0 : Int32), lvI (0 : Int32), lvR w14_, lvR w23_, lvR b31, lvR b40, .unset, .unset] [(.int (0 : Int32))] _
            refine XS.ifYes X188.here hx rfl (pc0 := 157) (pc' := 169) rfl (hb hby at_157) rfl ((if0 _ _).trans (teq (by decide : (0 : Int32) = (0 : Int32))).1) (by decide) (by decide) ?_
            refine XS.aload X188.here hx rfl (hb hby at_169) rfl rfl ?_
            refine XS.aload X188.here hx rfl (hb hby at_171) rfl rfl ?_
            show own_S p e below m T188 173 #[lvJ q0_, .second, lvJ q1_, .second, lvJ q2_, .second, lvJ q3_, .second, lvI p4_, lvI (0 : Int32), lvI (1 : Int32), lvI (0 : Int32), lvI (0 : Int32), lvR w14_, lvR w23_, lvR b31, lvR b40, .unset, .unset] [(.ref b40), (.ref b31)] _
            refine st204.trans ?_
            refine XS.iload X204.here hx rfl (hb hby at_176) rfl ?_
            show own_S p e below m T204 178 #[lvJ q0_, .second, lvJ q1_, .second, lvJ q2_, .second, lvJ q3_, .second, lvI p4_, lvI (0 : Int32), lvI (1 : Int32), lvI (0 : Int32), lvI (0 : Int32), lvR w14_, lvR w23_, lvR b31, lvR b40, .unset, .unset] [(.int (0 : Int32))] _
            refine XS.ifYes X204.here hx rfl (pc0 := 178) (pc' := 185) rfl (hb hby at_178) rfl ((if0 _ _).trans (teq (by decide : (0 : Int32) = (0 : Int32))).1) (by decide) (by decide) ?_
            refine XS.lconst X204.here hx rfl (hb hby at_185) ?_
            refine XS.iload X204.here hx rfl (hb hby at_186) rfl ?_
            show own_S p e below m T204 188 #[lvJ q0_, .second, lvJ q1_, .second, lvJ q2_, .second, lvJ q3_, .second, lvI p4_, lvI (0 : Int32), lvI (1 : Int32), lvI (0 : Int32), lvI (0 : Int32), lvR w14_, lvR w23_, lvR b31, lvR b40, .unset, .unset] [(.int (1 : Int32)), (.long (0 : Int64))] _
            refine XS.ifNo X204.here hx rfl (hb hby at_188) rfl ((if0 _ _).trans (feq (by decide : ¬ ((1 : Int32) = (0 : Int32)))).1) ?_
            refine XS.lconst X204.here hx rfl (hb hby at_191) ?_
            refine XS.goto X204.here hx rfl (pc0 := 192) (pc' := 196) rfl (hb hby at_192) (by decide) (by decide) ?_
            refine XS.ladd X204.here hx rfl (hb hby at_196) rfl ?_
            show own_S p e below m T204 197 #[lvJ q0_, .second, lvJ q1_, .second, lvJ q2_, .second, lvJ q3_, .second, lvI p4_, lvI (0 : Int32), lvI (1 : Int32), lvI (0 : Int32), lvI (0 : Int32), lvR w14_, lvR w23_, lvR b31, lvR b40, .unset, .unset] [(.long (1 : Int64))] _
            refine XS.iload X204.here hx rfl (hb hby at_197) rfl ?_
            show own_S p e below m T204 199 #[lvJ q0_, .second, lvJ q1_, .second, lvJ q2_, .second, lvJ q3_, .second, lvI p4_, lvI (0 : Int32), lvI (1 : Int32), lvI (0 : Int32), lvI (0 : Int32), lvR w14_, lvR w23_, lvR b31, lvR b40, .unset, .unset] [(.int (0 : Int32)), (.long (1 : Int64))] _
            refine XS.ifYes X204.here hx rfl (pc0 := 199) (pc' := 206) rfl (hb hby at_199) rfl ((if0 _ _).trans (teq (by decide : (0 : Int32) = (0 : Int32))).1) (by decide) (by decide) ?_
            refine XS.lconst X204.here hx rfl (hb hby at_206) ?_
            refine XS.ladd X204.here hx rfl (hb hby at_207) rfl ?_
            refine XS.iload X204.here hx rfl (hb hby at_208) rfl ?_
            show own_S p e below m T204 210 #[lvJ q0_, .second, lvJ q1_, .second, lvJ q2_, .second, lvJ q3_, .second, lvI p4_, lvI (0 : Int32), lvI (1 : Int32), lvI (0 : Int32), lvI (0 : Int32), lvR w14_, lvR w23_, lvR b31, lvR b40, .unset, .unset] [(.int (0 : Int32)), (.long (1 : Int64))] _
            refine XS.ifYes X204.here hx rfl (pc0 := 210) (pc' := 217) rfl (hb hby at_210) rfl ((if0 _ _).trans (teq (by decide : (0 : Int32) = (0 : Int32))).1) (by decide) (by decide) ?_
            refine XS.lconst X204.here hx rfl (hb hby at_217) ?_
            refine XS.ladd X204.here hx rfl (hb hby at_218) rfl ?_
            refine XS.lstore X204.here hx rfl (hb hby at_219) rfl (l' := #[lvJ q0_, .second, lvJ q1_, .second, lvJ q2_, .second, lvJ q3_, .second, lvI p4_, lvI (0 : Int32), lvI (1 : Int32), lvI (0 : Int32), lvI (0 : Int32), lvR w14_, lvR w23_, lvR b31, lvR b40, lvJ (1 : Int64), .second]) rfl ?_
            show own_S p e below m T204 221 #[lvJ q0_, .second, lvJ q1_, .second, lvJ q2_, .second, lvJ q3_, .second, lvI p4_, lvI (0 : Int32), lvI (1 : Int32), lvI (0 : Int32), lvI (0 : Int32), lvR w14_, lvR w23_, lvR b31, lvR b40, lvJ (1 : Int64), .second] [] _
            refine XS.aload X204.here hx rfl (hb hby at_221) rfl rfl ?_
            show own_S p e below m T204 223 #[lvJ q0_, .second, lvJ q1_, .second, lvJ q2_, .second, lvJ q3_, .second, lvI p4_, lvI (0 : Int32), lvI (1 : Int32), lvI (0 : Int32), lvI (0 : Int32), lvR w14_, lvR w23_, lvR b31, lvR b40, lvJ (1 : Int64), .second] [(.ref b31)] _
            refine st211.trans ?_
            refine XS.lload X211.here hx rfl (hb hby at_226) rfl ?_
            refine XS.lcmp X211.here hx rfl (hb hby at_228) rfl ?_
            show own_S p e below m T211 229 #[lvJ q0_, .second, lvJ q1_, .second, lvJ q2_, .second, lvJ q3_, .second, lvI p4_, lvI (0 : Int32), lvI (1 : Int32), lvI (0 : Int32), lvI (0 : Int32), lvR w14_, lvR w23_, lvR b31, lvR b40, lvJ (1 : Int64), .second] [(.int (lcmpW (1 : Int64) (1 : Int64)))] _
            refine XS.ifNo X211.here hx rfl (hb hby at_229) rfl ((if0 _ _).trans (teq ((lw_eq _ _).mpr (by decide : (1 : Int64) = (1 : Int64)))).2) ?_
            refine XS.aload X211.here hx rfl (hb hby at_232) rfl rfl ?_
            show own_S p e below m T211 234 #[lvJ q0_, .second, lvJ q1_, .second, lvJ q2_, .second, lvJ q3_, .second, lvI p4_, lvI (0 : Int32), lvI (1 : Int32), lvI (0 : Int32), lvI (0 : Int32), lvR w14_, lvR w23_, lvR b31, lvR b40, lvJ (1 : Int64), .second] [(.ref b31)] _
            refine st214.trans ?_
            refine XS.iload X214.here hx rfl (hb hby at_237) rfl ?_
            refine XS.lloadN X214.here hx rfl (hb hby at_239) rfl ?_
            refine XS.iload X214.here hx rfl (hb hby at_240) rfl ?_
            show own_S p e below m T214 242 #[lvJ q0_, .second, lvJ q1_, .second, lvJ q2_, .second, lvJ q3_, .second, lvI p4_, lvI (0 : Int32), lvI (1 : Int32), lvI (0 : Int32), lvI (0 : Int32), lvR w14_, lvR w23_, lvR b31, lvR b40, lvJ (1 : Int64), .second] [(.int (0 : Int32)), (.long q0_), (.int (0 : Int32)), (.long (own_max (-9223372036854775808 : Int64) (-9223372036854775808 : Int64)))] _
            refine XS.lload X214.here hx rfl (hb hby at_242) rfl ?_
            show own_S p e below m T214 244 #[lvJ q0_, .second, lvJ q1_, .second, lvJ q2_, .second, lvJ q3_, .second, lvI p4_, lvI (0 : Int32), lvI (1 : Int32), lvI (0 : Int32), lvI (0 : Int32), lvR w14_, lvR w23_, lvR b31, lvR b40, lvJ (1 : Int64), .second] [(.long q2_), (.int (0 : Int32)), (.long q0_), (.int (0 : Int32)), (.long (own_max (-9223372036854775808 : Int64) (-9223372036854775808 : Int64)))] _
            refine st216 _ ?_
            refine XS.lcmp X216.here hx rfl (hb hby at_247) rfl ?_
            show own_S p e below m T216 248 #[lvJ q0_, .second, lvJ q1_, .second, lvJ q2_, .second, lvJ q3_, .second, lvI p4_, lvI (0 : Int32), lvI (1 : Int32), lvI (0 : Int32), lvI (0 : Int32), lvR w14_, lvR w23_, lvR b31, lvR b40, lvJ (1 : Int64), .second] [(.int (lcmpW (own_max (-9223372036854775808 : Int64) (-9223372036854775808 : Int64)) (-9223372036854775808 : Int64)))] _
            refine XS.ifNo X216.here hx rfl (hb hby at_248) rfl ((if0 _ _).trans (teq ((lw_eq _ _).mpr (by simp only [own_minl, own_minr]))).2) ?_
            refine XS.aload X216.here hx rfl (hb hby at_251) rfl rfl ?_
            show own_S p e below m T216 253 #[lvJ q0_, .second, lvJ q1_, .second, lvJ q2_, .second, lvJ q3_, .second, lvI p4_, lvI (0 : Int32), lvI (1 : Int32), lvI (0 : Int32), lvI (0 : Int32), lvR w14_, lvR w23_, lvR b31, lvR b40, lvJ (1 : Int64), .second] [(.ref b31)] _
            refine st218.trans ?_
            refine XS.iload X218.here hx rfl (hb hby at_256) rfl ?_
            refine XS.lloadN X218.here hx rfl (hb hby at_258) rfl ?_
            refine XS.iload X218.here hx rfl (hb hby at_259) rfl ?_
            show own_S p e below m T218 261 #[lvJ q0_, .second, lvJ q1_, .second, lvJ q2_, .second, lvJ q3_, .second, lvI p4_, lvI (0 : Int32), lvI (1 : Int32), lvI (0 : Int32), lvI (0 : Int32), lvR w14_, lvR w23_, lvR b31, lvR b40, lvJ (1 : Int64), .second] [(.int (0 : Int32)), (.long q1_), (.int (1 : Int32)), (.long (own_max (own_max (-9223372036854775808 : Int64) q1_) (-9223372036854775808 : Int64)))] _
            refine XS.lload X218.here hx rfl (hb hby at_261) rfl ?_
            show own_S p e below m T218 263 #[lvJ q0_, .second, lvJ q1_, .second, lvJ q2_, .second, lvJ q3_, .second, lvI p4_, lvI (0 : Int32), lvI (1 : Int32), lvI (0 : Int32), lvI (0 : Int32), lvR w14_, lvR w23_, lvR b31, lvR b40, lvJ (1 : Int64), .second] [(.long q3_), (.int (0 : Int32)), (.long q1_), (.int (1 : Int32)), (.long (own_max (own_max (-9223372036854775808 : Int64) q1_) (-9223372036854775808 : Int64)))] _
            refine st220 _ ?_
            refine XS.lcmp X220.here hx rfl (hb hby at_266) rfl ?_
            show own_S p e below m T220 267 #[lvJ q0_, .second, lvJ q1_, .second, lvJ q2_, .second, lvJ q3_, .second, lvI p4_, lvI (0 : Int32), lvI (1 : Int32), lvI (0 : Int32), lvI (0 : Int32), lvR w14_, lvR w23_, lvR b31, lvR b40, lvJ (1 : Int64), .second] [(.int (lcmpW (own_max (own_max (-9223372036854775808 : Int64) q1_) (-9223372036854775808 : Int64)) q1_))] _
            refine XS.ifNo X220.here hx rfl (hb hby at_267) rfl ((if0 _ _).trans (teq ((lw_eq _ _).mpr (by simp only [own_minl, own_minr]))).2) ?_
            refine XS.iconst X220.here hx rfl (hb hby at_270) ?_
            refine XS.goto X220.here hx rfl (pc0 := 271) (pc' := 275) rfl (hb hby at_271) (by decide) (by decide) ?_
            exact kt
          obtain ⟨fs, hr, hrun, hended, hW, hsame⟩ := X220.leave (v := some (.int (1 : Int32))) (fun h => by rw [Bd.returns] at h; cases h)
          refine ⟨_, _, hG _ (pre222 _ (retN X220 hx (t := .boolean) Bd.returns (by simp) (hb hby at_275) hr)), hrun, hended, _, _, rfl, ?_, ⟨_, rfl⟩, hW, hsame.mono (by decide) (by decide)⟩
          show QLaw Z q0_ q1_ q2_ q3_ p4_ w_PUT w_DELETE_COLUMN w_DELETE_FAMILY h0 n0 _ T220.heap _
          rw [e220']
          exact ⟨rfl, N221⟩
        · have f225 : Exa Z h188 b40 cn0 := g49_0.keep K188
          have f226 : Fld Z h188 b40 cn0 "latestTimestamp" "J" (.long (-9223372036854775808 : Int64)) := g49_1.keep K188 (ninS (Ne.symm ne193) nin0)
          have f227 : Fld Z h188 b40 cn0 "latestDeleteTimestamp" "J" (.long (-9223372036854775808 : Int64)) := g49_2.keep K188 (ninS (Ne.symm ne193) nin0)
          have f228 : Fld Z h188 b40 cn0 "cells" "J" (.long (0 : Int64)) := g49_3.keep K188 (ninS (Ne.symm ne193) nin0)
          have f229 : Old Z n0 h188 := f198.keep K188 (allS (ge32) all0)
          obtain ⟨cq224, kq224, q224a, q224b, q224c⟩ := isOf hZ e188 f225
          obtain ⟨_, _, ⟨T224, L224, k224, n224⟩, -, X224, ⟨Lc224, hQ224, l224, y224, z224⟩, st224⟩ := X188.virtualBack hx (y := (⟨"com/example/zenodotus/zenodotus/io/RowCodec$Tally", "count", "(Lcom/example/zenodotus/zenodotus/model/Cell$Kind;J)V"⟩ : MethodName)) (z := (⟨"com/example/zenodotus/zenodotus/io/RowCodec$Tally", "count", "(Lcom/example/zenodotus/zenodotus/model/Cell$Kind;J)V"⟩ : MethodName)) hown (mvT hZ (own_w hw 19 rfl)) (mvT hZ (own_w hw 20 rfl)) (notFace_of_selects (args := #[]) (mvT hZ (own_w hw 22 rfl))) (mvT hZ (own_w hw 22 rfl)) (mvT hZ (own_w hw 21 rfl)) (by decide) (backOf (W := 0) (rmcount7 l Z a0 hw [] b40 w23_ q3_ w_PUT h188 n0 f229 f225 f226 f227 f228 E23 ge42 P1 P2 P0 n23_0) hZ (own_w hw 23 rfl) (own_w hw 5 rfl) (by decide) (by decide)) q224a q224c (g := (mkF m 166 #[lvJ q0_, .second, lvJ q1_, .second, lvJ q2_, .second, lvJ q3_, .second, lvI p4_, lvI (0 : Int32), lvI (1 : Int32), lvI (0 : Int32), lvI (1 : Int32), lvR w14_, lvR w23_, lvR b31, lvR b40, .unset, .unset] [(.long q3_), (.ref w23_), (.ref b40)])) rfl (by rw [hml]; rfl) (Steps.refl _) (argsL := [(.ref w23_), (.long q3_)]) (rest := []) (lenOf pd_5 rfl) rfl (by show 2 * 0 + _ ≤ _; exact Nat.le_of_eq rfl) (hb hby at_166) (fun _ _ => ⟨rfl, e188, (by decide : 2 + 0 ≤ _), (by decide : 6 + 0 ≤ _)⟩)
          dsimp only [Pt.U, Pt.locs, Pt.cells, Pt.slots] at X224 l224 y224 z224 st224 hQ224
          subst l224 y224 z224
          obtain ⟨h224, e224⟩ : ∃ z, T224.heap = z := ⟨_, rfl⟩
          rw [e224] at hQ224
          obtain ⟨rfl, N224q, K224, g224_0, g224_1, g224_2, g224_3⟩ := hQ224
          have N230 := Fr.app N199 N224q
          have f232 : Exa Z h224 b31 cn0 := g188_0.keep K224
          have f233 : Fld Z h224 b31 cn0 "latestTimestamp" "J" (.long (-9223372036854775808 : Int64)) := g188_1.keep K224 (ninS ne193 nin0)
          have f234 : Fld Z h224 b31 cn0 "latestDeleteTimestamp" "J" (.long (own_max (-9223372036854775808 : Int64) q1_)) := g188_2.keep K224 (ninS ne193 nin0)
          have f235 : Fld Z h224 b31 cn0 "cells" "J" (.long (1 : Int64)) := g188_3.keep K224 (ninS ne193 nin0)
          have f236 : Old Z n0 h224 := f229.keep K224 (allS (ge42) all0)
          obtain ⟨cq231, kq231, q231a, q231b, q231c⟩ := isOf hZ e224 f232
          obtain ⟨_, _, ⟨T231, L231, k231, n231⟩, -, X231, ⟨Lc231, hQ231, l231, y231, z231⟩, st231⟩ := X224.virtualBack hx (y := (⟨"com/example/zenodotus/zenodotus/io/RowCodec$Tally", "add", "(Lcom/example/zenodotus/zenodotus/io/RowCodec$Tally;)V"⟩ : MethodName)) (z := (⟨"com/example/zenodotus/zenodotus/io/RowCodec$Tally", "add", "(Lcom/example/zenodotus/zenodotus/io/RowCodec$Tally;)V"⟩ : MethodName)) hown (mvT hZ (own_w hw 31 rfl)) (mvT hZ (own_w hw 32 rfl)) (notFace_of_selects (args := #[]) (mvT hZ (own_w hw 34 rfl))) (mvT hZ (own_w hw 34 rfl)) (mvT hZ (own_w hw 33 rfl)) (by decide) (backOf (W := 0) (rmadd22 l Z a0 hw [] b31 b40 (own_max (-9223372036854775808 : Int64) q1_) (own_max (-9223372036854775808 : Int64) q3_) h224 n0 f236 f232 f233 f234 f235 g224_0 g224_1 g224_2 g224_3 ge32 (Ne.symm ne193)) hZ (own_w hw 35 rfl) (own_w hw 5 rfl) (by decide) (by decide)) q231a q231c (g := (mkF m 173 #[lvJ q0_, .second, lvJ q1_, .second, lvJ q2_, .second, lvJ q3_, .second, lvI p4_, lvI (0 : Int32), lvI (1 : Int32), lvI (0 : Int32), lvI (1 : Int32), lvR w14_, lvR w23_, lvR b31, lvR b40, .unset, .unset] [(.ref b40), (.ref b31)])) rfl (by rw [hml]; rfl) (Steps.refl _) (argsL := [(.ref b40)]) (rest := []) (lenOf pd_2 rfl) rfl (by show 2 * 0 + _ ≤ _; exact Nat.le_of_eq rfl) (hb hby at_173) (fun _ _ => ⟨rfl, e224, (by decide : 2 + 0 ≤ _), (by decide : 6 + 0 ≤ _)⟩)
          dsimp only [Pt.U, Pt.locs, Pt.cells, Pt.slots] at X231 l231 y231 z231 st231 hQ231
          subst l231 y231 z231
          obtain ⟨h231, e231⟩ : ∃ z, T231.heap = z := ⟨_, rfl⟩
          rw [e231] at hQ231
          obtain ⟨rfl, N231q, K231, g231_0, g231_1, g231_2, g231_3⟩ := hQ231
          have N237 := Fr.app N230 N231q
          have f239 : Old Z n0 h231 := f236.keep K231 (allS (ge32) all0)
          obtain ⟨cq238, kq238, q238a, q238b, q238c⟩ := isOf hZ e231 g231_0
          obtain ⟨_, _, ⟨T238, L238, k238, n238⟩, -, X238, ⟨Lc238, hQ238, l238, y238, z238⟩, st238⟩ := X231.virtualBack hx (y := (⟨"com/example/zenodotus/zenodotus/io/RowCodec$Tally", "cells", "()J"⟩ : MethodName)) (z := (⟨"com/example/zenodotus/zenodotus/io/RowCodec$Tally", "cells", "()J"⟩ : MethodName)) hown (mvT hZ (own_w hw 36 rfl)) (mvT hZ (own_w hw 37 rfl)) (notFace_of_selects (args := #[]) (mvT hZ (own_w hw 39 rfl))) (mvT hZ (own_w hw 39 rfl)) (mvT hZ (own_w hw 38 rfl)) (by decide) (backOf (W := 0) (rmcells17 l Z a0 hw [] b31 (own_max (-9223372036854775808 : Int64) (-9223372036854775808 : Int64)) (own_max (own_max (-9223372036854775808 : Int64) q1_) (own_max (-9223372036854775808 : Int64) q3_)) h231 n0 f239 g231_0 g231_1 g231_2 g231_3) hZ (own_w hw 40 rfl) (own_w hw 5 rfl) (by decide) (by decide)) q238a q238c (g := (mkF m 223 #[lvJ q0_, .second, lvJ q1_, .second, lvJ q2_, .second, lvJ q3_, .second, lvI p4_, lvI (0 : Int32), lvI (1 : Int32), lvI (0 : Int32), lvI (1 : Int32), lvR w14_, lvR w23_, lvR b31, lvR b40, lvJ (2 : Int64), .second] [(.ref b31)])) rfl (by rw [hml]; rfl) (Steps.refl _) (argsL := []) (rest := []) (lenOf pd_3 rfl) rfl (by show 2 * 0 + _ ≤ _; exact Nat.le_of_eq rfl) (hb hby at_223) (fun _ _ => ⟨rfl, e231, (by decide : 2 + 0 ≤ _), (by decide : 6 + 0 ≤ _)⟩)
          dsimp only [Pt.U, Pt.locs, Pt.cells, Pt.slots] at X238 l238 y238 z238 st238 hQ238
          subst l238 y238 z238
          obtain ⟨h238, e238⟩ : ∃ z, T238.heap = z := ⟨_, rfl⟩
          rw [e238] at hQ238
          obtain ⟨rfl, N238q, hh238⟩ := hQ238
          have N240 := Fr.app N237 N238q
          have e238' : T238.heap = h231 := e238.trans hh238
          obtain ⟨cq241, kq241, q241a, q241b, q241c⟩ := isOf hZ e238' g231_0
          obtain ⟨_, _, ⟨T241, L241, k241, n241⟩, -, X241, ⟨Lc241, hQ241, l241, y241, z241⟩, st241⟩ := X238.virtualBack hx (y := (⟨"com/example/zenodotus/zenodotus/io/RowCodec$Tally", "latestTimestamp", "()J"⟩ : MethodName)) (z := (⟨"com/example/zenodotus/zenodotus/io/RowCodec$Tally", "latestTimestamp", "()J"⟩ : MethodName)) hown (mvT hZ (own_w hw 41 rfl)) (mvT hZ (own_w hw 42 rfl)) (notFace_of_selects (args := #[]) (mvT hZ (own_w hw 44 rfl))) (mvT hZ (own_w hw 44 rfl)) (mvT hZ (own_w hw 43 rfl)) (by decide) (backOf (W := 0) (rmlatestTimestamp18 l Z a0 hw [] b31 (own_max (-9223372036854775808 : Int64) (-9223372036854775808 : Int64)) (own_max (own_max (-9223372036854775808 : Int64) q1_) (own_max (-9223372036854775808 : Int64) q3_)) h231 n0 f239 g231_0 g231_1 g231_2 g231_3) hZ (own_w hw 45 rfl) (own_w hw 5 rfl) (by decide) (by decide)) q241a q241c (g := (mkF m 234 #[lvJ q0_, .second, lvJ q1_, .second, lvJ q2_, .second, lvJ q3_, .second, lvI p4_, lvI (0 : Int32), lvI (1 : Int32), lvI (0 : Int32), lvI (1 : Int32), lvR w14_, lvR w23_, lvR b31, lvR b40, lvJ (2 : Int64), .second] [(.ref b31)])) rfl (by rw [hml]; rfl) (Steps.refl _) (argsL := []) (rest := []) (lenOf pd_3 rfl) rfl (by show 2 * 0 + _ ≤ _; exact Nat.le_of_eq rfl) (hb hby at_234) (fun _ _ => ⟨rfl, e238', (by decide : 2 + 0 ≤ _), (by decide : 6 + 0 ≤ _)⟩)
          dsimp only [Pt.U, Pt.locs, Pt.cells, Pt.slots] at X241 l241 y241 z241 st241 hQ241
          subst l241 y241 z241
          obtain ⟨h241, e241⟩ : ∃ z, T241.heap = z := ⟨_, rfl⟩
          rw [e241] at hQ241
          obtain ⟨rfl, N241q, hh241⟩ := hQ241
          have N242 := Fr.app N240 N241q
          have e241' : T241.heap = h231 := e241.trans hh241
          obtain ⟨_, _, ⟨T243, L243, k243, n243⟩, -, X243, ⟨Lc243, hQ243, l243, y243, z243⟩, st243⟩ := Jvm.LawKit.callS X241 hx (y := (⟨"com/example/zenodotus/zenodotus/io/TallyAddPinLaw", "expect", "(ZJZJ)J"⟩ : MethodName)) hown (mvT hZ (own_w hw 46 rfl)) (mvT hZ (own_w hw 47 rfl)) (mvT hZ (own_w hw 48 rfl)) (mvT hZ (own_w hw 49 rfl)) (by decide) (backOf (W := 2) (rmexpect5 l Z a0 hw [] q0_ q2_ h231 n0 f239 ) hZ (own_w hw 49 rfl) (own_w hw 48 rfl) (by decide) (by decide)) (g := (mkF m 244 #[lvJ q0_, .second, lvJ q1_, .second, lvJ q2_, .second, lvJ q3_, .second, lvI p4_, lvI (0 : Int32), lvI (1 : Int32), lvI (0 : Int32), lvI (1 : Int32), lvR w14_, lvR w23_, lvR b31, lvR b40, lvJ (2 : Int64), .second] [(.long q2_), (.int (0 : Int32)), (.long q0_), (.int (0 : Int32)), (.long (own_max (-9223372036854775808 : Int64) (-9223372036854775808 : Int64)))])) rfl (by rw [hml]; rfl) (argsL := [(.int (0 : Int32)), (.long q0_), (.int (0 : Int32)), (.long q2_)]) (rest := [(.long (own_max (-9223372036854775808 : Int64) (-9223372036854775808 : Int64)))]) (lenOf pd_4 rfl) rfl (by show 2 * 0 + _ ≤ _; exact Nat.le_of_eq rfl) (hb hby at_244) (fun _ _ => ⟨rfl, e241', (by decide : 2 + 0 ≤ _), (by decide : 6 + 0 ≤ _)⟩)
          dsimp only [Pt.U, Pt.locs, Pt.cells, Pt.slots] at X243 l243 y243 z243 st243 hQ243
          subst l243 y243 z243
          obtain ⟨h243, e243⟩ : ∃ z, T243.heap = z := ⟨_, rfl⟩
          rw [e243] at hQ243
          obtain ⟨rfl, N243q, hh243⟩ := hQ243
          have N244 := Fr.app N242 N243q
          have e243' : T243.heap = h231 := e243.trans hh243
          obtain ⟨cq245, kq245, q245a, q245b, q245c⟩ := isOf hZ e243' g231_0
          obtain ⟨_, _, ⟨T245, L245, k245, n245⟩, -, X245, ⟨Lc245, hQ245, l245, y245, z245⟩, st245⟩ := X243.virtualBack hx (y := (⟨"com/example/zenodotus/zenodotus/io/RowCodec$Tally", "latestDeleteTimestamp", "()J"⟩ : MethodName)) (z := (⟨"com/example/zenodotus/zenodotus/io/RowCodec$Tally", "latestDeleteTimestamp", "()J"⟩ : MethodName)) hown (mvT hZ (own_w hw 50 rfl)) (mvT hZ (own_w hw 51 rfl)) (notFace_of_selects (args := #[]) (mvT hZ (own_w hw 53 rfl))) (mvT hZ (own_w hw 53 rfl)) (mvT hZ (own_w hw 52 rfl)) (by decide) (backOf (W := 0) (rmlatestDeleteTimestamp19 l Z a0 hw [] b31 (own_max (-9223372036854775808 : Int64) (-9223372036854775808 : Int64)) (own_max (own_max (-9223372036854775808 : Int64) q1_) (own_max (-9223372036854775808 : Int64) q3_)) h231 n0 f239 g231_0 g231_1 g231_2 g231_3) hZ (own_w hw 54 rfl) (own_w hw 5 rfl) (by decide) (by decide)) q245a q245c (g := (mkF m 253 #[lvJ q0_, .second, lvJ q1_, .second, lvJ q2_, .second, lvJ q3_, .second, lvI p4_, lvI (0 : Int32), lvI (1 : Int32), lvI (0 : Int32), lvI (1 : Int32), lvR w14_, lvR w23_, lvR b31, lvR b40, lvJ (2 : Int64), .second] [(.ref b31)])) rfl (by rw [hml]; rfl) (Steps.refl _) (argsL := []) (rest := []) (lenOf pd_3 rfl) rfl (by show 2 * 0 + _ ≤ _; exact Nat.le_of_eq rfl) (hb hby at_253) (fun _ _ => ⟨rfl, e243', (by decide : 2 + 0 ≤ _), (by decide : 6 + 0 ≤ _)⟩)
          dsimp only [Pt.U, Pt.locs, Pt.cells, Pt.slots] at X245 l245 y245 z245 st245 hQ245
          subst l245 y245 z245
          obtain ⟨h245, e245⟩ : ∃ z, T245.heap = z := ⟨_, rfl⟩
          rw [e245] at hQ245
          obtain ⟨rfl, N245q, hh245⟩ := hQ245
          have N246 := Fr.app N244 N245q
          have e245' : T245.heap = h231 := e245.trans hh245
          obtain ⟨_, _, ⟨T247, L247, k247, n247⟩, -, X247, ⟨Lc247, hQ247, l247, y247, z247⟩, st247⟩ := Jvm.LawKit.callS X245 hx (y := (⟨"com/example/zenodotus/zenodotus/io/TallyAddPinLaw", "expect", "(ZJZJ)J"⟩ : MethodName)) hown (mvT hZ (own_w hw 46 rfl)) (mvT hZ (own_w hw 47 rfl)) (mvT hZ (own_w hw 48 rfl)) (mvT hZ (own_w hw 49 rfl)) (by decide) (backOf (W := 2) (rmexpect23 l Z a0 hw [] q1_ q3_ h231 n0 f239 ) hZ (own_w hw 49 rfl) (own_w hw 48 rfl) (by decide) (by decide)) (g := (mkF m 263 #[lvJ q0_, .second, lvJ q1_, .second, lvJ q2_, .second, lvJ q3_, .second, lvI p4_, lvI (0 : Int32), lvI (1 : Int32), lvI (0 : Int32), lvI (1 : Int32), lvR w14_, lvR w23_, lvR b31, lvR b40, lvJ (2 : Int64), .second] [(.long q3_), (.int (1 : Int32)), (.long q1_), (.int (1 : Int32)), (.long (own_max (own_max (-9223372036854775808 : Int64) q1_) (own_max (-9223372036854775808 : Int64) q3_)))])) rfl (by rw [hml]; rfl) (argsL := [(.int (1 : Int32)), (.long q1_), (.int (1 : Int32)), (.long q3_)]) (rest := [(.long (own_max (own_max (-9223372036854775808 : Int64) q1_) (own_max (-9223372036854775808 : Int64) q3_)))]) (lenOf pd_4 rfl) rfl (by show 2 * 0 + _ ≤ _; exact Nat.le_of_eq rfl) (hb hby at_263) (fun _ _ => ⟨rfl, e245', (by decide : 2 + 0 ≤ _), (by decide : 6 + 0 ≤ _)⟩)
          dsimp only [Pt.U, Pt.locs, Pt.cells, Pt.slots] at X247 l247 y247 z247 st247 hQ247
          subst l247 y247 z247
          obtain ⟨h247, e247⟩ : ∃ z, T247.heap = z := ⟨_, rfl⟩
          rw [e247] at hQ247
          obtain ⟨rr247, rfl, hs247, N247q, hh247⟩ := hQ247
          have N248 := Fr.app N246 N247q
          have e247' : T247.heap = h231 := e247.trans hh247
          rcases hs247 with ⟨rfl, hq247_0_0⟩ | ⟨rfl, hq247_1_0⟩
          · have pre249 : ∀ t, own_S p e below m T247 275 #[lvJ q0_, .second, lvJ q1_, .second, lvJ q2_, .second, lvJ q3_, .second, lvI p4_, lvI (0 : Int32), lvI (1 : Int32), lvI (0 : Int32), lvI (1 : Int32), lvR w14_, lvR w23_, lvR b31, lvR b40, lvJ (2 : Int64), .second] [(.int (1 : Int32))] t → G t := by
              intro t kt
              refine pre202 t ?_
              show own_S p e below m T188 157 #[lvJ q0_, .second, lvJ q1_, .second, lvJ q2_, .second, lvJ q3_, .second, lvI p4_, lvI (0 : Int32), lvI (1 : Int32), lvI (0 : Int32), lvI (1 : Int32), lvR w14_, lvR w23_, lvR b31, lvR b40, .unset, .unset] [(.int (1 : Int32))] _
              refine XS.ifNo X188.here hx rfl (hb hby at_157) rfl ((if0 _ _).trans (feq (by decide : ¬ ((1 : Int32) = (0 : Int32)))).1) ?_
              refine XS.aload X188.here hx rfl (hb hby at_160) rfl rfl ?_
              refine XS.aload X188.here hx rfl (hb hby at_162) rfl rfl ?_
              refine XS.lload X188.here hx rfl (hb hby at_164) rfl ?_
              show own_S p e below m T188 166 #[lvJ q0_, .second, lvJ q1_, .second, lvJ q2_, .second, lvJ q3_, .second, lvI p4_, lvI (0 : Int32), lvI (1 : Int32), lvI (0 : Int32), lvI (1 : Int32), lvR w14_, lvR w23_, lvR b31, lvR b40, .unset, .unset] [(.long q3_), (.ref w23_), (.ref b40)] _
              refine st224.trans ?_
              refine XS.aload X224.here hx rfl (hb hby at_169) rfl rfl ?_
              refine XS.aload X224.here hx rfl (hb hby at_171) rfl rfl ?_
              show own_S p e below m T224 173 #[lvJ q0_, .second, lvJ q1_, .second, lvJ q2_, .second, lvJ q3_, .second, lvI p4_, lvI (0 : Int32), lvI (1 : Int32), lvI (0 : Int32), lvI (1 : Int32), lvR w14_, lvR w23_, lvR b31, lvR b40, .unset, .unset] [(.ref b40), (.ref b31)] _
              refine st231.trans ?_
              refine XS.iload X231.here hx rfl (hb hby at_176) rfl ?_
              show own_S p e below m T231 178 #[lvJ q0_, .second, lvJ q1_, .second, lvJ q2_, .second, lvJ q3_, .second, lvI p4_, lvI (0 : Int32), lvI (1 : Int32), lvI (0 : Int32), lvI (1 : Int32), lvR w14_, lvR w23_, lvR b31, lvR b40, .unset, .unset] [(.int (0 : Int32))] _
              refine XS.ifYes X231.here hx rfl (pc0 := 178) (pc' := 185) rfl (hb hby at_178) rfl ((if0 _ _).trans (teq (by decide : (0 : Int32) = (0 : Int32))).1) (by decide) (by decide) ?_
              refine XS.lconst X231.here hx rfl (hb hby at_185) ?_
              refine XS.iload X231.here hx rfl (hb hby at_186) rfl ?_
              show own_S p e below m T231 188 #[lvJ q0_, .second, lvJ q1_, .second, lvJ q2_, .second, lvJ q3_, .second, lvI p4_, lvI (0 : Int32), lvI (1 : Int32), lvI (0 : Int32), lvI (1 : Int32), lvR w14_, lvR w23_, lvR b31, lvR b40, .unset, .unset] [(.int (1 : Int32)), (.long (0 : Int64))] _
              refine XS.ifNo X231.here hx rfl (hb hby at_188) rfl ((if0 _ _).trans (feq (by decide : ¬ ((1 : Int32) = (0 : Int32)))).1) ?_
              refine XS.lconst X231.here hx rfl (hb hby at_191) ?_
              refine XS.goto X231.here hx rfl (pc0 := 192) (pc' := 196) rfl (hb hby at_192) (by decide) (by decide) ?_
              refine XS.ladd X231.here hx rfl (hb hby at_196) rfl ?_
              show own_S p e below m T231 197 #[lvJ q0_, .second, lvJ q1_, .second, lvJ q2_, .second, lvJ q3_, .second, lvI p4_, lvI (0 : Int32), lvI (1 : Int32), lvI (0 : Int32), lvI (1 : Int32), lvR w14_, lvR w23_, lvR b31, lvR b40, .unset, .unset] [(.long (1 : Int64))] _
              refine XS.iload X231.here hx rfl (hb hby at_197) rfl ?_
              show own_S p e below m T231 199 #[lvJ q0_, .second, lvJ q1_, .second, lvJ q2_, .second, lvJ q3_, .second, lvI p4_, lvI (0 : Int32), lvI (1 : Int32), lvI (0 : Int32), lvI (1 : Int32), lvR w14_, lvR w23_, lvR b31, lvR b40, .unset, .unset] [(.int (0 : Int32)), (.long (1 : Int64))] _
              refine XS.ifYes X231.here hx rfl (pc0 := 199) (pc' := 206) rfl (hb hby at_199) rfl ((if0 _ _).trans (teq (by decide : (0 : Int32) = (0 : Int32))).1) (by decide) (by decide) ?_
              refine XS.lconst X231.here hx rfl (hb hby at_206) ?_
              refine XS.ladd X231.here hx rfl (hb hby at_207) rfl ?_
              refine XS.iload X231.here hx rfl (hb hby at_208) rfl ?_
              show own_S p e below m T231 210 #[lvJ q0_, .second, lvJ q1_, .second, lvJ q2_, .second, lvJ q3_, .second, lvI p4_, lvI (0 : Int32), lvI (1 : Int32), lvI (0 : Int32), lvI (1 : Int32), lvR w14_, lvR w23_, lvR b31, lvR b40, .unset, .unset] [(.int (1 : Int32)), (.long (1 : Int64))] _
              refine XS.ifNo X231.here hx rfl (hb hby at_210) rfl ((if0 _ _).trans (feq (by decide : ¬ ((1 : Int32) = (0 : Int32)))).1) ?_
              refine XS.lconst X231.here hx rfl (hb hby at_213) ?_
              refine XS.goto X231.here hx rfl (pc0 := 214) (pc' := 218) rfl (hb hby at_214) (by decide) (by decide) ?_
              refine XS.ladd X231.here hx rfl (hb hby at_218) rfl ?_
              show own_S p e below m T231 219 #[lvJ q0_, .second, lvJ q1_, .second, lvJ q2_, .second, lvJ q3_, .second, lvI p4_, lvI (0 : Int32), lvI (1 : Int32), lvI (0 : Int32), lvI (1 : Int32), lvR w14_, lvR w23_, lvR b31, lvR b40, .unset, .unset] [(.long (2 : Int64))] _
              refine XS.lstore X231.here hx rfl (hb hby at_219) rfl (l' := #[lvJ q0_, .second, lvJ q1_, .second, lvJ q2_, .second, lvJ q3_, .second, lvI p4_, lvI (0 : Int32), lvI (1 : Int32), lvI (0 : Int32), lvI (1 : Int32), lvR w14_, lvR w23_, lvR b31, lvR b40, lvJ (2 : Int64), .second]) rfl ?_
              refine XS.aload X231.here hx rfl (hb hby at_221) rfl rfl ?_
              show own_S p e below m T231 223 #[lvJ q0_, .second, lvJ q1_, .second, lvJ q2_, .second, lvJ q3_, .second, lvI p4_, lvI (0 : Int32), lvI (1 : Int32), lvI (0 : Int32), lvI (1 : Int32), lvR w14_, lvR w23_, lvR b31, lvR b40, lvJ (2 : Int64), .second] [(.ref b31)] _
              refine st238.trans ?_
              refine XS.lload X238.here hx rfl (hb hby at_226) rfl ?_
              refine XS.lcmp X238.here hx rfl (hb hby at_228) rfl ?_
              show own_S p e below m T238 229 #[lvJ q0_, .second, lvJ q1_, .second, lvJ q2_, .second, lvJ q3_, .second, lvI p4_, lvI (0 : Int32), lvI (1 : Int32), lvI (0 : Int32), lvI (1 : Int32), lvR w14_, lvR w23_, lvR b31, lvR b40, lvJ (2 : Int64), .second] [(.int (lcmpW (2 : Int64) (2 : Int64)))] _
              refine XS.ifNo X238.here hx rfl (hb hby at_229) rfl ((if0 _ _).trans (teq ((lw_eq _ _).mpr (by decide : (2 : Int64) = (2 : Int64)))).2) ?_
              refine XS.aload X238.here hx rfl (hb hby at_232) rfl rfl ?_
              show own_S p e below m T238 234 #[lvJ q0_, .second, lvJ q1_, .second, lvJ q2_, .second, lvJ q3_, .second, lvI p4_, lvI (0 : Int32), lvI (1 : Int32), lvI (0 : Int32), lvI (1 : Int32), lvR w14_, lvR w23_, lvR b31, lvR b40, lvJ (2 : Int64), .second] [(.ref b31)] _
              refine st241.trans ?_
              refine XS.iload X241.here hx rfl (hb hby at_237) rfl ?_
              refine XS.lloadN X241.here hx rfl (hb hby at_239) rfl ?_
              refine XS.iload X241.here hx rfl (hb hby at_240) rfl ?_
              show own_S p e below m T241 242 #[lvJ q0_, .second, lvJ q1_, .second, lvJ q2_, .second, lvJ q3_, .second, lvI p4_, lvI (0 : Int32), lvI (1 : Int32), lvI (0 : Int32), lvI (1 : Int32), lvR w14_, lvR w23_, lvR b31, lvR b40, lvJ (2 : Int64), .second] [(.int (0 : Int32)), (.long q0_), (.int (0 : Int32)), (.long (own_max (-9223372036854775808 : Int64) (-9223372036854775808 : Int64)))] _
              refine XS.lload X241.here hx rfl (hb hby at_242) rfl ?_
              show own_S p e below m T241 244 #[lvJ q0_, .second, lvJ q1_, .second, lvJ q2_, .second, lvJ q3_, .second, lvI p4_, lvI (0 : Int32), lvI (1 : Int32), lvI (0 : Int32), lvI (1 : Int32), lvR w14_, lvR w23_, lvR b31, lvR b40, lvJ (2 : Int64), .second] [(.long q2_), (.int (0 : Int32)), (.long q0_), (.int (0 : Int32)), (.long (own_max (-9223372036854775808 : Int64) (-9223372036854775808 : Int64)))] _
              refine st243 _ ?_
              refine XS.lcmp X243.here hx rfl (hb hby at_247) rfl ?_
              show own_S p e below m T243 248 #[lvJ q0_, .second, lvJ q1_, .second, lvJ q2_, .second, lvJ q3_, .second, lvI p4_, lvI (0 : Int32), lvI (1 : Int32), lvI (0 : Int32), lvI (1 : Int32), lvR w14_, lvR w23_, lvR b31, lvR b40, lvJ (2 : Int64), .second] [(.int (lcmpW (own_max (-9223372036854775808 : Int64) (-9223372036854775808 : Int64)) (-9223372036854775808 : Int64)))] _
              refine XS.ifNo X243.here hx rfl (hb hby at_248) rfl ((if0 _ _).trans (teq ((lw_eq _ _).mpr (by simp only [own_minl, own_minr]))).2) ?_
              refine XS.aload X243.here hx rfl (hb hby at_251) rfl rfl ?_
              show own_S p e below m T243 253 #[lvJ q0_, .second, lvJ q1_, .second, lvJ q2_, .second, lvJ q3_, .second, lvI p4_, lvI (0 : Int32), lvI (1 : Int32), lvI (0 : Int32), lvI (1 : Int32), lvR w14_, lvR w23_, lvR b31, lvR b40, lvJ (2 : Int64), .second] [(.ref b31)] _
              refine st245.trans ?_
              refine XS.iload X245.here hx rfl (hb hby at_256) rfl ?_
              refine XS.lloadN X245.here hx rfl (hb hby at_258) rfl ?_
              refine XS.iload X245.here hx rfl (hb hby at_259) rfl ?_
              show own_S p e below m T245 261 #[lvJ q0_, .second, lvJ q1_, .second, lvJ q2_, .second, lvJ q3_, .second, lvI p4_, lvI (0 : Int32), lvI (1 : Int32), lvI (0 : Int32), lvI (1 : Int32), lvR w14_, lvR w23_, lvR b31, lvR b40, lvJ (2 : Int64), .second] [(.int (1 : Int32)), (.long q1_), (.int (1 : Int32)), (.long (own_max (own_max (-9223372036854775808 : Int64) q1_) (own_max (-9223372036854775808 : Int64) q3_)))] _
              refine XS.lload X245.here hx rfl (hb hby at_261) rfl ?_
              show own_S p e below m T245 263 #[lvJ q0_, .second, lvJ q1_, .second, lvJ q2_, .second, lvJ q3_, .second, lvI p4_, lvI (0 : Int32), lvI (1 : Int32), lvI (0 : Int32), lvI (1 : Int32), lvR w14_, lvR w23_, lvR b31, lvR b40, lvJ (2 : Int64), .second] [(.long q3_), (.int (1 : Int32)), (.long q1_), (.int (1 : Int32)), (.long (own_max (own_max (-9223372036854775808 : Int64) q1_) (own_max (-9223372036854775808 : Int64) q3_)))] _
              refine st247 _ ?_
              refine XS.lcmp X247.here hx rfl (hb hby at_266) rfl ?_
              show own_S p e below m T247 267 #[lvJ q0_, .second, lvJ q1_, .second, lvJ q2_, .second, lvJ q3_, .second, lvI p4_, lvI (0 : Int32), lvI (1 : Int32), lvI (0 : Int32), lvI (1 : Int32), lvR w14_, lvR w23_, lvR b31, lvR b40, lvJ (2 : Int64), .second] [(.int (lcmpW (own_max (own_max (-9223372036854775808 : Int64) q1_) (own_max (-9223372036854775808 : Int64) q3_)) q1_))] _
              refine XS.ifNo X247.here hx rfl (hb hby at_267) rfl ((if0 _ _).trans (teq ((lw_eq _ _).mpr (by simp only [own_minl, own_minr] <;> first | (rfl) | (exact own_ml hq247_0_0)))).2) ?_
              refine XS.iconst X247.here hx rfl (hb hby at_270) ?_
              refine XS.goto X247.here hx rfl (pc0 := 271) (pc' := 275) rfl (hb hby at_271) (by decide) (by decide) ?_
              exact kt
            obtain ⟨fs, hr, hrun, hended, hW, hsame⟩ := X247.leave (v := some (.int (1 : Int32))) (fun h => by rw [Bd.returns] at h; cases h)
            refine ⟨_, _, hG _ (pre249 _ (retN X247 hx (t := .boolean) Bd.returns (by simp) (hb hby at_275) hr)), hrun, hended, _, _, rfl, ?_, ⟨_, rfl⟩, hW, hsame.mono (by decide) (by decide)⟩
            show QLaw Z q0_ q1_ q2_ q3_ p4_ w_PUT w_DELETE_COLUMN w_DELETE_FAMILY h0 n0 _ T247.heap _
            rw [e247']
            exact ⟨rfl, N248⟩
          · have pre251 : ∀ t, own_S p e below m T247 275 #[lvJ q0_, .second, lvJ q1_, .second, lvJ q2_, .second, lvJ q3_, .second, lvI p4_, lvI (0 : Int32), lvI (1 : Int32), lvI (0 : Int32), lvI (1 : Int32), lvR w14_, lvR w23_, lvR b31, lvR b40, lvJ (2 : Int64), .second] [(.int (1 : Int32))] t → G t := by
              intro t kt
              refine pre202 t ?_
              show own_S p e below m T188 157 #[lvJ q0_, .second, lvJ q1_, .second, lvJ q2_, .second, lvJ q3_, .second, lvI p4_, lvI (0 : Int32), lvI (1 : Int32), lvI (0 : Int32), lvI (1 : Int32), lvR w14_, lvR w23_, lvR b31, lvR b40, .unset, .unset] [(.int (1 : Int32))] _
              refine XS.ifNo X188.here hx rfl (hb hby at_157) rfl ((if0 _ _).trans (feq (by decide : ¬ ((1 : Int32) = (0 : Int32)))).1) ?_
              refine XS.aload X188.here hx rfl (hb hby at_160) rfl rfl ?_
              refine XS.aload X188.here hx rfl (hb hby at_162) rfl rfl ?_
              refine XS.lload X188.here hx rfl (hb hby at_164) rfl ?_
              show own_S p e below m T188 166 #[lvJ q0_, .second, lvJ q1_, .second, lvJ q2_, .second, lvJ q3_, .second, lvI p4_, lvI (0 : Int32), lvI (1 : Int32), lvI (0 : Int32), lvI (1 : Int32), lvR w14_, lvR w23_, lvR b31, lvR b40, .unset, .unset] [(.long q3_), (.ref w23_), (.ref b40)] _
              refine st224.trans ?_
              refine XS.aload X224.here hx rfl (hb hby at_169) rfl rfl ?_
              refine XS.aload X224.here hx rfl (hb hby at_171) rfl rfl ?_
              show own_S p e below m T224 173 #[lvJ q0_, .second, lvJ q1_, .second, lvJ q2_, .second, lvJ q3_, .second, lvI p4_, lvI (0 : Int32), lvI (1 : Int32), lvI (0 : Int32), lvI (1 : Int32), lvR w14_, lvR w23_, lvR b31, lvR b40, .unset, .unset] [(.ref b40), (.ref b31)] _
              refine st231.trans ?_
              refine XS.iload X231.here hx rfl (hb hby at_176) rfl ?_
              show own_S p e below m T231 178 #[lvJ q0_, .second, lvJ q1_, .second, lvJ q2_, .second, lvJ q3_, .second, lvI p4_, lvI (0 : Int32), lvI (1 : Int32), lvI (0 : Int32), lvI (1 : Int32), lvR w14_, lvR w23_, lvR b31, lvR b40, .unset, .unset] [(.int (0 : Int32))] _
              refine XS.ifYes X231.here hx rfl (pc0 := 178) (pc' := 185) rfl (hb hby at_178) rfl ((if0 _ _).trans (teq (by decide : (0 : Int32) = (0 : Int32))).1) (by decide) (by decide) ?_
              refine XS.lconst X231.here hx rfl (hb hby at_185) ?_
              refine XS.iload X231.here hx rfl (hb hby at_186) rfl ?_
              show own_S p e below m T231 188 #[lvJ q0_, .second, lvJ q1_, .second, lvJ q2_, .second, lvJ q3_, .second, lvI p4_, lvI (0 : Int32), lvI (1 : Int32), lvI (0 : Int32), lvI (1 : Int32), lvR w14_, lvR w23_, lvR b31, lvR b40, .unset, .unset] [(.int (1 : Int32)), (.long (0 : Int64))] _
              refine XS.ifNo X231.here hx rfl (hb hby at_188) rfl ((if0 _ _).trans (feq (by decide : ¬ ((1 : Int32) = (0 : Int32)))).1) ?_
              refine XS.lconst X231.here hx rfl (hb hby at_191) ?_
              refine XS.goto X231.here hx rfl (pc0 := 192) (pc' := 196) rfl (hb hby at_192) (by decide) (by decide) ?_
              refine XS.ladd X231.here hx rfl (hb hby at_196) rfl ?_
              show own_S p e below m T231 197 #[lvJ q0_, .second, lvJ q1_, .second, lvJ q2_, .second, lvJ q3_, .second, lvI p4_, lvI (0 : Int32), lvI (1 : Int32), lvI (0 : Int32), lvI (1 : Int32), lvR w14_, lvR w23_, lvR b31, lvR b40, .unset, .unset] [(.long (1 : Int64))] _
              refine XS.iload X231.here hx rfl (hb hby at_197) rfl ?_
              show own_S p e below m T231 199 #[lvJ q0_, .second, lvJ q1_, .second, lvJ q2_, .second, lvJ q3_, .second, lvI p4_, lvI (0 : Int32), lvI (1 : Int32), lvI (0 : Int32), lvI (1 : Int32), lvR w14_, lvR w23_, lvR b31, lvR b40, .unset, .unset] [(.int (0 : Int32)), (.long (1 : Int64))] _
              refine XS.ifYes X231.here hx rfl (pc0 := 199) (pc' := 206) rfl (hb hby at_199) rfl ((if0 _ _).trans (teq (by decide : (0 : Int32) = (0 : Int32))).1) (by decide) (by decide) ?_
              refine XS.lconst X231.here hx rfl (hb hby at_206) ?_
              refine XS.ladd X231.here hx rfl (hb hby at_207) rfl ?_
              refine XS.iload X231.here hx rfl (hb hby at_208) rfl ?_
              show own_S p e below m T231 210 #[lvJ q0_, .second, lvJ q1_, .second, lvJ q2_, .second, lvJ q3_, .second, lvI p4_, lvI (0 : Int32), lvI (1 : Int32), lvI (0 : Int32), lvI (1 : Int32), lvR w14_, lvR w23_, lvR b31, lvR b40, .unset, .unset] [(.int (1 : Int32)), (.long (1 : Int64))] _
              refine XS.ifNo X231.here hx rfl (hb hby at_210) rfl ((if0 _ _).trans (feq (by decide : ¬ ((1 : Int32) = (0 : Int32)))).1) ?_
              refine XS.lconst X231.here hx rfl (hb hby at_213) ?_
              refine XS.goto X231.here hx rfl (pc0 := 214) (pc' := 218) rfl (hb hby at_214) (by decide) (by decide) ?_
              refine XS.ladd X231.here hx rfl (hb hby at_218) rfl ?_
              show own_S p e below m T231 219 #[lvJ q0_, .second, lvJ q1_, .second, lvJ q2_, .second, lvJ q3_, .second, lvI p4_, lvI (0 : Int32), lvI (1 : Int32), lvI (0 : Int32), lvI (1 : Int32), lvR w14_, lvR w23_, lvR b31, lvR b40, .unset, .unset] [(.long (2 : Int64))] _
              refine XS.lstore X231.here hx rfl (hb hby at_219) rfl (l' := #[lvJ q0_, .second, lvJ q1_, .second, lvJ q2_, .second, lvJ q3_, .second, lvI p4_, lvI (0 : Int32), lvI (1 : Int32), lvI (0 : Int32), lvI (1 : Int32), lvR w14_, lvR w23_, lvR b31, lvR b40, lvJ (2 : Int64), .second]) rfl ?_
              refine XS.aload X231.here hx rfl (hb hby at_221) rfl rfl ?_
              show own_S p e below m T231 223 #[lvJ q0_, .second, lvJ q1_, .second, lvJ q2_, .second, lvJ q3_, .second, lvI p4_, lvI (0 : Int32), lvI (1 : Int32), lvI (0 : Int32), lvI (1 : Int32), lvR w14_, lvR w23_, lvR b31, lvR b40, lvJ (2 : Int64), .second] [(.ref b31)] _
              refine st238.trans ?_
              refine XS.lload X238.here hx rfl (hb hby at_226) rfl ?_
              refine XS.lcmp X238.here hx rfl (hb hby at_228) rfl ?_
              show own_S p e below m T238 229 #[lvJ q0_, .second, lvJ q1_, .second, lvJ q2_, .second, lvJ q3_, .second, lvI p4_, lvI (0 : Int32), lvI (1 : Int32), lvI (0 : Int32), lvI (1 : Int32), lvR w14_, lvR w23_, lvR b31, lvR b40, lvJ (2 : Int64), .second] [(.int (lcmpW (2 : Int64) (2 : Int64)))] _
              refine XS.ifNo X238.here hx rfl (hb hby at_229) rfl ((if0 _ _).trans (teq ((lw_eq _ _).mpr (by decide : (2 : Int64) = (2 : Int64)))).2) ?_
              refine XS.aload X238.here hx rfl (hb hby at_232) rfl rfl ?_
              show own_S p e below m T238 234 #[lvJ q0_, .second, lvJ q1_, .second, lvJ q2_, .second, lvJ q3_, .second, lvI p4_, lvI (0 : Int32), lvI (1 : Int32), lvI (0 : Int32), lvI (1 : Int32), lvR w14_, lvR w23_, lvR b31, lvR b40, lvJ (2 : Int64), .second] [(.ref b31)] _
              refine st241.trans ?_
              refine XS.iload X241.here hx rfl (hb hby at_237) rfl ?_
              refine XS.lloadN X241.here hx rfl (hb hby at_239) rfl ?_
              refine XS.iload X241.here hx rfl (hb hby at_240) rfl ?_
              show own_S p e below m T241 242 #[lvJ q0_, .second, lvJ q1_, .second, lvJ q2_, .second, lvJ q3_, .second, lvI p4_, lvI (0 : Int32), lvI (1 : Int32), lvI (0 : Int32), lvI (1 : Int32), lvR w14_, lvR w23_, lvR b31, lvR b40, lvJ (2 : Int64), .second] [(.int (0 : Int32)), (.long q0_), (.int (0 : Int32)), (.long (own_max (-9223372036854775808 : Int64) (-9223372036854775808 : Int64)))] _
              refine XS.lload X241.here hx rfl (hb hby at_242) rfl ?_
              show own_S p e below m T241 244 #[lvJ q0_, .second, lvJ q1_, .second, lvJ q2_, .second, lvJ q3_, .second, lvI p4_, lvI (0 : Int32), lvI (1 : Int32), lvI (0 : Int32), lvI (1 : Int32), lvR w14_, lvR w23_, lvR b31, lvR b40, lvJ (2 : Int64), .second] [(.long q2_), (.int (0 : Int32)), (.long q0_), (.int (0 : Int32)), (.long (own_max (-9223372036854775808 : Int64) (-9223372036854775808 : Int64)))] _
              refine st243 _ ?_
              refine XS.lcmp X243.here hx rfl (hb hby at_247) rfl ?_
              show own_S p e below m T243 248 #[lvJ q0_, .second, lvJ q1_, .second, lvJ q2_, .second, lvJ q3_, .second, lvI p4_, lvI (0 : Int32), lvI (1 : Int32), lvI (0 : Int32), lvI (1 : Int32), lvR w14_, lvR w23_, lvR b31, lvR b40, lvJ (2 : Int64), .second] [(.int (lcmpW (own_max (-9223372036854775808 : Int64) (-9223372036854775808 : Int64)) (-9223372036854775808 : Int64)))] _
              refine XS.ifNo X243.here hx rfl (hb hby at_248) rfl ((if0 _ _).trans (teq ((lw_eq _ _).mpr (by simp only [own_minl, own_minr]))).2) ?_
              refine XS.aload X243.here hx rfl (hb hby at_251) rfl rfl ?_
              show own_S p e below m T243 253 #[lvJ q0_, .second, lvJ q1_, .second, lvJ q2_, .second, lvJ q3_, .second, lvI p4_, lvI (0 : Int32), lvI (1 : Int32), lvI (0 : Int32), lvI (1 : Int32), lvR w14_, lvR w23_, lvR b31, lvR b40, lvJ (2 : Int64), .second] [(.ref b31)] _
              refine st245.trans ?_
              refine XS.iload X245.here hx rfl (hb hby at_256) rfl ?_
              refine XS.lloadN X245.here hx rfl (hb hby at_258) rfl ?_
              refine XS.iload X245.here hx rfl (hb hby at_259) rfl ?_
              show own_S p e below m T245 261 #[lvJ q0_, .second, lvJ q1_, .second, lvJ q2_, .second, lvJ q3_, .second, lvI p4_, lvI (0 : Int32), lvI (1 : Int32), lvI (0 : Int32), lvI (1 : Int32), lvR w14_, lvR w23_, lvR b31, lvR b40, lvJ (2 : Int64), .second] [(.int (1 : Int32)), (.long q1_), (.int (1 : Int32)), (.long (own_max (own_max (-9223372036854775808 : Int64) q1_) (own_max (-9223372036854775808 : Int64) q3_)))] _
              refine XS.lload X245.here hx rfl (hb hby at_261) rfl ?_
              show own_S p e below m T245 263 #[lvJ q0_, .second, lvJ q1_, .second, lvJ q2_, .second, lvJ q3_, .second, lvI p4_, lvI (0 : Int32), lvI (1 : Int32), lvI (0 : Int32), lvI (1 : Int32), lvR w14_, lvR w23_, lvR b31, lvR b40, lvJ (2 : Int64), .second] [(.long q3_), (.int (1 : Int32)), (.long q1_), (.int (1 : Int32)), (.long (own_max (own_max (-9223372036854775808 : Int64) q1_) (own_max (-9223372036854775808 : Int64) q3_)))] _
              refine st247 _ ?_
              refine XS.lcmp X247.here hx rfl (hb hby at_266) rfl ?_
              show own_S p e below m T247 267 #[lvJ q0_, .second, lvJ q1_, .second, lvJ q2_, .second, lvJ q3_, .second, lvI p4_, lvI (0 : Int32), lvI (1 : Int32), lvI (0 : Int32), lvI (1 : Int32), lvR w14_, lvR w23_, lvR b31, lvR b40, lvJ (2 : Int64), .second] [(.int (lcmpW (own_max (own_max (-9223372036854775808 : Int64) q1_) (own_max (-9223372036854775808 : Int64) q3_)) q3_))] _
              refine XS.ifNo X247.here hx rfl (hb hby at_267) rfl ((if0 _ _).trans (teq ((lw_eq _ _).mpr (by simp only [own_minl, own_minr] <;> first | (rfl) | (exact own_mr hq247_1_0)))).2) ?_
              refine XS.iconst X247.here hx rfl (hb hby at_270) ?_
              refine XS.goto X247.here hx rfl (pc0 := 271) (pc' := 275) rfl (hb hby at_271) (by decide) (by decide) ?_
              exact kt
            obtain ⟨fs, hr, hrun, hended, hW, hsame⟩ := X247.leave (v := some (.int (1 : Int32))) (fun h => by rw [Bd.returns] at h; cases h)
            refine ⟨_, _, hG _ (pre251 _ (retN X247 hx (t := .boolean) Bd.returns (by simp) (hb hby at_275) hr)), hrun, hended, _, _, rfl, ?_, ⟨_, rfl⟩, hW, hsame.mono (by decide) (by decide)⟩
            show QLaw Z q0_ q1_ q2_ q3_ p4_ w_PUT w_DELETE_COLUMN w_DELETE_FAMILY h0 n0 _ T247.heap _
            rw [e247']
            exact ⟨rfl, N248⟩
      · have f253 : Old Z n0 h188 := f198.keep K188 (allS (ge32) all0)
        obtain ⟨T254, X254, e254, st254⟩ := getS2 X188 hx hZ hown (host := "") (Or.inl (own_w hw 17 rfl)) Via.refl e188 (P0.ext f253.2) (g := (mkF m 147 #[lvJ q0_, .second, lvJ q1_, .second, lvJ q2_, .second, lvJ q3_, .second, lvI p4_, lvI (0 : Int32), lvI (1 : Int32), lvI (1 : Int32), lvI z11, lvR w14_, lvR w23_, lvR b31, lvR b40, .unset, .unset] [(.ref b40)])) rfl (hb hby at_147)
        have f256 : Exa Z h188 b40 cn0 := g49_0.keep K188
        have f257 : Fld Z h188 b40 cn0 "latestTimestamp" "J" (.long (-9223372036854775808 : Int64)) := g49_1.keep K188 (ninS (Ne.symm ne193) nin0)
        have f258 : Fld Z h188 b40 cn0 "latestDeleteTimestamp" "J" (.long (-9223372036854775808 : Int64)) := g49_2.keep K188 (ninS (Ne.symm ne193) nin0)
        have f259 : Fld Z h188 b40 cn0 "cells" "J" (.long (0 : Int64)) := g49_3.keep K188 (ninS (Ne.symm ne193) nin0)
        obtain ⟨cq255, kq255, q255a, q255b, q255c⟩ := isOf hZ e254 f256
        obtain ⟨_, _, ⟨T255, L255, k255, n255⟩, -, X255, ⟨Lc255, hQ255, l255, y255, z255⟩, st255⟩ := X254.virtualBack hx (y := (⟨"com/example/zenodotus/zenodotus/io/RowCodec$Tally", "count", "(Lcom/example/zenodotus/zenodotus/model/Cell$Kind;J)V"⟩ : MethodName)) (z := (⟨"com/example/zenodotus/zenodotus/io/RowCodec$Tally", "count", "(Lcom/example/zenodotus/zenodotus/model/Cell$Kind;J)V"⟩ : MethodName)) hown (mvT hZ (own_w hw 19 rfl)) (mvT hZ (own_w hw 20 rfl)) (notFace_of_selects (args := #[]) (mvT hZ (own_w hw 22 rfl))) (mvT hZ (own_w hw 22 rfl)) (mvT hZ (own_w hw 21 rfl)) (by decide) (backOf (W := 0) (rmcount13 l Z a0 hw [] b40 w_PUT q2_ h188 n0 f253 f256 f257 f258 f259 P1 P2 ge42 P0) hZ (own_w hw 23 rfl) (own_w hw 5 rfl) (by decide) (by decide)) q255a q255c (g := (mkF m 152 #[lvJ q0_, .second, lvJ q1_, .second, lvJ q2_, .second, lvJ q3_, .second, lvI p4_, lvI (0 : Int32), lvI (1 : Int32), lvI (1 : Int32), lvI z11, lvR w14_, lvR w23_, lvR b31, lvR b40, .unset, .unset] [(.long q2_), (.ref w_PUT), (.ref b40)])) rfl (by rw [hml]; rfl) (Steps.refl _) (argsL := [(.ref w_PUT), (.long q2_)]) (rest := []) (lenOf pd_5 rfl) rfl (by show 2 * 0 + _ ≤ _; exact Nat.le_of_eq rfl) (hb hby at_152) (fun _ _ => ⟨rfl, e254, (by decide : 2 + 0 ≤ _), (by decide : 6 + 0 ≤ _)⟩)
        dsimp only [Pt.U, Pt.locs, Pt.cells, Pt.slots] at X255 l255 y255 z255 st255 hQ255
        subst l255 y255 z255
        obtain ⟨h255, e255⟩ : ∃ z, T255.heap = z := ⟨_, rfl⟩
        rw [e255] at hQ255
        obtain ⟨rfl, N255q, K255, g255_0, g255_1, g255_2, g255_3⟩ := hQ255
        have N260 := Fr.app N199 N255q
        have pre261 : ∀ t, own_S p e below m T255 157 #[lvJ q0_, .second, lvJ q1_, .second, lvJ q2_, .second, lvJ q3_, .second, lvI p4_, lvI (0 : Int32), lvI (1 : Int32), lvI (1 : Int32), lvI z11, lvR w14_, lvR w23_, lvR b31, lvR b40, .unset, .unset] [(.int z11)] t → G t := by
          intro t kt
          refine pre200 t ?_
          show own_S p e below m T188 142 #[lvJ q0_, .second, lvJ q1_, .second, lvJ q2_, .second, lvJ q3_, .second, lvI p4_, lvI (0 : Int32), lvI (1 : Int32), lvI (1 : Int32), lvI z11, lvR w14_, lvR w23_, lvR b31, lvR b40, .unset, .unset] [(.int (1 : Int32))] _
          refine XS.ifNo X188.here hx rfl (hb hby at_142) rfl ((if0 _ _).trans (feq (by decide : ¬ ((1 : Int32) = (0 : Int32)))).1) ?_
          refine XS.aload X188.here hx rfl (hb hby at_145) rfl rfl ?_
          show own_S p e below m T188 147 #[lvJ q0_, .second, lvJ q1_, .second, lvJ q2_, .second, lvJ q3_, .second, lvI p4_, lvI (0 : Int32), lvI (1 : Int32), lvI (1 : Int32), lvI z11, lvR w14_, lvR w23_, lvR b31, lvR b40, .unset, .unset] [(.ref b40)] _
          refine st254 _ ?_
          refine XS.lload X254.here hx rfl (hb hby at_150) rfl ?_
          show own_S p e below m T254 152 #[lvJ q0_, .second, lvJ q1_, .second, lvJ q2_, .second, lvJ q3_, .second, lvI p4_, lvI (0 : Int32), lvI (1 : Int32), lvI (1 : Int32), lvI z11, lvR w14_, lvR w23_, lvR b31, lvR b40, .unset, .unset] [(.long q2_), (.ref w_PUT), (.ref b40)] _
          refine st255.trans ?_
          refine XS.iload X255.here hx rfl (hb hby at_155) rfl ?_
          exact kt
        rcases hz11 with ⟨rfl, hj262⟩ | ⟨rfl, hj262⟩
        · have f264 : Exa Z h255 b31 cn0 := g188_0.keep K255
          have f265 : Fld Z h255 b31 cn0 "latestTimestamp" "J" (.long (-9223372036854775808 : Int64)) := g188_1.keep K255 (ninS ne193 nin0)
          have f266 : Fld Z h255 b31 cn0 "latestDeleteTimestamp" "J" (.long (own_max (-9223372036854775808 : Int64) q1_)) := g188_2.keep K255 (ninS ne193 nin0)
          have f267 : Fld Z h255 b31 cn0 "cells" "J" (.long (1 : Int64)) := g188_3.keep K255 (ninS ne193 nin0)
          have f268 : Old Z n0 h255 := f253.keep K255 (allS (ge42) all0)
          obtain ⟨cq263, kq263, q263a, q263b, q263c⟩ := isOf hZ e255 f264
          obtain ⟨_, _, ⟨T263, L263, k263, n263⟩, -, X263, ⟨Lc263, hQ263, l263, y263, z263⟩, st263⟩ := X255.virtualBack hx (y := (⟨"com/example/zenodotus/zenodotus/io/RowCodec$Tally", "add", "(Lcom/example/zenodotus/zenodotus/io/RowCodec$Tally;)V"⟩ : MethodName)) (z := (⟨"com/example/zenodotus/zenodotus/io/RowCodec$Tally", "add", "(Lcom/example/zenodotus/zenodotus/io/RowCodec$Tally;)V"⟩ : MethodName)) hown (mvT hZ (own_w hw 31 rfl)) (mvT hZ (own_w hw 32 rfl)) (notFace_of_selects (args := #[]) (mvT hZ (own_w hw 34 rfl))) (mvT hZ (own_w hw 34 rfl)) (mvT hZ (own_w hw 33 rfl)) (by decide) (backOf (W := 0) (rmadd24 l Z a0 hw [] b31 b40 (own_max (-9223372036854775808 : Int64) q1_) (own_max (-9223372036854775808 : Int64) q2_) h255 n0 f268 f264 f265 f266 f267 g255_0 g255_1 g255_2 g255_3 ge32 (Ne.symm ne193)) hZ (own_w hw 35 rfl) (own_w hw 5 rfl) (by decide) (by decide)) q263a q263c (g := (mkF m 173 #[lvJ q0_, .second, lvJ q1_, .second, lvJ q2_, .second, lvJ q3_, .second, lvI p4_, lvI (0 : Int32), lvI (1 : Int32), lvI (1 : Int32), lvI (0 : Int32), lvR w14_, lvR w23_, lvR b31, lvR b40, .unset, .unset] [(.ref b40), (.ref b31)])) rfl (by rw [hml]; rfl) (Steps.refl _) (argsL := [(.ref b40)]) (rest := []) (lenOf pd_2 rfl) rfl (by show 2 * 0 + _ ≤ _; exact Nat.le_of_eq rfl) (hb hby at_173) (fun _ _ => ⟨rfl, e255, (by decide : 2 + 0 ≤ _), (by decide : 6 + 0 ≤ _)⟩)
          dsimp only [Pt.U, Pt.locs, Pt.cells, Pt.slots] at X263 l263 y263 z263 st263 hQ263
          subst l263 y263 z263
          obtain ⟨h263, e263⟩ : ∃ z, T263.heap = z := ⟨_, rfl⟩
          rw [e263] at hQ263
          obtain ⟨rfl, N263q, K263, g263_0, g263_1, g263_2, g263_3⟩ := hQ263
          have N269 := Fr.app N260 N263q
          have f271 : Old Z n0 h263 := f268.keep K263 (allS (ge32) all0)
          obtain ⟨cq270, kq270, q270a, q270b, q270c⟩ := isOf hZ e263 g263_0
          obtain ⟨_, _, ⟨T270, L270, k270, n270⟩, -, X270, ⟨Lc270, hQ270, l270, y270, z270⟩, st270⟩ := X263.virtualBack hx (y := (⟨"com/example/zenodotus/zenodotus/io/RowCodec$Tally", "cells", "()J"⟩ : MethodName)) (z := (⟨"com/example/zenodotus/zenodotus/io/RowCodec$Tally", "cells", "()J"⟩ : MethodName)) hown (mvT hZ (own_w hw 36 rfl)) (mvT hZ (own_w hw 37 rfl)) (notFace_of_selects (args := #[]) (mvT hZ (own_w hw 39 rfl))) (mvT hZ (own_w hw 39 rfl)) (mvT hZ (own_w hw 38 rfl)) (by decide) (backOf (W := 0) (rmcells17 l Z a0 hw [] b31 (own_max (-9223372036854775808 : Int64) (own_max (-9223372036854775808 : Int64) q2_)) (own_max (own_max (-9223372036854775808 : Int64) q1_) (-9223372036854775808 : Int64)) h263 n0 f271 g263_0 g263_1 g263_2 g263_3) hZ (own_w hw 40 rfl) (own_w hw 5 rfl) (by decide) (by decide)) q270a q270c (g := (mkF m 223 #[lvJ q0_, .second, lvJ q1_, .second, lvJ q2_, .second, lvJ q3_, .second, lvI p4_, lvI (0 : Int32), lvI (1 : Int32), lvI (1 : Int32), lvI (0 : Int32), lvR w14_, lvR w23_, lvR b31, lvR b40, lvJ (2 : Int64), .second] [(.ref b31)])) rfl (by rw [hml]; rfl) (Steps.refl _) (argsL := []) (rest := []) (lenOf pd_3 rfl) rfl (by show 2 * 0 + _ ≤ _; exact Nat.le_of_eq rfl) (hb hby at_223) (fun _ _ => ⟨rfl, e263, (by decide : 2 + 0 ≤ _), (by decide : 6 + 0 ≤ _)⟩)
          dsimp only [Pt.U, Pt.locs, Pt.cells, Pt.slots] at X270 l270 y270 z270 st270 hQ270
          subst l270 y270 z270
          obtain ⟨h270, e270⟩ : ∃ z, T270.heap = z := ⟨_, rfl⟩
          rw [e270] at hQ270
          obtain ⟨rfl, N270q, hh270⟩ := hQ270
          have N272 := Fr.app N269 N270q
          have e270' : T270.heap = h263 := e270.trans hh270
          obtain ⟨cq273, kq273, q273a, q273b, q273c⟩ := isOf hZ e270' g263_0
          obtain ⟨_, _, ⟨T273, L273, k273, n273⟩, -, X273, ⟨Lc273, hQ273, l273, y273, z273⟩, st273⟩ := X270.virtualBack hx (y := (⟨"com/example/zenodotus/zenodotus/io/RowCodec$Tally", "latestTimestamp", "()J"⟩ : MethodName)) (z := (⟨"com/example/zenodotus/zenodotus/io/RowCodec$Tally", "latestTimestamp", "()J"⟩ : MethodName)) hown (mvT hZ (own_w hw 41 rfl)) (mvT hZ (own_w hw 42 rfl)) (notFace_of_selects (args := #[]) (mvT hZ (own_w hw 44 rfl))) (mvT hZ (own_w hw 44 rfl)) (mvT hZ (own_w hw 43 rfl)) (by decide) (backOf (W := 0) (rmlatestTimestamp18 l Z a0 hw [] b31 (own_max (-9223372036854775808 : Int64) (own_max (-9223372036854775808 : Int64) q2_)) (own_max (own_max (-9223372036854775808 : Int64) q1_) (-9223372036854775808 : Int64)) h263 n0 f271 g263_0 g263_1 g263_2 g263_3) hZ (own_w hw 45 rfl) (own_w hw 5 rfl) (by decide) (by decide)) q273a q273c (g := (mkF m 234 #[lvJ q0_, .second, lvJ q1_, .second, lvJ q2_, .second, lvJ q3_, .second, lvI p4_, lvI (0 : Int32), lvI (1 : Int32), lvI (1 : Int32), lvI (0 : Int32), lvR w14_, lvR w23_, lvR b31, lvR b40, lvJ (2 : Int64), .second] [(.ref b31)])) rfl (by rw [hml]; rfl) (Steps.refl _) (argsL := []) (rest := []) (lenOf pd_3 rfl) rfl (by show 2 * 0 + _ ≤ _; exact Nat.le_of_eq rfl) (hb hby at_234) (fun _ _ => ⟨rfl, e270', (by decide : 2 + 0 ≤ _), (by decide : 6 + 0 ≤ _)⟩)
          dsimp only [Pt.U, Pt.locs, Pt.cells, Pt.slots] at X273 l273 y273 z273 st273 hQ273
          subst l273 y273 z273
          obtain ⟨h273, e273⟩ : ∃ z, T273.heap = z := ⟨_, rfl⟩
          rw [e273] at hQ273
          obtain ⟨rfl, N273q, hh273⟩ := hQ273
          have N274 := Fr.app N272 N273q
          have e273' : T273.heap = h263 := e273.trans hh273
          obtain ⟨_, _, ⟨T275, L275, k275, n275⟩, -, X275, ⟨Lc275, hQ275, l275, y275, z275⟩, st275⟩ := Jvm.LawKit.callS X273 hx (y := (⟨"com/example/zenodotus/zenodotus/io/TallyAddPinLaw", "expect", "(ZJZJ)J"⟩ : MethodName)) hown (mvT hZ (own_w hw 46 rfl)) (mvT hZ (own_w hw 47 rfl)) (mvT hZ (own_w hw 48 rfl)) (mvT hZ (own_w hw 49 rfl)) (by decide) (backOf (W := 2) (rmexpect12 l Z a0 hw [] q0_ q2_ h263 n0 f271 ) hZ (own_w hw 49 rfl) (own_w hw 48 rfl) (by decide) (by decide)) (g := (mkF m 244 #[lvJ q0_, .second, lvJ q1_, .second, lvJ q2_, .second, lvJ q3_, .second, lvI p4_, lvI (0 : Int32), lvI (1 : Int32), lvI (1 : Int32), lvI (0 : Int32), lvR w14_, lvR w23_, lvR b31, lvR b40, lvJ (2 : Int64), .second] [(.long q2_), (.int (1 : Int32)), (.long q0_), (.int (0 : Int32)), (.long (own_max (-9223372036854775808 : Int64) (own_max (-9223372036854775808 : Int64) q2_)))])) rfl (by rw [hml]; rfl) (argsL := [(.int (0 : Int32)), (.long q0_), (.int (1 : Int32)), (.long q2_)]) (rest := [(.long (own_max (-9223372036854775808 : Int64) (own_max (-9223372036854775808 : Int64) q2_)))]) (lenOf pd_4 rfl) rfl (by show 2 * 0 + _ ≤ _; exact Nat.le_of_eq rfl) (hb hby at_244) (fun _ _ => ⟨rfl, e273', (by decide : 2 + 0 ≤ _), (by decide : 6 + 0 ≤ _)⟩)
          dsimp only [Pt.U, Pt.locs, Pt.cells, Pt.slots] at X275 l275 y275 z275 st275 hQ275
          subst l275 y275 z275
          obtain ⟨h275, e275⟩ : ∃ z, T275.heap = z := ⟨_, rfl⟩
          rw [e275] at hQ275
          obtain ⟨rfl, N275q, hh275⟩ := hQ275
          have N276 := Fr.app N274 N275q
          have e275' : T275.heap = h263 := e275.trans hh275
          obtain ⟨cq277, kq277, q277a, q277b, q277c⟩ := isOf hZ e275' g263_0
          obtain ⟨_, _, ⟨T277, L277, k277, n277⟩, -, X277, ⟨Lc277, hQ277, l277, y277, z277⟩, st277⟩ := X275.virtualBack hx (y := (⟨"com/example/zenodotus/zenodotus/io/RowCodec$Tally", "latestDeleteTimestamp", "()J"⟩ : MethodName)) (z := (⟨"com/example/zenodotus/zenodotus/io/RowCodec$Tally", "latestDeleteTimestamp", "()J"⟩ : MethodName)) hown (mvT hZ (own_w hw 50 rfl)) (mvT hZ (own_w hw 51 rfl)) (notFace_of_selects (args := #[]) (mvT hZ (own_w hw 53 rfl))) (mvT hZ (own_w hw 53 rfl)) (mvT hZ (own_w hw 52 rfl)) (by decide) (backOf (W := 0) (rmlatestDeleteTimestamp19 l Z a0 hw [] b31 (own_max (-9223372036854775808 : Int64) (own_max (-9223372036854775808 : Int64) q2_)) (own_max (own_max (-9223372036854775808 : Int64) q1_) (-9223372036854775808 : Int64)) h263 n0 f271 g263_0 g263_1 g263_2 g263_3) hZ (own_w hw 54 rfl) (own_w hw 5 rfl) (by decide) (by decide)) q277a q277c (g := (mkF m 253 #[lvJ q0_, .second, lvJ q1_, .second, lvJ q2_, .second, lvJ q3_, .second, lvI p4_, lvI (0 : Int32), lvI (1 : Int32), lvI (1 : Int32), lvI (0 : Int32), lvR w14_, lvR w23_, lvR b31, lvR b40, lvJ (2 : Int64), .second] [(.ref b31)])) rfl (by rw [hml]; rfl) (Steps.refl _) (argsL := []) (rest := []) (lenOf pd_3 rfl) rfl (by show 2 * 0 + _ ≤ _; exact Nat.le_of_eq rfl) (hb hby at_253) (fun _ _ => ⟨rfl, e275', (by decide : 2 + 0 ≤ _), (by decide : 6 + 0 ≤ _)⟩)
          dsimp only [Pt.U, Pt.locs, Pt.cells, Pt.slots] at X277 l277 y277 z277 st277 hQ277
          subst l277 y277 z277
          obtain ⟨h277, e277⟩ : ∃ z, T277.heap = z := ⟨_, rfl⟩
          rw [e277] at hQ277
          obtain ⟨rfl, N277q, hh277⟩ := hQ277
          have N278 := Fr.app N276 N277q
          have e277' : T277.heap = h263 := e277.trans hh277
          obtain ⟨_, _, ⟨T279, L279, k279, n279⟩, -, X279, ⟨Lc279, hQ279, l279, y279, z279⟩, st279⟩ := Jvm.LawKit.callS X277 hx (y := (⟨"com/example/zenodotus/zenodotus/io/TallyAddPinLaw", "expect", "(ZJZJ)J"⟩ : MethodName)) hown (mvT hZ (own_w hw 46 rfl)) (mvT hZ (own_w hw 47 rfl)) (mvT hZ (own_w hw 48 rfl)) (mvT hZ (own_w hw 49 rfl)) (by decide) (backOf (W := 2) (rmexpect21 l Z a0 hw [] q1_ q3_ h263 n0 f271 ) hZ (own_w hw 49 rfl) (own_w hw 48 rfl) (by decide) (by decide)) (g := (mkF m 263 #[lvJ q0_, .second, lvJ q1_, .second, lvJ q2_, .second, lvJ q3_, .second, lvI p4_, lvI (0 : Int32), lvI (1 : Int32), lvI (1 : Int32), lvI (0 : Int32), lvR w14_, lvR w23_, lvR b31, lvR b40, lvJ (2 : Int64), .second] [(.long q3_), (.int (0 : Int32)), (.long q1_), (.int (1 : Int32)), (.long (own_max (own_max (-9223372036854775808 : Int64) q1_) (-9223372036854775808 : Int64)))])) rfl (by rw [hml]; rfl) (argsL := [(.int (1 : Int32)), (.long q1_), (.int (0 : Int32)), (.long q3_)]) (rest := [(.long (own_max (own_max (-9223372036854775808 : Int64) q1_) (-9223372036854775808 : Int64)))]) (lenOf pd_4 rfl) rfl (by show 2 * 0 + _ ≤ _; exact Nat.le_of_eq rfl) (hb hby at_263) (fun _ _ => ⟨rfl, e277', (by decide : 2 + 0 ≤ _), (by decide : 6 + 0 ≤ _)⟩)
          dsimp only [Pt.U, Pt.locs, Pt.cells, Pt.slots] at X279 l279 y279 z279 st279 hQ279
          subst l279 y279 z279
          obtain ⟨h279, e279⟩ : ∃ z, T279.heap = z := ⟨_, rfl⟩
          rw [e279] at hQ279
          obtain ⟨rfl, N279q, hh279⟩ := hQ279
          have N280 := Fr.app N278 N279q
          have e279' : T279.heap = h263 := e279.trans hh279
          have pre281 : ∀ t, own_S p e below m T279 275 #[lvJ q0_, .second, lvJ q1_, .second, lvJ q2_, .second, lvJ q3_, .second, lvI p4_, lvI (0 : Int32), lvI (1 : Int32), lvI (1 : Int32), lvI (0 : Int32), lvR w14_, lvR w23_, lvR b31, lvR b40, lvJ (2 : Int64), .second] [(.int (1 : Int32))] t → G t := by
            intro t kt
            refine pre261 t ?_
            show own_S p e below m T255 157 #[lvJ q0_, .second, lvJ q1_, .second, lvJ q2_, .second, lvJ q3_, .second, lvI p4_, lvI (0 : Int32), lvI (1 : Int32), lvI (1 : Int32), lvI (0 : Int32), lvR w14_, lvR w23_, lvR b31, lvR b40, .unset, .unset] [(.int (0 : Int32))] _
            refine XS.ifYes X255.here hx rfl (pc0 := 157) (pc' := 169) rfl (hb hby at_157) rfl ((if0 _ _).trans (teq (by decide : (0 : Int32) = (0 : Int32))).1) (by decide) (by decide) ?_
            refine XS.aload X255.here hx rfl (hb hby at_169) rfl rfl ?_
            refine XS.aload X255.here hx rfl (hb hby at_171) rfl rfl ?_
            show own_S p e below m T255 173 #[lvJ q0_, .second, lvJ q1_, .second, lvJ q2_, .second, lvJ q3_, .second, lvI p4_, lvI (0 : Int32), lvI (1 : Int32), lvI (1 : Int32), lvI (0 : Int32), lvR w14_, lvR w23_, lvR b31, lvR b40, .unset, .unset] [(.ref b40), (.ref b31)] _
            refine st263.trans ?_
            refine XS.iload X263.here hx rfl (hb hby at_176) rfl ?_
            show own_S p e below m T263 178 #[lvJ q0_, .second, lvJ q1_, .second, lvJ q2_, .second, lvJ q3_, .second, lvI p4_, lvI (0 : Int32), lvI (1 : Int32), lvI (1 : Int32), lvI (0 : Int32), lvR w14_, lvR w23_, lvR b31, lvR b40, .unset, .unset] [(.int (0 : Int32))] _
            refine XS.ifYes X263.here hx rfl (pc0 := 178) (pc' := 185) rfl (hb hby at_178) rfl ((if0 _ _).trans (teq (by decide : (0 : Int32) = (0 : Int32))).1) (by decide) (by decide) ?_
            refine XS.lconst X263.here hx rfl (hb hby at_185) ?_
            refine XS.iload X263.here hx rfl (hb hby at_186) rfl ?_
            show own_S p e below m T263 188 #[lvJ q0_, .second, lvJ q1_, .second, lvJ q2_, .second, lvJ q3_, .second, lvI p4_, lvI (0 : Int32), lvI (1 : Int32), lvI (1 : Int32), lvI (0 : Int32), lvR w14_, lvR w23_, lvR b31, lvR b40, .unset, .unset] [(.int (1 : Int32)), (.long (0 : Int64))] _
            refine XS.ifNo X263.here hx rfl (hb hby at_188) rfl ((if0 _ _).trans (feq (by decide : ¬ ((1 : Int32) = (0 : Int32)))).1) ?_
            refine XS.lconst X263.here hx rfl (hb hby at_191) ?_
            refine XS.goto X263.here hx rfl (pc0 := 192) (pc' := 196) rfl (hb hby at_192) (by decide) (by decide) ?_
            refine XS.ladd X263.here hx rfl (hb hby at_196) rfl ?_
            show own_S p e below m T263 197 #[lvJ q0_, .second, lvJ q1_, .second, lvJ q2_, .second, lvJ q3_, .second, lvI p4_, lvI (0 : Int32), lvI (1 : Int32), lvI (1 : Int32), lvI (0 : Int32), lvR w14_, lvR w23_, lvR b31, lvR b40, .unset, .unset] [(.long (1 : Int64))] _
            refine XS.iload X263.here hx rfl (hb hby at_197) rfl ?_
            show own_S p e below m T263 199 #[lvJ q0_, .second, lvJ q1_, .second, lvJ q2_, .second, lvJ q3_, .second, lvI p4_, lvI (0 : Int32), lvI (1 : Int32), lvI (1 : Int32), lvI (0 : Int32), lvR w14_, lvR w23_, lvR b31, lvR b40, .unset, .unset] [(.int (1 : Int32)), (.long (1 : Int64))] _
            refine XS.ifNo X263.here hx rfl (hb hby at_199) rfl ((if0 _ _).trans (feq (by decide : ¬ ((1 : Int32) = (0 : Int32)))).1) ?_
            refine XS.lconst X263.here hx rfl (hb hby at_202) ?_
            refine XS.goto X263.here hx rfl (pc0 := 203) (pc' := 207) rfl (hb hby at_203) (by decide) (by decide) ?_
            refine XS.ladd X263.here hx rfl (hb hby at_207) rfl ?_
            show own_S p e below m T263 208 #[lvJ q0_, .second, lvJ q1_, .second, lvJ q2_, .second, lvJ q3_, .second, lvI p4_, lvI (0 : Int32), lvI (1 : Int32), lvI (1 : Int32), lvI (0 : Int32), lvR w14_, lvR w23_, lvR b31, lvR b40, .unset, .unset] [(.long (2 : Int64))] _
            refine XS.iload X263.here hx rfl (hb hby at_208) rfl ?_
            show own_S p e below m T263 210 #[lvJ q0_, .second, lvJ q1_, .second, lvJ q2_, .second, lvJ q3_, .second, lvI p4_, lvI (0 : Int32), lvI (1 : Int32), lvI (1 : Int32), lvI (0 : Int32), lvR w14_, lvR w23_, lvR b31, lvR b40, .unset, .unset] [(.int (0 : Int32)), (.long (2 : Int64))] _
            refine XS.ifYes X263.here hx rfl (pc0 := 210) (pc' := 217) rfl (hb hby at_210) rfl ((if0 _ _).trans (teq (by decide : (0 : Int32) = (0 : Int32))).1) (by decide) (by decide) ?_
            refine XS.lconst X263.here hx rfl (hb hby at_217) ?_
            refine XS.ladd X263.here hx rfl (hb hby at_218) rfl ?_
            refine XS.lstore X263.here hx rfl (hb hby at_219) rfl (l' := #[lvJ q0_, .second, lvJ q1_, .second, lvJ q2_, .second, lvJ q3_, .second, lvI p4_, lvI (0 : Int32), lvI (1 : Int32), lvI (1 : Int32), lvI (0 : Int32), lvR w14_, lvR w23_, lvR b31, lvR b40, lvJ (2 : Int64), .second]) rfl ?_
            show own_S p e below m T263 221 #[lvJ q0_, .second, lvJ q1_, .second, lvJ q2_, .second, lvJ q3_, .second, lvI p4_, lvI (0 : Int32), lvI (1 : Int32), lvI (1 : Int32), lvI (0 : Int32), lvR w14_, lvR w23_, lvR b31, lvR b40, lvJ (2 : Int64), .second] [] _
            refine XS.aload X263.here hx rfl (hb hby at_221) rfl rfl ?_
            show own_S p e below m T263 223 #[lvJ q0_, .second, lvJ q1_, .second, lvJ q2_, .second, lvJ q3_, .second, lvI p4_, lvI (0 : Int32), lvI (1 : Int32), lvI (1 : Int32), lvI (0 : Int32), lvR w14_, lvR w23_, lvR b31, lvR b40, lvJ (2 : Int64), .second] [(.ref b31)] _
            refine st270.trans ?_
            refine XS.lload X270.here hx rfl (hb hby at_226) rfl ?_
            refine XS.lcmp X270.here hx rfl (hb hby at_228) rfl ?_
            show own_S p e below m T270 229 #[lvJ q0_, .second, lvJ q1_, .second, lvJ q2_, .second, lvJ q3_, .second, lvI p4_, lvI (0 : Int32), lvI (1 : Int32), lvI (1 : Int32), lvI (0 : Int32), lvR w14_, lvR w23_, lvR b31, lvR b40, lvJ (2 : Int64), .second] [(.int (lcmpW (2 : Int64) (2 : Int64)))] _
            refine XS.ifNo X270.here hx rfl (hb hby at_229) rfl ((if0 _ _).trans (teq ((lw_eq _ _).mpr (by decide : (2 : Int64) = (2 : Int64)))).2) ?_
            refine XS.aload X270.here hx rfl (hb hby at_232) rfl rfl ?_
            show own_S p e below m T270 234 #[lvJ q0_, .second, lvJ q1_, .second, lvJ q2_, .second, lvJ q3_, .second, lvI p4_, lvI (0 : Int32), lvI (1 : Int32), lvI (1 : Int32), lvI (0 : Int32), lvR w14_, lvR w23_, lvR b31, lvR b40, lvJ (2 : Int64), .second] [(.ref b31)] _
            refine st273.trans ?_
            refine XS.iload X273.here hx rfl (hb hby at_237) rfl ?_
            refine XS.lloadN X273.here hx rfl (hb hby at_239) rfl ?_
            refine XS.iload X273.here hx rfl (hb hby at_240) rfl ?_
            show own_S p e below m T273 242 #[lvJ q0_, .second, lvJ q1_, .second, lvJ q2_, .second, lvJ q3_, .second, lvI p4_, lvI (0 : Int32), lvI (1 : Int32), lvI (1 : Int32), lvI (0 : Int32), lvR w14_, lvR w23_, lvR b31, lvR b40, lvJ (2 : Int64), .second] [(.int (1 : Int32)), (.long q0_), (.int (0 : Int32)), (.long (own_max (-9223372036854775808 : Int64) (own_max (-9223372036854775808 : Int64) q2_)))] _
            refine XS.lload X273.here hx rfl (hb hby at_242) rfl ?_
            show own_S p e below m T273 244 #[lvJ q0_, .second, lvJ q1_, .second, lvJ q2_, .second, lvJ q3_, .second, lvI p4_, lvI (0 : Int32), lvI (1 : Int32), lvI (1 : Int32), lvI (0 : Int32), lvR w14_, lvR w23_, lvR b31, lvR b40, lvJ (2 : Int64), .second] [(.long q2_), (.int (1 : Int32)), (.long q0_), (.int (0 : Int32)), (.long (own_max (-9223372036854775808 : Int64) (own_max (-9223372036854775808 : Int64) q2_)))] _
            refine st275 _ ?_
            refine XS.lcmp X275.here hx rfl (hb hby at_247) rfl ?_
            show own_S p e below m T275 248 #[lvJ q0_, .second, lvJ q1_, .second, lvJ q2_, .second, lvJ q3_, .second, lvI p4_, lvI (0 : Int32), lvI (1 : Int32), lvI (1 : Int32), lvI (0 : Int32), lvR w14_, lvR w23_, lvR b31, lvR b40, lvJ (2 : Int64), .second] [(.int (lcmpW (own_max (-9223372036854775808 : Int64) (own_max (-9223372036854775808 : Int64) q2_)) q2_))] _
            refine XS.ifNo X275.here hx rfl (hb hby at_248) rfl ((if0 _ _).trans (teq ((lw_eq _ _).mpr (by simp only [own_minl, own_minr]))).2) ?_
            refine XS.aload X275.here hx rfl (hb hby at_251) rfl rfl ?_
            show own_S p e below m T275 253 #[lvJ q0_, .second, lvJ q1_, .second, lvJ q2_, .second, lvJ q3_, .second, lvI p4_, lvI (0 : Int32), lvI (1 : Int32), lvI (1 : Int32), lvI (0 : Int32), lvR w14_, lvR w23_, lvR b31, lvR b40, lvJ (2 : Int64), .second] [(.ref b31)] _
            refine st277.trans ?_
            refine XS.iload X277.here hx rfl (hb hby at_256) rfl ?_
            refine XS.lloadN X277.here hx rfl (hb hby at_258) rfl ?_
            refine XS.iload X277.here hx rfl (hb hby at_259) rfl ?_
            show own_S p e below m T277 261 #[lvJ q0_, .second, lvJ q1_, .second, lvJ q2_, .second, lvJ q3_, .second, lvI p4_, lvI (0 : Int32), lvI (1 : Int32), lvI (1 : Int32), lvI (0 : Int32), lvR w14_, lvR w23_, lvR b31, lvR b40, lvJ (2 : Int64), .second] [(.int (0 : Int32)), (.long q1_), (.int (1 : Int32)), (.long (own_max (own_max (-9223372036854775808 : Int64) q1_) (-9223372036854775808 : Int64)))] _
            refine XS.lload X277.here hx rfl (hb hby at_261) rfl ?_
            show own_S p e below m T277 263 #[lvJ q0_, .second, lvJ q1_, .second, lvJ q2_, .second, lvJ q3_, .second, lvI p4_, lvI (0 : Int32), lvI (1 : Int32), lvI (1 : Int32), lvI (0 : Int32), lvR w14_, lvR w23_, lvR b31, lvR b40, lvJ (2 : Int64), .second] [(.long q3_), (.int (0 : Int32)), (.long q1_), (.int (1 : Int32)), (.long (own_max (own_max (-9223372036854775808 : Int64) q1_) (-9223372036854775808 : Int64)))] _
            refine st279 _ ?_
            refine XS.lcmp X279.here hx rfl (hb hby at_266) rfl ?_
            show own_S p e below m T279 267 #[lvJ q0_, .second, lvJ q1_, .second, lvJ q2_, .second, lvJ q3_, .second, lvI p4_, lvI (0 : Int32), lvI (1 : Int32), lvI (1 : Int32), lvI (0 : Int32), lvR w14_, lvR w23_, lvR b31, lvR b40, lvJ (2 : Int64), .second] [(.int (lcmpW (own_max (own_max (-9223372036854775808 : Int64) q1_) (-9223372036854775808 : Int64)) q1_))] _
            refine XS.ifNo X279.here hx rfl (hb hby at_267) rfl ((if0 _ _).trans (teq ((lw_eq _ _).mpr (by simp only [own_minl, own_minr]))).2) ?_
            refine XS.iconst X279.here hx rfl (hb hby at_270) ?_
            refine XS.goto X279.here hx rfl (pc0 := 271) (pc' := 275) rfl (hb hby at_271) (by decide) (by decide) ?_
            exact kt
          obtain ⟨fs, hr, hrun, hended, hW, hsame⟩ := X279.leave (v := some (.int (1 : Int32))) (fun h => by rw [Bd.returns] at h; cases h)
          refine ⟨_, _, hG _ (pre281 _ (retN X279 hx (t := .boolean) Bd.returns (by simp) (hb hby at_275) hr)), hrun, hended, _, _, rfl, ?_, ⟨_, rfl⟩, hW, hsame.mono (by decide) (by decide)⟩
          show QLaw Z q0_ q1_ q2_ q3_ p4_ w_PUT w_DELETE_COLUMN w_DELETE_FAMILY h0 n0 _ T279.heap _
          rw [e279']
          exact ⟨rfl, N280⟩
        · have f284 : Old Z n0 h255 := f253.keep K255 (allS (ge42) all0)
          obtain ⟨cq283, kq283, q283a, q283b, q283c⟩ := isOf hZ e255 g255_0
          obtain ⟨_, _, ⟨T283, L283, k283, n283⟩, -, X283, ⟨Lc283, hQ283, l283, y283, z283⟩, st283⟩ := X255.virtualBack hx (y := (⟨"com/example/zenodotus/zenodotus/io/RowCodec$Tally", "count", "(Lcom/example/zenodotus/zenodotus/model/Cell$Kind;J)V"⟩ : MethodName)) (z := (⟨"com/example/zenodotus/zenodotus/io/RowCodec$Tally", "count", "(Lcom/example/zenodotus/zenodotus/model/Cell$Kind;J)V"⟩ : MethodName)) hown (mvT hZ (own_w hw 19 rfl)) (mvT hZ (own_w hw 20 rfl)) (notFace_of_selects (args := #[]) (mvT hZ (own_w hw 22 rfl))) (mvT hZ (own_w hw 22 rfl)) (mvT hZ (own_w hw 21 rfl)) (by decide) (backOf (W := 0) (rmcount15 l Z a0 hw [] b40 w23_ q3_ (own_max (-9223372036854775808 : Int64) q2_) w_PUT h255 n0 f284 g255_0 g255_1 g255_2 g255_3 E23 ge42 P1 P2 P0 n23_0) hZ (own_w hw 23 rfl) (own_w hw 5 rfl) (by decide) (by decide)) q283a q283c (g := (mkF m 166 #[lvJ q0_, .second, lvJ q1_, .second, lvJ q2_, .second, lvJ q3_, .second, lvI p4_, lvI (0 : Int32), lvI (1 : Int32), lvI (1 : Int32), lvI (1 : Int32), lvR w14_, lvR w23_, lvR b31, lvR b40, .unset, .unset] [(.long q3_), (.ref w23_), (.ref b40)])) rfl (by rw [hml]; rfl) (Steps.refl _) (argsL := [(.ref w23_), (.long q3_)]) (rest := []) (lenOf pd_5 rfl) rfl (by show 2 * 0 + _ ≤ _; exact Nat.le_of_eq rfl) (hb hby at_166) (fun _ _ => ⟨rfl, e255, (by decide : 2 + 0 ≤ _), (by decide : 6 + 0 ≤ _)⟩)
          dsimp only [Pt.U, Pt.locs, Pt.cells, Pt.slots] at X283 l283 y283 z283 st283 hQ283
          subst l283 y283 z283
          obtain ⟨h283, e283⟩ : ∃ z, T283.heap = z := ⟨_, rfl⟩
          rw [e283] at hQ283
          obtain ⟨rfl, N283q, K283, g283_0, g283_1, g283_2, g283_3⟩ := hQ283
          have N285 := Fr.app N260 N283q
          have f287 : Exa Z h255 b31 cn0 := g188_0.keep K255
          have f288 : Exa Z h283 b31 cn0 := f287.keep K283
          have f289 : Fld Z h255 b31 cn0 "latestTimestamp" "J" (.long (-9223372036854775808 : Int64)) := g188_1.keep K255 (ninS ne193 nin0)
          have f290 : Fld Z h283 b31 cn0 "latestTimestamp" "J" (.long (-9223372036854775808 : Int64)) := f289.keep K283 (ninS ne193 nin0)
          have f291 : Fld Z h255 b31 cn0 "latestDeleteTimestamp" "J" (.long (own_max (-9223372036854775808 : Int64) q1_)) := g188_2.keep K255 (ninS ne193 nin0)
          have f292 : Fld Z h283 b31 cn0 "latestDeleteTimestamp" "J" (.long (own_max (-9223372036854775808 : Int64) q1_)) := f291.keep K283 (ninS ne193 nin0)
          have f293 : Fld Z h255 b31 cn0 "cells" "J" (.long (1 : Int64)) := g188_3.keep K255 (ninS ne193 nin0)
          have f294 : Fld Z h283 b31 cn0 "cells" "J" (.long (1 : Int64)) := f293.keep K283 (ninS ne193 nin0)
          have f295 : Old Z n0 h283 := f284.keep K283 (allS (ge42) all0)
          obtain ⟨cq286, kq286, q286a, q286b, q286c⟩ := isOf hZ e283 f288
          obtain ⟨_, _, ⟨T286, L286, k286, n286⟩, -, X286, ⟨Lc286, hQ286, l286, y286, z286⟩, st286⟩ := X283.virtualBack hx (y := (⟨"com/example/zenodotus/zenodotus/io/RowCodec$Tally", "add", "(Lcom/example/zenodotus/zenodotus/io/RowCodec$Tally;)V"⟩ : MethodName)) (z := (⟨"com/example/zenodotus/zenodotus/io/RowCodec$Tally", "add", "(Lcom/example/zenodotus/zenodotus/io/RowCodec$Tally;)V"⟩ : MethodName)) hown (mvT hZ (own_w hw 31 rfl)) (mvT hZ (own_w hw 32 rfl)) (notFace_of_selects (args := #[]) (mvT hZ (own_w hw 34 rfl))) (mvT hZ (own_w hw 34 rfl)) (mvT hZ (own_w hw 33 rfl)) (by decide) (backOf (W := 0) (rmadd25 l Z a0 hw [] b31 b40 (own_max (-9223372036854775808 : Int64) q1_) (own_max (-9223372036854775808 : Int64) q2_) (own_max (-9223372036854775808 : Int64) q3_) h283 n0 f295 f288 f290 f292 f294 g283_0 g283_1 g283_2 g283_3 ge32 (Ne.symm ne193)) hZ (own_w hw 35 rfl) (own_w hw 5 rfl) (by decide) (by decide)) q286a q286c (g := (mkF m 173 #[lvJ q0_, .second, lvJ q1_, .second, lvJ q2_, .second, lvJ q3_, .second, lvI p4_, lvI (0 : Int32), lvI (1 : Int32), lvI (1 : Int32), lvI (1 : Int32), lvR w14_, lvR w23_, lvR b31, lvR b40, .unset, .unset] [(.ref b40), (.ref b31)])) rfl (by rw [hml]; rfl) (Steps.refl _) (argsL := [(.ref b40)]) (rest := []) (lenOf pd_2 rfl) rfl (by show 2 * 0 + _ ≤ _; exact Nat.le_of_eq rfl) (hb hby at_173) (fun _ _ => ⟨rfl, e283, (by decide : 2 + 0 ≤ _), (by decide : 6 + 0 ≤ _)⟩)
          dsimp only [Pt.U, Pt.locs, Pt.cells, Pt.slots] at X286 l286 y286 z286 st286 hQ286
          subst l286 y286 z286
          obtain ⟨h286, e286⟩ : ∃ z, T286.heap = z := ⟨_, rfl⟩
          rw [e286] at hQ286
          obtain ⟨rfl, N286q, K286, g286_0, g286_1, g286_2, g286_3⟩ := hQ286
          have N296 := Fr.app N285 N286q
          have f298 : Old Z n0 h286 := f295.keep K286 (allS (ge32) all0)
          obtain ⟨cq297, kq297, q297a, q297b, q297c⟩ := isOf hZ e286 g286_0
          obtain ⟨_, _, ⟨T297, L297, k297, n297⟩, -, X297, ⟨Lc297, hQ297, l297, y297, z297⟩, st297⟩ := X286.virtualBack hx (y := (⟨"com/example/zenodotus/zenodotus/io/RowCodec$Tally", "cells", "()J"⟩ : MethodName)) (z := (⟨"com/example/zenodotus/zenodotus/io/RowCodec$Tally", "cells", "()J"⟩ : MethodName)) hown (mvT hZ (own_w hw 36 rfl)) (mvT hZ (own_w hw 37 rfl)) (notFace_of_selects (args := #[]) (mvT hZ (own_w hw 39 rfl))) (mvT hZ (own_w hw 39 rfl)) (mvT hZ (own_w hw 38 rfl)) (by decide) (backOf (W := 0) (rmcells26 l Z a0 hw [] b31 (own_max (-9223372036854775808 : Int64) (own_max (-9223372036854775808 : Int64) q2_)) (own_max (own_max (-9223372036854775808 : Int64) q1_) (own_max (-9223372036854775808 : Int64) q3_)) h286 n0 f298 g286_0 g286_1 g286_2 g286_3) hZ (own_w hw 40 rfl) (own_w hw 5 rfl) (by decide) (by decide)) q297a q297c (g := (mkF m 223 #[lvJ q0_, .second, lvJ q1_, .second, lvJ q2_, .second, lvJ q3_, .second, lvI p4_, lvI (0 : Int32), lvI (1 : Int32), lvI (1 : Int32), lvI (1 : Int32), lvR w14_, lvR w23_, lvR b31, lvR b40, lvJ (3 : Int64), .second] [(.ref b31)])) rfl (by rw [hml]; rfl) (Steps.refl _) (argsL := []) (rest := []) (lenOf pd_3 rfl) rfl (by show 2 * 0 + _ ≤ _; exact Nat.le_of_eq rfl) (hb hby at_223) (fun _ _ => ⟨rfl, e286, (by decide : 2 + 0 ≤ _), (by decide : 6 + 0 ≤ _)⟩)
          dsimp only [Pt.U, Pt.locs, Pt.cells, Pt.slots] at X297 l297 y297 z297 st297 hQ297
          subst l297 y297 z297
          obtain ⟨h297, e297⟩ : ∃ z, T297.heap = z := ⟨_, rfl⟩
          rw [e297] at hQ297
          obtain ⟨rfl, N297q, hh297⟩ := hQ297
          have N299 := Fr.app N296 N297q
          have e297' : T297.heap = h286 := e297.trans hh297
          obtain ⟨cq300, kq300, q300a, q300b, q300c⟩ := isOf hZ e297' g286_0
          obtain ⟨_, _, ⟨T300, L300, k300, n300⟩, -, X300, ⟨Lc300, hQ300, l300, y300, z300⟩, st300⟩ := X297.virtualBack hx (y := (⟨"com/example/zenodotus/zenodotus/io/RowCodec$Tally", "latestTimestamp", "()J"⟩ : MethodName)) (z := (⟨"com/example/zenodotus/zenodotus/io/RowCodec$Tally", "latestTimestamp", "()J"⟩ : MethodName)) hown (mvT hZ (own_w hw 41 rfl)) (mvT hZ (own_w hw 42 rfl)) (notFace_of_selects (args := #[]) (mvT hZ (own_w hw 44 rfl))) (mvT hZ (own_w hw 44 rfl)) (mvT hZ (own_w hw 43 rfl)) (by decide) (backOf (W := 0) (rmlatestTimestamp27 l Z a0 hw [] b31 (own_max (-9223372036854775808 : Int64) (own_max (-9223372036854775808 : Int64) q2_)) (own_max (own_max (-9223372036854775808 : Int64) q1_) (own_max (-9223372036854775808 : Int64) q3_)) h286 n0 f298 g286_0 g286_1 g286_2 g286_3) hZ (own_w hw 45 rfl) (own_w hw 5 rfl) (by decide) (by decide)) q300a q300c (g := (mkF m 234 #[lvJ q0_, .second, lvJ q1_, .second, lvJ q2_, .second, lvJ q3_, .second, lvI p4_, lvI (0 : Int32), lvI (1 : Int32), lvI (1 : Int32), lvI (1 : Int32), lvR w14_, lvR w23_, lvR b31, lvR b40, lvJ (3 : Int64), .second] [(.ref b31)])) rfl (by rw [hml]; rfl) (Steps.refl _) (argsL := []) (rest := []) (lenOf pd_3 rfl) rfl (by show 2 * 0 + _ ≤ _; exact Nat.le_of_eq rfl) (hb hby at_234) (fun _ _ => ⟨rfl, e297', (by decide : 2 + 0 ≤ _), (by decide : 6 + 0 ≤ _)⟩)
          dsimp only [Pt.U, Pt.locs, Pt.cells, Pt.slots] at X300 l300 y300 z300 st300 hQ300
          subst l300 y300 z300
          obtain ⟨h300, e300⟩ : ∃ z, T300.heap = z := ⟨_, rfl⟩
          rw [e300] at hQ300
          obtain ⟨rfl, N300q, hh300⟩ := hQ300
          have N301 := Fr.app N299 N300q
          have e300' : T300.heap = h286 := e300.trans hh300
          obtain ⟨_, _, ⟨T302, L302, k302, n302⟩, -, X302, ⟨Lc302, hQ302, l302, y302, z302⟩, st302⟩ := Jvm.LawKit.callS X300 hx (y := (⟨"com/example/zenodotus/zenodotus/io/TallyAddPinLaw", "expect", "(ZJZJ)J"⟩ : MethodName)) hown (mvT hZ (own_w hw 46 rfl)) (mvT hZ (own_w hw 47 rfl)) (mvT hZ (own_w hw 48 rfl)) (mvT hZ (own_w hw 49 rfl)) (by decide) (backOf (W := 2) (rmexpect12 l Z a0 hw [] q0_ q2_ h286 n0 f298 ) hZ (own_w hw 49 rfl) (own_w hw 48 rfl) (by decide) (by decide)) (g := (mkF m 244 #[lvJ q0_, .second, lvJ q1_, .second, lvJ q2_, .second, lvJ q3_, .second, lvI p4_, lvI (0 : Int32), lvI (1 : Int32), lvI (1 : Int32), lvI (1 : Int32), lvR w14_, lvR w23_, lvR b31, lvR b40, lvJ (3 : Int64), .second] [(.long q2_), (.int (1 : Int32)), (.long q0_), (.int (0 : Int32)), (.long (own_max (-9223372036854775808 : Int64) (own_max (-9223372036854775808 : Int64) q2_)))])) rfl (by rw [hml]; rfl) (argsL := [(.int (0 : Int32)), (.long q0_), (.int (1 : Int32)), (.long q2_)]) (rest := [(.long (own_max (-9223372036854775808 : Int64) (own_max (-9223372036854775808 : Int64) q2_)))]) (lenOf pd_4 rfl) rfl (by show 2 * 0 + _ ≤ _; exact Nat.le_of_eq rfl) (hb hby at_244) (fun _ _ => ⟨rfl, e300', (by decide : 2 + 0 ≤ _), (by decide : 6 + 0 ≤ _)⟩)
          dsimp only [Pt.U, Pt.locs, Pt.cells, Pt.slots] at X302 l302 y302 z302 st302 hQ302
          subst l302 y302 z302
          obtain ⟨h302, e302⟩ : ∃ z, T302.heap = z := ⟨_, rfl⟩
          rw [e302] at hQ302
          obtain ⟨rfl, N302q, hh302⟩ := hQ302
          have N303 := Fr.app N301 N302q
          have e302' : T302.heap = h286 := e302.trans hh302
          obtain ⟨cq304, kq304, q304a, q304b, q304c⟩ := isOf hZ e302' g286_0
          obtain ⟨_, _, ⟨T304, L304, k304, n304⟩, -, X304, ⟨Lc304, hQ304, l304, y304, z304⟩, st304⟩ := X302.virtualBack hx (y := (⟨"com/example/zenodotus/zenodotus/io/RowCodec$Tally", "latestDeleteTimestamp", "()J"⟩ : MethodName)) (z := (⟨"com/example/zenodotus/zenodotus/io/RowCodec$Tally", "latestDeleteTimestamp", "()J"⟩ : MethodName)) hown (mvT hZ (own_w hw 50 rfl)) (mvT hZ (own_w hw 51 rfl)) (notFace_of_selects (args := #[]) (mvT hZ (own_w hw 53 rfl))) (mvT hZ (own_w hw 53 rfl)) (mvT hZ (own_w hw 52 rfl)) (by decide) (backOf (W := 0) (rmlatestDeleteTimestamp28 l Z a0 hw [] b31 (own_max (-9223372036854775808 : Int64) (own_max (-9223372036854775808 : Int64) q2_)) (own_max (own_max (-9223372036854775808 : Int64) q1_) (own_max (-9223372036854775808 : Int64) q3_)) h286 n0 f298 g286_0 g286_1 g286_2 g286_3) hZ (own_w hw 54 rfl) (own_w hw 5 rfl) (by decide) (by decide)) q304a q304c (g := (mkF m 253 #[lvJ q0_, .second, lvJ q1_, .second, lvJ q2_, .second, lvJ q3_, .second, lvI p4_, lvI (0 : Int32), lvI (1 : Int32), lvI (1 : Int32), lvI (1 : Int32), lvR w14_, lvR w23_, lvR b31, lvR b40, lvJ (3 : Int64), .second] [(.ref b31)])) rfl (by rw [hml]; rfl) (Steps.refl _) (argsL := []) (rest := []) (lenOf pd_3 rfl) rfl (by show 2 * 0 + _ ≤ _; exact Nat.le_of_eq rfl) (hb hby at_253) (fun _ _ => ⟨rfl, e302', (by decide : 2 + 0 ≤ _), (by decide : 6 + 0 ≤ _)⟩)
          dsimp only [Pt.U, Pt.locs, Pt.cells, Pt.slots] at X304 l304 y304 z304 st304 hQ304
          subst l304 y304 z304
          obtain ⟨h304, e304⟩ : ∃ z, T304.heap = z := ⟨_, rfl⟩
          rw [e304] at hQ304
          obtain ⟨rfl, N304q, hh304⟩ := hQ304
          have N305 := Fr.app N303 N304q
          have e304' : T304.heap = h286 := e304.trans hh304
          obtain ⟨_, _, ⟨T306, L306, k306, n306⟩, -, X306, ⟨Lc306, hQ306, l306, y306, z306⟩, st306⟩ := Jvm.LawKit.callS X304 hx (y := (⟨"com/example/zenodotus/zenodotus/io/TallyAddPinLaw", "expect", "(ZJZJ)J"⟩ : MethodName)) hown (mvT hZ (own_w hw 46 rfl)) (mvT hZ (own_w hw 47 rfl)) (mvT hZ (own_w hw 48 rfl)) (mvT hZ (own_w hw 49 rfl)) (by decide) (backOf (W := 2) (rmexpect23 l Z a0 hw [] q1_ q3_ h286 n0 f298 ) hZ (own_w hw 49 rfl) (own_w hw 48 rfl) (by decide) (by decide)) (g := (mkF m 263 #[lvJ q0_, .second, lvJ q1_, .second, lvJ q2_, .second, lvJ q3_, .second, lvI p4_, lvI (0 : Int32), lvI (1 : Int32), lvI (1 : Int32), lvI (1 : Int32), lvR w14_, lvR w23_, lvR b31, lvR b40, lvJ (3 : Int64), .second] [(.long q3_), (.int (1 : Int32)), (.long q1_), (.int (1 : Int32)), (.long (own_max (own_max (-9223372036854775808 : Int64) q1_) (own_max (-9223372036854775808 : Int64) q3_)))])) rfl (by rw [hml]; rfl) (argsL := [(.int (1 : Int32)), (.long q1_), (.int (1 : Int32)), (.long q3_)]) (rest := [(.long (own_max (own_max (-9223372036854775808 : Int64) q1_) (own_max (-9223372036854775808 : Int64) q3_)))]) (lenOf pd_4 rfl) rfl (by show 2 * 0 + _ ≤ _; exact Nat.le_of_eq rfl) (hb hby at_263) (fun _ _ => ⟨rfl, e304', (by decide : 2 + 0 ≤ _), (by decide : 6 + 0 ≤ _)⟩)
          dsimp only [Pt.U, Pt.locs, Pt.cells, Pt.slots] at X306 l306 y306 z306 st306 hQ306
          subst l306 y306 z306
          obtain ⟨h306, e306⟩ : ∃ z, T306.heap = z := ⟨_, rfl⟩
          rw [e306] at hQ306
          obtain ⟨rr306, rfl, hs306, N306q, hh306⟩ := hQ306
          have N307 := Fr.app N305 N306q
          have e306' : T306.heap = h286 := e306.trans hh306
          rcases hs306 with ⟨rfl, hq306_0_0⟩ | ⟨rfl, hq306_1_0⟩
          · have pre308 : ∀ t, own_S p e below m T306 275 #[lvJ q0_, .second, lvJ q1_, .second, lvJ q2_, .second, lvJ q3_, .second, lvI p4_, lvI (0 : Int32), lvI (1 : Int32), lvI (1 : Int32), lvI (1 : Int32), lvR w14_, lvR w23_, lvR b31, lvR b40, lvJ (3 : Int64), .second] [(.int (1 : Int32))] t → G t := by
              intro t kt
              refine pre261 t ?_
              show own_S p e below m T255 157 #[lvJ q0_, .second, lvJ q1_, .second, lvJ q2_, .second, lvJ q3_, .second, lvI p4_, lvI (0 : Int32), lvI (1 : Int32), lvI (1 : Int32), lvI (1 : Int32), lvR w14_, lvR w23_, lvR b31, lvR b40, .unset, .unset] [(.int (1 : Int32))] _
              refine XS.ifNo X255.here hx rfl (hb hby at_157) rfl ((if0 _ _).trans (feq (by decide : ¬ ((1 : Int32) = (0 : Int32)))).1) ?_
              refine XS.aload X255.here hx rfl (hb hby at_160) rfl rfl ?_
              refine XS.aload X255.here hx rfl (hb hby at_162) rfl rfl ?_
              refine XS.lload X255.here hx rfl (hb hby at_164) rfl ?_
              show own_S p e below m T255 166 #[lvJ q0_, .second, lvJ q1_, .second, lvJ q2_, .second, lvJ q3_, .second, lvI p4_, lvI (0 : Int32), lvI (1 : Int32), lvI (1 : Int32), lvI (1 : Int32), lvR w14_, lvR w23_, lvR b31, lvR b40, .unset, .unset] [(.long q3_), (.ref w23_), (.ref b40)] _
              refine st283.trans ?_
              refine XS.aload X283.here hx rfl (hb hby at_169) rfl rfl ?_
              refine XS.aload X283.here hx rfl (hb hby at_171) rfl rfl ?_
              show own_S p e below m T283 173 #[lvJ q0_, .second, lvJ q1_, .second, lvJ q2_, .second, lvJ q3_, .second, lvI p4_, lvI (0 : Int32), lvI (1 : Int32), lvI (1 : Int32), lvI (1 : Int32), lvR w14_, lvR w23_, lvR b31, lvR b40, .unset, .unset] [(.ref b40), (.ref b31)] _
              refine st286.trans ?_
              refine XS.iload X286.here hx rfl (hb hby at_176) rfl ?_
              show own_S p e below m T286 178 #[lvJ q0_, .second, lvJ q1_, .second, lvJ q2_, .second, lvJ q3_, .second, lvI p4_, lvI (0 : Int32), lvI (1 : Int32), lvI (1 : Int32), lvI (1 : Int32), lvR w14_, lvR w23_, lvR b31, lvR b40, .unset, .unset] [(.int (0 : Int32))] _
              refine XS.ifYes X286.here hx rfl (pc0 := 178) (pc' := 185) rfl (hb hby at_178) rfl ((if0 _ _).trans (teq (by decide : (0 : Int32) = (0 : Int32))).1) (by decide) (by decide) ?_
              refine XS.lconst X286.here hx rfl (hb hby at_185) ?_
              refine XS.iload X286.here hx rfl (hb hby at_186) rfl ?_
              show own_S p e below m T286 188 #[lvJ q0_, .second, lvJ q1_, .second, lvJ q2_, .second, lvJ q3_, .second, lvI p4_, lvI (0 : Int32), lvI (1 : Int32), lvI (1 : Int32), lvI (1 : Int32), lvR w14_, lvR w23_, lvR b31, lvR b40, .unset, .unset] [(.int (1 : Int32)), (.long (0 : Int64))] _
              refine XS.ifNo X286.here hx rfl (hb hby at_188) rfl ((if0 _ _).trans (feq (by decide : ¬ ((1 : Int32) = (0 : Int32)))).1) ?_
              refine XS.lconst X286.here hx rfl (hb hby at_191) ?_
              refine XS.goto X286.here hx rfl (pc0 := 192) (pc' := 196) rfl (hb hby at_192) (by decide) (by decide) ?_
              refine XS.ladd X286.here hx rfl (hb hby at_196) rfl ?_
              show own_S p e below m T286 197 #[lvJ q0_, .second, lvJ q1_, .second, lvJ q2_, .second, lvJ q3_, .second, lvI p4_, lvI (0 : Int32), lvI (1 : Int32), lvI (1 : Int32), lvI (1 : Int32), lvR w14_, lvR w23_, lvR b31, lvR b40, .unset, .unset] [(.long (1 : Int64))] _
              refine XS.iload X286.here hx rfl (hb hby at_197) rfl ?_
              show own_S p e below m T286 199 #[lvJ q0_, .second, lvJ q1_, .second, lvJ q2_, .second, lvJ q3_, .second, lvI p4_, lvI (0 : Int32), lvI (1 : Int32), lvI (1 : Int32), lvI (1 : Int32), lvR w14_, lvR w23_, lvR b31, lvR b40, .unset, .unset] [(.int (1 : Int32)), (.long (1 : Int64))] _
              refine XS.ifNo X286.here hx rfl (hb hby at_199) rfl ((if0 _ _).trans (feq (by decide : ¬ ((1 : Int32) = (0 : Int32)))).1) ?_
              refine XS.lconst X286.here hx rfl (hb hby at_202) ?_
              refine XS.goto X286.here hx rfl (pc0 := 203) (pc' := 207) rfl (hb hby at_203) (by decide) (by decide) ?_
              refine XS.ladd X286.here hx rfl (hb hby at_207) rfl ?_
              show own_S p e below m T286 208 #[lvJ q0_, .second, lvJ q1_, .second, lvJ q2_, .second, lvJ q3_, .second, lvI p4_, lvI (0 : Int32), lvI (1 : Int32), lvI (1 : Int32), lvI (1 : Int32), lvR w14_, lvR w23_, lvR b31, lvR b40, .unset, .unset] [(.long (2 : Int64))] _
              refine XS.iload X286.here hx rfl (hb hby at_208) rfl ?_
              show own_S p e below m T286 210 #[lvJ q0_, .second, lvJ q1_, .second, lvJ q2_, .second, lvJ q3_, .second, lvI p4_, lvI (0 : Int32), lvI (1 : Int32), lvI (1 : Int32), lvI (1 : Int32), lvR w14_, lvR w23_, lvR b31, lvR b40, .unset, .unset] [(.int (1 : Int32)), (.long (2 : Int64))] _
              refine XS.ifNo X286.here hx rfl (hb hby at_210) rfl ((if0 _ _).trans (feq (by decide : ¬ ((1 : Int32) = (0 : Int32)))).1) ?_
              refine XS.lconst X286.here hx rfl (hb hby at_213) ?_
              refine XS.goto X286.here hx rfl (pc0 := 214) (pc' := 218) rfl (hb hby at_214) (by decide) (by decide) ?_
              refine XS.ladd X286.here hx rfl (hb hby at_218) rfl ?_
              show own_S p e below m T286 219 #[lvJ q0_, .second, lvJ q1_, .second, lvJ q2_, .second, lvJ q3_, .second, lvI p4_, lvI (0 : Int32), lvI (1 : Int32), lvI (1 : Int32), lvI (1 : Int32), lvR w14_, lvR w23_, lvR b31, lvR b40, .unset, .unset] [(.long (3 : Int64))] _
              refine XS.lstore X286.here hx rfl (hb hby at_219) rfl (l' := #[lvJ q0_, .second, lvJ q1_, .second, lvJ q2_, .second, lvJ q3_, .second, lvI p4_, lvI (0 : Int32), lvI (1 : Int32), lvI (1 : Int32), lvI (1 : Int32), lvR w14_, lvR w23_, lvR b31, lvR b40, lvJ (3 : Int64), .second]) rfl ?_
              refine XS.aload X286.here hx rfl (hb hby at_221) rfl rfl ?_
              show own_S p e below m T286 223 #[lvJ q0_, .second, lvJ q1_, .second, lvJ q2_, .second, lvJ q3_, .second, lvI p4_, lvI (0 : Int32), lvI (1 : Int32), lvI (1 : Int32), lvI (1 : Int32), lvR w14_, lvR w23_, lvR b31, lvR b40, lvJ (3 : Int64), .second] [(.ref b31)] _
              refine st297.trans ?_
              refine XS.lload X297.here hx rfl (hb hby at_226) rfl ?_
              refine XS.lcmp X297.here hx rfl (hb hby at_228) rfl ?_
              show own_S p e below m T297 229 #[lvJ q0_, .second, lvJ q1_, .second, lvJ q2_, .second, lvJ q3_, .second, lvI p4_, lvI (0 : Int32), lvI (1 : Int32), lvI (1 : Int32), lvI (1 : Int32), lvR w14_, lvR w23_, lvR b31, lvR b40, lvJ (3 : Int64), .second] [(.int (lcmpW (3 : Int64) (3 : Int64)))] _
              refine XS.ifNo X297.here hx rfl (hb hby at_229) rfl ((if0 _ _).trans (teq ((lw_eq _ _).mpr (by decide : (3 : Int64) = (3 : Int64)))).2) ?_
              refine XS.aload X297.here hx rfl (hb hby at_232) rfl rfl ?_
              show own_S p e below m T297 234 #[lvJ q0_, .second, lvJ q1_, .second, lvJ q2_, .second, lvJ q3_, .second, lvI p4_, lvI (0 : Int32), lvI (1 : Int32), lvI (1 : Int32), lvI (1 : Int32), lvR w14_, lvR w23_, lvR b31, lvR b40, lvJ (3 : Int64), .second] [(.ref b31)] _
              refine st300.trans ?_
              refine XS.iload X300.here hx rfl (hb hby at_237) rfl ?_
              refine XS.lloadN X300.here hx rfl (hb hby at_239) rfl ?_
              refine XS.iload X300.here hx rfl (hb hby at_240) rfl ?_
              show own_S p e below m T300 242 #[lvJ q0_, .second, lvJ q1_, .second, lvJ q2_, .second, lvJ q3_, .second, lvI p4_, lvI (0 : Int32), lvI (1 : Int32), lvI (1 : Int32), lvI (1 : Int32), lvR w14_, lvR w23_, lvR b31, lvR b40, lvJ (3 : Int64), .second] [(.int (1 : Int32)), (.long q0_), (.int (0 : Int32)), (.long (own_max (-9223372036854775808 : Int64) (own_max (-9223372036854775808 : Int64) q2_)))] _
              refine XS.lload X300.here hx rfl (hb hby at_242) rfl ?_
              show own_S p e below m T300 244 #[lvJ q0_, .second, lvJ q1_, .second, lvJ q2_, .second, lvJ q3_, .second, lvI p4_, lvI (0 : Int32), lvI (1 : Int32), lvI (1 : Int32), lvI (1 : Int32), lvR w14_, lvR w23_, lvR b31, lvR b40, lvJ (3 : Int64), .second] [(.long q2_), (.int (1 : Int32)), (.long q0_), (.int (0 : Int32)), (.long (own_max (-9223372036854775808 : Int64) (own_max (-9223372036854775808 : Int64) q2_)))] _
              refine st302 _ ?_
              refine XS.lcmp X302.here hx rfl (hb hby at_247) rfl ?_
              show own_S p e below m T302 248 #[lvJ q0_, .second, lvJ q1_, .second, lvJ q2_, .second, lvJ q3_, .second, lvI p4_, lvI (0 : Int32), lvI (1 : Int32), lvI (1 : Int32), lvI (1 : Int32), lvR w14_, lvR w23_, lvR b31, lvR b40, lvJ (3 : Int64), .second] [(.int (lcmpW (own_max (-9223372036854775808 : Int64) (own_max (-9223372036854775808 : Int64) q2_)) q2_))] _
              refine XS.ifNo X302.here hx rfl (hb hby at_248) rfl ((if0 _ _).trans (teq ((lw_eq _ _).mpr (by simp only [own_minl, own_minr]))).2) ?_
              refine XS.aload X302.here hx rfl (hb hby at_251) rfl rfl ?_
              show own_S p e below m T302 253 #[lvJ q0_, .second, lvJ q1_, .second, lvJ q2_, .second, lvJ q3_, .second, lvI p4_, lvI (0 : Int32), lvI (1 : Int32), lvI (1 : Int32), lvI (1 : Int32), lvR w14_, lvR w23_, lvR b31, lvR b40, lvJ (3 : Int64), .second] [(.ref b31)] _
              refine st304.trans ?_
              refine XS.iload X304.here hx rfl (hb hby at_256) rfl ?_
              refine XS.lloadN X304.here hx rfl (hb hby at_258) rfl ?_
              refine XS.iload X304.here hx rfl (hb hby at_259) rfl ?_
              show own_S p e below m T304 261 #[lvJ q0_, .second, lvJ q1_, .second, lvJ q2_, .second, lvJ q3_, .second, lvI p4_, lvI (0 : Int32), lvI (1 : Int32), lvI (1 : Int32), lvI (1 : Int32), lvR w14_, lvR w23_, lvR b31, lvR b40, lvJ (3 : Int64), .second] [(.int (1 : Int32)), (.long q1_), (.int (1 : Int32)), (.long (own_max (own_max (-9223372036854775808 : Int64) q1_) (own_max (-9223372036854775808 : Int64) q3_)))] _
              refine XS.lload X304.here hx rfl (hb hby at_261) rfl ?_
              show own_S p e below m T304 263 #[lvJ q0_, .second, lvJ q1_, .second, lvJ q2_, .second, lvJ q3_, .second, lvI p4_, lvI (0 : Int32), lvI (1 : Int32), lvI (1 : Int32), lvI (1 : Int32), lvR w14_, lvR w23_, lvR b31, lvR b40, lvJ (3 : Int64), .second] [(.long q3_), (.int (1 : Int32)), (.long q1_), (.int (1 : Int32)), (.long (own_max (own_max (-9223372036854775808 : Int64) q1_) (own_max (-9223372036854775808 : Int64) q3_)))] _
              refine st306 _ ?_
              refine XS.lcmp X306.here hx rfl (hb hby at_266) rfl ?_
              show own_S p e below m T306 267 #[lvJ q0_, .second, lvJ q1_, .second, lvJ q2_, .second, lvJ q3_, .second, lvI p4_, lvI (0 : Int32), lvI (1 : Int32), lvI (1 : Int32), lvI (1 : Int32), lvR w14_, lvR w23_, lvR b31, lvR b40, lvJ (3 : Int64), .second] [(.int (lcmpW (own_max (own_max (-9223372036854775808 : Int64) q1_) (own_max (-9223372036854775808 : Int64) q3_)) q1_))] _
              refine XS.ifNo X306.here hx rfl (hb hby at_267) rfl ((if0 _ _).trans (teq ((lw_eq _ _).mpr (by simp only [own_minl, own_minr] <;> first | (rfl) | (exact own_ml hq306_0_0)))).2) ?_
              refine XS.iconst X306.here hx rfl (hb hby at_270) ?_
              refine XS.goto X306.here hx rfl (pc0 := 271) (pc' := 275) rfl (hb hby at_271) (by decide) (by decide) ?_
              exact kt
            obtain ⟨fs, hr, hrun, hended, hW, hsame⟩ := X306.leave (v := some (.int (1 : Int32))) (fun h => by rw [Bd.returns] at h; cases h)
            refine ⟨_, _, hG _ (pre308 _ (retN X306 hx (t := .boolean) Bd.returns (by simp) (hb hby at_275) hr)), hrun, hended, _, _, rfl, ?_, ⟨_, rfl⟩, hW, hsame.mono (by decide) (by decide)⟩
            show QLaw Z q0_ q1_ q2_ q3_ p4_ w_PUT w_DELETE_COLUMN w_DELETE_FAMILY h0 n0 _ T306.heap _
            rw [e306']
            exact ⟨rfl, N307⟩
          · have pre310 : ∀ t, own_S p e below m T306 275 #[lvJ q0_, .second, lvJ q1_, .second, lvJ q2_, .second, lvJ q3_, .second, lvI p4_, lvI (0 : Int32), lvI (1 : Int32), lvI (1 : Int32), lvI (1 : Int32), lvR w14_, lvR w23_, lvR b31, lvR b40, lvJ (3 : Int64), .second] [(.int (1 : Int32))] t → G t := by
              intro t kt
              refine pre261 t ?_
              show own_S p e below m T255 157 #[lvJ q0_, .second, lvJ q1_, .second, lvJ q2_, .second, lvJ q3_, .second, lvI p4_, lvI (0 : Int32), lvI (1 : Int32), lvI (1 : Int32), lvI (1 : Int32), lvR w14_, lvR w23_, lvR b31, lvR b40, .unset, .unset] [(.int (1 : Int32))] _
              refine XS.ifNo X255.here hx rfl (hb hby at_157) rfl ((if0 _ _).trans (feq (by decide : ¬ ((1 : Int32) = (0 : Int32)))).1) ?_
              refine XS.aload X255.here hx rfl (hb hby at_160) rfl rfl ?_
              refine XS.aload X255.here hx rfl (hb hby at_162) rfl rfl ?_
              refine XS.lload X255.here hx rfl (hb hby at_164) rfl ?_
              show own_S p e below m T255 166 #[lvJ q0_, .second, lvJ q1_, .second, lvJ q2_, .second, lvJ q3_, .second, lvI p4_, lvI (0 : Int32), lvI (1 : Int32), lvI (1 : Int32), lvI (1 : Int32), lvR w14_, lvR w23_, lvR b31, lvR b40, .unset, .unset] [(.long q3_), (.ref w23_), (.ref b40)] _
              refine st283.trans ?_
              refine XS.aload X283.here hx rfl (hb hby at_169) rfl rfl ?_
              refine XS.aload X283.here hx rfl (hb hby at_171) rfl rfl ?_
              show own_S p e below m T283 173 #[lvJ q0_, .second, lvJ q1_, .second, lvJ q2_, .second, lvJ q3_, .second, lvI p4_, lvI (0 : Int32), lvI (1 : Int32), lvI (1 : Int32), lvI (1 : Int32), lvR w14_, lvR w23_, lvR b31, lvR b40, .unset, .unset] [(.ref b40), (.ref b31)] _
              refine st286.trans ?_
              refine XS.iload X286.here hx rfl (hb hby at_176) rfl ?_
              show own_S p e below m T286 178 #[lvJ q0_, .second, lvJ q1_, .second, lvJ q2_, .second, lvJ q3_, .second, lvI p4_, lvI (0 : Int32), lvI (1 : Int32), lvI (1 : Int32), lvI (1 : Int32), lvR w14_, lvR w23_, lvR b31, lvR b40, .unset, .unset] [(.int (0 : Int32))] _
              refine XS.ifYes X286.here hx rfl (pc0 := 178) (pc' := 185) rfl (hb hby at_178) rfl ((if0 _ _).trans (teq (by decide : (0 : Int32) = (0 : Int32))).1) (by decide) (by decide) ?_
              refine XS.lconst X286.here hx rfl (hb hby at_185) ?_
              refine XS.iload X286.here hx rfl (hb hby at_186) rfl ?_
              show own_S p e below m T286 188 #[lvJ q0_, .second, lvJ q1_, .second, lvJ q2_, .second, lvJ q3_, .second, lvI p4_, lvI (0 : Int32), lvI (1 : Int32), lvI (1 : Int32), lvI (1 : Int32), lvR w14_, lvR w23_, lvR b31, lvR b40, .unset, .unset] [(.int (1 : Int32)), (.long (0 : Int64))] _
              refine XS.ifNo X286.here hx rfl (hb hby at_188) rfl ((if0 _ _).trans (feq (by decide : ¬ ((1 : Int32) = (0 : Int32)))).1) ?_
              refine XS.lconst X286.here hx rfl (hb hby at_191) ?_
              refine XS.goto X286.here hx rfl (pc0 := 192) (pc' := 196) rfl (hb hby at_192) (by decide) (by decide) ?_
              refine XS.ladd X286.here hx rfl (hb hby at_196) rfl ?_
              show own_S p e below m T286 197 #[lvJ q0_, .second, lvJ q1_, .second, lvJ q2_, .second, lvJ q3_, .second, lvI p4_, lvI (0 : Int32), lvI (1 : Int32), lvI (1 : Int32), lvI (1 : Int32), lvR w14_, lvR w23_, lvR b31, lvR b40, .unset, .unset] [(.long (1 : Int64))] _
              refine XS.iload X286.here hx rfl (hb hby at_197) rfl ?_
              show own_S p e below m T286 199 #[lvJ q0_, .second, lvJ q1_, .second, lvJ q2_, .second, lvJ q3_, .second, lvI p4_, lvI (0 : Int32), lvI (1 : Int32), lvI (1 : Int32), lvI (1 : Int32), lvR w14_, lvR w23_, lvR b31, lvR b40, .unset, .unset] [(.int (1 : Int32)), (.long (1 : Int64))] _
              refine XS.ifNo X286.here hx rfl (hb hby at_199) rfl ((if0 _ _).trans (feq (by decide : ¬ ((1 : Int32) = (0 : Int32)))).1) ?_
              refine XS.lconst X286.here hx rfl (hb hby at_202) ?_
              refine XS.goto X286.here hx rfl (pc0 := 203) (pc' := 207) rfl (hb hby at_203) (by decide) (by decide) ?_
              refine XS.ladd X286.here hx rfl (hb hby at_207) rfl ?_
              show own_S p e below m T286 208 #[lvJ q0_, .second, lvJ q1_, .second, lvJ q2_, .second, lvJ q3_, .second, lvI p4_, lvI (0 : Int32), lvI (1 : Int32), lvI (1 : Int32), lvI (1 : Int32), lvR w14_, lvR w23_, lvR b31, lvR b40, .unset, .unset] [(.long (2 : Int64))] _
              refine XS.iload X286.here hx rfl (hb hby at_208) rfl ?_
              show own_S p e below m T286 210 #[lvJ q0_, .second, lvJ q1_, .second, lvJ q2_, .second, lvJ q3_, .second, lvI p4_, lvI (0 : Int32), lvI (1 : Int32), lvI (1 : Int32), lvI (1 : Int32), lvR w14_, lvR w23_, lvR b31, lvR b40, .unset, .unset] [(.int (1 : Int32)), (.long (2 : Int64))] _
              refine XS.ifNo X286.here hx rfl (hb hby at_210) rfl ((if0 _ _).trans (feq (by decide : ¬ ((1 : Int32) = (0 : Int32)))).1) ?_
              refine XS.lconst X286.here hx rfl (hb hby at_213) ?_
              refine XS.goto X286.here hx rfl (pc0 := 214) (pc' := 218) rfl (hb hby at_214) (by decide) (by decide) ?_
              refine XS.ladd X286.here hx rfl (hb hby at_218) rfl ?_
              show own_S p e below m T286 219 #[lvJ q0_, .second, lvJ q1_, .second, lvJ q2_, .second, lvJ q3_, .second, lvI p4_, lvI (0 : Int32), lvI (1 : Int32), lvI (1 : Int32), lvI (1 : Int32), lvR w14_, lvR w23_, lvR b31, lvR b40, .unset, .unset] [(.long (3 : Int64))] _
              refine XS.lstore X286.here hx rfl (hb hby at_219) rfl (l' := #[lvJ q0_, .second, lvJ q1_, .second, lvJ q2_, .second, lvJ q3_, .second, lvI p4_, lvI (0 : Int32), lvI (1 : Int32), lvI (1 : Int32), lvI (1 : Int32), lvR w14_, lvR w23_, lvR b31, lvR b40, lvJ (3 : Int64), .second]) rfl ?_
              refine XS.aload X286.here hx rfl (hb hby at_221) rfl rfl ?_
              show own_S p e below m T286 223 #[lvJ q0_, .second, lvJ q1_, .second, lvJ q2_, .second, lvJ q3_, .second, lvI p4_, lvI (0 : Int32), lvI (1 : Int32), lvI (1 : Int32), lvI (1 : Int32), lvR w14_, lvR w23_, lvR b31, lvR b40, lvJ (3 : Int64), .second] [(.ref b31)] _
              refine st297.trans ?_
              refine XS.lload X297.here hx rfl (hb hby at_226) rfl ?_
              refine XS.lcmp X297.here hx rfl (hb hby at_228) rfl ?_
              show own_S p e below m T297 229 #[lvJ q0_, .second, lvJ q1_, .second, lvJ q2_, .second, lvJ q3_, .second, lvI p4_, lvI (0 : Int32), lvI (1 : Int32), lvI (1 : Int32), lvI (1 : Int32), lvR w14_, lvR w23_, lvR b31, lvR b40, lvJ (3 : Int64), .second] [(.int (lcmpW (3 : Int64) (3 : Int64)))] _
              refine XS.ifNo X297.here hx rfl (hb hby at_229) rfl ((if0 _ _).trans (teq ((lw_eq _ _).mpr (by decide : (3 : Int64) = (3 : Int64)))).2) ?_
              refine XS.aload X297.here hx rfl (hb hby at_232) rfl rfl ?_
              show own_S p e below m T297 234 #[lvJ q0_, .second, lvJ q1_, .second, lvJ q2_, .second, lvJ q3_, .second, lvI p4_, lvI (0 : Int32), lvI (1 : Int32), lvI (1 : Int32), lvI (1 : Int32), lvR w14_, lvR w23_, lvR b31, lvR b40, lvJ (3 : Int64), .second] [(.ref b31)] _
              refine st300.trans ?_
              refine XS.iload X300.here hx rfl (hb hby at_237) rfl ?_
              refine XS.lloadN X300.here hx rfl (hb hby at_239) rfl ?_
              refine XS.iload X300.here hx rfl (hb hby at_240) rfl ?_
              show own_S p e below m T300 242 #[lvJ q0_, .second, lvJ q1_, .second, lvJ q2_, .second, lvJ q3_, .second, lvI p4_, lvI (0 : Int32), lvI (1 : Int32), lvI (1 : Int32), lvI (1 : Int32), lvR w14_, lvR w23_, lvR b31, lvR b40, lvJ (3 : Int64), .second] [(.int (1 : Int32)), (.long q0_), (.int (0 : Int32)), (.long (own_max (-9223372036854775808 : Int64) (own_max (-9223372036854775808 : Int64) q2_)))] _
              refine XS.lload X300.here hx rfl (hb hby at_242) rfl ?_
              show own_S p e below m T300 244 #[lvJ q0_, .second, lvJ q1_, .second, lvJ q2_, .second, lvJ q3_, .second, lvI p4_, lvI (0 : Int32), lvI (1 : Int32), lvI (1 : Int32), lvI (1 : Int32), lvR w14_, lvR w23_, lvR b31, lvR b40, lvJ (3 : Int64), .second] [(.long q2_), (.int (1 : Int32)), (.long q0_), (.int (0 : Int32)), (.long (own_max (-9223372036854775808 : Int64) (own_max (-9223372036854775808 : Int64) q2_)))] _
              refine st302 _ ?_
              refine XS.lcmp X302.here hx rfl (hb hby at_247) rfl ?_
              show own_S p e below m T302 248 #[lvJ q0_, .second, lvJ q1_, .second, lvJ q2_, .second, lvJ q3_, .second, lvI p4_, lvI (0 : Int32), lvI (1 : Int32), lvI (1 : Int32), lvI (1 : Int32), lvR w14_, lvR w23_, lvR b31, lvR b40, lvJ (3 : Int64), .second] [(.int (lcmpW (own_max (-9223372036854775808 : Int64) (own_max (-9223372036854775808 : Int64) q2_)) q2_))] _
              refine XS.ifNo X302.here hx rfl (hb hby at_248) rfl ((if0 _ _).trans (teq ((lw_eq _ _).mpr (by simp only [own_minl, own_minr]))).2) ?_
              refine XS.aload X302.here hx rfl (hb hby at_251) rfl rfl ?_
              show own_S p e below m T302 253 #[lvJ q0_, .second, lvJ q1_, .second, lvJ q2_, .second, lvJ q3_, .second, lvI p4_, lvI (0 : Int32), lvI (1 : Int32), lvI (1 : Int32), lvI (1 : Int32), lvR w14_, lvR w23_, lvR b31, lvR b40, lvJ (3 : Int64), .second] [(.ref b31)] _
              refine st304.trans ?_
              refine XS.iload X304.here hx rfl (hb hby at_256) rfl ?_
              refine XS.lloadN X304.here hx rfl (hb hby at_258) rfl ?_
              refine XS.iload X304.here hx rfl (hb hby at_259) rfl ?_
              show own_S p e below m T304 261 #[lvJ q0_, .second, lvJ q1_, .second, lvJ q2_, .second, lvJ q3_, .second, lvI p4_, lvI (0 : Int32), lvI (1 : Int32), lvI (1 : Int32), lvI (1 : Int32), lvR w14_, lvR w23_, lvR b31, lvR b40, lvJ (3 : Int64), .second] [(.int (1 : Int32)), (.long q1_), (.int (1 : Int32)), (.long (own_max (own_max (-9223372036854775808 : Int64) q1_) (own_max (-9223372036854775808 : Int64) q3_)))] _
              refine XS.lload X304.here hx rfl (hb hby at_261) rfl ?_
              show own_S p e below m T304 263 #[lvJ q0_, .second, lvJ q1_, .second, lvJ q2_, .second, lvJ q3_, .second, lvI p4_, lvI (0 : Int32), lvI (1 : Int32), lvI (1 : Int32), lvI (1 : Int32), lvR w14_, lvR w23_, lvR b31, lvR b40, lvJ (3 : Int64), .second] [(.long q3_), (.int (1 : Int32)), (.long q1_), (.int (1 : Int32)), (.long (own_max (own_max (-9223372036854775808 : Int64) q1_) (own_max (-9223372036854775808 : Int64) q3_)))] _
              refine st306 _ ?_
              refine XS.lcmp X306.here hx rfl (hb hby at_266) rfl ?_
              show own_S p e below m T306 267 #[lvJ q0_, .second, lvJ q1_, .second, lvJ q2_, .second, lvJ q3_, .second, lvI p4_, lvI (0 : Int32), lvI (1 : Int32), lvI (1 : Int32), lvI (1 : Int32), lvR w14_, lvR w23_, lvR b31, lvR b40, lvJ (3 : Int64), .second] [(.int (lcmpW (own_max (own_max (-9223372036854775808 : Int64) q1_) (own_max (-9223372036854775808 : Int64) q3_)) q3_))] _
              refine XS.ifNo X306.here hx rfl (hb hby at_267) rfl ((if0 _ _).trans (teq ((lw_eq _ _).mpr (by simp only [own_minl, own_minr] <;> first | (rfl) | (exact own_mr hq306_1_0)))).2) ?_
              refine XS.iconst X306.here hx rfl (hb hby at_270) ?_
              refine XS.goto X306.here hx rfl (pc0 := 271) (pc' := 275) rfl (hb hby at_271) (by decide) (by decide) ?_
              exact kt
            obtain ⟨fs, hr, hrun, hended, hW, hsame⟩ := X306.leave (v := some (.int (1 : Int32))) (fun h => by rw [Bd.returns] at h; cases h)
            refine ⟨_, _, hG _ (pre310 _ (retN X306 hx (t := .boolean) Bd.returns (by simp) (hb hby at_275) hr)), hrun, hended, _, _, rfl, ?_, ⟨_, rfl⟩, hW, hsame.mono (by decide) (by decide)⟩
            show QLaw Z q0_ q1_ q2_ q3_ p4_ w_PUT w_DELETE_COLUMN w_DELETE_FAMILY h0 n0 _ T306.heap _
            rw [e306']
            exact ⟨rfl, N307⟩
  · have f312 : Old Z n0 h49 := f50.keep K49 (allS (ge42) all0)
    obtain ⟨T313, X313, e313, st313⟩ := getS2 X49 hx hZ hown (host := "") (Or.inl (own_w hw 17 rfl)) Via.refl e49 (P0.ext f312.2) (g := (mkF m 120 #[lvJ q0_, .second, lvJ q1_, .second, lvJ q2_, .second, lvJ q3_, .second, lvI p4_, lvI (1 : Int32), lvI z5, lvI z8, lvI z11, lvR w14_, lvR w23_, lvR b31, lvR b40, .unset, .unset] [(.ref b31)])) rfl (hb hby at_120)
    have f315 : Exa Z h40 b31 cn0 := g37_0.ext E40
    have f316 : Exa Z h49 b31 cn0 := f315.keep K49
    have f317 : Fld Z h40 b31 cn0 "latestTimestamp" "J" (.long (-9223372036854775808 : Int64)) := g37_1.ext E40
    have ne319 : b31 ≠ b40 := Nat.ne_of_lt (Nat.lt_of_lt_of_le g37_0.lt (Nat.le_of_eq g40.symm))
    have f318 : Fld Z h49 b31 cn0 "latestTimestamp" "J" (.long (-9223372036854775808 : Int64)) := f317.keep K49 (ninS ne319 nin0)
    have f320 : Fld Z h40 b31 cn0 "latestDeleteTimestamp" "J" (.long (-9223372036854775808 : Int64)) := g37_2.ext E40
    have f321 : Fld Z h49 b31 cn0 "latestDeleteTimestamp" "J" (.long (-9223372036854775808 : Int64)) := f320.keep K49 (ninS ne319 nin0)
    have f322 : Fld Z h40 b31 cn0 "cells" "J" (.long (0 : Int64)) := g37_3.ext E40
    have f323 : Fld Z h49 b31 cn0 "cells" "J" (.long (0 : Int64)) := f322.keep K49 (ninS ne319 nin0)
    obtain ⟨cq314, kq314, q314a, q314b, q314c⟩ := isOf hZ e313 f316
    obtain ⟨_, _, ⟨T314, L314, k314, n314⟩, -, X314, ⟨Lc314, hQ314, l314, y314, z314⟩, st314⟩ := X313.virtualBack hx (y := (⟨"com/example/zenodotus/zenodotus/io/RowCodec$Tally", "count", "(Lcom/example/zenodotus/zenodotus/model/Cell$Kind;J)V"⟩ : MethodName)) (z := (⟨"com/example/zenodotus/zenodotus/io/RowCodec$Tally", "count", "(Lcom/example/zenodotus/zenodotus/model/Cell$Kind;J)V"⟩ : MethodName)) hown (mvT hZ (own_w hw 19 rfl)) (mvT hZ (own_w hw 20 rfl)) (notFace_of_selects (args := #[]) (mvT hZ (own_w hw 22 rfl))) (mvT hZ (own_w hw 22 rfl)) (mvT hZ (own_w hw 21 rfl)) (by decide) (backOf (W := 0) (rmcount13 l Z a0 hw [] b31 w_PUT q0_ h49 n0 f312 f316 f318 f321 f323 P1 P2 ge32 P0) hZ (own_w hw 23 rfl) (own_w hw 5 rfl) (by decide) (by decide)) q314a q314c (g := (mkF m 124 #[lvJ q0_, .second, lvJ q1_, .second, lvJ q2_, .second, lvJ q3_, .second, lvI p4_, lvI (1 : Int32), lvI z5, lvI z8, lvI z11, lvR w14_, lvR w23_, lvR b31, lvR b40, .unset, .unset] [(.long q0_), (.ref w_PUT), (.ref b31)])) rfl (by rw [hml]; rfl) (Steps.refl _) (argsL := [(.ref w_PUT), (.long q0_)]) (rest := []) (lenOf pd_5 rfl) rfl (by show 2 * 0 + _ ≤ _; exact Nat.le_of_eq rfl) (hb hby at_124) (fun _ _ => ⟨rfl, e313, (by decide : 2 + 0 ≤ _), (by decide : 6 + 0 ≤ _)⟩)
    dsimp only [Pt.U, Pt.locs, Pt.cells, Pt.slots] at X314 l314 y314 z314 st314 hQ314
    subst l314 y314 z314
    obtain ⟨h314, e314⟩ : ∃ z, T314.heap = z := ⟨_, rfl⟩
    rw [e314] at hQ314
    obtain ⟨rfl, N314q, K314, g314_0, g314_1, g314_2, g314_3⟩ := hQ314
    have N324 := Fr.app N51 N314q
    have pre325 : ∀ t, own_S p e below m T314 129 #[lvJ q0_, .second, lvJ q1_, .second, lvJ q2_, .second, lvJ q3_, .second, lvI p4_, lvI (1 : Int32), lvI z5, lvI z8, lvI z11, lvR w14_, lvR w23_, lvR b31, lvR b40, .unset, .unset] [(.int z5)] t → G t := by
      intro t kt
      refine pre52 t ?_
      show own_S p e below m T49 115 #[lvJ q0_, .second, lvJ q1_, .second, lvJ q2_, .second, lvJ q3_, .second, lvI p4_, lvI (1 : Int32), lvI z5, lvI z8, lvI z11, lvR w14_, lvR w23_, lvR b31, lvR b40, .unset, .unset] [(.int (1 : Int32))] _
      refine XS.ifNo X49.here hx rfl (hb hby at_115) rfl ((if0 _ _).trans (feq (by decide : ¬ ((1 : Int32) = (0 : Int32)))).1) ?_
      refine XS.aload X49.here hx rfl (hb hby at_118) rfl rfl ?_
      show own_S p e below m T49 120 #[lvJ q0_, .second, lvJ q1_, .second, lvJ q2_, .second, lvJ q3_, .second, lvI p4_, lvI (1 : Int32), lvI z5, lvI z8, lvI z11, lvR w14_, lvR w23_, lvR b31, lvR b40, .unset, .unset] [(.ref b31)] _
      refine st313 _ ?_
      refine XS.lloadN X313.here hx rfl (hb hby at_123) rfl ?_
      show own_S p e below m T313 124 #[lvJ q0_, .second, lvJ q1_, .second, lvJ q2_, .second, lvJ q3_, .second, lvI p4_, lvI (1 : Int32), lvI z5, lvI z8, lvI z11, lvR w14_, lvR w23_, lvR b31, lvR b40, .unset, .unset] [(.long q0_), (.ref w_PUT), (.ref b31)] _
      refine st314.trans ?_
      refine XS.iload X314.here hx rfl (hb hby at_127) rfl ?_
      exact kt
    rcases hz5 with ⟨rfl, hj326⟩ | ⟨rfl, hj326⟩
    · have pre327 : ∀ t, own_S p e below m T314 142 #[lvJ q0_, .second, lvJ q1_, .second, lvJ q2_, .second, lvJ q3_, .second, lvI p4_, lvI (1 : Int32), lvI (0 : Int32), lvI z8, lvI z11, lvR w14_, lvR w23_, lvR b31, lvR b40, .unset, .unset] [(.int z8)] t → G t := by
        intro t kt
        refine pre325 t ?_
        show own_S p e below m T314 129 #[lvJ q0_, .second, lvJ q1_, .second, lvJ q2_, .second, lvJ q3_, .second, lvI p4_, lvI (1 : Int32), lvI (0 : Int32), lvI z8, lvI z11, lvR w14_, lvR w23_, lvR b31, lvR b40, .unset, .unset] [(.int (0 : Int32))] _
        refine XS.ifYes X314.here hx rfl (pc0 := 129) (pc' := 140) rfl (hb hby at_129) rfl ((if0 _ _).trans (teq (by decide : (0 : Int32) = (0 : Int32))).1) (by decide) (by decide) ?_
        refine XS.iload X314.here hx rfl (hb hby at_140) rfl ?_
        exact kt
      rcases hz8 with ⟨rfl, hj328⟩ | ⟨rfl, hj328⟩
      · have pre329 : ∀ t, own_S p e below m T314 157 #[lvJ q0_, .second, lvJ q1_, .second, lvJ q2_, .second, lvJ q3_, .second, lvI p4_, lvI (1 : Int32), lvI (0 : Int32), lvI (0 : Int32), lvI z11, lvR w14_, lvR w23_, lvR b31, lvR b40, .unset, .unset] [(.int z11)] t → G t := by
          intro t kt
          refine pre327 t ?_
          show own_S p e below m T314 142 #[lvJ q0_, .second, lvJ q1_, .second, lvJ q2_, .second, lvJ q3_, .second, lvI p4_, lvI (1 : Int32), lvI (0 : Int32), lvI (0 : Int32), lvI z11, lvR w14_, lvR w23_, lvR b31, lvR b40, .unset, .unset] [(.int (0 : Int32))] _
          refine XS.ifYes X314.here hx rfl (pc0 := 142) (pc' := 155) rfl (hb hby at_142) rfl ((if0 _ _).trans (teq (by decide : (0 : Int32) = (0 : Int32))).1) (by decide) (by decide) ?_
          refine XS.iload X314.here hx rfl (hb hby at_155) rfl ?_
          exact kt
        rcases hz11 with ⟨rfl, hj330⟩ | ⟨rfl, hj330⟩
        · have f332 : Exa Z h314 b40 cn0 := g49_0.keep K314
          have f333 : Fld Z h314 b40 cn0 "latestTimestamp" "J" (.long (-9223372036854775808 : Int64)) := g49_1.keep K314 (ninS (Ne.symm ne319) nin0)
          have f334 : Fld Z h314 b40 cn0 "latestDeleteTimestamp" "J" (.long (-9223372036854775808 : Int64)) := g49_2.keep K314 (ninS (Ne.symm ne319) nin0)
          have f335 : Fld Z h314 b40 cn0 "cells" "J" (.long (0 : Int64)) := g49_3.keep K314 (ninS (Ne.symm ne319) nin0)
          have f336 : Old Z n0 h314 := f312.keep K314 (allS (ge32) all0)
          obtain ⟨cq331, kq331, q331a, q331b, q331c⟩ := isOf hZ e314 g314_0
          obtain ⟨_, _, ⟨T331, L331, k331, n331⟩, -, X331, ⟨Lc331, hQ331, l331, y331, z331⟩, st331⟩ := X314.virtualBack hx (y := (⟨"com/example/zenodotus/zenodotus/io/RowCodec$Tally", "add", "(Lcom/example/zenodotus/zenodotus/io/RowCodec$Tally;)V"⟩ : MethodName)) (z := (⟨"com/example/zenodotus/zenodotus/io/RowCodec$Tally", "add", "(Lcom/example/zenodotus/zenodotus/io/RowCodec$Tally;)V"⟩ : MethodName)) hown (mvT hZ (own_w hw 31 rfl)) (mvT hZ (own_w hw 32 rfl)) (notFace_of_selects (args := #[]) (mvT hZ (own_w hw 34 rfl))) (mvT hZ (own_w hw 34 rfl)) (mvT hZ (own_w hw 33 rfl)) (by decide) (backOf (W := 0) (rmadd29 l Z a0 hw [] b31 b40 (own_max (-9223372036854775808 : Int64) q0_) h314 n0 f336 g314_0 g314_1 g314_2 g314_3 f332 f333 f334 f335 ge32 (Ne.symm ne319)) hZ (own_w hw 35 rfl) (own_w hw 5 rfl) (by decide) (by decide)) q331a q331c (g := (mkF m 173 #[lvJ q0_, .second, lvJ q1_, .second, lvJ q2_, .second, lvJ q3_, .second, lvI p4_, lvI (1 : Int32), lvI (0 : Int32), lvI (0 : Int32), lvI (0 : Int32), lvR w14_, lvR w23_, lvR b31, lvR b40, .unset, .unset] [(.ref b40), (.ref b31)])) rfl (by rw [hml]; rfl) (Steps.refl _) (argsL := [(.ref b40)]) (rest := []) (lenOf pd_2 rfl) rfl (by show 2 * 0 + _ ≤ _; exact Nat.le_of_eq rfl) (hb hby at_173) (fun _ _ => ⟨rfl, e314, (by decide : 2 + 0 ≤ _), (by decide : 6 + 0 ≤ _)⟩)
          dsimp only [Pt.U, Pt.locs, Pt.cells, Pt.slots] at X331 l331 y331 z331 st331 hQ331
          subst l331 y331 z331
          obtain ⟨h331, e331⟩ : ∃ z, T331.heap = z := ⟨_, rfl⟩
          rw [e331] at hQ331
          obtain ⟨rfl, N331q, K331, g331_0, g331_1, g331_2, g331_3⟩ := hQ331
          have N337 := Fr.app N324 N331q
          have f339 : Old Z n0 h331 := f336.keep K331 (allS (ge32) all0)
          obtain ⟨cq338, kq338, q338a, q338b, q338c⟩ := isOf hZ e331 g331_0
          obtain ⟨_, _, ⟨T338, L338, k338, n338⟩, -, X338, ⟨Lc338, hQ338, l338, y338, z338⟩, st338⟩ := X331.virtualBack hx (y := (⟨"com/example/zenodotus/zenodotus/io/RowCodec$Tally", "cells", "()J"⟩ : MethodName)) (z := (⟨"com/example/zenodotus/zenodotus/io/RowCodec$Tally", "cells", "()J"⟩ : MethodName)) hown (mvT hZ (own_w hw 36 rfl)) (mvT hZ (own_w hw 37 rfl)) (notFace_of_selects (args := #[]) (mvT hZ (own_w hw 39 rfl))) (mvT hZ (own_w hw 39 rfl)) (mvT hZ (own_w hw 38 rfl)) (by decide) (backOf (W := 0) (rmcells9 l Z a0 hw [] b31 (own_max (own_max (-9223372036854775808 : Int64) q0_) (-9223372036854775808 : Int64)) (own_max (-9223372036854775808 : Int64) (-9223372036854775808 : Int64)) h331 n0 f339 g331_0 g331_1 g331_2 g331_3) hZ (own_w hw 40 rfl) (own_w hw 5 rfl) (by decide) (by decide)) q338a q338c (g := (mkF m 223 #[lvJ q0_, .second, lvJ q1_, .second, lvJ q2_, .second, lvJ q3_, .second, lvI p4_, lvI (1 : Int32), lvI (0 : Int32), lvI (0 : Int32), lvI (0 : Int32), lvR w14_, lvR w23_, lvR b31, lvR b40, lvJ (1 : Int64), .second] [(.ref b31)])) rfl (by rw [hml]; rfl) (Steps.refl _) (argsL := []) (rest := []) (lenOf pd_3 rfl) rfl (by show 2 * 0 + _ ≤ _; exact Nat.le_of_eq rfl) (hb hby at_223) (fun _ _ => ⟨rfl, e331, (by decide : 2 + 0 ≤ _), (by decide : 6 + 0 ≤ _)⟩)
          dsimp only [Pt.U, Pt.locs, Pt.cells, Pt.slots] at X338 l338 y338 z338 st338 hQ338
          subst l338 y338 z338
          obtain ⟨h338, e338⟩ : ∃ z, T338.heap = z := ⟨_, rfl⟩
          rw [e338] at hQ338
          obtain ⟨rfl, N338q, hh338⟩ := hQ338
          have N340 := Fr.app N337 N338q
          have e338' : T338.heap = h331 := e338.trans hh338
          obtain ⟨cq341, kq341, q341a, q341b, q341c⟩ := isOf hZ e338' g331_0
          obtain ⟨_, _, ⟨T341, L341, k341, n341⟩, -, X341, ⟨Lc341, hQ341, l341, y341, z341⟩, st341⟩ := X338.virtualBack hx (y := (⟨"com/example/zenodotus/zenodotus/io/RowCodec$Tally", "latestTimestamp", "()J"⟩ : MethodName)) (z := (⟨"com/example/zenodotus/zenodotus/io/RowCodec$Tally", "latestTimestamp", "()J"⟩ : MethodName)) hown (mvT hZ (own_w hw 41 rfl)) (mvT hZ (own_w hw 42 rfl)) (notFace_of_selects (args := #[]) (mvT hZ (own_w hw 44 rfl))) (mvT hZ (own_w hw 44 rfl)) (mvT hZ (own_w hw 43 rfl)) (by decide) (backOf (W := 0) (rmlatestTimestamp10 l Z a0 hw [] b31 (own_max (own_max (-9223372036854775808 : Int64) q0_) (-9223372036854775808 : Int64)) (own_max (-9223372036854775808 : Int64) (-9223372036854775808 : Int64)) h331 n0 f339 g331_0 g331_1 g331_2 g331_3) hZ (own_w hw 45 rfl) (own_w hw 5 rfl) (by decide) (by decide)) q341a q341c (g := (mkF m 234 #[lvJ q0_, .second, lvJ q1_, .second, lvJ q2_, .second, lvJ q3_, .second, lvI p4_, lvI (1 : Int32), lvI (0 : Int32), lvI (0 : Int32), lvI (0 : Int32), lvR w14_, lvR w23_, lvR b31, lvR b40, lvJ (1 : Int64), .second] [(.ref b31)])) rfl (by rw [hml]; rfl) (Steps.refl _) (argsL := []) (rest := []) (lenOf pd_3 rfl) rfl (by show 2 * 0 + _ ≤ _; exact Nat.le_of_eq rfl) (hb hby at_234) (fun _ _ => ⟨rfl, e338', (by decide : 2 + 0 ≤ _), (by decide : 6 + 0 ≤ _)⟩)
          dsimp only [Pt.U, Pt.locs, Pt.cells, Pt.slots] at X341 l341 y341 z341 st341 hQ341
          subst l341 y341 z341
          obtain ⟨h341, e341⟩ : ∃ z, T341.heap = z := ⟨_, rfl⟩
          rw [e341] at hQ341
          obtain ⟨rfl, N341q, hh341⟩ := hQ341
          have N342 := Fr.app N340 N341q
          have e341' : T341.heap = h331 := e341.trans hh341
          obtain ⟨_, _, ⟨T343, L343, k343, n343⟩, -, X343, ⟨Lc343, hQ343, l343, y343, z343⟩, st343⟩ := Jvm.LawKit.callS X341 hx (y := (⟨"com/example/zenodotus/zenodotus/io/TallyAddPinLaw", "expect", "(ZJZJ)J"⟩ : MethodName)) hown (mvT hZ (own_w hw 46 rfl)) (mvT hZ (own_w hw 47 rfl)) (mvT hZ (own_w hw 48 rfl)) (mvT hZ (own_w hw 49 rfl)) (by decide) (backOf (W := 2) (rmexpect21 l Z a0 hw [] q0_ q2_ h331 n0 f339 ) hZ (own_w hw 49 rfl) (own_w hw 48 rfl) (by decide) (by decide)) (g := (mkF m 244 #[lvJ q0_, .second, lvJ q1_, .second, lvJ q2_, .second, lvJ q3_, .second, lvI p4_, lvI (1 : Int32), lvI (0 : Int32), lvI (0 : Int32), lvI (0 : Int32), lvR w14_, lvR w23_, lvR b31, lvR b40, lvJ (1 : Int64), .second] [(.long q2_), (.int (0 : Int32)), (.long q0_), (.int (1 : Int32)), (.long (own_max (own_max (-9223372036854775808 : Int64) q0_) (-9223372036854775808 : Int64)))])) rfl (by rw [hml]; rfl) (argsL := [(.int (1 : Int32)), (.long q0_), (.int (0 : Int32)), (.long q2_)]) (rest := [(.long (own_max (own_max (-9223372036854775808 : Int64) q0_) (-9223372036854775808 : Int64)))]) (lenOf pd_4 rfl) rfl (by show 2 * 0 + _ ≤ _; exact Nat.le_of_eq rfl) (hb hby at_244) (fun _ _ => ⟨rfl, e341', (by decide : 2 + 0 ≤ _), (by decide : 6 + 0 ≤ _)⟩)
          dsimp only [Pt.U, Pt.locs, Pt.cells, Pt.slots] at X343 l343 y343 z343 st343 hQ343
          subst l343 y343 z343
          obtain ⟨h343, e343⟩ : ∃ z, T343.heap = z := ⟨_, rfl⟩
          rw [e343] at hQ343
          obtain ⟨rfl, N343q, hh343⟩ := hQ343
          have N344 := Fr.app N342 N343q
          have e343' : T343.heap = h331 := e343.trans hh343
          obtain ⟨cq345, kq345, q345a, q345b, q345c⟩ := isOf hZ e343' g331_0
          obtain ⟨_, _, ⟨T345, L345, k345, n345⟩, -, X345, ⟨Lc345, hQ345, l345, y345, z345⟩, st345⟩ := X343.virtualBack hx (y := (⟨"com/example/zenodotus/zenodotus/io/RowCodec$Tally", "latestDeleteTimestamp", "()J"⟩ : MethodName)) (z := (⟨"com/example/zenodotus/zenodotus/io/RowCodec$Tally", "latestDeleteTimestamp", "()J"⟩ : MethodName)) hown (mvT hZ (own_w hw 50 rfl)) (mvT hZ (own_w hw 51 rfl)) (notFace_of_selects (args := #[]) (mvT hZ (own_w hw 53 rfl))) (mvT hZ (own_w hw 53 rfl)) (mvT hZ (own_w hw 52 rfl)) (by decide) (backOf (W := 0) (rmlatestDeleteTimestamp11 l Z a0 hw [] b31 (own_max (own_max (-9223372036854775808 : Int64) q0_) (-9223372036854775808 : Int64)) (own_max (-9223372036854775808 : Int64) (-9223372036854775808 : Int64)) h331 n0 f339 g331_0 g331_1 g331_2 g331_3) hZ (own_w hw 54 rfl) (own_w hw 5 rfl) (by decide) (by decide)) q345a q345c (g := (mkF m 253 #[lvJ q0_, .second, lvJ q1_, .second, lvJ q2_, .second, lvJ q3_, .second, lvI p4_, lvI (1 : Int32), lvI (0 : Int32), lvI (0 : Int32), lvI (0 : Int32), lvR w14_, lvR w23_, lvR b31, lvR b40, lvJ (1 : Int64), .second] [(.ref b31)])) rfl (by rw [hml]; rfl) (Steps.refl _) (argsL := []) (rest := []) (lenOf pd_3 rfl) rfl (by show 2 * 0 + _ ≤ _; exact Nat.le_of_eq rfl) (hb hby at_253) (fun _ _ => ⟨rfl, e343', (by decide : 2 + 0 ≤ _), (by decide : 6 + 0 ≤ _)⟩)
          dsimp only [Pt.U, Pt.locs, Pt.cells, Pt.slots] at X345 l345 y345 z345 st345 hQ345
          subst l345 y345 z345
          obtain ⟨h345, e345⟩ : ∃ z, T345.heap = z := ⟨_, rfl⟩
          rw [e345] at hQ345
          obtain ⟨rfl, N345q, hh345⟩ := hQ345
          have N346 := Fr.app N344 N345q
          have e345' : T345.heap = h331 := e345.trans hh345
          obtain ⟨_, _, ⟨T347, L347, k347, n347⟩, -, X347, ⟨Lc347, hQ347, l347, y347, z347⟩, st347⟩ := Jvm.LawKit.callS X345 hx (y := (⟨"com/example/zenodotus/zenodotus/io/TallyAddPinLaw", "expect", "(ZJZJ)J"⟩ : MethodName)) hown (mvT hZ (own_w hw 46 rfl)) (mvT hZ (own_w hw 47 rfl)) (mvT hZ (own_w hw 48 rfl)) (mvT hZ (own_w hw 49 rfl)) (by decide) (backOf (W := 2) (rmexpect5 l Z a0 hw [] q1_ q3_ h331 n0 f339 ) hZ (own_w hw 49 rfl) (own_w hw 48 rfl) (by decide) (by decide)) (g := (mkF m 263 #[lvJ q0_, .second, lvJ q1_, .second, lvJ q2_, .second, lvJ q3_, .second, lvI p4_, lvI (1 : Int32), lvI (0 : Int32), lvI (0 : Int32), lvI (0 : Int32), lvR w14_, lvR w23_, lvR b31, lvR b40, lvJ (1 : Int64), .second] [(.long q3_), (.int (0 : Int32)), (.long q1_), (.int (0 : Int32)), (.long (own_max (-9223372036854775808 : Int64) (-9223372036854775808 : Int64)))])) rfl (by rw [hml]; rfl) (argsL := [(.int (0 : Int32)), (.long q1_), (.int (0 : Int32)), (.long q3_)]) (rest := [(.long (own_max (-9223372036854775808 : Int64) (-9223372036854775808 : Int64)))]) (lenOf pd_4 rfl) rfl (by show 2 * 0 + _ ≤ _; exact Nat.le_of_eq rfl) (hb hby at_263) (fun _ _ => ⟨rfl, e345', (by decide : 2 + 0 ≤ _), (by decide : 6 + 0 ≤ _)⟩)
          dsimp only [Pt.U, Pt.locs, Pt.cells, Pt.slots] at X347 l347 y347 z347 st347 hQ347
          subst l347 y347 z347
          obtain ⟨h347, e347⟩ : ∃ z, T347.heap = z := ⟨_, rfl⟩
          rw [e347] at hQ347
          obtain ⟨rfl, N347q, hh347⟩ := hQ347
          have N348 := Fr.app N346 N347q
          have e347' : T347.heap = h331 := e347.trans hh347
          have pre349 : ∀ t, own_S p e below m T347 275 #[lvJ q0_, .second, lvJ q1_, .second, lvJ q2_, .second, lvJ q3_, .second, lvI p4_, lvI (1 : Int32), lvI (0 : Int32), lvI (0 : Int32), lvI (0 : Int32), lvR w14_, lvR w23_, lvR b31, lvR b40, lvJ (1 : Int64), .second] [(.int (1 : Int32))] t → G t := by
            intro t kt
            refine pre329 t ?_
            show own_S p e below m T314 157 #[lvJ q0_, .second, lvJ q1_, .second, lvJ q2_, .second, lvJ q3_, .second, lvI p4_, lvI (1 : Int32), lvI (0 : Int32), lvI (0 : Int32), lvI (0 : Int32), lvR w14_, lvR w23_, lvR b31, lvR b40, .unset, .unset] [(.int (0 : Int32))] _
            refine XS.ifYes X314.here hx rfl (pc0 := 157) (pc' := 169) rfl (hb hby at_157) rfl ((if0 _ _).trans (teq (by decide : (0 : Int32) = (0 : Int32))).1) (by decide) (by decide) ?_
            refine XS.aload X314.here hx rfl (hb hby at_169) rfl rfl ?_
            refine XS.aload X314.here hx rfl (hb hby at_171) rfl rfl ?_
            show own_S p e below m T314 173 #[lvJ q0_, .second, lvJ q1_, .second, lvJ q2_, .second, lvJ q3_, .second, lvI p4_, lvI (1 : Int32), lvI (0 : Int32), lvI (0 : Int32), lvI (0 : Int32), lvR w14_, lvR w23_, lvR b31, lvR b40, .unset, .unset] [(.ref b40), (.ref b31)] _
            refine st331.trans ?_
            refine XS.iload X331.here hx rfl (hb hby at_176) rfl ?_
            show own_S p e below m T331 178 #[lvJ q0_, .second, lvJ q1_, .second, lvJ q2_, .second, lvJ q3_, .second, lvI p4_, lvI (1 : Int32), lvI (0 : Int32), lvI (0 : Int32), lvI (0 : Int32), lvR w14_, lvR w23_, lvR b31, lvR b40, .unset, .unset] [(.int (1 : Int32))] _
            refine XS.ifNo X331.here hx rfl (hb hby at_178) rfl ((if0 _ _).trans (feq (by decide : ¬ ((1 : Int32) = (0 : Int32)))).1) ?_
            refine XS.lconst X331.here hx rfl (hb hby at_181) ?_
            refine XS.goto X331.here hx rfl (pc0 := 182) (pc' := 186) rfl (hb hby at_182) (by decide) (by decide) ?_
            refine XS.iload X331.here hx rfl (hb hby at_186) rfl ?_
            show own_S p e below m T331 188 #[lvJ q0_, .second, lvJ q1_, .second, lvJ q2_, .second, lvJ q3_, .second, lvI p4_, lvI (1 : Int32), lvI (0 : Int32), lvI (0 : Int32), lvI (0 : Int32), lvR w14_, lvR w23_, lvR b31, lvR b40, .unset, .unset] [(.int (0 : Int32)), (.long (1 : Int64))] _
            refine XS.ifYes X331.here hx rfl (pc0 := 188) (pc' := 195) rfl (hb hby at_188) rfl ((if0 _ _).trans (teq (by decide : (0 : Int32) = (0 : Int32))).1) (by decide) (by decide) ?_
            refine XS.lconst X331.here hx rfl (hb hby at_195) ?_
            refine XS.ladd X331.here hx rfl (hb hby at_196) rfl ?_
            refine XS.iload X331.here hx rfl (hb hby at_197) rfl ?_
            show own_S p e below m T331 199 #[lvJ q0_, .second, lvJ q1_, .second, lvJ q2_, .second, lvJ q3_, .second, lvI p4_, lvI (1 : Int32), lvI (0 : Int32), lvI (0 : Int32), lvI (0 : Int32), lvR w14_, lvR w23_, lvR b31, lvR b40, .unset, .unset] [(.int (0 : Int32)), (.long (1 : Int64))] _
            refine XS.ifYes X331.here hx rfl (pc0 := 199) (pc' := 206) rfl (hb hby at_199) rfl ((if0 _ _).trans (teq (by decide : (0 : Int32) = (0 : Int32))).1) (by decide) (by decide) ?_
            refine XS.lconst X331.here hx rfl (hb hby at_206) ?_
            refine XS.ladd X331.here hx rfl (hb hby at_207) rfl ?_
            refine XS.iload X331.here hx rfl (hb hby at_208) rfl ?_
            show own_S p e below m T331 210 #[lvJ q0_, .second, lvJ q1_, .second, lvJ q2_, .second, lvJ q3_, .second, lvI p4_, lvI (1 : Int32), lvI (0 : Int32), lvI (0 : Int32), lvI (0 : Int32), lvR w14_, lvR w23_, lvR b31, lvR b40, .unset, .unset] [(.int (0 : Int32)), (.long (1 : Int64))] _
            refine XS.ifYes X331.here hx rfl (pc0 := 210) (pc' := 217) rfl (hb hby at_210) rfl ((if0 _ _).trans (teq (by decide : (0 : Int32) = (0 : Int32))).1) (by decide) (by decide) ?_
            refine XS.lconst X331.here hx rfl (hb hby at_217) ?_
            refine XS.ladd X331.here hx rfl (hb hby at_218) rfl ?_
            refine XS.lstore X331.here hx rfl (hb hby at_219) rfl (l' := #[lvJ q0_, .second, lvJ q1_, .second, lvJ q2_, .second, lvJ q3_, .second, lvI p4_, lvI (1 : Int32), lvI (0 : Int32), lvI (0 : Int32), lvI (0 : Int32), lvR w14_, lvR w23_, lvR b31, lvR b40, lvJ (1 : Int64), .second]) rfl ?_
            show own_S p e below m T331 221 #[lvJ q0_, .second, lvJ q1_, .second, lvJ q2_, .second, lvJ q3_, .second, lvI p4_, lvI (1 : Int32), lvI (0 : Int32), lvI (0 : Int32), lvI (0 : Int32), lvR w14_, lvR w23_, lvR b31, lvR b40, lvJ (1 : Int64), .second] [] _
            refine XS.aload X331.here hx rfl (hb hby at_221) rfl rfl ?_
            show own_S p e below m T331 223 #[lvJ q0_, .second, lvJ q1_, .second, lvJ q2_, .second, lvJ q3_, .second, lvI p4_, lvI (1 : Int32), lvI (0 : Int32), lvI (0 : Int32), lvI (0 : Int32), lvR w14_, lvR w23_, lvR b31, lvR b40, lvJ (1 : Int64), .second] [(.ref b31)] _
            refine st338.trans ?_
            refine XS.lload X338.here hx rfl (hb hby at_226) rfl ?_
            refine XS.lcmp X338.here hx rfl (hb hby at_228) rfl ?_
            show own_S p e below m T338 229 #[lvJ q0_, .second, lvJ q1_, .second, lvJ q2_, .second, lvJ q3_, .second, lvI p4_, lvI (1 : Int32), lvI (0 : Int32), lvI (0 : Int32), lvI (0 : Int32), lvR w14_, lvR w23_, lvR b31, lvR b40, lvJ (1 : Int64), .second] [(.int (lcmpW (1 : Int64) (1 : Int64)))] _
            refine XS.ifNo X338.here hx rfl (hb hby at_229) rfl ((if0 _ _).trans (teq ((lw_eq _ _).mpr (by decide : (1 : Int64) = (1 : Int64)))).2) ?_
            refine XS.aload X338.here hx rfl (hb hby at_232) rfl rfl ?_
            show own_S p e below m T338 234 #[lvJ q0_, .second, lvJ q1_, .second, lvJ q2_, .second, lvJ q3_, .second, lvI p4_, lvI (1 : Int32), lvI (0 : Int32), lvI (0 : Int32), lvI (0 : Int32), lvR w14_, lvR w23_, lvR b31, lvR b40, lvJ (1 : Int64), .second] [(.ref b31)] _
            refine st341.trans ?_
            refine XS.iload X341.here hx rfl (hb hby at_237) rfl ?_
            refine XS.lloadN X341.here hx rfl (hb hby at_239) rfl ?_
            refine XS.iload X341.here hx rfl (hb hby at_240) rfl ?_
            show own_S p e below m T341 242 #[lvJ q0_, .second, lvJ q1_, .second, lvJ q2_, .second, lvJ q3_, .second, lvI p4_, lvI (1 : Int32), lvI (0 : Int32), lvI (0 : Int32), lvI (0 : Int32), lvR w14_, lvR w23_, lvR b31, lvR b40, lvJ (1 : Int64), .second] [(.int (0 : Int32)), (.long q0_), (.int (1 : Int32)), (.long (own_max (own_max (-9223372036854775808 : Int64) q0_) (-9223372036854775808 : Int64)))] _
            refine XS.lload X341.here hx rfl (hb hby at_242) rfl ?_
            show own_S p e below m T341 244 #[lvJ q0_, .second, lvJ q1_, .second, lvJ q2_, .second, lvJ q3_, .second, lvI p4_, lvI (1 : Int32), lvI (0 : Int32), lvI (0 : Int32), lvI (0 : Int32), lvR w14_, lvR w23_, lvR b31, lvR b40, lvJ (1 : Int64), .second] [(.long q2_), (.int (0 : Int32)), (.long q0_), (.int (1 : Int32)), (.long (own_max (own_max (-9223372036854775808 : Int64) q0_) (-9223372036854775808 : Int64)))] _
            refine st343 _ ?_
            refine XS.lcmp X343.here hx rfl (hb hby at_247) rfl ?_
            show own_S p e below m T343 248 #[lvJ q0_, .second, lvJ q1_, .second, lvJ q2_, .second, lvJ q3_, .second, lvI p4_, lvI (1 : Int32), lvI (0 : Int32), lvI (0 : Int32), lvI (0 : Int32), lvR w14_, lvR w23_, lvR b31, lvR b40, lvJ (1 : Int64), .second] [(.int (lcmpW (own_max (own_max (-9223372036854775808 : Int64) q0_) (-9223372036854775808 : Int64)) q0_))] _
            refine XS.ifNo X343.here hx rfl (hb hby at_248) rfl ((if0 _ _).trans (teq ((lw_eq _ _).mpr (by simp only [own_minl, own_minr]))).2) ?_
            refine XS.aload X343.here hx rfl (hb hby at_251) rfl rfl ?_
            show own_S p e below m T343 253 #[lvJ q0_, .second, lvJ q1_, .second, lvJ q2_, .second, lvJ q3_, .second, lvI p4_, lvI (1 : Int32), lvI (0 : Int32), lvI (0 : Int32), lvI (0 : Int32), lvR w14_, lvR w23_, lvR b31, lvR b40, lvJ (1 : Int64), .second] [(.ref b31)] _
            refine st345.trans ?_
            refine XS.iload X345.here hx rfl (hb hby at_256) rfl ?_
            refine XS.lloadN X345.here hx rfl (hb hby at_258) rfl ?_
            refine XS.iload X345.here hx rfl (hb hby at_259) rfl ?_
            show own_S p e below m T345 261 #[lvJ q0_, .second, lvJ q1_, .second, lvJ q2_, .second, lvJ q3_, .second, lvI p4_, lvI (1 : Int32), lvI (0 : Int32), lvI (0 : Int32), lvI (0 : Int32), lvR w14_, lvR w23_, lvR b31, lvR b40, lvJ (1 : Int64), .second] [(.int (0 : Int32)), (.long q1_), (.int (0 : Int32)), (.long (own_max (-9223372036854775808 : Int64) (-9223372036854775808 : Int64)))] _
            refine XS.lload X345.here hx rfl (hb hby at_261) rfl ?_
            show own_S p e below m T345 263 #[lvJ q0_, .second, lvJ q1_, .second, lvJ q2_, .second, lvJ q3_, .second, lvI p4_, lvI (1 : Int32), lvI (0 : Int32), lvI (0 : Int32), lvI (0 : Int32), lvR w14_, lvR w23_, lvR b31, lvR b40, lvJ (1 : Int64), .second] [(.long q3_), (.int (0 : Int32)), (.long q1_), (.int (0 : Int32)), (.long (own_max (-9223372036854775808 : Int64) (-9223372036854775808 : Int64)))] _
            refine st347 _ ?_
            refine XS.lcmp X347.here hx rfl (hb hby at_266) rfl ?_
            show own_S p e below m T347 267 #[lvJ q0_, .second, lvJ q1_, .second, lvJ q2_, .second, lvJ q3_, .second, lvI p4_, lvI (1 : Int32), lvI (0 : Int32), lvI (0 : Int32), lvI (0 : Int32), lvR w14_, lvR w23_, lvR b31, lvR b40, lvJ (1 : Int64), .second] [(.int (lcmpW (own_max (-9223372036854775808 : Int64) (-9223372036854775808 : Int64)) (-9223372036854775808 : Int64)))] _
            refine XS.ifNo X347.here hx rfl (hb hby at_267) rfl ((if0 _ _).trans (teq ((lw_eq _ _).mpr (by simp only [own_minl, own_minr]))).2) ?_
            refine XS.iconst X347.here hx rfl (hb hby at_270) ?_
            refine XS.goto X347.here hx rfl (pc0 := 271) (pc' := 275) rfl (hb hby at_271) (by decide) (by decide) ?_
            exact kt
          obtain ⟨fs, hr, hrun, hended, hW, hsame⟩ := X347.leave (v := some (.int (1 : Int32))) (fun h => by rw [Bd.returns] at h; cases h)
          refine ⟨_, _, hG _ (pre349 _ (retN X347 hx (t := .boolean) Bd.returns (by simp) (hb hby at_275) hr)), hrun, hended, _, _, rfl, ?_, ⟨_, rfl⟩, hW, hsame.mono (by decide) (by decide)⟩
          show QLaw Z q0_ q1_ q2_ q3_ p4_ w_PUT w_DELETE_COLUMN w_DELETE_FAMILY h0 n0 _ T347.heap _
          rw [e347']
          exact ⟨rfl, N348⟩
        · have f352 : Exa Z h314 b40 cn0 := g49_0.keep K314
          have f353 : Fld Z h314 b40 cn0 "latestTimestamp" "J" (.long (-9223372036854775808 : Int64)) := g49_1.keep K314 (ninS (Ne.symm ne319) nin0)
          have f354 : Fld Z h314 b40 cn0 "latestDeleteTimestamp" "J" (.long (-9223372036854775808 : Int64)) := g49_2.keep K314 (ninS (Ne.symm ne319) nin0)
          have f355 : Fld Z h314 b40 cn0 "cells" "J" (.long (0 : Int64)) := g49_3.keep K314 (ninS (Ne.symm ne319) nin0)
          have f356 : Old Z n0 h314 := f312.keep K314 (allS (ge32) all0)
          obtain ⟨cq351, kq351, q351a, q351b, q351c⟩ := isOf hZ e314 f352
          obtain ⟨_, _, ⟨T351, L351, k351, n351⟩, -, X351, ⟨Lc351, hQ351, l351, y351, z351⟩, st351⟩ := X314.virtualBack hx (y := (⟨"com/example/zenodotus/zenodotus/io/RowCodec$Tally", "count", "(Lcom/example/zenodotus/zenodotus/model/Cell$Kind;J)V"⟩ : MethodName)) (z := (⟨"com/example/zenodotus/zenodotus/io/RowCodec$Tally", "count", "(Lcom/example/zenodotus/zenodotus/model/Cell$Kind;J)V"⟩ : MethodName)) hown (mvT hZ (own_w hw 19 rfl)) (mvT hZ (own_w hw 20 rfl)) (notFace_of_selects (args := #[]) (mvT hZ (own_w hw 22 rfl))) (mvT hZ (own_w hw 22 rfl)) (mvT hZ (own_w hw 21 rfl)) (by decide) (backOf (W := 0) (rmcount7 l Z a0 hw [] b40 w23_ q3_ w_PUT h314 n0 f356 f352 f353 f354 f355 E23 ge42 P1 P2 P0 n23_0) hZ (own_w hw 23 rfl) (own_w hw 5 rfl) (by decide) (by decide)) q351a q351c (g := (mkF m 166 #[lvJ q0_, .second, lvJ q1_, .second, lvJ q2_, .second, lvJ q3_, .second, lvI p4_, lvI (1 : Int32), lvI (0 : Int32), lvI (0 : Int32), lvI (1 : Int32), lvR w14_, lvR w23_, lvR b31, lvR b40, .unset, .unset] [(.long q3_), (.ref w23_), (.ref b40)])) rfl (by rw [hml]; rfl) (Steps.refl _) (argsL := [(.ref w23_), (.long q3_)]) (rest := []) (lenOf pd_5 rfl) rfl (by show 2 * 0 + _ ≤ _; exact Nat.le_of_eq rfl) (hb hby at_166) (fun _ _ => ⟨rfl, e314, (by decide : 2 + 0 ≤ _), (by decide : 6 + 0 ≤ _)⟩)
          dsimp only [Pt.U, Pt.locs, Pt.cells, Pt.slots] at X351 l351 y351 z351 st351 hQ351
          subst l351 y351 z351
          obtain ⟨h351, e351⟩ : ∃ z, T351.heap = z := ⟨_, rfl⟩
          rw [e351] at hQ351
          obtain ⟨rfl, N351q, K351, g351_0, g351_1, g351_2, g351_3⟩ := hQ351
          have N357 := Fr.app N324 N351q
          have f359 : Exa Z h351 b31 cn0 := g314_0.keep K351
          have f360 : Fld Z h351 b31 cn0 "latestTimestamp" "J" (.long (own_max (-9223372036854775808 : Int64) q0_)) := g314_1.keep K351 (ninS ne319 nin0)
          have f361 : Fld Z h351 b31 cn0 "latestDeleteTimestamp" "J" (.long (-9223372036854775808 : Int64)) := g314_2.keep K351 (ninS ne319 nin0)
          have f362 : Fld Z h351 b31 cn0 "cells" "J" (.long (1 : Int64)) := g314_3.keep K351 (ninS ne319 nin0)
          have f363 : Old Z n0 h351 := f356.keep K351 (allS (ge42) all0)
          obtain ⟨cq358, kq358, q358a, q358b, q358c⟩ := isOf hZ e351 f359
          obtain ⟨_, _, ⟨T358, L358, k358, n358⟩, -, X358, ⟨Lc358, hQ358, l358, y358, z358⟩, st358⟩ := X351.virtualBack hx (y := (⟨"com/example/zenodotus/zenodotus/io/RowCodec$Tally", "add", "(Lcom/example/zenodotus/zenodotus/io/RowCodec$Tally;)V"⟩ : MethodName)) (z := (⟨"com/example/zenodotus/zenodotus/io/RowCodec$Tally", "add", "(Lcom/example/zenodotus/zenodotus/io/RowCodec$Tally;)V"⟩ : MethodName)) hown (mvT hZ (own_w hw 31 rfl)) (mvT hZ (own_w hw 32 rfl)) (notFace_of_selects (args := #[]) (mvT hZ (own_w hw 34 rfl))) (mvT hZ (own_w hw 34 rfl)) (mvT hZ (own_w hw 33 rfl)) (by decide) (backOf (W := 0) (rmadd30 l Z a0 hw [] b31 b40 (own_max (-9223372036854775808 : Int64) q0_) (own_max (-9223372036854775808 : Int64) q3_) h351 n0 f363 f359 f360 f361 f362 g351_0 g351_1 g351_2 g351_3 ge32 (Ne.symm ne319)) hZ (own_w hw 35 rfl) (own_w hw 5 rfl) (by decide) (by decide)) q358a q358c (g := (mkF m 173 #[lvJ q0_, .second, lvJ q1_, .second, lvJ q2_, .second, lvJ q3_, .second, lvI p4_, lvI (1 : Int32), lvI (0 : Int32), lvI (0 : Int32), lvI (1 : Int32), lvR w14_, lvR w23_, lvR b31, lvR b40, .unset, .unset] [(.ref b40), (.ref b31)])) rfl (by rw [hml]; rfl) (Steps.refl _) (argsL := [(.ref b40)]) (rest := []) (lenOf pd_2 rfl) rfl (by show 2 * 0 + _ ≤ _; exact Nat.le_of_eq rfl) (hb hby at_173) (fun _ _ => ⟨rfl, e351, (by decide : 2 + 0 ≤ _), (by decide : 6 + 0 ≤ _)⟩)
          dsimp only [Pt.U, Pt.locs, Pt.cells, Pt.slots] at X358 l358 y358 z358 st358 hQ358
          subst l358 y358 z358
          obtain ⟨h358, e358⟩ : ∃ z, T358.heap = z := ⟨_, rfl⟩
          rw [e358] at hQ358
          obtain ⟨rfl, N358q, K358, g358_0, g358_1, g358_2, g358_3⟩ := hQ358
          have N364 := Fr.app N357 N358q
          have f366 : Old Z n0 h358 := f363.keep K358 (allS (ge32) all0)
          obtain ⟨cq365, kq365, q365a, q365b, q365c⟩ := isOf hZ e358 g358_0
          obtain ⟨_, _, ⟨T365, L365, k365, n365⟩, -, X365, ⟨Lc365, hQ365, l365, y365, z365⟩, st365⟩ := X358.virtualBack hx (y := (⟨"com/example/zenodotus/zenodotus/io/RowCodec$Tally", "cells", "()J"⟩ : MethodName)) (z := (⟨"com/example/zenodotus/zenodotus/io/RowCodec$Tally", "cells", "()J"⟩ : MethodName)) hown (mvT hZ (own_w hw 36 rfl)) (mvT hZ (own_w hw 37 rfl)) (notFace_of_selects (args := #[]) (mvT hZ (own_w hw 39 rfl))) (mvT hZ (own_w hw 39 rfl)) (mvT hZ (own_w hw 38 rfl)) (by decide) (backOf (W := 0) (rmcells17 l Z a0 hw [] b31 (own_max (own_max (-9223372036854775808 : Int64) q0_) (-9223372036854775808 : Int64)) (own_max (-9223372036854775808 : Int64) (own_max (-9223372036854775808 : Int64) q3_)) h358 n0 f366 g358_0 g358_1 g358_2 g358_3) hZ (own_w hw 40 rfl) (own_w hw 5 rfl) (by decide) (by decide)) q365a q365c (g := (mkF m 223 #[lvJ q0_, .second, lvJ q1_, .second, lvJ q2_, .second, lvJ q3_, .second, lvI p4_, lvI (1 : Int32), lvI (0 : Int32), lvI (0 : Int32), lvI (1 : Int32), lvR w14_, lvR w23_, lvR b31, lvR b40, lvJ (2 : Int64), .second] [(.ref b31)])) rfl (by rw [hml]; rfl) (Steps.refl _) (argsL := []) (rest := []) (lenOf pd_3 rfl) rfl (by show 2 * 0 + _ ≤ _; exact Nat.le_of_eq rfl) (hb hby at_223) (fun _ _ => ⟨rfl, e358, (by decide : 2 + 0 ≤ _), (by decide : 6 + 0 ≤ _)⟩)
          dsimp only [Pt.U, Pt.locs, Pt.cells, Pt.slots] at X365 l365 y365 z365 st365 hQ365
          subst l365 y365 z365
          obtain ⟨h365, e365⟩ : ∃ z, T365.heap = z := ⟨_, rfl⟩
          rw [e365] at hQ365
          obtain ⟨rfl, N365q, hh365⟩ := hQ365
          have N367 := Fr.app N364 N365q
          have e365' : T365.heap = h358 := e365.trans hh365
          obtain ⟨cq368, kq368, q368a, q368b, q368c⟩ := isOf hZ e365' g358_0
          obtain ⟨_, _, ⟨T368, L368, k368, n368⟩, -, X368, ⟨Lc368, hQ368, l368, y368, z368⟩, st368⟩ := X365.virtualBack hx (y := (⟨"com/example/zenodotus/zenodotus/io/RowCodec$Tally", "latestTimestamp", "()J"⟩ : MethodName)) (z := (⟨"com/example/zenodotus/zenodotus/io/RowCodec$Tally", "latestTimestamp", "()J"⟩ : MethodName)) hown (mvT hZ (own_w hw 41 rfl)) (mvT hZ (own_w hw 42 rfl)) (notFace_of_selects (args := #[]) (mvT hZ (own_w hw 44 rfl))) (mvT hZ (own_w hw 44 rfl)) (mvT hZ (own_w hw 43 rfl)) (by decide) (backOf (W := 0) (rmlatestTimestamp18 l Z a0 hw [] b31 (own_max (own_max (-9223372036854775808 : Int64) q0_) (-9223372036854775808 : Int64)) (own_max (-9223372036854775808 : Int64) (own_max (-9223372036854775808 : Int64) q3_)) h358 n0 f366 g358_0 g358_1 g358_2 g358_3) hZ (own_w hw 45 rfl) (own_w hw 5 rfl) (by decide) (by decide)) q368a q368c (g := (mkF m 234 #[lvJ q0_, .second, lvJ q1_, .second, lvJ q2_, .second, lvJ q3_, .second, lvI p4_, lvI (1 : Int32), lvI (0 : Int32), lvI (0 : Int32), lvI (1 : Int32), lvR w14_, lvR w23_, lvR b31, lvR b40, lvJ (2 : Int64), .second] [(.ref b31)])) rfl (by rw [hml]; rfl) (Steps.refl _) (argsL := []) (rest := []) (lenOf pd_3 rfl) rfl (by show 2 * 0 + _ ≤ _; exact Nat.le_of_eq rfl) (hb hby at_234) (fun _ _ => ⟨rfl, e365', (by decide : 2 + 0 ≤ _), (by decide : 6 + 0 ≤ _)⟩)
          dsimp only [Pt.U, Pt.locs, Pt.cells, Pt.slots] at X368 l368 y368 z368 st368 hQ368
          subst l368 y368 z368
          obtain ⟨h368, e368⟩ : ∃ z, T368.heap = z := ⟨_, rfl⟩
          rw [e368] at hQ368
          obtain ⟨rfl, N368q, hh368⟩ := hQ368
          have N369 := Fr.app N367 N368q
          have e368' : T368.heap = h358 := e368.trans hh368
          obtain ⟨_, _, ⟨T370, L370, k370, n370⟩, -, X370, ⟨Lc370, hQ370, l370, y370, z370⟩, st370⟩ := Jvm.LawKit.callS X368 hx (y := (⟨"com/example/zenodotus/zenodotus/io/TallyAddPinLaw", "expect", "(ZJZJ)J"⟩ : MethodName)) hown (mvT hZ (own_w hw 46 rfl)) (mvT hZ (own_w hw 47 rfl)) (mvT hZ (own_w hw 48 rfl)) (mvT hZ (own_w hw 49 rfl)) (by decide) (backOf (W := 2) (rmexpect21 l Z a0 hw [] q0_ q2_ h358 n0 f366 ) hZ (own_w hw 49 rfl) (own_w hw 48 rfl) (by decide) (by decide)) (g := (mkF m 244 #[lvJ q0_, .second, lvJ q1_, .second, lvJ q2_, .second, lvJ q3_, .second, lvI p4_, lvI (1 : Int32), lvI (0 : Int32), lvI (0 : Int32), lvI (1 : Int32), lvR w14_, lvR w23_, lvR b31, lvR b40, lvJ (2 : Int64), .second] [(.long q2_), (.int (0 : Int32)), (.long q0_), (.int (1 : Int32)), (.long (own_max (own_max (-9223372036854775808 : Int64) q0_) (-9223372036854775808 : Int64)))])) rfl (by rw [hml]; rfl) (argsL := [(.int (1 : Int32)), (.long q0_), (.int (0 : Int32)), (.long q2_)]) (rest := [(.long (own_max (own_max (-9223372036854775808 : Int64) q0_) (-9223372036854775808 : Int64)))]) (lenOf pd_4 rfl) rfl (by show 2 * 0 + _ ≤ _; exact Nat.le_of_eq rfl) (hb hby at_244) (fun _ _ => ⟨rfl, e368', (by decide : 2 + 0 ≤ _), (by decide : 6 + 0 ≤ _)⟩)
          dsimp only [Pt.U, Pt.locs, Pt.cells, Pt.slots] at X370 l370 y370 z370 st370 hQ370
          subst l370 y370 z370
          obtain ⟨h370, e370⟩ : ∃ z, T370.heap = z := ⟨_, rfl⟩
          rw [e370] at hQ370
          obtain ⟨rfl, N370q, hh370⟩ := hQ370
          have N371 := Fr.app N369 N370q
          have e370' : T370.heap = h358 := e370.trans hh370
          obtain ⟨cq372, kq372, q372a, q372b, q372c⟩ := isOf hZ e370' g358_0
          obtain ⟨_, _, ⟨T372, L372, k372, n372⟩, -, X372, ⟨Lc372, hQ372, l372, y372, z372⟩, st372⟩ := X370.virtualBack hx (y := (⟨"com/example/zenodotus/zenodotus/io/RowCodec$Tally", "latestDeleteTimestamp", "()J"⟩ : MethodName)) (z := (⟨"com/example/zenodotus/zenodotus/io/RowCodec$Tally", "latestDeleteTimestamp", "()J"⟩ : MethodName)) hown (mvT hZ (own_w hw 50 rfl)) (mvT hZ (own_w hw 51 rfl)) (notFace_of_selects (args := #[]) (mvT hZ (own_w hw 53 rfl))) (mvT hZ (own_w hw 53 rfl)) (mvT hZ (own_w hw 52 rfl)) (by decide) (backOf (W := 0) (rmlatestDeleteTimestamp19 l Z a0 hw [] b31 (own_max (own_max (-9223372036854775808 : Int64) q0_) (-9223372036854775808 : Int64)) (own_max (-9223372036854775808 : Int64) (own_max (-9223372036854775808 : Int64) q3_)) h358 n0 f366 g358_0 g358_1 g358_2 g358_3) hZ (own_w hw 54 rfl) (own_w hw 5 rfl) (by decide) (by decide)) q372a q372c (g := (mkF m 253 #[lvJ q0_, .second, lvJ q1_, .second, lvJ q2_, .second, lvJ q3_, .second, lvI p4_, lvI (1 : Int32), lvI (0 : Int32), lvI (0 : Int32), lvI (1 : Int32), lvR w14_, lvR w23_, lvR b31, lvR b40, lvJ (2 : Int64), .second] [(.ref b31)])) rfl (by rw [hml]; rfl) (Steps.refl _) (argsL := []) (rest := []) (lenOf pd_3 rfl) rfl (by show 2 * 0 + _ ≤ _; exact Nat.le_of_eq rfl) (hb hby at_253) (fun _ _ => ⟨rfl, e370', (by decide : 2 + 0 ≤ _), (by decide : 6 + 0 ≤ _)⟩)
          dsimp only [Pt.U, Pt.locs, Pt.cells, Pt.slots] at X372 l372 y372 z372 st372 hQ372
          subst l372 y372 z372
          obtain ⟨h372, e372⟩ : ∃ z, T372.heap = z := ⟨_, rfl⟩
          rw [e372] at hQ372
          obtain ⟨rfl, N372q, hh372⟩ := hQ372
          have N373 := Fr.app N371 N372q
          have e372' : T372.heap = h358 := e372.trans hh372
          obtain ⟨_, _, ⟨T374, L374, k374, n374⟩, -, X374, ⟨Lc374, hQ374, l374, y374, z374⟩, st374⟩ := Jvm.LawKit.callS X372 hx (y := (⟨"com/example/zenodotus/zenodotus/io/TallyAddPinLaw", "expect", "(ZJZJ)J"⟩ : MethodName)) hown (mvT hZ (own_w hw 46 rfl)) (mvT hZ (own_w hw 47 rfl)) (mvT hZ (own_w hw 48 rfl)) (mvT hZ (own_w hw 49 rfl)) (by decide) (backOf (W := 2) (rmexpect12 l Z a0 hw [] q1_ q3_ h358 n0 f366 ) hZ (own_w hw 49 rfl) (own_w hw 48 rfl) (by decide) (by decide)) (g := (mkF m 263 #[lvJ q0_, .second, lvJ q1_, .second, lvJ q2_, .second, lvJ q3_, .second, lvI p4_, lvI (1 : Int32), lvI (0 : Int32), lvI (0 : Int32), lvI (1 : Int32), lvR w14_, lvR w23_, lvR b31, lvR b40, lvJ (2 : Int64), .second] [(.long q3_), (.int (1 : Int32)), (.long q1_), (.int (0 : Int32)), (.long (own_max (-9223372036854775808 : Int64) (own_max (-9223372036854775808 : Int64) q3_)))])) rfl (by rw [hml]; rfl) (argsL := [(.int (0 : Int32)), (.long q1_), (.int (1 : Int32)), (.long q3_)]) (rest := [(.long (own_max (-9223372036854775808 : Int64) (own_max (-9223372036854775808 : Int64) q3_)))]) (lenOf pd_4 rfl) rfl (by show 2 * 0 + _ ≤ _; exact Nat.le_of_eq rfl) (hb hby at_263) (fun _ _ => ⟨rfl, e372', (by decide : 2 + 0 ≤ _), (by decide : 6 + 0 ≤ _)⟩)
          dsimp only [Pt.U, Pt.locs, Pt.cells, Pt.slots] at X374 l374 y374 z374 st374 hQ374
          subst l374 y374 z374
          obtain ⟨h374, e374⟩ : ∃ z, T374.heap = z := ⟨_, rfl⟩
          rw [e374] at hQ374
          obtain ⟨rfl, N374q, hh374⟩ := hQ374
          have N375 := Fr.app N373 N374q
          have e374' : T374.heap = h358 := e374.trans hh374
          have pre376 : ∀ t, own_S p e below m T374 275 #[lvJ q0_, .second, lvJ q1_, .second, lvJ q2_, .second, lvJ q3_, .second, lvI p4_, lvI (1 : Int32), lvI (0 : Int32), lvI (0 : Int32), lvI (1 : Int32), lvR w14_, lvR w23_, lvR b31, lvR b40, lvJ (2 : Int64), .second] [(.int (1 : Int32))] t → G t := by
            intro t kt
            refine pre329 t ?_
            show own_S p e below m T314 157 #[lvJ q0_, .second, lvJ q1_, .second, lvJ q2_, .second, lvJ q3_, .second, lvI p4_, lvI (1 : Int32), lvI (0 : Int32), lvI (0 : Int32), lvI (1 : Int32), lvR w14_, lvR w23_, lvR b31, lvR b40, .unset, .unset] [(.int (1 : Int32))] _
            refine XS.ifNo X314.here hx rfl (hb hby at_157) rfl ((if0 _ _).trans (feq (by decide : ¬ ((1 : Int32) = (0 : Int32)))).1) ?_
            refine XS.aload X314.here hx rfl (hb hby at_160) rfl rfl ?_
            refine XS.aload X314.here hx rfl (hb hby at_162) rfl rfl ?_
            refine XS.lload X314.here hx rfl (hb hby at_164) rfl ?_
            show own_S p e below m T314 166 #[lvJ q0_, .second, lvJ q1_, .second, lvJ q2_, .second, lvJ q3_, .second, lvI p4_, lvI (1 : Int32), lvI (0 : Int32), lvI (0 : Int32), lvI (1 : Int32), lvR w14_, lvR w23_, lvR b31, lvR b40, .unset, .unset] [(.long q3_), (.ref w23_), (.ref b40)] _
            refine st351.trans ?_
            refine XS.aload X351.here hx rfl (hb hby at_169) rfl rfl ?_
            refine XS.aload X351.here hx rfl (hb hby at_171) rfl rfl ?_
            show own_S p e below m T351 173 #[lvJ q0_, .second, lvJ q1_, .second, lvJ q2_, .second, lvJ q3_, .second, lvI p4_, lvI (1 : Int32), lvI (0 : Int32), lvI (0 : Int32), lvI (1 : Int32), lvR w14_, lvR w23_, lvR b31, lvR b40, .unset, .unset] [(.ref b40), (.ref b31)] _
            refine st358.trans ?_
            refine XS.iload X358.here hx rfl (hb hby at_176) rfl ?_
            show own_S p e below m T358 178 #[lvJ q0_, .second, lvJ q1_, .second, lvJ q2_, .second, lvJ q3_, .second, lvI p4_, lvI (1 : Int32), lvI (0 : Int32), lvI (0 : Int32), lvI (1 : Int32), lvR w14_, lvR w23_, lvR b31, lvR b40, .unset, .unset] [(.int (1 : Int32))] _
            refine XS.ifNo X358.here hx rfl (hb hby at_178) rfl ((if0 _ _).trans (feq (by decide : ¬ ((1 : Int32) = (0 : Int32)))).1) ?_
            refine XS.lconst X358.here hx rfl (hb hby at_181) ?_
            refine XS.goto X358.here hx rfl (pc0 := 182) (pc' := 186) rfl (hb hby at_182) (by decide) (by decide) ?_
            refine XS.iload X358.here hx rfl (hb hby at_186) rfl ?_
            show own_S p e below m T358 188 #[lvJ q0_, .second, lvJ q1_, .second, lvJ q2_, .second, lvJ q3_, .second, lvI p4_, lvI (1 : Int32), lvI (0 : Int32), lvI (0 : Int32), lvI (1 : Int32), lvR w14_, lvR w23_, lvR b31, lvR b40, .unset, .unset] [(.int (0 : Int32)), (.long (1 : Int64))] _
            refine XS.ifYes X358.here hx rfl (pc0 := 188) (pc' := 195) rfl (hb hby at_188) rfl ((if0 _ _).trans (teq (by decide : (0 : Int32) = (0 : Int32))).1) (by decide) (by decide) ?_
            refine XS.lconst X358.here hx rfl (hb hby at_195) ?_
            refine XS.ladd X358.here hx rfl (hb hby at_196) rfl ?_
            refine XS.iload X358.here hx rfl (hb hby at_197) rfl ?_
            show own_S p e below m T358 199 #[lvJ q0_, .second, lvJ q1_, .second, lvJ q2_, .second, lvJ q3_, .second, lvI p4_, lvI (1 : Int32), lvI (0 : Int32), lvI (0 : Int32), lvI (1 : Int32), lvR w14_, lvR w23_, lvR b31, lvR b40, .unset, .unset] [(.int (0 : Int32)), (.long (1 : Int64))] _
            refine XS.ifYes X358.here hx rfl (pc0 := 199) (pc' := 206) rfl (hb hby at_199) rfl ((if0 _ _).trans (teq (by decide : (0 : Int32) = (0 : Int32))).1) (by decide) (by decide) ?_
            refine XS.lconst X358.here hx rfl (hb hby at_206) ?_
            refine XS.ladd X358.here hx rfl (hb hby at_207) rfl ?_
            refine XS.iload X358.here hx rfl (hb hby at_208) rfl ?_
            show own_S p e below m T358 210 #[lvJ q0_, .second, lvJ q1_, .second, lvJ q2_, .second, lvJ q3_, .second, lvI p4_, lvI (1 : Int32), lvI (0 : Int32), lvI (0 : Int32), lvI (1 : Int32), lvR w14_, lvR w23_, lvR b31, lvR b40, .unset, .unset] [(.int (1 : Int32)), (.long (1 : Int64))] _
            refine XS.ifNo X358.here hx rfl (hb hby at_210) rfl ((if0 _ _).trans (feq (by decide : ¬ ((1 : Int32) = (0 : Int32)))).1) ?_
            refine XS.lconst X358.here hx rfl (hb hby at_213) ?_
            refine XS.goto X358.here hx rfl (pc0 := 214) (pc' := 218) rfl (hb hby at_214) (by decide) (by decide) ?_
            refine XS.ladd X358.here hx rfl (hb hby at_218) rfl ?_
            show own_S p e below m T358 219 #[lvJ q0_, .second, lvJ q1_, .second, lvJ q2_, .second, lvJ q3_, .second, lvI p4_, lvI (1 : Int32), lvI (0 : Int32), lvI (0 : Int32), lvI (1 : Int32), lvR w14_, lvR w23_, lvR b31, lvR b40, .unset, .unset] [(.long (2 : Int64))] _
            refine XS.lstore X358.here hx rfl (hb hby at_219) rfl (l' := #[lvJ q0_, .second, lvJ q1_, .second, lvJ q2_, .second, lvJ q3_, .second, lvI p4_, lvI (1 : Int32), lvI (0 : Int32), lvI (0 : Int32), lvI (1 : Int32), lvR w14_, lvR w23_, lvR b31, lvR b40, lvJ (2 : Int64), .second]) rfl ?_
            refine XS.aload X358.here hx rfl (hb hby at_221) rfl rfl ?_
            show own_S p e below m T358 223 #[lvJ q0_, .second, lvJ q1_, .second, lvJ q2_, .second, lvJ q3_, .second, lvI p4_, lvI (1 : Int32), lvI (0 : Int32), lvI (0 : Int32), lvI (1 : Int32), lvR w14_, lvR w23_, lvR b31, lvR b40, lvJ (2 : Int64), .second] [(.ref b31)] _
            refine st365.trans ?_
            refine XS.lload X365.here hx rfl (hb hby at_226) rfl ?_
            refine XS.lcmp X365.here hx rfl (hb hby at_228) rfl ?_
            show own_S p e below m T365 229 #[lvJ q0_, .second, lvJ q1_, .second, lvJ q2_, .second, lvJ q3_, .second, lvI p4_, lvI (1 : Int32), lvI (0 : Int32), lvI (0 : Int32), lvI (1 : Int32), lvR w14_, lvR w23_, lvR b31, lvR b40, lvJ (2 : Int64), .second] [(.int (lcmpW (2 : Int64) (2 : Int64)))] _
            refine XS.ifNo X365.here hx rfl (hb hby at_229) rfl ((if0 _ _).trans (teq ((lw_eq _ _).mpr (by decide : (2 : Int64) = (2 : Int64)))).2) ?_
            refine XS.aload X365.here hx rfl (hb hby at_232) rfl rfl ?_
            show own_S p e below m T365 234 #[lvJ q0_, .second, lvJ q1_, .second, lvJ q2_, .second, lvJ q3_, .second, lvI p4_, lvI (1 : Int32), lvI (0 : Int32), lvI (0 : Int32), lvI (1 : Int32), lvR w14_, lvR w23_, lvR b31, lvR b40, lvJ (2 : Int64), .second] [(.ref b31)] _
            refine st368.trans ?_
            refine XS.iload X368.here hx rfl (hb hby at_237) rfl ?_
            refine XS.lloadN X368.here hx rfl (hb hby at_239) rfl ?_
            refine XS.iload X368.here hx rfl (hb hby at_240) rfl ?_
            show own_S p e below m T368 242 #[lvJ q0_, .second, lvJ q1_, .second, lvJ q2_, .second, lvJ q3_, .second, lvI p4_, lvI (1 : Int32), lvI (0 : Int32), lvI (0 : Int32), lvI (1 : Int32), lvR w14_, lvR w23_, lvR b31, lvR b40, lvJ (2 : Int64), .second] [(.int (0 : Int32)), (.long q0_), (.int (1 : Int32)), (.long (own_max (own_max (-9223372036854775808 : Int64) q0_) (-9223372036854775808 : Int64)))] _
            refine XS.lload X368.here hx rfl (hb hby at_242) rfl ?_
            show own_S p e below m T368 244 #[lvJ q0_, .second, lvJ q1_, .second, lvJ q2_, .second, lvJ q3_, .second, lvI p4_, lvI (1 : Int32), lvI (0 : Int32), lvI (0 : Int32), lvI (1 : Int32), lvR w14_, lvR w23_, lvR b31, lvR b40, lvJ (2 : Int64), .second] [(.long q2_), (.int (0 : Int32)), (.long q0_), (.int (1 : Int32)), (.long (own_max (own_max (-9223372036854775808 : Int64) q0_) (-9223372036854775808 : Int64)))] _
            refine st370 _ ?_
            refine XS.lcmp X370.here hx rfl (hb hby at_247) rfl ?_
            show own_S p e below m T370 248 #[lvJ q0_, .second, lvJ q1_, .second, lvJ q2_, .second, lvJ q3_, .second, lvI p4_, lvI (1 : Int32), lvI (0 : Int32), lvI (0 : Int32), lvI (1 : Int32), lvR w14_, lvR w23_, lvR b31, lvR b40, lvJ (2 : Int64), .second] [(.int (lcmpW (own_max (own_max (-9223372036854775808 : Int64) q0_) (-9223372036854775808 : Int64)) q0_))] _
            refine XS.ifNo X370.here hx rfl (hb hby at_248) rfl ((if0 _ _).trans (teq ((lw_eq _ _).mpr (by simp only [own_minl, own_minr]))).2) ?_
            refine XS.aload X370.here hx rfl (hb hby at_251) rfl rfl ?_
            show own_S p e below m T370 253 #[lvJ q0_, .second, lvJ q1_, .second, lvJ q2_, .second, lvJ q3_, .second, lvI p4_, lvI (1 : Int32), lvI (0 : Int32), lvI (0 : Int32), lvI (1 : Int32), lvR w14_, lvR w23_, lvR b31, lvR b40, lvJ (2 : Int64), .second] [(.ref b31)] _
            refine st372.trans ?_
            refine XS.iload X372.here hx rfl (hb hby at_256) rfl ?_
            refine XS.lloadN X372.here hx rfl (hb hby at_258) rfl ?_
            refine XS.iload X372.here hx rfl (hb hby at_259) rfl ?_
            show own_S p e below m T372 261 #[lvJ q0_, .second, lvJ q1_, .second, lvJ q2_, .second, lvJ q3_, .second, lvI p4_, lvI (1 : Int32), lvI (0 : Int32), lvI (0 : Int32), lvI (1 : Int32), lvR w14_, lvR w23_, lvR b31, lvR b40, lvJ (2 : Int64), .second] [(.int (1 : Int32)), (.long q1_), (.int (0 : Int32)), (.long (own_max (-9223372036854775808 : Int64) (own_max (-9223372036854775808 : Int64) q3_)))] _
            refine XS.lload X372.here hx rfl (hb hby at_261) rfl ?_
            show own_S p e below m T372 263 #[lvJ q0_, .second, lvJ q1_, .second, lvJ q2_, .second, lvJ q3_, .second, lvI p4_, lvI (1 : Int32), lvI (0 : Int32), lvI (0 : Int32), lvI (1 : Int32), lvR w14_, lvR w23_, lvR b31, lvR b40, lvJ (2 : Int64), .second] [(.long q3_), (.int (1 : Int32)), (.long q1_), (.int (0 : Int32)), (.long (own_max (-9223372036854775808 : Int64) (own_max (-9223372036854775808 : Int64) q3_)))] _
            refine st374 _ ?_
            refine XS.lcmp X374.here hx rfl (hb hby at_266) rfl ?_
            show own_S p e below m T374 267 #[lvJ q0_, .second, lvJ q1_, .second, lvJ q2_, .second, lvJ q3_, .second, lvI p4_, lvI (1 : Int32), lvI (0 : Int32), lvI (0 : Int32), lvI (1 : Int32), lvR w14_, lvR w23_, lvR b31, lvR b40, lvJ (2 : Int64), .second] [(.int (lcmpW (own_max (-9223372036854775808 : Int64) (own_max (-9223372036854775808 : Int64) q3_)) q3_))] _
            refine XS.ifNo X374.here hx rfl (hb hby at_267) rfl ((if0 _ _).trans (teq ((lw_eq _ _).mpr (by simp only [own_minl, own_minr]))).2) ?_
            refine XS.iconst X374.here hx rfl (hb hby at_270) ?_
            refine XS.goto X374.here hx rfl (pc0 := 271) (pc' := 275) rfl (hb hby at_271) (by decide) (by decide) ?_
            exact kt
          obtain ⟨fs, hr, hrun, hended, hW, hsame⟩ := X374.leave (v := some (.int (1 : Int32))) (fun h => by rw [Bd.returns] at h; cases h)
          refine ⟨_, _, hG _ (pre376 _ (retN X374 hx (t := .boolean) Bd.returns (by simp) (hb hby at_275) hr)), hrun, hended, _, _, rfl, ?_, ⟨_, rfl⟩, hW, hsame.mono (by decide) (by decide)⟩
          show QLaw Z q0_ q1_ q2_ q3_ p4_ w_PUT w_DELETE_COLUMN w_DELETE_FAMILY h0 n0 _ T374.heap _
          rw [e374']
          exact ⟨rfl, N375⟩
      · have f378 : Old Z n0 h314 := f312.keep K314 (allS (ge32) all0)
        obtain ⟨T379, X379, e379, st379⟩ := getS2 X314 hx hZ hown (host := "") (Or.inl (own_w hw 17 rfl)) Via.refl e314 (P0.ext f378.2) (g := (mkF m 147 #[lvJ q0_, .second, lvJ q1_, .second, lvJ q2_, .second, lvJ q3_, .second, lvI p4_, lvI (1 : Int32), lvI (0 : Int32), lvI (1 : Int32), lvI z11, lvR w14_, lvR w23_, lvR b31, lvR b40, .unset, .unset] [(.ref b40)])) rfl (hb hby at_147)
        have f381 : Exa Z h314 b40 cn0 := g49_0.keep K314
        have f382 : Fld Z h314 b40 cn0 "latestTimestamp" "J" (.long (-9223372036854775808 : Int64)) := g49_1.keep K314 (ninS (Ne.symm ne319) nin0)
        have f383 : Fld Z h314 b40 cn0 "latestDeleteTimestamp" "J" (.long (-9223372036854775808 : Int64)) := g49_2.keep K314 (ninS (Ne.symm ne319) nin0)
        have f384 : Fld Z h314 b40 cn0 "cells" "J" (.long (0 : Int64)) := g49_3.keep K314 (ninS (Ne.symm ne319) nin0)
        obtain ⟨cq380, kq380, q380a, q380b, q380c⟩ := isOf hZ e379 f381
        obtain ⟨_, _, ⟨T380, L380, k380, n380⟩, -, X380, ⟨Lc380, hQ380, l380, y380, z380⟩, st380⟩ := X379.virtualBack hx (y := (⟨"com/example/zenodotus/zenodotus/io/RowCodec$Tally", "count", "(Lcom/example/zenodotus/zenodotus/model/Cell$Kind;J)V"⟩ : MethodName)) (z := (⟨"com/example/zenodotus/zenodotus/io/RowCodec$Tally", "count", "(Lcom/example/zenodotus/zenodotus/model/Cell$Kind;J)V"⟩ : MethodName)) hown (mvT hZ (own_w hw 19 rfl)) (mvT hZ (own_w hw 20 rfl)) (notFace_of_selects (args := #[]) (mvT hZ (own_w hw 22 rfl))) (mvT hZ (own_w hw 22 rfl)) (mvT hZ (own_w hw 21 rfl)) (by decide) (backOf (W := 0) (rmcount13 l Z a0 hw [] b40 w_PUT q2_ h314 n0 f378 f381 f382 f383 f384 P1 P2 ge42 P0) hZ (own_w hw 23 rfl) (own_w hw 5 rfl) (by decide) (by decide)) q380a q380c (g := (mkF m 152 #[lvJ q0_, .second, lvJ q1_, .second, lvJ q2_, .second, lvJ q3_, .second, lvI p4_, lvI (1 : Int32), lvI (0 : Int32), lvI (1 : Int32), lvI z11, lvR w14_, lvR w23_, lvR b31, lvR b40, .unset, .unset] [(.long q2_), (.ref w_PUT), (.ref b40)])) rfl (by rw [hml]; rfl) (Steps.refl _) (argsL := [(.ref w_PUT), (.long q2_)]) (rest := []) (lenOf pd_5 rfl) rfl (by show 2 * 0 + _ ≤ _; exact Nat.le_of_eq rfl) (hb hby at_152) (fun _ _ => ⟨rfl, e379, (by decide : 2 + 0 ≤ _), (by decide : 6 + 0 ≤ _)⟩)
        dsimp only [Pt.U, Pt.locs, Pt.cells, Pt.slots] at X380 l380 y380 z380 st380 hQ380
        subst l380 y380 z380
        obtain ⟨h380, e380⟩ : ∃ z, T380.heap = z := ⟨_, rfl⟩
        rw [e380] at hQ380
        obtain ⟨rfl, N380q, K380, g380_0, g380_1, g380_2, g380_3⟩ := hQ380
        have N385 := Fr.app N324 N380q
        have pre386 : ∀ t, own_S p e below m T380 157 #[lvJ q0_, .second, lvJ q1_, .second, lvJ q2_, .second, lvJ q3_, .second, lvI p4_, lvI (1 : Int32), lvI (0 : Int32), lvI (1 : Int32), lvI z11, lvR w14_, lvR w23_, lvR b31, lvR b40, .unset, .unset] [(.int z11)] t → G t := by
          intro t kt
          refine pre327 t ?_
          show own_S p e below m T314 142 #[lvJ q0_, .second, lvJ q1_, .second, lvJ q2_, .second, lvJ q3_, .second, lvI p4_, lvI (1 : Int32), lvI (0 : Int32), lvI (1 : Int32), lvI z11, lvR w14_, lvR w23_, lvR b31, lvR b40, .unset, .unset] [(.int (1 : Int32))] _
          refine XS.ifNo X314.here hx rfl (hb hby at_142) rfl ((if0 _ _).trans (feq (by decide : ¬ ((1 : Int32) = (0 : Int32)))).1) ?_
          refine XS.aload X314.here hx rfl (hb hby at_145) rfl rfl ?_
          show own_S p e below m T314 147 #[lvJ q0_, .second, lvJ q1_, .second, lvJ q2_, .second, lvJ q3_, .second, lvI p4_, lvI (1 : Int32), lvI (0 : Int32), lvI (1 : Int32), lvI z11, lvR w14_, lvR w23_, lvR b31, lvR b40, .unset, .unset] [(.ref b40)] _
          refine st379 _ ?_
          refine XS.lload X379.here hx rfl (hb hby at_150) rfl ?_
          show own_S p e below m T379 152 #[lvJ q0_, .second, lvJ q1_, .second, lvJ q2_, .second, lvJ q3_, .second, lvI p4_, lvI (1 : Int32), lvI (0 : Int32), lvI (1 : Int32), lvI z11, lvR w14_, lvR w23_, lvR b31, lvR b40, .unset, .unset] [(.long q2_), (.ref w_PUT), (.ref b40)] _
          refine st380.trans ?_
          refine XS.iload X380.here hx rfl (hb hby at_155) rfl ?_
          exact kt
        rcases hz11 with ⟨rfl, hj387⟩ | ⟨rfl, hj387⟩
        · have f389 : Exa Z h380 b31 cn0 := g314_0.keep K380
          have f390 : Fld Z h380 b31 cn0 "latestTimestamp" "J" (.long (own_max (-9223372036854775808 : Int64) q0_)) := g314_1.keep K380 (ninS ne319 nin0)
          have f391 : Fld Z h380 b31 cn0 "latestDeleteTimestamp" "J" (.long (-9223372036854775808 : Int64)) := g314_2.keep K380 (ninS ne319 nin0)
          have f392 : Fld Z h380 b31 cn0 "cells" "J" (.long (1 : Int64)) := g314_3.keep K380 (ninS ne319 nin0)
          have f393 : Old Z n0 h380 := f378.keep K380 (allS (ge42) all0)
          obtain ⟨cq388, kq388, q388a, q388b, q388c⟩ := isOf hZ e380 f389
          obtain ⟨_, _, ⟨T388, L388, k388, n388⟩, -, X388, ⟨Lc388, hQ388, l388, y388, z388⟩, st388⟩ := X380.virtualBack hx (y := (⟨"com/example/zenodotus/zenodotus/io/RowCodec$Tally", "add", "(Lcom/example/zenodotus/zenodotus/io/RowCodec$Tally;)V"⟩ : MethodName)) (z := (⟨"com/example/zenodotus/zenodotus/io/RowCodec$Tally", "add", "(Lcom/example/zenodotus/zenodotus/io/RowCodec$Tally;)V"⟩ : MethodName)) hown (mvT hZ (own_w hw 31 rfl)) (mvT hZ (own_w hw 32 rfl)) (notFace_of_selects (args := #[]) (mvT hZ (own_w hw 34 rfl))) (mvT hZ (own_w hw 34 rfl)) (mvT hZ (own_w hw 33 rfl)) (by decide) (backOf (W := 0) (rmadd31 l Z a0 hw [] b31 b40 (own_max (-9223372036854775808 : Int64) q0_) (own_max (-9223372036854775808 : Int64) q2_) h380 n0 f393 f389 f390 f391 f392 g380_0 g380_1 g380_2 g380_3 ge32 (Ne.symm ne319)) hZ (own_w hw 35 rfl) (own_w hw 5 rfl) (by decide) (by decide)) q388a q388c (g := (mkF m 173 #[lvJ q0_, .second, lvJ q1_, .second, lvJ q2_, .second, lvJ q3_, .second, lvI p4_, lvI (1 : Int32), lvI (0 : Int32), lvI (1 : Int32), lvI (0 : Int32), lvR w14_, lvR w23_, lvR b31, lvR b40, .unset, .unset] [(.ref b40), (.ref b31)])) rfl (by rw [hml]; rfl) (Steps.refl _) (argsL := [(.ref b40)]) (rest := []) (lenOf pd_2 rfl) rfl (by show 2 * 0 + _ ≤ _; exact Nat.le_of_eq rfl) (hb hby at_173) (fun _ _ => ⟨rfl, e380, (by decide : 2 + 0 ≤ _), (by decide : 6 + 0 ≤ _)⟩)
          dsimp only [Pt.U, Pt.locs, Pt.cells, Pt.slots] at X388 l388 y388 z388 st388 hQ388
          subst l388 y388 z388
          obtain ⟨h388, e388⟩ : ∃ z, T388.heap = z := ⟨_, rfl⟩
          rw [e388] at hQ388
          obtain ⟨rfl, N388q, K388, g388_0, g388_1, g388_2, g388_3⟩ := hQ388
          have N394 := Fr.app N385 N388q
          have f396 : Old Z n0 h388 := f393.keep K388 (allS (ge32) all0)
          obtain ⟨cq395, kq395, q395a, q395b, q395c⟩ := isOf hZ e388 g388_0
          obtain ⟨_, _, ⟨T395, L395, k395, n395⟩, -, X395, ⟨Lc395, hQ395, l395, y395, z395⟩, st395⟩ := X388.virtualBack hx (y := (⟨"com/example/zenodotus/zenodotus/io/RowCodec$Tally", "cells", "()J"⟩ : MethodName)) (z := (⟨"com/example/zenodotus/zenodotus/io/RowCodec$Tally", "cells", "()J"⟩ : MethodName)) hown (mvT hZ (own_w hw 36 rfl)) (mvT hZ (own_w hw 37 rfl)) (notFace_of_selects (args := #[]) (mvT hZ (own_w hw 39 rfl))) (mvT hZ (own_w hw 39 rfl)) (mvT hZ (own_w hw 38 rfl)) (by decide) (backOf (W := 0) (rmcells17 l Z a0 hw [] b31 (own_max (own_max (-9223372036854775808 : Int64) q0_) (own_max (-9223372036854775808 : Int64) q2_)) (own_max (-9223372036854775808 : Int64) (-9223372036854775808 : Int64)) h388 n0 f396 g388_0 g388_1 g388_2 g388_3) hZ (own_w hw 40 rfl) (own_w hw 5 rfl) (by decide) (by decide)) q395a q395c (g := (mkF m 223 #[lvJ q0_, .second, lvJ q1_, .second, lvJ q2_, .second, lvJ q3_, .second, lvI p4_, lvI (1 : Int32), lvI (0 : Int32), lvI (1 : Int32), lvI (0 : Int32), lvR w14_, lvR w23_, lvR b31, lvR b40, lvJ (2 : Int64), .second] [(.ref b31)])) rfl (by rw [hml]; rfl) (Steps.refl _) (argsL := []) (rest := []) (lenOf pd_3 rfl) rfl (by show 2 * 0 + _ ≤ _; exact Nat.le_of_eq rfl) (hb hby at_223) (fun _ _ => ⟨rfl, e388, (by decide : 2 + 0 ≤ _), (by decide : 6 + 0 ≤ _)⟩)
          dsimp only [Pt.U, Pt.locs, Pt.cells, Pt.slots] at X395 l395 y395 z395 st395 hQ395
          subst l395 y395 z395
          obtain ⟨h395, e395⟩ : ∃ z, T395.heap = z := ⟨_, rfl⟩
          rw [e395] at hQ395
          obtain ⟨rfl, N395q, hh395⟩ := hQ395
          have N397 := Fr.app N394 N395q
          have e395' : T395.heap = h388 := e395.trans hh395
          obtain ⟨cq398, kq398, q398a, q398b, q398c⟩ := isOf hZ e395' g388_0
          obtain ⟨_, _, ⟨T398, L398, k398, n398⟩, -, X398, ⟨Lc398, hQ398, l398, y398, z398⟩, st398⟩ := X395.virtualBack hx (y := (⟨"com/example/zenodotus/zenodotus/io/RowCodec$Tally", "latestTimestamp", "()J"⟩ : MethodName)) (z := (⟨"com/example/zenodotus/zenodotus/io/RowCodec$Tally", "latestTimestamp", "()J"⟩ : MethodName)) hown (mvT hZ (own_w hw 41 rfl)) (mvT hZ (own_w hw 42 rfl)) (notFace_of_selects (args := #[]) (mvT hZ (own_w hw 44 rfl))) (mvT hZ (own_w hw 44 rfl)) (mvT hZ (own_w hw 43 rfl)) (by decide) (backOf (W := 0) (rmlatestTimestamp18 l Z a0 hw [] b31 (own_max (own_max (-9223372036854775808 : Int64) q0_) (own_max (-9223372036854775808 : Int64) q2_)) (own_max (-9223372036854775808 : Int64) (-9223372036854775808 : Int64)) h388 n0 f396 g388_0 g388_1 g388_2 g388_3) hZ (own_w hw 45 rfl) (own_w hw 5 rfl) (by decide) (by decide)) q398a q398c (g := (mkF m 234 #[lvJ q0_, .second, lvJ q1_, .second, lvJ q2_, .second, lvJ q3_, .second, lvI p4_, lvI (1 : Int32), lvI (0 : Int32), lvI (1 : Int32), lvI (0 : Int32), lvR w14_, lvR w23_, lvR b31, lvR b40, lvJ (2 : Int64), .second] [(.ref b31)])) rfl (by rw [hml]; rfl) (Steps.refl _) (argsL := []) (rest := []) (lenOf pd_3 rfl) rfl (by show 2 * 0 + _ ≤ _; exact Nat.le_of_eq rfl) (hb hby at_234) (fun _ _ => ⟨rfl, e395', (by decide : 2 + 0 ≤ _), (by decide : 6 + 0 ≤ _)⟩)
          dsimp only [Pt.U, Pt.locs, Pt.cells, Pt.slots] at X398 l398 y398 z398 st398 hQ398
          subst l398 y398 z398
          obtain ⟨h398, e398⟩ : ∃ z, T398.heap = z := ⟨_, rfl⟩
          rw [e398] at hQ398
          obtain ⟨rfl, N398q, hh398⟩ := hQ398
          have N399 := Fr.app N397 N398q
          have e398' : T398.heap = h388 := e398.trans hh398
          obtain ⟨_, _, ⟨T400, L400, k400, n400⟩, -, X400, ⟨Lc400, hQ400, l400, y400, z400⟩, st400⟩ := Jvm.LawKit.callS X398 hx (y := (⟨"com/example/zenodotus/zenodotus/io/TallyAddPinLaw", "expect", "(ZJZJ)J"⟩ : MethodName)) hown (mvT hZ (own_w hw 46 rfl)) (mvT hZ (own_w hw 47 rfl)) (mvT hZ (own_w hw 48 rfl)) (mvT hZ (own_w hw 49 rfl)) (by decide) (backOf (W := 2) (rmexpect23 l Z a0 hw [] q0_ q2_ h388 n0 f396 ) hZ (own_w hw 49 rfl) (own_w hw 48 rfl) (by decide) (by decide)) (g := (mkF m 244 #[lvJ q0_, .second, lvJ q1_, .second, lvJ q2_, .second, lvJ q3_, .second, lvI p4_, lvI (1 : Int32), lvI (0 : Int32), lvI (1 : Int32), lvI (0 : Int32), lvR w14_, lvR w23_, lvR b31, lvR b40, lvJ (2 : Int64), .second] [(.long q2_), (.int (1 : Int32)), (.long q0_), (.int (1 : Int32)), (.long (own_max (own_max (-9223372036854775808 : Int64) q0_) (own_max (-9223372036854775808 : Int64) q2_)))])) rfl (by rw [hml]; rfl) (argsL := [(.int (1 : Int32)), (.long q0_), (.int (1 : Int32)), (.long q2_)]) (rest := [(.long (own_max (own_max (-9223372036854775808 : Int64) q0_) (own_max (-9223372036854775808 : Int64) q2_)))]) (lenOf pd_4 rfl) rfl (by show 2 * 0 + _ ≤ _; exact Nat.le_of_eq rfl) (hb hby at_244) (fun _ _ => ⟨rfl, e398', (by decide : 2 + 0 ≤ _), (by decide : 6 + 0 ≤ _)⟩)
          dsimp only [Pt.U, Pt.locs, Pt.cells, Pt.slots] at X400 l400 y400 z400 st400 hQ400
          subst l400 y400 z400
          obtain ⟨h400, e400⟩ : ∃ z, T400.heap = z := ⟨_, rfl⟩
          rw [e400] at hQ400
          obtain ⟨rr400, rfl, hs400, N400q, hh400⟩ := hQ400
          have N401 := Fr.app N399 N400q
          have e400' : T400.heap = h388 := e400.trans hh400
          rcases hs400 with ⟨rfl, hq400_0_0⟩ | ⟨rfl, hq400_1_0⟩
          · obtain ⟨cq402, kq402, q402a, q402b, q402c⟩ := isOf hZ e400' g388_0
            obtain ⟨_, _, ⟨T402, L402, k402, n402⟩, -, X402, ⟨Lc402, hQ402, l402, y402, z402⟩, st402⟩ := X400.virtualBack hx (y := (⟨"com/example/zenodotus/zenodotus/io/RowCodec$Tally", "latestDeleteTimestamp", "()J"⟩ : MethodName)) (z := (⟨"com/example/zenodotus/zenodotus/io/RowCodec$Tally", "latestDeleteTimestamp", "()J"⟩ : MethodName)) hown (mvT hZ (own_w hw 50 rfl)) (mvT hZ (own_w hw 51 rfl)) (notFace_of_selects (args := #[]) (mvT hZ (own_w hw 53 rfl))) (mvT hZ (own_w hw 53 rfl)) (mvT hZ (own_w hw 52 rfl)) (by decide) (backOf (W := 0) (rmlatestDeleteTimestamp19 l Z a0 hw [] b31 (own_max (own_max (-9223372036854775808 : Int64) q0_) (own_max (-9223372036854775808 : Int64) q2_)) (own_max (-9223372036854775808 : Int64) (-9223372036854775808 : Int64)) h388 n0 f396 g388_0 g388_1 g388_2 g388_3) hZ (own_w hw 54 rfl) (own_w hw 5 rfl) (by decide) (by decide)) q402a q402c (g := (mkF m 253 #[lvJ q0_, .second, lvJ q1_, .second, lvJ q2_, .second, lvJ q3_, .second, lvI p4_, lvI (1 : Int32), lvI (0 : Int32), lvI (1 : Int32), lvI (0 : Int32), lvR w14_, lvR w23_, lvR b31, lvR b40, lvJ (2 : Int64), .second] [(.ref b31)])) rfl (by rw [hml]; rfl) (Steps.refl _) (argsL := []) (rest := []) (lenOf pd_3 rfl) rfl (by show 2 * 0 + _ ≤ _; exact Nat.le_of_eq rfl) (hb hby at_253) (fun _ _ => ⟨rfl, e400', (by decide : 2 + 0 ≤ _), (by decide : 6 + 0 ≤ _)⟩)
            dsimp only [Pt.U, Pt.locs, Pt.cells, Pt.slots] at X402 l402 y402 z402 st402 hQ402
            subst l402 y402 z402
            obtain ⟨h402, e402⟩ : ∃ z, T402.heap = z := ⟨_, rfl⟩
            rw [e402] at hQ402
            obtain ⟨rfl, N402q, hh402⟩ := hQ402
            have N403 := Fr.app N401 N402q
            have e402' : T402.heap = h388 := e402.trans hh402
            obtain ⟨_, _, ⟨T404, L404, k404, n404⟩, -, X404, ⟨Lc404, hQ404, l404, y404, z404⟩, st404⟩ := Jvm.LawKit.callS X402 hx (y := (⟨"com/example/zenodotus/zenodotus/io/TallyAddPinLaw", "expect", "(ZJZJ)J"⟩ : MethodName)) hown (mvT hZ (own_w hw 46 rfl)) (mvT hZ (own_w hw 47 rfl)) (mvT hZ (own_w hw 48 rfl)) (mvT hZ (own_w hw 49 rfl)) (by decide) (backOf (W := 2) (rmexpect5 l Z a0 hw [] q1_ q3_ h388 n0 f396 ) hZ (own_w hw 49 rfl) (own_w hw 48 rfl) (by decide) (by decide)) (g := (mkF m 263 #[lvJ q0_, .second, lvJ q1_, .second, lvJ q2_, .second, lvJ q3_, .second, lvI p4_, lvI (1 : Int32), lvI (0 : Int32), lvI (1 : Int32), lvI (0 : Int32), lvR w14_, lvR w23_, lvR b31, lvR b40, lvJ (2 : Int64), .second] [(.long q3_), (.int (0 : Int32)), (.long q1_), (.int (0 : Int32)), (.long (own_max (-9223372036854775808 : Int64) (-9223372036854775808 : Int64)))])) rfl (by rw [hml]; rfl) (argsL := [(.int (0 : Int32)), (.long q1_), (.int (0 : Int32)), (.long q3_)]) (rest := [(.long (own_max (-9223372036854775808 : Int64) (-9223372036854775808 : Int64)))]) (lenOf pd_4 rfl) rfl (by show 2 * 0 + _ ≤ _; exact Nat.le_of_eq rfl) (hb hby at_263) (fun _ _ => ⟨rfl, e402', (by decide : 2 + 0 ≤ _), (by decide : 6 + 0 ≤ _)⟩)
            dsimp only [Pt.U, Pt.locs, Pt.cells, Pt.slots] at X404 l404 y404 z404 st404 hQ404
            subst l404 y404 z404
            obtain ⟨h404, e404⟩ : ∃ z, T404.heap = z := ⟨_, rfl⟩
            rw [e404] at hQ404
            obtain ⟨rfl, N404q, hh404⟩ := hQ404
            have N405 := Fr.app N403 N404q
            have e404' : T404.heap = h388 := e404.trans hh404
            have pre406 : ∀ t, own_S p e below m T404 275 #[lvJ q0_, .second, lvJ q1_, .second, lvJ q2_, .second, lvJ q3_, .second, lvI p4_, lvI (1 : Int32), lvI (0 : Int32), lvI (1 : Int32), lvI (0 : Int32), lvR w14_, lvR w23_, lvR b31, lvR b40, lvJ (2 : Int64), .second] [(.int (1 : Int32))] t → G t := by
              intro t kt
              refine pre386 t ?_
              show own_S p e below m T380 157 #[lvJ q0_, .second, lvJ q1_, .second, lvJ q2_, .second, lvJ q3_, .second, lvI p4_, lvI (1 : Int32), lvI (0 : Int32), lvI (1 : Int32), lvI (0 : Int32), lvR w14_, lvR w23_, lvR b31, lvR b40, .unset, .unset] [(.int (0 : Int32))] _
              refine XS.ifYes X380.here hx rfl (pc0 := 157) (pc' := 169) rfl (hb hby at_157) rfl ((if0 _ _).trans (teq (by decide : (0 : Int32) = (0 : Int32))).1) (by decide) (by decide) ?_
              refine XS.aload X380.here hx rfl (hb hby at_169) rfl rfl ?_
              refine XS.aload X380.here hx rfl (hb hby at_171) rfl rfl ?_
              show own_S p e below m T380 173 #[lvJ q0_, .second, lvJ q1_, .second, lvJ q2_, .second, lvJ q3_, .second, lvI p4_, lvI (1 : Int32), lvI (0 : Int32), lvI (1 : Int32), lvI (0 : Int32), lvR w14_, lvR w23_, lvR b31, lvR b40, .unset, .unset] [(.ref b40), (.ref b31)] _
              refine st388.trans ?_
              refine XS.iload X388.here hx rfl (hb hby at_176) rfl ?_
              show own_S p e below m T388 178 #[lvJ q0_, .second, lvJ q1_, .second, lvJ q2_, .second, lvJ q3_, .second, lvI p4_, lvI (1 : Int32), lvI (0 : Int32), lvI (1 : Int32), lvI (0 : Int32), lvR w14_, lvR w23_, lvR b31, lvR b40, .unset, .unset] [(.int (1 : Int32))] _
              refine XS.ifNo X388.here hx rfl (hb hby at_178) rfl ((if0 _ _).trans (feq (by decide : ¬ ((1 : Int32) = (0 : Int32)))).1) ?_
              refine XS.lconst X388.here hx rfl (hb hby at_181) ?_
              refine XS.goto X388.here hx rfl (pc0 := 182) (pc' := 186) rfl (hb hby at_182) (by decide) (by decide) ?_
              refine XS.iload X388.here hx rfl (hb hby at_186) rfl ?_
              show own_S p e below m T388 188 #[lvJ q0_, .second, lvJ q1_, .second, lvJ q2_, .second, lvJ q3_, .second, lvI p4_, lvI (1 : Int32), lvI (0 : Int32), lvI (1 : Int32), lvI (0 : Int32), lvR w14_, lvR w23_, lvR b31, lvR b40, .unset, .unset] [(.int (0 : Int32)), (.long (1 : Int64))] _
              refine XS.ifYes X388.here hx rfl (pc0 := 188) (pc' := 195) rfl (hb hby at_188) rfl ((if0 _ _).trans (teq (by decide : (0 : Int32) = (0 : Int32))).1) (by decide) (by decide) ?_
              refine XS.lconst X388.here hx rfl (hb hby at_195) ?_
              refine XS.ladd X388.here hx rfl (hb hby at_196) rfl ?_
              refine XS.iload X388.here hx rfl (hb hby at_197) rfl ?_
              show own_S p e below m T388 199 #[lvJ q0_, .second, lvJ q1_, .second, lvJ q2_, .second, lvJ q3_, .second, lvI p4_, lvI (1 : Int32), lvI (0 : Int32), lvI (1 : Int32), lvI (0 : Int32), lvR w14_, lvR w23_, lvR b31, lvR b40, .unset, .unset] [(.int (1 : Int32)), (.long (1 : Int64))] _
              refine XS.ifNo X388.here hx rfl (hb hby at_199) rfl ((if0 _ _).trans (feq (by decide : ¬ ((1 : Int32) = (0 : Int32)))).1) ?_
              refine XS.lconst X388.here hx rfl (hb hby at_202) ?_
              refine XS.goto X388.here hx rfl (pc0 := 203) (pc' := 207) rfl (hb hby at_203) (by decide) (by decide) ?_
              refine XS.ladd X388.here hx rfl (hb hby at_207) rfl ?_
              show own_S p e below m T388 208 #[lvJ q0_, .second, lvJ q1_, .second, lvJ q2_, .second, lvJ q3_, .second, lvI p4_, lvI (1 : Int32), lvI (0 : Int32), lvI (1 : Int32), lvI (0 : Int32), lvR w14_, lvR w23_, lvR b31, lvR b40, .unset, .unset] [(.long (2 : Int64))] _
              refine XS.iload X388.here hx rfl (hb hby at_208) rfl ?_
              show own_S p e below m T388 210 #[lvJ q0_, .second, lvJ q1_, .second, lvJ q2_, .second, lvJ q3_, .second, lvI p4_, lvI (1 : Int32), lvI (0 : Int32), lvI (1 : Int32), lvI (0 : Int32), lvR w14_, lvR w23_, lvR b31, lvR b40, .unset, .unset] [(.int (0 : Int32)), (.long (2 : Int64))] _
              refine XS.ifYes X388.here hx rfl (pc0 := 210) (pc' := 217) rfl (hb hby at_210) rfl ((if0 _ _).trans (teq (by decide : (0 : Int32) = (0 : Int32))).1) (by decide) (by decide) ?_
              refine XS.lconst X388.here hx rfl (hb hby at_217) ?_
              refine XS.ladd X388.here hx rfl (hb hby at_218) rfl ?_
              refine XS.lstore X388.here hx rfl (hb hby at_219) rfl (l' := #[lvJ q0_, .second, lvJ q1_, .second, lvJ q2_, .second, lvJ q3_, .second, lvI p4_, lvI (1 : Int32), lvI (0 : Int32), lvI (1 : Int32), lvI (0 : Int32), lvR w14_, lvR w23_, lvR b31, lvR b40, lvJ (2 : Int64), .second]) rfl ?_
              show own_S p e below m T388 221 #[lvJ q0_, .second, lvJ q1_, .second, lvJ q2_, .second, lvJ q3_, .second, lvI p4_, lvI (1 : Int32), lvI (0 : Int32), lvI (1 : Int32), lvI (0 : Int32), lvR w14_, lvR w23_, lvR b31, lvR b40, lvJ (2 : Int64), .second] [] _
              refine XS.aload X388.here hx rfl (hb hby at_221) rfl rfl ?_
              show own_S p e below m T388 223 #[lvJ q0_, .second, lvJ q1_, .second, lvJ q2_, .second, lvJ q3_, .second, lvI p4_, lvI (1 : Int32), lvI (0 : Int32), lvI (1 : Int32), lvI (0 : Int32), lvR w14_, lvR w23_, lvR b31, lvR b40, lvJ (2 : Int64), .second] [(.ref b31)] _
              refine st395.trans ?_
              refine XS.lload X395.here hx rfl (hb hby at_226) rfl ?_
              refine XS.lcmp X395.here hx rfl (hb hby at_228) rfl ?_
              show own_S p e below m T395 229 #[lvJ q0_, .second, lvJ q1_, .second, lvJ q2_, .second, lvJ q3_, .second, lvI p4_, lvI (1 : Int32), lvI (0 : Int32), lvI (1 : Int32), lvI (0 : Int32), lvR w14_, lvR w23_, lvR b31, lvR b40, lvJ (2 : Int64), .second] [(.int (lcmpW (2 : Int64) (2 : Int64)))] _
              refine XS.ifNo X395.here hx rfl (hb hby at_229) rfl ((if0 _ _).trans (teq ((lw_eq _ _).mpr (by decide : (2 : Int64) = (2 : Int64)))).2) ?_
              refine XS.aload X395.here hx rfl (hb hby at_232) rfl rfl ?_
              show own_S p e below m T395 234 #[lvJ q0_, .second, lvJ q1_, .second, lvJ q2_, .second, lvJ q3_, .second, lvI p4_, lvI (1 : Int32), lvI (0 : Int32), lvI (1 : Int32), lvI (0 : Int32), lvR w14_, lvR w23_, lvR b31, lvR b40, lvJ (2 : Int64), .second] [(.ref b31)] _
              refine st398.trans ?_
              refine XS.iload X398.here hx rfl (hb hby at_237) rfl ?_
              refine XS.lloadN X398.here hx rfl (hb hby at_239) rfl ?_
              refine XS.iload X398.here hx rfl (hb hby at_240) rfl ?_
              show own_S p e below m T398 242 #[lvJ q0_, .second, lvJ q1_, .second, lvJ q2_, .second, lvJ q3_, .second, lvI p4_, lvI (1 : Int32), lvI (0 : Int32), lvI (1 : Int32), lvI (0 : Int32), lvR w14_, lvR w23_, lvR b31, lvR b40, lvJ (2 : Int64), .second] [(.int (1 : Int32)), (.long q0_), (.int (1 : Int32)), (.long (own_max (own_max (-9223372036854775808 : Int64) q0_) (own_max (-9223372036854775808 : Int64) q2_)))] _
              refine XS.lload X398.here hx rfl (hb hby at_242) rfl ?_
              show own_S p e below m T398 244 #[lvJ q0_, .second, lvJ q1_, .second, lvJ q2_, .second, lvJ q3_, .second, lvI p4_, lvI (1 : Int32), lvI (0 : Int32), lvI (1 : Int32), lvI (0 : Int32), lvR w14_, lvR w23_, lvR b31, lvR b40, lvJ (2 : Int64), .second] [(.long q2_), (.int (1 : Int32)), (.long q0_), (.int (1 : Int32)), (.long (own_max (own_max (-9223372036854775808 : Int64) q0_) (own_max (-9223372036854775808 : Int64) q2_)))] _
              refine st400 _ ?_
              refine XS.lcmp X400.here hx rfl (hb hby at_247) rfl ?_
              show own_S p e below m T400 248 #[lvJ q0_, .second, lvJ q1_, .second, lvJ q2_, .second, lvJ q3_, .second, lvI p4_, lvI (1 : Int32), lvI (0 : Int32), lvI (1 : Int32), lvI (0 : Int32), lvR w14_, lvR w23_, lvR b31, lvR b40, lvJ (2 : Int64), .second] [(.int (lcmpW (own_max (own_max (-9223372036854775808 : Int64) q0_) (own_max (-9223372036854775808 : Int64) q2_)) q0_))] _
              refine XS.ifNo X400.here hx rfl (hb hby at_248) rfl ((if0 _ _).trans (teq ((lw_eq _ _).mpr (by simp only [own_minl, own_minr] <;> first | (rfl) | (exact own_ml hq400_0_0)))).2) ?_
              refine XS.aload X400.here hx rfl (hb hby at_251) rfl rfl ?_
              show own_S p e below m T400 253 #[lvJ q0_, .second, lvJ q1_, .second, lvJ q2_, .second, lvJ q3_, .second, lvI p4_, lvI (1 : Int32), lvI (0 : Int32), lvI (1 : Int32), lvI (0 : Int32), lvR w14_, lvR w23_, lvR b31, lvR b40, lvJ (2 : Int64), .second] [(.ref b31)] _
              refine st402.trans ?_
              refine XS.iload X402.here hx rfl (hb hby at_256) rfl ?_
              refine XS.lloadN X402.here hx rfl (hb hby at_258) rfl ?_
              refine XS.iload X402.here hx rfl (hb hby at_259) rfl ?_
              show own_S p e below m T402 261 #[lvJ q0_, .second, lvJ q1_, .second, lvJ q2_, .second, lvJ q3_, .second, lvI p4_, lvI (1 : Int32), lvI (0 : Int32), lvI (1 : Int32), lvI (0 : Int32), lvR w14_, lvR w23_, lvR b31, lvR b40, lvJ (2 : Int64), .second] [(.int (0 : Int32)), (.long q1_), (.int (0 : Int32)), (.long (own_max (-9223372036854775808 : Int64) (-9223372036854775808 : Int64)))] _
              refine XS.lload X402.here hx rfl (hb hby at_261) rfl ?_
              show own_S p e below m T402 263 #[lvJ q0_, .second, lvJ q1_, .second, lvJ q2_, .second, lvJ q3_, .second, lvI p4_, lvI (1 : Int32), lvI (0 : Int32), lvI (1 : Int32), lvI (0 : Int32), lvR w14_, lvR w23_, lvR b31, lvR b40, lvJ (2 : Int64), .second] [(.long q3_), (.int (0 : Int32)), (.long q1_), (.int (0 : Int32)), (.long (own_max (-9223372036854775808 : Int64) (-9223372036854775808 : Int64)))] _
              refine st404 _ ?_
              refine XS.lcmp X404.here hx rfl (hb hby at_266) rfl ?_
              show own_S p e below m T404 267 #[lvJ q0_, .second, lvJ q1_, .second, lvJ q2_, .second, lvJ q3_, .second, lvI p4_, lvI (1 : Int32), lvI (0 : Int32), lvI (1 : Int32), lvI (0 : Int32), lvR w14_, lvR w23_, lvR b31, lvR b40, lvJ (2 : Int64), .second] [(.int (lcmpW (own_max (-9223372036854775808 : Int64) (-9223372036854775808 : Int64)) (-9223372036854775808 : Int64)))] _
              refine XS.ifNo X404.here hx rfl (hb hby at_267) rfl ((if0 _ _).trans (teq ((lw_eq _ _).mpr (by simp only [own_minl, own_minr] <;> first | (rfl) | (exact own_ml hq400_0_0)))).2) ?_
              refine XS.iconst X404.here hx rfl (hb hby at_270) ?_
              refine XS.goto X404.here hx rfl (pc0 := 271) (pc' := 275) rfl (hb hby at_271) (by decide) (by decide) ?_
              exact kt
            obtain ⟨fs, hr, hrun, hended, hW, hsame⟩ := X404.leave (v := some (.int (1 : Int32))) (fun h => by rw [Bd.returns] at h; cases h)
            refine ⟨_, _, hG _ (pre406 _ (retN X404 hx (t := .boolean) Bd.returns (by simp) (hb hby at_275) hr)), hrun, hended, _, _, rfl, ?_, ⟨_, rfl⟩, hW, hsame.mono (by decide) (by decide)⟩
            show QLaw Z q0_ q1_ q2_ q3_ p4_ w_PUT w_DELETE_COLUMN w_DELETE_FAMILY h0 n0 _ T404.heap _
            rw [e404']
            exact ⟨rfl, N405⟩
          · obtain ⟨cq408, kq408, q408a, q408b, q408c⟩ := isOf hZ e400' g388_0
            obtain ⟨_, _, ⟨T408, L408, k408, n408⟩, -, X408, ⟨Lc408, hQ408, l408, y408, z408⟩, st408⟩ := X400.virtualBack hx (y := (⟨"com/example/zenodotus/zenodotus/io/RowCodec$Tally", "latestDeleteTimestamp", "()J"⟩ : MethodName)) (z := (⟨"com/example/zenodotus/zenodotus/io/RowCodec$Tally", "latestDeleteTimestamp", "()J"⟩ : MethodName)) hown (mvT hZ (own_w hw 50 rfl)) (mvT hZ (own_w hw 51 rfl)) (notFace_of_selects (args := #[]) (mvT hZ (own_w hw 53 rfl))) (mvT hZ (own_w hw 53 rfl)) (mvT hZ (own_w hw 52 rfl)) (by decide) (backOf (W := 0) (rmlatestDeleteTimestamp19 l Z a0 hw [] b31 (own_max (own_max (-9223372036854775808 : Int64) q0_) (own_max (-9223372036854775808 : Int64) q2_)) (own_max (-9223372036854775808 : Int64) (-9223372036854775808 : Int64)) h388 n0 f396 g388_0 g388_1 g388_2 g388_3) hZ (own_w hw 54 rfl) (own_w hw 5 rfl) (by decide) (by decide)) q408a q408c (g := (mkF m 253 #[lvJ q0_, .second, lvJ q1_, .second, lvJ q2_, .second, lvJ q3_, .second, lvI p4_, lvI (1 : Int32), lvI (0 : Int32), lvI (1 : Int32), lvI (0 : Int32), lvR w14_, lvR w23_, lvR b31, lvR b40, lvJ (2 : Int64), .second] [(.ref b31)])) rfl (by rw [hml]; rfl) (Steps.refl _) (argsL := []) (rest := []) (lenOf pd_3 rfl) rfl (by show 2 * 0 + _ ≤ _; exact Nat.le_of_eq rfl) (hb hby at_253) (fun _ _ => ⟨rfl, e400', (by decide : 2 + 0 ≤ _), (by decide : 6 + 0 ≤ _)⟩)
            dsimp only [Pt.U, Pt.locs, Pt.cells, Pt.slots] at X408 l408 y408 z408 st408 hQ408
            subst l408 y408 z408
            obtain ⟨h408, e408⟩ : ∃ z, T408.heap = z := ⟨_, rfl⟩
            rw [e408] at hQ408
            obtain ⟨rfl, N408q, hh408⟩ := hQ408
            have N409 := Fr.app N401 N408q
            have e408' : T408.heap = h388 := e408.trans hh408
            obtain ⟨_, _, ⟨T410, L410, k410, n410⟩, -, X410, ⟨Lc410, hQ410, l410, y410, z410⟩, st410⟩ := Jvm.LawKit.callS X408 hx (y := (⟨"com/example/zenodotus/zenodotus/io/TallyAddPinLaw", "expect", "(ZJZJ)J"⟩ : MethodName)) hown (mvT hZ (own_w hw 46 rfl)) (mvT hZ (own_w hw 47 rfl)) (mvT hZ (own_w hw 48 rfl)) (mvT hZ (own_w hw 49 rfl)) (by decide) (backOf (W := 2) (rmexpect5 l Z a0 hw [] q1_ q3_ h388 n0 f396 ) hZ (own_w hw 49 rfl) (own_w hw 48 rfl) (by decide) (by decide)) (g := (mkF m 263 #[lvJ q0_, .second, lvJ q1_, .second, lvJ q2_, .second, lvJ q3_, .second, lvI p4_, lvI (1 : Int32), lvI (0 : Int32), lvI (1 : Int32), lvI (0 : Int32), lvR w14_, lvR w23_, lvR b31, lvR b40, lvJ (2 : Int64), .second] [(.long q3_), (.int (0 : Int32)), (.long q1_), (.int (0 : Int32)), (.long (own_max (-9223372036854775808 : Int64) (-9223372036854775808 : Int64)))])) rfl (by rw [hml]; rfl) (argsL := [(.int (0 : Int32)), (.long q1_), (.int (0 : Int32)), (.long q3_)]) (rest := [(.long (own_max (-9223372036854775808 : Int64) (-9223372036854775808 : Int64)))]) (lenOf pd_4 rfl) rfl (by show 2 * 0 + _ ≤ _; exact Nat.le_of_eq rfl) (hb hby at_263) (fun _ _ => ⟨rfl, e408', (by decide : 2 + 0 ≤ _), (by decide : 6 + 0 ≤ _)⟩)
            dsimp only [Pt.U, Pt.locs, Pt.cells, Pt.slots] at X410 l410 y410 z410 st410 hQ410
            subst l410 y410 z410
            obtain ⟨h410, e410⟩ : ∃ z, T410.heap = z := ⟨_, rfl⟩
            rw [e410] at hQ410
            obtain ⟨rfl, N410q, hh410⟩ := hQ410
            have N411 := Fr.app N409 N410q
            have e410' : T410.heap = h388 := e410.trans hh410
            have pre412 : ∀ t, own_S p e below m T410 275 #[lvJ q0_, .second, lvJ q1_, .second, lvJ q2_, .second, lvJ q3_, .second, lvI p4_, lvI (1 : Int32), lvI (0 : Int32), lvI (1 : Int32), lvI (0 : Int32), lvR w14_, lvR w23_, lvR b31, lvR b40, lvJ (2 : Int64), .second] [(.int (1 : Int32))] t → G t := by
              intro t kt
              refine pre386 t ?_
              show own_S p e below m T380 157 #[lvJ q0_, .second, lvJ q1_, .second, lvJ q2_, .second, lvJ q3_, .second, lvI p4_, lvI (1 : Int32), lvI (0 : Int32), lvI (1 : Int32), lvI (0 : Int32), lvR w14_, lvR w23_, lvR b31, lvR b40, .unset, .unset] [(.int (0 : Int32))] _
              refine XS.ifYes X380.here hx rfl (pc0 := 157) (pc' := 169) rfl (hb hby at_157) rfl ((if0 _ _).trans (teq (by decide : (0 : Int32) = (0 : Int32))).1) (by decide) (by decide) ?_
              refine XS.aload X380.here hx rfl (hb hby at_169) rfl rfl ?_
              refine XS.aload X380.here hx rfl (hb hby at_171) rfl rfl ?_
              show own_S p e below m T380 173 #[lvJ q0_, .second, lvJ q1_, .second, lvJ q2_, .second, lvJ q3_, .second, lvI p4_, lvI (1 : Int32), lvI (0 : Int32), lvI (1 : Int32), lvI (0 : Int32), lvR w14_, lvR w23_, lvR b31, lvR b40, .unset, .unset] [(.ref b40), (.ref b31)] _
              refine st388.trans ?_
              refine XS.iload X388.here hx rfl (hb hby at_176) rfl ?_
              show own_S p e below m T388 178 #[lvJ q0_, .second, lvJ q1_, .second, lvJ q2_, .second, lvJ q3_, .second, lvI p4_, lvI (1 : Int32), lvI (0 : Int32), lvI (1 : Int32), lvI (0 : Int32), lvR w14_, lvR w23_, lvR b31, lvR b40, .unset, .unset] [(.int (1 : Int32))] _
              refine XS.ifNo X388.here hx rfl (hb hby at_178) rfl ((if0 _ _).trans (feq (by decide : ¬ ((1 : Int32) = (0 : Int32)))).1) ?_
              refine XS.lconst X388.here hx rfl (hb hby at_181) ?_
              refine XS.goto X388.here hx rfl (pc0 := 182) (pc' := 186) rfl (hb hby at_182) (by decide) (by decide) ?_
              refine XS.iload X388.here hx rfl (hb hby at_186) rfl ?_
              show own_S p e below m T388 188 #[lvJ q0_, .second, lvJ q1_, .second, lvJ q2_, .second, lvJ q3_, .second, lvI p4_, lvI (1 : Int32), lvI (0 : Int32), lvI (1 : Int32), lvI (0 : Int32), lvR w14_, lvR w23_, lvR b31, lvR b40, .unset, .unset] [(.int (0 : Int32)), (.long (1 : Int64))] _
              refine XS.ifYes X388.here hx rfl (pc0 := 188) (pc' := 195) rfl (hb hby at_188) rfl ((if0 _ _).trans (teq (by decide : (0 : Int32) = (0 : Int32))).1) (by decide) (by decide) ?_
              refine XS.lconst X388.here hx rfl (hb hby at_195) ?_
              refine XS.ladd X388.here hx rfl (hb hby at_196) rfl ?_
              refine XS.iload X388.here hx rfl (hb hby at_197) rfl ?_
              show own_S p e below m T388 199 #[lvJ q0_, .second, lvJ q1_, .second, lvJ q2_, .second, lvJ q3_, .second, lvI p4_, lvI (1 : Int32), lvI (0 : Int32), lvI (1 : Int32), lvI (0 : Int32), lvR w14_, lvR w23_, lvR b31, lvR b40, .unset, .unset] [(.int (1 : Int32)), (.long (1 : Int64))] _
              refine XS.ifNo X388.here hx rfl (hb hby at_199) rfl ((if0 _ _).trans (feq (by decide : ¬ ((1 : Int32) = (0 : Int32)))).1) ?_
              refine XS.lconst X388.here hx rfl (hb hby at_202) ?_
              refine XS.goto X388.here hx rfl (pc0 := 203) (pc' := 207) rfl (hb hby at_203) (by decide) (by decide) ?_
              refine XS.ladd X388.here hx rfl (hb hby at_207) rfl ?_
              show own_S p e below m T388 208 #[lvJ q0_, .second, lvJ q1_, .second, lvJ q2_, .second, lvJ q3_, .second, lvI p4_, lvI (1 : Int32), lvI (0 : Int32), lvI (1 : Int32), lvI (0 : Int32), lvR w14_, lvR w23_, lvR b31, lvR b40, .unset, .unset] [(.long (2 : Int64))] _
              refine XS.iload X388.here hx rfl (hb hby at_208) rfl ?_
              show own_S p e below m T388 210 #[lvJ q0_, .second, lvJ q1_, .second, lvJ q2_, .second, lvJ q3_, .second, lvI p4_, lvI (1 : Int32), lvI (0 : Int32), lvI (1 : Int32), lvI (0 : Int32), lvR w14_, lvR w23_, lvR b31, lvR b40, .unset, .unset] [(.int (0 : Int32)), (.long (2 : Int64))] _
              refine XS.ifYes X388.here hx rfl (pc0 := 210) (pc' := 217) rfl (hb hby at_210) rfl ((if0 _ _).trans (teq (by decide : (0 : Int32) = (0 : Int32))).1) (by decide) (by decide) ?_
              refine XS.lconst X388.here hx rfl (hb hby at_217) ?_
              refine XS.ladd X388.here hx rfl (hb hby at_218) rfl ?_
              refine XS.lstore X388.here hx rfl (hb hby at_219) rfl (l' := #[lvJ q0_, .second, lvJ q1_, .second, lvJ q2_, .second, lvJ q3_, .second, lvI p4_, lvI (1 : Int32), lvI (0 : Int32), lvI (1 : Int32), lvI (0 : Int32), lvR w14_, lvR w23_, lvR b31, lvR b40, lvJ (2 : Int64), .second]) rfl ?_
              show own_S p e below m T388 221 #[lvJ q0_, .second, lvJ q1_, .second, lvJ q2_, .second, lvJ q3_, .second, lvI p4_, lvI (1 : Int32), lvI (0 : Int32), lvI (1 : Int32), lvI (0 : Int32), lvR w14_, lvR w23_, lvR b31, lvR b40, lvJ (2 : Int64), .second] [] _
              refine XS.aload X388.here hx rfl (hb hby at_221) rfl rfl ?_
              show own_S p e below m T388 223 #[lvJ q0_, .second, lvJ q1_, .second, lvJ q2_, .second, lvJ q3_, .second, lvI p4_, lvI (1 : Int32), lvI (0 : Int32), lvI (1 : Int32), lvI (0 : Int32), lvR w14_, lvR w23_, lvR b31, lvR b40, lvJ (2 : Int64), .second] [(.ref b31)] _
              refine st395.trans ?_
              refine XS.lload X395.here hx rfl (hb hby at_226) rfl ?_
              refine XS.lcmp X395.here hx rfl (hb hby at_228) rfl ?_
              show own_S p e below m T395 229 #[lvJ q0_, .second, lvJ q1_, .second, lvJ q2_, .second, lvJ q3_, .second, lvI p4_, lvI (1 : Int32), lvI (0 : Int32), lvI (1 : Int32), lvI (0 : Int32), lvR w14_, lvR w23_, lvR b31, lvR b40, lvJ (2 : Int64), .second] [(.int (lcmpW (2 : Int64) (2 : Int64)))] _
              refine XS.ifNo X395.here hx rfl (hb hby at_229) rfl ((if0 _ _).trans (teq ((lw_eq _ _).mpr (by decide : (2 : Int64) = (2 : Int64)))).2) ?_
              refine XS.aload X395.here hx rfl (hb hby at_232) rfl rfl ?_
              show own_S p e below m T395 234 #[lvJ q0_, .second, lvJ q1_, .second, lvJ q2_, .second, lvJ q3_, .second, lvI p4_, lvI (1 : Int32), lvI (0 : Int32), lvI (1 : Int32), lvI (0 : Int32), lvR w14_, lvR w23_, lvR b31, lvR b40, lvJ (2 : Int64), .second] [(.ref b31)] _
              refine st398.trans ?_
              refine XS.iload X398.here hx rfl (hb hby at_237) rfl ?_
              refine XS.lloadN X398.here hx rfl (hb hby at_239) rfl ?_
              refine XS.iload X398.here hx rfl (hb hby at_240) rfl ?_
              show own_S p e below m T398 242 #[lvJ q0_, .second, lvJ q1_, .second, lvJ q2_, .second, lvJ q3_, .second, lvI p4_, lvI (1 : Int32), lvI (0 : Int32), lvI (1 : Int32), lvI (0 : Int32), lvR w14_, lvR w23_, lvR b31, lvR b40, lvJ (2 : Int64), .second] [(.int (1 : Int32)), (.long q0_), (.int (1 : Int32)), (.long (own_max (own_max (-9223372036854775808 : Int64) q0_) (own_max (-9223372036854775808 : Int64) q2_)))] _
              refine XS.lload X398.here hx rfl (hb hby at_242) rfl ?_
              show own_S p e below m T398 244 #[lvJ q0_, .second, lvJ q1_, .second, lvJ q2_, .second, lvJ q3_, .second, lvI p4_, lvI (1 : Int32), lvI (0 : Int32), lvI (1 : Int32), lvI (0 : Int32), lvR w14_, lvR w23_, lvR b31, lvR b40, lvJ (2 : Int64), .second] [(.long q2_), (.int (1 : Int32)), (.long q0_), (.int (1 : Int32)), (.long (own_max (own_max (-9223372036854775808 : Int64) q0_) (own_max (-9223372036854775808 : Int64) q2_)))] _
              refine st400 _ ?_
              refine XS.lcmp X400.here hx rfl (hb hby at_247) rfl ?_
              show own_S p e below m T400 248 #[lvJ q0_, .second, lvJ q1_, .second, lvJ q2_, .second, lvJ q3_, .second, lvI p4_, lvI (1 : Int32), lvI (0 : Int32), lvI (1 : Int32), lvI (0 : Int32), lvR w14_, lvR w23_, lvR b31, lvR b40, lvJ (2 : Int64), .second] [(.int (lcmpW (own_max (own_max (-9223372036854775808 : Int64) q0_) (own_max (-9223372036854775808 : Int64) q2_)) q2_))] _
              refine XS.ifNo X400.here hx rfl (hb hby at_248) rfl ((if0 _ _).trans (teq ((lw_eq _ _).mpr (by simp only [own_minl, own_minr] <;> first | (rfl) | (exact own_mr hq400_1_0)))).2) ?_
              refine XS.aload X400.here hx rfl (hb hby at_251) rfl rfl ?_
              show own_S p e below m T400 253 #[lvJ q0_, .second, lvJ q1_, .second, lvJ q2_, .second, lvJ q3_, .second, lvI p4_, lvI (1 : Int32), lvI (0 : Int32), lvI (1 : Int32), lvI (0 : Int32), lvR w14_, lvR w23_, lvR b31, lvR b40, lvJ (2 : Int64), .second] [(.ref b31)] _
              refine st408.trans ?_
              refine XS.iload X408.here hx rfl (hb hby at_256) rfl ?_
              refine XS.lloadN X408.here hx rfl (hb hby at_258) rfl ?_
              refine XS.iload X408.here hx rfl (hb hby at_259) rfl ?_
              show own_S p e below m T408 261 #[lvJ q0_, .second, lvJ q1_, .second, lvJ q2_, .second, lvJ q3_, .second, lvI p4_, lvI (1 : Int32), lvI (0 : Int32), lvI (1 : Int32), lvI (0 : Int32), lvR w14_, lvR w23_, lvR b31, lvR b40, lvJ (2 : Int64), .second] [(.int (0 : Int32)), (.long q1_), (.int (0 : Int32)), (.long (own_max (-9223372036854775808 : Int64) (-9223372036854775808 : Int64)))] _
              refine XS.lload X408.here hx rfl (hb hby at_261) rfl ?_
              show own_S p e below m T408 263 #[lvJ q0_, .second, lvJ q1_, .second, lvJ q2_, .second, lvJ q3_, .second, lvI p4_, lvI (1 : Int32), lvI (0 : Int32), lvI (1 : Int32), lvI (0 : Int32), lvR w14_, lvR w23_, lvR b31, lvR b40, lvJ (2 : Int64), .second] [(.long q3_), (.int (0 : Int32)), (.long q1_), (.int (0 : Int32)), (.long (own_max (-9223372036854775808 : Int64) (-9223372036854775808 : Int64)))] _
              refine st410 _ ?_
              refine XS.lcmp X410.here hx rfl (hb hby at_266) rfl ?_
              show own_S p e below m T410 267 #[lvJ q0_, .second, lvJ q1_, .second, lvJ q2_, .second, lvJ q3_, .second, lvI p4_, lvI (1 : Int32), lvI (0 : Int32), lvI (1 : Int32), lvI (0 : Int32), lvR w14_, lvR w23_, lvR b31, lvR b40, lvJ (2 : Int64), .second] [(.int (lcmpW (own_max (-9223372036854775808 : Int64) (-9223372036854775808 : Int64)) (-9223372036854775808 : Int64)))] _
              refine XS.ifNo X410.here hx rfl (hb hby at_267) rfl ((if0 _ _).trans (teq ((lw_eq _ _).mpr (by simp only [own_minl, own_minr] <;> first | (rfl) | (exact own_mr hq400_1_0)))).2) ?_
              refine XS.iconst X410.here hx rfl (hb hby at_270) ?_
              refine XS.goto X410.here hx rfl (pc0 := 271) (pc' := 275) rfl (hb hby at_271) (by decide) (by decide) ?_
              exact kt
            obtain ⟨fs, hr, hrun, hended, hW, hsame⟩ := X410.leave (v := some (.int (1 : Int32))) (fun h => by rw [Bd.returns] at h; cases h)
            refine ⟨_, _, hG _ (pre412 _ (retN X410 hx (t := .boolean) Bd.returns (by simp) (hb hby at_275) hr)), hrun, hended, _, _, rfl, ?_, ⟨_, rfl⟩, hW, hsame.mono (by decide) (by decide)⟩
            show QLaw Z q0_ q1_ q2_ q3_ p4_ w_PUT w_DELETE_COLUMN w_DELETE_FAMILY h0 n0 _ T410.heap _
            rw [e410']
            exact ⟨rfl, N411⟩
        · have f415 : Old Z n0 h380 := f378.keep K380 (allS (ge42) all0)
          obtain ⟨cq414, kq414, q414a, q414b, q414c⟩ := isOf hZ e380 g380_0
          obtain ⟨_, _, ⟨T414, L414, k414, n414⟩, -, X414, ⟨Lc414, hQ414, l414, y414, z414⟩, st414⟩ := X380.virtualBack hx (y := (⟨"com/example/zenodotus/zenodotus/io/RowCodec$Tally", "count", "(Lcom/example/zenodotus/zenodotus/model/Cell$Kind;J)V"⟩ : MethodName)) (z := (⟨"com/example/zenodotus/zenodotus/io/RowCodec$Tally", "count", "(Lcom/example/zenodotus/zenodotus/model/Cell$Kind;J)V"⟩ : MethodName)) hown (mvT hZ (own_w hw 19 rfl)) (mvT hZ (own_w hw 20 rfl)) (notFace_of_selects (args := #[]) (mvT hZ (own_w hw 22 rfl))) (mvT hZ (own_w hw 22 rfl)) (mvT hZ (own_w hw 21 rfl)) (by decide) (backOf (W := 0) (rmcount15 l Z a0 hw [] b40 w23_ q3_ (own_max (-9223372036854775808 : Int64) q2_) w_PUT h380 n0 f415 g380_0 g380_1 g380_2 g380_3 E23 ge42 P1 P2 P0 n23_0) hZ (own_w hw 23 rfl) (own_w hw 5 rfl) (by decide) (by decide)) q414a q414c (g := (mkF m 166 #[lvJ q0_, .second, lvJ q1_, .second, lvJ q2_, .second, lvJ q3_, .second, lvI p4_, lvI (1 : Int32), lvI (0 : Int32), lvI (1 : Int32), lvI (1 : Int32), lvR w14_, lvR w23_, lvR b31, lvR b40, .unset, .unset] [(.long q3_), (.ref w23_), (.ref b40)])) rfl (by rw [hml]; rfl) (Steps.refl _) (argsL := [(.ref w23_), (.long q3_)]) (rest := []) (lenOf pd_5 rfl) rfl (by show 2 * 0 + _ ≤ _; exact Nat.le_of_eq rfl) (hb hby at_166) (fun _ _ => ⟨rfl, e380, (by decide : 2 + 0 ≤ _), (by decide : 6 + 0 ≤ _)⟩)
          dsimp only [Pt.U, Pt.locs, Pt.cells, Pt.slots] at X414 l414 y414 z414 st414 hQ414
          subst l414 y414 z414
          obtain ⟨h414, e414⟩ : ∃ z, T414.heap = z := ⟨_, rfl⟩
          rw [e414] at hQ414
          obtain ⟨rfl, N414q, K414, g414_0, g414_1, g414_2, g414_3⟩ := hQ414
          have N416 := Fr.app N385 N414q
          have f418 : Exa Z h380 b31 cn0 := g314_0.keep K380
          have f419 : Exa Z h414 b31 cn0 := f418.keep K414
          have f420 : Fld Z h380 b31 cn0 "latestTimestamp" "J" (.long (own_max (-9223372036854775808 : Int64) q0_)) := g314_1.keep K380 (ninS ne319 nin0)
          have f421 : Fld Z h414 b31 cn0 "latestTimestamp" "J" (.long (own_max (-9223372036854775808 : Int64) q0_)) := f420.keep K414 (ninS ne319 nin0)
          have f422 : Fld Z h380 b31 cn0 "latestDeleteTimestamp" "J" (.long (-9223372036854775808 : Int64)) := g314_2.keep K380 (ninS ne319 nin0)
          have f423 : Fld Z h414 b31 cn0 "latestDeleteTimestamp" "J" (.long (-9223372036854775808 : Int64)) := f422.keep K414 (ninS ne319 nin0)
          have f424 : Fld Z h380 b31 cn0 "cells" "J" (.long (1 : Int64)) := g314_3.keep K380 (ninS ne319 nin0)
          have f425 : Fld Z h414 b31 cn0 "cells" "J" (.long (1 : Int64)) := f424.keep K414 (ninS ne319 nin0)
          have f426 : Old Z n0 h414 := f415.keep K414 (allS (ge42) all0)
          obtain ⟨cq417, kq417, q417a, q417b, q417c⟩ := isOf hZ e414 f419
          obtain ⟨_, _, ⟨T417, L417, k417, n417⟩, -, X417, ⟨Lc417, hQ417, l417, y417, z417⟩, st417⟩ := X414.virtualBack hx (y := (⟨"com/example/zenodotus/zenodotus/io/RowCodec$Tally", "add", "(Lcom/example/zenodotus/zenodotus/io/RowCodec$Tally;)V"⟩ : MethodName)) (z := (⟨"com/example/zenodotus/zenodotus/io/RowCodec$Tally", "add", "(Lcom/example/zenodotus/zenodotus/io/RowCodec$Tally;)V"⟩ : MethodName)) hown (mvT hZ (own_w hw 31 rfl)) (mvT hZ (own_w hw 32 rfl)) (notFace_of_selects (args := #[]) (mvT hZ (own_w hw 34 rfl))) (mvT hZ (own_w hw 34 rfl)) (mvT hZ (own_w hw 33 rfl)) (by decide) (backOf (W := 0) (rmadd32 l Z a0 hw [] b31 b40 (own_max (-9223372036854775808 : Int64) q0_) (own_max (-9223372036854775808 : Int64) q2_) (own_max (-9223372036854775808 : Int64) q3_) h414 n0 f426 f419 f421 f423 f425 g414_0 g414_1 g414_2 g414_3 ge32 (Ne.symm ne319)) hZ (own_w hw 35 rfl) (own_w hw 5 rfl) (by decide) (by decide)) q417a q417c (g := (mkF m 173 #[lvJ q0_, .second, lvJ q1_, .second, lvJ q2_, .second, lvJ q3_, .second, lvI p4_, lvI (1 : Int32), lvI (0 : Int32), lvI (1 : Int32), lvI (1 : Int32), lvR w14_, lvR w23_, lvR b31, lvR b40, .unset, .unset] [(.ref b40), (.ref b31)])) rfl (by rw [hml]; rfl) (Steps.refl _) (argsL := [(.ref b40)]) (rest := []) (lenOf pd_2 rfl) rfl (by show 2 * 0 + _ ≤ _; exact Nat.le_of_eq rfl) (hb hby at_173) (fun _ _ => ⟨rfl, e414, (by decide : 2 + 0 ≤ _), (by decide : 6 + 0 ≤ _)⟩)
          dsimp only [Pt.U, Pt.locs, Pt.cells, Pt.slots] at X417 l417 y417 z417 st417 hQ417
          subst l417 y417 z417
          obtain ⟨h417, e417⟩ : ∃ z, T417.heap = z := ⟨_, rfl⟩
          rw [e417] at hQ417
          obtain ⟨rfl, N417q, K417, g417_0, g417_1, g417_2, g417_3⟩ := hQ417
          have N427 := Fr.app N416 N417q
          have f429 : Old Z n0 h417 := f426.keep K417 (allS (ge32) all0)
          obtain ⟨cq428, kq428, q428a, q428b, q428c⟩ := isOf hZ e417 g417_0
          obtain ⟨_, _, ⟨T428, L428, k428, n428⟩, -, X428, ⟨Lc428, hQ428, l428, y428, z428⟩, st428⟩ := X417.virtualBack hx (y := (⟨"com/example/zenodotus/zenodotus/io/RowCodec$Tally", "cells", "()J"⟩ : MethodName)) (z := (⟨"com/example/zenodotus/zenodotus/io/RowCodec$Tally", "cells", "()J"⟩ : MethodName)) hown (mvT hZ (own_w hw 36 rfl)) (mvT hZ (own_w hw 37 rfl)) (notFace_of_selects (args := #[]) (mvT hZ (own_w hw 39 rfl))) (mvT hZ (own_w hw 39 rfl)) (mvT hZ (own_w hw 38 rfl)) (by decide) (backOf (W := 0) (rmcells26 l Z a0 hw [] b31 (own_max (own_max (-9223372036854775808 : Int64) q0_) (own_max (-9223372036854775808 : Int64) q2_)) (own_max (-9223372036854775808 : Int64) (own_max (-9223372036854775808 : Int64) q3_)) h417 n0 f429 g417_0 g417_1 g417_2 g417_3) hZ (own_w hw 40 rfl) (own_w hw 5 rfl) (by decide) (by decide)) q428a q428c (g := (mkF m 223 #[lvJ q0_, .second, lvJ q1_, .second, lvJ q2_, .second, lvJ q3_, .second, lvI p4_, lvI (1 : Int32), lvI (0 : Int32), lvI (1 : Int32), lvI (1 : Int32), lvR w14_, lvR w23_, lvR b31, lvR b40, lvJ (3 : Int64), .second] [(.ref b31)])) rfl (by rw [hml]; rfl) (Steps.refl _) (argsL := []) (rest := []) (lenOf pd_3 rfl) rfl (by show 2 * 0 + _ ≤ _; exact Nat.le_of_eq rfl) (hb hby at_223) (fun _ _ => ⟨rfl, e417, (by decide : 2 + 0 ≤ _), (by decide : 6 + 0 ≤ _)⟩)
          dsimp only [Pt.U, Pt.locs, Pt.cells, Pt.slots] at X428 l428 y428 z428 st428 hQ428
          subst l428 y428 z428
          obtain ⟨h428, e428⟩ : ∃ z, T428.heap = z := ⟨_, rfl⟩
          rw [e428] at hQ428
          obtain ⟨rfl, N428q, hh428⟩ := hQ428
          have N430 := Fr.app N427 N428q
          have e428' : T428.heap = h417 := e428.trans hh428
          obtain ⟨cq431, kq431, q431a, q431b, q431c⟩ := isOf hZ e428' g417_0
          obtain ⟨_, _, ⟨T431, L431, k431, n431⟩, -, X431, ⟨Lc431, hQ431, l431, y431, z431⟩, st431⟩ := X428.virtualBack hx (y := (⟨"com/example/zenodotus/zenodotus/io/RowCodec$Tally", "latestTimestamp", "()J"⟩ : MethodName)) (z := (⟨"com/example/zenodotus/zenodotus/io/RowCodec$Tally", "latestTimestamp", "()J"⟩ : MethodName)) hown (mvT hZ (own_w hw 41 rfl)) (mvT hZ (own_w hw 42 rfl)) (notFace_of_selects (args := #[]) (mvT hZ (own_w hw 44 rfl))) (mvT hZ (own_w hw 44 rfl)) (mvT hZ (own_w hw 43 rfl)) (by decide) (backOf (W := 0) (rmlatestTimestamp27 l Z a0 hw [] b31 (own_max (own_max (-9223372036854775808 : Int64) q0_) (own_max (-9223372036854775808 : Int64) q2_)) (own_max (-9223372036854775808 : Int64) (own_max (-9223372036854775808 : Int64) q3_)) h417 n0 f429 g417_0 g417_1 g417_2 g417_3) hZ (own_w hw 45 rfl) (own_w hw 5 rfl) (by decide) (by decide)) q431a q431c (g := (mkF m 234 #[lvJ q0_, .second, lvJ q1_, .second, lvJ q2_, .second, lvJ q3_, .second, lvI p4_, lvI (1 : Int32), lvI (0 : Int32), lvI (1 : Int32), lvI (1 : Int32), lvR w14_, lvR w23_, lvR b31, lvR b40, lvJ (3 : Int64), .second] [(.ref b31)])) rfl (by rw [hml]; rfl) (Steps.refl _) (argsL := []) (rest := []) (lenOf pd_3 rfl) rfl (by show 2 * 0 + _ ≤ _; exact Nat.le_of_eq rfl) (hb hby at_234) (fun _ _ => ⟨rfl, e428', (by decide : 2 + 0 ≤ _), (by decide : 6 + 0 ≤ _)⟩)
          dsimp only [Pt.U, Pt.locs, Pt.cells, Pt.slots] at X431 l431 y431 z431 st431 hQ431
          subst l431 y431 z431
          obtain ⟨h431, e431⟩ : ∃ z, T431.heap = z := ⟨_, rfl⟩
          rw [e431] at hQ431
          obtain ⟨rfl, N431q, hh431⟩ := hQ431
          have N432 := Fr.app N430 N431q
          have e431' : T431.heap = h417 := e431.trans hh431
          obtain ⟨_, _, ⟨T433, L433, k433, n433⟩, -, X433, ⟨Lc433, hQ433, l433, y433, z433⟩, st433⟩ := Jvm.LawKit.callS X431 hx (y := (⟨"com/example/zenodotus/zenodotus/io/TallyAddPinLaw", "expect", "(ZJZJ)J"⟩ : MethodName)) hown (mvT hZ (own_w hw 46 rfl)) (mvT hZ (own_w hw 47 rfl)) (mvT hZ (own_w hw 48 rfl)) (mvT hZ (own_w hw 49 rfl)) (by decide) (backOf (W := 2) (rmexpect23 l Z a0 hw [] q0_ q2_ h417 n0 f429 ) hZ (own_w hw 49 rfl) (own_w hw 48 rfl) (by decide) (by decide)) (g := (mkF m 244 #[lvJ q0_, .second, lvJ q1_, .second, lvJ q2_, .second, lvJ q3_, .second, lvI p4_, lvI (1 : Int32), lvI (0 : Int32), lvI (1 : Int32), lvI (1 : Int32), lvR w14_, lvR w23_, lvR b31, lvR b40, lvJ (3 : Int64), .second] [(.long q2_), (.int (1 : Int32)), (.long q0_), (.int (1 : Int32)), (.long (own_max (own_max (-9223372036854775808 : Int64) q0_) (own_max (-9223372036854775808 : Int64) q2_)))])) rfl (by rw [hml]; rfl) (argsL := [(.int (1 : Int32)), (.long q0_), (.int (1 : Int32)), (.long q2_)]) (rest := [(.long (own_max (own_max (-9223372036854775808 : Int64) q0_) (own_max (-9223372036854775808 : Int64) q2_)))]) (lenOf pd_4 rfl) rfl (by show 2 * 0 + _ ≤ _; exact Nat.le_of_eq rfl) (hb hby at_244) (fun _ _ => ⟨rfl, e431', (by decide : 2 + 0 ≤ _), (by decide : 6 + 0 ≤ _)⟩)
          dsimp only [Pt.U, Pt.locs, Pt.cells, Pt.slots] at X433 l433 y433 z433 st433 hQ433
          subst l433 y433 z433
          obtain ⟨h433, e433⟩ : ∃ z, T433.heap = z := ⟨_, rfl⟩
          rw [e433] at hQ433
          obtain ⟨rr433, rfl, hs433, N433q, hh433⟩ := hQ433
          have N434 := Fr.app N432 N433q
          have e433' : T433.heap = h417 := e433.trans hh433
          rcases hs433 with ⟨rfl, hq433_0_0⟩ | ⟨rfl, hq433_1_0⟩
          · obtain ⟨cq435, kq435, q435a, q435b, q435c⟩ := isOf hZ e433' g417_0
            obtain ⟨_, _, ⟨T435, L435, k435, n435⟩, -, X435, ⟨Lc435, hQ435, l435, y435, z435⟩, st435⟩ := X433.virtualBack hx (y := (⟨"com/example/zenodotus/zenodotus/io/RowCodec$Tally", "latestDeleteTimestamp", "()J"⟩ : MethodName)) (z := (⟨"com/example/zenodotus/zenodotus/io/RowCodec$Tally", "latestDeleteTimestamp", "()J"⟩ : MethodName)) hown (mvT hZ (own_w hw 50 rfl)) (mvT hZ (own_w hw 51 rfl)) (notFace_of_selects (args := #[]) (mvT hZ (own_w hw 53 rfl))) (mvT hZ (own_w hw 53 rfl)) (mvT hZ (own_w hw 52 rfl)) (by decide) (backOf (W := 0) (rmlatestDeleteTimestamp28 l Z a0 hw [] b31 (own_max (own_max (-9223372036854775808 : Int64) q0_) (own_max (-9223372036854775808 : Int64) q2_)) (own_max (-9223372036854775808 : Int64) (own_max (-9223372036854775808 : Int64) q3_)) h417 n0 f429 g417_0 g417_1 g417_2 g417_3) hZ (own_w hw 54 rfl) (own_w hw 5 rfl) (by decide) (by decide)) q435a q435c (g := (mkF m 253 #[lvJ q0_, .second, lvJ q1_, .second, lvJ q2_, .second, lvJ q3_, .second, lvI p4_, lvI (1 : Int32), lvI (0 : Int32), lvI (1 : Int32), lvI (1 : Int32), lvR w14_, lvR w23_, lvR b31, lvR b40, lvJ (3 : Int64), .second] [(.ref b31)])) rfl (by rw [hml]; rfl) (Steps.refl _) (argsL := []) (rest := []) (lenOf pd_3 rfl) rfl (by show 2 * 0 + _ ≤ _; exact Nat.le_of_eq rfl) (hb hby at_253) (fun _ _ => ⟨rfl, e433', (by decide : 2 + 0 ≤ _), (by decide : 6 + 0 ≤ _)⟩)
            dsimp only [Pt.U, Pt.locs, Pt.cells, Pt.slots] at X435 l435 y435 z435 st435 hQ435
            subst l435 y435 z435
            obtain ⟨h435, e435⟩ : ∃ z, T435.heap = z := ⟨_, rfl⟩
            rw [e435] at hQ435
            obtain ⟨rfl, N435q, hh435⟩ := hQ435
            have N436 := Fr.app N434 N435q
            have e435' : T435.heap = h417 := e435.trans hh435
            obtain ⟨_, _, ⟨T437, L437, k437, n437⟩, -, X437, ⟨Lc437, hQ437, l437, y437, z437⟩, st437⟩ := Jvm.LawKit.callS X435 hx (y := (⟨"com/example/zenodotus/zenodotus/io/TallyAddPinLaw", "expect", "(ZJZJ)J"⟩ : MethodName)) hown (mvT hZ (own_w hw 46 rfl)) (mvT hZ (own_w hw 47 rfl)) (mvT hZ (own_w hw 48 rfl)) (mvT hZ (own_w hw 49 rfl)) (by decide) (backOf (W := 2) (rmexpect12 l Z a0 hw [] q1_ q3_ h417 n0 f429 ) hZ (own_w hw 49 rfl) (own_w hw 48 rfl) (by decide) (by decide)) (g := (mkF m 263 #[lvJ q0_, .second, lvJ q1_, .second, lvJ q2_, .second, lvJ q3_, .second, lvI p4_, lvI (1 : Int32), lvI (0 : Int32), lvI (1 : Int32), lvI (1 : Int32), lvR w14_, lvR w23_, lvR b31, lvR b40, lvJ (3 : Int64), .second] [(.long q3_), (.int (1 : Int32)), (.long q1_), (.int (0 : Int32)), (.long (own_max (-9223372036854775808 : Int64) (own_max (-9223372036854775808 : Int64) q3_)))])) rfl (by rw [hml]; rfl) (argsL := [(.int (0 : Int32)), (.long q1_), (.int (1 : Int32)), (.long q3_)]) (rest := [(.long (own_max (-9223372036854775808 : Int64) (own_max (-9223372036854775808 : Int64) q3_)))]) (lenOf pd_4 rfl) rfl (by show 2 * 0 + _ ≤ _; exact Nat.le_of_eq rfl) (hb hby at_263) (fun _ _ => ⟨rfl, e435', (by decide : 2 + 0 ≤ _), (by decide : 6 + 0 ≤ _)⟩)
            dsimp only [Pt.U, Pt.locs, Pt.cells, Pt.slots] at X437 l437 y437 z437 st437 hQ437
            subst l437 y437 z437
            obtain ⟨h437, e437⟩ : ∃ z, T437.heap = z := ⟨_, rfl⟩
            rw [e437] at hQ437
            obtain ⟨rfl, N437q, hh437⟩ := hQ437
            have N438 := Fr.app N436 N437q
            have e437' : T437.heap = h417 := e437.trans hh437
            have pre439 : ∀ t, own_S p e below m T437 275 #[lvJ q0_, .second, lvJ q1_, .second, lvJ q2_, .second, lvJ q3_, .second, lvI p4_, lvI (1 : Int32), lvI (0 : Int32), lvI (1 : Int32), lvI (1 : Int32), lvR w14_, lvR w23_, lvR b31, lvR b40, lvJ (3 : Int64), .second] [(.int (1 : Int32))] t → G t := by
              intro t kt
              refine pre386 t ?_
              show own_S p e below m T380 157 #[lvJ q0_, .second, lvJ q1_, .second, lvJ q2_, .second, lvJ q3_, .second, lvI p4_, lvI (1 : Int32), lvI (0 : Int32), lvI (1 : Int32), lvI (1 : Int32), lvR w14_, lvR w23_, lvR b31, lvR b40, .unset, .unset] [(.int (1 : Int32))] _
              refine XS.ifNo X380.here hx rfl (hb hby at_157) rfl ((if0 _ _).trans (feq (by decide : ¬ ((1 : Int32) = (0 : Int32)))).1) ?_
              refine XS.aload X380.here hx rfl (hb hby at_160) rfl rfl ?_
              refine XS.aload X380.here hx rfl (hb hby at_162) rfl rfl ?_
              refine XS.lload X380.here hx rfl (hb hby at_164) rfl ?_
              show own_S p e below m T380 166 #[lvJ q0_, .second, lvJ q1_, .second, lvJ q2_, .second, lvJ q3_, .second, lvI p4_, lvI (1 : Int32), lvI (0 : Int32), lvI (1 : Int32), lvI (1 : Int32), lvR w14_, lvR w23_, lvR b31, lvR b40, .unset, .unset] [(.long q3_), (.ref w23_), (.ref b40)] _
              refine st414.trans ?_
              refine XS.aload X414.here hx rfl (hb hby at_169) rfl rfl ?_
              refine XS.aload X414.here hx rfl (hb hby at_171) rfl rfl ?_
              show own_S p e below m T414 173 #[lvJ q0_, .second, lvJ q1_, .second, lvJ q2_, .second, lvJ q3_, .second, lvI p4_, lvI (1 : Int32), lvI (0 : Int32), lvI (1 : Int32), lvI (1 : Int32), lvR w14_, lvR w23_, lvR b31, lvR b40, .unset, .unset] [(.ref b40), (.ref b31)] _
              refine st417.trans ?_
              refine XS.iload X417.here hx rfl (hb hby at_176) rfl ?_
              show own_S p e below m T417 178 #[lvJ q0_, .second, lvJ q1_, .second, lvJ q2_, .second, lvJ q3_, .second, lvI p4_, lvI (1 : Int32), lvI (0 : Int32), lvI (1 : Int32), lvI (1 : Int32), lvR w14_, lvR w23_, lvR b31, lvR b40, .unset, .unset] [(.int (1 : Int32))] _
              refine XS.ifNo X417.here hx rfl (hb hby at_178) rfl ((if0 _ _).trans (feq (by decide : ¬ ((1 : Int32) = (0 : Int32)))).1) ?_
              refine XS.lconst X417.here hx rfl (hb hby at_181) ?_
              refine XS.goto X417.here hx rfl (pc0 := 182) (pc' := 186) rfl (hb hby at_182) (by decide) (by decide) ?_
              refine XS.iload X417.here hx rfl (hb hby at_186) rfl ?_
              show own_S p e below m T417 188 #[lvJ q0_, .second, lvJ q1_, .second, lvJ q2_, .second, lvJ q3_, .second, lvI p4_, lvI (1 : Int32), lvI (0 : Int32), lvI (1 : Int32), lvI (1 : Int32), lvR w14_, lvR w23_, lvR b31, lvR b40, .unset, .unset] [(.int (0 : Int32)), (.long (1 : Int64))] _
              refine XS.ifYes X417.here hx rfl (pc0 := 188) (pc' := 195) rfl (hb hby at_188) rfl ((if0 _ _).trans (teq (by decide : (0 : Int32) = (0 : Int32))).1) (by decide) (by decide) ?_
              refine XS.lconst X417.here hx rfl (hb hby at_195) ?_
              refine XS.ladd X417.here hx rfl (hb hby at_196) rfl ?_
              refine XS.iload X417.here hx rfl (hb hby at_197) rfl ?_
              show own_S p e below m T417 199 #[lvJ q0_, .second, lvJ q1_, .second, lvJ q2_, .second, lvJ q3_, .second, lvI p4_, lvI (1 : Int32), lvI (0 : Int32), lvI (1 : Int32), lvI (1 : Int32), lvR w14_, lvR w23_, lvR b31, lvR b40, .unset, .unset] [(.int (1 : Int32)), (.long (1 : Int64))] _
              refine XS.ifNo X417.here hx rfl (hb hby at_199) rfl ((if0 _ _).trans (feq (by decide : ¬ ((1 : Int32) = (0 : Int32)))).1) ?_
              refine XS.lconst X417.here hx rfl (hb hby at_202) ?_
              refine XS.goto X417.here hx rfl (pc0 := 203) (pc' := 207) rfl (hb hby at_203) (by decide) (by decide) ?_
              refine XS.ladd X417.here hx rfl (hb hby at_207) rfl ?_
              show own_S p e below m T417 208 #[lvJ q0_, .second, lvJ q1_, .second, lvJ q2_, .second, lvJ q3_, .second, lvI p4_, lvI (1 : Int32), lvI (0 : Int32), lvI (1 : Int32), lvI (1 : Int32), lvR w14_, lvR w23_, lvR b31, lvR b40, .unset, .unset] [(.long (2 : Int64))] _
              refine XS.iload X417.here hx rfl (hb hby at_208) rfl ?_
              show own_S p e below m T417 210 #[lvJ q0_, .second, lvJ q1_, .second, lvJ q2_, .second, lvJ q3_, .second, lvI p4_, lvI (1 : Int32), lvI (0 : Int32), lvI (1 : Int32), lvI (1 : Int32), lvR w14_, lvR w23_, lvR b31, lvR b40, .unset, .unset] [(.int (1 : Int32)), (.long (2 : Int64))] _
              refine XS.ifNo X417.here hx rfl (hb hby at_210) rfl ((if0 _ _).trans (feq (by decide : ¬ ((1 : Int32) = (0 : Int32)))).1) ?_
              refine XS.lconst X417.here hx rfl (hb hby at_213) ?_
              refine XS.goto X417.here hx rfl (pc0 := 214) (pc' := 218) rfl (hb hby at_214) (by decide) (by decide) ?_
              refine XS.ladd X417.here hx rfl (hb hby at_218) rfl ?_
              show own_S p e below m T417 219 #[lvJ q0_, .second, lvJ q1_, .second, lvJ q2_, .second, lvJ q3_, .second, lvI p4_, lvI (1 : Int32), lvI (0 : Int32), lvI (1 : Int32), lvI (1 : Int32), lvR w14_, lvR w23_, lvR b31, lvR b40, .unset, .unset] [(.long (3 : Int64))] _
              refine XS.lstore X417.here hx rfl (hb hby at_219) rfl (l' := #[lvJ q0_, .second, lvJ q1_, .second, lvJ q2_, .second, lvJ q3_, .second, lvI p4_, lvI (1 : Int32), lvI (0 : Int32), lvI (1 : Int32), lvI (1 : Int32), lvR w14_, lvR w23_, lvR b31, lvR b40, lvJ (3 : Int64), .second]) rfl ?_
              refine XS.aload X417.here hx rfl (hb hby at_221) rfl rfl ?_
              show own_S p e below m T417 223 #[lvJ q0_, .second, lvJ q1_, .second, lvJ q2_, .second, lvJ q3_, .second, lvI p4_, lvI (1 : Int32), lvI (0 : Int32), lvI (1 : Int32), lvI (1 : Int32), lvR w14_, lvR w23_, lvR b31, lvR b40, lvJ (3 : Int64), .second] [(.ref b31)] _
              refine st428.trans ?_
              refine XS.lload X428.here hx rfl (hb hby at_226) rfl ?_
              refine XS.lcmp X428.here hx rfl (hb hby at_228) rfl ?_
              show own_S p e below m T428 229 #[lvJ q0_, .second, lvJ q1_, .second, lvJ q2_, .second, lvJ q3_, .second, lvI p4_, lvI (1 : Int32), lvI (0 : Int32), lvI (1 : Int32), lvI (1 : Int32), lvR w14_, lvR w23_, lvR b31, lvR b40, lvJ (3 : Int64), .second] [(.int (lcmpW (3 : Int64) (3 : Int64)))] _
              refine XS.ifNo X428.here hx rfl (hb hby at_229) rfl ((if0 _ _).trans (teq ((lw_eq _ _).mpr (by decide : (3 : Int64) = (3 : Int64)))).2) ?_
              refine XS.aload X428.here hx rfl (hb hby at_232) rfl rfl ?_
              show own_S p e below m T428 234 #[lvJ q0_, .second, lvJ q1_, .second, lvJ q2_, .second, lvJ q3_, .second, lvI p4_, lvI (1 : Int32), lvI (0 : Int32), lvI (1 : Int32), lvI (1 : Int32), lvR w14_, lvR w23_, lvR b31, lvR b40, lvJ (3 : Int64), .second] [(.ref b31)] _
              refine st431.trans ?_
              refine XS.iload X431.here hx rfl (hb hby at_237) rfl ?_
              refine XS.lloadN X431.here hx rfl (hb hby at_239) rfl ?_
              refine XS.iload X431.here hx rfl (hb hby at_240) rfl ?_
              show own_S p e below m T431 242 #[lvJ q0_, .second, lvJ q1_, .second, lvJ q2_, .second, lvJ q3_, .second, lvI p4_, lvI (1 : Int32), lvI (0 : Int32), lvI (1 : Int32), lvI (1 : Int32), lvR w14_, lvR w23_, lvR b31, lvR b40, lvJ (3 : Int64), .second] [(.int (1 : Int32)), (.long q0_), (.int (1 : Int32)), (.long (own_max (own_max (-9223372036854775808 : Int64) q0_) (own_max (-9223372036854775808 : Int64) q2_)))] _
              refine XS.lload X431.here hx rfl (hb hby at_242) rfl ?_
              show own_S p e below m T431 244 #[lvJ q0_, .second, lvJ q1_, .second, lvJ q2_, .second, lvJ q3_, .second, lvI p4_, lvI (1 : Int32), lvI (0 : Int32), lvI (1 : Int32), lvI (1 : Int32), lvR w14_, lvR w23_, lvR b31, lvR b40, lvJ (3 : Int64), .second] [(.long q2_), (.int (1 : Int32)), (.long q0_), (.int (1 : Int32)), (.long (own_max (own_max (-9223372036854775808 : Int64) q0_) (own_max (-9223372036854775808 : Int64) q2_)))] _
              refine st433 _ ?_
              refine XS.lcmp X433.here hx rfl (hb hby at_247) rfl ?_
              show own_S p e below m T433 248 #[lvJ q0_, .second, lvJ q1_, .second, lvJ q2_, .second, lvJ q3_, .second, lvI p4_, lvI (1 : Int32), lvI (0 : Int32), lvI (1 : Int32), lvI (1 : Int32), lvR w14_, lvR w23_, lvR b31, lvR b40, lvJ (3 : Int64), .second] [(.int (lcmpW (own_max (own_max (-9223372036854775808 : Int64) q0_) (own_max (-9223372036854775808 : Int64) q2_)) q0_))] _
              refine XS.ifNo X433.here hx rfl (hb hby at_248) rfl ((if0 _ _).trans (teq ((lw_eq _ _).mpr (by simp only [own_minl, own_minr] <;> first | (rfl) | (exact own_ml hq433_0_0)))).2) ?_
              refine XS.aload X433.here hx rfl (hb hby at_251) rfl rfl ?_
              show own_S p e below m T433 253 #[lvJ q0_, .second, lvJ q1_, .second, lvJ q2_, .second, lvJ q3_, .second, lvI p4_, lvI (1 : Int32), lvI (0 : Int32), lvI (1 : Int32), lvI (1 : Int32), lvR w14_, lvR w23_, lvR b31, lvR b40, lvJ (3 : Int64), .second] [(.ref b31)] _
              refine st435.trans ?_
              refine XS.iload X435.here hx rfl (hb hby at_256) rfl ?_
              refine XS.lloadN X435.here hx rfl (hb hby at_258) rfl ?_
              refine XS.iload X435.here hx rfl (hb hby at_259) rfl ?_
              show own_S p e below m T435 261 #[lvJ q0_, .second, lvJ q1_, .second, lvJ q2_, .second, lvJ q3_, .second, lvI p4_, lvI (1 : Int32), lvI (0 : Int32), lvI (1 : Int32), lvI (1 : Int32), lvR w14_, lvR w23_, lvR b31, lvR b40, lvJ (3 : Int64), .second] [(.int (1 : Int32)), (.long q1_), (.int (0 : Int32)), (.long (own_max (-9223372036854775808 : Int64) (own_max (-9223372036854775808 : Int64) q3_)))] _
              refine XS.lload X435.here hx rfl (hb hby at_261) rfl ?_
              show own_S p e below m T435 263 #[lvJ q0_, .second, lvJ q1_, .second, lvJ q2_, .second, lvJ q3_, .second, lvI p4_, lvI (1 : Int32), lvI (0 : Int32), lvI (1 : Int32), lvI (1 : Int32), lvR w14_, lvR w23_, lvR b31, lvR b40, lvJ (3 : Int64), .second] [(.long q3_), (.int (1 : Int32)), (.long q1_), (.int (0 : Int32)), (.long (own_max (-9223372036854775808 : Int64) (own_max (-9223372036854775808 : Int64) q3_)))] _
              refine st437 _ ?_
              refine XS.lcmp X437.here hx rfl (hb hby at_266) rfl ?_
              show own_S p e below m T437 267 #[lvJ q0_, .second, lvJ q1_, .second, lvJ q2_, .second, lvJ q3_, .second, lvI p4_, lvI (1 : Int32), lvI (0 : Int32), lvI (1 : Int32), lvI (1 : Int32), lvR w14_, lvR w23_, lvR b31, lvR b40, lvJ (3 : Int64), .second] [(.int (lcmpW (own_max (-9223372036854775808 : Int64) (own_max (-9223372036854775808 : Int64) q3_)) q3_))] _
              refine XS.ifNo X437.here hx rfl (hb hby at_267) rfl ((if0 _ _).trans (teq ((lw_eq _ _).mpr (by simp only [own_minl, own_minr] <;> first | (rfl) | (exact own_ml hq433_0_0)))).2) ?_
              refine XS.iconst X437.here hx rfl (hb hby at_270) ?_
              refine XS.goto X437.here hx rfl (pc0 := 271) (pc' := 275) rfl (hb hby at_271) (by decide) (by decide) ?_
              exact kt
            obtain ⟨fs, hr, hrun, hended, hW, hsame⟩ := X437.leave (v := some (.int (1 : Int32))) (fun h => by rw [Bd.returns] at h; cases h)
            refine ⟨_, _, hG _ (pre439 _ (retN X437 hx (t := .boolean) Bd.returns (by simp) (hb hby at_275) hr)), hrun, hended, _, _, rfl, ?_, ⟨_, rfl⟩, hW, hsame.mono (by decide) (by decide)⟩
            show QLaw Z q0_ q1_ q2_ q3_ p4_ w_PUT w_DELETE_COLUMN w_DELETE_FAMILY h0 n0 _ T437.heap _
            rw [e437']
            exact ⟨rfl, N438⟩
          · obtain ⟨cq441, kq441, q441a, q441b, q441c⟩ := isOf hZ e433' g417_0
            obtain ⟨_, _, ⟨T441, L441, k441, n441⟩, -, X441, ⟨Lc441, hQ441, l441, y441, z441⟩, st441⟩ := X433.virtualBack hx (y := (⟨"com/example/zenodotus/zenodotus/io/RowCodec$Tally", "latestDeleteTimestamp", "()J"⟩ : MethodName)) (z := (⟨"com/example/zenodotus/zenodotus/io/RowCodec$Tally", "latestDeleteTimestamp", "()J"⟩ : MethodName)) hown (mvT hZ (own_w hw 50 rfl)) (mvT hZ (own_w hw 51 rfl)) (notFace_of_selects (args := #[]) (mvT hZ (own_w hw 53 rfl))) (mvT hZ (own_w hw 53 rfl)) (mvT hZ (own_w hw 52 rfl)) (by decide) (backOf (W := 0) (rmlatestDeleteTimestamp28 l Z a0 hw [] b31 (own_max (own_max (-9223372036854775808 : Int64) q0_) (own_max (-9223372036854775808 : Int64) q2_)) (own_max (-9223372036854775808 : Int64) (own_max (-9223372036854775808 : Int64) q3_)) h417 n0 f429 g417_0 g417_1 g417_2 g417_3) hZ (own_w hw 54 rfl) (own_w hw 5 rfl) (by decide) (by decide)) q441a q441c (g := (mkF m 253 #[lvJ q0_, .second, lvJ q1_, .second, lvJ q2_, .second, lvJ q3_, .second, lvI p4_, lvI (1 : Int32), lvI (0 : Int32), lvI (1 : Int32), lvI (1 : Int32), lvR w14_, lvR w23_, lvR b31, lvR b40, lvJ (3 : Int64), .second] [(.ref b31)])) rfl (by rw [hml]; rfl) (Steps.refl _) (argsL := []) (rest := []) (lenOf pd_3 rfl) rfl (by show 2 * 0 + _ ≤ _; exact Nat.le_of_eq rfl) (hb hby at_253) (fun _ _ => ⟨rfl, e433', (by decide : 2 + 0 ≤ _), (by decide : 6 + 0 ≤ _)⟩)
            dsimp only [Pt.U, Pt.locs, Pt.cells, Pt.slots] at X441 l441 y441 z441 st441 hQ441
            subst l441 y441 z441
            obtain ⟨h441, e441⟩ : ∃ z, T441.heap = z := ⟨_, rfl⟩
            rw [e441] at hQ441
            obtain ⟨rfl, N441q, hh441⟩ := hQ441
            have N442 := Fr.app N434 N441q
            have e441' : T441.heap = h417 := e441.trans hh441
            obtain ⟨_, _, ⟨T443, L443, k443, n443⟩, -, X443, ⟨Lc443, hQ443, l443, y443, z443⟩, st443⟩ := Jvm.LawKit.callS X441 hx (y := (⟨"com/example/zenodotus/zenodotus/io/TallyAddPinLaw", "expect", "(ZJZJ)J"⟩ : MethodName)) hown (mvT hZ (own_w hw 46 rfl)) (mvT hZ (own_w hw 47 rfl)) (mvT hZ (own_w hw 48 rfl)) (mvT hZ (own_w hw 49 rfl)) (by decide) (backOf (W := 2) (rmexpect12 l Z a0 hw [] q1_ q3_ h417 n0 f429 ) hZ (own_w hw 49 rfl) (own_w hw 48 rfl) (by decide) (by decide)) (g := (mkF m 263 #[lvJ q0_, .second, lvJ q1_, .second, lvJ q2_, .second, lvJ q3_, .second, lvI p4_, lvI (1 : Int32), lvI (0 : Int32), lvI (1 : Int32), lvI (1 : Int32), lvR w14_, lvR w23_, lvR b31, lvR b40, lvJ (3 : Int64), .second] [(.long q3_), (.int (1 : Int32)), (.long q1_), (.int (0 : Int32)), (.long (own_max (-9223372036854775808 : Int64) (own_max (-9223372036854775808 : Int64) q3_)))])) rfl (by rw [hml]; rfl) (argsL := [(.int (0 : Int32)), (.long q1_), (.int (1 : Int32)), (.long q3_)]) (rest := [(.long (own_max (-9223372036854775808 : Int64) (own_max (-9223372036854775808 : Int64) q3_)))]) (lenOf pd_4 rfl) rfl (by show 2 * 0 + _ ≤ _; exact Nat.le_of_eq rfl) (hb hby at_263) (fun _ _ => ⟨rfl, e441', (by decide : 2 + 0 ≤ _), (by decide : 6 + 0 ≤ _)⟩)
            dsimp only [Pt.U, Pt.locs, Pt.cells, Pt.slots] at X443 l443 y443 z443 st443 hQ443
            subst l443 y443 z443
            obtain ⟨h443, e443⟩ : ∃ z, T443.heap = z := ⟨_, rfl⟩
            rw [e443] at hQ443
            obtain ⟨rfl, N443q, hh443⟩ := hQ443
            have N444 := Fr.app N442 N443q
            have e443' : T443.heap = h417 := e443.trans hh443
            have pre445 : ∀ t, own_S p e below m T443 275 #[lvJ q0_, .second, lvJ q1_, .second, lvJ q2_, .second, lvJ q3_, .second, lvI p4_, lvI (1 : Int32), lvI (0 : Int32), lvI (1 : Int32), lvI (1 : Int32), lvR w14_, lvR w23_, lvR b31, lvR b40, lvJ (3 : Int64), .second] [(.int (1 : Int32))] t → G t := by
              intro t kt
              refine pre386 t ?_
              show own_S p e below m T380 157 #[lvJ q0_, .second, lvJ q1_, .second, lvJ q2_, .second, lvJ q3_, .second, lvI p4_, lvI (1 : Int32), lvI (0 : Int32), lvI (1 : Int32), lvI (1 : Int32), lvR w14_, lvR w23_, lvR b31, lvR b40, .unset, .unset] [(.int (1 : Int32))] _
              refine XS.ifNo X380.here hx rfl (hb hby at_157) rfl ((if0 _ _).trans (feq (by decide : ¬ ((1 : Int32) = (0 : Int32)))).1) ?_
              refine XS.aload X380.here hx rfl (hb hby at_160) rfl rfl ?_
              refine XS.aload X380.here hx rfl (hb hby at_162) rfl rfl ?_
              refine XS.lload X380.here hx rfl (hb hby at_164) rfl ?_
              show own_S p e below m T380 166 #[lvJ q0_, .second, lvJ q1_, .second, lvJ q2_, .second, lvJ q3_, .second, lvI p4_, lvI (1 : Int32), lvI (0 : Int32), lvI (1 : Int32), lvI (1 : Int32), lvR w14_, lvR w23_, lvR b31, lvR b40, .unset, .unset] [(.long q3_), (.ref w23_), (.ref b40)] _
              refine st414.trans ?_
              refine XS.aload X414.here hx rfl (hb hby at_169) rfl rfl ?_
              refine XS.aload X414.here hx rfl (hb hby at_171) rfl rfl ?_
              show own_S p e below m T414 173 #[lvJ q0_, .second, lvJ q1_, .second, lvJ q2_, .second, lvJ q3_, .second, lvI p4_, lvI (1 : Int32), lvI (0 : Int32), lvI (1 : Int32), lvI (1 : Int32), lvR w14_, lvR w23_, lvR b31, lvR b40, .unset, .unset] [(.ref b40), (.ref b31)] _
              refine st417.trans ?_
              refine XS.iload X417.here hx rfl (hb hby at_176) rfl ?_
              show own_S p e below m T417 178 #[lvJ q0_, .second, lvJ q1_, .second, lvJ q2_, .second, lvJ q3_, .second, lvI p4_, lvI (1 : Int32), lvI (0 : Int32), lvI (1 : Int32), lvI (1 : Int32), lvR w14_, lvR w23_, lvR b31, lvR b40, .unset, .unset] [(.int (1 : Int32))] _
              refine XS.ifNo X417.here hx rfl (hb hby at_178) rfl ((if0 _ _).trans (feq (by decide : ¬ ((1 : Int32) = (0 : Int32)))).1) ?_
              refine XS.lconst X417.here hx rfl (hb hby at_181) ?_
              refine XS.goto X417.here hx rfl (pc0 := 182) (pc' := 186) rfl (hb hby at_182) (by decide) (by decide) ?_
              refine XS.iload X417.here hx rfl (hb hby at_186) rfl ?_
              show own_S p e below m T417 188 #[lvJ q0_, .second, lvJ q1_, .second, lvJ q2_, .second, lvJ q3_, .second, lvI p4_, lvI (1 : Int32), lvI (0 : Int32), lvI (1 : Int32), lvI (1 : Int32), lvR w14_, lvR w23_, lvR b31, lvR b40, .unset, .unset] [(.int (0 : Int32)), (.long (1 : Int64))] _
              refine XS.ifYes X417.here hx rfl (pc0 := 188) (pc' := 195) rfl (hb hby at_188) rfl ((if0 _ _).trans (teq (by decide : (0 : Int32) = (0 : Int32))).1) (by decide) (by decide) ?_
              refine XS.lconst X417.here hx rfl (hb hby at_195) ?_
              refine XS.ladd X417.here hx rfl (hb hby at_196) rfl ?_
              refine XS.iload X417.here hx rfl (hb hby at_197) rfl ?_
              show own_S p e below m T417 199 #[lvJ q0_, .second, lvJ q1_, .second, lvJ q2_, .second, lvJ q3_, .second, lvI p4_, lvI (1 : Int32), lvI (0 : Int32), lvI (1 : Int32), lvI (1 : Int32), lvR w14_, lvR w23_, lvR b31, lvR b40, .unset, .unset] [(.int (1 : Int32)), (.long (1 : Int64))] _
              refine XS.ifNo X417.here hx rfl (hb hby at_199) rfl ((if0 _ _).trans (feq (by decide : ¬ ((1 : Int32) = (0 : Int32)))).1) ?_
              refine XS.lconst X417.here hx rfl (hb hby at_202) ?_
              refine XS.goto X417.here hx rfl (pc0 := 203) (pc' := 207) rfl (hb hby at_203) (by decide) (by decide) ?_
              refine XS.ladd X417.here hx rfl (hb hby at_207) rfl ?_
              show own_S p e below m T417 208 #[lvJ q0_, .second, lvJ q1_, .second, lvJ q2_, .second, lvJ q3_, .second, lvI p4_, lvI (1 : Int32), lvI (0 : Int32), lvI (1 : Int32), lvI (1 : Int32), lvR w14_, lvR w23_, lvR b31, lvR b40, .unset, .unset] [(.long (2 : Int64))] _
              refine XS.iload X417.here hx rfl (hb hby at_208) rfl ?_
              show own_S p e below m T417 210 #[lvJ q0_, .second, lvJ q1_, .second, lvJ q2_, .second, lvJ q3_, .second, lvI p4_, lvI (1 : Int32), lvI (0 : Int32), lvI (1 : Int32), lvI (1 : Int32), lvR w14_, lvR w23_, lvR b31, lvR b40, .unset, .unset] [(.int (1 : Int32)), (.long (2 : Int64))] _
              refine XS.ifNo X417.here hx rfl (hb hby at_210) rfl ((if0 _ _).trans (feq (by decide : ¬ ((1 : Int32) = (0 : Int32)))).1) ?_
              refine XS.lconst X417.here hx rfl (hb hby at_213) ?_
              refine XS.goto X417.here hx rfl (pc0 := 214) (pc' := 218) rfl (hb hby at_214) (by decide) (by decide) ?_
              refine XS.ladd X417.here hx rfl (hb hby at_218) rfl ?_
              show own_S p e below m T417 219 #[lvJ q0_, .second, lvJ q1_, .second, lvJ q2_, .second, lvJ q3_, .second, lvI p4_, lvI (1 : Int32), lvI (0 : Int32), lvI (1 : Int32), lvI (1 : Int32), lvR w14_, lvR w23_, lvR b31, lvR b40, .unset, .unset] [(.long (3 : Int64))] _
              refine XS.lstore X417.here hx rfl (hb hby at_219) rfl (l' := #[lvJ q0_, .second, lvJ q1_, .second, lvJ q2_, .second, lvJ q3_, .second, lvI p4_, lvI (1 : Int32), lvI (0 : Int32), lvI (1 : Int32), lvI (1 : Int32), lvR w14_, lvR w23_, lvR b31, lvR b40, lvJ (3 : Int64), .second]) rfl ?_
              refine XS.aload X417.here hx rfl (hb hby at_221) rfl rfl ?_
              show own_S p e below m T417 223 #[lvJ q0_, .second, lvJ q1_, .second, lvJ q2_, .second, lvJ q3_, .second, lvI p4_, lvI (1 : Int32), lvI (0 : Int32), lvI (1 : Int32), lvI (1 : Int32), lvR w14_, lvR w23_, lvR b31, lvR b40, lvJ (3 : Int64), .second] [(.ref b31)] _
              refine st428.trans ?_
              refine XS.lload X428.here hx rfl (hb hby at_226) rfl ?_
              refine XS.lcmp X428.here hx rfl (hb hby at_228) rfl ?_
              show own_S p e below m T428 229 #[lvJ q0_, .second, lvJ q1_, .second, lvJ q2_, .second, lvJ q3_, .second, lvI p4_, lvI (1 : Int32), lvI (0 : Int32), lvI (1 : Int32), lvI (1 : Int32), lvR w14_, lvR w23_, lvR b31, lvR b40, lvJ (3 : Int64), .second] [(.int (lcmpW (3 : Int64) (3 : Int64)))] _
              refine XS.ifNo X428.here hx rfl (hb hby at_229) rfl ((if0 _ _).trans (teq ((lw_eq _ _).mpr (by decide : (3 : Int64) = (3 : Int64)))).2) ?_
              refine XS.aload X428.here hx rfl (hb hby at_232) rfl rfl ?_
              show own_S p e below m T428 234 #[lvJ q0_, .second, lvJ q1_, .second, lvJ q2_, .second, lvJ q3_, .second, lvI p4_, lvI (1 : Int32), lvI (0 : Int32), lvI (1 : Int32), lvI (1 : Int32), lvR w14_, lvR w23_, lvR b31, lvR b40, lvJ (3 : Int64), .second] [(.ref b31)] _
              refine st431.trans ?_
              refine XS.iload X431.here hx rfl (hb hby at_237) rfl ?_
              refine XS.lloadN X431.here hx rfl (hb hby at_239) rfl ?_
              refine XS.iload X431.here hx rfl (hb hby at_240) rfl ?_
              show own_S p e below m T431 242 #[lvJ q0_, .second, lvJ q1_, .second, lvJ q2_, .second, lvJ q3_, .second, lvI p4_, lvI (1 : Int32), lvI (0 : Int32), lvI (1 : Int32), lvI (1 : Int32), lvR w14_, lvR w23_, lvR b31, lvR b40, lvJ (3 : Int64), .second] [(.int (1 : Int32)), (.long q0_), (.int (1 : Int32)), (.long (own_max (own_max (-9223372036854775808 : Int64) q0_) (own_max (-9223372036854775808 : Int64) q2_)))] _
              refine XS.lload X431.here hx rfl (hb hby at_242) rfl ?_
              show own_S p e below m T431 244 #[lvJ q0_, .second, lvJ q1_, .second, lvJ q2_, .second, lvJ q3_, .second, lvI p4_, lvI (1 : Int32), lvI (0 : Int32), lvI (1 : Int32), lvI (1 : Int32), lvR w14_, lvR w23_, lvR b31, lvR b40, lvJ (3 : Int64), .second] [(.long q2_), (.int (1 : Int32)), (.long q0_), (.int (1 : Int32)), (.long (own_max (own_max (-9223372036854775808 : Int64) q0_) (own_max (-9223372036854775808 : Int64) q2_)))] _
              refine st433 _ ?_
              refine XS.lcmp X433.here hx rfl (hb hby at_247) rfl ?_
              show own_S p e below m T433 248 #[lvJ q0_, .second, lvJ q1_, .second, lvJ q2_, .second, lvJ q3_, .second, lvI p4_, lvI (1 : Int32), lvI (0 : Int32), lvI (1 : Int32), lvI (1 : Int32), lvR w14_, lvR w23_, lvR b31, lvR b40, lvJ (3 : Int64), .second] [(.int (lcmpW (own_max (own_max (-9223372036854775808 : Int64) q0_) (own_max (-9223372036854775808 : Int64) q2_)) q2_))] _
              refine XS.ifNo X433.here hx rfl (hb hby at_248) rfl ((if0 _ _).trans (teq ((lw_eq _ _).mpr (by simp only [own_minl, own_minr] <;> first | (rfl) | (exact own_mr hq433_1_0)))).2) ?_
              refine XS.aload X433.here hx rfl (hb hby at_251) rfl rfl ?_
              show own_S p e below m T433 253 #[lvJ q0_, .second, lvJ q1_, .second, lvJ q2_, .second, lvJ q3_, .second, lvI p4_, lvI (1 : Int32), lvI (0 : Int32), lvI (1 : Int32), lvI (1 : Int32), lvR w14_, lvR w23_, lvR b31, lvR b40, lvJ (3 : Int64), .second] [(.ref b31)] _
              refine st441.trans ?_
              refine XS.iload X441.here hx rfl (hb hby at_256) rfl ?_
              refine XS.lloadN X441.here hx rfl (hb hby at_258) rfl ?_
              refine XS.iload X441.here hx rfl (hb hby at_259) rfl ?_
              show own_S p e below m T441 261 #[lvJ q0_, .second, lvJ q1_, .second, lvJ q2_, .second, lvJ q3_, .second, lvI p4_, lvI (1 : Int32), lvI (0 : Int32), lvI (1 : Int32), lvI (1 : Int32), lvR w14_, lvR w23_, lvR b31, lvR b40, lvJ (3 : Int64), .second] [(.int (1 : Int32)), (.long q1_), (.int (0 : Int32)), (.long (own_max (-9223372036854775808 : Int64) (own_max (-9223372036854775808 : Int64) q3_)))] _
              refine XS.lload X441.here hx rfl (hb hby at_261) rfl ?_
              show own_S p e below m T441 263 #[lvJ q0_, .second, lvJ q1_, .second, lvJ q2_, .second, lvJ q3_, .second, lvI p4_, lvI (1 : Int32), lvI (0 : Int32), lvI (1 : Int32), lvI (1 : Int32), lvR w14_, lvR w23_, lvR b31, lvR b40, lvJ (3 : Int64), .second] [(.long q3_), (.int (1 : Int32)), (.long q1_), (.int (0 : Int32)), (.long (own_max (-9223372036854775808 : Int64) (own_max (-9223372036854775808 : Int64) q3_)))] _
              refine st443 _ ?_
              refine XS.lcmp X443.here hx rfl (hb hby at_266) rfl ?_
              show own_S p e below m T443 267 #[lvJ q0_, .second, lvJ q1_, .second, lvJ q2_, .second, lvJ q3_, .second, lvI p4_, lvI (1 : Int32), lvI (0 : Int32), lvI (1 : Int32), lvI (1 : Int32), lvR w14_, lvR w23_, lvR b31, lvR b40, lvJ (3 : Int64), .second] [(.int (lcmpW (own_max (-9223372036854775808 : Int64) (own_max (-9223372036854775808 : Int64) q3_)) q3_))] _
              refine XS.ifNo X443.here hx rfl (hb hby at_267) rfl ((if0 _ _).trans (teq ((lw_eq _ _).mpr (by simp only [own_minl, own_minr] <;> first | (rfl) | (exact own_mr hq433_1_0)))).2) ?_
              refine XS.iconst X443.here hx rfl (hb hby at_270) ?_
              refine XS.goto X443.here hx rfl (pc0 := 271) (pc' := 275) rfl (hb hby at_271) (by decide) (by decide) ?_
              exact kt
            obtain ⟨fs, hr, hrun, hended, hW, hsame⟩ := X443.leave (v := some (.int (1 : Int32))) (fun h => by rw [Bd.returns] at h; cases h)
            refine ⟨_, _, hG _ (pre445 _ (retN X443 hx (t := .boolean) Bd.returns (by simp) (hb hby at_275) hr)), hrun, hended, _, _, rfl, ?_, ⟨_, rfl⟩, hW, hsame.mono (by decide) (by decide)⟩
            show QLaw Z q0_ q1_ q2_ q3_ p4_ w_PUT w_DELETE_COLUMN w_DELETE_FAMILY h0 n0 _ T443.heap _
            rw [e443']
            exact ⟨rfl, N444⟩
    · have f448 : Old Z n0 h314 := f312.keep K314 (allS (ge32) all0)
      obtain ⟨cq447, kq447, q447a, q447b, q447c⟩ := isOf hZ e314 g314_0
      obtain ⟨_, _, ⟨T447, L447, k447, n447⟩, -, X447, ⟨Lc447, hQ447, l447, y447, z447⟩, st447⟩ := X314.virtualBack hx (y := (⟨"com/example/zenodotus/zenodotus/io/RowCodec$Tally", "count", "(Lcom/example/zenodotus/zenodotus/model/Cell$Kind;J)V"⟩ : MethodName)) (z := (⟨"com/example/zenodotus/zenodotus/io/RowCodec$Tally", "count", "(Lcom/example/zenodotus/zenodotus/model/Cell$Kind;J)V"⟩ : MethodName)) hown (mvT hZ (own_w hw 19 rfl)) (mvT hZ (own_w hw 20 rfl)) (notFace_of_selects (args := #[]) (mvT hZ (own_w hw 22 rfl))) (mvT hZ (own_w hw 22 rfl)) (mvT hZ (own_w hw 21 rfl)) (by decide) (backOf (W := 0) (rmcount15 l Z a0 hw [] b31 w14_ q1_ (own_max (-9223372036854775808 : Int64) q0_) w_PUT h314 n0 f448 g314_0 g314_1 g314_2 g314_3 E14 ge32 P1 P2 P0 n14_0) hZ (own_w hw 23 rfl) (own_w hw 5 rfl) (by decide) (by decide)) q447a q447c (g := (mkF m 137 #[lvJ q0_, .second, lvJ q1_, .second, lvJ q2_, .second, lvJ q3_, .second, lvI p4_, lvI (1 : Int32), lvI (1 : Int32), lvI z8, lvI z11, lvR w14_, lvR w23_, lvR b31, lvR b40, .unset, .unset] [(.long q1_), (.ref w14_), (.ref b31)])) rfl (by rw [hml]; rfl) (Steps.refl _) (argsL := [(.ref w14_), (.long q1_)]) (rest := []) (lenOf pd_5 rfl) rfl (by show 2 * 0 + _ ≤ _; exact Nat.le_of_eq rfl) (hb hby at_137) (fun _ _ => ⟨rfl, e314, (by decide : 2 + 0 ≤ _), (by decide : 6 + 0 ≤ _)⟩)
      dsimp only [Pt.U, Pt.locs, Pt.cells, Pt.slots] at X447 l447 y447 z447 st447 hQ447
      subst l447 y447 z447
      obtain ⟨h447, e447⟩ : ∃ z, T447.heap = z := ⟨_, rfl⟩
      rw [e447] at hQ447
      obtain ⟨rfl, N447q, K447, g447_0, g447_1, g447_2, g447_3⟩ := hQ447
      have N449 := Fr.app N324 N447q
      have pre450 : ∀ t, own_S p e below m T447 142 #[lvJ q0_, .second, lvJ q1_, .second, lvJ q2_, .second, lvJ q3_, .second, lvI p4_, lvI (1 : Int32), lvI (1 : Int32), lvI z8, lvI z11, lvR w14_, lvR w23_, lvR b31, lvR b40, .unset, .unset] [(.int z8)] t → G t := by
        intro t kt
        refine pre325 t ?_
        show own_S p e below m T314 129 #[lvJ q0_, .second, lvJ q1_, .second, lvJ q2_, .second, lvJ q3_, .second, lvI p4_, lvI (1 : Int32), lvI (1 : Int32), lvI z8, lvI z11, lvR w14_, lvR w23_, lvR b31, lvR b40, .unset, .unset] [(.int (1 : Int32))] _
        refine XS.ifNo X314.here hx rfl (hb hby at_129) rfl ((if0 _ _).trans (feq (by decide : ¬ ((1 : Int32) = (0 : Int32)))).1) ?_
        refine XS.aload X314.here hx rfl (hb hby at_132) rfl rfl ?_
        refine XS.aload X314.here hx rfl (hb hby at_134) rfl rfl ?_
        refine XS.lloadN X314.here hx rfl (hb hby at_136) rfl ?_
        show own_S p e below m T314 137 #[lvJ q0_, .second, lvJ q1_, .second, lvJ q2_, .second, lvJ q3_, .second, lvI p4_, lvI (1 : Int32), lvI (1 : Int32), lvI z8, lvI z11, lvR w14_, lvR w23_, lvR b31, lvR b40, .unset, .unset] [(.long q1_), (.ref w14_), (.ref b31)] _
        refine st447.trans ?_
        refine XS.iload X447.here hx rfl (hb hby at_140) rfl ?_
        exact kt
      rcases hz8 with ⟨rfl, hj451⟩ | ⟨rfl, hj451⟩
      · have pre452 : ∀ t, own_S p e below m T447 157 #[lvJ q0_, .second, lvJ q1_, .second, lvJ q2_, .second, lvJ q3_, .second, lvI p4_, lvI (1 : Int32), lvI (1 : Int32), lvI (0 : Int32), lvI z11, lvR w14_, lvR w23_, lvR b31, lvR b40, .unset, .unset] [(.int z11)] t → G t := by
          intro t kt
          refine pre450 t ?_
          show own_S p e below m T447 142 #[lvJ q0_, .second, lvJ q1_, .second, lvJ q2_, .second, lvJ q3_, .second, lvI p4_, lvI (1 : Int32), lvI (1 : Int32), lvI (0 : Int32), lvI z11, lvR w14_, lvR w23_, lvR b31, lvR b40, .unset, .unset] [(.int (0 : Int32))] _
          refine XS.ifYes X447.here hx rfl (pc0 := 142) (pc' := 155) rfl (hb hby at_142) rfl ((if0 _ _).trans (teq (by decide : (0 : Int32) = (0 : Int32))).1) (by decide) (by decide) ?_
          refine XS.iload X447.here hx rfl (hb hby at_155) rfl ?_
          exact kt
        rcases hz11 with ⟨rfl, hj453⟩ | ⟨rfl, hj453⟩
        · have f455 : Exa Z h314 b40 cn0 := g49_0.keep K314
          have f456 : Exa Z h447 b40 cn0 := f455.keep K447
          have f457 : Fld Z h314 b40 cn0 "latestTimestamp" "J" (.long (-9223372036854775808 : Int64)) := g49_1.keep K314 (ninS (Ne.symm ne319) nin0)
          have f458 : Fld Z h447 b40 cn0 "latestTimestamp" "J" (.long (-9223372036854775808 : Int64)) := f457.keep K447 (ninS (Ne.symm ne319) nin0)
          have f459 : Fld Z h314 b40 cn0 "latestDeleteTimestamp" "J" (.long (-9223372036854775808 : Int64)) := g49_2.keep K314 (ninS (Ne.symm ne319) nin0)
          have f460 : Fld Z h447 b40 cn0 "latestDeleteTimestamp" "J" (.long (-9223372036854775808 : Int64)) := f459.keep K447 (ninS (Ne.symm ne319) nin0)
          have f461 : Fld Z h314 b40 cn0 "cells" "J" (.long (0 : Int64)) := g49_3.keep K314 (ninS (Ne.symm ne319) nin0)
          have f462 : Fld Z h447 b40 cn0 "cells" "J" (.long (0 : Int64)) := f461.keep K447 (ninS (Ne.symm ne319) nin0)
          have f463 : Old Z n0 h447 := f448.keep K447 (allS (ge32) all0)
          obtain ⟨cq454, kq454, q454a, q454b, q454c⟩ := isOf hZ e447 g447_0
          obtain ⟨_, _, ⟨T454, L454, k454, n454⟩, -, X454, ⟨Lc454, hQ454, l454, y454, z454⟩, st454⟩ := X447.virtualBack hx (y := (⟨"com/example/zenodotus/zenodotus/io/RowCodec$Tally", "add", "(Lcom/example/zenodotus/zenodotus/io/RowCodec$Tally;)V"⟩ : MethodName)) (z := (⟨"com/example/zenodotus/zenodotus/io/RowCodec$Tally", "add", "(Lcom/example/zenodotus/zenodotus/io/RowCodec$Tally;)V"⟩ : MethodName)) hown (mvT hZ (own_w hw 31 rfl)) (mvT hZ (own_w hw 32 rfl)) (notFace_of_selects (args := #[]) (mvT hZ (own_w hw 34 rfl))) (mvT hZ (own_w hw 34 rfl)) (mvT hZ (own_w hw 33 rfl)) (by decide) (backOf (W := 0) (rmadd33 l Z a0 hw [] b31 b40 (own_max (-9223372036854775808 : Int64) q0_) (own_max (-9223372036854775808 : Int64) q1_) h447 n0 f463 g447_0 g447_1 g447_2 g447_3 f456 f458 f460 f462 ge32 (Ne.symm ne319)) hZ (own_w hw 35 rfl) (own_w hw 5 rfl) (by decide) (by decide)) q454a q454c (g := (mkF m 173 #[lvJ q0_, .second, lvJ q1_, .second, lvJ q2_, .second, lvJ q3_, .second, lvI p4_, lvI (1 : Int32), lvI (1 : Int32), lvI (0 : Int32), lvI (0 : Int32), lvR w14_, lvR w23_, lvR b31, lvR b40, .unset, .unset] [(.ref b40), (.ref b31)])) rfl (by rw [hml]; rfl) (Steps.refl _) (argsL := [(.ref b40)]) (rest := []) (lenOf pd_2 rfl) rfl (by show 2 * 0 + _ ≤ _; exact Nat.le_of_eq rfl) (hb hby at_173) (fun _ _ => ⟨rfl, e447, (by decide : 2 + 0 ≤ _), (by decide : 6 + 0 ≤ _)⟩)
          dsimp only [Pt.U, Pt.locs, Pt.cells, Pt.slots] at X454 l454 y454 z454 st454 hQ454
          subst l454 y454 z454
          obtain ⟨h454, e454⟩ : ∃ z, T454.heap = z := ⟨_, rfl⟩
          rw [e454] at hQ454
          obtain ⟨rfl, N454q, K454, g454_0, g454_1, g454_2, g454_3⟩ := hQ454
          have N464 := Fr.app N449 N454q
          have f466 : Old Z n0 h454 := f463.keep K454 (allS (ge32) all0)
          obtain ⟨cq465, kq465, q465a, q465b, q465c⟩ := isOf hZ e454 g454_0
          obtain ⟨_, _, ⟨T465, L465, k465, n465⟩, -, X465, ⟨Lc465, hQ465, l465, y465, z465⟩, st465⟩ := X454.virtualBack hx (y := (⟨"com/example/zenodotus/zenodotus/io/RowCodec$Tally", "cells", "()J"⟩ : MethodName)) (z := (⟨"com/example/zenodotus/zenodotus/io/RowCodec$Tally", "cells", "()J"⟩ : MethodName)) hown (mvT hZ (own_w hw 36 rfl)) (mvT hZ (own_w hw 37 rfl)) (notFace_of_selects (args := #[]) (mvT hZ (own_w hw 39 rfl))) (mvT hZ (own_w hw 39 rfl)) (mvT hZ (own_w hw 38 rfl)) (by decide) (backOf (W := 0) (rmcells17 l Z a0 hw [] b31 (own_max (own_max (-9223372036854775808 : Int64) q0_) (-9223372036854775808 : Int64)) (own_max (own_max (-9223372036854775808 : Int64) q1_) (-9223372036854775808 : Int64)) h454 n0 f466 g454_0 g454_1 g454_2 g454_3) hZ (own_w hw 40 rfl) (own_w hw 5 rfl) (by decide) (by decide)) q465a q465c (g := (mkF m 223 #[lvJ q0_, .second, lvJ q1_, .second, lvJ q2_, .second, lvJ q3_, .second, lvI p4_, lvI (1 : Int32), lvI (1 : Int32), lvI (0 : Int32), lvI (0 : Int32), lvR w14_, lvR w23_, lvR b31, lvR b40, lvJ (2 : Int64), .second] [(.ref b31)])) rfl (by rw [hml]; rfl) (Steps.refl _) (argsL := []) (rest := []) (lenOf pd_3 rfl) rfl (by show 2 * 0 + _ ≤ _; exact Nat.le_of_eq rfl) (hb hby at_223) (fun _ _ => ⟨rfl, e454, (by decide : 2 + 0 ≤ _), (by decide : 6 + 0 ≤ _)⟩)
          dsimp only [Pt.U, Pt.locs, Pt.cells, Pt.slots] at X465 l465 y465 z465 st465 hQ465
          subst l465 y465 z465
          obtain ⟨h465, e465⟩ : ∃ z, T465.heap = z := ⟨_, rfl⟩
          rw [e465] at hQ465
          obtain ⟨rfl, N465q, hh465⟩ := hQ465
          have N467 := Fr.app N464 N465q
          have e465' : T465.heap = h454 := e465.trans hh465
          obtain ⟨cq468, kq468, q468a, q468b, q468c⟩ := isOf hZ e465' g454_0
          obtain ⟨_, _, ⟨T468, L468, k468, n468⟩, -, X468, ⟨Lc468, hQ468, l468, y468, z468⟩, st468⟩ := X465.virtualBack hx (y := (⟨"com/example/zenodotus/zenodotus/io/RowCodec$Tally", "latestTimestamp", "()J"⟩ : MethodName)) (z := (⟨"com/example/zenodotus/zenodotus/io/RowCodec$Tally", "latestTimestamp", "()J"⟩ : MethodName)) hown (mvT hZ (own_w hw 41 rfl)) (mvT hZ (own_w hw 42 rfl)) (notFace_of_selects (args := #[]) (mvT hZ (own_w hw 44 rfl))) (mvT hZ (own_w hw 44 rfl)) (mvT hZ (own_w hw 43 rfl)) (by decide) (backOf (W := 0) (rmlatestTimestamp18 l Z a0 hw [] b31 (own_max (own_max (-9223372036854775808 : Int64) q0_) (-9223372036854775808 : Int64)) (own_max (own_max (-9223372036854775808 : Int64) q1_) (-9223372036854775808 : Int64)) h454 n0 f466 g454_0 g454_1 g454_2 g454_3) hZ (own_w hw 45 rfl) (own_w hw 5 rfl) (by decide) (by decide)) q468a q468c (g := (mkF m 234 #[lvJ q0_, .second, lvJ q1_, .second, lvJ q2_, .second, lvJ q3_, .second, lvI p4_, lvI (1 : Int32), lvI (1 : Int32), lvI (0 : Int32), lvI (0 : Int32), lvR w14_, lvR w23_, lvR b31, lvR b40, lvJ (2 : Int64), .second] [(.ref b31)])) rfl (by rw [hml]; rfl) (Steps.refl _) (argsL := []) (rest := []) (lenOf pd_3 rfl) rfl (by show 2 * 0 + _ ≤ _; exact Nat.le_of_eq rfl) (hb hby at_234) (fun _ _ => ⟨rfl, e465', (by decide : 2 + 0 ≤ _), (by decide : 6 + 0 ≤ _)⟩)
          dsimp only [Pt.U, Pt.locs, Pt.cells, Pt.slots] at X468 l468 y468 z468 st468 hQ468
          subst l468 y468 z468
          obtain ⟨h468, e468⟩ : ∃ z, T468.heap = z := ⟨_, rfl⟩
          rw [e468] at hQ468
          obtain ⟨rfl, N468q, hh468⟩ := hQ468
          have N469 := Fr.app N467 N468q
          have e468' : T468.heap = h454 := e468.trans hh468
          obtain ⟨_, _, ⟨T470, L470, k470, n470⟩, -, X470, ⟨Lc470, hQ470, l470, y470, z470⟩, st470⟩ := Jvm.LawKit.callS X468 hx (y := (⟨"com/example/zenodotus/zenodotus/io/TallyAddPinLaw", "expect", "(ZJZJ)J"⟩ : MethodName)) hown (mvT hZ (own_w hw 46 rfl)) (mvT hZ (own_w hw 47 rfl)) (mvT hZ (own_w hw 48 rfl)) (mvT hZ (own_w hw 49 rfl)) (by decide) (backOf (W := 2) (rmexpect21 l Z a0 hw [] q0_ q2_ h454 n0 f466 ) hZ (own_w hw 49 rfl) (own_w hw 48 rfl) (by decide) (by decide)) (g := (mkF m 244 #[lvJ q0_, .second, lvJ q1_, .second, lvJ q2_, .second, lvJ q3_, .second, lvI p4_, lvI (1 : Int32), lvI (1 : Int32), lvI (0 : Int32), lvI (0 : Int32), lvR w14_, lvR w23_, lvR b31, lvR b40, lvJ (2 : Int64), .second] [(.long q2_), (.int (0 : Int32)), (.long q0_), (.int (1 : Int32)), (.long (own_max (own_max (-9223372036854775808 : Int64) q0_) (-9223372036854775808 : Int64)))])) rfl (by rw [hml]; rfl) (argsL := [(.int (1 : Int32)), (.long q0_), (.int (0 : Int32)), (.long q2_)]) (rest := [(.long (own_max (own_max (-9223372036854775808 : Int64) q0_) (-9223372036854775808 : Int64)))]) (lenOf pd_4 rfl) rfl (by show 2 * 0 + _ ≤ _; exact Nat.le_of_eq rfl) (hb hby at_244) (fun _ _ => ⟨rfl, e468', (by decide : 2 + 0 ≤ _), (by decide : 6 + 0 ≤ _)⟩)
          dsimp only [Pt.U, Pt.locs, Pt.cells, Pt.slots] at X470 l470 y470 z470 st470 hQ470
          subst l470 y470 z470
          obtain ⟨h470, e470⟩ : ∃ z, T470.heap = z := ⟨_, rfl⟩
          rw [e470] at hQ470
          obtain ⟨rfl, N470q, hh470⟩ := hQ470
          have N471 := Fr.app N469 N470q
          have e470' : T470.heap = h454 := e470.trans hh470
          obtain ⟨cq472, kq472, q472a, q472b, q472c⟩ := isOf hZ e470' g454_0
          obtain ⟨_, _, ⟨T472, L472, k472, n472⟩, -, X472, ⟨Lc472, hQ472, l472, y472, z472⟩, st472⟩ := X470.virtualBack hx (y := (⟨"com/example/zenodotus/zenodotus/io/RowCodec$Tally", "latestDeleteTimestamp", "()J"⟩ : MethodName)) (z := (⟨"com/example/zenodotus/zenodotus/io/RowCodec$Tally", "latestDeleteTimestamp", "()J"⟩ : MethodName)) hown (mvT hZ (own_w hw 50 rfl)) (mvT hZ (own_w hw 51 rfl)) (notFace_of_selects (args := #[]) (mvT hZ (own_w hw 53 rfl))) (mvT hZ (own_w hw 53 rfl)) (mvT hZ (own_w hw 52 rfl)) (by decide) (backOf (W := 0) (rmlatestDeleteTimestamp19 l Z a0 hw [] b31 (own_max (own_max (-9223372036854775808 : Int64) q0_) (-9223372036854775808 : Int64)) (own_max (own_max (-9223372036854775808 : Int64) q1_) (-9223372036854775808 : Int64)) h454 n0 f466 g454_0 g454_1 g454_2 g454_3) hZ (own_w hw 54 rfl) (own_w hw 5 rfl) (by decide) (by decide)) q472a q472c (g := (mkF m 253 #[lvJ q0_, .second, lvJ q1_, .second, lvJ q2_, .second, lvJ q3_, .second, lvI p4_, lvI (1 : Int32), lvI (1 : Int32), lvI (0 : Int32), lvI (0 : Int32), lvR w14_, lvR w23_, lvR b31, lvR b40, lvJ (2 : Int64), .second] [(.ref b31)])) rfl (by rw [hml]; rfl) (Steps.refl _) (argsL := []) (rest := []) (lenOf pd_3 rfl) rfl (by show 2 * 0 + _ ≤ _; exact Nat.le_of_eq rfl) (hb hby at_253) (fun _ _ => ⟨rfl, e470', (by decide : 2 + 0 ≤ _), (by decide : 6 + 0 ≤ _)⟩)
          dsimp only [Pt.U, Pt.locs, Pt.cells, Pt.slots] at X472 l472 y472 z472 st472 hQ472
          subst l472 y472 z472
          obtain ⟨h472, e472⟩ : ∃ z, T472.heap = z := ⟨_, rfl⟩
          rw [e472] at hQ472
          obtain ⟨rfl, N472q, hh472⟩ := hQ472
          have N473 := Fr.app N471 N472q
          have e472' : T472.heap = h454 := e472.trans hh472
          obtain ⟨_, _, ⟨T474, L474, k474, n474⟩, -, X474, ⟨Lc474, hQ474, l474, y474, z474⟩, st474⟩ := Jvm.LawKit.callS X472 hx (y := (⟨"com/example/zenodotus/zenodotus/io/TallyAddPinLaw", "expect", "(ZJZJ)J"⟩ : MethodName)) hown (mvT hZ (own_w hw 46 rfl)) (mvT hZ (own_w hw 47 rfl)) (mvT hZ (own_w hw 48 rfl)) (mvT hZ (own_w hw 49 rfl)) (by decide) (backOf (W := 2) (rmexpect21 l Z a0 hw [] q1_ q3_ h454 n0 f466 ) hZ (own_w hw 49 rfl) (own_w hw 48 rfl) (by decide) (by decide)) (g := (mkF m 263 #[lvJ q0_, .second, lvJ q1_, .second, lvJ q2_, .second, lvJ q3_, .second, lvI p4_, lvI (1 : Int32), lvI (1 : Int32), lvI (0 : Int32), lvI (0 : Int32), lvR w14_, lvR w23_, lvR b31, lvR b40, lvJ (2 : Int64), .second] [(.long q3_), (.int (0 : Int32)), (.long q1_), (.int (1 : Int32)), (.long (own_max (own_max (-9223372036854775808 : Int64) q1_) (-9223372036854775808 : Int64)))])) rfl (by rw [hml]; rfl) (argsL := [(.int (1 : Int32)), (.long q1_), (.int (0 : Int32)), (.long q3_)]) (rest := [(.long (own_max (own_max (-9223372036854775808 : Int64) q1_) (-9223372036854775808 : Int64)))]) (lenOf pd_4 rfl) rfl (by show 2 * 0 + _ ≤ _; exact Nat.le_of_eq rfl) (hb hby at_263) (fun _ _ => ⟨rfl, e472', (by decide : 2 + 0 ≤ _), (by decide : 6 + 0 ≤ _)⟩)
          dsimp only [Pt.U, Pt.locs, Pt.cells, Pt.slots] at X474 l474 y474 z474 st474 hQ474
          subst l474 y474 z474
          obtain ⟨h474, e474⟩ : ∃ z, T474.heap = z := ⟨_, rfl⟩
          rw [e474] at hQ474
          obtain ⟨rfl, N474q, hh474⟩ := hQ474
          have N475 := Fr.app N473 N474q
          have e474' : T474.heap = h454 := e474.trans hh474
          have pre476 : ∀ t, own_S p e below m T474 275 #[lvJ q0_, .second, lvJ q1_, .second, lvJ q2_, .second, lvJ q3_, .second, lvI p4_, lvI (1 : Int32), lvI (1 : Int32), lvI (0 : Int32), lvI (0 : Int32), lvR w14_, lvR w23_, lvR b31, lvR b40, lvJ (2 : Int64), .second] [(.int (1 : Int32))] t → G t := by
            intro t kt
            refine pre452 t ?_
            show own_S p e below m T447 157 #[lvJ q0_, .second, lvJ q1_, .second, lvJ q2_, .second, lvJ q3_, .second, lvI p4_, lvI (1 : Int32), lvI (1 : Int32), lvI (0 : Int32), lvI (0 : Int32), lvR w14_, lvR w23_, lvR b31, lvR b40, .unset, .unset] [(.int (0 : Int32))] _
            refine XS.ifYes X447.here hx rfl (pc0 := 157) (pc' := 169) rfl (hb hby at_157) rfl ((if0 _ _).trans (teq (by decide : (0 : Int32) = (0 : Int32))).1) (by decide) (by decide) ?_
            refine XS.aload X447.here hx rfl (hb hby at_169) rfl rfl ?_
            refine XS.aload X447.here hx rfl (hb hby at_171) rfl rfl ?_
            show own_S p e below m T447 173 #[lvJ q0_, .second, lvJ q1_, .second, lvJ q2_, .second, lvJ q3_, .second, lvI p4_, lvI (1 : Int32), lvI (1 : Int32), lvI (0 : Int32), lvI (0 : Int32), lvR w14_, lvR w23_, lvR b31, lvR b40, .unset, .unset] [(.ref b40), (.ref b31)] _
            refine st454.trans ?_
            refine XS.iload X454.here hx rfl (hb hby at_176) rfl ?_
            show own_S p e below m T454 178 #[lvJ q0_, .second, lvJ q1_, .second, lvJ q2_, .second, lvJ q3_, .second, lvI p4_, lvI (1 : Int32), lvI (1 : Int32), lvI (0 : Int32), lvI (0 : Int32), lvR w14_, lvR w23_, lvR b31, lvR b40, .unset, .unset] [(.int (1 : Int32))] _
            refine XS.ifNo X454.here hx rfl (hb hby at_178) rfl ((if0 _ _).trans (feq (by decide : ¬ ((1 : Int32) = (0 : Int32)))).1) ?_
            refine XS.lconst X454.here hx rfl (hb hby at_181) ?_
            refine XS.goto X454.here hx rfl (pc0 := 182) (pc' := 186) rfl (hb hby at_182) (by decide) (by decide) ?_
            refine XS.iload X454.here hx rfl (hb hby at_186) rfl ?_
            show own_S p e below m T454 188 #[lvJ q0_, .second, lvJ q1_, .second, lvJ q2_, .second, lvJ q3_, .second, lvI p4_, lvI (1 : Int32), lvI (1 : Int32), lvI (0 : Int32), lvI (0 : Int32), lvR w14_, lvR w23_, lvR b31, lvR b40, .unset, .unset] [(.int (1 : Int32)), (.long (1 : Int64))] _
            refine XS.ifNo X454.here hx rfl (hb hby at_188) rfl ((if0 _ _).trans (feq (by decide : ¬ ((1 : Int32) = (0 : Int32)))).1) ?_
            refine XS.lconst X454.here hx rfl (hb hby at_191) ?_
            refine XS.goto X454.here hx rfl (pc0 := 192) (pc' := 196) rfl (hb hby at_192) (by decide) (by decide) ?_
            refine XS.ladd X454.here hx rfl (hb hby at_196) rfl ?_
            show own_S p e below m T454 197 #[lvJ q0_, .second, lvJ q1_, .second, lvJ q2_, .second, lvJ q3_, .second, lvI p4_, lvI (1 : Int32), lvI (1 : Int32), lvI (0 : Int32), lvI (0 : Int32), lvR w14_, lvR w23_, lvR b31, lvR b40, .unset, .unset] [(.long (2 : Int64))] _
            refine XS.iload X454.here hx rfl (hb hby at_197) rfl ?_
            show own_S p e below m T454 199 #[lvJ q0_, .second, lvJ q1_, .second, lvJ q2_, .second, lvJ q3_, .second, lvI p4_, lvI (1 : Int32), lvI (1 : Int32), lvI (0 : Int32), lvI (0 : Int32), lvR w14_, lvR w23_, lvR b31, lvR b40, .unset, .unset] [(.int (0 : Int32)), (.long (2 : Int64))] _
            refine XS.ifYes X454.here hx rfl (pc0 := 199) (pc' := 206) rfl (hb hby at_199) rfl ((if0 _ _).trans (teq (by decide : (0 : Int32) = (0 : Int32))).1) (by decide) (by decide) ?_
            refine XS.lconst X454.here hx rfl (hb hby at_206) ?_
            refine XS.ladd X454.here hx rfl (hb hby at_207) rfl ?_
            refine XS.iload X454.here hx rfl (hb hby at_208) rfl ?_
            show own_S p e below m T454 210 #[lvJ q0_, .second, lvJ q1_, .second, lvJ q2_, .second, lvJ q3_, .second, lvI p4_, lvI (1 : Int32), lvI (1 : Int32), lvI (0 : Int32), lvI (0 : Int32), lvR w14_, lvR w23_, lvR b31, lvR b40, .unset, .unset] [(.int (0 : Int32)), (.long (2 : Int64))] _
            refine XS.ifYes X454.here hx rfl (pc0 := 210) (pc' := 217) rfl (hb hby at_210) rfl ((if0 _ _).trans (teq (by decide : (0 : Int32) = (0 : Int32))).1) (by decide) (by decide) ?_
            refine XS.lconst X454.here hx rfl (hb hby at_217) ?_
            refine XS.ladd X454.here hx rfl (hb hby at_218) rfl ?_
            refine XS.lstore X454.here hx rfl (hb hby at_219) rfl (l' := #[lvJ q0_, .second, lvJ q1_, .second, lvJ q2_, .second, lvJ q3_, .second, lvI p4_, lvI (1 : Int32), lvI (1 : Int32), lvI (0 : Int32), lvI (0 : Int32), lvR w14_, lvR w23_, lvR b31, lvR b40, lvJ (2 : Int64), .second]) rfl ?_
            show own_S p e below m T454 221 #[lvJ q0_, .second, lvJ q1_, .second, lvJ q2_, .second, lvJ q3_, .second, lvI p4_, lvI (1 : Int32), lvI (1 : Int32), lvI (0 : Int32), lvI (0 : Int32), lvR w14_, lvR w23_, lvR b31, lvR b40, lvJ (2 : Int64), .second] [] _
            refine XS.aload X454.here hx rfl (hb hby at_221) rfl rfl ?_
            show own_S p e below m T454 223 #[lvJ q0_, .second, lvJ q1_, .second, lvJ q2_, .second, lvJ q3_, .second, lvI p4_, lvI (1 : Int32), lvI (1 : Int32), lvI (0 : Int32), lvI (0 : Int32), lvR w14_, lvR w23_, lvR b31, lvR b40, lvJ (2 : Int64), .second] [(.ref b31)] _
            refine st465.trans ?_
            refine XS.lload X465.here hx rfl (hb hby at_226) rfl ?_
            refine XS.lcmp X465.here hx rfl (hb hby at_228) rfl ?_
            show own_S p e below m T465 229 #[lvJ q0_, .second, lvJ q1_, .second, lvJ q2_, .second, lvJ q3_, .second, lvI p4_, lvI (1 : Int32), lvI (1 : Int32), lvI (0 : Int32), lvI (0 : Int32), lvR w14_, lvR w23_, lvR b31, lvR b40, lvJ (2 : Int64), .second] [(.int (lcmpW (2 : Int64) (2 : Int64)))] _
            refine XS.ifNo X465.here hx rfl (hb hby at_229) rfl ((if0 _ _).trans (teq ((lw_eq _ _).mpr (by decide : (2 : Int64) = (2 : Int64)))).2) ?_
            refine XS.aload X465.here hx rfl (hb hby at_232) rfl rfl ?_
            show own_S p e below m T465 234 #[lvJ q0_, .second, lvJ q1_, .second, lvJ q2_, .second, lvJ q3_, .second, lvI p4_, lvI (1 : Int32), lvI (1 : Int32), lvI (0 : Int32), lvI (0 : Int32), lvR w14_, lvR w23_, lvR b31, lvR b40, lvJ (2 : Int64), .second] [(.ref b31)] _
            refine st468.trans ?_
            refine XS.iload X468.here hx rfl (hb hby at_237) rfl ?_
            refine XS.lloadN X468.here hx rfl (hb hby at_239) rfl ?_
            refine XS.iload X468.here hx rfl (hb hby at_240) rfl ?_
            show own_S p e below m T468 242 #[lvJ q0_, .second, lvJ q1_, .second, lvJ q2_, .second, lvJ q3_, .second, lvI p4_, lvI (1 : Int32), lvI (1 : Int32), lvI (0 : Int32), lvI (0 : Int32), lvR w14_, lvR w23_, lvR b31, lvR b40, lvJ (2 : Int64), .second] [(.int (0 : Int32)), (.long q0_), (.int (1 : Int32)), (.long (own_max (own_max (-9223372036854775808 : Int64) q0_) (-9223372036854775808 : Int64)))] _
            refine XS.lload X468.here hx rfl (hb hby at_242) rfl ?_
            show own_S p e below m T468 244 #[lvJ q0_, .second, lvJ q1_, .second, lvJ q2_, .second, lvJ q3_, .second, lvI p4_, lvI (1 : Int32), lvI (1 : Int32), lvI (0 : Int32), lvI (0 : Int32), lvR w14_, lvR w23_, lvR b31, lvR b40, lvJ (2 : Int64), .second] [(.long q2_), (.int (0 : Int32)), (.long q0_), (.int (1 : Int32)), (.long (own_max (own_max (-9223372036854775808 : Int64) q0_) (-9223372036854775808 : Int64)))] _
            refine st470 _ ?_
            refine XS.lcmp X470.here hx rfl (hb hby at_247) rfl ?_
            show own_S p e below m T470 248 #[lvJ q0_, .second, lvJ q1_, .second, lvJ q2_, .second, lvJ q3_, .second, lvI p4_, lvI (1 : Int32), lvI (1 : Int32), lvI (0 : Int32), lvI (0 : Int32), lvR w14_, lvR w23_, lvR b31, lvR b40, lvJ (2 : Int64), .second] [(.int (lcmpW (own_max (own_max (-9223372036854775808 : Int64) q0_) (-9223372036854775808 : Int64)) q0_))] _
            refine XS.ifNo X470.here hx rfl (hb hby at_248) rfl ((if0 _ _).trans (teq ((lw_eq _ _).mpr (by simp only [own_minl, own_minr]))).2) ?_
            refine XS.aload X470.here hx rfl (hb hby at_251) rfl rfl ?_
            show own_S p e below m T470 253 #[lvJ q0_, .second, lvJ q1_, .second, lvJ q2_, .second, lvJ q3_, .second, lvI p4_, lvI (1 : Int32), lvI (1 : Int32), lvI (0 : Int32), lvI (0 : Int32), lvR w14_, lvR w23_, lvR b31, lvR b40, lvJ (2 : Int64), .second] [(.ref b31)] _
            refine st472.trans ?_
            refine XS.iload X472.here hx rfl (hb hby at_256) rfl ?_
            refine XS.lloadN X472.here hx rfl (hb hby at_258) rfl ?_
            refine XS.iload X472.here hx rfl (hb hby at_259) rfl ?_
            show own_S p e below m T472 261 #[lvJ q0_, .second, lvJ q1_, .second, lvJ q2_, .second, lvJ q3_, .second, lvI p4_, lvI (1 : Int32), lvI (1 : Int32), lvI (0 : Int32), lvI (0 : Int32), lvR w14_, lvR w23_, lvR b31, lvR b40, lvJ (2 : Int64), .second] [(.int (0 : Int32)), (.long q1_), (.int (1 : Int32)), (.long (own_max (own_max (-9223372036854775808 : Int64) q1_) (-9223372036854775808 : Int64)))] _
            refine XS.lload X472.here hx rfl (hb hby at_261) rfl ?_
            show own_S p e below m T472 263 #[lvJ q0_, .second, lvJ q1_, .second, lvJ q2_, .second, lvJ q3_, .second, lvI p4_, lvI (1 : Int32), lvI (1 : Int32), lvI (0 : Int32), lvI (0 : Int32), lvR w14_, lvR w23_, lvR b31, lvR b40, lvJ (2 : Int64), .second] [(.long q3_), (.int (0 : Int32)), (.long q1_), (.int (1 : Int32)), (.long (own_max (own_max (-9223372036854775808 : Int64) q1_) (-9223372036854775808 : Int64)))] _
            refine st474 _ ?_
            refine XS.lcmp X474.here hx rfl (hb hby at_266) rfl ?_
            show own_S p e below m T474 267 #[lvJ q0_, .second, lvJ q1_, .second, lvJ q2_, .second, lvJ q3_, .second, lvI p4_, lvI (1 : Int32), lvI (1 : Int32), lvI (0 : Int32), lvI (0 : Int32), lvR w14_, lvR w23_, lvR b31, lvR b40, lvJ (2 : Int64), .second] [(.int (lcmpW (own_max (own_max (-9223372036854775808 : Int64) q1_) (-9223372036854775808 : Int64)) q1_))] _
            refine XS.ifNo X474.here hx rfl (hb hby at_267) rfl ((if0 _ _).trans (teq ((lw_eq _ _).mpr (by simp only [own_minl, own_minr]))).2) ?_
            refine XS.iconst X474.here hx rfl (hb hby at_270) ?_
            refine XS.goto X474.here hx rfl (pc0 := 271) (pc' := 275) rfl (hb hby at_271) (by decide) (by decide) ?_
            exact kt
          obtain ⟨fs, hr, hrun, hended, hW, hsame⟩ := X474.leave (v := some (.int (1 : Int32))) (fun h => by rw [Bd.returns] at h; cases h)
          refine ⟨_, _, hG _ (pre476 _ (retN X474 hx (t := .boolean) Bd.returns (by simp) (hb hby at_275) hr)), hrun, hended, _, _, rfl, ?_, ⟨_, rfl⟩, hW, hsame.mono (by decide) (by decide)⟩
          show QLaw Z q0_ q1_ q2_ q3_ p4_ w_PUT w_DELETE_COLUMN w_DELETE_FAMILY h0 n0 _ T474.heap _
          rw [e474']
          exact ⟨rfl, N475⟩
        · have f479 : Exa Z h314 b40 cn0 := g49_0.keep K314
          have f480 : Exa Z h447 b40 cn0 := f479.keep K447
          have f481 : Fld Z h314 b40 cn0 "latestTimestamp" "J" (.long (-9223372036854775808 : Int64)) := g49_1.keep K314 (ninS (Ne.symm ne319) nin0)
          have f482 : Fld Z h447 b40 cn0 "latestTimestamp" "J" (.long (-9223372036854775808 : Int64)) := f481.keep K447 (ninS (Ne.symm ne319) nin0)
          have f483 : Fld Z h314 b40 cn0 "latestDeleteTimestamp" "J" (.long (-9223372036854775808 : Int64)) := g49_2.keep K314 (ninS (Ne.symm ne319) nin0)
          have f484 : Fld Z h447 b40 cn0 "latestDeleteTimestamp" "J" (.long (-9223372036854775808 : Int64)) := f483.keep K447 (ninS (Ne.symm ne319) nin0)
          have f485 : Fld Z h314 b40 cn0 "cells" "J" (.long (0 : Int64)) := g49_3.keep K314 (ninS (Ne.symm ne319) nin0)
          have f486 : Fld Z h447 b40 cn0 "cells" "J" (.long (0 : Int64)) := f485.keep K447 (ninS (Ne.symm ne319) nin0)
          have f487 : Old Z n0 h447 := f448.keep K447 (allS (ge32) all0)
          obtain ⟨cq478, kq478, q478a, q478b, q478c⟩ := isOf hZ e447 f480
          obtain ⟨_, _, ⟨T478, L478, k478, n478⟩, -, X478, ⟨Lc478, hQ478, l478, y478, z478⟩, st478⟩ := X447.virtualBack hx (y := (⟨"com/example/zenodotus/zenodotus/io/RowCodec$Tally", "count", "(Lcom/example/zenodotus/zenodotus/model/Cell$Kind;J)V"⟩ : MethodName)) (z := (⟨"com/example/zenodotus/zenodotus/io/RowCodec$Tally", "count", "(Lcom/example/zenodotus/zenodotus/model/Cell$Kind;J)V"⟩ : MethodName)) hown (mvT hZ (own_w hw 19 rfl)) (mvT hZ (own_w hw 20 rfl)) (notFace_of_selects (args := #[]) (mvT hZ (own_w hw 22 rfl))) (mvT hZ (own_w hw 22 rfl)) (mvT hZ (own_w hw 21 rfl)) (by decide) (backOf (W := 0) (rmcount7 l Z a0 hw [] b40 w23_ q3_ w_PUT h447 n0 f487 f480 f482 f484 f486 E23 ge42 P1 P2 P0 n23_0) hZ (own_w hw 23 rfl) (own_w hw 5 rfl) (by decide) (by decide)) q478a q478c (g := (mkF m 166 #[lvJ q0_, .second, lvJ q1_, .second, lvJ q2_, .second, lvJ q3_, .second, lvI p4_, lvI (1 : Int32), lvI (1 : Int32), lvI (0 : Int32), lvI (1 : Int32), lvR w14_, lvR w23_, lvR b31, lvR b40, .unset, .unset] [(.long q3_), (.ref w23_), (.ref b40)])) rfl (by rw [hml]; rfl) (Steps.refl _) (argsL := [(.ref w23_), (.long q3_)]) (rest := []) (lenOf pd_5 rfl) rfl (by show 2 * 0 + _ ≤ _; exact Nat.le_of_eq rfl) (hb hby at_166) (fun _ _ => ⟨rfl, e447, (by decide : 2 + 0 ≤ _), (by decide : 6 + 0 ≤ _)⟩)
          dsimp only [Pt.U, Pt.locs, Pt.cells, Pt.slots] at X478 l478 y478 z478 st478 hQ478
          subst l478 y478 z478
          obtain ⟨h478, e478⟩ : ∃ z, T478.heap = z := ⟨_, rfl⟩
          rw [e478] at hQ478
          obtain ⟨rfl, N478q, K478, g478_0, g478_1, g478_2, g478_3⟩ := hQ478
          have N488 := Fr.app N449 N478q
          have f490 : Exa Z h478 b31 cn0 := g447_0.keep K478
          have f491 : Fld Z h478 b31 cn0 "latestTimestamp" "J" (.long (own_max (-9223372036854775808 : Int64) q0_)) := g447_1.keep K478 (ninS ne319 nin0)
          have f492 : Fld Z h478 b31 cn0 "latestDeleteTimestamp" "J" (.long (own_max (-9223372036854775808 : Int64) q1_)) := g447_2.keep K478 (ninS ne319 nin0)
          have f493 : Fld Z h478 b31 cn0 "cells" "J" (.long (2 : Int64)) := g447_3.keep K478 (ninS ne319 nin0)
          have f494 : Old Z n0 h478 := f487.keep K478 (allS (ge42) all0)
          obtain ⟨cq489, kq489, q489a, q489b, q489c⟩ := isOf hZ e478 f490
          obtain ⟨_, _, ⟨T489, L489, k489, n489⟩, -, X489, ⟨Lc489, hQ489, l489, y489, z489⟩, st489⟩ := X478.virtualBack hx (y := (⟨"com/example/zenodotus/zenodotus/io/RowCodec$Tally", "add", "(Lcom/example/zenodotus/zenodotus/io/RowCodec$Tally;)V"⟩ : MethodName)) (z := (⟨"com/example/zenodotus/zenodotus/io/RowCodec$Tally", "add", "(Lcom/example/zenodotus/zenodotus/io/RowCodec$Tally;)V"⟩ : MethodName)) hown (mvT hZ (own_w hw 31 rfl)) (mvT hZ (own_w hw 32 rfl)) (notFace_of_selects (args := #[]) (mvT hZ (own_w hw 34 rfl))) (mvT hZ (own_w hw 34 rfl)) (mvT hZ (own_w hw 33 rfl)) (by decide) (backOf (W := 0) (rmadd34 l Z a0 hw [] b31 b40 (own_max (-9223372036854775808 : Int64) q0_) (own_max (-9223372036854775808 : Int64) q1_) (own_max (-9223372036854775808 : Int64) q3_) h478 n0 f494 f490 f491 f492 f493 g478_0 g478_1 g478_2 g478_3 ge32 (Ne.symm ne319)) hZ (own_w hw 35 rfl) (own_w hw 5 rfl) (by decide) (by decide)) q489a q489c (g := (mkF m 173 #[lvJ q0_, .second, lvJ q1_, .second, lvJ q2_, .second, lvJ q3_, .second, lvI p4_, lvI (1 : Int32), lvI (1 : Int32), lvI (0 : Int32), lvI (1 : Int32), lvR w14_, lvR w23_, lvR b31, lvR b40, .unset, .unset] [(.ref b40), (.ref b31)])) rfl (by rw [hml]; rfl) (Steps.refl _) (argsL := [(.ref b40)]) (rest := []) (lenOf pd_2 rfl) rfl (by show 2 * 0 + _ ≤ _; exact Nat.le_of_eq rfl) (hb hby at_173) (fun _ _ => ⟨rfl, e478, (by decide : 2 + 0 ≤ _), (by decide : 6 + 0 ≤ _)⟩)
          dsimp only [Pt.U, Pt.locs, Pt.cells, Pt.slots] at X489 l489 y489 z489 st489 hQ489
          subst l489 y489 z489
          obtain ⟨h489, e489⟩ : ∃ z, T489.heap = z := ⟨_, rfl⟩
          rw [e489] at hQ489
          obtain ⟨rfl, N489q, K489, g489_0, g489_1, g489_2, g489_3⟩ := hQ489
          have N495 := Fr.app N488 N489q
          have f497 : Old Z n0 h489 := f494.keep K489 (allS (ge32) all0)
          obtain ⟨cq496, kq496, q496a, q496b, q496c⟩ := isOf hZ e489 g489_0
          obtain ⟨_, _, ⟨T496, L496, k496, n496⟩, -, X496, ⟨Lc496, hQ496, l496, y496, z496⟩, st496⟩ := X489.virtualBack hx (y := (⟨"com/example/zenodotus/zenodotus/io/RowCodec$Tally", "cells", "()J"⟩ : MethodName)) (z := (⟨"com/example/zenodotus/zenodotus/io/RowCodec$Tally", "cells", "()J"⟩ : MethodName)) hown (mvT hZ (own_w hw 36 rfl)) (mvT hZ (own_w hw 37 rfl)) (notFace_of_selects (args := #[]) (mvT hZ (own_w hw 39 rfl))) (mvT hZ (own_w hw 39 rfl)) (mvT hZ (own_w hw 38 rfl)) (by decide) (backOf (W := 0) (rmcells26 l Z a0 hw [] b31 (own_max (own_max (-9223372036854775808 : Int64) q0_) (-9223372036854775808 : Int64)) (own_max (own_max (-9223372036854775808 : Int64) q1_) (own_max (-9223372036854775808 : Int64) q3_)) h489 n0 f497 g489_0 g489_1 g489_2 g489_3) hZ (own_w hw 40 rfl) (own_w hw 5 rfl) (by decide) (by decide)) q496a q496c (g := (mkF m 223 #[lvJ q0_, .second, lvJ q1_, .second, lvJ q2_, .second, lvJ q3_, .second, lvI p4_, lvI (1 : Int32), lvI (1 : Int32), lvI (0 : Int32), lvI (1 : Int32), lvR w14_, lvR w23_, lvR b31, lvR b40, lvJ (3 : Int64), .second] [(.ref b31)])) rfl (by rw [hml]; rfl) (Steps.refl _) (argsL := []) (rest := []) (lenOf pd_3 rfl) rfl (by show 2 * 0 + _ ≤ _; exact Nat.le_of_eq rfl) (hb hby at_223) (fun _ _ => ⟨rfl, e489, (by decide : 2 + 0 ≤ _), (by decide : 6 + 0 ≤ _)⟩)
          dsimp only [Pt.U, Pt.locs, Pt.cells, Pt.slots] at X496 l496 y496 z496 st496 hQ496
          subst l496 y496 z496
          obtain ⟨h496, e496⟩ : ∃ z, T496.heap = z := ⟨_, rfl⟩
          rw [e496] at hQ496
          obtain ⟨rfl, N496q, hh496⟩ := hQ496
          have N498 := Fr.app N495 N496q
          have e496' : T496.heap = h489 := e496.trans hh496
          obtain ⟨cq499, kq499, q499a, q499b, q499c⟩ := isOf hZ e496' g489_0
          obtain ⟨_, _, ⟨T499, L499, k499, n499⟩, -, X499, ⟨Lc499, hQ499, l499, y499, z499⟩, st499⟩ := X496.virtualBack hx (y := (⟨"com/example/zenodotus/zenodotus/io/RowCodec$Tally", "latestTimestamp", "()J"⟩ : MethodName)) (z := (⟨"com/example/zenodotus/zenodotus/io/RowCodec$Tally", "latestTimestamp", "()J"⟩ : MethodName)) hown (mvT hZ (own_w hw 41 rfl)) (mvT hZ (own_w hw 42 rfl)) (notFace_of_selects (args := #[]) (mvT hZ (own_w hw 44 rfl))) (mvT hZ (own_w hw 44 rfl)) (mvT hZ (own_w hw 43 rfl)) (by decide) (backOf (W := 0) (rmlatestTimestamp27 l Z a0 hw [] b31 (own_max (own_max (-9223372036854775808 : Int64) q0_) (-9223372036854775808 : Int64)) (own_max (own_max (-9223372036854775808 : Int64) q1_) (own_max (-9223372036854775808 : Int64) q3_)) h489 n0 f497 g489_0 g489_1 g489_2 g489_3) hZ (own_w hw 45 rfl) (own_w hw 5 rfl) (by decide) (by decide)) q499a q499c (g := (mkF m 234 #[lvJ q0_, .second, lvJ q1_, .second, lvJ q2_, .second, lvJ q3_, .second, lvI p4_, lvI (1 : Int32), lvI (1 : Int32), lvI (0 : Int32), lvI (1 : Int32), lvR w14_, lvR w23_, lvR b31, lvR b40, lvJ (3 : Int64), .second] [(.ref b31)])) rfl (by rw [hml]; rfl) (Steps.refl _) (argsL := []) (rest := []) (lenOf pd_3 rfl) rfl (by show 2 * 0 + _ ≤ _; exact Nat.le_of_eq rfl) (hb hby at_234) (fun _ _ => ⟨rfl, e496', (by decide : 2 + 0 ≤ _), (by decide : 6 + 0 ≤ _)⟩)
          dsimp only [Pt.U, Pt.locs, Pt.cells, Pt.slots] at X499 l499 y499 z499 st499 hQ499
          subst l499 y499 z499
          obtain ⟨h499, e499⟩ : ∃ z, T499.heap = z := ⟨_, rfl⟩
          rw [e499] at hQ499
          obtain ⟨rfl, N499q, hh499⟩ := hQ499
          have N500 := Fr.app N498 N499q
          have e499' : T499.heap = h489 := e499.trans hh499
          obtain ⟨_, _, ⟨T501, L501, k501, n501⟩, -, X501, ⟨Lc501, hQ501, l501, y501, z501⟩, st501⟩ := Jvm.LawKit.callS X499 hx (y := (⟨"com/example/zenodotus/zenodotus/io/TallyAddPinLaw", "expect", "(ZJZJ)J"⟩ : MethodName)) hown (mvT hZ (own_w hw 46 rfl)) (mvT hZ (own_w hw 47 rfl)) (mvT hZ (own_w hw 48 rfl)) (mvT hZ (own_w hw 49 rfl)) (by decide) (backOf (W := 2) (rmexpect21 l Z a0 hw [] q0_ q2_ h489 n0 f497 ) hZ (own_w hw 49 rfl) (own_w hw 48 rfl) (by decide) (by decide)) (g := (mkF m 244 #[lvJ q0_, .second, lvJ q1_, .second, lvJ q2_, .second, lvJ q3_, .second, lvI p4_, lvI (1 : Int32), lvI (1 : Int32), lvI (0 : Int32), lvI (1 : Int32), lvR w14_, lvR w23_, lvR b31, lvR b40, lvJ (3 : Int64), .second] [(.long q2_), (.int (0 : Int32)), (.long q0_), (.int (1 : Int32)), (.long (own_max (own_max (-9223372036854775808 : Int64) q0_) (-9223372036854775808 : Int64)))])) rfl (by rw [hml]; rfl) (argsL := [(.int (1 : Int32)), (.long q0_), (.int (0 : Int32)), (.long q2_)]) (rest := [(.long (own_max (own_max (-9223372036854775808 : Int64) q0_) (-9223372036854775808 : Int64)))]) (lenOf pd_4 rfl) rfl (by show 2 * 0 + _ ≤ _; exact Nat.le_of_eq rfl) (hb hby at_244) (fun _ _ => ⟨rfl, e499', (by decide : 2 + 0 ≤ _), (by decide : 6 + 0 ≤ _)⟩)
          dsimp only [Pt.U, Pt.locs, Pt.cells, Pt.slots] at X501 l501 y501 z501 st501 hQ501
          subst l501 y501 z501
          obtain ⟨h501, e501⟩ : ∃ z, T501.heap = z := ⟨_, rfl⟩
          rw [e501] at hQ501
          obtain ⟨rfl, N501q, hh501⟩ := hQ501
          have N502 := Fr.app N500 N501q
          have e501' : T501.heap = h489 := e501.trans hh501
          obtain ⟨cq503, kq503, q503a, q503b, q503c⟩ := isOf hZ e501' g489_0
          obtain ⟨_, _, ⟨T503, L503, k503, n503⟩, -, X503, ⟨Lc503, hQ503, l503, y503, z503⟩, st503⟩ := X501.virtualBack hx (y := (⟨"com/example/zenodotus/zenodotus/io/RowCodec$Tally", "latestDeleteTimestamp", "()J"⟩ : MethodName)) (z := (⟨"com/example/zenodotus/zenodotus/io/RowCodec$Tally", "latestDeleteTimestamp", "()J"⟩ : MethodName)) hown (mvT hZ (own_w hw 50 rfl)) (mvT hZ (own_w hw 51 rfl)) (notFace_of_selects (args := #[]) (mvT hZ (own_w hw 53 rfl))) (mvT hZ (own_w hw 53 rfl)) (mvT hZ (own_w hw 52 rfl)) (by decide) (backOf (W := 0) (rmlatestDeleteTimestamp28 l Z a0 hw [] b31 (own_max (own_max (-9223372036854775808 : Int64) q0_) (-9223372036854775808 : Int64)) (own_max (own_max (-9223372036854775808 : Int64) q1_) (own_max (-9223372036854775808 : Int64) q3_)) h489 n0 f497 g489_0 g489_1 g489_2 g489_3) hZ (own_w hw 54 rfl) (own_w hw 5 rfl) (by decide) (by decide)) q503a q503c (g := (mkF m 253 #[lvJ q0_, .second, lvJ q1_, .second, lvJ q2_, .second, lvJ q3_, .second, lvI p4_, lvI (1 : Int32), lvI (1 : Int32), lvI (0 : Int32), lvI (1 : Int32), lvR w14_, lvR w23_, lvR b31, lvR b40, lvJ (3 : Int64), .second] [(.ref b31)])) rfl (by rw [hml]; rfl) (Steps.refl _) (argsL := []) (rest := []) (lenOf pd_3 rfl) rfl (by show 2 * 0 + _ ≤ _; exact Nat.le_of_eq rfl) (hb hby at_253) (fun _ _ => ⟨rfl, e501', (by decide : 2 + 0 ≤ _), (by decide : 6 + 0 ≤ _)⟩)
          dsimp only [Pt.U, Pt.locs, Pt.cells, Pt.slots] at X503 l503 y503 z503 st503 hQ503
          subst l503 y503 z503
          obtain ⟨h503, e503⟩ : ∃ z, T503.heap = z := ⟨_, rfl⟩
          rw [e503] at hQ503
          obtain ⟨rfl, N503q, hh503⟩ := hQ503
          have N504 := Fr.app N502 N503q
          have e503' : T503.heap = h489 := e503.trans hh503
          obtain ⟨_, _, ⟨T505, L505, k505, n505⟩, -, X505, ⟨Lc505, hQ505, l505, y505, z505⟩, st505⟩ := Jvm.LawKit.callS X503 hx (y := (⟨"com/example/zenodotus/zenodotus/io/TallyAddPinLaw", "expect", "(ZJZJ)J"⟩ : MethodName)) hown (mvT hZ (own_w hw 46 rfl)) (mvT hZ (own_w hw 47 rfl)) (mvT hZ (own_w hw 48 rfl)) (mvT hZ (own_w hw 49 rfl)) (by decide) (backOf (W := 2) (rmexpect23 l Z a0 hw [] q1_ q3_ h489 n0 f497 ) hZ (own_w hw 49 rfl) (own_w hw 48 rfl) (by decide) (by decide)) (g := (mkF m 263 #[lvJ q0_, .second, lvJ q1_, .second, lvJ q2_, .second, lvJ q3_, .second, lvI p4_, lvI (1 : Int32), lvI (1 : Int32), lvI (0 : Int32), lvI (1 : Int32), lvR w14_, lvR w23_, lvR b31, lvR b40, lvJ (3 : Int64), .second] [(.long q3_), (.int (1 : Int32)), (.long q1_), (.int (1 : Int32)), (.long (own_max (own_max (-9223372036854775808 : Int64) q1_) (own_max (-9223372036854775808 : Int64) q3_)))])) rfl (by rw [hml]; rfl) (argsL := [(.int (1 : Int32)), (.long q1_), (.int (1 : Int32)), (.long q3_)]) (rest := [(.long (own_max (own_max (-9223372036854775808 : Int64) q1_) (own_max (-9223372036854775808 : Int64) q3_)))]) (lenOf pd_4 rfl) rfl (by show 2 * 0 + _ ≤ _; exact Nat.le_of_eq rfl) (hb hby at_263) (fun _ _ => ⟨rfl, e503', (by decide : 2 + 0 ≤ _), (by decide : 6 + 0 ≤ _)⟩)
          dsimp only [Pt.U, Pt.locs, Pt.cells, Pt.slots] at X505 l505 y505 z505 st505 hQ505
          subst l505 y505 z505
          obtain ⟨h505, e505⟩ : ∃ z, T505.heap = z := ⟨_, rfl⟩
          rw [e505] at hQ505
          obtain ⟨rr505, rfl, hs505, N505q, hh505⟩ := hQ505
          have N506 := Fr.app N504 N505q
          have e505' : T505.heap = h489 := e505.trans hh505
          rcases hs505 with ⟨rfl, hq505_0_0⟩ | ⟨rfl, hq505_1_0⟩
          · have pre507 : ∀ t, own_S p e below m T505 275 #[lvJ q0_, .second, lvJ q1_, .second, lvJ q2_, .second, lvJ q3_, .second, lvI p4_, lvI (1 : Int32), lvI (1 : Int32), lvI (0 : Int32), lvI (1 : Int32), lvR w14_, lvR w23_, lvR b31, lvR b40, lvJ (3 : Int64), .second] [(.int (1 : Int32))] t → G t := by
              intro t kt
              refine pre452 t ?_
              show own_S p e below m T447 157 #[lvJ q0_, .second, lvJ q1_, .second, lvJ q2_, .second, lvJ q3_, .second, lvI p4_, lvI (1 : Int32), lvI (1 : Int32), lvI (0 : Int32), lvI (1 : Int32), lvR w14_, lvR w23_, lvR b31, lvR b40, .unset, .unset] [(.int (1 : Int32))] _
              refine XS.ifNo X447.here hx rfl (hb hby at_157) rfl ((if0 _ _).trans (feq (by decide : ¬ ((1 : Int32) = (0 : Int32)))).1) ?_
              refine XS.aload X447.here hx rfl (hb hby at_160) rfl rfl ?_
              refine XS.aload X447.here hx rfl (hb hby at_162) rfl rfl ?_
              refine XS.lload X447.here hx rfl (hb hby at_164) rfl ?_
              show own_S p e below m T447 166 #[lvJ q0_, .second, lvJ q1_, .second, lvJ q2_, .second, lvJ q3_, .second, lvI p4_, lvI (1 : Int32), lvI (1 : Int32), lvI (0 : Int32), lvI (1 : Int32), lvR w14_, lvR w23_, lvR b31, lvR b40, .unset, .unset] [(.long q3_), (.ref w23_), (.ref b40)] _
              refine st478.trans ?_
              refine XS.aload X478.here hx rfl (hb hby at_169) rfl rfl ?_
              refine XS.aload X478.here hx rfl (hb hby at_171) rfl rfl ?_
              show own_S p e below m T478 173 #[lvJ q0_, .second, lvJ q1_, .second, lvJ q2_, .second, lvJ q3_, .second, lvI p4_, lvI (1 : Int32), lvI (1 : Int32), lvI (0 : Int32), lvI (1 : Int32), lvR w14_, lvR w23_, lvR b31, lvR b40, .unset, .unset] [(.ref b40), (.ref b31)] _
              refine st489.trans ?_
              refine XS.iload X489.here hx rfl (hb hby at_176) rfl ?_
              show own_S p e below m T489 178 #[lvJ q0_, .second, lvJ q1_, .second, lvJ q2_, .second, lvJ q3_, .second, lvI p4_, lvI (1 : Int32), lvI (1 : Int32), lvI (0 : Int32), lvI (1 : Int32), lvR w14_, lvR w23_, lvR b31, lvR b40, .unset, .unset] [(.int (1 : Int32))] _
              refine XS.ifNo X489.here hx rfl (hb hby at_178) rfl ((if0 _ _).trans (feq (by decide : ¬ ((1 : Int32) = (0 : Int32)))).1) ?_
              refine XS.lconst X489.here hx rfl (hb hby at_181) ?_
              refine XS.goto X489.here hx rfl (pc0 := 182) (pc' := 186) rfl (hb hby at_182) (by decide) (by decide) ?_
              refine XS.iload X489.here hx rfl (hb hby at_186) rfl ?_
              show own_S p e below m T489 188 #[lvJ q0_, .second, lvJ q1_, .second, lvJ q2_, .second, lvJ q3_, .second, lvI p4_, lvI (1 : Int32), lvI (1 : Int32), lvI (0 : Int32), lvI (1 : Int32), lvR w14_, lvR w23_, lvR b31, lvR b40, .unset, .unset] [(.int (1 : Int32)), (.long (1 : Int64))] _
              refine XS.ifNo X489.here hx rfl (hb hby at_188) rfl ((if0 _ _).trans (feq (by decide : ¬ ((1 : Int32) = (0 : Int32)))).1) ?_
              refine XS.lconst X489.here hx rfl (hb hby at_191) ?_
              refine XS.goto X489.here hx rfl (pc0 := 192) (pc' := 196) rfl (hb hby at_192) (by decide) (by decide) ?_
              refine XS.ladd X489.here hx rfl (hb hby at_196) rfl ?_
              show own_S p e below m T489 197 #[lvJ q0_, .second, lvJ q1_, .second, lvJ q2_, .second, lvJ q3_, .second, lvI p4_, lvI (1 : Int32), lvI (1 : Int32), lvI (0 : Int32), lvI (1 : Int32), lvR w14_, lvR w23_, lvR b31, lvR b40, .unset, .unset] [(.long (2 : Int64))] _
              refine XS.iload X489.here hx rfl (hb hby at_197) rfl ?_
              show own_S p e below m T489 199 #[lvJ q0_, .second, lvJ q1_, .second, lvJ q2_, .second, lvJ q3_, .second, lvI p4_, lvI (1 : Int32), lvI (1 : Int32), lvI (0 : Int32), lvI (1 : Int32), lvR w14_, lvR w23_, lvR b31, lvR b40, .unset, .unset] [(.int (0 : Int32)), (.long (2 : Int64))] _
              refine XS.ifYes X489.here hx rfl (pc0 := 199) (pc' := 206) rfl (hb hby at_199) rfl ((if0 _ _).trans (teq (by decide : (0 : Int32) = (0 : Int32))).1) (by decide) (by decide) ?_
              refine XS.lconst X489.here hx rfl (hb hby at_206) ?_
              refine XS.ladd X489.here hx rfl (hb hby at_207) rfl ?_
              refine XS.iload X489.here hx rfl (hb hby at_208) rfl ?_
              show own_S p e below m T489 210 #[lvJ q0_, .second, lvJ q1_, .second, lvJ q2_, .second, lvJ q3_, .second, lvI p4_, lvI (1 : Int32), lvI (1 : Int32), lvI (0 : Int32), lvI (1 : Int32), lvR w14_, lvR w23_, lvR b31, lvR b40, .unset, .unset] [(.int (1 : Int32)), (.long (2 : Int64))] _
              refine XS.ifNo X489.here hx rfl (hb hby at_210) rfl ((if0 _ _).trans (feq (by decide : ¬ ((1 : Int32) = (0 : Int32)))).1) ?_
              refine XS.lconst X489.here hx rfl (hb hby at_213) ?_
              refine XS.goto X489.here hx rfl (pc0 := 214) (pc' := 218) rfl (hb hby at_214) (by decide) (by decide) ?_
              refine XS.ladd X489.here hx rfl (hb hby at_218) rfl ?_
              show own_S p e below m T489 219 #[lvJ q0_, .second, lvJ q1_, .second, lvJ q2_, .second, lvJ q3_, .second, lvI p4_, lvI (1 : Int32), lvI (1 : Int32), lvI (0 : Int32), lvI (1 : Int32), lvR w14_, lvR w23_, lvR b31, lvR b40, .unset, .unset] [(.long (3 : Int64))] _
              refine XS.lstore X489.here hx rfl (hb hby at_219) rfl (l' := #[lvJ q0_, .second, lvJ q1_, .second, lvJ q2_, .second, lvJ q3_, .second, lvI p4_, lvI (1 : Int32), lvI (1 : Int32), lvI (0 : Int32), lvI (1 : Int32), lvR w14_, lvR w23_, lvR b31, lvR b40, lvJ (3 : Int64), .second]) rfl ?_
              refine XS.aload X489.here hx rfl (hb hby at_221) rfl rfl ?_
              show own_S p e below m T489 223 #[lvJ q0_, .second, lvJ q1_, .second, lvJ q2_, .second, lvJ q3_, .second, lvI p4_, lvI (1 : Int32), lvI (1 : Int32), lvI (0 : Int32), lvI (1 : Int32), lvR w14_, lvR w23_, lvR b31, lvR b40, lvJ (3 : Int64), .second] [(.ref b31)] _
              refine st496.trans ?_
              refine XS.lload X496.here hx rfl (hb hby at_226) rfl ?_
              refine XS.lcmp X496.here hx rfl (hb hby at_228) rfl ?_
              show own_S p e below m T496 229 #[lvJ q0_, .second, lvJ q1_, .second, lvJ q2_, .second, lvJ q3_, .second, lvI p4_, lvI (1 : Int32), lvI (1 : Int32), lvI (0 : Int32), lvI (1 : Int32), lvR w14_, lvR w23_, lvR b31, lvR b40, lvJ (3 : Int64), .second] [(.int (lcmpW (3 : Int64) (3 : Int64)))] _
              refine XS.ifNo X496.here hx rfl (hb hby at_229) rfl ((if0 _ _).trans (teq ((lw_eq _ _).mpr (by decide : (3 : Int64) = (3 : Int64)))).2) ?_
              refine XS.aload X496.here hx rfl (hb hby at_232) rfl rfl ?_
              show own_S p e below m T496 234 #[lvJ q0_, .second, lvJ q1_, .second, lvJ q2_, .second, lvJ q3_, .second, lvI p4_, lvI (1 : Int32), lvI (1 : Int32), lvI (0 : Int32), lvI (1 : Int32), lvR w14_, lvR w23_, lvR b31, lvR b40, lvJ (3 : Int64), .second] [(.ref b31)] _
              refine st499.trans ?_
              refine XS.iload X499.here hx rfl (hb hby at_237) rfl ?_
              refine XS.lloadN X499.here hx rfl (hb hby at_239) rfl ?_
              refine XS.iload X499.here hx rfl (hb hby at_240) rfl ?_
              show own_S p e below m T499 242 #[lvJ q0_, .second, lvJ q1_, .second, lvJ q2_, .second, lvJ q3_, .second, lvI p4_, lvI (1 : Int32), lvI (1 : Int32), lvI (0 : Int32), lvI (1 : Int32), lvR w14_, lvR w23_, lvR b31, lvR b40, lvJ (3 : Int64), .second] [(.int (0 : Int32)), (.long q0_), (.int (1 : Int32)), (.long (own_max (own_max (-9223372036854775808 : Int64) q0_) (-9223372036854775808 : Int64)))] _
              refine XS.lload X499.here hx rfl (hb hby at_242) rfl ?_
              show own_S p e below m T499 244 #[lvJ q0_, .second, lvJ q1_, .second, lvJ q2_, .second, lvJ q3_, .second, lvI p4_, lvI (1 : Int32), lvI (1 : Int32), lvI (0 : Int32), lvI (1 : Int32), lvR w14_, lvR w23_, lvR b31, lvR b40, lvJ (3 : Int64), .second] [(.long q2_), (.int (0 : Int32)), (.long q0_), (.int (1 : Int32)), (.long (own_max (own_max (-9223372036854775808 : Int64) q0_) (-9223372036854775808 : Int64)))] _
              refine st501 _ ?_
              refine XS.lcmp X501.here hx rfl (hb hby at_247) rfl ?_
              show own_S p e below m T501 248 #[lvJ q0_, .second, lvJ q1_, .second, lvJ q2_, .second, lvJ q3_, .second, lvI p4_, lvI (1 : Int32), lvI (1 : Int32), lvI (0 : Int32), lvI (1 : Int32), lvR w14_, lvR w23_, lvR b31, lvR b40, lvJ (3 : Int64), .second] [(.int (lcmpW (own_max (own_max (-9223372036854775808 : Int64) q0_) (-9223372036854775808 : Int64)) q0_))] _
              refine XS.ifNo X501.here hx rfl (hb hby at_248) rfl ((if0 _ _).trans (teq ((lw_eq _ _).mpr (by simp only [own_minl, own_minr]))).2) ?_
              refine XS.aload X501.here hx rfl (hb hby at_251) rfl rfl ?_
              show own_S p e below m T501 253 #[lvJ q0_, .second, lvJ q1_, .second, lvJ q2_, .second, lvJ q3_, .second, lvI p4_, lvI (1 : Int32), lvI (1 : Int32), lvI (0 : Int32), lvI (1 : Int32), lvR w14_, lvR w23_, lvR b31, lvR b40, lvJ (3 : Int64), .second] [(.ref b31)] _
              refine st503.trans ?_
              refine XS.iload X503.here hx rfl (hb hby at_256) rfl ?_
              refine XS.lloadN X503.here hx rfl (hb hby at_258) rfl ?_
              refine XS.iload X503.here hx rfl (hb hby at_259) rfl ?_
              show own_S p e below m T503 261 #[lvJ q0_, .second, lvJ q1_, .second, lvJ q2_, .second, lvJ q3_, .second, lvI p4_, lvI (1 : Int32), lvI (1 : Int32), lvI (0 : Int32), lvI (1 : Int32), lvR w14_, lvR w23_, lvR b31, lvR b40, lvJ (3 : Int64), .second] [(.int (1 : Int32)), (.long q1_), (.int (1 : Int32)), (.long (own_max (own_max (-9223372036854775808 : Int64) q1_) (own_max (-9223372036854775808 : Int64) q3_)))] _
              refine XS.lload X503.here hx rfl (hb hby at_261) rfl ?_
              show own_S p e below m T503 263 #[lvJ q0_, .second, lvJ q1_, .second, lvJ q2_, .second, lvJ q3_, .second, lvI p4_, lvI (1 : Int32), lvI (1 : Int32), lvI (0 : Int32), lvI (1 : Int32), lvR w14_, lvR w23_, lvR b31, lvR b40, lvJ (3 : Int64), .second] [(.long q3_), (.int (1 : Int32)), (.long q1_), (.int (1 : Int32)), (.long (own_max (own_max (-9223372036854775808 : Int64) q1_) (own_max (-9223372036854775808 : Int64) q3_)))] _
              refine st505 _ ?_
              refine XS.lcmp X505.here hx rfl (hb hby at_266) rfl ?_
              show own_S p e below m T505 267 #[lvJ q0_, .second, lvJ q1_, .second, lvJ q2_, .second, lvJ q3_, .second, lvI p4_, lvI (1 : Int32), lvI (1 : Int32), lvI (0 : Int32), lvI (1 : Int32), lvR w14_, lvR w23_, lvR b31, lvR b40, lvJ (3 : Int64), .second] [(.int (lcmpW (own_max (own_max (-9223372036854775808 : Int64) q1_) (own_max (-9223372036854775808 : Int64) q3_)) q1_))] _
              refine XS.ifNo X505.here hx rfl (hb hby at_267) rfl ((if0 _ _).trans (teq ((lw_eq _ _).mpr (by simp only [own_minl, own_minr] <;> first | (rfl) | (exact own_ml hq505_0_0)))).2) ?_
              refine XS.iconst X505.here hx rfl (hb hby at_270) ?_
              refine XS.goto X505.here hx rfl (pc0 := 271) (pc' := 275) rfl (hb hby at_271) (by decide) (by decide) ?_
              exact kt
            obtain ⟨fs, hr, hrun, hended, hW, hsame⟩ := X505.leave (v := some (.int (1 : Int32))) (fun h => by rw [Bd.returns] at h; cases h)
            refine ⟨_, _, hG _ (pre507 _ (retN X505 hx (t := .boolean) Bd.returns (by simp) (hb hby at_275) hr)), hrun, hended, _, _, rfl, ?_, ⟨_, rfl⟩, hW, hsame.mono (by decide) (by decide)⟩
            show QLaw Z q0_ q1_ q2_ q3_ p4_ w_PUT w_DELETE_COLUMN w_DELETE_FAMILY h0 n0 _ T505.heap _
            rw [e505']
            exact ⟨rfl, N506⟩
          · have pre509 : ∀ t, own_S p e below m T505 275 #[lvJ q0_, .second, lvJ q1_, .second, lvJ q2_, .second, lvJ q3_, .second, lvI p4_, lvI (1 : Int32), lvI (1 : Int32), lvI (0 : Int32), lvI (1 : Int32), lvR w14_, lvR w23_, lvR b31, lvR b40, lvJ (3 : Int64), .second] [(.int (1 : Int32))] t → G t := by
              intro t kt
              refine pre452 t ?_
              show own_S p e below m T447 157 #[lvJ q0_, .second, lvJ q1_, .second, lvJ q2_, .second, lvJ q3_, .second, lvI p4_, lvI (1 : Int32), lvI (1 : Int32), lvI (0 : Int32), lvI (1 : Int32), lvR w14_, lvR w23_, lvR b31, lvR b40, .unset, .unset] [(.int (1 : Int32))] _
              refine XS.ifNo X447.here hx rfl (hb hby at_157) rfl ((if0 _ _).trans (feq (by decide : ¬ ((1 : Int32) = (0 : Int32)))).1) ?_
              refine XS.aload X447.here hx rfl (hb hby at_160) rfl rfl ?_
              refine XS.aload X447.here hx rfl (hb hby at_162) rfl rfl ?_
              refine XS.lload X447.here hx rfl (hb hby at_164) rfl ?_
              show own_S p e below m T447 166 #[lvJ q0_, .second, lvJ q1_, .second, lvJ q2_, .second, lvJ q3_, .second, lvI p4_, lvI (1 : Int32), lvI (1 : Int32), lvI (0 : Int32), lvI (1 : Int32), lvR w14_, lvR w23_, lvR b31, lvR b40, .unset, .unset] [(.long q3_), (.ref w23_), (.ref b40)] _
              refine st478.trans ?_
              refine XS.aload X478.here hx rfl (hb hby at_169) rfl rfl ?_
              refine XS.aload X478.here hx rfl (hb hby at_171) rfl rfl ?_
              show own_S p e below m T478 173 #[lvJ q0_, .second, lvJ q1_, .second, lvJ q2_, .second, lvJ q3_, .second, lvI p4_, lvI (1 : Int32), lvI (1 : Int32), lvI (0 : Int32), lvI (1 : Int32), lvR w14_, lvR w23_, lvR b31, lvR b40, .unset, .unset] [(.ref b40), (.ref b31)] _
              refine st489.trans ?_
              refine XS.iload X489.here hx rfl (hb hby at_176) rfl ?_
              show own_S p e below m T489 178 #[lvJ q0_, .second, lvJ q1_, .second, lvJ q2_, .second, lvJ q3_, .second, lvI p4_, lvI (1 : Int32), lvI (1 : Int32), lvI (0 : Int32), lvI (1 : Int32), lvR w14_, lvR w23_, lvR b31, lvR b40, .unset, .unset] [(.int (1 : Int32))] _
              refine XS.ifNo X489.here hx rfl (hb hby at_178) rfl ((if0 _ _).trans (feq (by decide : ¬ ((1 : Int32) = (0 : Int32)))).1) ?_
              refine XS.lconst X489.here hx rfl (hb hby at_181) ?_
              refine XS.goto X489.here hx rfl (pc0 := 182) (pc' := 186) rfl (hb hby at_182) (by decide) (by decide) ?_
              refine XS.iload X489.here hx rfl (hb hby at_186) rfl ?_
              show own_S p e below m T489 188 #[lvJ q0_, .second, lvJ q1_, .second, lvJ q2_, .second, lvJ q3_, .second, lvI p4_, lvI (1 : Int32), lvI (1 : Int32), lvI (0 : Int32), lvI (1 : Int32), lvR w14_, lvR w23_, lvR b31, lvR b40, .unset, .unset] [(.int (1 : Int32)), (.long (1 : Int64))] _
              refine XS.ifNo X489.here hx rfl (hb hby at_188) rfl ((if0 _ _).trans (feq (by decide : ¬ ((1 : Int32) = (0 : Int32)))).1) ?_
              refine XS.lconst X489.here hx rfl (hb hby at_191) ?_
              refine XS.goto X489.here hx rfl (pc0 := 192) (pc' := 196) rfl (hb hby at_192) (by decide) (by decide) ?_
              refine XS.ladd X489.here hx rfl (hb hby at_196) rfl ?_
              show own_S p e below m T489 197 #[lvJ q0_, .second, lvJ q1_, .second, lvJ q2_, .second, lvJ q3_, .second, lvI p4_, lvI (1 : Int32), lvI (1 : Int32), lvI (0 : Int32), lvI (1 : Int32), lvR w14_, lvR w23_, lvR b31, lvR b40, .unset, .unset] [(.long (2 : Int64))] _
              refine XS.iload X489.here hx rfl (hb hby at_197) rfl ?_
              show own_S p e below m T489 199 #[lvJ q0_, .second, lvJ q1_, .second, lvJ q2_, .second, lvJ q3_, .second, lvI p4_, lvI (1 : Int32), lvI (1 : Int32), lvI (0 : Int32), lvI (1 : Int32), lvR w14_, lvR w23_, lvR b31, lvR b40, .unset, .unset] [(.int (0 : Int32)), (.long (2 : Int64))] _
              refine XS.ifYes X489.here hx rfl (pc0 := 199) (pc' := 206) rfl (hb hby at_199) rfl ((if0 _ _).trans (teq (by decide : (0 : Int32) = (0 : Int32))).1) (by decide) (by decide) ?_
              refine XS.lconst X489.here hx rfl (hb hby at_206) ?_
              refine XS.ladd X489.here hx rfl (hb hby at_207) rfl ?_
              refine XS.iload X489.here hx rfl (hb hby at_208) rfl ?_
              show own_S p e below m T489 210 #[lvJ q0_, .second, lvJ q1_, .second, lvJ q2_, .second, lvJ q3_, .second, lvI p4_, lvI (1 : Int32), lvI (1 : Int32), lvI (0 : Int32), lvI (1 : Int32), lvR w14_, lvR w23_, lvR b31, lvR b40, .unset, .unset] [(.int (1 : Int32)), (.long (2 : Int64))] _
              refine XS.ifNo X489.here hx rfl (hb hby at_210) rfl ((if0 _ _).trans (feq (by decide : ¬ ((1 : Int32) = (0 : Int32)))).1) ?_
              refine XS.lconst X489.here hx rfl (hb hby at_213) ?_
              refine XS.goto X489.here hx rfl (pc0 := 214) (pc' := 218) rfl (hb hby at_214) (by decide) (by decide) ?_
              refine XS.ladd X489.here hx rfl (hb hby at_218) rfl ?_
              show own_S p e below m T489 219 #[lvJ q0_, .second, lvJ q1_, .second, lvJ q2_, .second, lvJ q3_, .second, lvI p4_, lvI (1 : Int32), lvI (1 : Int32), lvI (0 : Int32), lvI (1 : Int32), lvR w14_, lvR w23_, lvR b31, lvR b40, .unset, .unset] [(.long (3 : Int64))] _
              refine XS.lstore X489.here hx rfl (hb hby at_219) rfl (l' := #[lvJ q0_, .second, lvJ q1_, .second, lvJ q2_, .second, lvJ q3_, .second, lvI p4_, lvI (1 : Int32), lvI (1 : Int32), lvI (0 : Int32), lvI (1 : Int32), lvR w14_, lvR w23_, lvR b31, lvR b40, lvJ (3 : Int64), .second]) rfl ?_
              refine XS.aload X489.here hx rfl (hb hby at_221) rfl rfl ?_
              show own_S p e below m T489 223 #[lvJ q0_, .second, lvJ q1_, .second, lvJ q2_, .second, lvJ q3_, .second, lvI p4_, lvI (1 : Int32), lvI (1 : Int32), lvI (0 : Int32), lvI (1 : Int32), lvR w14_, lvR w23_, lvR b31, lvR b40, lvJ (3 : Int64), .second] [(.ref b31)] _
              refine st496.trans ?_
              refine XS.lload X496.here hx rfl (hb hby at_226) rfl ?_
              refine XS.lcmp X496.here hx rfl (hb hby at_228) rfl ?_
              show own_S p e below m T496 229 #[lvJ q0_, .second, lvJ q1_, .second, lvJ q2_, .second, lvJ q3_, .second, lvI p4_, lvI (1 : Int32), lvI (1 : Int32), lvI (0 : Int32), lvI (1 : Int32), lvR w14_, lvR w23_, lvR b31, lvR b40, lvJ (3 : Int64), .second] [(.int (lcmpW (3 : Int64) (3 : Int64)))] _
              refine XS.ifNo X496.here hx rfl (hb hby at_229) rfl ((if0 _ _).trans (teq ((lw_eq _ _).mpr (by decide : (3 : Int64) = (3 : Int64)))).2) ?_
              refine XS.aload X496.here hx rfl (hb hby at_232) rfl rfl ?_
              show own_S p e below m T496 234 #[lvJ q0_, .second, lvJ q1_, .second, lvJ q2_, .second, lvJ q3_, .second, lvI p4_, lvI (1 : Int32), lvI (1 : Int32), lvI (0 : Int32), lvI (1 : Int32), lvR w14_, lvR w23_, lvR b31, lvR b40, lvJ (3 : Int64), .second] [(.ref b31)] _
              refine st499.trans ?_
              refine XS.iload X499.here hx rfl (hb hby at_237) rfl ?_
              refine XS.lloadN X499.here hx rfl (hb hby at_239) rfl ?_
              refine XS.iload X499.here hx rfl (hb hby at_240) rfl ?_
              show own_S p e below m T499 242 #[lvJ q0_, .second, lvJ q1_, .second, lvJ q2_, .second, lvJ q3_, .second, lvI p4_, lvI (1 : Int32), lvI (1 : Int32), lvI (0 : Int32), lvI (1 : Int32), lvR w14_, lvR w23_, lvR b31, lvR b40, lvJ (3 : Int64), .second] [(.int (0 : Int32)), (.long q0_), (.int (1 : Int32)), (.long (own_max (own_max (-9223372036854775808 : Int64) q0_) (-9223372036854775808 : Int64)))] _
              refine XS.lload X499.here hx rfl (hb hby at_242) rfl ?_
              show own_S p e below m T499 244 #[lvJ q0_, .second, lvJ q1_, .second, lvJ q2_, .second, lvJ q3_, .second, lvI p4_, lvI (1 : Int32), lvI (1 : Int32), lvI (0 : Int32), lvI (1 : Int32), lvR w14_, lvR w23_, lvR b31, lvR b40, lvJ (3 : Int64), .second] [(.long q2_), (.int (0 : Int32)), (.long q0_), (.int (1 : Int32)), (.long (own_max (own_max (-9223372036854775808 : Int64) q0_) (-9223372036854775808 : Int64)))] _
              refine st501 _ ?_
              refine XS.lcmp X501.here hx rfl (hb hby at_247) rfl ?_
              show own_S p e below m T501 248 #[lvJ q0_, .second, lvJ q1_, .second, lvJ q2_, .second, lvJ q3_, .second, lvI p4_, lvI (1 : Int32), lvI (1 : Int32), lvI (0 : Int32), lvI (1 : Int32), lvR w14_, lvR w23_, lvR b31, lvR b40, lvJ (3 : Int64), .second] [(.int (lcmpW (own_max (own_max (-9223372036854775808 : Int64) q0_) (-9223372036854775808 : Int64)) q0_))] _
              refine XS.ifNo X501.here hx rfl (hb hby at_248) rfl ((if0 _ _).trans (teq ((lw_eq _ _).mpr (by simp only [own_minl, own_minr]))).2) ?_
              refine XS.aload X501.here hx rfl (hb hby at_251) rfl rfl ?_
              show own_S p e below m T501 253 #[lvJ q0_, .second, lvJ q1_, .second, lvJ q2_, .second, lvJ q3_, .second, lvI p4_, lvI (1 : Int32), lvI (1 : Int32), lvI (0 : Int32), lvI (1 : Int32), lvR w14_, lvR w23_, lvR b31, lvR b40, lvJ (3 : Int64), .second] [(.ref b31)] _
              refine st503.trans ?_
              refine XS.iload X503.here hx rfl (hb hby at_256) rfl ?_
              refine XS.lloadN X503.here hx rfl (hb hby at_258) rfl ?_
              refine XS.iload X503.here hx rfl (hb hby at_259) rfl ?_
              show own_S p e below m T503 261 #[lvJ q0_, .second, lvJ q1_, .second, lvJ q2_, .second, lvJ q3_, .second, lvI p4_, lvI (1 : Int32), lvI (1 : Int32), lvI (0 : Int32), lvI (1 : Int32), lvR w14_, lvR w23_, lvR b31, lvR b40, lvJ (3 : Int64), .second] [(.int (1 : Int32)), (.long q1_), (.int (1 : Int32)), (.long (own_max (own_max (-9223372036854775808 : Int64) q1_) (own_max (-9223372036854775808 : Int64) q3_)))] _
              refine XS.lload X503.here hx rfl (hb hby at_261) rfl ?_
              show own_S p e below m T503 263 #[lvJ q0_, .second, lvJ q1_, .second, lvJ q2_, .second, lvJ q3_, .second, lvI p4_, lvI (1 : Int32), lvI (1 : Int32), lvI (0 : Int32), lvI (1 : Int32), lvR w14_, lvR w23_, lvR b31, lvR b40, lvJ (3 : Int64), .second] [(.long q3_), (.int (1 : Int32)), (.long q1_), (.int (1 : Int32)), (.long (own_max (own_max (-9223372036854775808 : Int64) q1_) (own_max (-9223372036854775808 : Int64) q3_)))] _
              refine st505 _ ?_
              refine XS.lcmp X505.here hx rfl (hb hby at_266) rfl ?_
              show own_S p e below m T505 267 #[lvJ q0_, .second, lvJ q1_, .second, lvJ q2_, .second, lvJ q3_, .second, lvI p4_, lvI (1 : Int32), lvI (1 : Int32), lvI (0 : Int32), lvI (1 : Int32), lvR w14_, lvR w23_, lvR b31, lvR b40, lvJ (3 : Int64), .second] [(.int (lcmpW (own_max (own_max (-9223372036854775808 : Int64) q1_) (own_max (-9223372036854775808 : Int64) q3_)) q3_))] _
              refine XS.ifNo X505.here hx rfl (hb hby at_267) rfl ((if0 _ _).trans (teq ((lw_eq _ _).mpr (by simp only [own_minl, own_minr] <;> first | (rfl) | (exact own_mr hq505_1_0)))).2) ?_
              refine XS.iconst X505.here hx rfl (hb hby at_270) ?_
              refine XS.goto X505.here hx rfl (pc0 := 271) (pc' := 275) rfl (hb hby at_271) (by decide) (by decide) ?_
              exact kt
            obtain ⟨fs, hr, hrun, hended, hW, hsame⟩ := X505.leave (v := some (.int (1 : Int32))) (fun h => by rw [Bd.returns] at h; cases h)
            refine ⟨_, _, hG _ (pre509 _ (retN X505 hx (t := .boolean) Bd.returns (by simp) (hb hby at_275) hr)), hrun, hended, _, _, rfl, ?_, ⟨_, rfl⟩, hW, hsame.mono (by decide) (by decide)⟩
            show QLaw Z q0_ q1_ q2_ q3_ p4_ w_PUT w_DELETE_COLUMN w_DELETE_FAMILY h0 n0 _ T505.heap _
            rw [e505']
            exact ⟨rfl, N506⟩
      · have f511 : Old Z n0 h447 := f448.keep K447 (allS (ge32) all0)
        obtain ⟨T512, X512, e512, st512⟩ := getS2 X447 hx hZ hown (host := "") (Or.inl (own_w hw 17 rfl)) Via.refl e447 (P0.ext f511.2) (g := (mkF m 147 #[lvJ q0_, .second, lvJ q1_, .second, lvJ q2_, .second, lvJ q3_, .second, lvI p4_, lvI (1 : Int32), lvI (1 : Int32), lvI (1 : Int32), lvI z11, lvR w14_, lvR w23_, lvR b31, lvR b40, .unset, .unset] [(.ref b40)])) rfl (hb hby at_147)
        have f514 : Exa Z h314 b40 cn0 := g49_0.keep K314
        have f515 : Exa Z h447 b40 cn0 := f514.keep K447
        have f516 : Fld Z h314 b40 cn0 "latestTimestamp" "J" (.long (-9223372036854775808 : Int64)) := g49_1.keep K314 (ninS (Ne.symm ne319) nin0)
        have f517 : Fld Z h447 b40 cn0 "latestTimestamp" "J" (.long (-9223372036854775808 : Int64)) := f516.keep K447 (ninS (Ne.symm ne319) nin0)
        have f518 : Fld Z h314 b40 cn0 "latestDeleteTimestamp" "J" (.long (-9223372036854775808 : Int64)) := g49_2.keep K314 (ninS (Ne.symm ne319) nin0)
        have f519 : Fld Z h447 b40 cn0 "latestDeleteTimestamp" "J" (.long (-9223372036854775808 : Int64)) := f518.keep K447 (ninS (Ne.symm ne319) nin0)
        have f520 : Fld Z h314 b40 cn0 "cells" "J" (.long (0 : Int64)) := g49_3.keep K314 (ninS (Ne.symm ne319) nin0)
        have f521 : Fld Z h447 b40 cn0 "cells" "J" (.long (0 : Int64)) := f520.keep K447 (ninS (Ne.symm ne319) nin0)
        obtain ⟨cq513, kq513, q513a, q513b, q513c⟩ := isOf hZ e512 f515
        obtain ⟨_, _, ⟨T513, L513, k513, n513⟩, -, X513, ⟨Lc513, hQ513, l513, y513, z513⟩, st513⟩ := X512.virtualBack hx (y := (⟨"com/example/zenodotus/zenodotus/io/RowCodec$Tally", "count", "(Lcom/example/zenodotus/zenodotus/model/Cell$Kind;J)V"⟩ : MethodName)) (z := (⟨"com/example/zenodotus/zenodotus/io/RowCodec$Tally", "count", "(Lcom/example/zenodotus/zenodotus/model/Cell$Kind;J)V"⟩ : MethodName)) hown (mvT hZ (own_w hw 19 rfl)) (mvT hZ (own_w hw 20 rfl)) (notFace_of_selects (args := #[]) (mvT hZ (own_w hw 22 rfl))) (mvT hZ (own_w hw 22 rfl)) (mvT hZ (own_w hw 21 rfl)) (by decide) (backOf (W := 0) (rmcount13 l Z a0 hw [] b40 w_PUT q2_ h447 n0 f511 f515 f517 f519 f521 P1 P2 ge42 P0) hZ (own_w hw 23 rfl) (own_w hw 5 rfl) (by decide) (by decide)) q513a q513c (g := (mkF m 152 #[lvJ q0_, .second, lvJ q1_, .second, lvJ q2_, .second, lvJ q3_, .second, lvI p4_, lvI (1 : Int32), lvI (1 : Int32), lvI (1 : Int32), lvI z11, lvR w14_, lvR w23_, lvR b31, lvR b40, .unset, .unset] [(.long q2_), (.ref w_PUT), (.ref b40)])) rfl (by rw [hml]; rfl) (Steps.refl _) (argsL := [(.ref w_PUT), (.long q2_)]) (rest := []) (lenOf pd_5 rfl) rfl (by show 2 * 0 + _ ≤ _; exact Nat.le_of_eq rfl) (hb hby at_152) (fun _ _ => ⟨rfl, e512, (by decide : 2 + 0 ≤ _), (by decide : 6 + 0 ≤ _)⟩)
        dsimp only [Pt.U, Pt.locs, Pt.cells, Pt.slots] at X513 l513 y513 z513 st513 hQ513
        subst l513 y513 z513
        obtain ⟨h513, e513⟩ : ∃ z, T513.heap = z := ⟨_, rfl⟩
        rw [e513] at hQ513
        obtain ⟨rfl, N513q, K513, g513_0, g513_1, g513_2, g513_3⟩ := hQ513
        have N522 := Fr.app N449 N513q
        have pre523 : ∀ t, own_S p e below m T513 157 #[lvJ q0_, .second, lvJ q1_, .second, lvJ q2_, .second, lvJ q3_, .second, lvI p4_, lvI (1 : Int32), lvI (1 : Int32), lvI (1 : Int32), lvI z11, lvR w14_, lvR w23_, lvR b31, lvR b40, .unset, .unset] [(.int z11)] t → G t := by
          intro t kt
          refine pre450 t ?_
          show own_S p e below m T447 142 #[lvJ q0_, .second, lvJ q1_, .second, lvJ q2_, .second, lvJ q3_, .second, lvI p4_, lvI (1 : Int32), lvI (1 : Int32), lvI (1 : Int32), lvI z11, lvR w14_, lvR w23_, lvR b31, lvR b40, .unset, .unset] [(.int (1 : Int32))] _
          refine XS.ifNo X447.here hx rfl (hb hby at_142) rfl ((if0 _ _).trans (feq (by decide : ¬ ((1 : Int32) = (0 : Int32)))).1) ?_
          refine XS.aload X447.here hx rfl (hb hby at_145) rfl rfl ?_
          show own_S p e below m T447 147 #[lvJ q0_, .second, lvJ q1_, .second, lvJ q2_, .second, lvJ q3_, .second, lvI p4_, lvI (1 : Int32), lvI (1 : Int32), lvI (1 : Int32), lvI z11, lvR w14_, lvR w23_, lvR b31, lvR b40, .unset, .unset] [(.ref b40)] _
          refine st512 _ ?_
          refine XS.lload X512.here hx rfl (hb hby at_150) rfl ?_
          show own_S p e below m T512 152 #[lvJ q0_, .second, lvJ q1_, .second, lvJ q2_, .second, lvJ q3_, .second, lvI p4_, lvI (1 : Int32), lvI (1 : Int32), lvI (1 : Int32), lvI z11, lvR w14_, lvR w23_, lvR b31, lvR b40, .unset, .unset] [(.long q2_), (.ref w_PUT), (.ref b40)] _
          refine st513.trans ?_
          refine XS.iload X513.here hx rfl (hb hby at_155) rfl ?_
          exact kt
        rcases hz11 with ⟨rfl, hj524⟩ | ⟨rfl, hj524⟩
        · have f526 : Exa Z h513 b31 cn0 := g447_0.keep K513
          have f527 : Fld Z h513 b31 cn0 "latestTimestamp" "J" (.long (own_max (-9223372036854775808 : Int64) q0_)) := g447_1.keep K513 (ninS ne319 nin0)
          have f528 : Fld Z h513 b31 cn0 "latestDeleteTimestamp" "J" (.long (own_max (-9223372036854775808 : Int64) q1_)) := g447_2.keep K513 (ninS ne319 nin0)
          have f529 : Fld Z h513 b31 cn0 "cells" "J" (.long (2 : Int64)) := g447_3.keep K513 (ninS ne319 nin0)
          have f530 : Old Z n0 h513 := f511.keep K513 (allS (ge42) all0)
          obtain ⟨cq525, kq525, q525a, q525b, q525c⟩ := isOf hZ e513 f526
          obtain ⟨_, _, ⟨T525, L525, k525, n525⟩, -, X525, ⟨Lc525, hQ525, l525, y525, z525⟩, st525⟩ := X513.virtualBack hx (y := (⟨"com/example/zenodotus/zenodotus/io/RowCodec$Tally", "add", "(Lcom/example/zenodotus/zenodotus/io/RowCodec$Tally;)V"⟩ : MethodName)) (z := (⟨"com/example/zenodotus/zenodotus/io/RowCodec$Tally", "add", "(Lcom/example/zenodotus/zenodotus/io/RowCodec$Tally;)V"⟩ : MethodName)) hown (mvT hZ (own_w hw 31 rfl)) (mvT hZ (own_w hw 32 rfl)) (notFace_of_selects (args := #[]) (mvT hZ (own_w hw 34 rfl))) (mvT hZ (own_w hw 34 rfl)) (mvT hZ (own_w hw 33 rfl)) (by decide) (backOf (W := 0) (rmadd35 l Z a0 hw [] b31 b40 (own_max (-9223372036854775808 : Int64) q0_) (own_max (-9223372036854775808 : Int64) q1_) (own_max (-9223372036854775808 : Int64) q2_) h513 n0 f530 f526 f527 f528 f529 g513_0 g513_1 g513_2 g513_3 ge32 (Ne.symm ne319)) hZ (own_w hw 35 rfl) (own_w hw 5 rfl) (by decide) (by decide)) q525a q525c (g := (mkF m 173 #[lvJ q0_, .second, lvJ q1_, .second, lvJ q2_, .second, lvJ q3_, .second, lvI p4_, lvI (1 : Int32), lvI (1 : Int32), lvI (1 : Int32), lvI (0 : Int32), lvR w14_, lvR w23_, lvR b31, lvR b40, .unset, .unset] [(.ref b40), (.ref b31)])) rfl (by rw [hml]; rfl) (Steps.refl _) (argsL := [(.ref b40)]) (rest := []) (lenOf pd_2 rfl) rfl (by show 2 * 0 + _ ≤ _; exact Nat.le_of_eq rfl) (hb hby at_173) (fun _ _ => ⟨rfl, e513, (by decide : 2 + 0 ≤ _), (by decide : 6 + 0 ≤ _)⟩)
          dsimp only [Pt.U, Pt.locs, Pt.cells, Pt.slots] at X525 l525 y525 z525 st525 hQ525
          subst l525 y525 z525
          obtain ⟨h525, e525⟩ : ∃ z, T525.heap = z := ⟨_, rfl⟩
          rw [e525] at hQ525
          obtain ⟨rfl, N525q, K525, g525_0, g525_1, g525_2, g525_3⟩ := hQ525
          have N531 := Fr.app N522 N525q
          have f533 : Old Z n0 h525 := f530.keep K525 (allS (ge32) all0)
          obtain ⟨cq532, kq532, q532a, q532b, q532c⟩ := isOf hZ e525 g525_0
          obtain ⟨_, _, ⟨T532, L532, k532, n532⟩, -, X532, ⟨Lc532, hQ532, l532, y532, z532⟩, st532⟩ := X525.virtualBack hx (y := (⟨"com/example/zenodotus/zenodotus/io/RowCodec$Tally", "cells", "()J"⟩ : MethodName)) (z := (⟨"com/example/zenodotus/zenodotus/io/RowCodec$Tally", "cells", "()J"⟩ : MethodName)) hown (mvT hZ (own_w hw 36 rfl)) (mvT hZ (own_w hw 37 rfl)) (notFace_of_selects (args := #[]) (mvT hZ (own_w hw 39 rfl))) (mvT hZ (own_w hw 39 rfl)) (mvT hZ (own_w hw 38 rfl)) (by decide) (backOf (W := 0) (rmcells26 l Z a0 hw [] b31 (own_max (own_max (-9223372036854775808 : Int64) q0_) (own_max (-9223372036854775808 : Int64) q2_)) (own_max (own_max (-9223372036854775808 : Int64) q1_) (-9223372036854775808 : Int64)) h525 n0 f533 g525_0 g525_1 g525_2 g525_3) hZ (own_w hw 40 rfl) (own_w hw 5 rfl) (by decide) (by decide)) q532a q532c (g := (mkF m 223 #[lvJ q0_, .second, lvJ q1_, .second, lvJ q2_, .second, lvJ q3_, .second, lvI p4_, lvI (1 : Int32), lvI (1 : Int32), lvI (1 : Int32), lvI (0 : Int32), lvR w14_, lvR w23_, lvR b31, lvR b40, lvJ (3 : Int64), .second] [(.ref b31)])) rfl (by rw [hml]; rfl) (Steps.refl _) (argsL := []) (rest := []) (lenOf pd_3 rfl) rfl (by show 2 * 0 + _ ≤ _; exact Nat.le_of_eq rfl) (hb hby at_223) (fun _ _ => ⟨rfl, e525, (by decide : 2 + 0 ≤ _), (by decide : 6 + 0 ≤ _)⟩)
          dsimp only [Pt.U, Pt.locs, Pt.cells, Pt.slots] at X532 l532 y532 z532 st532 hQ532
          subst l532 y532 z532
          obtain ⟨h532, e532⟩ : ∃ z, T532.heap = z := ⟨_, rfl⟩
          rw [e532] at hQ532
          obtain ⟨rfl, N532q, hh532⟩ := hQ532
          have N534 := Fr.app N531 N532q
          have e532' : T532.heap = h525 := e532.trans hh532
          obtain ⟨cq535, kq535, q535a, q535b, q535c⟩ := isOf hZ e532' g525_0
          obtain ⟨_, _, ⟨T535, L535, k535, n535⟩, -, X535, ⟨Lc535, hQ535, l535, y535, z535⟩, st535⟩ := X532.virtualBack hx (y := (⟨"com/example/zenodotus/zenodotus/io/RowCodec$Tally", "latestTimestamp", "()J"⟩ : MethodName)) (z := (⟨"com/example/zenodotus/zenodotus/io/RowCodec$Tally", "latestTimestamp", "()J"⟩ : MethodName)) hown (mvT hZ (own_w hw 41 rfl)) (mvT hZ (own_w hw 42 rfl)) (notFace_of_selects (args := #[]) (mvT hZ (own_w hw 44 rfl))) (mvT hZ (own_w hw 44 rfl)) (mvT hZ (own_w hw 43 rfl)) (by decide) (backOf (W := 0) (rmlatestTimestamp27 l Z a0 hw [] b31 (own_max (own_max (-9223372036854775808 : Int64) q0_) (own_max (-9223372036854775808 : Int64) q2_)) (own_max (own_max (-9223372036854775808 : Int64) q1_) (-9223372036854775808 : Int64)) h525 n0 f533 g525_0 g525_1 g525_2 g525_3) hZ (own_w hw 45 rfl) (own_w hw 5 rfl) (by decide) (by decide)) q535a q535c (g := (mkF m 234 #[lvJ q0_, .second, lvJ q1_, .second, lvJ q2_, .second, lvJ q3_, .second, lvI p4_, lvI (1 : Int32), lvI (1 : Int32), lvI (1 : Int32), lvI (0 : Int32), lvR w14_, lvR w23_, lvR b31, lvR b40, lvJ (3 : Int64), .second] [(.ref b31)])) rfl (by rw [hml]; rfl) (Steps.refl _) (argsL := []) (rest := []) (lenOf pd_3 rfl) rfl (by show 2 * 0 + _ ≤ _; exact Nat.le_of_eq rfl) (hb hby at_234) (fun _ _ => ⟨rfl, e532', (by decide : 2 + 0 ≤ _), (by decide : 6 + 0 ≤ _)⟩)
          dsimp only [Pt.U, Pt.locs, Pt.cells, Pt.slots] at X535 l535 y535 z535 st535 hQ535
          subst l535 y535 z535
          obtain ⟨h535, e535⟩ : ∃ z, T535.heap = z := ⟨_, rfl⟩
          rw [e535] at hQ535
          obtain ⟨rfl, N535q, hh535⟩ := hQ535
          have N536 := Fr.app N534 N535q
          have e535' : T535.heap = h525 := e535.trans hh535
          obtain ⟨_, _, ⟨T537, L537, k537, n537⟩, -, X537, ⟨Lc537, hQ537, l537, y537, z537⟩, st537⟩ := Jvm.LawKit.callS X535 hx (y := (⟨"com/example/zenodotus/zenodotus/io/TallyAddPinLaw", "expect", "(ZJZJ)J"⟩ : MethodName)) hown (mvT hZ (own_w hw 46 rfl)) (mvT hZ (own_w hw 47 rfl)) (mvT hZ (own_w hw 48 rfl)) (mvT hZ (own_w hw 49 rfl)) (by decide) (backOf (W := 2) (rmexpect23 l Z a0 hw [] q0_ q2_ h525 n0 f533 ) hZ (own_w hw 49 rfl) (own_w hw 48 rfl) (by decide) (by decide)) (g := (mkF m 244 #[lvJ q0_, .second, lvJ q1_, .second, lvJ q2_, .second, lvJ q3_, .second, lvI p4_, lvI (1 : Int32), lvI (1 : Int32), lvI (1 : Int32), lvI (0 : Int32), lvR w14_, lvR w23_, lvR b31, lvR b40, lvJ (3 : Int64), .second] [(.long q2_), (.int (1 : Int32)), (.long q0_), (.int (1 : Int32)), (.long (own_max (own_max (-9223372036854775808 : Int64) q0_) (own_max (-9223372036854775808 : Int64) q2_)))])) rfl (by rw [hml]; rfl) (argsL := [(.int (1 : Int32)), (.long q0_), (.int (1 : Int32)), (.long q2_)]) (rest := [(.long (own_max (own_max (-9223372036854775808 : Int64) q0_) (own_max (-9223372036854775808 : Int64) q2_)))]) (lenOf pd_4 rfl) rfl (by show 2 * 0 + _ ≤ _; exact Nat.le_of_eq rfl) (hb hby at_244) (fun _ _ => ⟨rfl, e535', (by decide : 2 + 0 ≤ _), (by decide : 6 + 0 ≤ _)⟩)
          dsimp only [Pt.U, Pt.locs, Pt.cells, Pt.slots] at X537 l537 y537 z537 st537 hQ537
          subst l537 y537 z537
          obtain ⟨h537, e537⟩ : ∃ z, T537.heap = z := ⟨_, rfl⟩
          rw [e537] at hQ537
          obtain ⟨rr537, rfl, hs537, N537q, hh537⟩ := hQ537
          have N538 := Fr.app N536 N537q
          have e537' : T537.heap = h525 := e537.trans hh537
          rcases hs537 with ⟨rfl, hq537_0_0⟩ | ⟨rfl, hq537_1_0⟩
          · obtain ⟨cq539, kq539, q539a, q539b, q539c⟩ := isOf hZ e537' g525_0
            obtain ⟨_, _, ⟨T539, L539, k539, n539⟩, -, X539, ⟨Lc539, hQ539, l539, y539, z539⟩, st539⟩ := X537.virtualBack hx (y := (⟨"com/example/zenodotus/zenodotus/io/RowCodec$Tally", "latestDeleteTimestamp", "()J"⟩ : MethodName)) (z := (⟨"com/example/zenodotus/zenodotus/io/RowCodec$Tally", "latestDeleteTimestamp", "()J"⟩ : MethodName)) hown (mvT hZ (own_w hw 50 rfl)) (mvT hZ (own_w hw 51 rfl)) (notFace_of_selects (args := #[]) (mvT hZ (own_w hw 53 rfl))) (mvT hZ (own_w hw 53 rfl)) (mvT hZ (own_w hw 52 rfl)) (by decide) (backOf (W := 0) (rmlatestDeleteTimestamp28 l Z a0 hw [] b31 (own_max (own_max (-9223372036854775808 : Int64) q0_) (own_max (-9223372036854775808 : Int64) q2_)) (own_max (own_max (-9223372036854775808 : Int64) q1_) (-9223372036854775808 : Int64)) h525 n0 f533 g525_0 g525_1 g525_2 g525_3) hZ (own_w hw 54 rfl) (own_w hw 5 rfl) (by decide) (by decide)) q539a q539c (g := (mkF m 253 #[lvJ q0_, .second, lvJ q1_, .second, lvJ q2_, .second, lvJ q3_, .second, lvI p4_, lvI (1 : Int32), lvI (1 : Int32), lvI (1 : Int32), lvI (0 : Int32), lvR w14_, lvR w23_, lvR b31, lvR b40, lvJ (3 : Int64), .second] [(.ref b31)])) rfl (by rw [hml]; rfl) (Steps.refl _) (argsL := []) (rest := []) (lenOf pd_3 rfl) rfl (by show 2 * 0 + _ ≤ _; exact Nat.le_of_eq rfl) (hb hby at_253) (fun _ _ => ⟨rfl, e537', (by decide : 2 + 0 ≤ _), (by decide : 6 + 0 ≤ _)⟩)
            dsimp only [Pt.U, Pt.locs, Pt.cells, Pt.slots] at X539 l539 y539 z539 st539 hQ539
            subst l539 y539 z539
            obtain ⟨h539, e539⟩ : ∃ z, T539.heap = z := ⟨_, rfl⟩
            rw [e539] at hQ539
            obtain ⟨rfl, N539q, hh539⟩ := hQ539
            have N540 := Fr.app N538 N539q
            have e539' : T539.heap = h525 := e539.trans hh539
            obtain ⟨_, _, ⟨T541, L541, k541, n541⟩, -, X541, ⟨Lc541, hQ541, l541, y541, z541⟩, st541⟩ := Jvm.LawKit.callS X539 hx (y := (⟨"com/example/zenodotus/zenodotus/io/TallyAddPinLaw", "expect", "(ZJZJ)J"⟩ : MethodName)) hown (mvT hZ (own_w hw 46 rfl)) (mvT hZ (own_w hw 47 rfl)) (mvT hZ (own_w hw 48 rfl)) (mvT hZ (own_w hw 49 rfl)) (by decide) (backOf (W := 2) (rmexpect21 l Z a0 hw [] q1_ q3_ h525 n0 f533 ) hZ (own_w hw 49 rfl) (own_w hw 48 rfl) (by decide) (by decide)) (g := (mkF m 263 #[lvJ q0_, .second, lvJ q1_, .second, lvJ q2_, .second, lvJ q3_, .second, lvI p4_, lvI (1 : Int32), lvI (1 : Int32), lvI (1 : Int32), lvI (0 : Int32), lvR w14_, lvR w23_, lvR b31, lvR b40, lvJ (3 : Int64), .second] [(.long q3_), (.int (0 : Int32)), (.long q1_), (.int (1 : Int32)), (.long (own_max (own_max (-9223372036854775808 : Int64) q1_) (-9223372036854775808 : Int64)))])) rfl (by rw [hml]; rfl) (argsL := [(.int (1 : Int32)), (.long q1_), (.int (0 : Int32)), (.long q3_)]) (rest := [(.long (own_max (own_max (-9223372036854775808 : Int64) q1_) (-9223372036854775808 : Int64)))]) (lenOf pd_4 rfl) rfl (by show 2 * 0 + _ ≤ _; exact Nat.le_of_eq rfl) (hb hby at_263) (fun _ _ => ⟨rfl, e539', (by decide : 2 + 0 ≤ _), (by decide : 6 + 0 ≤ _)⟩)
            dsimp only [Pt.U, Pt.locs, Pt.cells, Pt.slots] at X541 l541 y541 z541 st541 hQ541
            subst l541 y541 z541
            obtain ⟨h541, e541⟩ : ∃ z, T541.heap = z := ⟨_, rfl⟩
            rw [e541] at hQ541
            obtain ⟨rfl, N541q, hh541⟩ := hQ541
            have N542 := Fr.app N540 N541q
            have e541' : T541.heap = h525 := e541.trans hh541
            have pre543 : ∀ t, own_S p e below m T541 275 #[lvJ q0_, .second, lvJ q1_, .second, lvJ q2_, .second, lvJ q3_, .second, lvI p4_, lvI (1 : Int32), lvI (1 : Int32), lvI (1 : Int32), lvI (0 : Int32), lvR w14_, lvR w23_, lvR b31, lvR b40, lvJ (3 : Int64), .second] [(.int (1 : Int32))] t → G t := by
              intro t kt
              refine pre523 t ?_
              show own_S p e below m T513 157 #[lvJ q0_, .second, lvJ q1_, .second, lvJ q2_, .second, lvJ q3_, .second, lvI p4_, lvI (1 : Int32), lvI (1 : Int32), lvI (1 : Int32), lvI (0 : Int32), lvR w14_, lvR w23_, lvR b31, lvR b40, .unset, .unset] [(.int (0 : Int32))] _
              refine XS.ifYes X513.here hx rfl (pc0 := 157) (pc' := 169) rfl (hb hby at_157) rfl ((if0 _ _).trans (teq (by decide : (0 : Int32) = (0 : Int32))).1) (by decide) (by decide) ?_
              refine XS.aload X513.here hx rfl (hb hby at_169) rfl rfl ?_
              refine XS.aload X513.here hx rfl (hb hby at_171) rfl rfl ?_
              show own_S p e below m T513 173 #[lvJ q0_, .second, lvJ q1_, .second, lvJ q2_, .second, lvJ q3_, .second, lvI p4_, lvI (1 : Int32), lvI (1 : Int32), lvI (1 : Int32), lvI (0 : Int32), lvR w14_, lvR w23_, lvR b31, lvR b40, .unset, .unset] [(.ref b40), (.ref b31)] _
              refine st525.trans ?_
              refine XS.iload X525.here hx rfl (hb hby at_176) rfl ?_
              show own_S p e below m T525 178 #[lvJ q0_, .second, lvJ q1_, .second, lvJ q2_, .second, lvJ q3_, .second, lvI p4_, lvI (1 : Int32), lvI (1 : Int32), lvI (1 : Int32), lvI (0 : Int32), lvR w14_, lvR w23_, lvR b31, lvR b40, .unset, .unset] [(.int (1 : Int32))] _
              refine XS.ifNo X525.here hx rfl (hb hby at_178) rfl ((if0 _ _).trans (feq (by decide : ¬ ((1 : Int32) = (0 : Int32)))).1) ?_
              refine XS.lconst X525.here hx rfl (hb hby at_181) ?_
              refine XS.goto X525.here hx rfl (pc0 := 182) (pc' := 186) rfl (hb hby at_182) (by decide) (by decide) ?_
              refine XS.iload X525.here hx rfl (hb hby at_186) rfl ?_
              show own_S p e below m T525 188 #[lvJ q0_, .second, lvJ q1_, .second, lvJ q2_, .second, lvJ q3_, .second, lvI p4_, lvI (1 : Int32), lvI (1 : Int32), lvI (1 : Int32), lvI (0 : Int32), lvR w14_, lvR w23_, lvR b31, lvR b40, .unset, .unset] [(.int (1 : Int32)), (.long (1 : Int64))] _
              refine XS.ifNo X525.here hx rfl (hb hby at_188) rfl ((if0 _ _).trans (feq (by decide : ¬ ((1 : Int32) = (0 : Int32)))).1) ?_
              refine XS.lconst X525.here hx rfl (hb hby at_191) ?_
              refine XS.goto X525.here hx rfl (pc0 := 192) (pc' := 196) rfl (hb hby at_192) (by decide) (by decide) ?_
              refine XS.ladd X525.here hx rfl (hb hby at_196) rfl ?_
              show own_S p e below m T525 197 #[lvJ q0_, .second, lvJ q1_, .second, lvJ q2_, .second, lvJ q3_, .second, lvI p4_, lvI (1 : Int32), lvI (1 : Int32), lvI (1 : Int32), lvI (0 : Int32), lvR w14_, lvR w23_, lvR b31, lvR b40, .unset, .unset] [(.long (2 : Int64))] _
              refine XS.iload X525.here hx rfl (hb hby at_197) rfl ?_
              show own_S p e below m T525 199 #[lvJ q0_, .second, lvJ q1_, .second, lvJ q2_, .second, lvJ q3_, .second, lvI p4_, lvI (1 : Int32), lvI (1 : Int32), lvI (1 : Int32), lvI (0 : Int32), lvR w14_, lvR w23_, lvR b31, lvR b40, .unset, .unset] [(.int (1 : Int32)), (.long (2 : Int64))] _
              refine XS.ifNo X525.here hx rfl (hb hby at_199) rfl ((if0 _ _).trans (feq (by decide : ¬ ((1 : Int32) = (0 : Int32)))).1) ?_
              refine XS.lconst X525.here hx rfl (hb hby at_202) ?_
              refine XS.goto X525.here hx rfl (pc0 := 203) (pc' := 207) rfl (hb hby at_203) (by decide) (by decide) ?_
              refine XS.ladd X525.here hx rfl (hb hby at_207) rfl ?_
              show own_S p e below m T525 208 #[lvJ q0_, .second, lvJ q1_, .second, lvJ q2_, .second, lvJ q3_, .second, lvI p4_, lvI (1 : Int32), lvI (1 : Int32), lvI (1 : Int32), lvI (0 : Int32), lvR w14_, lvR w23_, lvR b31, lvR b40, .unset, .unset] [(.long (3 : Int64))] _
              refine XS.iload X525.here hx rfl (hb hby at_208) rfl ?_
              show own_S p e below m T525 210 #[lvJ q0_, .second, lvJ q1_, .second, lvJ q2_, .second, lvJ q3_, .second, lvI p4_, lvI (1 : Int32), lvI (1 : Int32), lvI (1 : Int32), lvI (0 : Int32), lvR w14_, lvR w23_, lvR b31, lvR b40, .unset, .unset] [(.int (0 : Int32)), (.long (3 : Int64))] _
              refine XS.ifYes X525.here hx rfl (pc0 := 210) (pc' := 217) rfl (hb hby at_210) rfl ((if0 _ _).trans (teq (by decide : (0 : Int32) = (0 : Int32))).1) (by decide) (by decide) ?_
              refine XS.lconst X525.here hx rfl (hb hby at_217) ?_
              refine XS.ladd X525.here hx rfl (hb hby at_218) rfl ?_
              refine XS.lstore X525.here hx rfl (hb hby at_219) rfl (l' := #[lvJ q0_, .second, lvJ q1_, .second, lvJ q2_, .second, lvJ q3_, .second, lvI p4_, lvI (1 : Int32), lvI (1 : Int32), lvI (1 : Int32), lvI (0 : Int32), lvR w14_, lvR w23_, lvR b31, lvR b40, lvJ (3 : Int64), .second]) rfl ?_
              show own_S p e below m T525 221 #[lvJ q0_, .second, lvJ q1_, .second, lvJ q2_, .second, lvJ q3_, .second, lvI p4_, lvI (1 : Int32), lvI (1 : Int32), lvI (1 : Int32), lvI (0 : Int32), lvR w14_, lvR w23_, lvR b31, lvR b40, lvJ (3 : Int64), .second] [] _
              refine XS.aload X525.here hx rfl (hb hby at_221) rfl rfl ?_
              show own_S p e below m T525 223 #[lvJ q0_, .second, lvJ q1_, .second, lvJ q2_, .second, lvJ q3_, .second, lvI p4_, lvI (1 : Int32), lvI (1 : Int32), lvI (1 : Int32), lvI (0 : Int32), lvR w14_, lvR w23_, lvR b31, lvR b40, lvJ (3 : Int64), .second] [(.ref b31)] _
              refine st532.trans ?_
              refine XS.lload X532.here hx rfl (hb hby at_226) rfl ?_
              refine XS.lcmp X532.here hx rfl (hb hby at_228) rfl ?_
              show own_S p e below m T532 229 #[lvJ q0_, .second, lvJ q1_, .second, lvJ q2_, .second, lvJ q3_, .second, lvI p4_, lvI (1 : Int32), lvI (1 : Int32), lvI (1 : Int32), lvI (0 : Int32), lvR w14_, lvR w23_, lvR b31, lvR b40, lvJ (3 : Int64), .second] [(.int (lcmpW (3 : Int64) (3 : Int64)))] _
              refine XS.ifNo X532.here hx rfl (hb hby at_229) rfl ((if0 _ _).trans (teq ((lw_eq _ _).mpr (by decide : (3 : Int64) = (3 : Int64)))).2) ?_
              refine XS.aload X532.here hx rfl (hb hby at_232) rfl rfl ?_
              show own_S p e below m T532 234 #[lvJ q0_, .second, lvJ q1_, .second, lvJ q2_, .second, lvJ q3_, .second, lvI p4_, lvI (1 : Int32), lvI (1 : Int32), lvI (1 : Int32), lvI (0 : Int32), lvR w14_, lvR w23_, lvR b31, lvR b40, lvJ (3 : Int64), .second] [(.ref b31)] _
              refine st535.trans ?_
              refine XS.iload X535.here hx rfl (hb hby at_237) rfl ?_
              refine XS.lloadN X535.here hx rfl (hb hby at_239) rfl ?_
              refine XS.iload X535.here hx rfl (hb hby at_240) rfl ?_
              show own_S p e below m T535 242 #[lvJ q0_, .second, lvJ q1_, .second, lvJ q2_, .second, lvJ q3_, .second, lvI p4_, lvI (1 : Int32), lvI (1 : Int32), lvI (1 : Int32), lvI (0 : Int32), lvR w14_, lvR w23_, lvR b31, lvR b40, lvJ (3 : Int64), .second] [(.int (1 : Int32)), (.long q0_), (.int (1 : Int32)), (.long (own_max (own_max (-9223372036854775808 : Int64) q0_) (own_max (-9223372036854775808 : Int64) q2_)))] _
              refine XS.lload X535.here hx rfl (hb hby at_242) rfl ?_
              show own_S p e below m T535 244 #[lvJ q0_, .second, lvJ q1_, .second, lvJ q2_, .second, lvJ q3_, .second, lvI p4_, lvI (1 : Int32), lvI (1 : Int32), lvI (1 : Int32), lvI (0 : Int32), lvR w14_, lvR w23_, lvR b31, lvR b40, lvJ (3 : Int64), .second] [(.long q2_), (.int (1 : Int32)), (.long q0_), (.int (1 : Int32)), (.long (own_max (own_max (-9223372036854775808 : Int64) q0_) (own_max (-9223372036854775808 : Int64) q2_)))] _
              refine st537 _ ?_
              refine XS.lcmp X537.here hx rfl (hb hby at_247) rfl ?_
              show own_S p e below m T537 248 #[lvJ q0_, .second, lvJ q1_, .second, lvJ q2_, .second, lvJ q3_, .second, lvI p4_, lvI (1 : Int32), lvI (1 : Int32), lvI (1 : Int32), lvI (0 : Int32), lvR w14_, lvR w23_, lvR b31, lvR b40, lvJ (3 : Int64), .second] [(.int (lcmpW (own_max (own_max (-9223372036854775808 : Int64) q0_) (own_max (-9223372036854775808 : Int64) q2_)) q0_))] _
              refine XS.ifNo X537.here hx rfl (hb hby at_248) rfl ((if0 _ _).trans (teq ((lw_eq _ _).mpr (by simp only [own_minl, own_minr] <;> first | (rfl) | (exact own_ml hq537_0_0)))).2) ?_
              refine XS.aload X537.here hx rfl (hb hby at_251) rfl rfl ?_
              show own_S p e below m T537 253 #[lvJ q0_, .second, lvJ q1_, .second, lvJ q2_, .second, lvJ q3_, .second, lvI p4_, lvI (1 : Int32), lvI (1 : Int32), lvI (1 : Int32), lvI (0 : Int32), lvR w14_, lvR w23_, lvR b31, lvR b40, lvJ (3 : Int64), .second] [(.ref b31)] _
              refine st539.trans ?_
              refine XS.iload X539.here hx rfl (hb hby at_256) rfl ?_
              refine XS.lloadN X539.here hx rfl (hb hby at_258) rfl ?_
              refine XS.iload X539.here hx rfl (hb hby at_259) rfl ?_
              show own_S p e below m T539 261 #[lvJ q0_, .second, lvJ q1_, .second, lvJ q2_, .second, lvJ q3_, .second, lvI p4_, lvI (1 : Int32), lvI (1 : Int32), lvI (1 : Int32), lvI (0 : Int32), lvR w14_, lvR w23_, lvR b31, lvR b40, lvJ (3 : Int64), .second] [(.int (0 : Int32)), (.long q1_), (.int (1 : Int32)), (.long (own_max (own_max (-9223372036854775808 : Int64) q1_) (-9223372036854775808 : Int64)))] _
              refine XS.lload X539.here hx rfl (hb hby at_261) rfl ?_
              show own_S p e below m T539 263 #[lvJ q0_, .second, lvJ q1_, .second, lvJ q2_, .second, lvJ q3_, .second, lvI p4_, lvI (1 : Int32), lvI (1 : Int32), lvI (1 : Int32), lvI (0 : Int32), lvR w14_, lvR w23_, lvR b31, lvR b40, lvJ (3 : Int64), .second] [(.long q3_), (.int (0 : Int32)), (.long q1_), (.int (1 : Int32)), (.long (own_max (own_max (-9223372036854775808 : Int64) q1_) (-9223372036854775808 : Int64)))] _
              refine st541 _ ?_
              refine XS.lcmp X541.here hx rfl (hb hby at_266) rfl ?_
              show own_S p e below m T541 267 #[lvJ q0_, .second, lvJ q1_, .second, lvJ q2_, .second, lvJ q3_, .second, lvI p4_, lvI (1 : Int32), lvI (1 : Int32), lvI (1 : Int32), lvI (0 : Int32), lvR w14_, lvR w23_, lvR b31, lvR b40, lvJ (3 : Int64), .second] [(.int (lcmpW (own_max (own_max (-9223372036854775808 : Int64) q1_) (-9223372036854775808 : Int64)) q1_))] _
              refine XS.ifNo X541.here hx rfl (hb hby at_267) rfl ((if0 _ _).trans (teq ((lw_eq _ _).mpr (by simp only [own_minl, own_minr] <;> first | (rfl) | (exact own_ml hq537_0_0)))).2) ?_
              refine XS.iconst X541.here hx rfl (hb hby at_270) ?_
              refine XS.goto X541.here hx rfl (pc0 := 271) (pc' := 275) rfl (hb hby at_271) (by decide) (by decide) ?_
              exact kt
            obtain ⟨fs, hr, hrun, hended, hW, hsame⟩ := X541.leave (v := some (.int (1 : Int32))) (fun h => by rw [Bd.returns] at h; cases h)
            refine ⟨_, _, hG _ (pre543 _ (retN X541 hx (t := .boolean) Bd.returns (by simp) (hb hby at_275) hr)), hrun, hended, _, _, rfl, ?_, ⟨_, rfl⟩, hW, hsame.mono (by decide) (by decide)⟩
            show QLaw Z q0_ q1_ q2_ q3_ p4_ w_PUT w_DELETE_COLUMN w_DELETE_FAMILY h0 n0 _ T541.heap _
            rw [e541']
            exact ⟨rfl, N542⟩
          · obtain ⟨cq545, kq545, q545a, q545b, q545c⟩ := isOf hZ e537' g525_0
            obtain ⟨_, _, ⟨T545, L545, k545, n545⟩, -, X545, ⟨Lc545, hQ545, l545, y545, z545⟩, st545⟩ := X537.virtualBack hx (y := (⟨"com/example/zenodotus/zenodotus/io/RowCodec$Tally", "latestDeleteTimestamp", "()J"⟩ : MethodName)) (z := (⟨"com/example/zenodotus/zenodotus/io/RowCodec$Tally", "latestDeleteTimestamp", "()J"⟩ : MethodName)) hown (mvT hZ (own_w hw 50 rfl)) (mvT hZ (own_w hw 51 rfl)) (notFace_of_selects (args := #[]) (mvT hZ (own_w hw 53 rfl))) (mvT hZ (own_w hw 53 rfl)) (mvT hZ (own_w hw 52 rfl)) (by decide) (backOf (W := 0) (rmlatestDeleteTimestamp28 l Z a0 hw [] b31 (own_max (own_max (-9223372036854775808 : Int64) q0_) (own_max (-9223372036854775808 : Int64) q2_)) (own_max (own_max (-9223372036854775808 : Int64) q1_) (-9223372036854775808 : Int64)) h525 n0 f533 g525_0 g525_1 g525_2 g525_3) hZ (own_w hw 54 rfl) (own_w hw 5 rfl) (by decide) (by decide)) q545a q545c (g := (mkF m 253 #[lvJ q0_, .second, lvJ q1_, .second, lvJ q2_, .second, lvJ q3_, .second, lvI p4_, lvI (1 : Int32), lvI (1 : Int32), lvI (1 : Int32), lvI (0 : Int32), lvR w14_, lvR w23_, lvR b31, lvR b40, lvJ (3 : Int64), .second] [(.ref b31)])) rfl (by rw [hml]; rfl) (Steps.refl _) (argsL := []) (rest := []) (lenOf pd_3 rfl) rfl (by show 2 * 0 + _ ≤ _; exact Nat.le_of_eq rfl) (hb hby at_253) (fun _ _ => ⟨rfl, e537', (by decide : 2 + 0 ≤ _), (by decide : 6 + 0 ≤ _)⟩)
            dsimp only [Pt.U, Pt.locs, Pt.cells, Pt.slots] at X545 l545 y545 z545 st545 hQ545
            subst l545 y545 z545
            obtain ⟨h545, e545⟩ : ∃ z, T545.heap = z := ⟨_, rfl⟩
            rw [e545] at hQ545
            obtain ⟨rfl, N545q, hh545⟩ := hQ545
            have N546 := Fr.app N538 N545q
            have e545' : T545.heap = h525 := e545.trans hh545
            obtain ⟨_, _, ⟨T547, L547, k547, n547⟩, -, X547, ⟨Lc547, hQ547, l547, y547, z547⟩, st547⟩ := Jvm.LawKit.callS X545 hx (y := (⟨"com/example/zenodotus/zenodotus/io/TallyAddPinLaw", "expect", "(ZJZJ)J"⟩ : MethodName)) hown (mvT hZ (own_w hw 46 rfl)) (mvT hZ (own_w hw 47 rfl)) (mvT hZ (own_w hw 48 rfl)) (mvT hZ (own_w hw 49 rfl)) (by decide) (backOf (W := 2) (rmexpect21 l Z a0 hw [] q1_ q3_ h525 n0 f533 ) hZ (own_w hw 49 rfl) (own_w hw 48 rfl) (by decide) (by decide)) (g := (mkF m 263 #[lvJ q0_, .second, lvJ q1_, .second, lvJ q2_, .second, lvJ q3_, .second, lvI p4_, lvI (1 : Int32), lvI (1 : Int32), lvI (1 : Int32), lvI (0 : Int32), lvR w14_, lvR w23_, lvR b31, lvR b40, lvJ (3 : Int64), .second] [(.long q3_), (.int (0 : Int32)), (.long q1_), (.int (1 : Int32)), (.long (own_max (own_max (-9223372036854775808 : Int64) q1_) (-9223372036854775808 : Int64)))])) rfl (by rw [hml]; rfl) (argsL := [(.int (1 : Int32)), (.long q1_), (.int (0 : Int32)), (.long q3_)]) (rest := [(.long (own_max (own_max (-9223372036854775808 : Int64) q1_) (-9223372036854775808 : Int64)))]) (lenOf pd_4 rfl) rfl (by show 2 * 0 + _ ≤ _; exact Nat.le_of_eq rfl) (hb hby at_263) (fun _ _ => ⟨rfl, e545', (by decide : 2 + 0 ≤ _), (by decide : 6 + 0 ≤ _)⟩)
            dsimp only [Pt.U, Pt.locs, Pt.cells, Pt.slots] at X547 l547 y547 z547 st547 hQ547
            subst l547 y547 z547
            obtain ⟨h547, e547⟩ : ∃ z, T547.heap = z := ⟨_, rfl⟩
            rw [e547] at hQ547
            obtain ⟨rfl, N547q, hh547⟩ := hQ547
            have N548 := Fr.app N546 N547q
            have e547' : T547.heap = h525 := e547.trans hh547
            have pre549 : ∀ t, own_S p e below m T547 275 #[lvJ q0_, .second, lvJ q1_, .second, lvJ q2_, .second, lvJ q3_, .second, lvI p4_, lvI (1 : Int32), lvI (1 : Int32), lvI (1 : Int32), lvI (0 : Int32), lvR w14_, lvR w23_, lvR b31, lvR b40, lvJ (3 : Int64), .second] [(.int (1 : Int32))] t → G t := by
              intro t kt
              refine pre523 t ?_
              show own_S p e below m T513 157 #[lvJ q0_, .second, lvJ q1_, .second, lvJ q2_, .second, lvJ q3_, .second, lvI p4_, lvI (1 : Int32), lvI (1 : Int32), lvI (1 : Int32), lvI (0 : Int32), lvR w14_, lvR w23_, lvR b31, lvR b40, .unset, .unset] [(.int (0 : Int32))] _
              refine XS.ifYes X513.here hx rfl (pc0 := 157) (pc' := 169) rfl (hb hby at_157) rfl ((if0 _ _).trans (teq (by decide : (0 : Int32) = (0 : Int32))).1) (by decide) (by decide) ?_
              refine XS.aload X513.here hx rfl (hb hby at_169) rfl rfl ?_
              refine XS.aload X513.here hx rfl (hb hby at_171) rfl rfl ?_
              show own_S p e below m T513 173 #[lvJ q0_, .second, lvJ q1_, .second, lvJ q2_, .second, lvJ q3_, .second, lvI p4_, lvI (1 : Int32), lvI (1 : Int32), lvI (1 : Int32), lvI (0 : Int32), lvR w14_, lvR w23_, lvR b31, lvR b40, .unset, .unset] [(.ref b40), (.ref b31)] _
              refine st525.trans ?_
              refine XS.iload X525.here hx rfl (hb hby at_176) rfl ?_
              show own_S p e below m T525 178 #[lvJ q0_, .second, lvJ q1_, .second, lvJ q2_, .second, lvJ q3_, .second, lvI p4_, lvI (1 : Int32), lvI (1 : Int32), lvI (1 : Int32), lvI (0 : Int32), lvR w14_, lvR w23_, lvR b31, lvR b40, .unset, .unset] [(.int (1 : Int32))] _
              refine XS.ifNo X525.here hx rfl (hb hby at_178) rfl ((if0 _ _).trans (feq (by decide : ¬ ((1 : Int32) = (0 : Int32)))).1) ?_
              refine XS.lconst X525.here hx rfl (hb hby at_181) ?_
              refine XS.goto X525.here hx rfl (pc0 := 182) (pc' := 186) rfl (hb hby at_182) (by decide) (by decide) ?_
              refine XS.iload X525.here hx rfl (hb hby at_186) rfl ?_
              show own_S p e below m T525 188 #[lvJ q0_, .second, lvJ q1_, .second, lvJ q2_, .second, lvJ q3_, .second, lvI p4_, lvI (1 : Int32), lvI (1 : Int32), lvI (1 : Int32), lvI (0 : Int32), lvR w14_, lvR w23_, lvR b31, lvR b40, .unset, .unset] [(.int (1 : Int32)), (.long (1 : Int64))] _
              refine XS.ifNo X525.here hx rfl (hb hby at_188) rfl ((if0 _ _).trans (feq (by decide : ¬ ((1 : Int32) = (0 : Int32)))).1) ?_
              refine XS.lconst X525.here hx rfl (hb hby at_191) ?_
              refine XS.goto X525.here hx rfl (pc0 := 192) (pc' := 196) rfl (hb hby at_192) (by decide) (by decide) ?_
              refine XS.ladd X525.here hx rfl (hb hby at_196) rfl ?_
              show own_S p e below m T525 197 #[lvJ q0_, .second, lvJ q1_, .second, lvJ q2_, .second, lvJ q3_, .second, lvI p4_, lvI (1 : Int32), lvI (1 : Int32), lvI (1 : Int32), lvI (0 : Int32), lvR w14_, lvR w23_, lvR b31, lvR b40, .unset, .unset] [(.long (2 : Int64))] _
              refine XS.iload X525.here hx rfl (hb hby at_197) rfl ?_
              show own_S p e below m T525 199 #[lvJ q0_, .second, lvJ q1_, .second, lvJ q2_, .second, lvJ q3_, .second, lvI p4_, lvI (1 : Int32), lvI (1 : Int32), lvI (1 : Int32), lvI (0 : Int32), lvR w14_, lvR w23_, lvR b31, lvR b40, .unset, .unset] [(.int (1 : Int32)), (.long (2 : Int64))] _
              refine XS.ifNo X525.here hx rfl (hb hby at_199) rfl ((if0 _ _).trans (feq (by decide : ¬ ((1 : Int32) = (0 : Int32)))).1) ?_
              refine XS.lconst X525.here hx rfl (hb hby at_202) ?_
              refine XS.goto X525.here hx rfl (pc0 := 203) (pc' := 207) rfl (hb hby at_203) (by decide) (by decide) ?_
              refine XS.ladd X525.here hx rfl (hb hby at_207) rfl ?_
              show own_S p e below m T525 208 #[lvJ q0_, .second, lvJ q1_, .second, lvJ q2_, .second, lvJ q3_, .second, lvI p4_, lvI (1 : Int32), lvI (1 : Int32), lvI (1 : Int32), lvI (0 : Int32), lvR w14_, lvR w23_, lvR b31, lvR b40, .unset, .unset] [(.long (3 : Int64))] _
              refine XS.iload X525.here hx rfl (hb hby at_208) rfl ?_
              show own_S p e below m T525 210 #[lvJ q0_, .second, lvJ q1_, .second, lvJ q2_, .second, lvJ q3_, .second, lvI p4_, lvI (1 : Int32), lvI (1 : Int32), lvI (1 : Int32), lvI (0 : Int32), lvR w14_, lvR w23_, lvR b31, lvR b40, .unset, .unset] [(.int (0 : Int32)), (.long (3 : Int64))] _
              refine XS.ifYes X525.here hx rfl (pc0 := 210) (pc' := 217) rfl (hb hby at_210) rfl ((if0 _ _).trans (teq (by decide : (0 : Int32) = (0 : Int32))).1) (by decide) (by decide) ?_
              refine XS.lconst X525.here hx rfl (hb hby at_217) ?_
              refine XS.ladd X525.here hx rfl (hb hby at_218) rfl ?_
              refine XS.lstore X525.here hx rfl (hb hby at_219) rfl (l' := #[lvJ q0_, .second, lvJ q1_, .second, lvJ q2_, .second, lvJ q3_, .second, lvI p4_, lvI (1 : Int32), lvI (1 : Int32), lvI (1 : Int32), lvI (0 : Int32), lvR w14_, lvR w23_, lvR b31, lvR b40, lvJ (3 : Int64), .second]) rfl ?_
              show own_S p e below m T525 221 #[lvJ q0_, .second, lvJ q1_, .second, lvJ q2_, .second, lvJ q3_, .second, lvI p4_, lvI (1 : Int32), lvI (1 : Int32), lvI (1 : Int32), lvI (0 : Int32), lvR w14_, lvR w23_, lvR b31, lvR b40, lvJ (3 : Int64), .second] [] _
              refine XS.aload X525.here hx rfl (hb hby at_221) rfl rfl ?_
              show own_S p e below m T525 223 #[lvJ q0_, .second, lvJ q1_, .second, lvJ q2_, .second, lvJ q3_, .second, lvI p4_, lvI (1 : Int32), lvI (1 : Int32), lvI (1 : Int32), lvI (0 : Int32), lvR w14_, lvR w23_, lvR b31, lvR b40, lvJ (3 : Int64), .second] [(.ref b31)] _
              refine st532.trans ?_
              refine XS.lload X532.here hx rfl (hb hby at_226) rfl ?_
              refine XS.lcmp X532.here hx rfl (hb hby at_228) rfl ?_
              show own_S p e below m T532 229 #[lvJ q0_, .second, lvJ q1_, .second, lvJ q2_, .second, lvJ q3_, .second, lvI p4_, lvI (1 : Int32), lvI (1 : Int32), lvI (1 : Int32), lvI (0 : Int32), lvR w14_, lvR w23_, lvR b31, lvR b40, lvJ (3 : Int64), .second] [(.int (lcmpW (3 : Int64) (3 : Int64)))] _
              refine XS.ifNo X532.here hx rfl (hb hby at_229) rfl ((if0 _ _).trans (teq ((lw_eq _ _).mpr (by decide : (3 : Int64) = (3 : Int64)))).2) ?_
              refine XS.aload X532.here hx rfl (hb hby at_232) rfl rfl ?_
              show own_S p e below m T532 234 #[lvJ q0_, .second, lvJ q1_, .second, lvJ q2_, .second, lvJ q3_, .second, lvI p4_, lvI (1 : Int32), lvI (1 : Int32), lvI (1 : Int32), lvI (0 : Int32), lvR w14_, lvR w23_, lvR b31, lvR b40, lvJ (3 : Int64), .second] [(.ref b31)] _
              refine st535.trans ?_
              refine XS.iload X535.here hx rfl (hb hby at_237) rfl ?_
              refine XS.lloadN X535.here hx rfl (hb hby at_239) rfl ?_
              refine XS.iload X535.here hx rfl (hb hby at_240) rfl ?_
              show own_S p e below m T535 242 #[lvJ q0_, .second, lvJ q1_, .second, lvJ q2_, .second, lvJ q3_, .second, lvI p4_, lvI (1 : Int32), lvI (1 : Int32), lvI (1 : Int32), lvI (0 : Int32), lvR w14_, lvR w23_, lvR b31, lvR b40, lvJ (3 : Int64), .second] [(.int (1 : Int32)), (.long q0_), (.int (1 : Int32)), (.long (own_max (own_max (-9223372036854775808 : Int64) q0_) (own_max (-9223372036854775808 : Int64) q2_)))] _
              refine XS.lload X535.here hx rfl (hb hby at_242) rfl ?_
              show own_S p e below m T535 244 #[lvJ q0_, .second, lvJ q1_, .second, lvJ q2_, .second, lvJ q3_, .second, lvI p4_, lvI (1 : Int32), lvI (1 : Int32), lvI (1 : Int32), lvI (0 : Int32), lvR w14_, lvR w23_, lvR b31, lvR b40, lvJ (3 : Int64), .second] [(.long q2_), (.int (1 : Int32)), (.long q0_), (.int (1 : Int32)), (.long (own_max (own_max (-9223372036854775808 : Int64) q0_) (own_max (-9223372036854775808 : Int64) q2_)))] _
              refine st537 _ ?_
              refine XS.lcmp X537.here hx rfl (hb hby at_247) rfl ?_
              show own_S p e below m T537 248 #[lvJ q0_, .second, lvJ q1_, .second, lvJ q2_, .second, lvJ q3_, .second, lvI p4_, lvI (1 : Int32), lvI (1 : Int32), lvI (1 : Int32), lvI (0 : Int32), lvR w14_, lvR w23_, lvR b31, lvR b40, lvJ (3 : Int64), .second] [(.int (lcmpW (own_max (own_max (-9223372036854775808 : Int64) q0_) (own_max (-9223372036854775808 : Int64) q2_)) q2_))] _
              refine XS.ifNo X537.here hx rfl (hb hby at_248) rfl ((if0 _ _).trans (teq ((lw_eq _ _).mpr (by simp only [own_minl, own_minr] <;> first | (rfl) | (exact own_mr hq537_1_0)))).2) ?_
              refine XS.aload X537.here hx rfl (hb hby at_251) rfl rfl ?_
              show own_S p e below m T537 253 #[lvJ q0_, .second, lvJ q1_, .second, lvJ q2_, .second, lvJ q3_, .second, lvI p4_, lvI (1 : Int32), lvI (1 : Int32), lvI (1 : Int32), lvI (0 : Int32), lvR w14_, lvR w23_, lvR b31, lvR b40, lvJ (3 : Int64), .second] [(.ref b31)] _
              refine st545.trans ?_
              refine XS.iload X545.here hx rfl (hb hby at_256) rfl ?_
              refine XS.lloadN X545.here hx rfl (hb hby at_258) rfl ?_
              refine XS.iload X545.here hx rfl (hb hby at_259) rfl ?_
              show own_S p e below m T545 261 #[lvJ q0_, .second, lvJ q1_, .second, lvJ q2_, .second, lvJ q3_, .second, lvI p4_, lvI (1 : Int32), lvI (1 : Int32), lvI (1 : Int32), lvI (0 : Int32), lvR w14_, lvR w23_, lvR b31, lvR b40, lvJ (3 : Int64), .second] [(.int (0 : Int32)), (.long q1_), (.int (1 : Int32)), (.long (own_max (own_max (-9223372036854775808 : Int64) q1_) (-9223372036854775808 : Int64)))] _
              refine XS.lload X545.here hx rfl (hb hby at_261) rfl ?_
              show own_S p e below m T545 263 #[lvJ q0_, .second, lvJ q1_, .second, lvJ q2_, .second, lvJ q3_, .second, lvI p4_, lvI (1 : Int32), lvI (1 : Int32), lvI (1 : Int32), lvI (0 : Int32), lvR w14_, lvR w23_, lvR b31, lvR b40, lvJ (3 : Int64), .second] [(.long q3_), (.int (0 : Int32)), (.long q1_), (.int (1 : Int32)), (.long (own_max (own_max (-9223372036854775808 : Int64) q1_) (-9223372036854775808 : Int64)))] _
              refine st547 _ ?_
              refine XS.lcmp X547.here hx rfl (hb hby at_266) rfl ?_
              show own_S p e below m T547 267 #[lvJ q0_, .second, lvJ q1_, .second, lvJ q2_, .second, lvJ q3_, .second, lvI p4_, lvI (1 : Int32), lvI (1 : Int32), lvI (1 : Int32), lvI (0 : Int32), lvR w14_, lvR w23_, lvR b31, lvR b40, lvJ (3 : Int64), .second] [(.int (lcmpW (own_max (own_max (-9223372036854775808 : Int64) q1_) (-9223372036854775808 : Int64)) q1_))] _
              refine XS.ifNo X547.here hx rfl (hb hby at_267) rfl ((if0 _ _).trans (teq ((lw_eq _ _).mpr (by simp only [own_minl, own_minr] <;> first | (rfl) | (exact own_mr hq537_1_0)))).2) ?_
              refine XS.iconst X547.here hx rfl (hb hby at_270) ?_
              refine XS.goto X547.here hx rfl (pc0 := 271) (pc' := 275) rfl (hb hby at_271) (by decide) (by decide) ?_
              exact kt
            obtain ⟨fs, hr, hrun, hended, hW, hsame⟩ := X547.leave (v := some (.int (1 : Int32))) (fun h => by rw [Bd.returns] at h; cases h)
            refine ⟨_, _, hG _ (pre549 _ (retN X547 hx (t := .boolean) Bd.returns (by simp) (hb hby at_275) hr)), hrun, hended, _, _, rfl, ?_, ⟨_, rfl⟩, hW, hsame.mono (by decide) (by decide)⟩
            show QLaw Z q0_ q1_ q2_ q3_ p4_ w_PUT w_DELETE_COLUMN w_DELETE_FAMILY h0 n0 _ T547.heap _
            rw [e547']
            exact ⟨rfl, N548⟩
        · have f552 : Old Z n0 h513 := f511.keep K513 (allS (ge42) all0)
          obtain ⟨cq551, kq551, q551a, q551b, q551c⟩ := isOf hZ e513 g513_0
          obtain ⟨_, _, ⟨T551, L551, k551, n551⟩, -, X551, ⟨Lc551, hQ551, l551, y551, z551⟩, st551⟩ := X513.virtualBack hx (y := (⟨"com/example/zenodotus/zenodotus/io/RowCodec$Tally", "count", "(Lcom/example/zenodotus/zenodotus/model/Cell$Kind;J)V"⟩ : MethodName)) (z := (⟨"com/example/zenodotus/zenodotus/io/RowCodec$Tally", "count", "(Lcom/example/zenodotus/zenodotus/model/Cell$Kind;J)V"⟩ : MethodName)) hown (mvT hZ (own_w hw 19 rfl)) (mvT hZ (own_w hw 20 rfl)) (notFace_of_selects (args := #[]) (mvT hZ (own_w hw 22 rfl))) (mvT hZ (own_w hw 22 rfl)) (mvT hZ (own_w hw 21 rfl)) (by decide) (backOf (W := 0) (rmcount15 l Z a0 hw [] b40 w23_ q3_ (own_max (-9223372036854775808 : Int64) q2_) w_PUT h513 n0 f552 g513_0 g513_1 g513_2 g513_3 E23 ge42 P1 P2 P0 n23_0) hZ (own_w hw 23 rfl) (own_w hw 5 rfl) (by decide) (by decide)) q551a q551c (g := (mkF m 166 #[lvJ q0_, .second, lvJ q1_, .second, lvJ q2_, .second, lvJ q3_, .second, lvI p4_, lvI (1 : Int32), lvI (1 : Int32), lvI (1 : Int32), lvI (1 : Int32), lvR w14_, lvR w23_, lvR b31, lvR b40, .unset, .unset] [(.long q3_), (.ref w23_), (.ref b40)])) rfl (by rw [hml]; rfl) (Steps.refl _) (argsL := [(.ref w23_), (.long q3_)]) (rest := []) (lenOf pd_5 rfl) rfl (by show 2 * 0 + _ ≤ _; exact Nat.le_of_eq rfl) (hb hby at_166) (fun _ _ => ⟨rfl, e513, (by decide : 2 + 0 ≤ _), (by decide : 6 + 0 ≤ _)⟩)
          dsimp only [Pt.U, Pt.locs, Pt.cells, Pt.slots] at X551 l551 y551 z551 st551 hQ551
          subst l551 y551 z551
          obtain ⟨h551, e551⟩ : ∃ z, T551.heap = z := ⟨_, rfl⟩
          rw [e551] at hQ551
          obtain ⟨rfl, N551q, K551, g551_0, g551_1, g551_2, g551_3⟩ := hQ551
          have N553 := Fr.app N522 N551q
          have f555 : Exa Z h513 b31 cn0 := g447_0.keep K513
          have f556 : Exa Z h551 b31 cn0 := f555.keep K551
          have f557 : Fld Z h513 b31 cn0 "latestTimestamp" "J" (.long (own_max (-9223372036854775808 : Int64) q0_)) := g447_1.keep K513 (ninS ne319 nin0)
          have f558 : Fld Z h551 b31 cn0 "latestTimestamp" "J" (.long (own_max (-9223372036854775808 : Int64) q0_)) := f557.keep K551 (ninS ne319 nin0)
          have f559 : Fld Z h513 b31 cn0 "latestDeleteTimestamp" "J" (.long (own_max (-9223372036854775808 : Int64) q1_)) := g447_2.keep K513 (ninS ne319 nin0)
          have f560 : Fld Z h551 b31 cn0 "latestDeleteTimestamp" "J" (.long (own_max (-9223372036854775808 : Int64) q1_)) := f559.keep K551 (ninS ne319 nin0)
          have f561 : Fld Z h513 b31 cn0 "cells" "J" (.long (2 : Int64)) := g447_3.keep K513 (ninS ne319 nin0)
          have f562 : Fld Z h551 b31 cn0 "cells" "J" (.long (2 : Int64)) := f561.keep K551 (ninS ne319 nin0)
          have f563 : Old Z n0 h551 := f552.keep K551 (allS (ge42) all0)
          obtain ⟨cq554, kq554, q554a, q554b, q554c⟩ := isOf hZ e551 f556
          obtain ⟨_, _, ⟨T554, L554, k554, n554⟩, -, X554, ⟨Lc554, hQ554, l554, y554, z554⟩, st554⟩ := X551.virtualBack hx (y := (⟨"com/example/zenodotus/zenodotus/io/RowCodec$Tally", "add", "(Lcom/example/zenodotus/zenodotus/io/RowCodec$Tally;)V"⟩ : MethodName)) (z := (⟨"com/example/zenodotus/zenodotus/io/RowCodec$Tally", "add", "(Lcom/example/zenodotus/zenodotus/io/RowCodec$Tally;)V"⟩ : MethodName)) hown (mvT hZ (own_w hw 31 rfl)) (mvT hZ (own_w hw 32 rfl)) (notFace_of_selects (args := #[]) (mvT hZ (own_w hw 34 rfl))) (mvT hZ (own_w hw 34 rfl)) (mvT hZ (own_w hw 33 rfl)) (by decide) (backOf (W := 0) (rmadd36 l Z a0 hw [] b31 b40 (own_max (-9223372036854775808 : Int64) q0_) (own_max (-9223372036854775808 : Int64) q1_) (own_max (-9223372036854775808 : Int64) q2_) (own_max (-9223372036854775808 : Int64) q3_) h551 n0 f563 f556 f558 f560 f562 g551_0 g551_1 g551_2 g551_3 ge32 (Ne.symm ne319)) hZ (own_w hw 35 rfl) (own_w hw 5 rfl) (by decide) (by decide)) q554a q554c (g := (mkF m 173 #[lvJ q0_, .second, lvJ q1_, .second, lvJ q2_, .second, lvJ q3_, .second, lvI p4_, lvI (1 : Int32), lvI (1 : Int32), lvI (1 : Int32), lvI (1 : Int32), lvR w14_, lvR w23_, lvR b31, lvR b40, .unset, .unset] [(.ref b40), (.ref b31)])) rfl (by rw [hml]; rfl) (Steps.refl _) (argsL := [(.ref b40)]) (rest := []) (lenOf pd_2 rfl) rfl (by show 2 * 0 + _ ≤ _; exact Nat.le_of_eq rfl) (hb hby at_173) (fun _ _ => ⟨rfl, e551, (by decide : 2 + 0 ≤ _), (by decide : 6 + 0 ≤ _)⟩)
          dsimp only [Pt.U, Pt.locs, Pt.cells, Pt.slots] at X554 l554 y554 z554 st554 hQ554
          subst l554 y554 z554
          obtain ⟨h554, e554⟩ : ∃ z, T554.heap = z := ⟨_, rfl⟩
          rw [e554] at hQ554
          obtain ⟨rfl, N554q, K554, g554_0, g554_1, g554_2, g554_3⟩ := hQ554
          have N564 := Fr.app N553 N554q
          have f566 : Old Z n0 h554 := f563.keep K554 (allS (ge32) all0)
          obtain ⟨cq565, kq565, q565a, q565b, q565c⟩ := isOf hZ e554 g554_0
          obtain ⟨_, _, ⟨T565, L565, k565, n565⟩, -, X565, ⟨Lc565, hQ565, l565, y565, z565⟩, st565⟩ := X554.virtualBack hx (y := (⟨"com/example/zenodotus/zenodotus/io/RowCodec$Tally", "cells", "()J"⟩ : MethodName)) (z := (⟨"com/example/zenodotus/zenodotus/io/RowCodec$Tally", "cells", "()J"⟩ : MethodName)) hown (mvT hZ (own_w hw 36 rfl)) (mvT hZ (own_w hw 37 rfl)) (notFace_of_selects (args := #[]) (mvT hZ (own_w hw 39 rfl))) (mvT hZ (own_w hw 39 rfl)) (mvT hZ (own_w hw 38 rfl)) (by decide) (backOf (W := 0) (rmcells37 l Z a0 hw [] b31 (own_max (own_max (-9223372036854775808 : Int64) q0_) (own_max (-9223372036854775808 : Int64) q2_)) (own_max (own_max (-9223372036854775808 : Int64) q1_) (own_max (-9223372036854775808 : Int64) q3_)) h554 n0 f566 g554_0 g554_1 g554_2 g554_3) hZ (own_w hw 40 rfl) (own_w hw 5 rfl) (by decide) (by decide)) q565a q565c (g := (mkF m 223 #[lvJ q0_, .second, lvJ q1_, .second, lvJ q2_, .second, lvJ q3_, .second, lvI p4_, lvI (1 : Int32), lvI (1 : Int32), lvI (1 : Int32), lvI (1 : Int32), lvR w14_, lvR w23_, lvR b31, lvR b40, lvJ (4 : Int64), .second] [(.ref b31)])) rfl (by rw [hml]; rfl) (Steps.refl _) (argsL := []) (rest := []) (lenOf pd_3 rfl) rfl (by show 2 * 0 + _ ≤ _; exact Nat.le_of_eq rfl) (hb hby at_223) (fun _ _ => ⟨rfl, e554, (by decide : 2 + 0 ≤ _), (by decide : 6 + 0 ≤ _)⟩)
          dsimp only [Pt.U, Pt.locs, Pt.cells, Pt.slots] at X565 l565 y565 z565 st565 hQ565
          subst l565 y565 z565
          obtain ⟨h565, e565⟩ : ∃ z, T565.heap = z := ⟨_, rfl⟩
          rw [e565] at hQ565
          obtain ⟨rfl, N565q, hh565⟩ := hQ565
          have N567 := Fr.app N564 N565q
          have e565' : T565.heap = h554 := e565.trans hh565
          obtain ⟨cq568, kq568, q568a, q568b, q568c⟩ := isOf hZ e565' g554_0
          obtain ⟨_, _, ⟨T568, L568, k568, n568⟩, -, X568, ⟨Lc568, hQ568, l568, y568, z568⟩, st568⟩ := X565.virtualBack hx (y := (⟨"com/example/zenodotus/zenodotus/io/RowCodec$Tally", "latestTimestamp", "()J"⟩ : MethodName)) (z := (⟨"com/example/zenodotus/zenodotus/io/RowCodec$Tally", "latestTimestamp", "()J"⟩ : MethodName)) hown (mvT hZ (own_w hw 41 rfl)) (mvT hZ (own_w hw 42 rfl)) (notFace_of_selects (args := #[]) (mvT hZ (own_w hw 44 rfl))) (mvT hZ (own_w hw 44 rfl)) (mvT hZ (own_w hw 43 rfl)) (by decide) (backOf (W := 0) (rmlatestTimestamp38 l Z a0 hw [] b31 (own_max (own_max (-9223372036854775808 : Int64) q0_) (own_max (-9223372036854775808 : Int64) q2_)) (own_max (own_max (-9223372036854775808 : Int64) q1_) (own_max (-9223372036854775808 : Int64) q3_)) h554 n0 f566 g554_0 g554_1 g554_2 g554_3) hZ (own_w hw 45 rfl) (own_w hw 5 rfl) (by decide) (by decide)) q568a q568c (g := (mkF m 234 #[lvJ q0_, .second, lvJ q1_, .second, lvJ q2_, .second, lvJ q3_, .second, lvI p4_, lvI (1 : Int32), lvI (1 : Int32), lvI (1 : Int32), lvI (1 : Int32), lvR w14_, lvR w23_, lvR b31, lvR b40, lvJ (4 : Int64), .second] [(.ref b31)])) rfl (by rw [hml]; rfl) (Steps.refl _) (argsL := []) (rest := []) (lenOf pd_3 rfl) rfl (by show 2 * 0 + _ ≤ _; exact Nat.le_of_eq rfl) (hb hby at_234) (fun _ _ => ⟨rfl, e565', (by decide : 2 + 0 ≤ _), (by decide : 6 + 0 ≤ _)⟩)
          dsimp only [Pt.U, Pt.locs, Pt.cells, Pt.slots] at X568 l568 y568 z568 st568 hQ568
          subst l568 y568 z568
          obtain ⟨h568, e568⟩ : ∃ z, T568.heap = z := ⟨_, rfl⟩
          rw [e568] at hQ568
          obtain ⟨rfl, N568q, hh568⟩ := hQ568
          have N569 := Fr.app N567 N568q
          have e568' : T568.heap = h554 := e568.trans hh568
          obtain ⟨_, _, ⟨T570, L570, k570, n570⟩, -, X570, ⟨Lc570, hQ570, l570, y570, z570⟩, st570⟩ := Jvm.LawKit.callS X568 hx (y := (⟨"com/example/zenodotus/zenodotus/io/TallyAddPinLaw", "expect", "(ZJZJ)J"⟩ : MethodName)) hown (mvT hZ (own_w hw 46 rfl)) (mvT hZ (own_w hw 47 rfl)) (mvT hZ (own_w hw 48 rfl)) (mvT hZ (own_w hw 49 rfl)) (by decide) (backOf (W := 2) (rmexpect23 l Z a0 hw [] q0_ q2_ h554 n0 f566 ) hZ (own_w hw 49 rfl) (own_w hw 48 rfl) (by decide) (by decide)) (g := (mkF m 244 #[lvJ q0_, .second, lvJ q1_, .second, lvJ q2_, .second, lvJ q3_, .second, lvI p4_, lvI (1 : Int32), lvI (1 : Int32), lvI (1 : Int32), lvI (1 : Int32), lvR w14_, lvR w23_, lvR b31, lvR b40, lvJ (4 : Int64), .second] [(.long q2_), (.int (1 : Int32)), (.long q0_), (.int (1 : Int32)), (.long (own_max (own_max (-9223372036854775808 : Int64) q0_) (own_max (-9223372036854775808 : Int64) q2_)))])) rfl (by rw [hml]; rfl) (argsL := [(.int (1 : Int32)), (.long q0_), (.int (1 : Int32)), (.long q2_)]) (rest := [(.long (own_max (own_max (-9223372036854775808 : Int64) q0_) (own_max (-9223372036854775808 : Int64) q2_)))]) (lenOf pd_4 rfl) rfl (by show 2 * 0 + _ ≤ _; exact Nat.le_of_eq rfl) (hb hby at_244) (fun _ _ => ⟨rfl, e568', (by decide : 2 + 0 ≤ _), (by decide : 6 + 0 ≤ _)⟩)
          dsimp only [Pt.U, Pt.locs, Pt.cells, Pt.slots] at X570 l570 y570 z570 st570 hQ570
          subst l570 y570 z570
          obtain ⟨h570, e570⟩ : ∃ z, T570.heap = z := ⟨_, rfl⟩
          rw [e570] at hQ570
          obtain ⟨rr570, rfl, hs570, N570q, hh570⟩ := hQ570
          have N571 := Fr.app N569 N570q
          have e570' : T570.heap = h554 := e570.trans hh570
          rcases hs570 with ⟨rfl, hq570_0_0⟩ | ⟨rfl, hq570_1_0⟩
          · obtain ⟨cq572, kq572, q572a, q572b, q572c⟩ := isOf hZ e570' g554_0
            obtain ⟨_, _, ⟨T572, L572, k572, n572⟩, -, X572, ⟨Lc572, hQ572, l572, y572, z572⟩, st572⟩ := X570.virtualBack hx (y := (⟨"com/example/zenodotus/zenodotus/io/RowCodec$Tally", "latestDeleteTimestamp", "()J"⟩ : MethodName)) (z := (⟨"com/example/zenodotus/zenodotus/io/RowCodec$Tally", "latestDeleteTimestamp", "()J"⟩ : MethodName)) hown (mvT hZ (own_w hw 50 rfl)) (mvT hZ (own_w hw 51 rfl)) (notFace_of_selects (args := #[]) (mvT hZ (own_w hw 53 rfl))) (mvT hZ (own_w hw 53 rfl)) (mvT hZ (own_w hw 52 rfl)) (by decide) (backOf (W := 0) (rmlatestDeleteTimestamp39 l Z a0 hw [] b31 (own_max (own_max (-9223372036854775808 : Int64) q0_) (own_max (-9223372036854775808 : Int64) q2_)) (own_max (own_max (-9223372036854775808 : Int64) q1_) (own_max (-9223372036854775808 : Int64) q3_)) h554 n0 f566 g554_0 g554_1 g554_2 g554_3) hZ (own_w hw 54 rfl) (own_w hw 5 rfl) (by decide) (by decide)) q572a q572c (g := (mkF m 253 #[lvJ q0_, .second, lvJ q1_, .second, lvJ q2_, .second, lvJ q3_, .second, lvI p4_, lvI (1 : Int32), lvI (1 : Int32), lvI (1 : Int32), lvI (1 : Int32), lvR w14_, lvR w23_, lvR b31, lvR b40, lvJ (4 : Int64), .second] [(.ref b31)])) rfl (by rw [hml]; rfl) (Steps.refl _) (argsL := []) (rest := []) (lenOf pd_3 rfl) rfl (by show 2 * 0 + _ ≤ _; exact Nat.le_of_eq rfl) (hb hby at_253) (fun _ _ => ⟨rfl, e570', (by decide : 2 + 0 ≤ _), (by decide : 6 + 0 ≤ _)⟩)
            dsimp only [Pt.U, Pt.locs, Pt.cells, Pt.slots] at X572 l572 y572 z572 st572 hQ572
            subst l572 y572 z572
            obtain ⟨h572, e572⟩ : ∃ z, T572.heap = z := ⟨_, rfl⟩
            rw [e572] at hQ572
            obtain ⟨rfl, N572q, hh572⟩ := hQ572
            have N573 := Fr.app N571 N572q
            have e572' : T572.heap = h554 := e572.trans hh572
            obtain ⟨_, _, ⟨T574, L574, k574, n574⟩, -, X574, ⟨Lc574, hQ574, l574, y574, z574⟩, st574⟩ := Jvm.LawKit.callS X572 hx (y := (⟨"com/example/zenodotus/zenodotus/io/TallyAddPinLaw", "expect", "(ZJZJ)J"⟩ : MethodName)) hown (mvT hZ (own_w hw 46 rfl)) (mvT hZ (own_w hw 47 rfl)) (mvT hZ (own_w hw 48 rfl)) (mvT hZ (own_w hw 49 rfl)) (by decide) (backOf (W := 2) (rmexpect23 l Z a0 hw [] q1_ q3_ h554 n0 f566 ) hZ (own_w hw 49 rfl) (own_w hw 48 rfl) (by decide) (by decide)) (g := (mkF m 263 #[lvJ q0_, .second, lvJ q1_, .second, lvJ q2_, .second, lvJ q3_, .second, lvI p4_, lvI (1 : Int32), lvI (1 : Int32), lvI (1 : Int32), lvI (1 : Int32), lvR w14_, lvR w23_, lvR b31, lvR b40, lvJ (4 : Int64), .second] [(.long q3_), (.int (1 : Int32)), (.long q1_), (.int (1 : Int32)), (.long (own_max (own_max (-9223372036854775808 : Int64) q1_) (own_max (-9223372036854775808 : Int64) q3_)))])) rfl (by rw [hml]; rfl) (argsL := [(.int (1 : Int32)), (.long q1_), (.int (1 : Int32)), (.long q3_)]) (rest := [(.long (own_max (own_max (-9223372036854775808 : Int64) q1_) (own_max (-9223372036854775808 : Int64) q3_)))]) (lenOf pd_4 rfl) rfl (by show 2 * 0 + _ ≤ _; exact Nat.le_of_eq rfl) (hb hby at_263) (fun _ _ => ⟨rfl, e572', (by decide : 2 + 0 ≤ _), (by decide : 6 + 0 ≤ _)⟩)
            dsimp only [Pt.U, Pt.locs, Pt.cells, Pt.slots] at X574 l574 y574 z574 st574 hQ574
            subst l574 y574 z574
            obtain ⟨h574, e574⟩ : ∃ z, T574.heap = z := ⟨_, rfl⟩
            rw [e574] at hQ574
            obtain ⟨rr574, rfl, hs574, N574q, hh574⟩ := hQ574
            have N575 := Fr.app N573 N574q
            have e574' : T574.heap = h554 := e574.trans hh574
            rcases hs574 with ⟨rfl, hq574_0_0⟩ | ⟨rfl, hq574_1_0⟩
            · have pre576 : ∀ t, own_S p e below m T574 275 #[lvJ q0_, .second, lvJ q1_, .second, lvJ q2_, .second, lvJ q3_, .second, lvI p4_, lvI (1 : Int32), lvI (1 : Int32), lvI (1 : Int32), lvI (1 : Int32), lvR w14_, lvR w23_, lvR b31, lvR b40, lvJ (4 : Int64), .second] [(.int (1 : Int32))] t → G t := by
                intro t kt
                refine pre523 t ?_
                show own_S p e below m T513 157 #[lvJ q0_, .second, lvJ q1_, .second, lvJ q2_, .second, lvJ q3_, .second, lvI p4_, lvI (1 : Int32), lvI (1 : Int32), lvI (1 : Int32), lvI (1 : Int32), lvR w14_, lvR w23_, lvR b31, lvR b40, .unset, .unset] [(.int (1 : Int32))] _
                refine XS.ifNo X513.here hx rfl (hb hby at_157) rfl ((if0 _ _).trans (feq (by decide : ¬ ((1 : Int32) = (0 : Int32)))).1) ?_
                refine XS.aload X513.here hx rfl (hb hby at_160) rfl rfl ?_
                refine XS.aload X513.here hx rfl (hb hby at_162) rfl rfl ?_
                refine XS.lload X513.here hx rfl (hb hby at_164) rfl ?_
                show own_S p e below m T513 166 #[lvJ q0_, .second, lvJ q1_, .second, lvJ q2_, .second, lvJ q3_, .second, lvI p4_, lvI (1 : Int32), lvI (1 : Int32), lvI (1 : Int32), lvI (1 : Int32), lvR w14_, lvR w23_, lvR b31, lvR b40, .unset, .unset] [(.long q3_), (.ref w23_), (.ref b40)] _
                refine st551.trans ?_
                refine XS.aload X551.here hx rfl (hb hby at_169) rfl rfl ?_
                refine XS.aload X551.here hx rfl (hb hby at_171) rfl rfl ?_
                show own_S p e below m T551 173 #[lvJ q0_, .second, lvJ q1_, .second, lvJ q2_, .second, lvJ q3_, .second, lvI p4_, lvI (1 : Int32), lvI (1 : Int32), lvI (1 : Int32), lvI (1 : Int32), lvR w14_, lvR w23_, lvR b31, lvR b40, .unset, .unset] [(.ref b40), (.ref b31)] _
                refine st554.trans ?_
                refine XS.iload X554.here hx rfl (hb hby at_176) rfl ?_
                show own_S p e below m T554 178 #[lvJ q0_, .second, lvJ q1_, .second, lvJ q2_, .second, lvJ q3_, .second, lvI p4_, lvI (1 : Int32), lvI (1 : Int32), lvI (1 : Int32), lvI (1 : Int32), lvR w14_, lvR w23_, lvR b31, lvR b40, .unset, .unset] [(.int (1 : Int32))] _
                refine XS.ifNo X554.here hx rfl (hb hby at_178) rfl ((if0 _ _).trans (feq (by decide : ¬ ((1 : Int32) = (0 : Int32)))).1) ?_
                refine XS.lconst X554.here hx rfl (hb hby at_181) ?_
                refine XS.goto X554.here hx rfl (pc0 := 182) (pc' := 186) rfl (hb hby at_182) (by decide) (by decide) ?_
                refine XS.iload X554.here hx rfl (hb hby at_186) rfl ?_
                show own_S p e below m T554 188 #[lvJ q0_, .second, lvJ q1_, .second, lvJ q2_, .second, lvJ q3_, .second, lvI p4_, lvI (1 : Int32), lvI (1 : Int32), lvI (1 : Int32), lvI (1 : Int32), lvR w14_, lvR w23_, lvR b31, lvR b40, .unset, .unset] [(.int (1 : Int32)), (.long (1 : Int64))] _
                refine XS.ifNo X554.here hx rfl (hb hby at_188) rfl ((if0 _ _).trans (feq (by decide : ¬ ((1 : Int32) = (0 : Int32)))).1) ?_
                refine XS.lconst X554.here hx rfl (hb hby at_191) ?_
                refine XS.goto X554.here hx rfl (pc0 := 192) (pc' := 196) rfl (hb hby at_192) (by decide) (by decide) ?_
                refine XS.ladd X554.here hx rfl (hb hby at_196) rfl ?_
                show own_S p e below m T554 197 #[lvJ q0_, .second, lvJ q1_, .second, lvJ q2_, .second, lvJ q3_, .second, lvI p4_, lvI (1 : Int32), lvI (1 : Int32), lvI (1 : Int32), lvI (1 : Int32), lvR w14_, lvR w23_, lvR b31, lvR b40, .unset, .unset] [(.long (2 : Int64))] _
                refine XS.iload X554.here hx rfl (hb hby at_197) rfl ?_
                show own_S p e below m T554 199 #[lvJ q0_, .second, lvJ q1_, .second, lvJ q2_, .second, lvJ q3_, .second, lvI p4_, lvI (1 : Int32), lvI (1 : Int32), lvI (1 : Int32), lvI (1 : Int32), lvR w14_, lvR w23_, lvR b31, lvR b40, .unset, .unset] [(.int (1 : Int32)), (.long (2 : Int64))] _
                refine XS.ifNo X554.here hx rfl (hb hby at_199) rfl ((if0 _ _).trans (feq (by decide : ¬ ((1 : Int32) = (0 : Int32)))).1) ?_
                refine XS.lconst X554.here hx rfl (hb hby at_202) ?_
                refine XS.goto X554.here hx rfl (pc0 := 203) (pc' := 207) rfl (hb hby at_203) (by decide) (by decide) ?_
                refine XS.ladd X554.here hx rfl (hb hby at_207) rfl ?_
                show own_S p e below m T554 208 #[lvJ q0_, .second, lvJ q1_, .second, lvJ q2_, .second, lvJ q3_, .second, lvI p4_, lvI (1 : Int32), lvI (1 : Int32), lvI (1 : Int32), lvI (1 : Int32), lvR w14_, lvR w23_, lvR b31, lvR b40, .unset, .unset] [(.long (3 : Int64))] _
                refine XS.iload X554.here hx rfl (hb hby at_208) rfl ?_
                show own_S p e below m T554 210 #[lvJ q0_, .second, lvJ q1_, .second, lvJ q2_, .second, lvJ q3_, .second, lvI p4_, lvI (1 : Int32), lvI (1 : Int32), lvI (1 : Int32), lvI (1 : Int32), lvR w14_, lvR w23_, lvR b31, lvR b40, .unset, .unset] [(.int (1 : Int32)), (.long (3 : Int64))] _
                refine XS.ifNo X554.here hx rfl (hb hby at_210) rfl ((if0 _ _).trans (feq (by decide : ¬ ((1 : Int32) = (0 : Int32)))).1) ?_
                refine XS.lconst X554.here hx rfl (hb hby at_213) ?_
                refine XS.goto X554.here hx rfl (pc0 := 214) (pc' := 218) rfl (hb hby at_214) (by decide) (by decide) ?_
                refine XS.ladd X554.here hx rfl (hb hby at_218) rfl ?_
                show own_S p e below m T554 219 #[lvJ q0_, .second, lvJ q1_, .second, lvJ q2_, .second, lvJ q3_, .second, lvI p4_, lvI (1 : Int32), lvI (1 : Int32), lvI (1 : Int32), lvI (1 : Int32), lvR w14_, lvR w23_, lvR b31, lvR b40, .unset, .unset] [(.long (4 : Int64))] _
                refine XS.lstore X554.here hx rfl (hb hby at_219) rfl (l' := #[lvJ q0_, .second, lvJ q1_, .second, lvJ q2_, .second, lvJ q3_, .second, lvI p4_, lvI (1 : Int32), lvI (1 : Int32), lvI (1 : Int32), lvI (1 : Int32), lvR w14_, lvR w23_, lvR b31, lvR b40, lvJ (4 : Int64), .second]) rfl ?_
                refine XS.aload X554.here hx rfl (hb hby at_221) rfl rfl ?_
                show own_S p e below m T554 223 #[lvJ q0_, .second, lvJ q1_, .second, lvJ q2_, .second, lvJ q3_, .second, lvI p4_, lvI (1 : Int32), lvI (1 : Int32), lvI (1 : Int32), lvI (1 : Int32), lvR w14_, lvR w23_, lvR b31, lvR b40, lvJ (4 : Int64), .second] [(.ref b31)] _
                refine st565.trans ?_
                refine XS.lload X565.here hx rfl (hb hby at_226) rfl ?_
                refine XS.lcmp X565.here hx rfl (hb hby at_228) rfl ?_
                show own_S p e below m T565 229 #[lvJ q0_, .second, lvJ q1_, .second, lvJ q2_, .second, lvJ q3_, .second, lvI p4_, lvI (1 : Int32), lvI (1 : Int32), lvI (1 : Int32), lvI (1 : Int32), lvR w14_, lvR w23_, lvR b31, lvR b40, lvJ (4 : Int64), .second] [(.int (lcmpW (4 : Int64) (4 : Int64)))] _
                refine XS.ifNo X565.here hx rfl (hb hby at_229) rfl ((if0 _ _).trans (teq ((lw_eq _ _).mpr (by decide : (4 : Int64) = (4 : Int64)))).2) ?_
                refine XS.aload X565.here hx rfl (hb hby at_232) rfl rfl ?_
                show own_S p e below m T565 234 #[lvJ q0_, .second, lvJ q1_, .second, lvJ q2_, .second, lvJ q3_, .second, lvI p4_, lvI (1 : Int32), lvI (1 : Int32), lvI (1 : Int32), lvI (1 : Int32), lvR w14_, lvR w23_, lvR b31, lvR b40, lvJ (4 : Int64), .second] [(.ref b31)] _
                refine st568.trans ?_
                refine XS.iload X568.here hx rfl (hb hby at_237) rfl ?_
                refine XS.lloadN X568.here hx rfl (hb hby at_239) rfl ?_
                refine XS.iload X568.here hx rfl (hb hby at_240) rfl ?_
                show own_S p e below m T568 242 #[lvJ q0_, .second, lvJ q1_, .second, lvJ q2_, .second, lvJ q3_, .second, lvI p4_, lvI (1 : Int32), lvI (1 : Int32), lvI (1 : Int32), lvI (1 : Int32), lvR w14_, lvR w23_, lvR b31, lvR b40, lvJ (4 : Int64), .second] [(.int (1 : Int32)), (.long q0_), (.int (1 : Int32)), (.long (own_max (own_max (-9223372036854775808 : Int64) q0_) (own_max (-9223372036854775808 : Int64) q2_)))] _
                refine XS.lload X568.here hx rfl (hb hby at_242) rfl ?_
                show own_S p e below m T568 244 #[lvJ q0_, .second, lvJ q1_, .second, lvJ q2_, .second, lvJ q3_, .second, lvI p4_, lvI (1 : Int32), lvI (1 : Int32), lvI (1 : Int32), lvI (1 : Int32), lvR w14_, lvR w23_, lvR b31, lvR b40, lvJ (4 : Int64), .second] [(.long q2_), (.int (1 : Int32)), (.long q0_), (.int (1 : Int32)), (.long (own_max (own_max (-9223372036854775808 : Int64) q0_) (own_max (-9223372036854775808 : Int64) q2_)))] _
                refine st570 _ ?_
                refine XS.lcmp X570.here hx rfl (hb hby at_247) rfl ?_
                show own_S p e below m T570 248 #[lvJ q0_, .second, lvJ q1_, .second, lvJ q2_, .second, lvJ q3_, .second, lvI p4_, lvI (1 : Int32), lvI (1 : Int32), lvI (1 : Int32), lvI (1 : Int32), lvR w14_, lvR w23_, lvR b31, lvR b40, lvJ (4 : Int64), .second] [(.int (lcmpW (own_max (own_max (-9223372036854775808 : Int64) q0_) (own_max (-9223372036854775808 : Int64) q2_)) q0_))] _
                refine XS.ifNo X570.here hx rfl (hb hby at_248) rfl ((if0 _ _).trans (teq ((lw_eq _ _).mpr (by simp only [own_minl, own_minr] <;> first | (rfl) | (exact own_ml hq570_0_0)))).2) ?_
                refine XS.aload X570.here hx rfl (hb hby at_251) rfl rfl ?_
                show own_S p e below m T570 253 #[lvJ q0_, .second, lvJ q1_, .second, lvJ q2_, .second, lvJ q3_, .second, lvI p4_, lvI (1 : Int32), lvI (1 : Int32), lvI (1 : Int32), lvI (1 : Int32), lvR w14_, lvR w23_, lvR b31, lvR b40, lvJ (4 : Int64), .second] [(.ref b31)] _
                refine st572.trans ?_
                refine XS.iload X572.here hx rfl (hb hby at_256) rfl ?_
                refine XS.lloadN X572.here hx rfl (hb hby at_258) rfl ?_
                refine XS.iload X572.here hx rfl (hb hby at_259) rfl ?_
                show own_S p e below m T572 261 #[lvJ q0_, .second, lvJ q1_, .second, lvJ q2_, .second, lvJ q3_, .second, lvI p4_, lvI (1 : Int32), lvI (1 : Int32), lvI (1 : Int32), lvI (1 : Int32), lvR w14_, lvR w23_, lvR b31, lvR b40, lvJ (4 : Int64), .second] [(.int (1 : Int32)), (.long q1_), (.int (1 : Int32)), (.long (own_max (own_max (-9223372036854775808 : Int64) q1_) (own_max (-9223372036854775808 : Int64) q3_)))] _
                refine XS.lload X572.here hx rfl (hb hby at_261) rfl ?_
                show own_S p e below m T572 263 #[lvJ q0_, .second, lvJ q1_, .second, lvJ q2_, .second, lvJ q3_, .second, lvI p4_, lvI (1 : Int32), lvI (1 : Int32), lvI (1 : Int32), lvI (1 : Int32), lvR w14_, lvR w23_, lvR b31, lvR b40, lvJ (4 : Int64), .second] [(.long q3_), (.int (1 : Int32)), (.long q1_), (.int (1 : Int32)), (.long (own_max (own_max (-9223372036854775808 : Int64) q1_) (own_max (-9223372036854775808 : Int64) q3_)))] _
                refine st574 _ ?_
                refine XS.lcmp X574.here hx rfl (hb hby at_266) rfl ?_
                show own_S p e below m T574 267 #[lvJ q0_, .second, lvJ q1_, .second, lvJ q2_, .second, lvJ q3_, .second, lvI p4_, lvI (1 : Int32), lvI (1 : Int32), lvI (1 : Int32), lvI (1 : Int32), lvR w14_, lvR w23_, lvR b31, lvR b40, lvJ (4 : Int64), .second] [(.int (lcmpW (own_max (own_max (-9223372036854775808 : Int64) q1_) (own_max (-9223372036854775808 : Int64) q3_)) q1_))] _
                refine XS.ifNo X574.here hx rfl (hb hby at_267) rfl ((if0 _ _).trans (teq ((lw_eq _ _).mpr (by simp only [own_minl, own_minr] <;> first | (rfl) | (exact own_ml hq570_0_0) | (exact own_ml hq574_0_0)))).2) ?_
                refine XS.iconst X574.here hx rfl (hb hby at_270) ?_
                refine XS.goto X574.here hx rfl (pc0 := 271) (pc' := 275) rfl (hb hby at_271) (by decide) (by decide) ?_
                exact kt
              obtain ⟨fs, hr, hrun, hended, hW, hsame⟩ := X574.leave (v := some (.int (1 : Int32))) (fun h => by rw [Bd.returns] at h; cases h)
              refine ⟨_, _, hG _ (pre576 _ (retN X574 hx (t := .boolean) Bd.returns (by simp) (hb hby at_275) hr)), hrun, hended, _, _, rfl, ?_, ⟨_, rfl⟩, hW, hsame.mono (by decide) (by decide)⟩
              show QLaw Z q0_ q1_ q2_ q3_ p4_ w_PUT w_DELETE_COLUMN w_DELETE_FAMILY h0 n0 _ T574.heap _
              rw [e574']
              exact ⟨rfl, N575⟩
            · have pre578 : ∀ t, own_S p e below m T574 275 #[lvJ q0_, .second, lvJ q1_, .second, lvJ q2_, .second, lvJ q3_, .second, lvI p4_, lvI (1 : Int32), lvI (1 : Int32), lvI (1 : Int32), lvI (1 : Int32), lvR w14_, lvR w23_, lvR b31, lvR b40, lvJ (4 : Int64), .second] [(.int (1 : Int32))] t → G t := by
                intro t kt
                refine pre523 t ?_
                show own_S p e below m T513 157 #[lvJ q0_, .second, lvJ q1_, .second, lvJ q2_, .second, lvJ q3_, .second, lvI p4_, lvI (1 : Int32), lvI (1 : Int32), lvI (1 : Int32), lvI (1 : Int32), lvR w14_, lvR w23_, lvR b31, lvR b40, .unset, .unset] [(.int (1 : Int32))] _
                refine XS.ifNo X513.here hx rfl (hb hby at_157) rfl ((if0 _ _).trans (feq (by decide : ¬ ((1 : Int32) = (0 : Int32)))).1) ?_
                refine XS.aload X513.here hx rfl (hb hby at_160) rfl rfl ?_
                refine XS.aload X513.here hx rfl (hb hby at_162) rfl rfl ?_
                refine XS.lload X513.here hx rfl (hb hby at_164) rfl ?_
                show own_S p e below m T513 166 #[lvJ q0_, .second, lvJ q1_, .second, lvJ q2_, .second, lvJ q3_, .second, lvI p4_, lvI (1 : Int32), lvI (1 : Int32), lvI (1 : Int32), lvI (1 : Int32), lvR w14_, lvR w23_, lvR b31, lvR b40, .unset, .unset] [(.long q3_), (.ref w23_), (.ref b40)] _
                refine st551.trans ?_
                refine XS.aload X551.here hx rfl (hb hby at_169) rfl rfl ?_
                refine XS.aload X551.here hx rfl (hb hby at_171) rfl rfl ?_
                show own_S p e below m T551 173 #[lvJ q0_, .second, lvJ q1_, .second, lvJ q2_, .second, lvJ q3_, .second, lvI p4_, lvI (1 : Int32), lvI (1 : Int32), lvI (1 : Int32), lvI (1 : Int32), lvR w14_, lvR w23_, lvR b31, lvR b40, .unset, .unset] [(.ref b40), (.ref b31)] _
                refine st554.trans ?_
                refine XS.iload X554.here hx rfl (hb hby at_176) rfl ?_
                show own_S p e below m T554 178 #[lvJ q0_, .second, lvJ q1_, .second, lvJ q2_, .second, lvJ q3_, .second, lvI p4_, lvI (1 : Int32), lvI (1 : Int32), lvI (1 : Int32), lvI (1 : Int32), lvR w14_, lvR w23_, lvR b31, lvR b40, .unset, .unset] [(.int (1 : Int32))] _
                refine XS.ifNo X554.here hx rfl (hb hby at_178) rfl ((if0 _ _).trans (feq (by decide : ¬ ((1 : Int32) = (0 : Int32)))).1) ?_
                refine XS.lconst X554.here hx rfl (hb hby at_181) ?_
                refine XS.goto X554.here hx rfl (pc0 := 182) (pc' := 186) rfl (hb hby at_182) (by decide) (by decide) ?_
                refine XS.iload X554.here hx rfl (hb hby at_186) rfl ?_
                show own_S p e below m T554 188 #[lvJ q0_, .second, lvJ q1_, .second, lvJ q2_, .second, lvJ q3_, .second, lvI p4_, lvI (1 : Int32), lvI (1 : Int32), lvI (1 : Int32), lvI (1 : Int32), lvR w14_, lvR w23_, lvR b31, lvR b40, .unset, .unset] [(.int (1 : Int32)), (.long (1 : Int64))] _
                refine XS.ifNo X554.here hx rfl (hb hby at_188) rfl ((if0 _ _).trans (feq (by decide : ¬ ((1 : Int32) = (0 : Int32)))).1) ?_
                refine XS.lconst X554.here hx rfl (hb hby at_191) ?_
                refine XS.goto X554.here hx rfl (pc0 := 192) (pc' := 196) rfl (hb hby at_192) (by decide) (by decide) ?_
                refine XS.ladd X554.here hx rfl (hb hby at_196) rfl ?_
                show own_S p e below m T554 197 #[lvJ q0_, .second, lvJ q1_, .second, lvJ q2_, .second, lvJ q3_, .second, lvI p4_, lvI (1 : Int32), lvI (1 : Int32), lvI (1 : Int32), lvI (1 : Int32), lvR w14_, lvR w23_, lvR b31, lvR b40, .unset, .unset] [(.long (2 : Int64))] _
                refine XS.iload X554.here hx rfl (hb hby at_197) rfl ?_
                show own_S p e below m T554 199 #[lvJ q0_, .second, lvJ q1_, .second, lvJ q2_, .second, lvJ q3_, .second, lvI p4_, lvI (1 : Int32), lvI (1 : Int32), lvI (1 : Int32), lvI (1 : Int32), lvR w14_, lvR w23_, lvR b31, lvR b40, .unset, .unset] [(.int (1 : Int32)), (.long (2 : Int64))] _
                refine XS.ifNo X554.here hx rfl (hb hby at_199) rfl ((if0 _ _).trans (feq (by decide : ¬ ((1 : Int32) = (0 : Int32)))).1) ?_
                refine XS.lconst X554.here hx rfl (hb hby at_202) ?_
                refine XS.goto X554.here hx rfl (pc0 := 203) (pc' := 207) rfl (hb hby at_203) (by decide) (by decide) ?_
                refine XS.ladd X554.here hx rfl (hb hby at_207) rfl ?_
                show own_S p e below m T554 208 #[lvJ q0_, .second, lvJ q1_, .second, lvJ q2_, .second, lvJ q3_, .second, lvI p4_, lvI (1 : Int32), lvI (1 : Int32), lvI (1 : Int32), lvI (1 : Int32), lvR w14_, lvR w23_, lvR b31, lvR b40, .unset, .unset] [(.long (3 : Int64))] _
                refine XS.iload X554.here hx rfl (hb hby at_208) rfl ?_
                show own_S p e below m T554 210 #[lvJ q0_, .second, lvJ q1_, .second, lvJ q2_, .second, lvJ q3_, .second, lvI p4_, lvI (1 : Int32), lvI (1 : Int32), lvI (1 : Int32), lvI (1 : Int32), lvR w14_, lvR w23_, lvR b31, lvR b40, .unset, .unset] [(.int (1 : Int32)), (.long (3 : Int64))] _
                refine XS.ifNo X554.here hx rfl (hb hby at_210) rfl ((if0 _ _).trans (feq (by decide : ¬ ((1 : Int32) = (0 : Int32)))).1) ?_
                refine XS.lconst X554.here hx rfl (hb hby at_213) ?_
                refine XS.goto X554.here hx rfl (pc0 := 214) (pc' := 218) rfl (hb hby at_214) (by decide) (by decide) ?_
                refine XS.ladd X554.here hx rfl (hb hby at_218) rfl ?_
                show own_S p e below m T554 219 #[lvJ q0_, .second, lvJ q1_, .second, lvJ q2_, .second, lvJ q3_, .second, lvI p4_, lvI (1 : Int32), lvI (1 : Int32), lvI (1 : Int32), lvI (1 : Int32), lvR w14_, lvR w23_, lvR b31, lvR b40, .unset, .unset] [(.long (4 : Int64))] _
                refine XS.lstore X554.here hx rfl (hb hby at_219) rfl (l' := #[lvJ q0_, .second, lvJ q1_, .second, lvJ q2_, .second, lvJ q3_, .second, lvI p4_, lvI (1 : Int32), lvI (1 : Int32), lvI (1 : Int32), lvI (1 : Int32), lvR w14_, lvR w23_, lvR b31, lvR b40, lvJ (4 : Int64), .second]) rfl ?_
                refine XS.aload X554.here hx rfl (hb hby at_221) rfl rfl ?_
                show own_S p e below m T554 223 #[lvJ q0_, .second, lvJ q1_, .second, lvJ q2_, .second, lvJ q3_, .second, lvI p4_, lvI (1 : Int32), lvI (1 : Int32), lvI (1 : Int32), lvI (1 : Int32), lvR w14_, lvR w23_, lvR b31, lvR b40, lvJ (4 : Int64), .second] [(.ref b31)] _
                refine st565.trans ?_
                refine XS.lload X565.here hx rfl (hb hby at_226) rfl ?_
                refine XS.lcmp X565.here hx rfl (hb hby at_228) rfl ?_
                show own_S p e below m T565 229 #[lvJ q0_, .second, lvJ q1_, .second, lvJ q2_, .second, lvJ q3_, .second, lvI p4_, lvI (1 : Int32), lvI (1 : Int32), lvI (1 : Int32), lvI (1 : Int32), lvR w14_, lvR w23_, lvR b31, lvR b40, lvJ (4 : Int64), .second] [(.int (lcmpW (4 : Int64) (4 : Int64)))] _
                refine XS.ifNo X565.here hx rfl (hb hby at_229) rfl ((if0 _ _).trans (teq ((lw_eq _ _).mpr (by decide : (4 : Int64) = (4 : Int64)))).2) ?_
                refine XS.aload X565.here hx rfl (hb hby at_232) rfl rfl ?_
                show own_S p e below m T565 234 #[lvJ q0_, .second, lvJ q1_, .second, lvJ q2_, .second, lvJ q3_, .second, lvI p4_, lvI (1 : Int32), lvI (1 : Int32), lvI (1 : Int32), lvI (1 : Int32), lvR w14_, lvR w23_, lvR b31, lvR b40, lvJ (4 : Int64), .second] [(.ref b31)] _
                refine st568.trans ?_
                refine XS.iload X568.here hx rfl (hb hby at_237) rfl ?_
                refine XS.lloadN X568.here hx rfl (hb hby at_239) rfl ?_
                refine XS.iload X568.here hx rfl (hb hby at_240) rfl ?_
                show own_S p e below m T568 242 #[lvJ q0_, .second, lvJ q1_, .second, lvJ q2_, .second, lvJ q3_, .second, lvI p4_, lvI (1 : Int32), lvI (1 : Int32), lvI (1 : Int32), lvI (1 : Int32), lvR w14_, lvR w23_, lvR b31, lvR b40, lvJ (4 : Int64), .second] [(.int (1 : Int32)), (.long q0_), (.int (1 : Int32)), (.long (own_max (own_max (-9223372036854775808 : Int64) q0_) (own_max (-9223372036854775808 : Int64) q2_)))] _
                refine XS.lload X568.here hx rfl (hb hby at_242) rfl ?_
                show own_S p e below m T568 244 #[lvJ q0_, .second, lvJ q1_, .second, lvJ q2_, .second, lvJ q3_, .second, lvI p4_, lvI (1 : Int32), lvI (1 : Int32), lvI (1 : Int32), lvI (1 : Int32), lvR w14_, lvR w23_, lvR b31, lvR b40, lvJ (4 : Int64), .second] [(.long q2_), (.int (1 : Int32)), (.long q0_), (.int (1 : Int32)), (.long (own_max (own_max (-9223372036854775808 : Int64) q0_) (own_max (-9223372036854775808 : Int64) q2_)))] _
                refine st570 _ ?_
                refine XS.lcmp X570.here hx rfl (hb hby at_247) rfl ?_
                show own_S p e below m T570 248 #[lvJ q0_, .second, lvJ q1_, .second, lvJ q2_, .second, lvJ q3_, .second, lvI p4_, lvI (1 : Int32), lvI (1 : Int32), lvI (1 : Int32), lvI (1 : Int32), lvR w14_, lvR w23_, lvR b31, lvR b40, lvJ (4 : Int64), .second] [(.int (lcmpW (own_max (own_max (-9223372036854775808 : Int64) q0_) (own_max (-9223372036854775808 : Int64) q2_)) q0_))] _
                refine XS.ifNo X570.here hx rfl (hb hby at_248) rfl ((if0 _ _).trans (teq ((lw_eq _ _).mpr (by simp only [own_minl, own_minr] <;> first | (rfl) | (exact own_ml hq570_0_0)))).2) ?_
                refine XS.aload X570.here hx rfl (hb hby at_251) rfl rfl ?_
                show own_S p e below m T570 253 #[lvJ q0_, .second, lvJ q1_, .second, lvJ q2_, .second, lvJ q3_, .second, lvI p4_, lvI (1 : Int32), lvI (1 : Int32), lvI (1 : Int32), lvI (1 : Int32), lvR w14_, lvR w23_, lvR b31, lvR b40, lvJ (4 : Int64), .second] [(.ref b31)] _
                refine st572.trans ?_
                refine XS.iload X572.here hx rfl (hb hby at_256) rfl ?_
                refine XS.lloadN X572.here hx rfl (hb hby at_258) rfl ?_
                refine XS.iload X572.here hx rfl (hb hby at_259) rfl ?_
                show own_S p e below m T572 261 #[lvJ q0_, .second, lvJ q1_, .second, lvJ q2_, .second, lvJ q3_, .second, lvI p4_, lvI (1 : Int32), lvI (1 : Int32), lvI (1 : Int32), lvI (1 : Int32), lvR w14_, lvR w23_, lvR b31, lvR b40, lvJ (4 : Int64), .second] [(.int (1 : Int32)), (.long q1_), (.int (1 : Int32)), (.long (own_max (own_max (-9223372036854775808 : Int64) q1_) (own_max (-9223372036854775808 : Int64) q3_)))] _
                refine XS.lload X572.here hx rfl (hb hby at_261) rfl ?_
                show own_S p e below m T572 263 #[lvJ q0_, .second, lvJ q1_, .second, lvJ q2_, .second, lvJ q3_, .second, lvI p4_, lvI (1 : Int32), lvI (1 : Int32), lvI (1 : Int32), lvI (1 : Int32), lvR w14_, lvR w23_, lvR b31, lvR b40, lvJ (4 : Int64), .second] [(.long q3_), (.int (1 : Int32)), (.long q1_), (.int (1 : Int32)), (.long (own_max (own_max (-9223372036854775808 : Int64) q1_) (own_max (-9223372036854775808 : Int64) q3_)))] _
                refine st574 _ ?_
                refine XS.lcmp X574.here hx rfl (hb hby at_266) rfl ?_
                show own_S p e below m T574 267 #[lvJ q0_, .second, lvJ q1_, .second, lvJ q2_, .second, lvJ q3_, .second, lvI p4_, lvI (1 : Int32), lvI (1 : Int32), lvI (1 : Int32), lvI (1 : Int32), lvR w14_, lvR w23_, lvR b31, lvR b40, lvJ (4 : Int64), .second] [(.int (lcmpW (own_max (own_max (-9223372036854775808 : Int64) q1_) (own_max (-9223372036854775808 : Int64) q3_)) q3_))] _
                refine XS.ifNo X574.here hx rfl (hb hby at_267) rfl ((if0 _ _).trans (teq ((lw_eq _ _).mpr (by simp only [own_minl, own_minr] <;> first | (rfl) | (exact own_ml hq570_0_0) | (exact own_mr hq574_1_0)))).2) ?_
                refine XS.iconst X574.here hx rfl (hb hby at_270) ?_
                refine XS.goto X574.here hx rfl (pc0 := 271) (pc' := 275) rfl (hb hby at_271) (by decide) (by decide) ?_
                exact kt
              obtain ⟨fs, hr, hrun, hended, hW, hsame⟩ := X574.leave (v := some (.int (1 : Int32))) (fun h => by rw [Bd.returns] at h; cases h)
              refine ⟨_, _, hG _ (pre578 _ (retN X574 hx (t := .boolean) Bd.returns (by simp) (hb hby at_275) hr)), hrun, hended, _, _, rfl, ?_, ⟨_, rfl⟩, hW, hsame.mono (by decide) (by decide)⟩
              show QLaw Z q0_ q1_ q2_ q3_ p4_ w_PUT w_DELETE_COLUMN w_DELETE_FAMILY h0 n0 _ T574.heap _
              rw [e574']
              exact ⟨rfl, N575⟩
          · obtain ⟨cq580, kq580, q580a, q580b, q580c⟩ := isOf hZ e570' g554_0
            obtain ⟨_, _, ⟨T580, L580, k580, n580⟩, -, X580, ⟨Lc580, hQ580, l580, y580, z580⟩, st580⟩ := X570.virtualBack hx (y := (⟨"com/example/zenodotus/zenodotus/io/RowCodec$Tally", "latestDeleteTimestamp", "()J"⟩ : MethodName)) (z := (⟨"com/example/zenodotus/zenodotus/io/RowCodec$Tally", "latestDeleteTimestamp", "()J"⟩ : MethodName)) hown (mvT hZ (own_w hw 50 rfl)) (mvT hZ (own_w hw 51 rfl)) (notFace_of_selects (args := #[]) (mvT hZ (own_w hw 53 rfl))) (mvT hZ (own_w hw 53 rfl)) (mvT hZ (own_w hw 52 rfl)) (by decide) (backOf (W := 0) (rmlatestDeleteTimestamp39 l Z a0 hw [] b31 (own_max (own_max (-9223372036854775808 : Int64) q0_) (own_max (-9223372036854775808 : Int64) q2_)) (own_max (own_max (-9223372036854775808 : Int64) q1_) (own_max (-9223372036854775808 : Int64) q3_)) h554 n0 f566 g554_0 g554_1 g554_2 g554_3) hZ (own_w hw 54 rfl) (own_w hw 5 rfl) (by decide) (by decide)) q580a q580c (g := (mkF m 253 #[lvJ q0_, .second, lvJ q1_, .second, lvJ q2_, .second, lvJ q3_, .second, lvI p4_, lvI (1 : Int32), lvI (1 : Int32), lvI (1 : Int32), lvI (1 : Int32), lvR w14_, lvR w23_, lvR b31, lvR b40, lvJ (4 : Int64), .second] [(.ref b31)])) rfl (by rw [hml]; rfl) (Steps.refl _) (argsL := []) (rest := []) (lenOf pd_3 rfl) rfl (by show 2 * 0 + _ ≤ _; exact Nat.le_of_eq rfl) (hb hby at_253) (fun _ _ => ⟨rfl, e570', (by decide : 2 + 0 ≤ _), (by decide : 6 + 0 ≤ _)⟩)
            dsimp only [Pt.U, Pt.locs, Pt.cells, Pt.slots] at X580 l580 y580 z580 st580 hQ580
            subst l580 y580 z580
            obtain ⟨h580, e580⟩ : ∃ z, T580.heap = z := ⟨_, rfl⟩
            rw [e580] at hQ580
            obtain ⟨rfl, N580q, hh580⟩ := hQ580
            have N581 := Fr.app N571 N580q
            have e580' : T580.heap = h554 := e580.trans hh580
            obtain ⟨_, _, ⟨T582, L582, k582, n582⟩, -, X582, ⟨Lc582, hQ582, l582, y582, z582⟩, st582⟩ := Jvm.LawKit.callS X580 hx (y := (⟨"com/example/zenodotus/zenodotus/io/TallyAddPinLaw", "expect", "(ZJZJ)J"⟩ : MethodName)) hown (mvT hZ (own_w hw 46 rfl)) (mvT hZ (own_w hw 47 rfl)) (mvT hZ (own_w hw 48 rfl)) (mvT hZ (own_w hw 49 rfl)) (by decide) (backOf (W := 2) (rmexpect23 l Z a0 hw [] q1_ q3_ h554 n0 f566 ) hZ (own_w hw 49 rfl) (own_w hw 48 rfl) (by decide) (by decide)) (g := (mkF m 263 #[lvJ q0_, .second, lvJ q1_, .second, lvJ q2_, .second, lvJ q3_, .second, lvI p4_, lvI (1 : Int32), lvI (1 : Int32), lvI (1 : Int32), lvI (1 : Int32), lvR w14_, lvR w23_, lvR b31, lvR b40, lvJ (4 : Int64), .second] [(.long q3_), (.int (1 : Int32)), (.long q1_), (.int (1 : Int32)), (.long (own_max (own_max (-9223372036854775808 : Int64) q1_) (own_max (-9223372036854775808 : Int64) q3_)))])) rfl (by rw [hml]; rfl) (argsL := [(.int (1 : Int32)), (.long q1_), (.int (1 : Int32)), (.long q3_)]) (rest := [(.long (own_max (own_max (-9223372036854775808 : Int64) q1_) (own_max (-9223372036854775808 : Int64) q3_)))]) (lenOf pd_4 rfl) rfl (by show 2 * 0 + _ ≤ _; exact Nat.le_of_eq rfl) (hb hby at_263) (fun _ _ => ⟨rfl, e580', (by decide : 2 + 0 ≤ _), (by decide : 6 + 0 ≤ _)⟩)
            dsimp only [Pt.U, Pt.locs, Pt.cells, Pt.slots] at X582 l582 y582 z582 st582 hQ582
            subst l582 y582 z582
            obtain ⟨h582, e582⟩ : ∃ z, T582.heap = z := ⟨_, rfl⟩
            rw [e582] at hQ582
            obtain ⟨rr582, rfl, hs582, N582q, hh582⟩ := hQ582
            have N583 := Fr.app N581 N582q
            have e582' : T582.heap = h554 := e582.trans hh582
            rcases hs582 with ⟨rfl, hq582_0_0⟩ | ⟨rfl, hq582_1_0⟩
            · have pre584 : ∀ t, own_S p e below m T582 275 #[lvJ q0_, .second, lvJ q1_, .second, lvJ q2_, .second, lvJ q3_, .second, lvI p4_, lvI (1 : Int32), lvI (1 : Int32), lvI (1 : Int32), lvI (1 : Int32), lvR w14_, lvR w23_, lvR b31, lvR b40, lvJ (4 : Int64), .second] [(.int (1 : Int32))] t → G t := by
                intro t kt
                refine pre523 t ?_
                show own_S p e below m T513 157 #[lvJ q0_, .second, lvJ q1_, .second, lvJ q2_, .second, lvJ q3_, .second, lvI p4_, lvI (1 : Int32), lvI (1 : Int32), lvI (1 : Int32), lvI (1 : Int32), lvR w14_, lvR w23_, lvR b31, lvR b40, .unset, .unset] [(.int (1 : Int32))] _
                refine XS.ifNo X513.here hx rfl (hb hby at_157) rfl ((if0 _ _).trans (feq (by decide : ¬ ((1 : Int32) = (0 : Int32)))).1) ?_
                refine XS.aload X513.here hx rfl (hb hby at_160) rfl rfl ?_
                refine XS.aload X513.here hx rfl (hb hby at_162) rfl rfl ?_
                refine XS.lload X513.here hx rfl (hb hby at_164) rfl ?_
                show own_S p e below m T513 166 #[lvJ q0_, .second, lvJ q1_, .second, lvJ q2_, .second, lvJ q3_, .second, lvI p4_, lvI (1 : Int32), lvI (1 : Int32), lvI (1 : Int32), lvI (1 : Int32), lvR w14_, lvR w23_, lvR b31, lvR b40, .unset, .unset] [(.long q3_), (.ref w23_), (.ref b40)] _
                refine st551.trans ?_
                refine XS.aload X551.here hx rfl (hb hby at_169) rfl rfl ?_
                refine XS.aload X551.here hx rfl (hb hby at_171) rfl rfl ?_
                show own_S p e below m T551 173 #[lvJ q0_, .second, lvJ q1_, .second, lvJ q2_, .second, lvJ q3_, .second, lvI p4_, lvI (1 : Int32), lvI (1 : Int32), lvI (1 : Int32), lvI (1 : Int32), lvR w14_, lvR w23_, lvR b31, lvR b40, .unset, .unset] [(.ref b40), (.ref b31)] _
                refine st554.trans ?_
                refine XS.iload X554.here hx rfl (hb hby at_176) rfl ?_
                show own_S p e below m T554 178 #[lvJ q0_, .second, lvJ q1_, .second, lvJ q2_, .second, lvJ q3_, .second, lvI p4_, lvI (1 : Int32), lvI (1 : Int32), lvI (1 : Int32), lvI (1 : Int32), lvR w14_, lvR w23_, lvR b31, lvR b40, .unset, .unset] [(.int (1 : Int32))] _
                refine XS.ifNo X554.here hx rfl (hb hby at_178) rfl ((if0 _ _).trans (feq (by decide : ¬ ((1 : Int32) = (0 : Int32)))).1) ?_
                refine XS.lconst X554.here hx rfl (hb hby at_181) ?_
                refine XS.goto X554.here hx rfl (pc0 := 182) (pc' := 186) rfl (hb hby at_182) (by decide) (by decide) ?_
                refine XS.iload X554.here hx rfl (hb hby at_186) rfl ?_
                show own_S p e below m T554 188 #[lvJ q0_, .second, lvJ q1_, .second, lvJ q2_, .second, lvJ q3_, .second, lvI p4_, lvI (1 : Int32), lvI (1 : Int32), lvI (1 : Int32), lvI (1 : Int32), lvR w14_, lvR w23_, lvR b31, lvR b40, .unset, .unset] [(.int (1 : Int32)), (.long (1 : Int64))] _
                refine XS.ifNo X554.here hx rfl (hb hby at_188) rfl ((if0 _ _).trans (feq (by decide : ¬ ((1 : Int32) = (0 : Int32)))).1) ?_
                refine XS.lconst X554.here hx rfl (hb hby at_191) ?_
                refine XS.goto X554.here hx rfl (pc0 := 192) (pc' := 196) rfl (hb hby at_192) (by decide) (by decide) ?_
                refine XS.ladd X554.here hx rfl (hb hby at_196) rfl ?_
                show own_S p e below m T554 197 #[lvJ q0_, .second, lvJ q1_, .second, lvJ q2_, .second, lvJ q3_, .second, lvI p4_, lvI (1 : Int32), lvI (1 : Int32), lvI (1 : Int32), lvI (1 : Int32), lvR w14_, lvR w23_, lvR b31, lvR b40, .unset, .unset] [(.long (2 : Int64))] _
                refine XS.iload X554.here hx rfl (hb hby at_197) rfl ?_
                show own_S p e below m T554 199 #[lvJ q0_, .second, lvJ q1_, .second, lvJ q2_, .second, lvJ q3_, .second, lvI p4_, lvI (1 : Int32), lvI (1 : Int32), lvI (1 : Int32), lvI (1 : Int32), lvR w14_, lvR w23_, lvR b31, lvR b40, .unset, .unset] [(.int (1 : Int32)), (.long (2 : Int64))] _
                refine XS.ifNo X554.here hx rfl (hb hby at_199) rfl ((if0 _ _).trans (feq (by decide : ¬ ((1 : Int32) = (0 : Int32)))).1) ?_
                refine XS.lconst X554.here hx rfl (hb hby at_202) ?_
                refine XS.goto X554.here hx rfl (pc0 := 203) (pc' := 207) rfl (hb hby at_203) (by decide) (by decide) ?_
                refine XS.ladd X554.here hx rfl (hb hby at_207) rfl ?_
                show own_S p e below m T554 208 #[lvJ q0_, .second, lvJ q1_, .second, lvJ q2_, .second, lvJ q3_, .second, lvI p4_, lvI (1 : Int32), lvI (1 : Int32), lvI (1 : Int32), lvI (1 : Int32), lvR w14_, lvR w23_, lvR b31, lvR b40, .unset, .unset] [(.long (3 : Int64))] _
                refine XS.iload X554.here hx rfl (hb hby at_208) rfl ?_
                show own_S p e below m T554 210 #[lvJ q0_, .second, lvJ q1_, .second, lvJ q2_, .second, lvJ q3_, .second, lvI p4_, lvI (1 : Int32), lvI (1 : Int32), lvI (1 : Int32), lvI (1 : Int32), lvR w14_, lvR w23_, lvR b31, lvR b40, .unset, .unset] [(.int (1 : Int32)), (.long (3 : Int64))] _
                refine XS.ifNo X554.here hx rfl (hb hby at_210) rfl ((if0 _ _).trans (feq (by decide : ¬ ((1 : Int32) = (0 : Int32)))).1) ?_
                refine XS.lconst X554.here hx rfl (hb hby at_213) ?_
                refine XS.goto X554.here hx rfl (pc0 := 214) (pc' := 218) rfl (hb hby at_214) (by decide) (by decide) ?_
                refine XS.ladd X554.here hx rfl (hb hby at_218) rfl ?_
                show own_S p e below m T554 219 #[lvJ q0_, .second, lvJ q1_, .second, lvJ q2_, .second, lvJ q3_, .second, lvI p4_, lvI (1 : Int32), lvI (1 : Int32), lvI (1 : Int32), lvI (1 : Int32), lvR w14_, lvR w23_, lvR b31, lvR b40, .unset, .unset] [(.long (4 : Int64))] _
                refine XS.lstore X554.here hx rfl (hb hby at_219) rfl (l' := #[lvJ q0_, .second, lvJ q1_, .second, lvJ q2_, .second, lvJ q3_, .second, lvI p4_, lvI (1 : Int32), lvI (1 : Int32), lvI (1 : Int32), lvI (1 : Int32), lvR w14_, lvR w23_, lvR b31, lvR b40, lvJ (4 : Int64), .second]) rfl ?_
                refine XS.aload X554.here hx rfl (hb hby at_221) rfl rfl ?_
                show own_S p e below m T554 223 #[lvJ q0_, .second, lvJ q1_, .second, lvJ q2_, .second, lvJ q3_, .second, lvI p4_, lvI (1 : Int32), lvI (1 : Int32), lvI (1 : Int32), lvI (1 : Int32), lvR w14_, lvR w23_, lvR b31, lvR b40, lvJ (4 : Int64), .second] [(.ref b31)] _
                refine st565.trans ?_
                refine XS.lload X565.here hx rfl (hb hby at_226) rfl ?_
                refine XS.lcmp X565.here hx rfl (hb hby at_228) rfl ?_
                show own_S p e below m T565 229 #[lvJ q0_, .second, lvJ q1_, .second, lvJ q2_, .second, lvJ q3_, .second, lvI p4_, lvI (1 : Int32), lvI (1 : Int32), lvI (1 : Int32), lvI (1 : Int32), lvR w14_, lvR w23_, lvR b31, lvR b40, lvJ (4 : Int64), .second] [(.int (lcmpW (4 : Int64) (4 : Int64)))] _
                refine XS.ifNo X565.here hx rfl (hb hby at_229) rfl ((if0 _ _).trans (teq ((lw_eq _ _).mpr (by decide : (4 : Int64) = (4 : Int64)))).2) ?_
                refine XS.aload X565.here hx rfl (hb hby at_232) rfl rfl ?_
                show own_S p e below m T565 234 #[lvJ q0_, .second, lvJ q1_, .second, lvJ q2_, .second, lvJ q3_, .second, lvI p4_, lvI (1 : Int32), lvI (1 : Int32), lvI (1 : Int32), lvI (1 : Int32), lvR w14_, lvR w23_, lvR b31, lvR b40, lvJ (4 : Int64), .second] [(.ref b31)] _
                refine st568.trans ?_
                refine XS.iload X568.here hx rfl (hb hby at_237) rfl ?_
                refine XS.lloadN X568.here hx rfl (hb hby at_239) rfl ?_
                refine XS.iload X568.here hx rfl (hb hby at_240) rfl ?_
                show own_S p e below m T568 242 #[lvJ q0_, .second, lvJ q1_, .second, lvJ q2_, .second, lvJ q3_, .second, lvI p4_, lvI (1 : Int32), lvI (1 : Int32), lvI (1 : Int32), lvI (1 : Int32), lvR w14_, lvR w23_, lvR b31, lvR b40, lvJ (4 : Int64), .second] [(.int (1 : Int32)), (.long q0_), (.int (1 : Int32)), (.long (own_max (own_max (-9223372036854775808 : Int64) q0_) (own_max (-9223372036854775808 : Int64) q2_)))] _
                refine XS.lload X568.here hx rfl (hb hby at_242) rfl ?_
                show own_S p e below m T568 244 #[lvJ q0_, .second, lvJ q1_, .second, lvJ q2_, .second, lvJ q3_, .second, lvI p4_, lvI (1 : Int32), lvI (1 : Int32), lvI (1 : Int32), lvI (1 : Int32), lvR w14_, lvR w23_, lvR b31, lvR b40, lvJ (4 : Int64), .second] [(.long q2_), (.int (1 : Int32)), (.long q0_), (.int (1 : Int32)), (.long (own_max (own_max (-9223372036854775808 : Int64) q0_) (own_max (-9223372036854775808 : Int64) q2_)))] _
                refine st570 _ ?_
                refine XS.lcmp X570.here hx rfl (hb hby at_247) rfl ?_
                show own_S p e below m T570 248 #[lvJ q0_, .second, lvJ q1_, .second, lvJ q2_, .second, lvJ q3_, .second, lvI p4_, lvI (1 : Int32), lvI (1 : Int32), lvI (1 : Int32), lvI (1 : Int32), lvR w14_, lvR w23_, lvR b31, lvR b40, lvJ (4 : Int64), .second] [(.int (lcmpW (own_max (own_max (-9223372036854775808 : Int64) q0_) (own_max (-9223372036854775808 : Int64) q2_)) q2_))] _
                refine XS.ifNo X570.here hx rfl (hb hby at_248) rfl ((if0 _ _).trans (teq ((lw_eq _ _).mpr (by simp only [own_minl, own_minr] <;> first | (rfl) | (exact own_mr hq570_1_0)))).2) ?_
                refine XS.aload X570.here hx rfl (hb hby at_251) rfl rfl ?_
                show own_S p e below m T570 253 #[lvJ q0_, .second, lvJ q1_, .second, lvJ q2_, .second, lvJ q3_, .second, lvI p4_, lvI (1 : Int32), lvI (1 : Int32), lvI (1 : Int32), lvI (1 : Int32), lvR w14_, lvR w23_, lvR b31, lvR b40, lvJ (4 : Int64), .second] [(.ref b31)] _
                refine st580.trans ?_
                refine XS.iload X580.here hx rfl (hb hby at_256) rfl ?_
                refine XS.lloadN X580.here hx rfl (hb hby at_258) rfl ?_
                refine XS.iload X580.here hx rfl (hb hby at_259) rfl ?_
                show own_S p e below m T580 261 #[lvJ q0_, .second, lvJ q1_, .second, lvJ q2_, .second, lvJ q3_, .second, lvI p4_, lvI (1 : Int32), lvI (1 : Int32), lvI (1 : Int32), lvI (1 : Int32), lvR w14_, lvR w23_, lvR b31, lvR b40, lvJ (4 : Int64), .second] [(.int (1 : Int32)), (.long q1_), (.int (1 : Int32)), (.long (own_max (own_max (-9223372036854775808 : Int64) q1_) (own_max (-9223372036854775808 : Int64) q3_)))] _
                refine XS.lload X580.here hx rfl (hb hby at_261) rfl ?_
                show own_S p e below m T580 263 #[lvJ q0_, .second, lvJ q1_, .second, lvJ q2_, .second, lvJ q3_, .second, lvI p4_, lvI (1 : Int32), lvI (1 : Int32), lvI (1 : Int32), lvI (1 : Int32), lvR w14_, lvR w23_, lvR b31, lvR b40, lvJ (4 : Int64), .second] [(.long q3_), (.int (1 : Int32)), (.long q1_), (.int (1 : Int32)), (.long (own_max (own_max (-9223372036854775808 : Int64) q1_) (own_max (-9223372036854775808 : Int64) q3_)))] _
                refine st582 _ ?_
                refine XS.lcmp X582.here hx rfl (hb hby at_266) rfl ?_
                show own_S p e below m T582 267 #[lvJ q0_, .second, lvJ q1_, .second, lvJ q2_, .second, lvJ q3_, .second, lvI p4_, lvI (1 : Int32), lvI (1 : Int32), lvI (1 : Int32), lvI (1 : Int32), lvR w14_, lvR w23_, lvR b31, lvR b40, lvJ (4 : Int64), .second] [(.int (lcmpW (own_max (own_max (-9223372036854775808 : Int64) q1_) (own_max (-9223372036854775808 : Int64) q3_)) q1_))] _
                refine XS.ifNo X582.here hx rfl (hb hby at_267) rfl ((if0 _ _).trans (teq ((lw_eq _ _).mpr (by simp only [own_minl, own_minr] <;> first | (rfl) | (exact own_mr hq570_1_0) | (exact own_ml hq582_0_0)))).2) ?_
                refine XS.iconst X582.here hx rfl (hb hby at_270) ?_
                refine XS.goto X582.here hx rfl (pc0 := 271) (pc' := 275) rfl (hb hby at_271) (by decide) (by decide) ?_
                exact kt
              obtain ⟨fs, hr, hrun, hended, hW, hsame⟩ := X582.leave (v := some (.int (1 : Int32))) (fun h => by rw [Bd.returns] at h; cases h)
              refine ⟨_, _, hG _ (pre584 _ (retN X582 hx (t := .boolean) Bd.returns (by simp) (hb hby at_275) hr)), hrun, hended, _, _, rfl, ?_, ⟨_, rfl⟩, hW, hsame.mono (by decide) (by decide)⟩
              show QLaw Z q0_ q1_ q2_ q3_ p4_ w_PUT w_DELETE_COLUMN w_DELETE_FAMILY h0 n0 _ T582.heap _
              rw [e582']
              exact ⟨rfl, N583⟩
            · have pre586 : ∀ t, own_S p e below m T582 275 #[lvJ q0_, .second, lvJ q1_, .second, lvJ q2_, .second, lvJ q3_, .second, lvI p4_, lvI (1 : Int32), lvI (1 : Int32), lvI (1 : Int32), lvI (1 : Int32), lvR w14_, lvR w23_, lvR b31, lvR b40, lvJ (4 : Int64), .second] [(.int (1 : Int32))] t → G t := by
                intro t kt
                refine pre523 t ?_
                show own_S p e below m T513 157 #[lvJ q0_, .second, lvJ q1_, .second, lvJ q2_, .second, lvJ q3_, .second, lvI p4_, lvI (1 : Int32), lvI (1 : Int32), lvI (1 : Int32), lvI (1 : Int32), lvR w14_, lvR w23_, lvR b31, lvR b40, .unset, .unset] [(.int (1 : Int32))] _
                refine XS.ifNo X513.here hx rfl (hb hby at_157) rfl ((if0 _ _).trans (feq (by decide : ¬ ((1 : Int32) = (0 : Int32)))).1) ?_
                refine XS.aload X513.here hx rfl (hb hby at_160) rfl rfl ?_
                refine XS.aload X513.here hx rfl (hb hby at_162) rfl rfl ?_
                refine XS.lload X513.here hx rfl (hb hby at_164) rfl ?_
                show own_S p e below m T513 166 #[lvJ q0_, .second, lvJ q1_, .second, lvJ q2_, .second, lvJ q3_, .second, lvI p4_, lvI (1 : Int32), lvI (1 : Int32), lvI (1 : Int32), lvI (1 : Int32), lvR w14_, lvR w23_, lvR b31, lvR b40, .unset, .unset] [(.long q3_), (.ref w23_), (.ref b40)] _
                refine st551.trans ?_
                refine XS.aload X551.here hx rfl (hb hby at_169) rfl rfl ?_
                refine XS.aload X551.here hx rfl (hb hby at_171) rfl rfl ?_
                show own_S p e below m T551 173 #[lvJ q0_, .second, lvJ q1_, .second, lvJ q2_, .second, lvJ q3_, .second, lvI p4_, lvI (1 : Int32), lvI (1 : Int32), lvI (1 : Int32), lvI (1 : Int32), lvR w14_, lvR w23_, lvR b31, lvR b40, .unset, .unset] [(.ref b40), (.ref b31)] _
                refine st554.trans ?_
                refine XS.iload X554.here hx rfl (hb hby at_176) rfl ?_
                show own_S p e below m T554 178 #[lvJ q0_, .second, lvJ q1_, .second, lvJ q2_, .second, lvJ q3_, .second, lvI p4_, lvI (1 : Int32), lvI (1 : Int32), lvI (1 : Int32), lvI (1 : Int32), lvR w14_, lvR w23_, lvR b31, lvR b40, .unset, .unset] [(.int (1 : Int32))] _
                refine XS.ifNo X554.here hx rfl (hb hby at_178) rfl ((if0 _ _).trans (feq (by decide : ¬ ((1 : Int32) = (0 : Int32)))).1) ?_
                refine XS.lconst X554.here hx rfl (hb hby at_181) ?_
                refine XS.goto X554.here hx rfl (pc0 := 182) (pc' := 186) rfl (hb hby at_182) (by decide) (by decide) ?_
                refine XS.iload X554.here hx rfl (hb hby at_186) rfl ?_
                show own_S p e below m T554 188 #[lvJ q0_, .second, lvJ q1_, .second, lvJ q2_, .second, lvJ q3_, .second, lvI p4_, lvI (1 : Int32), lvI (1 : Int32), lvI (1 : Int32), lvI (1 : Int32), lvR w14_, lvR w23_, lvR b31, lvR b40, .unset, .unset] [(.int (1 : Int32)), (.long (1 : Int64))] _
                refine XS.ifNo X554.here hx rfl (hb hby at_188) rfl ((if0 _ _).trans (feq (by decide : ¬ ((1 : Int32) = (0 : Int32)))).1) ?_
                refine XS.lconst X554.here hx rfl (hb hby at_191) ?_
                refine XS.goto X554.here hx rfl (pc0 := 192) (pc' := 196) rfl (hb hby at_192) (by decide) (by decide) ?_
                refine XS.ladd X554.here hx rfl (hb hby at_196) rfl ?_
                show own_S p e below m T554 197 #[lvJ q0_, .second, lvJ q1_, .second, lvJ q2_, .second, lvJ q3_, .second, lvI p4_, lvI (1 : Int32), lvI (1 : Int32), lvI (1 : Int32), lvI (1 : Int32), lvR w14_, lvR w23_, lvR b31, lvR b40, .unset, .unset] [(.long (2 : Int64))] _
                refine XS.iload X554.here hx rfl (hb hby at_197) rfl ?_
                show own_S p e below m T554 199 #[lvJ q0_, .second, lvJ q1_, .second, lvJ q2_, .second, lvJ q3_, .second, lvI p4_, lvI (1 : Int32), lvI (1 : Int32), lvI (1 : Int32), lvI (1 : Int32), lvR w14_, lvR w23_, lvR b31, lvR b40, .unset, .unset] [(.int (1 : Int32)), (.long (2 : Int64))] _
                refine XS.ifNo X554.here hx rfl (hb hby at_199) rfl ((if0 _ _).trans (feq (by decide : ¬ ((1 : Int32) = (0 : Int32)))).1) ?_
                refine XS.lconst X554.here hx rfl (hb hby at_202) ?_
                refine XS.goto X554.here hx rfl (pc0 := 203) (pc' := 207) rfl (hb hby at_203) (by decide) (by decide) ?_
                refine XS.ladd X554.here hx rfl (hb hby at_207) rfl ?_
                show own_S p e below m T554 208 #[lvJ q0_, .second, lvJ q1_, .second, lvJ q2_, .second, lvJ q3_, .second, lvI p4_, lvI (1 : Int32), lvI (1 : Int32), lvI (1 : Int32), lvI (1 : Int32), lvR w14_, lvR w23_, lvR b31, lvR b40, .unset, .unset] [(.long (3 : Int64))] _
                refine XS.iload X554.here hx rfl (hb hby at_208) rfl ?_
                show own_S p e below m T554 210 #[lvJ q0_, .second, lvJ q1_, .second, lvJ q2_, .second, lvJ q3_, .second, lvI p4_, lvI (1 : Int32), lvI (1 : Int32), lvI (1 : Int32), lvI (1 : Int32), lvR w14_, lvR w23_, lvR b31, lvR b40, .unset, .unset] [(.int (1 : Int32)), (.long (3 : Int64))] _
                refine XS.ifNo X554.here hx rfl (hb hby at_210) rfl ((if0 _ _).trans (feq (by decide : ¬ ((1 : Int32) = (0 : Int32)))).1) ?_
                refine XS.lconst X554.here hx rfl (hb hby at_213) ?_
                refine XS.goto X554.here hx rfl (pc0 := 214) (pc' := 218) rfl (hb hby at_214) (by decide) (by decide) ?_
                refine XS.ladd X554.here hx rfl (hb hby at_218) rfl ?_
                show own_S p e below m T554 219 #[lvJ q0_, .second, lvJ q1_, .second, lvJ q2_, .second, lvJ q3_, .second, lvI p4_, lvI (1 : Int32), lvI (1 : Int32), lvI (1 : Int32), lvI (1 : Int32), lvR w14_, lvR w23_, lvR b31, lvR b40, .unset, .unset] [(.long (4 : Int64))] _
                refine XS.lstore X554.here hx rfl (hb hby at_219) rfl (l' := #[lvJ q0_, .second, lvJ q1_, .second, lvJ q2_, .second, lvJ q3_, .second, lvI p4_, lvI (1 : Int32), lvI (1 : Int32), lvI (1 : Int32), lvI (1 : Int32), lvR w14_, lvR w23_, lvR b31, lvR b40, lvJ (4 : Int64), .second]) rfl ?_
                refine XS.aload X554.here hx rfl (hb hby at_221) rfl rfl ?_
                show own_S p e below m T554 223 #[lvJ q0_, .second, lvJ q1_, .second, lvJ q2_, .second, lvJ q3_, .second, lvI p4_, lvI (1 : Int32), lvI (1 : Int32), lvI (1 : Int32), lvI (1 : Int32), lvR w14_, lvR w23_, lvR b31, lvR b40, lvJ (4 : Int64), .second] [(.ref b31)] _
                refine st565.trans ?_
                refine XS.lload X565.here hx rfl (hb hby at_226) rfl ?_
                refine XS.lcmp X565.here hx rfl (hb hby at_228) rfl ?_
                show own_S p e below m T565 229 #[lvJ q0_, .second, lvJ q1_, .second, lvJ q2_, .second, lvJ q3_, .second, lvI p4_, lvI (1 : Int32), lvI (1 : Int32), lvI (1 : Int32), lvI (1 : Int32), lvR w14_, lvR w23_, lvR b31, lvR b40, lvJ (4 : Int64), .second] [(.int (lcmpW (4 : Int64) (4 : Int64)))] _
                refine XS.ifNo X565.here hx rfl (hb hby at_229) rfl ((if0 _ _).trans (teq ((lw_eq _ _).mpr (by decide : (4 : Int64) = (4 : Int64)))).2) ?_
                refine XS.aload X565.here hx rfl (hb hby at_232) rfl rfl ?_
                show own_S p e below m T565 234 #[lvJ q0_, .second, lvJ q1_, .second, lvJ q2_, .second, lvJ q3_, .second, lvI p4_, lvI (1 : Int32), lvI (1 : Int32), lvI (1 : Int32), lvI (1 : Int32), lvR w14_, lvR w23_, lvR b31, lvR b40, lvJ (4 : Int64), .second] [(.ref b31)] _
                refine st568.trans ?_
                refine XS.iload X568.here hx rfl (hb hby at_237) rfl ?_
                refine XS.lloadN X568.here hx rfl (hb hby at_239) rfl ?_
                refine XS.iload X568.here hx rfl (hb hby at_240) rfl ?_
                show own_S p e below m T568 242 #[lvJ q0_, .second, lvJ q1_, .second, lvJ q2_, .second, lvJ q3_, .second, lvI p4_, lvI (1 : Int32), lvI (1 : Int32), lvI (1 : Int32), lvI (1 : Int32), lvR w14_, lvR w23_, lvR b31, lvR b40, lvJ (4 : Int64), .second] [(.int (1 : Int32)), (.long q0_), (.int (1 : Int32)), (.long (own_max (own_max (-9223372036854775808 : Int64) q0_) (own_max (-9223372036854775808 : Int64) q2_)))] _
                refine XS.lload X568.here hx rfl (hb hby at_242) rfl ?_
                show own_S p e below m T568 244 #[lvJ q0_, .second, lvJ q1_, .second, lvJ q2_, .second, lvJ q3_, .second, lvI p4_, lvI (1 : Int32), lvI (1 : Int32), lvI (1 : Int32), lvI (1 : Int32), lvR w14_, lvR w23_, lvR b31, lvR b40, lvJ (4 : Int64), .second] [(.long q2_), (.int (1 : Int32)), (.long q0_), (.int (1 : Int32)), (.long (own_max (own_max (-9223372036854775808 : Int64) q0_) (own_max (-9223372036854775808 : Int64) q2_)))] _
                refine st570 _ ?_
                refine XS.lcmp X570.here hx rfl (hb hby at_247) rfl ?_
                show own_S p e below m T570 248 #[lvJ q0_, .second, lvJ q1_, .second, lvJ q2_, .second, lvJ q3_, .second, lvI p4_, lvI (1 : Int32), lvI (1 : Int32), lvI (1 : Int32), lvI (1 : Int32), lvR w14_, lvR w23_, lvR b31, lvR b40, lvJ (4 : Int64), .second] [(.int (lcmpW (own_max (own_max (-9223372036854775808 : Int64) q0_) (own_max (-9223372036854775808 : Int64) q2_)) q2_))] _
                refine XS.ifNo X570.here hx rfl (hb hby at_248) rfl ((if0 _ _).trans (teq ((lw_eq _ _).mpr (by simp only [own_minl, own_minr] <;> first | (rfl) | (exact own_mr hq570_1_0)))).2) ?_
                refine XS.aload X570.here hx rfl (hb hby at_251) rfl rfl ?_
                show own_S p e below m T570 253 #[lvJ q0_, .second, lvJ q1_, .second, lvJ q2_, .second, lvJ q3_, .second, lvI p4_, lvI (1 : Int32), lvI (1 : Int32), lvI (1 : Int32), lvI (1 : Int32), lvR w14_, lvR w23_, lvR b31, lvR b40, lvJ (4 : Int64), .second] [(.ref b31)] _
                refine st580.trans ?_
                refine XS.iload X580.here hx rfl (hb hby at_256) rfl ?_
                refine XS.lloadN X580.here hx rfl (hb hby at_258) rfl ?_
                refine XS.iload X580.here hx rfl (hb hby at_259) rfl ?_
                show own_S p e below m T580 261 #[lvJ q0_, .second, lvJ q1_, .second, lvJ q2_, .second, lvJ q3_, .second, lvI p4_, lvI (1 : Int32), lvI (1 : Int32), lvI (1 : Int32), lvI (1 : Int32), lvR w14_, lvR w23_, lvR b31, lvR b40, lvJ (4 : Int64), .second] [(.int (1 : Int32)), (.long q1_), (.int (1 : Int32)), (.long (own_max (own_max (-9223372036854775808 : Int64) q1_) (own_max (-9223372036854775808 : Int64) q3_)))] _
                refine XS.lload X580.here hx rfl (hb hby at_261) rfl ?_
                show own_S p e below m T580 263 #[lvJ q0_, .second, lvJ q1_, .second, lvJ q2_, .second, lvJ q3_, .second, lvI p4_, lvI (1 : Int32), lvI (1 : Int32), lvI (1 : Int32), lvI (1 : Int32), lvR w14_, lvR w23_, lvR b31, lvR b40, lvJ (4 : Int64), .second] [(.long q3_), (.int (1 : Int32)), (.long q1_), (.int (1 : Int32)), (.long (own_max (own_max (-9223372036854775808 : Int64) q1_) (own_max (-9223372036854775808 : Int64) q3_)))] _
                refine st582 _ ?_
                refine XS.lcmp X582.here hx rfl (hb hby at_266) rfl ?_
                show own_S p e below m T582 267 #[lvJ q0_, .second, lvJ q1_, .second, lvJ q2_, .second, lvJ q3_, .second, lvI p4_, lvI (1 : Int32), lvI (1 : Int32), lvI (1 : Int32), lvI (1 : Int32), lvR w14_, lvR w23_, lvR b31, lvR b40, lvJ (4 : Int64), .second] [(.int (lcmpW (own_max (own_max (-9223372036854775808 : Int64) q1_) (own_max (-9223372036854775808 : Int64) q3_)) q3_))] _
                refine XS.ifNo X582.here hx rfl (hb hby at_267) rfl ((if0 _ _).trans (teq ((lw_eq _ _).mpr (by simp only [own_minl, own_minr] <;> first | (rfl) | (exact own_mr hq570_1_0) | (exact own_mr hq582_1_0)))).2) ?_
                refine XS.iconst X582.here hx rfl (hb hby at_270) ?_
                refine XS.goto X582.here hx rfl (pc0 := 271) (pc' := 275) rfl (hb hby at_271) (by decide) (by decide) ?_
                exact kt
              obtain ⟨fs, hr, hrun, hended, hW, hsame⟩ := X582.leave (v := some (.int (1 : Int32))) (fun h => by rw [Bd.returns] at h; cases h)
              refine ⟨_, _, hG _ (pre586 _ (retN X582 hx (t := .boolean) Bd.returns (by simp) (hb hby at_275) hr)), hrun, hended, _, _, rfl, ?_, ⟨_, rfl⟩, hW, hsame.mono (by decide) (by decide)⟩
              show QLaw Z q0_ q1_ q2_ q3_ p4_ w_PUT w_DELETE_COLUMN w_DELETE_FAMILY h0 n0 _ T582.heap _
              rw [e582']
              exact ⟨rfl, N583⟩
set_option maxRecDepth 65536 in
set_option maxHeartbeats 40000000 in
theorem comes_1 {Post : Tables → Env → Array Value → State → Outcome → State → Prop} (hpost : ∀ tb e args s v u, (limb_1_1.after args s (.returned v) u = true ∧ limb_1_2.after args s (.returned v) u = true ∧ True) → FrameEnd s (.returned v) u (Jvm.fieldLocs frame_1_writes args s ++ Jvm.arrayLocs frame_1_arrays args s ++ Jvm.staticLocs frame_1_statics s) 16 128 → Post tb e args s (.returned v) u) :
    ArmFor flags0 classFile x code maxLocals ret World_1 tables_1 room_1 Calls_1 rest_1 Pre_1 Post := by
  intro l hfl _ _ p e ha hc hk s m args below hf hA hF happ hP
  obtain ⟨hcalls, hrest, hpre⟩ := hP
  obtain ⟨-, -, -, hnamed, -, -, -, hat⟩ := (Spec.applies_iff hf).mp happ
  obtain ⟨hg, hn⟩ := and_e (Cond.before_iff.mp (show (Jvm.Cond.and given_1 narrow_1).before args s = true from hpre))
  obtain ⟨g1, g2⟩ := and_e hg
  obtain ⟨g3, g4⟩ := and_e g2
  obtain ⟨g5, g6⟩ := and_e g4
  obtain ⟨g7, g8⟩ := and_e g6
  obtain ⟨g9, g10⟩ := and_e g8
  obtain ⟨w0, w1, w2, w3, w4, rfl⟩ : ∃ w0 w1 w2 w3 w4 : Value, args = #[w0, w1, w2, w3, w4] := by
    have hs : args.size = 5 := by simpa [Cond.value, given_1] using g1
    obtain ⟨L⟩ := args
    match L, hs with
    | [w0, w1, w2, w3, w4], _ => exact ⟨w0, w1, w2, w3, w4, rfl⟩
  have hw := fun d (hd : d ∈ tables_1) => atoms_spec (ws := Jvm.Cond.code x code maxLocals ret :: tables_1) hat d (List.mem_cons_of_mem _ hd)
  have hfit : Fit s := fun {y c} hc i hi => by
    obtain ⟨ha, rfl⟩ := Array.getElem?_eq_some_iff.mp hc
    have q := List.all_eq_true.mp ((Array.all_eq_true_iff_forall_mem.mp hF) _ (Array.getElem_mem ha)) i (List.mem_range.mpr hi)
    simpa [Array.getElem?_eq_getElem hi] using q
  obtain ⟨i0, ei0⟩ := isL_v g3
  obtain rfl : w0 = (.long i0) := Option.some.inj ei0
  obtain ⟨i1, ei1⟩ := isL_v g5
  obtain rfl : w1 = (.long i1) := Option.some.inj ei1
  obtain ⟨i2, ei2⟩ := isL_v g7
  obtain rfl : w2 = (.long i2) := Option.some.inj ei2
  obtain ⟨i3, ei3⟩ := isL_v g9
  obtain rfl : w3 = (.long i3) := Option.some.inj ei3
  obtain ⟨i4, ei4⟩ := is_v g10
  obtain rfl : w4 = (.int i4) := Option.some.inj ei4
  obtain ⟨g11, g12⟩ := and_e hn
  obtain ⟨g13, g14⟩ := and_e g12
  obtain ⟨g15, g16⟩ := and_e g14
  obtain ⟨g17, g18⟩ := and_e g16
  obtain ⟨g19, g20⟩ := and_e g18
  obtain ⟨w_DELETE_COLUMN, ev_w_DELETE_COLUMN⟩ := exa_v g11
  have S_w_DELETE_COLUMN := Sta.start ev_w_DELETE_COLUMN (Or.inr ⟨(own_w hw 1 rfl), (own_w hw 2 rfl)⟩)
  have E_w_DELETE_COLUMN := Exa.start ev_w_DELETE_COLUMN g11
  obtain ⟨w_PUT, ev_w_PUT⟩ := exa_v g13
  have S_w_PUT := Sta.start ev_w_PUT (Or.inr ⟨(own_w hw 1 rfl), (own_w hw 18 rfl)⟩)
  have E_w_PUT := Exa.start ev_w_PUT g13
  obtain ⟨w_DELETE_FAMILY, ev_w_DELETE_FAMILY⟩ := exa_v g19
  have S_w_DELETE_FAMILY := Sta.start ev_w_DELETE_FAMILY (Or.inr ⟨(own_w hw 1 rfl), (own_w hw 56 rfl)⟩)
  have E_w_DELETE_FAMILY := Exa.start ev_w_DELETE_FAMILY g19
  have F_ordinal_w_DELETE_COLUMN := Fld.start ((fld_at ev_w_DELETE_COLUMN).symm.trans (own_eqi g15))
  have F_ordinal_w_PUT := Fld.start ((fld_at ev_w_PUT).symm.trans (own_eqi g17))
  have F_ordinal_w_DELETE_FAMILY := Fld.start ((fld_at ev_w_DELETE_FAMILY).symm.trans (own_eqi g20))
  obtain ⟨n, o, h1, h2, h3, _, L, rfl, ⟨rfl, N⟩, hq⟩ := rmLaw l s _ hw tables_1 i0 i1 i2 i3 i4 w_PUT w_DELETE_COLUMN w_DELETE_FAMILY s.heap s.heap.size (Old.start s) S_w_PUT E_w_PUT F_ordinal_w_PUT S_w_DELETE_COLUMN E_w_DELETE_COLUMN F_ordinal_w_DELETE_COLUMN S_w_DELETE_FAMILY E_w_DELETE_FAMILY F_ordinal_w_DELETE_FAMILY p e ha hc hk s m _ below hf ((Spec.applies_iff_loose hf).mp happ).1 ⟨rfl, State.Warmed39.refl s, rfl⟩ trivial
  refine ⟨n, _, h1, h2, h3, hpost _ _ _ _ _ _ ⟨Cond.after_iff.mpr rfl, Cond.after_iff.mpr (eq_i res_at (Term.int_eval (1)) rfl), trivial⟩ ⟨hq.1, hq.2.1, (hq.2.2.sift fun y hy => Or.inr (N y hy)).mono (by decide) (by decide)⟩⟩
theorem main_1_1 : Claimed_1_1 := comes_1 fun _ _ _ _ _ _ h hF => ⟨h.1, hF⟩
theorem main_1_2 : Claimed_1_2 := comes_1 fun _ _ _ _ _ _ h hF => ⟨h.2.1, hF⟩
end Jvm.Pilot.@@N@@
namespace Jvm.Pilot.@@N@@
open Jvm Jvm.ClassFile Sem Op Lib Jvm.Free Jvm.Stand Jvm.Pilot.@@N@@.Jvm.D
/-! MADE BY PROGRAM (witnessworld.py) out of the Statement's table words and the real class files: 14 classes; the members and pool entries that the words name. The judged class is class 1, her method 2. -/
namespace start1
open Jvm.ClassFile
def u (s : String) : CpInfo := .utf8 (stringToUtf16 s)
/-- a pool by its gaps: so many unusable entries, then the entry; so many at the end -/
def gap : Nat → List CpInfo → List CpInfo
  | 0, r => r
  | n + 1, r => .unusable :: gap n r
def poolList (es : List (Nat × CpInfo)) (last : Nat) : List CpInfo := es.foldr (fun e r => gap e.1 (e.2 :: r)) (gap last [])
def pool (es : List (Nat × CpInfo)) (last : Nat) : Array CpInfo := ⟨poolList es last⟩
def fileOf (pool : Array CpInfo) (this : Nat) (attrs : Array Attribute := #[]) (ms : Array MethodInfo := #[]) (fl : Nat := 33) (sup : Nat := 0) (ifs : Array Nat := #[]) (fds : Array FieldInfo := #[]) : ClassFile where
  minorVersion := 0
  majorVersion := 65
  constantPool := pool
  accessFlags := fl
  thisClass := this
  superClass := sup
  interfaces := ifs
  fields := fds
  methods := ms
  attributes := attrs
def plain (name : String) (sup : Option ClassId) : Class where
  name := name
  kind := .ordinary
  loader := none
  accessFlags := 33
  super := sup
  interfaces := #[]
  cf := none
  fields := #[]
  methods := #[]
  instanceTypes := #[]
  staticTypes := #[]
  resolved := #[]
  callSites := []
  init := .initialized
  statics := none
  mirror := none

def pool0 : Array CpInfo := pool [(5, u "<init>"), (0, u "()V"), (1, .class_ 10), (1, u "java/lang/Object")] 113

def k0c0 : Code := { maxStack := 0, maxLocals := 1, code := object_method_1_code, exceptionTable := #[], attributes := #[] }
def k0m0 : Method := { name := "<init>", desc := "()V", sig := { parameters := [], returnType := none }, accessFlags := 1, code := some k0c0 }
/-- java/lang/Object -/
def k0 : Class := { plain "java/lang/Object" none with
  accessFlags := 33
  interfaces := #[]
  cf := some (fileOf pool0 8 #[] #[{ accessFlags := 1, nameIndex := 5, descriptorIndex := 6, attributes := #[] }] 33 0 #[] #[])
  fields := #[]
  methods := #[k0m0]
  instanceTypes := #[]
  staticTypes := #[]
  resolved := Array.replicate 124 none
  statics := none }

def pool1 : Array CpInfo := pool [(2, .class_ 4), (0, .nameAndType 5 6), (0, u "java/lang/Object"), (0, u "<init>"), (0, u "()V"), (2, .long 9223372036854775808), (1, .fieldref 12 13), (0, .class_ 14), (0, .nameAndType 15 16), (0, u "com/example/zenodotus/zenodotus/model/Cell$Kind"), (0, u "DELETE_FAMILY"), (0, u "Lcom/example/zenodotus/zenodotus/model/Cell$Kind;"), (0, .fieldref 12 18), (0, .nameAndType 19 16), (0, u "DELETE_COLUMN"), (0, .class_ 21), (0, u "com/example/zenodotus/zenodotus/io/RowCodec$Tally"), (0, .methodref 20 3), (0, .fieldref 12 24), (0, .nameAndType 25 16), (0, u "PUT"), (0, .methodref 20 27), (0, .nameAndType 28 29), (0, u "count"), (0, u "(Lcom/example/zenodotus/zenodotus/model/Cell$Kind;J)V"), (0, .methodref 20 31), (0, .nameAndType 32 33), (0, u "add"), (0, u "(Lcom/example/zenodotus/zenodotus/io/RowCodec$Tally;)V"), (0, .methodref 20 35), (0, .nameAndType 36 37), (0, u "cells"), (0, u "()J"), (0, .methodref 20 39), (0, .nameAndType 40 37), (0, u "latestTimestamp"), (0, .methodref 42 43), (0, .class_ 44), (0, .nameAndType 45 46), (0, u "com/example/zenodotus/zenodotus/io/TallyAddPinLaw"), (0, u "expect"), (0, u "(ZJZJ)J"), (0, .methodref 20 48), (0, .nameAndType 49 37), (0, u "latestDeleteTimestamp"), (3, u "law"), (0, u "(JJJJI)Z")] 9

def k1m0 : Method := { name := "<init>", desc := "()V", sig := { parameters := [], returnType := none }, accessFlags := 2, code := none }
def k1c1 : Code := { maxStack := 4, maxLocals := 6, code := method_2_code, exceptionTable := #[], attributes := #[] }
def k1m1 : Method := { name := "expect", desc := "(ZJZJ)J", sig := { parameters := [.boolean, .long, .boolean, .long], returnType := some .long }, accessFlags := 10, code := some k1c1 }
def k1c2 : Code := { maxStack := 8, maxLocals := 19, code := code, exceptionTable := #[], attributes := #[] }
def k1m2 : Method := { name := "law", desc := "(JJJJI)Z", sig := { parameters := [.long, .long, .long, .long, .int], returnType := some .boolean }, accessFlags := 9, code := some k1c2 }
/-- com/example/zenodotus/zenodotus/io/TallyAddPinLaw -/
def k1 : Class := { plain "com/example/zenodotus/zenodotus/io/TallyAddPinLaw" (some 0) with
  accessFlags := 49
  interfaces := #[]
  cf := some (fileOf pool1 42 #[] #[{ accessFlags := 2, nameIndex := 5, descriptorIndex := 6, attributes := #[] }, { accessFlags := 10, nameIndex := 45, descriptorIndex := 46, attributes := #[] }, { accessFlags := 9, nameIndex := 53, descriptorIndex := 54, attributes := #[] }] 49 2 #[] #[])
  fields := #[]
  methods := #[k1m0, k1m1, k1m2]
  instanceTypes := #[]
  staticTypes := #[]
  resolved := Array.replicate 64 none
  statics := none }

def pool2 : Array CpInfo := pool [(1, .class_ 2), (0, u "java/lang/constant/Constable"), (0, .class_ 4), (0, u "java/lang/Object")] 6

/-- java/lang/constant/Constable -/
def k2 : Class := { plain "java/lang/constant/Constable" (some 0) with
  accessFlags := 1537
  interfaces := #[]
  cf := some (fileOf pool2 1 #[] #[] 1537 3 #[] #[])
  fields := #[]
  methods := #[]
  instanceTypes := #[]
  staticTypes := #[]
  resolved := Array.replicate 11 none
  statics := none }

def pool3 : Array CpInfo := pool [(1, .class_ 2), (0, u "java/lang/Comparable"), (0, .class_ 4), (0, u "java/lang/Object")] 7

/-- java/lang/Comparable -/
def k3 : Class := { plain "java/lang/Comparable" (some 0) with
  accessFlags := 1537
  interfaces := #[]
  cf := some (fileOf pool3 1 #[] #[] 1537 3 #[] #[])
  fields := #[]
  methods := #[]
  instanceTypes := #[]
  staticTypes := #[]
  resolved := Array.replicate 12 none
  statics := none }

def pool4 : Array CpInfo := pool [(1, .class_ 2), (0, u "java/io/Serializable"), (0, .class_ 4), (0, u "java/lang/Object")] 2

/-- java/io/Serializable -/
def k4 : Class := { plain "java/io/Serializable" (some 0) with
  accessFlags := 1537
  interfaces := #[]
  cf := some (fileOf pool4 1 #[] #[] 1537 3 #[] #[])
  fields := #[]
  methods := #[]
  instanceTypes := #[]
  staticTypes := #[]
  resolved := Array.replicate 7 none
  statics := none }

def pool5 : Array CpInfo := pool [(2, .class_ 4), (1, u "java/lang/Enum"), (0, u "name"), (0, u "Ljava/lang/String;"), (2, u "ordinal"), (0, u "I"), (1, .class_ 14), (1, u "java/lang/Object"), (4, u "hash"), (86, .class_ 108), (1, u "java/lang/Enum$EnumDesc"), (2, .class_ 112), (0, u "java/lang/constant/Constable"), (0, .class_ 114), (0, u "java/lang/Comparable"), (0, .class_ 116), (0, u "java/io/Serializable")] 87

/-- java/lang/Enum -/
def k5 : Class := { plain "java/lang/Enum" (some 0) with
  accessFlags := 1057
  interfaces := #[2, 3, 4]
  cf := some (fileOf pool5 2 #[.nestMembers #[106]] #[] 1057 12 #[111, 113, 115] #[{ accessFlags := 18, nameIndex := 5, descriptorIndex := 6, attributes := #[] }, { accessFlags := 18, nameIndex := 9, descriptorIndex := 10, attributes := #[] }, { accessFlags := 2, nameIndex := 19, descriptorIndex := 10, attributes := #[] }])
  fields := #[{ name := "name", type := (.object "java/lang/String"), accessFlags := 18, slot := 0, constantValue := 0 }, { name := "ordinal", type := .int, accessFlags := 18, slot := 1, constantValue := 0 }, { name := "hash", type := .int, accessFlags := 2, slot := 2, constantValue := 0 }]
  methods := #[]
  instanceTypes := #[(.object "java/lang/String"), .int, .int]
  staticTypes := #[]
  resolved := Array.replicate 204 none
  statics := none }

def pool6 : Array CpInfo := pool [(1, .class_ 2), (0, u "com/example/zenodotus/zenodotus/model/Cell$Kind"), (2, u "PUT"), (0, u "Lcom/example/zenodotus/zenodotus/model/Cell$Kind;"), (2, u "DELETE_COLUMN"), (2, u "DELETE_FAMILY"), (2, u "$VALUES"), (0, u "[Lcom/example/zenodotus/zenodotus/model/Cell$Kind;"), (6, .class_ 25), (1, u "java/lang/Enum"), (26, .class_ 53), (0, u "com/example/zenodotus/zenodotus/model/Cell")] 2

/-- com/example/zenodotus/zenodotus/model/Cell$Kind -/
def k6 : Class := { plain "com/example/zenodotus/zenodotus/model/Cell$Kind" (some 5) with
  accessFlags := 16433
  interfaces := #[]
  cf := some (fileOf pool6 1 #[.nestHost 52] #[] 16433 23 #[] #[{ accessFlags := 16409, nameIndex := 5, descriptorIndex := 6, attributes := #[] }, { accessFlags := 16409, nameIndex := 9, descriptorIndex := 6, attributes := #[] }, { accessFlags := 16409, nameIndex := 12, descriptorIndex := 6, attributes := #[] }, { accessFlags := 4122, nameIndex := 15, descriptorIndex := 16, attributes := #[] }])
  fields := #[{ name := "PUT", type := (.object "com/example/zenodotus/zenodotus/model/Cell$Kind"), accessFlags := 16409, slot := 0, constantValue := 0 }, { name := "DELETE_COLUMN", type := (.object "com/example/zenodotus/zenodotus/model/Cell$Kind"), accessFlags := 16409, slot := 1, constantValue := 0 }, { name := "DELETE_FAMILY", type := (.object "com/example/zenodotus/zenodotus/model/Cell$Kind"), accessFlags := 16409, slot := 2, constantValue := 0 }, { name := "$VALUES", type := (.array (.object "com/example/zenodotus/zenodotus/model/Cell$Kind")), accessFlags := 4122, slot := 3, constantValue := 0 }]
  methods := #[]
  instanceTypes := #[(.object "java/lang/String"), .int, .int]
  staticTypes := #[(.object "com/example/zenodotus/zenodotus/model/Cell$Kind"), (.object "com/example/zenodotus/zenodotus/model/Cell$Kind"), (.object "com/example/zenodotus/zenodotus/model/Cell$Kind"), (.array (.object "com/example/zenodotus/zenodotus/model/Cell$Kind"))]
  resolved := Array.replicate 56 none
  statics := some 0 }

def pool7 : Array CpInfo := pool [(1, .methodref 2 3), (0, .class_ 4), (0, .nameAndType 5 6), (0, u "java/lang/Object"), (0, u "<init>"), (0, u "()V"), (2, .long 9223372036854775808), (1, .fieldref 12 13), (0, .class_ 14), (0, .nameAndType 15 16), (0, u "com/example/zenodotus/zenodotus/io/RowCodec$Tally"), (0, u "latestTimestamp"), (0, u "J"), (0, .fieldref 12 18), (0, .nameAndType 19 16), (0, u "latestDeleteTimestamp"), (0, .fieldref 12 21), (0, .nameAndType 22 16), (0, u "cells"), (0, .fieldref 24 25), (0, .class_ 26), (0, .nameAndType 27 28), (0, u "com/example/zenodotus/zenodotus/model/Cell$Kind"), (0, u "PUT"), (0, u "Lcom/example/zenodotus/zenodotus/model/Cell$Kind;"), (0, .methodref 30 31), (0, .class_ 32), (0, .nameAndType 33 34), (0, u "java/lang/Math"), (0, u "max"), (0, u "(JJ)J"), (2, u "count"), (0, u "(Lcom/example/zenodotus/zenodotus/model/Cell$Kind;J)V"), (1, u "add"), (0, u "(Lcom/example/zenodotus/zenodotus/io/RowCodec$Tally;)V"), (0, u "()J"), (3, .class_ 47), (0, u "com/example/zenodotus/zenodotus/io/RowCodec")] 5

def k7c0 : Code := { maxStack := 3, maxLocals := 1, code := prog_38_method_1_code, exceptionTable := #[], attributes := #[] }
def k7m0 : Method := { name := "<init>", desc := "()V", sig := { parameters := [], returnType := none }, accessFlags := 0, code := some k7c0 }
def k7c1 : Code := { maxStack := 5, maxLocals := 4, code := prog_38_method_2_code, exceptionTable := #[], attributes := #[] }
def k7m1 : Method := { name := "count", desc := "(Lcom/example/zenodotus/zenodotus/model/Cell$Kind;J)V", sig := { parameters := [(.object "com/example/zenodotus/zenodotus/model/Cell$Kind"), .long], returnType := none }, accessFlags := 0, code := some k7c1 }
def k7c2 : Code := { maxStack := 5, maxLocals := 2, code := prog_38_method_3_code, exceptionTable := #[], attributes := #[] }
def k7m2 : Method := { name := "add", desc := "(Lcom/example/zenodotus/zenodotus/io/RowCodec$Tally;)V", sig := { parameters := [(.object "com/example/zenodotus/zenodotus/io/RowCodec$Tally")], returnType := none }, accessFlags := 0, code := some k7c2 }
def k7c3 : Code := { maxStack := 2, maxLocals := 1, code := prog_38_method_4_code, exceptionTable := #[], attributes := #[] }
def k7m3 : Method := { name := "cells", desc := "()J", sig := { parameters := [], returnType := some .long }, accessFlags := 0, code := some k7c3 }
def k7c4 : Code := { maxStack := 2, maxLocals := 1, code := prog_38_method_5_code, exceptionTable := #[], attributes := #[] }
def k7m4 : Method := { name := "latestTimestamp", desc := "()J", sig := { parameters := [], returnType := some .long }, accessFlags := 0, code := some k7c4 }
def k7c5 : Code := { maxStack := 2, maxLocals := 1, code := prog_38_method_6_code, exceptionTable := #[], attributes := #[] }
def k7m5 : Method := { name := "latestDeleteTimestamp", desc := "()J", sig := { parameters := [], returnType := some .long }, accessFlags := 0, code := some k7c5 }
/-- com/example/zenodotus/zenodotus/io/RowCodec$Tally -/
def k7 : Class := { plain "com/example/zenodotus/zenodotus/io/RowCodec$Tally" (some 0) with
  accessFlags := 48
  interfaces := #[]
  cf := some (fileOf pool7 12 #[.nestHost 46] #[{ accessFlags := 0, nameIndex := 5, descriptorIndex := 6, attributes := #[] }, { accessFlags := 0, nameIndex := 37, descriptorIndex := 38, attributes := #[] }, { accessFlags := 0, nameIndex := 40, descriptorIndex := 41, attributes := #[] }, { accessFlags := 0, nameIndex := 22, descriptorIndex := 42, attributes := #[] }, { accessFlags := 0, nameIndex := 15, descriptorIndex := 42, attributes := #[] }, { accessFlags := 0, nameIndex := 19, descriptorIndex := 42, attributes := #[] }] 48 2 #[] #[{ accessFlags := 2, nameIndex := 22, descriptorIndex := 16, attributes := #[] }, { accessFlags := 2, nameIndex := 15, descriptorIndex := 16, attributes := #[] }, { accessFlags := 2, nameIndex := 19, descriptorIndex := 16, attributes := #[] }])
  fields := #[{ name := "cells", type := .long, accessFlags := 2, slot := 0, constantValue := 0 }, { name := "latestTimestamp", type := .long, accessFlags := 2, slot := 1, constantValue := 0 }, { name := "latestDeleteTimestamp", type := .long, accessFlags := 2, slot := 2, constantValue := 0 }]
  methods := #[k7m0, k7m1, k7m2, k7m3, k7m4, k7m5]
  instanceTypes := #[.long, .long, .long]
  staticTypes := #[]
  resolved := Array.replicate 53 none
  statics := none }

def pool8 : Array CpInfo := pool [(1, .class_ 2), (0, u "java/lang/Math"), (1, .class_ 6), (1, u "java/lang/Object"), (0, u "<init>"), (0, u "()V"), (89, .class_ 100), (1, u "java/lang/Math$RandomNumberGeneratorHolder"), (20, u "(JJ)J"), (50, u "negativeZeroFloatBits"), (0, u "J"), (2, u "negativeZeroDoubleBits"), (21, u "max"), (46, u "$assertionsDisabled"), (0, u "Z"), (91, u "twoToTheDoubleScaleDown"), (0, u "D"), (4, u "twoToTheDoubleScaleUp"), (9, u "E"), (3, u "PI"), (2, u "TAU"), (2, u "DEGREES_TO_RADIANS"), (0, u "RADIANS_TO_DEGREES")] 94

def k8m0 : Method := { name := "<init>", desc := "()V", sig := { parameters := [], returnType := none }, accessFlags := 2, code := none }
def k8c1 : Code := { maxStack := 4, maxLocals := 4, code := jdk_29_method_66_code, exceptionTable := #[], attributes := #[] }
def k8m1 : Method := { name := "max", desc := "(JJ)J", sig := { parameters := [.long, .long], returnType := some .long }, accessFlags := 9, code := some k8c1 }
/-- java/lang/Math -/
def k8 : Class := { plain "java/lang/Math" (some 0) with
  accessFlags := 49
  interfaces := #[]
  cf := some (fileOf pool8 1 #[.nestMembers #[98]] #[{ accessFlags := 2, nameIndex := 7, descriptorIndex := 8, attributes := #[] }, { accessFlags := 9, nameIndex := 198, descriptorIndex := 121, attributes := #[] }] 49 4 #[] #[{ accessFlags := 25, nameIndex := 354, descriptorIndex := 339, attributes := #[] }, { accessFlags := 25, nameIndex := 358, descriptorIndex := 339, attributes := #[] }, { accessFlags := 25, nameIndex := 361, descriptorIndex := 339, attributes := #[] }, { accessFlags := 26, nameIndex := 364, descriptorIndex := 339, attributes := #[] }, { accessFlags := 26, nameIndex := 365, descriptorIndex := 339, attributes := #[] }, { accessFlags := 26, nameIndex := 172, descriptorIndex := 173, attributes := #[] }, { accessFlags := 26, nameIndex := 176, descriptorIndex := 173, attributes := #[] }, { accessFlags := 8, nameIndex := 344, descriptorIndex := 339, attributes := #[] }, { accessFlags := 8, nameIndex := 338, descriptorIndex := 339, attributes := #[] }, { accessFlags := 4120, nameIndex := 245, descriptorIndex := 246, attributes := #[] }])
  fields := #[{ name := "E", type := .double, accessFlags := 25, slot := 0, constantValue := 0 }, { name := "PI", type := .double, accessFlags := 25, slot := 1, constantValue := 0 }, { name := "TAU", type := .double, accessFlags := 25, slot := 2, constantValue := 0 }, { name := "DEGREES_TO_RADIANS", type := .double, accessFlags := 26, slot := 3, constantValue := 0 }, { name := "RADIANS_TO_DEGREES", type := .double, accessFlags := 26, slot := 4, constantValue := 0 }, { name := "negativeZeroFloatBits", type := .long, accessFlags := 26, slot := 5, constantValue := 0 }, { name := "negativeZeroDoubleBits", type := .long, accessFlags := 26, slot := 6, constantValue := 0 }, { name := "twoToTheDoubleScaleUp", type := .double, accessFlags := 8, slot := 7, constantValue := 0 }, { name := "twoToTheDoubleScaleDown", type := .double, accessFlags := 8, slot := 8, constantValue := 0 }, { name := "$assertionsDisabled", type := .boolean, accessFlags := 4120, slot := 9, constantValue := 0 }]
  methods := #[k8m0, k8m1]
  instanceTypes := #[]
  staticTypes := #[.double, .double, .double, .double, .double, .long, .long, .double, .double, .boolean]
  resolved := Array.replicate 460 none
  statics := none }

def pool9 : Array CpInfo := pool [(1, u "java/lang/Cloneable"), (0, .class_ 1), (0, u "java/lang/Object"), (0, .class_ 3)] 3

/-- java/lang/Cloneable -/
def k9 : Class := { plain "java/lang/Cloneable" (some 0) with
  accessFlags := 1537
  interfaces := #[]
  cf := some (fileOf pool9 2 #[] #[] 1537 4 #[] #[])
  fields := #[]
  methods := #[]
  instanceTypes := #[]
  staticTypes := #[]
  resolved := Array.replicate 8 none
  statics := none }

/-- the primitive byte -/
def k10 : Class := { plain "byte" none with kind := .primitive 'B', accessFlags := 0x411 }
/-- [B -/
def k11 : Class := { plain "[B" (some 0) with kind := .array 10 .byte, interfaces := #[9, 4], accessFlags := 1041 }

/-- the primitive int -/
def k12 : Class := { plain "int" none with kind := .primitive 'I', accessFlags := 0x411 }
/-- [I -/
def k13 : Class := { plain "[I" (some 0) with kind := .array 12 .int, interfaces := #[9, 4], accessFlags := 1041 }

def heap : Heap := #[{ cls := 6, slots := #[.ref 2, .ref 1, .ref 3, .null], vm := .statics 6 },
  { cls := 6, slots := #[.null, .int 1, .int 0], vm := .none },
  { cls := 6, slots := #[.null, .int 0, .int 0], vm := .none },
  { cls := 6, slots := #[.null, .int 2, .int 0], vm := .none }]
def classes : Array Class := #[k0, k1, k2, k3, k4, k5, k6, k7, k8, k9, k10, k11, k12, k13]
def interned : List (Array UInt16 × Addr) := []
def slotsUsed : Nat := 13
def theMethod : MethodId := ⟨1, 2⟩
def args0 : Array Value := #[.long 7, .long 1, .long 3, .long 1, .int 5]
def aboutOver (below : List Frame) : State where
  vm := { classes := classes, interned := interned.toArray }
  heap := heap
  slotsUsed := slotsUsed
  threads := #[{ frames := .invoking theMethod args0 :: below }]
def below0 : List Frame := [.native { method := ⟨0, 0⟩, args := #[] }]
def about1 : State := aboutOver below0
def p0 : Program := .bare "" "" ""
def e0 : Env := launch0.env 0 0 0
theorem w_frames : about1.frames = Frame.invoking theMethod args0 :: below0 := rfl
set_option maxRecDepth 65536 in
theorem w_args : argsFit about1.vm theMethod args0 = true := by decide +kernel
set_option maxRecDepth 65536 in
theorem w_heap : heapFits about1 = true := by decide +kernel
set_option maxRecDepth 65536 in
theorem w_runnable : about1.curStatus? = some .runnable := by decide +kernel
set_option maxRecDepth 65536 in
theorem w_alone : about1.alone = true := by decide +kernel
set_option maxRecDepth 65536 in
theorem w_named : about1.methodNamed? x = some theMethod := by decide +kernel
set_option maxRecDepth 65536 in
theorem w_hears : about1.hears theMethod below0 = true := by decide +kernel
set_option maxRecDepth 65536 in
theorem w_ripe : about1.ripe theMethod args0 below0 = true := by decide +kernel
theorem w_running : about1.status = .running := rfl
set_option maxRecDepth 65536 in
theorem w_room : about1.hasRoom e0.platform room_1 = true :=
  launch0.hasRoom_least _ room_1 (by decide +kernel) (by decide +kernel) (by decide +kernel) (by decide +kernel) (by decide +kernel) (by decide +kernel)
theorem allAtoms_all (ts : List Jvm.Cond) (a : Array Jvm.Value) (st : Jvm.State) : (allAtoms ts).before a st = ts.all (fun c => c.before a st) := by
  induction ts with
  | nil => rfl
  | cons c t ih =>
    show (Jvm.Cond.and c (allAtoms t)).before a st = _
    rw [Jvm.Cond.before_and, ih, List.all_cons]
def words1 : List Jvm.Cond := Jvm.Cond.code x code maxLocals ret :: tables_1
/-- a 'code' word, met by the world's own term for the bytes: nothing is compared byte by byte -/
theorem code_word {y : MethodName} {bytes : ByteArray} {mx : Nat} {rt : Option FieldType} {a : Array Value} {s : State} {m : MethodId} {meth : Method} {c : Code} (h1 : s.methodNamed? y = some m) (h2 : s.vm.method? m = some meth) (h3 : meth.code = some c) (h4 : c.code = bytes)
    (h5 : (c.maxLocals == mx && c.exceptionTable.isEmpty && decide (c.maxStack ≤ mostOperands) && decide (meth.sig.returnType = rt) && !meth.locks && decide (parseMethodDescriptor y.desc = some meth.sig)) = true) : (Jvm.Cond.code y bytes mx rt).before a s = true := by
  simp only [Bool.and_eq_true, beq_iff_eq, Bool.not_eq_true', decide_eq_true_eq] at h5
  obtain ⟨⟨⟨⟨⟨g1, g2⟩, g3⟩, g4⟩, g5⟩, g6⟩ := h5
  simp [Cond.before, Cond.holds, Cond.value, h1, h2, h3, h4, g1, g2, g3, g4, g5, g6]
def isCode : Jvm.Cond → Bool
  | .code _ _ _ _ => true
  | _ => false
theorem all_split {L : List Jvm.Cond} {P : Jvm.Cond → Bool} (h1 : L.all (fun c => isCode c || P c) = true) (h2 : ∀ c ∈ L.filter isCode, P c = true) : L.all P = true := by
  refine List.all_eq_true.mpr fun c hc => ?_
  have h := List.all_eq_true.mp h1 c hc
  rcases Bool.eq_false_or_eq_true (isCode c) with hi | hi
  · exact h2 c (List.mem_filter.mpr ⟨hc, hi⟩)
  · simpa [hi] using h
set_option maxRecDepth 65536 in
theorem w_c0 : (Jvm.Cond.code x code maxLocals ret).before args0 about1 = true := code_word (m := ⟨1, 2⟩) (meth := k1m2) (c := k1c2) (by decide +kernel) rfl rfl rfl (by decide +kernel)
set_option maxRecDepth 65536 in
theorem w_c1 : (Jvm.Cond.code ({ cls := "com/example/zenodotus/zenodotus/io/RowCodec$Tally", name := "<init>", desc := "()V" } : Jvm.MethodName) prog_38_method_1_code (1 : Nat) (Option.none : Option Jvm.ClassFile.FieldType)).before args0 about1 = true := code_word (m := ⟨7, 0⟩) (meth := k7m0) (c := k7c0) (by decide +kernel) rfl rfl rfl (by decide +kernel)
set_option maxRecDepth 65536 in
theorem w_c2 : (Jvm.Cond.code ({ cls := "java/lang/Object", name := "<init>", desc := "()V" } : Jvm.MethodName) object_method_1_code (1 : Nat) (Option.none : Option Jvm.ClassFile.FieldType)).before args0 about1 = true := code_word (m := ⟨0, 0⟩) (meth := k0m0) (c := k0c0) (by decide +kernel) rfl rfl rfl (by decide +kernel)
set_option maxRecDepth 65536 in
theorem w_c3 : (Jvm.Cond.code ({ cls := "com/example/zenodotus/zenodotus/io/RowCodec$Tally", name := "count", desc := "(Lcom/example/zenodotus/zenodotus/model/Cell$Kind;J)V" } : Jvm.MethodName) prog_38_method_2_code (4 : Nat) (Option.none : Option Jvm.ClassFile.FieldType)).before args0 about1 = true := code_word (m := ⟨7, 1⟩) (meth := k7m1) (c := k7c1) (by decide +kernel) rfl rfl rfl (by decide +kernel)
set_option maxRecDepth 65536 in
theorem w_c4 : (Jvm.Cond.code ({ cls := "java/lang/Math", name := "max", desc := "(JJ)J" } : Jvm.MethodName) jdk_29_method_66_code (4 : Nat) (Option.some Jvm.ClassFile.FieldType.long)).before args0 about1 = true := code_word (m := ⟨8, 1⟩) (meth := k8m1) (c := k8c1) (by decide +kernel) rfl rfl rfl (by decide +kernel)
set_option maxRecDepth 65536 in
theorem w_c5 : (Jvm.Cond.code ({ cls := "com/example/zenodotus/zenodotus/io/RowCodec$Tally", name := "add", desc := "(Lcom/example/zenodotus/zenodotus/io/RowCodec$Tally;)V" } : Jvm.MethodName) prog_38_method_3_code (2 : Nat) (Option.none : Option Jvm.ClassFile.FieldType)).before args0 about1 = true := code_word (m := ⟨7, 2⟩) (meth := k7m2) (c := k7c2) (by decide +kernel) rfl rfl rfl (by decide +kernel)
set_option maxRecDepth 65536 in
theorem w_c6 : (Jvm.Cond.code ({ cls := "com/example/zenodotus/zenodotus/io/RowCodec$Tally", name := "cells", desc := "()J" } : Jvm.MethodName) prog_38_method_4_code (1 : Nat) (Option.some Jvm.ClassFile.FieldType.long)).before args0 about1 = true := code_word (m := ⟨7, 3⟩) (meth := k7m3) (c := k7c3) (by decide +kernel) rfl rfl rfl (by decide +kernel)
set_option maxRecDepth 65536 in
theorem w_c7 : (Jvm.Cond.code ({ cls := "com/example/zenodotus/zenodotus/io/RowCodec$Tally", name := "latestTimestamp", desc := "()J" } : Jvm.MethodName) prog_38_method_5_code (1 : Nat) (Option.some Jvm.ClassFile.FieldType.long)).before args0 about1 = true := code_word (m := ⟨7, 4⟩) (meth := k7m4) (c := k7c4) (by decide +kernel) rfl rfl rfl (by decide +kernel)
set_option maxRecDepth 65536 in
theorem w_c8 : (Jvm.Cond.code ({ cls := "com/example/zenodotus/zenodotus/io/TallyAddPinLaw", name := "expect", desc := "(ZJZJ)J" } : Jvm.MethodName) method_2_code (6 : Nat) (Option.some Jvm.ClassFile.FieldType.long)).before args0 about1 = true := code_word (m := ⟨1, 1⟩) (meth := k1m1) (c := k1c1) (by decide +kernel) rfl rfl rfl (by decide +kernel)
set_option maxRecDepth 65536 in
theorem w_c9 : (Jvm.Cond.code ({ cls := "com/example/zenodotus/zenodotus/io/RowCodec$Tally", name := "latestDeleteTimestamp", desc := "()J" } : Jvm.MethodName) prog_38_method_6_code (1 : Nat) (Option.some Jvm.ClassFile.FieldType.long)).before args0 about1 = true := code_word (m := ⟨7, 5⟩) (meth := k7m5) (c := k7c5) (by decide +kernel) rfl rfl rfl (by decide +kernel)
def codes1 : List Jvm.Cond := [Jvm.Cond.code x code maxLocals ret, Jvm.Cond.code ({ cls := "com/example/zenodotus/zenodotus/io/RowCodec$Tally", name := "<init>", desc := "()V" } : Jvm.MethodName) prog_38_method_1_code (1 : Nat) (Option.none : Option Jvm.ClassFile.FieldType), Jvm.Cond.code ({ cls := "java/lang/Object", name := "<init>", desc := "()V" } : Jvm.MethodName) object_method_1_code (1 : Nat) (Option.none : Option Jvm.ClassFile.FieldType), Jvm.Cond.code ({ cls := "com/example/zenodotus/zenodotus/io/RowCodec$Tally", name := "count", desc := "(Lcom/example/zenodotus/zenodotus/model/Cell$Kind;J)V" } : Jvm.MethodName) prog_38_method_2_code (4 : Nat) (Option.none : Option Jvm.ClassFile.FieldType), Jvm.Cond.code ({ cls := "java/lang/Math", name := "max", desc := "(JJ)J" } : Jvm.MethodName) jdk_29_method_66_code (4 : Nat) (Option.some Jvm.ClassFile.FieldType.long), Jvm.Cond.code ({ cls := "com/example/zenodotus/zenodotus/io/RowCodec$Tally", name := "add", desc := "(Lcom/example/zenodotus/zenodotus/io/RowCodec$Tally;)V" } : Jvm.MethodName) prog_38_method_3_code (2 : Nat) (Option.none : Option Jvm.ClassFile.FieldType), Jvm.Cond.code ({ cls := "com/example/zenodotus/zenodotus/io/RowCodec$Tally", name := "cells", desc := "()J" } : Jvm.MethodName) prog_38_method_4_code (1 : Nat) (Option.some Jvm.ClassFile.FieldType.long), Jvm.Cond.code ({ cls := "com/example/zenodotus/zenodotus/io/RowCodec$Tally", name := "latestTimestamp", desc := "()J" } : Jvm.MethodName) prog_38_method_5_code (1 : Nat) (Option.some Jvm.ClassFile.FieldType.long), Jvm.Cond.code ({ cls := "com/example/zenodotus/zenodotus/io/TallyAddPinLaw", name := "expect", desc := "(ZJZJ)J" } : Jvm.MethodName) method_2_code (6 : Nat) (Option.some Jvm.ClassFile.FieldType.long), Jvm.Cond.code ({ cls := "com/example/zenodotus/zenodotus/io/RowCodec$Tally", name := "latestDeleteTimestamp", desc := "()J" } : Jvm.MethodName) prog_38_method_6_code (1 : Nat) (Option.some Jvm.ClassFile.FieldType.long)]
set_option maxRecDepth 65536 in
theorem codes_eq : words1.filter isCode = codes1 := rfl
theorem w_codes : ∀ c ∈ words1.filter isCode, c.before args0 about1 = true := by
  rw [codes_eq]
  intro c hc
  simp only [codes1, List.mem_cons, List.not_mem_nil, or_false] at hc
  rcases hc with rfl | rfl | rfl | rfl | rfl | rfl | rfl | rfl | rfl | rfl
  · exact w_c0
  · exact w_c1
  · exact w_c2
  · exact w_c3
  · exact w_c4
  · exact w_c5
  · exact w_c6
  · exact w_c7
  · exact w_c8
  · exact w_c9
set_option maxRecDepth 65536 in
theorem w_t1 : (words1.take 24).all (fun c => isCode c || c.before args0 about1) = true := by decide +kernel
set_option maxRecDepth 65536 in
theorem w_t2 : ((words1.drop 24).take 24).all (fun c => isCode c || c.before args0 about1) = true := by decide +kernel
set_option maxRecDepth 65536 in
theorem w_t3 : ((words1.drop 24).drop 24).all (fun c => isCode c || c.before args0 about1) = true := by decide +kernel
theorem w_tables : (allAtoms (Jvm.Cond.code x code maxLocals ret :: tables_1)).before args0 about1 = true := by
  rw [allAtoms_all]
  show words1.all (fun c => c.before args0 about1) = true
  refine all_split ?_ w_codes
  rw [← List.take_append_drop 24 words1, List.all_append, w_t1, ← List.take_append_drop 24 (words1.drop 24), List.all_append, w_t2, w_t3]
  rfl
set_option maxRecDepth 65536 in
theorem w_case : (Jvm.Cond.and given_1 narrow_1).before args0 about1 = true := by decide +kernel
theorem w_applies : (headSpec (Jvm.Cond.code x code maxLocals ret :: tables_1) room_1).applies x e0.platform about1 = true :=
  (Spec.applies_iff w_frames).mpr ⟨w_running, w_runnable, w_alone, w_named, w_hears, w_ripe, w_room, w_tables⟩
theorem atStart : AtStart classFile x code maxLocals ret World_1 tables_1 room_1 Calls_1 rest_1 Pre_1 launch0 p0 e0 about1 theMethod args0 below0 :=
  ⟨lists_1, trivial, launch0.admits_env _ _ _, launch0.least_env, fairChoices_fair.cas, fairChoices_fair.clock, w_frames, w_args, w_heap, w_applies, trivial, trivial, w_case⟩
end start1
theorem witness_1 : WitnessClaimed_1 := ⟨start1.p0, start1.e0, start1.about1, start1.theMethod, start1.args0, start1.below0, start1.atStart⟩
end Jvm.Pilot.@@N@@
