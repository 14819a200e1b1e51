import JvmDerived
import JvmDerived.Pilot.@@N@@Statement
import JvmDerived.Pilot.@@N@@Code
set_option linter.unusedVariables false
set_option linter.unusedSimpArgs false
namespace Jvm.Pilot.@@N@@
open Jvm Jvm.ClassFile Sem Op Lib Jvm.Free Jvm.Stand Jvm.LawKit Jvm.RoadKit Bundle Jvm.Pilot.@@N@@.Jvm.D

theorem own_as (x y : Int32) : ((x + y) - y) = x := by rw [Int32.add_sub_cancel]
theorem own_asL (x y : Int64) : ((x + y) - y) = x := by rw [Int64.add_sub_cancel]
theorem d1_0 : decode jdk_30_method_1_code 0 = .ok (.aload_n 0, 1) := by decide +kernel
theorem d1_1 : decode jdk_30_method_1_code 1 = .ok (.invokespecial 1, 3) := by decide +kernel
theorem d1_4 : decode jdk_30_method_1_code 4 = .ok (.return_, 1) := by decide +kernel
theorem pn_0 : plainName "java/lang/Record" = true := by first | (simp [plainName, overriddenIn]; done) | decide +kernel
theorem efRec (m : MethodId) (a0_ : Addr) : entryFrame m #[(.ref a0_)] 1 = mkF m 0 #[.val (.ref a0_)] [] := by first | (simp [entryFrame, mkF, argsToLocals, Value.category]; done) | rfl
def QRec (Z : State) (a0_ : Addr) (h0 : Heap) (n0 : Nat) (v : Option Value) (h : Heap) (L : List Loc) : Prop := v = none ∧ Fr n0 L ∧ h = h0
set_option maxRecDepth 65536 in
set_option maxHeartbeats 40000000 in
theorem rmRec (l : Launch) (Z : State) (a0 : Array Value) (hw : ∀ d ∈ tables_1, d.before a0 Z = true) (ws : List Jvm.Cond) (a0_ : Addr) (h0 : Heap) (n0 : Nat) (O0 : Old Z n0 h0)  :
    MetFree l (⟨"java/lang/Record", "<init>", "()V"⟩ : MethodName) (head1 (Jvm.Cond.code (⟨"java/lang/Record", "<init>", "()V"⟩ : MethodName) jdk_30_method_1_code 1 none :: ws) ({ frames := 1, cells := 0, slots := 0, locals := 12 } : Room)) (fun a U => a = #[(.ref a0_)] ∧ Z.Warmed39 U.vm ∧ U.heap = h0) (fun _ _ _ _ _ => True) (fun _ U o U' => ∃ v L, o = .returned v ∧ QRec Z a0_ h0 n0 v U'.heap L ∧ FrameEnd U o U' L ({ frames := 1, cells := 0, slots := 0, locals := 12 } : Room).cells ({ frames := 1, cells := 0, slots := 0, locals := 12 } : Room).slots) := by
  refine MetFree.of_bodySF (plainFor_of_name pn_0) hisR ?_
  intro p e s m args below meth c s₁ Bd hml0 hP hK
  obtain ⟨rfl, hZ, hh⟩ := hP
  have hx := Bd.exec
  have hby := Bd.bytes
  have hml : c.maxLocals = 1 := hml0
  have hown : s.vm.findClass "java/lang/Record" = some m.cls := findClass_of_methodNamed Bd.named
  have hnm := (name_of_methodNamed Bd.named Bd.method).1
  have X0 : Stand p l e ({ frames := 1, cells := 0, slots := 0, locals := 12 } : Room) s m #[(.ref a0_)] below meth c s₁ [] 0 0 := Stand.of_body Bd
  have e0 : s₁.heap = h0 := by rw [← hh, Bd.state]; rfl
  have N0 := Fr.nil n0
  have pre0 : ∀ t, Steps p.tables e below (s₁.setTop (mkF m 0 #[.val (.ref a0_)] [])) t → Steps p.tables e below (s₁.setTop (entryFrame m #[(.ref a0_)] 1)) t := fun t k => castTop (efRec m a0_) k
  have K0 : Keep h0 h0 [] := Keep.refl _ _
  obtain ⟨T1, X1, e1, st1⟩ := initO X0 hx hZ hown (hw _ (List.mem_of_getElem? (i := 11) rfl)) (hw _ (List.mem_of_getElem? (i := 12) rfl)) (hw _ (List.mem_of_getElem? (i := 13) rfl)) e0 (g := (mkF m 1 #[.val (.ref a0_)] [(.ref a0_)])) rfl (by rw [hml]; rfl) rfl (hb hby d1_1) (by decide) (W := 0) (by show 2 * 0 + _ ≤ _; exact Nat.le_of_eq rfl) (by decide)
  have pre2 : ∀ t, Steps p.tables e below (T1.setTop (mkF m 4 #[.val (.ref a0_)] [])) t → Steps p.tables e below (s₁.setTop (entryFrame m #[(.ref a0_)] 1)) t := by
    intro t kt
    refine pre0 t ?_
    show Steps p.tables e below (s₁.setTop (mkF m 0 #[.val (.ref a0_)] [])) _
    refine XS.aloadN X0.here hx rfl (hb hby d1_0) rfl rfl ?_
    show Steps p.tables e below (s₁.setTop (mkF m 1 #[.val (.ref a0_)] [(.ref a0_)])) _
    refine st1 _ ?_
    exact kt
  obtain ⟨fs, hr, hrun, hended, hW, hsame⟩ := X1.leave (v := none) (fun _ => rfl)
  refine ⟨_, _, pre2 _ (X1.returnOut hx Bd.returns (hb hby d1_4) hr), hrun, hended, _, _, rfl, ?_, ⟨_, rfl⟩, hW, hsame.mono (by decide) (by decide)⟩
  show QRec Z a0_ h0 n0 _ T1.heap _
  rw [e1]
  exact ⟨rfl, N0, rfl⟩
theorem d2_0 : decode prog_49_method_1_code 0 = .ok (.aload_n 0, 1) := by decide +kernel
theorem d2_1 : decode prog_49_method_1_code 1 = .ok (.invokespecial 1, 3) := by decide +kernel
theorem pd_0 : parseMethodDescriptor "()V" = some ⟨[], none⟩ := by decide +kernel
theorem d2_4 : decode prog_49_method_1_code 4 = .ok (.aload_n 0, 1) := by decide +kernel
theorem d2_5 : decode prog_49_method_1_code 5 = .ok (.iload_n 1, 1) := by decide +kernel
theorem d2_6 : decode prog_49_method_1_code 6 = .ok (.putfield 7, 3) := by decide +kernel
theorem d2_9 : decode prog_49_method_1_code 9 = .ok (.aload_n 0, 1) := by decide +kernel
theorem d2_10 : decode prog_49_method_1_code 10 = .ok (.lload_n 2, 1) := by decide +kernel
theorem d2_11 : decode prog_49_method_1_code 11 = .ok (.putfield 13, 3) := by decide +kernel
theorem d2_14 : decode prog_49_method_1_code 14 = .ok (.return_, 1) := by decide +kernel
theorem pn_1 : plainName "com/example/shortlist/shortlist/TermCounts" = true := by first | (simp [plainName, overriddenIn]; done) | decide +kernel
theorem efIni (m : MethodId) (a0_ : Addr) (p1_ : Int32) (q2_ : Int64) : entryFrame m #[(.ref a0_), (.int p1_), (.long q2_)] 4 = mkF m 0 #[.val (.ref a0_), .val (.int p1_), .val (.long q2_), .second] [] := by first | (simp [entryFrame, mkF, argsToLocals, Value.category]; done) | rfl
def QIni (Z : State) (a0_ : Addr) (p1_ : Int32) (q2_ : Int64) (u_documents_a0_ : Int32) (u_occurrences_a0_ : Int64) (h0 : Heap) (n0 : Nat) (v : Option Value) (h : Heap) (L : List Loc) : Prop := v = none ∧ Fr n0 L ∧ Keep h0 h [a0_] ∧ Exa Z h a0_ "com/example/shortlist/shortlist/TermCounts" ∧ Fld Z h a0_ "com/example/shortlist/shortlist/TermCounts" "documents" "I" (.int p1_) ∧ Fld Z h a0_ "com/example/shortlist/shortlist/TermCounts" "occurrences" "J" (.long q2_)
set_option maxRecDepth 65536 in
set_option maxHeartbeats 40000000 in
theorem rmIni (l : Launch) (Z : State) (a0 : Array Value) (hw : ∀ d ∈ tables_1, d.before a0 Z = true) (ws : List Jvm.Cond) (a0_ : Addr) (p1_ : Int32) (q2_ : Int64) (u_documents_a0_ : Int32) (u_occurrences_a0_ : Int64) (h0 : Heap) (n0 : Nat) (O0 : Old Z n0 h0) (P0 : Exa Z h0 a0_ "com/example/shortlist/shortlist/TermCounts") (P1 : Fld Z h0 a0_ "com/example/shortlist/shortlist/TermCounts" "documents" "I" (.int u_documents_a0_)) (P2 : Fld Z h0 a0_ "com/example/shortlist/shortlist/TermCounts" "occurrences" "J" (.long u_occurrences_a0_)) (P3 : n0 ≤ a0_) :
    MetFree l (⟨"com/example/shortlist/shortlist/TermCounts", "<init>", "(IJ)V"⟩ : MethodName) (head1 (Jvm.Cond.code (⟨"com/example/shortlist/shortlist/TermCounts", "<init>", "(IJ)V"⟩ : MethodName) prog_49_method_1_code 4 none :: ws) ({ frames := 2, cells := 0, slots := 0, locals := 24 } : Room)) (fun a U => a = #[(.ref a0_), (.int p1_), (.long q2_)] ∧ Z.Warmed39 U.vm ∧ U.heap = h0) (fun _ _ _ _ _ => True) (fun _ U o U' => ∃ v L, o = .returned v ∧ QIni Z a0_ p1_ q2_ u_documents_a0_ u_occurrences_a0_ h0 n0 v U'.heap L ∧ FrameEnd U o U' L ({ frames := 2, cells := 0, slots := 0, locals := 24 } : Room).cells ({ frames := 2, cells := 0, slots := 0, locals := 24 } : Room).slots) := by
  refine MetFree.of_bodySF (plainFor_of_name pn_1) hisR ?_
  intro p e s m args below meth c s₁ Bd hml0 hP hK
  obtain ⟨rfl, hZ, hh⟩ := hP
  have hx := Bd.exec
  have hby := Bd.bytes
  have hml : c.maxLocals = 4 := hml0
  have hown : s.vm.findClass "com/example/shortlist/shortlist/TermCounts" = some m.cls := findClass_of_methodNamed Bd.named
  have hnm := (name_of_methodNamed Bd.named Bd.method).1
  have X0 : Stand p l e ({ frames := 2, cells := 0, slots := 0, locals := 24 } : Room) s m #[(.ref a0_), (.int p1_), (.long q2_)] below meth c s₁ [] 0 0 := Stand.of_body Bd
  have e0 : s₁.heap = h0 := by rw [← hh, Bd.state]; rfl
  have N0 := Fr.nil n0
  have pre0 : ∀ t, Steps p.tables e below (s₁.setTop (mkF m 0 #[.val (.ref a0_), .val (.int p1_), .val (.long q2_), .second] [])) t → Steps p.tables e below (s₁.setTop (entryFrame m #[(.ref a0_), (.int p1_), (.long q2_)] 4)) t := fun t k => castTop (efIni m a0_ p1_ q2_) k
  have K0 : Keep h0 h0 [a0_] := Keep.refl _ _
  obtain ⟨_, _, ⟨T1, L1, k1, n1⟩, -, X1, ⟨Lc1, hQ1, l1, y1, z1⟩, st1⟩ := X0.specialBack hx (y := (⟨"java/lang/Record", "<init>", "()V"⟩ : MethodName)) rfl hown (mvT hZ (hw _ (List.mem_of_getElem? (i := 6) rfl))) (mvT hZ (hw _ (List.mem_of_getElem? (i := 7) rfl))) (mvT hZ (hw _ (List.mem_of_getElem? (i := 10) rfl))) (by decide) (backOf (W := 0) (rmRec l Z a0 hw [] a0_ h0 n0 O0 ) hZ (hw _ (List.mem_of_getElem? (i := 10) rfl)) (hw _ (List.mem_of_getElem? (i := 9) rfl)) (by decide) (by decide)) (g := (mkF m 1 #[.val (.ref a0_), .val (.int p1_), .val (.long q2_), .second] [(.ref a0_)])) rfl (by rw [hml]; rfl) (Steps.refl _) (a := a0_) (argsL := []) (rest := []) (lenOf pd_0 rfl) rfl (by show 2 * 0 + _ ≤ _; exact Nat.le_of_eq rfl) (hb hby d2_1) (fun _ _ => ⟨rfl, e0, (by decide : 0 + 0 ≤ _), (by decide : 0 + 0 ≤ _)⟩)
  dsimp only [Pt.U, Pt.locs, Pt.cells, Pt.slots] at X1 l1 y1 z1 st1 hQ1
  subst l1 y1 z1
  obtain ⟨h1, e1⟩ : ∃ z, T1.heap = z := ⟨_, rfl⟩
  rw [e1] at hQ1
  obtain ⟨rfl, N1q, hh1⟩ := hQ1
  have N2 := Fr.app N0 N1q
  have e1' : T1.heap = h0 := e1.trans hh1
  obtain ⟨T3, h3, X3, e3, W3, st3⟩ := putF X1 hx hZ hown (host := "") (Or.inl (hw _ (List.mem_of_getElem? (i := 14) rfl))) Via.refl e1' P1 P0 (Or.inr ⟨(hw _ (List.mem_of_getElem? (i := 15) rfl)), rfl, hnm⟩) (hw _ (List.mem_of_getElem? (i := 1) rfl)) (ty := .int) (by decide) rfl rfl (g := (mkF m 6 #[.val (.ref a0_), .val (.int p1_), .val (.long q2_), .second] [(.int p1_), (.ref a0_)])) rfl rfl (hb hby d2_6)
  have N4 := Fr.snoc X3 N2 P3
  have f5 : Fld Z h3 a0_ "com/example/shortlist/shortlist/TermCounts" "documents" "I" (.int p1_) := P1.same W3
  have f6 : Fld Z h3 a0_ "com/example/shortlist/shortlist/TermCounts" "occurrences" "J" (.long u_occurrences_a0_) := P2.other W3 (Or.inr (slot_ne (Or.inr (hw _ (List.mem_of_getElem? (i := 17) rfl))) (Or.inr (hw _ (List.mem_of_getElem? (i := 15) rfl))) (by decide) (t := .long) (t' := .int) (by decide) (by decide)))
  have f7 : Exa Z h3 a0_ "com/example/shortlist/shortlist/TermCounts" := P0.wr W3
  obtain ⟨T8, h8, X8, e8, W8, st8⟩ := putF X3 hx hZ hown (host := "") (Or.inl (hw _ (List.mem_of_getElem? (i := 16) rfl))) Via.refl e3 f6 f7 (Or.inr ⟨(hw _ (List.mem_of_getElem? (i := 17) rfl)), rfl, hnm⟩) (hw _ (List.mem_of_getElem? (i := 1) rfl)) (ty := .long) (by decide) rfl rfl (g := (mkF m 11 #[.val (.ref a0_), .val (.int p1_), .val (.long q2_), .second] [(.long q2_), (.ref a0_)])) rfl rfl (hb hby d2_11)
  have N9 := Fr.snoc X8 N4 P3
  have f10 : Fld Z h8 a0_ "com/example/shortlist/shortlist/TermCounts" "occurrences" "J" (.long q2_) := f6.same W8
  have pre11 : ∀ t, Steps p.tables e below (T8.setTop (mkF m 14 #[.val (.ref a0_), .val (.int p1_), .val (.long q2_), .second] [])) t → Steps p.tables e below (s₁.setTop (entryFrame m #[(.ref a0_), (.int p1_), (.long q2_)] 4)) t := by
    intro t kt
    refine pre0 t ?_
    show Steps p.tables e below (s₁.setTop (mkF m 0 #[.val (.ref a0_), .val (.int p1_), .val (.long q2_), .second] [])) _
    refine XS.aloadN X0.here hx rfl (hb hby d2_0) rfl rfl ?_
    show Steps p.tables e below (s₁.setTop (mkF m 1 #[.val (.ref a0_), .val (.int p1_), .val (.long q2_), .second] [(.ref a0_)])) _
    refine st1.trans ?_
    show Steps p.tables e below (T1.setTop (mkF m 4 #[.val (.ref a0_), .val (.int p1_), .val (.long q2_), .second] [])) _
    refine XS.aloadN X1.here hx rfl (hb hby d2_4) rfl rfl ?_
    show Steps p.tables e below (T1.setTop (mkF m 5 #[.val (.ref a0_), .val (.int p1_), .val (.long q2_), .second] [(.ref a0_)])) _
    refine XS.iloadN X1.here hx rfl (hb hby d2_5) rfl ?_
    show Steps p.tables e below (T1.setTop (mkF m 6 #[.val (.ref a0_), .val (.int p1_), .val (.long q2_), .second] [(.int p1_), (.ref a0_)])) _
    refine st3 _ ?_
    show Steps p.tables e below (T3.setTop (mkF m 9 #[.val (.ref a0_), .val (.int p1_), .val (.long q2_), .second] [])) _
    refine XS.aloadN X3.here hx rfl (hb hby d2_9) rfl rfl ?_
    show Steps p.tables e below (T3.setTop (mkF m 10 #[.val (.ref a0_), .val (.int p1_), .val (.long q2_), .second] [(.ref a0_)])) _
    refine XS.lloadN X3.here hx rfl (hb hby d2_10) rfl ?_
    show Steps p.tables e below (T3.setTop (mkF m 11 #[.val (.ref a0_), .val (.int p1_), .val (.long q2_), .second] [(.long q2_), (.ref a0_)])) _
    refine st8 _ ?_
    exact kt
  have f13 : Keep h0 h3 [a0_] := K0.wr W3 (Or.inl (List.mem_of_getElem? (i := 0) rfl))
  have f14 : Keep h0 h8 [a0_] := f13.wr W8 (Or.inl (List.mem_of_getElem? (i := 0) rfl))
  have f15 : Exa Z h8 a0_ "com/example/shortlist/shortlist/TermCounts" := f7.wr W8
  have f16 : Fld Z h8 a0_ "com/example/shortlist/shortlist/TermCounts" "documents" "I" (.int p1_) := f5.other W8 (Or.inr (slot_ne (Or.inr (hw _ (List.mem_of_getElem? (i := 15) rfl))) (Or.inr (hw _ (List.mem_of_getElem? (i := 17) rfl))) (by decide) (t := .int) (t' := .long) (by decide) (by decide)))
  obtain ⟨fs, hr, hrun, hended, hW, hsame⟩ := X8.leave (v := none) (fun _ => rfl)
  refine ⟨_, _, pre11 _ (X8.returnOut hx Bd.returns (hb hby d2_14) hr), hrun, hended, _, _, rfl, ?_, ⟨_, rfl⟩, hW, hsame.mono (by decide) (by decide)⟩
  show QIni Z a0_ p1_ q2_ u_documents_a0_ u_occurrences_a0_ h0 n0 _ T8.heap _
  rw [e8]
  exact ⟨rfl, N9, f14, f15, f16, f10⟩
theorem d3_0 : decode prog_49_method_2_code 0 = .ok (.new 8, 3) := by decide +kernel
theorem d3_3 : decode prog_49_method_2_code 3 = .ok (.dup, 1) := by decide +kernel
theorem d3_4 : decode prog_49_method_2_code 4 = .ok (.aload_n 0, 1) := by decide +kernel
theorem d3_5 : decode prog_49_method_2_code 5 = .ok (.getfield 7, 3) := by decide +kernel
theorem d3_8 : decode prog_49_method_2_code 8 = .ok (.aload_n 1, 1) := by decide +kernel
theorem d3_9 : decode prog_49_method_2_code 9 = .ok (.getfield 7, 3) := by decide +kernel
theorem d3_12 : decode prog_49_method_2_code 12 = .ok (.iadd, 1) := by decide +kernel
theorem d3_13 : decode prog_49_method_2_code 13 = .ok (.aload_n 0, 1) := by decide +kernel
theorem d3_14 : decode prog_49_method_2_code 14 = .ok (.getfield 13, 3) := by decide +kernel
theorem d3_17 : decode prog_49_method_2_code 17 = .ok (.aload_n 1, 1) := by decide +kernel
theorem d3_18 : decode prog_49_method_2_code 18 = .ok (.getfield 13, 3) := by decide +kernel
theorem d3_21 : decode prog_49_method_2_code 21 = .ok (.ladd, 1) := by decide +kernel
theorem d3_22 : decode prog_49_method_2_code 22 = .ok (.invokespecial 17, 3) := by decide +kernel
theorem pd_1 : parseMethodDescriptor "(IJ)V" = some ⟨[.int, .long], none⟩ := by decide +kernel
theorem d3_25 : decode prog_49_method_2_code 25 = .ok (.areturn, 1) := by decide +kernel
theorem efPlus (m : MethodId) (a0_ : Addr) (a1_ : Addr) : entryFrame m #[(.ref a0_), (.ref a1_)] 2 = mkF m 0 #[.val (.ref a0_), .val (.ref a1_)] [] := by first | (simp [entryFrame, mkF, argsToLocals, Value.category]; done) | rfl
def QPlus (Z : State) (a0_ : Addr) (a1_ : Addr) (w_documents_a0 : Int32) (w_documents_a1 : Int32) (w_occurrences_a0 : Int64) (w_occurrences_a1 : Int64) (h0 : Heap) (n0 : Nat) (v : Option Value) (h : Heap) (L : List Loc) : Prop := ∃ nb1 : Addr, v = some (.ref nb1) ∧ Fr n0 L ∧ Keep h0 h [] ∧ h0.size ≤ nb1 ∧ Exa Z h nb1 "com/example/shortlist/shortlist/TermCounts" ∧ Fld Z h nb1 "com/example/shortlist/shortlist/TermCounts" "documents" "I" (.int (w_documents_a0 + w_documents_a1)) ∧ Fld Z h nb1 "com/example/shortlist/shortlist/TermCounts" "occurrences" "J" (.long (w_occurrences_a0 + w_occurrences_a1))
set_option maxRecDepth 65536 in
set_option maxHeartbeats 40000000 in
theorem rmPlus (l : Launch) (Z : State) (a0 : Array Value) (hw : ∀ d ∈ tables_1, d.before a0 Z = true) (ws : List Jvm.Cond) (a0_ : Addr) (a1_ : Addr) (w_documents_a0 : Int32) (w_documents_a1 : Int32) (w_occurrences_a0 : Int64) (w_occurrences_a1 : Int64) (h0 : Heap) (n0 : Nat) (O0 : Old Z n0 h0) (P0 : Fld Z h0 a0_ "com/example/shortlist/shortlist/TermCounts" "documents" "I" (.int w_documents_a0)) (P1 : Fld Z h0 a1_ "com/example/shortlist/shortlist/TermCounts" "documents" "I" (.int w_documents_a1)) (P2 : Fld Z h0 a0_ "com/example/shortlist/shortlist/TermCounts" "occurrences" "J" (.long w_occurrences_a0)) (P3 : Fld Z h0 a1_ "com/example/shortlist/shortlist/TermCounts" "occurrences" "J" (.long w_occurrences_a1)) :
    MetFree l (⟨"com/example/shortlist/shortlist/TermCounts", "plus", "(Lcom/example/shortlist/shortlist/TermCounts;)Lcom/example/shortlist/shortlist/TermCounts;"⟩ : MethodName) (head1 (Jvm.Cond.code (⟨"com/example/shortlist/shortlist/TermCounts", "plus", "(Lcom/example/shortlist/shortlist/TermCounts;)Lcom/example/shortlist/shortlist/TermCounts;"⟩ : MethodName) prog_49_method_2_code 2 (some (.object "com/example/shortlist/shortlist/TermCounts")) :: ws) ({ frames := 3, cells := 1, slots := 2, locals := 40 } : Room)) (fun a U => a = #[(.ref a0_), (.ref a1_)] ∧ Z.Warmed39 U.vm ∧ U.heap = h0) (fun _ _ _ _ _ => True) (fun _ U o U' => ∃ v L, o = .returned v ∧ QPlus Z a0_ a1_ w_documents_a0 w_documents_a1 w_occurrences_a0 w_occurrences_a1 h0 n0 v U'.heap L ∧ FrameEnd U o U' L ({ frames := 3, cells := 1, slots := 2, locals := 40 } : Room).cells ({ frames := 3, cells := 1, slots := 2, locals := 40 } : Room).slots) := by
  refine MetFree.of_bodySF (plainFor_of_name pn_1) hisR ?_
  intro p e s m args below meth c s₁ Bd hml0 hP hK
  obtain ⟨rfl, hZ, hh⟩ := hP
  have hx := Bd.exec
  have hby := Bd.bytes
  have hml : c.maxLocals = 2 := hml0
  have hown : s.vm.findClass "com/example/shortlist/shortlist/TermCounts" = some m.cls := findClass_of_methodNamed Bd.named
  have hnm := (name_of_methodNamed Bd.named Bd.method).1
  have X0 : Stand p l e ({ frames := 3, cells := 1, slots := 2, locals := 40 } : Room) s m #[(.ref a0_), (.ref a1_)] below meth c s₁ [] 0 0 := Stand.of_body Bd
  have e0 : s₁.heap = h0 := by rw [← hh, Bd.state]; rfl
  have N0 := Fr.nil n0
  have pre0 : ∀ t, Steps p.tables e below (s₁.setTop (mkF m 0 #[.val (.ref a0_), .val (.ref a1_)] [])) t → Steps p.tables e below (s₁.setTop (entryFrame m #[(.ref a0_), (.ref a1_)] 2)) t := fun t k => castTop (efPlus m a0_ a1_) k
  have K0 : Keep h0 h0 [] := Keep.refl _ _
  obtain ⟨T1, h1, X1, e1, E1, A1, D1, -, st1⟩ := newO X0 hx hZ hown (hw _ (List.mem_of_getElem? (i := 23) rfl)) (hw _ (List.mem_of_getElem? (i := 1) rfl)) (hw _ (List.mem_of_getElem? (i := 2) rfl)) e0 (g := (mkF m 0 #[.val (.ref a0_), .val (.ref a1_)] [])) rfl (hb hby d3_0) (by decide) (by decide)
  obtain ⟨b1, g1⟩ : ∃ z, z = h0.size := ⟨_, rfl⟩
  rw [← g1] at A1 D1 st1
  have ge2 : n0 ≤ b1 := Nat.le_trans (Nat.le_trans (Nat.le_of_eq O0.1.symm) O0.2.1) (Nat.le_of_eq g1.symm)
  have sz3 : h0.size ≤ b1 := Nat.le_trans K0.1 (Nat.le_of_eq g1.symm)
  have f4 : Fld Z h1 b1 "com/example/shortlist/shortlist/TermCounts" "documents" "I" (.int (0 : Int32)) := D1 (Or.inr (hw _ (List.mem_of_getElem? (i := 15) rfl))) (ty := .int) (by decide)
  have f5 : Fld Z h1 b1 "com/example/shortlist/shortlist/TermCounts" "occurrences" "J" (.long (0 : Int64)) := D1 (Or.inr (hw _ (List.mem_of_getElem? (i := 17) rfl))) (ty := .long) (by decide)
  have f6 : Fld Z h1 a0_ "com/example/shortlist/shortlist/TermCounts" "documents" "I" (.int w_documents_a0) := P0.ext E1
  obtain ⟨T7, X7, e7, st7⟩ := getF X1 hx hZ hown (host := "") (Or.inl (hw _ (List.mem_of_getElem? (i := 14) rfl))) Via.refl e1 f6 (g := (mkF m 5 #[.val (.ref a0_), .val (.ref a1_)] [(.ref a0_), (.ref b1), (.ref b1)])) rfl rfl (hb hby d3_5)
  have f8 : Fld Z h1 a1_ "com/example/shortlist/shortlist/TermCounts" "documents" "I" (.int w_documents_a1) := P1.ext E1
  obtain ⟨T9, X9, e9, st9⟩ := getF X7 hx hZ hown (host := "") (Or.inl (hw _ (List.mem_of_getElem? (i := 14) rfl))) Via.refl e7 f8 (g := (mkF m 9 #[.val (.ref a0_), .val (.ref a1_)] [(.ref a1_), (.int w_documents_a0), (.ref b1), (.ref b1)])) rfl rfl (hb hby d3_9)
  have f10 : Fld Z h1 a0_ "com/example/shortlist/shortlist/TermCounts" "occurrences" "J" (.long w_occurrences_a0) := P2.ext E1
  obtain ⟨T11, X11, e11, st11⟩ := getF X9 hx hZ hown (host := "") (Or.inl (hw _ (List.mem_of_getElem? (i := 16) rfl))) Via.refl e9 f10 (g := (mkF m 14 #[.val (.ref a0_), .val (.ref a1_)] [(.ref a0_), (.int (w_documents_a0 + w_documents_a1)), (.ref b1), (.ref b1)])) rfl rfl (hb hby d3_14)
  have f12 : Fld Z h1 a1_ "com/example/shortlist/shortlist/TermCounts" "occurrences" "J" (.long w_occurrences_a1) := P3.ext E1
  obtain ⟨T13, X13, e13, st13⟩ := getF X11 hx hZ hown (host := "") (Or.inl (hw _ (List.mem_of_getElem? (i := 16) rfl))) Via.refl e11 f12 (g := (mkF m 18 #[.val (.ref a0_), .val (.ref a1_)] [(.ref a1_), (.long w_occurrences_a0), (.int (w_documents_a0 + w_documents_a1)), (.ref b1), (.ref b1)])) rfl rfl (hb hby d3_18)
  have f15 : Old Z n0 h1 := O0.ext E1
  obtain ⟨_, _, ⟨T14, L14, k14, n14⟩, -, X14, ⟨Lc14, hQ14, l14, y14, z14⟩, st14⟩ := X13.specialBack hx (y := (⟨"com/example/shortlist/shortlist/TermCounts", "<init>", "(IJ)V"⟩ : MethodName)) rfl hown (mvT hZ (hw _ (List.mem_of_getElem? (i := 24) rfl))) (mvT hZ (hw _ (List.mem_of_getElem? (i := 4) rfl))) (mvT hZ (hw _ (List.mem_of_getElem? (i := 5) rfl))) (by decide) (backOf (W := 1) (rmIni l Z a0 hw [] b1 (w_documents_a0 + w_documents_a1) (w_occurrences_a0 + w_occurrences_a1) (0 : Int32) (0 : Int64) h1 n0 f15 A1 f4 f5 ge2) hZ (hw _ (List.mem_of_getElem? (i := 5) rfl)) (hw _ (List.mem_of_getElem? (i := 2) rfl)) (by decide) (by decide)) (g := (mkF m 22 #[.val (.ref a0_), .val (.ref a1_)] [(.long (w_occurrences_a0 + w_occurrences_a1)), (.int (w_documents_a0 + w_documents_a1)), (.ref b1), (.ref b1)])) rfl (by rw [hml]; rfl) (Steps.refl _) (a := b1) (argsL := [(.int (w_documents_a0 + w_documents_a1)), (.long (w_occurrences_a0 + w_occurrences_a1))]) (rest := [(.ref b1)]) (lenOf pd_1 rfl) rfl (by show 2 * 0 + _ ≤ _; exact Nat.le_of_eq rfl) (hb hby d3_22) (fun _ _ => ⟨rfl, e13, (by decide : 1 + 0 ≤ _), (by decide : 2 + 0 ≤ _)⟩)
  dsimp only [Pt.U, Pt.locs, Pt.cells, Pt.slots] at X14 l14 y14 z14 st14 hQ14
  subst l14 y14 z14
  obtain ⟨h14, e14⟩ : ∃ z, T14.heap = z := ⟨_, rfl⟩
  rw [e14] at hQ14
  obtain ⟨rfl, N14q, K14, g14_0, g14_1, g14_2⟩ := hQ14
  have N16 := Fr.app N0 N14q
  have pre17 : ∀ t, Steps p.tables e below (T14.setTop (mkF m 25 #[.val (.ref a0_), .val (.ref a1_)] [(.ref b1)])) t → Steps p.tables e below (s₁.setTop (entryFrame m #[(.ref a0_), (.ref a1_)] 2)) t := by
    intro t kt
    refine pre0 t ?_
    show Steps p.tables e below (s₁.setTop (mkF m 0 #[.val (.ref a0_), .val (.ref a1_)] [])) _
    refine st1 _ ?_
    show Steps p.tables e below (T1.setTop (mkF m 3 #[.val (.ref a0_), .val (.ref a1_)] [(.ref b1)])) _
    refine XS.dup X1.here hx rfl (hb hby d3_3) rfl rfl ?_
    show Steps p.tables e below (T1.setTop (mkF m 4 #[.val (.ref a0_), .val (.ref a1_)] [(.ref b1), (.ref b1)])) _
    refine XS.aloadN X1.here hx rfl (hb hby d3_4) rfl rfl ?_
    show Steps p.tables e below (T1.setTop (mkF m 5 #[.val (.ref a0_), .val (.ref a1_)] [(.ref a0_), (.ref b1), (.ref b1)])) _
    refine st7 _ ?_
    show Steps p.tables e below (T7.setTop (mkF m 8 #[.val (.ref a0_), .val (.ref a1_)] [(.int w_documents_a0), (.ref b1), (.ref b1)])) _
    refine XS.aloadN X7.here hx rfl (hb hby d3_8) rfl rfl ?_
    show Steps p.tables e below (T7.setTop (mkF m 9 #[.val (.ref a0_), .val (.ref a1_)] [(.ref a1_), (.int w_documents_a0), (.ref b1), (.ref b1)])) _
    refine st9 _ ?_
    show Steps p.tables e below (T9.setTop (mkF m 12 #[.val (.ref a0_), .val (.ref a1_)] [(.int w_documents_a1), (.int w_documents_a0), (.ref b1), (.ref b1)])) _
    refine XS.iadd X9.here hx rfl (hb hby d3_12) rfl ?_
    show Steps p.tables e below (T9.setTop (mkF m 13 #[.val (.ref a0_), .val (.ref a1_)] [(.int (w_documents_a0 + w_documents_a1)), (.ref b1), (.ref b1)])) _
    refine XS.aloadN X9.here hx rfl (hb hby d3_13) rfl rfl ?_
    show Steps p.tables e below (T9.setTop (mkF m 14 #[.val (.ref a0_), .val (.ref a1_)] [(.ref a0_), (.int (w_documents_a0 + w_documents_a1)), (.ref b1), (.ref b1)])) _
    refine st11 _ ?_
    show Steps p.tables e below (T11.setTop (mkF m 17 #[.val (.ref a0_), .val (.ref a1_)] [(.long w_occurrences_a0), (.int (w_documents_a0 + w_documents_a1)), (.ref b1), (.ref b1)])) _
    refine XS.aloadN X11.here hx rfl (hb hby d3_17) rfl rfl ?_
    show Steps p.tables e below (T11.setTop (mkF m 18 #[.val (.ref a0_), .val (.ref a1_)] [(.ref a1_), (.long w_occurrences_a0), (.int (w_documents_a0 + w_documents_a1)), (.ref b1), (.ref b1)])) _
    refine st13 _ ?_
    show Steps p.tables e below (T13.setTop (mkF m 21 #[.val (.ref a0_), .val (.ref a1_)] [(.long w_occurrences_a1), (.long w_occurrences_a0), (.int (w_documents_a0 + w_documents_a1)), (.ref b1), (.ref b1)])) _
    refine XS.ladd X13.here hx rfl (hb hby d3_21) rfl ?_
    show Steps p.tables e below (T13.setTop (mkF m 22 #[.val (.ref a0_), .val (.ref a1_)] [(.long (w_occurrences_a0 + w_occurrences_a1)), (.int (w_documents_a0 + w_documents_a1)), (.ref b1), (.ref b1)])) _
    refine st14.trans ?_
    exact kt
  have f19 : Keep h0 h1 [] := K0.ext E1
  have f20 : Keep h0 h14 [] := f19.trans K14 (allS (Or.inr sz3) all0)
  obtain ⟨fs, hr, hrun, hended, hW, hsame⟩ := X14.leave (v := some (.ref b1)) (fun h => by rw [Bd.returns] at h; cases h)
  refine ⟨_, _, pre17 _ (retOut X14 hx Bd.returns rfl (Or.inr (Or.inr (Or.inr (Or.inr ⟨rfl, rfl, rfl⟩)))) (hb hby d3_25) hr), hrun, hended, _, _, rfl, ?_, ⟨_, rfl⟩, hW, hsame.mono (by decide) (by decide)⟩
  show QPlus Z a0_ a1_ w_documents_a0 w_documents_a1 w_occurrences_a0 w_occurrences_a1 h0 n0 _ T14.heap _
  rw [e14]
  exact ⟨b1, rfl, N16, f20, sz3, g14_0, g14_1, g14_2⟩
theorem d4_0 : decode prog_49_method_6_code 0 = .ok (.aload_n 0, 1) := by decide +kernel
theorem d4_1 : decode prog_49_method_6_code 1 = .ok (.getfield 7, 3) := by decide +kernel
theorem d4_4 : decode prog_49_method_6_code 4 = .ok (.ireturn, 1) := by decide +kernel
theorem efDoc (m : MethodId) (a0_ : Addr) : entryFrame m #[(.ref a0_)] 1 = mkF m 0 #[.val (.ref a0_)] [] := by first | (simp [entryFrame, mkF, argsToLocals, Value.category]; done) | rfl
def QDoc (Z : State) (a0_ : Addr) (w_documents_a0 : Int32) (h0 : Heap) (n0 : Nat) (v : Option Value) (h : Heap) (L : List Loc) : Prop := v = some (.int w_documents_a0) ∧ Fr n0 L ∧ h = h0
set_option maxRecDepth 65536 in
set_option maxHeartbeats 40000000 in
theorem rmDoc (l : Launch) (Z : State) (a0 : Array Value) (hw : ∀ d ∈ tables_1, d.before a0 Z = true) (ws : List Jvm.Cond) (a0_ : Addr) (w_documents_a0 : Int32) (h0 : Heap) (n0 : Nat) (O0 : Old Z n0 h0) (P0 : Fld Z h0 a0_ "com/example/shortlist/shortlist/TermCounts" "documents" "I" (.int w_documents_a0)) :
    MetFree l (⟨"com/example/shortlist/shortlist/TermCounts", "documents", "()I"⟩ : MethodName) (head1 (Jvm.Cond.code (⟨"com/example/shortlist/shortlist/TermCounts", "documents", "()I"⟩ : MethodName) prog_49_method_6_code 1 (some .int) :: ws) ({ frames := 0, cells := 0, slots := 0, locals := 0 } : Room)) (fun a U => a = #[(.ref a0_)] ∧ Z.Warmed39 U.vm ∧ U.heap = h0) (fun _ _ _ _ _ => True) (fun _ U o U' => ∃ v L, o = .returned v ∧ QDoc Z a0_ w_documents_a0 h0 n0 v U'.heap L ∧ FrameEnd U o U' L ({ frames := 0, cells := 0, slots := 0, locals := 0 } : Room).cells ({ frames := 0, cells := 0, slots := 0, locals := 0 } : Room).slots) := by
  refine MetFree.of_bodySF (plainFor_of_name pn_1) hisR ?_
  intro p e s m args below meth c s₁ Bd hml0 hP hK
  obtain ⟨rfl, hZ, hh⟩ := hP
  have hx := Bd.exec
  have hby := Bd.bytes
  have hml : c.maxLocals = 1 := hml0
  have hown : s.vm.findClass "com/example/shortlist/shortlist/TermCounts" = some m.cls := findClass_of_methodNamed Bd.named
  have hnm := (name_of_methodNamed Bd.named Bd.method).1
  have X0 : Stand p l e ({ frames := 0, cells := 0, slots := 0, locals := 0 } : Room) s m #[(.ref a0_)] below meth c s₁ [] 0 0 := Stand.of_body Bd
  have e0 : s₁.heap = h0 := by rw [← hh, Bd.state]; rfl
  have N0 := Fr.nil n0
  have pre0 : ∀ t, Steps p.tables e below (s₁.setTop (mkF m 0 #[.val (.ref a0_)] [])) t → Steps p.tables e below (s₁.setTop (entryFrame m #[(.ref a0_)] 1)) t := fun t k => castTop (efDoc m a0_) k
  have K0 : Keep h0 h0 [] := Keep.refl _ _
  obtain ⟨T1, X1, e1, st1⟩ := getF X0 hx hZ hown (host := "") (Or.inl (hw _ (List.mem_of_getElem? (i := 14) rfl))) Via.refl e0 P0 (g := (mkF m 1 #[.val (.ref a0_)] [(.ref a0_)])) rfl rfl (hb hby d4_1)
  have pre2 : ∀ t, Steps p.tables e below (T1.setTop (mkF m 4 #[.val (.ref a0_)] [(.int w_documents_a0)])) t → Steps p.tables e below (s₁.setTop (entryFrame m #[(.ref a0_)] 1)) t := by
    intro t kt
    refine pre0 t ?_
    show Steps p.tables e below (s₁.setTop (mkF m 0 #[.val (.ref a0_)] [])) _
    refine XS.aloadN X0.here hx rfl (hb hby d4_0) rfl rfl ?_
    show Steps p.tables e below (s₁.setTop (mkF m 1 #[.val (.ref a0_)] [(.ref a0_)])) _
    refine st1 _ ?_
    exact kt
  obtain ⟨fs, hr, hrun, hended, hW, hsame⟩ := X1.leave (v := some (.int w_documents_a0)) (fun h => by rw [Bd.returns] at h; cases h)
  refine ⟨_, _, pre2 _ (retOut X1 hx Bd.returns rfl (Or.inl ⟨rfl, Or.inl rfl, _, rfl⟩) (hb hby d4_4) hr), hrun, hended, _, _, rfl, ?_, ⟨_, rfl⟩, hW, hsame.mono (by decide) (by decide)⟩
  show QDoc Z a0_ w_documents_a0 h0 n0 _ T1.heap _
  rw [e1]
  exact ⟨rfl, N0, rfl⟩
theorem d5_0 : decode prog_49_method_7_code 0 = .ok (.aload_n 0, 1) := by decide +kernel
theorem d5_1 : decode prog_49_method_7_code 1 = .ok (.getfield 13, 3) := by decide +kernel
theorem d5_4 : decode prog_49_method_7_code 4 = .ok (.lreturn, 1) := by decide +kernel
theorem efOcc (m : MethodId) (a0_ : Addr) : entryFrame m #[(.ref a0_)] 1 = mkF m 0 #[.val (.ref a0_)] [] := by first | (simp [entryFrame, mkF, argsToLocals, Value.category]; done) | rfl
def QOcc (Z : State) (a0_ : Addr) (w_occurrences_a0 : Int64) (h0 : Heap) (n0 : Nat) (v : Option Value) (h : Heap) (L : List Loc) : Prop := v = some (.long w_occurrences_a0) ∧ Fr n0 L ∧ h = h0
set_option maxRecDepth 65536 in
set_option maxHeartbeats 40000000 in
theorem rmOcc (l : Launch) (Z : State) (a0 : Array Value) (hw : ∀ d ∈ tables_1, d.before a0 Z = true) (ws : List Jvm.Cond) (a0_ : Addr) (w_occurrences_a0 : Int64) (h0 : Heap) (n0 : Nat) (O0 : Old Z n0 h0) (P0 : Fld Z h0 a0_ "com/example/shortlist/shortlist/TermCounts" "occurrences" "J" (.long w_occurrences_a0)) :
    MetFree l (⟨"com/example/shortlist/shortlist/TermCounts", "occurrences", "()J"⟩ : MethodName) (head1 (Jvm.Cond.code (⟨"com/example/shortlist/shortlist/TermCounts", "occurrences", "()J"⟩ : MethodName) prog_49_method_7_code 1 (some .long) :: ws) ({ frames := 0, cells := 0, slots := 0, locals := 0 } : Room)) (fun a U => a = #[(.ref a0_)] ∧ Z.Warmed39 U.vm ∧ U.heap = h0) (fun _ _ _ _ _ => True) (fun _ U o U' => ∃ v L, o = .returned v ∧ QOcc Z a0_ w_occurrences_a0 h0 n0 v U'.heap L ∧ FrameEnd U o U' L ({ frames := 0, cells := 0, slots := 0, locals := 0 } : Room).cells ({ frames := 0, cells := 0, slots := 0, locals := 0 } : Room).slots) := by
  refine MetFree.of_bodySF (plainFor_of_name pn_1) hisR ?_
  intro p e s m args below meth c s₁ Bd hml0 hP hK
  obtain ⟨rfl, hZ, hh⟩ := hP
  have hx := Bd.exec
  have hby := Bd.bytes
  have hml : c.maxLocals = 1 := hml0
  have hown : s.vm.findClass "com/example/shortlist/shortlist/TermCounts" = some m.cls := findClass_of_methodNamed Bd.named
  have hnm := (name_of_methodNamed Bd.named Bd.method).1
  have X0 : Stand p l e ({ frames := 0, cells := 0, slots := 0, locals := 0 } : Room) s m #[(.ref a0_)] below meth c s₁ [] 0 0 := Stand.of_body Bd
  have e0 : s₁.heap = h0 := by rw [← hh, Bd.state]; rfl
  have N0 := Fr.nil n0
  have pre0 : ∀ t, Steps p.tables e below (s₁.setTop (mkF m 0 #[.val (.ref a0_)] [])) t → Steps p.tables e below (s₁.setTop (entryFrame m #[(.ref a0_)] 1)) t := fun t k => castTop (efOcc m a0_) k
  have K0 : Keep h0 h0 [] := Keep.refl _ _
  obtain ⟨T1, X1, e1, st1⟩ := getF X0 hx hZ hown (host := "") (Or.inl (hw _ (List.mem_of_getElem? (i := 16) rfl))) Via.refl e0 P0 (g := (mkF m 1 #[.val (.ref a0_)] [(.ref a0_)])) rfl rfl (hb hby d5_1)
  have pre2 : ∀ t, Steps p.tables e below (T1.setTop (mkF m 4 #[.val (.ref a0_)] [(.long w_occurrences_a0)])) t → Steps p.tables e below (s₁.setTop (entryFrame m #[(.ref a0_)] 1)) t := by
    intro t kt
    refine pre0 t ?_
    show Steps p.tables e below (s₁.setTop (mkF m 0 #[.val (.ref a0_)] [])) _
    refine XS.aloadN X0.here hx rfl (hb hby d5_0) rfl rfl ?_
    show Steps p.tables e below (s₁.setTop (mkF m 1 #[.val (.ref a0_)] [(.ref a0_)])) _
    refine st1 _ ?_
    exact kt
  obtain ⟨fs, hr, hrun, hended, hW, hsame⟩ := X1.leave (v := some (.long w_occurrences_a0)) (fun h => by rw [Bd.returns] at h; cases h)
  refine ⟨_, _, pre2 _ (retOut X1 hx Bd.returns rfl (Or.inr (Or.inl ⟨rfl, rfl, _, rfl⟩)) (hb hby d5_4) hr), hrun, hended, _, _, rfl, ?_, ⟨_, rfl⟩, hW, hsame.mono (by decide) (by decide)⟩
  show QOcc Z a0_ w_occurrences_a0 h0 n0 _ T1.heap _
  rw [e1]
  exact ⟨rfl, N0, rfl⟩
theorem pd_2 : parseMethodDescriptor "(Lcom/example/shortlist/shortlist/TermCounts;)Lcom/example/shortlist/shortlist/TermCounts;" = some ⟨[(.object "com/example/shortlist/shortlist/TermCounts")], some (.object "com/example/shortlist/shortlist/TermCounts")⟩ := by decide +kernel
theorem pd_3 : parseMethodDescriptor "()I" = some ⟨[], some .int⟩ := by decide +kernel
theorem pd_4 : parseMethodDescriptor "()J" = some ⟨[], some .long⟩ := by decide +kernel
theorem pn_2 : plainName "com/example/shortlist/shortlist/TermCountsPlusPinLaw" = true := by first | (simp [plainName, overriddenIn]; done) | decide +kernel
theorem efLaw (m : MethodId) (p0_ : Int32) (q1_ : Int64) (p2_ : Int32) (q3_ : Int64) : entryFrame m #[(.int p0_), (.long q1_), (.int p2_), (.long q3_)] maxLocals = mkF m 0 #[.val (.int p0_), .val (.long q1_), .second, .val (.int p2_), .val (.long q3_), .second, .unset, .unset, .unset, .unset, .unset, .unset, .unset, .unset, .unset] [] := by first | (simp [entryFrame, mkF, argsToLocals, Value.category, maxLocals]; done) | rfl
def QLaw (Z : State) (p0_ : Int32) (q1_ : Int64) (p2_ : Int32) (q3_ : Int64) (h0 : Heap) (n0 : Nat) (v : Option Value) (h : Heap) (L : List Loc) : Prop := v = some (.int (1 : Int32)) ∧ Fr n0 L
set_option maxRecDepth 65536 in
set_option maxHeartbeats 40000000 in
theorem rmLaw (l : Launch) (Z : State) (a0 : Array Value) (hw : ∀ d ∈ tables_1, d.before a0 Z = true) (ws : List Jvm.Cond) (p0_ : Int32) (q1_ : Int64) (p2_ : Int32) (q3_ : Int64) (h0 : Heap) (n0 : Nat) (O0 : Old Z n0 h0)  :
    MetFree l x (head1 (Jvm.Cond.code x code maxLocals ret :: ws) room_1) (fun a U => a = #[(.int p0_), (.long q1_), (.int p2_), (.long q3_)] ∧ Z.Warmed39 U.vm ∧ U.heap = h0) (fun _ _ _ _ _ => True) (fun _ U o U' => ∃ v L, o = .returned v ∧ QLaw Z p0_ q1_ p2_ q3_ h0 n0 v U'.heap L ∧ FrameEnd U o U' L room_1.cells room_1.slots) := by
  refine MetFree.of_bodySF (plainFor_of_name pn_2) hisR ?_
  intro p e s m args below meth c s₁ Bd hml0 hP hK
  obtain ⟨rfl, hZ, hh⟩ := hP
  have hx := Bd.exec
  have hby := Bd.bytes
  have hml : c.maxLocals = 15 := hml0
  have hown : s.vm.findClass "com/example/shortlist/shortlist/TermCountsPlusPinLaw" = some m.cls := findClass_of_methodNamed Bd.named
  have hnm := (name_of_methodNamed Bd.named Bd.method).1
  have X0 : Stand p l e room_1 s m #[(.int p0_), (.long q1_), (.int p2_), (.long q3_)] below meth c s₁ [] 0 0 := Stand.of_body Bd
  have e0 : s₁.heap = h0 := by rw [← hh, Bd.state]; rfl
  have N0 := Fr.nil n0
  have pre0 : ∀ t, Steps p.tables e below (s₁.setTop (mkF m 0 #[.val (.int p0_), .val (.long q1_), .second, .val (.int p2_), .val (.long q3_), .second, .unset, .unset, .unset, .unset, .unset, .unset, .unset, .unset, .unset] [])) t → Steps p.tables e below (s₁.setTop (entryFrame m #[(.int p0_), (.long q1_), (.int p2_), (.long q3_)] maxLocals)) t := fun t k => castTop (efLaw m p0_ q1_ p2_ q3_) k
  have K0 : Keep h0 h0 [] := Keep.refl _ _
  obtain ⟨T1, h1, X1, e1, E1, A1, D1, -, st1⟩ := newO X0 hx hZ hown (hw _ (List.mem_of_getElem? (i := 0) rfl)) (hw _ (List.mem_of_getElem? (i := 1) rfl)) (hw _ (List.mem_of_getElem? (i := 2) rfl)) e0 (g := (mkF m 0 #[.val (.int p0_), .val (.long q1_), .second, .val (.int p2_), .val (.long q3_), .second, .unset, .unset, .unset, .unset, .unset, .unset, .unset, .unset, .unset] [])) rfl (hb hby at_0) (by decide) (by decide)
  obtain ⟨b1, g1⟩ : ∃ z, z = h0.size := ⟨_, rfl⟩
  rw [← g1] at A1 D1 st1
  have ge2 : n0 ≤ b1 := Nat.le_trans (Nat.le_trans (Nat.le_of_eq O0.1.symm) O0.2.1) (Nat.le_of_eq g1.symm)
  have sz3 : h0.size ≤ b1 := Nat.le_trans K0.1 (Nat.le_of_eq g1.symm)
  have f4 : Fld Z h1 b1 "com/example/shortlist/shortlist/TermCounts" "documents" "I" (.int (0 : Int32)) := D1 (Or.inr (hw _ (List.mem_of_getElem? (i := 15) rfl))) (ty := .int) (by decide)
  have f5 : Fld Z h1 b1 "com/example/shortlist/shortlist/TermCounts" "occurrences" "J" (.long (0 : Int64)) := D1 (Or.inr (hw _ (List.mem_of_getElem? (i := 17) rfl))) (ty := .long) (by decide)
  have f7 : Old Z n0 h1 := O0.ext E1
  obtain ⟨_, _, ⟨T6, L6, k6, n6⟩, -, X6, ⟨Lc6, hQ6, l6, y6, z6⟩, st6⟩ := X1.specialBack hx (y := (⟨"com/example/shortlist/shortlist/TermCounts", "<init>", "(IJ)V"⟩ : MethodName)) rfl hown (mvT hZ (hw _ (List.mem_of_getElem? (i := 3) rfl))) (mvT hZ (hw _ (List.mem_of_getElem? (i := 4) rfl))) (mvT hZ (hw _ (List.mem_of_getElem? (i := 5) rfl))) (by decide) (backOf (W := 1) (rmIni l Z a0 hw [] b1 p0_ q1_ (0 : Int32) (0 : Int64) h1 n0 f7 A1 f4 f5 ge2) hZ (hw _ (List.mem_of_getElem? (i := 5) rfl)) (hw _ (List.mem_of_getElem? (i := 2) rfl)) (by decide) (by decide)) (g := (mkF m 6 #[.val (.int p0_), .val (.long q1_), .second, .val (.int p2_), .val (.long q3_), .second, .unset, .unset, .unset, .unset, .unset, .unset, .unset, .unset, .unset] [(.long q1_), (.int p0_), (.ref b1), (.ref b1)])) rfl (by rw [hml]; rfl) (Steps.refl _) (a := b1) (argsL := [(.int p0_), (.long q1_)]) (rest := [(.ref b1)]) (lenOf pd_1 rfl) rfl (by show 2 * 0 + _ ≤ _; exact Nat.le_of_eq rfl) (hb hby at_6) (fun _ _ => ⟨rfl, e1, (by decide : 1 + 0 ≤ _), (by decide : 2 + 0 ≤ _)⟩)
  dsimp only [Pt.U, Pt.locs, Pt.cells, Pt.slots] at X6 l6 y6 z6 st6 hQ6
  subst l6 y6 z6
  obtain ⟨h6, e6⟩ : ∃ z, T6.heap = z := ⟨_, rfl⟩
  rw [e6] at hQ6
  obtain ⟨rfl, N6q, K6, g6_0, g6_1, g6_2⟩ := hQ6
  have N8 := Fr.app N0 N6q
  obtain ⟨T9, h9, X9, e9, E9, A9, D9, -, st9⟩ := newO X6 hx hZ hown (hw _ (List.mem_of_getElem? (i := 0) rfl)) (hw _ (List.mem_of_getElem? (i := 1) rfl)) (hw _ (List.mem_of_getElem? (i := 2) rfl)) e6 (g := (mkF m 11 #[.val (.int p0_), .val (.long q1_), .second, .val (.int p2_), .val (.long q3_), .second, .val (.ref b1), .unset, .unset, .unset, .unset, .unset, .unset, .unset, .unset] [])) rfl (hb hby at_11) (by decide) (by decide)
  obtain ⟨b9, g9⟩ : ∃ z, z = h6.size := ⟨_, rfl⟩
  rw [← g9] at A9 D9 st9
  have f10 : Old Z n0 h6 := f7.keep K6 (allS (ge2) all0)
  have ge11 : n0 ≤ b9 := Nat.le_trans (Nat.le_trans (Nat.le_of_eq f10.1.symm) f10.2.1) (Nat.le_of_eq g9.symm)
  have f12 : Keep h0 h1 [] := K0.ext E1
  have f13 : Keep h0 h6 [] := f12.trans K6 (allS (Or.inr sz3) all0)
  have sz14 : h0.size ≤ b9 := Nat.le_trans f13.1 (Nat.le_of_eq g9.symm)
  have f15 : Fld Z h9 b9 "com/example/shortlist/shortlist/TermCounts" "documents" "I" (.int (0 : Int32)) := D9 (Or.inr (hw _ (List.mem_of_getElem? (i := 15) rfl))) (ty := .int) (by decide)
  have f16 : Fld Z h9 b9 "com/example/shortlist/shortlist/TermCounts" "occurrences" "J" (.long (0 : Int64)) := D9 (Or.inr (hw _ (List.mem_of_getElem? (i := 17) rfl))) (ty := .long) (by decide)
  have f18 : Old Z n0 h9 := f10.ext E9
  obtain ⟨_, _, ⟨T17, L17, k17, n17⟩, -, X17, ⟨Lc17, hQ17, l17, y17, z17⟩, st17⟩ := X9.specialBack hx (y := (⟨"com/example/shortlist/shortlist/TermCounts", "<init>", "(IJ)V"⟩ : MethodName)) rfl hown (mvT hZ (hw _ (List.mem_of_getElem? (i := 3) rfl))) (mvT hZ (hw _ (List.mem_of_getElem? (i := 4) rfl))) (mvT hZ (hw _ (List.mem_of_getElem? (i := 5) rfl))) (by decide) (backOf (W := 1) (rmIni l Z a0 hw [] b9 p2_ q3_ (0 : Int32) (0 : Int64) h9 n0 f18 A9 f15 f16 ge11) hZ (hw _ (List.mem_of_getElem? (i := 5) rfl)) (hw _ (List.mem_of_getElem? (i := 2) rfl)) (by decide) (by decide)) (g := (mkF m 18 #[.val (.int p0_), .val (.long q1_), .second, .val (.int p2_), .val (.long q3_), .second, .val (.ref b1), .unset, .unset, .unset, .unset, .unset, .unset, .unset, .unset] [(.long q3_), (.int p2_), (.ref b9), (.ref b9)])) rfl (by rw [hml]; rfl) (Steps.refl _) (a := b9) (argsL := [(.int p2_), (.long q3_)]) (rest := [(.ref b9)]) (lenOf pd_1 rfl) rfl (by show 2 * 0 + _ ≤ _; exact Nat.le_of_eq rfl) (hb hby at_18) (fun _ _ => ⟨rfl, e9, (by decide : 2 + 0 ≤ _), (by decide : 4 + 0 ≤ _)⟩)
  dsimp only [Pt.U, Pt.locs, Pt.cells, Pt.slots] at X17 l17 y17 z17 st17 hQ17
  subst l17 y17 z17
  obtain ⟨h17, e17⟩ : ∃ z, T17.heap = z := ⟨_, rfl⟩
  rw [e17] at hQ17
  obtain ⟨rfl, N17q, K17, g17_0, g17_1, g17_2⟩ := hQ17
  have N19 := Fr.app N8 N17q
  have f21 : Fld Z h9 b1 "com/example/shortlist/shortlist/TermCounts" "documents" "I" (.int p0_) := g6_1.ext E9
  have ne23 : b1 ≠ b9 := Nat.ne_of_lt (Nat.lt_of_lt_of_le g6_0.lt (Nat.le_of_eq g9.symm))
  have f22 : Fld Z h17 b1 "com/example/shortlist/shortlist/TermCounts" "documents" "I" (.int p0_) := f21.keep K17 (ninS ne23 nin0)
  have f24 : Fld Z h9 b1 "com/example/shortlist/shortlist/TermCounts" "occurrences" "J" (.long q1_) := g6_2.ext E9
  have f25 : Fld Z h17 b1 "com/example/shortlist/shortlist/TermCounts" "occurrences" "J" (.long q1_) := f24.keep K17 (ninS ne23 nin0)
  have f26 : Old Z n0 h17 := f18.keep K17 (allS (ge11) all0)
  have f27 : Exa Z h9 b1 "com/example/shortlist/shortlist/TermCounts" := g6_0.ext E9
  have f28 : Exa Z h17 b1 "com/example/shortlist/shortlist/TermCounts" := f27.keep K17
  obtain ⟨cq20, kq20, q20a, q20b, q20c⟩ := isOf hZ e17 f28
  obtain ⟨_, _, ⟨T20, L20, k20, n20⟩, -, X20, ⟨Lc20, hQ20, l20, y20, z20⟩, st20⟩ := X17.virtualBack hx (y := (⟨"com/example/shortlist/shortlist/TermCounts", "plus", "(Lcom/example/shortlist/shortlist/TermCounts;)Lcom/example/shortlist/shortlist/TermCounts;"⟩ : MethodName)) (z := (⟨"com/example/shortlist/shortlist/TermCounts", "plus", "(Lcom/example/shortlist/shortlist/TermCounts;)Lcom/example/shortlist/shortlist/TermCounts;"⟩ : MethodName)) hown (mvT hZ (hw _ (List.mem_of_getElem? (i := 18) rfl))) (mvT hZ (hw _ (List.mem_of_getElem? (i := 19) rfl))) (notFace_of_selects (args := #[]) (mvT hZ (hw _ (List.mem_of_getElem? (i := 21) rfl)))) (mvT hZ (hw _ (List.mem_of_getElem? (i := 21) rfl))) (mvT hZ (hw _ (List.mem_of_getElem? (i := 20) rfl))) (by decide) (backOf (W := 0) (rmPlus l Z a0 hw [] b1 b9 p0_ p2_ q1_ q3_ h17 n0 f26 f22 g17_1 f25 g17_2) hZ (hw _ (List.mem_of_getElem? (i := 22) rfl)) (hw _ (List.mem_of_getElem? (i := 2) rfl)) (by decide) (by decide)) q20a q20c (g := (mkF m 27 #[.val (.int p0_), .val (.long q1_), .second, .val (.int p2_), .val (.long q3_), .second, .val (.ref b1), .val (.ref b9), .unset, .unset, .unset, .unset, .unset, .unset, .unset] [(.ref b9), (.ref b1)])) rfl (by rw [hml]; rfl) (Steps.refl _) (argsL := [(.ref b9)]) (rest := []) (lenOf pd_2 rfl) rfl (by show 2 * 0 + _ ≤ _; exact Nat.le_of_eq rfl) (hb hby at_27) (fun _ _ => ⟨rfl, e17, (by decide : 2 + 1 ≤ _), (by decide : 4 + 2 ≤ _)⟩)
  dsimp only [Pt.U, Pt.locs, Pt.cells, Pt.slots] at X20 l20 y20 z20 st20 hQ20
  subst l20 y20 z20
  obtain ⟨h20, e20⟩ : ∃ z, T20.heap = z := ⟨_, rfl⟩
  rw [e20] at hQ20
  obtain ⟨nb1_20, rfl, N20q, K20, sznb1_20, g20_0, g20_1, g20_2⟩ := hQ20
  have N29 := Fr.app N19 N20q
  have ge30 : n0 ≤ nb1_20 := Nat.le_trans (Nat.le_trans (Nat.le_of_eq f26.1.symm) f26.2.1) sznb1_20
  have f31 : Keep h0 h9 [] := f13.ext E9
  have f32 : Keep h0 h17 [] := f31.trans K17 (allS (Or.inr sz14) all0)
  have sz33 : h0.size ≤ nb1_20 := Nat.le_trans f32.1 sznb1_20
  have f35 : Fld Z h20 b9 "com/example/shortlist/shortlist/TermCounts" "documents" "I" (.int p2_) := g17_1.keep K20 nin0
  have f36 : Fld Z h20 b1 "com/example/shortlist/shortlist/TermCounts" "documents" "I" (.int p0_) := f22.keep K20 nin0
  have f37 : Fld Z h20 b9 "com/example/shortlist/shortlist/TermCounts" "occurrences" "J" (.long q3_) := g17_2.keep K20 nin0
  have f38 : Fld Z h20 b1 "com/example/shortlist/shortlist/TermCounts" "occurrences" "J" (.long q1_) := f25.keep K20 nin0
  have f39 : Old Z n0 h20 := f26.keep K20 all0
  have f40 : Exa Z h20 b9 "com/example/shortlist/shortlist/TermCounts" := g17_0.keep K20
  obtain ⟨cq34, kq34, q34a, q34b, q34c⟩ := isOf hZ e20 f40
  obtain ⟨_, _, ⟨T34, L34, k34, n34⟩, -, X34, ⟨Lc34, hQ34, l34, y34, z34⟩, st34⟩ := X20.virtualBack hx (y := (⟨"com/example/shortlist/shortlist/TermCounts", "plus", "(Lcom/example/shortlist/shortlist/TermCounts;)Lcom/example/shortlist/shortlist/TermCounts;"⟩ : MethodName)) (z := (⟨"com/example/shortlist/shortlist/TermCounts", "plus", "(Lcom/example/shortlist/shortlist/TermCounts;)Lcom/example/shortlist/shortlist/TermCounts;"⟩ : MethodName)) hown (mvT hZ (hw _ (List.mem_of_getElem? (i := 18) rfl))) (mvT hZ (hw _ (List.mem_of_getElem? (i := 19) rfl))) (notFace_of_selects (args := #[]) (mvT hZ (hw _ (List.mem_of_getElem? (i := 21) rfl)))) (mvT hZ (hw _ (List.mem_of_getElem? (i := 21) rfl))) (mvT hZ (hw _ (List.mem_of_getElem? (i := 20) rfl))) (by decide) (backOf (W := 0) (rmPlus l Z a0 hw [] b9 b1 p2_ p0_ q3_ q1_ h20 n0 f39 f35 f36 f37 f38) hZ (hw _ (List.mem_of_getElem? (i := 22) rfl)) (hw _ (List.mem_of_getElem? (i := 2) rfl)) (by decide) (by decide)) q34a q34c (g := (mkF m 36 #[.val (.int p0_), .val (.long q1_), .second, .val (.int p2_), .val (.long q3_), .second, .val (.ref b1), .val (.ref b9), .val (.ref nb1_20), .unset, .unset, .unset, .unset, .unset, .unset] [(.ref b1), (.ref b9)])) rfl (by rw [hml]; rfl) (Steps.refl _) (argsL := [(.ref b1)]) (rest := []) (lenOf pd_2 rfl) rfl (by show 2 * 0 + _ ≤ _; exact Nat.le_of_eq rfl) (hb hby at_36) (fun _ _ => ⟨rfl, e20, (by decide : 3 + 1 ≤ _), (by decide : 6 + 2 ≤ _)⟩)
  dsimp only [Pt.U, Pt.locs, Pt.cells, Pt.slots] at X34 l34 y34 z34 st34 hQ34
  subst l34 y34 z34
  obtain ⟨h34, e34⟩ : ∃ z, T34.heap = z := ⟨_, rfl⟩
  rw [e34] at hQ34
  obtain ⟨nb1_34, rfl, N34q, K34, sznb1_34, g34_0, g34_1, g34_2⟩ := hQ34
  have N41 := Fr.app N29 N34q
  have ge42 : n0 ≤ nb1_34 := Nat.le_trans (Nat.le_trans (Nat.le_of_eq f39.1.symm) f39.2.1) sznb1_34
  have f43 : Keep h0 h20 [] := f32.trans K20 all0
  have sz44 : h0.size ≤ nb1_34 := Nat.le_trans f43.1 sznb1_34
  have f46 : Fld Z h34 nb1_20 "com/example/shortlist/shortlist/TermCounts" "documents" "I" (.int (p0_ + p2_)) := g20_1.keep K34 nin0
  have f47 : Old Z n0 h34 := f39.keep K34 all0
  have f48 : Exa Z h34 nb1_20 "com/example/shortlist/shortlist/TermCounts" := g20_0.keep K34
  obtain ⟨cq45, kq45, q45a, q45b, q45c⟩ := isOf hZ e34 f48
  obtain ⟨_, _, ⟨T45, L45, k45, n45⟩, -, X45, ⟨Lc45, hQ45, l45, y45, z45⟩, st45⟩ := X34.virtualBack hx (y := (⟨"com/example/shortlist/shortlist/TermCounts", "documents", "()I"⟩ : MethodName)) (z := (⟨"com/example/shortlist/shortlist/TermCounts", "documents", "()I"⟩ : MethodName)) hown (mvT hZ (hw _ (List.mem_of_getElem? (i := 25) rfl))) (mvT hZ (hw _ (List.mem_of_getElem? (i := 26) rfl))) (notFace_of_selects (args := #[]) (mvT hZ (hw _ (List.mem_of_getElem? (i := 28) rfl)))) (mvT hZ (hw _ (List.mem_of_getElem? (i := 28) rfl))) (mvT hZ (hw _ (List.mem_of_getElem? (i := 27) rfl))) (by decide) (backOf (W := 0) (rmDoc l Z a0 hw [] nb1_20 (p0_ + p2_) h34 n0 f47 f46) hZ (hw _ (List.mem_of_getElem? (i := 29) rfl)) (hw _ (List.mem_of_getElem? (i := 2) rfl)) (by decide) (by decide)) q45a q45c (g := (mkF m 43 #[.val (.int p0_), .val (.long q1_), .second, .val (.int p2_), .val (.long q3_), .second, .val (.ref b1), .val (.ref b9), .val (.ref nb1_20), .val (.ref nb1_34), .unset, .unset, .unset, .unset, .unset] [(.ref nb1_20)])) rfl (by rw [hml]; rfl) (Steps.refl _) (argsL := []) (rest := []) (lenOf pd_3 rfl) rfl (by show 2 * 0 + _ ≤ _; exact Nat.le_of_eq rfl) (hb hby at_43) (fun _ _ => ⟨rfl, e34, (by decide : 4 + 0 ≤ _), (by decide : 8 + 0 ≤ _)⟩)
  dsimp only [Pt.U, Pt.locs, Pt.cells, Pt.slots] at X45 l45 y45 z45 st45 hQ45
  subst l45 y45 z45
  obtain ⟨h45, e45⟩ : ∃ z, T45.heap = z := ⟨_, rfl⟩
  rw [e45] at hQ45
  obtain ⟨rfl, N45q, hh45⟩ := hQ45
  have N49 := Fr.app N41 N45q
  have e45' : T45.heap = h34 := e45.trans hh45
  have f51 : Fld Z h34 nb1_20 "com/example/shortlist/shortlist/TermCounts" "occurrences" "J" (.long (q1_ + q3_)) := g20_2.keep K34 nin0
  obtain ⟨cq50, kq50, q50a, q50b, q50c⟩ := isOf hZ e45' f48
  obtain ⟨_, _, ⟨T50, L50, k50, n50⟩, -, X50, ⟨Lc50, hQ50, l50, y50, z50⟩, st50⟩ := X45.virtualBack hx (y := (⟨"com/example/shortlist/shortlist/TermCounts", "occurrences", "()J"⟩ : MethodName)) (z := (⟨"com/example/shortlist/shortlist/TermCounts", "occurrences", "()J"⟩ : MethodName)) hown (mvT hZ (hw _ (List.mem_of_getElem? (i := 30) rfl))) (mvT hZ (hw _ (List.mem_of_getElem? (i := 31) rfl))) (notFace_of_selects (args := #[]) (mvT hZ (hw _ (List.mem_of_getElem? (i := 33) rfl)))) (mvT hZ (hw _ (List.mem_of_getElem? (i := 33) rfl))) (mvT hZ (hw _ (List.mem_of_getElem? (i := 32) rfl))) (by decide) (backOf (W := 0) (rmOcc l Z a0 hw [] nb1_20 (q1_ + q3_) h34 n0 f47 f51) hZ (hw _ (List.mem_of_getElem? (i := 34) rfl)) (hw _ (List.mem_of_getElem? (i := 2) rfl)) (by decide) (by decide)) q50a q50c (g := (mkF m 50 #[.val (.int p0_), .val (.long q1_), .second, .val (.int p2_), .val (.long q3_), .second, .val (.ref b1), .val (.ref b9), .val (.ref nb1_20), .val (.ref nb1_34), .val (.int (p0_ + p2_)), .unset, .unset, .unset, .unset] [(.ref nb1_20)])) rfl (by rw [hml]; rfl) (Steps.refl _) (argsL := []) (rest := []) (lenOf pd_4 rfl) rfl (by show 2 * 0 + _ ≤ _; exact Nat.le_of_eq rfl) (hb hby at_50) (fun _ _ => ⟨rfl, e45', (by decide : 4 + 0 ≤ _), (by decide : 8 + 0 ≤ _)⟩)
  dsimp only [Pt.U, Pt.locs, Pt.cells, Pt.slots] at X50 l50 y50 z50 st50 hQ50
  subst l50 y50 z50
  obtain ⟨h50, e50⟩ : ∃ z, T50.heap = z := ⟨_, rfl⟩
  rw [e50] at hQ50
  obtain ⟨rfl, N50q, hh50⟩ := hQ50
  have N52 := Fr.app N49 N50q
  have e50' : T50.heap = h34 := e50.trans hh50
  obtain ⟨cq53, kq53, q53a, q53b, q53c⟩ := isOf hZ e50' g34_0
  obtain ⟨_, _, ⟨T53, L53, k53, n53⟩, -, X53, ⟨Lc53, hQ53, l53, y53, z53⟩, st53⟩ := X50.virtualBack hx (y := (⟨"com/example/shortlist/shortlist/TermCounts", "documents", "()I"⟩ : MethodName)) (z := (⟨"com/example/shortlist/shortlist/TermCounts", "documents", "()I"⟩ : MethodName)) hown (mvT hZ (hw _ (List.mem_of_getElem? (i := 25) rfl))) (mvT hZ (hw _ (List.mem_of_getElem? (i := 26) rfl))) (notFace_of_selects (args := #[]) (mvT hZ (hw _ (List.mem_of_getElem? (i := 28) rfl)))) (mvT hZ (hw _ (List.mem_of_getElem? (i := 28) rfl))) (mvT hZ (hw _ (List.mem_of_getElem? (i := 27) rfl))) (by decide) (backOf (W := 1) (rmDoc l Z a0 hw [] nb1_34 (p2_ + p0_) h34 n0 f47 g34_1) hZ (hw _ (List.mem_of_getElem? (i := 29) rfl)) (hw _ (List.mem_of_getElem? (i := 2) rfl)) (by decide) (by decide)) q53a q53c (g := (mkF m 84 #[.val (.int p0_), .val (.long q1_), .second, .val (.int p2_), .val (.long q3_), .second, .val (.ref b1), .val (.ref b9), .val (.ref nb1_20), .val (.ref nb1_34), .val (.int (p0_ + p2_)), .val (.long (q1_ + q3_)), .second, .val (.int (1 : Int32)), .unset] [(.ref nb1_34), (.int (p0_ + p2_))])) rfl (by rw [hml]; rfl) (Steps.refl _) (argsL := []) (rest := [(.int (p0_ + p2_))]) (lenOf pd_3 rfl) rfl (by show 2 * 0 + _ ≤ _; exact Nat.le_of_eq rfl) (hb hby at_84) (fun _ _ => ⟨rfl, e50', (by decide : 4 + 0 ≤ _), (by decide : 8 + 0 ≤ _)⟩)
  dsimp only [Pt.U, Pt.locs, Pt.cells, Pt.slots] at X53 l53 y53 z53 st53 hQ53
  subst l53 y53 z53
  obtain ⟨h53, e53⟩ : ∃ z, T53.heap = z := ⟨_, rfl⟩
  rw [e53] at hQ53
  obtain ⟨rfl, N53q, hh53⟩ := hQ53
  have N54 := Fr.app N52 N53q
  have e53' : T53.heap = h34 := e53.trans hh53
  obtain ⟨cq55, kq55, q55a, q55b, q55c⟩ := isOf hZ e53' g34_0
  obtain ⟨_, _, ⟨T55, L55, k55, n55⟩, -, X55, ⟨Lc55, hQ55, l55, y55, z55⟩, st55⟩ := X53.virtualBack hx (y := (⟨"com/example/shortlist/shortlist/TermCounts", "occurrences", "()J"⟩ : MethodName)) (z := (⟨"com/example/shortlist/shortlist/TermCounts", "occurrences", "()J"⟩ : MethodName)) hown (mvT hZ (hw _ (List.mem_of_getElem? (i := 30) rfl))) (mvT hZ (hw _ (List.mem_of_getElem? (i := 31) rfl))) (notFace_of_selects (args := #[]) (mvT hZ (hw _ (List.mem_of_getElem? (i := 33) rfl)))) (mvT hZ (hw _ (List.mem_of_getElem? (i := 33) rfl))) (mvT hZ (hw _ (List.mem_of_getElem? (i := 32) rfl))) (by decide) (backOf (W := 2) (rmOcc l Z a0 hw [] nb1_34 (q3_ + q1_) h34 n0 f47 g34_2) hZ (hw _ (List.mem_of_getElem? (i := 34) rfl)) (hw _ (List.mem_of_getElem? (i := 2) rfl)) (by decide) (by decide)) q55a q55c (g := (mkF m 94 #[.val (.int p0_), .val (.long q1_), .second, .val (.int p2_), .val (.long q3_), .second, .val (.ref b1), .val (.ref b9), .val (.ref nb1_20), .val (.ref nb1_34), .val (.int (p0_ + p2_)), .val (.long (q1_ + q3_)), .second, .val (.int (1 : Int32)), .unset] [(.ref nb1_34), (.long (q1_ + q3_))])) rfl (by rw [hml]; rfl) (Steps.refl _) (argsL := []) (rest := [(.long (q1_ + q3_))]) (lenOf pd_4 rfl) rfl (by show 2 * 0 + _ ≤ _; exact Nat.le_of_eq rfl) (hb hby at_94) (fun _ _ => ⟨rfl, e53', (by decide : 4 + 0 ≤ _), (by decide : 8 + 0 ≤ _)⟩)
  dsimp only [Pt.U, Pt.locs, Pt.cells, Pt.slots] at X55 l55 y55 z55 st55 hQ55
  subst l55 y55 z55
  obtain ⟨h55, e55⟩ : ∃ z, T55.heap = z := ⟨_, rfl⟩
  rw [e55] at hQ55
  obtain ⟨rfl, N55q, hh55⟩ := hQ55
  have N56 := Fr.app N54 N55q
  have e55' : T55.heap = h34 := e55.trans hh55
  have pre57 : ∀ t, Steps p.tables e below (T55.setTop (mkF m 123 #[.val (.int p0_), .val (.long q1_), .second, .val (.int p2_), .val (.long q3_), .second, .val (.ref b1), .val (.ref b9), .val (.ref nb1_20), .val (.ref nb1_34), .val (.int (p0_ + p2_)), .val (.long (q1_ + q3_)), .second, .val (.int (1 : Int32)), .val (.int (1 : Int32))] [(.int (1 : Int32))])) t → Steps p.tables e below (s₁.setTop (entryFrame m #[(.int p0_), (.long q1_), (.int p2_), (.long q3_)] maxLocals)) t := by
    intro t kt
    refine pre0 t ?_
    show Steps p.tables e below (s₁.setTop (mkF m 0 #[.val (.int p0_), .val (.long q1_), .second, .val (.int p2_), .val (.long q3_), .second, .unset, .unset, .unset, .unset, .unset, .unset, .unset, .unset, .unset] [])) _
    refine st1 _ ?_
    show Steps p.tables e below (T1.setTop (mkF m 3 #[.val (.int p0_), .val (.long q1_), .second, .val (.int p2_), .val (.long q3_), .second, .unset, .unset, .unset, .unset, .unset, .unset, .unset, .unset, .unset] [(.ref b1)])) _
    refine XS.dup X1.here hx rfl (hb hby at_3) rfl rfl ?_
    show Steps p.tables e below (T1.setTop (mkF m 4 #[.val (.int p0_), .val (.long q1_), .second, .val (.int p2_), .val (.long q3_), .second, .unset, .unset, .unset, .unset, .unset, .unset, .unset, .unset, .unset] [(.ref b1), (.ref b1)])) _
    refine XS.iloadN X1.here hx rfl (hb hby at_4) rfl ?_
    show Steps p.tables e below (T1.setTop (mkF m 5 #[.val (.int p0_), .val (.long q1_), .second, .val (.int p2_), .val (.long q3_), .second, .unset, .unset, .unset, .unset, .unset, .unset, .unset, .unset, .unset] [(.int p0_), (.ref b1), (.ref b1)])) _
    refine XS.lloadN X1.here hx rfl (hb hby at_5) rfl ?_
    show Steps p.tables e below (T1.setTop (mkF m 6 #[.val (.int p0_), .val (.long q1_), .second, .val (.int p2_), .val (.long q3_), .second, .unset, .unset, .unset, .unset, .unset, .unset, .unset, .unset, .unset] [(.long q1_), (.int p0_), (.ref b1), (.ref b1)])) _
    refine st6.trans ?_
    show Steps p.tables e below (T6.setTop (mkF m 9 #[.val (.int p0_), .val (.long q1_), .second, .val (.int p2_), .val (.long q3_), .second, .unset, .unset, .unset, .unset, .unset, .unset, .unset, .unset, .unset] [(.ref b1)])) _
    refine XS.astore X6.here hx rfl (hb hby at_9) rfl rfl (l' := #[.val (.int p0_), .val (.long q1_), .second, .val (.int p2_), .val (.long q3_), .second, .val (.ref b1), .unset, .unset, .unset, .unset, .unset, .unset, .unset, .unset]) rfl ?_
    show Steps p.tables e below (T6.setTop (mkF m 11 #[.val (.int p0_), .val (.long q1_), .second, .val (.int p2_), .val (.long q3_), .second, .val (.ref b1), .unset, .unset, .unset, .unset, .unset, .unset, .unset, .unset] [])) _
    refine st9 _ ?_
    show Steps p.tables e below (T9.setTop (mkF m 14 #[.val (.int p0_), .val (.long q1_), .second, .val (.int p2_), .val (.long q3_), .second, .val (.ref b1), .unset, .unset, .unset, .unset, .unset, .unset, .unset, .unset] [(.ref b9)])) _
    refine XS.dup X9.here hx rfl (hb hby at_14) rfl rfl ?_
    show Steps p.tables e below (T9.setTop (mkF m 15 #[.val (.int p0_), .val (.long q1_), .second, .val (.int p2_), .val (.long q3_), .second, .val (.ref b1), .unset, .unset, .unset, .unset, .unset, .unset, .unset, .unset] [(.ref b9), (.ref b9)])) _
    refine XS.iloadN X9.here hx rfl (hb hby at_15) rfl ?_
    show Steps p.tables e below (T9.setTop (mkF m 16 #[.val (.int p0_), .val (.long q1_), .second, .val (.int p2_), .val (.long q3_), .second, .val (.ref b1), .unset, .unset, .unset, .unset, .unset, .unset, .unset, .unset] [(.int p2_), (.ref b9), (.ref b9)])) _
    refine XS.lload X9.here hx rfl (hb hby at_16) rfl ?_
    show Steps p.tables e below (T9.setTop (mkF m 18 #[.val (.int p0_), .val (.long q1_), .second, .val (.int p2_), .val (.long q3_), .second, .val (.ref b1), .unset, .unset, .unset, .unset, .unset, .unset, .unset, .unset] [(.long q3_), (.int p2_), (.ref b9), (.ref b9)])) _
    refine st17.trans ?_
    show Steps p.tables e below (T17.setTop (mkF m 21 #[.val (.int p0_), .val (.long q1_), .second, .val (.int p2_), .val (.long q3_), .second, .val (.ref b1), .unset, .unset, .unset, .unset, .unset, .unset, .unset, .unset] [(.ref b9)])) _
    refine XS.astore X17.here hx rfl (hb hby at_21) rfl rfl (l' := #[.val (.int p0_), .val (.long q1_), .second, .val (.int p2_), .val (.long q3_), .second, .val (.ref b1), .val (.ref b9), .unset, .unset, .unset, .unset, .unset, .unset, .unset]) rfl ?_
    show Steps p.tables e below (T17.setTop (mkF m 23 #[.val (.int p0_), .val (.long q1_), .second, .val (.int p2_), .val (.long q3_), .second, .val (.ref b1), .val (.ref b9), .unset, .unset, .unset, .unset, .unset, .unset, .unset] [])) _
    refine XS.aload X17.here hx rfl (hb hby at_23) rfl rfl ?_
    show Steps p.tables e below (T17.setTop (mkF m 25 #[.val (.int p0_), .val (.long q1_), .second, .val (.int p2_), .val (.long q3_), .second, .val (.ref b1), .val (.ref b9), .unset, .unset, .unset, .unset, .unset, .unset, .unset] [(.ref b1)])) _
    refine XS.aload X17.here hx rfl (hb hby at_25) rfl rfl ?_
    show Steps p.tables e below (T17.setTop (mkF m 27 #[.val (.int p0_), .val (.long q1_), .second, .val (.int p2_), .val (.long q3_), .second, .val (.ref b1), .val (.ref b9), .unset, .unset, .unset, .unset, .unset, .unset, .unset] [(.ref b9), (.ref b1)])) _
    refine st20.trans ?_
    show Steps p.tables e below (T20.setTop (mkF m 30 #[.val (.int p0_), .val (.long q1_), .second, .val (.int p2_), .val (.long q3_), .second, .val (.ref b1), .val (.ref b9), .unset, .unset, .unset, .unset, .unset, .unset, .unset] [(.ref nb1_20)])) _
    refine XS.astore X20.here hx rfl (hb hby at_30) rfl rfl (l' := #[.val (.int p0_), .val (.long q1_), .second, .val (.int p2_), .val (.long q3_), .second, .val (.ref b1), .val (.ref b9), .val (.ref nb1_20), .unset, .unset, .unset, .unset, .unset, .unset]) rfl ?_
    show Steps p.tables e below (T20.setTop (mkF m 32 #[.val (.int p0_), .val (.long q1_), .second, .val (.int p2_), .val (.long q3_), .second, .val (.ref b1), .val (.ref b9), .val (.ref nb1_20), .unset, .unset, .unset, .unset, .unset, .unset] [])) _
    refine XS.aload X20.here hx rfl (hb hby at_32) rfl rfl ?_
    show Steps p.tables e below (T20.setTop (mkF m 34 #[.val (.int p0_), .val (.long q1_), .second, .val (.int p2_), .val (.long q3_), .second, .val (.ref b1), .val (.ref b9), .val (.ref nb1_20), .unset, .unset, .unset, .unset, .unset, .unset] [(.ref b9)])) _
    refine XS.aload X20.here hx rfl (hb hby at_34) rfl rfl ?_
    show Steps p.tables e below (T20.setTop (mkF m 36 #[.val (.int p0_), .val (.long q1_), .second, .val (.int p2_), .val (.long q3_), .second, .val (.ref b1), .val (.ref b9), .val (.ref nb1_20), .unset, .unset, .unset, .unset, .unset, .unset] [(.ref b1), (.ref b9)])) _
    refine st34.trans ?_
    show Steps p.tables e below (T34.setTop (mkF m 39 #[.val (.int p0_), .val (.long q1_), .second, .val (.int p2_), .val (.long q3_), .second, .val (.ref b1), .val (.ref b9), .val (.ref nb1_20), .unset, .unset, .unset, .unset, .unset, .unset] [(.ref nb1_34)])) _
    refine XS.astore X34.here hx rfl (hb hby at_39) rfl rfl (l' := #[.val (.int p0_), .val (.long q1_), .second, .val (.int p2_), .val (.long q3_), .second, .val (.ref b1), .val (.ref b9), .val (.ref nb1_20), .val (.ref nb1_34), .unset, .unset, .unset, .unset, .unset]) rfl ?_
    show Steps p.tables e below (T34.setTop (mkF m 41 #[.val (.int p0_), .val (.long q1_), .second, .val (.int p2_), .val (.long q3_), .second, .val (.ref b1), .val (.ref b9), .val (.ref nb1_20), .val (.ref nb1_34), .unset, .unset, .unset, .unset, .unset] [])) _
    refine XS.aload X34.here hx rfl (hb hby at_41) rfl rfl ?_
    show Steps p.tables e below (T34.setTop (mkF m 43 #[.val (.int p0_), .val (.long q1_), .second, .val (.int p2_), .val (.long q3_), .second, .val (.ref b1), .val (.ref b9), .val (.ref nb1_20), .val (.ref nb1_34), .unset, .unset, .unset, .unset, .unset] [(.ref nb1_20)])) _
    refine st45.trans ?_
    show Steps p.tables e below (T45.setTop (mkF m 46 #[.val (.int p0_), .val (.long q1_), .second, .val (.int p2_), .val (.long q3_), .second, .val (.ref b1), .val (.ref b9), .val (.ref nb1_20), .val (.ref nb1_34), .unset, .unset, .unset, .unset, .unset] [(.int (p0_ + p2_))])) _
    refine XS.istore X45.here hx rfl (hb hby at_46) rfl (l' := #[.val (.int p0_), .val (.long q1_), .second, .val (.int p2_), .val (.long q3_), .second, .val (.ref b1), .val (.ref b9), .val (.ref nb1_20), .val (.ref nb1_34), .val (.int (p0_ + p2_)), .unset, .unset, .unset, .unset]) rfl ?_
    show Steps p.tables e below (T45.setTop (mkF m 48 #[.val (.int p0_), .val (.long q1_), .second, .val (.int p2_), .val (.long q3_), .second, .val (.ref b1), .val (.ref b9), .val (.ref nb1_20), .val (.ref nb1_34), .val (.int (p0_ + p2_)), .unset, .unset, .unset, .unset] [])) _
    refine XS.aload X45.here hx rfl (hb hby at_48) rfl rfl ?_
    show Steps p.tables e below (T45.setTop (mkF m 50 #[.val (.int p0_), .val (.long q1_), .second, .val (.int p2_), .val (.long q3_), .second, .val (.ref b1), .val (.ref b9), .val (.ref nb1_20), .val (.ref nb1_34), .val (.int (p0_ + p2_)), .unset, .unset, .unset, .unset] [(.ref nb1_20)])) _
    refine st50.trans ?_
    show Steps p.tables e below (T50.setTop (mkF m 53 #[.val (.int p0_), .val (.long q1_), .second, .val (.int p2_), .val (.long q3_), .second, .val (.ref b1), .val (.ref b9), .val (.ref nb1_20), .val (.ref nb1_34), .val (.int (p0_ + p2_)), .unset, .unset, .unset, .unset] [(.long (q1_ + q3_))])) _
    refine XS.lstore X50.here hx rfl (hb hby at_53) rfl (l' := #[.val (.int p0_), .val (.long q1_), .second, .val (.int p2_), .val (.long q3_), .second, .val (.ref b1), .val (.ref b9), .val (.ref nb1_20), .val (.ref nb1_34), .val (.int (p0_ + p2_)), .val (.long (q1_ + q3_)), .second, .unset, .unset]) rfl ?_
    show Steps p.tables e below (T50.setTop (mkF m 55 #[.val (.int p0_), .val (.long q1_), .second, .val (.int p2_), .val (.long q3_), .second, .val (.ref b1), .val (.ref b9), .val (.ref nb1_20), .val (.ref nb1_34), .val (.int (p0_ + p2_)), .val (.long (q1_ + q3_)), .second, .unset, .unset] [])) _
    refine XS.iload X50.here hx rfl (hb hby at_55) rfl ?_
    show Steps p.tables e below (T50.setTop (mkF m 57 #[.val (.int p0_), .val (.long q1_), .second, .val (.int p2_), .val (.long q3_), .second, .val (.ref b1), .val (.ref b9), .val (.ref nb1_20), .val (.ref nb1_34), .val (.int (p0_ + p2_)), .val (.long (q1_ + q3_)), .second, .unset, .unset] [(.int (p0_ + p2_))])) _
    refine XS.iloadN X50.here hx rfl (hb hby at_57) rfl ?_
    show Steps p.tables e below (T50.setTop (mkF m 58 #[.val (.int p0_), .val (.long q1_), .second, .val (.int p2_), .val (.long q3_), .second, .val (.ref b1), .val (.ref b9), .val (.ref nb1_20), .val (.ref nb1_34), .val (.int (p0_ + p2_)), .val (.long (q1_ + q3_)), .second, .unset, .unset] [(.int p2_), (.int (p0_ + p2_))])) _
    refine XS.isub X50.here hx rfl (hb hby at_58) rfl ?_
    show Steps p.tables e below (T50.setTop (mkF m 59 #[.val (.int p0_), .val (.long q1_), .second, .val (.int p2_), .val (.long q3_), .second, .val (.ref b1), .val (.ref b9), .val (.ref nb1_20), .val (.ref nb1_34), .val (.int (p0_ + p2_)), .val (.long (q1_ + q3_)), .second, .unset, .unset] [(.int ((p0_ + p2_) - p2_))])) _
    refine XS.iloadN X50.here hx rfl (hb hby at_59) rfl ?_
    show Steps p.tables e below (T50.setTop (mkF m 60 #[.val (.int p0_), .val (.long q1_), .second, .val (.int p2_), .val (.long q3_), .second, .val (.ref b1), .val (.ref b9), .val (.ref nb1_20), .val (.ref nb1_34), .val (.int (p0_ + p2_)), .val (.long (q1_ + q3_)), .second, .unset, .unset] [(.int p0_), (.int ((p0_ + p2_) - p2_))])) _
    refine XS.icmpNo X50.here hx rfl (hb hby at_60) rfl (teq (own_as p0_ p2_)).2 ?_
    show Steps p.tables e below (T50.setTop (mkF m 63 #[.val (.int p0_), .val (.long q1_), .second, .val (.int p2_), .val (.long q3_), .second, .val (.ref b1), .val (.ref b9), .val (.ref nb1_20), .val (.ref nb1_34), .val (.int (p0_ + p2_)), .val (.long (q1_ + q3_)), .second, .unset, .unset] [])) _
    refine XS.lload X50.here hx rfl (hb hby at_63) rfl ?_
    show Steps p.tables e below (T50.setTop (mkF m 65 #[.val (.int p0_), .val (.long q1_), .second, .val (.int p2_), .val (.long q3_), .second, .val (.ref b1), .val (.ref b9), .val (.ref nb1_20), .val (.ref nb1_34), .val (.int (p0_ + p2_)), .val (.long (q1_ + q3_)), .second, .unset, .unset] [(.long (q1_ + q3_))])) _
    refine XS.lload X50.here hx rfl (hb hby at_65) rfl ?_
    show Steps p.tables e below (T50.setTop (mkF m 67 #[.val (.int p0_), .val (.long q1_), .second, .val (.int p2_), .val (.long q3_), .second, .val (.ref b1), .val (.ref b9), .val (.ref nb1_20), .val (.ref nb1_34), .val (.int (p0_ + p2_)), .val (.long (q1_ + q3_)), .second, .unset, .unset] [(.long q3_), (.long (q1_ + q3_))])) _
    refine XS.lsub X50.here hx rfl (hb hby at_67) rfl ?_
    show Steps p.tables e below (T50.setTop (mkF m 68 #[.val (.int p0_), .val (.long q1_), .second, .val (.int p2_), .val (.long q3_), .second, .val (.ref b1), .val (.ref b9), .val (.ref nb1_20), .val (.ref nb1_34), .val (.int (p0_ + p2_)), .val (.long (q1_ + q3_)), .second, .unset, .unset] [(.long ((q1_ + q3_) - q3_))])) _
    refine XS.lloadN X50.here hx rfl (hb hby at_68) rfl ?_
    show Steps p.tables e below (T50.setTop (mkF m 69 #[.val (.int p0_), .val (.long q1_), .second, .val (.int p2_), .val (.long q3_), .second, .val (.ref b1), .val (.ref b9), .val (.ref nb1_20), .val (.ref nb1_34), .val (.int (p0_ + p2_)), .val (.long (q1_ + q3_)), .second, .unset, .unset] [(.long q1_), (.long ((q1_ + q3_) - q3_))])) _
    refine XS.lcmp X50.here hx rfl (hb hby at_69) rfl ?_
    show Steps p.tables e below (T50.setTop (mkF m 70 #[.val (.int p0_), .val (.long q1_), .second, .val (.int p2_), .val (.long q3_), .second, .val (.ref b1), .val (.ref b9), .val (.ref nb1_20), .val (.ref nb1_34), .val (.int (p0_ + p2_)), .val (.long (q1_ + q3_)), .second, .unset, .unset] [(.int (lcmpW ((q1_ + q3_) - q3_) q1_))])) _
    refine XS.ifNo X50.here hx rfl (hb hby at_70) rfl ((if0 _ _).trans (teq ((lw_eq _ _).mpr (own_asL q1_ q3_))).2) ?_
    show Steps p.tables e below (T50.setTop (mkF m 73 #[.val (.int p0_), .val (.long q1_), .second, .val (.int p2_), .val (.long q3_), .second, .val (.ref b1), .val (.ref b9), .val (.ref nb1_20), .val (.ref nb1_34), .val (.int (p0_ + p2_)), .val (.long (q1_ + q3_)), .second, .unset, .unset] [])) _
    refine XS.iconst X50.here hx rfl (hb hby at_73) ?_
    show Steps p.tables e below (T50.setTop (mkF m 74 #[.val (.int p0_), .val (.long q1_), .second, .val (.int p2_), .val (.long q3_), .second, .val (.ref b1), .val (.ref b9), .val (.ref nb1_20), .val (.ref nb1_34), .val (.int (p0_ + p2_)), .val (.long (q1_ + q3_)), .second, .unset, .unset] [(.int (1 : Int32))])) _
    refine XS.goto X50.here hx rfl (pc0 := 74) (pc' := 78) rfl (hb hby at_74) (by decide) (by decide) ?_
    show Steps p.tables e below (T50.setTop (mkF m 78 #[.val (.int p0_), .val (.long q1_), .second, .val (.int p2_), .val (.long q3_), .second, .val (.ref b1), .val (.ref b9), .val (.ref nb1_20), .val (.ref nb1_34), .val (.int (p0_ + p2_)), .val (.long (q1_ + q3_)), .second, .unset, .unset] [(.int (1 : Int32))])) _
    refine XS.istore X50.here hx rfl (hb hby at_78) rfl (l' := #[.val (.int p0_), .val (.long q1_), .second, .val (.int p2_), .val (.long q3_), .second, .val (.ref b1), .val (.ref b9), .val (.ref nb1_20), .val (.ref nb1_34), .val (.int (p0_ + p2_)), .val (.long (q1_ + q3_)), .second, .val (.int (1 : Int32)), .unset]) rfl ?_
    show Steps p.tables e below (T50.setTop (mkF m 80 #[.val (.int p0_), .val (.long q1_), .second, .val (.int p2_), .val (.long q3_), .second, .val (.ref b1), .val (.ref b9), .val (.ref nb1_20), .val (.ref nb1_34), .val (.int (p0_ + p2_)), .val (.long (q1_ + q3_)), .second, .val (.int (1 : Int32)), .unset] [])) _
    refine XS.iload X50.here hx rfl (hb hby at_80) rfl ?_
    show Steps p.tables e below (T50.setTop (mkF m 82 #[.val (.int p0_), .val (.long q1_), .second, .val (.int p2_), .val (.long q3_), .second, .val (.ref b1), .val (.ref b9), .val (.ref nb1_20), .val (.ref nb1_34), .val (.int (p0_ + p2_)), .val (.long (q1_ + q3_)), .second, .val (.int (1 : Int32)), .unset] [(.int (p0_ + p2_))])) _
    refine XS.aload X50.here hx rfl (hb hby at_82) rfl rfl ?_
    show Steps p.tables e below (T50.setTop (mkF m 84 #[.val (.int p0_), .val (.long q1_), .second, .val (.int p2_), .val (.long q3_), .second, .val (.ref b1), .val (.ref b9), .val (.ref nb1_20), .val (.ref nb1_34), .val (.int (p0_ + p2_)), .val (.long (q1_ + q3_)), .second, .val (.int (1 : Int32)), .unset] [(.ref nb1_34), (.int (p0_ + p2_))])) _
    refine st53.trans ?_
    show Steps p.tables e below (T53.setTop (mkF m 87 #[.val (.int p0_), .val (.long q1_), .second, .val (.int p2_), .val (.long q3_), .second, .val (.ref b1), .val (.ref b9), .val (.ref nb1_20), .val (.ref nb1_34), .val (.int (p0_ + p2_)), .val (.long (q1_ + q3_)), .second, .val (.int (1 : Int32)), .unset] [(.int (p2_ + p0_)), (.int (p0_ + p2_))])) _
    refine XS.icmpNo X53.here hx rfl (hb hby at_87) rfl (teq (Int32.add_comm p0_ p2_)).2 ?_
    show Steps p.tables e below (T53.setTop (mkF m 90 #[.val (.int p0_), .val (.long q1_), .second, .val (.int p2_), .val (.long q3_), .second, .val (.ref b1), .val (.ref b9), .val (.ref nb1_20), .val (.ref nb1_34), .val (.int (p0_ + p2_)), .val (.long (q1_ + q3_)), .second, .val (.int (1 : Int32)), .unset] [])) _
    refine XS.lload X53.here hx rfl (hb hby at_90) rfl ?_
    show Steps p.tables e below (T53.setTop (mkF m 92 #[.val (.int p0_), .val (.long q1_), .second, .val (.int p2_), .val (.long q3_), .second, .val (.ref b1), .val (.ref b9), .val (.ref nb1_20), .val (.ref nb1_34), .val (.int (p0_ + p2_)), .val (.long (q1_ + q3_)), .second, .val (.int (1 : Int32)), .unset] [(.long (q1_ + q3_))])) _
    refine XS.aload X53.here hx rfl (hb hby at_92) rfl rfl ?_
    show Steps p.tables e below (T53.setTop (mkF m 94 #[.val (.int p0_), .val (.long q1_), .second, .val (.int p2_), .val (.long q3_), .second, .val (.ref b1), .val (.ref b9), .val (.ref nb1_20), .val (.ref nb1_34), .val (.int (p0_ + p2_)), .val (.long (q1_ + q3_)), .second, .val (.int (1 : Int32)), .unset] [(.ref nb1_34), (.long (q1_ + q3_))])) _
    refine st55.trans ?_
    show Steps p.tables e below (T55.setTop (mkF m 97 #[.val (.int p0_), .val (.long q1_), .second, .val (.int p2_), .val (.long q3_), .second, .val (.ref b1), .val (.ref b9), .val (.ref nb1_20), .val (.ref nb1_34), .val (.int (p0_ + p2_)), .val (.long (q1_ + q3_)), .second, .val (.int (1 : Int32)), .unset] [(.long (q3_ + q1_)), (.long (q1_ + q3_))])) _
    refine XS.lcmp X55.here hx rfl (hb hby at_97) rfl ?_
    show Steps p.tables e below (T55.setTop (mkF m 98 #[.val (.int p0_), .val (.long q1_), .second, .val (.int p2_), .val (.long q3_), .second, .val (.ref b1), .val (.ref b9), .val (.ref nb1_20), .val (.ref nb1_34), .val (.int (p0_ + p2_)), .val (.long (q1_ + q3_)), .second, .val (.int (1 : Int32)), .unset] [(.int (lcmpW (q1_ + q3_) (q3_ + q1_)))])) _
    refine XS.ifNo X55.here hx rfl (hb hby at_98) rfl ((if0 _ _).trans (teq ((lw_eq _ _).mpr (Int64.add_comm q1_ q3_))).2) ?_
    show Steps p.tables e below (T55.setTop (mkF m 101 #[.val (.int p0_), .val (.long q1_), .second, .val (.int p2_), .val (.long q3_), .second, .val (.ref b1), .val (.ref b9), .val (.ref nb1_20), .val (.ref nb1_34), .val (.int (p0_ + p2_)), .val (.long (q1_ + q3_)), .second, .val (.int (1 : Int32)), .unset] [])) _
    refine XS.iconst X55.here hx rfl (hb hby at_101) ?_
    show Steps p.tables e below (T55.setTop (mkF m 102 #[.val (.int p0_), .val (.long q1_), .second, .val (.int p2_), .val (.long q3_), .second, .val (.ref b1), .val (.ref b9), .val (.ref nb1_20), .val (.ref nb1_34), .val (.int (p0_ + p2_)), .val (.long (q1_ + q3_)), .second, .val (.int (1 : Int32)), .unset] [(.int (1 : Int32))])) _
    refine XS.goto X55.here hx rfl (pc0 := 102) (pc' := 106) rfl (hb hby at_102) (by decide) (by decide) ?_
    show Steps p.tables e below (T55.setTop (mkF m 106 #[.val (.int p0_), .val (.long q1_), .second, .val (.int p2_), .val (.long q3_), .second, .val (.ref b1), .val (.ref b9), .val (.ref nb1_20), .val (.ref nb1_34), .val (.int (p0_ + p2_)), .val (.long (q1_ + q3_)), .second, .val (.int (1 : Int32)), .unset] [(.int (1 : Int32))])) _
    refine XS.istore X55.here hx rfl (hb hby at_106) rfl (l' := #[.val (.int p0_), .val (.long q1_), .second, .val (.int p2_), .val (.long q3_), .second, .val (.ref b1), .val (.ref b9), .val (.ref nb1_20), .val (.ref nb1_34), .val (.int (p0_ + p2_)), .val (.long (q1_ + q3_)), .second, .val (.int (1 : Int32)), .val (.int (1 : Int32))]) rfl ?_
    show Steps p.tables e below (T55.setTop (mkF m 108 #[.val (.int p0_), .val (.long q1_), .second, .val (.int p2_), .val (.long q3_), .second, .val (.ref b1), .val (.ref b9), .val (.ref nb1_20), .val (.ref nb1_34), .val (.int (p0_ + p2_)), .val (.long (q1_ + q3_)), .second, .val (.int (1 : Int32)), .val (.int (1 : Int32))] [])) _
    refine XS.iload X55.here hx rfl (hb hby at_108) rfl ?_
    show Steps p.tables e below (T55.setTop (mkF m 110 #[.val (.int p0_), .val (.long q1_), .second, .val (.int p2_), .val (.long q3_), .second, .val (.ref b1), .val (.ref b9), .val (.ref nb1_20), .val (.ref nb1_34), .val (.int (p0_ + p2_)), .val (.long (q1_ + q3_)), .second, .val (.int (1 : Int32)), .val (.int (1 : Int32))] [(.int (1 : Int32))])) _
    refine XS.ifNo X55.here hx rfl (hb hby at_110) rfl ((if0 _ _).trans (feq (by decide : ¬ ((1 : Int32) = (0 : Int32)))).1) ?_
    show Steps p.tables e below (T55.setTop (mkF m 113 #[.val (.int p0_), .val (.long q1_), .second, .val (.int p2_), .val (.long q3_), .second, .val (.ref b1), .val (.ref b9), .val (.ref nb1_20), .val (.ref nb1_34), .val (.int (p0_ + p2_)), .val (.long (q1_ + q3_)), .second, .val (.int (1 : Int32)), .val (.int (1 : Int32))] [])) _
    refine XS.iload X55.here hx rfl (hb hby at_113) rfl ?_
    show Steps p.tables e below (T55.setTop (mkF m 115 #[.val (.int p0_), .val (.long q1_), .second, .val (.int p2_), .val (.long q3_), .second, .val (.ref b1), .val (.ref b9), .val (.ref nb1_20), .val (.ref nb1_34), .val (.int (p0_ + p2_)), .val (.long (q1_ + q3_)), .second, .val (.int (1 : Int32)), .val (.int (1 : Int32))] [(.int (1 : Int32))])) _
    refine XS.ifNo X55.here hx rfl (hb hby at_115) rfl ((if0 _ _).trans (feq (by decide : ¬ ((1 : Int32) = (0 : Int32)))).1) ?_
    show Steps p.tables e below (T55.setTop (mkF m 118 #[.val (.int p0_), .val (.long q1_), .second, .val (.int p2_), .val (.long q3_), .second, .val (.ref b1), .val (.ref b9), .val (.ref nb1_20), .val (.ref nb1_34), .val (.int (p0_ + p2_)), .val (.long (q1_ + q3_)), .second, .val (.int (1 : Int32)), .val (.int (1 : Int32))] [])) _
    refine XS.iconst X55.here hx rfl (hb hby at_118) ?_
    show Steps p.tables e below (T55.setTop (mkF m 119 #[.val (.int p0_), .val (.long q1_), .second, .val (.int p2_), .val (.long q3_), .second, .val (.ref b1), .val (.ref b9), .val (.ref nb1_20), .val (.ref nb1_34), .val (.int (p0_ + p2_)), .val (.long (q1_ + q3_)), .second, .val (.int (1 : Int32)), .val (.int (1 : Int32))] [(.int (1 : Int32))])) _
    refine XS.goto X55.here hx rfl (pc0 := 119) (pc' := 123) rfl (hb hby at_119) (by decide) (by decide) ?_
    exact kt
  obtain ⟨fs, hr, hrun, hended, hW, hsame⟩ := X55.leave (v := some (.int (1 : Int32))) (fun h => by rw [Bd.returns] at h; cases h)
  refine ⟨_, _, pre57 _ (retN X55 hx (t := .boolean) Bd.returns (by simp) (hb hby at_123) hr), hrun, hended, _, _, rfl, ?_, ⟨_, rfl⟩, hW, hsame.mono (by decide) (by decide)⟩
  show QLaw Z p0_ q1_ p2_ q3_ h0 n0 _ T55.heap _
  rw [e55']
  exact ⟨rfl, N56⟩
set_option maxRecDepth 65536 in
set_option maxHeartbeats 40000000 in
theorem comes_1 {Post : Tables → Env → Array Value → State → Outcome → State → Prop} (hpost : ∀ tb e args s v u, (limb_1_1.after args s (.returned v) u = true ∧ limb_1_2.after args s (.returned v) u = true ∧ True) → FrameEnd s (.returned v) u (Jvm.fieldLocs frame_1_writes args s ++ Jvm.arrayLocs frame_1_arrays args s ++ Jvm.staticLocs frame_1_statics s) 16 128 → Post tb e args s (.returned v) u) :
    ArmFor flags0 classFile x code maxLocals ret World_1 tables_1 room_1 Calls_1 rest_1 Pre_1 Post := by
  intro l hfl _ _ p e ha hc hk s m args below hf hA hF happ hP
  obtain ⟨hcalls, hrest, hpre⟩ := hP
  obtain ⟨-, -, -, hnamed, -, -, -, hat⟩ := (Spec.applies_iff hf).mp happ
  obtain ⟨hg, hn⟩ := and_e (Cond.before_iff.mp (show (Jvm.Cond.and given_1 narrow_1).before args s = true from hpre))
  obtain ⟨g1, g2⟩ := and_e hg
  obtain ⟨g3, g4⟩ := and_e g2
  obtain ⟨g5, g6⟩ := and_e g4
  obtain ⟨g7, g8⟩ := and_e g6
  obtain ⟨w0, w1, w2, w3, rfl⟩ : ∃ w0 w1 w2 w3 : Value, args = #[w0, w1, w2, w3] := by
    have hs : args.size = 4 := by simpa [Cond.value, given_1] using g1
    obtain ⟨L⟩ := args
    match L, hs with
    | [w0, w1, w2, w3], _ => exact ⟨w0, w1, w2, w3, rfl⟩
  have hw := fun d (hd : d ∈ tables_1) => atoms_spec (ws := Jvm.Cond.code x code maxLocals ret :: tables_1) hat d (List.mem_cons_of_mem _ hd)
  have hfit : Fit s := fun {y c} hc i hi => by
    obtain ⟨ha, rfl⟩ := Array.getElem?_eq_some_iff.mp hc
    have q := List.all_eq_true.mp ((Array.all_eq_true_iff_forall_mem.mp hF) _ (Array.getElem_mem ha)) i (List.mem_range.mpr hi)
    simpa [Array.getElem?_eq_getElem hi] using q
  obtain ⟨i0, ei0⟩ := is_v g3
  obtain rfl : w0 = (.int i0) := Option.some.inj ei0
  obtain ⟨i1, ei1⟩ := isL_v g5
  obtain rfl : w1 = (.long i1) := Option.some.inj ei1
  obtain ⟨i2, ei2⟩ := is_v g7
  obtain rfl : w2 = (.int i2) := Option.some.inj ei2
  obtain ⟨i3, ei3⟩ := isL_v g8
  obtain rfl : w3 = (.long i3) := Option.some.inj ei3
  obtain ⟨n, o, h1, h2, h3, _, L, rfl, ⟨rfl, N⟩, hq⟩ := rmLaw l s _ hw tables_1 i0 i1 i2 i3 s.heap s.heap.size (Old.start s)  p e ha hc hk s m _ below hf ((Spec.applies_iff_loose hf).mp happ).1 ⟨rfl, State.Warmed39.refl s, rfl⟩ trivial
  refine ⟨n, _, h1, h2, h3, hpost _ _ _ _ _ _ ⟨Cond.after_iff.mpr rfl, Cond.after_iff.mpr (eq_i res_at (Term.int_eval (1)) rfl), trivial⟩ ⟨hq.1, hq.2.1, (hq.2.2.sift fun y hy => Or.inr (N y hy)).mono (by decide) (by decide)⟩⟩
theorem main_1_1 : Claimed_1_1 := comes_1 fun _ _ _ _ _ _ h hF => ⟨h.1, hF⟩
theorem main_1_2 : Claimed_1_2 := comes_1 fun _ _ _ _ _ _ h hF => ⟨h.2.1, hF⟩
end Jvm.Pilot.@@N@@
namespace Jvm.Pilot.@@N@@
open Jvm Jvm.ClassFile Sem Op Lib Jvm.Free Jvm.Stand Jvm.Pilot.@@N@@.Jvm.D
/-! MADE BY PROGRAM (witnessworld.py) out of the Statement's table words and the real class files: 10 classes; the members and pool entries that the words name. The judged class is class 1, her method 1. -/
namespace start1
open Jvm.ClassFile
def u (s : String) : CpInfo := .utf8 (stringToUtf16 s)
/-- a pool by its gaps: so many unusable entries, then the entry; so many at the end -/
def gap : Nat → List CpInfo → List CpInfo
  | 0, r => r
  | n + 1, r => .unusable :: gap n r
def poolList (es : List (Nat × CpInfo)) (last : Nat) : List CpInfo := es.foldr (fun e r => gap e.1 (e.2 :: r)) (gap last [])
def pool (es : List (Nat × CpInfo)) (last : Nat) : Array CpInfo := ⟨poolList es last⟩
def fileOf (pool : Array CpInfo) (this : Nat) (attrs : Array Attribute := #[]) (ms : Array MethodInfo := #[]) (fl : Nat := 33) (sup : Nat := 0) (ifs : Array Nat := #[]) (fds : Array FieldInfo := #[]) : ClassFile where
  minorVersion := 0
  majorVersion := 65
  constantPool := pool
  accessFlags := fl
  thisClass := this
  superClass := sup
  interfaces := ifs
  fields := fds
  methods := ms
  attributes := attrs
def plain (name : String) (sup : Option ClassId) : Class where
  name := name
  kind := .ordinary
  loader := none
  accessFlags := 33
  super := sup
  interfaces := #[]
  cf := none
  fields := #[]
  methods := #[]
  instanceTypes := #[]
  staticTypes := #[]
  resolved := #[]
  callSites := []
  init := .initialized
  statics := none
  mirror := none

def pool0 : Array CpInfo := pool [(5, u "<init>"), (0, u "()V"), (1, .class_ 10), (1, u "java/lang/Object")] 113

def k0c0 : Code := { maxStack := 0, maxLocals := 1, code := object_method_1_code, exceptionTable := #[], attributes := #[] }
def k0m0 : Method := { name := "<init>", desc := "()V", sig := { parameters := [], returnType := none }, accessFlags := 1, code := some k0c0 }
/-- java/lang/Object -/
def k0 : Class := { plain "java/lang/Object" none with
  accessFlags := 33
  interfaces := #[]
  cf := some (fileOf pool0 8 #[] #[{ accessFlags := 1, nameIndex := 5, descriptorIndex := 6, attributes := #[] }] 33 0 #[] #[])
  fields := #[]
  methods := #[k0m0]
  instanceTypes := #[]
  staticTypes := #[]
  resolved := Array.replicate 124 none
  statics := none }

def pool1 : Array CpInfo := pool [(2, .class_ 4), (1, u "java/lang/Object"), (0, u "<init>"), (0, u "()V"), (0, .class_ 8), (0, u "com/example/shortlist/shortlist/TermCounts"), (0, .methodref 7 10), (0, .nameAndType 5 11), (0, u "(IJ)V"), (0, .methodref 7 13), (0, .nameAndType 14 15), (0, u "plus"), (0, u "(Lcom/example/shortlist/shortlist/TermCounts;)Lcom/example/shortlist/shortlist/TermCounts;"), (0, .methodref 7 17), (0, .nameAndType 18 19), (0, u "documents"), (0, u "()I"), (0, .methodref 7 21), (0, .nameAndType 22 23), (0, u "occurrences"), (0, u "()J"), (0, .class_ 25), (0, u "com/example/shortlist/shortlist/TermCountsPlusPinLaw"), (2, u "law"), (0, u "(IJIJ)Z")] 3

def k1m0 : Method := { name := "<init>", desc := "()V", sig := { parameters := [], returnType := none }, accessFlags := 1, code := none }
def k1c1 : Code := { maxStack := 5, maxLocals := 15, code := code, exceptionTable := #[], attributes := #[] }
def k1m1 : Method := { name := "law", desc := "(IJIJ)Z", sig := { parameters := [.int, .long, .int, .long], returnType := some .boolean }, accessFlags := 9, code := some k1c1 }
/-- com/example/shortlist/shortlist/TermCountsPlusPinLaw -/
def k1 : Class := { plain "com/example/shortlist/shortlist/TermCountsPlusPinLaw" (some 0) with
  accessFlags := 49
  interfaces := #[]
  cf := some (fileOf pool1 24 #[] #[{ accessFlags := 1, nameIndex := 5, descriptorIndex := 6, attributes := #[] }, { accessFlags := 9, nameIndex := 28, descriptorIndex := 29, attributes := #[] }] 49 2 #[] #[])
  fields := #[]
  methods := #[k1m0, k1m1]
  instanceTypes := #[]
  staticTypes := #[]
  resolved := Array.replicate 33 none
  statics := none }

def pool2 : Array CpInfo := pool [(1, .methodref 2 3), (0, .class_ 4), (0, .nameAndType 5 6), (0, u "java/lang/Object"), (0, u "<init>"), (0, u "()V"), (0, .class_ 8), (0, u "java/lang/Record")] 13

def k2c0 : Code := { maxStack := 1, maxLocals := 1, code := jdk_30_method_1_code, exceptionTable := #[], attributes := #[] }
def k2m0 : Method := { name := "<init>", desc := "()V", sig := { parameters := [], returnType := none }, accessFlags := 4, code := some k2c0 }
/-- java/lang/Record -/
def k2 : Class := { plain "java/lang/Record" (some 0) with
  accessFlags := 1057
  interfaces := #[]
  cf := some (fileOf pool2 7 #[] #[{ accessFlags := 4, nameIndex := 5, descriptorIndex := 6, attributes := #[] }] 1057 2 #[] #[])
  fields := #[]
  methods := #[k2m0]
  instanceTypes := #[]
  staticTypes := #[]
  resolved := Array.replicate 22 none
  statics := none }

def pool3 : Array CpInfo := pool [(1, .methodref 2 3), (0, .class_ 4), (0, .nameAndType 5 6), (0, u "java/lang/Record"), (0, u "<init>"), (0, u "()V"), (0, .fieldref 8 9), (0, .class_ 10), (0, .nameAndType 11 12), (0, u "com/example/shortlist/shortlist/TermCounts"), (0, u "documents"), (0, u "I"), (0, .fieldref 8 14), (0, .nameAndType 15 16), (0, u "occurrences"), (0, u "J"), (0, .methodref 8 18), (0, .nameAndType 5 19), (0, u "(IJ)V"), (15, u "plus"), (0, u "(Lcom/example/shortlist/shortlist/TermCounts;)Lcom/example/shortlist/shortlist/TermCounts;"), (1, u "()I"), (1, u "()J")] 21

def k3c0 : Code := { maxStack := 3, maxLocals := 4, code := prog_49_method_1_code, exceptionTable := #[], attributes := #[] }
def k3m0 : Method := { name := "<init>", desc := "(IJ)V", sig := { parameters := [.int, .long], returnType := none }, accessFlags := 1, code := some k3c0 }
def k3c1 : Code := { maxStack := 7, maxLocals := 2, code := prog_49_method_2_code, exceptionTable := #[], attributes := #[] }
def k3m1 : Method := { name := "plus", desc := "(Lcom/example/shortlist/shortlist/TermCounts;)Lcom/example/shortlist/shortlist/TermCounts;", sig := { parameters := [(.object "com/example/shortlist/shortlist/TermCounts")], returnType := some (.object "com/example/shortlist/shortlist/TermCounts") }, accessFlags := 0, code := some k3c1 }
def k3c2 : Code := { maxStack := 1, maxLocals := 1, code := prog_49_method_6_code, exceptionTable := #[], attributes := #[] }
def k3m2 : Method := { name := "documents", desc := "()I", sig := { parameters := [], returnType := some .int }, accessFlags := 1, code := some k3c2 }
def k3c3 : Code := { maxStack := 2, maxLocals := 1, code := prog_49_method_7_code, exceptionTable := #[], attributes := #[] }
def k3m3 : Method := { name := "occurrences", desc := "()J", sig := { parameters := [], returnType := some .long }, accessFlags := 1, code := some k3c3 }
/-- com/example/shortlist/shortlist/TermCounts -/
def k3 : Class := { plain "com/example/shortlist/shortlist/TermCounts" (some 2) with
  accessFlags := 49
  interfaces := #[]
  cf := some (fileOf pool3 8 #[] #[{ accessFlags := 1, nameIndex := 5, descriptorIndex := 19, attributes := #[] }, { accessFlags := 0, nameIndex := 35, descriptorIndex := 36, attributes := #[] }, { accessFlags := 1, nameIndex := 11, descriptorIndex := 38, attributes := #[] }, { accessFlags := 1, nameIndex := 15, descriptorIndex := 40, attributes := #[] }] 49 2 #[] #[{ accessFlags := 18, nameIndex := 11, descriptorIndex := 12, attributes := #[] }, { accessFlags := 18, nameIndex := 15, descriptorIndex := 16, attributes := #[] }])
  fields := #[{ name := "documents", type := .int, accessFlags := 18, slot := 0, constantValue := 0 }, { name := "occurrences", type := .long, accessFlags := 18, slot := 1, constantValue := 0 }]
  methods := #[k3m0, k3m1, k3m2, k3m3]
  instanceTypes := #[.int, .long]
  staticTypes := #[]
  resolved := Array.replicate 62 none
  statics := none }

def pool4 : Array CpInfo := pool [(1, u "java/lang/Cloneable"), (0, .class_ 1), (0, u "java/lang/Object"), (0, .class_ 3)] 3

/-- java/lang/Cloneable -/
def k4 : Class := { plain "java/lang/Cloneable" (some 0) with
  accessFlags := 1537
  interfaces := #[]
  cf := some (fileOf pool4 2 #[] #[] 1537 4 #[] #[])
  fields := #[]
  methods := #[]
  instanceTypes := #[]
  staticTypes := #[]
  resolved := Array.replicate 8 none
  statics := none }

def pool5 : Array CpInfo := pool [(1, u "java/io/Serializable"), (0, .class_ 1), (0, u "java/lang/Object"), (0, .class_ 3)] 3

/-- java/io/Serializable -/
def k5 : Class := { plain "java/io/Serializable" (some 0) with
  accessFlags := 1537
  interfaces := #[]
  cf := some (fileOf pool5 2 #[] #[] 1537 4 #[] #[])
  fields := #[]
  methods := #[]
  instanceTypes := #[]
  staticTypes := #[]
  resolved := Array.replicate 8 none
  statics := none }

/-- the primitive byte -/
def k6 : Class := { plain "byte" none with kind := .primitive 'B', accessFlags := 0x411 }
/-- [B -/
def k7 : Class := { plain "[B" (some 0) with kind := .array 6 .byte, interfaces := #[4, 5], accessFlags := 1041 }

/-- the primitive int -/
def k8 : Class := { plain "int" none with kind := .primitive 'I', accessFlags := 0x411 }
/-- [I -/
def k9 : Class := { plain "[I" (some 0) with kind := .array 8 .int, interfaces := #[4, 5], accessFlags := 1041 }

def heap : Heap := #[]
def classes : Array Class := #[k0, k1, k2, k3, k4, k5, k6, k7, k8, k9]
def interned : List (Array UInt16 × Addr) := []
def slotsUsed : Nat := 0
def theMethod : MethodId := ⟨1, 1⟩
def args0 : Array Value := #[.int 5, .long 3, .int 5, .long 3]
def aboutOver (below : List Frame) : State where
  vm := { classes := classes, interned := interned.toArray }
  heap := heap
  slotsUsed := slotsUsed
  threads := #[{ frames := .invoking theMethod args0 :: below }]
def below0 : List Frame := [.native { method := ⟨0, 0⟩, args := #[] }]
def about1 : State := aboutOver below0
def p0 : Program := .bare "" "" ""
def e0 : Env := launch0.env 0 0 0
theorem w_frames : about1.frames = Frame.invoking theMethod args0 :: below0 := rfl
set_option maxRecDepth 65536 in
theorem w_args : argsFit about1.vm theMethod args0 = true := by decide +kernel
set_option maxRecDepth 65536 in
theorem w_heap : heapFits about1 = true := by decide +kernel
set_option maxRecDepth 65536 in
theorem w_runnable : about1.curStatus? = some .runnable := by decide +kernel
set_option maxRecDepth 65536 in
theorem w_alone : about1.alone = true := by decide +kernel
set_option maxRecDepth 65536 in
theorem w_named : about1.methodNamed? x = some theMethod := by decide +kernel
set_option maxRecDepth 65536 in
theorem w_hears : about1.hears theMethod below0 = true := by decide +kernel
set_option maxRecDepth 65536 in
theorem w_ripe : about1.ripe theMethod args0 below0 = true := by decide +kernel
theorem w_running : about1.status = .running := rfl
set_option maxRecDepth 65536 in
theorem w_room : about1.hasRoom e0.platform room_1 = true :=
  launch0.hasRoom_least _ room_1 (by decide +kernel) (by decide +kernel) (by decide +kernel) (by decide +kernel) (by decide +kernel) (by decide +kernel)
theorem allAtoms_all (ts : List Jvm.Cond) (a : Array Jvm.Value) (st : Jvm.State) : (allAtoms ts).before a st = ts.all (fun c => c.before a st) := by
  induction ts with
  | nil => rfl
  | cons c t ih =>
    show (Jvm.Cond.and c (allAtoms t)).before a st = _
    rw [Jvm.Cond.before_and, ih, List.all_cons]
def words1 : List Jvm.Cond := Jvm.Cond.code x code maxLocals ret :: tables_1
/-- a 'code' word, met by the world's own term for the bytes: nothing is compared byte by byte -/
theorem code_word {y : MethodName} {bytes : ByteArray} {mx : Nat} {rt : Option FieldType} {a : Array Value} {s : State} {m : MethodId} {meth : Method} {c : Code} (h1 : s.methodNamed? y = some m) (h2 : s.vm.method? m = some meth) (h3 : meth.code = some c) (h4 : c.code = bytes)
    (h5 : (c.maxLocals == mx && c.exceptionTable.isEmpty && decide (c.maxStack ≤ mostOperands) && decide (meth.sig.returnType = rt) && !meth.locks && decide (parseMethodDescriptor y.desc = some meth.sig)) = true) : (Jvm.Cond.code y bytes mx rt).before a s = true := by
  simp only [Bool.and_eq_true, beq_iff_eq, Bool.not_eq_true', decide_eq_true_eq] at h5
  obtain ⟨⟨⟨⟨⟨g1, g2⟩, g3⟩, g4⟩, g5⟩, g6⟩ := h5
  simp [Cond.before, Cond.holds, Cond.value, h1, h2, h3, h4, g1, g2, g3, g4, g5, g6]
def isCode : Jvm.Cond → Bool
  | .code _ _ _ _ => true
  | _ => false
theorem all_split {L : List Jvm.Cond} {P : Jvm.Cond → Bool} (h1 : L.all (fun c => isCode c || P c) = true) (h2 : ∀ c ∈ L.filter isCode, P c = true) : L.all P = true := by
  refine List.all_eq_true.mpr fun c hc => ?_
  have h := List.all_eq_true.mp h1 c hc
  rcases Bool.eq_false_or_eq_true (isCode c) with hi | hi
  · exact h2 c (List.mem_filter.mpr ⟨hc, hi⟩)
  · simpa [hi] using h
set_option maxRecDepth 65536 in
theorem w_c0 : (Jvm.Cond.code x code maxLocals ret).before args0 about1 = true := code_word (m := ⟨1, 1⟩) (meth := k1m1) (c := k1c1) (by decide +kernel) rfl rfl rfl (by decide +kernel)
set_option maxRecDepth 65536 in
theorem w_c1 : (Jvm.Cond.code ({ cls := "com/example/shortlist/shortlist/TermCounts", name := "<init>", desc := "(IJ)V" } : Jvm.MethodName) prog_49_method_1_code (4 : Nat) (Option.none : Option Jvm.ClassFile.FieldType)).before args0 about1 = true := code_word (m := ⟨3, 0⟩) (meth := k3m0) (c := k3c0) (by decide +kernel) rfl rfl rfl (by decide +kernel)
set_option maxRecDepth 65536 in
theorem w_c2 : (Jvm.Cond.code ({ cls := "java/lang/Record", name := "<init>", desc := "()V" } : Jvm.MethodName) jdk_30_method_1_code (1 : Nat) (Option.none : Option Jvm.ClassFile.FieldType)).before args0 about1 = true := code_word (m := ⟨2, 0⟩) (meth := k2m0) (c := k2c0) (by decide +kernel) rfl rfl rfl (by decide +kernel)
set_option maxRecDepth 65536 in
theorem w_c3 : (Jvm.Cond.code ({ cls := "java/lang/Object", name := "<init>", desc := "()V" } : Jvm.MethodName) object_method_1_code (1 : Nat) (Option.none : Option Jvm.ClassFile.FieldType)).before args0 about1 = true := code_word (m := ⟨0, 0⟩) (meth := k0m0) (c := k0c0) (by decide +kernel) rfl rfl rfl (by decide +kernel)
set_option maxRecDepth 65536 in
theorem w_c4 : (Jvm.Cond.code ({ cls := "com/example/shortlist/shortlist/TermCounts", name := "plus", desc := "(Lcom/example/shortlist/shortlist/TermCounts;)Lcom/example/shortlist/shortlist/TermCounts;" } : Jvm.MethodName) prog_49_method_2_code (2 : Nat) (Option.some (Jvm.ClassFile.FieldType.object "com/example/shortlist/shortlist/TermCounts"))).before args0 about1 = true := code_word (m := ⟨3, 1⟩) (meth := k3m1) (c := k3c1) (by decide +kernel) rfl rfl rfl (by decide +kernel)
set_option maxRecDepth 65536 in
theorem w_c5 : (Jvm.Cond.code ({ cls := "com/example/shortlist/shortlist/TermCounts", name := "documents", desc := "()I" } : Jvm.MethodName) prog_49_method_6_code (1 : Nat) (Option.some Jvm.ClassFile.FieldType.int)).before args0 about1 = true := code_word (m := ⟨3, 2⟩) (meth := k3m2) (c := k3c2) (by decide +kernel) rfl rfl rfl (by decide +kernel)
set_option maxRecDepth 65536 in
theorem w_c6 : (Jvm.Cond.code ({ cls := "com/example/shortlist/shortlist/TermCounts", name := "occurrences", desc := "()J" } : Jvm.MethodName) prog_49_method_7_code (1 : Nat) (Option.some Jvm.ClassFile.FieldType.long)).before args0 about1 = true := code_word (m := ⟨3, 3⟩) (meth := k3m3) (c := k3c3) (by decide +kernel) rfl rfl rfl (by decide +kernel)
def codes1 : List Jvm.Cond := [Jvm.Cond.code x code maxLocals ret, Jvm.Cond.code ({ cls := "com/example/shortlist/shortlist/TermCounts", name := "<init>", desc := "(IJ)V" } : Jvm.MethodName) prog_49_method_1_code (4 : Nat) (Option.none : Option Jvm.ClassFile.FieldType), Jvm.Cond.code ({ cls := "java/lang/Record", name := "<init>", desc := "()V" } : Jvm.MethodName) jdk_30_method_1_code (1 : Nat) (Option.none : Option Jvm.ClassFile.FieldType), Jvm.Cond.code ({ cls := "java/lang/Object", name := "<init>", desc := "()V" } : Jvm.MethodName) object_method_1_code (1 : Nat) (Option.none : Option Jvm.ClassFile.FieldType), Jvm.Cond.code ({ cls := "com/example/shortlist/shortlist/TermCounts", name := "plus", desc := "(Lcom/example/shortlist/shortlist/TermCounts;)Lcom/example/shortlist/shortlist/TermCounts;" } : Jvm.MethodName) prog_49_method_2_code (2 : Nat) (Option.some (Jvm.ClassFile.FieldType.object "com/example/shortlist/shortlist/TermCounts")), Jvm.Cond.code ({ cls := "com/example/shortlist/shortlist/TermCounts", name := "documents", desc := "()I" } : Jvm.MethodName) prog_49_method_6_code (1 : Nat) (Option.some Jvm.ClassFile.FieldType.int), Jvm.Cond.code ({ cls := "com/example/shortlist/shortlist/TermCounts", name := "occurrences", desc := "()J" } : Jvm.MethodName) prog_49_method_7_code (1 : Nat) (Option.some Jvm.ClassFile.FieldType.long)]
set_option maxRecDepth 65536 in
theorem codes_eq : words1.filter isCode = codes1 := rfl
theorem w_codes : ∀ c ∈ words1.filter isCode, c.before args0 about1 = true := by
  rw [codes_eq]
  intro c hc
  simp only [codes1, List.mem_cons, List.not_mem_nil, or_false] at hc
  rcases hc with rfl | rfl | rfl | rfl | rfl | rfl | rfl
  · exact w_c0
  · exact w_c1
  · exact w_c2
  · exact w_c3
  · exact w_c4
  · exact w_c5
  · exact w_c6
set_option maxRecDepth 65536 in
theorem w_t1 : (words1.take 24).all (fun c => isCode c || c.before args0 about1) = true := by decide +kernel
set_option maxRecDepth 65536 in
theorem w_t2 : (words1.drop 24).all (fun c => isCode c || c.before args0 about1) = true := by decide +kernel
theorem w_tables : (allAtoms (Jvm.Cond.code x code maxLocals ret :: tables_1)).before args0 about1 = true := by
  rw [allAtoms_all]
  show words1.all (fun c => c.before args0 about1) = true
  refine all_split ?_ w_codes
  rw [← List.take_append_drop 24 words1, List.all_append, w_t1, w_t2]
  rfl
set_option maxRecDepth 65536 in
theorem w_case : (Jvm.Cond.and given_1 narrow_1).before args0 about1 = true := by decide +kernel
theorem w_applies : (headSpec (Jvm.Cond.code x code maxLocals ret :: tables_1) room_1).applies x e0.platform about1 = true :=
  (Spec.applies_iff w_frames).mpr ⟨w_running, w_runnable, w_alone, w_named, w_hears, w_ripe, w_room, w_tables⟩
theorem atStart : AtStart classFile x code maxLocals ret World_1 tables_1 room_1 Calls_1 rest_1 Pre_1 launch0 p0 e0 about1 theMethod args0 below0 :=
  ⟨lists_1, trivial, launch0.admits_env _ _ _, launch0.least_env, fairChoices_fair.cas, fairChoices_fair.clock, w_frames, w_args, w_heap, w_applies, trivial, trivial, w_case⟩
end start1
theorem witness_1 : WitnessClaimed_1 := ⟨start1.p0, start1.e0, start1.about1, start1.theMethod, start1.args0, start1.below0, start1.atStart⟩
end Jvm.Pilot.@@N@@
