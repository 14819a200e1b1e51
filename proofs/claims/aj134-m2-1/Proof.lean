import JvmDerived
import JvmDerived.Pilot.@@N@@Statement
import JvmDerived.Pilot.@@N@@Code
set_option linter.unusedVariables false
set_option linter.unusedSimpArgs false
namespace Jvm.Pilot.@@N@@
open Jvm Jvm.ClassFile Sem Op Lib Jvm.Free Jvm.Stand Jvm.LawKit Jvm.RoadKit Bundle Jvm.Pilot.@@N@@.Jvm.D

theorem own_pred {x : Int64} (h : ¬ (x = (-9223372036854775808 : Int64))) : (x - (1 : Int64)) < x := by
  have h1 := c_lsub x 1
  have h2 := rng64 x
  have h3 := rng64 (x - 1)
  have h4 : (1 : Int64).toInt = 1 := rfl
  have h5 : ¬ (x.toInt = -9223372036854775808) := fun e => h (Int64.toInt_inj.mp e)
  rw [Int64.lt_iff_toInt_lt]
  omega
theorem d1_0 : decode prog_58_method_1_code 0 = .ok (.aload_n 0, 1) := by decide +kernel
theorem d1_1 : decode prog_58_method_1_code 1 = .ok (.invokespecial 3, 3) := by decide +kernel
theorem d1_4 : decode prog_58_method_1_code 4 = .ok (.aload_n 0, 1) := by decide +kernel
theorem d1_5 : decode prog_58_method_1_code 5 = .ok (.aload_n 1, 1) := by decide +kernel
theorem d1_6 : decode prog_58_method_1_code 6 = .ok (.putfield 9, 3) := by decide +kernel
theorem d1_9 : decode prog_58_method_1_code 9 = .ok (.aload_n 0, 1) := by decide +kernel
theorem d1_10 : decode prog_58_method_1_code 10 = .ok (.aload_n 2, 1) := by decide +kernel
theorem d1_11 : decode prog_58_method_1_code 11 = .ok (.putfield 15, 3) := by decide +kernel
theorem d1_14 : decode prog_58_method_1_code 14 = .ok (.aload_n 0, 1) := by decide +kernel
theorem d1_15 : decode prog_58_method_1_code 15 = .ok (.aload_n 3, 1) := by decide +kernel
theorem d1_16 : decode prog_58_method_1_code 16 = .ok (.putfield 19, 3) := by decide +kernel
theorem d1_19 : decode prog_58_method_1_code 19 = .ok (.aload_n 0, 1) := by decide +kernel
theorem d1_20 : decode prog_58_method_1_code 20 = .ok (.lload 4, 2) := by decide +kernel
theorem d1_22 : decode prog_58_method_1_code 22 = .ok (.putfield 22, 3) := by decide +kernel
theorem d1_25 : decode prog_58_method_1_code 25 = .ok (.return_, 1) := by decide +kernel
theorem pn_0 : plainName "com/example/fawley/fawley/store/StoredValue" = true := by first | (simp [plainName, overriddenIn]; done) | decide +kernel
theorem efIni (m : MethodId) (a0_ : Addr) (q4_ : Int64) : entryFrame m #[(.ref a0_), .null, .null, .null, (.long q4_)] 6 = mkF m 0 #[.val (.ref a0_), .val .null, .val .null, .val .null, .val (.long q4_), .second] [] := by first | (simp [entryFrame, mkF, argsToLocals, Value.category]; done) | rfl
def QIni (Z : State) (a0_ : Addr) (q4_ : Int64) (u_bytes_a0_ : Value) (u_version_a0_ : Value) (u_fencingToken_a0_ : Value) (u_expiresAt_a0_ : Int64) (h0 : Heap) (n0 : Nat) (v : Option Value) (h : Heap) (L : List Loc) : Prop := v = none ∧ Fr n0 L ∧ Keep h0 h [a0_] ∧ Exa Z h a0_ "com/example/fawley/fawley/store/StoredValue" ∧ Fld Z h a0_ "com/example/fawley/fawley/store/StoredValue" "bytes" "[B" .null ∧ Fld Z h a0_ "com/example/fawley/fawley/store/StoredValue" "version" "Lcom/example/fawley/fawley/protocol/HlcTimestamp;" .null ∧ Fld Z h a0_ "com/example/fawley/fawley/store/StoredValue" "fencingToken" "Lcom/example/fawley/fawley/protocol/HlcTimestamp;" .null ∧ Fld Z h a0_ "com/example/fawley/fawley/store/StoredValue" "expiresAt" "J" (.long q4_)
set_option maxRecDepth 65536 in
set_option maxHeartbeats 40000000 in
theorem rmIni (l : Launch) (Z : State) (a0 : Array Value) (hw : ∀ d ∈ tables_1, d.before a0 Z = true) (ws : List Jvm.Cond) (a0_ : Addr) (q4_ : Int64) (u_bytes_a0_ : Value) (u_version_a0_ : Value) (u_fencingToken_a0_ : Value) (u_expiresAt_a0_ : Int64) (h0 : Heap) (n0 : Nat) (O0 : Old Z n0 h0) (P0 : Exa Z h0 a0_ "com/example/fawley/fawley/store/StoredValue") (P1 : Fld Z h0 a0_ "com/example/fawley/fawley/store/StoredValue" "bytes" "[B" u_bytes_a0_) (P2 : Fld Z h0 a0_ "com/example/fawley/fawley/store/StoredValue" "version" "Lcom/example/fawley/fawley/protocol/HlcTimestamp;" u_version_a0_) (P3 : Fld Z h0 a0_ "com/example/fawley/fawley/store/StoredValue" "fencingToken" "Lcom/example/fawley/fawley/protocol/HlcTimestamp;" u_fencingToken_a0_) (P4 : Fld Z h0 a0_ "com/example/fawley/fawley/store/StoredValue" "expiresAt" "J" (.long u_expiresAt_a0_)) (P5 : n0 ≤ a0_) :
    MetFree l (⟨"com/example/fawley/fawley/store/StoredValue", "<init>", "([BLcom/example/fawley/fawley/protocol/HlcTimestamp;Lcom/example/fawley/fawley/protocol/HlcTimestamp;J)V"⟩ : MethodName) (head1 (Jvm.Cond.code (⟨"com/example/fawley/fawley/store/StoredValue", "<init>", "([BLcom/example/fawley/fawley/protocol/HlcTimestamp;Lcom/example/fawley/fawley/protocol/HlcTimestamp;J)V"⟩ : MethodName) prog_58_method_1_code 6 none :: ws) ({ frames := 1, cells := 0, slots := 0, locals := 12 } : Room)) (fun a U => a = #[(.ref a0_), .null, .null, .null, (.long q4_)] ∧ Z.Warmed39 U.vm ∧ U.heap = h0) (fun _ _ _ _ _ => True) (fun _ U o U' => ∃ v L, o = .returned v ∧ QIni Z a0_ q4_ u_bytes_a0_ u_version_a0_ u_fencingToken_a0_ u_expiresAt_a0_ h0 n0 v U'.heap L ∧ FrameEnd U o U' L ({ frames := 1, cells := 0, slots := 0, locals := 12 } : Room).cells ({ frames := 1, cells := 0, slots := 0, locals := 12 } : Room).slots) := by
  refine MetFree.of_bodySF (plainFor_of_name pn_0) hisR ?_
  intro p e s m args below meth c s₁ Bd hml0 hP hK
  obtain ⟨rfl, hZ, hh⟩ := hP
  have hx := Bd.exec
  have hby := Bd.bytes
  have hml : c.maxLocals = 6 := hml0
  have hown : s.vm.findClass "com/example/fawley/fawley/store/StoredValue" = some m.cls := findClass_of_methodNamed Bd.named
  have hnm := (name_of_methodNamed Bd.named Bd.method).1
  have X0 : Stand p l e ({ frames := 1, cells := 0, slots := 0, locals := 12 } : Room) s m #[(.ref a0_), .null, .null, .null, (.long q4_)] below meth c s₁ [] 0 0 := Stand.of_body Bd
  have e0 : s₁.heap = h0 := by rw [← hh, Bd.state]; rfl
  have N0 := Fr.nil n0
  have pre0 : ∀ t, Steps p.tables e below (s₁.setTop (mkF m 0 #[.val (.ref a0_), .val .null, .val .null, .val .null, .val (.long q4_), .second] [])) t → Steps p.tables e below (s₁.setTop (entryFrame m #[(.ref a0_), .null, .null, .null, (.long q4_)] 6)) t := fun t k => castTop (efIni m a0_ q4_) k
  have K0 : Keep h0 h0 [a0_] := Keep.refl _ _
  obtain ⟨T1, X1, e1, st1⟩ := initO X0 hx hZ hown (hw _ (List.mem_of_getElem? (i := 6) rfl)) (hw _ (List.mem_of_getElem? (i := 7) rfl)) (hw _ (List.mem_of_getElem? (i := 8) rfl)) e0 (g := (mkF m 1 #[.val (.ref a0_), .val .null, .val .null, .val .null, .val (.long q4_), .second] [(.ref a0_)])) rfl (by rw [hml]; rfl) rfl (hb hby d1_1) (by decide) (W := 0) (by show 2 * 0 + _ ≤ _; exact Nat.le_of_eq rfl) (by decide)
  obtain ⟨T2, h2, X2, e2, W2, st2⟩ := putF X1 hx hZ hown (host := "") (Or.inl (hw _ (List.mem_of_getElem? (i := 9) rfl))) Via.refl e1 P1 P0 (Or.inr ⟨(hw _ (List.mem_of_getElem? (i := 10) rfl)), rfl, hnm⟩) (hw _ (List.mem_of_getElem? (i := 1) rfl)) (ty := (.array .byte)) (by decide) rfl rfl (g := (mkF m 6 #[.val (.ref a0_), .val .null, .val .null, .val .null, .val (.long q4_), .second] [.null, (.ref a0_)])) rfl rfl (hb hby d1_6)
  have N3 := Fr.snoc X2 N0 P5
  have f4 : Fld Z h2 a0_ "com/example/fawley/fawley/store/StoredValue" "bytes" "[B" .null := P1.same W2
  have f5 : Fld Z h2 a0_ "com/example/fawley/fawley/store/StoredValue" "version" "Lcom/example/fawley/fawley/protocol/HlcTimestamp;" u_version_a0_ := P2.other W2 (Or.inr (slot_ne (Or.inr (hw _ (List.mem_of_getElem? (i := 12) rfl))) (Or.inr (hw _ (List.mem_of_getElem? (i := 10) rfl))) (by decide) (t := (.object "com/example/fawley/fawley/protocol/HlcTimestamp")) (t' := (.array .byte)) (by decide) (by decide)))
  have f6 : Exa Z h2 a0_ "com/example/fawley/fawley/store/StoredValue" := P0.wr W2
  obtain ⟨T7, h7, X7, e7, W7, st7⟩ := putF X2 hx hZ hown (host := "") (Or.inl (hw _ (List.mem_of_getElem? (i := 11) rfl))) Via.refl e2 f5 f6 (Or.inr ⟨(hw _ (List.mem_of_getElem? (i := 12) rfl)), rfl, hnm⟩) (hw _ (List.mem_of_getElem? (i := 1) rfl)) (ty := (.object "com/example/fawley/fawley/protocol/HlcTimestamp")) (by decide) rfl rfl (g := (mkF m 11 #[.val (.ref a0_), .val .null, .val .null, .val .null, .val (.long q4_), .second] [.null, (.ref a0_)])) rfl rfl (hb hby d1_11)
  have N8 := Fr.snoc X7 N3 P5
  have f9 : Fld Z h7 a0_ "com/example/fawley/fawley/store/StoredValue" "version" "Lcom/example/fawley/fawley/protocol/HlcTimestamp;" .null := f5.same W7
  have f10 : Fld Z h2 a0_ "com/example/fawley/fawley/store/StoredValue" "fencingToken" "Lcom/example/fawley/fawley/protocol/HlcTimestamp;" u_fencingToken_a0_ := P3.other W2 (Or.inr (slot_ne (Or.inr (hw _ (List.mem_of_getElem? (i := 14) rfl))) (Or.inr (hw _ (List.mem_of_getElem? (i := 10) rfl))) (by decide) (t := (.object "com/example/fawley/fawley/protocol/HlcTimestamp")) (t' := (.array .byte)) (by decide) (by decide)))
  have f11 : Fld Z h7 a0_ "com/example/fawley/fawley/store/StoredValue" "fencingToken" "Lcom/example/fawley/fawley/protocol/HlcTimestamp;" u_fencingToken_a0_ := f10.other W7 (Or.inr (slot_ne (Or.inr (hw _ (List.mem_of_getElem? (i := 14) rfl))) (Or.inr (hw _ (List.mem_of_getElem? (i := 12) rfl))) (by decide) (t := (.object "com/example/fawley/fawley/protocol/HlcTimestamp")) (t' := (.object "com/example/fawley/fawley/protocol/HlcTimestamp")) (by decide) (by decide)))
  have f12 : Exa Z h7 a0_ "com/example/fawley/fawley/store/StoredValue" := f6.wr W7
  obtain ⟨T13, h13, X13, e13, W13, st13⟩ := putF X7 hx hZ hown (host := "") (Or.inl (hw _ (List.mem_of_getElem? (i := 13) rfl))) Via.refl e7 f11 f12 (Or.inr ⟨(hw _ (List.mem_of_getElem? (i := 14) rfl)), rfl, hnm⟩) (hw _ (List.mem_of_getElem? (i := 1) rfl)) (ty := (.object "com/example/fawley/fawley/protocol/HlcTimestamp")) (by decide) rfl rfl (g := (mkF m 16 #[.val (.ref a0_), .val .null, .val .null, .val .null, .val (.long q4_), .second] [.null, (.ref a0_)])) rfl rfl (hb hby d1_16)
  have N14 := Fr.snoc X13 N8 P5
  have f15 : Fld Z h13 a0_ "com/example/fawley/fawley/store/StoredValue" "fencingToken" "Lcom/example/fawley/fawley/protocol/HlcTimestamp;" .null := f11.same W13
  have f16 : Fld Z h2 a0_ "com/example/fawley/fawley/store/StoredValue" "expiresAt" "J" (.long u_expiresAt_a0_) := P4.other W2 (Or.inr (slot_ne (Or.inr (hw _ (List.mem_of_getElem? (i := 16) rfl))) (Or.inr (hw _ (List.mem_of_getElem? (i := 10) rfl))) (by decide) (t := .long) (t' := (.array .byte)) (by decide) (by decide)))
  have f17 : Fld Z h7 a0_ "com/example/fawley/fawley/store/StoredValue" "expiresAt" "J" (.long u_expiresAt_a0_) := f16.other W7 (Or.inr (slot_ne (Or.inr (hw _ (List.mem_of_getElem? (i := 16) rfl))) (Or.inr (hw _ (List.mem_of_getElem? (i := 12) rfl))) (by decide) (t := .long) (t' := (.object "com/example/fawley/fawley/protocol/HlcTimestamp")) (by decide) (by decide)))
  have f18 : Fld Z h13 a0_ "com/example/fawley/fawley/store/StoredValue" "expiresAt" "J" (.long u_expiresAt_a0_) := f17.other W13 (Or.inr (slot_ne (Or.inr (hw _ (List.mem_of_getElem? (i := 16) rfl))) (Or.inr (hw _ (List.mem_of_getElem? (i := 14) rfl))) (by decide) (t := .long) (t' := (.object "com/example/fawley/fawley/protocol/HlcTimestamp")) (by decide) (by decide)))
  have f19 : Exa Z h13 a0_ "com/example/fawley/fawley/store/StoredValue" := f12.wr W13
  obtain ⟨T20, h20, X20, e20, W20, st20⟩ := putF X13 hx hZ hown (host := "") (Or.inl (hw _ (List.mem_of_getElem? (i := 15) rfl))) Via.refl e13 f18 f19 (Or.inr ⟨(hw _ (List.mem_of_getElem? (i := 16) rfl)), rfl, hnm⟩) (hw _ (List.mem_of_getElem? (i := 1) rfl)) (ty := .long) (by decide) rfl rfl (g := (mkF m 22 #[.val (.ref a0_), .val .null, .val .null, .val .null, .val (.long q4_), .second] [(.long q4_), (.ref a0_)])) rfl rfl (hb hby d1_22)
  have N21 := Fr.snoc X20 N14 P5
  have f22 : Fld Z h20 a0_ "com/example/fawley/fawley/store/StoredValue" "expiresAt" "J" (.long q4_) := f18.same W20
  have pre23 : ∀ t, Steps p.tables e below (T20.setTop (mkF m 25 #[.val (.ref a0_), .val .null, .val .null, .val .null, .val (.long q4_), .second] [])) t → Steps p.tables e below (s₁.setTop (entryFrame m #[(.ref a0_), .null, .null, .null, (.long q4_)] 6)) t := by
    intro t kt
    refine pre0 t ?_
    show Steps p.tables e below (s₁.setTop (mkF m 0 #[.val (.ref a0_), .val .null, .val .null, .val .null, .val (.long q4_), .second] [])) _
    refine XS.aloadN X0.here hx rfl (hb hby d1_0) rfl rfl ?_
    show Steps p.tables e below (s₁.setTop (mkF m 1 #[.val (.ref a0_), .val .null, .val .null, .val .null, .val (.long q4_), .second] [(.ref a0_)])) _
    refine st1 _ ?_
    show Steps p.tables e below (T1.setTop (mkF m 4 #[.val (.ref a0_), .val .null, .val .null, .val .null, .val (.long q4_), .second] [])) _
    refine XS.aloadN X1.here hx rfl (hb hby d1_4) rfl rfl ?_
    show Steps p.tables e below (T1.setTop (mkF m 5 #[.val (.ref a0_), .val .null, .val .null, .val .null, .val (.long q4_), .second] [(.ref a0_)])) _
    refine XS.aloadN X1.here hx rfl (hb hby d1_5) rfl rfl ?_
    show Steps p.tables e below (T1.setTop (mkF m 6 #[.val (.ref a0_), .val .null, .val .null, .val .null, .val (.long q4_), .second] [.null, (.ref a0_)])) _
    refine st2 _ ?_
    show Steps p.tables e below (T2.setTop (mkF m 9 #[.val (.ref a0_), .val .null, .val .null, .val .null, .val (.long q4_), .second] [])) _
    refine XS.aloadN X2.here hx rfl (hb hby d1_9) rfl rfl ?_
    show Steps p.tables e below (T2.setTop (mkF m 10 #[.val (.ref a0_), .val .null, .val .null, .val .null, .val (.long q4_), .second] [(.ref a0_)])) _
    refine XS.aloadN X2.here hx rfl (hb hby d1_10) rfl rfl ?_
    show Steps p.tables e below (T2.setTop (mkF m 11 #[.val (.ref a0_), .val .null, .val .null, .val .null, .val (.long q4_), .second] [.null, (.ref a0_)])) _
    refine st7 _ ?_
    show Steps p.tables e below (T7.setTop (mkF m 14 #[.val (.ref a0_), .val .null, .val .null, .val .null, .val (.long q4_), .second] [])) _
    refine XS.aloadN X7.here hx rfl (hb hby d1_14) rfl rfl ?_
    show Steps p.tables e below (T7.setTop (mkF m 15 #[.val (.ref a0_), .val .null, .val .null, .val .null, .val (.long q4_), .second] [(.ref a0_)])) _
    refine XS.aloadN X7.here hx rfl (hb hby d1_15) rfl rfl ?_
    show Steps p.tables e below (T7.setTop (mkF m 16 #[.val (.ref a0_), .val .null, .val .null, .val .null, .val (.long q4_), .second] [.null, (.ref a0_)])) _
    refine st13 _ ?_
    show Steps p.tables e below (T13.setTop (mkF m 19 #[.val (.ref a0_), .val .null, .val .null, .val .null, .val (.long q4_), .second] [])) _
    refine XS.aloadN X13.here hx rfl (hb hby d1_19) rfl rfl ?_
    show Steps p.tables e below (T13.setTop (mkF m 20 #[.val (.ref a0_), .val .null, .val .null, .val .null, .val (.long q4_), .second] [(.ref a0_)])) _
    refine XS.lload X13.here hx rfl (hb hby d1_20) rfl ?_
    show Steps p.tables e below (T13.setTop (mkF m 22 #[.val (.ref a0_), .val .null, .val .null, .val .null, .val (.long q4_), .second] [(.long q4_), (.ref a0_)])) _
    refine st20 _ ?_
    exact kt
  have f25 : Keep h0 h2 [a0_] := K0.wr W2 (Or.inl (List.mem_of_getElem? (i := 0) rfl))
  have f26 : Keep h0 h7 [a0_] := f25.wr W7 (Or.inl (List.mem_of_getElem? (i := 0) rfl))
  have f27 : Keep h0 h13 [a0_] := f26.wr W13 (Or.inl (List.mem_of_getElem? (i := 0) rfl))
  have f28 : Keep h0 h20 [a0_] := f27.wr W20 (Or.inl (List.mem_of_getElem? (i := 0) rfl))
  have f29 : Exa Z h20 a0_ "com/example/fawley/fawley/store/StoredValue" := f19.wr W20
  have f30 : Fld Z h7 a0_ "com/example/fawley/fawley/store/StoredValue" "bytes" "[B" .null := f4.other W7 (Or.inr (slot_ne (Or.inr (hw _ (List.mem_of_getElem? (i := 10) rfl))) (Or.inr (hw _ (List.mem_of_getElem? (i := 12) rfl))) (by decide) (t := (.array .byte)) (t' := (.object "com/example/fawley/fawley/protocol/HlcTimestamp")) (by decide) (by decide)))
  have f31 : Fld Z h13 a0_ "com/example/fawley/fawley/store/StoredValue" "bytes" "[B" .null := f30.other W13 (Or.inr (slot_ne (Or.inr (hw _ (List.mem_of_getElem? (i := 10) rfl))) (Or.inr (hw _ (List.mem_of_getElem? (i := 14) rfl))) (by decide) (t := (.array .byte)) (t' := (.object "com/example/fawley/fawley/protocol/HlcTimestamp")) (by decide) (by decide)))
  have f32 : Fld Z h20 a0_ "com/example/fawley/fawley/store/StoredValue" "bytes" "[B" .null := f31.other W20 (Or.inr (slot_ne (Or.inr (hw _ (List.mem_of_getElem? (i := 10) rfl))) (Or.inr (hw _ (List.mem_of_getElem? (i := 16) rfl))) (by decide) (t := (.array .byte)) (t' := .long) (by decide) (by decide)))
  have f33 : Fld Z h13 a0_ "com/example/fawley/fawley/store/StoredValue" "version" "Lcom/example/fawley/fawley/protocol/HlcTimestamp;" .null := f9.other W13 (Or.inr (slot_ne (Or.inr (hw _ (List.mem_of_getElem? (i := 12) rfl))) (Or.inr (hw _ (List.mem_of_getElem? (i := 14) rfl))) (by decide) (t := (.object "com/example/fawley/fawley/protocol/HlcTimestamp")) (t' := (.object "com/example/fawley/fawley/protocol/HlcTimestamp")) (by decide) (by decide)))
  have f34 : Fld Z h20 a0_ "com/example/fawley/fawley/store/StoredValue" "version" "Lcom/example/fawley/fawley/protocol/HlcTimestamp;" .null := f33.other W20 (Or.inr (slot_ne (Or.inr (hw _ (List.mem_of_getElem? (i := 12) rfl))) (Or.inr (hw _ (List.mem_of_getElem? (i := 16) rfl))) (by decide) (t := (.object "com/example/fawley/fawley/protocol/HlcTimestamp")) (t' := .long) (by decide) (by decide)))
  have f35 : Fld Z h20 a0_ "com/example/fawley/fawley/store/StoredValue" "fencingToken" "Lcom/example/fawley/fawley/protocol/HlcTimestamp;" .null := f15.other W20 (Or.inr (slot_ne (Or.inr (hw _ (List.mem_of_getElem? (i := 14) rfl))) (Or.inr (hw _ (List.mem_of_getElem? (i := 16) rfl))) (by decide) (t := (.object "com/example/fawley/fawley/protocol/HlcTimestamp")) (t' := .long) (by decide) (by decide)))
  obtain ⟨fs, hr, hrun, hended, hW, hsame⟩ := X20.leave (v := none) (fun _ => rfl)
  refine ⟨_, _, pre23 _ (X20.returnOut hx Bd.returns (hb hby d1_25) hr), hrun, hended, _, _, rfl, ?_, ⟨_, rfl⟩, hW, hsame.mono (by decide) (by decide)⟩
  show QIni Z a0_ q4_ u_bytes_a0_ u_version_a0_ u_fencingToken_a0_ u_expiresAt_a0_ h0 n0 _ T20.heap _
  rw [e20]
  exact ⟨rfl, N21, f28, f29, f32, f34, f35, f22⟩
theorem d2_0 : decode jdk_29_method_70_code 0 = .ok (.lload_n 0, 1) := by decide +kernel
theorem d2_1 : decode jdk_29_method_70_code 1 = .ok (.lload_n 2, 1) := by decide +kernel
theorem d2_2 : decode jdk_29_method_70_code 2 = .ok (.lcmp, 1) := by decide +kernel
theorem d2_3 : decode jdk_29_method_70_code 3 = .ok (.ifCond .gt 7, 3) := by decide +kernel
theorem d2_10 : decode jdk_29_method_70_code 10 = .ok (.lload_n 2, 1) := by decide +kernel
theorem d2_11 : decode jdk_29_method_70_code 11 = .ok (.lreturn, 1) := by decide +kernel
theorem d2_6 : decode jdk_29_method_70_code 6 = .ok (.lload_n 0, 1) := by decide +kernel
theorem d2_7 : decode jdk_29_method_70_code 7 = .ok (.goto 4, 3) := by decide +kernel
theorem efMin (m : MethodId) (q0_ : Int64) (q1_ : Int64) : entryFrame m #[(.long q0_), (.long q1_)] 4 = mkF m 0 #[.val (.long q0_), .second, .val (.long q1_), .second] [] := by first | (simp [entryFrame, mkF, argsToLocals, Value.category]; done) | rfl
def QMin (Z : State) (q0_ : Int64) (q1_ : Int64) (h0 : Heap) (n0 : Nat) (v : Option Value) (h : Heap) (L : List Loc) : Prop := ∃ r_ : Int64, v = some (.long r_) ∧ ((q0_ = r_ ∧ (¬ (q1_ < q0_))) ∨ (q1_ = r_ ∧ (q1_ < q0_))) ∧ Fr n0 L ∧ h = h0
set_option maxRecDepth 65536 in
set_option maxHeartbeats 40000000 in
theorem rmMin (l : Launch) (Z : State) (a0 : Array Value) (hw : ∀ d ∈ tables_1, d.before a0 Z = true) (ws : List Jvm.Cond) (q0_ : Int64) (q1_ : Int64) (h0 : Heap) (n0 : Nat) (O0 : Old Z n0 h0)  :
    MetFree l (⟨"java/lang/Math", "min", "(JJ)J"⟩ : MethodName) (head1 (Jvm.Cond.code (⟨"java/lang/Math", "min", "(JJ)J"⟩ : MethodName) jdk_29_method_70_code 4 (some .long) :: ws) ({ frames := 0, cells := 0, slots := 0, locals := 0 } : Room)) (fun a U => a = #[(.long q0_), (.long q1_)] ∧ Z.Warmed39 U.vm ∧ U.heap = h0) (fun _ _ _ _ _ => True) (fun _ U o U' => ∃ v L, o = .returned v ∧ QMin Z q0_ q1_ h0 n0 v U'.heap L ∧ FrameEnd U o U' L ({ frames := 0, cells := 0, slots := 0, locals := 0 } : Room).cells ({ frames := 0, cells := 0, slots := 0, locals := 0 } : Room).slots) := by
  refine MetFree.of_bodySF (Jvm.Free.JP.mathPlain rfl (by decide +kernel)) hisR ?_
  intro p e s m args below meth c s₁ Bd hml0 hP hK
  obtain ⟨rfl, hZ, hh⟩ := hP
  have hx := Bd.exec
  have hby := Bd.bytes
  have hml : c.maxLocals = 4 := hml0
  have hown : s.vm.findClass "java/lang/Math" = some m.cls := findClass_of_methodNamed Bd.named
  have hnm := (name_of_methodNamed Bd.named Bd.method).1
  have X0 : Stand p l e ({ frames := 0, cells := 0, slots := 0, locals := 0 } : Room) s m #[(.long q0_), (.long q1_)] below meth c s₁ [] 0 0 := Stand.of_body Bd
  have e0 : s₁.heap = h0 := by rw [← hh, Bd.state]; rfl
  have N0 := Fr.nil n0
  have pre0 : ∀ t, Steps p.tables e below (s₁.setTop (mkF m 0 #[.val (.long q0_), .second, .val (.long q1_), .second] [])) t → Steps p.tables e below (s₁.setTop (entryFrame m #[(.long q0_), (.long q1_)] 4)) t := fun t k => castTop (efMin m q0_ q1_) k
  have K0 : Keep h0 h0 [] := Keep.refl _ _
  have pre1 : ∀ t, Steps p.tables e below (s₁.setTop (mkF m 3 #[.val (.long q0_), .second, .val (.long q1_), .second] [(.int (lcmpW q0_ q1_))])) t → Steps p.tables e below (s₁.setTop (entryFrame m #[(.long q0_), (.long q1_)] 4)) t := by
    intro t kt
    refine pre0 t ?_
    show Steps p.tables e below (s₁.setTop (mkF m 0 #[.val (.long q0_), .second, .val (.long q1_), .second] [])) _
    refine XS.lloadN X0.here hx rfl (hb hby d2_0) rfl ?_
    show Steps p.tables e below (s₁.setTop (mkF m 1 #[.val (.long q0_), .second, .val (.long q1_), .second] [(.long q0_)])) _
    refine XS.lloadN X0.here hx rfl (hb hby d2_1) rfl ?_
    show Steps p.tables e below (s₁.setTop (mkF m 2 #[.val (.long q0_), .second, .val (.long q1_), .second] [(.long q1_), (.long q0_)])) _
    refine XS.lcmp X0.here hx rfl (hb hby d2_2) rfl ?_
    exact kt
  by_cases hc2 : q1_ < q0_
  · have pre3 : ∀ t, Steps p.tables e below (s₁.setTop (mkF m 11 #[.val (.long q0_), .second, .val (.long q1_), .second] [(.long q1_)])) t → Steps p.tables e below (s₁.setTop (entryFrame m #[(.long q0_), (.long q1_)] 4)) t := by
      intro t kt
      refine pre1 t ?_
      show Steps p.tables e below (s₁.setTop (mkF m 3 #[.val (.long q0_), .second, .val (.long q1_), .second] [(.int (lcmpW q0_ q1_))])) _
      refine XS.ifYes X0.here hx rfl (pc0 := 3) (pc' := 10) rfl (hb hby d2_3) rfl ((if0 _ _).trans (tlt ((lw_gt _ _).mpr hc2)).2.2.1) (by decide) (by decide) ?_
      show Steps p.tables e below (s₁.setTop (mkF m 10 #[.val (.long q0_), .second, .val (.long q1_), .second] [])) _
      refine XS.lloadN X0.here hx rfl (hb hby d2_10) rfl ?_
      exact kt
    obtain ⟨fs, hr, hrun, hended, hW, hsame⟩ := X0.leave (v := some (.long q1_)) (fun h => by rw [Bd.returns] at h; cases h)
    refine ⟨_, _, pre3 _ (retOut X0 hx Bd.returns rfl (Or.inr (Or.inl ⟨rfl, rfl, _, rfl⟩)) (hb hby d2_11) hr), hrun, hended, _, _, rfl, ?_, ⟨_, rfl⟩, hW, hsame.mono (by decide) (by decide)⟩
    show QMin Z q0_ q1_ h0 n0 _ s₁.heap _
    rw [e0]
    exact ⟨q1_, rfl, (Or.inr ⟨rfl, hc2⟩), N0, rfl⟩
  · have pre5 : ∀ t, Steps p.tables e below (s₁.setTop (mkF m 11 #[.val (.long q0_), .second, .val (.long q1_), .second] [(.long q0_)])) t → Steps p.tables e below (s₁.setTop (entryFrame m #[(.long q0_), (.long q1_)] 4)) t := by
      intro t kt
      refine pre1 t ?_
      show Steps p.tables e below (s₁.setTop (mkF m 3 #[.val (.long q0_), .second, .val (.long q1_), .second] [(.int (lcmpW q0_ q1_))])) _
      refine XS.ifNo X0.here hx rfl (hb hby d2_3) rfl ((if0 _ _).trans (flt (fun z => hc2 ((lw_gt _ _).mp z))).2.2.1) ?_
      show Steps p.tables e below (s₁.setTop (mkF m 6 #[.val (.long q0_), .second, .val (.long q1_), .second] [])) _
      refine XS.lloadN X0.here hx rfl (hb hby d2_6) rfl ?_
      show Steps p.tables e below (s₁.setTop (mkF m 7 #[.val (.long q0_), .second, .val (.long q1_), .second] [(.long q0_)])) _
      refine XS.goto X0.here hx rfl (pc0 := 7) (pc' := 11) rfl (hb hby d2_7) (by decide) (by decide) ?_
      exact kt
    obtain ⟨fs, hr, hrun, hended, hW, hsame⟩ := X0.leave (v := some (.long q0_)) (fun h => by rw [Bd.returns] at h; cases h)
    refine ⟨_, _, pre5 _ (retOut X0 hx Bd.returns rfl (Or.inr (Or.inl ⟨rfl, rfl, _, rfl⟩)) (hb hby d2_11) hr), hrun, hended, _, _, rfl, ?_, ⟨_, rfl⟩, hW, hsame.mono (by decide) (by decide)⟩
    show QMin Z q0_ q1_ h0 n0 _ s₁.heap _
    rw [e0]
    exact ⟨q0_, rfl, (Or.inl ⟨rfl, hc2⟩), N0, rfl⟩
theorem d3_0 : decode jdk_29_method_66_code 0 = .ok (.lload_n 0, 1) := by decide +kernel
theorem d3_1 : decode jdk_29_method_66_code 1 = .ok (.lload_n 2, 1) := by decide +kernel
theorem d3_2 : decode jdk_29_method_66_code 2 = .ok (.lcmp, 1) := by decide +kernel
theorem d3_3 : decode jdk_29_method_66_code 3 = .ok (.ifCond .lt 7, 3) := by decide +kernel
theorem d3_10 : decode jdk_29_method_66_code 10 = .ok (.lload_n 2, 1) := by decide +kernel
theorem d3_11 : decode jdk_29_method_66_code 11 = .ok (.lreturn, 1) := by decide +kernel
theorem d3_6 : decode jdk_29_method_66_code 6 = .ok (.lload_n 0, 1) := by decide +kernel
theorem d3_7 : decode jdk_29_method_66_code 7 = .ok (.goto 4, 3) := by decide +kernel
theorem efMax (m : MethodId) (q0_ : Int64) (q1_ : Int64) : entryFrame m #[(.long q0_), (.long q1_)] 4 = mkF m 0 #[.val (.long q0_), .second, .val (.long q1_), .second] [] := by first | (simp [entryFrame, mkF, argsToLocals, Value.category]; done) | rfl
def QMax (Z : State) (q0_ : Int64) (q1_ : Int64) (h0 : Heap) (n0 : Nat) (v : Option Value) (h : Heap) (L : List Loc) : Prop := ∃ r_ : Int64, v = some (.long r_) ∧ ((q0_ = r_ ∧ (¬ (q0_ < q1_))) ∨ (q1_ = r_ ∧ (q0_ < q1_))) ∧ Fr n0 L ∧ h = h0
set_option maxRecDepth 65536 in
set_option maxHeartbeats 40000000 in
theorem rmMax (l : Launch) (Z : State) (a0 : Array Value) (hw : ∀ d ∈ tables_1, d.before a0 Z = true) (ws : List Jvm.Cond) (q0_ : Int64) (q1_ : Int64) (h0 : Heap) (n0 : Nat) (O0 : Old Z n0 h0)  :
    MetFree l (⟨"java/lang/Math", "max", "(JJ)J"⟩ : MethodName) (head1 (Jvm.Cond.code (⟨"java/lang/Math", "max", "(JJ)J"⟩ : MethodName) jdk_29_method_66_code 4 (some .long) :: ws) ({ frames := 0, cells := 0, slots := 0, locals := 0 } : Room)) (fun a U => a = #[(.long q0_), (.long q1_)] ∧ Z.Warmed39 U.vm ∧ U.heap = h0) (fun _ _ _ _ _ => True) (fun _ U o U' => ∃ v L, o = .returned v ∧ QMax Z q0_ q1_ h0 n0 v U'.heap L ∧ FrameEnd U o U' L ({ frames := 0, cells := 0, slots := 0, locals := 0 } : Room).cells ({ frames := 0, cells := 0, slots := 0, locals := 0 } : Room).slots) := by
  refine MetFree.of_bodySF (Jvm.Free.JP.mathPlain rfl (by decide +kernel)) hisR ?_
  intro p e s m args below meth c s₁ Bd hml0 hP hK
  obtain ⟨rfl, hZ, hh⟩ := hP
  have hx := Bd.exec
  have hby := Bd.bytes
  have hml : c.maxLocals = 4 := hml0
  have hown : s.vm.findClass "java/lang/Math" = some m.cls := findClass_of_methodNamed Bd.named
  have hnm := (name_of_methodNamed Bd.named Bd.method).1
  have X0 : Stand p l e ({ frames := 0, cells := 0, slots := 0, locals := 0 } : Room) s m #[(.long q0_), (.long q1_)] below meth c s₁ [] 0 0 := Stand.of_body Bd
  have e0 : s₁.heap = h0 := by rw [← hh, Bd.state]; rfl
  have N0 := Fr.nil n0
  have pre0 : ∀ t, Steps p.tables e below (s₁.setTop (mkF m 0 #[.val (.long q0_), .second, .val (.long q1_), .second] [])) t → Steps p.tables e below (s₁.setTop (entryFrame m #[(.long q0_), (.long q1_)] 4)) t := fun t k => castTop (efMax m q0_ q1_) k
  have K0 : Keep h0 h0 [] := Keep.refl _ _
  have pre1 : ∀ t, Steps p.tables e below (s₁.setTop (mkF m 3 #[.val (.long q0_), .second, .val (.long q1_), .second] [(.int (lcmpW q0_ q1_))])) t → Steps p.tables e below (s₁.setTop (entryFrame m #[(.long q0_), (.long q1_)] 4)) t := by
    intro t kt
    refine pre0 t ?_
    show Steps p.tables e below (s₁.setTop (mkF m 0 #[.val (.long q0_), .second, .val (.long q1_), .second] [])) _
    refine XS.lloadN X0.here hx rfl (hb hby d3_0) rfl ?_
    show Steps p.tables e below (s₁.setTop (mkF m 1 #[.val (.long q0_), .second, .val (.long q1_), .second] [(.long q0_)])) _
    refine XS.lloadN X0.here hx rfl (hb hby d3_1) rfl ?_
    show Steps p.tables e below (s₁.setTop (mkF m 2 #[.val (.long q0_), .second, .val (.long q1_), .second] [(.long q1_), (.long q0_)])) _
    refine XS.lcmp X0.here hx rfl (hb hby d3_2) rfl ?_
    exact kt
  by_cases hc2 : q0_ < q1_
  · have pre3 : ∀ t, Steps p.tables e below (s₁.setTop (mkF m 11 #[.val (.long q0_), .second, .val (.long q1_), .second] [(.long q1_)])) t → Steps p.tables e below (s₁.setTop (entryFrame m #[(.long q0_), (.long q1_)] 4)) t := by
      intro t kt
      refine pre1 t ?_
      show Steps p.tables e below (s₁.setTop (mkF m 3 #[.val (.long q0_), .second, .val (.long q1_), .second] [(.int (lcmpW q0_ q1_))])) _
      refine XS.ifYes X0.here hx rfl (pc0 := 3) (pc' := 10) rfl (hb hby d3_3) rfl ((if0 _ _).trans (tlt ((lw_lt _ _).mpr hc2)).1) (by decide) (by decide) ?_
      show Steps p.tables e below (s₁.setTop (mkF m 10 #[.val (.long q0_), .second, .val (.long q1_), .second] [])) _
      refine XS.lloadN X0.here hx rfl (hb hby d3_10) rfl ?_
      exact kt
    obtain ⟨fs, hr, hrun, hended, hW, hsame⟩ := X0.leave (v := some (.long q1_)) (fun h => by rw [Bd.returns] at h; cases h)
    refine ⟨_, _, pre3 _ (retOut X0 hx Bd.returns rfl (Or.inr (Or.inl ⟨rfl, rfl, _, rfl⟩)) (hb hby d3_11) hr), hrun, hended, _, _, rfl, ?_, ⟨_, rfl⟩, hW, hsame.mono (by decide) (by decide)⟩
    show QMax Z q0_ q1_ h0 n0 _ s₁.heap _
    rw [e0]
    exact ⟨q1_, rfl, (Or.inr ⟨rfl, hc2⟩), N0, rfl⟩
  · have pre5 : ∀ t, Steps p.tables e below (s₁.setTop (mkF m 11 #[.val (.long q0_), .second, .val (.long q1_), .second] [(.long q0_)])) t → Steps p.tables e below (s₁.setTop (entryFrame m #[(.long q0_), (.long q1_)] 4)) t := by
      intro t kt
      refine pre1 t ?_
      show Steps p.tables e below (s₁.setTop (mkF m 3 #[.val (.long q0_), .second, .val (.long q1_), .second] [(.int (lcmpW q0_ q1_))])) _
      refine XS.ifNo X0.here hx rfl (hb hby d3_3) rfl ((if0 _ _).trans (flt (fun z => hc2 ((lw_lt _ _).mp z))).1) ?_
      show Steps p.tables e below (s₁.setTop (mkF m 6 #[.val (.long q0_), .second, .val (.long q1_), .second] [])) _
      refine XS.lloadN X0.here hx rfl (hb hby d3_6) rfl ?_
      show Steps p.tables e below (s₁.setTop (mkF m 7 #[.val (.long q0_), .second, .val (.long q1_), .second] [(.long q0_)])) _
      refine XS.goto X0.here hx rfl (pc0 := 7) (pc' := 11) rfl (hb hby d3_7) (by decide) (by decide) ?_
      exact kt
    obtain ⟨fs, hr, hrun, hended, hW, hsame⟩ := X0.leave (v := some (.long q0_)) (fun h => by rw [Bd.returns] at h; cases h)
    refine ⟨_, _, pre5 _ (retOut X0 hx Bd.returns rfl (Or.inr (Or.inl ⟨rfl, rfl, _, rfl⟩)) (hb hby d3_11) hr), hrun, hended, _, _, rfl, ?_, ⟨_, rfl⟩, hW, hsame.mono (by decide) (by decide)⟩
    show QMax Z q0_ q1_ h0 n0 _ s₁.heap _
    rw [e0]
    exact ⟨q0_, rfl, (Or.inl ⟨rfl, hc2⟩), N0, rfl⟩
theorem d4_0 : decode prog_58_method_6_code 0 = .ok (.lload_n 1, 1) := by decide +kernel
theorem d4_1 : decode prog_58_method_6_code 1 = .ok (.aload_n 0, 1) := by decide +kernel
theorem d4_2 : decode prog_58_method_6_code 2 = .ok (.getfield 22, 3) := by decide +kernel
theorem d4_5 : decode prog_58_method_6_code 5 = .ok (.lcmp, 1) := by decide +kernel
theorem d4_6 : decode prog_58_method_6_code 6 = .ok (.ifCond .lt 7, 3) := by decide +kernel
theorem d4_13 : decode prog_58_method_6_code 13 = .ok (.iconst 0, 1) := by decide +kernel
theorem d4_14 : decode prog_58_method_6_code 14 = .ok (.ireturn, 1) := by decide +kernel
theorem d4_9 : decode prog_58_method_6_code 9 = .ok (.iconst 1, 1) := by decide +kernel
theorem d4_10 : decode prog_58_method_6_code 10 = .ok (.goto 4, 3) := by decide +kernel
theorem efHas (m : MethodId) (a0_ : Addr) (q1_ : Int64) : entryFrame m #[(.ref a0_), (.long q1_)] 3 = mkF m 0 #[.val (.ref a0_), .val (.long q1_), .second] [] := by first | (simp [entryFrame, mkF, argsToLocals, Value.category]; done) | rfl
def QHas (Z : State) (a0_ : Addr) (q1_ : Int64) (w_expiresAt_a0 : Int64) (h0 : Heap) (n0 : Nat) (v : Option Value) (h : Heap) (L : List Loc) : Prop := ∃ r_ : Int32, v = some (.int r_) ∧ (((1 : Int32) = r_ ∧ (¬ (q1_ < w_expiresAt_a0))) ∨ ((0 : Int32) = r_ ∧ (q1_ < w_expiresAt_a0))) ∧ Fr n0 L ∧ h = h0
set_option maxRecDepth 65536 in
set_option maxHeartbeats 40000000 in
theorem rmHas (l : Launch) (Z : State) (a0 : Array Value) (hw : ∀ d ∈ tables_1, d.before a0 Z = true) (ws : List Jvm.Cond) (a0_ : Addr) (q1_ : Int64) (w_expiresAt_a0 : Int64) (h0 : Heap) (n0 : Nat) (O0 : Old Z n0 h0) (P0 : Fld Z h0 a0_ "com/example/fawley/fawley/store/StoredValue" "expiresAt" "J" (.long w_expiresAt_a0)) :
    MetFree l (⟨"com/example/fawley/fawley/store/StoredValue", "hasExpiredAt", "(J)Z"⟩ : MethodName) (head1 (Jvm.Cond.code (⟨"com/example/fawley/fawley/store/StoredValue", "hasExpiredAt", "(J)Z"⟩ : MethodName) prog_58_method_6_code 3 (some .boolean) :: ws) ({ frames := 0, cells := 0, slots := 0, locals := 0 } : Room)) (fun a U => a = #[(.ref a0_), (.long q1_)] ∧ Z.Warmed39 U.vm ∧ U.heap = h0) (fun _ _ _ _ _ => True) (fun _ U o U' => ∃ v L, o = .returned v ∧ QHas Z a0_ q1_ w_expiresAt_a0 h0 n0 v U'.heap L ∧ FrameEnd U o U' L ({ frames := 0, cells := 0, slots := 0, locals := 0 } : Room).cells ({ frames := 0, cells := 0, slots := 0, locals := 0 } : Room).slots) := by
  refine MetFree.of_bodySF (plainFor_of_name pn_0) hisR ?_
  intro p e s m args below meth c s₁ Bd hml0 hP hK
  obtain ⟨rfl, hZ, hh⟩ := hP
  have hx := Bd.exec
  have hby := Bd.bytes
  have hml : c.maxLocals = 3 := hml0
  have hown : s.vm.findClass "com/example/fawley/fawley/store/StoredValue" = some m.cls := findClass_of_methodNamed Bd.named
  have hnm := (name_of_methodNamed Bd.named Bd.method).1
  have X0 : Stand p l e ({ frames := 0, cells := 0, slots := 0, locals := 0 } : Room) s m #[(.ref a0_), (.long q1_)] below meth c s₁ [] 0 0 := Stand.of_body Bd
  have e0 : s₁.heap = h0 := by rw [← hh, Bd.state]; rfl
  have N0 := Fr.nil n0
  have pre0 : ∀ t, Steps p.tables e below (s₁.setTop (mkF m 0 #[.val (.ref a0_), .val (.long q1_), .second] [])) t → Steps p.tables e below (s₁.setTop (entryFrame m #[(.ref a0_), (.long q1_)] 3)) t := fun t k => castTop (efHas m a0_ q1_) k
  have K0 : Keep h0 h0 [] := Keep.refl _ _
  obtain ⟨T1, X1, e1, st1⟩ := getF X0 hx hZ hown (host := "") (Or.inl (hw _ (List.mem_of_getElem? (i := 15) rfl))) Via.refl e0 P0 (g := (mkF m 2 #[.val (.ref a0_), .val (.long q1_), .second] [(.ref a0_), (.long q1_)])) rfl rfl (hb hby d4_2)
  have pre2 : ∀ t, Steps p.tables e below (T1.setTop (mkF m 6 #[.val (.ref a0_), .val (.long q1_), .second] [(.int (lcmpW q1_ w_expiresAt_a0))])) t → Steps p.tables e below (s₁.setTop (entryFrame m #[(.ref a0_), (.long q1_)] 3)) t := by
    intro t kt
    refine pre0 t ?_
    show Steps p.tables e below (s₁.setTop (mkF m 0 #[.val (.ref a0_), .val (.long q1_), .second] [])) _
    refine XS.lloadN X0.here hx rfl (hb hby d4_0) rfl ?_
    show Steps p.tables e below (s₁.setTop (mkF m 1 #[.val (.ref a0_), .val (.long q1_), .second] [(.long q1_)])) _
    refine XS.aloadN X0.here hx rfl (hb hby d4_1) rfl rfl ?_
    show Steps p.tables e below (s₁.setTop (mkF m 2 #[.val (.ref a0_), .val (.long q1_), .second] [(.ref a0_), (.long q1_)])) _
    refine st1 _ ?_
    show Steps p.tables e below (T1.setTop (mkF m 5 #[.val (.ref a0_), .val (.long q1_), .second] [(.long w_expiresAt_a0), (.long q1_)])) _
    refine XS.lcmp X1.here hx rfl (hb hby d4_5) rfl ?_
    exact kt
  by_cases hc3 : q1_ < w_expiresAt_a0
  · have pre4 : ∀ t, Steps p.tables e below (T1.setTop (mkF m 14 #[.val (.ref a0_), .val (.long q1_), .second] [(.int (0 : Int32))])) t → Steps p.tables e below (s₁.setTop (entryFrame m #[(.ref a0_), (.long q1_)] 3)) t := by
      intro t kt
      refine pre2 t ?_
      show Steps p.tables e below (T1.setTop (mkF m 6 #[.val (.ref a0_), .val (.long q1_), .second] [(.int (lcmpW q1_ w_expiresAt_a0))])) _
      refine XS.ifYes X1.here hx rfl (pc0 := 6) (pc' := 13) rfl (hb hby d4_6) rfl ((if0 _ _).trans (tlt ((lw_lt _ _).mpr hc3)).1) (by decide) (by decide) ?_
      show Steps p.tables e below (T1.setTop (mkF m 13 #[.val (.ref a0_), .val (.long q1_), .second] [])) _
      refine XS.iconst X1.here hx rfl (hb hby d4_13) ?_
      exact kt
    obtain ⟨fs, hr, hrun, hended, hW, hsame⟩ := X1.leave (v := some (.int (0 : Int32))) (fun h => by rw [Bd.returns] at h; cases h)
    refine ⟨_, _, pre4 _ (retN X1 hx (t := .boolean) Bd.returns (by simp) (hb hby d4_14) hr), hrun, hended, _, _, rfl, ?_, ⟨_, rfl⟩, hW, hsame.mono (by decide) (by decide)⟩
    show QHas Z a0_ q1_ w_expiresAt_a0 h0 n0 _ T1.heap _
    rw [e1]
    exact ⟨(0 : Int32), rfl, (Or.inr ⟨rfl, hc3⟩), N0, rfl⟩
  · have pre6 : ∀ t, Steps p.tables e below (T1.setTop (mkF m 14 #[.val (.ref a0_), .val (.long q1_), .second] [(.int (1 : Int32))])) t → Steps p.tables e below (s₁.setTop (entryFrame m #[(.ref a0_), (.long q1_)] 3)) t := by
      intro t kt
      refine pre2 t ?_
      show Steps p.tables e below (T1.setTop (mkF m 6 #[.val (.ref a0_), .val (.long q1_), .second] [(.int (lcmpW q1_ w_expiresAt_a0))])) _
      refine XS.ifNo X1.here hx rfl (hb hby d4_6) rfl ((if0 _ _).trans (flt (fun z => hc3 ((lw_lt _ _).mp z))).1) ?_
      show Steps p.tables e below (T1.setTop (mkF m 9 #[.val (.ref a0_), .val (.long q1_), .second] [])) _
      refine XS.iconst X1.here hx rfl (hb hby d4_9) ?_
      show Steps p.tables e below (T1.setTop (mkF m 10 #[.val (.ref a0_), .val (.long q1_), .second] [(.int (1 : Int32))])) _
      refine XS.goto X1.here hx rfl (pc0 := 10) (pc' := 14) rfl (hb hby d4_10) (by decide) (by decide) ?_
      exact kt
    obtain ⟨fs, hr, hrun, hended, hW, hsame⟩ := X1.leave (v := some (.int (1 : Int32))) (fun h => by rw [Bd.returns] at h; cases h)
    refine ⟨_, _, pre6 _ (retN X1 hx (t := .boolean) Bd.returns (by simp) (hb hby d4_14) hr), hrun, hended, _, _, rfl, ?_, ⟨_, rfl⟩, hW, hsame.mono (by decide) (by decide)⟩
    show QHas Z a0_ q1_ w_expiresAt_a0 h0 n0 _ T1.heap _
    rw [e1]
    exact ⟨(1 : Int32), rfl, (Or.inl ⟨rfl, hc3⟩), N0, rfl⟩
theorem pd_0 : parseMethodDescriptor "([BLcom/example/fawley/fawley/protocol/HlcTimestamp;Lcom/example/fawley/fawley/protocol/HlcTimestamp;J)V" = some ⟨[(.array .byte), (.object "com/example/fawley/fawley/protocol/HlcTimestamp"), (.object "com/example/fawley/fawley/protocol/HlcTimestamp"), .long], none⟩ := by decide +kernel
theorem pd_1 : parseMethodDescriptor "(JJ)J" = some ⟨[.long, .long], some .long⟩ := by decide +kernel
theorem pd_2 : parseMethodDescriptor "(J)Z" = some ⟨[.long], some .boolean⟩ := by decide +kernel
theorem pn_1 : plainName "com/example/fawley/fawley/store/StoredValueHasExpiredAtPinLaw" = true := by first | (simp [plainName, overriddenIn]; done) | decide +kernel
theorem efLaw (m : MethodId) (q0_ : Int64) (q1_ : Int64) (q2_ : Int64) : entryFrame m #[(.long q0_), (.long q1_), (.long q2_)] maxLocals = mkF m 0 #[.val (.long q0_), .second, .val (.long q1_), .second, .val (.long q2_), .second, .unset, .unset, .unset, .unset, .unset, .unset, .unset, .unset, .unset, .unset] [] := by first | (simp [entryFrame, mkF, argsToLocals, Value.category, maxLocals]; done) | rfl
def QLaw (Z : State) (q0_ : Int64) (q1_ : Int64) (q2_ : Int64) (h0 : Heap) (n0 : Nat) (v : Option Value) (h : Heap) (L : List Loc) : Prop := v = some (.int (1 : Int32)) ∧ Fr n0 L
set_option maxRecDepth 65536 in
set_option maxHeartbeats 40000000 in
theorem rmLaw (l : Launch) (Z : State) (a0 : Array Value) (hw : ∀ d ∈ tables_1, d.before a0 Z = true) (ws : List Jvm.Cond) (q0_ : Int64) (q1_ : Int64) (q2_ : Int64) (h0 : Heap) (n0 : Nat) (O0 : Old Z n0 h0)  :
    MetFree l x (head1 (Jvm.Cond.code x code maxLocals ret :: ws) room_1) (fun a U => a = #[(.long q0_), (.long q1_), (.long q2_)] ∧ Z.Warmed39 U.vm ∧ U.heap = h0) (fun _ _ _ _ _ => True) (fun _ U o U' => ∃ v L, o = .returned v ∧ QLaw Z q0_ q1_ q2_ h0 n0 v U'.heap L ∧ FrameEnd U o U' L room_1.cells room_1.slots) := by
  refine MetFree.of_bodySF (plainFor_of_name pn_1) hisR ?_
  intro p e s m args below meth c s₁ Bd hml0 hP hK
  obtain ⟨rfl, hZ, hh⟩ := hP
  have hx := Bd.exec
  have hby := Bd.bytes
  have hml : c.maxLocals = 16 := hml0
  have hown : s.vm.findClass "com/example/fawley/fawley/store/StoredValueHasExpiredAtPinLaw" = some m.cls := findClass_of_methodNamed Bd.named
  have hnm := (name_of_methodNamed Bd.named Bd.method).1
  have X0 : Stand p l e room_1 s m #[(.long q0_), (.long q1_), (.long q2_)] below meth c s₁ [] 0 0 := Stand.of_body Bd
  have e0 : s₁.heap = h0 := by rw [← hh, Bd.state]; rfl
  have N0 := Fr.nil n0
  have pre0 : ∀ t, Steps p.tables e below (s₁.setTop (mkF m 0 #[.val (.long q0_), .second, .val (.long q1_), .second, .val (.long q2_), .second, .unset, .unset, .unset, .unset, .unset, .unset, .unset, .unset, .unset, .unset] [])) t → Steps p.tables e below (s₁.setTop (entryFrame m #[(.long q0_), (.long q1_), (.long q2_)] maxLocals)) t := fun t k => castTop (efLaw m q0_ q1_ q2_) k
  have K0 : Keep h0 h0 [] := Keep.refl _ _
  obtain ⟨T1, h1, X1, e1, E1, A1, D1, -, st1⟩ := newO X0 hx hZ hown (hw _ (List.mem_of_getElem? (i := 0) rfl)) (hw _ (List.mem_of_getElem? (i := 1) rfl)) (hw _ (List.mem_of_getElem? (i := 2) rfl)) e0 (g := (mkF m 0 #[.val (.long q0_), .second, .val (.long q1_), .second, .val (.long q2_), .second, .unset, .unset, .unset, .unset, .unset, .unset, .unset, .unset, .unset, .unset] [])) rfl (hb hby at_0) (by decide) (by decide)
  obtain ⟨b1, g1⟩ : ∃ z, z = h0.size := ⟨_, rfl⟩
  rw [← g1] at A1 D1 st1
  have ge2 : n0 ≤ b1 := Nat.le_trans (Nat.le_trans (Nat.le_of_eq O0.1.symm) O0.2.1) (Nat.le_of_eq g1.symm)
  have sz3 : h0.size ≤ b1 := Nat.le_trans K0.1 (Nat.le_of_eq g1.symm)
  have f4 : Fld Z h1 b1 "com/example/fawley/fawley/store/StoredValue" "bytes" "[B" .null := D1 (Or.inr (hw _ (List.mem_of_getElem? (i := 10) rfl))) (ty := (.array .byte)) (by decide)
  have f5 : Fld Z h1 b1 "com/example/fawley/fawley/store/StoredValue" "version" "Lcom/example/fawley/fawley/protocol/HlcTimestamp;" .null := D1 (Or.inr (hw _ (List.mem_of_getElem? (i := 12) rfl))) (ty := (.object "com/example/fawley/fawley/protocol/HlcTimestamp")) (by decide)
  have f6 : Fld Z h1 b1 "com/example/fawley/fawley/store/StoredValue" "fencingToken" "Lcom/example/fawley/fawley/protocol/HlcTimestamp;" .null := D1 (Or.inr (hw _ (List.mem_of_getElem? (i := 14) rfl))) (ty := (.object "com/example/fawley/fawley/protocol/HlcTimestamp")) (by decide)
  have f7 : Fld Z h1 b1 "com/example/fawley/fawley/store/StoredValue" "expiresAt" "J" (.long (0 : Int64)) := D1 (Or.inr (hw _ (List.mem_of_getElem? (i := 16) rfl))) (ty := .long) (by decide)
  have f9 : Old Z n0 h1 := O0.ext E1
  obtain ⟨_, _, ⟨T8, L8, k8, n8⟩, -, X8, ⟨Lc8, hQ8, l8, y8, z8⟩, st8⟩ := X1.specialBack hx (y := (⟨"com/example/fawley/fawley/store/StoredValue", "<init>", "([BLcom/example/fawley/fawley/protocol/HlcTimestamp;Lcom/example/fawley/fawley/protocol/HlcTimestamp;J)V"⟩ : MethodName)) rfl hown (mvT hZ (hw _ (List.mem_of_getElem? (i := 3) rfl))) (mvT hZ (hw _ (List.mem_of_getElem? (i := 4) rfl))) (mvT hZ (hw _ (List.mem_of_getElem? (i := 5) rfl))) (by decide) (backOf (W := 1) (rmIni l Z a0 hw [] b1 q0_ (.null) (.null) (.null) (0 : Int64) h1 n0 f9 A1 f4 f5 f6 f7 ge2) hZ (hw _ (List.mem_of_getElem? (i := 5) rfl)) (hw _ (List.mem_of_getElem? (i := 2) rfl)) (by decide) (by decide)) (g := (mkF m 8 #[.val (.long q0_), .second, .val (.long q1_), .second, .val (.long q2_), .second, .unset, .unset, .unset, .unset, .unset, .unset, .unset, .unset, .unset, .unset] [(.long q0_), .null, .null, .null, (.ref b1), (.ref b1)])) rfl (by rw [hml]; rfl) (Steps.refl _) (a := b1) (argsL := [.null, .null, .null, (.long q0_)]) (rest := [(.ref b1)]) (lenOf pd_0 rfl) rfl (by show 2 * 0 + _ ≤ _; exact Nat.le_of_eq rfl) (hb hby at_8) (fun _ _ => ⟨rfl, e1, (by decide : 1 + 0 ≤ _), (by decide : 4 + 0 ≤ _)⟩)
  dsimp only [Pt.U, Pt.locs, Pt.cells, Pt.slots] at X8 l8 y8 z8 st8 hQ8
  subst l8 y8 z8
  obtain ⟨h8, e8⟩ : ∃ z, T8.heap = z := ⟨_, rfl⟩
  rw [e8] at hQ8
  obtain ⟨rfl, N8q, K8, g8_0, g8_1, g8_2, g8_3, g8_4⟩ := hQ8
  have N10 := Fr.app N0 N8q
  have f12 : Old Z n0 h8 := f9.keep K8 (allS (ge2) all0)
  obtain ⟨_, _, ⟨T11, L11, k11, n11⟩, -, X11, ⟨Lc11, hQ11, l11, y11, z11⟩, st11⟩ := Jvm.LawKit.callS X8 hx (y := (⟨"java/lang/Math", "min", "(JJ)J"⟩ : MethodName)) hown (mvT hZ (hw _ (List.mem_of_getElem? (i := 17) rfl))) (mvT hZ (hw _ (List.mem_of_getElem? (i := 18) rfl))) (mvT hZ (hw _ (List.mem_of_getElem? (i := 19) rfl))) (mvT hZ (hw _ (List.mem_of_getElem? (i := 20) rfl))) (by decide) (backOf (W := 0) (rmMin l Z a0 hw [] q1_ q2_ h8 n0 f12 ) hZ (hw _ (List.mem_of_getElem? (i := 20) rfl)) (hw _ (List.mem_of_getElem? (i := 19) rfl)) (by decide) (by decide)) (g := (mkF m 16 #[.val (.long q0_), .second, .val (.long q1_), .second, .val (.long q2_), .second, .val (.ref b1), .unset, .unset, .unset, .unset, .unset, .unset, .unset, .unset, .unset] [(.long q2_), (.long q1_)])) rfl (by rw [hml]; rfl) (argsL := [(.long q1_), (.long q2_)]) (rest := []) (lenOf pd_1 rfl) rfl (by show 2 * 0 + _ ≤ _; exact Nat.le_of_eq rfl) (hb hby at_16) (fun _ _ => ⟨rfl, e8, (by decide : 1 + 0 ≤ _), (by decide : 4 + 0 ≤ _)⟩)
  dsimp only [Pt.U, Pt.locs, Pt.cells, Pt.slots] at X11 l11 y11 z11 st11 hQ11
  subst l11 y11 z11
  obtain ⟨h11, e11⟩ : ∃ z, T11.heap = z := ⟨_, rfl⟩
  rw [e11] at hQ11
  obtain ⟨rr11, rfl, hs11, N11q, hh11⟩ := hQ11
  have N13 := Fr.app N10 N11q
  have e11' : T11.heap = h8 := e11.trans hh11
  rcases hs11 with ⟨rfl, hq11_0_0⟩ | ⟨rfl, hq11_1_0⟩
  · obtain ⟨_, _, ⟨T14, L14, k14, n14⟩, -, X14, ⟨Lc14, hQ14, l14, y14, z14⟩, st14⟩ := Jvm.LawKit.callS X11 hx (y := (⟨"java/lang/Math", "max", "(JJ)J"⟩ : MethodName)) hown (mvT hZ (hw _ (List.mem_of_getElem? (i := 21) rfl))) (mvT hZ (hw _ (List.mem_of_getElem? (i := 22) rfl))) (mvT hZ (hw _ (List.mem_of_getElem? (i := 19) rfl))) (mvT hZ (hw _ (List.mem_of_getElem? (i := 23) rfl))) (by decide) (backOf (W := 0) (rmMax l Z a0 hw [] q1_ q2_ h8 n0 f12 ) hZ (hw _ (List.mem_of_getElem? (i := 23) rfl)) (hw _ (List.mem_of_getElem? (i := 19) rfl)) (by decide) (by decide)) (g := (mkF m 24 #[.val (.long q0_), .second, .val (.long q1_), .second, .val (.long q2_), .second, .val (.ref b1), .val (.long q1_), .second, .unset, .unset, .unset, .unset, .unset, .unset, .unset] [(.long q2_), (.long q1_)])) rfl (by rw [hml]; rfl) (argsL := [(.long q1_), (.long q2_)]) (rest := []) (lenOf pd_1 rfl) rfl (by show 2 * 0 + _ ≤ _; exact Nat.le_of_eq rfl) (hb hby at_24) (fun _ _ => ⟨rfl, e11', (by decide : 1 + 0 ≤ _), (by decide : 4 + 0 ≤ _)⟩)
    dsimp only [Pt.U, Pt.locs, Pt.cells, Pt.slots] at X14 l14 y14 z14 st14 hQ14
    subst l14 y14 z14
    obtain ⟨h14, e14⟩ : ∃ z, T14.heap = z := ⟨_, rfl⟩
    rw [e14] at hQ14
    obtain ⟨rr14, rfl, hs14, N14q, hh14⟩ := hQ14
    have N15 := Fr.app N13 N14q
    have e14' : T14.heap = h8 := e14.trans hh14
    rcases hs14 with ⟨rfl, hq14_0_0⟩ | ⟨rfl, hq14_1_0⟩
    · obtain ⟨cq16, kq16, q16a, q16b, q16c⟩ := isOf hZ e14' g8_0
      obtain ⟨_, _, ⟨T16, L16, k16, n16⟩, -, X16, ⟨Lc16, hQ16, l16, y16, z16⟩, st16⟩ := X14.virtualBack hx (y := (⟨"com/example/fawley/fawley/store/StoredValue", "hasExpiredAt", "(J)Z"⟩ : MethodName)) (z := (⟨"com/example/fawley/fawley/store/StoredValue", "hasExpiredAt", "(J)Z"⟩ : MethodName)) hown (mvT hZ (hw _ (List.mem_of_getElem? (i := 24) rfl))) (mvT hZ (hw _ (List.mem_of_getElem? (i := 25) rfl))) (notFace_of_selects (args := #[]) (mvT hZ (hw _ (List.mem_of_getElem? (i := 27) rfl)))) (mvT hZ (hw _ (List.mem_of_getElem? (i := 27) rfl))) (mvT hZ (hw _ (List.mem_of_getElem? (i := 26) rfl))) (by decide) (backOf (W := 0) (rmHas l Z a0 hw [] b1 q0_ q0_ h8 n0 f12 g8_4) hZ (hw _ (List.mem_of_getElem? (i := 28) rfl)) (hw _ (List.mem_of_getElem? (i := 2) rfl)) (by decide) (by decide)) q16a q16c (g := (mkF m 32 #[.val (.long q0_), .second, .val (.long q1_), .second, .val (.long q2_), .second, .val (.ref b1), .val (.long q1_), .second, .val (.long q1_), .second, .unset, .unset, .unset, .unset, .unset] [(.long q0_), (.ref b1)])) rfl (by rw [hml]; rfl) (Steps.refl _) (argsL := [(.long q0_)]) (rest := []) (lenOf pd_2 rfl) rfl (by show 2 * 0 + _ ≤ _; exact Nat.le_of_eq rfl) (hb hby at_32) (fun _ _ => ⟨rfl, e14', (by decide : 1 + 0 ≤ _), (by decide : 4 + 0 ≤ _)⟩)
      dsimp only [Pt.U, Pt.locs, Pt.cells, Pt.slots] at X16 l16 y16 z16 st16 hQ16
      subst l16 y16 z16
      obtain ⟨h16, e16⟩ : ∃ z, T16.heap = z := ⟨_, rfl⟩
      rw [e16] at hQ16
      obtain ⟨rr16, rfl, hs16, N16q, hh16⟩ := hQ16
      have N17 := Fr.app N15 N16q
      have e16' : T16.heap = h8 := e16.trans hh16
      rcases hs16 with ⟨rfl, hq16_0_0⟩ | ⟨rfl, hq16_1_0⟩
      · have pre18 : ∀ t, Steps p.tables e below (T16.setTop (mkF m 42 #[.val (.long q0_), .second, .val (.long q1_), .second, .val (.long q2_), .second, .val (.ref b1), .val (.long q1_), .second, .val (.long q1_), .second, .val (.int (1 : Int32)), .unset, .unset, .unset, .unset] [(.int (lcmpW q0_ (-9223372036854775808 : Int64)))])) t → Steps p.tables e below (s₁.setTop (entryFrame m #[(.long q0_), (.long q1_), (.long q2_)] maxLocals)) t := by
          intro t kt
          refine pre0 t ?_
          show Steps p.tables e below (s₁.setTop (mkF m 0 #[.val (.long q0_), .second, .val (.long q1_), .second, .val (.long q2_), .second, .unset, .unset, .unset, .unset, .unset, .unset, .unset, .unset, .unset, .unset] [])) _
          refine st1 _ ?_
          show Steps p.tables e below (T1.setTop (mkF m 3 #[.val (.long q0_), .second, .val (.long q1_), .second, .val (.long q2_), .second, .unset, .unset, .unset, .unset, .unset, .unset, .unset, .unset, .unset, .unset] [(.ref b1)])) _
          refine XS.dup X1.here hx rfl (hb hby at_3) rfl rfl ?_
          show Steps p.tables e below (T1.setTop (mkF m 4 #[.val (.long q0_), .second, .val (.long q1_), .second, .val (.long q2_), .second, .unset, .unset, .unset, .unset, .unset, .unset, .unset, .unset, .unset, .unset] [(.ref b1), (.ref b1)])) _
          refine XS.aconstNull X1.here hx rfl (hb hby at_4) ?_
          show Steps p.tables e below (T1.setTop (mkF m 5 #[.val (.long q0_), .second, .val (.long q1_), .second, .val (.long q2_), .second, .unset, .unset, .unset, .unset, .unset, .unset, .unset, .unset, .unset, .unset] [.null, (.ref b1), (.ref b1)])) _
          refine XS.aconstNull X1.here hx rfl (hb hby at_5) ?_
          show Steps p.tables e below (T1.setTop (mkF m 6 #[.val (.long q0_), .second, .val (.long q1_), .second, .val (.long q2_), .second, .unset, .unset, .unset, .unset, .unset, .unset, .unset, .unset, .unset, .unset] [.null, .null, (.ref b1), (.ref b1)])) _
          refine XS.aconstNull X1.here hx rfl (hb hby at_6) ?_
          show Steps p.tables e below (T1.setTop (mkF m 7 #[.val (.long q0_), .second, .val (.long q1_), .second, .val (.long q2_), .second, .unset, .unset, .unset, .unset, .unset, .unset, .unset, .unset, .unset, .unset] [.null, .null, .null, (.ref b1), (.ref b1)])) _
          refine XS.lloadN X1.here hx rfl (hb hby at_7) rfl ?_
          show Steps p.tables e below (T1.setTop (mkF m 8 #[.val (.long q0_), .second, .val (.long q1_), .second, .val (.long q2_), .second, .unset, .unset, .unset, .unset, .unset, .unset, .unset, .unset, .unset, .unset] [(.long q0_), .null, .null, .null, (.ref b1), (.ref b1)])) _
          refine st8.trans ?_
          show Steps p.tables e below (T8.setTop (mkF m 11 #[.val (.long q0_), .second, .val (.long q1_), .second, .val (.long q2_), .second, .unset, .unset, .unset, .unset, .unset, .unset, .unset, .unset, .unset, .unset] [(.ref b1)])) _
          refine XS.astore X8.here hx rfl (hb hby at_11) rfl rfl (l' := #[.val (.long q0_), .second, .val (.long q1_), .second, .val (.long q2_), .second, .val (.ref b1), .unset, .unset, .unset, .unset, .unset, .unset, .unset, .unset, .unset]) rfl ?_
          show Steps p.tables e below (T8.setTop (mkF m 13 #[.val (.long q0_), .second, .val (.long q1_), .second, .val (.long q2_), .second, .val (.ref b1), .unset, .unset, .unset, .unset, .unset, .unset, .unset, .unset, .unset] [])) _
          refine XS.lloadN X8.here hx rfl (hb hby at_13) rfl ?_
          show Steps p.tables e below (T8.setTop (mkF m 14 #[.val (.long q0_), .second, .val (.long q1_), .second, .val (.long q2_), .second, .val (.ref b1), .unset, .unset, .unset, .unset, .unset, .unset, .unset, .unset, .unset] [(.long q1_)])) _
          refine XS.lload X8.here hx rfl (hb hby at_14) rfl ?_
          show Steps p.tables e below (T8.setTop (mkF m 16 #[.val (.long q0_), .second, .val (.long q1_), .second, .val (.long q2_), .second, .val (.ref b1), .unset, .unset, .unset, .unset, .unset, .unset, .unset, .unset, .unset] [(.long q2_), (.long q1_)])) _
          refine st11 _ ?_
          show Steps p.tables e below (T11.setTop (mkF m 19 #[.val (.long q0_), .second, .val (.long q1_), .second, .val (.long q2_), .second, .val (.ref b1), .unset, .unset, .unset, .unset, .unset, .unset, .unset, .unset, .unset] [(.long q1_)])) _
          refine XS.lstore X11.here hx rfl (hb hby at_19) rfl (l' := #[.val (.long q0_), .second, .val (.long q1_), .second, .val (.long q2_), .second, .val (.ref b1), .val (.long q1_), .second, .unset, .unset, .unset, .unset, .unset, .unset, .unset]) rfl ?_
          show Steps p.tables e below (T11.setTop (mkF m 21 #[.val (.long q0_), .second, .val (.long q1_), .second, .val (.long q2_), .second, .val (.ref b1), .val (.long q1_), .second, .unset, .unset, .unset, .unset, .unset, .unset, .unset] [])) _
          refine XS.lloadN X11.here hx rfl (hb hby at_21) rfl ?_
          show Steps p.tables e below (T11.setTop (mkF m 22 #[.val (.long q0_), .second, .val (.long q1_), .second, .val (.long q2_), .second, .val (.ref b1), .val (.long q1_), .second, .unset, .unset, .unset, .unset, .unset, .unset, .unset] [(.long q1_)])) _
          refine XS.lload X11.here hx rfl (hb hby at_22) rfl ?_
          show Steps p.tables e below (T11.setTop (mkF m 24 #[.val (.long q0_), .second, .val (.long q1_), .second, .val (.long q2_), .second, .val (.ref b1), .val (.long q1_), .second, .unset, .unset, .unset, .unset, .unset, .unset, .unset] [(.long q2_), (.long q1_)])) _
          refine st14 _ ?_
          show Steps p.tables e below (T14.setTop (mkF m 27 #[.val (.long q0_), .second, .val (.long q1_), .second, .val (.long q2_), .second, .val (.ref b1), .val (.long q1_), .second, .unset, .unset, .unset, .unset, .unset, .unset, .unset] [(.long q1_)])) _
          refine XS.lstore X14.here hx rfl (hb hby at_27) rfl (l' := #[.val (.long q0_), .second, .val (.long q1_), .second, .val (.long q2_), .second, .val (.ref b1), .val (.long q1_), .second, .val (.long q1_), .second, .unset, .unset, .unset, .unset, .unset]) rfl ?_
          show Steps p.tables e below (T14.setTop (mkF m 29 #[.val (.long q0_), .second, .val (.long q1_), .second, .val (.long q2_), .second, .val (.ref b1), .val (.long q1_), .second, .val (.long q1_), .second, .unset, .unset, .unset, .unset, .unset] [])) _
          refine XS.aload X14.here hx rfl (hb hby at_29) rfl rfl ?_
          show Steps p.tables e below (T14.setTop (mkF m 31 #[.val (.long q0_), .second, .val (.long q1_), .second, .val (.long q2_), .second, .val (.ref b1), .val (.long q1_), .second, .val (.long q1_), .second, .unset, .unset, .unset, .unset, .unset] [(.ref b1)])) _
          refine XS.lloadN X14.here hx rfl (hb hby at_31) rfl ?_
          show Steps p.tables e below (T14.setTop (mkF m 32 #[.val (.long q0_), .second, .val (.long q1_), .second, .val (.long q2_), .second, .val (.ref b1), .val (.long q1_), .second, .val (.long q1_), .second, .unset, .unset, .unset, .unset, .unset] [(.long q0_), (.ref b1)])) _
          refine st16.trans ?_
          show Steps p.tables e below (T16.setTop (mkF m 35 #[.val (.long q0_), .second, .val (.long q1_), .second, .val (.long q2_), .second, .val (.ref b1), .val (.long q1_), .second, .val (.long q1_), .second, .unset, .unset, .unset, .unset, .unset] [(.int (1 : Int32))])) _
          refine XS.istore X16.here hx rfl (hb hby at_35) rfl (l' := #[.val (.long q0_), .second, .val (.long q1_), .second, .val (.long q2_), .second, .val (.ref b1), .val (.long q1_), .second, .val (.long q1_), .second, .val (.int (1 : Int32)), .unset, .unset, .unset, .unset]) rfl ?_
          show Steps p.tables e below (T16.setTop (mkF m 37 #[.val (.long q0_), .second, .val (.long q1_), .second, .val (.long q2_), .second, .val (.ref b1), .val (.long q1_), .second, .val (.long q1_), .second, .val (.int (1 : Int32)), .unset, .unset, .unset, .unset] [])) _
          refine XS.lloadN X16.here hx rfl (hb hby at_37) rfl ?_
          show Steps p.tables e below (T16.setTop (mkF m 38 #[.val (.long q0_), .second, .val (.long q1_), .second, .val (.long q2_), .second, .val (.ref b1), .val (.long q1_), .second, .val (.long q1_), .second, .val (.int (1 : Int32)), .unset, .unset, .unset, .unset] [(.long q0_)])) _
          refine X16.ldc2Long hx hown (mvT hZ (hw _ (List.mem_of_getElem? (i := 29) rfl))) (g := (mkF m 38 #[.val (.long q0_), .second, .val (.long q1_), .second, .val (.long q2_), .second, .val (.ref b1), .val (.long q1_), .second, .val (.long q1_), .second, .val (.int (1 : Int32)), .unset, .unset, .unset, .unset] [(.long q0_)])) rfl (hb hby at_38) _ ?_
          show Steps p.tables e below (T16.setTop (mkF m 41 #[.val (.long q0_), .second, .val (.long q1_), .second, .val (.long q2_), .second, .val (.ref b1), .val (.long q1_), .second, .val (.long q1_), .second, .val (.int (1 : Int32)), .unset, .unset, .unset, .unset] [(.long (-9223372036854775808 : Int64)), (.long q0_)])) _
          refine XS.lcmp X16.here hx rfl (hb hby at_41) rfl ?_
          exact kt
        by_cases hc19 : q0_ = (-9223372036854775808 : Int64)
        · obtain ⟨cq20, kq20, q20a, q20b, q20c⟩ := isOf hZ e16' g8_0
          obtain ⟨_, _, ⟨T20, L20, k20, n20⟩, -, X20, ⟨Lc20, hQ20, l20, y20, z20⟩, st20⟩ := X16.virtualBack hx (y := (⟨"com/example/fawley/fawley/store/StoredValue", "hasExpiredAt", "(J)Z"⟩ : MethodName)) (z := (⟨"com/example/fawley/fawley/store/StoredValue", "hasExpiredAt", "(J)Z"⟩ : MethodName)) hown (mvT hZ (hw _ (List.mem_of_getElem? (i := 24) rfl))) (mvT hZ (hw _ (List.mem_of_getElem? (i := 25) rfl))) (notFace_of_selects (args := #[]) (mvT hZ (hw _ (List.mem_of_getElem? (i := 27) rfl)))) (mvT hZ (hw _ (List.mem_of_getElem? (i := 27) rfl))) (mvT hZ (hw _ (List.mem_of_getElem? (i := 26) rfl))) (by decide) (backOf (W := 0) (rmHas l Z a0 hw [] b1 q1_ q0_ h8 n0 f12 g8_4) hZ (hw _ (List.mem_of_getElem? (i := 28) rfl)) (hw _ (List.mem_of_getElem? (i := 2) rfl)) (by decide) (by decide)) q20a q20c (g := (mkF m 63 #[.val (.long q0_), .second, .val (.long q1_), .second, .val (.long q2_), .second, .val (.ref b1), .val (.long q1_), .second, .val (.long q1_), .second, .val (.int (1 : Int32)), .val (.int (0 : Int32)), .unset, .unset, .unset] [(.long q1_), (.ref b1)])) rfl (by rw [hml]; rfl) (Steps.refl _) (argsL := [(.long q1_)]) (rest := []) (lenOf pd_2 rfl) rfl (by show 2 * 0 + _ ≤ _; exact Nat.le_of_eq rfl) (hb hby at_63) (fun _ _ => ⟨rfl, e16', (by decide : 1 + 0 ≤ _), (by decide : 4 + 0 ≤ _)⟩)
          dsimp only [Pt.U, Pt.locs, Pt.cells, Pt.slots] at X20 l20 y20 z20 st20 hQ20
          subst l20 y20 z20
          obtain ⟨h20, e20⟩ : ∃ z, T20.heap = z := ⟨_, rfl⟩
          rw [e20] at hQ20
          obtain ⟨rr20, rfl, hs20, N20q, hh20⟩ := hQ20
          have N21 := Fr.app N17 N20q
          have e20' : T20.heap = h8 := e20.trans hh20
          rcases hs20 with ⟨rfl, hq20_0_0⟩ | ⟨rfl, hq20_1_0⟩
          · obtain ⟨cq22, kq22, q22a, q22b, q22c⟩ := isOf hZ e20' g8_0
            obtain ⟨_, _, ⟨T22, L22, k22, n22⟩, -, X22, ⟨Lc22, hQ22, l22, y22, z22⟩, st22⟩ := X20.virtualBack hx (y := (⟨"com/example/fawley/fawley/store/StoredValue", "hasExpiredAt", "(J)Z"⟩ : MethodName)) (z := (⟨"com/example/fawley/fawley/store/StoredValue", "hasExpiredAt", "(J)Z"⟩ : MethodName)) hown (mvT hZ (hw _ (List.mem_of_getElem? (i := 24) rfl))) (mvT hZ (hw _ (List.mem_of_getElem? (i := 25) rfl))) (notFace_of_selects (args := #[]) (mvT hZ (hw _ (List.mem_of_getElem? (i := 27) rfl)))) (mvT hZ (hw _ (List.mem_of_getElem? (i := 27) rfl))) (mvT hZ (hw _ (List.mem_of_getElem? (i := 26) rfl))) (by decide) (backOf (W := 0) (rmHas l Z a0 hw [] b1 q1_ q0_ h8 n0 f12 g8_4) hZ (hw _ (List.mem_of_getElem? (i := 28) rfl)) (hw _ (List.mem_of_getElem? (i := 2) rfl)) (by decide) (by decide)) q22a q22c (g := (mkF m 72 #[.val (.long q0_), .second, .val (.long q1_), .second, .val (.long q2_), .second, .val (.ref b1), .val (.long q1_), .second, .val (.long q1_), .second, .val (.int (1 : Int32)), .val (.int (0 : Int32)), .val (.int (1 : Int32)), .unset, .unset] [(.long q1_), (.ref b1)])) rfl (by rw [hml]; rfl) (Steps.refl _) (argsL := [(.long q1_)]) (rest := []) (lenOf pd_2 rfl) rfl (by show 2 * 0 + _ ≤ _; exact Nat.le_of_eq rfl) (hb hby at_72) (fun _ _ => ⟨rfl, e20', (by decide : 1 + 0 ≤ _), (by decide : 4 + 0 ≤ _)⟩)
            dsimp only [Pt.U, Pt.locs, Pt.cells, Pt.slots] at X22 l22 y22 z22 st22 hQ22
            subst l22 y22 z22
            obtain ⟨h22, e22⟩ : ∃ z, T22.heap = z := ⟨_, rfl⟩
            rw [e22] at hQ22
            obtain ⟨rr22, rfl, hs22, N22q, hh22⟩ := hQ22
            have N23 := Fr.app N21 N22q
            have e22' : T22.heap = h8 := e22.trans hh22
            rcases hs22 with ⟨rfl, hq22_0_0⟩ | ⟨rfl, hq22_1_0⟩
            · have pre24 : ∀ t, Steps p.tables e below (T22.setTop (mkF m 114 #[.val (.long q0_), .second, .val (.long q1_), .second, .val (.long q2_), .second, .val (.ref b1), .val (.long q1_), .second, .val (.long q1_), .second, .val (.int (1 : Int32)), .val (.int (0 : Int32)), .val (.int (1 : Int32)), .val (.int (1 : Int32)), .val (.int (1 : Int32))] [(.int (1 : Int32))])) t → Steps p.tables e below (s₁.setTop (entryFrame m #[(.long q0_), (.long q1_), (.long q2_)] maxLocals)) t := by
                intro t kt
                refine pre18 t ?_
                show Steps p.tables e below (T16.setTop (mkF m 42 #[.val (.long q0_), .second, .val (.long q1_), .second, .val (.long q2_), .second, .val (.ref b1), .val (.long q1_), .second, .val (.long q1_), .second, .val (.int (1 : Int32)), .unset, .unset, .unset, .unset] [(.int (lcmpW q0_ (-9223372036854775808 : Int64)))])) _
                refine XS.ifNo X16.here hx rfl (hb hby at_42) rfl ((if0 _ _).trans (teq ((lw_eq _ _).mpr hc19)).2) ?_
                show Steps p.tables e below (T16.setTop (mkF m 45 #[.val (.long q0_), .second, .val (.long q1_), .second, .val (.long q2_), .second, .val (.ref b1), .val (.long q1_), .second, .val (.long q1_), .second, .val (.int (1 : Int32)), .unset, .unset, .unset, .unset] [])) _
                refine XS.iconst X16.here hx rfl (hb hby at_45) ?_
                show Steps p.tables e below (T16.setTop (mkF m 46 #[.val (.long q0_), .second, .val (.long q1_), .second, .val (.long q2_), .second, .val (.ref b1), .val (.long q1_), .second, .val (.long q1_), .second, .val (.int (1 : Int32)), .unset, .unset, .unset, .unset] [(.int (0 : Int32))])) _
                refine XS.goto X16.here hx rfl (pc0 := 46) (pc' := 57) rfl (hb hby at_46) (by decide) (by decide) ?_
                show Steps p.tables e below (T16.setTop (mkF m 57 #[.val (.long q0_), .second, .val (.long q1_), .second, .val (.long q2_), .second, .val (.ref b1), .val (.long q1_), .second, .val (.long q1_), .second, .val (.int (1 : Int32)), .unset, .unset, .unset, .unset] [(.int (0 : Int32))])) _
                refine XS.istore X16.here hx rfl (hb hby at_57) rfl (l' := #[.val (.long q0_), .second, .val (.long q1_), .second, .val (.long q2_), .second, .val (.ref b1), .val (.long q1_), .second, .val (.long q1_), .second, .val (.int (1 : Int32)), .val (.int (0 : Int32)), .unset, .unset, .unset]) rfl ?_
                show Steps p.tables e below (T16.setTop (mkF m 59 #[.val (.long q0_), .second, .val (.long q1_), .second, .val (.long q2_), .second, .val (.ref b1), .val (.long q1_), .second, .val (.long q1_), .second, .val (.int (1 : Int32)), .val (.int (0 : Int32)), .unset, .unset, .unset] [])) _
                refine XS.aload X16.here hx rfl (hb hby at_59) rfl rfl ?_
                show Steps p.tables e below (T16.setTop (mkF m 61 #[.val (.long q0_), .second, .val (.long q1_), .second, .val (.long q2_), .second, .val (.ref b1), .val (.long q1_), .second, .val (.long q1_), .second, .val (.int (1 : Int32)), .val (.int (0 : Int32)), .unset, .unset, .unset] [(.ref b1)])) _
                refine XS.lload X16.here hx rfl (hb hby at_61) rfl ?_
                show Steps p.tables e below (T16.setTop (mkF m 63 #[.val (.long q0_), .second, .val (.long q1_), .second, .val (.long q2_), .second, .val (.ref b1), .val (.long q1_), .second, .val (.long q1_), .second, .val (.int (1 : Int32)), .val (.int (0 : Int32)), .unset, .unset, .unset] [(.long q1_), (.ref b1)])) _
                refine st20.trans ?_
                show Steps p.tables e below (T20.setTop (mkF m 66 #[.val (.long q0_), .second, .val (.long q1_), .second, .val (.long q2_), .second, .val (.ref b1), .val (.long q1_), .second, .val (.long q1_), .second, .val (.int (1 : Int32)), .val (.int (0 : Int32)), .unset, .unset, .unset] [(.int (1 : Int32))])) _
                refine XS.istore X20.here hx rfl (hb hby at_66) rfl (l' := #[.val (.long q0_), .second, .val (.long q1_), .second, .val (.long q2_), .second, .val (.ref b1), .val (.long q1_), .second, .val (.long q1_), .second, .val (.int (1 : Int32)), .val (.int (0 : Int32)), .val (.int (1 : Int32)), .unset, .unset]) rfl ?_
                show Steps p.tables e below (T20.setTop (mkF m 68 #[.val (.long q0_), .second, .val (.long q1_), .second, .val (.long q2_), .second, .val (.ref b1), .val (.long q1_), .second, .val (.long q1_), .second, .val (.int (1 : Int32)), .val (.int (0 : Int32)), .val (.int (1 : Int32)), .unset, .unset] [])) _
                refine XS.aload X20.here hx rfl (hb hby at_68) rfl rfl ?_
                show Steps p.tables e below (T20.setTop (mkF m 70 #[.val (.long q0_), .second, .val (.long q1_), .second, .val (.long q2_), .second, .val (.ref b1), .val (.long q1_), .second, .val (.long q1_), .second, .val (.int (1 : Int32)), .val (.int (0 : Int32)), .val (.int (1 : Int32)), .unset, .unset] [(.ref b1)])) _
                refine XS.lload X20.here hx rfl (hb hby at_70) rfl ?_
                show Steps p.tables e below (T20.setTop (mkF m 72 #[.val (.long q0_), .second, .val (.long q1_), .second, .val (.long q2_), .second, .val (.ref b1), .val (.long q1_), .second, .val (.long q1_), .second, .val (.int (1 : Int32)), .val (.int (0 : Int32)), .val (.int (1 : Int32)), .unset, .unset] [(.long q1_), (.ref b1)])) _
                refine st22.trans ?_
                show Steps p.tables e below (T22.setTop (mkF m 75 #[.val (.long q0_), .second, .val (.long q1_), .second, .val (.long q2_), .second, .val (.ref b1), .val (.long q1_), .second, .val (.long q1_), .second, .val (.int (1 : Int32)), .val (.int (0 : Int32)), .val (.int (1 : Int32)), .unset, .unset] [(.int (1 : Int32))])) _
                refine XS.istore X22.here hx rfl (hb hby at_75) rfl (l' := #[.val (.long q0_), .second, .val (.long q1_), .second, .val (.long q2_), .second, .val (.ref b1), .val (.long q1_), .second, .val (.long q1_), .second, .val (.int (1 : Int32)), .val (.int (0 : Int32)), .val (.int (1 : Int32)), .val (.int (1 : Int32)), .unset]) rfl ?_
                show Steps p.tables e below (T22.setTop (mkF m 77 #[.val (.long q0_), .second, .val (.long q1_), .second, .val (.long q2_), .second, .val (.ref b1), .val (.long q1_), .second, .val (.long q1_), .second, .val (.int (1 : Int32)), .val (.int (0 : Int32)), .val (.int (1 : Int32)), .val (.int (1 : Int32)), .unset] [])) _
                refine XS.iload X22.here hx rfl (hb hby at_77) rfl ?_
                show Steps p.tables e below (T22.setTop (mkF m 79 #[.val (.long q0_), .second, .val (.long q1_), .second, .val (.long q2_), .second, .val (.ref b1), .val (.long q1_), .second, .val (.long q1_), .second, .val (.int (1 : Int32)), .val (.int (0 : Int32)), .val (.int (1 : Int32)), .val (.int (1 : Int32)), .unset] [(.int (1 : Int32))])) _
                refine XS.ifNo X22.here hx rfl (hb hby at_79) rfl ((if0 _ _).trans (feq (by decide : ¬ ((1 : Int32) = (0 : Int32)))).1) ?_
                show Steps p.tables e below (T22.setTop (mkF m 82 #[.val (.long q0_), .second, .val (.long q1_), .second, .val (.long q2_), .second, .val (.ref b1), .val (.long q1_), .second, .val (.long q1_), .second, .val (.int (1 : Int32)), .val (.int (0 : Int32)), .val (.int (1 : Int32)), .val (.int (1 : Int32)), .unset] [])) _
                refine XS.iload X22.here hx rfl (hb hby at_82) rfl ?_
                show Steps p.tables e below (T22.setTop (mkF m 84 #[.val (.long q0_), .second, .val (.long q1_), .second, .val (.long q2_), .second, .val (.ref b1), .val (.long q1_), .second, .val (.long q1_), .second, .val (.int (1 : Int32)), .val (.int (0 : Int32)), .val (.int (1 : Int32)), .val (.int (1 : Int32)), .unset] [(.int (1 : Int32))])) _
                refine XS.ifNo X22.here hx rfl (hb hby at_84) rfl ((if0 _ _).trans (feq (by decide : ¬ ((1 : Int32) = (0 : Int32)))).1) ?_
                show Steps p.tables e below (T22.setTop (mkF m 87 #[.val (.long q0_), .second, .val (.long q1_), .second, .val (.long q2_), .second, .val (.ref b1), .val (.long q1_), .second, .val (.long q1_), .second, .val (.int (1 : Int32)), .val (.int (0 : Int32)), .val (.int (1 : Int32)), .val (.int (1 : Int32)), .unset] [])) _
                refine XS.iconst X22.here hx rfl (hb hby at_87) ?_
                show Steps p.tables e below (T22.setTop (mkF m 88 #[.val (.long q0_), .second, .val (.long q1_), .second, .val (.long q2_), .second, .val (.ref b1), .val (.long q1_), .second, .val (.long q1_), .second, .val (.int (1 : Int32)), .val (.int (0 : Int32)), .val (.int (1 : Int32)), .val (.int (1 : Int32)), .unset] [(.int (1 : Int32))])) _
                refine XS.goto X22.here hx rfl (pc0 := 88) (pc' := 92) rfl (hb hby at_88) (by decide) (by decide) ?_
                show Steps p.tables e below (T22.setTop (mkF m 92 #[.val (.long q0_), .second, .val (.long q1_), .second, .val (.long q2_), .second, .val (.ref b1), .val (.long q1_), .second, .val (.long q1_), .second, .val (.int (1 : Int32)), .val (.int (0 : Int32)), .val (.int (1 : Int32)), .val (.int (1 : Int32)), .unset] [(.int (1 : Int32))])) _
                refine XS.istore X22.here hx rfl (hb hby at_92) rfl (l' := #[.val (.long q0_), .second, .val (.long q1_), .second, .val (.long q2_), .second, .val (.ref b1), .val (.long q1_), .second, .val (.long q1_), .second, .val (.int (1 : Int32)), .val (.int (0 : Int32)), .val (.int (1 : Int32)), .val (.int (1 : Int32)), .val (.int (1 : Int32))]) rfl ?_
                show Steps p.tables e below (T22.setTop (mkF m 94 #[.val (.long q0_), .second, .val (.long q1_), .second, .val (.long q2_), .second, .val (.ref b1), .val (.long q1_), .second, .val (.long q1_), .second, .val (.int (1 : Int32)), .val (.int (0 : Int32)), .val (.int (1 : Int32)), .val (.int (1 : Int32)), .val (.int (1 : Int32))] [])) _
                refine XS.iload X22.here hx rfl (hb hby at_94) rfl ?_
                show Steps p.tables e below (T22.setTop (mkF m 96 #[.val (.long q0_), .second, .val (.long q1_), .second, .val (.long q2_), .second, .val (.ref b1), .val (.long q1_), .second, .val (.long q1_), .second, .val (.int (1 : Int32)), .val (.int (0 : Int32)), .val (.int (1 : Int32)), .val (.int (1 : Int32)), .val (.int (1 : Int32))] [(.int (1 : Int32))])) _
                refine XS.ifNo X22.here hx rfl (hb hby at_96) rfl ((if0 _ _).trans (feq (by decide : ¬ ((1 : Int32) = (0 : Int32)))).1) ?_
                show Steps p.tables e below (T22.setTop (mkF m 99 #[.val (.long q0_), .second, .val (.long q1_), .second, .val (.long q2_), .second, .val (.ref b1), .val (.long q1_), .second, .val (.long q1_), .second, .val (.int (1 : Int32)), .val (.int (0 : Int32)), .val (.int (1 : Int32)), .val (.int (1 : Int32)), .val (.int (1 : Int32))] [])) _
                refine XS.iload X22.here hx rfl (hb hby at_99) rfl ?_
                show Steps p.tables e below (T22.setTop (mkF m 101 #[.val (.long q0_), .second, .val (.long q1_), .second, .val (.long q2_), .second, .val (.ref b1), .val (.long q1_), .second, .val (.long q1_), .second, .val (.int (1 : Int32)), .val (.int (0 : Int32)), .val (.int (1 : Int32)), .val (.int (1 : Int32)), .val (.int (1 : Int32))] [(.int (0 : Int32))])) _
                refine XS.ifNo X22.here hx rfl (hb hby at_101) rfl ((if0 _ _).trans (teq (by decide : (0 : Int32) = (0 : Int32))).2) ?_
                show Steps p.tables e below (T22.setTop (mkF m 104 #[.val (.long q0_), .second, .val (.long q1_), .second, .val (.long q2_), .second, .val (.ref b1), .val (.long q1_), .second, .val (.long q1_), .second, .val (.int (1 : Int32)), .val (.int (0 : Int32)), .val (.int (1 : Int32)), .val (.int (1 : Int32)), .val (.int (1 : Int32))] [])) _
                refine XS.iload X22.here hx rfl (hb hby at_104) rfl ?_
                show Steps p.tables e below (T22.setTop (mkF m 106 #[.val (.long q0_), .second, .val (.long q1_), .second, .val (.long q2_), .second, .val (.ref b1), .val (.long q1_), .second, .val (.long q1_), .second, .val (.int (1 : Int32)), .val (.int (0 : Int32)), .val (.int (1 : Int32)), .val (.int (1 : Int32)), .val (.int (1 : Int32))] [(.int (1 : Int32))])) _
                refine XS.ifNo X22.here hx rfl (hb hby at_106) rfl ((if0 _ _).trans (feq (by decide : ¬ ((1 : Int32) = (0 : Int32)))).1) ?_
                show Steps p.tables e below (T22.setTop (mkF m 109 #[.val (.long q0_), .second, .val (.long q1_), .second, .val (.long q2_), .second, .val (.ref b1), .val (.long q1_), .second, .val (.long q1_), .second, .val (.int (1 : Int32)), .val (.int (0 : Int32)), .val (.int (1 : Int32)), .val (.int (1 : Int32)), .val (.int (1 : Int32))] [])) _
                refine XS.iconst X22.here hx rfl (hb hby at_109) ?_
                show Steps p.tables e below (T22.setTop (mkF m 110 #[.val (.long q0_), .second, .val (.long q1_), .second, .val (.long q2_), .second, .val (.ref b1), .val (.long q1_), .second, .val (.long q1_), .second, .val (.int (1 : Int32)), .val (.int (0 : Int32)), .val (.int (1 : Int32)), .val (.int (1 : Int32)), .val (.int (1 : Int32))] [(.int (1 : Int32))])) _
                refine XS.goto X22.here hx rfl (pc0 := 110) (pc' := 114) rfl (hb hby at_110) (by decide) (by decide) ?_
                exact kt
              obtain ⟨fs, hr, hrun, hended, hW, hsame⟩ := X22.leave (v := some (.int (1 : Int32))) (fun h => by rw [Bd.returns] at h; cases h)
              refine ⟨_, _, pre24 _ (retN X22 hx (t := .boolean) Bd.returns (by simp) (hb hby at_114) hr), hrun, hended, _, _, rfl, ?_, ⟨_, rfl⟩, hW, hsame.mono (by decide) (by decide)⟩
              show QLaw Z q0_ q1_ q2_ h0 n0 _ T22.heap _
              rw [e22']
              exact ⟨rfl, N23⟩
            · exact absurd hq22_1_0 hq20_0_0
          · obtain ⟨cq26, kq26, q26a, q26b, q26c⟩ := isOf hZ e20' g8_0
            obtain ⟨_, _, ⟨T26, L26, k26, n26⟩, -, X26, ⟨Lc26, hQ26, l26, y26, z26⟩, st26⟩ := X20.virtualBack hx (y := (⟨"com/example/fawley/fawley/store/StoredValue", "hasExpiredAt", "(J)Z"⟩ : MethodName)) (z := (⟨"com/example/fawley/fawley/store/StoredValue", "hasExpiredAt", "(J)Z"⟩ : MethodName)) hown (mvT hZ (hw _ (List.mem_of_getElem? (i := 24) rfl))) (mvT hZ (hw _ (List.mem_of_getElem? (i := 25) rfl))) (notFace_of_selects (args := #[]) (mvT hZ (hw _ (List.mem_of_getElem? (i := 27) rfl)))) (mvT hZ (hw _ (List.mem_of_getElem? (i := 27) rfl))) (mvT hZ (hw _ (List.mem_of_getElem? (i := 26) rfl))) (by decide) (backOf (W := 0) (rmHas l Z a0 hw [] b1 q1_ q0_ h8 n0 f12 g8_4) hZ (hw _ (List.mem_of_getElem? (i := 28) rfl)) (hw _ (List.mem_of_getElem? (i := 2) rfl)) (by decide) (by decide)) q26a q26c (g := (mkF m 72 #[.val (.long q0_), .second, .val (.long q1_), .second, .val (.long q2_), .second, .val (.ref b1), .val (.long q1_), .second, .val (.long q1_), .second, .val (.int (1 : Int32)), .val (.int (0 : Int32)), .val (.int (0 : Int32)), .unset, .unset] [(.long q1_), (.ref b1)])) rfl (by rw [hml]; rfl) (Steps.refl _) (argsL := [(.long q1_)]) (rest := []) (lenOf pd_2 rfl) rfl (by show 2 * 0 + _ ≤ _; exact Nat.le_of_eq rfl) (hb hby at_72) (fun _ _ => ⟨rfl, e20', (by decide : 1 + 0 ≤ _), (by decide : 4 + 0 ≤ _)⟩)
            dsimp only [Pt.U, Pt.locs, Pt.cells, Pt.slots] at X26 l26 y26 z26 st26 hQ26
            subst l26 y26 z26
            obtain ⟨h26, e26⟩ : ∃ z, T26.heap = z := ⟨_, rfl⟩
            rw [e26] at hQ26
            obtain ⟨rr26, rfl, hs26, N26q, hh26⟩ := hQ26
            have N27 := Fr.app N21 N26q
            have e26' : T26.heap = h8 := e26.trans hh26
            rcases hs26 with ⟨rfl, hq26_0_0⟩ | ⟨rfl, hq26_1_0⟩
            · exact absurd hq20_1_0 hq26_0_0
            · have pre28 : ∀ t, Steps p.tables e below (T26.setTop (mkF m 114 #[.val (.long q0_), .second, .val (.long q1_), .second, .val (.long q2_), .second, .val (.ref b1), .val (.long q1_), .second, .val (.long q1_), .second, .val (.int (1 : Int32)), .val (.int (0 : Int32)), .val (.int (0 : Int32)), .val (.int (0 : Int32)), .val (.int (1 : Int32))] [(.int (1 : Int32))])) t → Steps p.tables e below (s₁.setTop (entryFrame m #[(.long q0_), (.long q1_), (.long q2_)] maxLocals)) t := by
                intro t kt
                refine pre18 t ?_
                show Steps p.tables e below (T16.setTop (mkF m 42 #[.val (.long q0_), .second, .val (.long q1_), .second, .val (.long q2_), .second, .val (.ref b1), .val (.long q1_), .second, .val (.long q1_), .second, .val (.int (1 : Int32)), .unset, .unset, .unset, .unset] [(.int (lcmpW q0_ (-9223372036854775808 : Int64)))])) _
                refine XS.ifNo X16.here hx rfl (hb hby at_42) rfl ((if0 _ _).trans (teq ((lw_eq _ _).mpr hc19)).2) ?_
                show Steps p.tables e below (T16.setTop (mkF m 45 #[.val (.long q0_), .second, .val (.long q1_), .second, .val (.long q2_), .second, .val (.ref b1), .val (.long q1_), .second, .val (.long q1_), .second, .val (.int (1 : Int32)), .unset, .unset, .unset, .unset] [])) _
                refine XS.iconst X16.here hx rfl (hb hby at_45) ?_
                show Steps p.tables e below (T16.setTop (mkF m 46 #[.val (.long q0_), .second, .val (.long q1_), .second, .val (.long q2_), .second, .val (.ref b1), .val (.long q1_), .second, .val (.long q1_), .second, .val (.int (1 : Int32)), .unset, .unset, .unset, .unset] [(.int (0 : Int32))])) _
                refine XS.goto X16.here hx rfl (pc0 := 46) (pc' := 57) rfl (hb hby at_46) (by decide) (by decide) ?_
                show Steps p.tables e below (T16.setTop (mkF m 57 #[.val (.long q0_), .second, .val (.long q1_), .second, .val (.long q2_), .second, .val (.ref b1), .val (.long q1_), .second, .val (.long q1_), .second, .val (.int (1 : Int32)), .unset, .unset, .unset, .unset] [(.int (0 : Int32))])) _
                refine XS.istore X16.here hx rfl (hb hby at_57) rfl (l' := #[.val (.long q0_), .second, .val (.long q1_), .second, .val (.long q2_), .second, .val (.ref b1), .val (.long q1_), .second, .val (.long q1_), .second, .val (.int (1 : Int32)), .val (.int (0 : Int32)), .unset, .unset, .unset]) rfl ?_
                show Steps p.tables e below (T16.setTop (mkF m 59 #[.val (.long q0_), .second, .val (.long q1_), .second, .val (.long q2_), .second, .val (.ref b1), .val (.long q1_), .second, .val (.long q1_), .second, .val (.int (1 : Int32)), .val (.int (0 : Int32)), .unset, .unset, .unset] [])) _
                refine XS.aload X16.here hx rfl (hb hby at_59) rfl rfl ?_
                show Steps p.tables e below (T16.setTop (mkF m 61 #[.val (.long q0_), .second, .val (.long q1_), .second, .val (.long q2_), .second, .val (.ref b1), .val (.long q1_), .second, .val (.long q1_), .second, .val (.int (1 : Int32)), .val (.int (0 : Int32)), .unset, .unset, .unset] [(.ref b1)])) _
                refine XS.lload X16.here hx rfl (hb hby at_61) rfl ?_
                show Steps p.tables e below (T16.setTop (mkF m 63 #[.val (.long q0_), .second, .val (.long q1_), .second, .val (.long q2_), .second, .val (.ref b1), .val (.long q1_), .second, .val (.long q1_), .second, .val (.int (1 : Int32)), .val (.int (0 : Int32)), .unset, .unset, .unset] [(.long q1_), (.ref b1)])) _
                refine st20.trans ?_
                show Steps p.tables e below (T20.setTop (mkF m 66 #[.val (.long q0_), .second, .val (.long q1_), .second, .val (.long q2_), .second, .val (.ref b1), .val (.long q1_), .second, .val (.long q1_), .second, .val (.int (1 : Int32)), .val (.int (0 : Int32)), .unset, .unset, .unset] [(.int (0 : Int32))])) _
                refine XS.istore X20.here hx rfl (hb hby at_66) rfl (l' := #[.val (.long q0_), .second, .val (.long q1_), .second, .val (.long q2_), .second, .val (.ref b1), .val (.long q1_), .second, .val (.long q1_), .second, .val (.int (1 : Int32)), .val (.int (0 : Int32)), .val (.int (0 : Int32)), .unset, .unset]) rfl ?_
                show Steps p.tables e below (T20.setTop (mkF m 68 #[.val (.long q0_), .second, .val (.long q1_), .second, .val (.long q2_), .second, .val (.ref b1), .val (.long q1_), .second, .val (.long q1_), .second, .val (.int (1 : Int32)), .val (.int (0 : Int32)), .val (.int (0 : Int32)), .unset, .unset] [])) _
                refine XS.aload X20.here hx rfl (hb hby at_68) rfl rfl ?_
                show Steps p.tables e below (T20.setTop (mkF m 70 #[.val (.long q0_), .second, .val (.long q1_), .second, .val (.long q2_), .second, .val (.ref b1), .val (.long q1_), .second, .val (.long q1_), .second, .val (.int (1 : Int32)), .val (.int (0 : Int32)), .val (.int (0 : Int32)), .unset, .unset] [(.ref b1)])) _
                refine XS.lload X20.here hx rfl (hb hby at_70) rfl ?_
                show Steps p.tables e below (T20.setTop (mkF m 72 #[.val (.long q0_), .second, .val (.long q1_), .second, .val (.long q2_), .second, .val (.ref b1), .val (.long q1_), .second, .val (.long q1_), .second, .val (.int (1 : Int32)), .val (.int (0 : Int32)), .val (.int (0 : Int32)), .unset, .unset] [(.long q1_), (.ref b1)])) _
                refine st26.trans ?_
                show Steps p.tables e below (T26.setTop (mkF m 75 #[.val (.long q0_), .second, .val (.long q1_), .second, .val (.long q2_), .second, .val (.ref b1), .val (.long q1_), .second, .val (.long q1_), .second, .val (.int (1 : Int32)), .val (.int (0 : Int32)), .val (.int (0 : Int32)), .unset, .unset] [(.int (0 : Int32))])) _
                refine XS.istore X26.here hx rfl (hb hby at_75) rfl (l' := #[.val (.long q0_), .second, .val (.long q1_), .second, .val (.long q2_), .second, .val (.ref b1), .val (.long q1_), .second, .val (.long q1_), .second, .val (.int (1 : Int32)), .val (.int (0 : Int32)), .val (.int (0 : Int32)), .val (.int (0 : Int32)), .unset]) rfl ?_
                show Steps p.tables e below (T26.setTop (mkF m 77 #[.val (.long q0_), .second, .val (.long q1_), .second, .val (.long q2_), .second, .val (.ref b1), .val (.long q1_), .second, .val (.long q1_), .second, .val (.int (1 : Int32)), .val (.int (0 : Int32)), .val (.int (0 : Int32)), .val (.int (0 : Int32)), .unset] [])) _
                refine XS.iload X26.here hx rfl (hb hby at_77) rfl ?_
                show Steps p.tables e below (T26.setTop (mkF m 79 #[.val (.long q0_), .second, .val (.long q1_), .second, .val (.long q2_), .second, .val (.ref b1), .val (.long q1_), .second, .val (.long q1_), .second, .val (.int (1 : Int32)), .val (.int (0 : Int32)), .val (.int (0 : Int32)), .val (.int (0 : Int32)), .unset] [(.int (0 : Int32))])) _
                refine XS.ifYes X26.here hx rfl (pc0 := 79) (pc' := 87) rfl (hb hby at_79) rfl ((if0 _ _).trans (teq (by decide : (0 : Int32) = (0 : Int32))).1) (by decide) (by decide) ?_
                show Steps p.tables e below (T26.setTop (mkF m 87 #[.val (.long q0_), .second, .val (.long q1_), .second, .val (.long q2_), .second, .val (.ref b1), .val (.long q1_), .second, .val (.long q1_), .second, .val (.int (1 : Int32)), .val (.int (0 : Int32)), .val (.int (0 : Int32)), .val (.int (0 : Int32)), .unset] [])) _
                refine XS.iconst X26.here hx rfl (hb hby at_87) ?_
                show Steps p.tables e below (T26.setTop (mkF m 88 #[.val (.long q0_), .second, .val (.long q1_), .second, .val (.long q2_), .second, .val (.ref b1), .val (.long q1_), .second, .val (.long q1_), .second, .val (.int (1 : Int32)), .val (.int (0 : Int32)), .val (.int (0 : Int32)), .val (.int (0 : Int32)), .unset] [(.int (1 : Int32))])) _
                refine XS.goto X26.here hx rfl (pc0 := 88) (pc' := 92) rfl (hb hby at_88) (by decide) (by decide) ?_
                show Steps p.tables e below (T26.setTop (mkF m 92 #[.val (.long q0_), .second, .val (.long q1_), .second, .val (.long q2_), .second, .val (.ref b1), .val (.long q1_), .second, .val (.long q1_), .second, .val (.int (1 : Int32)), .val (.int (0 : Int32)), .val (.int (0 : Int32)), .val (.int (0 : Int32)), .unset] [(.int (1 : Int32))])) _
                refine XS.istore X26.here hx rfl (hb hby at_92) rfl (l' := #[.val (.long q0_), .second, .val (.long q1_), .second, .val (.long q2_), .second, .val (.ref b1), .val (.long q1_), .second, .val (.long q1_), .second, .val (.int (1 : Int32)), .val (.int (0 : Int32)), .val (.int (0 : Int32)), .val (.int (0 : Int32)), .val (.int (1 : Int32))]) rfl ?_
                show Steps p.tables e below (T26.setTop (mkF m 94 #[.val (.long q0_), .second, .val (.long q1_), .second, .val (.long q2_), .second, .val (.ref b1), .val (.long q1_), .second, .val (.long q1_), .second, .val (.int (1 : Int32)), .val (.int (0 : Int32)), .val (.int (0 : Int32)), .val (.int (0 : Int32)), .val (.int (1 : Int32))] [])) _
                refine XS.iload X26.here hx rfl (hb hby at_94) rfl ?_
                show Steps p.tables e below (T26.setTop (mkF m 96 #[.val (.long q0_), .second, .val (.long q1_), .second, .val (.long q2_), .second, .val (.ref b1), .val (.long q1_), .second, .val (.long q1_), .second, .val (.int (1 : Int32)), .val (.int (0 : Int32)), .val (.int (0 : Int32)), .val (.int (0 : Int32)), .val (.int (1 : Int32))] [(.int (1 : Int32))])) _
                refine XS.ifNo X26.here hx rfl (hb hby at_96) rfl ((if0 _ _).trans (feq (by decide : ¬ ((1 : Int32) = (0 : Int32)))).1) ?_
                show Steps p.tables e below (T26.setTop (mkF m 99 #[.val (.long q0_), .second, .val (.long q1_), .second, .val (.long q2_), .second, .val (.ref b1), .val (.long q1_), .second, .val (.long q1_), .second, .val (.int (1 : Int32)), .val (.int (0 : Int32)), .val (.int (0 : Int32)), .val (.int (0 : Int32)), .val (.int (1 : Int32))] [])) _
                refine XS.iload X26.here hx rfl (hb hby at_99) rfl ?_
                show Steps p.tables e below (T26.setTop (mkF m 101 #[.val (.long q0_), .second, .val (.long q1_), .second, .val (.long q2_), .second, .val (.ref b1), .val (.long q1_), .second, .val (.long q1_), .second, .val (.int (1 : Int32)), .val (.int (0 : Int32)), .val (.int (0 : Int32)), .val (.int (0 : Int32)), .val (.int (1 : Int32))] [(.int (0 : Int32))])) _
                refine XS.ifNo X26.here hx rfl (hb hby at_101) rfl ((if0 _ _).trans (teq (by decide : (0 : Int32) = (0 : Int32))).2) ?_
                show Steps p.tables e below (T26.setTop (mkF m 104 #[.val (.long q0_), .second, .val (.long q1_), .second, .val (.long q2_), .second, .val (.ref b1), .val (.long q1_), .second, .val (.long q1_), .second, .val (.int (1 : Int32)), .val (.int (0 : Int32)), .val (.int (0 : Int32)), .val (.int (0 : Int32)), .val (.int (1 : Int32))] [])) _
                refine XS.iload X26.here hx rfl (hb hby at_104) rfl ?_
                show Steps p.tables e below (T26.setTop (mkF m 106 #[.val (.long q0_), .second, .val (.long q1_), .second, .val (.long q2_), .second, .val (.ref b1), .val (.long q1_), .second, .val (.long q1_), .second, .val (.int (1 : Int32)), .val (.int (0 : Int32)), .val (.int (0 : Int32)), .val (.int (0 : Int32)), .val (.int (1 : Int32))] [(.int (1 : Int32))])) _
                refine XS.ifNo X26.here hx rfl (hb hby at_106) rfl ((if0 _ _).trans (feq (by decide : ¬ ((1 : Int32) = (0 : Int32)))).1) ?_
                show Steps p.tables e below (T26.setTop (mkF m 109 #[.val (.long q0_), .second, .val (.long q1_), .second, .val (.long q2_), .second, .val (.ref b1), .val (.long q1_), .second, .val (.long q1_), .second, .val (.int (1 : Int32)), .val (.int (0 : Int32)), .val (.int (0 : Int32)), .val (.int (0 : Int32)), .val (.int (1 : Int32))] [])) _
                refine XS.iconst X26.here hx rfl (hb hby at_109) ?_
                show Steps p.tables e below (T26.setTop (mkF m 110 #[.val (.long q0_), .second, .val (.long q1_), .second, .val (.long q2_), .second, .val (.ref b1), .val (.long q1_), .second, .val (.long q1_), .second, .val (.int (1 : Int32)), .val (.int (0 : Int32)), .val (.int (0 : Int32)), .val (.int (0 : Int32)), .val (.int (1 : Int32))] [(.int (1 : Int32))])) _
                refine XS.goto X26.here hx rfl (pc0 := 110) (pc' := 114) rfl (hb hby at_110) (by decide) (by decide) ?_
                exact kt
              obtain ⟨fs, hr, hrun, hended, hW, hsame⟩ := X26.leave (v := some (.int (1 : Int32))) (fun h => by rw [Bd.returns] at h; cases h)
              refine ⟨_, _, pre28 _ (retN X26 hx (t := .boolean) Bd.returns (by simp) (hb hby at_114) hr), hrun, hended, _, _, rfl, ?_, ⟨_, rfl⟩, hW, hsame.mono (by decide) (by decide)⟩
              show QLaw Z q0_ q1_ q2_ h0 n0 _ T26.heap _
              rw [e26']
              exact ⟨rfl, N27⟩
        · obtain ⟨cq30, kq30, q30a, q30b, q30c⟩ := isOf hZ e16' g8_0
          obtain ⟨_, _, ⟨T30, L30, k30, n30⟩, -, X30, ⟨Lc30, hQ30, l30, y30, z30⟩, st30⟩ := X16.virtualBack hx (y := (⟨"com/example/fawley/fawley/store/StoredValue", "hasExpiredAt", "(J)Z"⟩ : MethodName)) (z := (⟨"com/example/fawley/fawley/store/StoredValue", "hasExpiredAt", "(J)Z"⟩ : MethodName)) hown (mvT hZ (hw _ (List.mem_of_getElem? (i := 24) rfl))) (mvT hZ (hw _ (List.mem_of_getElem? (i := 25) rfl))) (notFace_of_selects (args := #[]) (mvT hZ (hw _ (List.mem_of_getElem? (i := 27) rfl)))) (mvT hZ (hw _ (List.mem_of_getElem? (i := 27) rfl))) (mvT hZ (hw _ (List.mem_of_getElem? (i := 26) rfl))) (by decide) (backOf (W := 0) (rmHas l Z a0 hw [] b1 (q0_ - (1 : Int64)) q0_ h8 n0 f12 g8_4) hZ (hw _ (List.mem_of_getElem? (i := 28) rfl)) (hw _ (List.mem_of_getElem? (i := 2) rfl)) (by decide) (by decide)) q30a q30c (g := (mkF m 54 #[.val (.long q0_), .second, .val (.long q1_), .second, .val (.long q2_), .second, .val (.ref b1), .val (.long q1_), .second, .val (.long q1_), .second, .val (.int (1 : Int32)), .unset, .unset, .unset, .unset] [(.long (q0_ - (1 : Int64))), (.ref b1)])) rfl (by rw [hml]; rfl) (Steps.refl _) (argsL := [(.long (q0_ - (1 : Int64)))]) (rest := []) (lenOf pd_2 rfl) rfl (by show 2 * 0 + _ ≤ _; exact Nat.le_of_eq rfl) (hb hby at_54) (fun _ _ => ⟨rfl, e16', (by decide : 1 + 0 ≤ _), (by decide : 4 + 0 ≤ _)⟩)
          dsimp only [Pt.U, Pt.locs, Pt.cells, Pt.slots] at X30 l30 y30 z30 st30 hQ30
          subst l30 y30 z30
          obtain ⟨h30, e30⟩ : ∃ z, T30.heap = z := ⟨_, rfl⟩
          rw [e30] at hQ30
          obtain ⟨rr30, rfl, hs30, N30q, hh30⟩ := hQ30
          have N31 := Fr.app N17 N30q
          have e30' : T30.heap = h8 := e30.trans hh30
          rcases hs30 with ⟨rfl, hq30_0_0⟩ | ⟨rfl, hq30_1_0⟩
          · exact absurd (own_pred hc19) hq30_0_0
          · obtain ⟨cq32, kq32, q32a, q32b, q32c⟩ := isOf hZ e30' g8_0
            obtain ⟨_, _, ⟨T32, L32, k32, n32⟩, -, X32, ⟨Lc32, hQ32, l32, y32, z32⟩, st32⟩ := X30.virtualBack hx (y := (⟨"com/example/fawley/fawley/store/StoredValue", "hasExpiredAt", "(J)Z"⟩ : MethodName)) (z := (⟨"com/example/fawley/fawley/store/StoredValue", "hasExpiredAt", "(J)Z"⟩ : MethodName)) hown (mvT hZ (hw _ (List.mem_of_getElem? (i := 24) rfl))) (mvT hZ (hw _ (List.mem_of_getElem? (i := 25) rfl))) (notFace_of_selects (args := #[]) (mvT hZ (hw _ (List.mem_of_getElem? (i := 27) rfl)))) (mvT hZ (hw _ (List.mem_of_getElem? (i := 27) rfl))) (mvT hZ (hw _ (List.mem_of_getElem? (i := 26) rfl))) (by decide) (backOf (W := 0) (rmHas l Z a0 hw [] b1 q1_ q0_ h8 n0 f12 g8_4) hZ (hw _ (List.mem_of_getElem? (i := 28) rfl)) (hw _ (List.mem_of_getElem? (i := 2) rfl)) (by decide) (by decide)) q32a q32c (g := (mkF m 63 #[.val (.long q0_), .second, .val (.long q1_), .second, .val (.long q2_), .second, .val (.ref b1), .val (.long q1_), .second, .val (.long q1_), .second, .val (.int (1 : Int32)), .val (.int (0 : Int32)), .unset, .unset, .unset] [(.long q1_), (.ref b1)])) rfl (by rw [hml]; rfl) (Steps.refl _) (argsL := [(.long q1_)]) (rest := []) (lenOf pd_2 rfl) rfl (by show 2 * 0 + _ ≤ _; exact Nat.le_of_eq rfl) (hb hby at_63) (fun _ _ => ⟨rfl, e30', (by decide : 1 + 0 ≤ _), (by decide : 4 + 0 ≤ _)⟩)
            dsimp only [Pt.U, Pt.locs, Pt.cells, Pt.slots] at X32 l32 y32 z32 st32 hQ32
            subst l32 y32 z32
            obtain ⟨h32, e32⟩ : ∃ z, T32.heap = z := ⟨_, rfl⟩
            rw [e32] at hQ32
            obtain ⟨rr32, rfl, hs32, N32q, hh32⟩ := hQ32
            have N33 := Fr.app N31 N32q
            have e32' : T32.heap = h8 := e32.trans hh32
            rcases hs32 with ⟨rfl, hq32_0_0⟩ | ⟨rfl, hq32_1_0⟩
            · obtain ⟨cq34, kq34, q34a, q34b, q34c⟩ := isOf hZ e32' g8_0
              obtain ⟨_, _, ⟨T34, L34, k34, n34⟩, -, X34, ⟨Lc34, hQ34, l34, y34, z34⟩, st34⟩ := X32.virtualBack hx (y := (⟨"com/example/fawley/fawley/store/StoredValue", "hasExpiredAt", "(J)Z"⟩ : MethodName)) (z := (⟨"com/example/fawley/fawley/store/StoredValue", "hasExpiredAt", "(J)Z"⟩ : MethodName)) hown (mvT hZ (hw _ (List.mem_of_getElem? (i := 24) rfl))) (mvT hZ (hw _ (List.mem_of_getElem? (i := 25) rfl))) (notFace_of_selects (args := #[]) (mvT hZ (hw _ (List.mem_of_getElem? (i := 27) rfl)))) (mvT hZ (hw _ (List.mem_of_getElem? (i := 27) rfl))) (mvT hZ (hw _ (List.mem_of_getElem? (i := 26) rfl))) (by decide) (backOf (W := 0) (rmHas l Z a0 hw [] b1 q1_ q0_ h8 n0 f12 g8_4) hZ (hw _ (List.mem_of_getElem? (i := 28) rfl)) (hw _ (List.mem_of_getElem? (i := 2) rfl)) (by decide) (by decide)) q34a q34c (g := (mkF m 72 #[.val (.long q0_), .second, .val (.long q1_), .second, .val (.long q2_), .second, .val (.ref b1), .val (.long q1_), .second, .val (.long q1_), .second, .val (.int (1 : Int32)), .val (.int (0 : Int32)), .val (.int (1 : Int32)), .unset, .unset] [(.long q1_), (.ref b1)])) rfl (by rw [hml]; rfl) (Steps.refl _) (argsL := [(.long q1_)]) (rest := []) (lenOf pd_2 rfl) rfl (by show 2 * 0 + _ ≤ _; exact Nat.le_of_eq rfl) (hb hby at_72) (fun _ _ => ⟨rfl, e32', (by decide : 1 + 0 ≤ _), (by decide : 4 + 0 ≤ _)⟩)
              dsimp only [Pt.U, Pt.locs, Pt.cells, Pt.slots] at X34 l34 y34 z34 st34 hQ34
              subst l34 y34 z34
              obtain ⟨h34, e34⟩ : ∃ z, T34.heap = z := ⟨_, rfl⟩
              rw [e34] at hQ34
              obtain ⟨rr34, rfl, hs34, N34q, hh34⟩ := hQ34
              have N35 := Fr.app N33 N34q
              have e34' : T34.heap = h8 := e34.trans hh34
              rcases hs34 with ⟨rfl, hq34_0_0⟩ | ⟨rfl, hq34_1_0⟩
              · have pre36 : ∀ t, Steps p.tables e below (T34.setTop (mkF m 114 #[.val (.long q0_), .second, .val (.long q1_), .second, .val (.long q2_), .second, .val (.ref b1), .val (.long q1_), .second, .val (.long q1_), .second, .val (.int (1 : Int32)), .val (.int (0 : Int32)), .val (.int (1 : Int32)), .val (.int (1 : Int32)), .val (.int (1 : Int32))] [(.int (1 : Int32))])) t → Steps p.tables e below (s₁.setTop (entryFrame m #[(.long q0_), (.long q1_), (.long q2_)] maxLocals)) t := by
                  intro t kt
                  refine pre18 t ?_
                  show Steps p.tables e below (T16.setTop (mkF m 42 #[.val (.long q0_), .second, .val (.long q1_), .second, .val (.long q2_), .second, .val (.ref b1), .val (.long q1_), .second, .val (.long q1_), .second, .val (.int (1 : Int32)), .unset, .unset, .unset, .unset] [(.int (lcmpW q0_ (-9223372036854775808 : Int64)))])) _
                  refine XS.ifYes X16.here hx rfl (pc0 := 42) (pc' := 49) rfl (hb hby at_42) rfl ((if0 _ _).trans (feq (fun z => hc19 ((lw_eq _ _).mp z))).2) (by decide) (by decide) ?_
                  show Steps p.tables e below (T16.setTop (mkF m 49 #[.val (.long q0_), .second, .val (.long q1_), .second, .val (.long q2_), .second, .val (.ref b1), .val (.long q1_), .second, .val (.long q1_), .second, .val (.int (1 : Int32)), .unset, .unset, .unset, .unset] [])) _
                  refine XS.aload X16.here hx rfl (hb hby at_49) rfl rfl ?_
                  show Steps p.tables e below (T16.setTop (mkF m 51 #[.val (.long q0_), .second, .val (.long q1_), .second, .val (.long q2_), .second, .val (.ref b1), .val (.long q1_), .second, .val (.long q1_), .second, .val (.int (1 : Int32)), .unset, .unset, .unset, .unset] [(.ref b1)])) _
                  refine XS.lloadN X16.here hx rfl (hb hby at_51) rfl ?_
                  show Steps p.tables e below (T16.setTop (mkF m 52 #[.val (.long q0_), .second, .val (.long q1_), .second, .val (.long q2_), .second, .val (.ref b1), .val (.long q1_), .second, .val (.long q1_), .second, .val (.int (1 : Int32)), .unset, .unset, .unset, .unset] [(.long q0_), (.ref b1)])) _
                  refine XS.lconst X16.here hx rfl (hb hby at_52) ?_
                  show Steps p.tables e below (T16.setTop (mkF m 53 #[.val (.long q0_), .second, .val (.long q1_), .second, .val (.long q2_), .second, .val (.ref b1), .val (.long q1_), .second, .val (.long q1_), .second, .val (.int (1 : Int32)), .unset, .unset, .unset, .unset] [(.long (1 : Int64)), (.long q0_), (.ref b1)])) _
                  refine XS.lsub X16.here hx rfl (hb hby at_53) rfl ?_
                  show Steps p.tables e below (T16.setTop (mkF m 54 #[.val (.long q0_), .second, .val (.long q1_), .second, .val (.long q2_), .second, .val (.ref b1), .val (.long q1_), .second, .val (.long q1_), .second, .val (.int (1 : Int32)), .unset, .unset, .unset, .unset] [(.long (q0_ - (1 : Int64))), (.ref b1)])) _
                  refine st30.trans ?_
                  show Steps p.tables e below (T30.setTop (mkF m 57 #[.val (.long q0_), .second, .val (.long q1_), .second, .val (.long q2_), .second, .val (.ref b1), .val (.long q1_), .second, .val (.long q1_), .second, .val (.int (1 : Int32)), .unset, .unset, .unset, .unset] [(.int (0 : Int32))])) _
                  refine XS.istore X30.here hx rfl (hb hby at_57) rfl (l' := #[.val (.long q0_), .second, .val (.long q1_), .second, .val (.long q2_), .second, .val (.ref b1), .val (.long q1_), .second, .val (.long q1_), .second, .val (.int (1 : Int32)), .val (.int (0 : Int32)), .unset, .unset, .unset]) rfl ?_
                  show Steps p.tables e below (T30.setTop (mkF m 59 #[.val (.long q0_), .second, .val (.long q1_), .second, .val (.long q2_), .second, .val (.ref b1), .val (.long q1_), .second, .val (.long q1_), .second, .val (.int (1 : Int32)), .val (.int (0 : Int32)), .unset, .unset, .unset] [])) _
                  refine XS.aload X30.here hx rfl (hb hby at_59) rfl rfl ?_
                  show Steps p.tables e below (T30.setTop (mkF m 61 #[.val (.long q0_), .second, .val (.long q1_), .second, .val (.long q2_), .second, .val (.ref b1), .val (.long q1_), .second, .val (.long q1_), .second, .val (.int (1 : Int32)), .val (.int (0 : Int32)), .unset, .unset, .unset] [(.ref b1)])) _
                  refine XS.lload X30.here hx rfl (hb hby at_61) rfl ?_
                  show Steps p.tables e below (T30.setTop (mkF m 63 #[.val (.long q0_), .second, .val (.long q1_), .second, .val (.long q2_), .second, .val (.ref b1), .val (.long q1_), .second, .val (.long q1_), .second, .val (.int (1 : Int32)), .val (.int (0 : Int32)), .unset, .unset, .unset] [(.long q1_), (.ref b1)])) _
                  refine st32.trans ?_
                  show Steps p.tables e below (T32.setTop (mkF m 66 #[.val (.long q0_), .second, .val (.long q1_), .second, .val (.long q2_), .second, .val (.ref b1), .val (.long q1_), .second, .val (.long q1_), .second, .val (.int (1 : Int32)), .val (.int (0 : Int32)), .unset, .unset, .unset] [(.int (1 : Int32))])) _
                  refine XS.istore X32.here hx rfl (hb hby at_66) rfl (l' := #[.val (.long q0_), .second, .val (.long q1_), .second, .val (.long q2_), .second, .val (.ref b1), .val (.long q1_), .second, .val (.long q1_), .second, .val (.int (1 : Int32)), .val (.int (0 : Int32)), .val (.int (1 : Int32)), .unset, .unset]) rfl ?_
                  show Steps p.tables e below (T32.setTop (mkF m 68 #[.val (.long q0_), .second, .val (.long q1_), .second, .val (.long q2_), .second, .val (.ref b1), .val (.long q1_), .second, .val (.long q1_), .second, .val (.int (1 : Int32)), .val (.int (0 : Int32)), .val (.int (1 : Int32)), .unset, .unset] [])) _
                  refine XS.aload X32.here hx rfl (hb hby at_68) rfl rfl ?_
                  show Steps p.tables e below (T32.setTop (mkF m 70 #[.val (.long q0_), .second, .val (.long q1_), .second, .val (.long q2_), .second, .val (.ref b1), .val (.long q1_), .second, .val (.long q1_), .second, .val (.int (1 : Int32)), .val (.int (0 : Int32)), .val (.int (1 : Int32)), .unset, .unset] [(.ref b1)])) _
                  refine XS.lload X32.here hx rfl (hb hby at_70) rfl ?_
                  show Steps p.tables e below (T32.setTop (mkF m 72 #[.val (.long q0_), .second, .val (.long q1_), .second, .val (.long q2_), .second, .val (.ref b1), .val (.long q1_), .second, .val (.long q1_), .second, .val (.int (1 : Int32)), .val (.int (0 : Int32)), .val (.int (1 : Int32)), .unset, .unset] [(.long q1_), (.ref b1)])) _
                  refine st34.trans ?_
                  show Steps p.tables e below (T34.setTop (mkF m 75 #[.val (.long q0_), .second, .val (.long q1_), .second, .val (.long q2_), .second, .val (.ref b1), .val (.long q1_), .second, .val (.long q1_), .second, .val (.int (1 : Int32)), .val (.int (0 : Int32)), .val (.int (1 : Int32)), .unset, .unset] [(.int (1 : Int32))])) _
                  refine XS.istore X34.here hx rfl (hb hby at_75) rfl (l' := #[.val (.long q0_), .second, .val (.long q1_), .second, .val (.long q2_), .second, .val (.ref b1), .val (.long q1_), .second, .val (.long q1_), .second, .val (.int (1 : Int32)), .val (.int (0 : Int32)), .val (.int (1 : Int32)), .val (.int (1 : Int32)), .unset]) rfl ?_
                  show Steps p.tables e below (T34.setTop (mkF m 77 #[.val (.long q0_), .second, .val (.long q1_), .second, .val (.long q2_), .second, .val (.ref b1), .val (.long q1_), .second, .val (.long q1_), .second, .val (.int (1 : Int32)), .val (.int (0 : Int32)), .val (.int (1 : Int32)), .val (.int (1 : Int32)), .unset] [])) _
                  refine XS.iload X34.here hx rfl (hb hby at_77) rfl ?_
                  show Steps p.tables e below (T34.setTop (mkF m 79 #[.val (.long q0_), .second, .val (.long q1_), .second, .val (.long q2_), .second, .val (.ref b1), .val (.long q1_), .second, .val (.long q1_), .second, .val (.int (1 : Int32)), .val (.int (0 : Int32)), .val (.int (1 : Int32)), .val (.int (1 : Int32)), .unset] [(.int (1 : Int32))])) _
                  refine XS.ifNo X34.here hx rfl (hb hby at_79) rfl ((if0 _ _).trans (feq (by decide : ¬ ((1 : Int32) = (0 : Int32)))).1) ?_
                  show Steps p.tables e below (T34.setTop (mkF m 82 #[.val (.long q0_), .second, .val (.long q1_), .second, .val (.long q2_), .second, .val (.ref b1), .val (.long q1_), .second, .val (.long q1_), .second, .val (.int (1 : Int32)), .val (.int (0 : Int32)), .val (.int (1 : Int32)), .val (.int (1 : Int32)), .unset] [])) _
                  refine XS.iload X34.here hx rfl (hb hby at_82) rfl ?_
                  show Steps p.tables e below (T34.setTop (mkF m 84 #[.val (.long q0_), .second, .val (.long q1_), .second, .val (.long q2_), .second, .val (.ref b1), .val (.long q1_), .second, .val (.long q1_), .second, .val (.int (1 : Int32)), .val (.int (0 : Int32)), .val (.int (1 : Int32)), .val (.int (1 : Int32)), .unset] [(.int (1 : Int32))])) _
                  refine XS.ifNo X34.here hx rfl (hb hby at_84) rfl ((if0 _ _).trans (feq (by decide : ¬ ((1 : Int32) = (0 : Int32)))).1) ?_
                  show Steps p.tables e below (T34.setTop (mkF m 87 #[.val (.long q0_), .second, .val (.long q1_), .second, .val (.long q2_), .second, .val (.ref b1), .val (.long q1_), .second, .val (.long q1_), .second, .val (.int (1 : Int32)), .val (.int (0 : Int32)), .val (.int (1 : Int32)), .val (.int (1 : Int32)), .unset] [])) _
                  refine XS.iconst X34.here hx rfl (hb hby at_87) ?_
                  show Steps p.tables e below (T34.setTop (mkF m 88 #[.val (.long q0_), .second, .val (.long q1_), .second, .val (.long q2_), .second, .val (.ref b1), .val (.long q1_), .second, .val (.long q1_), .second, .val (.int (1 : Int32)), .val (.int (0 : Int32)), .val (.int (1 : Int32)), .val (.int (1 : Int32)), .unset] [(.int (1 : Int32))])) _
                  refine XS.goto X34.here hx rfl (pc0 := 88) (pc' := 92) rfl (hb hby at_88) (by decide) (by decide) ?_
                  show Steps p.tables e below (T34.setTop (mkF m 92 #[.val (.long q0_), .second, .val (.long q1_), .second, .val (.long q2_), .second, .val (.ref b1), .val (.long q1_), .second, .val (.long q1_), .second, .val (.int (1 : Int32)), .val (.int (0 : Int32)), .val (.int (1 : Int32)), .val (.int (1 : Int32)), .unset] [(.int (1 : Int32))])) _
                  refine XS.istore X34.here hx rfl (hb hby at_92) rfl (l' := #[.val (.long q0_), .second, .val (.long q1_), .second, .val (.long q2_), .second, .val (.ref b1), .val (.long q1_), .second, .val (.long q1_), .second, .val (.int (1 : Int32)), .val (.int (0 : Int32)), .val (.int (1 : Int32)), .val (.int (1 : Int32)), .val (.int (1 : Int32))]) rfl ?_
                  show Steps p.tables e below (T34.setTop (mkF m 94 #[.val (.long q0_), .second, .val (.long q1_), .second, .val (.long q2_), .second, .val (.ref b1), .val (.long q1_), .second, .val (.long q1_), .second, .val (.int (1 : Int32)), .val (.int (0 : Int32)), .val (.int (1 : Int32)), .val (.int (1 : Int32)), .val (.int (1 : Int32))] [])) _
                  refine XS.iload X34.here hx rfl (hb hby at_94) rfl ?_
                  show Steps p.tables e below (T34.setTop (mkF m 96 #[.val (.long q0_), .second, .val (.long q1_), .second, .val (.long q2_), .second, .val (.ref b1), .val (.long q1_), .second, .val (.long q1_), .second, .val (.int (1 : Int32)), .val (.int (0 : Int32)), .val (.int (1 : Int32)), .val (.int (1 : Int32)), .val (.int (1 : Int32))] [(.int (1 : Int32))])) _
                  refine XS.ifNo X34.here hx rfl (hb hby at_96) rfl ((if0 _ _).trans (feq (by decide : ¬ ((1 : Int32) = (0 : Int32)))).1) ?_
                  show Steps p.tables e below (T34.setTop (mkF m 99 #[.val (.long q0_), .second, .val (.long q1_), .second, .val (.long q2_), .second, .val (.ref b1), .val (.long q1_), .second, .val (.long q1_), .second, .val (.int (1 : Int32)), .val (.int (0 : Int32)), .val (.int (1 : Int32)), .val (.int (1 : Int32)), .val (.int (1 : Int32))] [])) _
                  refine XS.iload X34.here hx rfl (hb hby at_99) rfl ?_
                  show Steps p.tables e below (T34.setTop (mkF m 101 #[.val (.long q0_), .second, .val (.long q1_), .second, .val (.long q2_), .second, .val (.ref b1), .val (.long q1_), .second, .val (.long q1_), .second, .val (.int (1 : Int32)), .val (.int (0 : Int32)), .val (.int (1 : Int32)), .val (.int (1 : Int32)), .val (.int (1 : Int32))] [(.int (0 : Int32))])) _
                  refine XS.ifNo X34.here hx rfl (hb hby at_101) rfl ((if0 _ _).trans (teq (by decide : (0 : Int32) = (0 : Int32))).2) ?_
                  show Steps p.tables e below (T34.setTop (mkF m 104 #[.val (.long q0_), .second, .val (.long q1_), .second, .val (.long q2_), .second, .val (.ref b1), .val (.long q1_), .second, .val (.long q1_), .second, .val (.int (1 : Int32)), .val (.int (0 : Int32)), .val (.int (1 : Int32)), .val (.int (1 : Int32)), .val (.int (1 : Int32))] [])) _
                  refine XS.iload X34.here hx rfl (hb hby at_104) rfl ?_
                  show Steps p.tables e below (T34.setTop (mkF m 106 #[.val (.long q0_), .second, .val (.long q1_), .second, .val (.long q2_), .second, .val (.ref b1), .val (.long q1_), .second, .val (.long q1_), .second, .val (.int (1 : Int32)), .val (.int (0 : Int32)), .val (.int (1 : Int32)), .val (.int (1 : Int32)), .val (.int (1 : Int32))] [(.int (1 : Int32))])) _
                  refine XS.ifNo X34.here hx rfl (hb hby at_106) rfl ((if0 _ _).trans (feq (by decide : ¬ ((1 : Int32) = (0 : Int32)))).1) ?_
                  show Steps p.tables e below (T34.setTop (mkF m 109 #[.val (.long q0_), .second, .val (.long q1_), .second, .val (.long q2_), .second, .val (.ref b1), .val (.long q1_), .second, .val (.long q1_), .second, .val (.int (1 : Int32)), .val (.int (0 : Int32)), .val (.int (1 : Int32)), .val (.int (1 : Int32)), .val (.int (1 : Int32))] [])) _
                  refine XS.iconst X34.here hx rfl (hb hby at_109) ?_
                  show Steps p.tables e below (T34.setTop (mkF m 110 #[.val (.long q0_), .second, .val (.long q1_), .second, .val (.long q2_), .second, .val (.ref b1), .val (.long q1_), .second, .val (.long q1_), .second, .val (.int (1 : Int32)), .val (.int (0 : Int32)), .val (.int (1 : Int32)), .val (.int (1 : Int32)), .val (.int (1 : Int32))] [(.int (1 : Int32))])) _
                  refine XS.goto X34.here hx rfl (pc0 := 110) (pc' := 114) rfl (hb hby at_110) (by decide) (by decide) ?_
                  exact kt
                obtain ⟨fs, hr, hrun, hended, hW, hsame⟩ := X34.leave (v := some (.int (1 : Int32))) (fun h => by rw [Bd.returns] at h; cases h)
                refine ⟨_, _, pre36 _ (retN X34 hx (t := .boolean) Bd.returns (by simp) (hb hby at_114) hr), hrun, hended, _, _, rfl, ?_, ⟨_, rfl⟩, hW, hsame.mono (by decide) (by decide)⟩
                show QLaw Z q0_ q1_ q2_ h0 n0 _ T34.heap _
                rw [e34']
                exact ⟨rfl, N35⟩
              · exact absurd hq34_1_0 hq32_0_0
            · obtain ⟨cq38, kq38, q38a, q38b, q38c⟩ := isOf hZ e32' g8_0
              obtain ⟨_, _, ⟨T38, L38, k38, n38⟩, -, X38, ⟨Lc38, hQ38, l38, y38, z38⟩, st38⟩ := X32.virtualBack hx (y := (⟨"com/example/fawley/fawley/store/StoredValue", "hasExpiredAt", "(J)Z"⟩ : MethodName)) (z := (⟨"com/example/fawley/fawley/store/StoredValue", "hasExpiredAt", "(J)Z"⟩ : MethodName)) hown (mvT hZ (hw _ (List.mem_of_getElem? (i := 24) rfl))) (mvT hZ (hw _ (List.mem_of_getElem? (i := 25) rfl))) (notFace_of_selects (args := #[]) (mvT hZ (hw _ (List.mem_of_getElem? (i := 27) rfl)))) (mvT hZ (hw _ (List.mem_of_getElem? (i := 27) rfl))) (mvT hZ (hw _ (List.mem_of_getElem? (i := 26) rfl))) (by decide) (backOf (W := 0) (rmHas l Z a0 hw [] b1 q1_ q0_ h8 n0 f12 g8_4) hZ (hw _ (List.mem_of_getElem? (i := 28) rfl)) (hw _ (List.mem_of_getElem? (i := 2) rfl)) (by decide) (by decide)) q38a q38c (g := (mkF m 72 #[.val (.long q0_), .second, .val (.long q1_), .second, .val (.long q2_), .second, .val (.ref b1), .val (.long q1_), .second, .val (.long q1_), .second, .val (.int (1 : Int32)), .val (.int (0 : Int32)), .val (.int (0 : Int32)), .unset, .unset] [(.long q1_), (.ref b1)])) rfl (by rw [hml]; rfl) (Steps.refl _) (argsL := [(.long q1_)]) (rest := []) (lenOf pd_2 rfl) rfl (by show 2 * 0 + _ ≤ _; exact Nat.le_of_eq rfl) (hb hby at_72) (fun _ _ => ⟨rfl, e32', (by decide : 1 + 0 ≤ _), (by decide : 4 + 0 ≤ _)⟩)
              dsimp only [Pt.U, Pt.locs, Pt.cells, Pt.slots] at X38 l38 y38 z38 st38 hQ38
              subst l38 y38 z38
              obtain ⟨h38, e38⟩ : ∃ z, T38.heap = z := ⟨_, rfl⟩
              rw [e38] at hQ38
              obtain ⟨rr38, rfl, hs38, N38q, hh38⟩ := hQ38
              have N39 := Fr.app N33 N38q
              have e38' : T38.heap = h8 := e38.trans hh38
              rcases hs38 with ⟨rfl, hq38_0_0⟩ | ⟨rfl, hq38_1_0⟩
              · exact absurd hq32_1_0 hq38_0_0
              · have pre40 : ∀ t, Steps p.tables e below (T38.setTop (mkF m 114 #[.val (.long q0_), .second, .val (.long q1_), .second, .val (.long q2_), .second, .val (.ref b1), .val (.long q1_), .second, .val (.long q1_), .second, .val (.int (1 : Int32)), .val (.int (0 : Int32)), .val (.int (0 : Int32)), .val (.int (0 : Int32)), .val (.int (1 : Int32))] [(.int (1 : Int32))])) t → Steps p.tables e below (s₁.setTop (entryFrame m #[(.long q0_), (.long q1_), (.long q2_)] maxLocals)) t := by
                  intro t kt
                  refine pre18 t ?_
                  show Steps p.tables e below (T16.setTop (mkF m 42 #[.val (.long q0_), .second, .val (.long q1_), .second, .val (.long q2_), .second, .val (.ref b1), .val (.long q1_), .second, .val (.long q1_), .second, .val (.int (1 : Int32)), .unset, .unset, .unset, .unset] [(.int (lcmpW q0_ (-9223372036854775808 : Int64)))])) _
                  refine XS.ifYes X16.here hx rfl (pc0 := 42) (pc' := 49) rfl (hb hby at_42) rfl ((if0 _ _).trans (feq (fun z => hc19 ((lw_eq _ _).mp z))).2) (by decide) (by decide) ?_
                  show Steps p.tables e below (T16.setTop (mkF m 49 #[.val (.long q0_), .second, .val (.long q1_), .second, .val (.long q2_), .second, .val (.ref b1), .val (.long q1_), .second, .val (.long q1_), .second, .val (.int (1 : Int32)), .unset, .unset, .unset, .unset] [])) _
                  refine XS.aload X16.here hx rfl (hb hby at_49) rfl rfl ?_
                  show Steps p.tables e below (T16.setTop (mkF m 51 #[.val (.long q0_), .second, .val (.long q1_), .second, .val (.long q2_), .second, .val (.ref b1), .val (.long q1_), .second, .val (.long q1_), .second, .val (.int (1 : Int32)), .unset, .unset, .unset, .unset] [(.ref b1)])) _
                  refine XS.lloadN X16.here hx rfl (hb hby at_51) rfl ?_
                  show Steps p.tables e below (T16.setTop (mkF m 52 #[.val (.long q0_), .second, .val (.long q1_), .second, .val (.long q2_), .second, .val (.ref b1), .val (.long q1_), .second, .val (.long q1_), .second, .val (.int (1 : Int32)), .unset, .unset, .unset, .unset] [(.long q0_), (.ref b1)])) _
                  refine XS.lconst X16.here hx rfl (hb hby at_52) ?_
                  show Steps p.tables e below (T16.setTop (mkF m 53 #[.val (.long q0_), .second, .val (.long q1_), .second, .val (.long q2_), .second, .val (.ref b1), .val (.long q1_), .second, .val (.long q1_), .second, .val (.int (1 : Int32)), .unset, .unset, .unset, .unset] [(.long (1 : Int64)), (.long q0_), (.ref b1)])) _
                  refine XS.lsub X16.here hx rfl (hb hby at_53) rfl ?_
                  show Steps p.tables e below (T16.setTop (mkF m 54 #[.val (.long q0_), .second, .val (.long q1_), .second, .val (.long q2_), .second, .val (.ref b1), .val (.long q1_), .second, .val (.long q1_), .second, .val (.int (1 : Int32)), .unset, .unset, .unset, .unset] [(.long (q0_ - (1 : Int64))), (.ref b1)])) _
                  refine st30.trans ?_
                  show Steps p.tables e below (T30.setTop (mkF m 57 #[.val (.long q0_), .second, .val (.long q1_), .second, .val (.long q2_), .second, .val (.ref b1), .val (.long q1_), .second, .val (.long q1_), .second, .val (.int (1 : Int32)), .unset, .unset, .unset, .unset] [(.int (0 : Int32))])) _
                  refine XS.istore X30.here hx rfl (hb hby at_57) rfl (l' := #[.val (.long q0_), .second, .val (.long q1_), .second, .val (.long q2_), .second, .val (.ref b1), .val (.long q1_), .second, .val (.long q1_), .second, .val (.int (1 : Int32)), .val (.int (0 : Int32)), .unset, .unset, .unset]) rfl ?_
                  show Steps p.tables e below (T30.setTop (mkF m 59 #[.val (.long q0_), .second, .val (.long q1_), .second, .val (.long q2_), .second, .val (.ref b1), .val (.long q1_), .second, .val (.long q1_), .second, .val (.int (1 : Int32)), .val (.int (0 : Int32)), .unset, .unset, .unset] [])) _
                  refine XS.aload X30.here hx rfl (hb hby at_59) rfl rfl ?_
                  show Steps p.tables e below (T30.setTop (mkF m 61 #[.val (.long q0_), .second, .val (.long q1_), .second, .val (.long q2_), .second, .val (.ref b1), .val (.long q1_), .second, .val (.long q1_), .second, .val (.int (1 : Int32)), .val (.int (0 : Int32)), .unset, .unset, .unset] [(.ref b1)])) _
                  refine XS.lload X30.here hx rfl (hb hby at_61) rfl ?_
                  show Steps p.tables e below (T30.setTop (mkF m 63 #[.val (.long q0_), .second, .val (.long q1_), .second, .val (.long q2_), .second, .val (.ref b1), .val (.long q1_), .second, .val (.long q1_), .second, .val (.int (1 : Int32)), .val (.int (0 : Int32)), .unset, .unset, .unset] [(.long q1_), (.ref b1)])) _
                  refine st32.trans ?_
                  show Steps p.tables e below (T32.setTop (mkF m 66 #[.val (.long q0_), .second, .val (.long q1_), .second, .val (.long q2_), .second, .val (.ref b1), .val (.long q1_), .second, .val (.long q1_), .second, .val (.int (1 : Int32)), .val (.int (0 : Int32)), .unset, .unset, .unset] [(.int (0 : Int32))])) _
                  refine XS.istore X32.here hx rfl (hb hby at_66) rfl (l' := #[.val (.long q0_), .second, .val (.long q1_), .second, .val (.long q2_), .second, .val (.ref b1), .val (.long q1_), .second, .val (.long q1_), .second, .val (.int (1 : Int32)), .val (.int (0 : Int32)), .val (.int (0 : Int32)), .unset, .unset]) rfl ?_
                  show Steps p.tables e below (T32.setTop (mkF m 68 #[.val (.long q0_), .second, .val (.long q1_), .second, .val (.long q2_), .second, .val (.ref b1), .val (.long q1_), .second, .val (.long q1_), .second, .val (.int (1 : Int32)), .val (.int (0 : Int32)), .val (.int (0 : Int32)), .unset, .unset] [])) _
                  refine XS.aload X32.here hx rfl (hb hby at_68) rfl rfl ?_
                  show Steps p.tables e below (T32.setTop (mkF m 70 #[.val (.long q0_), .second, .val (.long q1_), .second, .val (.long q2_), .second, .val (.ref b1), .val (.long q1_), .second, .val (.long q1_), .second, .val (.int (1 : Int32)), .val (.int (0 : Int32)), .val (.int (0 : Int32)), .unset, .unset] [(.ref b1)])) _
                  refine XS.lload X32.here hx rfl (hb hby at_70) rfl ?_
                  show Steps p.tables e below (T32.setTop (mkF m 72 #[.val (.long q0_), .second, .val (.long q1_), .second, .val (.long q2_), .second, .val (.ref b1), .val (.long q1_), .second, .val (.long q1_), .second, .val (.int (1 : Int32)), .val (.int (0 : Int32)), .val (.int (0 : Int32)), .unset, .unset] [(.long q1_), (.ref b1)])) _
                  refine st38.trans ?_
                  show Steps p.tables e below (T38.setTop (mkF m 75 #[.val (.long q0_), .second, .val (.long q1_), .second, .val (.long q2_), .second, .val (.ref b1), .val (.long q1_), .second, .val (.long q1_), .second, .val (.int (1 : Int32)), .val (.int (0 : Int32)), .val (.int (0 : Int32)), .unset, .unset] [(.int (0 : Int32))])) _
                  refine XS.istore X38.here hx rfl (hb hby at_75) rfl (l' := #[.val (.long q0_), .second, .val (.long q1_), .second, .val (.long q2_), .second, .val (.ref b1), .val (.long q1_), .second, .val (.long q1_), .second, .val (.int (1 : Int32)), .val (.int (0 : Int32)), .val (.int (0 : Int32)), .val (.int (0 : Int32)), .unset]) rfl ?_
                  show Steps p.tables e below (T38.setTop (mkF m 77 #[.val (.long q0_), .second, .val (.long q1_), .second, .val (.long q2_), .second, .val (.ref b1), .val (.long q1_), .second, .val (.long q1_), .second, .val (.int (1 : Int32)), .val (.int (0 : Int32)), .val (.int (0 : Int32)), .val (.int (0 : Int32)), .unset] [])) _
                  refine XS.iload X38.here hx rfl (hb hby at_77) rfl ?_
                  show Steps p.tables e below (T38.setTop (mkF m 79 #[.val (.long q0_), .second, .val (.long q1_), .second, .val (.long q2_), .second, .val (.ref b1), .val (.long q1_), .second, .val (.long q1_), .second, .val (.int (1 : Int32)), .val (.int (0 : Int32)), .val (.int (0 : Int32)), .val (.int (0 : Int32)), .unset] [(.int (0 : Int32))])) _
                  refine XS.ifYes X38.here hx rfl (pc0 := 79) (pc' := 87) rfl (hb hby at_79) rfl ((if0 _ _).trans (teq (by decide : (0 : Int32) = (0 : Int32))).1) (by decide) (by decide) ?_
                  show Steps p.tables e below (T38.setTop (mkF m 87 #[.val (.long q0_), .second, .val (.long q1_), .second, .val (.long q2_), .second, .val (.ref b1), .val (.long q1_), .second, .val (.long q1_), .second, .val (.int (1 : Int32)), .val (.int (0 : Int32)), .val (.int (0 : Int32)), .val (.int (0 : Int32)), .unset] [])) _
                  refine XS.iconst X38.here hx rfl (hb hby at_87) ?_
                  show Steps p.tables e below (T38.setTop (mkF m 88 #[.val (.long q0_), .second, .val (.long q1_), .second, .val (.long q2_), .second, .val (.ref b1), .val (.long q1_), .second, .val (.long q1_), .second, .val (.int (1 : Int32)), .val (.int (0 : Int32)), .val (.int (0 : Int32)), .val (.int (0 : Int32)), .unset] [(.int (1 : Int32))])) _
                  refine XS.goto X38.here hx rfl (pc0 := 88) (pc' := 92) rfl (hb hby at_88) (by decide) (by decide) ?_
                  show Steps p.tables e below (T38.setTop (mkF m 92 #[.val (.long q0_), .second, .val (.long q1_), .second, .val (.long q2_), .second, .val (.ref b1), .val (.long q1_), .second, .val (.long q1_), .second, .val (.int (1 : Int32)), .val (.int (0 : Int32)), .val (.int (0 : Int32)), .val (.int (0 : Int32)), .unset] [(.int (1 : Int32))])) _
                  refine XS.istore X38.here hx rfl (hb hby at_92) rfl (l' := #[.val (.long q0_), .second, .val (.long q1_), .second, .val (.long q2_), .second, .val (.ref b1), .val (.long q1_), .second, .val (.long q1_), .second, .val (.int (1 : Int32)), .val (.int (0 : Int32)), .val (.int (0 : Int32)), .val (.int (0 : Int32)), .val (.int (1 : Int32))]) rfl ?_
                  show Steps p.tables e below (T38.setTop (mkF m 94 #[.val (.long q0_), .second, .val (.long q1_), .second, .val (.long q2_), .second, .val (.ref b1), .val (.long q1_), .second, .val (.long q1_), .second, .val (.int (1 : Int32)), .val (.int (0 : Int32)), .val (.int (0 : Int32)), .val (.int (0 : Int32)), .val (.int (1 : Int32))] [])) _
                  refine XS.iload X38.here hx rfl (hb hby at_94) rfl ?_
                  show Steps p.tables e below (T38.setTop (mkF m 96 #[.val (.long q0_), .second, .val (.long q1_), .second, .val (.long q2_), .second, .val (.ref b1), .val (.long q1_), .second, .val (.long q1_), .second, .val (.int (1 : Int32)), .val (.int (0 : Int32)), .val (.int (0 : Int32)), .val (.int (0 : Int32)), .val (.int (1 : Int32))] [(.int (1 : Int32))])) _
                  refine XS.ifNo X38.here hx rfl (hb hby at_96) rfl ((if0 _ _).trans (feq (by decide : ¬ ((1 : Int32) = (0 : Int32)))).1) ?_
                  show Steps p.tables e below (T38.setTop (mkF m 99 #[.val (.long q0_), .second, .val (.long q1_), .second, .val (.long q2_), .second, .val (.ref b1), .val (.long q1_), .second, .val (.long q1_), .second, .val (.int (1 : Int32)), .val (.int (0 : Int32)), .val (.int (0 : Int32)), .val (.int (0 : Int32)), .val (.int (1 : Int32))] [])) _
                  refine XS.iload X38.here hx rfl (hb hby at_99) rfl ?_
                  show Steps p.tables e below (T38.setTop (mkF m 101 #[.val (.long q0_), .second, .val (.long q1_), .second, .val (.long q2_), .second, .val (.ref b1), .val (.long q1_), .second, .val (.long q1_), .second, .val (.int (1 : Int32)), .val (.int (0 : Int32)), .val (.int (0 : Int32)), .val (.int (0 : Int32)), .val (.int (1 : Int32))] [(.int (0 : Int32))])) _
                  refine XS.ifNo X38.here hx rfl (hb hby at_101) rfl ((if0 _ _).trans (teq (by decide : (0 : Int32) = (0 : Int32))).2) ?_
                  show Steps p.tables e below (T38.setTop (mkF m 104 #[.val (.long q0_), .second, .val (.long q1_), .second, .val (.long q2_), .second, .val (.ref b1), .val (.long q1_), .second, .val (.long q1_), .second, .val (.int (1 : Int32)), .val (.int (0 : Int32)), .val (.int (0 : Int32)), .val (.int (0 : Int32)), .val (.int (1 : Int32))] [])) _
                  refine XS.iload X38.here hx rfl (hb hby at_104) rfl ?_
                  show Steps p.tables e below (T38.setTop (mkF m 106 #[.val (.long q0_), .second, .val (.long q1_), .second, .val (.long q2_), .second, .val (.ref b1), .val (.long q1_), .second, .val (.long q1_), .second, .val (.int (1 : Int32)), .val (.int (0 : Int32)), .val (.int (0 : Int32)), .val (.int (0 : Int32)), .val (.int (1 : Int32))] [(.int (1 : Int32))])) _
                  refine XS.ifNo X38.here hx rfl (hb hby at_106) rfl ((if0 _ _).trans (feq (by decide : ¬ ((1 : Int32) = (0 : Int32)))).1) ?_
                  show Steps p.tables e below (T38.setTop (mkF m 109 #[.val (.long q0_), .second, .val (.long q1_), .second, .val (.long q2_), .second, .val (.ref b1), .val (.long q1_), .second, .val (.long q1_), .second, .val (.int (1 : Int32)), .val (.int (0 : Int32)), .val (.int (0 : Int32)), .val (.int (0 : Int32)), .val (.int (1 : Int32))] [])) _
                  refine XS.iconst X38.here hx rfl (hb hby at_109) ?_
                  show Steps p.tables e below (T38.setTop (mkF m 110 #[.val (.long q0_), .second, .val (.long q1_), .second, .val (.long q2_), .second, .val (.ref b1), .val (.long q1_), .second, .val (.long q1_), .second, .val (.int (1 : Int32)), .val (.int (0 : Int32)), .val (.int (0 : Int32)), .val (.int (0 : Int32)), .val (.int (1 : Int32))] [(.int (1 : Int32))])) _
                  refine XS.goto X38.here hx rfl (pc0 := 110) (pc' := 114) rfl (hb hby at_110) (by decide) (by decide) ?_
                  exact kt
                obtain ⟨fs, hr, hrun, hended, hW, hsame⟩ := X38.leave (v := some (.int (1 : Int32))) (fun h => by rw [Bd.returns] at h; cases h)
                refine ⟨_, _, pre40 _ (retN X38 hx (t := .boolean) Bd.returns (by simp) (hb hby at_114) hr), hrun, hended, _, _, rfl, ?_, ⟨_, rfl⟩, hW, hsame.mono (by decide) (by decide)⟩
                show QLaw Z q0_ q1_ q2_ h0 n0 _ T38.heap _
                rw [e38']
                exact ⟨rfl, N39⟩
      · exact absurd hq16_1_0 (by first | exact Int32.lt_irrefl | exact Int64.lt_irrefl)
    · obtain ⟨cq42, kq42, q42a, q42b, q42c⟩ := isOf hZ e14' g8_0
      obtain ⟨_, _, ⟨T42, L42, k42, n42⟩, -, X42, ⟨Lc42, hQ42, l42, y42, z42⟩, st42⟩ := X14.virtualBack hx (y := (⟨"com/example/fawley/fawley/store/StoredValue", "hasExpiredAt", "(J)Z"⟩ : MethodName)) (z := (⟨"com/example/fawley/fawley/store/StoredValue", "hasExpiredAt", "(J)Z"⟩ : MethodName)) hown (mvT hZ (hw _ (List.mem_of_getElem? (i := 24) rfl))) (mvT hZ (hw _ (List.mem_of_getElem? (i := 25) rfl))) (notFace_of_selects (args := #[]) (mvT hZ (hw _ (List.mem_of_getElem? (i := 27) rfl)))) (mvT hZ (hw _ (List.mem_of_getElem? (i := 27) rfl))) (mvT hZ (hw _ (List.mem_of_getElem? (i := 26) rfl))) (by decide) (backOf (W := 0) (rmHas l Z a0 hw [] b1 q0_ q0_ h8 n0 f12 g8_4) hZ (hw _ (List.mem_of_getElem? (i := 28) rfl)) (hw _ (List.mem_of_getElem? (i := 2) rfl)) (by decide) (by decide)) q42a q42c (g := (mkF m 32 #[.val (.long q0_), .second, .val (.long q1_), .second, .val (.long q2_), .second, .val (.ref b1), .val (.long q1_), .second, .val (.long q2_), .second, .unset, .unset, .unset, .unset, .unset] [(.long q0_), (.ref b1)])) rfl (by rw [hml]; rfl) (Steps.refl _) (argsL := [(.long q0_)]) (rest := []) (lenOf pd_2 rfl) rfl (by show 2 * 0 + _ ≤ _; exact Nat.le_of_eq rfl) (hb hby at_32) (fun _ _ => ⟨rfl, e14', (by decide : 1 + 0 ≤ _), (by decide : 4 + 0 ≤ _)⟩)
      dsimp only [Pt.U, Pt.locs, Pt.cells, Pt.slots] at X42 l42 y42 z42 st42 hQ42
      subst l42 y42 z42
      obtain ⟨h42, e42⟩ : ∃ z, T42.heap = z := ⟨_, rfl⟩
      rw [e42] at hQ42
      obtain ⟨rr42, rfl, hs42, N42q, hh42⟩ := hQ42
      have N43 := Fr.app N15 N42q
      have e42' : T42.heap = h8 := e42.trans hh42
      rcases hs42 with ⟨rfl, hq42_0_0⟩ | ⟨rfl, hq42_1_0⟩
      · have pre44 : ∀ t, Steps p.tables e below (T42.setTop (mkF m 42 #[.val (.long q0_), .second, .val (.long q1_), .second, .val (.long q2_), .second, .val (.ref b1), .val (.long q1_), .second, .val (.long q2_), .second, .val (.int (1 : Int32)), .unset, .unset, .unset, .unset] [(.int (lcmpW q0_ (-9223372036854775808 : Int64)))])) t → Steps p.tables e below (s₁.setTop (entryFrame m #[(.long q0_), (.long q1_), (.long q2_)] maxLocals)) t := by
          intro t kt
          refine pre0 t ?_
          show Steps p.tables e below (s₁.setTop (mkF m 0 #[.val (.long q0_), .second, .val (.long q1_), .second, .val (.long q2_), .second, .unset, .unset, .unset, .unset, .unset, .unset, .unset, .unset, .unset, .unset] [])) _
          refine st1 _ ?_
          show Steps p.tables e below (T1.setTop (mkF m 3 #[.val (.long q0_), .second, .val (.long q1_), .second, .val (.long q2_), .second, .unset, .unset, .unset, .unset, .unset, .unset, .unset, .unset, .unset, .unset] [(.ref b1)])) _
          refine XS.dup X1.here hx rfl (hb hby at_3) rfl rfl ?_
          show Steps p.tables e below (T1.setTop (mkF m 4 #[.val (.long q0_), .second, .val (.long q1_), .second, .val (.long q2_), .second, .unset, .unset, .unset, .unset, .unset, .unset, .unset, .unset, .unset, .unset] [(.ref b1), (.ref b1)])) _
          refine XS.aconstNull X1.here hx rfl (hb hby at_4) ?_
          show Steps p.tables e below (T1.setTop (mkF m 5 #[.val (.long q0_), .second, .val (.long q1_), .second, .val (.long q2_), .second, .unset, .unset, .unset, .unset, .unset, .unset, .unset, .unset, .unset, .unset] [.null, (.ref b1), (.ref b1)])) _
          refine XS.aconstNull X1.here hx rfl (hb hby at_5) ?_
          show Steps p.tables e below (T1.setTop (mkF m 6 #[.val (.long q0_), .second, .val (.long q1_), .second, .val (.long q2_), .second, .unset, .unset, .unset, .unset, .unset, .unset, .unset, .unset, .unset, .unset] [.null, .null, (.ref b1), (.ref b1)])) _
          refine XS.aconstNull X1.here hx rfl (hb hby at_6) ?_
          show Steps p.tables e below (T1.setTop (mkF m 7 #[.val (.long q0_), .second, .val (.long q1_), .second, .val (.long q2_), .second, .unset, .unset, .unset, .unset, .unset, .unset, .unset, .unset, .unset, .unset] [.null, .null, .null, (.ref b1), (.ref b1)])) _
          refine XS.lloadN X1.here hx rfl (hb hby at_7) rfl ?_
          show Steps p.tables e below (T1.setTop (mkF m 8 #[.val (.long q0_), .second, .val (.long q1_), .second, .val (.long q2_), .second, .unset, .unset, .unset, .unset, .unset, .unset, .unset, .unset, .unset, .unset] [(.long q0_), .null, .null, .null, (.ref b1), (.ref b1)])) _
          refine st8.trans ?_
          show Steps p.tables e below (T8.setTop (mkF m 11 #[.val (.long q0_), .second, .val (.long q1_), .second, .val (.long q2_), .second, .unset, .unset, .unset, .unset, .unset, .unset, .unset, .unset, .unset, .unset] [(.ref b1)])) _
          refine XS.astore X8.here hx rfl (hb hby at_11) rfl rfl (l' := #[.val (.long q0_), .second, .val (.long q1_), .second, .val (.long q2_), .second, .val (.ref b1), .unset, .unset, .unset, .unset, .unset, .unset, .unset, .unset, .unset]) rfl ?_
          show Steps p.tables e below (T8.setTop (mkF m 13 #[.val (.long q0_), .second, .val (.long q1_), .second, .val (.long q2_), .second, .val (.ref b1), .unset, .unset, .unset, .unset, .unset, .unset, .unset, .unset, .unset] [])) _
          refine XS.lloadN X8.here hx rfl (hb hby at_13) rfl ?_
          show Steps p.tables e below (T8.setTop (mkF m 14 #[.val (.long q0_), .second, .val (.long q1_), .second, .val (.long q2_), .second, .val (.ref b1), .unset, .unset, .unset, .unset, .unset, .unset, .unset, .unset, .unset] [(.long q1_)])) _
          refine XS.lload X8.here hx rfl (hb hby at_14) rfl ?_
          show Steps p.tables e below (T8.setTop (mkF m 16 #[.val (.long q0_), .second, .val (.long q1_), .second, .val (.long q2_), .second, .val (.ref b1), .unset, .unset, .unset, .unset, .unset, .unset, .unset, .unset, .unset] [(.long q2_), (.long q1_)])) _
          refine st11 _ ?_
          show Steps p.tables e below (T11.setTop (mkF m 19 #[.val (.long q0_), .second, .val (.long q1_), .second, .val (.long q2_), .second, .val (.ref b1), .unset, .unset, .unset, .unset, .unset, .unset, .unset, .unset, .unset] [(.long q1_)])) _
          refine XS.lstore X11.here hx rfl (hb hby at_19) rfl (l' := #[.val (.long q0_), .second, .val (.long q1_), .second, .val (.long q2_), .second, .val (.ref b1), .val (.long q1_), .second, .unset, .unset, .unset, .unset, .unset, .unset, .unset]) rfl ?_
          show Steps p.tables e below (T11.setTop (mkF m 21 #[.val (.long q0_), .second, .val (.long q1_), .second, .val (.long q2_), .second, .val (.ref b1), .val (.long q1_), .second, .unset, .unset, .unset, .unset, .unset, .unset, .unset] [])) _
          refine XS.lloadN X11.here hx rfl (hb hby at_21) rfl ?_
          show Steps p.tables e below (T11.setTop (mkF m 22 #[.val (.long q0_), .second, .val (.long q1_), .second, .val (.long q2_), .second, .val (.ref b1), .val (.long q1_), .second, .unset, .unset, .unset, .unset, .unset, .unset, .unset] [(.long q1_)])) _
          refine XS.lload X11.here hx rfl (hb hby at_22) rfl ?_
          show Steps p.tables e below (T11.setTop (mkF m 24 #[.val (.long q0_), .second, .val (.long q1_), .second, .val (.long q2_), .second, .val (.ref b1), .val (.long q1_), .second, .unset, .unset, .unset, .unset, .unset, .unset, .unset] [(.long q2_), (.long q1_)])) _
          refine st14 _ ?_
          show Steps p.tables e below (T14.setTop (mkF m 27 #[.val (.long q0_), .second, .val (.long q1_), .second, .val (.long q2_), .second, .val (.ref b1), .val (.long q1_), .second, .unset, .unset, .unset, .unset, .unset, .unset, .unset] [(.long q2_)])) _
          refine XS.lstore X14.here hx rfl (hb hby at_27) rfl (l' := #[.val (.long q0_), .second, .val (.long q1_), .second, .val (.long q2_), .second, .val (.ref b1), .val (.long q1_), .second, .val (.long q2_), .second, .unset, .unset, .unset, .unset, .unset]) rfl ?_
          show Steps p.tables e below (T14.setTop (mkF m 29 #[.val (.long q0_), .second, .val (.long q1_), .second, .val (.long q2_), .second, .val (.ref b1), .val (.long q1_), .second, .val (.long q2_), .second, .unset, .unset, .unset, .unset, .unset] [])) _
          refine XS.aload X14.here hx rfl (hb hby at_29) rfl rfl ?_
          show Steps p.tables e below (T14.setTop (mkF m 31 #[.val (.long q0_), .second, .val (.long q1_), .second, .val (.long q2_), .second, .val (.ref b1), .val (.long q1_), .second, .val (.long q2_), .second, .unset, .unset, .unset, .unset, .unset] [(.ref b1)])) _
          refine XS.lloadN X14.here hx rfl (hb hby at_31) rfl ?_
          show Steps p.tables e below (T14.setTop (mkF m 32 #[.val (.long q0_), .second, .val (.long q1_), .second, .val (.long q2_), .second, .val (.ref b1), .val (.long q1_), .second, .val (.long q2_), .second, .unset, .unset, .unset, .unset, .unset] [(.long q0_), (.ref b1)])) _
          refine st42.trans ?_
          show Steps p.tables e below (T42.setTop (mkF m 35 #[.val (.long q0_), .second, .val (.long q1_), .second, .val (.long q2_), .second, .val (.ref b1), .val (.long q1_), .second, .val (.long q2_), .second, .unset, .unset, .unset, .unset, .unset] [(.int (1 : Int32))])) _
          refine XS.istore X42.here hx rfl (hb hby at_35) rfl (l' := #[.val (.long q0_), .second, .val (.long q1_), .second, .val (.long q2_), .second, .val (.ref b1), .val (.long q1_), .second, .val (.long q2_), .second, .val (.int (1 : Int32)), .unset, .unset, .unset, .unset]) rfl ?_
          show Steps p.tables e below (T42.setTop (mkF m 37 #[.val (.long q0_), .second, .val (.long q1_), .second, .val (.long q2_), .second, .val (.ref b1), .val (.long q1_), .second, .val (.long q2_), .second, .val (.int (1 : Int32)), .unset, .unset, .unset, .unset] [])) _
          refine XS.lloadN X42.here hx rfl (hb hby at_37) rfl ?_
          show Steps p.tables e below (T42.setTop (mkF m 38 #[.val (.long q0_), .second, .val (.long q1_), .second, .val (.long q2_), .second, .val (.ref b1), .val (.long q1_), .second, .val (.long q2_), .second, .val (.int (1 : Int32)), .unset, .unset, .unset, .unset] [(.long q0_)])) _
          refine X42.ldc2Long hx hown (mvT hZ (hw _ (List.mem_of_getElem? (i := 29) rfl))) (g := (mkF m 38 #[.val (.long q0_), .second, .val (.long q1_), .second, .val (.long q2_), .second, .val (.ref b1), .val (.long q1_), .second, .val (.long q2_), .second, .val (.int (1 : Int32)), .unset, .unset, .unset, .unset] [(.long q0_)])) rfl (hb hby at_38) _ ?_
          show Steps p.tables e below (T42.setTop (mkF m 41 #[.val (.long q0_), .second, .val (.long q1_), .second, .val (.long q2_), .second, .val (.ref b1), .val (.long q1_), .second, .val (.long q2_), .second, .val (.int (1 : Int32)), .unset, .unset, .unset, .unset] [(.long (-9223372036854775808 : Int64)), (.long q0_)])) _
          refine XS.lcmp X42.here hx rfl (hb hby at_41) rfl ?_
          exact kt
        by_cases hc45 : q0_ = (-9223372036854775808 : Int64)
        · obtain ⟨cq46, kq46, q46a, q46b, q46c⟩ := isOf hZ e42' g8_0
          obtain ⟨_, _, ⟨T46, L46, k46, n46⟩, -, X46, ⟨Lc46, hQ46, l46, y46, z46⟩, st46⟩ := X42.virtualBack hx (y := (⟨"com/example/fawley/fawley/store/StoredValue", "hasExpiredAt", "(J)Z"⟩ : MethodName)) (z := (⟨"com/example/fawley/fawley/store/StoredValue", "hasExpiredAt", "(J)Z"⟩ : MethodName)) hown (mvT hZ (hw _ (List.mem_of_getElem? (i := 24) rfl))) (mvT hZ (hw _ (List.mem_of_getElem? (i := 25) rfl))) (notFace_of_selects (args := #[]) (mvT hZ (hw _ (List.mem_of_getElem? (i := 27) rfl)))) (mvT hZ (hw _ (List.mem_of_getElem? (i := 27) rfl))) (mvT hZ (hw _ (List.mem_of_getElem? (i := 26) rfl))) (by decide) (backOf (W := 0) (rmHas l Z a0 hw [] b1 q1_ q0_ h8 n0 f12 g8_4) hZ (hw _ (List.mem_of_getElem? (i := 28) rfl)) (hw _ (List.mem_of_getElem? (i := 2) rfl)) (by decide) (by decide)) q46a q46c (g := (mkF m 63 #[.val (.long q0_), .second, .val (.long q1_), .second, .val (.long q2_), .second, .val (.ref b1), .val (.long q1_), .second, .val (.long q2_), .second, .val (.int (1 : Int32)), .val (.int (0 : Int32)), .unset, .unset, .unset] [(.long q1_), (.ref b1)])) rfl (by rw [hml]; rfl) (Steps.refl _) (argsL := [(.long q1_)]) (rest := []) (lenOf pd_2 rfl) rfl (by show 2 * 0 + _ ≤ _; exact Nat.le_of_eq rfl) (hb hby at_63) (fun _ _ => ⟨rfl, e42', (by decide : 1 + 0 ≤ _), (by decide : 4 + 0 ≤ _)⟩)
          dsimp only [Pt.U, Pt.locs, Pt.cells, Pt.slots] at X46 l46 y46 z46 st46 hQ46
          subst l46 y46 z46
          obtain ⟨h46, e46⟩ : ∃ z, T46.heap = z := ⟨_, rfl⟩
          rw [e46] at hQ46
          obtain ⟨rr46, rfl, hs46, N46q, hh46⟩ := hQ46
          have N47 := Fr.app N43 N46q
          have e46' : T46.heap = h8 := e46.trans hh46
          rcases hs46 with ⟨rfl, hq46_0_0⟩ | ⟨rfl, hq46_1_0⟩
          · obtain ⟨cq48, kq48, q48a, q48b, q48c⟩ := isOf hZ e46' g8_0
            obtain ⟨_, _, ⟨T48, L48, k48, n48⟩, -, X48, ⟨Lc48, hQ48, l48, y48, z48⟩, st48⟩ := X46.virtualBack hx (y := (⟨"com/example/fawley/fawley/store/StoredValue", "hasExpiredAt", "(J)Z"⟩ : MethodName)) (z := (⟨"com/example/fawley/fawley/store/StoredValue", "hasExpiredAt", "(J)Z"⟩ : MethodName)) hown (mvT hZ (hw _ (List.mem_of_getElem? (i := 24) rfl))) (mvT hZ (hw _ (List.mem_of_getElem? (i := 25) rfl))) (notFace_of_selects (args := #[]) (mvT hZ (hw _ (List.mem_of_getElem? (i := 27) rfl)))) (mvT hZ (hw _ (List.mem_of_getElem? (i := 27) rfl))) (mvT hZ (hw _ (List.mem_of_getElem? (i := 26) rfl))) (by decide) (backOf (W := 0) (rmHas l Z a0 hw [] b1 q2_ q0_ h8 n0 f12 g8_4) hZ (hw _ (List.mem_of_getElem? (i := 28) rfl)) (hw _ (List.mem_of_getElem? (i := 2) rfl)) (by decide) (by decide)) q48a q48c (g := (mkF m 72 #[.val (.long q0_), .second, .val (.long q1_), .second, .val (.long q2_), .second, .val (.ref b1), .val (.long q1_), .second, .val (.long q2_), .second, .val (.int (1 : Int32)), .val (.int (0 : Int32)), .val (.int (1 : Int32)), .unset, .unset] [(.long q2_), (.ref b1)])) rfl (by rw [hml]; rfl) (Steps.refl _) (argsL := [(.long q2_)]) (rest := []) (lenOf pd_2 rfl) rfl (by show 2 * 0 + _ ≤ _; exact Nat.le_of_eq rfl) (hb hby at_72) (fun _ _ => ⟨rfl, e46', (by decide : 1 + 0 ≤ _), (by decide : 4 + 0 ≤ _)⟩)
            dsimp only [Pt.U, Pt.locs, Pt.cells, Pt.slots] at X48 l48 y48 z48 st48 hQ48
            subst l48 y48 z48
            obtain ⟨h48, e48⟩ : ∃ z, T48.heap = z := ⟨_, rfl⟩
            rw [e48] at hQ48
            obtain ⟨rr48, rfl, hs48, N48q, hh48⟩ := hQ48
            have N49 := Fr.app N47 N48q
            have e48' : T48.heap = h8 := e48.trans hh48
            rcases hs48 with ⟨rfl, hq48_0_0⟩ | ⟨rfl, hq48_1_0⟩
            · have pre50 : ∀ t, Steps p.tables e below (T48.setTop (mkF m 114 #[.val (.long q0_), .second, .val (.long q1_), .second, .val (.long q2_), .second, .val (.ref b1), .val (.long q1_), .second, .val (.long q2_), .second, .val (.int (1 : Int32)), .val (.int (0 : Int32)), .val (.int (1 : Int32)), .val (.int (1 : Int32)), .val (.int (1 : Int32))] [(.int (1 : Int32))])) t → Steps p.tables e below (s₁.setTop (entryFrame m #[(.long q0_), (.long q1_), (.long q2_)] maxLocals)) t := by
                intro t kt
                refine pre44 t ?_
                show Steps p.tables e below (T42.setTop (mkF m 42 #[.val (.long q0_), .second, .val (.long q1_), .second, .val (.long q2_), .second, .val (.ref b1), .val (.long q1_), .second, .val (.long q2_), .second, .val (.int (1 : Int32)), .unset, .unset, .unset, .unset] [(.int (lcmpW q0_ (-9223372036854775808 : Int64)))])) _
                refine XS.ifNo X42.here hx rfl (hb hby at_42) rfl ((if0 _ _).trans (teq ((lw_eq _ _).mpr hc45)).2) ?_
                show Steps p.tables e below (T42.setTop (mkF m 45 #[.val (.long q0_), .second, .val (.long q1_), .second, .val (.long q2_), .second, .val (.ref b1), .val (.long q1_), .second, .val (.long q2_), .second, .val (.int (1 : Int32)), .unset, .unset, .unset, .unset] [])) _
                refine XS.iconst X42.here hx rfl (hb hby at_45) ?_
                show Steps p.tables e below (T42.setTop (mkF m 46 #[.val (.long q0_), .second, .val (.long q1_), .second, .val (.long q2_), .second, .val (.ref b1), .val (.long q1_), .second, .val (.long q2_), .second, .val (.int (1 : Int32)), .unset, .unset, .unset, .unset] [(.int (0 : Int32))])) _
                refine XS.goto X42.here hx rfl (pc0 := 46) (pc' := 57) rfl (hb hby at_46) (by decide) (by decide) ?_
                show Steps p.tables e below (T42.setTop (mkF m 57 #[.val (.long q0_), .second, .val (.long q1_), .second, .val (.long q2_), .second, .val (.ref b1), .val (.long q1_), .second, .val (.long q2_), .second, .val (.int (1 : Int32)), .unset, .unset, .unset, .unset] [(.int (0 : Int32))])) _
                refine XS.istore X42.here hx rfl (hb hby at_57) rfl (l' := #[.val (.long q0_), .second, .val (.long q1_), .second, .val (.long q2_), .second, .val (.ref b1), .val (.long q1_), .second, .val (.long q2_), .second, .val (.int (1 : Int32)), .val (.int (0 : Int32)), .unset, .unset, .unset]) rfl ?_
                show Steps p.tables e below (T42.setTop (mkF m 59 #[.val (.long q0_), .second, .val (.long q1_), .second, .val (.long q2_), .second, .val (.ref b1), .val (.long q1_), .second, .val (.long q2_), .second, .val (.int (1 : Int32)), .val (.int (0 : Int32)), .unset, .unset, .unset] [])) _
                refine XS.aload X42.here hx rfl (hb hby at_59) rfl rfl ?_
                show Steps p.tables e below (T42.setTop (mkF m 61 #[.val (.long q0_), .second, .val (.long q1_), .second, .val (.long q2_), .second, .val (.ref b1), .val (.long q1_), .second, .val (.long q2_), .second, .val (.int (1 : Int32)), .val (.int (0 : Int32)), .unset, .unset, .unset] [(.ref b1)])) _
                refine XS.lload X42.here hx rfl (hb hby at_61) rfl ?_
                show Steps p.tables e below (T42.setTop (mkF m 63 #[.val (.long q0_), .second, .val (.long q1_), .second, .val (.long q2_), .second, .val (.ref b1), .val (.long q1_), .second, .val (.long q2_), .second, .val (.int (1 : Int32)), .val (.int (0 : Int32)), .unset, .unset, .unset] [(.long q1_), (.ref b1)])) _
                refine st46.trans ?_
                show Steps p.tables e below (T46.setTop (mkF m 66 #[.val (.long q0_), .second, .val (.long q1_), .second, .val (.long q2_), .second, .val (.ref b1), .val (.long q1_), .second, .val (.long q2_), .second, .val (.int (1 : Int32)), .val (.int (0 : Int32)), .unset, .unset, .unset] [(.int (1 : Int32))])) _
                refine XS.istore X46.here hx rfl (hb hby at_66) rfl (l' := #[.val (.long q0_), .second, .val (.long q1_), .second, .val (.long q2_), .second, .val (.ref b1), .val (.long q1_), .second, .val (.long q2_), .second, .val (.int (1 : Int32)), .val (.int (0 : Int32)), .val (.int (1 : Int32)), .unset, .unset]) rfl ?_
                show Steps p.tables e below (T46.setTop (mkF m 68 #[.val (.long q0_), .second, .val (.long q1_), .second, .val (.long q2_), .second, .val (.ref b1), .val (.long q1_), .second, .val (.long q2_), .second, .val (.int (1 : Int32)), .val (.int (0 : Int32)), .val (.int (1 : Int32)), .unset, .unset] [])) _
                refine XS.aload X46.here hx rfl (hb hby at_68) rfl rfl ?_
                show Steps p.tables e below (T46.setTop (mkF m 70 #[.val (.long q0_), .second, .val (.long q1_), .second, .val (.long q2_), .second, .val (.ref b1), .val (.long q1_), .second, .val (.long q2_), .second, .val (.int (1 : Int32)), .val (.int (0 : Int32)), .val (.int (1 : Int32)), .unset, .unset] [(.ref b1)])) _
                refine XS.lload X46.here hx rfl (hb hby at_70) rfl ?_
                show Steps p.tables e below (T46.setTop (mkF m 72 #[.val (.long q0_), .second, .val (.long q1_), .second, .val (.long q2_), .second, .val (.ref b1), .val (.long q1_), .second, .val (.long q2_), .second, .val (.int (1 : Int32)), .val (.int (0 : Int32)), .val (.int (1 : Int32)), .unset, .unset] [(.long q2_), (.ref b1)])) _
                refine st48.trans ?_
                show Steps p.tables e below (T48.setTop (mkF m 75 #[.val (.long q0_), .second, .val (.long q1_), .second, .val (.long q2_), .second, .val (.ref b1), .val (.long q1_), .second, .val (.long q2_), .second, .val (.int (1 : Int32)), .val (.int (0 : Int32)), .val (.int (1 : Int32)), .unset, .unset] [(.int (1 : Int32))])) _
                refine XS.istore X48.here hx rfl (hb hby at_75) rfl (l' := #[.val (.long q0_), .second, .val (.long q1_), .second, .val (.long q2_), .second, .val (.ref b1), .val (.long q1_), .second, .val (.long q2_), .second, .val (.int (1 : Int32)), .val (.int (0 : Int32)), .val (.int (1 : Int32)), .val (.int (1 : Int32)), .unset]) rfl ?_
                show Steps p.tables e below (T48.setTop (mkF m 77 #[.val (.long q0_), .second, .val (.long q1_), .second, .val (.long q2_), .second, .val (.ref b1), .val (.long q1_), .second, .val (.long q2_), .second, .val (.int (1 : Int32)), .val (.int (0 : Int32)), .val (.int (1 : Int32)), .val (.int (1 : Int32)), .unset] [])) _
                refine XS.iload X48.here hx rfl (hb hby at_77) rfl ?_
                show Steps p.tables e below (T48.setTop (mkF m 79 #[.val (.long q0_), .second, .val (.long q1_), .second, .val (.long q2_), .second, .val (.ref b1), .val (.long q1_), .second, .val (.long q2_), .second, .val (.int (1 : Int32)), .val (.int (0 : Int32)), .val (.int (1 : Int32)), .val (.int (1 : Int32)), .unset] [(.int (1 : Int32))])) _
                refine XS.ifNo X48.here hx rfl (hb hby at_79) rfl ((if0 _ _).trans (feq (by decide : ¬ ((1 : Int32) = (0 : Int32)))).1) ?_
                show Steps p.tables e below (T48.setTop (mkF m 82 #[.val (.long q0_), .second, .val (.long q1_), .second, .val (.long q2_), .second, .val (.ref b1), .val (.long q1_), .second, .val (.long q2_), .second, .val (.int (1 : Int32)), .val (.int (0 : Int32)), .val (.int (1 : Int32)), .val (.int (1 : Int32)), .unset] [])) _
                refine XS.iload X48.here hx rfl (hb hby at_82) rfl ?_
                show Steps p.tables e below (T48.setTop (mkF m 84 #[.val (.long q0_), .second, .val (.long q1_), .second, .val (.long q2_), .second, .val (.ref b1), .val (.long q1_), .second, .val (.long q2_), .second, .val (.int (1 : Int32)), .val (.int (0 : Int32)), .val (.int (1 : Int32)), .val (.int (1 : Int32)), .unset] [(.int (1 : Int32))])) _
                refine XS.ifNo X48.here hx rfl (hb hby at_84) rfl ((if0 _ _).trans (feq (by decide : ¬ ((1 : Int32) = (0 : Int32)))).1) ?_
                show Steps p.tables e below (T48.setTop (mkF m 87 #[.val (.long q0_), .second, .val (.long q1_), .second, .val (.long q2_), .second, .val (.ref b1), .val (.long q1_), .second, .val (.long q2_), .second, .val (.int (1 : Int32)), .val (.int (0 : Int32)), .val (.int (1 : Int32)), .val (.int (1 : Int32)), .unset] [])) _
                refine XS.iconst X48.here hx rfl (hb hby at_87) ?_
                show Steps p.tables e below (T48.setTop (mkF m 88 #[.val (.long q0_), .second, .val (.long q1_), .second, .val (.long q2_), .second, .val (.ref b1), .val (.long q1_), .second, .val (.long q2_), .second, .val (.int (1 : Int32)), .val (.int (0 : Int32)), .val (.int (1 : Int32)), .val (.int (1 : Int32)), .unset] [(.int (1 : Int32))])) _
                refine XS.goto X48.here hx rfl (pc0 := 88) (pc' := 92) rfl (hb hby at_88) (by decide) (by decide) ?_
                show Steps p.tables e below (T48.setTop (mkF m 92 #[.val (.long q0_), .second, .val (.long q1_), .second, .val (.long q2_), .second, .val (.ref b1), .val (.long q1_), .second, .val (.long q2_), .second, .val (.int (1 : Int32)), .val (.int (0 : Int32)), .val (.int (1 : Int32)), .val (.int (1 : Int32)), .unset] [(.int (1 : Int32))])) _
                refine XS.istore X48.here hx rfl (hb hby at_92) rfl (l' := #[.val (.long q0_), .second, .val (.long q1_), .second, .val (.long q2_), .second, .val (.ref b1), .val (.long q1_), .second, .val (.long q2_), .second, .val (.int (1 : Int32)), .val (.int (0 : Int32)), .val (.int (1 : Int32)), .val (.int (1 : Int32)), .val (.int (1 : Int32))]) rfl ?_
                show Steps p.tables e below (T48.setTop (mkF m 94 #[.val (.long q0_), .second, .val (.long q1_), .second, .val (.long q2_), .second, .val (.ref b1), .val (.long q1_), .second, .val (.long q2_), .second, .val (.int (1 : Int32)), .val (.int (0 : Int32)), .val (.int (1 : Int32)), .val (.int (1 : Int32)), .val (.int (1 : Int32))] [])) _
                refine XS.iload X48.here hx rfl (hb hby at_94) rfl ?_
                show Steps p.tables e below (T48.setTop (mkF m 96 #[.val (.long q0_), .second, .val (.long q1_), .second, .val (.long q2_), .second, .val (.ref b1), .val (.long q1_), .second, .val (.long q2_), .second, .val (.int (1 : Int32)), .val (.int (0 : Int32)), .val (.int (1 : Int32)), .val (.int (1 : Int32)), .val (.int (1 : Int32))] [(.int (1 : Int32))])) _
                refine XS.ifNo X48.here hx rfl (hb hby at_96) rfl ((if0 _ _).trans (feq (by decide : ¬ ((1 : Int32) = (0 : Int32)))).1) ?_
                show Steps p.tables e below (T48.setTop (mkF m 99 #[.val (.long q0_), .second, .val (.long q1_), .second, .val (.long q2_), .second, .val (.ref b1), .val (.long q1_), .second, .val (.long q2_), .second, .val (.int (1 : Int32)), .val (.int (0 : Int32)), .val (.int (1 : Int32)), .val (.int (1 : Int32)), .val (.int (1 : Int32))] [])) _
                refine XS.iload X48.here hx rfl (hb hby at_99) rfl ?_
                show Steps p.tables e below (T48.setTop (mkF m 101 #[.val (.long q0_), .second, .val (.long q1_), .second, .val (.long q2_), .second, .val (.ref b1), .val (.long q1_), .second, .val (.long q2_), .second, .val (.int (1 : Int32)), .val (.int (0 : Int32)), .val (.int (1 : Int32)), .val (.int (1 : Int32)), .val (.int (1 : Int32))] [(.int (0 : Int32))])) _
                refine XS.ifNo X48.here hx rfl (hb hby at_101) rfl ((if0 _ _).trans (teq (by decide : (0 : Int32) = (0 : Int32))).2) ?_
                show Steps p.tables e below (T48.setTop (mkF m 104 #[.val (.long q0_), .second, .val (.long q1_), .second, .val (.long q2_), .second, .val (.ref b1), .val (.long q1_), .second, .val (.long q2_), .second, .val (.int (1 : Int32)), .val (.int (0 : Int32)), .val (.int (1 : Int32)), .val (.int (1 : Int32)), .val (.int (1 : Int32))] [])) _
                refine XS.iload X48.here hx rfl (hb hby at_104) rfl ?_
                show Steps p.tables e below (T48.setTop (mkF m 106 #[.val (.long q0_), .second, .val (.long q1_), .second, .val (.long q2_), .second, .val (.ref b1), .val (.long q1_), .second, .val (.long q2_), .second, .val (.int (1 : Int32)), .val (.int (0 : Int32)), .val (.int (1 : Int32)), .val (.int (1 : Int32)), .val (.int (1 : Int32))] [(.int (1 : Int32))])) _
                refine XS.ifNo X48.here hx rfl (hb hby at_106) rfl ((if0 _ _).trans (feq (by decide : ¬ ((1 : Int32) = (0 : Int32)))).1) ?_
                show Steps p.tables e below (T48.setTop (mkF m 109 #[.val (.long q0_), .second, .val (.long q1_), .second, .val (.long q2_), .second, .val (.ref b1), .val (.long q1_), .second, .val (.long q2_), .second, .val (.int (1 : Int32)), .val (.int (0 : Int32)), .val (.int (1 : Int32)), .val (.int (1 : Int32)), .val (.int (1 : Int32))] [])) _
                refine XS.iconst X48.here hx rfl (hb hby at_109) ?_
                show Steps p.tables e below (T48.setTop (mkF m 110 #[.val (.long q0_), .second, .val (.long q1_), .second, .val (.long q2_), .second, .val (.ref b1), .val (.long q1_), .second, .val (.long q2_), .second, .val (.int (1 : Int32)), .val (.int (0 : Int32)), .val (.int (1 : Int32)), .val (.int (1 : Int32)), .val (.int (1 : Int32))] [(.int (1 : Int32))])) _
                refine XS.goto X48.here hx rfl (pc0 := 110) (pc' := 114) rfl (hb hby at_110) (by decide) (by decide) ?_
                exact kt
              obtain ⟨fs, hr, hrun, hended, hW, hsame⟩ := X48.leave (v := some (.int (1 : Int32))) (fun h => by rw [Bd.returns] at h; cases h)
              refine ⟨_, _, pre50 _ (retN X48 hx (t := .boolean) Bd.returns (by simp) (hb hby at_114) hr), hrun, hended, _, _, rfl, ?_, ⟨_, rfl⟩, hW, hsame.mono (by decide) (by decide)⟩
              show QLaw Z q0_ q1_ q2_ h0 n0 _ T48.heap _
              rw [e48']
              exact ⟨rfl, N49⟩
            · have pre52 : ∀ t, Steps p.tables e below (T48.setTop (mkF m 114 #[.val (.long q0_), .second, .val (.long q1_), .second, .val (.long q2_), .second, .val (.ref b1), .val (.long q1_), .second, .val (.long q2_), .second, .val (.int (1 : Int32)), .val (.int (0 : Int32)), .val (.int (1 : Int32)), .val (.int (0 : Int32)), .val (.int (0 : Int32))] [(.int (0 : Int32))])) t → Steps p.tables e below (s₁.setTop (entryFrame m #[(.long q0_), (.long q1_), (.long q2_)] maxLocals)) t := by
                intro t kt
                refine pre44 t ?_
                show Steps p.tables e below (T42.setTop (mkF m 42 #[.val (.long q0_), .second, .val (.long q1_), .second, .val (.long q2_), .second, .val (.ref b1), .val (.long q1_), .second, .val (.long q2_), .second, .val (.int (1 : Int32)), .unset, .unset, .unset, .unset] [(.int (lcmpW q0_ (-9223372036854775808 : Int64)))])) _
                refine XS.ifNo X42.here hx rfl (hb hby at_42) rfl ((if0 _ _).trans (teq ((lw_eq _ _).mpr hc45)).2) ?_
                show Steps p.tables e below (T42.setTop (mkF m 45 #[.val (.long q0_), .second, .val (.long q1_), .second, .val (.long q2_), .second, .val (.ref b1), .val (.long q1_), .second, .val (.long q2_), .second, .val (.int (1 : Int32)), .unset, .unset, .unset, .unset] [])) _
                refine XS.iconst X42.here hx rfl (hb hby at_45) ?_
                show Steps p.tables e below (T42.setTop (mkF m 46 #[.val (.long q0_), .second, .val (.long q1_), .second, .val (.long q2_), .second, .val (.ref b1), .val (.long q1_), .second, .val (.long q2_), .second, .val (.int (1 : Int32)), .unset, .unset, .unset, .unset] [(.int (0 : Int32))])) _
                refine XS.goto X42.here hx rfl (pc0 := 46) (pc' := 57) rfl (hb hby at_46) (by decide) (by decide) ?_
                show Steps p.tables e below (T42.setTop (mkF m 57 #[.val (.long q0_), .second, .val (.long q1_), .second, .val (.long q2_), .second, .val (.ref b1), .val (.long q1_), .second, .val (.long q2_), .second, .val (.int (1 : Int32)), .unset, .unset, .unset, .unset] [(.int (0 : Int32))])) _
                refine XS.istore X42.here hx rfl (hb hby at_57) rfl (l' := #[.val (.long q0_), .second, .val (.long q1_), .second, .val (.long q2_), .second, .val (.ref b1), .val (.long q1_), .second, .val (.long q2_), .second, .val (.int (1 : Int32)), .val (.int (0 : Int32)), .unset, .unset, .unset]) rfl ?_
                show Steps p.tables e below (T42.setTop (mkF m 59 #[.val (.long q0_), .second, .val (.long q1_), .second, .val (.long q2_), .second, .val (.ref b1), .val (.long q1_), .second, .val (.long q2_), .second, .val (.int (1 : Int32)), .val (.int (0 : Int32)), .unset, .unset, .unset] [])) _
                refine XS.aload X42.here hx rfl (hb hby at_59) rfl rfl ?_
                show Steps p.tables e below (T42.setTop (mkF m 61 #[.val (.long q0_), .second, .val (.long q1_), .second, .val (.long q2_), .second, .val (.ref b1), .val (.long q1_), .second, .val (.long q2_), .second, .val (.int (1 : Int32)), .val (.int (0 : Int32)), .unset, .unset, .unset] [(.ref b1)])) _
                refine XS.lload X42.here hx rfl (hb hby at_61) rfl ?_
                show Steps p.tables e below (T42.setTop (mkF m 63 #[.val (.long q0_), .second, .val (.long q1_), .second, .val (.long q2_), .second, .val (.ref b1), .val (.long q1_), .second, .val (.long q2_), .second, .val (.int (1 : Int32)), .val (.int (0 : Int32)), .unset, .unset, .unset] [(.long q1_), (.ref b1)])) _
                refine st46.trans ?_
                show Steps p.tables e below (T46.setTop (mkF m 66 #[.val (.long q0_), .second, .val (.long q1_), .second, .val (.long q2_), .second, .val (.ref b1), .val (.long q1_), .second, .val (.long q2_), .second, .val (.int (1 : Int32)), .val (.int (0 : Int32)), .unset, .unset, .unset] [(.int (1 : Int32))])) _
                refine XS.istore X46.here hx rfl (hb hby at_66) rfl (l' := #[.val (.long q0_), .second, .val (.long q1_), .second, .val (.long q2_), .second, .val (.ref b1), .val (.long q1_), .second, .val (.long q2_), .second, .val (.int (1 : Int32)), .val (.int (0 : Int32)), .val (.int (1 : Int32)), .unset, .unset]) rfl ?_
                show Steps p.tables e below (T46.setTop (mkF m 68 #[.val (.long q0_), .second, .val (.long q1_), .second, .val (.long q2_), .second, .val (.ref b1), .val (.long q1_), .second, .val (.long q2_), .second, .val (.int (1 : Int32)), .val (.int (0 : Int32)), .val (.int (1 : Int32)), .unset, .unset] [])) _
                refine XS.aload X46.here hx rfl (hb hby at_68) rfl rfl ?_
                show Steps p.tables e below (T46.setTop (mkF m 70 #[.val (.long q0_), .second, .val (.long q1_), .second, .val (.long q2_), .second, .val (.ref b1), .val (.long q1_), .second, .val (.long q2_), .second, .val (.int (1 : Int32)), .val (.int (0 : Int32)), .val (.int (1 : Int32)), .unset, .unset] [(.ref b1)])) _
                refine XS.lload X46.here hx rfl (hb hby at_70) rfl ?_
                show Steps p.tables e below (T46.setTop (mkF m 72 #[.val (.long q0_), .second, .val (.long q1_), .second, .val (.long q2_), .second, .val (.ref b1), .val (.long q1_), .second, .val (.long q2_), .second, .val (.int (1 : Int32)), .val (.int (0 : Int32)), .val (.int (1 : Int32)), .unset, .unset] [(.long q2_), (.ref b1)])) _
                refine st48.trans ?_
                show Steps p.tables e below (T48.setTop (mkF m 75 #[.val (.long q0_), .second, .val (.long q1_), .second, .val (.long q2_), .second, .val (.ref b1), .val (.long q1_), .second, .val (.long q2_), .second, .val (.int (1 : Int32)), .val (.int (0 : Int32)), .val (.int (1 : Int32)), .unset, .unset] [(.int (0 : Int32))])) _
                refine XS.istore X48.here hx rfl (hb hby at_75) rfl (l' := #[.val (.long q0_), .second, .val (.long q1_), .second, .val (.long q2_), .second, .val (.ref b1), .val (.long q1_), .second, .val (.long q2_), .second, .val (.int (1 : Int32)), .val (.int (0 : Int32)), .val (.int (1 : Int32)), .val (.int (0 : Int32)), .unset]) rfl ?_
                show Steps p.tables e below (T48.setTop (mkF m 77 #[.val (.long q0_), .second, .val (.long q1_), .second, .val (.long q2_), .second, .val (.ref b1), .val (.long q1_), .second, .val (.long q2_), .second, .val (.int (1 : Int32)), .val (.int (0 : Int32)), .val (.int (1 : Int32)), .val (.int (0 : Int32)), .unset] [])) _
                refine XS.iload X48.here hx rfl (hb hby at_77) rfl ?_
                show Steps p.tables e below (T48.setTop (mkF m 79 #[.val (.long q0_), .second, .val (.long q1_), .second, .val (.long q2_), .second, .val (.ref b1), .val (.long q1_), .second, .val (.long q2_), .second, .val (.int (1 : Int32)), .val (.int (0 : Int32)), .val (.int (1 : Int32)), .val (.int (0 : Int32)), .unset] [(.int (1 : Int32))])) _
                refine XS.ifNo X48.here hx rfl (hb hby at_79) rfl ((if0 _ _).trans (feq (by decide : ¬ ((1 : Int32) = (0 : Int32)))).1) ?_
                show Steps p.tables e below (T48.setTop (mkF m 82 #[.val (.long q0_), .second, .val (.long q1_), .second, .val (.long q2_), .second, .val (.ref b1), .val (.long q1_), .second, .val (.long q2_), .second, .val (.int (1 : Int32)), .val (.int (0 : Int32)), .val (.int (1 : Int32)), .val (.int (0 : Int32)), .unset] [])) _
                refine XS.iload X48.here hx rfl (hb hby at_82) rfl ?_
                show Steps p.tables e below (T48.setTop (mkF m 84 #[.val (.long q0_), .second, .val (.long q1_), .second, .val (.long q2_), .second, .val (.ref b1), .val (.long q1_), .second, .val (.long q2_), .second, .val (.int (1 : Int32)), .val (.int (0 : Int32)), .val (.int (1 : Int32)), .val (.int (0 : Int32)), .unset] [(.int (0 : Int32))])) _
                refine XS.ifYes X48.here hx rfl (pc0 := 84) (pc' := 91) rfl (hb hby at_84) rfl ((if0 _ _).trans (teq (by decide : (0 : Int32) = (0 : Int32))).1) (by decide) (by decide) ?_
                show Steps p.tables e below (T48.setTop (mkF m 91 #[.val (.long q0_), .second, .val (.long q1_), .second, .val (.long q2_), .second, .val (.ref b1), .val (.long q1_), .second, .val (.long q2_), .second, .val (.int (1 : Int32)), .val (.int (0 : Int32)), .val (.int (1 : Int32)), .val (.int (0 : Int32)), .unset] [])) _
                refine XS.iconst X48.here hx rfl (hb hby at_91) ?_
                show Steps p.tables e below (T48.setTop (mkF m 92 #[.val (.long q0_), .second, .val (.long q1_), .second, .val (.long q2_), .second, .val (.ref b1), .val (.long q1_), .second, .val (.long q2_), .second, .val (.int (1 : Int32)), .val (.int (0 : Int32)), .val (.int (1 : Int32)), .val (.int (0 : Int32)), .unset] [(.int (0 : Int32))])) _
                refine XS.istore X48.here hx rfl (hb hby at_92) rfl (l' := #[.val (.long q0_), .second, .val (.long q1_), .second, .val (.long q2_), .second, .val (.ref b1), .val (.long q1_), .second, .val (.long q2_), .second, .val (.int (1 : Int32)), .val (.int (0 : Int32)), .val (.int (1 : Int32)), .val (.int (0 : Int32)), .val (.int (0 : Int32))]) rfl ?_
                show Steps p.tables e below (T48.setTop (mkF m 94 #[.val (.long q0_), .second, .val (.long q1_), .second, .val (.long q2_), .second, .val (.ref b1), .val (.long q1_), .second, .val (.long q2_), .second, .val (.int (1 : Int32)), .val (.int (0 : Int32)), .val (.int (1 : Int32)), .val (.int (0 : Int32)), .val (.int (0 : Int32))] [])) _
                refine XS.iload X48.here hx rfl (hb hby at_94) rfl ?_
                show Steps p.tables e below (T48.setTop (mkF m 96 #[.val (.long q0_), .second, .val (.long q1_), .second, .val (.long q2_), .second, .val (.ref b1), .val (.long q1_), .second, .val (.long q2_), .second, .val (.int (1 : Int32)), .val (.int (0 : Int32)), .val (.int (1 : Int32)), .val (.int (0 : Int32)), .val (.int (0 : Int32))] [(.int (1 : Int32))])) _
                refine XS.ifNo X48.here hx rfl (hb hby at_96) rfl ((if0 _ _).trans (feq (by decide : ¬ ((1 : Int32) = (0 : Int32)))).1) ?_
                show Steps p.tables e below (T48.setTop (mkF m 99 #[.val (.long q0_), .second, .val (.long q1_), .second, .val (.long q2_), .second, .val (.ref b1), .val (.long q1_), .second, .val (.long q2_), .second, .val (.int (1 : Int32)), .val (.int (0 : Int32)), .val (.int (1 : Int32)), .val (.int (0 : Int32)), .val (.int (0 : Int32))] [])) _
                refine XS.iload X48.here hx rfl (hb hby at_99) rfl ?_
                show Steps p.tables e below (T48.setTop (mkF m 101 #[.val (.long q0_), .second, .val (.long q1_), .second, .val (.long q2_), .second, .val (.ref b1), .val (.long q1_), .second, .val (.long q2_), .second, .val (.int (1 : Int32)), .val (.int (0 : Int32)), .val (.int (1 : Int32)), .val (.int (0 : Int32)), .val (.int (0 : Int32))] [(.int (0 : Int32))])) _
                refine XS.ifNo X48.here hx rfl (hb hby at_101) rfl ((if0 _ _).trans (teq (by decide : (0 : Int32) = (0 : Int32))).2) ?_
                show Steps p.tables e below (T48.setTop (mkF m 104 #[.val (.long q0_), .second, .val (.long q1_), .second, .val (.long q2_), .second, .val (.ref b1), .val (.long q1_), .second, .val (.long q2_), .second, .val (.int (1 : Int32)), .val (.int (0 : Int32)), .val (.int (1 : Int32)), .val (.int (0 : Int32)), .val (.int (0 : Int32))] [])) _
                refine XS.iload X48.here hx rfl (hb hby at_104) rfl ?_
                show Steps p.tables e below (T48.setTop (mkF m 106 #[.val (.long q0_), .second, .val (.long q1_), .second, .val (.long q2_), .second, .val (.ref b1), .val (.long q1_), .second, .val (.long q2_), .second, .val (.int (1 : Int32)), .val (.int (0 : Int32)), .val (.int (1 : Int32)), .val (.int (0 : Int32)), .val (.int (0 : Int32))] [(.int (0 : Int32))])) _
                refine XS.ifYes X48.here hx rfl (pc0 := 106) (pc' := 113) rfl (hb hby at_106) rfl ((if0 _ _).trans (teq (by decide : (0 : Int32) = (0 : Int32))).1) (by decide) (by decide) ?_
                show Steps p.tables e below (T48.setTop (mkF m 113 #[.val (.long q0_), .second, .val (.long q1_), .second, .val (.long q2_), .second, .val (.ref b1), .val (.long q1_), .second, .val (.long q2_), .second, .val (.int (1 : Int32)), .val (.int (0 : Int32)), .val (.int (1 : Int32)), .val (.int (0 : Int32)), .val (.int (0 : Int32))] [])) _
                refine XS.iconst X48.here hx rfl (hb hby at_113) ?_
                exact kt
              exfalso
              simp only [Int64.lt_iff_toInt_lt] at hq11_0_0 hq14_1_0 hq42_0_0 hc45 hq46_0_0 hq48_1_0
              omega
          · obtain ⟨cq53, kq53, q53a, q53b, q53c⟩ := isOf hZ e46' g8_0
            obtain ⟨_, _, ⟨T53, L53, k53, n53⟩, -, X53, ⟨Lc53, hQ53, l53, y53, z53⟩, st53⟩ := X46.virtualBack hx (y := (⟨"com/example/fawley/fawley/store/StoredValue", "hasExpiredAt", "(J)Z"⟩ : MethodName)) (z := (⟨"com/example/fawley/fawley/store/StoredValue", "hasExpiredAt", "(J)Z"⟩ : MethodName)) hown (mvT hZ (hw _ (List.mem_of_getElem? (i := 24) rfl))) (mvT hZ (hw _ (List.mem_of_getElem? (i := 25) rfl))) (notFace_of_selects (args := #[]) (mvT hZ (hw _ (List.mem_of_getElem? (i := 27) rfl)))) (mvT hZ (hw _ (List.mem_of_getElem? (i := 27) rfl))) (mvT hZ (hw _ (List.mem_of_getElem? (i := 26) rfl))) (by decide) (backOf (W := 0) (rmHas l Z a0 hw [] b1 q2_ q0_ h8 n0 f12 g8_4) hZ (hw _ (List.mem_of_getElem? (i := 28) rfl)) (hw _ (List.mem_of_getElem? (i := 2) rfl)) (by decide) (by decide)) q53a q53c (g := (mkF m 72 #[.val (.long q0_), .second, .val (.long q1_), .second, .val (.long q2_), .second, .val (.ref b1), .val (.long q1_), .second, .val (.long q2_), .second, .val (.int (1 : Int32)), .val (.int (0 : Int32)), .val (.int (0 : Int32)), .unset, .unset] [(.long q2_), (.ref b1)])) rfl (by rw [hml]; rfl) (Steps.refl _) (argsL := [(.long q2_)]) (rest := []) (lenOf pd_2 rfl) rfl (by show 2 * 0 + _ ≤ _; exact Nat.le_of_eq rfl) (hb hby at_72) (fun _ _ => ⟨rfl, e46', (by decide : 1 + 0 ≤ _), (by decide : 4 + 0 ≤ _)⟩)
            dsimp only [Pt.U, Pt.locs, Pt.cells, Pt.slots] at X53 l53 y53 z53 st53 hQ53
            subst l53 y53 z53
            obtain ⟨h53, e53⟩ : ∃ z, T53.heap = z := ⟨_, rfl⟩
            rw [e53] at hQ53
            obtain ⟨rr53, rfl, hs53, N53q, hh53⟩ := hQ53
            have N54 := Fr.app N47 N53q
            have e53' : T53.heap = h8 := e53.trans hh53
            rcases hs53 with ⟨rfl, hq53_0_0⟩ | ⟨rfl, hq53_1_0⟩
            · have pre55 : ∀ t, Steps p.tables e below (T53.setTop (mkF m 114 #[.val (.long q0_), .second, .val (.long q1_), .second, .val (.long q2_), .second, .val (.ref b1), .val (.long q1_), .second, .val (.long q2_), .second, .val (.int (1 : Int32)), .val (.int (0 : Int32)), .val (.int (0 : Int32)), .val (.int (1 : Int32)), .val (.int (1 : Int32))] [(.int (1 : Int32))])) t → Steps p.tables e below (s₁.setTop (entryFrame m #[(.long q0_), (.long q1_), (.long q2_)] maxLocals)) t := by
                intro t kt
                refine pre44 t ?_
                show Steps p.tables e below (T42.setTop (mkF m 42 #[.val (.long q0_), .second, .val (.long q1_), .second, .val (.long q2_), .second, .val (.ref b1), .val (.long q1_), .second, .val (.long q2_), .second, .val (.int (1 : Int32)), .unset, .unset, .unset, .unset] [(.int (lcmpW q0_ (-9223372036854775808 : Int64)))])) _
                refine XS.ifNo X42.here hx rfl (hb hby at_42) rfl ((if0 _ _).trans (teq ((lw_eq _ _).mpr hc45)).2) ?_
                show Steps p.tables e below (T42.setTop (mkF m 45 #[.val (.long q0_), .second, .val (.long q1_), .second, .val (.long q2_), .second, .val (.ref b1), .val (.long q1_), .second, .val (.long q2_), .second, .val (.int (1 : Int32)), .unset, .unset, .unset, .unset] [])) _
                refine XS.iconst X42.here hx rfl (hb hby at_45) ?_
                show Steps p.tables e below (T42.setTop (mkF m 46 #[.val (.long q0_), .second, .val (.long q1_), .second, .val (.long q2_), .second, .val (.ref b1), .val (.long q1_), .second, .val (.long q2_), .second, .val (.int (1 : Int32)), .unset, .unset, .unset, .unset] [(.int (0 : Int32))])) _
                refine XS.goto X42.here hx rfl (pc0 := 46) (pc' := 57) rfl (hb hby at_46) (by decide) (by decide) ?_
                show Steps p.tables e below (T42.setTop (mkF m 57 #[.val (.long q0_), .second, .val (.long q1_), .second, .val (.long q2_), .second, .val (.ref b1), .val (.long q1_), .second, .val (.long q2_), .second, .val (.int (1 : Int32)), .unset, .unset, .unset, .unset] [(.int (0 : Int32))])) _
                refine XS.istore X42.here hx rfl (hb hby at_57) rfl (l' := #[.val (.long q0_), .second, .val (.long q1_), .second, .val (.long q2_), .second, .val (.ref b1), .val (.long q1_), .second, .val (.long q2_), .second, .val (.int (1 : Int32)), .val (.int (0 : Int32)), .unset, .unset, .unset]) rfl ?_
                show Steps p.tables e below (T42.setTop (mkF m 59 #[.val (.long q0_), .second, .val (.long q1_), .second, .val (.long q2_), .second, .val (.ref b1), .val (.long q1_), .second, .val (.long q2_), .second, .val (.int (1 : Int32)), .val (.int (0 : Int32)), .unset, .unset, .unset] [])) _
                refine XS.aload X42.here hx rfl (hb hby at_59) rfl rfl ?_
                show Steps p.tables e below (T42.setTop (mkF m 61 #[.val (.long q0_), .second, .val (.long q1_), .second, .val (.long q2_), .second, .val (.ref b1), .val (.long q1_), .second, .val (.long q2_), .second, .val (.int (1 : Int32)), .val (.int (0 : Int32)), .unset, .unset, .unset] [(.ref b1)])) _
                refine XS.lload X42.here hx rfl (hb hby at_61) rfl ?_
                show Steps p.tables e below (T42.setTop (mkF m 63 #[.val (.long q0_), .second, .val (.long q1_), .second, .val (.long q2_), .second, .val (.ref b1), .val (.long q1_), .second, .val (.long q2_), .second, .val (.int (1 : Int32)), .val (.int (0 : Int32)), .unset, .unset, .unset] [(.long q1_), (.ref b1)])) _
                refine st46.trans ?_
                show Steps p.tables e below (T46.setTop (mkF m 66 #[.val (.long q0_), .second, .val (.long q1_), .second, .val (.long q2_), .second, .val (.ref b1), .val (.long q1_), .second, .val (.long q2_), .second, .val (.int (1 : Int32)), .val (.int (0 : Int32)), .unset, .unset, .unset] [(.int (0 : Int32))])) _
                refine XS.istore X46.here hx rfl (hb hby at_66) rfl (l' := #[.val (.long q0_), .second, .val (.long q1_), .second, .val (.long q2_), .second, .val (.ref b1), .val (.long q1_), .second, .val (.long q2_), .second, .val (.int (1 : Int32)), .val (.int (0 : Int32)), .val (.int (0 : Int32)), .unset, .unset]) rfl ?_
                show Steps p.tables e below (T46.setTop (mkF m 68 #[.val (.long q0_), .second, .val (.long q1_), .second, .val (.long q2_), .second, .val (.ref b1), .val (.long q1_), .second, .val (.long q2_), .second, .val (.int (1 : Int32)), .val (.int (0 : Int32)), .val (.int (0 : Int32)), .unset, .unset] [])) _
                refine XS.aload X46.here hx rfl (hb hby at_68) rfl rfl ?_
                show Steps p.tables e below (T46.setTop (mkF m 70 #[.val (.long q0_), .second, .val (.long q1_), .second, .val (.long q2_), .second, .val (.ref b1), .val (.long q1_), .second, .val (.long q2_), .second, .val (.int (1 : Int32)), .val (.int (0 : Int32)), .val (.int (0 : Int32)), .unset, .unset] [(.ref b1)])) _
                refine XS.lload X46.here hx rfl (hb hby at_70) rfl ?_
                show Steps p.tables e below (T46.setTop (mkF m 72 #[.val (.long q0_), .second, .val (.long q1_), .second, .val (.long q2_), .second, .val (.ref b1), .val (.long q1_), .second, .val (.long q2_), .second, .val (.int (1 : Int32)), .val (.int (0 : Int32)), .val (.int (0 : Int32)), .unset, .unset] [(.long q2_), (.ref b1)])) _
                refine st53.trans ?_
                show Steps p.tables e below (T53.setTop (mkF m 75 #[.val (.long q0_), .second, .val (.long q1_), .second, .val (.long q2_), .second, .val (.ref b1), .val (.long q1_), .second, .val (.long q2_), .second, .val (.int (1 : Int32)), .val (.int (0 : Int32)), .val (.int (0 : Int32)), .unset, .unset] [(.int (1 : Int32))])) _
                refine XS.istore X53.here hx rfl (hb hby at_75) rfl (l' := #[.val (.long q0_), .second, .val (.long q1_), .second, .val (.long q2_), .second, .val (.ref b1), .val (.long q1_), .second, .val (.long q2_), .second, .val (.int (1 : Int32)), .val (.int (0 : Int32)), .val (.int (0 : Int32)), .val (.int (1 : Int32)), .unset]) rfl ?_
                show Steps p.tables e below (T53.setTop (mkF m 77 #[.val (.long q0_), .second, .val (.long q1_), .second, .val (.long q2_), .second, .val (.ref b1), .val (.long q1_), .second, .val (.long q2_), .second, .val (.int (1 : Int32)), .val (.int (0 : Int32)), .val (.int (0 : Int32)), .val (.int (1 : Int32)), .unset] [])) _
                refine XS.iload X53.here hx rfl (hb hby at_77) rfl ?_
                show Steps p.tables e below (T53.setTop (mkF m 79 #[.val (.long q0_), .second, .val (.long q1_), .second, .val (.long q2_), .second, .val (.ref b1), .val (.long q1_), .second, .val (.long q2_), .second, .val (.int (1 : Int32)), .val (.int (0 : Int32)), .val (.int (0 : Int32)), .val (.int (1 : Int32)), .unset] [(.int (0 : Int32))])) _
                refine XS.ifYes X53.here hx rfl (pc0 := 79) (pc' := 87) rfl (hb hby at_79) rfl ((if0 _ _).trans (teq (by decide : (0 : Int32) = (0 : Int32))).1) (by decide) (by decide) ?_
                show Steps p.tables e below (T53.setTop (mkF m 87 #[.val (.long q0_), .second, .val (.long q1_), .second, .val (.long q2_), .second, .val (.ref b1), .val (.long q1_), .second, .val (.long q2_), .second, .val (.int (1 : Int32)), .val (.int (0 : Int32)), .val (.int (0 : Int32)), .val (.int (1 : Int32)), .unset] [])) _
                refine XS.iconst X53.here hx rfl (hb hby at_87) ?_
                show Steps p.tables e below (T53.setTop (mkF m 88 #[.val (.long q0_), .second, .val (.long q1_), .second, .val (.long q2_), .second, .val (.ref b1), .val (.long q1_), .second, .val (.long q2_), .second, .val (.int (1 : Int32)), .val (.int (0 : Int32)), .val (.int (0 : Int32)), .val (.int (1 : Int32)), .unset] [(.int (1 : Int32))])) _
                refine XS.goto X53.here hx rfl (pc0 := 88) (pc' := 92) rfl (hb hby at_88) (by decide) (by decide) ?_
                show Steps p.tables e below (T53.setTop (mkF m 92 #[.val (.long q0_), .second, .val (.long q1_), .second, .val (.long q2_), .second, .val (.ref b1), .val (.long q1_), .second, .val (.long q2_), .second, .val (.int (1 : Int32)), .val (.int (0 : Int32)), .val (.int (0 : Int32)), .val (.int (1 : Int32)), .unset] [(.int (1 : Int32))])) _
                refine XS.istore X53.here hx rfl (hb hby at_92) rfl (l' := #[.val (.long q0_), .second, .val (.long q1_), .second, .val (.long q2_), .second, .val (.ref b1), .val (.long q1_), .second, .val (.long q2_), .second, .val (.int (1 : Int32)), .val (.int (0 : Int32)), .val (.int (0 : Int32)), .val (.int (1 : Int32)), .val (.int (1 : Int32))]) rfl ?_
                show Steps p.tables e below (T53.setTop (mkF m 94 #[.val (.long q0_), .second, .val (.long q1_), .second, .val (.long q2_), .second, .val (.ref b1), .val (.long q1_), .second, .val (.long q2_), .second, .val (.int (1 : Int32)), .val (.int (0 : Int32)), .val (.int (0 : Int32)), .val (.int (1 : Int32)), .val (.int (1 : Int32))] [])) _
                refine XS.iload X53.here hx rfl (hb hby at_94) rfl ?_
                show Steps p.tables e below (T53.setTop (mkF m 96 #[.val (.long q0_), .second, .val (.long q1_), .second, .val (.long q2_), .second, .val (.ref b1), .val (.long q1_), .second, .val (.long q2_), .second, .val (.int (1 : Int32)), .val (.int (0 : Int32)), .val (.int (0 : Int32)), .val (.int (1 : Int32)), .val (.int (1 : Int32))] [(.int (1 : Int32))])) _
                refine XS.ifNo X53.here hx rfl (hb hby at_96) rfl ((if0 _ _).trans (feq (by decide : ¬ ((1 : Int32) = (0 : Int32)))).1) ?_
                show Steps p.tables e below (T53.setTop (mkF m 99 #[.val (.long q0_), .second, .val (.long q1_), .second, .val (.long q2_), .second, .val (.ref b1), .val (.long q1_), .second, .val (.long q2_), .second, .val (.int (1 : Int32)), .val (.int (0 : Int32)), .val (.int (0 : Int32)), .val (.int (1 : Int32)), .val (.int (1 : Int32))] [])) _
                refine XS.iload X53.here hx rfl (hb hby at_99) rfl ?_
                show Steps p.tables e below (T53.setTop (mkF m 101 #[.val (.long q0_), .second, .val (.long q1_), .second, .val (.long q2_), .second, .val (.ref b1), .val (.long q1_), .second, .val (.long q2_), .second, .val (.int (1 : Int32)), .val (.int (0 : Int32)), .val (.int (0 : Int32)), .val (.int (1 : Int32)), .val (.int (1 : Int32))] [(.int (0 : Int32))])) _
                refine XS.ifNo X53.here hx rfl (hb hby at_101) rfl ((if0 _ _).trans (teq (by decide : (0 : Int32) = (0 : Int32))).2) ?_
                show Steps p.tables e below (T53.setTop (mkF m 104 #[.val (.long q0_), .second, .val (.long q1_), .second, .val (.long q2_), .second, .val (.ref b1), .val (.long q1_), .second, .val (.long q2_), .second, .val (.int (1 : Int32)), .val (.int (0 : Int32)), .val (.int (0 : Int32)), .val (.int (1 : Int32)), .val (.int (1 : Int32))] [])) _
                refine XS.iload X53.here hx rfl (hb hby at_104) rfl ?_
                show Steps p.tables e below (T53.setTop (mkF m 106 #[.val (.long q0_), .second, .val (.long q1_), .second, .val (.long q2_), .second, .val (.ref b1), .val (.long q1_), .second, .val (.long q2_), .second, .val (.int (1 : Int32)), .val (.int (0 : Int32)), .val (.int (0 : Int32)), .val (.int (1 : Int32)), .val (.int (1 : Int32))] [(.int (1 : Int32))])) _
                refine XS.ifNo X53.here hx rfl (hb hby at_106) rfl ((if0 _ _).trans (feq (by decide : ¬ ((1 : Int32) = (0 : Int32)))).1) ?_
                show Steps p.tables e below (T53.setTop (mkF m 109 #[.val (.long q0_), .second, .val (.long q1_), .second, .val (.long q2_), .second, .val (.ref b1), .val (.long q1_), .second, .val (.long q2_), .second, .val (.int (1 : Int32)), .val (.int (0 : Int32)), .val (.int (0 : Int32)), .val (.int (1 : Int32)), .val (.int (1 : Int32))] [])) _
                refine XS.iconst X53.here hx rfl (hb hby at_109) ?_
                show Steps p.tables e below (T53.setTop (mkF m 110 #[.val (.long q0_), .second, .val (.long q1_), .second, .val (.long q2_), .second, .val (.ref b1), .val (.long q1_), .second, .val (.long q2_), .second, .val (.int (1 : Int32)), .val (.int (0 : Int32)), .val (.int (0 : Int32)), .val (.int (1 : Int32)), .val (.int (1 : Int32))] [(.int (1 : Int32))])) _
                refine XS.goto X53.here hx rfl (pc0 := 110) (pc' := 114) rfl (hb hby at_110) (by decide) (by decide) ?_
                exact kt
              obtain ⟨fs, hr, hrun, hended, hW, hsame⟩ := X53.leave (v := some (.int (1 : Int32))) (fun h => by rw [Bd.returns] at h; cases h)
              refine ⟨_, _, pre55 _ (retN X53 hx (t := .boolean) Bd.returns (by simp) (hb hby at_114) hr), hrun, hended, _, _, rfl, ?_, ⟨_, rfl⟩, hW, hsame.mono (by decide) (by decide)⟩
              show QLaw Z q0_ q1_ q2_ h0 n0 _ T53.heap _
              rw [e53']
              exact ⟨rfl, N54⟩
            · have pre57 : ∀ t, Steps p.tables e below (T53.setTop (mkF m 114 #[.val (.long q0_), .second, .val (.long q1_), .second, .val (.long q2_), .second, .val (.ref b1), .val (.long q1_), .second, .val (.long q2_), .second, .val (.int (1 : Int32)), .val (.int (0 : Int32)), .val (.int (0 : Int32)), .val (.int (0 : Int32)), .val (.int (1 : Int32))] [(.int (1 : Int32))])) t → Steps p.tables e below (s₁.setTop (entryFrame m #[(.long q0_), (.long q1_), (.long q2_)] maxLocals)) t := by
                intro t kt
                refine pre44 t ?_
                show Steps p.tables e below (T42.setTop (mkF m 42 #[.val (.long q0_), .second, .val (.long q1_), .second, .val (.long q2_), .second, .val (.ref b1), .val (.long q1_), .second, .val (.long q2_), .second, .val (.int (1 : Int32)), .unset, .unset, .unset, .unset] [(.int (lcmpW q0_ (-9223372036854775808 : Int64)))])) _
                refine XS.ifNo X42.here hx rfl (hb hby at_42) rfl ((if0 _ _).trans (teq ((lw_eq _ _).mpr hc45)).2) ?_
                show Steps p.tables e below (T42.setTop (mkF m 45 #[.val (.long q0_), .second, .val (.long q1_), .second, .val (.long q2_), .second, .val (.ref b1), .val (.long q1_), .second, .val (.long q2_), .second, .val (.int (1 : Int32)), .unset, .unset, .unset, .unset] [])) _
                refine XS.iconst X42.here hx rfl (hb hby at_45) ?_
                show Steps p.tables e below (T42.setTop (mkF m 46 #[.val (.long q0_), .second, .val (.long q1_), .second, .val (.long q2_), .second, .val (.ref b1), .val (.long q1_), .second, .val (.long q2_), .second, .val (.int (1 : Int32)), .unset, .unset, .unset, .unset] [(.int (0 : Int32))])) _
                refine XS.goto X42.here hx rfl (pc0 := 46) (pc' := 57) rfl (hb hby at_46) (by decide) (by decide) ?_
                show Steps p.tables e below (T42.setTop (mkF m 57 #[.val (.long q0_), .second, .val (.long q1_), .second, .val (.long q2_), .second, .val (.ref b1), .val (.long q1_), .second, .val (.long q2_), .second, .val (.int (1 : Int32)), .unset, .unset, .unset, .unset] [(.int (0 : Int32))])) _
                refine XS.istore X42.here hx rfl (hb hby at_57) rfl (l' := #[.val (.long q0_), .second, .val (.long q1_), .second, .val (.long q2_), .second, .val (.ref b1), .val (.long q1_), .second, .val (.long q2_), .second, .val (.int (1 : Int32)), .val (.int (0 : Int32)), .unset, .unset, .unset]) rfl ?_
                show Steps p.tables e below (T42.setTop (mkF m 59 #[.val (.long q0_), .second, .val (.long q1_), .second, .val (.long q2_), .second, .val (.ref b1), .val (.long q1_), .second, .val (.long q2_), .second, .val (.int (1 : Int32)), .val (.int (0 : Int32)), .unset, .unset, .unset] [])) _
                refine XS.aload X42.here hx rfl (hb hby at_59) rfl rfl ?_
                show Steps p.tables e below (T42.setTop (mkF m 61 #[.val (.long q0_), .second, .val (.long q1_), .second, .val (.long q2_), .second, .val (.ref b1), .val (.long q1_), .second, .val (.long q2_), .second, .val (.int (1 : Int32)), .val (.int (0 : Int32)), .unset, .unset, .unset] [(.ref b1)])) _
                refine XS.lload X42.here hx rfl (hb hby at_61) rfl ?_
                show Steps p.tables e below (T42.setTop (mkF m 63 #[.val (.long q0_), .second, .val (.long q1_), .second, .val (.long q2_), .second, .val (.ref b1), .val (.long q1_), .second, .val (.long q2_), .second, .val (.int (1 : Int32)), .val (.int (0 : Int32)), .unset, .unset, .unset] [(.long q1_), (.ref b1)])) _
                refine st46.trans ?_
                show Steps p.tables e below (T46.setTop (mkF m 66 #[.val (.long q0_), .second, .val (.long q1_), .second, .val (.long q2_), .second, .val (.ref b1), .val (.long q1_), .second, .val (.long q2_), .second, .val (.int (1 : Int32)), .val (.int (0 : Int32)), .unset, .unset, .unset] [(.int (0 : Int32))])) _
                refine XS.istore X46.here hx rfl (hb hby at_66) rfl (l' := #[.val (.long q0_), .second, .val (.long q1_), .second, .val (.long q2_), .second, .val (.ref b1), .val (.long q1_), .second, .val (.long q2_), .second, .val (.int (1 : Int32)), .val (.int (0 : Int32)), .val (.int (0 : Int32)), .unset, .unset]) rfl ?_
                show Steps p.tables e below (T46.setTop (mkF m 68 #[.val (.long q0_), .second, .val (.long q1_), .second, .val (.long q2_), .second, .val (.ref b1), .val (.long q1_), .second, .val (.long q2_), .second, .val (.int (1 : Int32)), .val (.int (0 : Int32)), .val (.int (0 : Int32)), .unset, .unset] [])) _
                refine XS.aload X46.here hx rfl (hb hby at_68) rfl rfl ?_
                show Steps p.tables e below (T46.setTop (mkF m 70 #[.val (.long q0_), .second, .val (.long q1_), .second, .val (.long q2_), .second, .val (.ref b1), .val (.long q1_), .second, .val (.long q2_), .second, .val (.int (1 : Int32)), .val (.int (0 : Int32)), .val (.int (0 : Int32)), .unset, .unset] [(.ref b1)])) _
                refine XS.lload X46.here hx rfl (hb hby at_70) rfl ?_
                show Steps p.tables e below (T46.setTop (mkF m 72 #[.val (.long q0_), .second, .val (.long q1_), .second, .val (.long q2_), .second, .val (.ref b1), .val (.long q1_), .second, .val (.long q2_), .second, .val (.int (1 : Int32)), .val (.int (0 : Int32)), .val (.int (0 : Int32)), .unset, .unset] [(.long q2_), (.ref b1)])) _
                refine st53.trans ?_
                show Steps p.tables e below (T53.setTop (mkF m 75 #[.val (.long q0_), .second, .val (.long q1_), .second, .val (.long q2_), .second, .val (.ref b1), .val (.long q1_), .second, .val (.long q2_), .second, .val (.int (1 : Int32)), .val (.int (0 : Int32)), .val (.int (0 : Int32)), .unset, .unset] [(.int (0 : Int32))])) _
                refine XS.istore X53.here hx rfl (hb hby at_75) rfl (l' := #[.val (.long q0_), .second, .val (.long q1_), .second, .val (.long q2_), .second, .val (.ref b1), .val (.long q1_), .second, .val (.long q2_), .second, .val (.int (1 : Int32)), .val (.int (0 : Int32)), .val (.int (0 : Int32)), .val (.int (0 : Int32)), .unset]) rfl ?_
                show Steps p.tables e below (T53.setTop (mkF m 77 #[.val (.long q0_), .second, .val (.long q1_), .second, .val (.long q2_), .second, .val (.ref b1), .val (.long q1_), .second, .val (.long q2_), .second, .val (.int (1 : Int32)), .val (.int (0 : Int32)), .val (.int (0 : Int32)), .val (.int (0 : Int32)), .unset] [])) _
                refine XS.iload X53.here hx rfl (hb hby at_77) rfl ?_
                show Steps p.tables e below (T53.setTop (mkF m 79 #[.val (.long q0_), .second, .val (.long q1_), .second, .val (.long q2_), .second, .val (.ref b1), .val (.long q1_), .second, .val (.long q2_), .second, .val (.int (1 : Int32)), .val (.int (0 : Int32)), .val (.int (0 : Int32)), .val (.int (0 : Int32)), .unset] [(.int (0 : Int32))])) _
                refine XS.ifYes X53.here hx rfl (pc0 := 79) (pc' := 87) rfl (hb hby at_79) rfl ((if0 _ _).trans (teq (by decide : (0 : Int32) = (0 : Int32))).1) (by decide) (by decide) ?_
                show Steps p.tables e below (T53.setTop (mkF m 87 #[.val (.long q0_), .second, .val (.long q1_), .second, .val (.long q2_), .second, .val (.ref b1), .val (.long q1_), .second, .val (.long q2_), .second, .val (.int (1 : Int32)), .val (.int (0 : Int32)), .val (.int (0 : Int32)), .val (.int (0 : Int32)), .unset] [])) _
                refine XS.iconst X53.here hx rfl (hb hby at_87) ?_
                show Steps p.tables e below (T53.setTop (mkF m 88 #[.val (.long q0_), .second, .val (.long q1_), .second, .val (.long q2_), .second, .val (.ref b1), .val (.long q1_), .second, .val (.long q2_), .second, .val (.int (1 : Int32)), .val (.int (0 : Int32)), .val (.int (0 : Int32)), .val (.int (0 : Int32)), .unset] [(.int (1 : Int32))])) _
                refine XS.goto X53.here hx rfl (pc0 := 88) (pc' := 92) rfl (hb hby at_88) (by decide) (by decide) ?_
                show Steps p.tables e below (T53.setTop (mkF m 92 #[.val (.long q0_), .second, .val (.long q1_), .second, .val (.long q2_), .second, .val (.ref b1), .val (.long q1_), .second, .val (.long q2_), .second, .val (.int (1 : Int32)), .val (.int (0 : Int32)), .val (.int (0 : Int32)), .val (.int (0 : Int32)), .unset] [(.int (1 : Int32))])) _
                refine XS.istore X53.here hx rfl (hb hby at_92) rfl (l' := #[.val (.long q0_), .second, .val (.long q1_), .second, .val (.long q2_), .second, .val (.ref b1), .val (.long q1_), .second, .val (.long q2_), .second, .val (.int (1 : Int32)), .val (.int (0 : Int32)), .val (.int (0 : Int32)), .val (.int (0 : Int32)), .val (.int (1 : Int32))]) rfl ?_
                show Steps p.tables e below (T53.setTop (mkF m 94 #[.val (.long q0_), .second, .val (.long q1_), .second, .val (.long q2_), .second, .val (.ref b1), .val (.long q1_), .second, .val (.long q2_), .second, .val (.int (1 : Int32)), .val (.int (0 : Int32)), .val (.int (0 : Int32)), .val (.int (0 : Int32)), .val (.int (1 : Int32))] [])) _
                refine XS.iload X53.here hx rfl (hb hby at_94) rfl ?_
                show Steps p.tables e below (T53.setTop (mkF m 96 #[.val (.long q0_), .second, .val (.long q1_), .second, .val (.long q2_), .second, .val (.ref b1), .val (.long q1_), .second, .val (.long q2_), .second, .val (.int (1 : Int32)), .val (.int (0 : Int32)), .val (.int (0 : Int32)), .val (.int (0 : Int32)), .val (.int (1 : Int32))] [(.int (1 : Int32))])) _
                refine XS.ifNo X53.here hx rfl (hb hby at_96) rfl ((if0 _ _).trans (feq (by decide : ¬ ((1 : Int32) = (0 : Int32)))).1) ?_
                show Steps p.tables e below (T53.setTop (mkF m 99 #[.val (.long q0_), .second, .val (.long q1_), .second, .val (.long q2_), .second, .val (.ref b1), .val (.long q1_), .second, .val (.long q2_), .second, .val (.int (1 : Int32)), .val (.int (0 : Int32)), .val (.int (0 : Int32)), .val (.int (0 : Int32)), .val (.int (1 : Int32))] [])) _
                refine XS.iload X53.here hx rfl (hb hby at_99) rfl ?_
                show Steps p.tables e below (T53.setTop (mkF m 101 #[.val (.long q0_), .second, .val (.long q1_), .second, .val (.long q2_), .second, .val (.ref b1), .val (.long q1_), .second, .val (.long q2_), .second, .val (.int (1 : Int32)), .val (.int (0 : Int32)), .val (.int (0 : Int32)), .val (.int (0 : Int32)), .val (.int (1 : Int32))] [(.int (0 : Int32))])) _
                refine XS.ifNo X53.here hx rfl (hb hby at_101) rfl ((if0 _ _).trans (teq (by decide : (0 : Int32) = (0 : Int32))).2) ?_
                show Steps p.tables e below (T53.setTop (mkF m 104 #[.val (.long q0_), .second, .val (.long q1_), .second, .val (.long q2_), .second, .val (.ref b1), .val (.long q1_), .second, .val (.long q2_), .second, .val (.int (1 : Int32)), .val (.int (0 : Int32)), .val (.int (0 : Int32)), .val (.int (0 : Int32)), .val (.int (1 : Int32))] [])) _
                refine XS.iload X53.here hx rfl (hb hby at_104) rfl ?_
                show Steps p.tables e below (T53.setTop (mkF m 106 #[.val (.long q0_), .second, .val (.long q1_), .second, .val (.long q2_), .second, .val (.ref b1), .val (.long q1_), .second, .val (.long q2_), .second, .val (.int (1 : Int32)), .val (.int (0 : Int32)), .val (.int (0 : Int32)), .val (.int (0 : Int32)), .val (.int (1 : Int32))] [(.int (1 : Int32))])) _
                refine XS.ifNo X53.here hx rfl (hb hby at_106) rfl ((if0 _ _).trans (feq (by decide : ¬ ((1 : Int32) = (0 : Int32)))).1) ?_
                show Steps p.tables e below (T53.setTop (mkF m 109 #[.val (.long q0_), .second, .val (.long q1_), .second, .val (.long q2_), .second, .val (.ref b1), .val (.long q1_), .second, .val (.long q2_), .second, .val (.int (1 : Int32)), .val (.int (0 : Int32)), .val (.int (0 : Int32)), .val (.int (0 : Int32)), .val (.int (1 : Int32))] [])) _
                refine XS.iconst X53.here hx rfl (hb hby at_109) ?_
                show Steps p.tables e below (T53.setTop (mkF m 110 #[.val (.long q0_), .second, .val (.long q1_), .second, .val (.long q2_), .second, .val (.ref b1), .val (.long q1_), .second, .val (.long q2_), .second, .val (.int (1 : Int32)), .val (.int (0 : Int32)), .val (.int (0 : Int32)), .val (.int (0 : Int32)), .val (.int (1 : Int32))] [(.int (1 : Int32))])) _
                refine XS.goto X53.here hx rfl (pc0 := 110) (pc' := 114) rfl (hb hby at_110) (by decide) (by decide) ?_
                exact kt
              obtain ⟨fs, hr, hrun, hended, hW, hsame⟩ := X53.leave (v := some (.int (1 : Int32))) (fun h => by rw [Bd.returns] at h; cases h)
              refine ⟨_, _, pre57 _ (retN X53 hx (t := .boolean) Bd.returns (by simp) (hb hby at_114) hr), hrun, hended, _, _, rfl, ?_, ⟨_, rfl⟩, hW, hsame.mono (by decide) (by decide)⟩
              show QLaw Z q0_ q1_ q2_ h0 n0 _ T53.heap _
              rw [e53']
              exact ⟨rfl, N54⟩
        · obtain ⟨cq59, kq59, q59a, q59b, q59c⟩ := isOf hZ e42' g8_0
          obtain ⟨_, _, ⟨T59, L59, k59, n59⟩, -, X59, ⟨Lc59, hQ59, l59, y59, z59⟩, st59⟩ := X42.virtualBack hx (y := (⟨"com/example/fawley/fawley/store/StoredValue", "hasExpiredAt", "(J)Z"⟩ : MethodName)) (z := (⟨"com/example/fawley/fawley/store/StoredValue", "hasExpiredAt", "(J)Z"⟩ : MethodName)) hown (mvT hZ (hw _ (List.mem_of_getElem? (i := 24) rfl))) (mvT hZ (hw _ (List.mem_of_getElem? (i := 25) rfl))) (notFace_of_selects (args := #[]) (mvT hZ (hw _ (List.mem_of_getElem? (i := 27) rfl)))) (mvT hZ (hw _ (List.mem_of_getElem? (i := 27) rfl))) (mvT hZ (hw _ (List.mem_of_getElem? (i := 26) rfl))) (by decide) (backOf (W := 0) (rmHas l Z a0 hw [] b1 (q0_ - (1 : Int64)) q0_ h8 n0 f12 g8_4) hZ (hw _ (List.mem_of_getElem? (i := 28) rfl)) (hw _ (List.mem_of_getElem? (i := 2) rfl)) (by decide) (by decide)) q59a q59c (g := (mkF m 54 #[.val (.long q0_), .second, .val (.long q1_), .second, .val (.long q2_), .second, .val (.ref b1), .val (.long q1_), .second, .val (.long q2_), .second, .val (.int (1 : Int32)), .unset, .unset, .unset, .unset] [(.long (q0_ - (1 : Int64))), (.ref b1)])) rfl (by rw [hml]; rfl) (Steps.refl _) (argsL := [(.long (q0_ - (1 : Int64)))]) (rest := []) (lenOf pd_2 rfl) rfl (by show 2 * 0 + _ ≤ _; exact Nat.le_of_eq rfl) (hb hby at_54) (fun _ _ => ⟨rfl, e42', (by decide : 1 + 0 ≤ _), (by decide : 4 + 0 ≤ _)⟩)
          dsimp only [Pt.U, Pt.locs, Pt.cells, Pt.slots] at X59 l59 y59 z59 st59 hQ59
          subst l59 y59 z59
          obtain ⟨h59, e59⟩ : ∃ z, T59.heap = z := ⟨_, rfl⟩
          rw [e59] at hQ59
          obtain ⟨rr59, rfl, hs59, N59q, hh59⟩ := hQ59
          have N60 := Fr.app N43 N59q
          have e59' : T59.heap = h8 := e59.trans hh59
          rcases hs59 with ⟨rfl, hq59_0_0⟩ | ⟨rfl, hq59_1_0⟩
          · exact absurd (own_pred hc45) hq59_0_0
          · obtain ⟨cq61, kq61, q61a, q61b, q61c⟩ := isOf hZ e59' g8_0
            obtain ⟨_, _, ⟨T61, L61, k61, n61⟩, -, X61, ⟨Lc61, hQ61, l61, y61, z61⟩, st61⟩ := X59.virtualBack hx (y := (⟨"com/example/fawley/fawley/store/StoredValue", "hasExpiredAt", "(J)Z"⟩ : MethodName)) (z := (⟨"com/example/fawley/fawley/store/StoredValue", "hasExpiredAt", "(J)Z"⟩ : MethodName)) hown (mvT hZ (hw _ (List.mem_of_getElem? (i := 24) rfl))) (mvT hZ (hw _ (List.mem_of_getElem? (i := 25) rfl))) (notFace_of_selects (args := #[]) (mvT hZ (hw _ (List.mem_of_getElem? (i := 27) rfl)))) (mvT hZ (hw _ (List.mem_of_getElem? (i := 27) rfl))) (mvT hZ (hw _ (List.mem_of_getElem? (i := 26) rfl))) (by decide) (backOf (W := 0) (rmHas l Z a0 hw [] b1 q1_ q0_ h8 n0 f12 g8_4) hZ (hw _ (List.mem_of_getElem? (i := 28) rfl)) (hw _ (List.mem_of_getElem? (i := 2) rfl)) (by decide) (by decide)) q61a q61c (g := (mkF m 63 #[.val (.long q0_), .second, .val (.long q1_), .second, .val (.long q2_), .second, .val (.ref b1), .val (.long q1_), .second, .val (.long q2_), .second, .val (.int (1 : Int32)), .val (.int (0 : Int32)), .unset, .unset, .unset] [(.long q1_), (.ref b1)])) rfl (by rw [hml]; rfl) (Steps.refl _) (argsL := [(.long q1_)]) (rest := []) (lenOf pd_2 rfl) rfl (by show 2 * 0 + _ ≤ _; exact Nat.le_of_eq rfl) (hb hby at_63) (fun _ _ => ⟨rfl, e59', (by decide : 1 + 0 ≤ _), (by decide : 4 + 0 ≤ _)⟩)
            dsimp only [Pt.U, Pt.locs, Pt.cells, Pt.slots] at X61 l61 y61 z61 st61 hQ61
            subst l61 y61 z61
            obtain ⟨h61, e61⟩ : ∃ z, T61.heap = z := ⟨_, rfl⟩
            rw [e61] at hQ61
            obtain ⟨rr61, rfl, hs61, N61q, hh61⟩ := hQ61
            have N62 := Fr.app N60 N61q
            have e61' : T61.heap = h8 := e61.trans hh61
            rcases hs61 with ⟨rfl, hq61_0_0⟩ | ⟨rfl, hq61_1_0⟩
            · obtain ⟨cq63, kq63, q63a, q63b, q63c⟩ := isOf hZ e61' g8_0
              obtain ⟨_, _, ⟨T63, L63, k63, n63⟩, -, X63, ⟨Lc63, hQ63, l63, y63, z63⟩, st63⟩ := X61.virtualBack hx (y := (⟨"com/example/fawley/fawley/store/StoredValue", "hasExpiredAt", "(J)Z"⟩ : MethodName)) (z := (⟨"com/example/fawley/fawley/store/StoredValue", "hasExpiredAt", "(J)Z"⟩ : MethodName)) hown (mvT hZ (hw _ (List.mem_of_getElem? (i := 24) rfl))) (mvT hZ (hw _ (List.mem_of_getElem? (i := 25) rfl))) (notFace_of_selects (args := #[]) (mvT hZ (hw _ (List.mem_of_getElem? (i := 27) rfl)))) (mvT hZ (hw _ (List.mem_of_getElem? (i := 27) rfl))) (mvT hZ (hw _ (List.mem_of_getElem? (i := 26) rfl))) (by decide) (backOf (W := 0) (rmHas l Z a0 hw [] b1 q2_ q0_ h8 n0 f12 g8_4) hZ (hw _ (List.mem_of_getElem? (i := 28) rfl)) (hw _ (List.mem_of_getElem? (i := 2) rfl)) (by decide) (by decide)) q63a q63c (g := (mkF m 72 #[.val (.long q0_), .second, .val (.long q1_), .second, .val (.long q2_), .second, .val (.ref b1), .val (.long q1_), .second, .val (.long q2_), .second, .val (.int (1 : Int32)), .val (.int (0 : Int32)), .val (.int (1 : Int32)), .unset, .unset] [(.long q2_), (.ref b1)])) rfl (by rw [hml]; rfl) (Steps.refl _) (argsL := [(.long q2_)]) (rest := []) (lenOf pd_2 rfl) rfl (by show 2 * 0 + _ ≤ _; exact Nat.le_of_eq rfl) (hb hby at_72) (fun _ _ => ⟨rfl, e61', (by decide : 1 + 0 ≤ _), (by decide : 4 + 0 ≤ _)⟩)
              dsimp only [Pt.U, Pt.locs, Pt.cells, Pt.slots] at X63 l63 y63 z63 st63 hQ63
              subst l63 y63 z63
              obtain ⟨h63, e63⟩ : ∃ z, T63.heap = z := ⟨_, rfl⟩
              rw [e63] at hQ63
              obtain ⟨rr63, rfl, hs63, N63q, hh63⟩ := hQ63
              have N64 := Fr.app N62 N63q
              have e63' : T63.heap = h8 := e63.trans hh63
              rcases hs63 with ⟨rfl, hq63_0_0⟩ | ⟨rfl, hq63_1_0⟩
              · have pre65 : ∀ t, Steps p.tables e below (T63.setTop (mkF m 114 #[.val (.long q0_), .second, .val (.long q1_), .second, .val (.long q2_), .second, .val (.ref b1), .val (.long q1_), .second, .val (.long q2_), .second, .val (.int (1 : Int32)), .val (.int (0 : Int32)), .val (.int (1 : Int32)), .val (.int (1 : Int32)), .val (.int (1 : Int32))] [(.int (1 : Int32))])) t → Steps p.tables e below (s₁.setTop (entryFrame m #[(.long q0_), (.long q1_), (.long q2_)] maxLocals)) t := by
                  intro t kt
                  refine pre44 t ?_
                  show Steps p.tables e below (T42.setTop (mkF m 42 #[.val (.long q0_), .second, .val (.long q1_), .second, .val (.long q2_), .second, .val (.ref b1), .val (.long q1_), .second, .val (.long q2_), .second, .val (.int (1 : Int32)), .unset, .unset, .unset, .unset] [(.int (lcmpW q0_ (-9223372036854775808 : Int64)))])) _
                  refine XS.ifYes X42.here hx rfl (pc0 := 42) (pc' := 49) rfl (hb hby at_42) rfl ((if0 _ _).trans (feq (fun z => hc45 ((lw_eq _ _).mp z))).2) (by decide) (by decide) ?_
                  show Steps p.tables e below (T42.setTop (mkF m 49 #[.val (.long q0_), .second, .val (.long q1_), .second, .val (.long q2_), .second, .val (.ref b1), .val (.long q1_), .second, .val (.long q2_), .second, .val (.int (1 : Int32)), .unset, .unset, .unset, .unset] [])) _
                  refine XS.aload X42.here hx rfl (hb hby at_49) rfl rfl ?_
                  show Steps p.tables e below (T42.setTop (mkF m 51 #[.val (.long q0_), .second, .val (.long q1_), .second, .val (.long q2_), .second, .val (.ref b1), .val (.long q1_), .second, .val (.long q2_), .second, .val (.int (1 : Int32)), .unset, .unset, .unset, .unset] [(.ref b1)])) _
                  refine XS.lloadN X42.here hx rfl (hb hby at_51) rfl ?_
                  show Steps p.tables e below (T42.setTop (mkF m 52 #[.val (.long q0_), .second, .val (.long q1_), .second, .val (.long q2_), .second, .val (.ref b1), .val (.long q1_), .second, .val (.long q2_), .second, .val (.int (1 : Int32)), .unset, .unset, .unset, .unset] [(.long q0_), (.ref b1)])) _
                  refine XS.lconst X42.here hx rfl (hb hby at_52) ?_
                  show Steps p.tables e below (T42.setTop (mkF m 53 #[.val (.long q0_), .second, .val (.long q1_), .second, .val (.long q2_), .second, .val (.ref b1), .val (.long q1_), .second, .val (.long q2_), .second, .val (.int (1 : Int32)), .unset, .unset, .unset, .unset] [(.long (1 : Int64)), (.long q0_), (.ref b1)])) _
                  refine XS.lsub X42.here hx rfl (hb hby at_53) rfl ?_
                  show Steps p.tables e below (T42.setTop (mkF m 54 #[.val (.long q0_), .second, .val (.long q1_), .second, .val (.long q2_), .second, .val (.ref b1), .val (.long q1_), .second, .val (.long q2_), .second, .val (.int (1 : Int32)), .unset, .unset, .unset, .unset] [(.long (q0_ - (1 : Int64))), (.ref b1)])) _
                  refine st59.trans ?_
                  show Steps p.tables e below (T59.setTop (mkF m 57 #[.val (.long q0_), .second, .val (.long q1_), .second, .val (.long q2_), .second, .val (.ref b1), .val (.long q1_), .second, .val (.long q2_), .second, .val (.int (1 : Int32)), .unset, .unset, .unset, .unset] [(.int (0 : Int32))])) _
                  refine XS.istore X59.here hx rfl (hb hby at_57) rfl (l' := #[.val (.long q0_), .second, .val (.long q1_), .second, .val (.long q2_), .second, .val (.ref b1), .val (.long q1_), .second, .val (.long q2_), .second, .val (.int (1 : Int32)), .val (.int (0 : Int32)), .unset, .unset, .unset]) rfl ?_
                  show Steps p.tables e below (T59.setTop (mkF m 59 #[.val (.long q0_), .second, .val (.long q1_), .second, .val (.long q2_), .second, .val (.ref b1), .val (.long q1_), .second, .val (.long q2_), .second, .val (.int (1 : Int32)), .val (.int (0 : Int32)), .unset, .unset, .unset] [])) _
                  refine XS.aload X59.here hx rfl (hb hby at_59) rfl rfl ?_
                  show Steps p.tables e below (T59.setTop (mkF m 61 #[.val (.long q0_), .second, .val (.long q1_), .second, .val (.long q2_), .second, .val (.ref b1), .val (.long q1_), .second, .val (.long q2_), .second, .val (.int (1 : Int32)), .val (.int (0 : Int32)), .unset, .unset, .unset] [(.ref b1)])) _
                  refine XS.lload X59.here hx rfl (hb hby at_61) rfl ?_
                  show Steps p.tables e below (T59.setTop (mkF m 63 #[.val (.long q0_), .second, .val (.long q1_), .second, .val (.long q2_), .second, .val (.ref b1), .val (.long q1_), .second, .val (.long q2_), .second, .val (.int (1 : Int32)), .val (.int (0 : Int32)), .unset, .unset, .unset] [(.long q1_), (.ref b1)])) _
                  refine st61.trans ?_
                  show Steps p.tables e below (T61.setTop (mkF m 66 #[.val (.long q0_), .second, .val (.long q1_), .second, .val (.long q2_), .second, .val (.ref b1), .val (.long q1_), .second, .val (.long q2_), .second, .val (.int (1 : Int32)), .val (.int (0 : Int32)), .unset, .unset, .unset] [(.int (1 : Int32))])) _
                  refine XS.istore X61.here hx rfl (hb hby at_66) rfl (l' := #[.val (.long q0_), .second, .val (.long q1_), .second, .val (.long q2_), .second, .val (.ref b1), .val (.long q1_), .second, .val (.long q2_), .second, .val (.int (1 : Int32)), .val (.int (0 : Int32)), .val (.int (1 : Int32)), .unset, .unset]) rfl ?_
                  show Steps p.tables e below (T61.setTop (mkF m 68 #[.val (.long q0_), .second, .val (.long q1_), .second, .val (.long q2_), .second, .val (.ref b1), .val (.long q1_), .second, .val (.long q2_), .second, .val (.int (1 : Int32)), .val (.int (0 : Int32)), .val (.int (1 : Int32)), .unset, .unset] [])) _
                  refine XS.aload X61.here hx rfl (hb hby at_68) rfl rfl ?_
                  show Steps p.tables e below (T61.setTop (mkF m 70 #[.val (.long q0_), .second, .val (.long q1_), .second, .val (.long q2_), .second, .val (.ref b1), .val (.long q1_), .second, .val (.long q2_), .second, .val (.int (1 : Int32)), .val (.int (0 : Int32)), .val (.int (1 : Int32)), .unset, .unset] [(.ref b1)])) _
                  refine XS.lload X61.here hx rfl (hb hby at_70) rfl ?_
                  show Steps p.tables e below (T61.setTop (mkF m 72 #[.val (.long q0_), .second, .val (.long q1_), .second, .val (.long q2_), .second, .val (.ref b1), .val (.long q1_), .second, .val (.long q2_), .second, .val (.int (1 : Int32)), .val (.int (0 : Int32)), .val (.int (1 : Int32)), .unset, .unset] [(.long q2_), (.ref b1)])) _
                  refine st63.trans ?_
                  show Steps p.tables e below (T63.setTop (mkF m 75 #[.val (.long q0_), .second, .val (.long q1_), .second, .val (.long q2_), .second, .val (.ref b1), .val (.long q1_), .second, .val (.long q2_), .second, .val (.int (1 : Int32)), .val (.int (0 : Int32)), .val (.int (1 : Int32)), .unset, .unset] [(.int (1 : Int32))])) _
                  refine XS.istore X63.here hx rfl (hb hby at_75) rfl (l' := #[.val (.long q0_), .second, .val (.long q1_), .second, .val (.long q2_), .second, .val (.ref b1), .val (.long q1_), .second, .val (.long q2_), .second, .val (.int (1 : Int32)), .val (.int (0 : Int32)), .val (.int (1 : Int32)), .val (.int (1 : Int32)), .unset]) rfl ?_
                  show Steps p.tables e below (T63.setTop (mkF m 77 #[.val (.long q0_), .second, .val (.long q1_), .second, .val (.long q2_), .second, .val (.ref b1), .val (.long q1_), .second, .val (.long q2_), .second, .val (.int (1 : Int32)), .val (.int (0 : Int32)), .val (.int (1 : Int32)), .val (.int (1 : Int32)), .unset] [])) _
                  refine XS.iload X63.here hx rfl (hb hby at_77) rfl ?_
                  show Steps p.tables e below (T63.setTop (mkF m 79 #[.val (.long q0_), .second, .val (.long q1_), .second, .val (.long q2_), .second, .val (.ref b1), .val (.long q1_), .second, .val (.long q2_), .second, .val (.int (1 : Int32)), .val (.int (0 : Int32)), .val (.int (1 : Int32)), .val (.int (1 : Int32)), .unset] [(.int (1 : Int32))])) _
                  refine XS.ifNo X63.here hx rfl (hb hby at_79) rfl ((if0 _ _).trans (feq (by decide : ¬ ((1 : Int32) = (0 : Int32)))).1) ?_
                  show Steps p.tables e below (T63.setTop (mkF m 82 #[.val (.long q0_), .second, .val (.long q1_), .second, .val (.long q2_), .second, .val (.ref b1), .val (.long q1_), .second, .val (.long q2_), .second, .val (.int (1 : Int32)), .val (.int (0 : Int32)), .val (.int (1 : Int32)), .val (.int (1 : Int32)), .unset] [])) _
                  refine XS.iload X63.here hx rfl (hb hby at_82) rfl ?_
                  show Steps p.tables e below (T63.setTop (mkF m 84 #[.val (.long q0_), .second, .val (.long q1_), .second, .val (.long q2_), .second, .val (.ref b1), .val (.long q1_), .second, .val (.long q2_), .second, .val (.int (1 : Int32)), .val (.int (0 : Int32)), .val (.int (1 : Int32)), .val (.int (1 : Int32)), .unset] [(.int (1 : Int32))])) _
                  refine XS.ifNo X63.here hx rfl (hb hby at_84) rfl ((if0 _ _).trans (feq (by decide : ¬ ((1 : Int32) = (0 : Int32)))).1) ?_
                  show Steps p.tables e below (T63.setTop (mkF m 87 #[.val (.long q0_), .second, .val (.long q1_), .second, .val (.long q2_), .second, .val (.ref b1), .val (.long q1_), .second, .val (.long q2_), .second, .val (.int (1 : Int32)), .val (.int (0 : Int32)), .val (.int (1 : Int32)), .val (.int (1 : Int32)), .unset] [])) _
                  refine XS.iconst X63.here hx rfl (hb hby at_87) ?_
                  show Steps p.tables e below (T63.setTop (mkF m 88 #[.val (.long q0_), .second, .val (.long q1_), .second, .val (.long q2_), .second, .val (.ref b1), .val (.long q1_), .second, .val (.long q2_), .second, .val (.int (1 : Int32)), .val (.int (0 : Int32)), .val (.int (1 : Int32)), .val (.int (1 : Int32)), .unset] [(.int (1 : Int32))])) _
                  refine XS.goto X63.here hx rfl (pc0 := 88) (pc' := 92) rfl (hb hby at_88) (by decide) (by decide) ?_
                  show Steps p.tables e below (T63.setTop (mkF m 92 #[.val (.long q0_), .second, .val (.long q1_), .second, .val (.long q2_), .second, .val (.ref b1), .val (.long q1_), .second, .val (.long q2_), .second, .val (.int (1 : Int32)), .val (.int (0 : Int32)), .val (.int (1 : Int32)), .val (.int (1 : Int32)), .unset] [(.int (1 : Int32))])) _
                  refine XS.istore X63.here hx rfl (hb hby at_92) rfl (l' := #[.val (.long q0_), .second, .val (.long q1_), .second, .val (.long q2_), .second, .val (.ref b1), .val (.long q1_), .second, .val (.long q2_), .second, .val (.int (1 : Int32)), .val (.int (0 : Int32)), .val (.int (1 : Int32)), .val (.int (1 : Int32)), .val (.int (1 : Int32))]) rfl ?_
                  show Steps p.tables e below (T63.setTop (mkF m 94 #[.val (.long q0_), .second, .val (.long q1_), .second, .val (.long q2_), .second, .val (.ref b1), .val (.long q1_), .second, .val (.long q2_), .second, .val (.int (1 : Int32)), .val (.int (0 : Int32)), .val (.int (1 : Int32)), .val (.int (1 : Int32)), .val (.int (1 : Int32))] [])) _
                  refine XS.iload X63.here hx rfl (hb hby at_94) rfl ?_
                  show Steps p.tables e below (T63.setTop (mkF m 96 #[.val (.long q0_), .second, .val (.long q1_), .second, .val (.long q2_), .second, .val (.ref b1), .val (.long q1_), .second, .val (.long q2_), .second, .val (.int (1 : Int32)), .val (.int (0 : Int32)), .val (.int (1 : Int32)), .val (.int (1 : Int32)), .val (.int (1 : Int32))] [(.int (1 : Int32))])) _
                  refine XS.ifNo X63.here hx rfl (hb hby at_96) rfl ((if0 _ _).trans (feq (by decide : ¬ ((1 : Int32) = (0 : Int32)))).1) ?_
                  show Steps p.tables e below (T63.setTop (mkF m 99 #[.val (.long q0_), .second, .val (.long q1_), .second, .val (.long q2_), .second, .val (.ref b1), .val (.long q1_), .second, .val (.long q2_), .second, .val (.int (1 : Int32)), .val (.int (0 : Int32)), .val (.int (1 : Int32)), .val (.int (1 : Int32)), .val (.int (1 : Int32))] [])) _
                  refine XS.iload X63.here hx rfl (hb hby at_99) rfl ?_
                  show Steps p.tables e below (T63.setTop (mkF m 101 #[.val (.long q0_), .second, .val (.long q1_), .second, .val (.long q2_), .second, .val (.ref b1), .val (.long q1_), .second, .val (.long q2_), .second, .val (.int (1 : Int32)), .val (.int (0 : Int32)), .val (.int (1 : Int32)), .val (.int (1 : Int32)), .val (.int (1 : Int32))] [(.int (0 : Int32))])) _
                  refine XS.ifNo X63.here hx rfl (hb hby at_101) rfl ((if0 _ _).trans (teq (by decide : (0 : Int32) = (0 : Int32))).2) ?_
                  show Steps p.tables e below (T63.setTop (mkF m 104 #[.val (.long q0_), .second, .val (.long q1_), .second, .val (.long q2_), .second, .val (.ref b1), .val (.long q1_), .second, .val (.long q2_), .second, .val (.int (1 : Int32)), .val (.int (0 : Int32)), .val (.int (1 : Int32)), .val (.int (1 : Int32)), .val (.int (1 : Int32))] [])) _
                  refine XS.iload X63.here hx rfl (hb hby at_104) rfl ?_
                  show Steps p.tables e below (T63.setTop (mkF m 106 #[.val (.long q0_), .second, .val (.long q1_), .second, .val (.long q2_), .second, .val (.ref b1), .val (.long q1_), .second, .val (.long q2_), .second, .val (.int (1 : Int32)), .val (.int (0 : Int32)), .val (.int (1 : Int32)), .val (.int (1 : Int32)), .val (.int (1 : Int32))] [(.int (1 : Int32))])) _
                  refine XS.ifNo X63.here hx rfl (hb hby at_106) rfl ((if0 _ _).trans (feq (by decide : ¬ ((1 : Int32) = (0 : Int32)))).1) ?_
                  show Steps p.tables e below (T63.setTop (mkF m 109 #[.val (.long q0_), .second, .val (.long q1_), .second, .val (.long q2_), .second, .val (.ref b1), .val (.long q1_), .second, .val (.long q2_), .second, .val (.int (1 : Int32)), .val (.int (0 : Int32)), .val (.int (1 : Int32)), .val (.int (1 : Int32)), .val (.int (1 : Int32))] [])) _
                  refine XS.iconst X63.here hx rfl (hb hby at_109) ?_
                  show Steps p.tables e below (T63.setTop (mkF m 110 #[.val (.long q0_), .second, .val (.long q1_), .second, .val (.long q2_), .second, .val (.ref b1), .val (.long q1_), .second, .val (.long q2_), .second, .val (.int (1 : Int32)), .val (.int (0 : Int32)), .val (.int (1 : Int32)), .val (.int (1 : Int32)), .val (.int (1 : Int32))] [(.int (1 : Int32))])) _
                  refine XS.goto X63.here hx rfl (pc0 := 110) (pc' := 114) rfl (hb hby at_110) (by decide) (by decide) ?_
                  exact kt
                obtain ⟨fs, hr, hrun, hended, hW, hsame⟩ := X63.leave (v := some (.int (1 : Int32))) (fun h => by rw [Bd.returns] at h; cases h)
                refine ⟨_, _, pre65 _ (retN X63 hx (t := .boolean) Bd.returns (by simp) (hb hby at_114) hr), hrun, hended, _, _, rfl, ?_, ⟨_, rfl⟩, hW, hsame.mono (by decide) (by decide)⟩
                show QLaw Z q0_ q1_ q2_ h0 n0 _ T63.heap _
                rw [e63']
                exact ⟨rfl, N64⟩
              · have pre67 : ∀ t, Steps p.tables e below (T63.setTop (mkF m 114 #[.val (.long q0_), .second, .val (.long q1_), .second, .val (.long q2_), .second, .val (.ref b1), .val (.long q1_), .second, .val (.long q2_), .second, .val (.int (1 : Int32)), .val (.int (0 : Int32)), .val (.int (1 : Int32)), .val (.int (0 : Int32)), .val (.int (0 : Int32))] [(.int (0 : Int32))])) t → Steps p.tables e below (s₁.setTop (entryFrame m #[(.long q0_), (.long q1_), (.long q2_)] maxLocals)) t := by
                  intro t kt
                  refine pre44 t ?_
                  show Steps p.tables e below (T42.setTop (mkF m 42 #[.val (.long q0_), .second, .val (.long q1_), .second, .val (.long q2_), .second, .val (.ref b1), .val (.long q1_), .second, .val (.long q2_), .second, .val (.int (1 : Int32)), .unset, .unset, .unset, .unset] [(.int (lcmpW q0_ (-9223372036854775808 : Int64)))])) _
                  refine XS.ifYes X42.here hx rfl (pc0 := 42) (pc' := 49) rfl (hb hby at_42) rfl ((if0 _ _).trans (feq (fun z => hc45 ((lw_eq _ _).mp z))).2) (by decide) (by decide) ?_
                  show Steps p.tables e below (T42.setTop (mkF m 49 #[.val (.long q0_), .second, .val (.long q1_), .second, .val (.long q2_), .second, .val (.ref b1), .val (.long q1_), .second, .val (.long q2_), .second, .val (.int (1 : Int32)), .unset, .unset, .unset, .unset] [])) _
                  refine XS.aload X42.here hx rfl (hb hby at_49) rfl rfl ?_
                  show Steps p.tables e below (T42.setTop (mkF m 51 #[.val (.long q0_), .second, .val (.long q1_), .second, .val (.long q2_), .second, .val (.ref b1), .val (.long q1_), .second, .val (.long q2_), .second, .val (.int (1 : Int32)), .unset, .unset, .unset, .unset] [(.ref b1)])) _
                  refine XS.lloadN X42.here hx rfl (hb hby at_51) rfl ?_
                  show Steps p.tables e below (T42.setTop (mkF m 52 #[.val (.long q0_), .second, .val (.long q1_), .second, .val (.long q2_), .second, .val (.ref b1), .val (.long q1_), .second, .val (.long q2_), .second, .val (.int (1 : Int32)), .unset, .unset, .unset, .unset] [(.long q0_), (.ref b1)])) _
                  refine XS.lconst X42.here hx rfl (hb hby at_52) ?_
                  show Steps p.tables e below (T42.setTop (mkF m 53 #[.val (.long q0_), .second, .val (.long q1_), .second, .val (.long q2_), .second, .val (.ref b1), .val (.long q1_), .second, .val (.long q2_), .second, .val (.int (1 : Int32)), .unset, .unset, .unset, .unset] [(.long (1 : Int64)), (.long q0_), (.ref b1)])) _
                  refine XS.lsub X42.here hx rfl (hb hby at_53) rfl ?_
                  show Steps p.tables e below (T42.setTop (mkF m 54 #[.val (.long q0_), .second, .val (.long q1_), .second, .val (.long q2_), .second, .val (.ref b1), .val (.long q1_), .second, .val (.long q2_), .second, .val (.int (1 : Int32)), .unset, .unset, .unset, .unset] [(.long (q0_ - (1 : Int64))), (.ref b1)])) _
                  refine st59.trans ?_
                  show Steps p.tables e below (T59.setTop (mkF m 57 #[.val (.long q0_), .second, .val (.long q1_), .second, .val (.long q2_), .second, .val (.ref b1), .val (.long q1_), .second, .val (.long q2_), .second, .val (.int (1 : Int32)), .unset, .unset, .unset, .unset] [(.int (0 : Int32))])) _
                  refine XS.istore X59.here hx rfl (hb hby at_57) rfl (l' := #[.val (.long q0_), .second, .val (.long q1_), .second, .val (.long q2_), .second, .val (.ref b1), .val (.long q1_), .second, .val (.long q2_), .second, .val (.int (1 : Int32)), .val (.int (0 : Int32)), .unset, .unset, .unset]) rfl ?_
                  show Steps p.tables e below (T59.setTop (mkF m 59 #[.val (.long q0_), .second, .val (.long q1_), .second, .val (.long q2_), .second, .val (.ref b1), .val (.long q1_), .second, .val (.long q2_), .second, .val (.int (1 : Int32)), .val (.int (0 : Int32)), .unset, .unset, .unset] [])) _
                  refine XS.aload X59.here hx rfl (hb hby at_59) rfl rfl ?_
                  show Steps p.tables e below (T59.setTop (mkF m 61 #[.val (.long q0_), .second, .val (.long q1_), .second, .val (.long q2_), .second, .val (.ref b1), .val (.long q1_), .second, .val (.long q2_), .second, .val (.int (1 : Int32)), .val (.int (0 : Int32)), .unset, .unset, .unset] [(.ref b1)])) _
                  refine XS.lload X59.here hx rfl (hb hby at_61) rfl ?_
                  show Steps p.tables e below (T59.setTop (mkF m 63 #[.val (.long q0_), .second, .val (.long q1_), .second, .val (.long q2_), .second, .val (.ref b1), .val (.long q1_), .second, .val (.long q2_), .second, .val (.int (1 : Int32)), .val (.int (0 : Int32)), .unset, .unset, .unset] [(.long q1_), (.ref b1)])) _
                  refine st61.trans ?_
                  show Steps p.tables e below (T61.setTop (mkF m 66 #[.val (.long q0_), .second, .val (.long q1_), .second, .val (.long q2_), .second, .val (.ref b1), .val (.long q1_), .second, .val (.long q2_), .second, .val (.int (1 : Int32)), .val (.int (0 : Int32)), .unset, .unset, .unset] [(.int (1 : Int32))])) _
                  refine XS.istore X61.here hx rfl (hb hby at_66) rfl (l' := #[.val (.long q0_), .second, .val (.long q1_), .second, .val (.long q2_), .second, .val (.ref b1), .val (.long q1_), .second, .val (.long q2_), .second, .val (.int (1 : Int32)), .val (.int (0 : Int32)), .val (.int (1 : Int32)), .unset, .unset]) rfl ?_
                  show Steps p.tables e below (T61.setTop (mkF m 68 #[.val (.long q0_), .second, .val (.long q1_), .second, .val (.long q2_), .second, .val (.ref b1), .val (.long q1_), .second, .val (.long q2_), .second, .val (.int (1 : Int32)), .val (.int (0 : Int32)), .val (.int (1 : Int32)), .unset, .unset] [])) _
                  refine XS.aload X61.here hx rfl (hb hby at_68) rfl rfl ?_
                  show Steps p.tables e below (T61.setTop (mkF m 70 #[.val (.long q0_), .second, .val (.long q1_), .second, .val (.long q2_), .second, .val (.ref b1), .val (.long q1_), .second, .val (.long q2_), .second, .val (.int (1 : Int32)), .val (.int (0 : Int32)), .val (.int (1 : Int32)), .unset, .unset] [(.ref b1)])) _
                  refine XS.lload X61.here hx rfl (hb hby at_70) rfl ?_
                  show Steps p.tables e below (T61.setTop (mkF m 72 #[.val (.long q0_), .second, .val (.long q1_), .second, .val (.long q2_), .second, .val (.ref b1), .val (.long q1_), .second, .val (.long q2_), .second, .val (.int (1 : Int32)), .val (.int (0 : Int32)), .val (.int (1 : Int32)), .unset, .unset] [(.long q2_), (.ref b1)])) _
                  refine st63.trans ?_
                  show Steps p.tables e below (T63.setTop (mkF m 75 #[.val (.long q0_), .second, .val (.long q1_), .second, .val (.long q2_), .second, .val (.ref b1), .val (.long q1_), .second, .val (.long q2_), .second, .val (.int (1 : Int32)), .val (.int (0 : Int32)), .val (.int (1 : Int32)), .unset, .unset] [(.int (0 : Int32))])) _
                  refine XS.istore X63.here hx rfl (hb hby at_75) rfl (l' := #[.val (.long q0_), .second, .val (.long q1_), .second, .val (.long q2_), .second, .val (.ref b1), .val (.long q1_), .second, .val (.long q2_), .second, .val (.int (1 : Int32)), .val (.int (0 : Int32)), .val (.int (1 : Int32)), .val (.int (0 : Int32)), .unset]) rfl ?_
                  show Steps p.tables e below (T63.setTop (mkF m 77 #[.val (.long q0_), .second, .val (.long q1_), .second, .val (.long q2_), .second, .val (.ref b1), .val (.long q1_), .second, .val (.long q2_), .second, .val (.int (1 : Int32)), .val (.int (0 : Int32)), .val (.int (1 : Int32)), .val (.int (0 : Int32)), .unset] [])) _
                  refine XS.iload X63.here hx rfl (hb hby at_77) rfl ?_
                  show Steps p.tables e below (T63.setTop (mkF m 79 #[.val (.long q0_), .second, .val (.long q1_), .second, .val (.long q2_), .second, .val (.ref b1), .val (.long q1_), .second, .val (.long q2_), .second, .val (.int (1 : Int32)), .val (.int (0 : Int32)), .val (.int (1 : Int32)), .val (.int (0 : Int32)), .unset] [(.int (1 : Int32))])) _
                  refine XS.ifNo X63.here hx rfl (hb hby at_79) rfl ((if0 _ _).trans (feq (by decide : ¬ ((1 : Int32) = (0 : Int32)))).1) ?_
                  show Steps p.tables e below (T63.setTop (mkF m 82 #[.val (.long q0_), .second, .val (.long q1_), .second, .val (.long q2_), .second, .val (.ref b1), .val (.long q1_), .second, .val (.long q2_), .second, .val (.int (1 : Int32)), .val (.int (0 : Int32)), .val (.int (1 : Int32)), .val (.int (0 : Int32)), .unset] [])) _
                  refine XS.iload X63.here hx rfl (hb hby at_82) rfl ?_
                  show Steps p.tables e below (T63.setTop (mkF m 84 #[.val (.long q0_), .second, .val (.long q1_), .second, .val (.long q2_), .second, .val (.ref b1), .val (.long q1_), .second, .val (.long q2_), .second, .val (.int (1 : Int32)), .val (.int (0 : Int32)), .val (.int (1 : Int32)), .val (.int (0 : Int32)), .unset] [(.int (0 : Int32))])) _
                  refine XS.ifYes X63.here hx rfl (pc0 := 84) (pc' := 91) rfl (hb hby at_84) rfl ((if0 _ _).trans (teq (by decide : (0 : Int32) = (0 : Int32))).1) (by decide) (by decide) ?_
                  show Steps p.tables e below (T63.setTop (mkF m 91 #[.val (.long q0_), .second, .val (.long q1_), .second, .val (.long q2_), .second, .val (.ref b1), .val (.long q1_), .second, .val (.long q2_), .second, .val (.int (1 : Int32)), .val (.int (0 : Int32)), .val (.int (1 : Int32)), .val (.int (0 : Int32)), .unset] [])) _
                  refine XS.iconst X63.here hx rfl (hb hby at_91) ?_
                  show Steps p.tables e below (T63.setTop (mkF m 92 #[.val (.long q0_), .second, .val (.long q1_), .second, .val (.long q2_), .second, .val (.ref b1), .val (.long q1_), .second, .val (.long q2_), .second, .val (.int (1 : Int32)), .val (.int (0 : Int32)), .val (.int (1 : Int32)), .val (.int (0 : Int32)), .unset] [(.int (0 : Int32))])) _
                  refine XS.istore X63.here hx rfl (hb hby at_92) rfl (l' := #[.val (.long q0_), .second, .val (.long q1_), .second, .val (.long q2_), .second, .val (.ref b1), .val (.long q1_), .second, .val (.long q2_), .second, .val (.int (1 : Int32)), .val (.int (0 : Int32)), .val (.int (1 : Int32)), .val (.int (0 : Int32)), .val (.int (0 : Int32))]) rfl ?_
                  show Steps p.tables e below (T63.setTop (mkF m 94 #[.val (.long q0_), .second, .val (.long q1_), .second, .val (.long q2_), .second, .val (.ref b1), .val (.long q1_), .second, .val (.long q2_), .second, .val (.int (1 : Int32)), .val (.int (0 : Int32)), .val (.int (1 : Int32)), .val (.int (0 : Int32)), .val (.int (0 : Int32))] [])) _
                  refine XS.iload X63.here hx rfl (hb hby at_94) rfl ?_
                  show Steps p.tables e below (T63.setTop (mkF m 96 #[.val (.long q0_), .second, .val (.long q1_), .second, .val (.long q2_), .second, .val (.ref b1), .val (.long q1_), .second, .val (.long q2_), .second, .val (.int (1 : Int32)), .val (.int (0 : Int32)), .val (.int (1 : Int32)), .val (.int (0 : Int32)), .val (.int (0 : Int32))] [(.int (1 : Int32))])) _
                  refine XS.ifNo X63.here hx rfl (hb hby at_96) rfl ((if0 _ _).trans (feq (by decide : ¬ ((1 : Int32) = (0 : Int32)))).1) ?_
                  show Steps p.tables e below (T63.setTop (mkF m 99 #[.val (.long q0_), .second, .val (.long q1_), .second, .val (.long q2_), .second, .val (.ref b1), .val (.long q1_), .second, .val (.long q2_), .second, .val (.int (1 : Int32)), .val (.int (0 : Int32)), .val (.int (1 : Int32)), .val (.int (0 : Int32)), .val (.int (0 : Int32))] [])) _
                  refine XS.iload X63.here hx rfl (hb hby at_99) rfl ?_
                  show Steps p.tables e below (T63.setTop (mkF m 101 #[.val (.long q0_), .second, .val (.long q1_), .second, .val (.long q2_), .second, .val (.ref b1), .val (.long q1_), .second, .val (.long q2_), .second, .val (.int (1 : Int32)), .val (.int (0 : Int32)), .val (.int (1 : Int32)), .val (.int (0 : Int32)), .val (.int (0 : Int32))] [(.int (0 : Int32))])) _
                  refine XS.ifNo X63.here hx rfl (hb hby at_101) rfl ((if0 _ _).trans (teq (by decide : (0 : Int32) = (0 : Int32))).2) ?_
                  show Steps p.tables e below (T63.setTop (mkF m 104 #[.val (.long q0_), .second, .val (.long q1_), .second, .val (.long q2_), .second, .val (.ref b1), .val (.long q1_), .second, .val (.long q2_), .second, .val (.int (1 : Int32)), .val (.int (0 : Int32)), .val (.int (1 : Int32)), .val (.int (0 : Int32)), .val (.int (0 : Int32))] [])) _
                  refine XS.iload X63.here hx rfl (hb hby at_104) rfl ?_
                  show Steps p.tables e below (T63.setTop (mkF m 106 #[.val (.long q0_), .second, .val (.long q1_), .second, .val (.long q2_), .second, .val (.ref b1), .val (.long q1_), .second, .val (.long q2_), .second, .val (.int (1 : Int32)), .val (.int (0 : Int32)), .val (.int (1 : Int32)), .val (.int (0 : Int32)), .val (.int (0 : Int32))] [(.int (0 : Int32))])) _
                  refine XS.ifYes X63.here hx rfl (pc0 := 106) (pc' := 113) rfl (hb hby at_106) rfl ((if0 _ _).trans (teq (by decide : (0 : Int32) = (0 : Int32))).1) (by decide) (by decide) ?_
                  show Steps p.tables e below (T63.setTop (mkF m 113 #[.val (.long q0_), .second, .val (.long q1_), .second, .val (.long q2_), .second, .val (.ref b1), .val (.long q1_), .second, .val (.long q2_), .second, .val (.int (1 : Int32)), .val (.int (0 : Int32)), .val (.int (1 : Int32)), .val (.int (0 : Int32)), .val (.int (0 : Int32))] [])) _
                  refine XS.iconst X63.here hx rfl (hb hby at_113) ?_
                  exact kt
                exfalso
                simp only [Int64.lt_iff_toInt_lt] at hq11_0_0 hq14_1_0 hq42_0_0 hc45 hq59_1_0 hq61_0_0 hq63_1_0
                omega
            · obtain ⟨cq68, kq68, q68a, q68b, q68c⟩ := isOf hZ e61' g8_0
              obtain ⟨_, _, ⟨T68, L68, k68, n68⟩, -, X68, ⟨Lc68, hQ68, l68, y68, z68⟩, st68⟩ := X61.virtualBack hx (y := (⟨"com/example/fawley/fawley/store/StoredValue", "hasExpiredAt", "(J)Z"⟩ : MethodName)) (z := (⟨"com/example/fawley/fawley/store/StoredValue", "hasExpiredAt", "(J)Z"⟩ : MethodName)) hown (mvT hZ (hw _ (List.mem_of_getElem? (i := 24) rfl))) (mvT hZ (hw _ (List.mem_of_getElem? (i := 25) rfl))) (notFace_of_selects (args := #[]) (mvT hZ (hw _ (List.mem_of_getElem? (i := 27) rfl)))) (mvT hZ (hw _ (List.mem_of_getElem? (i := 27) rfl))) (mvT hZ (hw _ (List.mem_of_getElem? (i := 26) rfl))) (by decide) (backOf (W := 0) (rmHas l Z a0 hw [] b1 q2_ q0_ h8 n0 f12 g8_4) hZ (hw _ (List.mem_of_getElem? (i := 28) rfl)) (hw _ (List.mem_of_getElem? (i := 2) rfl)) (by decide) (by decide)) q68a q68c (g := (mkF m 72 #[.val (.long q0_), .second, .val (.long q1_), .second, .val (.long q2_), .second, .val (.ref b1), .val (.long q1_), .second, .val (.long q2_), .second, .val (.int (1 : Int32)), .val (.int (0 : Int32)), .val (.int (0 : Int32)), .unset, .unset] [(.long q2_), (.ref b1)])) rfl (by rw [hml]; rfl) (Steps.refl _) (argsL := [(.long q2_)]) (rest := []) (lenOf pd_2 rfl) rfl (by show 2 * 0 + _ ≤ _; exact Nat.le_of_eq rfl) (hb hby at_72) (fun _ _ => ⟨rfl, e61', (by decide : 1 + 0 ≤ _), (by decide : 4 + 0 ≤ _)⟩)
              dsimp only [Pt.U, Pt.locs, Pt.cells, Pt.slots] at X68 l68 y68 z68 st68 hQ68
              subst l68 y68 z68
              obtain ⟨h68, e68⟩ : ∃ z, T68.heap = z := ⟨_, rfl⟩
              rw [e68] at hQ68
              obtain ⟨rr68, rfl, hs68, N68q, hh68⟩ := hQ68
              have N69 := Fr.app N62 N68q
              have e68' : T68.heap = h8 := e68.trans hh68
              rcases hs68 with ⟨rfl, hq68_0_0⟩ | ⟨rfl, hq68_1_0⟩
              · have pre70 : ∀ t, Steps p.tables e below (T68.setTop (mkF m 114 #[.val (.long q0_), .second, .val (.long q1_), .second, .val (.long q2_), .second, .val (.ref b1), .val (.long q1_), .second, .val (.long q2_), .second, .val (.int (1 : Int32)), .val (.int (0 : Int32)), .val (.int (0 : Int32)), .val (.int (1 : Int32)), .val (.int (1 : Int32))] [(.int (1 : Int32))])) t → Steps p.tables e below (s₁.setTop (entryFrame m #[(.long q0_), (.long q1_), (.long q2_)] maxLocals)) t := by
                  intro t kt
                  refine pre44 t ?_
                  show Steps p.tables e below (T42.setTop (mkF m 42 #[.val (.long q0_), .second, .val (.long q1_), .second, .val (.long q2_), .second, .val (.ref b1), .val (.long q1_), .second, .val (.long q2_), .second, .val (.int (1 : Int32)), .unset, .unset, .unset, .unset] [(.int (lcmpW q0_ (-9223372036854775808 : Int64)))])) _
                  refine XS.ifYes X42.here hx rfl (pc0 := 42) (pc' := 49) rfl (hb hby at_42) rfl ((if0 _ _).trans (feq (fun z => hc45 ((lw_eq _ _).mp z))).2) (by decide) (by decide) ?_
                  show Steps p.tables e below (T42.setTop (mkF m 49 #[.val (.long q0_), .second, .val (.long q1_), .second, .val (.long q2_), .second, .val (.ref b1), .val (.long q1_), .second, .val (.long q2_), .second, .val (.int (1 : Int32)), .unset, .unset, .unset, .unset] [])) _
                  refine XS.aload X42.here hx rfl (hb hby at_49) rfl rfl ?_
                  show Steps p.tables e below (T42.setTop (mkF m 51 #[.val (.long q0_), .second, .val (.long q1_), .second, .val (.long q2_), .second, .val (.ref b1), .val (.long q1_), .second, .val (.long q2_), .second, .val (.int (1 : Int32)), .unset, .unset, .unset, .unset] [(.ref b1)])) _
                  refine XS.lloadN X42.here hx rfl (hb hby at_51) rfl ?_
                  show Steps p.tables e below (T42.setTop (mkF m 52 #[.val (.long q0_), .second, .val (.long q1_), .second, .val (.long q2_), .second, .val (.ref b1), .val (.long q1_), .second, .val (.long q2_), .second, .val (.int (1 : Int32)), .unset, .unset, .unset, .unset] [(.long q0_), (.ref b1)])) _
                  refine XS.lconst X42.here hx rfl (hb hby at_52) ?_
                  show Steps p.tables e below (T42.setTop (mkF m 53 #[.val (.long q0_), .second, .val (.long q1_), .second, .val (.long q2_), .second, .val (.ref b1), .val (.long q1_), .second, .val (.long q2_), .second, .val (.int (1 : Int32)), .unset, .unset, .unset, .unset] [(.long (1 : Int64)), (.long q0_), (.ref b1)])) _
                  refine XS.lsub X42.here hx rfl (hb hby at_53) rfl ?_
                  show Steps p.tables e below (T42.setTop (mkF m 54 #[.val (.long q0_), .second, .val (.long q1_), .second, .val (.long q2_), .second, .val (.ref b1), .val (.long q1_), .second, .val (.long q2_), .second, .val (.int (1 : Int32)), .unset, .unset, .unset, .unset] [(.long (q0_ - (1 : Int64))), (.ref b1)])) _
                  refine st59.trans ?_
                  show Steps p.tables e below (T59.setTop (mkF m 57 #[.val (.long q0_), .second, .val (.long q1_), .second, .val (.long q2_), .second, .val (.ref b1), .val (.long q1_), .second, .val (.long q2_), .second, .val (.int (1 : Int32)), .unset, .unset, .unset, .unset] [(.int (0 : Int32))])) _
                  refine XS.istore X59.here hx rfl (hb hby at_57) rfl (l' := #[.val (.long q0_), .second, .val (.long q1_), .second, .val (.long q2_), .second, .val (.ref b1), .val (.long q1_), .second, .val (.long q2_), .second, .val (.int (1 : Int32)), .val (.int (0 : Int32)), .unset, .unset, .unset]) rfl ?_
                  show Steps p.tables e below (T59.setTop (mkF m 59 #[.val (.long q0_), .second, .val (.long q1_), .second, .val (.long q2_), .second, .val (.ref b1), .val (.long q1_), .second, .val (.long q2_), .second, .val (.int (1 : Int32)), .val (.int (0 : Int32)), .unset, .unset, .unset] [])) _
                  refine XS.aload X59.here hx rfl (hb hby at_59) rfl rfl ?_
                  show Steps p.tables e below (T59.setTop (mkF m 61 #[.val (.long q0_), .second, .val (.long q1_), .second, .val (.long q2_), .second, .val (.ref b1), .val (.long q1_), .second, .val (.long q2_), .second, .val (.int (1 : Int32)), .val (.int (0 : Int32)), .unset, .unset, .unset] [(.ref b1)])) _
                  refine XS.lload X59.here hx rfl (hb hby at_61) rfl ?_
                  show Steps p.tables e below (T59.setTop (mkF m 63 #[.val (.long q0_), .second, .val (.long q1_), .second, .val (.long q2_), .second, .val (.ref b1), .val (.long q1_), .second, .val (.long q2_), .second, .val (.int (1 : Int32)), .val (.int (0 : Int32)), .unset, .unset, .unset] [(.long q1_), (.ref b1)])) _
                  refine st61.trans ?_
                  show Steps p.tables e below (T61.setTop (mkF m 66 #[.val (.long q0_), .second, .val (.long q1_), .second, .val (.long q2_), .second, .val (.ref b1), .val (.long q1_), .second, .val (.long q2_), .second, .val (.int (1 : Int32)), .val (.int (0 : Int32)), .unset, .unset, .unset] [(.int (0 : Int32))])) _
                  refine XS.istore X61.here hx rfl (hb hby at_66) rfl (l' := #[.val (.long q0_), .second, .val (.long q1_), .second, .val (.long q2_), .second, .val (.ref b1), .val (.long q1_), .second, .val (.long q2_), .second, .val (.int (1 : Int32)), .val (.int (0 : Int32)), .val (.int (0 : Int32)), .unset, .unset]) rfl ?_
                  show Steps p.tables e below (T61.setTop (mkF m 68 #[.val (.long q0_), .second, .val (.long q1_), .second, .val (.long q2_), .second, .val (.ref b1), .val (.long q1_), .second, .val (.long q2_), .second, .val (.int (1 : Int32)), .val (.int (0 : Int32)), .val (.int (0 : Int32)), .unset, .unset] [])) _
                  refine XS.aload X61.here hx rfl (hb hby at_68) rfl rfl ?_
                  show Steps p.tables e below (T61.setTop (mkF m 70 #[.val (.long q0_), .second, .val (.long q1_), .second, .val (.long q2_), .second, .val (.ref b1), .val (.long q1_), .second, .val (.long q2_), .second, .val (.int (1 : Int32)), .val (.int (0 : Int32)), .val (.int (0 : Int32)), .unset, .unset] [(.ref b1)])) _
                  refine XS.lload X61.here hx rfl (hb hby at_70) rfl ?_
                  show Steps p.tables e below (T61.setTop (mkF m 72 #[.val (.long q0_), .second, .val (.long q1_), .second, .val (.long q2_), .second, .val (.ref b1), .val (.long q1_), .second, .val (.long q2_), .second, .val (.int (1 : Int32)), .val (.int (0 : Int32)), .val (.int (0 : Int32)), .unset, .unset] [(.long q2_), (.ref b1)])) _
                  refine st68.trans ?_
                  show Steps p.tables e below (T68.setTop (mkF m 75 #[.val (.long q0_), .second, .val (.long q1_), .second, .val (.long q2_), .second, .val (.ref b1), .val (.long q1_), .second, .val (.long q2_), .second, .val (.int (1 : Int32)), .val (.int (0 : Int32)), .val (.int (0 : Int32)), .unset, .unset] [(.int (1 : Int32))])) _
                  refine XS.istore X68.here hx rfl (hb hby at_75) rfl (l' := #[.val (.long q0_), .second, .val (.long q1_), .second, .val (.long q2_), .second, .val (.ref b1), .val (.long q1_), .second, .val (.long q2_), .second, .val (.int (1 : Int32)), .val (.int (0 : Int32)), .val (.int (0 : Int32)), .val (.int (1 : Int32)), .unset]) rfl ?_
                  show Steps p.tables e below (T68.setTop (mkF m 77 #[.val (.long q0_), .second, .val (.long q1_), .second, .val (.long q2_), .second, .val (.ref b1), .val (.long q1_), .second, .val (.long q2_), .second, .val (.int (1 : Int32)), .val (.int (0 : Int32)), .val (.int (0 : Int32)), .val (.int (1 : Int32)), .unset] [])) _
                  refine XS.iload X68.here hx rfl (hb hby at_77) rfl ?_
                  show Steps p.tables e below (T68.setTop (mkF m 79 #[.val (.long q0_), .second, .val (.long q1_), .second, .val (.long q2_), .second, .val (.ref b1), .val (.long q1_), .second, .val (.long q2_), .second, .val (.int (1 : Int32)), .val (.int (0 : Int32)), .val (.int (0 : Int32)), .val (.int (1 : Int32)), .unset] [(.int (0 : Int32))])) _
                  refine XS.ifYes X68.here hx rfl (pc0 := 79) (pc' := 87) rfl (hb hby at_79) rfl ((if0 _ _).trans (teq (by decide : (0 : Int32) = (0 : Int32))).1) (by decide) (by decide) ?_
                  show Steps p.tables e below (T68.setTop (mkF m 87 #[.val (.long q0_), .second, .val (.long q1_), .second, .val (.long q2_), .second, .val (.ref b1), .val (.long q1_), .second, .val (.long q2_), .second, .val (.int (1 : Int32)), .val (.int (0 : Int32)), .val (.int (0 : Int32)), .val (.int (1 : Int32)), .unset] [])) _
                  refine XS.iconst X68.here hx rfl (hb hby at_87) ?_
                  show Steps p.tables e below (T68.setTop (mkF m 88 #[.val (.long q0_), .second, .val (.long q1_), .second, .val (.long q2_), .second, .val (.ref b1), .val (.long q1_), .second, .val (.long q2_), .second, .val (.int (1 : Int32)), .val (.int (0 : Int32)), .val (.int (0 : Int32)), .val (.int (1 : Int32)), .unset] [(.int (1 : Int32))])) _
                  refine XS.goto X68.here hx rfl (pc0 := 88) (pc' := 92) rfl (hb hby at_88) (by decide) (by decide) ?_
                  show Steps p.tables e below (T68.setTop (mkF m 92 #[.val (.long q0_), .second, .val (.long q1_), .second, .val (.long q2_), .second, .val (.ref b1), .val (.long q1_), .second, .val (.long q2_), .second, .val (.int (1 : Int32)), .val (.int (0 : Int32)), .val (.int (0 : Int32)), .val (.int (1 : Int32)), .unset] [(.int (1 : Int32))])) _
                  refine XS.istore X68.here hx rfl (hb hby at_92) rfl (l' := #[.val (.long q0_), .second, .val (.long q1_), .second, .val (.long q2_), .second, .val (.ref b1), .val (.long q1_), .second, .val (.long q2_), .second, .val (.int (1 : Int32)), .val (.int (0 : Int32)), .val (.int (0 : Int32)), .val (.int (1 : Int32)), .val (.int (1 : Int32))]) rfl ?_
                  show Steps p.tables e below (T68.setTop (mkF m 94 #[.val (.long q0_), .second, .val (.long q1_), .second, .val (.long q2_), .second, .val (.ref b1), .val (.long q1_), .second, .val (.long q2_), .second, .val (.int (1 : Int32)), .val (.int (0 : Int32)), .val (.int (0 : Int32)), .val (.int (1 : Int32)), .val (.int (1 : Int32))] [])) _
                  refine XS.iload X68.here hx rfl (hb hby at_94) rfl ?_
                  show Steps p.tables e below (T68.setTop (mkF m 96 #[.val (.long q0_), .second, .val (.long q1_), .second, .val (.long q2_), .second, .val (.ref b1), .val (.long q1_), .second, .val (.long q2_), .second, .val (.int (1 : Int32)), .val (.int (0 : Int32)), .val (.int (0 : Int32)), .val (.int (1 : Int32)), .val (.int (1 : Int32))] [(.int (1 : Int32))])) _
                  refine XS.ifNo X68.here hx rfl (hb hby at_96) rfl ((if0 _ _).trans (feq (by decide : ¬ ((1 : Int32) = (0 : Int32)))).1) ?_
                  show Steps p.tables e below (T68.setTop (mkF m 99 #[.val (.long q0_), .second, .val (.long q1_), .second, .val (.long q2_), .second, .val (.ref b1), .val (.long q1_), .second, .val (.long q2_), .second, .val (.int (1 : Int32)), .val (.int (0 : Int32)), .val (.int (0 : Int32)), .val (.int (1 : Int32)), .val (.int (1 : Int32))] [])) _
                  refine XS.iload X68.here hx rfl (hb hby at_99) rfl ?_
                  show Steps p.tables e below (T68.setTop (mkF m 101 #[.val (.long q0_), .second, .val (.long q1_), .second, .val (.long q2_), .second, .val (.ref b1), .val (.long q1_), .second, .val (.long q2_), .second, .val (.int (1 : Int32)), .val (.int (0 : Int32)), .val (.int (0 : Int32)), .val (.int (1 : Int32)), .val (.int (1 : Int32))] [(.int (0 : Int32))])) _
                  refine XS.ifNo X68.here hx rfl (hb hby at_101) rfl ((if0 _ _).trans (teq (by decide : (0 : Int32) = (0 : Int32))).2) ?_
                  show Steps p.tables e below (T68.setTop (mkF m 104 #[.val (.long q0_), .second, .val (.long q1_), .second, .val (.long q2_), .second, .val (.ref b1), .val (.long q1_), .second, .val (.long q2_), .second, .val (.int (1 : Int32)), .val (.int (0 : Int32)), .val (.int (0 : Int32)), .val (.int (1 : Int32)), .val (.int (1 : Int32))] [])) _
                  refine XS.iload X68.here hx rfl (hb hby at_104) rfl ?_
                  show Steps p.tables e below (T68.setTop (mkF m 106 #[.val (.long q0_), .second, .val (.long q1_), .second, .val (.long q2_), .second, .val (.ref b1), .val (.long q1_), .second, .val (.long q2_), .second, .val (.int (1 : Int32)), .val (.int (0 : Int32)), .val (.int (0 : Int32)), .val (.int (1 : Int32)), .val (.int (1 : Int32))] [(.int (1 : Int32))])) _
                  refine XS.ifNo X68.here hx rfl (hb hby at_106) rfl ((if0 _ _).trans (feq (by decide : ¬ ((1 : Int32) = (0 : Int32)))).1) ?_
                  show Steps p.tables e below (T68.setTop (mkF m 109 #[.val (.long q0_), .second, .val (.long q1_), .second, .val (.long q2_), .second, .val (.ref b1), .val (.long q1_), .second, .val (.long q2_), .second, .val (.int (1 : Int32)), .val (.int (0 : Int32)), .val (.int (0 : Int32)), .val (.int (1 : Int32)), .val (.int (1 : Int32))] [])) _
                  refine XS.iconst X68.here hx rfl (hb hby at_109) ?_
                  show Steps p.tables e below (T68.setTop (mkF m 110 #[.val (.long q0_), .second, .val (.long q1_), .second, .val (.long q2_), .second, .val (.ref b1), .val (.long q1_), .second, .val (.long q2_), .second, .val (.int (1 : Int32)), .val (.int (0 : Int32)), .val (.int (0 : Int32)), .val (.int (1 : Int32)), .val (.int (1 : Int32))] [(.int (1 : Int32))])) _
                  refine XS.goto X68.here hx rfl (pc0 := 110) (pc' := 114) rfl (hb hby at_110) (by decide) (by decide) ?_
                  exact kt
                obtain ⟨fs, hr, hrun, hended, hW, hsame⟩ := X68.leave (v := some (.int (1 : Int32))) (fun h => by rw [Bd.returns] at h; cases h)
                refine ⟨_, _, pre70 _ (retN X68 hx (t := .boolean) Bd.returns (by simp) (hb hby at_114) hr), hrun, hended, _, _, rfl, ?_, ⟨_, rfl⟩, hW, hsame.mono (by decide) (by decide)⟩
                show QLaw Z q0_ q1_ q2_ h0 n0 _ T68.heap _
                rw [e68']
                exact ⟨rfl, N69⟩
              · have pre72 : ∀ t, Steps p.tables e below (T68.setTop (mkF m 114 #[.val (.long q0_), .second, .val (.long q1_), .second, .val (.long q2_), .second, .val (.ref b1), .val (.long q1_), .second, .val (.long q2_), .second, .val (.int (1 : Int32)), .val (.int (0 : Int32)), .val (.int (0 : Int32)), .val (.int (0 : Int32)), .val (.int (1 : Int32))] [(.int (1 : Int32))])) t → Steps p.tables e below (s₁.setTop (entryFrame m #[(.long q0_), (.long q1_), (.long q2_)] maxLocals)) t := by
                  intro t kt
                  refine pre44 t ?_
                  show Steps p.tables e below (T42.setTop (mkF m 42 #[.val (.long q0_), .second, .val (.long q1_), .second, .val (.long q2_), .second, .val (.ref b1), .val (.long q1_), .second, .val (.long q2_), .second, .val (.int (1 : Int32)), .unset, .unset, .unset, .unset] [(.int (lcmpW q0_ (-9223372036854775808 : Int64)))])) _
                  refine XS.ifYes X42.here hx rfl (pc0 := 42) (pc' := 49) rfl (hb hby at_42) rfl ((if0 _ _).trans (feq (fun z => hc45 ((lw_eq _ _).mp z))).2) (by decide) (by decide) ?_
                  show Steps p.tables e below (T42.setTop (mkF m 49 #[.val (.long q0_), .second, .val (.long q1_), .second, .val (.long q2_), .second, .val (.ref b1), .val (.long q1_), .second, .val (.long q2_), .second, .val (.int (1 : Int32)), .unset, .unset, .unset, .unset] [])) _
                  refine XS.aload X42.here hx rfl (hb hby at_49) rfl rfl ?_
                  show Steps p.tables e below (T42.setTop (mkF m 51 #[.val (.long q0_), .second, .val (.long q1_), .second, .val (.long q2_), .second, .val (.ref b1), .val (.long q1_), .second, .val (.long q2_), .second, .val (.int (1 : Int32)), .unset, .unset, .unset, .unset] [(.ref b1)])) _
                  refine XS.lloadN X42.here hx rfl (hb hby at_51) rfl ?_
                  show Steps p.tables e below (T42.setTop (mkF m 52 #[.val (.long q0_), .second, .val (.long q1_), .second, .val (.long q2_), .second, .val (.ref b1), .val (.long q1_), .second, .val (.long q2_), .second, .val (.int (1 : Int32)), .unset, .unset, .unset, .unset] [(.long q0_), (.ref b1)])) _
                  refine XS.lconst X42.here hx rfl (hb hby at_52) ?_
                  show Steps p.tables e below (T42.setTop (mkF m 53 #[.val (.long q0_), .second, .val (.long q1_), .second, .val (.long q2_), .second, .val (.ref b1), .val (.long q1_), .second, .val (.long q2_), .second, .val (.int (1 : Int32)), .unset, .unset, .unset, .unset] [(.long (1 : Int64)), (.long q0_), (.ref b1)])) _
                  refine XS.lsub X42.here hx rfl (hb hby at_53) rfl ?_
                  show Steps p.tables e below (T42.setTop (mkF m 54 #[.val (.long q0_), .second, .val (.long q1_), .second, .val (.long q2_), .second, .val (.ref b1), .val (.long q1_), .second, .val (.long q2_), .second, .val (.int (1 : Int32)), .unset, .unset, .unset, .unset] [(.long (q0_ - (1 : Int64))), (.ref b1)])) _
                  refine st59.trans ?_
                  show Steps p.tables e below (T59.setTop (mkF m 57 #[.val (.long q0_), .second, .val (.long q1_), .second, .val (.long q2_), .second, .val (.ref b1), .val (.long q1_), .second, .val (.long q2_), .second, .val (.int (1 : Int32)), .unset, .unset, .unset, .unset] [(.int (0 : Int32))])) _
                  refine XS.istore X59.here hx rfl (hb hby at_57) rfl (l' := #[.val (.long q0_), .second, .val (.long q1_), .second, .val (.long q2_), .second, .val (.ref b1), .val (.long q1_), .second, .val (.long q2_), .second, .val (.int (1 : Int32)), .val (.int (0 : Int32)), .unset, .unset, .unset]) rfl ?_
                  show Steps p.tables e below (T59.setTop (mkF m 59 #[.val (.long q0_), .second, .val (.long q1_), .second, .val (.long q2_), .second, .val (.ref b1), .val (.long q1_), .second, .val (.long q2_), .second, .val (.int (1 : Int32)), .val (.int (0 : Int32)), .unset, .unset, .unset] [])) _
                  refine XS.aload X59.here hx rfl (hb hby at_59) rfl rfl ?_
                  show Steps p.tables e below (T59.setTop (mkF m 61 #[.val (.long q0_), .second, .val (.long q1_), .second, .val (.long q2_), .second, .val (.ref b1), .val (.long q1_), .second, .val (.long q2_), .second, .val (.int (1 : Int32)), .val (.int (0 : Int32)), .unset, .unset, .unset] [(.ref b1)])) _
                  refine XS.lload X59.here hx rfl (hb hby at_61) rfl ?_
                  show Steps p.tables e below (T59.setTop (mkF m 63 #[.val (.long q0_), .second, .val (.long q1_), .second, .val (.long q2_), .second, .val (.ref b1), .val (.long q1_), .second, .val (.long q2_), .second, .val (.int (1 : Int32)), .val (.int (0 : Int32)), .unset, .unset, .unset] [(.long q1_), (.ref b1)])) _
                  refine st61.trans ?_
                  show Steps p.tables e below (T61.setTop (mkF m 66 #[.val (.long q0_), .second, .val (.long q1_), .second, .val (.long q2_), .second, .val (.ref b1), .val (.long q1_), .second, .val (.long q2_), .second, .val (.int (1 : Int32)), .val (.int (0 : Int32)), .unset, .unset, .unset] [(.int (0 : Int32))])) _
                  refine XS.istore X61.here hx rfl (hb hby at_66) rfl (l' := #[.val (.long q0_), .second, .val (.long q1_), .second, .val (.long q2_), .second, .val (.ref b1), .val (.long q1_), .second, .val (.long q2_), .second, .val (.int (1 : Int32)), .val (.int (0 : Int32)), .val (.int (0 : Int32)), .unset, .unset]) rfl ?_
                  show Steps p.tables e below (T61.setTop (mkF m 68 #[.val (.long q0_), .second, .val (.long q1_), .second, .val (.long q2_), .second, .val (.ref b1), .val (.long q1_), .second, .val (.long q2_), .second, .val (.int (1 : Int32)), .val (.int (0 : Int32)), .val (.int (0 : Int32)), .unset, .unset] [])) _
                  refine XS.aload X61.here hx rfl (hb hby at_68) rfl rfl ?_
                  show Steps p.tables e below (T61.setTop (mkF m 70 #[.val (.long q0_), .second, .val (.long q1_), .second, .val (.long q2_), .second, .val (.ref b1), .val (.long q1_), .second, .val (.long q2_), .second, .val (.int (1 : Int32)), .val (.int (0 : Int32)), .val (.int (0 : Int32)), .unset, .unset] [(.ref b1)])) _
                  refine XS.lload X61.here hx rfl (hb hby at_70) rfl ?_
                  show Steps p.tables e below (T61.setTop (mkF m 72 #[.val (.long q0_), .second, .val (.long q1_), .second, .val (.long q2_), .second, .val (.ref b1), .val (.long q1_), .second, .val (.long q2_), .second, .val (.int (1 : Int32)), .val (.int (0 : Int32)), .val (.int (0 : Int32)), .unset, .unset] [(.long q2_), (.ref b1)])) _
                  refine st68.trans ?_
                  show Steps p.tables e below (T68.setTop (mkF m 75 #[.val (.long q0_), .second, .val (.long q1_), .second, .val (.long q2_), .second, .val (.ref b1), .val (.long q1_), .second, .val (.long q2_), .second, .val (.int (1 : Int32)), .val (.int (0 : Int32)), .val (.int (0 : Int32)), .unset, .unset] [(.int (0 : Int32))])) _
                  refine XS.istore X68.here hx rfl (hb hby at_75) rfl (l' := #[.val (.long q0_), .second, .val (.long q1_), .second, .val (.long q2_), .second, .val (.ref b1), .val (.long q1_), .second, .val (.long q2_), .second, .val (.int (1 : Int32)), .val (.int (0 : Int32)), .val (.int (0 : Int32)), .val (.int (0 : Int32)), .unset]) rfl ?_
                  show Steps p.tables e below (T68.setTop (mkF m 77 #[.val (.long q0_), .second, .val (.long q1_), .second, .val (.long q2_), .second, .val (.ref b1), .val (.long q1_), .second, .val (.long q2_), .second, .val (.int (1 : Int32)), .val (.int (0 : Int32)), .val (.int (0 : Int32)), .val (.int (0 : Int32)), .unset] [])) _
                  refine XS.iload X68.here hx rfl (hb hby at_77) rfl ?_
                  show Steps p.tables e below (T68.setTop (mkF m 79 #[.val (.long q0_), .second, .val (.long q1_), .second, .val (.long q2_), .second, .val (.ref b1), .val (.long q1_), .second, .val (.long q2_), .second, .val (.int (1 : Int32)), .val (.int (0 : Int32)), .val (.int (0 : Int32)), .val (.int (0 : Int32)), .unset] [(.int (0 : Int32))])) _
                  refine XS.ifYes X68.here hx rfl (pc0 := 79) (pc' := 87) rfl (hb hby at_79) rfl ((if0 _ _).trans (teq (by decide : (0 : Int32) = (0 : Int32))).1) (by decide) (by decide) ?_
                  show Steps p.tables e below (T68.setTop (mkF m 87 #[.val (.long q0_), .second, .val (.long q1_), .second, .val (.long q2_), .second, .val (.ref b1), .val (.long q1_), .second, .val (.long q2_), .second, .val (.int (1 : Int32)), .val (.int (0 : Int32)), .val (.int (0 : Int32)), .val (.int (0 : Int32)), .unset] [])) _
                  refine XS.iconst X68.here hx rfl (hb hby at_87) ?_
                  show Steps p.tables e below (T68.setTop (mkF m 88 #[.val (.long q0_), .second, .val (.long q1_), .second, .val (.long q2_), .second, .val (.ref b1), .val (.long q1_), .second, .val (.long q2_), .second, .val (.int (1 : Int32)), .val (.int (0 : Int32)), .val (.int (0 : Int32)), .val (.int (0 : Int32)), .unset] [(.int (1 : Int32))])) _
                  refine XS.goto X68.here hx rfl (pc0 := 88) (pc' := 92) rfl (hb hby at_88) (by decide) (by decide) ?_
                  show Steps p.tables e below (T68.setTop (mkF m 92 #[.val (.long q0_), .second, .val (.long q1_), .second, .val (.long q2_), .second, .val (.ref b1), .val (.long q1_), .second, .val (.long q2_), .second, .val (.int (1 : Int32)), .val (.int (0 : Int32)), .val (.int (0 : Int32)), .val (.int (0 : Int32)), .unset] [(.int (1 : Int32))])) _
                  refine XS.istore X68.here hx rfl (hb hby at_92) rfl (l' := #[.val (.long q0_), .second, .val (.long q1_), .second, .val (.long q2_), .second, .val (.ref b1), .val (.long q1_), .second, .val (.long q2_), .second, .val (.int (1 : Int32)), .val (.int (0 : Int32)), .val (.int (0 : Int32)), .val (.int (0 : Int32)), .val (.int (1 : Int32))]) rfl ?_
                  show Steps p.tables e below (T68.setTop (mkF m 94 #[.val (.long q0_), .second, .val (.long q1_), .second, .val (.long q2_), .second, .val (.ref b1), .val (.long q1_), .second, .val (.long q2_), .second, .val (.int (1 : Int32)), .val (.int (0 : Int32)), .val (.int (0 : Int32)), .val (.int (0 : Int32)), .val (.int (1 : Int32))] [])) _
                  refine XS.iload X68.here hx rfl (hb hby at_94) rfl ?_
                  show Steps p.tables e below (T68.setTop (mkF m 96 #[.val (.long q0_), .second, .val (.long q1_), .second, .val (.long q2_), .second, .val (.ref b1), .val (.long q1_), .second, .val (.long q2_), .second, .val (.int (1 : Int32)), .val (.int (0 : Int32)), .val (.int (0 : Int32)), .val (.int (0 : Int32)), .val (.int (1 : Int32))] [(.int (1 : Int32))])) _
                  refine XS.ifNo X68.here hx rfl (hb hby at_96) rfl ((if0 _ _).trans (feq (by decide : ¬ ((1 : Int32) = (0 : Int32)))).1) ?_
                  show Steps p.tables e below (T68.setTop (mkF m 99 #[.val (.long q0_), .second, .val (.long q1_), .second, .val (.long q2_), .second, .val (.ref b1), .val (.long q1_), .second, .val (.long q2_), .second, .val (.int (1 : Int32)), .val (.int (0 : Int32)), .val (.int (0 : Int32)), .val (.int (0 : Int32)), .val (.int (1 : Int32))] [])) _
                  refine XS.iload X68.here hx rfl (hb hby at_99) rfl ?_
                  show Steps p.tables e below (T68.setTop (mkF m 101 #[.val (.long q0_), .second, .val (.long q1_), .second, .val (.long q2_), .second, .val (.ref b1), .val (.long q1_), .second, .val (.long q2_), .second, .val (.int (1 : Int32)), .val (.int (0 : Int32)), .val (.int (0 : Int32)), .val (.int (0 : Int32)), .val (.int (1 : Int32))] [(.int (0 : Int32))])) _
                  refine XS.ifNo X68.here hx rfl (hb hby at_101) rfl ((if0 _ _).trans (teq (by decide : (0 : Int32) = (0 : Int32))).2) ?_
                  show Steps p.tables e below (T68.setTop (mkF m 104 #[.val (.long q0_), .second, .val (.long q1_), .second, .val (.long q2_), .second, .val (.ref b1), .val (.long q1_), .second, .val (.long q2_), .second, .val (.int (1 : Int32)), .val (.int (0 : Int32)), .val (.int (0 : Int32)), .val (.int (0 : Int32)), .val (.int (1 : Int32))] [])) _
                  refine XS.iload X68.here hx rfl (hb hby at_104) rfl ?_
                  show Steps p.tables e below (T68.setTop (mkF m 106 #[.val (.long q0_), .second, .val (.long q1_), .second, .val (.long q2_), .second, .val (.ref b1), .val (.long q1_), .second, .val (.long q2_), .second, .val (.int (1 : Int32)), .val (.int (0 : Int32)), .val (.int (0 : Int32)), .val (.int (0 : Int32)), .val (.int (1 : Int32))] [(.int (1 : Int32))])) _
                  refine XS.ifNo X68.here hx rfl (hb hby at_106) rfl ((if0 _ _).trans (feq (by decide : ¬ ((1 : Int32) = (0 : Int32)))).1) ?_
                  show Steps p.tables e below (T68.setTop (mkF m 109 #[.val (.long q0_), .second, .val (.long q1_), .second, .val (.long q2_), .second, .val (.ref b1), .val (.long q1_), .second, .val (.long q2_), .second, .val (.int (1 : Int32)), .val (.int (0 : Int32)), .val (.int (0 : Int32)), .val (.int (0 : Int32)), .val (.int (1 : Int32))] [])) _
                  refine XS.iconst X68.here hx rfl (hb hby at_109) ?_
                  show Steps p.tables e below (T68.setTop (mkF m 110 #[.val (.long q0_), .second, .val (.long q1_), .second, .val (.long q2_), .second, .val (.ref b1), .val (.long q1_), .second, .val (.long q2_), .second, .val (.int (1 : Int32)), .val (.int (0 : Int32)), .val (.int (0 : Int32)), .val (.int (0 : Int32)), .val (.int (1 : Int32))] [(.int (1 : Int32))])) _
                  refine XS.goto X68.here hx rfl (pc0 := 110) (pc' := 114) rfl (hb hby at_110) (by decide) (by decide) ?_
                  exact kt
                obtain ⟨fs, hr, hrun, hended, hW, hsame⟩ := X68.leave (v := some (.int (1 : Int32))) (fun h => by rw [Bd.returns] at h; cases h)
                refine ⟨_, _, pre72 _ (retN X68 hx (t := .boolean) Bd.returns (by simp) (hb hby at_114) hr), hrun, hended, _, _, rfl, ?_, ⟨_, rfl⟩, hW, hsame.mono (by decide) (by decide)⟩
                show QLaw Z q0_ q1_ q2_ h0 n0 _ T68.heap _
                rw [e68']
                exact ⟨rfl, N69⟩
      · exact absurd hq42_1_0 (by first | exact Int32.lt_irrefl | exact Int64.lt_irrefl)
  · obtain ⟨_, _, ⟨T74, L74, k74, n74⟩, -, X74, ⟨Lc74, hQ74, l74, y74, z74⟩, st74⟩ := Jvm.LawKit.callS X11 hx (y := (⟨"java/lang/Math", "max", "(JJ)J"⟩ : MethodName)) hown (mvT hZ (hw _ (List.mem_of_getElem? (i := 21) rfl))) (mvT hZ (hw _ (List.mem_of_getElem? (i := 22) rfl))) (mvT hZ (hw _ (List.mem_of_getElem? (i := 19) rfl))) (mvT hZ (hw _ (List.mem_of_getElem? (i := 23) rfl))) (by decide) (backOf (W := 0) (rmMax l Z a0 hw [] q1_ q2_ h8 n0 f12 ) hZ (hw _ (List.mem_of_getElem? (i := 23) rfl)) (hw _ (List.mem_of_getElem? (i := 19) rfl)) (by decide) (by decide)) (g := (mkF m 24 #[.val (.long q0_), .second, .val (.long q1_), .second, .val (.long q2_), .second, .val (.ref b1), .val (.long q2_), .second, .unset, .unset, .unset, .unset, .unset, .unset, .unset] [(.long q2_), (.long q1_)])) rfl (by rw [hml]; rfl) (argsL := [(.long q1_), (.long q2_)]) (rest := []) (lenOf pd_1 rfl) rfl (by show 2 * 0 + _ ≤ _; exact Nat.le_of_eq rfl) (hb hby at_24) (fun _ _ => ⟨rfl, e11', (by decide : 1 + 0 ≤ _), (by decide : 4 + 0 ≤ _)⟩)
    dsimp only [Pt.U, Pt.locs, Pt.cells, Pt.slots] at X74 l74 y74 z74 st74 hQ74
    subst l74 y74 z74
    obtain ⟨h74, e74⟩ : ∃ z, T74.heap = z := ⟨_, rfl⟩
    rw [e74] at hQ74
    obtain ⟨rr74, rfl, hs74, N74q, hh74⟩ := hQ74
    have N75 := Fr.app N13 N74q
    have e74' : T74.heap = h8 := e74.trans hh74
    rcases hs74 with ⟨rfl, hq74_0_0⟩ | ⟨rfl, hq74_1_0⟩
    · obtain ⟨cq76, kq76, q76a, q76b, q76c⟩ := isOf hZ e74' g8_0
      obtain ⟨_, _, ⟨T76, L76, k76, n76⟩, -, X76, ⟨Lc76, hQ76, l76, y76, z76⟩, st76⟩ := X74.virtualBack hx (y := (⟨"com/example/fawley/fawley/store/StoredValue", "hasExpiredAt", "(J)Z"⟩ : MethodName)) (z := (⟨"com/example/fawley/fawley/store/StoredValue", "hasExpiredAt", "(J)Z"⟩ : MethodName)) hown (mvT hZ (hw _ (List.mem_of_getElem? (i := 24) rfl))) (mvT hZ (hw _ (List.mem_of_getElem? (i := 25) rfl))) (notFace_of_selects (args := #[]) (mvT hZ (hw _ (List.mem_of_getElem? (i := 27) rfl)))) (mvT hZ (hw _ (List.mem_of_getElem? (i := 27) rfl))) (mvT hZ (hw _ (List.mem_of_getElem? (i := 26) rfl))) (by decide) (backOf (W := 0) (rmHas l Z a0 hw [] b1 q0_ q0_ h8 n0 f12 g8_4) hZ (hw _ (List.mem_of_getElem? (i := 28) rfl)) (hw _ (List.mem_of_getElem? (i := 2) rfl)) (by decide) (by decide)) q76a q76c (g := (mkF m 32 #[.val (.long q0_), .second, .val (.long q1_), .second, .val (.long q2_), .second, .val (.ref b1), .val (.long q2_), .second, .val (.long q1_), .second, .unset, .unset, .unset, .unset, .unset] [(.long q0_), (.ref b1)])) rfl (by rw [hml]; rfl) (Steps.refl _) (argsL := [(.long q0_)]) (rest := []) (lenOf pd_2 rfl) rfl (by show 2 * 0 + _ ≤ _; exact Nat.le_of_eq rfl) (hb hby at_32) (fun _ _ => ⟨rfl, e74', (by decide : 1 + 0 ≤ _), (by decide : 4 + 0 ≤ _)⟩)
      dsimp only [Pt.U, Pt.locs, Pt.cells, Pt.slots] at X76 l76 y76 z76 st76 hQ76
      subst l76 y76 z76
      obtain ⟨h76, e76⟩ : ∃ z, T76.heap = z := ⟨_, rfl⟩
      rw [e76] at hQ76
      obtain ⟨rr76, rfl, hs76, N76q, hh76⟩ := hQ76
      have N77 := Fr.app N75 N76q
      have e76' : T76.heap = h8 := e76.trans hh76
      rcases hs76 with ⟨rfl, hq76_0_0⟩ | ⟨rfl, hq76_1_0⟩
      · have pre78 : ∀ t, Steps p.tables e below (T76.setTop (mkF m 42 #[.val (.long q0_), .second, .val (.long q1_), .second, .val (.long q2_), .second, .val (.ref b1), .val (.long q2_), .second, .val (.long q1_), .second, .val (.int (1 : Int32)), .unset, .unset, .unset, .unset] [(.int (lcmpW q0_ (-9223372036854775808 : Int64)))])) t → Steps p.tables e below (s₁.setTop (entryFrame m #[(.long q0_), (.long q1_), (.long q2_)] maxLocals)) t := by
          intro t kt
          refine pre0 t ?_
          show Steps p.tables e below (s₁.setTop (mkF m 0 #[.val (.long q0_), .second, .val (.long q1_), .second, .val (.long q2_), .second, .unset, .unset, .unset, .unset, .unset, .unset, .unset, .unset, .unset, .unset] [])) _
          refine st1 _ ?_
          show Steps p.tables e below (T1.setTop (mkF m 3 #[.val (.long q0_), .second, .val (.long q1_), .second, .val (.long q2_), .second, .unset, .unset, .unset, .unset, .unset, .unset, .unset, .unset, .unset, .unset] [(.ref b1)])) _
          refine XS.dup X1.here hx rfl (hb hby at_3) rfl rfl ?_
          show Steps p.tables e below (T1.setTop (mkF m 4 #[.val (.long q0_), .second, .val (.long q1_), .second, .val (.long q2_), .second, .unset, .unset, .unset, .unset, .unset, .unset, .unset, .unset, .unset, .unset] [(.ref b1), (.ref b1)])) _
          refine XS.aconstNull X1.here hx rfl (hb hby at_4) ?_
          show Steps p.tables e below (T1.setTop (mkF m 5 #[.val (.long q0_), .second, .val (.long q1_), .second, .val (.long q2_), .second, .unset, .unset, .unset, .unset, .unset, .unset, .unset, .unset, .unset, .unset] [.null, (.ref b1), (.ref b1)])) _
          refine XS.aconstNull X1.here hx rfl (hb hby at_5) ?_
          show Steps p.tables e below (T1.setTop (mkF m 6 #[.val (.long q0_), .second, .val (.long q1_), .second, .val (.long q2_), .second, .unset, .unset, .unset, .unset, .unset, .unset, .unset, .unset, .unset, .unset] [.null, .null, (.ref b1), (.ref b1)])) _
          refine XS.aconstNull X1.here hx rfl (hb hby at_6) ?_
          show Steps p.tables e below (T1.setTop (mkF m 7 #[.val (.long q0_), .second, .val (.long q1_), .second, .val (.long q2_), .second, .unset, .unset, .unset, .unset, .unset, .unset, .unset, .unset, .unset, .unset] [.null, .null, .null, (.ref b1), (.ref b1)])) _
          refine XS.lloadN X1.here hx rfl (hb hby at_7) rfl ?_
          show Steps p.tables e below (T1.setTop (mkF m 8 #[.val (.long q0_), .second, .val (.long q1_), .second, .val (.long q2_), .second, .unset, .unset, .unset, .unset, .unset, .unset, .unset, .unset, .unset, .unset] [(.long q0_), .null, .null, .null, (.ref b1), (.ref b1)])) _
          refine st8.trans ?_
          show Steps p.tables e below (T8.setTop (mkF m 11 #[.val (.long q0_), .second, .val (.long q1_), .second, .val (.long q2_), .second, .unset, .unset, .unset, .unset, .unset, .unset, .unset, .unset, .unset, .unset] [(.ref b1)])) _
          refine XS.astore X8.here hx rfl (hb hby at_11) rfl rfl (l' := #[.val (.long q0_), .second, .val (.long q1_), .second, .val (.long q2_), .second, .val (.ref b1), .unset, .unset, .unset, .unset, .unset, .unset, .unset, .unset, .unset]) rfl ?_
          show Steps p.tables e below (T8.setTop (mkF m 13 #[.val (.long q0_), .second, .val (.long q1_), .second, .val (.long q2_), .second, .val (.ref b1), .unset, .unset, .unset, .unset, .unset, .unset, .unset, .unset, .unset] [])) _
          refine XS.lloadN X8.here hx rfl (hb hby at_13) rfl ?_
          show Steps p.tables e below (T8.setTop (mkF m 14 #[.val (.long q0_), .second, .val (.long q1_), .second, .val (.long q2_), .second, .val (.ref b1), .unset, .unset, .unset, .unset, .unset, .unset, .unset, .unset, .unset] [(.long q1_)])) _
          refine XS.lload X8.here hx rfl (hb hby at_14) rfl ?_
          show Steps p.tables e below (T8.setTop (mkF m 16 #[.val (.long q0_), .second, .val (.long q1_), .second, .val (.long q2_), .second, .val (.ref b1), .unset, .unset, .unset, .unset, .unset, .unset, .unset, .unset, .unset] [(.long q2_), (.long q1_)])) _
          refine st11 _ ?_
          show Steps p.tables e below (T11.setTop (mkF m 19 #[.val (.long q0_), .second, .val (.long q1_), .second, .val (.long q2_), .second, .val (.ref b1), .unset, .unset, .unset, .unset, .unset, .unset, .unset, .unset, .unset] [(.long q2_)])) _
          refine XS.lstore X11.here hx rfl (hb hby at_19) rfl (l' := #[.val (.long q0_), .second, .val (.long q1_), .second, .val (.long q2_), .second, .val (.ref b1), .val (.long q2_), .second, .unset, .unset, .unset, .unset, .unset, .unset, .unset]) rfl ?_
          show Steps p.tables e below (T11.setTop (mkF m 21 #[.val (.long q0_), .second, .val (.long q1_), .second, .val (.long q2_), .second, .val (.ref b1), .val (.long q2_), .second, .unset, .unset, .unset, .unset, .unset, .unset, .unset] [])) _
          refine XS.lloadN X11.here hx rfl (hb hby at_21) rfl ?_
          show Steps p.tables e below (T11.setTop (mkF m 22 #[.val (.long q0_), .second, .val (.long q1_), .second, .val (.long q2_), .second, .val (.ref b1), .val (.long q2_), .second, .unset, .unset, .unset, .unset, .unset, .unset, .unset] [(.long q1_)])) _
          refine XS.lload X11.here hx rfl (hb hby at_22) rfl ?_
          show Steps p.tables e below (T11.setTop (mkF m 24 #[.val (.long q0_), .second, .val (.long q1_), .second, .val (.long q2_), .second, .val (.ref b1), .val (.long q2_), .second, .unset, .unset, .unset, .unset, .unset, .unset, .unset] [(.long q2_), (.long q1_)])) _
          refine st74 _ ?_
          show Steps p.tables e below (T74.setTop (mkF m 27 #[.val (.long q0_), .second, .val (.long q1_), .second, .val (.long q2_), .second, .val (.ref b1), .val (.long q2_), .second, .unset, .unset, .unset, .unset, .unset, .unset, .unset] [(.long q1_)])) _
          refine XS.lstore X74.here hx rfl (hb hby at_27) rfl (l' := #[.val (.long q0_), .second, .val (.long q1_), .second, .val (.long q2_), .second, .val (.ref b1), .val (.long q2_), .second, .val (.long q1_), .second, .unset, .unset, .unset, .unset, .unset]) rfl ?_
          show Steps p.tables e below (T74.setTop (mkF m 29 #[.val (.long q0_), .second, .val (.long q1_), .second, .val (.long q2_), .second, .val (.ref b1), .val (.long q2_), .second, .val (.long q1_), .second, .unset, .unset, .unset, .unset, .unset] [])) _
          refine XS.aload X74.here hx rfl (hb hby at_29) rfl rfl ?_
          show Steps p.tables e below (T74.setTop (mkF m 31 #[.val (.long q0_), .second, .val (.long q1_), .second, .val (.long q2_), .second, .val (.ref b1), .val (.long q2_), .second, .val (.long q1_), .second, .unset, .unset, .unset, .unset, .unset] [(.ref b1)])) _
          refine XS.lloadN X74.here hx rfl (hb hby at_31) rfl ?_
          show Steps p.tables e below (T74.setTop (mkF m 32 #[.val (.long q0_), .second, .val (.long q1_), .second, .val (.long q2_), .second, .val (.ref b1), .val (.long q2_), .second, .val (.long q1_), .second, .unset, .unset, .unset, .unset, .unset] [(.long q0_), (.ref b1)])) _
          refine st76.trans ?_
          show Steps p.tables e below (T76.setTop (mkF m 35 #[.val (.long q0_), .second, .val (.long q1_), .second, .val (.long q2_), .second, .val (.ref b1), .val (.long q2_), .second, .val (.long q1_), .second, .unset, .unset, .unset, .unset, .unset] [(.int (1 : Int32))])) _
          refine XS.istore X76.here hx rfl (hb hby at_35) rfl (l' := #[.val (.long q0_), .second, .val (.long q1_), .second, .val (.long q2_), .second, .val (.ref b1), .val (.long q2_), .second, .val (.long q1_), .second, .val (.int (1 : Int32)), .unset, .unset, .unset, .unset]) rfl ?_
          show Steps p.tables e below (T76.setTop (mkF m 37 #[.val (.long q0_), .second, .val (.long q1_), .second, .val (.long q2_), .second, .val (.ref b1), .val (.long q2_), .second, .val (.long q1_), .second, .val (.int (1 : Int32)), .unset, .unset, .unset, .unset] [])) _
          refine XS.lloadN X76.here hx rfl (hb hby at_37) rfl ?_
          show Steps p.tables e below (T76.setTop (mkF m 38 #[.val (.long q0_), .second, .val (.long q1_), .second, .val (.long q2_), .second, .val (.ref b1), .val (.long q2_), .second, .val (.long q1_), .second, .val (.int (1 : Int32)), .unset, .unset, .unset, .unset] [(.long q0_)])) _
          refine X76.ldc2Long hx hown (mvT hZ (hw _ (List.mem_of_getElem? (i := 29) rfl))) (g := (mkF m 38 #[.val (.long q0_), .second, .val (.long q1_), .second, .val (.long q2_), .second, .val (.ref b1), .val (.long q2_), .second, .val (.long q1_), .second, .val (.int (1 : Int32)), .unset, .unset, .unset, .unset] [(.long q0_)])) rfl (hb hby at_38) _ ?_
          show Steps p.tables e below (T76.setTop (mkF m 41 #[.val (.long q0_), .second, .val (.long q1_), .second, .val (.long q2_), .second, .val (.ref b1), .val (.long q2_), .second, .val (.long q1_), .second, .val (.int (1 : Int32)), .unset, .unset, .unset, .unset] [(.long (-9223372036854775808 : Int64)), (.long q0_)])) _
          refine XS.lcmp X76.here hx rfl (hb hby at_41) rfl ?_
          exact kt
        by_cases hc79 : q0_ = (-9223372036854775808 : Int64)
        · obtain ⟨cq80, kq80, q80a, q80b, q80c⟩ := isOf hZ e76' g8_0
          obtain ⟨_, _, ⟨T80, L80, k80, n80⟩, -, X80, ⟨Lc80, hQ80, l80, y80, z80⟩, st80⟩ := X76.virtualBack hx (y := (⟨"com/example/fawley/fawley/store/StoredValue", "hasExpiredAt", "(J)Z"⟩ : MethodName)) (z := (⟨"com/example/fawley/fawley/store/StoredValue", "hasExpiredAt", "(J)Z"⟩ : MethodName)) hown (mvT hZ (hw _ (List.mem_of_getElem? (i := 24) rfl))) (mvT hZ (hw _ (List.mem_of_getElem? (i := 25) rfl))) (notFace_of_selects (args := #[]) (mvT hZ (hw _ (List.mem_of_getElem? (i := 27) rfl)))) (mvT hZ (hw _ (List.mem_of_getElem? (i := 27) rfl))) (mvT hZ (hw _ (List.mem_of_getElem? (i := 26) rfl))) (by decide) (backOf (W := 0) (rmHas l Z a0 hw [] b1 q2_ q0_ h8 n0 f12 g8_4) hZ (hw _ (List.mem_of_getElem? (i := 28) rfl)) (hw _ (List.mem_of_getElem? (i := 2) rfl)) (by decide) (by decide)) q80a q80c (g := (mkF m 63 #[.val (.long q0_), .second, .val (.long q1_), .second, .val (.long q2_), .second, .val (.ref b1), .val (.long q2_), .second, .val (.long q1_), .second, .val (.int (1 : Int32)), .val (.int (0 : Int32)), .unset, .unset, .unset] [(.long q2_), (.ref b1)])) rfl (by rw [hml]; rfl) (Steps.refl _) (argsL := [(.long q2_)]) (rest := []) (lenOf pd_2 rfl) rfl (by show 2 * 0 + _ ≤ _; exact Nat.le_of_eq rfl) (hb hby at_63) (fun _ _ => ⟨rfl, e76', (by decide : 1 + 0 ≤ _), (by decide : 4 + 0 ≤ _)⟩)
          dsimp only [Pt.U, Pt.locs, Pt.cells, Pt.slots] at X80 l80 y80 z80 st80 hQ80
          subst l80 y80 z80
          obtain ⟨h80, e80⟩ : ∃ z, T80.heap = z := ⟨_, rfl⟩
          rw [e80] at hQ80
          obtain ⟨rr80, rfl, hs80, N80q, hh80⟩ := hQ80
          have N81 := Fr.app N77 N80q
          have e80' : T80.heap = h8 := e80.trans hh80
          rcases hs80 with ⟨rfl, hq80_0_0⟩ | ⟨rfl, hq80_1_0⟩
          · obtain ⟨cq82, kq82, q82a, q82b, q82c⟩ := isOf hZ e80' g8_0
            obtain ⟨_, _, ⟨T82, L82, k82, n82⟩, -, X82, ⟨Lc82, hQ82, l82, y82, z82⟩, st82⟩ := X80.virtualBack hx (y := (⟨"com/example/fawley/fawley/store/StoredValue", "hasExpiredAt", "(J)Z"⟩ : MethodName)) (z := (⟨"com/example/fawley/fawley/store/StoredValue", "hasExpiredAt", "(J)Z"⟩ : MethodName)) hown (mvT hZ (hw _ (List.mem_of_getElem? (i := 24) rfl))) (mvT hZ (hw _ (List.mem_of_getElem? (i := 25) rfl))) (notFace_of_selects (args := #[]) (mvT hZ (hw _ (List.mem_of_getElem? (i := 27) rfl)))) (mvT hZ (hw _ (List.mem_of_getElem? (i := 27) rfl))) (mvT hZ (hw _ (List.mem_of_getElem? (i := 26) rfl))) (by decide) (backOf (W := 0) (rmHas l Z a0 hw [] b1 q1_ q0_ h8 n0 f12 g8_4) hZ (hw _ (List.mem_of_getElem? (i := 28) rfl)) (hw _ (List.mem_of_getElem? (i := 2) rfl)) (by decide) (by decide)) q82a q82c (g := (mkF m 72 #[.val (.long q0_), .second, .val (.long q1_), .second, .val (.long q2_), .second, .val (.ref b1), .val (.long q2_), .second, .val (.long q1_), .second, .val (.int (1 : Int32)), .val (.int (0 : Int32)), .val (.int (1 : Int32)), .unset, .unset] [(.long q1_), (.ref b1)])) rfl (by rw [hml]; rfl) (Steps.refl _) (argsL := [(.long q1_)]) (rest := []) (lenOf pd_2 rfl) rfl (by show 2 * 0 + _ ≤ _; exact Nat.le_of_eq rfl) (hb hby at_72) (fun _ _ => ⟨rfl, e80', (by decide : 1 + 0 ≤ _), (by decide : 4 + 0 ≤ _)⟩)
            dsimp only [Pt.U, Pt.locs, Pt.cells, Pt.slots] at X82 l82 y82 z82 st82 hQ82
            subst l82 y82 z82
            obtain ⟨h82, e82⟩ : ∃ z, T82.heap = z := ⟨_, rfl⟩
            rw [e82] at hQ82
            obtain ⟨rr82, rfl, hs82, N82q, hh82⟩ := hQ82
            have N83 := Fr.app N81 N82q
            have e82' : T82.heap = h8 := e82.trans hh82
            rcases hs82 with ⟨rfl, hq82_0_0⟩ | ⟨rfl, hq82_1_0⟩
            · have pre84 : ∀ t, Steps p.tables e below (T82.setTop (mkF m 114 #[.val (.long q0_), .second, .val (.long q1_), .second, .val (.long q2_), .second, .val (.ref b1), .val (.long q2_), .second, .val (.long q1_), .second, .val (.int (1 : Int32)), .val (.int (0 : Int32)), .val (.int (1 : Int32)), .val (.int (1 : Int32)), .val (.int (1 : Int32))] [(.int (1 : Int32))])) t → Steps p.tables e below (s₁.setTop (entryFrame m #[(.long q0_), (.long q1_), (.long q2_)] maxLocals)) t := by
                intro t kt
                refine pre78 t ?_
                show Steps p.tables e below (T76.setTop (mkF m 42 #[.val (.long q0_), .second, .val (.long q1_), .second, .val (.long q2_), .second, .val (.ref b1), .val (.long q2_), .second, .val (.long q1_), .second, .val (.int (1 : Int32)), .unset, .unset, .unset, .unset] [(.int (lcmpW q0_ (-9223372036854775808 : Int64)))])) _
                refine XS.ifNo X76.here hx rfl (hb hby at_42) rfl ((if0 _ _).trans (teq ((lw_eq _ _).mpr hc79)).2) ?_
                show Steps p.tables e below (T76.setTop (mkF m 45 #[.val (.long q0_), .second, .val (.long q1_), .second, .val (.long q2_), .second, .val (.ref b1), .val (.long q2_), .second, .val (.long q1_), .second, .val (.int (1 : Int32)), .unset, .unset, .unset, .unset] [])) _
                refine XS.iconst X76.here hx rfl (hb hby at_45) ?_
                show Steps p.tables e below (T76.setTop (mkF m 46 #[.val (.long q0_), .second, .val (.long q1_), .second, .val (.long q2_), .second, .val (.ref b1), .val (.long q2_), .second, .val (.long q1_), .second, .val (.int (1 : Int32)), .unset, .unset, .unset, .unset] [(.int (0 : Int32))])) _
                refine XS.goto X76.here hx rfl (pc0 := 46) (pc' := 57) rfl (hb hby at_46) (by decide) (by decide) ?_
                show Steps p.tables e below (T76.setTop (mkF m 57 #[.val (.long q0_), .second, .val (.long q1_), .second, .val (.long q2_), .second, .val (.ref b1), .val (.long q2_), .second, .val (.long q1_), .second, .val (.int (1 : Int32)), .unset, .unset, .unset, .unset] [(.int (0 : Int32))])) _
                refine XS.istore X76.here hx rfl (hb hby at_57) rfl (l' := #[.val (.long q0_), .second, .val (.long q1_), .second, .val (.long q2_), .second, .val (.ref b1), .val (.long q2_), .second, .val (.long q1_), .second, .val (.int (1 : Int32)), .val (.int (0 : Int32)), .unset, .unset, .unset]) rfl ?_
                show Steps p.tables e below (T76.setTop (mkF m 59 #[.val (.long q0_), .second, .val (.long q1_), .second, .val (.long q2_), .second, .val (.ref b1), .val (.long q2_), .second, .val (.long q1_), .second, .val (.int (1 : Int32)), .val (.int (0 : Int32)), .unset, .unset, .unset] [])) _
                refine XS.aload X76.here hx rfl (hb hby at_59) rfl rfl ?_
                show Steps p.tables e below (T76.setTop (mkF m 61 #[.val (.long q0_), .second, .val (.long q1_), .second, .val (.long q2_), .second, .val (.ref b1), .val (.long q2_), .second, .val (.long q1_), .second, .val (.int (1 : Int32)), .val (.int (0 : Int32)), .unset, .unset, .unset] [(.ref b1)])) _
                refine XS.lload X76.here hx rfl (hb hby at_61) rfl ?_
                show Steps p.tables e below (T76.setTop (mkF m 63 #[.val (.long q0_), .second, .val (.long q1_), .second, .val (.long q2_), .second, .val (.ref b1), .val (.long q2_), .second, .val (.long q1_), .second, .val (.int (1 : Int32)), .val (.int (0 : Int32)), .unset, .unset, .unset] [(.long q2_), (.ref b1)])) _
                refine st80.trans ?_
                show Steps p.tables e below (T80.setTop (mkF m 66 #[.val (.long q0_), .second, .val (.long q1_), .second, .val (.long q2_), .second, .val (.ref b1), .val (.long q2_), .second, .val (.long q1_), .second, .val (.int (1 : Int32)), .val (.int (0 : Int32)), .unset, .unset, .unset] [(.int (1 : Int32))])) _
                refine XS.istore X80.here hx rfl (hb hby at_66) rfl (l' := #[.val (.long q0_), .second, .val (.long q1_), .second, .val (.long q2_), .second, .val (.ref b1), .val (.long q2_), .second, .val (.long q1_), .second, .val (.int (1 : Int32)), .val (.int (0 : Int32)), .val (.int (1 : Int32)), .unset, .unset]) rfl ?_
                show Steps p.tables e below (T80.setTop (mkF m 68 #[.val (.long q0_), .second, .val (.long q1_), .second, .val (.long q2_), .second, .val (.ref b1), .val (.long q2_), .second, .val (.long q1_), .second, .val (.int (1 : Int32)), .val (.int (0 : Int32)), .val (.int (1 : Int32)), .unset, .unset] [])) _
                refine XS.aload X80.here hx rfl (hb hby at_68) rfl rfl ?_
                show Steps p.tables e below (T80.setTop (mkF m 70 #[.val (.long q0_), .second, .val (.long q1_), .second, .val (.long q2_), .second, .val (.ref b1), .val (.long q2_), .second, .val (.long q1_), .second, .val (.int (1 : Int32)), .val (.int (0 : Int32)), .val (.int (1 : Int32)), .unset, .unset] [(.ref b1)])) _
                refine XS.lload X80.here hx rfl (hb hby at_70) rfl ?_
                show Steps p.tables e below (T80.setTop (mkF m 72 #[.val (.long q0_), .second, .val (.long q1_), .second, .val (.long q2_), .second, .val (.ref b1), .val (.long q2_), .second, .val (.long q1_), .second, .val (.int (1 : Int32)), .val (.int (0 : Int32)), .val (.int (1 : Int32)), .unset, .unset] [(.long q1_), (.ref b1)])) _
                refine st82.trans ?_
                show Steps p.tables e below (T82.setTop (mkF m 75 #[.val (.long q0_), .second, .val (.long q1_), .second, .val (.long q2_), .second, .val (.ref b1), .val (.long q2_), .second, .val (.long q1_), .second, .val (.int (1 : Int32)), .val (.int (0 : Int32)), .val (.int (1 : Int32)), .unset, .unset] [(.int (1 : Int32))])) _
                refine XS.istore X82.here hx rfl (hb hby at_75) rfl (l' := #[.val (.long q0_), .second, .val (.long q1_), .second, .val (.long q2_), .second, .val (.ref b1), .val (.long q2_), .second, .val (.long q1_), .second, .val (.int (1 : Int32)), .val (.int (0 : Int32)), .val (.int (1 : Int32)), .val (.int (1 : Int32)), .unset]) rfl ?_
                show Steps p.tables e below (T82.setTop (mkF m 77 #[.val (.long q0_), .second, .val (.long q1_), .second, .val (.long q2_), .second, .val (.ref b1), .val (.long q2_), .second, .val (.long q1_), .second, .val (.int (1 : Int32)), .val (.int (0 : Int32)), .val (.int (1 : Int32)), .val (.int (1 : Int32)), .unset] [])) _
                refine XS.iload X82.here hx rfl (hb hby at_77) rfl ?_
                show Steps p.tables e below (T82.setTop (mkF m 79 #[.val (.long q0_), .second, .val (.long q1_), .second, .val (.long q2_), .second, .val (.ref b1), .val (.long q2_), .second, .val (.long q1_), .second, .val (.int (1 : Int32)), .val (.int (0 : Int32)), .val (.int (1 : Int32)), .val (.int (1 : Int32)), .unset] [(.int (1 : Int32))])) _
                refine XS.ifNo X82.here hx rfl (hb hby at_79) rfl ((if0 _ _).trans (feq (by decide : ¬ ((1 : Int32) = (0 : Int32)))).1) ?_
                show Steps p.tables e below (T82.setTop (mkF m 82 #[.val (.long q0_), .second, .val (.long q1_), .second, .val (.long q2_), .second, .val (.ref b1), .val (.long q2_), .second, .val (.long q1_), .second, .val (.int (1 : Int32)), .val (.int (0 : Int32)), .val (.int (1 : Int32)), .val (.int (1 : Int32)), .unset] [])) _
                refine XS.iload X82.here hx rfl (hb hby at_82) rfl ?_
                show Steps p.tables e below (T82.setTop (mkF m 84 #[.val (.long q0_), .second, .val (.long q1_), .second, .val (.long q2_), .second, .val (.ref b1), .val (.long q2_), .second, .val (.long q1_), .second, .val (.int (1 : Int32)), .val (.int (0 : Int32)), .val (.int (1 : Int32)), .val (.int (1 : Int32)), .unset] [(.int (1 : Int32))])) _
                refine XS.ifNo X82.here hx rfl (hb hby at_84) rfl ((if0 _ _).trans (feq (by decide : ¬ ((1 : Int32) = (0 : Int32)))).1) ?_
                show Steps p.tables e below (T82.setTop (mkF m 87 #[.val (.long q0_), .second, .val (.long q1_), .second, .val (.long q2_), .second, .val (.ref b1), .val (.long q2_), .second, .val (.long q1_), .second, .val (.int (1 : Int32)), .val (.int (0 : Int32)), .val (.int (1 : Int32)), .val (.int (1 : Int32)), .unset] [])) _
                refine XS.iconst X82.here hx rfl (hb hby at_87) ?_
                show Steps p.tables e below (T82.setTop (mkF m 88 #[.val (.long q0_), .second, .val (.long q1_), .second, .val (.long q2_), .second, .val (.ref b1), .val (.long q2_), .second, .val (.long q1_), .second, .val (.int (1 : Int32)), .val (.int (0 : Int32)), .val (.int (1 : Int32)), .val (.int (1 : Int32)), .unset] [(.int (1 : Int32))])) _
                refine XS.goto X82.here hx rfl (pc0 := 88) (pc' := 92) rfl (hb hby at_88) (by decide) (by decide) ?_
                show Steps p.tables e below (T82.setTop (mkF m 92 #[.val (.long q0_), .second, .val (.long q1_), .second, .val (.long q2_), .second, .val (.ref b1), .val (.long q2_), .second, .val (.long q1_), .second, .val (.int (1 : Int32)), .val (.int (0 : Int32)), .val (.int (1 : Int32)), .val (.int (1 : Int32)), .unset] [(.int (1 : Int32))])) _
                refine XS.istore X82.here hx rfl (hb hby at_92) rfl (l' := #[.val (.long q0_), .second, .val (.long q1_), .second, .val (.long q2_), .second, .val (.ref b1), .val (.long q2_), .second, .val (.long q1_), .second, .val (.int (1 : Int32)), .val (.int (0 : Int32)), .val (.int (1 : Int32)), .val (.int (1 : Int32)), .val (.int (1 : Int32))]) rfl ?_
                show Steps p.tables e below (T82.setTop (mkF m 94 #[.val (.long q0_), .second, .val (.long q1_), .second, .val (.long q2_), .second, .val (.ref b1), .val (.long q2_), .second, .val (.long q1_), .second, .val (.int (1 : Int32)), .val (.int (0 : Int32)), .val (.int (1 : Int32)), .val (.int (1 : Int32)), .val (.int (1 : Int32))] [])) _
                refine XS.iload X82.here hx rfl (hb hby at_94) rfl ?_
                show Steps p.tables e below (T82.setTop (mkF m 96 #[.val (.long q0_), .second, .val (.long q1_), .second, .val (.long q2_), .second, .val (.ref b1), .val (.long q2_), .second, .val (.long q1_), .second, .val (.int (1 : Int32)), .val (.int (0 : Int32)), .val (.int (1 : Int32)), .val (.int (1 : Int32)), .val (.int (1 : Int32))] [(.int (1 : Int32))])) _
                refine XS.ifNo X82.here hx rfl (hb hby at_96) rfl ((if0 _ _).trans (feq (by decide : ¬ ((1 : Int32) = (0 : Int32)))).1) ?_
                show Steps p.tables e below (T82.setTop (mkF m 99 #[.val (.long q0_), .second, .val (.long q1_), .second, .val (.long q2_), .second, .val (.ref b1), .val (.long q2_), .second, .val (.long q1_), .second, .val (.int (1 : Int32)), .val (.int (0 : Int32)), .val (.int (1 : Int32)), .val (.int (1 : Int32)), .val (.int (1 : Int32))] [])) _
                refine XS.iload X82.here hx rfl (hb hby at_99) rfl ?_
                show Steps p.tables e below (T82.setTop (mkF m 101 #[.val (.long q0_), .second, .val (.long q1_), .second, .val (.long q2_), .second, .val (.ref b1), .val (.long q2_), .second, .val (.long q1_), .second, .val (.int (1 : Int32)), .val (.int (0 : Int32)), .val (.int (1 : Int32)), .val (.int (1 : Int32)), .val (.int (1 : Int32))] [(.int (0 : Int32))])) _
                refine XS.ifNo X82.here hx rfl (hb hby at_101) rfl ((if0 _ _).trans (teq (by decide : (0 : Int32) = (0 : Int32))).2) ?_
                show Steps p.tables e below (T82.setTop (mkF m 104 #[.val (.long q0_), .second, .val (.long q1_), .second, .val (.long q2_), .second, .val (.ref b1), .val (.long q2_), .second, .val (.long q1_), .second, .val (.int (1 : Int32)), .val (.int (0 : Int32)), .val (.int (1 : Int32)), .val (.int (1 : Int32)), .val (.int (1 : Int32))] [])) _
                refine XS.iload X82.here hx rfl (hb hby at_104) rfl ?_
                show Steps p.tables e below (T82.setTop (mkF m 106 #[.val (.long q0_), .second, .val (.long q1_), .second, .val (.long q2_), .second, .val (.ref b1), .val (.long q2_), .second, .val (.long q1_), .second, .val (.int (1 : Int32)), .val (.int (0 : Int32)), .val (.int (1 : Int32)), .val (.int (1 : Int32)), .val (.int (1 : Int32))] [(.int (1 : Int32))])) _
                refine XS.ifNo X82.here hx rfl (hb hby at_106) rfl ((if0 _ _).trans (feq (by decide : ¬ ((1 : Int32) = (0 : Int32)))).1) ?_
                show Steps p.tables e below (T82.setTop (mkF m 109 #[.val (.long q0_), .second, .val (.long q1_), .second, .val (.long q2_), .second, .val (.ref b1), .val (.long q2_), .second, .val (.long q1_), .second, .val (.int (1 : Int32)), .val (.int (0 : Int32)), .val (.int (1 : Int32)), .val (.int (1 : Int32)), .val (.int (1 : Int32))] [])) _
                refine XS.iconst X82.here hx rfl (hb hby at_109) ?_
                show Steps p.tables e below (T82.setTop (mkF m 110 #[.val (.long q0_), .second, .val (.long q1_), .second, .val (.long q2_), .second, .val (.ref b1), .val (.long q2_), .second, .val (.long q1_), .second, .val (.int (1 : Int32)), .val (.int (0 : Int32)), .val (.int (1 : Int32)), .val (.int (1 : Int32)), .val (.int (1 : Int32))] [(.int (1 : Int32))])) _
                refine XS.goto X82.here hx rfl (pc0 := 110) (pc' := 114) rfl (hb hby at_110) (by decide) (by decide) ?_
                exact kt
              obtain ⟨fs, hr, hrun, hended, hW, hsame⟩ := X82.leave (v := some (.int (1 : Int32))) (fun h => by rw [Bd.returns] at h; cases h)
              refine ⟨_, _, pre84 _ (retN X82 hx (t := .boolean) Bd.returns (by simp) (hb hby at_114) hr), hrun, hended, _, _, rfl, ?_, ⟨_, rfl⟩, hW, hsame.mono (by decide) (by decide)⟩
              show QLaw Z q0_ q1_ q2_ h0 n0 _ T82.heap _
              rw [e82']
              exact ⟨rfl, N83⟩
            · have pre86 : ∀ t, Steps p.tables e below (T82.setTop (mkF m 114 #[.val (.long q0_), .second, .val (.long q1_), .second, .val (.long q2_), .second, .val (.ref b1), .val (.long q2_), .second, .val (.long q1_), .second, .val (.int (1 : Int32)), .val (.int (0 : Int32)), .val (.int (1 : Int32)), .val (.int (0 : Int32)), .val (.int (0 : Int32))] [(.int (0 : Int32))])) t → Steps p.tables e below (s₁.setTop (entryFrame m #[(.long q0_), (.long q1_), (.long q2_)] maxLocals)) t := by
                intro t kt
                refine pre78 t ?_
                show Steps p.tables e below (T76.setTop (mkF m 42 #[.val (.long q0_), .second, .val (.long q1_), .second, .val (.long q2_), .second, .val (.ref b1), .val (.long q2_), .second, .val (.long q1_), .second, .val (.int (1 : Int32)), .unset, .unset, .unset, .unset] [(.int (lcmpW q0_ (-9223372036854775808 : Int64)))])) _
                refine XS.ifNo X76.here hx rfl (hb hby at_42) rfl ((if0 _ _).trans (teq ((lw_eq _ _).mpr hc79)).2) ?_
                show Steps p.tables e below (T76.setTop (mkF m 45 #[.val (.long q0_), .second, .val (.long q1_), .second, .val (.long q2_), .second, .val (.ref b1), .val (.long q2_), .second, .val (.long q1_), .second, .val (.int (1 : Int32)), .unset, .unset, .unset, .unset] [])) _
                refine XS.iconst X76.here hx rfl (hb hby at_45) ?_
                show Steps p.tables e below (T76.setTop (mkF m 46 #[.val (.long q0_), .second, .val (.long q1_), .second, .val (.long q2_), .second, .val (.ref b1), .val (.long q2_), .second, .val (.long q1_), .second, .val (.int (1 : Int32)), .unset, .unset, .unset, .unset] [(.int (0 : Int32))])) _
                refine XS.goto X76.here hx rfl (pc0 := 46) (pc' := 57) rfl (hb hby at_46) (by decide) (by decide) ?_
                show Steps p.tables e below (T76.setTop (mkF m 57 #[.val (.long q0_), .second, .val (.long q1_), .second, .val (.long q2_), .second, .val (.ref b1), .val (.long q2_), .second, .val (.long q1_), .second, .val (.int (1 : Int32)), .unset, .unset, .unset, .unset] [(.int (0 : Int32))])) _
                refine XS.istore X76.here hx rfl (hb hby at_57) rfl (l' := #[.val (.long q0_), .second, .val (.long q1_), .second, .val (.long q2_), .second, .val (.ref b1), .val (.long q2_), .second, .val (.long q1_), .second, .val (.int (1 : Int32)), .val (.int (0 : Int32)), .unset, .unset, .unset]) rfl ?_
                show Steps p.tables e below (T76.setTop (mkF m 59 #[.val (.long q0_), .second, .val (.long q1_), .second, .val (.long q2_), .second, .val (.ref b1), .val (.long q2_), .second, .val (.long q1_), .second, .val (.int (1 : Int32)), .val (.int (0 : Int32)), .unset, .unset, .unset] [])) _
                refine XS.aload X76.here hx rfl (hb hby at_59) rfl rfl ?_
                show Steps p.tables e below (T76.setTop (mkF m 61 #[.val (.long q0_), .second, .val (.long q1_), .second, .val (.long q2_), .second, .val (.ref b1), .val (.long q2_), .second, .val (.long q1_), .second, .val (.int (1 : Int32)), .val (.int (0 : Int32)), .unset, .unset, .unset] [(.ref b1)])) _
                refine XS.lload X76.here hx rfl (hb hby at_61) rfl ?_
                show Steps p.tables e below (T76.setTop (mkF m 63 #[.val (.long q0_), .second, .val (.long q1_), .second, .val (.long q2_), .second, .val (.ref b1), .val (.long q2_), .second, .val (.long q1_), .second, .val (.int (1 : Int32)), .val (.int (0 : Int32)), .unset, .unset, .unset] [(.long q2_), (.ref b1)])) _
                refine st80.trans ?_
                show Steps p.tables e below (T80.setTop (mkF m 66 #[.val (.long q0_), .second, .val (.long q1_), .second, .val (.long q2_), .second, .val (.ref b1), .val (.long q2_), .second, .val (.long q1_), .second, .val (.int (1 : Int32)), .val (.int (0 : Int32)), .unset, .unset, .unset] [(.int (1 : Int32))])) _
                refine XS.istore X80.here hx rfl (hb hby at_66) rfl (l' := #[.val (.long q0_), .second, .val (.long q1_), .second, .val (.long q2_), .second, .val (.ref b1), .val (.long q2_), .second, .val (.long q1_), .second, .val (.int (1 : Int32)), .val (.int (0 : Int32)), .val (.int (1 : Int32)), .unset, .unset]) rfl ?_
                show Steps p.tables e below (T80.setTop (mkF m 68 #[.val (.long q0_), .second, .val (.long q1_), .second, .val (.long q2_), .second, .val (.ref b1), .val (.long q2_), .second, .val (.long q1_), .second, .val (.int (1 : Int32)), .val (.int (0 : Int32)), .val (.int (1 : Int32)), .unset, .unset] [])) _
                refine XS.aload X80.here hx rfl (hb hby at_68) rfl rfl ?_
                show Steps p.tables e below (T80.setTop (mkF m 70 #[.val (.long q0_), .second, .val (.long q1_), .second, .val (.long q2_), .second, .val (.ref b1), .val (.long q2_), .second, .val (.long q1_), .second, .val (.int (1 : Int32)), .val (.int (0 : Int32)), .val (.int (1 : Int32)), .unset, .unset] [(.ref b1)])) _
                refine XS.lload X80.here hx rfl (hb hby at_70) rfl ?_
                show Steps p.tables e below (T80.setTop (mkF m 72 #[.val (.long q0_), .second, .val (.long q1_), .second, .val (.long q2_), .second, .val (.ref b1), .val (.long q2_), .second, .val (.long q1_), .second, .val (.int (1 : Int32)), .val (.int (0 : Int32)), .val (.int (1 : Int32)), .unset, .unset] [(.long q1_), (.ref b1)])) _
                refine st82.trans ?_
                show Steps p.tables e below (T82.setTop (mkF m 75 #[.val (.long q0_), .second, .val (.long q1_), .second, .val (.long q2_), .second, .val (.ref b1), .val (.long q2_), .second, .val (.long q1_), .second, .val (.int (1 : Int32)), .val (.int (0 : Int32)), .val (.int (1 : Int32)), .unset, .unset] [(.int (0 : Int32))])) _
                refine XS.istore X82.here hx rfl (hb hby at_75) rfl (l' := #[.val (.long q0_), .second, .val (.long q1_), .second, .val (.long q2_), .second, .val (.ref b1), .val (.long q2_), .second, .val (.long q1_), .second, .val (.int (1 : Int32)), .val (.int (0 : Int32)), .val (.int (1 : Int32)), .val (.int (0 : Int32)), .unset]) rfl ?_
                show Steps p.tables e below (T82.setTop (mkF m 77 #[.val (.long q0_), .second, .val (.long q1_), .second, .val (.long q2_), .second, .val (.ref b1), .val (.long q2_), .second, .val (.long q1_), .second, .val (.int (1 : Int32)), .val (.int (0 : Int32)), .val (.int (1 : Int32)), .val (.int (0 : Int32)), .unset] [])) _
                refine XS.iload X82.here hx rfl (hb hby at_77) rfl ?_
                show Steps p.tables e below (T82.setTop (mkF m 79 #[.val (.long q0_), .second, .val (.long q1_), .second, .val (.long q2_), .second, .val (.ref b1), .val (.long q2_), .second, .val (.long q1_), .second, .val (.int (1 : Int32)), .val (.int (0 : Int32)), .val (.int (1 : Int32)), .val (.int (0 : Int32)), .unset] [(.int (1 : Int32))])) _
                refine XS.ifNo X82.here hx rfl (hb hby at_79) rfl ((if0 _ _).trans (feq (by decide : ¬ ((1 : Int32) = (0 : Int32)))).1) ?_
                show Steps p.tables e below (T82.setTop (mkF m 82 #[.val (.long q0_), .second, .val (.long q1_), .second, .val (.long q2_), .second, .val (.ref b1), .val (.long q2_), .second, .val (.long q1_), .second, .val (.int (1 : Int32)), .val (.int (0 : Int32)), .val (.int (1 : Int32)), .val (.int (0 : Int32)), .unset] [])) _
                refine XS.iload X82.here hx rfl (hb hby at_82) rfl ?_
                show Steps p.tables e below (T82.setTop (mkF m 84 #[.val (.long q0_), .second, .val (.long q1_), .second, .val (.long q2_), .second, .val (.ref b1), .val (.long q2_), .second, .val (.long q1_), .second, .val (.int (1 : Int32)), .val (.int (0 : Int32)), .val (.int (1 : Int32)), .val (.int (0 : Int32)), .unset] [(.int (0 : Int32))])) _
                refine XS.ifYes X82.here hx rfl (pc0 := 84) (pc' := 91) rfl (hb hby at_84) rfl ((if0 _ _).trans (teq (by decide : (0 : Int32) = (0 : Int32))).1) (by decide) (by decide) ?_
                show Steps p.tables e below (T82.setTop (mkF m 91 #[.val (.long q0_), .second, .val (.long q1_), .second, .val (.long q2_), .second, .val (.ref b1), .val (.long q2_), .second, .val (.long q1_), .second, .val (.int (1 : Int32)), .val (.int (0 : Int32)), .val (.int (1 : Int32)), .val (.int (0 : Int32)), .unset] [])) _
                refine XS.iconst X82.here hx rfl (hb hby at_91) ?_
                show Steps p.tables e below (T82.setTop (mkF m 92 #[.val (.long q0_), .second, .val (.long q1_), .second, .val (.long q2_), .second, .val (.ref b1), .val (.long q2_), .second, .val (.long q1_), .second, .val (.int (1 : Int32)), .val (.int (0 : Int32)), .val (.int (1 : Int32)), .val (.int (0 : Int32)), .unset] [(.int (0 : Int32))])) _
                refine XS.istore X82.here hx rfl (hb hby at_92) rfl (l' := #[.val (.long q0_), .second, .val (.long q1_), .second, .val (.long q2_), .second, .val (.ref b1), .val (.long q2_), .second, .val (.long q1_), .second, .val (.int (1 : Int32)), .val (.int (0 : Int32)), .val (.int (1 : Int32)), .val (.int (0 : Int32)), .val (.int (0 : Int32))]) rfl ?_
                show Steps p.tables e below (T82.setTop (mkF m 94 #[.val (.long q0_), .second, .val (.long q1_), .second, .val (.long q2_), .second, .val (.ref b1), .val (.long q2_), .second, .val (.long q1_), .second, .val (.int (1 : Int32)), .val (.int (0 : Int32)), .val (.int (1 : Int32)), .val (.int (0 : Int32)), .val (.int (0 : Int32))] [])) _
                refine XS.iload X82.here hx rfl (hb hby at_94) rfl ?_
                show Steps p.tables e below (T82.setTop (mkF m 96 #[.val (.long q0_), .second, .val (.long q1_), .second, .val (.long q2_), .second, .val (.ref b1), .val (.long q2_), .second, .val (.long q1_), .second, .val (.int (1 : Int32)), .val (.int (0 : Int32)), .val (.int (1 : Int32)), .val (.int (0 : Int32)), .val (.int (0 : Int32))] [(.int (1 : Int32))])) _
                refine XS.ifNo X82.here hx rfl (hb hby at_96) rfl ((if0 _ _).trans (feq (by decide : ¬ ((1 : Int32) = (0 : Int32)))).1) ?_
                show Steps p.tables e below (T82.setTop (mkF m 99 #[.val (.long q0_), .second, .val (.long q1_), .second, .val (.long q2_), .second, .val (.ref b1), .val (.long q2_), .second, .val (.long q1_), .second, .val (.int (1 : Int32)), .val (.int (0 : Int32)), .val (.int (1 : Int32)), .val (.int (0 : Int32)), .val (.int (0 : Int32))] [])) _
                refine XS.iload X82.here hx rfl (hb hby at_99) rfl ?_
                show Steps p.tables e below (T82.setTop (mkF m 101 #[.val (.long q0_), .second, .val (.long q1_), .second, .val (.long q2_), .second, .val (.ref b1), .val (.long q2_), .second, .val (.long q1_), .second, .val (.int (1 : Int32)), .val (.int (0 : Int32)), .val (.int (1 : Int32)), .val (.int (0 : Int32)), .val (.int (0 : Int32))] [(.int (0 : Int32))])) _
                refine XS.ifNo X82.here hx rfl (hb hby at_101) rfl ((if0 _ _).trans (teq (by decide : (0 : Int32) = (0 : Int32))).2) ?_
                show Steps p.tables e below (T82.setTop (mkF m 104 #[.val (.long q0_), .second, .val (.long q1_), .second, .val (.long q2_), .second, .val (.ref b1), .val (.long q2_), .second, .val (.long q1_), .second, .val (.int (1 : Int32)), .val (.int (0 : Int32)), .val (.int (1 : Int32)), .val (.int (0 : Int32)), .val (.int (0 : Int32))] [])) _
                refine XS.iload X82.here hx rfl (hb hby at_104) rfl ?_
                show Steps p.tables e below (T82.setTop (mkF m 106 #[.val (.long q0_), .second, .val (.long q1_), .second, .val (.long q2_), .second, .val (.ref b1), .val (.long q2_), .second, .val (.long q1_), .second, .val (.int (1 : Int32)), .val (.int (0 : Int32)), .val (.int (1 : Int32)), .val (.int (0 : Int32)), .val (.int (0 : Int32))] [(.int (0 : Int32))])) _
                refine XS.ifYes X82.here hx rfl (pc0 := 106) (pc' := 113) rfl (hb hby at_106) rfl ((if0 _ _).trans (teq (by decide : (0 : Int32) = (0 : Int32))).1) (by decide) (by decide) ?_
                show Steps p.tables e below (T82.setTop (mkF m 113 #[.val (.long q0_), .second, .val (.long q1_), .second, .val (.long q2_), .second, .val (.ref b1), .val (.long q2_), .second, .val (.long q1_), .second, .val (.int (1 : Int32)), .val (.int (0 : Int32)), .val (.int (1 : Int32)), .val (.int (0 : Int32)), .val (.int (0 : Int32))] [])) _
                refine XS.iconst X82.here hx rfl (hb hby at_113) ?_
                exact kt
              exfalso
              simp only [Int64.lt_iff_toInt_lt] at hq11_1_0 hq74_0_0 hq76_0_0 hc79 hq80_0_0 hq82_1_0
              omega
          · obtain ⟨cq87, kq87, q87a, q87b, q87c⟩ := isOf hZ e80' g8_0
            obtain ⟨_, _, ⟨T87, L87, k87, n87⟩, -, X87, ⟨Lc87, hQ87, l87, y87, z87⟩, st87⟩ := X80.virtualBack hx (y := (⟨"com/example/fawley/fawley/store/StoredValue", "hasExpiredAt", "(J)Z"⟩ : MethodName)) (z := (⟨"com/example/fawley/fawley/store/StoredValue", "hasExpiredAt", "(J)Z"⟩ : MethodName)) hown (mvT hZ (hw _ (List.mem_of_getElem? (i := 24) rfl))) (mvT hZ (hw _ (List.mem_of_getElem? (i := 25) rfl))) (notFace_of_selects (args := #[]) (mvT hZ (hw _ (List.mem_of_getElem? (i := 27) rfl)))) (mvT hZ (hw _ (List.mem_of_getElem? (i := 27) rfl))) (mvT hZ (hw _ (List.mem_of_getElem? (i := 26) rfl))) (by decide) (backOf (W := 0) (rmHas l Z a0 hw [] b1 q1_ q0_ h8 n0 f12 g8_4) hZ (hw _ (List.mem_of_getElem? (i := 28) rfl)) (hw _ (List.mem_of_getElem? (i := 2) rfl)) (by decide) (by decide)) q87a q87c (g := (mkF m 72 #[.val (.long q0_), .second, .val (.long q1_), .second, .val (.long q2_), .second, .val (.ref b1), .val (.long q2_), .second, .val (.long q1_), .second, .val (.int (1 : Int32)), .val (.int (0 : Int32)), .val (.int (0 : Int32)), .unset, .unset] [(.long q1_), (.ref b1)])) rfl (by rw [hml]; rfl) (Steps.refl _) (argsL := [(.long q1_)]) (rest := []) (lenOf pd_2 rfl) rfl (by show 2 * 0 + _ ≤ _; exact Nat.le_of_eq rfl) (hb hby at_72) (fun _ _ => ⟨rfl, e80', (by decide : 1 + 0 ≤ _), (by decide : 4 + 0 ≤ _)⟩)
            dsimp only [Pt.U, Pt.locs, Pt.cells, Pt.slots] at X87 l87 y87 z87 st87 hQ87
            subst l87 y87 z87
            obtain ⟨h87, e87⟩ : ∃ z, T87.heap = z := ⟨_, rfl⟩
            rw [e87] at hQ87
            obtain ⟨rr87, rfl, hs87, N87q, hh87⟩ := hQ87
            have N88 := Fr.app N81 N87q
            have e87' : T87.heap = h8 := e87.trans hh87
            rcases hs87 with ⟨rfl, hq87_0_0⟩ | ⟨rfl, hq87_1_0⟩
            · have pre89 : ∀ t, Steps p.tables e below (T87.setTop (mkF m 114 #[.val (.long q0_), .second, .val (.long q1_), .second, .val (.long q2_), .second, .val (.ref b1), .val (.long q2_), .second, .val (.long q1_), .second, .val (.int (1 : Int32)), .val (.int (0 : Int32)), .val (.int (0 : Int32)), .val (.int (1 : Int32)), .val (.int (1 : Int32))] [(.int (1 : Int32))])) t → Steps p.tables e below (s₁.setTop (entryFrame m #[(.long q0_), (.long q1_), (.long q2_)] maxLocals)) t := by
                intro t kt
                refine pre78 t ?_
                show Steps p.tables e below (T76.setTop (mkF m 42 #[.val (.long q0_), .second, .val (.long q1_), .second, .val (.long q2_), .second, .val (.ref b1), .val (.long q2_), .second, .val (.long q1_), .second, .val (.int (1 : Int32)), .unset, .unset, .unset, .unset] [(.int (lcmpW q0_ (-9223372036854775808 : Int64)))])) _
                refine XS.ifNo X76.here hx rfl (hb hby at_42) rfl ((if0 _ _).trans (teq ((lw_eq _ _).mpr hc79)).2) ?_
                show Steps p.tables e below (T76.setTop (mkF m 45 #[.val (.long q0_), .second, .val (.long q1_), .second, .val (.long q2_), .second, .val (.ref b1), .val (.long q2_), .second, .val (.long q1_), .second, .val (.int (1 : Int32)), .unset, .unset, .unset, .unset] [])) _
                refine XS.iconst X76.here hx rfl (hb hby at_45) ?_
                show Steps p.tables e below (T76.setTop (mkF m 46 #[.val (.long q0_), .second, .val (.long q1_), .second, .val (.long q2_), .second, .val (.ref b1), .val (.long q2_), .second, .val (.long q1_), .second, .val (.int (1 : Int32)), .unset, .unset, .unset, .unset] [(.int (0 : Int32))])) _
                refine XS.goto X76.here hx rfl (pc0 := 46) (pc' := 57) rfl (hb hby at_46) (by decide) (by decide) ?_
                show Steps p.tables e below (T76.setTop (mkF m 57 #[.val (.long q0_), .second, .val (.long q1_), .second, .val (.long q2_), .second, .val (.ref b1), .val (.long q2_), .second, .val (.long q1_), .second, .val (.int (1 : Int32)), .unset, .unset, .unset, .unset] [(.int (0 : Int32))])) _
                refine XS.istore X76.here hx rfl (hb hby at_57) rfl (l' := #[.val (.long q0_), .second, .val (.long q1_), .second, .val (.long q2_), .second, .val (.ref b1), .val (.long q2_), .second, .val (.long q1_), .second, .val (.int (1 : Int32)), .val (.int (0 : Int32)), .unset, .unset, .unset]) rfl ?_
                show Steps p.tables e below (T76.setTop (mkF m 59 #[.val (.long q0_), .second, .val (.long q1_), .second, .val (.long q2_), .second, .val (.ref b1), .val (.long q2_), .second, .val (.long q1_), .second, .val (.int (1 : Int32)), .val (.int (0 : Int32)), .unset, .unset, .unset] [])) _
                refine XS.aload X76.here hx rfl (hb hby at_59) rfl rfl ?_
                show Steps p.tables e below (T76.setTop (mkF m 61 #[.val (.long q0_), .second, .val (.long q1_), .second, .val (.long q2_), .second, .val (.ref b1), .val (.long q2_), .second, .val (.long q1_), .second, .val (.int (1 : Int32)), .val (.int (0 : Int32)), .unset, .unset, .unset] [(.ref b1)])) _
                refine XS.lload X76.here hx rfl (hb hby at_61) rfl ?_
                show Steps p.tables e below (T76.setTop (mkF m 63 #[.val (.long q0_), .second, .val (.long q1_), .second, .val (.long q2_), .second, .val (.ref b1), .val (.long q2_), .second, .val (.long q1_), .second, .val (.int (1 : Int32)), .val (.int (0 : Int32)), .unset, .unset, .unset] [(.long q2_), (.ref b1)])) _
                refine st80.trans ?_
                show Steps p.tables e below (T80.setTop (mkF m 66 #[.val (.long q0_), .second, .val (.long q1_), .second, .val (.long q2_), .second, .val (.ref b1), .val (.long q2_), .second, .val (.long q1_), .second, .val (.int (1 : Int32)), .val (.int (0 : Int32)), .unset, .unset, .unset] [(.int (0 : Int32))])) _
                refine XS.istore X80.here hx rfl (hb hby at_66) rfl (l' := #[.val (.long q0_), .second, .val (.long q1_), .second, .val (.long q2_), .second, .val (.ref b1), .val (.long q2_), .second, .val (.long q1_), .second, .val (.int (1 : Int32)), .val (.int (0 : Int32)), .val (.int (0 : Int32)), .unset, .unset]) rfl ?_
                show Steps p.tables e below (T80.setTop (mkF m 68 #[.val (.long q0_), .second, .val (.long q1_), .second, .val (.long q2_), .second, .val (.ref b1), .val (.long q2_), .second, .val (.long q1_), .second, .val (.int (1 : Int32)), .val (.int (0 : Int32)), .val (.int (0 : Int32)), .unset, .unset] [])) _
                refine XS.aload X80.here hx rfl (hb hby at_68) rfl rfl ?_
                show Steps p.tables e below (T80.setTop (mkF m 70 #[.val (.long q0_), .second, .val (.long q1_), .second, .val (.long q2_), .second, .val (.ref b1), .val (.long q2_), .second, .val (.long q1_), .second, .val (.int (1 : Int32)), .val (.int (0 : Int32)), .val (.int (0 : Int32)), .unset, .unset] [(.ref b1)])) _
                refine XS.lload X80.here hx rfl (hb hby at_70) rfl ?_
                show Steps p.tables e below (T80.setTop (mkF m 72 #[.val (.long q0_), .second, .val (.long q1_), .second, .val (.long q2_), .second, .val (.ref b1), .val (.long q2_), .second, .val (.long q1_), .second, .val (.int (1 : Int32)), .val (.int (0 : Int32)), .val (.int (0 : Int32)), .unset, .unset] [(.long q1_), (.ref b1)])) _
                refine st87.trans ?_
                show Steps p.tables e below (T87.setTop (mkF m 75 #[.val (.long q0_), .second, .val (.long q1_), .second, .val (.long q2_), .second, .val (.ref b1), .val (.long q2_), .second, .val (.long q1_), .second, .val (.int (1 : Int32)), .val (.int (0 : Int32)), .val (.int (0 : Int32)), .unset, .unset] [(.int (1 : Int32))])) _
                refine XS.istore X87.here hx rfl (hb hby at_75) rfl (l' := #[.val (.long q0_), .second, .val (.long q1_), .second, .val (.long q2_), .second, .val (.ref b1), .val (.long q2_), .second, .val (.long q1_), .second, .val (.int (1 : Int32)), .val (.int (0 : Int32)), .val (.int (0 : Int32)), .val (.int (1 : Int32)), .unset]) rfl ?_
                show Steps p.tables e below (T87.setTop (mkF m 77 #[.val (.long q0_), .second, .val (.long q1_), .second, .val (.long q2_), .second, .val (.ref b1), .val (.long q2_), .second, .val (.long q1_), .second, .val (.int (1 : Int32)), .val (.int (0 : Int32)), .val (.int (0 : Int32)), .val (.int (1 : Int32)), .unset] [])) _
                refine XS.iload X87.here hx rfl (hb hby at_77) rfl ?_
                show Steps p.tables e below (T87.setTop (mkF m 79 #[.val (.long q0_), .second, .val (.long q1_), .second, .val (.long q2_), .second, .val (.ref b1), .val (.long q2_), .second, .val (.long q1_), .second, .val (.int (1 : Int32)), .val (.int (0 : Int32)), .val (.int (0 : Int32)), .val (.int (1 : Int32)), .unset] [(.int (0 : Int32))])) _
                refine XS.ifYes X87.here hx rfl (pc0 := 79) (pc' := 87) rfl (hb hby at_79) rfl ((if0 _ _).trans (teq (by decide : (0 : Int32) = (0 : Int32))).1) (by decide) (by decide) ?_
                show Steps p.tables e below (T87.setTop (mkF m 87 #[.val (.long q0_), .second, .val (.long q1_), .second, .val (.long q2_), .second, .val (.ref b1), .val (.long q2_), .second, .val (.long q1_), .second, .val (.int (1 : Int32)), .val (.int (0 : Int32)), .val (.int (0 : Int32)), .val (.int (1 : Int32)), .unset] [])) _
                refine XS.iconst X87.here hx rfl (hb hby at_87) ?_
                show Steps p.tables e below (T87.setTop (mkF m 88 #[.val (.long q0_), .second, .val (.long q1_), .second, .val (.long q2_), .second, .val (.ref b1), .val (.long q2_), .second, .val (.long q1_), .second, .val (.int (1 : Int32)), .val (.int (0 : Int32)), .val (.int (0 : Int32)), .val (.int (1 : Int32)), .unset] [(.int (1 : Int32))])) _
                refine XS.goto X87.here hx rfl (pc0 := 88) (pc' := 92) rfl (hb hby at_88) (by decide) (by decide) ?_
                show Steps p.tables e below (T87.setTop (mkF m 92 #[.val (.long q0_), .second, .val (.long q1_), .second, .val (.long q2_), .second, .val (.ref b1), .val (.long q2_), .second, .val (.long q1_), .second, .val (.int (1 : Int32)), .val (.int (0 : Int32)), .val (.int (0 : Int32)), .val (.int (1 : Int32)), .unset] [(.int (1 : Int32))])) _
                refine XS.istore X87.here hx rfl (hb hby at_92) rfl (l' := #[.val (.long q0_), .second, .val (.long q1_), .second, .val (.long q2_), .second, .val (.ref b1), .val (.long q2_), .second, .val (.long q1_), .second, .val (.int (1 : Int32)), .val (.int (0 : Int32)), .val (.int (0 : Int32)), .val (.int (1 : Int32)), .val (.int (1 : Int32))]) rfl ?_
                show Steps p.tables e below (T87.setTop (mkF m 94 #[.val (.long q0_), .second, .val (.long q1_), .second, .val (.long q2_), .second, .val (.ref b1), .val (.long q2_), .second, .val (.long q1_), .second, .val (.int (1 : Int32)), .val (.int (0 : Int32)), .val (.int (0 : Int32)), .val (.int (1 : Int32)), .val (.int (1 : Int32))] [])) _
                refine XS.iload X87.here hx rfl (hb hby at_94) rfl ?_
                show Steps p.tables e below (T87.setTop (mkF m 96 #[.val (.long q0_), .second, .val (.long q1_), .second, .val (.long q2_), .second, .val (.ref b1), .val (.long q2_), .second, .val (.long q1_), .second, .val (.int (1 : Int32)), .val (.int (0 : Int32)), .val (.int (0 : Int32)), .val (.int (1 : Int32)), .val (.int (1 : Int32))] [(.int (1 : Int32))])) _
                refine XS.ifNo X87.here hx rfl (hb hby at_96) rfl ((if0 _ _).trans (feq (by decide : ¬ ((1 : Int32) = (0 : Int32)))).1) ?_
                show Steps p.tables e below (T87.setTop (mkF m 99 #[.val (.long q0_), .second, .val (.long q1_), .second, .val (.long q2_), .second, .val (.ref b1), .val (.long q2_), .second, .val (.long q1_), .second, .val (.int (1 : Int32)), .val (.int (0 : Int32)), .val (.int (0 : Int32)), .val (.int (1 : Int32)), .val (.int (1 : Int32))] [])) _
                refine XS.iload X87.here hx rfl (hb hby at_99) rfl ?_
                show Steps p.tables e below (T87.setTop (mkF m 101 #[.val (.long q0_), .second, .val (.long q1_), .second, .val (.long q2_), .second, .val (.ref b1), .val (.long q2_), .second, .val (.long q1_), .second, .val (.int (1 : Int32)), .val (.int (0 : Int32)), .val (.int (0 : Int32)), .val (.int (1 : Int32)), .val (.int (1 : Int32))] [(.int (0 : Int32))])) _
                refine XS.ifNo X87.here hx rfl (hb hby at_101) rfl ((if0 _ _).trans (teq (by decide : (0 : Int32) = (0 : Int32))).2) ?_
                show Steps p.tables e below (T87.setTop (mkF m 104 #[.val (.long q0_), .second, .val (.long q1_), .second, .val (.long q2_), .second, .val (.ref b1), .val (.long q2_), .second, .val (.long q1_), .second, .val (.int (1 : Int32)), .val (.int (0 : Int32)), .val (.int (0 : Int32)), .val (.int (1 : Int32)), .val (.int (1 : Int32))] [])) _
                refine XS.iload X87.here hx rfl (hb hby at_104) rfl ?_
                show Steps p.tables e below (T87.setTop (mkF m 106 #[.val (.long q0_), .second, .val (.long q1_), .second, .val (.long q2_), .second, .val (.ref b1), .val (.long q2_), .second, .val (.long q1_), .second, .val (.int (1 : Int32)), .val (.int (0 : Int32)), .val (.int (0 : Int32)), .val (.int (1 : Int32)), .val (.int (1 : Int32))] [(.int (1 : Int32))])) _
                refine XS.ifNo X87.here hx rfl (hb hby at_106) rfl ((if0 _ _).trans (feq (by decide : ¬ ((1 : Int32) = (0 : Int32)))).1) ?_
                show Steps p.tables e below (T87.setTop (mkF m 109 #[.val (.long q0_), .second, .val (.long q1_), .second, .val (.long q2_), .second, .val (.ref b1), .val (.long q2_), .second, .val (.long q1_), .second, .val (.int (1 : Int32)), .val (.int (0 : Int32)), .val (.int (0 : Int32)), .val (.int (1 : Int32)), .val (.int (1 : Int32))] [])) _
                refine XS.iconst X87.here hx rfl (hb hby at_109) ?_
                show Steps p.tables e below (T87.setTop (mkF m 110 #[.val (.long q0_), .second, .val (.long q1_), .second, .val (.long q2_), .second, .val (.ref b1), .val (.long q2_), .second, .val (.long q1_), .second, .val (.int (1 : Int32)), .val (.int (0 : Int32)), .val (.int (0 : Int32)), .val (.int (1 : Int32)), .val (.int (1 : Int32))] [(.int (1 : Int32))])) _
                refine XS.goto X87.here hx rfl (pc0 := 110) (pc' := 114) rfl (hb hby at_110) (by decide) (by decide) ?_
                exact kt
              obtain ⟨fs, hr, hrun, hended, hW, hsame⟩ := X87.leave (v := some (.int (1 : Int32))) (fun h => by rw [Bd.returns] at h; cases h)
              refine ⟨_, _, pre89 _ (retN X87 hx (t := .boolean) Bd.returns (by simp) (hb hby at_114) hr), hrun, hended, _, _, rfl, ?_, ⟨_, rfl⟩, hW, hsame.mono (by decide) (by decide)⟩
              show QLaw Z q0_ q1_ q2_ h0 n0 _ T87.heap _
              rw [e87']
              exact ⟨rfl, N88⟩
            · have pre91 : ∀ t, Steps p.tables e below (T87.setTop (mkF m 114 #[.val (.long q0_), .second, .val (.long q1_), .second, .val (.long q2_), .second, .val (.ref b1), .val (.long q2_), .second, .val (.long q1_), .second, .val (.int (1 : Int32)), .val (.int (0 : Int32)), .val (.int (0 : Int32)), .val (.int (0 : Int32)), .val (.int (1 : Int32))] [(.int (1 : Int32))])) t → Steps p.tables e below (s₁.setTop (entryFrame m #[(.long q0_), (.long q1_), (.long q2_)] maxLocals)) t := by
                intro t kt
                refine pre78 t ?_
                show Steps p.tables e below (T76.setTop (mkF m 42 #[.val (.long q0_), .second, .val (.long q1_), .second, .val (.long q2_), .second, .val (.ref b1), .val (.long q2_), .second, .val (.long q1_), .second, .val (.int (1 : Int32)), .unset, .unset, .unset, .unset] [(.int (lcmpW q0_ (-9223372036854775808 : Int64)))])) _
                refine XS.ifNo X76.here hx rfl (hb hby at_42) rfl ((if0 _ _).trans (teq ((lw_eq _ _).mpr hc79)).2) ?_
                show Steps p.tables e below (T76.setTop (mkF m 45 #[.val (.long q0_), .second, .val (.long q1_), .second, .val (.long q2_), .second, .val (.ref b1), .val (.long q2_), .second, .val (.long q1_), .second, .val (.int (1 : Int32)), .unset, .unset, .unset, .unset] [])) _
                refine XS.iconst X76.here hx rfl (hb hby at_45) ?_
                show Steps p.tables e below (T76.setTop (mkF m 46 #[.val (.long q0_), .second, .val (.long q1_), .second, .val (.long q2_), .second, .val (.ref b1), .val (.long q2_), .second, .val (.long q1_), .second, .val (.int (1 : Int32)), .unset, .unset, .unset, .unset] [(.int (0 : Int32))])) _
                refine XS.goto X76.here hx rfl (pc0 := 46) (pc' := 57) rfl (hb hby at_46) (by decide) (by decide) ?_
                show Steps p.tables e below (T76.setTop (mkF m 57 #[.val (.long q0_), .second, .val (.long q1_), .second, .val (.long q2_), .second, .val (.ref b1), .val (.long q2_), .second, .val (.long q1_), .second, .val (.int (1 : Int32)), .unset, .unset, .unset, .unset] [(.int (0 : Int32))])) _
                refine XS.istore X76.here hx rfl (hb hby at_57) rfl (l' := #[.val (.long q0_), .second, .val (.long q1_), .second, .val (.long q2_), .second, .val (.ref b1), .val (.long q2_), .second, .val (.long q1_), .second, .val (.int (1 : Int32)), .val (.int (0 : Int32)), .unset, .unset, .unset]) rfl ?_
                show Steps p.tables e below (T76.setTop (mkF m 59 #[.val (.long q0_), .second, .val (.long q1_), .second, .val (.long q2_), .second, .val (.ref b1), .val (.long q2_), .second, .val (.long q1_), .second, .val (.int (1 : Int32)), .val (.int (0 : Int32)), .unset, .unset, .unset] [])) _
                refine XS.aload X76.here hx rfl (hb hby at_59) rfl rfl ?_
                show Steps p.tables e below (T76.setTop (mkF m 61 #[.val (.long q0_), .second, .val (.long q1_), .second, .val (.long q2_), .second, .val (.ref b1), .val (.long q2_), .second, .val (.long q1_), .second, .val (.int (1 : Int32)), .val (.int (0 : Int32)), .unset, .unset, .unset] [(.ref b1)])) _
                refine XS.lload X76.here hx rfl (hb hby at_61) rfl ?_
                show Steps p.tables e below (T76.setTop (mkF m 63 #[.val (.long q0_), .second, .val (.long q1_), .second, .val (.long q2_), .second, .val (.ref b1), .val (.long q2_), .second, .val (.long q1_), .second, .val (.int (1 : Int32)), .val (.int (0 : Int32)), .unset, .unset, .unset] [(.long q2_), (.ref b1)])) _
                refine st80.trans ?_
                show Steps p.tables e below (T80.setTop (mkF m 66 #[.val (.long q0_), .second, .val (.long q1_), .second, .val (.long q2_), .second, .val (.ref b1), .val (.long q2_), .second, .val (.long q1_), .second, .val (.int (1 : Int32)), .val (.int (0 : Int32)), .unset, .unset, .unset] [(.int (0 : Int32))])) _
                refine XS.istore X80.here hx rfl (hb hby at_66) rfl (l' := #[.val (.long q0_), .second, .val (.long q1_), .second, .val (.long q2_), .second, .val (.ref b1), .val (.long q2_), .second, .val (.long q1_), .second, .val (.int (1 : Int32)), .val (.int (0 : Int32)), .val (.int (0 : Int32)), .unset, .unset]) rfl ?_
                show Steps p.tables e below (T80.setTop (mkF m 68 #[.val (.long q0_), .second, .val (.long q1_), .second, .val (.long q2_), .second, .val (.ref b1), .val (.long q2_), .second, .val (.long q1_), .second, .val (.int (1 : Int32)), .val (.int (0 : Int32)), .val (.int (0 : Int32)), .unset, .unset] [])) _
                refine XS.aload X80.here hx rfl (hb hby at_68) rfl rfl ?_
                show Steps p.tables e below (T80.setTop (mkF m 70 #[.val (.long q0_), .second, .val (.long q1_), .second, .val (.long q2_), .second, .val (.ref b1), .val (.long q2_), .second, .val (.long q1_), .second, .val (.int (1 : Int32)), .val (.int (0 : Int32)), .val (.int (0 : Int32)), .unset, .unset] [(.ref b1)])) _
                refine XS.lload X80.here hx rfl (hb hby at_70) rfl ?_
                show Steps p.tables e below (T80.setTop (mkF m 72 #[.val (.long q0_), .second, .val (.long q1_), .second, .val (.long q2_), .second, .val (.ref b1), .val (.long q2_), .second, .val (.long q1_), .second, .val (.int (1 : Int32)), .val (.int (0 : Int32)), .val (.int (0 : Int32)), .unset, .unset] [(.long q1_), (.ref b1)])) _
                refine st87.trans ?_
                show Steps p.tables e below (T87.setTop (mkF m 75 #[.val (.long q0_), .second, .val (.long q1_), .second, .val (.long q2_), .second, .val (.ref b1), .val (.long q2_), .second, .val (.long q1_), .second, .val (.int (1 : Int32)), .val (.int (0 : Int32)), .val (.int (0 : Int32)), .unset, .unset] [(.int (0 : Int32))])) _
                refine XS.istore X87.here hx rfl (hb hby at_75) rfl (l' := #[.val (.long q0_), .second, .val (.long q1_), .second, .val (.long q2_), .second, .val (.ref b1), .val (.long q2_), .second, .val (.long q1_), .second, .val (.int (1 : Int32)), .val (.int (0 : Int32)), .val (.int (0 : Int32)), .val (.int (0 : Int32)), .unset]) rfl ?_
                show Steps p.tables e below (T87.setTop (mkF m 77 #[.val (.long q0_), .second, .val (.long q1_), .second, .val (.long q2_), .second, .val (.ref b1), .val (.long q2_), .second, .val (.long q1_), .second, .val (.int (1 : Int32)), .val (.int (0 : Int32)), .val (.int (0 : Int32)), .val (.int (0 : Int32)), .unset] [])) _
                refine XS.iload X87.here hx rfl (hb hby at_77) rfl ?_
                show Steps p.tables e below (T87.setTop (mkF m 79 #[.val (.long q0_), .second, .val (.long q1_), .second, .val (.long q2_), .second, .val (.ref b1), .val (.long q2_), .second, .val (.long q1_), .second, .val (.int (1 : Int32)), .val (.int (0 : Int32)), .val (.int (0 : Int32)), .val (.int (0 : Int32)), .unset] [(.int (0 : Int32))])) _
                refine XS.ifYes X87.here hx rfl (pc0 := 79) (pc' := 87) rfl (hb hby at_79) rfl ((if0 _ _).trans (teq (by decide : (0 : Int32) = (0 : Int32))).1) (by decide) (by decide) ?_
                show Steps p.tables e below (T87.setTop (mkF m 87 #[.val (.long q0_), .second, .val (.long q1_), .second, .val (.long q2_), .second, .val (.ref b1), .val (.long q2_), .second, .val (.long q1_), .second, .val (.int (1 : Int32)), .val (.int (0 : Int32)), .val (.int (0 : Int32)), .val (.int (0 : Int32)), .unset] [])) _
                refine XS.iconst X87.here hx rfl (hb hby at_87) ?_
                show Steps p.tables e below (T87.setTop (mkF m 88 #[.val (.long q0_), .second, .val (.long q1_), .second, .val (.long q2_), .second, .val (.ref b1), .val (.long q2_), .second, .val (.long q1_), .second, .val (.int (1 : Int32)), .val (.int (0 : Int32)), .val (.int (0 : Int32)), .val (.int (0 : Int32)), .unset] [(.int (1 : Int32))])) _
                refine XS.goto X87.here hx rfl (pc0 := 88) (pc' := 92) rfl (hb hby at_88) (by decide) (by decide) ?_
                show Steps p.tables e below (T87.setTop (mkF m 92 #[.val (.long q0_), .second, .val (.long q1_), .second, .val (.long q2_), .second, .val (.ref b1), .val (.long q2_), .second, .val (.long q1_), .second, .val (.int (1 : Int32)), .val (.int (0 : Int32)), .val (.int (0 : Int32)), .val (.int (0 : Int32)), .unset] [(.int (1 : Int32))])) _
                refine XS.istore X87.here hx rfl (hb hby at_92) rfl (l' := #[.val (.long q0_), .second, .val (.long q1_), .second, .val (.long q2_), .second, .val (.ref b1), .val (.long q2_), .second, .val (.long q1_), .second, .val (.int (1 : Int32)), .val (.int (0 : Int32)), .val (.int (0 : Int32)), .val (.int (0 : Int32)), .val (.int (1 : Int32))]) rfl ?_
                show Steps p.tables e below (T87.setTop (mkF m 94 #[.val (.long q0_), .second, .val (.long q1_), .second, .val (.long q2_), .second, .val (.ref b1), .val (.long q2_), .second, .val (.long q1_), .second, .val (.int (1 : Int32)), .val (.int (0 : Int32)), .val (.int (0 : Int32)), .val (.int (0 : Int32)), .val (.int (1 : Int32))] [])) _
                refine XS.iload X87.here hx rfl (hb hby at_94) rfl ?_
                show Steps p.tables e below (T87.setTop (mkF m 96 #[.val (.long q0_), .second, .val (.long q1_), .second, .val (.long q2_), .second, .val (.ref b1), .val (.long q2_), .second, .val (.long q1_), .second, .val (.int (1 : Int32)), .val (.int (0 : Int32)), .val (.int (0 : Int32)), .val (.int (0 : Int32)), .val (.int (1 : Int32))] [(.int (1 : Int32))])) _
                refine XS.ifNo X87.here hx rfl (hb hby at_96) rfl ((if0 _ _).trans (feq (by decide : ¬ ((1 : Int32) = (0 : Int32)))).1) ?_
                show Steps p.tables e below (T87.setTop (mkF m 99 #[.val (.long q0_), .second, .val (.long q1_), .second, .val (.long q2_), .second, .val (.ref b1), .val (.long q2_), .second, .val (.long q1_), .second, .val (.int (1 : Int32)), .val (.int (0 : Int32)), .val (.int (0 : Int32)), .val (.int (0 : Int32)), .val (.int (1 : Int32))] [])) _
                refine XS.iload X87.here hx rfl (hb hby at_99) rfl ?_
                show Steps p.tables e below (T87.setTop (mkF m 101 #[.val (.long q0_), .second, .val (.long q1_), .second, .val (.long q2_), .second, .val (.ref b1), .val (.long q2_), .second, .val (.long q1_), .second, .val (.int (1 : Int32)), .val (.int (0 : Int32)), .val (.int (0 : Int32)), .val (.int (0 : Int32)), .val (.int (1 : Int32))] [(.int (0 : Int32))])) _
                refine XS.ifNo X87.here hx rfl (hb hby at_101) rfl ((if0 _ _).trans (teq (by decide : (0 : Int32) = (0 : Int32))).2) ?_
                show Steps p.tables e below (T87.setTop (mkF m 104 #[.val (.long q0_), .second, .val (.long q1_), .second, .val (.long q2_), .second, .val (.ref b1), .val (.long q2_), .second, .val (.long q1_), .second, .val (.int (1 : Int32)), .val (.int (0 : Int32)), .val (.int (0 : Int32)), .val (.int (0 : Int32)), .val (.int (1 : Int32))] [])) _
                refine XS.iload X87.here hx rfl (hb hby at_104) rfl ?_
                show Steps p.tables e below (T87.setTop (mkF m 106 #[.val (.long q0_), .second, .val (.long q1_), .second, .val (.long q2_), .second, .val (.ref b1), .val (.long q2_), .second, .val (.long q1_), .second, .val (.int (1 : Int32)), .val (.int (0 : Int32)), .val (.int (0 : Int32)), .val (.int (0 : Int32)), .val (.int (1 : Int32))] [(.int (1 : Int32))])) _
                refine XS.ifNo X87.here hx rfl (hb hby at_106) rfl ((if0 _ _).trans (feq (by decide : ¬ ((1 : Int32) = (0 : Int32)))).1) ?_
                show Steps p.tables e below (T87.setTop (mkF m 109 #[.val (.long q0_), .second, .val (.long q1_), .second, .val (.long q2_), .second, .val (.ref b1), .val (.long q2_), .second, .val (.long q1_), .second, .val (.int (1 : Int32)), .val (.int (0 : Int32)), .val (.int (0 : Int32)), .val (.int (0 : Int32)), .val (.int (1 : Int32))] [])) _
                refine XS.iconst X87.here hx rfl (hb hby at_109) ?_
                show Steps p.tables e below (T87.setTop (mkF m 110 #[.val (.long q0_), .second, .val (.long q1_), .second, .val (.long q2_), .second, .val (.ref b1), .val (.long q2_), .second, .val (.long q1_), .second, .val (.int (1 : Int32)), .val (.int (0 : Int32)), .val (.int (0 : Int32)), .val (.int (0 : Int32)), .val (.int (1 : Int32))] [(.int (1 : Int32))])) _
                refine XS.goto X87.here hx rfl (pc0 := 110) (pc' := 114) rfl (hb hby at_110) (by decide) (by decide) ?_
                exact kt
              obtain ⟨fs, hr, hrun, hended, hW, hsame⟩ := X87.leave (v := some (.int (1 : Int32))) (fun h => by rw [Bd.returns] at h; cases h)
              refine ⟨_, _, pre91 _ (retN X87 hx (t := .boolean) Bd.returns (by simp) (hb hby at_114) hr), hrun, hended, _, _, rfl, ?_, ⟨_, rfl⟩, hW, hsame.mono (by decide) (by decide)⟩
              show QLaw Z q0_ q1_ q2_ h0 n0 _ T87.heap _
              rw [e87']
              exact ⟨rfl, N88⟩
        · obtain ⟨cq93, kq93, q93a, q93b, q93c⟩ := isOf hZ e76' g8_0
          obtain ⟨_, _, ⟨T93, L93, k93, n93⟩, -, X93, ⟨Lc93, hQ93, l93, y93, z93⟩, st93⟩ := X76.virtualBack hx (y := (⟨"com/example/fawley/fawley/store/StoredValue", "hasExpiredAt", "(J)Z"⟩ : MethodName)) (z := (⟨"com/example/fawley/fawley/store/StoredValue", "hasExpiredAt", "(J)Z"⟩ : MethodName)) hown (mvT hZ (hw _ (List.mem_of_getElem? (i := 24) rfl))) (mvT hZ (hw _ (List.mem_of_getElem? (i := 25) rfl))) (notFace_of_selects (args := #[]) (mvT hZ (hw _ (List.mem_of_getElem? (i := 27) rfl)))) (mvT hZ (hw _ (List.mem_of_getElem? (i := 27) rfl))) (mvT hZ (hw _ (List.mem_of_getElem? (i := 26) rfl))) (by decide) (backOf (W := 0) (rmHas l Z a0 hw [] b1 (q0_ - (1 : Int64)) q0_ h8 n0 f12 g8_4) hZ (hw _ (List.mem_of_getElem? (i := 28) rfl)) (hw _ (List.mem_of_getElem? (i := 2) rfl)) (by decide) (by decide)) q93a q93c (g := (mkF m 54 #[.val (.long q0_), .second, .val (.long q1_), .second, .val (.long q2_), .second, .val (.ref b1), .val (.long q2_), .second, .val (.long q1_), .second, .val (.int (1 : Int32)), .unset, .unset, .unset, .unset] [(.long (q0_ - (1 : Int64))), (.ref b1)])) rfl (by rw [hml]; rfl) (Steps.refl _) (argsL := [(.long (q0_ - (1 : Int64)))]) (rest := []) (lenOf pd_2 rfl) rfl (by show 2 * 0 + _ ≤ _; exact Nat.le_of_eq rfl) (hb hby at_54) (fun _ _ => ⟨rfl, e76', (by decide : 1 + 0 ≤ _), (by decide : 4 + 0 ≤ _)⟩)
          dsimp only [Pt.U, Pt.locs, Pt.cells, Pt.slots] at X93 l93 y93 z93 st93 hQ93
          subst l93 y93 z93
          obtain ⟨h93, e93⟩ : ∃ z, T93.heap = z := ⟨_, rfl⟩
          rw [e93] at hQ93
          obtain ⟨rr93, rfl, hs93, N93q, hh93⟩ := hQ93
          have N94 := Fr.app N77 N93q
          have e93' : T93.heap = h8 := e93.trans hh93
          rcases hs93 with ⟨rfl, hq93_0_0⟩ | ⟨rfl, hq93_1_0⟩
          · exact absurd (own_pred hc79) hq93_0_0
          · obtain ⟨cq95, kq95, q95a, q95b, q95c⟩ := isOf hZ e93' g8_0
            obtain ⟨_, _, ⟨T95, L95, k95, n95⟩, -, X95, ⟨Lc95, hQ95, l95, y95, z95⟩, st95⟩ := X93.virtualBack hx (y := (⟨"com/example/fawley/fawley/store/StoredValue", "hasExpiredAt", "(J)Z"⟩ : MethodName)) (z := (⟨"com/example/fawley/fawley/store/StoredValue", "hasExpiredAt", "(J)Z"⟩ : MethodName)) hown (mvT hZ (hw _ (List.mem_of_getElem? (i := 24) rfl))) (mvT hZ (hw _ (List.mem_of_getElem? (i := 25) rfl))) (notFace_of_selects (args := #[]) (mvT hZ (hw _ (List.mem_of_getElem? (i := 27) rfl)))) (mvT hZ (hw _ (List.mem_of_getElem? (i := 27) rfl))) (mvT hZ (hw _ (List.mem_of_getElem? (i := 26) rfl))) (by decide) (backOf (W := 0) (rmHas l Z a0 hw [] b1 q2_ q0_ h8 n0 f12 g8_4) hZ (hw _ (List.mem_of_getElem? (i := 28) rfl)) (hw _ (List.mem_of_getElem? (i := 2) rfl)) (by decide) (by decide)) q95a q95c (g := (mkF m 63 #[.val (.long q0_), .second, .val (.long q1_), .second, .val (.long q2_), .second, .val (.ref b1), .val (.long q2_), .second, .val (.long q1_), .second, .val (.int (1 : Int32)), .val (.int (0 : Int32)), .unset, .unset, .unset] [(.long q2_), (.ref b1)])) rfl (by rw [hml]; rfl) (Steps.refl _) (argsL := [(.long q2_)]) (rest := []) (lenOf pd_2 rfl) rfl (by show 2 * 0 + _ ≤ _; exact Nat.le_of_eq rfl) (hb hby at_63) (fun _ _ => ⟨rfl, e93', (by decide : 1 + 0 ≤ _), (by decide : 4 + 0 ≤ _)⟩)
            dsimp only [Pt.U, Pt.locs, Pt.cells, Pt.slots] at X95 l95 y95 z95 st95 hQ95
            subst l95 y95 z95
            obtain ⟨h95, e95⟩ : ∃ z, T95.heap = z := ⟨_, rfl⟩
            rw [e95] at hQ95
            obtain ⟨rr95, rfl, hs95, N95q, hh95⟩ := hQ95
            have N96 := Fr.app N94 N95q
            have e95' : T95.heap = h8 := e95.trans hh95
            rcases hs95 with ⟨rfl, hq95_0_0⟩ | ⟨rfl, hq95_1_0⟩
            · obtain ⟨cq97, kq97, q97a, q97b, q97c⟩ := isOf hZ e95' g8_0
              obtain ⟨_, _, ⟨T97, L97, k97, n97⟩, -, X97, ⟨Lc97, hQ97, l97, y97, z97⟩, st97⟩ := X95.virtualBack hx (y := (⟨"com/example/fawley/fawley/store/StoredValue", "hasExpiredAt", "(J)Z"⟩ : MethodName)) (z := (⟨"com/example/fawley/fawley/store/StoredValue", "hasExpiredAt", "(J)Z"⟩ : MethodName)) hown (mvT hZ (hw _ (List.mem_of_getElem? (i := 24) rfl))) (mvT hZ (hw _ (List.mem_of_getElem? (i := 25) rfl))) (notFace_of_selects (args := #[]) (mvT hZ (hw _ (List.mem_of_getElem? (i := 27) rfl)))) (mvT hZ (hw _ (List.mem_of_getElem? (i := 27) rfl))) (mvT hZ (hw _ (List.mem_of_getElem? (i := 26) rfl))) (by decide) (backOf (W := 0) (rmHas l Z a0 hw [] b1 q1_ q0_ h8 n0 f12 g8_4) hZ (hw _ (List.mem_of_getElem? (i := 28) rfl)) (hw _ (List.mem_of_getElem? (i := 2) rfl)) (by decide) (by decide)) q97a q97c (g := (mkF m 72 #[.val (.long q0_), .second, .val (.long q1_), .second, .val (.long q2_), .second, .val (.ref b1), .val (.long q2_), .second, .val (.long q1_), .second, .val (.int (1 : Int32)), .val (.int (0 : Int32)), .val (.int (1 : Int32)), .unset, .unset] [(.long q1_), (.ref b1)])) rfl (by rw [hml]; rfl) (Steps.refl _) (argsL := [(.long q1_)]) (rest := []) (lenOf pd_2 rfl) rfl (by show 2 * 0 + _ ≤ _; exact Nat.le_of_eq rfl) (hb hby at_72) (fun _ _ => ⟨rfl, e95', (by decide : 1 + 0 ≤ _), (by decide : 4 + 0 ≤ _)⟩)
              dsimp only [Pt.U, Pt.locs, Pt.cells, Pt.slots] at X97 l97 y97 z97 st97 hQ97
              subst l97 y97 z97
              obtain ⟨h97, e97⟩ : ∃ z, T97.heap = z := ⟨_, rfl⟩
              rw [e97] at hQ97
              obtain ⟨rr97, rfl, hs97, N97q, hh97⟩ := hQ97
              have N98 := Fr.app N96 N97q
              have e97' : T97.heap = h8 := e97.trans hh97
              rcases hs97 with ⟨rfl, hq97_0_0⟩ | ⟨rfl, hq97_1_0⟩
              · have pre99 : ∀ t, Steps p.tables e below (T97.setTop (mkF m 114 #[.val (.long q0_), .second, .val (.long q1_), .second, .val (.long q2_), .second, .val (.ref b1), .val (.long q2_), .second, .val (.long q1_), .second, .val (.int (1 : Int32)), .val (.int (0 : Int32)), .val (.int (1 : Int32)), .val (.int (1 : Int32)), .val (.int (1 : Int32))] [(.int (1 : Int32))])) t → Steps p.tables e below (s₁.setTop (entryFrame m #[(.long q0_), (.long q1_), (.long q2_)] maxLocals)) t := by
                  intro t kt
                  refine pre78 t ?_
                  show Steps p.tables e below (T76.setTop (mkF m 42 #[.val (.long q0_), .second, .val (.long q1_), .second, .val (.long q2_), .second, .val (.ref b1), .val (.long q2_), .second, .val (.long q1_), .second, .val (.int (1 : Int32)), .unset, .unset, .unset, .unset] [(.int (lcmpW q0_ (-9223372036854775808 : Int64)))])) _
                  refine XS.ifYes X76.here hx rfl (pc0 := 42) (pc' := 49) rfl (hb hby at_42) rfl ((if0 _ _).trans (feq (fun z => hc79 ((lw_eq _ _).mp z))).2) (by decide) (by decide) ?_
                  show Steps p.tables e below (T76.setTop (mkF m 49 #[.val (.long q0_), .second, .val (.long q1_), .second, .val (.long q2_), .second, .val (.ref b1), .val (.long q2_), .second, .val (.long q1_), .second, .val (.int (1 : Int32)), .unset, .unset, .unset, .unset] [])) _
                  refine XS.aload X76.here hx rfl (hb hby at_49) rfl rfl ?_
                  show Steps p.tables e below (T76.setTop (mkF m 51 #[.val (.long q0_), .second, .val (.long q1_), .second, .val (.long q2_), .second, .val (.ref b1), .val (.long q2_), .second, .val (.long q1_), .second, .val (.int (1 : Int32)), .unset, .unset, .unset, .unset] [(.ref b1)])) _
                  refine XS.lloadN X76.here hx rfl (hb hby at_51) rfl ?_
                  show Steps p.tables e below (T76.setTop (mkF m 52 #[.val (.long q0_), .second, .val (.long q1_), .second, .val (.long q2_), .second, .val (.ref b1), .val (.long q2_), .second, .val (.long q1_), .second, .val (.int (1 : Int32)), .unset, .unset, .unset, .unset] [(.long q0_), (.ref b1)])) _
                  refine XS.lconst X76.here hx rfl (hb hby at_52) ?_
                  show Steps p.tables e below (T76.setTop (mkF m 53 #[.val (.long q0_), .second, .val (.long q1_), .second, .val (.long q2_), .second, .val (.ref b1), .val (.long q2_), .second, .val (.long q1_), .second, .val (.int (1 : Int32)), .unset, .unset, .unset, .unset] [(.long (1 : Int64)), (.long q0_), (.ref b1)])) _
                  refine XS.lsub X76.here hx rfl (hb hby at_53) rfl ?_
                  show Steps p.tables e below (T76.setTop (mkF m 54 #[.val (.long q0_), .second, .val (.long q1_), .second, .val (.long q2_), .second, .val (.ref b1), .val (.long q2_), .second, .val (.long q1_), .second, .val (.int (1 : Int32)), .unset, .unset, .unset, .unset] [(.long (q0_ - (1 : Int64))), (.ref b1)])) _
                  refine st93.trans ?_
                  show Steps p.tables e below (T93.setTop (mkF m 57 #[.val (.long q0_), .second, .val (.long q1_), .second, .val (.long q2_), .second, .val (.ref b1), .val (.long q2_), .second, .val (.long q1_), .second, .val (.int (1 : Int32)), .unset, .unset, .unset, .unset] [(.int (0 : Int32))])) _
                  refine XS.istore X93.here hx rfl (hb hby at_57) rfl (l' := #[.val (.long q0_), .second, .val (.long q1_), .second, .val (.long q2_), .second, .val (.ref b1), .val (.long q2_), .second, .val (.long q1_), .second, .val (.int (1 : Int32)), .val (.int (0 : Int32)), .unset, .unset, .unset]) rfl ?_
                  show Steps p.tables e below (T93.setTop (mkF m 59 #[.val (.long q0_), .second, .val (.long q1_), .second, .val (.long q2_), .second, .val (.ref b1), .val (.long q2_), .second, .val (.long q1_), .second, .val (.int (1 : Int32)), .val (.int (0 : Int32)), .unset, .unset, .unset] [])) _
                  refine XS.aload X93.here hx rfl (hb hby at_59) rfl rfl ?_
                  show Steps p.tables e below (T93.setTop (mkF m 61 #[.val (.long q0_), .second, .val (.long q1_), .second, .val (.long q2_), .second, .val (.ref b1), .val (.long q2_), .second, .val (.long q1_), .second, .val (.int (1 : Int32)), .val (.int (0 : Int32)), .unset, .unset, .unset] [(.ref b1)])) _
                  refine XS.lload X93.here hx rfl (hb hby at_61) rfl ?_
                  show Steps p.tables e below (T93.setTop (mkF m 63 #[.val (.long q0_), .second, .val (.long q1_), .second, .val (.long q2_), .second, .val (.ref b1), .val (.long q2_), .second, .val (.long q1_), .second, .val (.int (1 : Int32)), .val (.int (0 : Int32)), .unset, .unset, .unset] [(.long q2_), (.ref b1)])) _
                  refine st95.trans ?_
                  show Steps p.tables e below (T95.setTop (mkF m 66 #[.val (.long q0_), .second, .val (.long q1_), .second, .val (.long q2_), .second, .val (.ref b1), .val (.long q2_), .second, .val (.long q1_), .second, .val (.int (1 : Int32)), .val (.int (0 : Int32)), .unset, .unset, .unset] [(.int (1 : Int32))])) _
                  refine XS.istore X95.here hx rfl (hb hby at_66) rfl (l' := #[.val (.long q0_), .second, .val (.long q1_), .second, .val (.long q2_), .second, .val (.ref b1), .val (.long q2_), .second, .val (.long q1_), .second, .val (.int (1 : Int32)), .val (.int (0 : Int32)), .val (.int (1 : Int32)), .unset, .unset]) rfl ?_
                  show Steps p.tables e below (T95.setTop (mkF m 68 #[.val (.long q0_), .second, .val (.long q1_), .second, .val (.long q2_), .second, .val (.ref b1), .val (.long q2_), .second, .val (.long q1_), .second, .val (.int (1 : Int32)), .val (.int (0 : Int32)), .val (.int (1 : Int32)), .unset, .unset] [])) _
                  refine XS.aload X95.here hx rfl (hb hby at_68) rfl rfl ?_
                  show Steps p.tables e below (T95.setTop (mkF m 70 #[.val (.long q0_), .second, .val (.long q1_), .second, .val (.long q2_), .second, .val (.ref b1), .val (.long q2_), .second, .val (.long q1_), .second, .val (.int (1 : Int32)), .val (.int (0 : Int32)), .val (.int (1 : Int32)), .unset, .unset] [(.ref b1)])) _
                  refine XS.lload X95.here hx rfl (hb hby at_70) rfl ?_
                  show Steps p.tables e below (T95.setTop (mkF m 72 #[.val (.long q0_), .second, .val (.long q1_), .second, .val (.long q2_), .second, .val (.ref b1), .val (.long q2_), .second, .val (.long q1_), .second, .val (.int (1 : Int32)), .val (.int (0 : Int32)), .val (.int (1 : Int32)), .unset, .unset] [(.long q1_), (.ref b1)])) _
                  refine st97.trans ?_
                  show Steps p.tables e below (T97.setTop (mkF m 75 #[.val (.long q0_), .second, .val (.long q1_), .second, .val (.long q2_), .second, .val (.ref b1), .val (.long q2_), .second, .val (.long q1_), .second, .val (.int (1 : Int32)), .val (.int (0 : Int32)), .val (.int (1 : Int32)), .unset, .unset] [(.int (1 : Int32))])) _
                  refine XS.istore X97.here hx rfl (hb hby at_75) rfl (l' := #[.val (.long q0_), .second, .val (.long q1_), .second, .val (.long q2_), .second, .val (.ref b1), .val (.long q2_), .second, .val (.long q1_), .second, .val (.int (1 : Int32)), .val (.int (0 : Int32)), .val (.int (1 : Int32)), .val (.int (1 : Int32)), .unset]) rfl ?_
                  show Steps p.tables e below (T97.setTop (mkF m 77 #[.val (.long q0_), .second, .val (.long q1_), .second, .val (.long q2_), .second, .val (.ref b1), .val (.long q2_), .second, .val (.long q1_), .second, .val (.int (1 : Int32)), .val (.int (0 : Int32)), .val (.int (1 : Int32)), .val (.int (1 : Int32)), .unset] [])) _
                  refine XS.iload X97.here hx rfl (hb hby at_77) rfl ?_
                  show Steps p.tables e below (T97.setTop (mkF m 79 #[.val (.long q0_), .second, .val (.long q1_), .second, .val (.long q2_), .second, .val (.ref b1), .val (.long q2_), .second, .val (.long q1_), .second, .val (.int (1 : Int32)), .val (.int (0 : Int32)), .val (.int (1 : Int32)), .val (.int (1 : Int32)), .unset] [(.int (1 : Int32))])) _
                  refine XS.ifNo X97.here hx rfl (hb hby at_79) rfl ((if0 _ _).trans (feq (by decide : ¬ ((1 : Int32) = (0 : Int32)))).1) ?_
                  show Steps p.tables e below (T97.setTop (mkF m 82 #[.val (.long q0_), .second, .val (.long q1_), .second, .val (.long q2_), .second, .val (.ref b1), .val (.long q2_), .second, .val (.long q1_), .second, .val (.int (1 : Int32)), .val (.int (0 : Int32)), .val (.int (1 : Int32)), .val (.int (1 : Int32)), .unset] [])) _
                  refine XS.iload X97.here hx rfl (hb hby at_82) rfl ?_
                  show Steps p.tables e below (T97.setTop (mkF m 84 #[.val (.long q0_), .second, .val (.long q1_), .second, .val (.long q2_), .second, .val (.ref b1), .val (.long q2_), .second, .val (.long q1_), .second, .val (.int (1 : Int32)), .val (.int (0 : Int32)), .val (.int (1 : Int32)), .val (.int (1 : Int32)), .unset] [(.int (1 : Int32))])) _
                  refine XS.ifNo X97.here hx rfl (hb hby at_84) rfl ((if0 _ _).trans (feq (by decide : ¬ ((1 : Int32) = (0 : Int32)))).1) ?_
                  show Steps p.tables e below (T97.setTop (mkF m 87 #[.val (.long q0_), .second, .val (.long q1_), .second, .val (.long q2_), .second, .val (.ref b1), .val (.long q2_), .second, .val (.long q1_), .second, .val (.int (1 : Int32)), .val (.int (0 : Int32)), .val (.int (1 : Int32)), .val (.int (1 : Int32)), .unset] [])) _
                  refine XS.iconst X97.here hx rfl (hb hby at_87) ?_
                  show Steps p.tables e below (T97.setTop (mkF m 88 #[.val (.long q0_), .second, .val (.long q1_), .second, .val (.long q2_), .second, .val (.ref b1), .val (.long q2_), .second, .val (.long q1_), .second, .val (.int (1 : Int32)), .val (.int (0 : Int32)), .val (.int (1 : Int32)), .val (.int (1 : Int32)), .unset] [(.int (1 : Int32))])) _
                  refine XS.goto X97.here hx rfl (pc0 := 88) (pc' := 92) rfl (hb hby at_88) (by decide) (by decide) ?_
                  show Steps p.tables e below (T97.setTop (mkF m 92 #[.val (.long q0_), .second, .val (.long q1_), .second, .val (.long q2_), .second, .val (.ref b1), .val (.long q2_), .second, .val (.long q1_), .second, .val (.int (1 : Int32)), .val (.int (0 : Int32)), .val (.int (1 : Int32)), .val (.int (1 : Int32)), .unset] [(.int (1 : Int32))])) _
                  refine XS.istore X97.here hx rfl (hb hby at_92) rfl (l' := #[.val (.long q0_), .second, .val (.long q1_), .second, .val (.long q2_), .second, .val (.ref b1), .val (.long q2_), .second, .val (.long q1_), .second, .val (.int (1 : Int32)), .val (.int (0 : Int32)), .val (.int (1 : Int32)), .val (.int (1 : Int32)), .val (.int (1 : Int32))]) rfl ?_
                  show Steps p.tables e below (T97.setTop (mkF m 94 #[.val (.long q0_), .second, .val (.long q1_), .second, .val (.long q2_), .second, .val (.ref b1), .val (.long q2_), .second, .val (.long q1_), .second, .val (.int (1 : Int32)), .val (.int (0 : Int32)), .val (.int (1 : Int32)), .val (.int (1 : Int32)), .val (.int (1 : Int32))] [])) _
                  refine XS.iload X97.here hx rfl (hb hby at_94) rfl ?_
                  show Steps p.tables e below (T97.setTop (mkF m 96 #[.val (.long q0_), .second, .val (.long q1_), .second, .val (.long q2_), .second, .val (.ref b1), .val (.long q2_), .second, .val (.long q1_), .second, .val (.int (1 : Int32)), .val (.int (0 : Int32)), .val (.int (1 : Int32)), .val (.int (1 : Int32)), .val (.int (1 : Int32))] [(.int (1 : Int32))])) _
                  refine XS.ifNo X97.here hx rfl (hb hby at_96) rfl ((if0 _ _).trans (feq (by decide : ¬ ((1 : Int32) = (0 : Int32)))).1) ?_
                  show Steps p.tables e below (T97.setTop (mkF m 99 #[.val (.long q0_), .second, .val (.long q1_), .second, .val (.long q2_), .second, .val (.ref b1), .val (.long q2_), .second, .val (.long q1_), .second, .val (.int (1 : Int32)), .val (.int (0 : Int32)), .val (.int (1 : Int32)), .val (.int (1 : Int32)), .val (.int (1 : Int32))] [])) _
                  refine XS.iload X97.here hx rfl (hb hby at_99) rfl ?_
                  show Steps p.tables e below (T97.setTop (mkF m 101 #[.val (.long q0_), .second, .val (.long q1_), .second, .val (.long q2_), .second, .val (.ref b1), .val (.long q2_), .second, .val (.long q1_), .second, .val (.int (1 : Int32)), .val (.int (0 : Int32)), .val (.int (1 : Int32)), .val (.int (1 : Int32)), .val (.int (1 : Int32))] [(.int (0 : Int32))])) _
                  refine XS.ifNo X97.here hx rfl (hb hby at_101) rfl ((if0 _ _).trans (teq (by decide : (0 : Int32) = (0 : Int32))).2) ?_
                  show Steps p.tables e below (T97.setTop (mkF m 104 #[.val (.long q0_), .second, .val (.long q1_), .second, .val (.long q2_), .second, .val (.ref b1), .val (.long q2_), .second, .val (.long q1_), .second, .val (.int (1 : Int32)), .val (.int (0 : Int32)), .val (.int (1 : Int32)), .val (.int (1 : Int32)), .val (.int (1 : Int32))] [])) _
                  refine XS.iload X97.here hx rfl (hb hby at_104) rfl ?_
                  show Steps p.tables e below (T97.setTop (mkF m 106 #[.val (.long q0_), .second, .val (.long q1_), .second, .val (.long q2_), .second, .val (.ref b1), .val (.long q2_), .second, .val (.long q1_), .second, .val (.int (1 : Int32)), .val (.int (0 : Int32)), .val (.int (1 : Int32)), .val (.int (1 : Int32)), .val (.int (1 : Int32))] [(.int (1 : Int32))])) _
                  refine XS.ifNo X97.here hx rfl (hb hby at_106) rfl ((if0 _ _).trans (feq (by decide : ¬ ((1 : Int32) = (0 : Int32)))).1) ?_
                  show Steps p.tables e below (T97.setTop (mkF m 109 #[.val (.long q0_), .second, .val (.long q1_), .second, .val (.long q2_), .second, .val (.ref b1), .val (.long q2_), .second, .val (.long q1_), .second, .val (.int (1 : Int32)), .val (.int (0 : Int32)), .val (.int (1 : Int32)), .val (.int (1 : Int32)), .val (.int (1 : Int32))] [])) _
                  refine XS.iconst X97.here hx rfl (hb hby at_109) ?_
                  show Steps p.tables e below (T97.setTop (mkF m 110 #[.val (.long q0_), .second, .val (.long q1_), .second, .val (.long q2_), .second, .val (.ref b1), .val (.long q2_), .second, .val (.long q1_), .second, .val (.int (1 : Int32)), .val (.int (0 : Int32)), .val (.int (1 : Int32)), .val (.int (1 : Int32)), .val (.int (1 : Int32))] [(.int (1 : Int32))])) _
                  refine XS.goto X97.here hx rfl (pc0 := 110) (pc' := 114) rfl (hb hby at_110) (by decide) (by decide) ?_
                  exact kt
                obtain ⟨fs, hr, hrun, hended, hW, hsame⟩ := X97.leave (v := some (.int (1 : Int32))) (fun h => by rw [Bd.returns] at h; cases h)
                refine ⟨_, _, pre99 _ (retN X97 hx (t := .boolean) Bd.returns (by simp) (hb hby at_114) hr), hrun, hended, _, _, rfl, ?_, ⟨_, rfl⟩, hW, hsame.mono (by decide) (by decide)⟩
                show QLaw Z q0_ q1_ q2_ h0 n0 _ T97.heap _
                rw [e97']
                exact ⟨rfl, N98⟩
              · have pre101 : ∀ t, Steps p.tables e below (T97.setTop (mkF m 114 #[.val (.long q0_), .second, .val (.long q1_), .second, .val (.long q2_), .second, .val (.ref b1), .val (.long q2_), .second, .val (.long q1_), .second, .val (.int (1 : Int32)), .val (.int (0 : Int32)), .val (.int (1 : Int32)), .val (.int (0 : Int32)), .val (.int (0 : Int32))] [(.int (0 : Int32))])) t → Steps p.tables e below (s₁.setTop (entryFrame m #[(.long q0_), (.long q1_), (.long q2_)] maxLocals)) t := by
                  intro t kt
                  refine pre78 t ?_
                  show Steps p.tables e below (T76.setTop (mkF m 42 #[.val (.long q0_), .second, .val (.long q1_), .second, .val (.long q2_), .second, .val (.ref b1), .val (.long q2_), .second, .val (.long q1_), .second, .val (.int (1 : Int32)), .unset, .unset, .unset, .unset] [(.int (lcmpW q0_ (-9223372036854775808 : Int64)))])) _
                  refine XS.ifYes X76.here hx rfl (pc0 := 42) (pc' := 49) rfl (hb hby at_42) rfl ((if0 _ _).trans (feq (fun z => hc79 ((lw_eq _ _).mp z))).2) (by decide) (by decide) ?_
                  show Steps p.tables e below (T76.setTop (mkF m 49 #[.val (.long q0_), .second, .val (.long q1_), .second, .val (.long q2_), .second, .val (.ref b1), .val (.long q2_), .second, .val (.long q1_), .second, .val (.int (1 : Int32)), .unset, .unset, .unset, .unset] [])) _
                  refine XS.aload X76.here hx rfl (hb hby at_49) rfl rfl ?_
                  show Steps p.tables e below (T76.setTop (mkF m 51 #[.val (.long q0_), .second, .val (.long q1_), .second, .val (.long q2_), .second, .val (.ref b1), .val (.long q2_), .second, .val (.long q1_), .second, .val (.int (1 : Int32)), .unset, .unset, .unset, .unset] [(.ref b1)])) _
                  refine XS.lloadN X76.here hx rfl (hb hby at_51) rfl ?_
                  show Steps p.tables e below (T76.setTop (mkF m 52 #[.val (.long q0_), .second, .val (.long q1_), .second, .val (.long q2_), .second, .val (.ref b1), .val (.long q2_), .second, .val (.long q1_), .second, .val (.int (1 : Int32)), .unset, .unset, .unset, .unset] [(.long q0_), (.ref b1)])) _
                  refine XS.lconst X76.here hx rfl (hb hby at_52) ?_
                  show Steps p.tables e below (T76.setTop (mkF m 53 #[.val (.long q0_), .second, .val (.long q1_), .second, .val (.long q2_), .second, .val (.ref b1), .val (.long q2_), .second, .val (.long q1_), .second, .val (.int (1 : Int32)), .unset, .unset, .unset, .unset] [(.long (1 : Int64)), (.long q0_), (.ref b1)])) _
                  refine XS.lsub X76.here hx rfl (hb hby at_53) rfl ?_
                  show Steps p.tables e below (T76.setTop (mkF m 54 #[.val (.long q0_), .second, .val (.long q1_), .second, .val (.long q2_), .second, .val (.ref b1), .val (.long q2_), .second, .val (.long q1_), .second, .val (.int (1 : Int32)), .unset, .unset, .unset, .unset] [(.long (q0_ - (1 : Int64))), (.ref b1)])) _
                  refine st93.trans ?_
                  show Steps p.tables e below (T93.setTop (mkF m 57 #[.val (.long q0_), .second, .val (.long q1_), .second, .val (.long q2_), .second, .val (.ref b1), .val (.long q2_), .second, .val (.long q1_), .second, .val (.int (1 : Int32)), .unset, .unset, .unset, .unset] [(.int (0 : Int32))])) _
                  refine XS.istore X93.here hx rfl (hb hby at_57) rfl (l' := #[.val (.long q0_), .second, .val (.long q1_), .second, .val (.long q2_), .second, .val (.ref b1), .val (.long q2_), .second, .val (.long q1_), .second, .val (.int (1 : Int32)), .val (.int (0 : Int32)), .unset, .unset, .unset]) rfl ?_
                  show Steps p.tables e below (T93.setTop (mkF m 59 #[.val (.long q0_), .second, .val (.long q1_), .second, .val (.long q2_), .second, .val (.ref b1), .val (.long q2_), .second, .val (.long q1_), .second, .val (.int (1 : Int32)), .val (.int (0 : Int32)), .unset, .unset, .unset] [])) _
                  refine XS.aload X93.here hx rfl (hb hby at_59) rfl rfl ?_
                  show Steps p.tables e below (T93.setTop (mkF m 61 #[.val (.long q0_), .second, .val (.long q1_), .second, .val (.long q2_), .second, .val (.ref b1), .val (.long q2_), .second, .val (.long q1_), .second, .val (.int (1 : Int32)), .val (.int (0 : Int32)), .unset, .unset, .unset] [(.ref b1)])) _
                  refine XS.lload X93.here hx rfl (hb hby at_61) rfl ?_
                  show Steps p.tables e below (T93.setTop (mkF m 63 #[.val (.long q0_), .second, .val (.long q1_), .second, .val (.long q2_), .second, .val (.ref b1), .val (.long q2_), .second, .val (.long q1_), .second, .val (.int (1 : Int32)), .val (.int (0 : Int32)), .unset, .unset, .unset] [(.long q2_), (.ref b1)])) _
                  refine st95.trans ?_
                  show Steps p.tables e below (T95.setTop (mkF m 66 #[.val (.long q0_), .second, .val (.long q1_), .second, .val (.long q2_), .second, .val (.ref b1), .val (.long q2_), .second, .val (.long q1_), .second, .val (.int (1 : Int32)), .val (.int (0 : Int32)), .unset, .unset, .unset] [(.int (1 : Int32))])) _
                  refine XS.istore X95.here hx rfl (hb hby at_66) rfl (l' := #[.val (.long q0_), .second, .val (.long q1_), .second, .val (.long q2_), .second, .val (.ref b1), .val (.long q2_), .second, .val (.long q1_), .second, .val (.int (1 : Int32)), .val (.int (0 : Int32)), .val (.int (1 : Int32)), .unset, .unset]) rfl ?_
                  show Steps p.tables e below (T95.setTop (mkF m 68 #[.val (.long q0_), .second, .val (.long q1_), .second, .val (.long q2_), .second, .val (.ref b1), .val (.long q2_), .second, .val (.long q1_), .second, .val (.int (1 : Int32)), .val (.int (0 : Int32)), .val (.int (1 : Int32)), .unset, .unset] [])) _
                  refine XS.aload X95.here hx rfl (hb hby at_68) rfl rfl ?_
                  show Steps p.tables e below (T95.setTop (mkF m 70 #[.val (.long q0_), .second, .val (.long q1_), .second, .val (.long q2_), .second, .val (.ref b1), .val (.long q2_), .second, .val (.long q1_), .second, .val (.int (1 : Int32)), .val (.int (0 : Int32)), .val (.int (1 : Int32)), .unset, .unset] [(.ref b1)])) _
                  refine XS.lload X95.here hx rfl (hb hby at_70) rfl ?_
                  show Steps p.tables e below (T95.setTop (mkF m 72 #[.val (.long q0_), .second, .val (.long q1_), .second, .val (.long q2_), .second, .val (.ref b1), .val (.long q2_), .second, .val (.long q1_), .second, .val (.int (1 : Int32)), .val (.int (0 : Int32)), .val (.int (1 : Int32)), .unset, .unset] [(.long q1_), (.ref b1)])) _
                  refine st97.trans ?_
                  show Steps p.tables e below (T97.setTop (mkF m 75 #[.val (.long q0_), .second, .val (.long q1_), .second, .val (.long q2_), .second, .val (.ref b1), .val (.long q2_), .second, .val (.long q1_), .second, .val (.int (1 : Int32)), .val (.int (0 : Int32)), .val (.int (1 : Int32)), .unset, .unset] [(.int (0 : Int32))])) _
                  refine XS.istore X97.here hx rfl (hb hby at_75) rfl (l' := #[.val (.long q0_), .second, .val (.long q1_), .second, .val (.long q2_), .second, .val (.ref b1), .val (.long q2_), .second, .val (.long q1_), .second, .val (.int (1 : Int32)), .val (.int (0 : Int32)), .val (.int (1 : Int32)), .val (.int (0 : Int32)), .unset]) rfl ?_
                  show Steps p.tables e below (T97.setTop (mkF m 77 #[.val (.long q0_), .second, .val (.long q1_), .second, .val (.long q2_), .second, .val (.ref b1), .val (.long q2_), .second, .val (.long q1_), .second, .val (.int (1 : Int32)), .val (.int (0 : Int32)), .val (.int (1 : Int32)), .val (.int (0 : Int32)), .unset] [])) _
                  refine XS.iload X97.here hx rfl (hb hby at_77) rfl ?_
                  show Steps p.tables e below (T97.setTop (mkF m 79 #[.val (.long q0_), .second, .val (.long q1_), .second, .val (.long q2_), .second, .val (.ref b1), .val (.long q2_), .second, .val (.long q1_), .second, .val (.int (1 : Int32)), .val (.int (0 : Int32)), .val (.int (1 : Int32)), .val (.int (0 : Int32)), .unset] [(.int (1 : Int32))])) _
                  refine XS.ifNo X97.here hx rfl (hb hby at_79) rfl ((if0 _ _).trans (feq (by decide : ¬ ((1 : Int32) = (0 : Int32)))).1) ?_
                  show Steps p.tables e below (T97.setTop (mkF m 82 #[.val (.long q0_), .second, .val (.long q1_), .second, .val (.long q2_), .second, .val (.ref b1), .val (.long q2_), .second, .val (.long q1_), .second, .val (.int (1 : Int32)), .val (.int (0 : Int32)), .val (.int (1 : Int32)), .val (.int (0 : Int32)), .unset] [])) _
                  refine XS.iload X97.here hx rfl (hb hby at_82) rfl ?_
                  show Steps p.tables e below (T97.setTop (mkF m 84 #[.val (.long q0_), .second, .val (.long q1_), .second, .val (.long q2_), .second, .val (.ref b1), .val (.long q2_), .second, .val (.long q1_), .second, .val (.int (1 : Int32)), .val (.int (0 : Int32)), .val (.int (1 : Int32)), .val (.int (0 : Int32)), .unset] [(.int (0 : Int32))])) _
                  refine XS.ifYes X97.here hx rfl (pc0 := 84) (pc' := 91) rfl (hb hby at_84) rfl ((if0 _ _).trans (teq (by decide : (0 : Int32) = (0 : Int32))).1) (by decide) (by decide) ?_
                  show Steps p.tables e below (T97.setTop (mkF m 91 #[.val (.long q0_), .second, .val (.long q1_), .second, .val (.long q2_), .second, .val (.ref b1), .val (.long q2_), .second, .val (.long q1_), .second, .val (.int (1 : Int32)), .val (.int (0 : Int32)), .val (.int (1 : Int32)), .val (.int (0 : Int32)), .unset] [])) _
                  refine XS.iconst X97.here hx rfl (hb hby at_91) ?_
                  show Steps p.tables e below (T97.setTop (mkF m 92 #[.val (.long q0_), .second, .val (.long q1_), .second, .val (.long q2_), .second, .val (.ref b1), .val (.long q2_), .second, .val (.long q1_), .second, .val (.int (1 : Int32)), .val (.int (0 : Int32)), .val (.int (1 : Int32)), .val (.int (0 : Int32)), .unset] [(.int (0 : Int32))])) _
                  refine XS.istore X97.here hx rfl (hb hby at_92) rfl (l' := #[.val (.long q0_), .second, .val (.long q1_), .second, .val (.long q2_), .second, .val (.ref b1), .val (.long q2_), .second, .val (.long q1_), .second, .val (.int (1 : Int32)), .val (.int (0 : Int32)), .val (.int (1 : Int32)), .val (.int (0 : Int32)), .val (.int (0 : Int32))]) rfl ?_
                  show Steps p.tables e below (T97.setTop (mkF m 94 #[.val (.long q0_), .second, .val (.long q1_), .second, .val (.long q2_), .second, .val (.ref b1), .val (.long q2_), .second, .val (.long q1_), .second, .val (.int (1 : Int32)), .val (.int (0 : Int32)), .val (.int (1 : Int32)), .val (.int (0 : Int32)), .val (.int (0 : Int32))] [])) _
                  refine XS.iload X97.here hx rfl (hb hby at_94) rfl ?_
                  show Steps p.tables e below (T97.setTop (mkF m 96 #[.val (.long q0_), .second, .val (.long q1_), .second, .val (.long q2_), .second, .val (.ref b1), .val (.long q2_), .second, .val (.long q1_), .second, .val (.int (1 : Int32)), .val (.int (0 : Int32)), .val (.int (1 : Int32)), .val (.int (0 : Int32)), .val (.int (0 : Int32))] [(.int (1 : Int32))])) _
                  refine XS.ifNo X97.here hx rfl (hb hby at_96) rfl ((if0 _ _).trans (feq (by decide : ¬ ((1 : Int32) = (0 : Int32)))).1) ?_
                  show Steps p.tables e below (T97.setTop (mkF m 99 #[.val (.long q0_), .second, .val (.long q1_), .second, .val (.long q2_), .second, .val (.ref b1), .val (.long q2_), .second, .val (.long q1_), .second, .val (.int (1 : Int32)), .val (.int (0 : Int32)), .val (.int (1 : Int32)), .val (.int (0 : Int32)), .val (.int (0 : Int32))] [])) _
                  refine XS.iload X97.here hx rfl (hb hby at_99) rfl ?_
                  show Steps p.tables e below (T97.setTop (mkF m 101 #[.val (.long q0_), .second, .val (.long q1_), .second, .val (.long q2_), .second, .val (.ref b1), .val (.long q2_), .second, .val (.long q1_), .second, .val (.int (1 : Int32)), .val (.int (0 : Int32)), .val (.int (1 : Int32)), .val (.int (0 : Int32)), .val (.int (0 : Int32))] [(.int (0 : Int32))])) _
                  refine XS.ifNo X97.here hx rfl (hb hby at_101) rfl ((if0 _ _).trans (teq (by decide : (0 : Int32) = (0 : Int32))).2) ?_
                  show Steps p.tables e below (T97.setTop (mkF m 104 #[.val (.long q0_), .second, .val (.long q1_), .second, .val (.long q2_), .second, .val (.ref b1), .val (.long q2_), .second, .val (.long q1_), .second, .val (.int (1 : Int32)), .val (.int (0 : Int32)), .val (.int (1 : Int32)), .val (.int (0 : Int32)), .val (.int (0 : Int32))] [])) _
                  refine XS.iload X97.here hx rfl (hb hby at_104) rfl ?_
                  show Steps p.tables e below (T97.setTop (mkF m 106 #[.val (.long q0_), .second, .val (.long q1_), .second, .val (.long q2_), .second, .val (.ref b1), .val (.long q2_), .second, .val (.long q1_), .second, .val (.int (1 : Int32)), .val (.int (0 : Int32)), .val (.int (1 : Int32)), .val (.int (0 : Int32)), .val (.int (0 : Int32))] [(.int (0 : Int32))])) _
                  refine XS.ifYes X97.here hx rfl (pc0 := 106) (pc' := 113) rfl (hb hby at_106) rfl ((if0 _ _).trans (teq (by decide : (0 : Int32) = (0 : Int32))).1) (by decide) (by decide) ?_
                  show Steps p.tables e below (T97.setTop (mkF m 113 #[.val (.long q0_), .second, .val (.long q1_), .second, .val (.long q2_), .second, .val (.ref b1), .val (.long q2_), .second, .val (.long q1_), .second, .val (.int (1 : Int32)), .val (.int (0 : Int32)), .val (.int (1 : Int32)), .val (.int (0 : Int32)), .val (.int (0 : Int32))] [])) _
                  refine XS.iconst X97.here hx rfl (hb hby at_113) ?_
                  exact kt
                exfalso
                simp only [Int64.lt_iff_toInt_lt] at hq11_1_0 hq74_0_0 hq76_0_0 hc79 hq93_1_0 hq95_0_0 hq97_1_0
                omega
            · obtain ⟨cq102, kq102, q102a, q102b, q102c⟩ := isOf hZ e95' g8_0
              obtain ⟨_, _, ⟨T102, L102, k102, n102⟩, -, X102, ⟨Lc102, hQ102, l102, y102, z102⟩, st102⟩ := X95.virtualBack hx (y := (⟨"com/example/fawley/fawley/store/StoredValue", "hasExpiredAt", "(J)Z"⟩ : MethodName)) (z := (⟨"com/example/fawley/fawley/store/StoredValue", "hasExpiredAt", "(J)Z"⟩ : MethodName)) hown (mvT hZ (hw _ (List.mem_of_getElem? (i := 24) rfl))) (mvT hZ (hw _ (List.mem_of_getElem? (i := 25) rfl))) (notFace_of_selects (args := #[]) (mvT hZ (hw _ (List.mem_of_getElem? (i := 27) rfl)))) (mvT hZ (hw _ (List.mem_of_getElem? (i := 27) rfl))) (mvT hZ (hw _ (List.mem_of_getElem? (i := 26) rfl))) (by decide) (backOf (W := 0) (rmHas l Z a0 hw [] b1 q1_ q0_ h8 n0 f12 g8_4) hZ (hw _ (List.mem_of_getElem? (i := 28) rfl)) (hw _ (List.mem_of_getElem? (i := 2) rfl)) (by decide) (by decide)) q102a q102c (g := (mkF m 72 #[.val (.long q0_), .second, .val (.long q1_), .second, .val (.long q2_), .second, .val (.ref b1), .val (.long q2_), .second, .val (.long q1_), .second, .val (.int (1 : Int32)), .val (.int (0 : Int32)), .val (.int (0 : Int32)), .unset, .unset] [(.long q1_), (.ref b1)])) rfl (by rw [hml]; rfl) (Steps.refl _) (argsL := [(.long q1_)]) (rest := []) (lenOf pd_2 rfl) rfl (by show 2 * 0 + _ ≤ _; exact Nat.le_of_eq rfl) (hb hby at_72) (fun _ _ => ⟨rfl, e95', (by decide : 1 + 0 ≤ _), (by decide : 4 + 0 ≤ _)⟩)
              dsimp only [Pt.U, Pt.locs, Pt.cells, Pt.slots] at X102 l102 y102 z102 st102 hQ102
              subst l102 y102 z102
              obtain ⟨h102, e102⟩ : ∃ z, T102.heap = z := ⟨_, rfl⟩
              rw [e102] at hQ102
              obtain ⟨rr102, rfl, hs102, N102q, hh102⟩ := hQ102
              have N103 := Fr.app N96 N102q
              have e102' : T102.heap = h8 := e102.trans hh102
              rcases hs102 with ⟨rfl, hq102_0_0⟩ | ⟨rfl, hq102_1_0⟩
              · have pre104 : ∀ t, Steps p.tables e below (T102.setTop (mkF m 114 #[.val (.long q0_), .second, .val (.long q1_), .second, .val (.long q2_), .second, .val (.ref b1), .val (.long q2_), .second, .val (.long q1_), .second, .val (.int (1 : Int32)), .val (.int (0 : Int32)), .val (.int (0 : Int32)), .val (.int (1 : Int32)), .val (.int (1 : Int32))] [(.int (1 : Int32))])) t → Steps p.tables e below (s₁.setTop (entryFrame m #[(.long q0_), (.long q1_), (.long q2_)] maxLocals)) t := by
                  intro t kt
                  refine pre78 t ?_
                  show Steps p.tables e below (T76.setTop (mkF m 42 #[.val (.long q0_), .second, .val (.long q1_), .second, .val (.long q2_), .second, .val (.ref b1), .val (.long q2_), .second, .val (.long q1_), .second, .val (.int (1 : Int32)), .unset, .unset, .unset, .unset] [(.int (lcmpW q0_ (-9223372036854775808 : Int64)))])) _
                  refine XS.ifYes X76.here hx rfl (pc0 := 42) (pc' := 49) rfl (hb hby at_42) rfl ((if0 _ _).trans (feq (fun z => hc79 ((lw_eq _ _).mp z))).2) (by decide) (by decide) ?_
                  show Steps p.tables e below (T76.setTop (mkF m 49 #[.val (.long q0_), .second, .val (.long q1_), .second, .val (.long q2_), .second, .val (.ref b1), .val (.long q2_), .second, .val (.long q1_), .second, .val (.int (1 : Int32)), .unset, .unset, .unset, .unset] [])) _
                  refine XS.aload X76.here hx rfl (hb hby at_49) rfl rfl ?_
                  show Steps p.tables e below (T76.setTop (mkF m 51 #[.val (.long q0_), .second, .val (.long q1_), .second, .val (.long q2_), .second, .val (.ref b1), .val (.long q2_), .second, .val (.long q1_), .second, .val (.int (1 : Int32)), .unset, .unset, .unset, .unset] [(.ref b1)])) _
                  refine XS.lloadN X76.here hx rfl (hb hby at_51) rfl ?_
                  show Steps p.tables e below (T76.setTop (mkF m 52 #[.val (.long q0_), .second, .val (.long q1_), .second, .val (.long q2_), .second, .val (.ref b1), .val (.long q2_), .second, .val (.long q1_), .second, .val (.int (1 : Int32)), .unset, .unset, .unset, .unset] [(.long q0_), (.ref b1)])) _
                  refine XS.lconst X76.here hx rfl (hb hby at_52) ?_
                  show Steps p.tables e below (T76.setTop (mkF m 53 #[.val (.long q0_), .second, .val (.long q1_), .second, .val (.long q2_), .second, .val (.ref b1), .val (.long q2_), .second, .val (.long q1_), .second, .val (.int (1 : Int32)), .unset, .unset, .unset, .unset] [(.long (1 : Int64)), (.long q0_), (.ref b1)])) _
                  refine XS.lsub X76.here hx rfl (hb hby at_53) rfl ?_
                  show Steps p.tables e below (T76.setTop (mkF m 54 #[.val (.long q0_), .second, .val (.long q1_), .second, .val (.long q2_), .second, .val (.ref b1), .val (.long q2_), .second, .val (.long q1_), .second, .val (.int (1 : Int32)), .unset, .unset, .unset, .unset] [(.long (q0_ - (1 : Int64))), (.ref b1)])) _
                  refine st93.trans ?_
                  show Steps p.tables e below (T93.setTop (mkF m 57 #[.val (.long q0_), .second, .val (.long q1_), .second, .val (.long q2_), .second, .val (.ref b1), .val (.long q2_), .second, .val (.long q1_), .second, .val (.int (1 : Int32)), .unset, .unset, .unset, .unset] [(.int (0 : Int32))])) _
                  refine XS.istore X93.here hx rfl (hb hby at_57) rfl (l' := #[.val (.long q0_), .second, .val (.long q1_), .second, .val (.long q2_), .second, .val (.ref b1), .val (.long q2_), .second, .val (.long q1_), .second, .val (.int (1 : Int32)), .val (.int (0 : Int32)), .unset, .unset, .unset]) rfl ?_
                  show Steps p.tables e below (T93.setTop (mkF m 59 #[.val (.long q0_), .second, .val (.long q1_), .second, .val (.long q2_), .second, .val (.ref b1), .val (.long q2_), .second, .val (.long q1_), .second, .val (.int (1 : Int32)), .val (.int (0 : Int32)), .unset, .unset, .unset] [])) _
                  refine XS.aload X93.here hx rfl (hb hby at_59) rfl rfl ?_
                  show Steps p.tables e below (T93.setTop (mkF m 61 #[.val (.long q0_), .second, .val (.long q1_), .second, .val (.long q2_), .second, .val (.ref b1), .val (.long q2_), .second, .val (.long q1_), .second, .val (.int (1 : Int32)), .val (.int (0 : Int32)), .unset, .unset, .unset] [(.ref b1)])) _
                  refine XS.lload X93.here hx rfl (hb hby at_61) rfl ?_
                  show Steps p.tables e below (T93.setTop (mkF m 63 #[.val (.long q0_), .second, .val (.long q1_), .second, .val (.long q2_), .second, .val (.ref b1), .val (.long q2_), .second, .val (.long q1_), .second, .val (.int (1 : Int32)), .val (.int (0 : Int32)), .unset, .unset, .unset] [(.long q2_), (.ref b1)])) _
                  refine st95.trans ?_
                  show Steps p.tables e below (T95.setTop (mkF m 66 #[.val (.long q0_), .second, .val (.long q1_), .second, .val (.long q2_), .second, .val (.ref b1), .val (.long q2_), .second, .val (.long q1_), .second, .val (.int (1 : Int32)), .val (.int (0 : Int32)), .unset, .unset, .unset] [(.int (0 : Int32))])) _
                  refine XS.istore X95.here hx rfl (hb hby at_66) rfl (l' := #[.val (.long q0_), .second, .val (.long q1_), .second, .val (.long q2_), .second, .val (.ref b1), .val (.long q2_), .second, .val (.long q1_), .second, .val (.int (1 : Int32)), .val (.int (0 : Int32)), .val (.int (0 : Int32)), .unset, .unset]) rfl ?_
                  show Steps p.tables e below (T95.setTop (mkF m 68 #[.val (.long q0_), .second, .val (.long q1_), .second, .val (.long q2_), .second, .val (.ref b1), .val (.long q2_), .second, .val (.long q1_), .second, .val (.int (1 : Int32)), .val (.int (0 : Int32)), .val (.int (0 : Int32)), .unset, .unset] [])) _
                  refine XS.aload X95.here hx rfl (hb hby at_68) rfl rfl ?_
                  show Steps p.tables e below (T95.setTop (mkF m 70 #[.val (.long q0_), .second, .val (.long q1_), .second, .val (.long q2_), .second, .val (.ref b1), .val (.long q2_), .second, .val (.long q1_), .second, .val (.int (1 : Int32)), .val (.int (0 : Int32)), .val (.int (0 : Int32)), .unset, .unset] [(.ref b1)])) _
                  refine XS.lload X95.here hx rfl (hb hby at_70) rfl ?_
                  show Steps p.tables e below (T95.setTop (mkF m 72 #[.val (.long q0_), .second, .val (.long q1_), .second, .val (.long q2_), .second, .val (.ref b1), .val (.long q2_), .second, .val (.long q1_), .second, .val (.int (1 : Int32)), .val (.int (0 : Int32)), .val (.int (0 : Int32)), .unset, .unset] [(.long q1_), (.ref b1)])) _
                  refine st102.trans ?_
                  show Steps p.tables e below (T102.setTop (mkF m 75 #[.val (.long q0_), .second, .val (.long q1_), .second, .val (.long q2_), .second, .val (.ref b1), .val (.long q2_), .second, .val (.long q1_), .second, .val (.int (1 : Int32)), .val (.int (0 : Int32)), .val (.int (0 : Int32)), .unset, .unset] [(.int (1 : Int32))])) _
                  refine XS.istore X102.here hx rfl (hb hby at_75) rfl (l' := #[.val (.long q0_), .second, .val (.long q1_), .second, .val (.long q2_), .second, .val (.ref b1), .val (.long q2_), .second, .val (.long q1_), .second, .val (.int (1 : Int32)), .val (.int (0 : Int32)), .val (.int (0 : Int32)), .val (.int (1 : Int32)), .unset]) rfl ?_
                  show Steps p.tables e below (T102.setTop (mkF m 77 #[.val (.long q0_), .second, .val (.long q1_), .second, .val (.long q2_), .second, .val (.ref b1), .val (.long q2_), .second, .val (.long q1_), .second, .val (.int (1 : Int32)), .val (.int (0 : Int32)), .val (.int (0 : Int32)), .val (.int (1 : Int32)), .unset] [])) _
                  refine XS.iload X102.here hx rfl (hb hby at_77) rfl ?_
                  show Steps p.tables e below (T102.setTop (mkF m 79 #[.val (.long q0_), .second, .val (.long q1_), .second, .val (.long q2_), .second, .val (.ref b1), .val (.long q2_), .second, .val (.long q1_), .second, .val (.int (1 : Int32)), .val (.int (0 : Int32)), .val (.int (0 : Int32)), .val (.int (1 : Int32)), .unset] [(.int (0 : Int32))])) _
                  refine XS.ifYes X102.here hx rfl (pc0 := 79) (pc' := 87) rfl (hb hby at_79) rfl ((if0 _ _).trans (teq (by decide : (0 : Int32) = (0 : Int32))).1) (by decide) (by decide) ?_
                  show Steps p.tables e below (T102.setTop (mkF m 87 #[.val (.long q0_), .second, .val (.long q1_), .second, .val (.long q2_), .second, .val (.ref b1), .val (.long q2_), .second, .val (.long q1_), .second, .val (.int (1 : Int32)), .val (.int (0 : Int32)), .val (.int (0 : Int32)), .val (.int (1 : Int32)), .unset] [])) _
                  refine XS.iconst X102.here hx rfl (hb hby at_87) ?_
                  show Steps p.tables e below (T102.setTop (mkF m 88 #[.val (.long q0_), .second, .val (.long q1_), .second, .val (.long q2_), .second, .val (.ref b1), .val (.long q2_), .second, .val (.long q1_), .second, .val (.int (1 : Int32)), .val (.int (0 : Int32)), .val (.int (0 : Int32)), .val (.int (1 : Int32)), .unset] [(.int (1 : Int32))])) _
                  refine XS.goto X102.here hx rfl (pc0 := 88) (pc' := 92) rfl (hb hby at_88) (by decide) (by decide) ?_
                  show Steps p.tables e below (T102.setTop (mkF m 92 #[.val (.long q0_), .second, .val (.long q1_), .second, .val (.long q2_), .second, .val (.ref b1), .val (.long q2_), .second, .val (.long q1_), .second, .val (.int (1 : Int32)), .val (.int (0 : Int32)), .val (.int (0 : Int32)), .val (.int (1 : Int32)), .unset] [(.int (1 : Int32))])) _
                  refine XS.istore X102.here hx rfl (hb hby at_92) rfl (l' := #[.val (.long q0_), .second, .val (.long q1_), .second, .val (.long q2_), .second, .val (.ref b1), .val (.long q2_), .second, .val (.long q1_), .second, .val (.int (1 : Int32)), .val (.int (0 : Int32)), .val (.int (0 : Int32)), .val (.int (1 : Int32)), .val (.int (1 : Int32))]) rfl ?_
                  show Steps p.tables e below (T102.setTop (mkF m 94 #[.val (.long q0_), .second, .val (.long q1_), .second, .val (.long q2_), .second, .val (.ref b1), .val (.long q2_), .second, .val (.long q1_), .second, .val (.int (1 : Int32)), .val (.int (0 : Int32)), .val (.int (0 : Int32)), .val (.int (1 : Int32)), .val (.int (1 : Int32))] [])) _
                  refine XS.iload X102.here hx rfl (hb hby at_94) rfl ?_
                  show Steps p.tables e below (T102.setTop (mkF m 96 #[.val (.long q0_), .second, .val (.long q1_), .second, .val (.long q2_), .second, .val (.ref b1), .val (.long q2_), .second, .val (.long q1_), .second, .val (.int (1 : Int32)), .val (.int (0 : Int32)), .val (.int (0 : Int32)), .val (.int (1 : Int32)), .val (.int (1 : Int32))] [(.int (1 : Int32))])) _
                  refine XS.ifNo X102.here hx rfl (hb hby at_96) rfl ((if0 _ _).trans (feq (by decide : ¬ ((1 : Int32) = (0 : Int32)))).1) ?_
                  show Steps p.tables e below (T102.setTop (mkF m 99 #[.val (.long q0_), .second, .val (.long q1_), .second, .val (.long q2_), .second, .val (.ref b1), .val (.long q2_), .second, .val (.long q1_), .second, .val (.int (1 : Int32)), .val (.int (0 : Int32)), .val (.int (0 : Int32)), .val (.int (1 : Int32)), .val (.int (1 : Int32))] [])) _
                  refine XS.iload X102.here hx rfl (hb hby at_99) rfl ?_
                  show Steps p.tables e below (T102.setTop (mkF m 101 #[.val (.long q0_), .second, .val (.long q1_), .second, .val (.long q2_), .second, .val (.ref b1), .val (.long q2_), .second, .val (.long q1_), .second, .val (.int (1 : Int32)), .val (.int (0 : Int32)), .val (.int (0 : Int32)), .val (.int (1 : Int32)), .val (.int (1 : Int32))] [(.int (0 : Int32))])) _
                  refine XS.ifNo X102.here hx rfl (hb hby at_101) rfl ((if0 _ _).trans (teq (by decide : (0 : Int32) = (0 : Int32))).2) ?_
                  show Steps p.tables e below (T102.setTop (mkF m 104 #[.val (.long q0_), .second, .val (.long q1_), .second, .val (.long q2_), .second, .val (.ref b1), .val (.long q2_), .second, .val (.long q1_), .second, .val (.int (1 : Int32)), .val (.int (0 : Int32)), .val (.int (0 : Int32)), .val (.int (1 : Int32)), .val (.int (1 : Int32))] [])) _
                  refine XS.iload X102.here hx rfl (hb hby at_104) rfl ?_
                  show Steps p.tables e below (T102.setTop (mkF m 106 #[.val (.long q0_), .second, .val (.long q1_), .second, .val (.long q2_), .second, .val (.ref b1), .val (.long q2_), .second, .val (.long q1_), .second, .val (.int (1 : Int32)), .val (.int (0 : Int32)), .val (.int (0 : Int32)), .val (.int (1 : Int32)), .val (.int (1 : Int32))] [(.int (1 : Int32))])) _
                  refine XS.ifNo X102.here hx rfl (hb hby at_106) rfl ((if0 _ _).trans (feq (by decide : ¬ ((1 : Int32) = (0 : Int32)))).1) ?_
                  show Steps p.tables e below (T102.setTop (mkF m 109 #[.val (.long q0_), .second, .val (.long q1_), .second, .val (.long q2_), .second, .val (.ref b1), .val (.long q2_), .second, .val (.long q1_), .second, .val (.int (1 : Int32)), .val (.int (0 : Int32)), .val (.int (0 : Int32)), .val (.int (1 : Int32)), .val (.int (1 : Int32))] [])) _
                  refine XS.iconst X102.here hx rfl (hb hby at_109) ?_
                  show Steps p.tables e below (T102.setTop (mkF m 110 #[.val (.long q0_), .second, .val (.long q1_), .second, .val (.long q2_), .second, .val (.ref b1), .val (.long q2_), .second, .val (.long q1_), .second, .val (.int (1 : Int32)), .val (.int (0 : Int32)), .val (.int (0 : Int32)), .val (.int (1 : Int32)), .val (.int (1 : Int32))] [(.int (1 : Int32))])) _
                  refine XS.goto X102.here hx rfl (pc0 := 110) (pc' := 114) rfl (hb hby at_110) (by decide) (by decide) ?_
                  exact kt
                obtain ⟨fs, hr, hrun, hended, hW, hsame⟩ := X102.leave (v := some (.int (1 : Int32))) (fun h => by rw [Bd.returns] at h; cases h)
                refine ⟨_, _, pre104 _ (retN X102 hx (t := .boolean) Bd.returns (by simp) (hb hby at_114) hr), hrun, hended, _, _, rfl, ?_, ⟨_, rfl⟩, hW, hsame.mono (by decide) (by decide)⟩
                show QLaw Z q0_ q1_ q2_ h0 n0 _ T102.heap _
                rw [e102']
                exact ⟨rfl, N103⟩
              · have pre106 : ∀ t, Steps p.tables e below (T102.setTop (mkF m 114 #[.val (.long q0_), .second, .val (.long q1_), .second, .val (.long q2_), .second, .val (.ref b1), .val (.long q2_), .second, .val (.long q1_), .second, .val (.int (1 : Int32)), .val (.int (0 : Int32)), .val (.int (0 : Int32)), .val (.int (0 : Int32)), .val (.int (1 : Int32))] [(.int (1 : Int32))])) t → Steps p.tables e below (s₁.setTop (entryFrame m #[(.long q0_), (.long q1_), (.long q2_)] maxLocals)) t := by
                  intro t kt
                  refine pre78 t ?_
                  show Steps p.tables e below (T76.setTop (mkF m 42 #[.val (.long q0_), .second, .val (.long q1_), .second, .val (.long q2_), .second, .val (.ref b1), .val (.long q2_), .second, .val (.long q1_), .second, .val (.int (1 : Int32)), .unset, .unset, .unset, .unset] [(.int (lcmpW q0_ (-9223372036854775808 : Int64)))])) _
                  refine XS.ifYes X76.here hx rfl (pc0 := 42) (pc' := 49) rfl (hb hby at_42) rfl ((if0 _ _).trans (feq (fun z => hc79 ((lw_eq _ _).mp z))).2) (by decide) (by decide) ?_
                  show Steps p.tables e below (T76.setTop (mkF m 49 #[.val (.long q0_), .second, .val (.long q1_), .second, .val (.long q2_), .second, .val (.ref b1), .val (.long q2_), .second, .val (.long q1_), .second, .val (.int (1 : Int32)), .unset, .unset, .unset, .unset] [])) _
                  refine XS.aload X76.here hx rfl (hb hby at_49) rfl rfl ?_
                  show Steps p.tables e below (T76.setTop (mkF m 51 #[.val (.long q0_), .second, .val (.long q1_), .second, .val (.long q2_), .second, .val (.ref b1), .val (.long q2_), .second, .val (.long q1_), .second, .val (.int (1 : Int32)), .unset, .unset, .unset, .unset] [(.ref b1)])) _
                  refine XS.lloadN X76.here hx rfl (hb hby at_51) rfl ?_
                  show Steps p.tables e below (T76.setTop (mkF m 52 #[.val (.long q0_), .second, .val (.long q1_), .second, .val (.long q2_), .second, .val (.ref b1), .val (.long q2_), .second, .val (.long q1_), .second, .val (.int (1 : Int32)), .unset, .unset, .unset, .unset] [(.long q0_), (.ref b1)])) _
                  refine XS.lconst X76.here hx rfl (hb hby at_52) ?_
                  show Steps p.tables e below (T76.setTop (mkF m 53 #[.val (.long q0_), .second, .val (.long q1_), .second, .val (.long q2_), .second, .val (.ref b1), .val (.long q2_), .second, .val (.long q1_), .second, .val (.int (1 : Int32)), .unset, .unset, .unset, .unset] [(.long (1 : Int64)), (.long q0_), (.ref b1)])) _
                  refine XS.lsub X76.here hx rfl (hb hby at_53) rfl ?_
                  show Steps p.tables e below (T76.setTop (mkF m 54 #[.val (.long q0_), .second, .val (.long q1_), .second, .val (.long q2_), .second, .val (.ref b1), .val (.long q2_), .second, .val (.long q1_), .second, .val (.int (1 : Int32)), .unset, .unset, .unset, .unset] [(.long (q0_ - (1 : Int64))), (.ref b1)])) _
                  refine st93.trans ?_
                  show Steps p.tables e below (T93.setTop (mkF m 57 #[.val (.long q0_), .second, .val (.long q1_), .second, .val (.long q2_), .second, .val (.ref b1), .val (.long q2_), .second, .val (.long q1_), .second, .val (.int (1 : Int32)), .unset, .unset, .unset, .unset] [(.int (0 : Int32))])) _
                  refine XS.istore X93.here hx rfl (hb hby at_57) rfl (l' := #[.val (.long q0_), .second, .val (.long q1_), .second, .val (.long q2_), .second, .val (.ref b1), .val (.long q2_), .second, .val (.long q1_), .second, .val (.int (1 : Int32)), .val (.int (0 : Int32)), .unset, .unset, .unset]) rfl ?_
                  show Steps p.tables e below (T93.setTop (mkF m 59 #[.val (.long q0_), .second, .val (.long q1_), .second, .val (.long q2_), .second, .val (.ref b1), .val (.long q2_), .second, .val (.long q1_), .second, .val (.int (1 : Int32)), .val (.int (0 : Int32)), .unset, .unset, .unset] [])) _
                  refine XS.aload X93.here hx rfl (hb hby at_59) rfl rfl ?_
                  show Steps p.tables e below (T93.setTop (mkF m 61 #[.val (.long q0_), .second, .val (.long q1_), .second, .val (.long q2_), .second, .val (.ref b1), .val (.long q2_), .second, .val (.long q1_), .second, .val (.int (1 : Int32)), .val (.int (0 : Int32)), .unset, .unset, .unset] [(.ref b1)])) _
                  refine XS.lload X93.here hx rfl (hb hby at_61) rfl ?_
                  show Steps p.tables e below (T93.setTop (mkF m 63 #[.val (.long q0_), .second, .val (.long q1_), .second, .val (.long q2_), .second, .val (.ref b1), .val (.long q2_), .second, .val (.long q1_), .second, .val (.int (1 : Int32)), .val (.int (0 : Int32)), .unset, .unset, .unset] [(.long q2_), (.ref b1)])) _
                  refine st95.trans ?_
                  show Steps p.tables e below (T95.setTop (mkF m 66 #[.val (.long q0_), .second, .val (.long q1_), .second, .val (.long q2_), .second, .val (.ref b1), .val (.long q2_), .second, .val (.long q1_), .second, .val (.int (1 : Int32)), .val (.int (0 : Int32)), .unset, .unset, .unset] [(.int (0 : Int32))])) _
                  refine XS.istore X95.here hx rfl (hb hby at_66) rfl (l' := #[.val (.long q0_), .second, .val (.long q1_), .second, .val (.long q2_), .second, .val (.ref b1), .val (.long q2_), .second, .val (.long q1_), .second, .val (.int (1 : Int32)), .val (.int (0 : Int32)), .val (.int (0 : Int32)), .unset, .unset]) rfl ?_
                  show Steps p.tables e below (T95.setTop (mkF m 68 #[.val (.long q0_), .second, .val (.long q1_), .second, .val (.long q2_), .second, .val (.ref b1), .val (.long q2_), .second, .val (.long q1_), .second, .val (.int (1 : Int32)), .val (.int (0 : Int32)), .val (.int (0 : Int32)), .unset, .unset] [])) _
                  refine XS.aload X95.here hx rfl (hb hby at_68) rfl rfl ?_
                  show Steps p.tables e below (T95.setTop (mkF m 70 #[.val (.long q0_), .second, .val (.long q1_), .second, .val (.long q2_), .second, .val (.ref b1), .val (.long q2_), .second, .val (.long q1_), .second, .val (.int (1 : Int32)), .val (.int (0 : Int32)), .val (.int (0 : Int32)), .unset, .unset] [(.ref b1)])) _
                  refine XS.lload X95.here hx rfl (hb hby at_70) rfl ?_
                  show Steps p.tables e below (T95.setTop (mkF m 72 #[.val (.long q0_), .second, .val (.long q1_), .second, .val (.long q2_), .second, .val (.ref b1), .val (.long q2_), .second, .val (.long q1_), .second, .val (.int (1 : Int32)), .val (.int (0 : Int32)), .val (.int (0 : Int32)), .unset, .unset] [(.long q1_), (.ref b1)])) _
                  refine st102.trans ?_
                  show Steps p.tables e below (T102.setTop (mkF m 75 #[.val (.long q0_), .second, .val (.long q1_), .second, .val (.long q2_), .second, .val (.ref b1), .val (.long q2_), .second, .val (.long q1_), .second, .val (.int (1 : Int32)), .val (.int (0 : Int32)), .val (.int (0 : Int32)), .unset, .unset] [(.int (0 : Int32))])) _
                  refine XS.istore X102.here hx rfl (hb hby at_75) rfl (l' := #[.val (.long q0_), .second, .val (.long q1_), .second, .val (.long q2_), .second, .val (.ref b1), .val (.long q2_), .second, .val (.long q1_), .second, .val (.int (1 : Int32)), .val (.int (0 : Int32)), .val (.int (0 : Int32)), .val (.int (0 : Int32)), .unset]) rfl ?_
                  show Steps p.tables e below (T102.setTop (mkF m 77 #[.val (.long q0_), .second, .val (.long q1_), .second, .val (.long q2_), .second, .val (.ref b1), .val (.long q2_), .second, .val (.long q1_), .second, .val (.int (1 : Int32)), .val (.int (0 : Int32)), .val (.int (0 : Int32)), .val (.int (0 : Int32)), .unset] [])) _
                  refine XS.iload X102.here hx rfl (hb hby at_77) rfl ?_
                  show Steps p.tables e below (T102.setTop (mkF m 79 #[.val (.long q0_), .second, .val (.long q1_), .second, .val (.long q2_), .second, .val (.ref b1), .val (.long q2_), .second, .val (.long q1_), .second, .val (.int (1 : Int32)), .val (.int (0 : Int32)), .val (.int (0 : Int32)), .val (.int (0 : Int32)), .unset] [(.int (0 : Int32))])) _
                  refine XS.ifYes X102.here hx rfl (pc0 := 79) (pc' := 87) rfl (hb hby at_79) rfl ((if0 _ _).trans (teq (by decide : (0 : Int32) = (0 : Int32))).1) (by decide) (by decide) ?_
                  show Steps p.tables e below (T102.setTop (mkF m 87 #[.val (.long q0_), .second, .val (.long q1_), .second, .val (.long q2_), .second, .val (.ref b1), .val (.long q2_), .second, .val (.long q1_), .second, .val (.int (1 : Int32)), .val (.int (0 : Int32)), .val (.int (0 : Int32)), .val (.int (0 : Int32)), .unset] [])) _
                  refine XS.iconst X102.here hx rfl (hb hby at_87) ?_
                  show Steps p.tables e below (T102.setTop (mkF m 88 #[.val (.long q0_), .second, .val (.long q1_), .second, .val (.long q2_), .second, .val (.ref b1), .val (.long q2_), .second, .val (.long q1_), .second, .val (.int (1 : Int32)), .val (.int (0 : Int32)), .val (.int (0 : Int32)), .val (.int (0 : Int32)), .unset] [(.int (1 : Int32))])) _
                  refine XS.goto X102.here hx rfl (pc0 := 88) (pc' := 92) rfl (hb hby at_88) (by decide) (by decide) ?_
                  show Steps p.tables e below (T102.setTop (mkF m 92 #[.val (.long q0_), .second, .val (.long q1_), .second, .val (.long q2_), .second, .val (.ref b1), .val (.long q2_), .second, .val (.long q1_), .second, .val (.int (1 : Int32)), .val (.int (0 : Int32)), .val (.int (0 : Int32)), .val (.int (0 : Int32)), .unset] [(.int (1 : Int32))])) _
                  refine XS.istore X102.here hx rfl (hb hby at_92) rfl (l' := #[.val (.long q0_), .second, .val (.long q1_), .second, .val (.long q2_), .second, .val (.ref b1), .val (.long q2_), .second, .val (.long q1_), .second, .val (.int (1 : Int32)), .val (.int (0 : Int32)), .val (.int (0 : Int32)), .val (.int (0 : Int32)), .val (.int (1 : Int32))]) rfl ?_
                  show Steps p.tables e below (T102.setTop (mkF m 94 #[.val (.long q0_), .second, .val (.long q1_), .second, .val (.long q2_), .second, .val (.ref b1), .val (.long q2_), .second, .val (.long q1_), .second, .val (.int (1 : Int32)), .val (.int (0 : Int32)), .val (.int (0 : Int32)), .val (.int (0 : Int32)), .val (.int (1 : Int32))] [])) _
                  refine XS.iload X102.here hx rfl (hb hby at_94) rfl ?_
                  show Steps p.tables e below (T102.setTop (mkF m 96 #[.val (.long q0_), .second, .val (.long q1_), .second, .val (.long q2_), .second, .val (.ref b1), .val (.long q2_), .second, .val (.long q1_), .second, .val (.int (1 : Int32)), .val (.int (0 : Int32)), .val (.int (0 : Int32)), .val (.int (0 : Int32)), .val (.int (1 : Int32))] [(.int (1 : Int32))])) _
                  refine XS.ifNo X102.here hx rfl (hb hby at_96) rfl ((if0 _ _).trans (feq (by decide : ¬ ((1 : Int32) = (0 : Int32)))).1) ?_
                  show Steps p.tables e below (T102.setTop (mkF m 99 #[.val (.long q0_), .second, .val (.long q1_), .second, .val (.long q2_), .second, .val (.ref b1), .val (.long q2_), .second, .val (.long q1_), .second, .val (.int (1 : Int32)), .val (.int (0 : Int32)), .val (.int (0 : Int32)), .val (.int (0 : Int32)), .val (.int (1 : Int32))] [])) _
                  refine XS.iload X102.here hx rfl (hb hby at_99) rfl ?_
                  show Steps p.tables e below (T102.setTop (mkF m 101 #[.val (.long q0_), .second, .val (.long q1_), .second, .val (.long q2_), .second, .val (.ref b1), .val (.long q2_), .second, .val (.long q1_), .second, .val (.int (1 : Int32)), .val (.int (0 : Int32)), .val (.int (0 : Int32)), .val (.int (0 : Int32)), .val (.int (1 : Int32))] [(.int (0 : Int32))])) _
                  refine XS.ifNo X102.here hx rfl (hb hby at_101) rfl ((if0 _ _).trans (teq (by decide : (0 : Int32) = (0 : Int32))).2) ?_
                  show Steps p.tables e below (T102.setTop (mkF m 104 #[.val (.long q0_), .second, .val (.long q1_), .second, .val (.long q2_), .second, .val (.ref b1), .val (.long q2_), .second, .val (.long q1_), .second, .val (.int (1 : Int32)), .val (.int (0 : Int32)), .val (.int (0 : Int32)), .val (.int (0 : Int32)), .val (.int (1 : Int32))] [])) _
                  refine XS.iload X102.here hx rfl (hb hby at_104) rfl ?_
                  show Steps p.tables e below (T102.setTop (mkF m 106 #[.val (.long q0_), .second, .val (.long q1_), .second, .val (.long q2_), .second, .val (.ref b1), .val (.long q2_), .second, .val (.long q1_), .second, .val (.int (1 : Int32)), .val (.int (0 : Int32)), .val (.int (0 : Int32)), .val (.int (0 : Int32)), .val (.int (1 : Int32))] [(.int (1 : Int32))])) _
                  refine XS.ifNo X102.here hx rfl (hb hby at_106) rfl ((if0 _ _).trans (feq (by decide : ¬ ((1 : Int32) = (0 : Int32)))).1) ?_
                  show Steps p.tables e below (T102.setTop (mkF m 109 #[.val (.long q0_), .second, .val (.long q1_), .second, .val (.long q2_), .second, .val (.ref b1), .val (.long q2_), .second, .val (.long q1_), .second, .val (.int (1 : Int32)), .val (.int (0 : Int32)), .val (.int (0 : Int32)), .val (.int (0 : Int32)), .val (.int (1 : Int32))] [])) _
                  refine XS.iconst X102.here hx rfl (hb hby at_109) ?_
                  show Steps p.tables e below (T102.setTop (mkF m 110 #[.val (.long q0_), .second, .val (.long q1_), .second, .val (.long q2_), .second, .val (.ref b1), .val (.long q2_), .second, .val (.long q1_), .second, .val (.int (1 : Int32)), .val (.int (0 : Int32)), .val (.int (0 : Int32)), .val (.int (0 : Int32)), .val (.int (1 : Int32))] [(.int (1 : Int32))])) _
                  refine XS.goto X102.here hx rfl (pc0 := 110) (pc' := 114) rfl (hb hby at_110) (by decide) (by decide) ?_
                  exact kt
                obtain ⟨fs, hr, hrun, hended, hW, hsame⟩ := X102.leave (v := some (.int (1 : Int32))) (fun h => by rw [Bd.returns] at h; cases h)
                refine ⟨_, _, pre106 _ (retN X102 hx (t := .boolean) Bd.returns (by simp) (hb hby at_114) hr), hrun, hended, _, _, rfl, ?_, ⟨_, rfl⟩, hW, hsame.mono (by decide) (by decide)⟩
                show QLaw Z q0_ q1_ q2_ h0 n0 _ T102.heap _
                rw [e102']
                exact ⟨rfl, N103⟩
      · exact absurd hq76_1_0 (by first | exact Int32.lt_irrefl | exact Int64.lt_irrefl)
    · obtain ⟨cq108, kq108, q108a, q108b, q108c⟩ := isOf hZ e74' g8_0
      obtain ⟨_, _, ⟨T108, L108, k108, n108⟩, -, X108, ⟨Lc108, hQ108, l108, y108, z108⟩, st108⟩ := X74.virtualBack hx (y := (⟨"com/example/fawley/fawley/store/StoredValue", "hasExpiredAt", "(J)Z"⟩ : MethodName)) (z := (⟨"com/example/fawley/fawley/store/StoredValue", "hasExpiredAt", "(J)Z"⟩ : MethodName)) hown (mvT hZ (hw _ (List.mem_of_getElem? (i := 24) rfl))) (mvT hZ (hw _ (List.mem_of_getElem? (i := 25) rfl))) (notFace_of_selects (args := #[]) (mvT hZ (hw _ (List.mem_of_getElem? (i := 27) rfl)))) (mvT hZ (hw _ (List.mem_of_getElem? (i := 27) rfl))) (mvT hZ (hw _ (List.mem_of_getElem? (i := 26) rfl))) (by decide) (backOf (W := 0) (rmHas l Z a0 hw [] b1 q0_ q0_ h8 n0 f12 g8_4) hZ (hw _ (List.mem_of_getElem? (i := 28) rfl)) (hw _ (List.mem_of_getElem? (i := 2) rfl)) (by decide) (by decide)) q108a q108c (g := (mkF m 32 #[.val (.long q0_), .second, .val (.long q1_), .second, .val (.long q2_), .second, .val (.ref b1), .val (.long q2_), .second, .val (.long q2_), .second, .unset, .unset, .unset, .unset, .unset] [(.long q0_), (.ref b1)])) rfl (by rw [hml]; rfl) (Steps.refl _) (argsL := [(.long q0_)]) (rest := []) (lenOf pd_2 rfl) rfl (by show 2 * 0 + _ ≤ _; exact Nat.le_of_eq rfl) (hb hby at_32) (fun _ _ => ⟨rfl, e74', (by decide : 1 + 0 ≤ _), (by decide : 4 + 0 ≤ _)⟩)
      dsimp only [Pt.U, Pt.locs, Pt.cells, Pt.slots] at X108 l108 y108 z108 st108 hQ108
      subst l108 y108 z108
      obtain ⟨h108, e108⟩ : ∃ z, T108.heap = z := ⟨_, rfl⟩
      rw [e108] at hQ108
      obtain ⟨rr108, rfl, hs108, N108q, hh108⟩ := hQ108
      have N109 := Fr.app N75 N108q
      have e108' : T108.heap = h8 := e108.trans hh108
      rcases hs108 with ⟨rfl, hq108_0_0⟩ | ⟨rfl, hq108_1_0⟩
      · have pre110 : ∀ t, Steps p.tables e below (T108.setTop (mkF m 42 #[.val (.long q0_), .second, .val (.long q1_), .second, .val (.long q2_), .second, .val (.ref b1), .val (.long q2_), .second, .val (.long q2_), .second, .val (.int (1 : Int32)), .unset, .unset, .unset, .unset] [(.int (lcmpW q0_ (-9223372036854775808 : Int64)))])) t → Steps p.tables e below (s₁.setTop (entryFrame m #[(.long q0_), (.long q1_), (.long q2_)] maxLocals)) t := by
          intro t kt
          refine pre0 t ?_
          show Steps p.tables e below (s₁.setTop (mkF m 0 #[.val (.long q0_), .second, .val (.long q1_), .second, .val (.long q2_), .second, .unset, .unset, .unset, .unset, .unset, .unset, .unset, .unset, .unset, .unset] [])) _
          refine st1 _ ?_
          show Steps p.tables e below (T1.setTop (mkF m 3 #[.val (.long q0_), .second, .val (.long q1_), .second, .val (.long q2_), .second, .unset, .unset, .unset, .unset, .unset, .unset, .unset, .unset, .unset, .unset] [(.ref b1)])) _
          refine XS.dup X1.here hx rfl (hb hby at_3) rfl rfl ?_
          show Steps p.tables e below (T1.setTop (mkF m 4 #[.val (.long q0_), .second, .val (.long q1_), .second, .val (.long q2_), .second, .unset, .unset, .unset, .unset, .unset, .unset, .unset, .unset, .unset, .unset] [(.ref b1), (.ref b1)])) _
          refine XS.aconstNull X1.here hx rfl (hb hby at_4) ?_
          show Steps p.tables e below (T1.setTop (mkF m 5 #[.val (.long q0_), .second, .val (.long q1_), .second, .val (.long q2_), .second, .unset, .unset, .unset, .unset, .unset, .unset, .unset, .unset, .unset, .unset] [.null, (.ref b1), (.ref b1)])) _
          refine XS.aconstNull X1.here hx rfl (hb hby at_5) ?_
          show Steps p.tables e below (T1.setTop (mkF m 6 #[.val (.long q0_), .second, .val (.long q1_), .second, .val (.long q2_), .second, .unset, .unset, .unset, .unset, .unset, .unset, .unset, .unset, .unset, .unset] [.null, .null, (.ref b1), (.ref b1)])) _
          refine XS.aconstNull X1.here hx rfl (hb hby at_6) ?_
          show Steps p.tables e below (T1.setTop (mkF m 7 #[.val (.long q0_), .second, .val (.long q1_), .second, .val (.long q2_), .second, .unset, .unset, .unset, .unset, .unset, .unset, .unset, .unset, .unset, .unset] [.null, .null, .null, (.ref b1), (.ref b1)])) _
          refine XS.lloadN X1.here hx rfl (hb hby at_7) rfl ?_
          show Steps p.tables e below (T1.setTop (mkF m 8 #[.val (.long q0_), .second, .val (.long q1_), .second, .val (.long q2_), .second, .unset, .unset, .unset, .unset, .unset, .unset, .unset, .unset, .unset, .unset] [(.long q0_), .null, .null, .null, (.ref b1), (.ref b1)])) _
          refine st8.trans ?_
          show Steps p.tables e below (T8.setTop (mkF m 11 #[.val (.long q0_), .second, .val (.long q1_), .second, .val (.long q2_), .second, .unset, .unset, .unset, .unset, .unset, .unset, .unset, .unset, .unset, .unset] [(.ref b1)])) _
          refine XS.astore X8.here hx rfl (hb hby at_11) rfl rfl (l' := #[.val (.long q0_), .second, .val (.long q1_), .second, .val (.long q2_), .second, .val (.ref b1), .unset, .unset, .unset, .unset, .unset, .unset, .unset, .unset, .unset]) rfl ?_
          show Steps p.tables e below (T8.setTop (mkF m 13 #[.val (.long q0_), .second, .val (.long q1_), .second, .val (.long q2_), .second, .val (.ref b1), .unset, .unset, .unset, .unset, .unset, .unset, .unset, .unset, .unset] [])) _
          refine XS.lloadN X8.here hx rfl (hb hby at_13) rfl ?_
          show Steps p.tables e below (T8.setTop (mkF m 14 #[.val (.long q0_), .second, .val (.long q1_), .second, .val (.long q2_), .second, .val (.ref b1), .unset, .unset, .unset, .unset, .unset, .unset, .unset, .unset, .unset] [(.long q1_)])) _
          refine XS.lload X8.here hx rfl (hb hby at_14) rfl ?_
          show Steps p.tables e below (T8.setTop (mkF m 16 #[.val (.long q0_), .second, .val (.long q1_), .second, .val (.long q2_), .second, .val (.ref b1), .unset, .unset, .unset, .unset, .unset, .unset, .unset, .unset, .unset] [(.long q2_), (.long q1_)])) _
          refine st11 _ ?_
          show Steps p.tables e below (T11.setTop (mkF m 19 #[.val (.long q0_), .second, .val (.long q1_), .second, .val (.long q2_), .second, .val (.ref b1), .unset, .unset, .unset, .unset, .unset, .unset, .unset, .unset, .unset] [(.long q2_)])) _
          refine XS.lstore X11.here hx rfl (hb hby at_19) rfl (l' := #[.val (.long q0_), .second, .val (.long q1_), .second, .val (.long q2_), .second, .val (.ref b1), .val (.long q2_), .second, .unset, .unset, .unset, .unset, .unset, .unset, .unset]) rfl ?_
          show Steps p.tables e below (T11.setTop (mkF m 21 #[.val (.long q0_), .second, .val (.long q1_), .second, .val (.long q2_), .second, .val (.ref b1), .val (.long q2_), .second, .unset, .unset, .unset, .unset, .unset, .unset, .unset] [])) _
          refine XS.lloadN X11.here hx rfl (hb hby at_21) rfl ?_
          show Steps p.tables e below (T11.setTop (mkF m 22 #[.val (.long q0_), .second, .val (.long q1_), .second, .val (.long q2_), .second, .val (.ref b1), .val (.long q2_), .second, .unset, .unset, .unset, .unset, .unset, .unset, .unset] [(.long q1_)])) _
          refine XS.lload X11.here hx rfl (hb hby at_22) rfl ?_
          show Steps p.tables e below (T11.setTop (mkF m 24 #[.val (.long q0_), .second, .val (.long q1_), .second, .val (.long q2_), .second, .val (.ref b1), .val (.long q2_), .second, .unset, .unset, .unset, .unset, .unset, .unset, .unset] [(.long q2_), (.long q1_)])) _
          refine st74 _ ?_
          show Steps p.tables e below (T74.setTop (mkF m 27 #[.val (.long q0_), .second, .val (.long q1_), .second, .val (.long q2_), .second, .val (.ref b1), .val (.long q2_), .second, .unset, .unset, .unset, .unset, .unset, .unset, .unset] [(.long q2_)])) _
          refine XS.lstore X74.here hx rfl (hb hby at_27) rfl (l' := #[.val (.long q0_), .second, .val (.long q1_), .second, .val (.long q2_), .second, .val (.ref b1), .val (.long q2_), .second, .val (.long q2_), .second, .unset, .unset, .unset, .unset, .unset]) rfl ?_
          show Steps p.tables e below (T74.setTop (mkF m 29 #[.val (.long q0_), .second, .val (.long q1_), .second, .val (.long q2_), .second, .val (.ref b1), .val (.long q2_), .second, .val (.long q2_), .second, .unset, .unset, .unset, .unset, .unset] [])) _
          refine XS.aload X74.here hx rfl (hb hby at_29) rfl rfl ?_
          show Steps p.tables e below (T74.setTop (mkF m 31 #[.val (.long q0_), .second, .val (.long q1_), .second, .val (.long q2_), .second, .val (.ref b1), .val (.long q2_), .second, .val (.long q2_), .second, .unset, .unset, .unset, .unset, .unset] [(.ref b1)])) _
          refine XS.lloadN X74.here hx rfl (hb hby at_31) rfl ?_
          show Steps p.tables e below (T74.setTop (mkF m 32 #[.val (.long q0_), .second, .val (.long q1_), .second, .val (.long q2_), .second, .val (.ref b1), .val (.long q2_), .second, .val (.long q2_), .second, .unset, .unset, .unset, .unset, .unset] [(.long q0_), (.ref b1)])) _
          refine st108.trans ?_
          show Steps p.tables e below (T108.setTop (mkF m 35 #[.val (.long q0_), .second, .val (.long q1_), .second, .val (.long q2_), .second, .val (.ref b1), .val (.long q2_), .second, .val (.long q2_), .second, .unset, .unset, .unset, .unset, .unset] [(.int (1 : Int32))])) _
          refine XS.istore X108.here hx rfl (hb hby at_35) rfl (l' := #[.val (.long q0_), .second, .val (.long q1_), .second, .val (.long q2_), .second, .val (.ref b1), .val (.long q2_), .second, .val (.long q2_), .second, .val (.int (1 : Int32)), .unset, .unset, .unset, .unset]) rfl ?_
          show Steps p.tables e below (T108.setTop (mkF m 37 #[.val (.long q0_), .second, .val (.long q1_), .second, .val (.long q2_), .second, .val (.ref b1), .val (.long q2_), .second, .val (.long q2_), .second, .val (.int (1 : Int32)), .unset, .unset, .unset, .unset] [])) _
          refine XS.lloadN X108.here hx rfl (hb hby at_37) rfl ?_
          show Steps p.tables e below (T108.setTop (mkF m 38 #[.val (.long q0_), .second, .val (.long q1_), .second, .val (.long q2_), .second, .val (.ref b1), .val (.long q2_), .second, .val (.long q2_), .second, .val (.int (1 : Int32)), .unset, .unset, .unset, .unset] [(.long q0_)])) _
          refine X108.ldc2Long hx hown (mvT hZ (hw _ (List.mem_of_getElem? (i := 29) rfl))) (g := (mkF m 38 #[.val (.long q0_), .second, .val (.long q1_), .second, .val (.long q2_), .second, .val (.ref b1), .val (.long q2_), .second, .val (.long q2_), .second, .val (.int (1 : Int32)), .unset, .unset, .unset, .unset] [(.long q0_)])) rfl (hb hby at_38) _ ?_
          show Steps p.tables e below (T108.setTop (mkF m 41 #[.val (.long q0_), .second, .val (.long q1_), .second, .val (.long q2_), .second, .val (.ref b1), .val (.long q2_), .second, .val (.long q2_), .second, .val (.int (1 : Int32)), .unset, .unset, .unset, .unset] [(.long (-9223372036854775808 : Int64)), (.long q0_)])) _
          refine XS.lcmp X108.here hx rfl (hb hby at_41) rfl ?_
          exact kt
        by_cases hc111 : q0_ = (-9223372036854775808 : Int64)
        · obtain ⟨cq112, kq112, q112a, q112b, q112c⟩ := isOf hZ e108' g8_0
          obtain ⟨_, _, ⟨T112, L112, k112, n112⟩, -, X112, ⟨Lc112, hQ112, l112, y112, z112⟩, st112⟩ := X108.virtualBack hx (y := (⟨"com/example/fawley/fawley/store/StoredValue", "hasExpiredAt", "(J)Z"⟩ : MethodName)) (z := (⟨"com/example/fawley/fawley/store/StoredValue", "hasExpiredAt", "(J)Z"⟩ : MethodName)) hown (mvT hZ (hw _ (List.mem_of_getElem? (i := 24) rfl))) (mvT hZ (hw _ (List.mem_of_getElem? (i := 25) rfl))) (notFace_of_selects (args := #[]) (mvT hZ (hw _ (List.mem_of_getElem? (i := 27) rfl)))) (mvT hZ (hw _ (List.mem_of_getElem? (i := 27) rfl))) (mvT hZ (hw _ (List.mem_of_getElem? (i := 26) rfl))) (by decide) (backOf (W := 0) (rmHas l Z a0 hw [] b1 q2_ q0_ h8 n0 f12 g8_4) hZ (hw _ (List.mem_of_getElem? (i := 28) rfl)) (hw _ (List.mem_of_getElem? (i := 2) rfl)) (by decide) (by decide)) q112a q112c (g := (mkF m 63 #[.val (.long q0_), .second, .val (.long q1_), .second, .val (.long q2_), .second, .val (.ref b1), .val (.long q2_), .second, .val (.long q2_), .second, .val (.int (1 : Int32)), .val (.int (0 : Int32)), .unset, .unset, .unset] [(.long q2_), (.ref b1)])) rfl (by rw [hml]; rfl) (Steps.refl _) (argsL := [(.long q2_)]) (rest := []) (lenOf pd_2 rfl) rfl (by show 2 * 0 + _ ≤ _; exact Nat.le_of_eq rfl) (hb hby at_63) (fun _ _ => ⟨rfl, e108', (by decide : 1 + 0 ≤ _), (by decide : 4 + 0 ≤ _)⟩)
          dsimp only [Pt.U, Pt.locs, Pt.cells, Pt.slots] at X112 l112 y112 z112 st112 hQ112
          subst l112 y112 z112
          obtain ⟨h112, e112⟩ : ∃ z, T112.heap = z := ⟨_, rfl⟩
          rw [e112] at hQ112
          obtain ⟨rr112, rfl, hs112, N112q, hh112⟩ := hQ112
          have N113 := Fr.app N109 N112q
          have e112' : T112.heap = h8 := e112.trans hh112
          rcases hs112 with ⟨rfl, hq112_0_0⟩ | ⟨rfl, hq112_1_0⟩
          · obtain ⟨cq114, kq114, q114a, q114b, q114c⟩ := isOf hZ e112' g8_0
            obtain ⟨_, _, ⟨T114, L114, k114, n114⟩, -, X114, ⟨Lc114, hQ114, l114, y114, z114⟩, st114⟩ := X112.virtualBack hx (y := (⟨"com/example/fawley/fawley/store/StoredValue", "hasExpiredAt", "(J)Z"⟩ : MethodName)) (z := (⟨"com/example/fawley/fawley/store/StoredValue", "hasExpiredAt", "(J)Z"⟩ : MethodName)) hown (mvT hZ (hw _ (List.mem_of_getElem? (i := 24) rfl))) (mvT hZ (hw _ (List.mem_of_getElem? (i := 25) rfl))) (notFace_of_selects (args := #[]) (mvT hZ (hw _ (List.mem_of_getElem? (i := 27) rfl)))) (mvT hZ (hw _ (List.mem_of_getElem? (i := 27) rfl))) (mvT hZ (hw _ (List.mem_of_getElem? (i := 26) rfl))) (by decide) (backOf (W := 0) (rmHas l Z a0 hw [] b1 q2_ q0_ h8 n0 f12 g8_4) hZ (hw _ (List.mem_of_getElem? (i := 28) rfl)) (hw _ (List.mem_of_getElem? (i := 2) rfl)) (by decide) (by decide)) q114a q114c (g := (mkF m 72 #[.val (.long q0_), .second, .val (.long q1_), .second, .val (.long q2_), .second, .val (.ref b1), .val (.long q2_), .second, .val (.long q2_), .second, .val (.int (1 : Int32)), .val (.int (0 : Int32)), .val (.int (1 : Int32)), .unset, .unset] [(.long q2_), (.ref b1)])) rfl (by rw [hml]; rfl) (Steps.refl _) (argsL := [(.long q2_)]) (rest := []) (lenOf pd_2 rfl) rfl (by show 2 * 0 + _ ≤ _; exact Nat.le_of_eq rfl) (hb hby at_72) (fun _ _ => ⟨rfl, e112', (by decide : 1 + 0 ≤ _), (by decide : 4 + 0 ≤ _)⟩)
            dsimp only [Pt.U, Pt.locs, Pt.cells, Pt.slots] at X114 l114 y114 z114 st114 hQ114
            subst l114 y114 z114
            obtain ⟨h114, e114⟩ : ∃ z, T114.heap = z := ⟨_, rfl⟩
            rw [e114] at hQ114
            obtain ⟨rr114, rfl, hs114, N114q, hh114⟩ := hQ114
            have N115 := Fr.app N113 N114q
            have e114' : T114.heap = h8 := e114.trans hh114
            rcases hs114 with ⟨rfl, hq114_0_0⟩ | ⟨rfl, hq114_1_0⟩
            · have pre116 : ∀ t, Steps p.tables e below (T114.setTop (mkF m 114 #[.val (.long q0_), .second, .val (.long q1_), .second, .val (.long q2_), .second, .val (.ref b1), .val (.long q2_), .second, .val (.long q2_), .second, .val (.int (1 : Int32)), .val (.int (0 : Int32)), .val (.int (1 : Int32)), .val (.int (1 : Int32)), .val (.int (1 : Int32))] [(.int (1 : Int32))])) t → Steps p.tables e below (s₁.setTop (entryFrame m #[(.long q0_), (.long q1_), (.long q2_)] maxLocals)) t := by
                intro t kt
                refine pre110 t ?_
                show Steps p.tables e below (T108.setTop (mkF m 42 #[.val (.long q0_), .second, .val (.long q1_), .second, .val (.long q2_), .second, .val (.ref b1), .val (.long q2_), .second, .val (.long q2_), .second, .val (.int (1 : Int32)), .unset, .unset, .unset, .unset] [(.int (lcmpW q0_ (-9223372036854775808 : Int64)))])) _
                refine XS.ifNo X108.here hx rfl (hb hby at_42) rfl ((if0 _ _).trans (teq ((lw_eq _ _).mpr hc111)).2) ?_
                show Steps p.tables e below (T108.setTop (mkF m 45 #[.val (.long q0_), .second, .val (.long q1_), .second, .val (.long q2_), .second, .val (.ref b1), .val (.long q2_), .second, .val (.long q2_), .second, .val (.int (1 : Int32)), .unset, .unset, .unset, .unset] [])) _
                refine XS.iconst X108.here hx rfl (hb hby at_45) ?_
                show Steps p.tables e below (T108.setTop (mkF m 46 #[.val (.long q0_), .second, .val (.long q1_), .second, .val (.long q2_), .second, .val (.ref b1), .val (.long q2_), .second, .val (.long q2_), .second, .val (.int (1 : Int32)), .unset, .unset, .unset, .unset] [(.int (0 : Int32))])) _
                refine XS.goto X108.here hx rfl (pc0 := 46) (pc' := 57) rfl (hb hby at_46) (by decide) (by decide) ?_
                show Steps p.tables e below (T108.setTop (mkF m 57 #[.val (.long q0_), .second, .val (.long q1_), .second, .val (.long q2_), .second, .val (.ref b1), .val (.long q2_), .second, .val (.long q2_), .second, .val (.int (1 : Int32)), .unset, .unset, .unset, .unset] [(.int (0 : Int32))])) _
                refine XS.istore X108.here hx rfl (hb hby at_57) rfl (l' := #[.val (.long q0_), .second, .val (.long q1_), .second, .val (.long q2_), .second, .val (.ref b1), .val (.long q2_), .second, .val (.long q2_), .second, .val (.int (1 : Int32)), .val (.int (0 : Int32)), .unset, .unset, .unset]) rfl ?_
                show Steps p.tables e below (T108.setTop (mkF m 59 #[.val (.long q0_), .second, .val (.long q1_), .second, .val (.long q2_), .second, .val (.ref b1), .val (.long q2_), .second, .val (.long q2_), .second, .val (.int (1 : Int32)), .val (.int (0 : Int32)), .unset, .unset, .unset] [])) _
                refine XS.aload X108.here hx rfl (hb hby at_59) rfl rfl ?_
                show Steps p.tables e below (T108.setTop (mkF m 61 #[.val (.long q0_), .second, .val (.long q1_), .second, .val (.long q2_), .second, .val (.ref b1), .val (.long q2_), .second, .val (.long q2_), .second, .val (.int (1 : Int32)), .val (.int (0 : Int32)), .unset, .unset, .unset] [(.ref b1)])) _
                refine XS.lload X108.here hx rfl (hb hby at_61) rfl ?_
                show Steps p.tables e below (T108.setTop (mkF m 63 #[.val (.long q0_), .second, .val (.long q1_), .second, .val (.long q2_), .second, .val (.ref b1), .val (.long q2_), .second, .val (.long q2_), .second, .val (.int (1 : Int32)), .val (.int (0 : Int32)), .unset, .unset, .unset] [(.long q2_), (.ref b1)])) _
                refine st112.trans ?_
                show Steps p.tables e below (T112.setTop (mkF m 66 #[.val (.long q0_), .second, .val (.long q1_), .second, .val (.long q2_), .second, .val (.ref b1), .val (.long q2_), .second, .val (.long q2_), .second, .val (.int (1 : Int32)), .val (.int (0 : Int32)), .unset, .unset, .unset] [(.int (1 : Int32))])) _
                refine XS.istore X112.here hx rfl (hb hby at_66) rfl (l' := #[.val (.long q0_), .second, .val (.long q1_), .second, .val (.long q2_), .second, .val (.ref b1), .val (.long q2_), .second, .val (.long q2_), .second, .val (.int (1 : Int32)), .val (.int (0 : Int32)), .val (.int (1 : Int32)), .unset, .unset]) rfl ?_
                show Steps p.tables e below (T112.setTop (mkF m 68 #[.val (.long q0_), .second, .val (.long q1_), .second, .val (.long q2_), .second, .val (.ref b1), .val (.long q2_), .second, .val (.long q2_), .second, .val (.int (1 : Int32)), .val (.int (0 : Int32)), .val (.int (1 : Int32)), .unset, .unset] [])) _
                refine XS.aload X112.here hx rfl (hb hby at_68) rfl rfl ?_
                show Steps p.tables e below (T112.setTop (mkF m 70 #[.val (.long q0_), .second, .val (.long q1_), .second, .val (.long q2_), .second, .val (.ref b1), .val (.long q2_), .second, .val (.long q2_), .second, .val (.int (1 : Int32)), .val (.int (0 : Int32)), .val (.int (1 : Int32)), .unset, .unset] [(.ref b1)])) _
                refine XS.lload X112.here hx rfl (hb hby at_70) rfl ?_
                show Steps p.tables e below (T112.setTop (mkF m 72 #[.val (.long q0_), .second, .val (.long q1_), .second, .val (.long q2_), .second, .val (.ref b1), .val (.long q2_), .second, .val (.long q2_), .second, .val (.int (1 : Int32)), .val (.int (0 : Int32)), .val (.int (1 : Int32)), .unset, .unset] [(.long q2_), (.ref b1)])) _
                refine st114.trans ?_
                show Steps p.tables e below (T114.setTop (mkF m 75 #[.val (.long q0_), .second, .val (.long q1_), .second, .val (.long q2_), .second, .val (.ref b1), .val (.long q2_), .second, .val (.long q2_), .second, .val (.int (1 : Int32)), .val (.int (0 : Int32)), .val (.int (1 : Int32)), .unset, .unset] [(.int (1 : Int32))])) _
                refine XS.istore X114.here hx rfl (hb hby at_75) rfl (l' := #[.val (.long q0_), .second, .val (.long q1_), .second, .val (.long q2_), .second, .val (.ref b1), .val (.long q2_), .second, .val (.long q2_), .second, .val (.int (1 : Int32)), .val (.int (0 : Int32)), .val (.int (1 : Int32)), .val (.int (1 : Int32)), .unset]) rfl ?_
                show Steps p.tables e below (T114.setTop (mkF m 77 #[.val (.long q0_), .second, .val (.long q1_), .second, .val (.long q2_), .second, .val (.ref b1), .val (.long q2_), .second, .val (.long q2_), .second, .val (.int (1 : Int32)), .val (.int (0 : Int32)), .val (.int (1 : Int32)), .val (.int (1 : Int32)), .unset] [])) _
                refine XS.iload X114.here hx rfl (hb hby at_77) rfl ?_
                show Steps p.tables e below (T114.setTop (mkF m 79 #[.val (.long q0_), .second, .val (.long q1_), .second, .val (.long q2_), .second, .val (.ref b1), .val (.long q2_), .second, .val (.long q2_), .second, .val (.int (1 : Int32)), .val (.int (0 : Int32)), .val (.int (1 : Int32)), .val (.int (1 : Int32)), .unset] [(.int (1 : Int32))])) _
                refine XS.ifNo X114.here hx rfl (hb hby at_79) rfl ((if0 _ _).trans (feq (by decide : ¬ ((1 : Int32) = (0 : Int32)))).1) ?_
                show Steps p.tables e below (T114.setTop (mkF m 82 #[.val (.long q0_), .second, .val (.long q1_), .second, .val (.long q2_), .second, .val (.ref b1), .val (.long q2_), .second, .val (.long q2_), .second, .val (.int (1 : Int32)), .val (.int (0 : Int32)), .val (.int (1 : Int32)), .val (.int (1 : Int32)), .unset] [])) _
                refine XS.iload X114.here hx rfl (hb hby at_82) rfl ?_
                show Steps p.tables e below (T114.setTop (mkF m 84 #[.val (.long q0_), .second, .val (.long q1_), .second, .val (.long q2_), .second, .val (.ref b1), .val (.long q2_), .second, .val (.long q2_), .second, .val (.int (1 : Int32)), .val (.int (0 : Int32)), .val (.int (1 : Int32)), .val (.int (1 : Int32)), .unset] [(.int (1 : Int32))])) _
                refine XS.ifNo X114.here hx rfl (hb hby at_84) rfl ((if0 _ _).trans (feq (by decide : ¬ ((1 : Int32) = (0 : Int32)))).1) ?_
                show Steps p.tables e below (T114.setTop (mkF m 87 #[.val (.long q0_), .second, .val (.long q1_), .second, .val (.long q2_), .second, .val (.ref b1), .val (.long q2_), .second, .val (.long q2_), .second, .val (.int (1 : Int32)), .val (.int (0 : Int32)), .val (.int (1 : Int32)), .val (.int (1 : Int32)), .unset] [])) _
                refine XS.iconst X114.here hx rfl (hb hby at_87) ?_
                show Steps p.tables e below (T114.setTop (mkF m 88 #[.val (.long q0_), .second, .val (.long q1_), .second, .val (.long q2_), .second, .val (.ref b1), .val (.long q2_), .second, .val (.long q2_), .second, .val (.int (1 : Int32)), .val (.int (0 : Int32)), .val (.int (1 : Int32)), .val (.int (1 : Int32)), .unset] [(.int (1 : Int32))])) _
                refine XS.goto X114.here hx rfl (pc0 := 88) (pc' := 92) rfl (hb hby at_88) (by decide) (by decide) ?_
                show Steps p.tables e below (T114.setTop (mkF m 92 #[.val (.long q0_), .second, .val (.long q1_), .second, .val (.long q2_), .second, .val (.ref b1), .val (.long q2_), .second, .val (.long q2_), .second, .val (.int (1 : Int32)), .val (.int (0 : Int32)), .val (.int (1 : Int32)), .val (.int (1 : Int32)), .unset] [(.int (1 : Int32))])) _
                refine XS.istore X114.here hx rfl (hb hby at_92) rfl (l' := #[.val (.long q0_), .second, .val (.long q1_), .second, .val (.long q2_), .second, .val (.ref b1), .val (.long q2_), .second, .val (.long q2_), .second, .val (.int (1 : Int32)), .val (.int (0 : Int32)), .val (.int (1 : Int32)), .val (.int (1 : Int32)), .val (.int (1 : Int32))]) rfl ?_
                show Steps p.tables e below (T114.setTop (mkF m 94 #[.val (.long q0_), .second, .val (.long q1_), .second, .val (.long q2_), .second, .val (.ref b1), .val (.long q2_), .second, .val (.long q2_), .second, .val (.int (1 : Int32)), .val (.int (0 : Int32)), .val (.int (1 : Int32)), .val (.int (1 : Int32)), .val (.int (1 : Int32))] [])) _
                refine XS.iload X114.here hx rfl (hb hby at_94) rfl ?_
                show Steps p.tables e below (T114.setTop (mkF m 96 #[.val (.long q0_), .second, .val (.long q1_), .second, .val (.long q2_), .second, .val (.ref b1), .val (.long q2_), .second, .val (.long q2_), .second, .val (.int (1 : Int32)), .val (.int (0 : Int32)), .val (.int (1 : Int32)), .val (.int (1 : Int32)), .val (.int (1 : Int32))] [(.int (1 : Int32))])) _
                refine XS.ifNo X114.here hx rfl (hb hby at_96) rfl ((if0 _ _).trans (feq (by decide : ¬ ((1 : Int32) = (0 : Int32)))).1) ?_
                show Steps p.tables e below (T114.setTop (mkF m 99 #[.val (.long q0_), .second, .val (.long q1_), .second, .val (.long q2_), .second, .val (.ref b1), .val (.long q2_), .second, .val (.long q2_), .second, .val (.int (1 : Int32)), .val (.int (0 : Int32)), .val (.int (1 : Int32)), .val (.int (1 : Int32)), .val (.int (1 : Int32))] [])) _
                refine XS.iload X114.here hx rfl (hb hby at_99) rfl ?_
                show Steps p.tables e below (T114.setTop (mkF m 101 #[.val (.long q0_), .second, .val (.long q1_), .second, .val (.long q2_), .second, .val (.ref b1), .val (.long q2_), .second, .val (.long q2_), .second, .val (.int (1 : Int32)), .val (.int (0 : Int32)), .val (.int (1 : Int32)), .val (.int (1 : Int32)), .val (.int (1 : Int32))] [(.int (0 : Int32))])) _
                refine XS.ifNo X114.here hx rfl (hb hby at_101) rfl ((if0 _ _).trans (teq (by decide : (0 : Int32) = (0 : Int32))).2) ?_
                show Steps p.tables e below (T114.setTop (mkF m 104 #[.val (.long q0_), .second, .val (.long q1_), .second, .val (.long q2_), .second, .val (.ref b1), .val (.long q2_), .second, .val (.long q2_), .second, .val (.int (1 : Int32)), .val (.int (0 : Int32)), .val (.int (1 : Int32)), .val (.int (1 : Int32)), .val (.int (1 : Int32))] [])) _
                refine XS.iload X114.here hx rfl (hb hby at_104) rfl ?_
                show Steps p.tables e below (T114.setTop (mkF m 106 #[.val (.long q0_), .second, .val (.long q1_), .second, .val (.long q2_), .second, .val (.ref b1), .val (.long q2_), .second, .val (.long q2_), .second, .val (.int (1 : Int32)), .val (.int (0 : Int32)), .val (.int (1 : Int32)), .val (.int (1 : Int32)), .val (.int (1 : Int32))] [(.int (1 : Int32))])) _
                refine XS.ifNo X114.here hx rfl (hb hby at_106) rfl ((if0 _ _).trans (feq (by decide : ¬ ((1 : Int32) = (0 : Int32)))).1) ?_
                show Steps p.tables e below (T114.setTop (mkF m 109 #[.val (.long q0_), .second, .val (.long q1_), .second, .val (.long q2_), .second, .val (.ref b1), .val (.long q2_), .second, .val (.long q2_), .second, .val (.int (1 : Int32)), .val (.int (0 : Int32)), .val (.int (1 : Int32)), .val (.int (1 : Int32)), .val (.int (1 : Int32))] [])) _
                refine XS.iconst X114.here hx rfl (hb hby at_109) ?_
                show Steps p.tables e below (T114.setTop (mkF m 110 #[.val (.long q0_), .second, .val (.long q1_), .second, .val (.long q2_), .second, .val (.ref b1), .val (.long q2_), .second, .val (.long q2_), .second, .val (.int (1 : Int32)), .val (.int (0 : Int32)), .val (.int (1 : Int32)), .val (.int (1 : Int32)), .val (.int (1 : Int32))] [(.int (1 : Int32))])) _
                refine XS.goto X114.here hx rfl (pc0 := 110) (pc' := 114) rfl (hb hby at_110) (by decide) (by decide) ?_
                exact kt
              obtain ⟨fs, hr, hrun, hended, hW, hsame⟩ := X114.leave (v := some (.int (1 : Int32))) (fun h => by rw [Bd.returns] at h; cases h)
              refine ⟨_, _, pre116 _ (retN X114 hx (t := .boolean) Bd.returns (by simp) (hb hby at_114) hr), hrun, hended, _, _, rfl, ?_, ⟨_, rfl⟩, hW, hsame.mono (by decide) (by decide)⟩
              show QLaw Z q0_ q1_ q2_ h0 n0 _ T114.heap _
              rw [e114']
              exact ⟨rfl, N115⟩
            · exact absurd hq114_1_0 hq112_0_0
          · obtain ⟨cq118, kq118, q118a, q118b, q118c⟩ := isOf hZ e112' g8_0
            obtain ⟨_, _, ⟨T118, L118, k118, n118⟩, -, X118, ⟨Lc118, hQ118, l118, y118, z118⟩, st118⟩ := X112.virtualBack hx (y := (⟨"com/example/fawley/fawley/store/StoredValue", "hasExpiredAt", "(J)Z"⟩ : MethodName)) (z := (⟨"com/example/fawley/fawley/store/StoredValue", "hasExpiredAt", "(J)Z"⟩ : MethodName)) hown (mvT hZ (hw _ (List.mem_of_getElem? (i := 24) rfl))) (mvT hZ (hw _ (List.mem_of_getElem? (i := 25) rfl))) (notFace_of_selects (args := #[]) (mvT hZ (hw _ (List.mem_of_getElem? (i := 27) rfl)))) (mvT hZ (hw _ (List.mem_of_getElem? (i := 27) rfl))) (mvT hZ (hw _ (List.mem_of_getElem? (i := 26) rfl))) (by decide) (backOf (W := 0) (rmHas l Z a0 hw [] b1 q2_ q0_ h8 n0 f12 g8_4) hZ (hw _ (List.mem_of_getElem? (i := 28) rfl)) (hw _ (List.mem_of_getElem? (i := 2) rfl)) (by decide) (by decide)) q118a q118c (g := (mkF m 72 #[.val (.long q0_), .second, .val (.long q1_), .second, .val (.long q2_), .second, .val (.ref b1), .val (.long q2_), .second, .val (.long q2_), .second, .val (.int (1 : Int32)), .val (.int (0 : Int32)), .val (.int (0 : Int32)), .unset, .unset] [(.long q2_), (.ref b1)])) rfl (by rw [hml]; rfl) (Steps.refl _) (argsL := [(.long q2_)]) (rest := []) (lenOf pd_2 rfl) rfl (by show 2 * 0 + _ ≤ _; exact Nat.le_of_eq rfl) (hb hby at_72) (fun _ _ => ⟨rfl, e112', (by decide : 1 + 0 ≤ _), (by decide : 4 + 0 ≤ _)⟩)
            dsimp only [Pt.U, Pt.locs, Pt.cells, Pt.slots] at X118 l118 y118 z118 st118 hQ118
            subst l118 y118 z118
            obtain ⟨h118, e118⟩ : ∃ z, T118.heap = z := ⟨_, rfl⟩
            rw [e118] at hQ118
            obtain ⟨rr118, rfl, hs118, N118q, hh118⟩ := hQ118
            have N119 := Fr.app N113 N118q
            have e118' : T118.heap = h8 := e118.trans hh118
            rcases hs118 with ⟨rfl, hq118_0_0⟩ | ⟨rfl, hq118_1_0⟩
            · exact absurd hq112_1_0 hq118_0_0
            · have pre120 : ∀ t, Steps p.tables e below (T118.setTop (mkF m 114 #[.val (.long q0_), .second, .val (.long q1_), .second, .val (.long q2_), .second, .val (.ref b1), .val (.long q2_), .second, .val (.long q2_), .second, .val (.int (1 : Int32)), .val (.int (0 : Int32)), .val (.int (0 : Int32)), .val (.int (0 : Int32)), .val (.int (1 : Int32))] [(.int (1 : Int32))])) t → Steps p.tables e below (s₁.setTop (entryFrame m #[(.long q0_), (.long q1_), (.long q2_)] maxLocals)) t := by
                intro t kt
                refine pre110 t ?_
                show Steps p.tables e below (T108.setTop (mkF m 42 #[.val (.long q0_), .second, .val (.long q1_), .second, .val (.long q2_), .second, .val (.ref b1), .val (.long q2_), .second, .val (.long q2_), .second, .val (.int (1 : Int32)), .unset, .unset, .unset, .unset] [(.int (lcmpW q0_ (-9223372036854775808 : Int64)))])) _
                refine XS.ifNo X108.here hx rfl (hb hby at_42) rfl ((if0 _ _).trans (teq ((lw_eq _ _).mpr hc111)).2) ?_
                show Steps p.tables e below (T108.setTop (mkF m 45 #[.val (.long q0_), .second, .val (.long q1_), .second, .val (.long q2_), .second, .val (.ref b1), .val (.long q2_), .second, .val (.long q2_), .second, .val (.int (1 : Int32)), .unset, .unset, .unset, .unset] [])) _
                refine XS.iconst X108.here hx rfl (hb hby at_45) ?_
                show Steps p.tables e below (T108.setTop (mkF m 46 #[.val (.long q0_), .second, .val (.long q1_), .second, .val (.long q2_), .second, .val (.ref b1), .val (.long q2_), .second, .val (.long q2_), .second, .val (.int (1 : Int32)), .unset, .unset, .unset, .unset] [(.int (0 : Int32))])) _
                refine XS.goto X108.here hx rfl (pc0 := 46) (pc' := 57) rfl (hb hby at_46) (by decide) (by decide) ?_
                show Steps p.tables e below (T108.setTop (mkF m 57 #[.val (.long q0_), .second, .val (.long q1_), .second, .val (.long q2_), .second, .val (.ref b1), .val (.long q2_), .second, .val (.long q2_), .second, .val (.int (1 : Int32)), .unset, .unset, .unset, .unset] [(.int (0 : Int32))])) _
                refine XS.istore X108.here hx rfl (hb hby at_57) rfl (l' := #[.val (.long q0_), .second, .val (.long q1_), .second, .val (.long q2_), .second, .val (.ref b1), .val (.long q2_), .second, .val (.long q2_), .second, .val (.int (1 : Int32)), .val (.int (0 : Int32)), .unset, .unset, .unset]) rfl ?_
                show Steps p.tables e below (T108.setTop (mkF m 59 #[.val (.long q0_), .second, .val (.long q1_), .second, .val (.long q2_), .second, .val (.ref b1), .val (.long q2_), .second, .val (.long q2_), .second, .val (.int (1 : Int32)), .val (.int (0 : Int32)), .unset, .unset, .unset] [])) _
                refine XS.aload X108.here hx rfl (hb hby at_59) rfl rfl ?_
                show Steps p.tables e below (T108.setTop (mkF m 61 #[.val (.long q0_), .second, .val (.long q1_), .second, .val (.long q2_), .second, .val (.ref b1), .val (.long q2_), .second, .val (.long q2_), .second, .val (.int (1 : Int32)), .val (.int (0 : Int32)), .unset, .unset, .unset] [(.ref b1)])) _
                refine XS.lload X108.here hx rfl (hb hby at_61) rfl ?_
                show Steps p.tables e below (T108.setTop (mkF m 63 #[.val (.long q0_), .second, .val (.long q1_), .second, .val (.long q2_), .second, .val (.ref b1), .val (.long q2_), .second, .val (.long q2_), .second, .val (.int (1 : Int32)), .val (.int (0 : Int32)), .unset, .unset, .unset] [(.long q2_), (.ref b1)])) _
                refine st112.trans ?_
                show Steps p.tables e below (T112.setTop (mkF m 66 #[.val (.long q0_), .second, .val (.long q1_), .second, .val (.long q2_), .second, .val (.ref b1), .val (.long q2_), .second, .val (.long q2_), .second, .val (.int (1 : Int32)), .val (.int (0 : Int32)), .unset, .unset, .unset] [(.int (0 : Int32))])) _
                refine XS.istore X112.here hx rfl (hb hby at_66) rfl (l' := #[.val (.long q0_), .second, .val (.long q1_), .second, .val (.long q2_), .second, .val (.ref b1), .val (.long q2_), .second, .val (.long q2_), .second, .val (.int (1 : Int32)), .val (.int (0 : Int32)), .val (.int (0 : Int32)), .unset, .unset]) rfl ?_
                show Steps p.tables e below (T112.setTop (mkF m 68 #[.val (.long q0_), .second, .val (.long q1_), .second, .val (.long q2_), .second, .val (.ref b1), .val (.long q2_), .second, .val (.long q2_), .second, .val (.int (1 : Int32)), .val (.int (0 : Int32)), .val (.int (0 : Int32)), .unset, .unset] [])) _
                refine XS.aload X112.here hx rfl (hb hby at_68) rfl rfl ?_
                show Steps p.tables e below (T112.setTop (mkF m 70 #[.val (.long q0_), .second, .val (.long q1_), .second, .val (.long q2_), .second, .val (.ref b1), .val (.long q2_), .second, .val (.long q2_), .second, .val (.int (1 : Int32)), .val (.int (0 : Int32)), .val (.int (0 : Int32)), .unset, .unset] [(.ref b1)])) _
                refine XS.lload X112.here hx rfl (hb hby at_70) rfl ?_
                show Steps p.tables e below (T112.setTop (mkF m 72 #[.val (.long q0_), .second, .val (.long q1_), .second, .val (.long q2_), .second, .val (.ref b1), .val (.long q2_), .second, .val (.long q2_), .second, .val (.int (1 : Int32)), .val (.int (0 : Int32)), .val (.int (0 : Int32)), .unset, .unset] [(.long q2_), (.ref b1)])) _
                refine st118.trans ?_
                show Steps p.tables e below (T118.setTop (mkF m 75 #[.val (.long q0_), .second, .val (.long q1_), .second, .val (.long q2_), .second, .val (.ref b1), .val (.long q2_), .second, .val (.long q2_), .second, .val (.int (1 : Int32)), .val (.int (0 : Int32)), .val (.int (0 : Int32)), .unset, .unset] [(.int (0 : Int32))])) _
                refine XS.istore X118.here hx rfl (hb hby at_75) rfl (l' := #[.val (.long q0_), .second, .val (.long q1_), .second, .val (.long q2_), .second, .val (.ref b1), .val (.long q2_), .second, .val (.long q2_), .second, .val (.int (1 : Int32)), .val (.int (0 : Int32)), .val (.int (0 : Int32)), .val (.int (0 : Int32)), .unset]) rfl ?_
                show Steps p.tables e below (T118.setTop (mkF m 77 #[.val (.long q0_), .second, .val (.long q1_), .second, .val (.long q2_), .second, .val (.ref b1), .val (.long q2_), .second, .val (.long q2_), .second, .val (.int (1 : Int32)), .val (.int (0 : Int32)), .val (.int (0 : Int32)), .val (.int (0 : Int32)), .unset] [])) _
                refine XS.iload X118.here hx rfl (hb hby at_77) rfl ?_
                show Steps p.tables e below (T118.setTop (mkF m 79 #[.val (.long q0_), .second, .val (.long q1_), .second, .val (.long q2_), .second, .val (.ref b1), .val (.long q2_), .second, .val (.long q2_), .second, .val (.int (1 : Int32)), .val (.int (0 : Int32)), .val (.int (0 : Int32)), .val (.int (0 : Int32)), .unset] [(.int (0 : Int32))])) _
                refine XS.ifYes X118.here hx rfl (pc0 := 79) (pc' := 87) rfl (hb hby at_79) rfl ((if0 _ _).trans (teq (by decide : (0 : Int32) = (0 : Int32))).1) (by decide) (by decide) ?_
                show Steps p.tables e below (T118.setTop (mkF m 87 #[.val (.long q0_), .second, .val (.long q1_), .second, .val (.long q2_), .second, .val (.ref b1), .val (.long q2_), .second, .val (.long q2_), .second, .val (.int (1 : Int32)), .val (.int (0 : Int32)), .val (.int (0 : Int32)), .val (.int (0 : Int32)), .unset] [])) _
                refine XS.iconst X118.here hx rfl (hb hby at_87) ?_
                show Steps p.tables e below (T118.setTop (mkF m 88 #[.val (.long q0_), .second, .val (.long q1_), .second, .val (.long q2_), .second, .val (.ref b1), .val (.long q2_), .second, .val (.long q2_), .second, .val (.int (1 : Int32)), .val (.int (0 : Int32)), .val (.int (0 : Int32)), .val (.int (0 : Int32)), .unset] [(.int (1 : Int32))])) _
                refine XS.goto X118.here hx rfl (pc0 := 88) (pc' := 92) rfl (hb hby at_88) (by decide) (by decide) ?_
                show Steps p.tables e below (T118.setTop (mkF m 92 #[.val (.long q0_), .second, .val (.long q1_), .second, .val (.long q2_), .second, .val (.ref b1), .val (.long q2_), .second, .val (.long q2_), .second, .val (.int (1 : Int32)), .val (.int (0 : Int32)), .val (.int (0 : Int32)), .val (.int (0 : Int32)), .unset] [(.int (1 : Int32))])) _
                refine XS.istore X118.here hx rfl (hb hby at_92) rfl (l' := #[.val (.long q0_), .second, .val (.long q1_), .second, .val (.long q2_), .second, .val (.ref b1), .val (.long q2_), .second, .val (.long q2_), .second, .val (.int (1 : Int32)), .val (.int (0 : Int32)), .val (.int (0 : Int32)), .val (.int (0 : Int32)), .val (.int (1 : Int32))]) rfl ?_
                show Steps p.tables e below (T118.setTop (mkF m 94 #[.val (.long q0_), .second, .val (.long q1_), .second, .val (.long q2_), .second, .val (.ref b1), .val (.long q2_), .second, .val (.long q2_), .second, .val (.int (1 : Int32)), .val (.int (0 : Int32)), .val (.int (0 : Int32)), .val (.int (0 : Int32)), .val (.int (1 : Int32))] [])) _
                refine XS.iload X118.here hx rfl (hb hby at_94) rfl ?_
                show Steps p.tables e below (T118.setTop (mkF m 96 #[.val (.long q0_), .second, .val (.long q1_), .second, .val (.long q2_), .second, .val (.ref b1), .val (.long q2_), .second, .val (.long q2_), .second, .val (.int (1 : Int32)), .val (.int (0 : Int32)), .val (.int (0 : Int32)), .val (.int (0 : Int32)), .val (.int (1 : Int32))] [(.int (1 : Int32))])) _
                refine XS.ifNo X118.here hx rfl (hb hby at_96) rfl ((if0 _ _).trans (feq (by decide : ¬ ((1 : Int32) = (0 : Int32)))).1) ?_
                show Steps p.tables e below (T118.setTop (mkF m 99 #[.val (.long q0_), .second, .val (.long q1_), .second, .val (.long q2_), .second, .val (.ref b1), .val (.long q2_), .second, .val (.long q2_), .second, .val (.int (1 : Int32)), .val (.int (0 : Int32)), .val (.int (0 : Int32)), .val (.int (0 : Int32)), .val (.int (1 : Int32))] [])) _
                refine XS.iload X118.here hx rfl (hb hby at_99) rfl ?_
                show Steps p.tables e below (T118.setTop (mkF m 101 #[.val (.long q0_), .second, .val (.long q1_), .second, .val (.long q2_), .second, .val (.ref b1), .val (.long q2_), .second, .val (.long q2_), .second, .val (.int (1 : Int32)), .val (.int (0 : Int32)), .val (.int (0 : Int32)), .val (.int (0 : Int32)), .val (.int (1 : Int32))] [(.int (0 : Int32))])) _
                refine XS.ifNo X118.here hx rfl (hb hby at_101) rfl ((if0 _ _).trans (teq (by decide : (0 : Int32) = (0 : Int32))).2) ?_
                show Steps p.tables e below (T118.setTop (mkF m 104 #[.val (.long q0_), .second, .val (.long q1_), .second, .val (.long q2_), .second, .val (.ref b1), .val (.long q2_), .second, .val (.long q2_), .second, .val (.int (1 : Int32)), .val (.int (0 : Int32)), .val (.int (0 : Int32)), .val (.int (0 : Int32)), .val (.int (1 : Int32))] [])) _
                refine XS.iload X118.here hx rfl (hb hby at_104) rfl ?_
                show Steps p.tables e below (T118.setTop (mkF m 106 #[.val (.long q0_), .second, .val (.long q1_), .second, .val (.long q2_), .second, .val (.ref b1), .val (.long q2_), .second, .val (.long q2_), .second, .val (.int (1 : Int32)), .val (.int (0 : Int32)), .val (.int (0 : Int32)), .val (.int (0 : Int32)), .val (.int (1 : Int32))] [(.int (1 : Int32))])) _
                refine XS.ifNo X118.here hx rfl (hb hby at_106) rfl ((if0 _ _).trans (feq (by decide : ¬ ((1 : Int32) = (0 : Int32)))).1) ?_
                show Steps p.tables e below (T118.setTop (mkF m 109 #[.val (.long q0_), .second, .val (.long q1_), .second, .val (.long q2_), .second, .val (.ref b1), .val (.long q2_), .second, .val (.long q2_), .second, .val (.int (1 : Int32)), .val (.int (0 : Int32)), .val (.int (0 : Int32)), .val (.int (0 : Int32)), .val (.int (1 : Int32))] [])) _
                refine XS.iconst X118.here hx rfl (hb hby at_109) ?_
                show Steps p.tables e below (T118.setTop (mkF m 110 #[.val (.long q0_), .second, .val (.long q1_), .second, .val (.long q2_), .second, .val (.ref b1), .val (.long q2_), .second, .val (.long q2_), .second, .val (.int (1 : Int32)), .val (.int (0 : Int32)), .val (.int (0 : Int32)), .val (.int (0 : Int32)), .val (.int (1 : Int32))] [(.int (1 : Int32))])) _
                refine XS.goto X118.here hx rfl (pc0 := 110) (pc' := 114) rfl (hb hby at_110) (by decide) (by decide) ?_
                exact kt
              obtain ⟨fs, hr, hrun, hended, hW, hsame⟩ := X118.leave (v := some (.int (1 : Int32))) (fun h => by rw [Bd.returns] at h; cases h)
              refine ⟨_, _, pre120 _ (retN X118 hx (t := .boolean) Bd.returns (by simp) (hb hby at_114) hr), hrun, hended, _, _, rfl, ?_, ⟨_, rfl⟩, hW, hsame.mono (by decide) (by decide)⟩
              show QLaw Z q0_ q1_ q2_ h0 n0 _ T118.heap _
              rw [e118']
              exact ⟨rfl, N119⟩
        · obtain ⟨cq122, kq122, q122a, q122b, q122c⟩ := isOf hZ e108' g8_0
          obtain ⟨_, _, ⟨T122, L122, k122, n122⟩, -, X122, ⟨Lc122, hQ122, l122, y122, z122⟩, st122⟩ := X108.virtualBack hx (y := (⟨"com/example/fawley/fawley/store/StoredValue", "hasExpiredAt", "(J)Z"⟩ : MethodName)) (z := (⟨"com/example/fawley/fawley/store/StoredValue", "hasExpiredAt", "(J)Z"⟩ : MethodName)) hown (mvT hZ (hw _ (List.mem_of_getElem? (i := 24) rfl))) (mvT hZ (hw _ (List.mem_of_getElem? (i := 25) rfl))) (notFace_of_selects (args := #[]) (mvT hZ (hw _ (List.mem_of_getElem? (i := 27) rfl)))) (mvT hZ (hw _ (List.mem_of_getElem? (i := 27) rfl))) (mvT hZ (hw _ (List.mem_of_getElem? (i := 26) rfl))) (by decide) (backOf (W := 0) (rmHas l Z a0 hw [] b1 (q0_ - (1 : Int64)) q0_ h8 n0 f12 g8_4) hZ (hw _ (List.mem_of_getElem? (i := 28) rfl)) (hw _ (List.mem_of_getElem? (i := 2) rfl)) (by decide) (by decide)) q122a q122c (g := (mkF m 54 #[.val (.long q0_), .second, .val (.long q1_), .second, .val (.long q2_), .second, .val (.ref b1), .val (.long q2_), .second, .val (.long q2_), .second, .val (.int (1 : Int32)), .unset, .unset, .unset, .unset] [(.long (q0_ - (1 : Int64))), (.ref b1)])) rfl (by rw [hml]; rfl) (Steps.refl _) (argsL := [(.long (q0_ - (1 : Int64)))]) (rest := []) (lenOf pd_2 rfl) rfl (by show 2 * 0 + _ ≤ _; exact Nat.le_of_eq rfl) (hb hby at_54) (fun _ _ => ⟨rfl, e108', (by decide : 1 + 0 ≤ _), (by decide : 4 + 0 ≤ _)⟩)
          dsimp only [Pt.U, Pt.locs, Pt.cells, Pt.slots] at X122 l122 y122 z122 st122 hQ122
          subst l122 y122 z122
          obtain ⟨h122, e122⟩ : ∃ z, T122.heap = z := ⟨_, rfl⟩
          rw [e122] at hQ122
          obtain ⟨rr122, rfl, hs122, N122q, hh122⟩ := hQ122
          have N123 := Fr.app N109 N122q
          have e122' : T122.heap = h8 := e122.trans hh122
          rcases hs122 with ⟨rfl, hq122_0_0⟩ | ⟨rfl, hq122_1_0⟩
          · exact absurd (own_pred hc111) hq122_0_0
          · obtain ⟨cq124, kq124, q124a, q124b, q124c⟩ := isOf hZ e122' g8_0
            obtain ⟨_, _, ⟨T124, L124, k124, n124⟩, -, X124, ⟨Lc124, hQ124, l124, y124, z124⟩, st124⟩ := X122.virtualBack hx (y := (⟨"com/example/fawley/fawley/store/StoredValue", "hasExpiredAt", "(J)Z"⟩ : MethodName)) (z := (⟨"com/example/fawley/fawley/store/StoredValue", "hasExpiredAt", "(J)Z"⟩ : MethodName)) hown (mvT hZ (hw _ (List.mem_of_getElem? (i := 24) rfl))) (mvT hZ (hw _ (List.mem_of_getElem? (i := 25) rfl))) (notFace_of_selects (args := #[]) (mvT hZ (hw _ (List.mem_of_getElem? (i := 27) rfl)))) (mvT hZ (hw _ (List.mem_of_getElem? (i := 27) rfl))) (mvT hZ (hw _ (List.mem_of_getElem? (i := 26) rfl))) (by decide) (backOf (W := 0) (rmHas l Z a0 hw [] b1 q2_ q0_ h8 n0 f12 g8_4) hZ (hw _ (List.mem_of_getElem? (i := 28) rfl)) (hw _ (List.mem_of_getElem? (i := 2) rfl)) (by decide) (by decide)) q124a q124c (g := (mkF m 63 #[.val (.long q0_), .second, .val (.long q1_), .second, .val (.long q2_), .second, .val (.ref b1), .val (.long q2_), .second, .val (.long q2_), .second, .val (.int (1 : Int32)), .val (.int (0 : Int32)), .unset, .unset, .unset] [(.long q2_), (.ref b1)])) rfl (by rw [hml]; rfl) (Steps.refl _) (argsL := [(.long q2_)]) (rest := []) (lenOf pd_2 rfl) rfl (by show 2 * 0 + _ ≤ _; exact Nat.le_of_eq rfl) (hb hby at_63) (fun _ _ => ⟨rfl, e122', (by decide : 1 + 0 ≤ _), (by decide : 4 + 0 ≤ _)⟩)
            dsimp only [Pt.U, Pt.locs, Pt.cells, Pt.slots] at X124 l124 y124 z124 st124 hQ124
            subst l124 y124 z124
            obtain ⟨h124, e124⟩ : ∃ z, T124.heap = z := ⟨_, rfl⟩
            rw [e124] at hQ124
            obtain ⟨rr124, rfl, hs124, N124q, hh124⟩ := hQ124
            have N125 := Fr.app N123 N124q
            have e124' : T124.heap = h8 := e124.trans hh124
            rcases hs124 with ⟨rfl, hq124_0_0⟩ | ⟨rfl, hq124_1_0⟩
            · obtain ⟨cq126, kq126, q126a, q126b, q126c⟩ := isOf hZ e124' g8_0
              obtain ⟨_, _, ⟨T126, L126, k126, n126⟩, -, X126, ⟨Lc126, hQ126, l126, y126, z126⟩, st126⟩ := X124.virtualBack hx (y := (⟨"com/example/fawley/fawley/store/StoredValue", "hasExpiredAt", "(J)Z"⟩ : MethodName)) (z := (⟨"com/example/fawley/fawley/store/StoredValue", "hasExpiredAt", "(J)Z"⟩ : MethodName)) hown (mvT hZ (hw _ (List.mem_of_getElem? (i := 24) rfl))) (mvT hZ (hw _ (List.mem_of_getElem? (i := 25) rfl))) (notFace_of_selects (args := #[]) (mvT hZ (hw _ (List.mem_of_getElem? (i := 27) rfl)))) (mvT hZ (hw _ (List.mem_of_getElem? (i := 27) rfl))) (mvT hZ (hw _ (List.mem_of_getElem? (i := 26) rfl))) (by decide) (backOf (W := 0) (rmHas l Z a0 hw [] b1 q2_ q0_ h8 n0 f12 g8_4) hZ (hw _ (List.mem_of_getElem? (i := 28) rfl)) (hw _ (List.mem_of_getElem? (i := 2) rfl)) (by decide) (by decide)) q126a q126c (g := (mkF m 72 #[.val (.long q0_), .second, .val (.long q1_), .second, .val (.long q2_), .second, .val (.ref b1), .val (.long q2_), .second, .val (.long q2_), .second, .val (.int (1 : Int32)), .val (.int (0 : Int32)), .val (.int (1 : Int32)), .unset, .unset] [(.long q2_), (.ref b1)])) rfl (by rw [hml]; rfl) (Steps.refl _) (argsL := [(.long q2_)]) (rest := []) (lenOf pd_2 rfl) rfl (by show 2 * 0 + _ ≤ _; exact Nat.le_of_eq rfl) (hb hby at_72) (fun _ _ => ⟨rfl, e124', (by decide : 1 + 0 ≤ _), (by decide : 4 + 0 ≤ _)⟩)
              dsimp only [Pt.U, Pt.locs, Pt.cells, Pt.slots] at X126 l126 y126 z126 st126 hQ126
              subst l126 y126 z126
              obtain ⟨h126, e126⟩ : ∃ z, T126.heap = z := ⟨_, rfl⟩
              rw [e126] at hQ126
              obtain ⟨rr126, rfl, hs126, N126q, hh126⟩ := hQ126
              have N127 := Fr.app N125 N126q
              have e126' : T126.heap = h8 := e126.trans hh126
              rcases hs126 with ⟨rfl, hq126_0_0⟩ | ⟨rfl, hq126_1_0⟩
              · have pre128 : ∀ t, Steps p.tables e below (T126.setTop (mkF m 114 #[.val (.long q0_), .second, .val (.long q1_), .second, .val (.long q2_), .second, .val (.ref b1), .val (.long q2_), .second, .val (.long q2_), .second, .val (.int (1 : Int32)), .val (.int (0 : Int32)), .val (.int (1 : Int32)), .val (.int (1 : Int32)), .val (.int (1 : Int32))] [(.int (1 : Int32))])) t → Steps p.tables e below (s₁.setTop (entryFrame m #[(.long q0_), (.long q1_), (.long q2_)] maxLocals)) t := by
                  intro t kt
                  refine pre110 t ?_
                  show Steps p.tables e below (T108.setTop (mkF m 42 #[.val (.long q0_), .second, .val (.long q1_), .second, .val (.long q2_), .second, .val (.ref b1), .val (.long q2_), .second, .val (.long q2_), .second, .val (.int (1 : Int32)), .unset, .unset, .unset, .unset] [(.int (lcmpW q0_ (-9223372036854775808 : Int64)))])) _
                  refine XS.ifYes X108.here hx rfl (pc0 := 42) (pc' := 49) rfl (hb hby at_42) rfl ((if0 _ _).trans (feq (fun z => hc111 ((lw_eq _ _).mp z))).2) (by decide) (by decide) ?_
                  show Steps p.tables e below (T108.setTop (mkF m 49 #[.val (.long q0_), .second, .val (.long q1_), .second, .val (.long q2_), .second, .val (.ref b1), .val (.long q2_), .second, .val (.long q2_), .second, .val (.int (1 : Int32)), .unset, .unset, .unset, .unset] [])) _
                  refine XS.aload X108.here hx rfl (hb hby at_49) rfl rfl ?_
                  show Steps p.tables e below (T108.setTop (mkF m 51 #[.val (.long q0_), .second, .val (.long q1_), .second, .val (.long q2_), .second, .val (.ref b1), .val (.long q2_), .second, .val (.long q2_), .second, .val (.int (1 : Int32)), .unset, .unset, .unset, .unset] [(.ref b1)])) _
                  refine XS.lloadN X108.here hx rfl (hb hby at_51) rfl ?_
                  show Steps p.tables e below (T108.setTop (mkF m 52 #[.val (.long q0_), .second, .val (.long q1_), .second, .val (.long q2_), .second, .val (.ref b1), .val (.long q2_), .second, .val (.long q2_), .second, .val (.int (1 : Int32)), .unset, .unset, .unset, .unset] [(.long q0_), (.ref b1)])) _
                  refine XS.lconst X108.here hx rfl (hb hby at_52) ?_
                  show Steps p.tables e below (T108.setTop (mkF m 53 #[.val (.long q0_), .second, .val (.long q1_), .second, .val (.long q2_), .second, .val (.ref b1), .val (.long q2_), .second, .val (.long q2_), .second, .val (.int (1 : Int32)), .unset, .unset, .unset, .unset] [(.long (1 : Int64)), (.long q0_), (.ref b1)])) _
                  refine XS.lsub X108.here hx rfl (hb hby at_53) rfl ?_
                  show Steps p.tables e below (T108.setTop (mkF m 54 #[.val (.long q0_), .second, .val (.long q1_), .second, .val (.long q2_), .second, .val (.ref b1), .val (.long q2_), .second, .val (.long q2_), .second, .val (.int (1 : Int32)), .unset, .unset, .unset, .unset] [(.long (q0_ - (1 : Int64))), (.ref b1)])) _
                  refine st122.trans ?_
                  show Steps p.tables e below (T122.setTop (mkF m 57 #[.val (.long q0_), .second, .val (.long q1_), .second, .val (.long q2_), .second, .val (.ref b1), .val (.long q2_), .second, .val (.long q2_), .second, .val (.int (1 : Int32)), .unset, .unset, .unset, .unset] [(.int (0 : Int32))])) _
                  refine XS.istore X122.here hx rfl (hb hby at_57) rfl (l' := #[.val (.long q0_), .second, .val (.long q1_), .second, .val (.long q2_), .second, .val (.ref b1), .val (.long q2_), .second, .val (.long q2_), .second, .val (.int (1 : Int32)), .val (.int (0 : Int32)), .unset, .unset, .unset]) rfl ?_
                  show Steps p.tables e below (T122.setTop (mkF m 59 #[.val (.long q0_), .second, .val (.long q1_), .second, .val (.long q2_), .second, .val (.ref b1), .val (.long q2_), .second, .val (.long q2_), .second, .val (.int (1 : Int32)), .val (.int (0 : Int32)), .unset, .unset, .unset] [])) _
                  refine XS.aload X122.here hx rfl (hb hby at_59) rfl rfl ?_
                  show Steps p.tables e below (T122.setTop (mkF m 61 #[.val (.long q0_), .second, .val (.long q1_), .second, .val (.long q2_), .second, .val (.ref b1), .val (.long q2_), .second, .val (.long q2_), .second, .val (.int (1 : Int32)), .val (.int (0 : Int32)), .unset, .unset, .unset] [(.ref b1)])) _
                  refine XS.lload X122.here hx rfl (hb hby at_61) rfl ?_
                  show Steps p.tables e below (T122.setTop (mkF m 63 #[.val (.long q0_), .second, .val (.long q1_), .second, .val (.long q2_), .second, .val (.ref b1), .val (.long q2_), .second, .val (.long q2_), .second, .val (.int (1 : Int32)), .val (.int (0 : Int32)), .unset, .unset, .unset] [(.long q2_), (.ref b1)])) _
                  refine st124.trans ?_
                  show Steps p.tables e below (T124.setTop (mkF m 66 #[.val (.long q0_), .second, .val (.long q1_), .second, .val (.long q2_), .second, .val (.ref b1), .val (.long q2_), .second, .val (.long q2_), .second, .val (.int (1 : Int32)), .val (.int (0 : Int32)), .unset, .unset, .unset] [(.int (1 : Int32))])) _
                  refine XS.istore X124.here hx rfl (hb hby at_66) rfl (l' := #[.val (.long q0_), .second, .val (.long q1_), .second, .val (.long q2_), .second, .val (.ref b1), .val (.long q2_), .second, .val (.long q2_), .second, .val (.int (1 : Int32)), .val (.int (0 : Int32)), .val (.int (1 : Int32)), .unset, .unset]) rfl ?_
                  show Steps p.tables e below (T124.setTop (mkF m 68 #[.val (.long q0_), .second, .val (.long q1_), .second, .val (.long q2_), .second, .val (.ref b1), .val (.long q2_), .second, .val (.long q2_), .second, .val (.int (1 : Int32)), .val (.int (0 : Int32)), .val (.int (1 : Int32)), .unset, .unset] [])) _
                  refine XS.aload X124.here hx rfl (hb hby at_68) rfl rfl ?_
                  show Steps p.tables e below (T124.setTop (mkF m 70 #[.val (.long q0_), .second, .val (.long q1_), .second, .val (.long q2_), .second, .val (.ref b1), .val (.long q2_), .second, .val (.long q2_), .second, .val (.int (1 : Int32)), .val (.int (0 : Int32)), .val (.int (1 : Int32)), .unset, .unset] [(.ref b1)])) _
                  refine XS.lload X124.here hx rfl (hb hby at_70) rfl ?_
                  show Steps p.tables e below (T124.setTop (mkF m 72 #[.val (.long q0_), .second, .val (.long q1_), .second, .val (.long q2_), .second, .val (.ref b1), .val (.long q2_), .second, .val (.long q2_), .second, .val (.int (1 : Int32)), .val (.int (0 : Int32)), .val (.int (1 : Int32)), .unset, .unset] [(.long q2_), (.ref b1)])) _
                  refine st126.trans ?_
                  show Steps p.tables e below (T126.setTop (mkF m 75 #[.val (.long q0_), .second, .val (.long q1_), .second, .val (.long q2_), .second, .val (.ref b1), .val (.long q2_), .second, .val (.long q2_), .second, .val (.int (1 : Int32)), .val (.int (0 : Int32)), .val (.int (1 : Int32)), .unset, .unset] [(.int (1 : Int32))])) _
                  refine XS.istore X126.here hx rfl (hb hby at_75) rfl (l' := #[.val (.long q0_), .second, .val (.long q1_), .second, .val (.long q2_), .second, .val (.ref b1), .val (.long q2_), .second, .val (.long q2_), .second, .val (.int (1 : Int32)), .val (.int (0 : Int32)), .val (.int (1 : Int32)), .val (.int (1 : Int32)), .unset]) rfl ?_
                  show Steps p.tables e below (T126.setTop (mkF m 77 #[.val (.long q0_), .second, .val (.long q1_), .second, .val (.long q2_), .second, .val (.ref b1), .val (.long q2_), .second, .val (.long q2_), .second, .val (.int (1 : Int32)), .val (.int (0 : Int32)), .val (.int (1 : Int32)), .val (.int (1 : Int32)), .unset] [])) _
                  refine XS.iload X126.here hx rfl (hb hby at_77) rfl ?_
                  show Steps p.tables e below (T126.setTop (mkF m 79 #[.val (.long q0_), .second, .val (.long q1_), .second, .val (.long q2_), .second, .val (.ref b1), .val (.long q2_), .second, .val (.long q2_), .second, .val (.int (1 : Int32)), .val (.int (0 : Int32)), .val (.int (1 : Int32)), .val (.int (1 : Int32)), .unset] [(.int (1 : Int32))])) _
                  refine XS.ifNo X126.here hx rfl (hb hby at_79) rfl ((if0 _ _).trans (feq (by decide : ¬ ((1 : Int32) = (0 : Int32)))).1) ?_
                  show Steps p.tables e below (T126.setTop (mkF m 82 #[.val (.long q0_), .second, .val (.long q1_), .second, .val (.long q2_), .second, .val (.ref b1), .val (.long q2_), .second, .val (.long q2_), .second, .val (.int (1 : Int32)), .val (.int (0 : Int32)), .val (.int (1 : Int32)), .val (.int (1 : Int32)), .unset] [])) _
                  refine XS.iload X126.here hx rfl (hb hby at_82) rfl ?_
                  show Steps p.tables e below (T126.setTop (mkF m 84 #[.val (.long q0_), .second, .val (.long q1_), .second, .val (.long q2_), .second, .val (.ref b1), .val (.long q2_), .second, .val (.long q2_), .second, .val (.int (1 : Int32)), .val (.int (0 : Int32)), .val (.int (1 : Int32)), .val (.int (1 : Int32)), .unset] [(.int (1 : Int32))])) _
                  refine XS.ifNo X126.here hx rfl (hb hby at_84) rfl ((if0 _ _).trans (feq (by decide : ¬ ((1 : Int32) = (0 : Int32)))).1) ?_
                  show Steps p.tables e below (T126.setTop (mkF m 87 #[.val (.long q0_), .second, .val (.long q1_), .second, .val (.long q2_), .second, .val (.ref b1), .val (.long q2_), .second, .val (.long q2_), .second, .val (.int (1 : Int32)), .val (.int (0 : Int32)), .val (.int (1 : Int32)), .val (.int (1 : Int32)), .unset] [])) _
                  refine XS.iconst X126.here hx rfl (hb hby at_87) ?_
                  show Steps p.tables e below (T126.setTop (mkF m 88 #[.val (.long q0_), .second, .val (.long q1_), .second, .val (.long q2_), .second, .val (.ref b1), .val (.long q2_), .second, .val (.long q2_), .second, .val (.int (1 : Int32)), .val (.int (0 : Int32)), .val (.int (1 : Int32)), .val (.int (1 : Int32)), .unset] [(.int (1 : Int32))])) _
                  refine XS.goto X126.here hx rfl (pc0 := 88) (pc' := 92) rfl (hb hby at_88) (by decide) (by decide) ?_
                  show Steps p.tables e below (T126.setTop (mkF m 92 #[.val (.long q0_), .second, .val (.long q1_), .second, .val (.long q2_), .second, .val (.ref b1), .val (.long q2_), .second, .val (.long q2_), .second, .val (.int (1 : Int32)), .val (.int (0 : Int32)), .val (.int (1 : Int32)), .val (.int (1 : Int32)), .unset] [(.int (1 : Int32))])) _
                  refine XS.istore X126.here hx rfl (hb hby at_92) rfl (l' := #[.val (.long q0_), .second, .val (.long q1_), .second, .val (.long q2_), .second, .val (.ref b1), .val (.long q2_), .second, .val (.long q2_), .second, .val (.int (1 : Int32)), .val (.int (0 : Int32)), .val (.int (1 : Int32)), .val (.int (1 : Int32)), .val (.int (1 : Int32))]) rfl ?_
                  show Steps p.tables e below (T126.setTop (mkF m 94 #[.val (.long q0_), .second, .val (.long q1_), .second, .val (.long q2_), .second, .val (.ref b1), .val (.long q2_), .second, .val (.long q2_), .second, .val (.int (1 : Int32)), .val (.int (0 : Int32)), .val (.int (1 : Int32)), .val (.int (1 : Int32)), .val (.int (1 : Int32))] [])) _
                  refine XS.iload X126.here hx rfl (hb hby at_94) rfl ?_
                  show Steps p.tables e below (T126.setTop (mkF m 96 #[.val (.long q0_), .second, .val (.long q1_), .second, .val (.long q2_), .second, .val (.ref b1), .val (.long q2_), .second, .val (.long q2_), .second, .val (.int (1 : Int32)), .val (.int (0 : Int32)), .val (.int (1 : Int32)), .val (.int (1 : Int32)), .val (.int (1 : Int32))] [(.int (1 : Int32))])) _
                  refine XS.ifNo X126.here hx rfl (hb hby at_96) rfl ((if0 _ _).trans (feq (by decide : ¬ ((1 : Int32) = (0 : Int32)))).1) ?_
                  show Steps p.tables e below (T126.setTop (mkF m 99 #[.val (.long q0_), .second, .val (.long q1_), .second, .val (.long q2_), .second, .val (.ref b1), .val (.long q2_), .second, .val (.long q2_), .second, .val (.int (1 : Int32)), .val (.int (0 : Int32)), .val (.int (1 : Int32)), .val (.int (1 : Int32)), .val (.int (1 : Int32))] [])) _
                  refine XS.iload X126.here hx rfl (hb hby at_99) rfl ?_
                  show Steps p.tables e below (T126.setTop (mkF m 101 #[.val (.long q0_), .second, .val (.long q1_), .second, .val (.long q2_), .second, .val (.ref b1), .val (.long q2_), .second, .val (.long q2_), .second, .val (.int (1 : Int32)), .val (.int (0 : Int32)), .val (.int (1 : Int32)), .val (.int (1 : Int32)), .val (.int (1 : Int32))] [(.int (0 : Int32))])) _
                  refine XS.ifNo X126.here hx rfl (hb hby at_101) rfl ((if0 _ _).trans (teq (by decide : (0 : Int32) = (0 : Int32))).2) ?_
                  show Steps p.tables e below (T126.setTop (mkF m 104 #[.val (.long q0_), .second, .val (.long q1_), .second, .val (.long q2_), .second, .val (.ref b1), .val (.long q2_), .second, .val (.long q2_), .second, .val (.int (1 : Int32)), .val (.int (0 : Int32)), .val (.int (1 : Int32)), .val (.int (1 : Int32)), .val (.int (1 : Int32))] [])) _
                  refine XS.iload X126.here hx rfl (hb hby at_104) rfl ?_
                  show Steps p.tables e below (T126.setTop (mkF m 106 #[.val (.long q0_), .second, .val (.long q1_), .second, .val (.long q2_), .second, .val (.ref b1), .val (.long q2_), .second, .val (.long q2_), .second, .val (.int (1 : Int32)), .val (.int (0 : Int32)), .val (.int (1 : Int32)), .val (.int (1 : Int32)), .val (.int (1 : Int32))] [(.int (1 : Int32))])) _
                  refine XS.ifNo X126.here hx rfl (hb hby at_106) rfl ((if0 _ _).trans (feq (by decide : ¬ ((1 : Int32) = (0 : Int32)))).1) ?_
                  show Steps p.tables e below (T126.setTop (mkF m 109 #[.val (.long q0_), .second, .val (.long q1_), .second, .val (.long q2_), .second, .val (.ref b1), .val (.long q2_), .second, .val (.long q2_), .second, .val (.int (1 : Int32)), .val (.int (0 : Int32)), .val (.int (1 : Int32)), .val (.int (1 : Int32)), .val (.int (1 : Int32))] [])) _
                  refine XS.iconst X126.here hx rfl (hb hby at_109) ?_
                  show Steps p.tables e below (T126.setTop (mkF m 110 #[.val (.long q0_), .second, .val (.long q1_), .second, .val (.long q2_), .second, .val (.ref b1), .val (.long q2_), .second, .val (.long q2_), .second, .val (.int (1 : Int32)), .val (.int (0 : Int32)), .val (.int (1 : Int32)), .val (.int (1 : Int32)), .val (.int (1 : Int32))] [(.int (1 : Int32))])) _
                  refine XS.goto X126.here hx rfl (pc0 := 110) (pc' := 114) rfl (hb hby at_110) (by decide) (by decide) ?_
                  exact kt
                obtain ⟨fs, hr, hrun, hended, hW, hsame⟩ := X126.leave (v := some (.int (1 : Int32))) (fun h => by rw [Bd.returns] at h; cases h)
                refine ⟨_, _, pre128 _ (retN X126 hx (t := .boolean) Bd.returns (by simp) (hb hby at_114) hr), hrun, hended, _, _, rfl, ?_, ⟨_, rfl⟩, hW, hsame.mono (by decide) (by decide)⟩
                show QLaw Z q0_ q1_ q2_ h0 n0 _ T126.heap _
                rw [e126']
                exact ⟨rfl, N127⟩
              · exact absurd hq126_1_0 hq124_0_0
            · obtain ⟨cq130, kq130, q130a, q130b, q130c⟩ := isOf hZ e124' g8_0
              obtain ⟨_, _, ⟨T130, L130, k130, n130⟩, -, X130, ⟨Lc130, hQ130, l130, y130, z130⟩, st130⟩ := X124.virtualBack hx (y := (⟨"com/example/fawley/fawley/store/StoredValue", "hasExpiredAt", "(J)Z"⟩ : MethodName)) (z := (⟨"com/example/fawley/fawley/store/StoredValue", "hasExpiredAt", "(J)Z"⟩ : MethodName)) hown (mvT hZ (hw _ (List.mem_of_getElem? (i := 24) rfl))) (mvT hZ (hw _ (List.mem_of_getElem? (i := 25) rfl))) (notFace_of_selects (args := #[]) (mvT hZ (hw _ (List.mem_of_getElem? (i := 27) rfl)))) (mvT hZ (hw _ (List.mem_of_getElem? (i := 27) rfl))) (mvT hZ (hw _ (List.mem_of_getElem? (i := 26) rfl))) (by decide) (backOf (W := 0) (rmHas l Z a0 hw [] b1 q2_ q0_ h8 n0 f12 g8_4) hZ (hw _ (List.mem_of_getElem? (i := 28) rfl)) (hw _ (List.mem_of_getElem? (i := 2) rfl)) (by decide) (by decide)) q130a q130c (g := (mkF m 72 #[.val (.long q0_), .second, .val (.long q1_), .second, .val (.long q2_), .second, .val (.ref b1), .val (.long q2_), .second, .val (.long q2_), .second, .val (.int (1 : Int32)), .val (.int (0 : Int32)), .val (.int (0 : Int32)), .unset, .unset] [(.long q2_), (.ref b1)])) rfl (by rw [hml]; rfl) (Steps.refl _) (argsL := [(.long q2_)]) (rest := []) (lenOf pd_2 rfl) rfl (by show 2 * 0 + _ ≤ _; exact Nat.le_of_eq rfl) (hb hby at_72) (fun _ _ => ⟨rfl, e124', (by decide : 1 + 0 ≤ _), (by decide : 4 + 0 ≤ _)⟩)
              dsimp only [Pt.U, Pt.locs, Pt.cells, Pt.slots] at X130 l130 y130 z130 st130 hQ130
              subst l130 y130 z130
              obtain ⟨h130, e130⟩ : ∃ z, T130.heap = z := ⟨_, rfl⟩
              rw [e130] at hQ130
              obtain ⟨rr130, rfl, hs130, N130q, hh130⟩ := hQ130
              have N131 := Fr.app N125 N130q
              have e130' : T130.heap = h8 := e130.trans hh130
              rcases hs130 with ⟨rfl, hq130_0_0⟩ | ⟨rfl, hq130_1_0⟩
              · exact absurd hq124_1_0 hq130_0_0
              · have pre132 : ∀ t, Steps p.tables e below (T130.setTop (mkF m 114 #[.val (.long q0_), .second, .val (.long q1_), .second, .val (.long q2_), .second, .val (.ref b1), .val (.long q2_), .second, .val (.long q2_), .second, .val (.int (1 : Int32)), .val (.int (0 : Int32)), .val (.int (0 : Int32)), .val (.int (0 : Int32)), .val (.int (1 : Int32))] [(.int (1 : Int32))])) t → Steps p.tables e below (s₁.setTop (entryFrame m #[(.long q0_), (.long q1_), (.long q2_)] maxLocals)) t := by
                  intro t kt
                  refine pre110 t ?_
                  show Steps p.tables e below (T108.setTop (mkF m 42 #[.val (.long q0_), .second, .val (.long q1_), .second, .val (.long q2_), .second, .val (.ref b1), .val (.long q2_), .second, .val (.long q2_), .second, .val (.int (1 : Int32)), .unset, .unset, .unset, .unset] [(.int (lcmpW q0_ (-9223372036854775808 : Int64)))])) _
                  refine XS.ifYes X108.here hx rfl (pc0 := 42) (pc' := 49) rfl (hb hby at_42) rfl ((if0 _ _).trans (feq (fun z => hc111 ((lw_eq _ _).mp z))).2) (by decide) (by decide) ?_
                  show Steps p.tables e below (T108.setTop (mkF m 49 #[.val (.long q0_), .second, .val (.long q1_), .second, .val (.long q2_), .second, .val (.ref b1), .val (.long q2_), .second, .val (.long q2_), .second, .val (.int (1 : Int32)), .unset, .unset, .unset, .unset] [])) _
                  refine XS.aload X108.here hx rfl (hb hby at_49) rfl rfl ?_
                  show Steps p.tables e below (T108.setTop (mkF m 51 #[.val (.long q0_), .second, .val (.long q1_), .second, .val (.long q2_), .second, .val (.ref b1), .val (.long q2_), .second, .val (.long q2_), .second, .val (.int (1 : Int32)), .unset, .unset, .unset, .unset] [(.ref b1)])) _
                  refine XS.lloadN X108.here hx rfl (hb hby at_51) rfl ?_
                  show Steps p.tables e below (T108.setTop (mkF m 52 #[.val (.long q0_), .second, .val (.long q1_), .second, .val (.long q2_), .second, .val (.ref b1), .val (.long q2_), .second, .val (.long q2_), .second, .val (.int (1 : Int32)), .unset, .unset, .unset, .unset] [(.long q0_), (.ref b1)])) _
                  refine XS.lconst X108.here hx rfl (hb hby at_52) ?_
                  show Steps p.tables e below (T108.setTop (mkF m 53 #[.val (.long q0_), .second, .val (.long q1_), .second, .val (.long q2_), .second, .val (.ref b1), .val (.long q2_), .second, .val (.long q2_), .second, .val (.int (1 : Int32)), .unset, .unset, .unset, .unset] [(.long (1 : Int64)), (.long q0_), (.ref b1)])) _
                  refine XS.lsub X108.here hx rfl (hb hby at_53) rfl ?_
                  show Steps p.tables e below (T108.setTop (mkF m 54 #[.val (.long q0_), .second, .val (.long q1_), .second, .val (.long q2_), .second, .val (.ref b1), .val (.long q2_), .second, .val (.long q2_), .second, .val (.int (1 : Int32)), .unset, .unset, .unset, .unset] [(.long (q0_ - (1 : Int64))), (.ref b1)])) _
                  refine st122.trans ?_
                  show Steps p.tables e below (T122.setTop (mkF m 57 #[.val (.long q0_), .second, .val (.long q1_), .second, .val (.long q2_), .second, .val (.ref b1), .val (.long q2_), .second, .val (.long q2_), .second, .val (.int (1 : Int32)), .unset, .unset, .unset, .unset] [(.int (0 : Int32))])) _
                  refine XS.istore X122.here hx rfl (hb hby at_57) rfl (l' := #[.val (.long q0_), .second, .val (.long q1_), .second, .val (.long q2_), .second, .val (.ref b1), .val (.long q2_), .second, .val (.long q2_), .second, .val (.int (1 : Int32)), .val (.int (0 : Int32)), .unset, .unset, .unset]) rfl ?_
                  show Steps p.tables e below (T122.setTop (mkF m 59 #[.val (.long q0_), .second, .val (.long q1_), .second, .val (.long q2_), .second, .val (.ref b1), .val (.long q2_), .second, .val (.long q2_), .second, .val (.int (1 : Int32)), .val (.int (0 : Int32)), .unset, .unset, .unset] [])) _
                  refine XS.aload X122.here hx rfl (hb hby at_59) rfl rfl ?_
                  show Steps p.tables e below (T122.setTop (mkF m 61 #[.val (.long q0_), .second, .val (.long q1_), .second, .val (.long q2_), .second, .val (.ref b1), .val (.long q2_), .second, .val (.long q2_), .second, .val (.int (1 : Int32)), .val (.int (0 : Int32)), .unset, .unset, .unset] [(.ref b1)])) _
                  refine XS.lload X122.here hx rfl (hb hby at_61) rfl ?_
                  show Steps p.tables e below (T122.setTop (mkF m 63 #[.val (.long q0_), .second, .val (.long q1_), .second, .val (.long q2_), .second, .val (.ref b1), .val (.long q2_), .second, .val (.long q2_), .second, .val (.int (1 : Int32)), .val (.int (0 : Int32)), .unset, .unset, .unset] [(.long q2_), (.ref b1)])) _
                  refine st124.trans ?_
                  show Steps p.tables e below (T124.setTop (mkF m 66 #[.val (.long q0_), .second, .val (.long q1_), .second, .val (.long q2_), .second, .val (.ref b1), .val (.long q2_), .second, .val (.long q2_), .second, .val (.int (1 : Int32)), .val (.int (0 : Int32)), .unset, .unset, .unset] [(.int (0 : Int32))])) _
                  refine XS.istore X124.here hx rfl (hb hby at_66) rfl (l' := #[.val (.long q0_), .second, .val (.long q1_), .second, .val (.long q2_), .second, .val (.ref b1), .val (.long q2_), .second, .val (.long q2_), .second, .val (.int (1 : Int32)), .val (.int (0 : Int32)), .val (.int (0 : Int32)), .unset, .unset]) rfl ?_
                  show Steps p.tables e below (T124.setTop (mkF m 68 #[.val (.long q0_), .second, .val (.long q1_), .second, .val (.long q2_), .second, .val (.ref b1), .val (.long q2_), .second, .val (.long q2_), .second, .val (.int (1 : Int32)), .val (.int (0 : Int32)), .val (.int (0 : Int32)), .unset, .unset] [])) _
                  refine XS.aload X124.here hx rfl (hb hby at_68) rfl rfl ?_
                  show Steps p.tables e below (T124.setTop (mkF m 70 #[.val (.long q0_), .second, .val (.long q1_), .second, .val (.long q2_), .second, .val (.ref b1), .val (.long q2_), .second, .val (.long q2_), .second, .val (.int (1 : Int32)), .val (.int (0 : Int32)), .val (.int (0 : Int32)), .unset, .unset] [(.ref b1)])) _
                  refine XS.lload X124.here hx rfl (hb hby at_70) rfl ?_
                  show Steps p.tables e below (T124.setTop (mkF m 72 #[.val (.long q0_), .second, .val (.long q1_), .second, .val (.long q2_), .second, .val (.ref b1), .val (.long q2_), .second, .val (.long q2_), .second, .val (.int (1 : Int32)), .val (.int (0 : Int32)), .val (.int (0 : Int32)), .unset, .unset] [(.long q2_), (.ref b1)])) _
                  refine st130.trans ?_
                  show Steps p.tables e below (T130.setTop (mkF m 75 #[.val (.long q0_), .second, .val (.long q1_), .second, .val (.long q2_), .second, .val (.ref b1), .val (.long q2_), .second, .val (.long q2_), .second, .val (.int (1 : Int32)), .val (.int (0 : Int32)), .val (.int (0 : Int32)), .unset, .unset] [(.int (0 : Int32))])) _
                  refine XS.istore X130.here hx rfl (hb hby at_75) rfl (l' := #[.val (.long q0_), .second, .val (.long q1_), .second, .val (.long q2_), .second, .val (.ref b1), .val (.long q2_), .second, .val (.long q2_), .second, .val (.int (1 : Int32)), .val (.int (0 : Int32)), .val (.int (0 : Int32)), .val (.int (0 : Int32)), .unset]) rfl ?_
                  show Steps p.tables e below (T130.setTop (mkF m 77 #[.val (.long q0_), .second, .val (.long q1_), .second, .val (.long q2_), .second, .val (.ref b1), .val (.long q2_), .second, .val (.long q2_), .second, .val (.int (1 : Int32)), .val (.int (0 : Int32)), .val (.int (0 : Int32)), .val (.int (0 : Int32)), .unset] [])) _
                  refine XS.iload X130.here hx rfl (hb hby at_77) rfl ?_
                  show Steps p.tables e below (T130.setTop (mkF m 79 #[.val (.long q0_), .second, .val (.long q1_), .second, .val (.long q2_), .second, .val (.ref b1), .val (.long q2_), .second, .val (.long q2_), .second, .val (.int (1 : Int32)), .val (.int (0 : Int32)), .val (.int (0 : Int32)), .val (.int (0 : Int32)), .unset] [(.int (0 : Int32))])) _
                  refine XS.ifYes X130.here hx rfl (pc0 := 79) (pc' := 87) rfl (hb hby at_79) rfl ((if0 _ _).trans (teq (by decide : (0 : Int32) = (0 : Int32))).1) (by decide) (by decide) ?_
                  show Steps p.tables e below (T130.setTop (mkF m 87 #[.val (.long q0_), .second, .val (.long q1_), .second, .val (.long q2_), .second, .val (.ref b1), .val (.long q2_), .second, .val (.long q2_), .second, .val (.int (1 : Int32)), .val (.int (0 : Int32)), .val (.int (0 : Int32)), .val (.int (0 : Int32)), .unset] [])) _
                  refine XS.iconst X130.here hx rfl (hb hby at_87) ?_
                  show Steps p.tables e below (T130.setTop (mkF m 88 #[.val (.long q0_), .second, .val (.long q1_), .second, .val (.long q2_), .second, .val (.ref b1), .val (.long q2_), .second, .val (.long q2_), .second, .val (.int (1 : Int32)), .val (.int (0 : Int32)), .val (.int (0 : Int32)), .val (.int (0 : Int32)), .unset] [(.int (1 : Int32))])) _
                  refine XS.goto X130.here hx rfl (pc0 := 88) (pc' := 92) rfl (hb hby at_88) (by decide) (by decide) ?_
                  show Steps p.tables e below (T130.setTop (mkF m 92 #[.val (.long q0_), .second, .val (.long q1_), .second, .val (.long q2_), .second, .val (.ref b1), .val (.long q2_), .second, .val (.long q2_), .second, .val (.int (1 : Int32)), .val (.int (0 : Int32)), .val (.int (0 : Int32)), .val (.int (0 : Int32)), .unset] [(.int (1 : Int32))])) _
                  refine XS.istore X130.here hx rfl (hb hby at_92) rfl (l' := #[.val (.long q0_), .second, .val (.long q1_), .second, .val (.long q2_), .second, .val (.ref b1), .val (.long q2_), .second, .val (.long q2_), .second, .val (.int (1 : Int32)), .val (.int (0 : Int32)), .val (.int (0 : Int32)), .val (.int (0 : Int32)), .val (.int (1 : Int32))]) rfl ?_
                  show Steps p.tables e below (T130.setTop (mkF m 94 #[.val (.long q0_), .second, .val (.long q1_), .second, .val (.long q2_), .second, .val (.ref b1), .val (.long q2_), .second, .val (.long q2_), .second, .val (.int (1 : Int32)), .val (.int (0 : Int32)), .val (.int (0 : Int32)), .val (.int (0 : Int32)), .val (.int (1 : Int32))] [])) _
                  refine XS.iload X130.here hx rfl (hb hby at_94) rfl ?_
                  show Steps p.tables e below (T130.setTop (mkF m 96 #[.val (.long q0_), .second, .val (.long q1_), .second, .val (.long q2_), .second, .val (.ref b1), .val (.long q2_), .second, .val (.long q2_), .second, .val (.int (1 : Int32)), .val (.int (0 : Int32)), .val (.int (0 : Int32)), .val (.int (0 : Int32)), .val (.int (1 : Int32))] [(.int (1 : Int32))])) _
                  refine XS.ifNo X130.here hx rfl (hb hby at_96) rfl ((if0 _ _).trans (feq (by decide : ¬ ((1 : Int32) = (0 : Int32)))).1) ?_
                  show Steps p.tables e below (T130.setTop (mkF m 99 #[.val (.long q0_), .second, .val (.long q1_), .second, .val (.long q2_), .second, .val (.ref b1), .val (.long q2_), .second, .val (.long q2_), .second, .val (.int (1 : Int32)), .val (.int (0 : Int32)), .val (.int (0 : Int32)), .val (.int (0 : Int32)), .val (.int (1 : Int32))] [])) _
                  refine XS.iload X130.here hx rfl (hb hby at_99) rfl ?_
                  show Steps p.tables e below (T130.setTop (mkF m 101 #[.val (.long q0_), .second, .val (.long q1_), .second, .val (.long q2_), .second, .val (.ref b1), .val (.long q2_), .second, .val (.long q2_), .second, .val (.int (1 : Int32)), .val (.int (0 : Int32)), .val (.int (0 : Int32)), .val (.int (0 : Int32)), .val (.int (1 : Int32))] [(.int (0 : Int32))])) _
                  refine XS.ifNo X130.here hx rfl (hb hby at_101) rfl ((if0 _ _).trans (teq (by decide : (0 : Int32) = (0 : Int32))).2) ?_
                  show Steps p.tables e below (T130.setTop (mkF m 104 #[.val (.long q0_), .second, .val (.long q1_), .second, .val (.long q2_), .second, .val (.ref b1), .val (.long q2_), .second, .val (.long q2_), .second, .val (.int (1 : Int32)), .val (.int (0 : Int32)), .val (.int (0 : Int32)), .val (.int (0 : Int32)), .val (.int (1 : Int32))] [])) _
                  refine XS.iload X130.here hx rfl (hb hby at_104) rfl ?_
                  show Steps p.tables e below (T130.setTop (mkF m 106 #[.val (.long q0_), .second, .val (.long q1_), .second, .val (.long q2_), .second, .val (.ref b1), .val (.long q2_), .second, .val (.long q2_), .second, .val (.int (1 : Int32)), .val (.int (0 : Int32)), .val (.int (0 : Int32)), .val (.int (0 : Int32)), .val (.int (1 : Int32))] [(.int (1 : Int32))])) _
                  refine XS.ifNo X130.here hx rfl (hb hby at_106) rfl ((if0 _ _).trans (feq (by decide : ¬ ((1 : Int32) = (0 : Int32)))).1) ?_
                  show Steps p.tables e below (T130.setTop (mkF m 109 #[.val (.long q0_), .second, .val (.long q1_), .second, .val (.long q2_), .second, .val (.ref b1), .val (.long q2_), .second, .val (.long q2_), .second, .val (.int (1 : Int32)), .val (.int (0 : Int32)), .val (.int (0 : Int32)), .val (.int (0 : Int32)), .val (.int (1 : Int32))] [])) _
                  refine XS.iconst X130.here hx rfl (hb hby at_109) ?_
                  show Steps p.tables e below (T130.setTop (mkF m 110 #[.val (.long q0_), .second, .val (.long q1_), .second, .val (.long q2_), .second, .val (.ref b1), .val (.long q2_), .second, .val (.long q2_), .second, .val (.int (1 : Int32)), .val (.int (0 : Int32)), .val (.int (0 : Int32)), .val (.int (0 : Int32)), .val (.int (1 : Int32))] [(.int (1 : Int32))])) _
                  refine XS.goto X130.here hx rfl (pc0 := 110) (pc' := 114) rfl (hb hby at_110) (by decide) (by decide) ?_
                  exact kt
                obtain ⟨fs, hr, hrun, hended, hW, hsame⟩ := X130.leave (v := some (.int (1 : Int32))) (fun h => by rw [Bd.returns] at h; cases h)
                refine ⟨_, _, pre132 _ (retN X130 hx (t := .boolean) Bd.returns (by simp) (hb hby at_114) hr), hrun, hended, _, _, rfl, ?_, ⟨_, rfl⟩, hW, hsame.mono (by decide) (by decide)⟩
                show QLaw Z q0_ q1_ q2_ h0 n0 _ T130.heap _
                rw [e130']
                exact ⟨rfl, N131⟩
      · exact absurd hq108_1_0 (by first | exact Int32.lt_irrefl | exact Int64.lt_irrefl)
set_option maxRecDepth 65536 in
set_option maxHeartbeats 40000000 in
theorem comes_1 {Post : Tables → Env → Array Value → State → Outcome → State → Prop} (hpost : ∀ tb e args s v u, (limb_1_1.after args s (.returned v) u = true ∧ limb_1_2.after args s (.returned v) u = true ∧ True) → FrameEnd s (.returned v) u (Jvm.fieldLocs frame_1_writes args s ++ Jvm.arrayLocs frame_1_arrays args s ++ Jvm.staticLocs frame_1_statics s) 16 128 → Post tb e args s (.returned v) u) :
    ArmFor flags0 classFile x code maxLocals ret World_1 tables_1 room_1 Calls_1 rest_1 Pre_1 Post := by
  intro l hfl _ _ p e ha hc hk s m args below hf hA hF happ hP
  obtain ⟨hcalls, hrest, hpre⟩ := hP
  obtain ⟨-, -, -, hnamed, -, -, -, hat⟩ := (Spec.applies_iff hf).mp happ
  obtain ⟨hg, hn⟩ := and_e (Cond.before_iff.mp (show (Jvm.Cond.and given_1 narrow_1).before args s = true from hpre))
  obtain ⟨g1, g2⟩ := and_e hg
  obtain ⟨g3, g4⟩ := and_e g2
  obtain ⟨g5, g6⟩ := and_e g4
  obtain ⟨w0, w1, w2, rfl⟩ : ∃ w0 w1 w2 : Value, args = #[w0, w1, w2] := by
    have hs : args.size = 3 := by simpa [Cond.value, given_1] using g1
    obtain ⟨L⟩ := args
    match L, hs with
    | [w0, w1, w2], _ => exact ⟨w0, w1, w2, rfl⟩
  have hw := fun d (hd : d ∈ tables_1) => atoms_spec (ws := Jvm.Cond.code x code maxLocals ret :: tables_1) hat d (List.mem_cons_of_mem _ hd)
  have hfit : Fit s := fun {y c} hc i hi => by
    obtain ⟨ha, rfl⟩ := Array.getElem?_eq_some_iff.mp hc
    have q := List.all_eq_true.mp ((Array.all_eq_true_iff_forall_mem.mp hF) _ (Array.getElem_mem ha)) i (List.mem_range.mpr hi)
    simpa [Array.getElem?_eq_getElem hi] using q
  obtain ⟨i0, ei0⟩ := isL_v g3
  obtain rfl : w0 = (.long i0) := Option.some.inj ei0
  obtain ⟨i1, ei1⟩ := isL_v g5
  obtain rfl : w1 = (.long i1) := Option.some.inj ei1
  obtain ⟨i2, ei2⟩ := isL_v g6
  obtain rfl : w2 = (.long i2) := Option.some.inj ei2
  obtain ⟨n, o, h1, h2, h3, _, L, rfl, ⟨rfl, N⟩, hq⟩ := rmLaw l s _ hw tables_1 i0 i1 i2 s.heap s.heap.size (Old.start s)  p e ha hc hk s m _ below hf ((Spec.applies_iff_loose hf).mp happ).1 ⟨rfl, State.Warmed39.refl s, rfl⟩ trivial
  refine ⟨n, _, h1, h2, h3, hpost _ _ _ _ _ _ ⟨Cond.after_iff.mpr rfl, Cond.after_iff.mpr (eq_i res_at (Term.int_eval (1)) rfl), trivial⟩ ⟨hq.1, hq.2.1, (hq.2.2.sift fun y hy => Or.inr (N y hy)).mono (by decide) (by decide)⟩⟩
theorem main_1_1 : Claimed_1_1 := comes_1 fun _ _ _ _ _ _ h hF => ⟨h.1, hF⟩
theorem main_1_2 : Claimed_1_2 := comes_1 fun _ _ _ _ _ _ h hF => ⟨h.2.1, hF⟩
end Jvm.Pilot.@@N@@
namespace Jvm.Pilot.@@N@@
open Jvm Jvm.ClassFile Sem Op Lib Jvm.Free Jvm.Stand Jvm.Pilot.@@N@@.Jvm.D
/-! MADE BY PROGRAM (witnessworld.py) out of the Statement's table words and the real class files: 10 classes; the members and pool entries that the words name. The judged class is class 1, her method 1. -/
namespace start1
open Jvm.ClassFile
def u (s : String) : CpInfo := .utf8 (stringToUtf16 s)
/-- a pool by its gaps: so many unusable entries, then the entry; so many at the end -/
def gap : Nat → List CpInfo → List CpInfo
  | 0, r => r
  | n + 1, r => .unusable :: gap n r
def poolList (es : List (Nat × CpInfo)) (last : Nat) : List CpInfo := es.foldr (fun e r => gap e.1 (e.2 :: r)) (gap last [])
def pool (es : List (Nat × CpInfo)) (last : Nat) : Array CpInfo := ⟨poolList es last⟩
def fileOf (pool : Array CpInfo) (this : Nat) (attrs : Array Attribute := #[]) (ms : Array MethodInfo := #[]) (fl : Nat := 33) (sup : Nat := 0) (ifs : Array Nat := #[]) (fds : Array FieldInfo := #[]) : ClassFile where
  minorVersion := 0
  majorVersion := 65
  constantPool := pool
  accessFlags := fl
  thisClass := this
  superClass := sup
  interfaces := ifs
  fields := fds
  methods := ms
  attributes := attrs
def plain (name : String) (sup : Option ClassId) : Class where
  name := name
  kind := .ordinary
  loader := none
  accessFlags := 33
  super := sup
  interfaces := #[]
  cf := none
  fields := #[]
  methods := #[]
  instanceTypes := #[]
  staticTypes := #[]
  resolved := #[]
  callSites := []
  init := .initialized
  statics := none
  mirror := none

def pool0 : Array CpInfo := pool [(5, u "<init>"), (0, u "()V"), (1, .class_ 10), (1, u "java/lang/Object")] 113

def k0c0 : Code := { maxStack := 0, maxLocals := 1, code := object_method_1_code, exceptionTable := #[], attributes := #[] }
def k0m0 : Method := { name := "<init>", desc := "()V", sig := { parameters := [], returnType := none }, accessFlags := 1, code := some k0c0 }
/-- java/lang/Object -/
def k0 : Class := { plain "java/lang/Object" none with
  accessFlags := 33
  interfaces := #[]
  cf := some (fileOf pool0 8 #[] #[{ accessFlags := 1, nameIndex := 5, descriptorIndex := 6, attributes := #[] }] 33 0 #[] #[])
  fields := #[]
  methods := #[k0m0]
  instanceTypes := #[]
  staticTypes := #[]
  resolved := Array.replicate 124 none
  statics := none }

def pool1 : Array CpInfo := pool [(2, .class_ 4), (1, u "java/lang/Object"), (0, u "<init>"), (0, u "()V"), (0, .class_ 8), (0, u "com/example/fawley/fawley/store/StoredValue"), (0, .methodref 7 10), (0, .nameAndType 5 11), (0, u "([BLcom/example/fawley/fawley/protocol/HlcTimestamp;Lcom/example/fawley/fawley/protocol/HlcTimestamp;J)V"), (0, .methodref 13 14), (0, .class_ 15), (0, .nameAndType 16 17), (0, u "java/lang/Math"), (0, u "min"), (0, u "(JJ)J"), (0, .methodref 13 19), (0, .nameAndType 20 17), (0, u "max"), (0, .methodref 7 22), (0, .nameAndType 23 24), (0, u "hasExpiredAt"), (0, u "(J)Z"), (2, .long 9223372036854775808), (1, .class_ 30), (0, u "com/example/fawley/fawley/store/StoredValueHasExpiredAtPinLaw"), (2, u "law"), (0, u "(JJJ)Z")] 3

def k1m0 : Method := { name := "<init>", desc := "()V", sig := { parameters := [], returnType := none }, accessFlags := 1, code := none }
def k1c1 : Code := { maxStack := 7, maxLocals := 16, code := code, exceptionTable := #[], attributes := #[] }
def k1m1 : Method := { name := "law", desc := "(JJJ)Z", sig := { parameters := [.long, .long, .long], returnType := some .boolean }, accessFlags := 9, code := some k1c1 }
/-- com/example/fawley/fawley/store/StoredValueHasExpiredAtPinLaw -/
def k1 : Class := { plain "com/example/fawley/fawley/store/StoredValueHasExpiredAtPinLaw" (some 0) with
  accessFlags := 49
  interfaces := #[]
  cf := some (fileOf pool1 29 #[] #[{ accessFlags := 1, nameIndex := 5, descriptorIndex := 6, attributes := #[] }, { accessFlags := 9, nameIndex := 33, descriptorIndex := 34, attributes := #[] }] 49 2 #[] #[])
  fields := #[]
  methods := #[k1m0, k1m1]
  instanceTypes := #[]
  staticTypes := #[]
  resolved := Array.replicate 38 none
  statics := none }

def pool2 : Array CpInfo := pool [(3, .methodref 4 5), (0, .class_ 6), (0, .nameAndType 7 8), (0, u "java/lang/Object"), (0, u "<init>"), (0, u "()V"), (0, .fieldref 10 11), (0, .class_ 12), (0, .nameAndType 13 14), (0, u "com/example/fawley/fawley/store/StoredValue"), (0, u "bytes"), (0, u "[B"), (0, .fieldref 10 16), (0, .nameAndType 17 18), (0, u "version"), (0, u "Lcom/example/fawley/fawley/protocol/HlcTimestamp;"), (0, .fieldref 10 20), (0, .nameAndType 21 18), (0, u "fencingToken"), (0, .fieldref 10 23), (0, .nameAndType 24 25), (0, u "expiresAt"), (0, u "J"), (16, u "NEVER"), (3, u "([BLcom/example/fawley/fawley/protocol/HlcTimestamp;Lcom/example/fawley/fawley/protocol/HlcTimestamp;J)V"), (4, u "hasExpiredAt"), (0, u "(J)Z")] 5

def k2c0 : Code := { maxStack := 3, maxLocals := 6, code := prog_58_method_1_code, exceptionTable := #[], attributes := #[] }
def k2m0 : Method := { name := "<init>", desc := "([BLcom/example/fawley/fawley/protocol/HlcTimestamp;Lcom/example/fawley/fawley/protocol/HlcTimestamp;J)V", sig := { parameters := [(.array .byte), (.object "com/example/fawley/fawley/protocol/HlcTimestamp"), (.object "com/example/fawley/fawley/protocol/HlcTimestamp"), .long], returnType := none }, accessFlags := 0, code := some k2c0 }
def k2c1 : Code := { maxStack := 4, maxLocals := 3, code := prog_58_method_6_code, exceptionTable := #[], attributes := #[] }
def k2m1 : Method := { name := "hasExpiredAt", desc := "(J)Z", sig := { parameters := [.long], returnType := some .boolean }, accessFlags := 0, code := some k2c1 }
/-- com/example/fawley/fawley/store/StoredValue -/
def k2 : Class := { plain "com/example/fawley/fawley/store/StoredValue" (some 0) with
  accessFlags := 33
  interfaces := #[]
  cf := some (fileOf pool2 10 #[] #[{ accessFlags := 0, nameIndex := 7, descriptorIndex := 46, attributes := #[] }, { accessFlags := 0, nameIndex := 51, descriptorIndex := 52, attributes := #[] }] 33 4 #[] #[{ accessFlags := 24, nameIndex := 42, descriptorIndex := 25, attributes := #[] }, { accessFlags := 18, nameIndex := 13, descriptorIndex := 14, attributes := #[] }, { accessFlags := 18, nameIndex := 17, descriptorIndex := 18, attributes := #[] }, { accessFlags := 18, nameIndex := 21, descriptorIndex := 18, attributes := #[] }, { accessFlags := 18, nameIndex := 24, descriptorIndex := 25, attributes := #[] }])
  fields := #[{ name := "NEVER", type := .long, accessFlags := 24, slot := 0, constantValue := 0 }, { name := "bytes", type := (.array .byte), accessFlags := 18, slot := 0, constantValue := 0 }, { name := "version", type := (.object "com/example/fawley/fawley/protocol/HlcTimestamp"), accessFlags := 18, slot := 1, constantValue := 0 }, { name := "fencingToken", type := (.object "com/example/fawley/fawley/protocol/HlcTimestamp"), accessFlags := 18, slot := 2, constantValue := 0 }, { name := "expiresAt", type := .long, accessFlags := 18, slot := 3, constantValue := 0 }]
  methods := #[k2m0, k2m1]
  instanceTypes := #[(.array .byte), (.object "com/example/fawley/fawley/protocol/HlcTimestamp"), (.object "com/example/fawley/fawley/protocol/HlcTimestamp"), .long]
  staticTypes := #[.long]
  resolved := Array.replicate 58 none
  statics := none }

def pool3 : Array CpInfo := pool [(1, .class_ 2), (0, u "java/lang/Math"), (1, .class_ 6), (1, u "java/lang/Object"), (0, u "<init>"), (0, u "()V"), (89, .class_ 100), (1, u "java/lang/Math$RandomNumberGeneratorHolder"), (20, u "(JJ)J"), (50, u "negativeZeroFloatBits"), (0, u "J"), (2, u "negativeZeroDoubleBits"), (21, u "max"), (2, u "min"), (43, u "$assertionsDisabled"), (0, u "Z"), (91, u "twoToTheDoubleScaleDown"), (0, u "D"), (4, u "twoToTheDoubleScaleUp"), (9, u "E"), (3, u "PI"), (2, u "TAU"), (2, u "DEGREES_TO_RADIANS"), (0, u "RADIANS_TO_DEGREES")] 94

def k3m0 : Method := { name := "<init>", desc := "()V", sig := { parameters := [], returnType := none }, accessFlags := 2, code := none }
def k3c1 : Code := { maxStack := 4, maxLocals := 4, code := jdk_29_method_66_code, exceptionTable := #[], attributes := #[] }
def k3m1 : Method := { name := "max", desc := "(JJ)J", sig := { parameters := [.long, .long], returnType := some .long }, accessFlags := 9, code := some k3c1 }
def k3c2 : Code := { maxStack := 4, maxLocals := 4, code := jdk_29_method_70_code, exceptionTable := #[], attributes := #[] }
def k3m2 : Method := { name := "min", desc := "(JJ)J", sig := { parameters := [.long, .long], returnType := some .long }, accessFlags := 9, code := some k3c2 }
/-- java/lang/Math -/
def k3 : Class := { plain "java/lang/Math" (some 0) with
  accessFlags := 49
  interfaces := #[]
  cf := some (fileOf pool3 1 #[.nestMembers #[98]] #[{ accessFlags := 2, nameIndex := 7, descriptorIndex := 8, attributes := #[] }, { accessFlags := 9, nameIndex := 198, descriptorIndex := 121, attributes := #[] }, { accessFlags := 9, nameIndex := 201, descriptorIndex := 121, attributes := #[] }] 49 4 #[] #[{ accessFlags := 25, nameIndex := 354, descriptorIndex := 339, attributes := #[] }, { accessFlags := 25, nameIndex := 358, descriptorIndex := 339, attributes := #[] }, { accessFlags := 25, nameIndex := 361, descriptorIndex := 339, attributes := #[] }, { accessFlags := 26, nameIndex := 364, descriptorIndex := 339, attributes := #[] }, { accessFlags := 26, nameIndex := 365, descriptorIndex := 339, attributes := #[] }, { accessFlags := 26, nameIndex := 172, descriptorIndex := 173, attributes := #[] }, { accessFlags := 26, nameIndex := 176, descriptorIndex := 173, attributes := #[] }, { accessFlags := 8, nameIndex := 344, descriptorIndex := 339, attributes := #[] }, { accessFlags := 8, nameIndex := 338, descriptorIndex := 339, attributes := #[] }, { accessFlags := 4120, nameIndex := 245, descriptorIndex := 246, attributes := #[] }])
  fields := #[{ name := "E", type := .double, accessFlags := 25, slot := 0, constantValue := 0 }, { name := "PI", type := .double, accessFlags := 25, slot := 1, constantValue := 0 }, { name := "TAU", type := .double, accessFlags := 25, slot := 2, constantValue := 0 }, { name := "DEGREES_TO_RADIANS", type := .double, accessFlags := 26, slot := 3, constantValue := 0 }, { name := "RADIANS_TO_DEGREES", type := .double, accessFlags := 26, slot := 4, constantValue := 0 }, { name := "negativeZeroFloatBits", type := .long, accessFlags := 26, slot := 5, constantValue := 0 }, { name := "negativeZeroDoubleBits", type := .long, accessFlags := 26, slot := 6, constantValue := 0 }, { name := "twoToTheDoubleScaleUp", type := .double, accessFlags := 8, slot := 7, constantValue := 0 }, { name := "twoToTheDoubleScaleDown", type := .double, accessFlags := 8, slot := 8, constantValue := 0 }, { name := "$assertionsDisabled", type := .boolean, accessFlags := 4120, slot := 9, constantValue := 0 }]
  methods := #[k3m0, k3m1, k3m2]
  instanceTypes := #[]
  staticTypes := #[.double, .double, .double, .double, .double, .long, .long, .double, .double, .boolean]
  resolved := Array.replicate 460 none
  statics := none }

def pool4 : Array CpInfo := pool [(1, u "java/lang/Cloneable"), (0, .class_ 1), (0, u "java/lang/Object"), (0, .class_ 3)] 3

/-- java/lang/Cloneable -/
def k4 : Class := { plain "java/lang/Cloneable" (some 0) with
  accessFlags := 1537
  interfaces := #[]
  cf := some (fileOf pool4 2 #[] #[] 1537 4 #[] #[])
  fields := #[]
  methods := #[]
  instanceTypes := #[]
  staticTypes := #[]
  resolved := Array.replicate 8 none
  statics := none }

def pool5 : Array CpInfo := pool [(1, u "java/io/Serializable"), (0, .class_ 1), (0, u "java/lang/Object"), (0, .class_ 3)] 3

/-- java/io/Serializable -/
def k5 : Class := { plain "java/io/Serializable" (some 0) with
  accessFlags := 1537
  interfaces := #[]
  cf := some (fileOf pool5 2 #[] #[] 1537 4 #[] #[])
  fields := #[]
  methods := #[]
  instanceTypes := #[]
  staticTypes := #[]
  resolved := Array.replicate 8 none
  statics := none }

/-- the primitive byte -/
def k6 : Class := { plain "byte" none with kind := .primitive 'B', accessFlags := 0x411 }
/-- [B -/
def k7 : Class := { plain "[B" (some 0) with kind := .array 6 .byte, interfaces := #[4, 5], accessFlags := 1041 }

/-- the primitive int -/
def k8 : Class := { plain "int" none with kind := .primitive 'I', accessFlags := 0x411 }
/-- [I -/
def k9 : Class := { plain "[I" (some 0) with kind := .array 8 .int, interfaces := #[4, 5], accessFlags := 1041 }

def heap : Heap := #[]
def classes : Array Class := #[k0, k1, k2, k3, k4, k5, k6, k7, k8, k9]
def interned : List (Array UInt16 × Addr) := []
def slotsUsed : Nat := 0
def theMethod : MethodId := ⟨1, 1⟩
def args0 : Array Value := #[.long 5, .long 7, .long 2]
def aboutOver (below : List Frame) : State where
  vm := { classes := classes, interned := interned.toArray }
  heap := heap
  slotsUsed := slotsUsed
  threads := #[{ frames := .invoking theMethod args0 :: below }]
def below0 : List Frame := [.native { method := ⟨0, 0⟩, args := #[] }]
def about1 : State := aboutOver below0
def p0 : Program := .bare "" "" ""
def e0 : Env := launch0.env 0 0 0
theorem w_frames : about1.frames = Frame.invoking theMethod args0 :: below0 := rfl
set_option maxRecDepth 65536 in
theorem w_args : argsFit about1.vm theMethod args0 = true := by decide +kernel
set_option maxRecDepth 65536 in
theorem w_heap : heapFits about1 = true := by decide +kernel
set_option maxRecDepth 65536 in
theorem w_runnable : about1.curStatus? = some .runnable := by decide +kernel
set_option maxRecDepth 65536 in
theorem w_alone : about1.alone = true := by decide +kernel
set_option maxRecDepth 65536 in
theorem w_named : about1.methodNamed? x = some theMethod := by decide +kernel
set_option maxRecDepth 65536 in
theorem w_hears : about1.hears theMethod below0 = true := by decide +kernel
set_option maxRecDepth 65536 in
theorem w_ripe : about1.ripe theMethod args0 below0 = true := by decide +kernel
theorem w_running : about1.status = .running := rfl
set_option maxRecDepth 65536 in
theorem w_room : about1.hasRoom e0.platform room_1 = true :=
  launch0.hasRoom_least _ room_1 (by decide +kernel) (by decide +kernel) (by decide +kernel) (by decide +kernel) (by decide +kernel) (by decide +kernel)
theorem allAtoms_all (ts : List Jvm.Cond) (a : Array Jvm.Value) (st : Jvm.State) : (allAtoms ts).before a st = ts.all (fun c => c.before a st) := by
  induction ts with
  | nil => rfl
  | cons c t ih =>
    show (Jvm.Cond.and c (allAtoms t)).before a st = _
    rw [Jvm.Cond.before_and, ih, List.all_cons]
def words1 : List Jvm.Cond := Jvm.Cond.code x code maxLocals ret :: tables_1
/-- a 'code' word, met by the world's own term for the bytes: nothing is compared byte by byte -/
theorem code_word {y : MethodName} {bytes : ByteArray} {mx : Nat} {rt : Option FieldType} {a : Array Value} {s : State} {m : MethodId} {meth : Method} {c : Code} (h1 : s.methodNamed? y = some m) (h2 : s.vm.method? m = some meth) (h3 : meth.code = some c) (h4 : c.code = bytes)
    (h5 : (c.maxLocals == mx && c.exceptionTable.isEmpty && decide (c.maxStack ≤ mostOperands) && decide (meth.sig.returnType = rt) && !meth.locks && decide (parseMethodDescriptor y.desc = some meth.sig)) = true) : (Jvm.Cond.code y bytes mx rt).before a s = true := by
  simp only [Bool.and_eq_true, beq_iff_eq, Bool.not_eq_true', decide_eq_true_eq] at h5
  obtain ⟨⟨⟨⟨⟨g1, g2⟩, g3⟩, g4⟩, g5⟩, g6⟩ := h5
  simp [Cond.before, Cond.holds, Cond.value, h1, h2, h3, h4, g1, g2, g3, g4, g5, g6]
def isCode : Jvm.Cond → Bool
  | .code _ _ _ _ => true
  | _ => false
theorem all_split {L : List Jvm.Cond} {P : Jvm.Cond → Bool} (h1 : L.all (fun c => isCode c || P c) = true) (h2 : ∀ c ∈ L.filter isCode, P c = true) : L.all P = true := by
  refine List.all_eq_true.mpr fun c hc => ?_
  have h := List.all_eq_true.mp h1 c hc
  rcases Bool.eq_false_or_eq_true (isCode c) with hi | hi
  · exact h2 c (List.mem_filter.mpr ⟨hc, hi⟩)
  · simpa [hi] using h
set_option maxRecDepth 65536 in
theorem w_c0 : (Jvm.Cond.code x code maxLocals ret).before args0 about1 = true := code_word (m := ⟨1, 1⟩) (meth := k1m1) (c := k1c1) (by decide +kernel) rfl rfl rfl (by decide +kernel)
set_option maxRecDepth 65536 in
theorem w_c1 : (Jvm.Cond.code ({ cls := "com/example/fawley/fawley/store/StoredValue", name := "<init>", desc := "([BLcom/example/fawley/fawley/protocol/HlcTimestamp;Lcom/example/fawley/fawley/protocol/HlcTimestamp;J)V" } : Jvm.MethodName) prog_58_method_1_code (6 : Nat) (Option.none : Option Jvm.ClassFile.FieldType)).before args0 about1 = true := code_word (m := ⟨2, 0⟩) (meth := k2m0) (c := k2c0) (by decide +kernel) rfl rfl rfl (by decide +kernel)
set_option maxRecDepth 65536 in
theorem w_c2 : (Jvm.Cond.code ({ cls := "java/lang/Object", name := "<init>", desc := "()V" } : Jvm.MethodName) object_method_1_code (1 : Nat) (Option.none : Option Jvm.ClassFile.FieldType)).before args0 about1 = true := code_word (m := ⟨0, 0⟩) (meth := k0m0) (c := k0c0) (by decide +kernel) rfl rfl rfl (by decide +kernel)
set_option maxRecDepth 65536 in
theorem w_c3 : (Jvm.Cond.code ({ cls := "java/lang/Math", name := "min", desc := "(JJ)J" } : Jvm.MethodName) jdk_29_method_70_code (4 : Nat) (Option.some Jvm.ClassFile.FieldType.long)).before args0 about1 = true := code_word (m := ⟨3, 2⟩) (meth := k3m2) (c := k3c2) (by decide +kernel) rfl rfl rfl (by decide +kernel)
set_option maxRecDepth 65536 in
theorem w_c4 : (Jvm.Cond.code ({ cls := "java/lang/Math", name := "max", desc := "(JJ)J" } : Jvm.MethodName) jdk_29_method_66_code (4 : Nat) (Option.some Jvm.ClassFile.FieldType.long)).before args0 about1 = true := code_word (m := ⟨3, 1⟩) (meth := k3m1) (c := k3c1) (by decide +kernel) rfl rfl rfl (by decide +kernel)
set_option maxRecDepth 65536 in
theorem w_c5 : (Jvm.Cond.code ({ cls := "com/example/fawley/fawley/store/StoredValue", name := "hasExpiredAt", desc := "(J)Z" } : Jvm.MethodName) prog_58_method_6_code (3 : Nat) (Option.some Jvm.ClassFile.FieldType.boolean)).before args0 about1 = true := code_word (m := ⟨2, 1⟩) (meth := k2m1) (c := k2c1) (by decide +kernel) rfl rfl rfl (by decide +kernel)
def codes1 : List Jvm.Cond := [Jvm.Cond.code x code maxLocals ret, Jvm.Cond.code ({ cls := "com/example/fawley/fawley/store/StoredValue", name := "<init>", desc := "([BLcom/example/fawley/fawley/protocol/HlcTimestamp;Lcom/example/fawley/fawley/protocol/HlcTimestamp;J)V" } : Jvm.MethodName) prog_58_method_1_code (6 : Nat) (Option.none : Option Jvm.ClassFile.FieldType), Jvm.Cond.code ({ cls := "java/lang/Object", name := "<init>", desc := "()V" } : Jvm.MethodName) object_method_1_code (1 : Nat) (Option.none : Option Jvm.ClassFile.FieldType), Jvm.Cond.code ({ cls := "java/lang/Math", name := "min", desc := "(JJ)J" } : Jvm.MethodName) jdk_29_method_70_code (4 : Nat) (Option.some Jvm.ClassFile.FieldType.long), Jvm.Cond.code ({ cls := "java/lang/Math", name := "max", desc := "(JJ)J" } : Jvm.MethodName) jdk_29_method_66_code (4 : Nat) (Option.some Jvm.ClassFile.FieldType.long), Jvm.Cond.code ({ cls := "com/example/fawley/fawley/store/StoredValue", name := "hasExpiredAt", desc := "(J)Z" } : Jvm.MethodName) prog_58_method_6_code (3 : Nat) (Option.some Jvm.ClassFile.FieldType.boolean)]
set_option maxRecDepth 65536 in
theorem codes_eq : words1.filter isCode = codes1 := rfl
theorem w_codes : ∀ c ∈ words1.filter isCode, c.before args0 about1 = true := by
  rw [codes_eq]
  intro c hc
  simp only [codes1, List.mem_cons, List.not_mem_nil, or_false] at hc
  rcases hc with rfl | rfl | rfl | rfl | rfl | rfl
  · exact w_c0
  · exact w_c1
  · exact w_c2
  · exact w_c3
  · exact w_c4
  · exact w_c5
set_option maxRecDepth 65536 in
theorem w_t1 : (words1.take 24).all (fun c => isCode c || c.before args0 about1) = true := by decide +kernel
set_option maxRecDepth 65536 in
theorem w_t2 : (words1.drop 24).all (fun c => isCode c || c.before args0 about1) = true := by decide +kernel
theorem w_tables : (allAtoms (Jvm.Cond.code x code maxLocals ret :: tables_1)).before args0 about1 = true := by
  rw [allAtoms_all]
  show words1.all (fun c => c.before args0 about1) = true
  refine all_split ?_ w_codes
  rw [← List.take_append_drop 24 words1, List.all_append, w_t1, w_t2]
  rfl
set_option maxRecDepth 65536 in
theorem w_case : (Jvm.Cond.and given_1 narrow_1).before args0 about1 = true := by decide +kernel
theorem w_applies : (headSpec (Jvm.Cond.code x code maxLocals ret :: tables_1) room_1).applies x e0.platform about1 = true :=
  (Spec.applies_iff w_frames).mpr ⟨w_running, w_runnable, w_alone, w_named, w_hears, w_ripe, w_room, w_tables⟩
theorem atStart : AtStart classFile x code maxLocals ret World_1 tables_1 room_1 Calls_1 rest_1 Pre_1 launch0 p0 e0 about1 theMethod args0 below0 :=
  ⟨lists_1, trivial, launch0.admits_env _ _ _, launch0.least_env, fairChoices_fair.cas, fairChoices_fair.clock, w_frames, w_args, w_heap, w_applies, trivial, trivial, w_case⟩
end start1
theorem witness_1 : WitnessClaimed_1 := ⟨start1.p0, start1.e0, start1.about1, start1.theMethod, start1.args0, start1.below0, start1.atStart⟩
end Jvm.Pilot.@@N@@
