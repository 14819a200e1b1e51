import JvmDerived
import JvmDerived.Pilot.@@N@@Statement
import JvmDerived.Pilot.@@N@@Code
set_option linter.unusedVariables false
set_option linter.unusedSimpArgs false
namespace Jvm.Pilot.@@N@@
open Jvm Jvm.ClassFile Sem Op Lib Jvm.Free Jvm.Stand Jvm.LawKit Jvm.RoadKit Bundle Jvm.Pilot.@@N@@.Jvm.D
theorem own_w {a0 : Array Value} {Z : State} {d : Jvm.Cond} (hw : ∀ d ∈ tables_1, d.before a0 Z = true) (i : Nat) (h : tables_1[i]? = some d) : d.before a0 Z = true := hw _ (List.mem_of_getElem? h)
abbrev lvI (x : Int32) : Slot := .val (.int x)
abbrev lvR (x : Addr) : Slot := .val (.ref x)
abbrev own_S (p : Program) (e : Env) (b : List Frame) (m : MethodId) (T : State) (pc : Nat) (l : Array Slot) (st : List Value) (t : State) : Prop := Steps p.tables e b (T.setTop (mkF m pc l st)) t
section Own
variable {p : Program} {l : Launch} {e : Env} {R : Room} {s : State} {m : MethodId} {args : Array Value} {below : List Frame} {meth : Method} {c : Code} {T : State} {locs : List Loc} {cells slots : Nat} {Z : State} {a0 : Array Value} {h : Heap}
theorem own_ready (X : Stand p l e R s m args below meth c T locs cells slots) (hZ : Z.Warmed39 s.vm) {own R0 O n d : String} {index : Nat} (hown : s.vm.findClass own = some m.cls) (w : (Jvm.Cond.fieldRef own index R0 n d).before a0 Z = true) (via : Via Z R0 O n d) {cf i : Nat} {k : Class} {f : Field} (h2 : Z.fieldFound? O n d = some (cf, k, i, f)) : T.vm.fieldReady m.cls index cf f := by
  have hU : Z.Warmed39 T.vm := wtrans hZ X.warmed
  have w' : (Jvm.Cond.fieldRef own index R0 n d).before a0 (Z.setVm T.vm) = true := Cond.fieldRef_warmed39 hU w
  have ho : (Z.setVm T.vm).vm.findClass own = some m.cls := by
    show T.vm.findClass own = _
    rw [X.warmed.alike.findClass]; exact hown
  obtain ⟨c1, k1, i1, f1, q1, q2⟩ := Cond.fieldRef_spec ho w'
  obtain ⟨k', hi, -⟩ := State.fieldFound?_setVm (s := Z) hU.alike (via _ h2)
  cases hi.symm.trans q1
  exact q2
theorem own_getR (X : Stand p l e R s m args below meth c T locs cells slots) (hx : p.tables.exec = Jvm.exec) (hZ : Z.Warmed39 s.vm) {own R0 O n d : String} {index : Nat} (hown : s.vm.findClass own = some m.cls) (w : (Jvm.Cond.fieldRef own index R0 n d).before a0 Z = true) (via : Via Z R0 O n d)
    (eT : T.heap = h) {a : Addr} {v : Value} (F : Fld Z h a O n d v) {g : JFrame} (hg : g.method = m) {rest : List Value} (hs : g.stack = .ref a :: rest) (hd : decode c.code g.pc = .ok (.getfield index, 3)) : ∃ T', Stand p l e R s m args below meth c T' locs cells slots ∧ T'.heap = h ∧ ∀ target, Steps p.tables e below (T'.setTop { g with pc := g.pc + 3, stack := v :: rest }) target → Steps p.tables e below (T.setTop g) target := by
  obtain ⟨cell, cf, k, i, f, h1, h2, h3, h4, -, -, h7⟩ := F
  exact ⟨T, X, eT, fun target hr => (X.getfieldR hx hg (own_ready X hZ hown w via h2) h3 hs (by rw [eT]; exact h1) h4 h7 hd (Steps.refl _)).trans hr⟩
theorem own_putR (X : Stand p l e R s m args below meth c T locs cells slots) (hx : p.tables.exec = Jvm.exec) (hZ : Z.Warmed39 s.vm) {own R0 O n d C : String} {index kk : Nat} {ty : FieldType} (hown : s.vm.findClass own = some m.cls) (w : (Jvm.Cond.fieldRef own index R0 n d).before a0 Z = true) (via : Via Z R0 O n d)
    (eT : T.heap = h) {a : Addr} {v old : Value} (F : Fld Z h a O n d old) (E : Exa Z h a C) (L : (Jvm.Cond.lays C O n d).before a0 Z = true) (wi : (Jvm.Cond.instantiable C kk).before a0 Z = true)
    (hty : parseFieldDescriptor d = some ty) (hn : narrow ty v = v) (hf : fits ty v = true) {g : JFrame} (hg : g.method = m) {rest : List Value} (hs : g.stack = v :: .ref a :: rest) (hd : decode c.code g.pc = .ok (.putfield index, 3)) :
    ∃ T' h', Stand p l e R s m args below meth c T' (locs ++ [⟨a, Jvm.RoadKit.slotOf Z O n d⟩]) cells slots ∧ T'.heap = h' ∧ Wr h h' a (Jvm.RoadKit.slotOf Z O n d) v ∧ ∀ target, Steps p.tables e below (T'.setTop { g with pc := g.pc + 3, stack := rest }) target → Steps p.tables e below (T.setTop g) target := by
  obtain ⟨cell, cf, k, i, f, h1, h2, h3, h4, h5, -, h7⟩ := F
  obtain ⟨cell', kc, e1, e2, e3, -⟩ := E
  cases h1.symm.trans e1
  obtain ⟨c1, k1, cf1, kf1, i1, f1, a1, a2, a3, -, -, a6, -⟩ := Laid.spec (Or.inl L)
  cases h2.symm.trans a3
  cases e2.symm.trans a1
  obtain ⟨c2, k2, i1, i2, i3, -⟩ := Cond.instantiable_spec wi
  cases e2.symm.trans i1
  cases a2.symm.trans i2
  have ht := (State.fieldFound?_type h2 hty).2
  have hU : Z.Warmed39 T.vm := wtrans hZ X.warmed
  have hfit : Z.fitsSlot cell.cls cell.vm f.slot v = true := by
    have q : Z.slotType? cell.cls cell.vm f.slot = some ty := by
      simp only [State.slotType?, a2, Option.bind_eq_bind, Option.bind_some, i3]
      cases hq : cell.vm <;> first | (rw [hq] at h5; exact Bool.noConfusion h5) | (rw [a6, ht])
    simp [State.fitsSlot, q, hf]
  have hfit' : T.fitsSlot cell.cls cell.vm f.slot v = true := by
    rw [← State.fitsSlot_setVm hU.alike] at hfit; exact hfit
  obtain ⟨_, _, _, _, _, _, -, -, b3, -, b5, -⟩ := Cond.lays_spec L
  cases h2.symm.trans b3
  have hlt := (Array.getElem?_eq_some_iff.mp h7).1
  have es : Jvm.RoadKit.slotOf Z O n d = f.slot := by simp [Jvm.RoadKit.slotOf, h2]
  rw [es]
  obtain ⟨X', st⟩ := X.putfieldReady hx (own_ready X hZ hown w via h2) h3 (Or.inl b5) (by rw [eT]; exact h1) h4 hlt (by rw [ht]; exact hn) hfit' hg hs hd
  exact ⟨_, _, X', rfl, ⟨cell, h1, h5, hlt, by rw [← eT]; rfl⟩, st⟩
end Own
theorem own_and3 (x : Int32) : (x &&& (3 : Int32)) = (0 : Int32) ∨ (x &&& (3 : Int32)) = (1 : Int32) ∨ (x &&& (3 : Int32)) = (2 : Int32) ∨ (x &&& (3 : Int32)) = (3 : Int32) := by
  have h1 := c_mask x 3 2 (by decide) (by decide)
  have h3 : (x &&& (3 : Int32)).toInt = 0 ∨ (x &&& (3 : Int32)).toInt = 1 ∨ (x &&& (3 : Int32)).toInt = 2 ∨ (x &&& (3 : Int32)).toInt = 3 := by rw [h1]; omega
  rcases h3 with h | h | h | h
  · exact (Or.inl (Int32.toInt_inj.mp h))
  · exact (Or.inr (Or.inl (Int32.toInt_inj.mp h)))
  · exact (Or.inr (Or.inr (Or.inl (Int32.toInt_inj.mp h))))
  · exact (Or.inr (Or.inr (Or.inr (Int32.toInt_inj.mp h))))
theorem d1_0 : decode prog_8_method_1_code 0 = .ok (.aload_n 0, 1) := by decide +kernel
theorem d1_1 : decode prog_8_method_1_code 1 = .ok (.invokespecial 3, 3) := by decide +kernel
theorem d1_4 : decode prog_8_method_1_code 4 = .ok (.return_, 1) := by decide +kernel
theorem pn_0 : plainName "latchwork/WaitQueue" = true := by first | (simp [plainName, overriddenIn]; done) | decide +kernel
theorem efinit1 (m : MethodId) (o0_ : Addr) : entryFrame m #[(.ref o0_)] 1 = mkF m 0 #[lvR o0_] [] := by first | (simp [entryFrame, mkF, argsToLocals, Value.category]; done) | rfl
def Qinit1 (Z : State) (o0_ : Addr) (h0 : Heap) (n0 : Nat) (v : Option Value) (h : Heap) (L : List Loc) : Prop := v = none ∧ Fr n0 L ∧ h = h0
set_option maxRecDepth 65536 in
set_option maxHeartbeats 40000000 in
theorem rminit1 (l : Launch) (Z : State) (a0 : Array Value) (hw : ∀ d ∈ tables_1, d.before a0 Z = true) (ws : List Jvm.Cond) (o0_ : Addr) (h0 : Heap) (n0 : Nat) (O0 : Old Z n0 h0) (P0 : Exa Z h0 o0_ "latchwork/WaitQueue") (P1 : Fld Z h0 o0_ "latchwork/WaitQueue" "head" "Llatchwork/WaitQueue$Waiter;" .null) (P2 : Fld Z h0 o0_ "latchwork/WaitQueue" "size" "I" (.int (0 : Int32))) (P3 : Fld Z h0 o0_ "latchwork/WaitQueue" "tail" "Llatchwork/WaitQueue$Waiter;" .null) :
    MetFree l (⟨"latchwork/WaitQueue", "<init>", "()V"⟩ : MethodName) (head1 (Jvm.Cond.code (⟨"latchwork/WaitQueue", "<init>", "()V"⟩ : MethodName) prog_8_method_1_code 1 none :: ws) ({ frames := 1, cells := 0, slots := 0, locals := 12 } : Room)) (fun a U => a = #[(.ref o0_)] ∧ Z.Warmed39 U.vm ∧ U.heap = h0) (fun _ _ _ _ _ => True) (fun _ U o U' => ∃ v L, o = .returned v ∧ Qinit1 Z o0_ h0 n0 v U'.heap L ∧ FrameEnd U o U' L ({ frames := 1, cells := 0, slots := 0, locals := 12 } : Room).cells ({ frames := 1, cells := 0, slots := 0, locals := 12 } : Room).slots) := by
  refine MetFree.of_bodySF (plainFor_of_name pn_0) hisR ?_
  intro p e s m args below meth c s₁ Bd hml0 hP hK
  obtain ⟨rfl, hZ, hh⟩ := hP
  have hx := Bd.exec
  have hby := Bd.bytes
  have hml : c.maxLocals = 1 := hml0
  have hown : s.vm.findClass "latchwork/WaitQueue" = some m.cls := findClass_of_methodNamed Bd.named
  have hnm := (name_of_methodNamed Bd.named Bd.method).1
  have X0 : Stand p l e ({ frames := 1, cells := 0, slots := 0, locals := 12 } : Room) s m #[(.ref o0_)] below meth c s₁ [] 0 0 := Stand.of_body Bd
  have e0 : s₁.heap = h0 := by rw [← hh, Bd.state]; rfl
  have N0 := Fr.nil n0
  obtain ⟨G, pre0, hG⟩ : ∃ G : State → Prop, (∀ t, own_S p e below m s₁ 0 #[lvR o0_] [] t → G t) ∧ (∀ t, G t → Steps p.tables e below (s₁.setTop (entryFrame m #[(.ref o0_)] 1)) t) := ⟨fun t => Steps p.tables e below (s₁.setTop (entryFrame m #[(.ref o0_)] 1)) t, fun t k => castTop (efinit1 m o0_) k, fun _ k => k⟩
  have K0 : Keep h0 h0 [] := Keep.refl _ _
  obtain ⟨T1, X1, e1, st1⟩ := initO X0 hx hZ hown (own_w hw 6 rfl) (own_w hw 7 rfl) (own_w hw 8 rfl) e0 (g := (mkF m 1 #[lvR o0_] [(.ref o0_)])) rfl (by rw [hml]; rfl) rfl (hb hby d1_1) (by decide) (W := 0) (by show 2 * 0 + _ ≤ _; exact Nat.le_of_eq rfl) (by decide)
  have pre2 : ∀ t, own_S p e below m T1 4 #[lvR o0_] [] t → G t := by
    intro t kt
    refine pre0 t ?_
    show own_S p e below m s₁ 0 #[lvR o0_] [] _
    refine XS.aloadN X0.here hx rfl (hb hby d1_0) rfl rfl ?_
    show own_S p e below m s₁ 1 #[lvR o0_] [(.ref o0_)] _
    refine st1 _ ?_
    exact kt
  obtain ⟨fs, hr, hrun, hended, hW, hsame⟩ := X1.leave (v := none) (fun _ => rfl)
  refine ⟨_, _, hG _ (pre2 _ (X1.returnOut hx Bd.returns (hb hby d1_4) hr)), hrun, hended, _, _, rfl, ?_, ⟨_, rfl⟩, hW, hsame.mono (by decide) (by decide)⟩
  show Qinit1 Z o0_ h0 n0 _ T1.heap _
  rw [e1]
  exact ⟨rfl, N0, rfl⟩
theorem pd_0 : parseMethodDescriptor "()V" = some ⟨[], none⟩ := by decide +kernel
abbrev cn0 : String := "latchwork/WaitQueue$Waiter"
theorem d2_0 : decode prog_9_method_1_code 0 = .ok (.aload_n 0, 1) := by decide +kernel
theorem d2_1 : decode prog_9_method_1_code 1 = .ok (.invokespecial 1, 3) := by decide +kernel
theorem d2_4 : decode prog_9_method_1_code 4 = .ok (.aload_n 0, 1) := by decide +kernel
theorem d2_5 : decode prog_9_method_1_code 5 = .ok (.aload_n 1, 1) := by decide +kernel
theorem d2_6 : decode prog_9_method_1_code 6 = .ok (.putfield 7, 3) := by decide +kernel
theorem d2_9 : decode prog_9_method_1_code 9 = .ok (.return_, 1) := by decide +kernel
theorem pn_1 : plainName "latchwork/WaitQueue$Waiter" = true := by first | (simp [plainName, overriddenIn]; done) | decide +kernel
theorem efinit2 (m : MethodId) (o0_ : Addr) : entryFrame m #[(.ref o0_), .null] 2 = mkF m 0 #[lvR o0_, .val .null] [] := by first | (simp [entryFrame, mkF, argsToLocals, Value.category]; done) | rfl
def Qinit2 (Z : State) (o0_ : Addr) (h0 : Heap) (n0 : Nat) (v : Option Value) (h : Heap) (L : List Loc) : Prop := v = none ∧ Fr n0 L ∧ Keep h0 h [o0_] ∧ Exa Z h o0_ cn0 ∧ Fld Z h o0_ cn0 "thread" "Ljava/lang/Thread;" .null ∧ Fld Z h o0_ cn0 "picked" "Z" (.int (0 : Int32)) ∧ Fld Z h o0_ cn0 "queued" "Z" (.int (0 : Int32)) ∧ Fld Z h o0_ cn0 "next" "Llatchwork/WaitQueue$Waiter;" .null ∧ Fld Z h o0_ cn0 "prev" "Llatchwork/WaitQueue$Waiter;" .null
set_option maxRecDepth 65536 in
set_option maxHeartbeats 40000000 in
theorem rminit2 (l : Launch) (Z : State) (a0 : Array Value) (hw : ∀ d ∈ tables_1, d.before a0 Z = true) (ws : List Jvm.Cond) (o0_ : Addr) (h0 : Heap) (n0 : Nat) (O0 : Old Z n0 h0) (P0 : Exa Z h0 o0_ cn0) (P1 : Fld Z h0 o0_ cn0 "thread" "Ljava/lang/Thread;" .null) (P2 : Fld Z h0 o0_ cn0 "picked" "Z" (.int (0 : Int32))) (P3 : Fld Z h0 o0_ cn0 "queued" "Z" (.int (0 : Int32))) (P4 : Fld Z h0 o0_ cn0 "next" "Llatchwork/WaitQueue$Waiter;" .null) (P5 : Fld Z h0 o0_ cn0 "prev" "Llatchwork/WaitQueue$Waiter;" .null) (P6 : n0 ≤ o0_) :
    MetFree l (⟨"latchwork/WaitQueue$Waiter", "<init>", "(Ljava/lang/Thread;)V"⟩ : MethodName) (head1 (Jvm.Cond.code (⟨"latchwork/WaitQueue$Waiter", "<init>", "(Ljava/lang/Thread;)V"⟩ : MethodName) prog_9_method_1_code 2 none :: ws) ({ frames := 1, cells := 0, slots := 0, locals := 12 } : Room)) (fun a U => a = #[(.ref o0_), .null] ∧ Z.Warmed39 U.vm ∧ U.heap = h0) (fun _ _ _ _ _ => True) (fun _ U o U' => ∃ v L, o = .returned v ∧ Qinit2 Z o0_ h0 n0 v U'.heap L ∧ FrameEnd U o U' L ({ frames := 1, cells := 0, slots := 0, locals := 12 } : Room).cells ({ frames := 1, cells := 0, slots := 0, locals := 12 } : Room).slots) := by
  refine MetFree.of_bodySF (plainFor_of_name pn_1) hisR ?_
  intro p e s m args below meth c s₁ Bd hml0 hP hK
  obtain ⟨rfl, hZ, hh⟩ := hP
  have hx := Bd.exec
  have hby := Bd.bytes
  have hml : c.maxLocals = 2 := hml0
  have hown : s.vm.findClass "latchwork/WaitQueue$Waiter" = some m.cls := findClass_of_methodNamed Bd.named
  have hnm := (name_of_methodNamed Bd.named Bd.method).1
  have X0 : Stand p l e ({ frames := 1, cells := 0, slots := 0, locals := 12 } : Room) s m #[(.ref o0_), .null] below meth c s₁ [] 0 0 := Stand.of_body Bd
  have e0 : s₁.heap = h0 := by rw [← hh, Bd.state]; rfl
  have N0 := Fr.nil n0
  obtain ⟨G, pre0, hG⟩ : ∃ G : State → Prop, (∀ t, own_S p e below m s₁ 0 #[lvR o0_, .val .null] [] t → G t) ∧ (∀ t, G t → Steps p.tables e below (s₁.setTop (entryFrame m #[(.ref o0_), .null] 2)) t) := ⟨fun t => Steps p.tables e below (s₁.setTop (entryFrame m #[(.ref o0_), .null] 2)) t, fun t k => castTop (efinit2 m o0_) k, fun _ k => k⟩
  have K0 : Keep h0 h0 [o0_] := Keep.refl _ _
  obtain ⟨T1, X1, e1, st1⟩ := initO X0 hx hZ hown (own_w hw 15 rfl) (own_w hw 7 rfl) (own_w hw 8 rfl) e0 (g := (mkF m 1 #[lvR o0_, .val .null] [(.ref o0_)])) rfl (by rw [hml]; rfl) rfl (hb hby d2_1) (by decide) (W := 0) (by show 2 * 0 + _ ≤ _; exact Nat.le_of_eq rfl) (by decide)
  obtain ⟨T2, h2, X2, e2, W2, st2⟩ := putF X1 hx hZ hown (host := "") (Or.inl (own_w hw 16 rfl)) Via.refl e1 P1 P0 (Or.inr ⟨(own_w hw 17 rfl), rfl, hnm⟩) (own_w hw 10 rfl) (ty := (.object "java/lang/Thread")) (by decide) rfl rfl (g := (mkF m 6 #[lvR o0_, .val .null] [.null, (.ref o0_)])) rfl rfl (hb hby d2_6)
  have N3 := Fr.snoc X2 N0 P6
  have f4 : Fld Z h2 o0_ cn0 "thread" "Ljava/lang/Thread;" .null := P1.same W2
  have pre5 : ∀ t, own_S p e below m T2 9 #[lvR o0_, .val .null] [] t → G t := by
    intro t kt
    refine pre0 t ?_
    show own_S p e below m s₁ 0 #[lvR o0_, .val .null] [] _
    refine XS.aloadN X0.here hx rfl (hb hby d2_0) rfl rfl ?_
    show own_S p e below m s₁ 1 #[lvR o0_, .val .null] [(.ref o0_)] _
    refine st1 _ ?_
    refine XS.aloadN X1.here hx rfl (hb hby d2_4) rfl rfl ?_
    refine XS.aloadN X1.here hx rfl (hb hby d2_5) rfl rfl ?_
    show own_S p e below m T1 6 #[lvR o0_, .val .null] [.null, (.ref o0_)] _
    refine st2 _ ?_
    exact kt
  have f7 : Keep h0 h2 [o0_] := K0.wr W2 (Or.inl (List.mem_of_getElem? (i := 0) rfl))
  have f8 : Exa Z h2 o0_ cn0 := P0.wr W2
  have f9 : Fld Z h2 o0_ cn0 "picked" "Z" (.int (0 : Int32)) := P2.other W2 (Or.inr (slot_ne (Or.inl (own_w hw 49 rfl)) (Or.inr (own_w hw 17 rfl)) (by decide) (t := .boolean) (t' := (.object "java/lang/Thread")) (by decide) (by decide)))
  have f10 : Fld Z h2 o0_ cn0 "queued" "Z" (.int (0 : Int32)) := P3.other W2 (Or.inr (slot_ne (Or.inl (own_w hw 51 rfl)) (Or.inr (own_w hw 17 rfl)) (by decide) (t := .boolean) (t' := (.object "java/lang/Thread")) (by decide) (by decide)))
  have f11 : Fld Z h2 o0_ cn0 "next" "Llatchwork/WaitQueue$Waiter;" .null := P4.other W2 (Or.inr (slot_ne (Or.inl (own_w hw 53 rfl)) (Or.inr (own_w hw 17 rfl)) (by decide) (t := (.object "latchwork/WaitQueue$Waiter")) (t' := (.object "java/lang/Thread")) (by decide) (by decide)))
  have f12 : Fld Z h2 o0_ cn0 "prev" "Llatchwork/WaitQueue$Waiter;" .null := P5.other W2 (Or.inr (slot_ne (Or.inl (own_w hw 55 rfl)) (Or.inr (own_w hw 17 rfl)) (by decide) (t := (.object "latchwork/WaitQueue$Waiter")) (t' := (.object "java/lang/Thread")) (by decide) (by decide)))
  obtain ⟨fs, hr, hrun, hended, hW, hsame⟩ := X2.leave (v := none) (fun _ => rfl)
  refine ⟨_, _, hG _ (pre5 _ (X2.returnOut hx Bd.returns (hb hby d2_9) hr)), hrun, hended, _, _, rfl, ?_, ⟨_, rfl⟩, hW, hsame.mono (by decide) (by decide)⟩
  show Qinit2 Z o0_ h0 n0 _ T2.heap _
  rw [e2]
  exact ⟨rfl, N3, f7, f8, f4, f9, f10, f11, f12⟩
theorem pd_1 : parseMethodDescriptor "(Ljava/lang/Thread;)V" = some ⟨[(.object "java/lang/Thread")], none⟩ := by decide +kernel
theorem d3_0 : decode prog_8_method_8_code 0 = .ok (.aload_n 0, 1) := by decide +kernel
theorem d3_1 : decode prog_8_method_8_code 1 = .ok (.getfield 37, 3) := by decide +kernel
theorem d3_4 : decode prog_8_method_8_code 4 = .ok (.astore_n 1, 1) := by decide +kernel
theorem d3_5 : decode prog_8_method_8_code 5 = .ok (.aload_n 1, 1) := by decide +kernel
theorem d3_6 : decode prog_8_method_8_code 6 = .ok (.ifnull 9, 3) := by decide +kernel
theorem d3_15 : decode prog_8_method_8_code 15 = .ok (.aload_n 1, 1) := by decide +kernel
theorem d3_16 : decode prog_8_method_8_code 16 = .ok (.areturn, 1) := by decide +kernel
theorem efpoll3 (m : MethodId) (o0_ : Addr) : entryFrame m #[(.ref o0_)] 2 = mkF m 0 #[lvR o0_, .unset] [] := by first | (simp [entryFrame, mkF, argsToLocals, Value.category]; done) | rfl
def Qpoll3 (Z : State) (o0_ : Addr) (h0 : Heap) (n0 : Nat) (v : Option Value) (h : Heap) (L : List Loc) : Prop := v = some .null ∧ Fr n0 L ∧ h = h0
set_option maxRecDepth 65536 in
set_option maxHeartbeats 40000000 in
theorem rmpoll3 (l : Launch) (Z : State) (a0 : Array Value) (hw : ∀ d ∈ tables_1, d.before a0 Z = true) (ws : List Jvm.Cond) (o0_ : Addr) (h0 : Heap) (n0 : Nat) (O0 : Old Z n0 h0) (P0 : Exa Z h0 o0_ "latchwork/WaitQueue") (P1 : Fld Z h0 o0_ "latchwork/WaitQueue" "head" "Llatchwork/WaitQueue$Waiter;" .null) (P2 : Fld Z h0 o0_ "latchwork/WaitQueue" "size" "I" (.int (0 : Int32))) (P3 : Fld Z h0 o0_ "latchwork/WaitQueue" "tail" "Llatchwork/WaitQueue$Waiter;" .null) :
    MetFree l (⟨"latchwork/WaitQueue", "poll", "()Llatchwork/WaitQueue$Waiter;"⟩ : MethodName) (head1 (Jvm.Cond.code (⟨"latchwork/WaitQueue", "poll", "()Llatchwork/WaitQueue$Waiter;"⟩ : MethodName) prog_8_method_8_code 2 (some (.object "latchwork/WaitQueue$Waiter")) :: ws) ({ frames := 0, cells := 0, slots := 0, locals := 0 } : Room)) (fun a U => a = #[(.ref o0_)] ∧ Z.Warmed39 U.vm ∧ U.heap = h0) (fun _ _ _ _ _ => True) (fun _ U o U' => ∃ v L, o = .returned v ∧ Qpoll3 Z o0_ h0 n0 v U'.heap L ∧ FrameEnd U o U' L ({ frames := 0, cells := 0, slots := 0, locals := 0 } : Room).cells ({ frames := 0, cells := 0, slots := 0, locals := 0 } : Room).slots) := by
  refine MetFree.of_bodySF (plainFor_of_name pn_0) hisR ?_
  intro p e s m args below meth c s₁ Bd hml0 hP hK
  obtain ⟨rfl, hZ, hh⟩ := hP
  have hx := Bd.exec
  have hby := Bd.bytes
  have hml : c.maxLocals = 2 := hml0
  have hown : s.vm.findClass "latchwork/WaitQueue" = some m.cls := findClass_of_methodNamed Bd.named
  have hnm := (name_of_methodNamed Bd.named Bd.method).1
  have X0 : Stand p l e ({ frames := 0, cells := 0, slots := 0, locals := 0 } : Room) s m #[(.ref o0_)] below meth c s₁ [] 0 0 := Stand.of_body Bd
  have e0 : s₁.heap = h0 := by rw [← hh, Bd.state]; rfl
  have N0 := Fr.nil n0
  obtain ⟨G, pre0, hG⟩ : ∃ G : State → Prop, (∀ t, own_S p e below m s₁ 0 #[lvR o0_, .unset] [] t → G t) ∧ (∀ t, G t → Steps p.tables e below (s₁.setTop (entryFrame m #[(.ref o0_)] 2)) t) := ⟨fun t => Steps p.tables e below (s₁.setTop (entryFrame m #[(.ref o0_)] 2)) t, fun t k => castTop (efpoll3 m o0_) k, fun _ k => k⟩
  have K0 : Keep h0 h0 [] := Keep.refl _ _
  obtain ⟨T1, X1, e1, st1⟩ := getF X0 hx hZ hown (host := "") (Or.inl (own_w hw 23 rfl)) Via.refl e0 P1 (g := (mkF m 1 #[lvR o0_, .unset] [(.ref o0_)])) rfl rfl (hb hby d3_1)
  have pre2 : ∀ t, own_S p e below m T1 16 #[lvR o0_, .val .null] [.null] t → G t := by
    intro t kt
    refine pre0 t ?_
    show own_S p e below m s₁ 0 #[lvR o0_, .unset] [] _
    refine XS.aloadN X0.here hx rfl (hb hby d3_0) rfl rfl ?_
    show own_S p e below m s₁ 1 #[lvR o0_, .unset] [(.ref o0_)] _
    refine st1 _ ?_
    refine XS.astoreN X1.here hx rfl (hb hby d3_4) rfl rfl (l' := #[lvR o0_, .val .null]) rfl ?_
    refine XS.aloadN X1.here hx rfl (hb hby d3_5) rfl rfl ?_
    show own_S p e below m T1 6 #[lvR o0_, .val .null] [.null] _
    refine XS.ifnullYes X1.here hx rfl (pc0 := 6) (pc' := 15) rfl (hb hby d3_6) rfl (by decide) (by decide) ?_
    refine XS.aloadN X1.here hx rfl (hb hby d3_15) rfl rfl ?_
    exact kt
  obtain ⟨fs, hr, hrun, hended, hW, hsame⟩ := X1.leave (v := some .null) (fun h => by rw [Bd.returns] at h; cases h)
  refine ⟨_, _, hG _ (pre2 _ (retOut X1 hx Bd.returns rfl (Or.inr (Or.inr (Or.inr (Or.inr ⟨rfl, rfl, rfl⟩)))) (hb hby d3_16) hr)), hrun, hended, _, _, rfl, ?_, ⟨_, rfl⟩, hW, hsame.mono (by decide) (by decide)⟩
  show Qpoll3 Z o0_ h0 n0 _ T1.heap _
  rw [e1]
  exact ⟨rfl, N0, rfl⟩
theorem pd_2 : parseMethodDescriptor "()Llatchwork/WaitQueue$Waiter;" = some ⟨[], some (.object "latchwork/WaitQueue$Waiter")⟩ := by decide +kernel
theorem d4_0 : decode prog_8_method_4_code 0 = .ok (.aload_n 0, 1) := by decide +kernel
theorem d4_1 : decode prog_8_method_4_code 1 = .ok (.getfield 33, 3) := by decide +kernel
theorem d4_4 : decode prog_8_method_4_code 4 = .ok (.ireturn, 1) := by decide +kernel
theorem efsize4 (m : MethodId) (o0_ : Addr) : entryFrame m #[(.ref o0_)] 1 = mkF m 0 #[lvR o0_] [] := by first | (simp [entryFrame, mkF, argsToLocals, Value.category]; done) | rfl
def Qsize4 (Z : State) (o0_ : Addr) (h0 : Heap) (n0 : Nat) (v : Option Value) (h : Heap) (L : List Loc) : Prop := v = some (.int (0 : Int32)) ∧ Fr n0 L ∧ h = h0
set_option maxRecDepth 65536 in
set_option maxHeartbeats 40000000 in
theorem rmsize4 (l : Launch) (Z : State) (a0 : Array Value) (hw : ∀ d ∈ tables_1, d.before a0 Z = true) (ws : List Jvm.Cond) (o0_ : Addr) (h0 : Heap) (n0 : Nat) (O0 : Old Z n0 h0) (P0 : Exa Z h0 o0_ "latchwork/WaitQueue") (P1 : Fld Z h0 o0_ "latchwork/WaitQueue" "head" "Llatchwork/WaitQueue$Waiter;" .null) (P2 : Fld Z h0 o0_ "latchwork/WaitQueue" "size" "I" (.int (0 : Int32))) (P3 : Fld Z h0 o0_ "latchwork/WaitQueue" "tail" "Llatchwork/WaitQueue$Waiter;" .null) :
    MetFree l (⟨"latchwork/WaitQueue", "size", "()I"⟩ : MethodName) (head1 (Jvm.Cond.code (⟨"latchwork/WaitQueue", "size", "()I"⟩ : MethodName) prog_8_method_4_code 1 (some .int) :: ws) ({ frames := 0, cells := 0, slots := 0, locals := 0 } : Room)) (fun a U => a = #[(.ref o0_)] ∧ Z.Warmed39 U.vm ∧ U.heap = h0) (fun _ _ _ _ _ => True) (fun _ U o U' => ∃ v L, o = .returned v ∧ Qsize4 Z o0_ h0 n0 v U'.heap L ∧ FrameEnd U o U' L ({ frames := 0, cells := 0, slots := 0, locals := 0 } : Room).cells ({ frames := 0, cells := 0, slots := 0, locals := 0 } : Room).slots) := by
  refine MetFree.of_bodySF (plainFor_of_name pn_0) hisR ?_
  intro p e s m args below meth c s₁ Bd hml0 hP hK
  obtain ⟨rfl, hZ, hh⟩ := hP
  have hx := Bd.exec
  have hby := Bd.bytes
  have hml : c.maxLocals = 1 := hml0
  have hown : s.vm.findClass "latchwork/WaitQueue" = some m.cls := findClass_of_methodNamed Bd.named
  have hnm := (name_of_methodNamed Bd.named Bd.method).1
  have X0 : Stand p l e ({ frames := 0, cells := 0, slots := 0, locals := 0 } : Room) s m #[(.ref o0_)] below meth c s₁ [] 0 0 := Stand.of_body Bd
  have e0 : s₁.heap = h0 := by rw [← hh, Bd.state]; rfl
  have N0 := Fr.nil n0
  obtain ⟨G, pre0, hG⟩ : ∃ G : State → Prop, (∀ t, own_S p e below m s₁ 0 #[lvR o0_] [] t → G t) ∧ (∀ t, G t → Steps p.tables e below (s₁.setTop (entryFrame m #[(.ref o0_)] 1)) t) := ⟨fun t => Steps p.tables e below (s₁.setTop (entryFrame m #[(.ref o0_)] 1)) t, fun t k => castTop (efsize4 m o0_) k, fun _ k => k⟩
  have K0 : Keep h0 h0 [] := Keep.refl _ _
  obtain ⟨T1, X1, e1, st1⟩ := getF X0 hx hZ hown (host := "") (Or.inl (own_w hw 30 rfl)) Via.refl e0 P2 (g := (mkF m 1 #[lvR o0_] [(.ref o0_)])) rfl rfl (hb hby d4_1)
  have pre2 : ∀ t, own_S p e below m T1 4 #[lvR o0_] [(.int (0 : Int32))] t → G t := by
    intro t kt
    refine pre0 t ?_
    show own_S p e below m s₁ 0 #[lvR o0_] [] _
    refine XS.aloadN X0.here hx rfl (hb hby d4_0) rfl rfl ?_
    show own_S p e below m s₁ 1 #[lvR o0_] [(.ref o0_)] _
    refine st1 _ ?_
    exact kt
  obtain ⟨fs, hr, hrun, hended, hW, hsame⟩ := X1.leave (v := some (.int (0 : Int32))) (fun h => by rw [Bd.returns] at h; cases h)
  refine ⟨_, _, hG _ (pre2 _ (retOut X1 hx Bd.returns rfl (Or.inl ⟨rfl, Or.inl rfl, _, rfl⟩) (hb hby d4_4) hr)), hrun, hended, _, _, rfl, ?_, ⟨_, rfl⟩, hW, hsame.mono (by decide) (by decide)⟩
  show Qsize4 Z o0_ h0 n0 _ T1.heap _
  rw [e1]
  exact ⟨rfl, N0, rfl⟩
theorem pd_3 : parseMethodDescriptor "()I" = some ⟨[], some .int⟩ := by decide +kernel
theorem d5_0 : decode jdk_29_method_65_code 0 = .ok (.iload_n 0, 1) := by decide +kernel
theorem d5_1 : decode jdk_29_method_65_code 1 = .ok (.iload_n 1, 1) := by decide +kernel
theorem d5_2 : decode jdk_29_method_65_code 2 = .ok (.if_icmp .lt 7, 3) := by decide +kernel
theorem d5_9 : decode jdk_29_method_65_code 9 = .ok (.iload_n 1, 1) := by decide +kernel
theorem d5_10 : decode jdk_29_method_65_code 10 = .ok (.ireturn, 1) := by decide +kernel
theorem efmax5 (m : MethodId)  : entryFrame m #[(.int (-1 : Int32)), (.int (0 : Int32))] 2 = mkF m 0 #[lvI (-1 : Int32), lvI (0 : Int32)] [] := by first | (simp [entryFrame, mkF, argsToLocals, Value.category]; done) | rfl
def Qmax5 (Z : State)  (h0 : Heap) (n0 : Nat) (v : Option Value) (h : Heap) (L : List Loc) : Prop := v = some (.int (0 : Int32)) ∧ Fr n0 L ∧ h = h0
set_option maxRecDepth 65536 in
set_option maxHeartbeats 40000000 in
theorem rmmax5 (l : Launch) (Z : State) (a0 : Array Value) (hw : ∀ d ∈ tables_1, d.before a0 Z = true) (ws : List Jvm.Cond)  (h0 : Heap) (n0 : Nat) (O0 : Old Z n0 h0)  :
    MetFree l (⟨"java/lang/Math", "max", "(II)I"⟩ : MethodName) (head1 (Jvm.Cond.code (⟨"java/lang/Math", "max", "(II)I"⟩ : MethodName) jdk_29_method_65_code 2 (some .int) :: ws) ({ frames := 0, cells := 0, slots := 0, locals := 0 } : Room)) (fun a U => a = #[(.int (-1 : Int32)), (.int (0 : Int32))] ∧ Z.Warmed39 U.vm ∧ U.heap = h0) (fun _ _ _ _ _ => True) (fun _ U o U' => ∃ v L, o = .returned v ∧ Qmax5 Z  h0 n0 v U'.heap L ∧ FrameEnd U o U' L ({ frames := 0, cells := 0, slots := 0, locals := 0 } : Room).cells ({ frames := 0, cells := 0, slots := 0, locals := 0 } : Room).slots) := by
  refine MetFree.of_bodySF (Jvm.Free.JP.mathPlain rfl (by decide +kernel)) hisR ?_
  intro p e s m args below meth c s₁ Bd hml0 hP hK
  obtain ⟨rfl, hZ, hh⟩ := hP
  have hx := Bd.exec
  have hby := Bd.bytes
  have hml : c.maxLocals = 2 := hml0
  have hown : s.vm.findClass "java/lang/Math" = some m.cls := findClass_of_methodNamed Bd.named
  have hnm := (name_of_methodNamed Bd.named Bd.method).1
  have X0 : Stand p l e ({ frames := 0, cells := 0, slots := 0, locals := 0 } : Room) s m #[(.int (-1 : Int32)), (.int (0 : Int32))] below meth c s₁ [] 0 0 := Stand.of_body Bd
  have e0 : s₁.heap = h0 := by rw [← hh, Bd.state]; rfl
  have N0 := Fr.nil n0
  obtain ⟨G, pre0, hG⟩ : ∃ G : State → Prop, (∀ t, own_S p e below m s₁ 0 #[lvI (-1 : Int32), lvI (0 : Int32)] [] t → G t) ∧ (∀ t, G t → Steps p.tables e below (s₁.setTop (entryFrame m #[(.int (-1 : Int32)), (.int (0 : Int32))] 2)) t) := ⟨fun t => Steps p.tables e below (s₁.setTop (entryFrame m #[(.int (-1 : Int32)), (.int (0 : Int32))] 2)) t, fun t k => castTop (efmax5 m ) k, fun _ k => k⟩
  have K0 : Keep h0 h0 [] := Keep.refl _ _
  have pre1 : ∀ t, own_S p e below m s₁ 10 #[lvI (-1 : Int32), lvI (0 : Int32)] [(.int (0 : Int32))] t → G t := by
    intro t kt
    refine pre0 t ?_
    show own_S p e below m s₁ 0 #[lvI (-1 : Int32), lvI (0 : Int32)] [] _
    refine XS.iloadN X0.here hx rfl (hb hby d5_0) rfl ?_
    refine XS.iloadN X0.here hx rfl (hb hby d5_1) rfl ?_
    show own_S p e below m s₁ 2 #[lvI (-1 : Int32), lvI (0 : Int32)] [(.int (0 : Int32)), (.int (-1 : Int32))] _
    refine XS.icmpYes X0.here hx rfl (pc0 := 2) (pc' := 9) rfl (hb hby d5_2) rfl (tlt (by decide : (-1 : Int32) < (0 : Int32))).1 (by decide) (by decide) ?_
    refine XS.iloadN X0.here hx rfl (hb hby d5_9) rfl ?_
    exact kt
  obtain ⟨fs, hr, hrun, hended, hW, hsame⟩ := X0.leave (v := some (.int (0 : Int32))) (fun h => by rw [Bd.returns] at h; cases h)
  refine ⟨_, _, hG _ (pre1 _ (retOut X0 hx Bd.returns rfl (Or.inl ⟨rfl, Or.inl rfl, _, rfl⟩) (hb hby d5_10) hr)), hrun, hended, _, _, rfl, ?_, ⟨_, rfl⟩, hW, hsame.mono (by decide) (by decide)⟩
  show Qmax5 Z  h0 n0 _ s₁.heap _
  rw [e0]
  exact ⟨rfl, N0, rfl⟩
theorem pd_4 : parseMethodDescriptor "(II)I" = some ⟨[.int, .int], some .int⟩ := by decide +kernel
theorem d6_0 : decode prog_8_method_6_code 0 = .ok (.aload_n 0, 1) := by decide +kernel
theorem d6_1 : decode prog_8_method_6_code 1 = .ok (.getfield 37, 3) := by decide +kernel
theorem d6_4 : decode prog_8_method_6_code 4 = .ok (.areturn, 1) := by decide +kernel
theorem effirst6 (m : MethodId) (o0_ : Addr) : entryFrame m #[(.ref o0_)] 1 = mkF m 0 #[lvR o0_] [] := by first | (simp [entryFrame, mkF, argsToLocals, Value.category]; done) | rfl
def Qfirst6 (Z : State) (o0_ : Addr) (h0 : Heap) (n0 : Nat) (v : Option Value) (h : Heap) (L : List Loc) : Prop := v = some .null ∧ Fr n0 L ∧ h = h0
set_option maxRecDepth 65536 in
set_option maxHeartbeats 40000000 in
theorem rmfirst6 (l : Launch) (Z : State) (a0 : Array Value) (hw : ∀ d ∈ tables_1, d.before a0 Z = true) (ws : List Jvm.Cond) (o0_ : Addr) (h0 : Heap) (n0 : Nat) (O0 : Old Z n0 h0) (P0 : Exa Z h0 o0_ "latchwork/WaitQueue") (P1 : Fld Z h0 o0_ "latchwork/WaitQueue" "head" "Llatchwork/WaitQueue$Waiter;" .null) (P2 : Fld Z h0 o0_ "latchwork/WaitQueue" "size" "I" (.int (0 : Int32))) (P3 : Fld Z h0 o0_ "latchwork/WaitQueue" "tail" "Llatchwork/WaitQueue$Waiter;" .null) :
    MetFree l (⟨"latchwork/WaitQueue", "first", "()Llatchwork/WaitQueue$Waiter;"⟩ : MethodName) (head1 (Jvm.Cond.code (⟨"latchwork/WaitQueue", "first", "()Llatchwork/WaitQueue$Waiter;"⟩ : MethodName) prog_8_method_6_code 1 (some (.object "latchwork/WaitQueue$Waiter")) :: ws) ({ frames := 0, cells := 0, slots := 0, locals := 0 } : Room)) (fun a U => a = #[(.ref o0_)] ∧ Z.Warmed39 U.vm ∧ U.heap = h0) (fun _ _ _ _ _ => True) (fun _ U o U' => ∃ v L, o = .returned v ∧ Qfirst6 Z o0_ h0 n0 v U'.heap L ∧ FrameEnd U o U' L ({ frames := 0, cells := 0, slots := 0, locals := 0 } : Room).cells ({ frames := 0, cells := 0, slots := 0, locals := 0 } : Room).slots) := by
  refine MetFree.of_bodySF (plainFor_of_name pn_0) hisR ?_
  intro p e s m args below meth c s₁ Bd hml0 hP hK
  obtain ⟨rfl, hZ, hh⟩ := hP
  have hx := Bd.exec
  have hby := Bd.bytes
  have hml : c.maxLocals = 1 := hml0
  have hown : s.vm.findClass "latchwork/WaitQueue" = some m.cls := findClass_of_methodNamed Bd.named
  have hnm := (name_of_methodNamed Bd.named Bd.method).1
  have X0 : Stand p l e ({ frames := 0, cells := 0, slots := 0, locals := 0 } : Room) s m #[(.ref o0_)] below meth c s₁ [] 0 0 := Stand.of_body Bd
  have e0 : s₁.heap = h0 := by rw [← hh, Bd.state]; rfl
  have N0 := Fr.nil n0
  obtain ⟨G, pre0, hG⟩ : ∃ G : State → Prop, (∀ t, own_S p e below m s₁ 0 #[lvR o0_] [] t → G t) ∧ (∀ t, G t → Steps p.tables e below (s₁.setTop (entryFrame m #[(.ref o0_)] 1)) t) := ⟨fun t => Steps p.tables e below (s₁.setTop (entryFrame m #[(.ref o0_)] 1)) t, fun t k => castTop (effirst6 m o0_) k, fun _ k => k⟩
  have K0 : Keep h0 h0 [] := Keep.refl _ _
  obtain ⟨T1, X1, e1, st1⟩ := getF X0 hx hZ hown (host := "") (Or.inl (own_w hw 23 rfl)) Via.refl e0 P1 (g := (mkF m 1 #[lvR o0_] [(.ref o0_)])) rfl rfl (hb hby d6_1)
  have pre2 : ∀ t, own_S p e below m T1 4 #[lvR o0_] [.null] t → G t := by
    intro t kt
    refine pre0 t ?_
    show own_S p e below m s₁ 0 #[lvR o0_] [] _
    refine XS.aloadN X0.here hx rfl (hb hby d6_0) rfl rfl ?_
    show own_S p e below m s₁ 1 #[lvR o0_] [(.ref o0_)] _
    refine st1 _ ?_
    exact kt
  obtain ⟨fs, hr, hrun, hended, hW, hsame⟩ := X1.leave (v := some .null) (fun h => by rw [Bd.returns] at h; cases h)
  refine ⟨_, _, hG _ (pre2 _ (retOut X1 hx Bd.returns rfl (Or.inr (Or.inr (Or.inr (Or.inr ⟨rfl, rfl, rfl⟩)))) (hb hby d6_4) hr)), hrun, hended, _, _, rfl, ?_, ⟨_, rfl⟩, hW, hsame.mono (by decide) (by decide)⟩
  show Qfirst6 Z o0_ h0 n0 _ T1.heap _
  rw [e1]
  exact ⟨rfl, N0, rfl⟩
theorem d7_0 : decode prog_8_method_5_code 0 = .ok (.aload_n 0, 1) := by decide +kernel
theorem d7_1 : decode prog_8_method_5_code 1 = .ok (.getfield 37, 3) := by decide +kernel
theorem d7_4 : decode prog_8_method_5_code 4 = .ok (.ifnonnull 16, 3) := by decide +kernel
theorem d7_7 : decode prog_8_method_5_code 7 = .ok (.aload_n 0, 1) := by decide +kernel
theorem d7_8 : decode prog_8_method_5_code 8 = .ok (.aload_n 1, 1) := by decide +kernel
theorem d7_9 : decode prog_8_method_5_code 9 = .ok (.putfield 37, 3) := by decide +kernel
theorem d7_12 : decode prog_8_method_5_code 12 = .ok (.aload_n 0, 1) := by decide +kernel
theorem d7_13 : decode prog_8_method_5_code 13 = .ok (.aload_n 1, 1) := by decide +kernel
theorem d7_14 : decode prog_8_method_5_code 14 = .ok (.putfield 41, 3) := by decide +kernel
theorem d7_17 : decode prog_8_method_5_code 17 = .ok (.goto 52, 3) := by decide +kernel
theorem d7_69 : decode prog_8_method_5_code 69 = .ok (.aload_n 1, 1) := by decide +kernel
theorem d7_70 : decode prog_8_method_5_code 70 = .ok (.iconst 0, 1) := by decide +kernel
theorem d7_71 : decode prog_8_method_5_code 71 = .ok (.putfield 52, 3) := by decide +kernel
theorem d7_74 : decode prog_8_method_5_code 74 = .ok (.aload_n 1, 1) := by decide +kernel
theorem d7_75 : decode prog_8_method_5_code 75 = .ok (.iconst 1, 1) := by decide +kernel
theorem d7_76 : decode prog_8_method_5_code 76 = .ok (.putfield 56, 3) := by decide +kernel
theorem d7_79 : decode prog_8_method_5_code 79 = .ok (.aload_n 0, 1) := by decide +kernel
theorem d7_80 : decode prog_8_method_5_code 80 = .ok (.dup, 1) := by decide +kernel
theorem d7_81 : decode prog_8_method_5_code 81 = .ok (.getfield 33, 3) := by decide +kernel
theorem d7_84 : decode prog_8_method_5_code 84 = .ok (.iconst 1, 1) := by decide +kernel
theorem d7_85 : decode prog_8_method_5_code 85 = .ok (.iadd, 1) := by decide +kernel
theorem d7_86 : decode prog_8_method_5_code 86 = .ok (.putfield 33, 3) := by decide +kernel
theorem d7_89 : decode prog_8_method_5_code 89 = .ok (.return_, 1) := by decide +kernel
theorem efadd7 (m : MethodId) (o0_ : Addr) (o1_ : Addr) (x0_ : Int32) : entryFrame m #[(.ref o0_), (.ref o1_), (.int x0_)] 3 = mkF m 0 #[lvR o0_, lvR o1_, lvI x0_] [] := by first | (simp [entryFrame, mkF, argsToLocals, Value.category]; done) | rfl
def Qadd7 (Z : State) (o0_ : Addr) (o1_ : Addr) (x0_ : Int32) (h0 : Heap) (n0 : Nat) (v : Option Value) (h : Heap) (L : List Loc) : Prop := v = none ∧ Fr n0 L ∧ Keep h0 h [o0_, o1_] ∧ Exa Z h o0_ "latchwork/WaitQueue" ∧ Fld Z h o0_ "latchwork/WaitQueue" "head" "Llatchwork/WaitQueue$Waiter;" (.ref o1_) ∧ Fld Z h o0_ "latchwork/WaitQueue" "size" "I" (.int (1 : Int32)) ∧ Fld Z h o0_ "latchwork/WaitQueue" "tail" "Llatchwork/WaitQueue$Waiter;" (.ref o1_) ∧ Exa Z h o1_ cn0 ∧ Fld Z h o1_ cn0 "thread" "Ljava/lang/Thread;" .null ∧ Fld Z h o1_ cn0 "picked" "Z" (.int (0 : Int32)) ∧ Fld Z h o1_ cn0 "queued" "Z" (.int (1 : Int32)) ∧ Fld Z h o1_ cn0 "next" "Llatchwork/WaitQueue$Waiter;" .null ∧ Fld Z h o1_ cn0 "prev" "Llatchwork/WaitQueue$Waiter;" .null
set_option maxRecDepth 65536 in
set_option maxHeartbeats 40000000 in
theorem rmadd7 (l : Launch) (Z : State) (a0 : Array Value) (hw : ∀ d ∈ tables_1, d.before a0 Z = true) (ws : List Jvm.Cond) (o0_ : Addr) (o1_ : Addr) (x0_ : Int32) (h0 : Heap) (n0 : Nat) (O0 : Old Z n0 h0) (P0 : Exa Z h0 o0_ "latchwork/WaitQueue") (P1 : Fld Z h0 o0_ "latchwork/WaitQueue" "head" "Llatchwork/WaitQueue$Waiter;" .null) (P2 : Fld Z h0 o0_ "latchwork/WaitQueue" "size" "I" (.int (0 : Int32))) (P3 : Fld Z h0 o0_ "latchwork/WaitQueue" "tail" "Llatchwork/WaitQueue$Waiter;" .null) (P4 : Exa Z h0 o1_ cn0) (P5 : Fld Z h0 o1_ cn0 "thread" "Ljava/lang/Thread;" .null) (P6 : Fld Z h0 o1_ cn0 "picked" "Z" (.int (0 : Int32))) (P7 : Fld Z h0 o1_ cn0 "queued" "Z" (.int (0 : Int32))) (P8 : Fld Z h0 o1_ cn0 "next" "Llatchwork/WaitQueue$Waiter;" .null) (P9 : Fld Z h0 o1_ cn0 "prev" "Llatchwork/WaitQueue$Waiter;" .null) (P10 : n0 ≤ o0_) (P11 : o1_ ≠ o0_) (P12 : n0 ≤ o1_) :
    MetFree l (⟨"latchwork/WaitQueue", "add", "(Llatchwork/WaitQueue$Waiter;Z)V"⟩ : MethodName) (head1 (Jvm.Cond.code (⟨"latchwork/WaitQueue", "add", "(Llatchwork/WaitQueue$Waiter;Z)V"⟩ : MethodName) prog_8_method_5_code 3 none :: ws) ({ frames := 0, cells := 0, slots := 0, locals := 0 } : Room)) (fun a U => a = #[(.ref o0_), (.ref o1_), (.int x0_)] ∧ Z.Warmed39 U.vm ∧ U.heap = h0) (fun _ _ _ _ _ => True) (fun _ U o U' => ∃ v L, o = .returned v ∧ Qadd7 Z o0_ o1_ x0_ h0 n0 v U'.heap L ∧ FrameEnd U o U' L ({ frames := 0, cells := 0, slots := 0, locals := 0 } : Room).cells ({ frames := 0, cells := 0, slots := 0, locals := 0 } : Room).slots) := by
  refine MetFree.of_bodySF (plainFor_of_name pn_0) hisR ?_
  intro p e s m args below meth c s₁ Bd hml0 hP hK
  obtain ⟨rfl, hZ, hh⟩ := hP
  have hx := Bd.exec
  have hby := Bd.bytes
  have hml : c.maxLocals = 3 := hml0
  have hown : s.vm.findClass "latchwork/WaitQueue" = some m.cls := findClass_of_methodNamed Bd.named
  have hnm := (name_of_methodNamed Bd.named Bd.method).1
  have X0 : Stand p l e ({ frames := 0, cells := 0, slots := 0, locals := 0 } : Room) s m #[(.ref o0_), (.ref o1_), (.int x0_)] below meth c s₁ [] 0 0 := Stand.of_body Bd
  have e0 : s₁.heap = h0 := by rw [← hh, Bd.state]; rfl
  have N0 := Fr.nil n0
  obtain ⟨G, pre0, hG⟩ : ∃ G : State → Prop, (∀ t, own_S p e below m s₁ 0 #[lvR o0_, lvR o1_, lvI x0_] [] t → G t) ∧ (∀ t, G t → Steps p.tables e below (s₁.setTop (entryFrame m #[(.ref o0_), (.ref o1_), (.int x0_)] 3)) t) := ⟨fun t => Steps p.tables e below (s₁.setTop (entryFrame m #[(.ref o0_), (.ref o1_), (.int x0_)] 3)) t, fun t k => castTop (efadd7 m o0_ o1_ x0_) k, fun _ k => k⟩
  have K0 : Keep h0 h0 [o0_, o1_] := Keep.refl _ _
  obtain ⟨T1, X1, e1, st1⟩ := getF X0 hx hZ hown (host := "") (Or.inl (own_w hw 23 rfl)) Via.refl e0 P1 (g := (mkF m 1 #[lvR o0_, lvR o1_, lvI x0_] [(.ref o0_)])) rfl rfl (hb hby d7_1)
  obtain ⟨T2, h2, X2, e2, W2, st2⟩ := putF X1 hx hZ hown (host := "") (Or.inl (own_w hw 23 rfl)) Via.refl e1 P1 P0 (Or.inl (own_w hw 24 rfl)) (own_w hw 1 rfl) (ty := (.object "latchwork/WaitQueue$Waiter")) (by decide) rfl rfl (g := (mkF m 9 #[lvR o0_, lvR o1_, lvI x0_] [(.ref o1_), (.ref o0_)])) rfl rfl (hb hby d7_9)
  have N3 := Fr.snoc X2 N0 P10
  have f4 : Fld Z h2 o0_ "latchwork/WaitQueue" "head" "Llatchwork/WaitQueue$Waiter;" (.ref o1_) := P1.same W2
  have f5 : Fld Z h2 o0_ "latchwork/WaitQueue" "tail" "Llatchwork/WaitQueue$Waiter;" .null := P3.other W2 (Or.inr (slot_ne (Or.inl (own_w hw 47 rfl)) (Or.inl (own_w hw 24 rfl)) (by decide) (t := (.object "latchwork/WaitQueue$Waiter")) (t' := (.object "latchwork/WaitQueue$Waiter")) (by decide) (by decide)))
  have f6 : Exa Z h2 o0_ "latchwork/WaitQueue" := P0.wr W2
  obtain ⟨T7, h7, X7, e7, W7, st7⟩ := putF X2 hx hZ hown (host := "") (Or.inl (own_w hw 46 rfl)) Via.refl e2 f5 f6 (Or.inl (own_w hw 47 rfl)) (own_w hw 1 rfl) (ty := (.object "latchwork/WaitQueue$Waiter")) (by decide) rfl rfl (g := (mkF m 14 #[lvR o0_, lvR o1_, lvI x0_] [(.ref o1_), (.ref o0_)])) rfl rfl (hb hby d7_14)
  have N8 := Fr.snoc X7 N3 P10
  have f9 : Fld Z h7 o0_ "latchwork/WaitQueue" "tail" "Llatchwork/WaitQueue$Waiter;" (.ref o1_) := f5.same W7
  have f10 : Fld Z h2 o1_ cn0 "picked" "Z" (.int (0 : Int32)) := P6.other W2 (Or.inl P11)
  have f11 : Fld Z h7 o1_ cn0 "picked" "Z" (.int (0 : Int32)) := f10.other W7 (Or.inl P11)
  have f12 : Exa Z h2 o1_ cn0 := P4.wr W2
  have f13 : Exa Z h7 o1_ cn0 := f12.wr W7
  obtain ⟨T14, h14, X14, e14, W14, st14⟩ := own_putR X7 hx hZ hown (own_w hw 48 rfl) Via.refl e7 f11 f13 (own_w hw 49 rfl) (own_w hw 10 rfl) (ty := .boolean) (by decide) rfl rfl (g := (mkF m 71 #[lvR o0_, lvR o1_, lvI x0_] [(.int (0 : Int32)), (.ref o1_)])) rfl rfl (hb hby d7_71)
  have N15 := Fr.snoc X14 N8 P12
  have f16 : Fld Z h14 o1_ cn0 "picked" "Z" (.int (0 : Int32)) := f11.same W14
  have f17 : Fld Z h2 o1_ cn0 "queued" "Z" (.int (0 : Int32)) := P7.other W2 (Or.inl P11)
  have f18 : Fld Z h7 o1_ cn0 "queued" "Z" (.int (0 : Int32)) := f17.other W7 (Or.inl P11)
  have f19 : Fld Z h14 o1_ cn0 "queued" "Z" (.int (0 : Int32)) := f18.other W14 (Or.inr (slot_ne (Or.inl (own_w hw 51 rfl)) (Or.inl (own_w hw 49 rfl)) (by decide) (t := .boolean) (t' := .boolean) (by decide) (by decide)))
  have f20 : Exa Z h14 o1_ cn0 := f13.wr W14
  obtain ⟨T21, h21, X21, e21, W21, st21⟩ := own_putR X14 hx hZ hown (own_w hw 50 rfl) Via.refl e14 f19 f20 (own_w hw 51 rfl) (own_w hw 10 rfl) (ty := .boolean) (by decide) rfl rfl (g := (mkF m 76 #[lvR o0_, lvR o1_, lvI x0_] [(.int (1 : Int32)), (.ref o1_)])) rfl rfl (hb hby d7_76)
  have N22 := Fr.snoc X21 N15 P12
  have f23 : Fld Z h21 o1_ cn0 "queued" "Z" (.int (1 : Int32)) := f19.same W21
  have f24 : Fld Z h2 o0_ "latchwork/WaitQueue" "size" "I" (.int (0 : Int32)) := P2.other W2 (Or.inr (slot_ne (Or.inl (own_w hw 31 rfl)) (Or.inl (own_w hw 24 rfl)) (by decide) (t := .int) (t' := (.object "latchwork/WaitQueue$Waiter")) (by decide) (by decide)))
  have f25 : Fld Z h7 o0_ "latchwork/WaitQueue" "size" "I" (.int (0 : Int32)) := f24.other W7 (Or.inr (slot_ne (Or.inl (own_w hw 31 rfl)) (Or.inl (own_w hw 47 rfl)) (by decide) (t := .int) (t' := (.object "latchwork/WaitQueue$Waiter")) (by decide) (by decide)))
  have f26 : Fld Z h14 o0_ "latchwork/WaitQueue" "size" "I" (.int (0 : Int32)) := f25.other W14 (Or.inl (Ne.symm P11))
  have f27 : Fld Z h21 o0_ "latchwork/WaitQueue" "size" "I" (.int (0 : Int32)) := f26.other W21 (Or.inl (Ne.symm P11))
  obtain ⟨T28, X28, e28, st28⟩ := getF X21 hx hZ hown (host := "") (Or.inl (own_w hw 30 rfl)) Via.refl e21 f27 (g := (mkF m 81 #[lvR o0_, lvR o1_, lvI x0_] [(.ref o0_), (.ref o0_)])) rfl rfl (hb hby d7_81)
  have f29 : Exa Z h7 o0_ "latchwork/WaitQueue" := f6.wr W7
  have f30 : Exa Z h14 o0_ "latchwork/WaitQueue" := f29.wr W14
  have f31 : Exa Z h21 o0_ "latchwork/WaitQueue" := f30.wr W21
  obtain ⟨T32, h32, X32, e32, W32, st32⟩ := putF X28 hx hZ hown (host := "") (Or.inl (own_w hw 30 rfl)) Via.refl e28 f27 f31 (Or.inl (own_w hw 31 rfl)) (own_w hw 1 rfl) (ty := .int) (by decide) rfl rfl (g := (mkF m 86 #[lvR o0_, lvR o1_, lvI x0_] [(.int (1 : Int32)), (.ref o0_)])) rfl rfl (hb hby d7_86)
  have N33 := Fr.snoc X32 N22 P10
  have f34 : Fld Z h32 o0_ "latchwork/WaitQueue" "size" "I" (.int (1 : Int32)) := f27.same W32
  have pre35 : ∀ t, own_S p e below m T32 89 #[lvR o0_, lvR o1_, lvI x0_] [] t → G t := by
    intro t kt
    refine pre0 t ?_
    show own_S p e below m s₁ 0 #[lvR o0_, lvR o1_, lvI x0_] [] _
    refine XS.aloadN X0.here hx rfl (hb hby d7_0) rfl rfl ?_
    show own_S p e below m s₁ 1 #[lvR o0_, lvR o1_, lvI x0_] [(.ref o0_)] _
    refine st1 _ ?_
    show own_S p e below m T1 4 #[lvR o0_, lvR o1_, lvI x0_] [.null] _
    refine XS.ifnonnullNo X1.here hx rfl (hb hby d7_4) rfl ?_
    refine XS.aloadN X1.here hx rfl (hb hby d7_7) rfl rfl ?_
    refine XS.aloadN X1.here hx rfl (hb hby d7_8) rfl rfl ?_
    show own_S p e below m T1 9 #[lvR o0_, lvR o1_, lvI x0_] [(.ref o1_), (.ref o0_)] _
    refine st2 _ ?_
    refine XS.aloadN X2.here hx rfl (hb hby d7_12) rfl rfl ?_
    refine XS.aloadN X2.here hx rfl (hb hby d7_13) rfl rfl ?_
    show own_S p e below m T2 14 #[lvR o0_, lvR o1_, lvI x0_] [(.ref o1_), (.ref o0_)] _
    refine st7 _ ?_
    refine XS.goto X7.here hx rfl (pc0 := 17) (pc' := 69) rfl (hb hby d7_17) (by decide) (by decide) ?_
    refine XS.aloadN X7.here hx rfl (hb hby d7_69) rfl rfl ?_
    refine XS.iconst X7.here hx rfl (hb hby d7_70) ?_
    show own_S p e below m T7 71 #[lvR o0_, lvR o1_, lvI x0_] [(.int (0 : Int32)), (.ref o1_)] _
    refine st14 _ ?_
    refine XS.aloadN X14.here hx rfl (hb hby d7_74) rfl rfl ?_
    refine XS.iconst X14.here hx rfl (hb hby d7_75) ?_
    show own_S p e below m T14 76 #[lvR o0_, lvR o1_, lvI x0_] [(.int (1 : Int32)), (.ref o1_)] _
    refine st21 _ ?_
    refine XS.aloadN X21.here hx rfl (hb hby d7_79) rfl rfl ?_
    refine XS.dup X21.here hx rfl (hb hby d7_80) rfl rfl ?_
    show own_S p e below m T21 81 #[lvR o0_, lvR o1_, lvI x0_] [(.ref o0_), (.ref o0_)] _
    refine st28 _ ?_
    refine XS.iconst X28.here hx rfl (hb hby d7_84) ?_
    refine XS.iadd X28.here hx rfl (hb hby d7_85) rfl ?_
    show own_S p e below m T28 86 #[lvR o0_, lvR o1_, lvI x0_] [(.int (1 : Int32)), (.ref o0_)] _
    refine st32 _ ?_
    exact kt
  have f37 : Keep h0 h2 [o0_, o1_] := K0.wr W2 (Or.inl (List.mem_of_getElem? (i := 0) rfl))
  have f38 : Keep h0 h7 [o0_, o1_] := f37.wr W7 (Or.inl (List.mem_of_getElem? (i := 0) rfl))
  have f39 : Keep h0 h14 [o0_, o1_] := f38.wr W14 (Or.inl (List.mem_of_getElem? (i := 1) rfl))
  have f40 : Keep h0 h21 [o0_, o1_] := f39.wr W21 (Or.inl (List.mem_of_getElem? (i := 1) rfl))
  have f41 : Keep h0 h32 [o0_, o1_] := f40.wr W32 (Or.inl (List.mem_of_getElem? (i := 0) rfl))
  have f42 : Exa Z h32 o0_ "latchwork/WaitQueue" := f31.wr W32
  have f43 : Fld Z h7 o0_ "latchwork/WaitQueue" "head" "Llatchwork/WaitQueue$Waiter;" (.ref o1_) := f4.other W7 (Or.inr (slot_ne (Or.inl (own_w hw 24 rfl)) (Or.inl (own_w hw 47 rfl)) (by decide) (t := (.object "latchwork/WaitQueue$Waiter")) (t' := (.object "latchwork/WaitQueue$Waiter")) (by decide) (by decide)))
  have f44 : Fld Z h14 o0_ "latchwork/WaitQueue" "head" "Llatchwork/WaitQueue$Waiter;" (.ref o1_) := f43.other W14 (Or.inl (Ne.symm P11))
  have f45 : Fld Z h21 o0_ "latchwork/WaitQueue" "head" "Llatchwork/WaitQueue$Waiter;" (.ref o1_) := f44.other W21 (Or.inl (Ne.symm P11))
  have f46 : Fld Z h32 o0_ "latchwork/WaitQueue" "head" "Llatchwork/WaitQueue$Waiter;" (.ref o1_) := f45.other W32 (Or.inr (slot_ne (Or.inl (own_w hw 24 rfl)) (Or.inl (own_w hw 31 rfl)) (by decide) (t := (.object "latchwork/WaitQueue$Waiter")) (t' := .int) (by decide) (by decide)))
  have f47 : Fld Z h14 o0_ "latchwork/WaitQueue" "tail" "Llatchwork/WaitQueue$Waiter;" (.ref o1_) := f9.other W14 (Or.inl (Ne.symm P11))
  have f48 : Fld Z h21 o0_ "latchwork/WaitQueue" "tail" "Llatchwork/WaitQueue$Waiter;" (.ref o1_) := f47.other W21 (Or.inl (Ne.symm P11))
  have f49 : Fld Z h32 o0_ "latchwork/WaitQueue" "tail" "Llatchwork/WaitQueue$Waiter;" (.ref o1_) := f48.other W32 (Or.inr (slot_ne (Or.inl (own_w hw 47 rfl)) (Or.inl (own_w hw 31 rfl)) (by decide) (t := (.object "latchwork/WaitQueue$Waiter")) (t' := .int) (by decide) (by decide)))
  have f50 : Exa Z h21 o1_ cn0 := f20.wr W21
  have f51 : Exa Z h32 o1_ cn0 := f50.wr W32
  have f52 : Fld Z h2 o1_ cn0 "thread" "Ljava/lang/Thread;" .null := P5.other W2 (Or.inl P11)
  have f53 : Fld Z h7 o1_ cn0 "thread" "Ljava/lang/Thread;" .null := f52.other W7 (Or.inl P11)
  have f54 : Fld Z h14 o1_ cn0 "thread" "Ljava/lang/Thread;" .null := f53.other W14 (Or.inr (slot_ne (Or.inr (own_w hw 17 rfl)) (Or.inl (own_w hw 49 rfl)) (by decide) (t := (.object "java/lang/Thread")) (t' := .boolean) (by decide) (by decide)))
  have f55 : Fld Z h21 o1_ cn0 "thread" "Ljava/lang/Thread;" .null := f54.other W21 (Or.inr (slot_ne (Or.inr (own_w hw 17 rfl)) (Or.inl (own_w hw 51 rfl)) (by decide) (t := (.object "java/lang/Thread")) (t' := .boolean) (by decide) (by decide)))
  have f56 : Fld Z h32 o1_ cn0 "thread" "Ljava/lang/Thread;" .null := f55.other W32 (Or.inl P11)
  have f57 : Fld Z h21 o1_ cn0 "picked" "Z" (.int (0 : Int32)) := f16.other W21 (Or.inr (slot_ne (Or.inl (own_w hw 49 rfl)) (Or.inl (own_w hw 51 rfl)) (by decide) (t := .boolean) (t' := .boolean) (by decide) (by decide)))
  have f58 : Fld Z h32 o1_ cn0 "picked" "Z" (.int (0 : Int32)) := f57.other W32 (Or.inl P11)
  have f59 : Fld Z h32 o1_ cn0 "queued" "Z" (.int (1 : Int32)) := f23.other W32 (Or.inl P11)
  have f60 : Fld Z h2 o1_ cn0 "next" "Llatchwork/WaitQueue$Waiter;" .null := P8.other W2 (Or.inl P11)
  have f61 : Fld Z h7 o1_ cn0 "next" "Llatchwork/WaitQueue$Waiter;" .null := f60.other W7 (Or.inl P11)
  have f62 : Fld Z h14 o1_ cn0 "next" "Llatchwork/WaitQueue$Waiter;" .null := f61.other W14 (Or.inr (slot_ne (Or.inl (own_w hw 53 rfl)) (Or.inl (own_w hw 49 rfl)) (by decide) (t := (.object "latchwork/WaitQueue$Waiter")) (t' := .boolean) (by decide) (by decide)))
  have f63 : Fld Z h21 o1_ cn0 "next" "Llatchwork/WaitQueue$Waiter;" .null := f62.other W21 (Or.inr (slot_ne (Or.inl (own_w hw 53 rfl)) (Or.inl (own_w hw 51 rfl)) (by decide) (t := (.object "latchwork/WaitQueue$Waiter")) (t' := .boolean) (by decide) (by decide)))
  have f64 : Fld Z h32 o1_ cn0 "next" "Llatchwork/WaitQueue$Waiter;" .null := f63.other W32 (Or.inl P11)
  have f65 : Fld Z h2 o1_ cn0 "prev" "Llatchwork/WaitQueue$Waiter;" .null := P9.other W2 (Or.inl P11)
  have f66 : Fld Z h7 o1_ cn0 "prev" "Llatchwork/WaitQueue$Waiter;" .null := f65.other W7 (Or.inl P11)
  have f67 : Fld Z h14 o1_ cn0 "prev" "Llatchwork/WaitQueue$Waiter;" .null := f66.other W14 (Or.inr (slot_ne (Or.inl (own_w hw 55 rfl)) (Or.inl (own_w hw 49 rfl)) (by decide) (t := (.object "latchwork/WaitQueue$Waiter")) (t' := .boolean) (by decide) (by decide)))
  have f68 : Fld Z h21 o1_ cn0 "prev" "Llatchwork/WaitQueue$Waiter;" .null := f67.other W21 (Or.inr (slot_ne (Or.inl (own_w hw 55 rfl)) (Or.inl (own_w hw 51 rfl)) (by decide) (t := (.object "latchwork/WaitQueue$Waiter")) (t' := .boolean) (by decide) (by decide)))
  have f69 : Fld Z h32 o1_ cn0 "prev" "Llatchwork/WaitQueue$Waiter;" .null := f68.other W32 (Or.inl P11)
  obtain ⟨fs, hr, hrun, hended, hW, hsame⟩ := X32.leave (v := none) (fun _ => rfl)
  refine ⟨_, _, hG _ (pre35 _ (X32.returnOut hx Bd.returns (hb hby d7_89) hr)), hrun, hended, _, _, rfl, ?_, ⟨_, rfl⟩, hW, hsame.mono (by decide) (by decide)⟩
  show Qadd7 Z o0_ o1_ x0_ h0 n0 _ T32.heap _
  rw [e32]
  exact ⟨rfl, N33, f41, f42, f46, f34, f49, f51, f56, f58, f59, f64, f69⟩
theorem pd_5 : parseMethodDescriptor "(Llatchwork/WaitQueue$Waiter;Z)V" = some ⟨[(.object "latchwork/WaitQueue$Waiter"), .boolean], none⟩ := by decide +kernel
theorem d3_9 : decode prog_8_method_8_code 9 = .ok (.aload_n 0, 1) := by decide +kernel
theorem d3_10 : decode prog_8_method_8_code 10 = .ok (.aload_n 1, 1) := by decide +kernel
theorem d3_11 : decode prog_8_method_8_code 11 = .ok (.invokevirtual 59, 3) := by decide +kernel
theorem d8_0 : decode prog_8_method_9_code 0 = .ok (.aload_n 1, 1) := by decide +kernel
theorem d8_1 : decode prog_8_method_9_code 1 = .ok (.getfield 56, 3) := by decide +kernel
theorem d8_4 : decode prog_8_method_9_code 4 = .ok (.ifCond .ne 5, 3) := by decide +kernel
theorem d8_9 : decode prog_8_method_9_code 9 = .ok (.aload_n 1, 1) := by decide +kernel
theorem d8_10 : decode prog_8_method_9_code 10 = .ok (.getfield 49, 3) := by decide +kernel
theorem d8_13 : decode prog_8_method_9_code 13 = .ok (.ifnonnull 14, 3) := by decide +kernel
theorem d8_16 : decode prog_8_method_9_code 16 = .ok (.aload_n 0, 1) := by decide +kernel
theorem d8_17 : decode prog_8_method_9_code 17 = .ok (.aload_n 1, 1) := by decide +kernel
theorem d8_18 : decode prog_8_method_9_code 18 = .ok (.getfield 44, 3) := by decide +kernel
theorem d8_21 : decode prog_8_method_9_code 21 = .ok (.putfield 37, 3) := by decide +kernel
theorem d8_24 : decode prog_8_method_9_code 24 = .ok (.goto 14, 3) := by decide +kernel
theorem d8_38 : decode prog_8_method_9_code 38 = .ok (.aload_n 1, 1) := by decide +kernel
theorem d8_39 : decode prog_8_method_9_code 39 = .ok (.getfield 44, 3) := by decide +kernel
theorem d8_42 : decode prog_8_method_9_code 42 = .ok (.ifnonnull 14, 3) := by decide +kernel
theorem d8_45 : decode prog_8_method_9_code 45 = .ok (.aload_n 0, 1) := by decide +kernel
theorem d8_46 : decode prog_8_method_9_code 46 = .ok (.aload_n 1, 1) := by decide +kernel
theorem d8_47 : decode prog_8_method_9_code 47 = .ok (.getfield 49, 3) := by decide +kernel
theorem d8_50 : decode prog_8_method_9_code 50 = .ok (.putfield 41, 3) := by decide +kernel
theorem d8_53 : decode prog_8_method_9_code 53 = .ok (.goto 14, 3) := by decide +kernel
theorem d8_67 : decode prog_8_method_9_code 67 = .ok (.aload_n 1, 1) := by decide +kernel
theorem d8_68 : decode prog_8_method_9_code 68 = .ok (.aconst_null, 1) := by decide +kernel
theorem d8_69 : decode prog_8_method_9_code 69 = .ok (.putfield 49, 3) := by decide +kernel
theorem d8_72 : decode prog_8_method_9_code 72 = .ok (.aload_n 1, 1) := by decide +kernel
theorem d8_73 : decode prog_8_method_9_code 73 = .ok (.aconst_null, 1) := by decide +kernel
theorem d8_74 : decode prog_8_method_9_code 74 = .ok (.putfield 44, 3) := by decide +kernel
theorem d8_77 : decode prog_8_method_9_code 77 = .ok (.aload_n 1, 1) := by decide +kernel
theorem d8_78 : decode prog_8_method_9_code 78 = .ok (.iconst 0, 1) := by decide +kernel
theorem d8_79 : decode prog_8_method_9_code 79 = .ok (.putfield 56, 3) := by decide +kernel
theorem d8_82 : decode prog_8_method_9_code 82 = .ok (.aload_n 0, 1) := by decide +kernel
theorem d8_83 : decode prog_8_method_9_code 83 = .ok (.dup, 1) := by decide +kernel
theorem d8_84 : decode prog_8_method_9_code 84 = .ok (.getfield 33, 3) := by decide +kernel
theorem d8_87 : decode prog_8_method_9_code 87 = .ok (.iconst 1, 1) := by decide +kernel
theorem d8_88 : decode prog_8_method_9_code 88 = .ok (.isub, 1) := by decide +kernel
theorem d8_89 : decode prog_8_method_9_code 89 = .ok (.putfield 33, 3) := by decide +kernel
theorem d8_92 : decode prog_8_method_9_code 92 = .ok (.iconst 1, 1) := by decide +kernel
theorem d8_93 : decode prog_8_method_9_code 93 = .ok (.ireturn, 1) := by decide +kernel
theorem efremove9 (m : MethodId) (o0_ : Addr) (o1_ : Addr) : entryFrame m #[(.ref o0_), (.ref o1_)] 2 = mkF m 0 #[lvR o0_, lvR o1_] [] := by first | (simp [entryFrame, mkF, argsToLocals, Value.category]; done) | rfl
def Qremove9 (Z : State) (o0_ : Addr) (o1_ : Addr) (h0 : Heap) (n0 : Nat) (v : Option Value) (h : Heap) (L : List Loc) : Prop := v = some (.int (1 : Int32)) ∧ Fr n0 L ∧ Keep h0 h [o0_, o1_] ∧ Exa Z h o0_ "latchwork/WaitQueue" ∧ Fld Z h o0_ "latchwork/WaitQueue" "head" "Llatchwork/WaitQueue$Waiter;" .null ∧ Fld Z h o0_ "latchwork/WaitQueue" "size" "I" (.int (0 : Int32)) ∧ Fld Z h o0_ "latchwork/WaitQueue" "tail" "Llatchwork/WaitQueue$Waiter;" .null ∧ Exa Z h o1_ cn0 ∧ Fld Z h o1_ cn0 "thread" "Ljava/lang/Thread;" .null ∧ Fld Z h o1_ cn0 "picked" "Z" (.int (0 : Int32)) ∧ Fld Z h o1_ cn0 "queued" "Z" (.int (0 : Int32)) ∧ Fld Z h o1_ cn0 "next" "Llatchwork/WaitQueue$Waiter;" .null ∧ Fld Z h o1_ cn0 "prev" "Llatchwork/WaitQueue$Waiter;" .null
set_option maxRecDepth 65536 in
set_option maxHeartbeats 40000000 in
theorem rmremove9 (l : Launch) (Z : State) (a0 : Array Value) (hw : ∀ d ∈ tables_1, d.before a0 Z = true) (ws : List Jvm.Cond) (o0_ : Addr) (o1_ : Addr) (h0 : Heap) (n0 : Nat) (O0 : Old Z n0 h0) (P0 : Exa Z h0 o0_ "latchwork/WaitQueue") (P1 : Fld Z h0 o0_ "latchwork/WaitQueue" "head" "Llatchwork/WaitQueue$Waiter;" (.ref o1_)) (P2 : Fld Z h0 o0_ "latchwork/WaitQueue" "size" "I" (.int (1 : Int32))) (P3 : Fld Z h0 o0_ "latchwork/WaitQueue" "tail" "Llatchwork/WaitQueue$Waiter;" (.ref o1_)) (P4 : Exa Z h0 o1_ cn0) (P5 : Fld Z h0 o1_ cn0 "thread" "Ljava/lang/Thread;" .null) (P6 : Fld Z h0 o1_ cn0 "picked" "Z" (.int (0 : Int32))) (P7 : Fld Z h0 o1_ cn0 "queued" "Z" (.int (1 : Int32))) (P8 : Fld Z h0 o1_ cn0 "next" "Llatchwork/WaitQueue$Waiter;" .null) (P9 : Fld Z h0 o1_ cn0 "prev" "Llatchwork/WaitQueue$Waiter;" .null) (P10 : n0 ≤ o0_) (P11 : o1_ ≠ o0_) (P12 : n0 ≤ o1_) :
    MetFree l (⟨"latchwork/WaitQueue", "remove", "(Llatchwork/WaitQueue$Waiter;)Z"⟩ : MethodName) (head1 (Jvm.Cond.code (⟨"latchwork/WaitQueue", "remove", "(Llatchwork/WaitQueue$Waiter;)Z"⟩ : MethodName) prog_8_method_9_code 2 (some .boolean) :: ws) ({ frames := 0, cells := 0, slots := 0, locals := 0 } : Room)) (fun a U => a = #[(.ref o0_), (.ref o1_)] ∧ Z.Warmed39 U.vm ∧ U.heap = h0) (fun _ _ _ _ _ => True) (fun _ U o U' => ∃ v L, o = .returned v ∧ Qremove9 Z o0_ o1_ h0 n0 v U'.heap L ∧ FrameEnd U o U' L ({ frames := 0, cells := 0, slots := 0, locals := 0 } : Room).cells ({ frames := 0, cells := 0, slots := 0, locals := 0 } : Room).slots) := by
  refine MetFree.of_bodySF (plainFor_of_name pn_0) hisR ?_
  intro p e s m args below meth c s₁ Bd hml0 hP hK
  obtain ⟨rfl, hZ, hh⟩ := hP
  have hx := Bd.exec
  have hby := Bd.bytes
  have hml : c.maxLocals = 2 := hml0
  have hown : s.vm.findClass "latchwork/WaitQueue" = some m.cls := findClass_of_methodNamed Bd.named
  have hnm := (name_of_methodNamed Bd.named Bd.method).1
  have X0 : Stand p l e ({ frames := 0, cells := 0, slots := 0, locals := 0 } : Room) s m #[(.ref o0_), (.ref o1_)] below meth c s₁ [] 0 0 := Stand.of_body Bd
  have e0 : s₁.heap = h0 := by rw [← hh, Bd.state]; rfl
  have N0 := Fr.nil n0
  obtain ⟨G, pre0, hG⟩ : ∃ G : State → Prop, (∀ t, own_S p e below m s₁ 0 #[lvR o0_, lvR o1_] [] t → G t) ∧ (∀ t, G t → Steps p.tables e below (s₁.setTop (entryFrame m #[(.ref o0_), (.ref o1_)] 2)) t) := ⟨fun t => Steps p.tables e below (s₁.setTop (entryFrame m #[(.ref o0_), (.ref o1_)] 2)) t, fun t k => castTop (efremove9 m o0_ o1_) k, fun _ k => k⟩
  have K0 : Keep h0 h0 [o0_, o1_] := Keep.refl _ _
  obtain ⟨T1, X1, e1, st1⟩ := own_getR X0 hx hZ hown (own_w hw 50 rfl) Via.refl e0 P7 (g := (mkF m 1 #[lvR o0_, lvR o1_] [(.ref o1_)])) rfl rfl (hb hby d8_1)
  obtain ⟨T2, X2, e2, st2⟩ := own_getR X1 hx hZ hown (own_w hw 54 rfl) Via.refl e1 P9 (g := (mkF m 10 #[lvR o0_, lvR o1_] [(.ref o1_)])) rfl rfl (hb hby d8_10)
  obtain ⟨T3, X3, e3, st3⟩ := own_getR X2 hx hZ hown (own_w hw 52 rfl) Via.refl e2 P8 (g := (mkF m 18 #[lvR o0_, lvR o1_] [(.ref o1_), (.ref o0_)])) rfl rfl (hb hby d8_18)
  obtain ⟨T4, h4, X4, e4, W4, st4⟩ := putF X3 hx hZ hown (host := "") (Or.inl (own_w hw 23 rfl)) Via.refl e3 P1 P0 (Or.inl (own_w hw 24 rfl)) (own_w hw 1 rfl) (ty := (.object "latchwork/WaitQueue$Waiter")) (by decide) rfl rfl (g := (mkF m 21 #[lvR o0_, lvR o1_] [.null, (.ref o0_)])) rfl rfl (hb hby d8_21)
  have N5 := Fr.snoc X4 N0 P10
  have f6 : Fld Z h4 o0_ "latchwork/WaitQueue" "head" "Llatchwork/WaitQueue$Waiter;" .null := P1.same W4
  have f7 : Fld Z h4 o1_ cn0 "next" "Llatchwork/WaitQueue$Waiter;" .null := P8.other W4 (Or.inl P11)
  obtain ⟨T8, X8, e8, st8⟩ := own_getR X4 hx hZ hown (own_w hw 52 rfl) Via.refl e4 f7 (g := (mkF m 39 #[lvR o0_, lvR o1_] [(.ref o1_)])) rfl rfl (hb hby d8_39)
  have f9 : Fld Z h4 o1_ cn0 "prev" "Llatchwork/WaitQueue$Waiter;" .null := P9.other W4 (Or.inl P11)
  obtain ⟨T10, X10, e10, st10⟩ := own_getR X8 hx hZ hown (own_w hw 54 rfl) Via.refl e8 f9 (g := (mkF m 47 #[lvR o0_, lvR o1_] [(.ref o1_), (.ref o0_)])) rfl rfl (hb hby d8_47)
  have f11 : Fld Z h4 o0_ "latchwork/WaitQueue" "tail" "Llatchwork/WaitQueue$Waiter;" (.ref o1_) := P3.other W4 (Or.inr (slot_ne (Or.inl (own_w hw 47 rfl)) (Or.inl (own_w hw 24 rfl)) (by decide) (t := (.object "latchwork/WaitQueue$Waiter")) (t' := (.object "latchwork/WaitQueue$Waiter")) (by decide) (by decide)))
  have f12 : Exa Z h4 o0_ "latchwork/WaitQueue" := P0.wr W4
  obtain ⟨T13, h13, X13, e13, W13, st13⟩ := putF X10 hx hZ hown (host := "") (Or.inl (own_w hw 46 rfl)) Via.refl e10 f11 f12 (Or.inl (own_w hw 47 rfl)) (own_w hw 1 rfl) (ty := (.object "latchwork/WaitQueue$Waiter")) (by decide) rfl rfl (g := (mkF m 50 #[lvR o0_, lvR o1_] [.null, (.ref o0_)])) rfl rfl (hb hby d8_50)
  have N14 := Fr.snoc X13 N5 P10
  have f15 : Fld Z h13 o0_ "latchwork/WaitQueue" "tail" "Llatchwork/WaitQueue$Waiter;" .null := f11.same W13
  have f16 : Fld Z h13 o1_ cn0 "prev" "Llatchwork/WaitQueue$Waiter;" .null := f9.other W13 (Or.inl P11)
  have f17 : Exa Z h4 o1_ cn0 := P4.wr W4
  have f18 : Exa Z h13 o1_ cn0 := f17.wr W13
  obtain ⟨T19, h19, X19, e19, W19, st19⟩ := own_putR X13 hx hZ hown (own_w hw 54 rfl) Via.refl e13 f16 f18 (own_w hw 55 rfl) (own_w hw 10 rfl) (ty := (.object "latchwork/WaitQueue$Waiter")) (by decide) rfl rfl (g := (mkF m 69 #[lvR o0_, lvR o1_] [.null, (.ref o1_)])) rfl rfl (hb hby d8_69)
  have N20 := Fr.snoc X19 N14 P12
  have f21 : Fld Z h19 o1_ cn0 "prev" "Llatchwork/WaitQueue$Waiter;" .null := f16.same W19
  have f22 : Fld Z h13 o1_ cn0 "next" "Llatchwork/WaitQueue$Waiter;" .null := f7.other W13 (Or.inl P11)
  have f23 : Fld Z h19 o1_ cn0 "next" "Llatchwork/WaitQueue$Waiter;" .null := f22.other W19 (Or.inr (slot_ne (Or.inl (own_w hw 53 rfl)) (Or.inl (own_w hw 55 rfl)) (by decide) (t := (.object "latchwork/WaitQueue$Waiter")) (t' := (.object "latchwork/WaitQueue$Waiter")) (by decide) (by decide)))
  have f24 : Exa Z h19 o1_ cn0 := f18.wr W19
  obtain ⟨T25, h25, X25, e25, W25, st25⟩ := own_putR X19 hx hZ hown (own_w hw 52 rfl) Via.refl e19 f23 f24 (own_w hw 53 rfl) (own_w hw 10 rfl) (ty := (.object "latchwork/WaitQueue$Waiter")) (by decide) rfl rfl (g := (mkF m 74 #[lvR o0_, lvR o1_] [.null, (.ref o1_)])) rfl rfl (hb hby d8_74)
  have N26 := Fr.snoc X25 N20 P12
  have f27 : Fld Z h25 o1_ cn0 "next" "Llatchwork/WaitQueue$Waiter;" .null := f23.same W25
  have f28 : Fld Z h4 o1_ cn0 "queued" "Z" (.int (1 : Int32)) := P7.other W4 (Or.inl P11)
  have f29 : Fld Z h13 o1_ cn0 "queued" "Z" (.int (1 : Int32)) := f28.other W13 (Or.inl P11)
  have f30 : Fld Z h19 o1_ cn0 "queued" "Z" (.int (1 : Int32)) := f29.other W19 (Or.inr (slot_ne (Or.inl (own_w hw 51 rfl)) (Or.inl (own_w hw 55 rfl)) (by decide) (t := .boolean) (t' := (.object "latchwork/WaitQueue$Waiter")) (by decide) (by decide)))
  have f31 : Fld Z h25 o1_ cn0 "queued" "Z" (.int (1 : Int32)) := f30.other W25 (Or.inr (slot_ne (Or.inl (own_w hw 51 rfl)) (Or.inl (own_w hw 53 rfl)) (by decide) (t := .boolean) (t' := (.object "latchwork/WaitQueue$Waiter")) (by decide) (by decide)))
  have f32 : Exa Z h25 o1_ cn0 := f24.wr W25
  obtain ⟨T33, h33, X33, e33, W33, st33⟩ := own_putR X25 hx hZ hown (own_w hw 50 rfl) Via.refl e25 f31 f32 (own_w hw 51 rfl) (own_w hw 10 rfl) (ty := .boolean) (by decide) rfl rfl (g := (mkF m 79 #[lvR o0_, lvR o1_] [(.int (0 : Int32)), (.ref o1_)])) rfl rfl (hb hby d8_79)
  have N34 := Fr.snoc X33 N26 P12
  have f35 : Fld Z h33 o1_ cn0 "queued" "Z" (.int (0 : Int32)) := f31.same W33
  have f36 : Fld Z h4 o0_ "latchwork/WaitQueue" "size" "I" (.int (1 : Int32)) := P2.other W4 (Or.inr (slot_ne (Or.inl (own_w hw 31 rfl)) (Or.inl (own_w hw 24 rfl)) (by decide) (t := .int) (t' := (.object "latchwork/WaitQueue$Waiter")) (by decide) (by decide)))
  have f37 : Fld Z h13 o0_ "latchwork/WaitQueue" "size" "I" (.int (1 : Int32)) := f36.other W13 (Or.inr (slot_ne (Or.inl (own_w hw 31 rfl)) (Or.inl (own_w hw 47 rfl)) (by decide) (t := .int) (t' := (.object "latchwork/WaitQueue$Waiter")) (by decide) (by decide)))
  have f38 : Fld Z h19 o0_ "latchwork/WaitQueue" "size" "I" (.int (1 : Int32)) := f37.other W19 (Or.inl (Ne.symm P11))
  have f39 : Fld Z h25 o0_ "latchwork/WaitQueue" "size" "I" (.int (1 : Int32)) := f38.other W25 (Or.inl (Ne.symm P11))
  have f40 : Fld Z h33 o0_ "latchwork/WaitQueue" "size" "I" (.int (1 : Int32)) := f39.other W33 (Or.inl (Ne.symm P11))
  obtain ⟨T41, X41, e41, st41⟩ := getF X33 hx hZ hown (host := "") (Or.inl (own_w hw 30 rfl)) Via.refl e33 f40 (g := (mkF m 84 #[lvR o0_, lvR o1_] [(.ref o0_), (.ref o0_)])) rfl rfl (hb hby d8_84)
  have f42 : Exa Z h13 o0_ "latchwork/WaitQueue" := f12.wr W13
  have f43 : Exa Z h19 o0_ "latchwork/WaitQueue" := f42.wr W19
  have f44 : Exa Z h25 o0_ "latchwork/WaitQueue" := f43.wr W25
  have f45 : Exa Z h33 o0_ "latchwork/WaitQueue" := f44.wr W33
  obtain ⟨T46, h46, X46, e46, W46, st46⟩ := putF X41 hx hZ hown (host := "") (Or.inl (own_w hw 30 rfl)) Via.refl e41 f40 f45 (Or.inl (own_w hw 31 rfl)) (own_w hw 1 rfl) (ty := .int) (by decide) rfl rfl (g := (mkF m 89 #[lvR o0_, lvR o1_] [(.int (0 : Int32)), (.ref o0_)])) rfl rfl (hb hby d8_89)
  have N47 := Fr.snoc X46 N34 P10
  have f48 : Fld Z h46 o0_ "latchwork/WaitQueue" "size" "I" (.int (0 : Int32)) := f40.same W46
  have pre49 : ∀ t, own_S p e below m T46 93 #[lvR o0_, lvR o1_] [(.int (1 : Int32))] t → G t := by
    intro t kt
    refine pre0 t ?_
    show own_S p e below m s₁ 0 #[lvR o0_, lvR o1_] [] _
    refine XS.aloadN X0.here hx rfl (hb hby d8_0) rfl rfl ?_
    show own_S p e below m s₁ 1 #[lvR o0_, lvR o1_] [(.ref o1_)] _
    refine st1 _ ?_
    show own_S p e below m T1 4 #[lvR o0_, lvR o1_] [(.int (1 : Int32))] _
    refine XS.ifYes X1.here hx rfl (pc0 := 4) (pc' := 9) rfl (hb hby d8_4) rfl ((if0 _ _).trans (feq (by decide : ¬ ((1 : Int32) = (0 : Int32)))).2) (by decide) (by decide) ?_
    refine XS.aloadN X1.here hx rfl (hb hby d8_9) rfl rfl ?_
    show own_S p e below m T1 10 #[lvR o0_, lvR o1_] [(.ref o1_)] _
    refine st2 _ ?_
    show own_S p e below m T2 13 #[lvR o0_, lvR o1_] [.null] _
    refine XS.ifnonnullNo X2.here hx rfl (hb hby d8_13) rfl ?_
    refine XS.aloadN X2.here hx rfl (hb hby d8_16) rfl rfl ?_
    refine XS.aloadN X2.here hx rfl (hb hby d8_17) rfl rfl ?_
    show own_S p e below m T2 18 #[lvR o0_, lvR o1_] [(.ref o1_), (.ref o0_)] _
    refine st3 _ ?_
    show own_S p e below m T3 21 #[lvR o0_, lvR o1_] [.null, (.ref o0_)] _
    refine st4 _ ?_
    refine XS.goto X4.here hx rfl (pc0 := 24) (pc' := 38) rfl (hb hby d8_24) (by decide) (by decide) ?_
    refine XS.aloadN X4.here hx rfl (hb hby d8_38) rfl rfl ?_
    show own_S p e below m T4 39 #[lvR o0_, lvR o1_] [(.ref o1_)] _
    refine st8 _ ?_
    show own_S p e below m T8 42 #[lvR o0_, lvR o1_] [.null] _
    refine XS.ifnonnullNo X8.here hx rfl (hb hby d8_42) rfl ?_
    refine XS.aloadN X8.here hx rfl (hb hby d8_45) rfl rfl ?_
    refine XS.aloadN X8.here hx rfl (hb hby d8_46) rfl rfl ?_
    show own_S p e below m T8 47 #[lvR o0_, lvR o1_] [(.ref o1_), (.ref o0_)] _
    refine st10 _ ?_
    show own_S p e below m T10 50 #[lvR o0_, lvR o1_] [.null, (.ref o0_)] _
    refine st13 _ ?_
    refine XS.goto X13.here hx rfl (pc0 := 53) (pc' := 67) rfl (hb hby d8_53) (by decide) (by decide) ?_
    refine XS.aloadN X13.here hx rfl (hb hby d8_67) rfl rfl ?_
    refine XS.aconstNull X13.here hx rfl (hb hby d8_68) ?_
    show own_S p e below m T13 69 #[lvR o0_, lvR o1_] [.null, (.ref o1_)] _
    refine st19 _ ?_
    refine XS.aloadN X19.here hx rfl (hb hby d8_72) rfl rfl ?_
    refine XS.aconstNull X19.here hx rfl (hb hby d8_73) ?_
    show own_S p e below m T19 74 #[lvR o0_, lvR o1_] [.null, (.ref o1_)] _
    refine st25 _ ?_
    refine XS.aloadN X25.here hx rfl (hb hby d8_77) rfl rfl ?_
    refine XS.iconst X25.here hx rfl (hb hby d8_78) ?_
    show own_S p e below m T25 79 #[lvR o0_, lvR o1_] [(.int (0 : Int32)), (.ref o1_)] _
    refine st33 _ ?_
    refine XS.aloadN X33.here hx rfl (hb hby d8_82) rfl rfl ?_
    refine XS.dup X33.here hx rfl (hb hby d8_83) rfl rfl ?_
    show own_S p e below m T33 84 #[lvR o0_, lvR o1_] [(.ref o0_), (.ref o0_)] _
    refine st41 _ ?_
    refine XS.iconst X41.here hx rfl (hb hby d8_87) ?_
    refine XS.isub X41.here hx rfl (hb hby d8_88) rfl ?_
    show own_S p e below m T41 89 #[lvR o0_, lvR o1_] [(.int (0 : Int32)), (.ref o0_)] _
    refine st46 _ ?_
    refine XS.iconst X46.here hx rfl (hb hby d8_92) ?_
    exact kt
  have f51 : Keep h0 h4 [o0_, o1_] := K0.wr W4 (Or.inl (List.mem_of_getElem? (i := 0) rfl))
  have f52 : Keep h0 h13 [o0_, o1_] := f51.wr W13 (Or.inl (List.mem_of_getElem? (i := 0) rfl))
  have f53 : Keep h0 h19 [o0_, o1_] := f52.wr W19 (Or.inl (List.mem_of_getElem? (i := 1) rfl))
  have f54 : Keep h0 h25 [o0_, o1_] := f53.wr W25 (Or.inl (List.mem_of_getElem? (i := 1) rfl))
  have f55 : Keep h0 h33 [o0_, o1_] := f54.wr W33 (Or.inl (List.mem_of_getElem? (i := 1) rfl))
  have f56 : Keep h0 h46 [o0_, o1_] := f55.wr W46 (Or.inl (List.mem_of_getElem? (i := 0) rfl))
  have f57 : Exa Z h46 o0_ "latchwork/WaitQueue" := f45.wr W46
  have f58 : Fld Z h13 o0_ "latchwork/WaitQueue" "head" "Llatchwork/WaitQueue$Waiter;" .null := f6.other W13 (Or.inr (slot_ne (Or.inl (own_w hw 24 rfl)) (Or.inl (own_w hw 47 rfl)) (by decide) (t := (.object "latchwork/WaitQueue$Waiter")) (t' := (.object "latchwork/WaitQueue$Waiter")) (by decide) (by decide)))
  have f59 : Fld Z h19 o0_ "latchwork/WaitQueue" "head" "Llatchwork/WaitQueue$Waiter;" .null := f58.other W19 (Or.inl (Ne.symm P11))
  have f60 : Fld Z h25 o0_ "latchwork/WaitQueue" "head" "Llatchwork/WaitQueue$Waiter;" .null := f59.other W25 (Or.inl (Ne.symm P11))
  have f61 : Fld Z h33 o0_ "latchwork/WaitQueue" "head" "Llatchwork/WaitQueue$Waiter;" .null := f60.other W33 (Or.inl (Ne.symm P11))
  have f62 : Fld Z h46 o0_ "latchwork/WaitQueue" "head" "Llatchwork/WaitQueue$Waiter;" .null := f61.other W46 (Or.inr (slot_ne (Or.inl (own_w hw 24 rfl)) (Or.inl (own_w hw 31 rfl)) (by decide) (t := (.object "latchwork/WaitQueue$Waiter")) (t' := .int) (by decide) (by decide)))
  have f63 : Fld Z h19 o0_ "latchwork/WaitQueue" "tail" "Llatchwork/WaitQueue$Waiter;" .null := f15.other W19 (Or.inl (Ne.symm P11))
  have f64 : Fld Z h25 o0_ "latchwork/WaitQueue" "tail" "Llatchwork/WaitQueue$Waiter;" .null := f63.other W25 (Or.inl (Ne.symm P11))
  have f65 : Fld Z h33 o0_ "latchwork/WaitQueue" "tail" "Llatchwork/WaitQueue$Waiter;" .null := f64.other W33 (Or.inl (Ne.symm P11))
  have f66 : Fld Z h46 o0_ "latchwork/WaitQueue" "tail" "Llatchwork/WaitQueue$Waiter;" .null := f65.other W46 (Or.inr (slot_ne (Or.inl (own_w hw 47 rfl)) (Or.inl (own_w hw 31 rfl)) (by decide) (t := (.object "latchwork/WaitQueue$Waiter")) (t' := .int) (by decide) (by decide)))
  have f67 : Exa Z h33 o1_ cn0 := f32.wr W33
  have f68 : Exa Z h46 o1_ cn0 := f67.wr W46
  have f69 : Fld Z h4 o1_ cn0 "thread" "Ljava/lang/Thread;" .null := P5.other W4 (Or.inl P11)
  have f70 : Fld Z h13 o1_ cn0 "thread" "Ljava/lang/Thread;" .null := f69.other W13 (Or.inl P11)
  have f71 : Fld Z h19 o1_ cn0 "thread" "Ljava/lang/Thread;" .null := f70.other W19 (Or.inr (slot_ne (Or.inr (own_w hw 17 rfl)) (Or.inl (own_w hw 55 rfl)) (by decide) (t := (.object "java/lang/Thread")) (t' := (.object "latchwork/WaitQueue$Waiter")) (by decide) (by decide)))
  have f72 : Fld Z h25 o1_ cn0 "thread" "Ljava/lang/Thread;" .null := f71.other W25 (Or.inr (slot_ne (Or.inr (own_w hw 17 rfl)) (Or.inl (own_w hw 53 rfl)) (by decide) (t := (.object "java/lang/Thread")) (t' := (.object "latchwork/WaitQueue$Waiter")) (by decide) (by decide)))
  have f73 : Fld Z h33 o1_ cn0 "thread" "Ljava/lang/Thread;" .null := f72.other W33 (Or.inr (slot_ne (Or.inr (own_w hw 17 rfl)) (Or.inl (own_w hw 51 rfl)) (by decide) (t := (.object "java/lang/Thread")) (t' := .boolean) (by decide) (by decide)))
  have f74 : Fld Z h46 o1_ cn0 "thread" "Ljava/lang/Thread;" .null := f73.other W46 (Or.inl P11)
  have f75 : Fld Z h4 o1_ cn0 "picked" "Z" (.int (0 : Int32)) := P6.other W4 (Or.inl P11)
  have f76 : Fld Z h13 o1_ cn0 "picked" "Z" (.int (0 : Int32)) := f75.other W13 (Or.inl P11)
  have f77 : Fld Z h19 o1_ cn0 "picked" "Z" (.int (0 : Int32)) := f76.other W19 (Or.inr (slot_ne (Or.inl (own_w hw 49 rfl)) (Or.inl (own_w hw 55 rfl)) (by decide) (t := .boolean) (t' := (.object "latchwork/WaitQueue$Waiter")) (by decide) (by decide)))
  have f78 : Fld Z h25 o1_ cn0 "picked" "Z" (.int (0 : Int32)) := f77.other W25 (Or.inr (slot_ne (Or.inl (own_w hw 49 rfl)) (Or.inl (own_w hw 53 rfl)) (by decide) (t := .boolean) (t' := (.object "latchwork/WaitQueue$Waiter")) (by decide) (by decide)))
  have f79 : Fld Z h33 o1_ cn0 "picked" "Z" (.int (0 : Int32)) := f78.other W33 (Or.inr (slot_ne (Or.inl (own_w hw 49 rfl)) (Or.inl (own_w hw 51 rfl)) (by decide) (t := .boolean) (t' := .boolean) (by decide) (by decide)))
  have f80 : Fld Z h46 o1_ cn0 "picked" "Z" (.int (0 : Int32)) := f79.other W46 (Or.inl P11)
  have f81 : Fld Z h46 o1_ cn0 "queued" "Z" (.int (0 : Int32)) := f35.other W46 (Or.inl P11)
  have f82 : Fld Z h33 o1_ cn0 "next" "Llatchwork/WaitQueue$Waiter;" .null := f27.other W33 (Or.inr (slot_ne (Or.inl (own_w hw 53 rfl)) (Or.inl (own_w hw 51 rfl)) (by decide) (t := (.object "latchwork/WaitQueue$Waiter")) (t' := .boolean) (by decide) (by decide)))
  have f83 : Fld Z h46 o1_ cn0 "next" "Llatchwork/WaitQueue$Waiter;" .null := f82.other W46 (Or.inl P11)
  have f84 : Fld Z h25 o1_ cn0 "prev" "Llatchwork/WaitQueue$Waiter;" .null := f21.other W25 (Or.inr (slot_ne (Or.inl (own_w hw 55 rfl)) (Or.inl (own_w hw 53 rfl)) (by decide) (t := (.object "latchwork/WaitQueue$Waiter")) (t' := (.object "latchwork/WaitQueue$Waiter")) (by decide) (by decide)))
  have f85 : Fld Z h33 o1_ cn0 "prev" "Llatchwork/WaitQueue$Waiter;" .null := f84.other W33 (Or.inr (slot_ne (Or.inl (own_w hw 55 rfl)) (Or.inl (own_w hw 51 rfl)) (by decide) (t := (.object "latchwork/WaitQueue$Waiter")) (t' := .boolean) (by decide) (by decide)))
  have f86 : Fld Z h46 o1_ cn0 "prev" "Llatchwork/WaitQueue$Waiter;" .null := f85.other W46 (Or.inl P11)
  obtain ⟨fs, hr, hrun, hended, hW, hsame⟩ := X46.leave (v := some (.int (1 : Int32))) (fun h => by rw [Bd.returns] at h; cases h)
  refine ⟨_, _, hG _ (pre49 _ (retN X46 hx (t := .boolean) Bd.returns (by simp) (hb hby d8_93) hr)), hrun, hended, _, _, rfl, ?_, ⟨_, rfl⟩, hW, hsame.mono (by decide) (by decide)⟩
  show Qremove9 Z o0_ o1_ h0 n0 _ T46.heap _
  rw [e46]
  exact ⟨rfl, N47, f56, f57, f62, f48, f66, f68, f74, f80, f81, f83, f86⟩
theorem pd_6 : parseMethodDescriptor "(Llatchwork/WaitQueue$Waiter;)Z" = some ⟨[(.object "latchwork/WaitQueue$Waiter")], some .boolean⟩ := by decide +kernel
theorem d3_14 : decode prog_8_method_8_code 14 = .ok (.pop, 1) := by decide +kernel
theorem efpoll8 (m : MethodId) (o0_ : Addr) : entryFrame m #[(.ref o0_)] 2 = mkF m 0 #[lvR o0_, .unset] [] := by first | (simp [entryFrame, mkF, argsToLocals, Value.category]; done) | rfl
def Qpoll8 (Z : State) (o0_ : Addr) (o1_ : Addr) (h0 : Heap) (n0 : Nat) (v : Option Value) (h : Heap) (L : List Loc) : Prop := v = some (.ref o1_) ∧ Fr n0 L ∧ Keep h0 h [o0_, o1_] ∧ Exa Z h o0_ "latchwork/WaitQueue" ∧ Fld Z h o0_ "latchwork/WaitQueue" "head" "Llatchwork/WaitQueue$Waiter;" .null ∧ Fld Z h o0_ "latchwork/WaitQueue" "size" "I" (.int (0 : Int32)) ∧ Fld Z h o0_ "latchwork/WaitQueue" "tail" "Llatchwork/WaitQueue$Waiter;" .null ∧ Exa Z h o1_ cn0 ∧ Fld Z h o1_ cn0 "thread" "Ljava/lang/Thread;" .null ∧ Fld Z h o1_ cn0 "picked" "Z" (.int (0 : Int32)) ∧ Fld Z h o1_ cn0 "queued" "Z" (.int (0 : Int32)) ∧ Fld Z h o1_ cn0 "next" "Llatchwork/WaitQueue$Waiter;" .null ∧ Fld Z h o1_ cn0 "prev" "Llatchwork/WaitQueue$Waiter;" .null
set_option maxRecDepth 65536 in
set_option maxHeartbeats 40000000 in
theorem rmpoll8 (l : Launch) (Z : State) (a0 : Array Value) (hw : ∀ d ∈ tables_1, d.before a0 Z = true) (ws : List Jvm.Cond) (o0_ : Addr) (o1_ : Addr) (h0 : Heap) (n0 : Nat) (O0 : Old Z n0 h0) (P0 : Exa Z h0 o0_ "latchwork/WaitQueue") (P1 : Fld Z h0 o0_ "latchwork/WaitQueue" "head" "Llatchwork/WaitQueue$Waiter;" (.ref o1_)) (P2 : Fld Z h0 o0_ "latchwork/WaitQueue" "size" "I" (.int (1 : Int32))) (P3 : Fld Z h0 o0_ "latchwork/WaitQueue" "tail" "Llatchwork/WaitQueue$Waiter;" (.ref o1_)) (P4 : Exa Z h0 o1_ cn0) (P5 : Fld Z h0 o1_ cn0 "thread" "Ljava/lang/Thread;" .null) (P6 : Fld Z h0 o1_ cn0 "picked" "Z" (.int (0 : Int32))) (P7 : Fld Z h0 o1_ cn0 "queued" "Z" (.int (1 : Int32))) (P8 : Fld Z h0 o1_ cn0 "next" "Llatchwork/WaitQueue$Waiter;" .null) (P9 : Fld Z h0 o1_ cn0 "prev" "Llatchwork/WaitQueue$Waiter;" .null) (P10 : n0 ≤ o0_) (P11 : o1_ ≠ o0_) (P12 : n0 ≤ o1_) :
    MetFree l (⟨"latchwork/WaitQueue", "poll", "()Llatchwork/WaitQueue$Waiter;"⟩ : MethodName) (head1 (Jvm.Cond.code (⟨"latchwork/WaitQueue", "poll", "()Llatchwork/WaitQueue$Waiter;"⟩ : MethodName) prog_8_method_8_code 2 (some (.object "latchwork/WaitQueue$Waiter")) :: ws) ({ frames := 1, cells := 0, slots := 0, locals := 13 } : Room)) (fun a U => a = #[(.ref o0_)] ∧ Z.Warmed39 U.vm ∧ U.heap = h0) (fun _ _ _ _ _ => True) (fun _ U o U' => ∃ v L, o = .returned v ∧ Qpoll8 Z o0_ o1_ h0 n0 v U'.heap L ∧ FrameEnd U o U' L ({ frames := 1, cells := 0, slots := 0, locals := 13 } : Room).cells ({ frames := 1, cells := 0, slots := 0, locals := 13 } : Room).slots) := by
  refine MetFree.of_bodySF (plainFor_of_name pn_0) hisR ?_
  intro p e s m args below meth c s₁ Bd hml0 hP hK
  obtain ⟨rfl, hZ, hh⟩ := hP
  have hx := Bd.exec
  have hby := Bd.bytes
  have hml : c.maxLocals = 2 := hml0
  have hown : s.vm.findClass "latchwork/WaitQueue" = some m.cls := findClass_of_methodNamed Bd.named
  have hnm := (name_of_methodNamed Bd.named Bd.method).1
  have X0 : Stand p l e ({ frames := 1, cells := 0, slots := 0, locals := 13 } : Room) s m #[(.ref o0_)] below meth c s₁ [] 0 0 := Stand.of_body Bd
  have e0 : s₁.heap = h0 := by rw [← hh, Bd.state]; rfl
  have N0 := Fr.nil n0
  obtain ⟨G, pre0, hG⟩ : ∃ G : State → Prop, (∀ t, own_S p e below m s₁ 0 #[lvR o0_, .unset] [] t → G t) ∧ (∀ t, G t → Steps p.tables e below (s₁.setTop (entryFrame m #[(.ref o0_)] 2)) t) := ⟨fun t => Steps p.tables e below (s₁.setTop (entryFrame m #[(.ref o0_)] 2)) t, fun t k => castTop (efpoll8 m o0_) k, fun _ k => k⟩
  have K0 : Keep h0 h0 [o0_, o1_] := Keep.refl _ _
  obtain ⟨T1, X1, e1, st1⟩ := getF X0 hx hZ hown (host := "") (Or.inl (own_w hw 23 rfl)) Via.refl e0 P1 (g := (mkF m 1 #[lvR o0_, .unset] [(.ref o0_)])) rfl rfl (hb hby d3_1)
  obtain ⟨cq2, kq2, q2a, q2b, q2c⟩ := isOf hZ e1 P0
  obtain ⟨_, _, ⟨T2, L2, k2, n2⟩, -, X2, ⟨Lc2, hQ2, l2, y2, z2⟩, st2⟩ := X1.virtualBack hx (y := (⟨"latchwork/WaitQueue", "remove", "(Llatchwork/WaitQueue$Waiter;)Z"⟩ : MethodName)) (z := (⟨"latchwork/WaitQueue", "remove", "(Llatchwork/WaitQueue$Waiter;)Z"⟩ : MethodName)) hown (mvT hZ (own_w hw 56 rfl)) (mvT hZ (own_w hw 57 rfl)) (notFace_of_selects (args := #[]) (mvT hZ (own_w hw 59 rfl))) (mvT hZ (own_w hw 59 rfl)) (mvT hZ (own_w hw 58 rfl)) (by decide) (backOf (W := 0) (rmremove9 l Z a0 hw [] o0_ o1_ h0 n0 O0 P0 P1 P2 P3 P4 P5 P6 P7 P8 P9 P10 P11 P12) hZ (own_w hw 60 rfl) (own_w hw 2 rfl) (by decide) (by decide)) q2a q2c (g := (mkF m 11 #[lvR o0_, lvR o1_] [(.ref o1_), (.ref o0_)])) rfl (by rw [hml]; rfl) (Steps.refl _) (argsL := [(.ref o1_)]) (rest := []) (lenOf pd_6 rfl) rfl (by show 2 * 0 + _ ≤ _; exact Nat.le_of_eq rfl) (hb hby d3_11) (fun _ _ => ⟨rfl, e1, (by decide : 0 + 0 ≤ _), (by decide : 0 + 0 ≤ _)⟩)
  dsimp only [Pt.U, Pt.locs, Pt.cells, Pt.slots] at X2 l2 y2 z2 st2 hQ2
  subst l2 y2 z2
  obtain ⟨h2, e2⟩ : ∃ z, T2.heap = z := ⟨_, rfl⟩
  rw [e2] at hQ2
  obtain ⟨rfl, N2q, K2, g2_0, g2_1, g2_2, g2_3, g2_4, g2_5, g2_6, g2_7, g2_8, g2_9⟩ := hQ2
  have N3 := Fr.app N0 N2q
  have pre4 : ∀ t, own_S p e below m T2 16 #[lvR o0_, lvR o1_] [(.ref o1_)] t → G t := by
    intro t kt
    refine pre0 t ?_
    show own_S p e below m s₁ 0 #[lvR o0_, .unset] [] _
    refine XS.aloadN X0.here hx rfl (hb hby d3_0) rfl rfl ?_
    show own_S p e below m s₁ 1 #[lvR o0_, .unset] [(.ref o0_)] _
    refine st1 _ ?_
    refine XS.astoreN X1.here hx rfl (hb hby d3_4) rfl rfl (l' := #[lvR o0_, lvR o1_]) rfl ?_
    refine XS.aloadN X1.here hx rfl (hb hby d3_5) rfl rfl ?_
    show own_S p e below m T1 6 #[lvR o0_, lvR o1_] [(.ref o1_)] _
    refine XS.ifnullNo X1.here hx rfl (hb hby d3_6) rfl ?_
    refine XS.aloadN X1.here hx rfl (hb hby d3_9) rfl rfl ?_
    refine XS.aloadN X1.here hx rfl (hb hby d3_10) rfl rfl ?_
    show own_S p e below m T1 11 #[lvR o0_, lvR o1_] [(.ref o1_), (.ref o0_)] _
    refine st2.trans ?_
    refine XS.pop X2.here hx rfl (hb hby d3_14) rfl rfl ?_
    refine XS.aloadN X2.here hx rfl (hb hby d3_15) rfl rfl ?_
    exact kt
  have f6 : Keep h0 h2 [o0_, o1_] := K0.trans K2 (allS (Or.inl (List.mem_of_getElem? (i := 0) rfl)) (allS (Or.inl (List.mem_of_getElem? (i := 1) rfl)) all0))
  obtain ⟨fs, hr, hrun, hended, hW, hsame⟩ := X2.leave (v := some (.ref o1_)) (fun h => by rw [Bd.returns] at h; cases h)
  refine ⟨_, _, hG _ (pre4 _ (retOut X2 hx Bd.returns rfl (Or.inr (Or.inr (Or.inr (Or.inr ⟨rfl, rfl, rfl⟩)))) (hb hby d3_16) hr)), hrun, hended, _, _, rfl, ?_, ⟨_, rfl⟩, hW, hsame.mono (by decide) (by decide)⟩
  show Qpoll8 Z o0_ o1_ h0 n0 _ T2.heap _
  rw [e2]
  exact ⟨rfl, N3, f6, g2_0, g2_1, g2_2, g2_3, g2_4, g2_5, g2_6, g2_7, g2_8, g2_9⟩
theorem d5_5 : decode jdk_29_method_65_code 5 = .ok (.iload_n 0, 1) := by decide +kernel
theorem d5_6 : decode jdk_29_method_65_code 6 = .ok (.goto 4, 3) := by decide +kernel
theorem efmax10 (m : MethodId)  : entryFrame m #[(.int (0 : Int32)), (.int (0 : Int32))] 2 = mkF m 0 #[lvI (0 : Int32), lvI (0 : Int32)] [] := by first | (simp [entryFrame, mkF, argsToLocals, Value.category]; done) | rfl
def Qmax10 (Z : State)  (h0 : Heap) (n0 : Nat) (v : Option Value) (h : Heap) (L : List Loc) : Prop := v = some (.int (0 : Int32)) ∧ Fr n0 L ∧ h = h0
set_option maxRecDepth 65536 in
set_option maxHeartbeats 40000000 in
theorem rmmax10 (l : Launch) (Z : State) (a0 : Array Value) (hw : ∀ d ∈ tables_1, d.before a0 Z = true) (ws : List Jvm.Cond)  (h0 : Heap) (n0 : Nat) (O0 : Old Z n0 h0)  :
    MetFree l (⟨"java/lang/Math", "max", "(II)I"⟩ : MethodName) (head1 (Jvm.Cond.code (⟨"java/lang/Math", "max", "(II)I"⟩ : MethodName) jdk_29_method_65_code 2 (some .int) :: ws) ({ frames := 0, cells := 0, slots := 0, locals := 0 } : Room)) (fun a U => a = #[(.int (0 : Int32)), (.int (0 : Int32))] ∧ Z.Warmed39 U.vm ∧ U.heap = h0) (fun _ _ _ _ _ => True) (fun _ U o U' => ∃ v L, o = .returned v ∧ Qmax10 Z  h0 n0 v U'.heap L ∧ FrameEnd U o U' L ({ frames := 0, cells := 0, slots := 0, locals := 0 } : Room).cells ({ frames := 0, cells := 0, slots := 0, locals := 0 } : Room).slots) := by
  refine MetFree.of_bodySF (Jvm.Free.JP.mathPlain rfl (by decide +kernel)) hisR ?_
  intro p e s m args below meth c s₁ Bd hml0 hP hK
  obtain ⟨rfl, hZ, hh⟩ := hP
  have hx := Bd.exec
  have hby := Bd.bytes
  have hml : c.maxLocals = 2 := hml0
  have hown : s.vm.findClass "java/lang/Math" = some m.cls := findClass_of_methodNamed Bd.named
  have hnm := (name_of_methodNamed Bd.named Bd.method).1
  have X0 : Stand p l e ({ frames := 0, cells := 0, slots := 0, locals := 0 } : Room) s m #[(.int (0 : Int32)), (.int (0 : Int32))] below meth c s₁ [] 0 0 := Stand.of_body Bd
  have e0 : s₁.heap = h0 := by rw [← hh, Bd.state]; rfl
  have N0 := Fr.nil n0
  obtain ⟨G, pre0, hG⟩ : ∃ G : State → Prop, (∀ t, own_S p e below m s₁ 0 #[lvI (0 : Int32), lvI (0 : Int32)] [] t → G t) ∧ (∀ t, G t → Steps p.tables e below (s₁.setTop (entryFrame m #[(.int (0 : Int32)), (.int (0 : Int32))] 2)) t) := ⟨fun t => Steps p.tables e below (s₁.setTop (entryFrame m #[(.int (0 : Int32)), (.int (0 : Int32))] 2)) t, fun t k => castTop (efmax10 m ) k, fun _ k => k⟩
  have K0 : Keep h0 h0 [] := Keep.refl _ _
  have pre1 : ∀ t, own_S p e below m s₁ 10 #[lvI (0 : Int32), lvI (0 : Int32)] [(.int (0 : Int32))] t → G t := by
    intro t kt
    refine pre0 t ?_
    show own_S p e below m s₁ 0 #[lvI (0 : Int32), lvI (0 : Int32)] [] _
    refine XS.iloadN X0.here hx rfl (hb hby d5_0) rfl ?_
    refine XS.iloadN X0.here hx rfl (hb hby d5_1) rfl ?_
    show own_S p e below m s₁ 2 #[lvI (0 : Int32), lvI (0 : Int32)] [(.int (0 : Int32)), (.int (0 : Int32))] _
    refine XS.icmpNo X0.here hx rfl (hb hby d5_2) rfl (flt (by decide : ¬ ((0 : Int32) < (0 : Int32)))).1 ?_
    refine XS.iloadN X0.here hx rfl (hb hby d5_5) rfl ?_
    refine XS.goto X0.here hx rfl (pc0 := 6) (pc' := 10) rfl (hb hby d5_6) (by decide) (by decide) ?_
    exact kt
  obtain ⟨fs, hr, hrun, hended, hW, hsame⟩ := X0.leave (v := some (.int (0 : Int32))) (fun h => by rw [Bd.returns] at h; cases h)
  refine ⟨_, _, hG _ (pre1 _ (retOut X0 hx Bd.returns rfl (Or.inl ⟨rfl, Or.inl rfl, _, rfl⟩) (hb hby d5_10) hr)), hrun, hended, _, _, rfl, ?_, ⟨_, rfl⟩, hW, hsame.mono (by decide) (by decide)⟩
  show Qmax10 Z  h0 n0 _ s₁.heap _
  rw [e0]
  exact ⟨rfl, N0, rfl⟩
theorem d9_0 : decode prog_9_method_2_code 0 = .ok (.aload_n 0, 1) := by decide +kernel
theorem d9_1 : decode prog_9_method_2_code 1 = .ok (.getfield 13, 3) := by decide +kernel
theorem d9_4 : decode prog_9_method_2_code 4 = .ok (.ireturn, 1) := by decide +kernel
theorem efisQueued11 (m : MethodId) (o0_ : Addr) : entryFrame m #[(.ref o0_)] 1 = mkF m 0 #[lvR o0_] [] := by first | (simp [entryFrame, mkF, argsToLocals, Value.category]; done) | rfl
def QisQueued11 (Z : State) (o0_ : Addr) (h0 : Heap) (n0 : Nat) (v : Option Value) (h : Heap) (L : List Loc) : Prop := v = some (.int (0 : Int32)) ∧ Fr n0 L ∧ h = h0
set_option maxRecDepth 65536 in
set_option maxHeartbeats 40000000 in
theorem rmisQueued11 (l : Launch) (Z : State) (a0 : Array Value) (hw : ∀ d ∈ tables_1, d.before a0 Z = true) (ws : List Jvm.Cond) (o0_ : Addr) (h0 : Heap) (n0 : Nat) (O0 : Old Z n0 h0) (P0 : Exa Z h0 o0_ cn0) (P1 : Fld Z h0 o0_ cn0 "thread" "Ljava/lang/Thread;" .null) (P2 : Fld Z h0 o0_ cn0 "picked" "Z" (.int (0 : Int32))) (P3 : Fld Z h0 o0_ cn0 "queued" "Z" (.int (0 : Int32))) (P4 : Fld Z h0 o0_ cn0 "next" "Llatchwork/WaitQueue$Waiter;" .null) (P5 : Fld Z h0 o0_ cn0 "prev" "Llatchwork/WaitQueue$Waiter;" .null) :
    MetFree l (⟨"latchwork/WaitQueue$Waiter", "isQueued", "()Z"⟩ : MethodName) (head1 (Jvm.Cond.code (⟨"latchwork/WaitQueue$Waiter", "isQueued", "()Z"⟩ : MethodName) prog_9_method_2_code 1 (some .boolean) :: ws) ({ frames := 0, cells := 0, slots := 0, locals := 0 } : Room)) (fun a U => a = #[(.ref o0_)] ∧ Z.Warmed39 U.vm ∧ U.heap = h0) (fun _ _ _ _ _ => True) (fun _ U o U' => ∃ v L, o = .returned v ∧ QisQueued11 Z o0_ h0 n0 v U'.heap L ∧ FrameEnd U o U' L ({ frames := 0, cells := 0, slots := 0, locals := 0 } : Room).cells ({ frames := 0, cells := 0, slots := 0, locals := 0 } : Room).slots) := by
  refine MetFree.of_bodySF (plainFor_of_name pn_1) hisR ?_
  intro p e s m args below meth c s₁ Bd hml0 hP hK
  obtain ⟨rfl, hZ, hh⟩ := hP
  have hx := Bd.exec
  have hby := Bd.bytes
  have hml : c.maxLocals = 1 := hml0
  have hown : s.vm.findClass "latchwork/WaitQueue$Waiter" = some m.cls := findClass_of_methodNamed Bd.named
  have hnm := (name_of_methodNamed Bd.named Bd.method).1
  have X0 : Stand p l e ({ frames := 0, cells := 0, slots := 0, locals := 0 } : Room) s m #[(.ref o0_)] below meth c s₁ [] 0 0 := Stand.of_body Bd
  have e0 : s₁.heap = h0 := by rw [← hh, Bd.state]; rfl
  have N0 := Fr.nil n0
  obtain ⟨G, pre0, hG⟩ : ∃ G : State → Prop, (∀ t, own_S p e below m s₁ 0 #[lvR o0_] [] t → G t) ∧ (∀ t, G t → Steps p.tables e below (s₁.setTop (entryFrame m #[(.ref o0_)] 1)) t) := ⟨fun t => Steps p.tables e below (s₁.setTop (entryFrame m #[(.ref o0_)] 1)) t, fun t k => castTop (efisQueued11 m o0_) k, fun _ k => k⟩
  have K0 : Keep h0 h0 [] := Keep.refl _ _
  obtain ⟨T1, X1, e1, st1⟩ := getF X0 hx hZ hown (host := "") (Or.inl (own_w hw 66 rfl)) Via.refl e0 P3 (g := (mkF m 1 #[lvR o0_] [(.ref o0_)])) rfl rfl (hb hby d9_1)
  have pre2 : ∀ t, own_S p e below m T1 4 #[lvR o0_] [(.int (0 : Int32))] t → G t := by
    intro t kt
    refine pre0 t ?_
    show own_S p e below m s₁ 0 #[lvR o0_] [] _
    refine XS.aloadN X0.here hx rfl (hb hby d9_0) rfl rfl ?_
    show own_S p e below m s₁ 1 #[lvR o0_] [(.ref o0_)] _
    refine st1 _ ?_
    exact kt
  obtain ⟨fs, hr, hrun, hended, hW, hsame⟩ := X1.leave (v := some (.int (0 : Int32))) (fun h => by rw [Bd.returns] at h; cases h)
  refine ⟨_, _, hG _ (pre2 _ (retN X1 hx (t := .boolean) Bd.returns (by simp) (hb hby d9_4) hr)), hrun, hended, _, _, rfl, ?_, ⟨_, rfl⟩, hW, hsame.mono (by decide) (by decide)⟩
  show QisQueued11 Z o0_ h0 n0 _ T1.heap _
  rw [e1]
  exact ⟨rfl, N0, rfl⟩
theorem pd_7 : parseMethodDescriptor "()Z" = some ⟨[], some .boolean⟩ := by decide +kernel
theorem d7_20 : decode prog_8_method_5_code 20 = .ok (.iload_n 2, 1) := by decide +kernel
theorem d7_21 : decode prog_8_method_5_code 21 = .ok (.ifCond .eq 27, 3) := by decide +kernel
theorem d7_48 : decode prog_8_method_5_code 48 = .ok (.aload_n 1, 1) := by decide +kernel
theorem d7_49 : decode prog_8_method_5_code 49 = .ok (.aload_n 0, 1) := by decide +kernel
theorem d7_50 : decode prog_8_method_5_code 50 = .ok (.getfield 41, 3) := by decide +kernel
theorem d7_53 : decode prog_8_method_5_code 53 = .ok (.putfield 49, 3) := by decide +kernel
theorem d7_56 : decode prog_8_method_5_code 56 = .ok (.aload_n 0, 1) := by decide +kernel
theorem d7_57 : decode prog_8_method_5_code 57 = .ok (.getfield 41, 3) := by decide +kernel
theorem d7_60 : decode prog_8_method_5_code 60 = .ok (.aload_n 1, 1) := by decide +kernel
theorem d7_61 : decode prog_8_method_5_code 61 = .ok (.putfield 44, 3) := by decide +kernel
theorem d7_64 : decode prog_8_method_5_code 64 = .ok (.aload_n 0, 1) := by decide +kernel
theorem d7_65 : decode prog_8_method_5_code 65 = .ok (.aload_n 1, 1) := by decide +kernel
theorem d7_66 : decode prog_8_method_5_code 66 = .ok (.putfield 41, 3) := by decide +kernel
theorem efadd12 (m : MethodId) (o0_ : Addr) (o1_ : Addr) : entryFrame m #[(.ref o0_), (.ref o1_), (.int (0 : Int32))] 3 = mkF m 0 #[lvR o0_, lvR o1_, lvI (0 : Int32)] [] := by first | (simp [entryFrame, mkF, argsToLocals, Value.category]; done) | rfl
def Qadd12 (Z : State) (o0_ : Addr) (o1_ : Addr) (o2_ : Addr) (h0 : Heap) (n0 : Nat) (v : Option Value) (h : Heap) (L : List Loc) : Prop := v = none ∧ Fr n0 L ∧ Keep h0 h [o1_, o2_, o0_] ∧ Exa Z h o0_ "latchwork/WaitQueue" ∧ Fld Z h o0_ "latchwork/WaitQueue" "head" "Llatchwork/WaitQueue$Waiter;" (.ref o2_) ∧ Fld Z h o0_ "latchwork/WaitQueue" "size" "I" (.int (2 : Int32)) ∧ Fld Z h o0_ "latchwork/WaitQueue" "tail" "Llatchwork/WaitQueue$Waiter;" (.ref o1_) ∧ Exa Z h o1_ cn0 ∧ Fld Z h o1_ cn0 "thread" "Ljava/lang/Thread;" .null ∧ Fld Z h o1_ cn0 "picked" "Z" (.int (0 : Int32)) ∧ Fld Z h o1_ cn0 "queued" "Z" (.int (1 : Int32)) ∧ Fld Z h o1_ cn0 "next" "Llatchwork/WaitQueue$Waiter;" .null ∧ Fld Z h o1_ cn0 "prev" "Llatchwork/WaitQueue$Waiter;" (.ref o2_) ∧ Exa Z h o2_ cn0 ∧ Fld Z h o2_ cn0 "thread" "Ljava/lang/Thread;" .null ∧ Fld Z h o2_ cn0 "picked" "Z" (.int (0 : Int32)) ∧ Fld Z h o2_ cn0 "queued" "Z" (.int (1 : Int32)) ∧ Fld Z h o2_ cn0 "next" "Llatchwork/WaitQueue$Waiter;" (.ref o1_) ∧ Fld Z h o2_ cn0 "prev" "Llatchwork/WaitQueue$Waiter;" .null
set_option maxRecDepth 65536 in
set_option maxHeartbeats 40000000 in
theorem rmadd12 (l : Launch) (Z : State) (a0 : Array Value) (hw : ∀ d ∈ tables_1, d.before a0 Z = true) (ws : List Jvm.Cond) (o0_ : Addr) (o1_ : Addr) (o2_ : Addr) (h0 : Heap) (n0 : Nat) (O0 : Old Z n0 h0) (P0 : Exa Z h0 o0_ "latchwork/WaitQueue") (P1 : Fld Z h0 o0_ "latchwork/WaitQueue" "head" "Llatchwork/WaitQueue$Waiter;" (.ref o2_)) (P2 : Fld Z h0 o0_ "latchwork/WaitQueue" "size" "I" (.int (1 : Int32))) (P3 : Fld Z h0 o0_ "latchwork/WaitQueue" "tail" "Llatchwork/WaitQueue$Waiter;" (.ref o2_)) (P4 : Exa Z h0 o1_ cn0) (P5 : Fld Z h0 o1_ cn0 "thread" "Ljava/lang/Thread;" .null) (P6 : Fld Z h0 o1_ cn0 "picked" "Z" (.int (0 : Int32))) (P7 : Fld Z h0 o1_ cn0 "queued" "Z" (.int (0 : Int32))) (P8 : Fld Z h0 o1_ cn0 "next" "Llatchwork/WaitQueue$Waiter;" .null) (P9 : Fld Z h0 o1_ cn0 "prev" "Llatchwork/WaitQueue$Waiter;" .null) (P10 : Exa Z h0 o2_ cn0) (P11 : Fld Z h0 o2_ cn0 "thread" "Ljava/lang/Thread;" .null) (P12 : Fld Z h0 o2_ cn0 "picked" "Z" (.int (0 : Int32))) (P13 : Fld Z h0 o2_ cn0 "queued" "Z" (.int (1 : Int32))) (P14 : Fld Z h0 o2_ cn0 "next" "Llatchwork/WaitQueue$Waiter;" .null) (P15 : Fld Z h0 o2_ cn0 "prev" "Llatchwork/WaitQueue$Waiter;" .null) (P16 : n0 ≤ o1_) (P17 : o0_ ≠ o1_) (P18 : o2_ ≠ o1_) (P19 : n0 ≤ o2_) (P20 : o0_ ≠ o2_) (P21 : n0 ≤ o0_) :
    MetFree l (⟨"latchwork/WaitQueue", "add", "(Llatchwork/WaitQueue$Waiter;Z)V"⟩ : MethodName) (head1 (Jvm.Cond.code (⟨"latchwork/WaitQueue", "add", "(Llatchwork/WaitQueue$Waiter;Z)V"⟩ : MethodName) prog_8_method_5_code 3 none :: ws) ({ frames := 0, cells := 0, slots := 0, locals := 0 } : Room)) (fun a U => a = #[(.ref o0_), (.ref o1_), (.int (0 : Int32))] ∧ Z.Warmed39 U.vm ∧ U.heap = h0) (fun _ _ _ _ _ => True) (fun _ U o U' => ∃ v L, o = .returned v ∧ Qadd12 Z o0_ o1_ o2_ h0 n0 v U'.heap L ∧ FrameEnd U o U' L ({ frames := 0, cells := 0, slots := 0, locals := 0 } : Room).cells ({ frames := 0, cells := 0, slots := 0, locals := 0 } : Room).slots) := by
  refine MetFree.of_bodySF (plainFor_of_name pn_0) hisR ?_
  intro p e s m args below meth c s₁ Bd hml0 hP hK
  obtain ⟨rfl, hZ, hh⟩ := hP
  have hx := Bd.exec
  have hby := Bd.bytes
  have hml : c.maxLocals = 3 := hml0
  have hown : s.vm.findClass "latchwork/WaitQueue" = some m.cls := findClass_of_methodNamed Bd.named
  have hnm := (name_of_methodNamed Bd.named Bd.method).1
  have X0 : Stand p l e ({ frames := 0, cells := 0, slots := 0, locals := 0 } : Room) s m #[(.ref o0_), (.ref o1_), (.int (0 : Int32))] below meth c s₁ [] 0 0 := Stand.of_body Bd
  have e0 : s₁.heap = h0 := by rw [← hh, Bd.state]; rfl
  have N0 := Fr.nil n0
  obtain ⟨G, pre0, hG⟩ : ∃ G : State → Prop, (∀ t, own_S p e below m s₁ 0 #[lvR o0_, lvR o1_, lvI (0 : Int32)] [] t → G t) ∧ (∀ t, G t → Steps p.tables e below (s₁.setTop (entryFrame m #[(.ref o0_), (.ref o1_), (.int (0 : Int32))] 3)) t) := ⟨fun t => Steps p.tables e below (s₁.setTop (entryFrame m #[(.ref o0_), (.ref o1_), (.int (0 : Int32))] 3)) t, fun t k => castTop (efadd12 m o0_ o1_) k, fun _ k => k⟩
  have K0 : Keep h0 h0 [o1_, o2_, o0_] := Keep.refl _ _
  obtain ⟨T1, X1, e1, st1⟩ := getF X0 hx hZ hown (host := "") (Or.inl (own_w hw 23 rfl)) Via.refl e0 P1 (g := (mkF m 1 #[lvR o0_, lvR o1_, lvI (0 : Int32)] [(.ref o0_)])) rfl rfl (hb hby d7_1)
  obtain ⟨T2, X2, e2, st2⟩ := getF X1 hx hZ hown (host := "") (Or.inl (own_w hw 46 rfl)) Via.refl e1 P3 (g := (mkF m 50 #[lvR o0_, lvR o1_, lvI (0 : Int32)] [(.ref o0_), (.ref o1_)])) rfl rfl (hb hby d7_50)
  obtain ⟨T3, h3, X3, e3, W3, st3⟩ := own_putR X2 hx hZ hown (own_w hw 54 rfl) Via.refl e2 P9 P4 (own_w hw 55 rfl) (own_w hw 10 rfl) (ty := (.object "latchwork/WaitQueue$Waiter")) (by decide) rfl rfl (g := (mkF m 53 #[lvR o0_, lvR o1_, lvI (0 : Int32)] [(.ref o2_), (.ref o1_)])) rfl rfl (hb hby d7_53)
  have N4 := Fr.snoc X3 N0 P16
  have f5 : Fld Z h3 o1_ cn0 "prev" "Llatchwork/WaitQueue$Waiter;" (.ref o2_) := P9.same W3
  have f6 : Fld Z h3 o0_ "latchwork/WaitQueue" "tail" "Llatchwork/WaitQueue$Waiter;" (.ref o2_) := P3.other W3 (Or.inl P17)
  obtain ⟨T7, X7, e7, st7⟩ := getF X3 hx hZ hown (host := "") (Or.inl (own_w hw 46 rfl)) Via.refl e3 f6 (g := (mkF m 57 #[lvR o0_, lvR o1_, lvI (0 : Int32)] [(.ref o0_)])) rfl rfl (hb hby d7_57)
  have f8 : Fld Z h3 o2_ cn0 "next" "Llatchwork/WaitQueue$Waiter;" .null := P14.other W3 (Or.inl P18)
  have f9 : Exa Z h3 o2_ cn0 := P10.wr W3
  obtain ⟨T10, h10, X10, e10, W10, st10⟩ := own_putR X7 hx hZ hown (own_w hw 52 rfl) Via.refl e7 f8 f9 (own_w hw 53 rfl) (own_w hw 10 rfl) (ty := (.object "latchwork/WaitQueue$Waiter")) (by decide) rfl rfl (g := (mkF m 61 #[lvR o0_, lvR o1_, lvI (0 : Int32)] [(.ref o1_), (.ref o2_)])) rfl rfl (hb hby d7_61)
  have N11 := Fr.snoc X10 N4 P19
  have f12 : Fld Z h10 o2_ cn0 "next" "Llatchwork/WaitQueue$Waiter;" (.ref o1_) := f8.same W10
  have f13 : Fld Z h10 o0_ "latchwork/WaitQueue" "tail" "Llatchwork/WaitQueue$Waiter;" (.ref o2_) := f6.other W10 (Or.inl P20)
  have f14 : Exa Z h3 o0_ "latchwork/WaitQueue" := P0.wr W3
  have f15 : Exa Z h10 o0_ "latchwork/WaitQueue" := f14.wr W10
  obtain ⟨T16, h16, X16, e16, W16, st16⟩ := putF X10 hx hZ hown (host := "") (Or.inl (own_w hw 46 rfl)) Via.refl e10 f13 f15 (Or.inl (own_w hw 47 rfl)) (own_w hw 1 rfl) (ty := (.object "latchwork/WaitQueue$Waiter")) (by decide) rfl rfl (g := (mkF m 66 #[lvR o0_, lvR o1_, lvI (0 : Int32)] [(.ref o1_), (.ref o0_)])) rfl rfl (hb hby d7_66)
  have N17 := Fr.snoc X16 N11 P21
  have f18 : Fld Z h16 o0_ "latchwork/WaitQueue" "tail" "Llatchwork/WaitQueue$Waiter;" (.ref o1_) := f13.same W16
  have f19 : Fld Z h3 o1_ cn0 "picked" "Z" (.int (0 : Int32)) := P6.other W3 (Or.inr (slot_ne (Or.inl (own_w hw 49 rfl)) (Or.inl (own_w hw 55 rfl)) (by decide) (t := .boolean) (t' := (.object "latchwork/WaitQueue$Waiter")) (by decide) (by decide)))
  have f20 : Fld Z h10 o1_ cn0 "picked" "Z" (.int (0 : Int32)) := f19.other W10 (Or.inl (Ne.symm P18))
  have f21 : Fld Z h16 o1_ cn0 "picked" "Z" (.int (0 : Int32)) := f20.other W16 (Or.inl (Ne.symm P17))
  have f22 : Exa Z h3 o1_ cn0 := P4.wr W3
  have f23 : Exa Z h10 o1_ cn0 := f22.wr W10
  have f24 : Exa Z h16 o1_ cn0 := f23.wr W16
  obtain ⟨T25, h25, X25, e25, W25, st25⟩ := own_putR X16 hx hZ hown (own_w hw 48 rfl) Via.refl e16 f21 f24 (own_w hw 49 rfl) (own_w hw 10 rfl) (ty := .boolean) (by decide) rfl rfl (g := (mkF m 71 #[lvR o0_, lvR o1_, lvI (0 : Int32)] [(.int (0 : Int32)), (.ref o1_)])) rfl rfl (hb hby d7_71)
  have N26 := Fr.snoc X25 N17 P16
  have f27 : Fld Z h25 o1_ cn0 "picked" "Z" (.int (0 : Int32)) := f21.same W25
  have f28 : Fld Z h3 o1_ cn0 "queued" "Z" (.int (0 : Int32)) := P7.other W3 (Or.inr (slot_ne (Or.inl (own_w hw 51 rfl)) (Or.inl (own_w hw 55 rfl)) (by decide) (t := .boolean) (t' := (.object "latchwork/WaitQueue$Waiter")) (by decide) (by decide)))
  have f29 : Fld Z h10 o1_ cn0 "queued" "Z" (.int (0 : Int32)) := f28.other W10 (Or.inl (Ne.symm P18))
  have f30 : Fld Z h16 o1_ cn0 "queued" "Z" (.int (0 : Int32)) := f29.other W16 (Or.inl (Ne.symm P17))
  have f31 : Fld Z h25 o1_ cn0 "queued" "Z" (.int (0 : Int32)) := f30.other W25 (Or.inr (slot_ne (Or.inl (own_w hw 51 rfl)) (Or.inl (own_w hw 49 rfl)) (by decide) (t := .boolean) (t' := .boolean) (by decide) (by decide)))
  have f32 : Exa Z h25 o1_ cn0 := f24.wr W25
  obtain ⟨T33, h33, X33, e33, W33, st33⟩ := own_putR X25 hx hZ hown (own_w hw 50 rfl) Via.refl e25 f31 f32 (own_w hw 51 rfl) (own_w hw 10 rfl) (ty := .boolean) (by decide) rfl rfl (g := (mkF m 76 #[lvR o0_, lvR o1_, lvI (0 : Int32)] [(.int (1 : Int32)), (.ref o1_)])) rfl rfl (hb hby d7_76)
  have N34 := Fr.snoc X33 N26 P16
  have f35 : Fld Z h33 o1_ cn0 "queued" "Z" (.int (1 : Int32)) := f31.same W33
  have f36 : Fld Z h3 o0_ "latchwork/WaitQueue" "size" "I" (.int (1 : Int32)) := P2.other W3 (Or.inl P17)
  have f37 : Fld Z h10 o0_ "latchwork/WaitQueue" "size" "I" (.int (1 : Int32)) := f36.other W10 (Or.inl P20)
  have f38 : Fld Z h16 o0_ "latchwork/WaitQueue" "size" "I" (.int (1 : Int32)) := f37.other W16 (Or.inr (slot_ne (Or.inl (own_w hw 31 rfl)) (Or.inl (own_w hw 47 rfl)) (by decide) (t := .int) (t' := (.object "latchwork/WaitQueue$Waiter")) (by decide) (by decide)))
  have f39 : Fld Z h25 o0_ "latchwork/WaitQueue" "size" "I" (.int (1 : Int32)) := f38.other W25 (Or.inl P17)
  have f40 : Fld Z h33 o0_ "latchwork/WaitQueue" "size" "I" (.int (1 : Int32)) := f39.other W33 (Or.inl P17)
  obtain ⟨T41, X41, e41, st41⟩ := getF X33 hx hZ hown (host := "") (Or.inl (own_w hw 30 rfl)) Via.refl e33 f40 (g := (mkF m 81 #[lvR o0_, lvR o1_, lvI (0 : Int32)] [(.ref o0_), (.ref o0_)])) rfl rfl (hb hby d7_81)
  have f42 : Exa Z h16 o0_ "latchwork/WaitQueue" := f15.wr W16
  have f43 : Exa Z h25 o0_ "latchwork/WaitQueue" := f42.wr W25
  have f44 : Exa Z h33 o0_ "latchwork/WaitQueue" := f43.wr W33
  obtain ⟨T45, h45, X45, e45, W45, st45⟩ := putF X41 hx hZ hown (host := "") (Or.inl (own_w hw 30 rfl)) Via.refl e41 f40 f44 (Or.inl (own_w hw 31 rfl)) (own_w hw 1 rfl) (ty := .int) (by decide) rfl rfl (g := (mkF m 86 #[lvR o0_, lvR o1_, lvI (0 : Int32)] [(.int (2 : Int32)), (.ref o0_)])) rfl rfl (hb hby d7_86)
  have N46 := Fr.snoc X45 N34 P21
  have f47 : Fld Z h45 o0_ "latchwork/WaitQueue" "size" "I" (.int (2 : Int32)) := f40.same W45
  have pre48 : ∀ t, own_S p e below m T45 89 #[lvR o0_, lvR o1_, lvI (0 : Int32)] [] t → G t := by
    intro t kt
    refine pre0 t ?_
    show own_S p e below m s₁ 0 #[lvR o0_, lvR o1_, lvI (0 : Int32)] [] _
    refine XS.aloadN X0.here hx rfl (hb hby d7_0) rfl rfl ?_
    show own_S p e below m s₁ 1 #[lvR o0_, lvR o1_, lvI (0 : Int32)] [(.ref o0_)] _
    refine st1 _ ?_
    show own_S p e below m T1 4 #[lvR o0_, lvR o1_, lvI (0 : Int32)] [(.ref o2_)] _
    refine XS.ifnonnullYes X1.here hx rfl (pc0 := 4) (pc' := 20) rfl (hb hby d7_4) rfl (by decide) (by decide) ?_
    refine XS.iloadN X1.here hx rfl (hb hby d7_20) rfl ?_
    show own_S p e below m T1 21 #[lvR o0_, lvR o1_, lvI (0 : Int32)] [(.int (0 : Int32))] _
    refine XS.ifYes X1.here hx rfl (pc0 := 21) (pc' := 48) rfl (hb hby d7_21) rfl ((if0 _ _).trans (teq (by decide : (0 : Int32) = (0 : Int32))).1) (by decide) (by decide) ?_
    refine XS.aloadN X1.here hx rfl (hb hby d7_48) rfl rfl ?_
    refine XS.aloadN X1.here hx rfl (hb hby d7_49) rfl rfl ?_
    show own_S p e below m T1 50 #[lvR o0_, lvR o1_, lvI (0 : Int32)] [(.ref o0_), (.ref o1_)] _
    refine st2 _ ?_
    show own_S p e below m T2 53 #[lvR o0_, lvR o1_, lvI (0 : Int32)] [(.ref o2_), (.ref o1_)] _
    refine st3 _ ?_
    refine XS.aloadN X3.here hx rfl (hb hby d7_56) rfl rfl ?_
    show own_S p e below m T3 57 #[lvR o0_, lvR o1_, lvI (0 : Int32)] [(.ref o0_)] _
    refine st7 _ ?_
    refine XS.aloadN X7.here hx rfl (hb hby d7_60) rfl rfl ?_
    show own_S p e below m T7 61 #[lvR o0_, lvR o1_, lvI (0 : Int32)] [(.ref o1_), (.ref o2_)] _
    refine st10 _ ?_
    refine XS.aloadN X10.here hx rfl (hb hby d7_64) rfl rfl ?_
    refine XS.aloadN X10.here hx rfl (hb hby d7_65) rfl rfl ?_
    show own_S p e below m T10 66 #[lvR o0_, lvR o1_, lvI (0 : Int32)] [(.ref o1_), (.ref o0_)] _
    refine st16 _ ?_
    refine XS.aloadN X16.here hx rfl (hb hby d7_69) rfl rfl ?_
    refine XS.iconst X16.here hx rfl (hb hby d7_70) ?_
    show own_S p e below m T16 71 #[lvR o0_, lvR o1_, lvI (0 : Int32)] [(.int (0 : Int32)), (.ref o1_)] _
    refine st25 _ ?_
    refine XS.aloadN X25.here hx rfl (hb hby d7_74) rfl rfl ?_
    refine XS.iconst X25.here hx rfl (hb hby d7_75) ?_
    show own_S p e below m T25 76 #[lvR o0_, lvR o1_, lvI (0 : Int32)] [(.int (1 : Int32)), (.ref o1_)] _
    refine st33 _ ?_
    refine XS.aloadN X33.here hx rfl (hb hby d7_79) rfl rfl ?_
    refine XS.dup X33.here hx rfl (hb hby d7_80) rfl rfl ?_
    show own_S p e below m T33 81 #[lvR o0_, lvR o1_, lvI (0 : Int32)] [(.ref o0_), (.ref o0_)] _
    refine st41 _ ?_
    refine XS.iconst X41.here hx rfl (hb hby d7_84) ?_
    refine XS.iadd X41.here hx rfl (hb hby d7_85) rfl ?_
    show own_S p e below m T41 86 #[lvR o0_, lvR o1_, lvI (0 : Int32)] [(.int (2 : Int32)), (.ref o0_)] _
    refine st45 _ ?_
    exact kt
  have f50 : Keep h0 h3 [o1_, o2_, o0_] := K0.wr W3 (Or.inl (List.mem_of_getElem? (i := 0) rfl))
  have f51 : Keep h0 h10 [o1_, o2_, o0_] := f50.wr W10 (Or.inl (List.mem_of_getElem? (i := 1) rfl))
  have f52 : Keep h0 h16 [o1_, o2_, o0_] := f51.wr W16 (Or.inl (List.mem_of_getElem? (i := 2) rfl))
  have f53 : Keep h0 h25 [o1_, o2_, o0_] := f52.wr W25 (Or.inl (List.mem_of_getElem? (i := 0) rfl))
  have f54 : Keep h0 h33 [o1_, o2_, o0_] := f53.wr W33 (Or.inl (List.mem_of_getElem? (i := 0) rfl))
  have f55 : Keep h0 h45 [o1_, o2_, o0_] := f54.wr W45 (Or.inl (List.mem_of_getElem? (i := 2) rfl))
  have f56 : Exa Z h45 o0_ "latchwork/WaitQueue" := f44.wr W45
  have f57 : Fld Z h3 o0_ "latchwork/WaitQueue" "head" "Llatchwork/WaitQueue$Waiter;" (.ref o2_) := P1.other W3 (Or.inl P17)
  have f58 : Fld Z h10 o0_ "latchwork/WaitQueue" "head" "Llatchwork/WaitQueue$Waiter;" (.ref o2_) := f57.other W10 (Or.inl P20)
  have f59 : Fld Z h16 o0_ "latchwork/WaitQueue" "head" "Llatchwork/WaitQueue$Waiter;" (.ref o2_) := f58.other W16 (Or.inr (slot_ne (Or.inl (own_w hw 24 rfl)) (Or.inl (own_w hw 47 rfl)) (by decide) (t := (.object "latchwork/WaitQueue$Waiter")) (t' := (.object "latchwork/WaitQueue$Waiter")) (by decide) (by decide)))
  have f60 : Fld Z h25 o0_ "latchwork/WaitQueue" "head" "Llatchwork/WaitQueue$Waiter;" (.ref o2_) := f59.other W25 (Or.inl P17)
  have f61 : Fld Z h33 o0_ "latchwork/WaitQueue" "head" "Llatchwork/WaitQueue$Waiter;" (.ref o2_) := f60.other W33 (Or.inl P17)
  have f62 : Fld Z h45 o0_ "latchwork/WaitQueue" "head" "Llatchwork/WaitQueue$Waiter;" (.ref o2_) := f61.other W45 (Or.inr (slot_ne (Or.inl (own_w hw 24 rfl)) (Or.inl (own_w hw 31 rfl)) (by decide) (t := (.object "latchwork/WaitQueue$Waiter")) (t' := .int) (by decide) (by decide)))
  have f63 : Fld Z h25 o0_ "latchwork/WaitQueue" "tail" "Llatchwork/WaitQueue$Waiter;" (.ref o1_) := f18.other W25 (Or.inl P17)
  have f64 : Fld Z h33 o0_ "latchwork/WaitQueue" "tail" "Llatchwork/WaitQueue$Waiter;" (.ref o1_) := f63.other W33 (Or.inl P17)
  have f65 : Fld Z h45 o0_ "latchwork/WaitQueue" "tail" "Llatchwork/WaitQueue$Waiter;" (.ref o1_) := f64.other W45 (Or.inr (slot_ne (Or.inl (own_w hw 47 rfl)) (Or.inl (own_w hw 31 rfl)) (by decide) (t := (.object "latchwork/WaitQueue$Waiter")) (t' := .int) (by decide) (by decide)))
  have f66 : Exa Z h33 o1_ cn0 := f32.wr W33
  have f67 : Exa Z h45 o1_ cn0 := f66.wr W45
  have f68 : Fld Z h3 o1_ cn0 "thread" "Ljava/lang/Thread;" .null := P5.other W3 (Or.inr (slot_ne (Or.inr (own_w hw 17 rfl)) (Or.inl (own_w hw 55 rfl)) (by decide) (t := (.object "java/lang/Thread")) (t' := (.object "latchwork/WaitQueue$Waiter")) (by decide) (by decide)))
  have f69 : Fld Z h10 o1_ cn0 "thread" "Ljava/lang/Thread;" .null := f68.other W10 (Or.inl (Ne.symm P18))
  have f70 : Fld Z h16 o1_ cn0 "thread" "Ljava/lang/Thread;" .null := f69.other W16 (Or.inl (Ne.symm P17))
  have f71 : Fld Z h25 o1_ cn0 "thread" "Ljava/lang/Thread;" .null := f70.other W25 (Or.inr (slot_ne (Or.inr (own_w hw 17 rfl)) (Or.inl (own_w hw 49 rfl)) (by decide) (t := (.object "java/lang/Thread")) (t' := .boolean) (by decide) (by decide)))
  have f72 : Fld Z h33 o1_ cn0 "thread" "Ljava/lang/Thread;" .null := f71.other W33 (Or.inr (slot_ne (Or.inr (own_w hw 17 rfl)) (Or.inl (own_w hw 51 rfl)) (by decide) (t := (.object "java/lang/Thread")) (t' := .boolean) (by decide) (by decide)))
  have f73 : Fld Z h45 o1_ cn0 "thread" "Ljava/lang/Thread;" .null := f72.other W45 (Or.inl (Ne.symm P17))
  have f74 : Fld Z h33 o1_ cn0 "picked" "Z" (.int (0 : Int32)) := f27.other W33 (Or.inr (slot_ne (Or.inl (own_w hw 49 rfl)) (Or.inl (own_w hw 51 rfl)) (by decide) (t := .boolean) (t' := .boolean) (by decide) (by decide)))
  have f75 : Fld Z h45 o1_ cn0 "picked" "Z" (.int (0 : Int32)) := f74.other W45 (Or.inl (Ne.symm P17))
  have f76 : Fld Z h45 o1_ cn0 "queued" "Z" (.int (1 : Int32)) := f35.other W45 (Or.inl (Ne.symm P17))
  have f77 : Fld Z h3 o1_ cn0 "next" "Llatchwork/WaitQueue$Waiter;" .null := P8.other W3 (Or.inr (slot_ne (Or.inl (own_w hw 53 rfl)) (Or.inl (own_w hw 55 rfl)) (by decide) (t := (.object "latchwork/WaitQueue$Waiter")) (t' := (.object "latchwork/WaitQueue$Waiter")) (by decide) (by decide)))
  have f78 : Fld Z h10 o1_ cn0 "next" "Llatchwork/WaitQueue$Waiter;" .null := f77.other W10 (Or.inl (Ne.symm P18))
  have f79 : Fld Z h16 o1_ cn0 "next" "Llatchwork/WaitQueue$Waiter;" .null := f78.other W16 (Or.inl (Ne.symm P17))
  have f80 : Fld Z h25 o1_ cn0 "next" "Llatchwork/WaitQueue$Waiter;" .null := f79.other W25 (Or.inr (slot_ne (Or.inl (own_w hw 53 rfl)) (Or.inl (own_w hw 49 rfl)) (by decide) (t := (.object "latchwork/WaitQueue$Waiter")) (t' := .boolean) (by decide) (by decide)))
  have f81 : Fld Z h33 o1_ cn0 "next" "Llatchwork/WaitQueue$Waiter;" .null := f80.other W33 (Or.inr (slot_ne (Or.inl (own_w hw 53 rfl)) (Or.inl (own_w hw 51 rfl)) (by decide) (t := (.object "latchwork/WaitQueue$Waiter")) (t' := .boolean) (by decide) (by decide)))
  have f82 : Fld Z h45 o1_ cn0 "next" "Llatchwork/WaitQueue$Waiter;" .null := f81.other W45 (Or.inl (Ne.symm P17))
  have f83 : Fld Z h10 o1_ cn0 "prev" "Llatchwork/WaitQueue$Waiter;" (.ref o2_) := f5.other W10 (Or.inl (Ne.symm P18))
  have f84 : Fld Z h16 o1_ cn0 "prev" "Llatchwork/WaitQueue$Waiter;" (.ref o2_) := f83.other W16 (Or.inl (Ne.symm P17))
  have f85 : Fld Z h25 o1_ cn0 "prev" "Llatchwork/WaitQueue$Waiter;" (.ref o2_) := f84.other W25 (Or.inr (slot_ne (Or.inl (own_w hw 55 rfl)) (Or.inl (own_w hw 49 rfl)) (by decide) (t := (.object "latchwork/WaitQueue$Waiter")) (t' := .boolean) (by decide) (by decide)))
  have f86 : Fld Z h33 o1_ cn0 "prev" "Llatchwork/WaitQueue$Waiter;" (.ref o2_) := f85.other W33 (Or.inr (slot_ne (Or.inl (own_w hw 55 rfl)) (Or.inl (own_w hw 51 rfl)) (by decide) (t := (.object "latchwork/WaitQueue$Waiter")) (t' := .boolean) (by decide) (by decide)))
  have f87 : Fld Z h45 o1_ cn0 "prev" "Llatchwork/WaitQueue$Waiter;" (.ref o2_) := f86.other W45 (Or.inl (Ne.symm P17))
  have f88 : Exa Z h10 o2_ cn0 := f9.wr W10
  have f89 : Exa Z h16 o2_ cn0 := f88.wr W16
  have f90 : Exa Z h25 o2_ cn0 := f89.wr W25
  have f91 : Exa Z h33 o2_ cn0 := f90.wr W33
  have f92 : Exa Z h45 o2_ cn0 := f91.wr W45
  have f93 : Fld Z h3 o2_ cn0 "thread" "Ljava/lang/Thread;" .null := P11.other W3 (Or.inl P18)
  have f94 : Fld Z h10 o2_ cn0 "thread" "Ljava/lang/Thread;" .null := f93.other W10 (Or.inr (slot_ne (Or.inr (own_w hw 17 rfl)) (Or.inl (own_w hw 53 rfl)) (by decide) (t := (.object "java/lang/Thread")) (t' := (.object "latchwork/WaitQueue$Waiter")) (by decide) (by decide)))
  have f95 : Fld Z h16 o2_ cn0 "thread" "Ljava/lang/Thread;" .null := f94.other W16 (Or.inl (Ne.symm P20))
  have f96 : Fld Z h25 o2_ cn0 "thread" "Ljava/lang/Thread;" .null := f95.other W25 (Or.inl P18)
  have f97 : Fld Z h33 o2_ cn0 "thread" "Ljava/lang/Thread;" .null := f96.other W33 (Or.inl P18)
  have f98 : Fld Z h45 o2_ cn0 "thread" "Ljava/lang/Thread;" .null := f97.other W45 (Or.inl (Ne.symm P20))
  have f99 : Fld Z h3 o2_ cn0 "picked" "Z" (.int (0 : Int32)) := P12.other W3 (Or.inl P18)
  have f100 : Fld Z h10 o2_ cn0 "picked" "Z" (.int (0 : Int32)) := f99.other W10 (Or.inr (slot_ne (Or.inl (own_w hw 49 rfl)) (Or.inl (own_w hw 53 rfl)) (by decide) (t := .boolean) (t' := (.object "latchwork/WaitQueue$Waiter")) (by decide) (by decide)))
  have f101 : Fld Z h16 o2_ cn0 "picked" "Z" (.int (0 : Int32)) := f100.other W16 (Or.inl (Ne.symm P20))
  have f102 : Fld Z h25 o2_ cn0 "picked" "Z" (.int (0 : Int32)) := f101.other W25 (Or.inl P18)
  have f103 : Fld Z h33 o2_ cn0 "picked" "Z" (.int (0 : Int32)) := f102.other W33 (Or.inl P18)
  have f104 : Fld Z h45 o2_ cn0 "picked" "Z" (.int (0 : Int32)) := f103.other W45 (Or.inl (Ne.symm P20))
  have f105 : Fld Z h3 o2_ cn0 "queued" "Z" (.int (1 : Int32)) := P13.other W3 (Or.inl P18)
  have f106 : Fld Z h10 o2_ cn0 "queued" "Z" (.int (1 : Int32)) := f105.other W10 (Or.inr (slot_ne (Or.inl (own_w hw 51 rfl)) (Or.inl (own_w hw 53 rfl)) (by decide) (t := .boolean) (t' := (.object "latchwork/WaitQueue$Waiter")) (by decide) (by decide)))
  have f107 : Fld Z h16 o2_ cn0 "queued" "Z" (.int (1 : Int32)) := f106.other W16 (Or.inl (Ne.symm P20))
  have f108 : Fld Z h25 o2_ cn0 "queued" "Z" (.int (1 : Int32)) := f107.other W25 (Or.inl P18)
  have f109 : Fld Z h33 o2_ cn0 "queued" "Z" (.int (1 : Int32)) := f108.other W33 (Or.inl P18)
  have f110 : Fld Z h45 o2_ cn0 "queued" "Z" (.int (1 : Int32)) := f109.other W45 (Or.inl (Ne.symm P20))
  have f111 : Fld Z h16 o2_ cn0 "next" "Llatchwork/WaitQueue$Waiter;" (.ref o1_) := f12.other W16 (Or.inl (Ne.symm P20))
  have f112 : Fld Z h25 o2_ cn0 "next" "Llatchwork/WaitQueue$Waiter;" (.ref o1_) := f111.other W25 (Or.inl P18)
  have f113 : Fld Z h33 o2_ cn0 "next" "Llatchwork/WaitQueue$Waiter;" (.ref o1_) := f112.other W33 (Or.inl P18)
  have f114 : Fld Z h45 o2_ cn0 "next" "Llatchwork/WaitQueue$Waiter;" (.ref o1_) := f113.other W45 (Or.inl (Ne.symm P20))
  have f115 : Fld Z h3 o2_ cn0 "prev" "Llatchwork/WaitQueue$Waiter;" .null := P15.other W3 (Or.inl P18)
  have f116 : Fld Z h10 o2_ cn0 "prev" "Llatchwork/WaitQueue$Waiter;" .null := f115.other W10 (Or.inr (slot_ne (Or.inl (own_w hw 55 rfl)) (Or.inl (own_w hw 53 rfl)) (by decide) (t := (.object "latchwork/WaitQueue$Waiter")) (t' := (.object "latchwork/WaitQueue$Waiter")) (by decide) (by decide)))
  have f117 : Fld Z h16 o2_ cn0 "prev" "Llatchwork/WaitQueue$Waiter;" .null := f116.other W16 (Or.inl (Ne.symm P20))
  have f118 : Fld Z h25 o2_ cn0 "prev" "Llatchwork/WaitQueue$Waiter;" .null := f117.other W25 (Or.inl P18)
  have f119 : Fld Z h33 o2_ cn0 "prev" "Llatchwork/WaitQueue$Waiter;" .null := f118.other W33 (Or.inl P18)
  have f120 : Fld Z h45 o2_ cn0 "prev" "Llatchwork/WaitQueue$Waiter;" .null := f119.other W45 (Or.inl (Ne.symm P20))
  obtain ⟨fs, hr, hrun, hended, hW, hsame⟩ := X45.leave (v := none) (fun _ => rfl)
  refine ⟨_, _, hG _ (pre48 _ (X45.returnOut hx Bd.returns (hb hby d7_89) hr)), hrun, hended, _, _, rfl, ?_, ⟨_, rfl⟩, hW, hsame.mono (by decide) (by decide)⟩
  show Qadd12 Z o0_ o1_ o2_ h0 n0 _ T45.heap _
  rw [e45]
  exact ⟨rfl, N46, f55, f56, f62, f47, f65, f67, f73, f75, f76, f82, f87, f92, f98, f104, f110, f114, f120⟩
theorem d8_56 : decode prog_8_method_9_code 56 = .ok (.aload_n 1, 1) := by decide +kernel
theorem d8_57 : decode prog_8_method_9_code 57 = .ok (.getfield 44, 3) := by decide +kernel
theorem d8_60 : decode prog_8_method_9_code 60 = .ok (.aload_n 1, 1) := by decide +kernel
theorem d8_61 : decode prog_8_method_9_code 61 = .ok (.getfield 49, 3) := by decide +kernel
theorem d8_64 : decode prog_8_method_9_code 64 = .ok (.putfield 49, 3) := by decide +kernel
theorem efremove14 (m : MethodId) (o0_ : Addr) (o1_ : Addr) : entryFrame m #[(.ref o0_), (.ref o1_)] 2 = mkF m 0 #[lvR o0_, lvR o1_] [] := by first | (simp [entryFrame, mkF, argsToLocals, Value.category]; done) | rfl
def Qremove14 (Z : State) (o0_ : Addr) (o1_ : Addr) (o2_ : Addr) (h0 : Heap) (n0 : Nat) (v : Option Value) (h : Heap) (L : List Loc) : Prop := v = some (.int (1 : Int32)) ∧ Fr n0 L ∧ Keep h0 h [o0_, o2_, o1_] ∧ Exa Z h o0_ "latchwork/WaitQueue" ∧ Fld Z h o0_ "latchwork/WaitQueue" "head" "Llatchwork/WaitQueue$Waiter;" (.ref o2_) ∧ Fld Z h o0_ "latchwork/WaitQueue" "size" "I" (.int (1 : Int32)) ∧ Fld Z h o0_ "latchwork/WaitQueue" "tail" "Llatchwork/WaitQueue$Waiter;" (.ref o2_) ∧ Exa Z h o1_ cn0 ∧ Fld Z h o1_ cn0 "thread" "Ljava/lang/Thread;" .null ∧ Fld Z h o1_ cn0 "picked" "Z" (.int (0 : Int32)) ∧ Fld Z h o1_ cn0 "queued" "Z" (.int (0 : Int32)) ∧ Fld Z h o1_ cn0 "next" "Llatchwork/WaitQueue$Waiter;" .null ∧ Fld Z h o1_ cn0 "prev" "Llatchwork/WaitQueue$Waiter;" .null ∧ Exa Z h o2_ cn0 ∧ Fld Z h o2_ cn0 "thread" "Ljava/lang/Thread;" .null ∧ Fld Z h o2_ cn0 "picked" "Z" (.int (0 : Int32)) ∧ Fld Z h o2_ cn0 "queued" "Z" (.int (1 : Int32)) ∧ Fld Z h o2_ cn0 "next" "Llatchwork/WaitQueue$Waiter;" .null ∧ Fld Z h o2_ cn0 "prev" "Llatchwork/WaitQueue$Waiter;" .null
set_option maxRecDepth 65536 in
set_option maxHeartbeats 40000000 in
theorem rmremove14 (l : Launch) (Z : State) (a0 : Array Value) (hw : ∀ d ∈ tables_1, d.before a0 Z = true) (ws : List Jvm.Cond) (o0_ : Addr) (o1_ : Addr) (o2_ : Addr) (h0 : Heap) (n0 : Nat) (O0 : Old Z n0 h0) (P0 : Exa Z h0 o0_ "latchwork/WaitQueue") (P1 : Fld Z h0 o0_ "latchwork/WaitQueue" "head" "Llatchwork/WaitQueue$Waiter;" (.ref o1_)) (P2 : Fld Z h0 o0_ "latchwork/WaitQueue" "size" "I" (.int (2 : Int32))) (P3 : Fld Z h0 o0_ "latchwork/WaitQueue" "tail" "Llatchwork/WaitQueue$Waiter;" (.ref o2_)) (P4 : Exa Z h0 o1_ cn0) (P5 : Fld Z h0 o1_ cn0 "thread" "Ljava/lang/Thread;" .null) (P6 : Fld Z h0 o1_ cn0 "picked" "Z" (.int (0 : Int32))) (P7 : Fld Z h0 o1_ cn0 "queued" "Z" (.int (1 : Int32))) (P8 : Fld Z h0 o1_ cn0 "next" "Llatchwork/WaitQueue$Waiter;" (.ref o2_)) (P9 : Fld Z h0 o1_ cn0 "prev" "Llatchwork/WaitQueue$Waiter;" .null) (P10 : Exa Z h0 o2_ cn0) (P11 : Fld Z h0 o2_ cn0 "thread" "Ljava/lang/Thread;" .null) (P12 : Fld Z h0 o2_ cn0 "picked" "Z" (.int (0 : Int32))) (P13 : Fld Z h0 o2_ cn0 "queued" "Z" (.int (1 : Int32))) (P14 : Fld Z h0 o2_ cn0 "next" "Llatchwork/WaitQueue$Waiter;" .null) (P15 : Fld Z h0 o2_ cn0 "prev" "Llatchwork/WaitQueue$Waiter;" (.ref o1_)) (P16 : n0 ≤ o0_) (P17 : o1_ ≠ o0_) (P18 : o2_ ≠ o0_) (P19 : n0 ≤ o2_) (P20 : o1_ ≠ o2_) (P21 : n0 ≤ o1_) :
    MetFree l (⟨"latchwork/WaitQueue", "remove", "(Llatchwork/WaitQueue$Waiter;)Z"⟩ : MethodName) (head1 (Jvm.Cond.code (⟨"latchwork/WaitQueue", "remove", "(Llatchwork/WaitQueue$Waiter;)Z"⟩ : MethodName) prog_8_method_9_code 2 (some .boolean) :: ws) ({ frames := 0, cells := 0, slots := 0, locals := 0 } : Room)) (fun a U => a = #[(.ref o0_), (.ref o1_)] ∧ Z.Warmed39 U.vm ∧ U.heap = h0) (fun _ _ _ _ _ => True) (fun _ U o U' => ∃ v L, o = .returned v ∧ Qremove14 Z o0_ o1_ o2_ h0 n0 v U'.heap L ∧ FrameEnd U o U' L ({ frames := 0, cells := 0, slots := 0, locals := 0 } : Room).cells ({ frames := 0, cells := 0, slots := 0, locals := 0 } : Room).slots) := by
  refine MetFree.of_bodySF (plainFor_of_name pn_0) hisR ?_
  intro p e s m args below meth c s₁ Bd hml0 hP hK
  obtain ⟨rfl, hZ, hh⟩ := hP
  have hx := Bd.exec
  have hby := Bd.bytes
  have hml : c.maxLocals = 2 := hml0
  have hown : s.vm.findClass "latchwork/WaitQueue" = some m.cls := findClass_of_methodNamed Bd.named
  have hnm := (name_of_methodNamed Bd.named Bd.method).1
  have X0 : Stand p l e ({ frames := 0, cells := 0, slots := 0, locals := 0 } : Room) s m #[(.ref o0_), (.ref o1_)] below meth c s₁ [] 0 0 := Stand.of_body Bd
  have e0 : s₁.heap = h0 := by rw [← hh, Bd.state]; rfl
  have N0 := Fr.nil n0
  obtain ⟨G, pre0, hG⟩ : ∃ G : State → Prop, (∀ t, own_S p e below m s₁ 0 #[lvR o0_, lvR o1_] [] t → G t) ∧ (∀ t, G t → Steps p.tables e below (s₁.setTop (entryFrame m #[(.ref o0_), (.ref o1_)] 2)) t) := ⟨fun t => Steps p.tables e below (s₁.setTop (entryFrame m #[(.ref o0_), (.ref o1_)] 2)) t, fun t k => castTop (efremove14 m o0_ o1_) k, fun _ k => k⟩
  have K0 : Keep h0 h0 [o0_, o2_, o1_] := Keep.refl _ _
  obtain ⟨T1, X1, e1, st1⟩ := own_getR X0 hx hZ hown (own_w hw 50 rfl) Via.refl e0 P7 (g := (mkF m 1 #[lvR o0_, lvR o1_] [(.ref o1_)])) rfl rfl (hb hby d8_1)
  obtain ⟨T2, X2, e2, st2⟩ := own_getR X1 hx hZ hown (own_w hw 54 rfl) Via.refl e1 P9 (g := (mkF m 10 #[lvR o0_, lvR o1_] [(.ref o1_)])) rfl rfl (hb hby d8_10)
  obtain ⟨T3, X3, e3, st3⟩ := own_getR X2 hx hZ hown (own_w hw 52 rfl) Via.refl e2 P8 (g := (mkF m 18 #[lvR o0_, lvR o1_] [(.ref o1_), (.ref o0_)])) rfl rfl (hb hby d8_18)
  obtain ⟨T4, h4, X4, e4, W4, st4⟩ := putF X3 hx hZ hown (host := "") (Or.inl (own_w hw 23 rfl)) Via.refl e3 P1 P0 (Or.inl (own_w hw 24 rfl)) (own_w hw 1 rfl) (ty := (.object "latchwork/WaitQueue$Waiter")) (by decide) rfl rfl (g := (mkF m 21 #[lvR o0_, lvR o1_] [(.ref o2_), (.ref o0_)])) rfl rfl (hb hby d8_21)
  have N5 := Fr.snoc X4 N0 P16
  have f6 : Fld Z h4 o0_ "latchwork/WaitQueue" "head" "Llatchwork/WaitQueue$Waiter;" (.ref o2_) := P1.same W4
  have f7 : Fld Z h4 o1_ cn0 "next" "Llatchwork/WaitQueue$Waiter;" (.ref o2_) := P8.other W4 (Or.inl P17)
  obtain ⟨T8, X8, e8, st8⟩ := own_getR X4 hx hZ hown (own_w hw 52 rfl) Via.refl e4 f7 (g := (mkF m 39 #[lvR o0_, lvR o1_] [(.ref o1_)])) rfl rfl (hb hby d8_39)
  obtain ⟨T9, X9, e9, st9⟩ := own_getR X8 hx hZ hown (own_w hw 52 rfl) Via.refl e8 f7 (g := (mkF m 57 #[lvR o0_, lvR o1_] [(.ref o1_)])) rfl rfl (hb hby d8_57)
  have f10 : Fld Z h4 o1_ cn0 "prev" "Llatchwork/WaitQueue$Waiter;" .null := P9.other W4 (Or.inl P17)
  obtain ⟨T11, X11, e11, st11⟩ := own_getR X9 hx hZ hown (own_w hw 54 rfl) Via.refl e9 f10 (g := (mkF m 61 #[lvR o0_, lvR o1_] [(.ref o1_), (.ref o2_)])) rfl rfl (hb hby d8_61)
  have f12 : Fld Z h4 o2_ cn0 "prev" "Llatchwork/WaitQueue$Waiter;" (.ref o1_) := P15.other W4 (Or.inl P18)
  have f13 : Exa Z h4 o2_ cn0 := P10.wr W4
  obtain ⟨T14, h14, X14, e14, W14, st14⟩ := own_putR X11 hx hZ hown (own_w hw 54 rfl) Via.refl e11 f12 f13 (own_w hw 55 rfl) (own_w hw 10 rfl) (ty := (.object "latchwork/WaitQueue$Waiter")) (by decide) rfl rfl (g := (mkF m 64 #[lvR o0_, lvR o1_] [.null, (.ref o2_)])) rfl rfl (hb hby d8_64)
  have N15 := Fr.snoc X14 N5 P19
  have f16 : Fld Z h14 o2_ cn0 "prev" "Llatchwork/WaitQueue$Waiter;" .null := f12.same W14
  have f17 : Fld Z h14 o1_ cn0 "prev" "Llatchwork/WaitQueue$Waiter;" .null := f10.other W14 (Or.inl P20)
  have f18 : Exa Z h4 o1_ cn0 := P4.wr W4
  have f19 : Exa Z h14 o1_ cn0 := f18.wr W14
  obtain ⟨T20, h20, X20, e20, W20, st20⟩ := own_putR X14 hx hZ hown (own_w hw 54 rfl) Via.refl e14 f17 f19 (own_w hw 55 rfl) (own_w hw 10 rfl) (ty := (.object "latchwork/WaitQueue$Waiter")) (by decide) rfl rfl (g := (mkF m 69 #[lvR o0_, lvR o1_] [.null, (.ref o1_)])) rfl rfl (hb hby d8_69)
  have N21 := Fr.snoc X20 N15 P21
  have f22 : Fld Z h20 o1_ cn0 "prev" "Llatchwork/WaitQueue$Waiter;" .null := f17.same W20
  have f23 : Fld Z h14 o1_ cn0 "next" "Llatchwork/WaitQueue$Waiter;" (.ref o2_) := f7.other W14 (Or.inl P20)
  have f24 : Fld Z h20 o1_ cn0 "next" "Llatchwork/WaitQueue$Waiter;" (.ref o2_) := f23.other W20 (Or.inr (slot_ne (Or.inl (own_w hw 53 rfl)) (Or.inl (own_w hw 55 rfl)) (by decide) (t := (.object "latchwork/WaitQueue$Waiter")) (t' := (.object "latchwork/WaitQueue$Waiter")) (by decide) (by decide)))
  have f25 : Exa Z h20 o1_ cn0 := f19.wr W20
  obtain ⟨T26, h26, X26, e26, W26, st26⟩ := own_putR X20 hx hZ hown (own_w hw 52 rfl) Via.refl e20 f24 f25 (own_w hw 53 rfl) (own_w hw 10 rfl) (ty := (.object "latchwork/WaitQueue$Waiter")) (by decide) rfl rfl (g := (mkF m 74 #[lvR o0_, lvR o1_] [.null, (.ref o1_)])) rfl rfl (hb hby d8_74)
  have N27 := Fr.snoc X26 N21 P21
  have f28 : Fld Z h26 o1_ cn0 "next" "Llatchwork/WaitQueue$Waiter;" .null := f24.same W26
  have f29 : Fld Z h4 o1_ cn0 "queued" "Z" (.int (1 : Int32)) := P7.other W4 (Or.inl P17)
  have f30 : Fld Z h14 o1_ cn0 "queued" "Z" (.int (1 : Int32)) := f29.other W14 (Or.inl P20)
  have f31 : Fld Z h20 o1_ cn0 "queued" "Z" (.int (1 : Int32)) := f30.other W20 (Or.inr (slot_ne (Or.inl (own_w hw 51 rfl)) (Or.inl (own_w hw 55 rfl)) (by decide) (t := .boolean) (t' := (.object "latchwork/WaitQueue$Waiter")) (by decide) (by decide)))
  have f32 : Fld Z h26 o1_ cn0 "queued" "Z" (.int (1 : Int32)) := f31.other W26 (Or.inr (slot_ne (Or.inl (own_w hw 51 rfl)) (Or.inl (own_w hw 53 rfl)) (by decide) (t := .boolean) (t' := (.object "latchwork/WaitQueue$Waiter")) (by decide) (by decide)))
  have f33 : Exa Z h26 o1_ cn0 := f25.wr W26
  obtain ⟨T34, h34, X34, e34, W34, st34⟩ := own_putR X26 hx hZ hown (own_w hw 50 rfl) Via.refl e26 f32 f33 (own_w hw 51 rfl) (own_w hw 10 rfl) (ty := .boolean) (by decide) rfl rfl (g := (mkF m 79 #[lvR o0_, lvR o1_] [(.int (0 : Int32)), (.ref o1_)])) rfl rfl (hb hby d8_79)
  have N35 := Fr.snoc X34 N27 P21
  have f36 : Fld Z h34 o1_ cn0 "queued" "Z" (.int (0 : Int32)) := f32.same W34
  have f37 : Fld Z h4 o0_ "latchwork/WaitQueue" "size" "I" (.int (2 : Int32)) := P2.other W4 (Or.inr (slot_ne (Or.inl (own_w hw 31 rfl)) (Or.inl (own_w hw 24 rfl)) (by decide) (t := .int) (t' := (.object "latchwork/WaitQueue$Waiter")) (by decide) (by decide)))
  have f38 : Fld Z h14 o0_ "latchwork/WaitQueue" "size" "I" (.int (2 : Int32)) := f37.other W14 (Or.inl (Ne.symm P18))
  have f39 : Fld Z h20 o0_ "latchwork/WaitQueue" "size" "I" (.int (2 : Int32)) := f38.other W20 (Or.inl (Ne.symm P17))
  have f40 : Fld Z h26 o0_ "latchwork/WaitQueue" "size" "I" (.int (2 : Int32)) := f39.other W26 (Or.inl (Ne.symm P17))
  have f41 : Fld Z h34 o0_ "latchwork/WaitQueue" "size" "I" (.int (2 : Int32)) := f40.other W34 (Or.inl (Ne.symm P17))
  obtain ⟨T42, X42, e42, st42⟩ := getF X34 hx hZ hown (host := "") (Or.inl (own_w hw 30 rfl)) Via.refl e34 f41 (g := (mkF m 84 #[lvR o0_, lvR o1_] [(.ref o0_), (.ref o0_)])) rfl rfl (hb hby d8_84)
  have f43 : Exa Z h4 o0_ "latchwork/WaitQueue" := P0.wr W4
  have f44 : Exa Z h14 o0_ "latchwork/WaitQueue" := f43.wr W14
  have f45 : Exa Z h20 o0_ "latchwork/WaitQueue" := f44.wr W20
  have f46 : Exa Z h26 o0_ "latchwork/WaitQueue" := f45.wr W26
  have f47 : Exa Z h34 o0_ "latchwork/WaitQueue" := f46.wr W34
  obtain ⟨T48, h48, X48, e48, W48, st48⟩ := putF X42 hx hZ hown (host := "") (Or.inl (own_w hw 30 rfl)) Via.refl e42 f41 f47 (Or.inl (own_w hw 31 rfl)) (own_w hw 1 rfl) (ty := .int) (by decide) rfl rfl (g := (mkF m 89 #[lvR o0_, lvR o1_] [(.int (1 : Int32)), (.ref o0_)])) rfl rfl (hb hby d8_89)
  have N49 := Fr.snoc X48 N35 P16
  have f50 : Fld Z h48 o0_ "latchwork/WaitQueue" "size" "I" (.int (1 : Int32)) := f41.same W48
  have pre51 : ∀ t, own_S p e below m T48 93 #[lvR o0_, lvR o1_] [(.int (1 : Int32))] t → G t := by
    intro t kt
    refine pre0 t ?_
    show own_S p e below m s₁ 0 #[lvR o0_, lvR o1_] [] _
    refine XS.aloadN X0.here hx rfl (hb hby d8_0) rfl rfl ?_
    show own_S p e below m s₁ 1 #[lvR o0_, lvR o1_] [(.ref o1_)] _
    refine st1 _ ?_
    show own_S p e below m T1 4 #[lvR o0_, lvR o1_] [(.int (1 : Int32))] _
    refine XS.ifYes X1.here hx rfl (pc0 := 4) (pc' := 9) rfl (hb hby d8_4) rfl ((if0 _ _).trans (feq (by decide : ¬ ((1 : Int32) = (0 : Int32)))).2) (by decide) (by decide) ?_
    refine XS.aloadN X1.here hx rfl (hb hby d8_9) rfl rfl ?_
    show own_S p e below m T1 10 #[lvR o0_, lvR o1_] [(.ref o1_)] _
    refine st2 _ ?_
    show own_S p e below m T2 13 #[lvR o0_, lvR o1_] [.null] _
    refine XS.ifnonnullNo X2.here hx rfl (hb hby d8_13) rfl ?_
    refine XS.aloadN X2.here hx rfl (hb hby d8_16) rfl rfl ?_
    refine XS.aloadN X2.here hx rfl (hb hby d8_17) rfl rfl ?_
    show own_S p e below m T2 18 #[lvR o0_, lvR o1_] [(.ref o1_), (.ref o0_)] _
    refine st3 _ ?_
    show own_S p e below m T3 21 #[lvR o0_, lvR o1_] [(.ref o2_), (.ref o0_)] _
    refine st4 _ ?_
    refine XS.goto X4.here hx rfl (pc0 := 24) (pc' := 38) rfl (hb hby d8_24) (by decide) (by decide) ?_
    refine XS.aloadN X4.here hx rfl (hb hby d8_38) rfl rfl ?_
    show own_S p e below m T4 39 #[lvR o0_, lvR o1_] [(.ref o1_)] _
    refine st8 _ ?_
    show own_S p e below m T8 42 #[lvR o0_, lvR o1_] [(.ref o2_)] _
    refine XS.ifnonnullYes X8.here hx rfl (pc0 := 42) (pc' := 56) rfl (hb hby d8_42) rfl (by decide) (by decide) ?_
    refine XS.aloadN X8.here hx rfl (hb hby d8_56) rfl rfl ?_
    show own_S p e below m T8 57 #[lvR o0_, lvR o1_] [(.ref o1_)] _
    refine st9 _ ?_
    refine XS.aloadN X9.here hx rfl (hb hby d8_60) rfl rfl ?_
    show own_S p e below m T9 61 #[lvR o0_, lvR o1_] [(.ref o1_), (.ref o2_)] _
    refine st11 _ ?_
    show own_S p e below m T11 64 #[lvR o0_, lvR o1_] [.null, (.ref o2_)] _
    refine st14 _ ?_
    refine XS.aloadN X14.here hx rfl (hb hby d8_67) rfl rfl ?_
    refine XS.aconstNull X14.here hx rfl (hb hby d8_68) ?_
    show own_S p e below m T14 69 #[lvR o0_, lvR o1_] [.null, (.ref o1_)] _
    refine st20 _ ?_
    refine XS.aloadN X20.here hx rfl (hb hby d8_72) rfl rfl ?_
    refine XS.aconstNull X20.here hx rfl (hb hby d8_73) ?_
    show own_S p e below m T20 74 #[lvR o0_, lvR o1_] [.null, (.ref o1_)] _
    refine st26 _ ?_
    refine XS.aloadN X26.here hx rfl (hb hby d8_77) rfl rfl ?_
    refine XS.iconst X26.here hx rfl (hb hby d8_78) ?_
    show own_S p e below m T26 79 #[lvR o0_, lvR o1_] [(.int (0 : Int32)), (.ref o1_)] _
    refine st34 _ ?_
    refine XS.aloadN X34.here hx rfl (hb hby d8_82) rfl rfl ?_
    refine XS.dup X34.here hx rfl (hb hby d8_83) rfl rfl ?_
    show own_S p e below m T34 84 #[lvR o0_, lvR o1_] [(.ref o0_), (.ref o0_)] _
    refine st42 _ ?_
    refine XS.iconst X42.here hx rfl (hb hby d8_87) ?_
    refine XS.isub X42.here hx rfl (hb hby d8_88) rfl ?_
    show own_S p e below m T42 89 #[lvR o0_, lvR o1_] [(.int (1 : Int32)), (.ref o0_)] _
    refine st48 _ ?_
    refine XS.iconst X48.here hx rfl (hb hby d8_92) ?_
    exact kt
  have f53 : Keep h0 h4 [o0_, o2_, o1_] := K0.wr W4 (Or.inl (List.mem_of_getElem? (i := 0) rfl))
  have f54 : Keep h0 h14 [o0_, o2_, o1_] := f53.wr W14 (Or.inl (List.mem_of_getElem? (i := 1) rfl))
  have f55 : Keep h0 h20 [o0_, o2_, o1_] := f54.wr W20 (Or.inl (List.mem_of_getElem? (i := 2) rfl))
  have f56 : Keep h0 h26 [o0_, o2_, o1_] := f55.wr W26 (Or.inl (List.mem_of_getElem? (i := 2) rfl))
  have f57 : Keep h0 h34 [o0_, o2_, o1_] := f56.wr W34 (Or.inl (List.mem_of_getElem? (i := 2) rfl))
  have f58 : Keep h0 h48 [o0_, o2_, o1_] := f57.wr W48 (Or.inl (List.mem_of_getElem? (i := 0) rfl))
  have f59 : Exa Z h48 o0_ "latchwork/WaitQueue" := f47.wr W48
  have f60 : Fld Z h14 o0_ "latchwork/WaitQueue" "head" "Llatchwork/WaitQueue$Waiter;" (.ref o2_) := f6.other W14 (Or.inl (Ne.symm P18))
  have f61 : Fld Z h20 o0_ "latchwork/WaitQueue" "head" "Llatchwork/WaitQueue$Waiter;" (.ref o2_) := f60.other W20 (Or.inl (Ne.symm P17))
  have f62 : Fld Z h26 o0_ "latchwork/WaitQueue" "head" "Llatchwork/WaitQueue$Waiter;" (.ref o2_) := f61.other W26 (Or.inl (Ne.symm P17))
  have f63 : Fld Z h34 o0_ "latchwork/WaitQueue" "head" "Llatchwork/WaitQueue$Waiter;" (.ref o2_) := f62.other W34 (Or.inl (Ne.symm P17))
  have f64 : Fld Z h48 o0_ "latchwork/WaitQueue" "head" "Llatchwork/WaitQueue$Waiter;" (.ref o2_) := f63.other W48 (Or.inr (slot_ne (Or.inl (own_w hw 24 rfl)) (Or.inl (own_w hw 31 rfl)) (by decide) (t := (.object "latchwork/WaitQueue$Waiter")) (t' := .int) (by decide) (by decide)))
  have f65 : Fld Z h4 o0_ "latchwork/WaitQueue" "tail" "Llatchwork/WaitQueue$Waiter;" (.ref o2_) := P3.other W4 (Or.inr (slot_ne (Or.inl (own_w hw 47 rfl)) (Or.inl (own_w hw 24 rfl)) (by decide) (t := (.object "latchwork/WaitQueue$Waiter")) (t' := (.object "latchwork/WaitQueue$Waiter")) (by decide) (by decide)))
  have f66 : Fld Z h14 o0_ "latchwork/WaitQueue" "tail" "Llatchwork/WaitQueue$Waiter;" (.ref o2_) := f65.other W14 (Or.inl (Ne.symm P18))
  have f67 : Fld Z h20 o0_ "latchwork/WaitQueue" "tail" "Llatchwork/WaitQueue$Waiter;" (.ref o2_) := f66.other W20 (Or.inl (Ne.symm P17))
  have f68 : Fld Z h26 o0_ "latchwork/WaitQueue" "tail" "Llatchwork/WaitQueue$Waiter;" (.ref o2_) := f67.other W26 (Or.inl (Ne.symm P17))
  have f69 : Fld Z h34 o0_ "latchwork/WaitQueue" "tail" "Llatchwork/WaitQueue$Waiter;" (.ref o2_) := f68.other W34 (Or.inl (Ne.symm P17))
  have f70 : Fld Z h48 o0_ "latchwork/WaitQueue" "tail" "Llatchwork/WaitQueue$Waiter;" (.ref o2_) := f69.other W48 (Or.inr (slot_ne (Or.inl (own_w hw 47 rfl)) (Or.inl (own_w hw 31 rfl)) (by decide) (t := (.object "latchwork/WaitQueue$Waiter")) (t' := .int) (by decide) (by decide)))
  have f71 : Exa Z h34 o1_ cn0 := f33.wr W34
  have f72 : Exa Z h48 o1_ cn0 := f71.wr W48
  have f73 : Fld Z h4 o1_ cn0 "thread" "Ljava/lang/Thread;" .null := P5.other W4 (Or.inl P17)
  have f74 : Fld Z h14 o1_ cn0 "thread" "Ljava/lang/Thread;" .null := f73.other W14 (Or.inl P20)
  have f75 : Fld Z h20 o1_ cn0 "thread" "Ljava/lang/Thread;" .null := f74.other W20 (Or.inr (slot_ne (Or.inr (own_w hw 17 rfl)) (Or.inl (own_w hw 55 rfl)) (by decide) (t := (.object "java/lang/Thread")) (t' := (.object "latchwork/WaitQueue$Waiter")) (by decide) (by decide)))
  have f76 : Fld Z h26 o1_ cn0 "thread" "Ljava/lang/Thread;" .null := f75.other W26 (Or.inr (slot_ne (Or.inr (own_w hw 17 rfl)) (Or.inl (own_w hw 53 rfl)) (by decide) (t := (.object "java/lang/Thread")) (t' := (.object "latchwork/WaitQueue$Waiter")) (by decide) (by decide)))
  have f77 : Fld Z h34 o1_ cn0 "thread" "Ljava/lang/Thread;" .null := f76.other W34 (Or.inr (slot_ne (Or.inr (own_w hw 17 rfl)) (Or.inl (own_w hw 51 rfl)) (by decide) (t := (.object "java/lang/Thread")) (t' := .boolean) (by decide) (by decide)))
  have f78 : Fld Z h48 o1_ cn0 "thread" "Ljava/lang/Thread;" .null := f77.other W48 (Or.inl P17)
  have f79 : Fld Z h4 o1_ cn0 "picked" "Z" (.int (0 : Int32)) := P6.other W4 (Or.inl P17)
  have f80 : Fld Z h14 o1_ cn0 "picked" "Z" (.int (0 : Int32)) := f79.other W14 (Or.inl P20)
  have f81 : Fld Z h20 o1_ cn0 "picked" "Z" (.int (0 : Int32)) := f80.other W20 (Or.inr (slot_ne (Or.inl (own_w hw 49 rfl)) (Or.inl (own_w hw 55 rfl)) (by decide) (t := .boolean) (t' := (.object "latchwork/WaitQueue$Waiter")) (by decide) (by decide)))
  have f82 : Fld Z h26 o1_ cn0 "picked" "Z" (.int (0 : Int32)) := f81.other W26 (Or.inr (slot_ne (Or.inl (own_w hw 49 rfl)) (Or.inl (own_w hw 53 rfl)) (by decide) (t := .boolean) (t' := (.object "latchwork/WaitQueue$Waiter")) (by decide) (by decide)))
  have f83 : Fld Z h34 o1_ cn0 "picked" "Z" (.int (0 : Int32)) := f82.other W34 (Or.inr (slot_ne (Or.inl (own_w hw 49 rfl)) (Or.inl (own_w hw 51 rfl)) (by decide) (t := .boolean) (t' := .boolean) (by decide) (by decide)))
  have f84 : Fld Z h48 o1_ cn0 "picked" "Z" (.int (0 : Int32)) := f83.other W48 (Or.inl P17)
  have f85 : Fld Z h48 o1_ cn0 "queued" "Z" (.int (0 : Int32)) := f36.other W48 (Or.inl P17)
  have f86 : Fld Z h34 o1_ cn0 "next" "Llatchwork/WaitQueue$Waiter;" .null := f28.other W34 (Or.inr (slot_ne (Or.inl (own_w hw 53 rfl)) (Or.inl (own_w hw 51 rfl)) (by decide) (t := (.object "latchwork/WaitQueue$Waiter")) (t' := .boolean) (by decide) (by decide)))
  have f87 : Fld Z h48 o1_ cn0 "next" "Llatchwork/WaitQueue$Waiter;" .null := f86.other W48 (Or.inl P17)
  have f88 : Fld Z h26 o1_ cn0 "prev" "Llatchwork/WaitQueue$Waiter;" .null := f22.other W26 (Or.inr (slot_ne (Or.inl (own_w hw 55 rfl)) (Or.inl (own_w hw 53 rfl)) (by decide) (t := (.object "latchwork/WaitQueue$Waiter")) (t' := (.object "latchwork/WaitQueue$Waiter")) (by decide) (by decide)))
  have f89 : Fld Z h34 o1_ cn0 "prev" "Llatchwork/WaitQueue$Waiter;" .null := f88.other W34 (Or.inr (slot_ne (Or.inl (own_w hw 55 rfl)) (Or.inl (own_w hw 51 rfl)) (by decide) (t := (.object "latchwork/WaitQueue$Waiter")) (t' := .boolean) (by decide) (by decide)))
  have f90 : Fld Z h48 o1_ cn0 "prev" "Llatchwork/WaitQueue$Waiter;" .null := f89.other W48 (Or.inl P17)
  have f91 : Exa Z h14 o2_ cn0 := f13.wr W14
  have f92 : Exa Z h20 o2_ cn0 := f91.wr W20
  have f93 : Exa Z h26 o2_ cn0 := f92.wr W26
  have f94 : Exa Z h34 o2_ cn0 := f93.wr W34
  have f95 : Exa Z h48 o2_ cn0 := f94.wr W48
  have f96 : Fld Z h4 o2_ cn0 "thread" "Ljava/lang/Thread;" .null := P11.other W4 (Or.inl P18)
  have f97 : Fld Z h14 o2_ cn0 "thread" "Ljava/lang/Thread;" .null := f96.other W14 (Or.inr (slot_ne (Or.inr (own_w hw 17 rfl)) (Or.inl (own_w hw 55 rfl)) (by decide) (t := (.object "java/lang/Thread")) (t' := (.object "latchwork/WaitQueue$Waiter")) (by decide) (by decide)))
  have f98 : Fld Z h20 o2_ cn0 "thread" "Ljava/lang/Thread;" .null := f97.other W20 (Or.inl (Ne.symm P20))
  have f99 : Fld Z h26 o2_ cn0 "thread" "Ljava/lang/Thread;" .null := f98.other W26 (Or.inl (Ne.symm P20))
  have f100 : Fld Z h34 o2_ cn0 "thread" "Ljava/lang/Thread;" .null := f99.other W34 (Or.inl (Ne.symm P20))
  have f101 : Fld Z h48 o2_ cn0 "thread" "Ljava/lang/Thread;" .null := f100.other W48 (Or.inl P18)
  have f102 : Fld Z h4 o2_ cn0 "picked" "Z" (.int (0 : Int32)) := P12.other W4 (Or.inl P18)
  have f103 : Fld Z h14 o2_ cn0 "picked" "Z" (.int (0 : Int32)) := f102.other W14 (Or.inr (slot_ne (Or.inl (own_w hw 49 rfl)) (Or.inl (own_w hw 55 rfl)) (by decide) (t := .boolean) (t' := (.object "latchwork/WaitQueue$Waiter")) (by decide) (by decide)))
  have f104 : Fld Z h20 o2_ cn0 "picked" "Z" (.int (0 : Int32)) := f103.other W20 (Or.inl (Ne.symm P20))
  have f105 : Fld Z h26 o2_ cn0 "picked" "Z" (.int (0 : Int32)) := f104.other W26 (Or.inl (Ne.symm P20))
  have f106 : Fld Z h34 o2_ cn0 "picked" "Z" (.int (0 : Int32)) := f105.other W34 (Or.inl (Ne.symm P20))
  have f107 : Fld Z h48 o2_ cn0 "picked" "Z" (.int (0 : Int32)) := f106.other W48 (Or.inl P18)
  have f108 : Fld Z h4 o2_ cn0 "queued" "Z" (.int (1 : Int32)) := P13.other W4 (Or.inl P18)
  have f109 : Fld Z h14 o2_ cn0 "queued" "Z" (.int (1 : Int32)) := f108.other W14 (Or.inr (slot_ne (Or.inl (own_w hw 51 rfl)) (Or.inl (own_w hw 55 rfl)) (by decide) (t := .boolean) (t' := (.object "latchwork/WaitQueue$Waiter")) (by decide) (by decide)))
  have f110 : Fld Z h20 o2_ cn0 "queued" "Z" (.int (1 : Int32)) := f109.other W20 (Or.inl (Ne.symm P20))
  have f111 : Fld Z h26 o2_ cn0 "queued" "Z" (.int (1 : Int32)) := f110.other W26 (Or.inl (Ne.symm P20))
  have f112 : Fld Z h34 o2_ cn0 "queued" "Z" (.int (1 : Int32)) := f111.other W34 (Or.inl (Ne.symm P20))
  have f113 : Fld Z h48 o2_ cn0 "queued" "Z" (.int (1 : Int32)) := f112.other W48 (Or.inl P18)
  have f114 : Fld Z h4 o2_ cn0 "next" "Llatchwork/WaitQueue$Waiter;" .null := P14.other W4 (Or.inl P18)
  have f115 : Fld Z h14 o2_ cn0 "next" "Llatchwork/WaitQueue$Waiter;" .null := f114.other W14 (Or.inr (slot_ne (Or.inl (own_w hw 53 rfl)) (Or.inl (own_w hw 55 rfl)) (by decide) (t := (.object "latchwork/WaitQueue$Waiter")) (t' := (.object "latchwork/WaitQueue$Waiter")) (by decide) (by decide)))
  have f116 : Fld Z h20 o2_ cn0 "next" "Llatchwork/WaitQueue$Waiter;" .null := f115.other W20 (Or.inl (Ne.symm P20))
  have f117 : Fld Z h26 o2_ cn0 "next" "Llatchwork/WaitQueue$Waiter;" .null := f116.other W26 (Or.inl (Ne.symm P20))
  have f118 : Fld Z h34 o2_ cn0 "next" "Llatchwork/WaitQueue$Waiter;" .null := f117.other W34 (Or.inl (Ne.symm P20))
  have f119 : Fld Z h48 o2_ cn0 "next" "Llatchwork/WaitQueue$Waiter;" .null := f118.other W48 (Or.inl P18)
  have f120 : Fld Z h20 o2_ cn0 "prev" "Llatchwork/WaitQueue$Waiter;" .null := f16.other W20 (Or.inl (Ne.symm P20))
  have f121 : Fld Z h26 o2_ cn0 "prev" "Llatchwork/WaitQueue$Waiter;" .null := f120.other W26 (Or.inl (Ne.symm P20))
  have f122 : Fld Z h34 o2_ cn0 "prev" "Llatchwork/WaitQueue$Waiter;" .null := f121.other W34 (Or.inl (Ne.symm P20))
  have f123 : Fld Z h48 o2_ cn0 "prev" "Llatchwork/WaitQueue$Waiter;" .null := f122.other W48 (Or.inl P18)
  obtain ⟨fs, hr, hrun, hended, hW, hsame⟩ := X48.leave (v := some (.int (1 : Int32))) (fun h => by rw [Bd.returns] at h; cases h)
  refine ⟨_, _, hG _ (pre51 _ (retN X48 hx (t := .boolean) Bd.returns (by simp) (hb hby d8_93) hr)), hrun, hended, _, _, rfl, ?_, ⟨_, rfl⟩, hW, hsame.mono (by decide) (by decide)⟩
  show Qremove14 Z o0_ o1_ o2_ h0 n0 _ T48.heap _
  rw [e48]
  exact ⟨rfl, N49, f58, f59, f64, f50, f70, f72, f78, f84, f85, f87, f90, f95, f101, f107, f113, f119, f123⟩
theorem efpoll13 (m : MethodId) (o0_ : Addr) : entryFrame m #[(.ref o0_)] 2 = mkF m 0 #[lvR o0_, .unset] [] := by first | (simp [entryFrame, mkF, argsToLocals, Value.category]; done) | rfl
def Qpoll13 (Z : State) (o0_ : Addr) (o1_ : Addr) (o2_ : Addr) (h0 : Heap) (n0 : Nat) (v : Option Value) (h : Heap) (L : List Loc) : Prop := v = some (.ref o1_) ∧ Fr n0 L ∧ Keep h0 h [o0_, o2_, o1_] ∧ Exa Z h o0_ "latchwork/WaitQueue" ∧ Fld Z h o0_ "latchwork/WaitQueue" "head" "Llatchwork/WaitQueue$Waiter;" (.ref o2_) ∧ Fld Z h o0_ "latchwork/WaitQueue" "size" "I" (.int (1 : Int32)) ∧ Fld Z h o0_ "latchwork/WaitQueue" "tail" "Llatchwork/WaitQueue$Waiter;" (.ref o2_) ∧ Exa Z h o1_ cn0 ∧ Fld Z h o1_ cn0 "thread" "Ljava/lang/Thread;" .null ∧ Fld Z h o1_ cn0 "picked" "Z" (.int (0 : Int32)) ∧ Fld Z h o1_ cn0 "queued" "Z" (.int (0 : Int32)) ∧ Fld Z h o1_ cn0 "next" "Llatchwork/WaitQueue$Waiter;" .null ∧ Fld Z h o1_ cn0 "prev" "Llatchwork/WaitQueue$Waiter;" .null ∧ Exa Z h o2_ cn0 ∧ Fld Z h o2_ cn0 "thread" "Ljava/lang/Thread;" .null ∧ Fld Z h o2_ cn0 "picked" "Z" (.int (0 : Int32)) ∧ Fld Z h o2_ cn0 "queued" "Z" (.int (1 : Int32)) ∧ Fld Z h o2_ cn0 "next" "Llatchwork/WaitQueue$Waiter;" .null ∧ Fld Z h o2_ cn0 "prev" "Llatchwork/WaitQueue$Waiter;" .null
set_option maxRecDepth 65536 in
set_option maxHeartbeats 40000000 in
theorem rmpoll13 (l : Launch) (Z : State) (a0 : Array Value) (hw : ∀ d ∈ tables_1, d.before a0 Z = true) (ws : List Jvm.Cond) (o0_ : Addr) (o1_ : Addr) (o2_ : Addr) (h0 : Heap) (n0 : Nat) (O0 : Old Z n0 h0) (P0 : Exa Z h0 o0_ "latchwork/WaitQueue") (P1 : Fld Z h0 o0_ "latchwork/WaitQueue" "head" "Llatchwork/WaitQueue$Waiter;" (.ref o1_)) (P2 : Fld Z h0 o0_ "latchwork/WaitQueue" "size" "I" (.int (2 : Int32))) (P3 : Fld Z h0 o0_ "latchwork/WaitQueue" "tail" "Llatchwork/WaitQueue$Waiter;" (.ref o2_)) (P4 : Exa Z h0 o1_ cn0) (P5 : Fld Z h0 o1_ cn0 "thread" "Ljava/lang/Thread;" .null) (P6 : Fld Z h0 o1_ cn0 "picked" "Z" (.int (0 : Int32))) (P7 : Fld Z h0 o1_ cn0 "queued" "Z" (.int (1 : Int32))) (P8 : Fld Z h0 o1_ cn0 "next" "Llatchwork/WaitQueue$Waiter;" (.ref o2_)) (P9 : Fld Z h0 o1_ cn0 "prev" "Llatchwork/WaitQueue$Waiter;" .null) (P10 : Exa Z h0 o2_ cn0) (P11 : Fld Z h0 o2_ cn0 "thread" "Ljava/lang/Thread;" .null) (P12 : Fld Z h0 o2_ cn0 "picked" "Z" (.int (0 : Int32))) (P13 : Fld Z h0 o2_ cn0 "queued" "Z" (.int (1 : Int32))) (P14 : Fld Z h0 o2_ cn0 "next" "Llatchwork/WaitQueue$Waiter;" .null) (P15 : Fld Z h0 o2_ cn0 "prev" "Llatchwork/WaitQueue$Waiter;" (.ref o1_)) (P16 : n0 ≤ o0_) (P17 : o1_ ≠ o0_) (P18 : o2_ ≠ o0_) (P19 : n0 ≤ o2_) (P20 : o1_ ≠ o2_) (P21 : n0 ≤ o1_) :
    MetFree l (⟨"latchwork/WaitQueue", "poll", "()Llatchwork/WaitQueue$Waiter;"⟩ : MethodName) (head1 (Jvm.Cond.code (⟨"latchwork/WaitQueue", "poll", "()Llatchwork/WaitQueue$Waiter;"⟩ : MethodName) prog_8_method_8_code 2 (some (.object "latchwork/WaitQueue$Waiter")) :: ws) ({ frames := 1, cells := 0, slots := 0, locals := 13 } : Room)) (fun a U => a = #[(.ref o0_)] ∧ Z.Warmed39 U.vm ∧ U.heap = h0) (fun _ _ _ _ _ => True) (fun _ U o U' => ∃ v L, o = .returned v ∧ Qpoll13 Z o0_ o1_ o2_ h0 n0 v U'.heap L ∧ FrameEnd U o U' L ({ frames := 1, cells := 0, slots := 0, locals := 13 } : Room).cells ({ frames := 1, cells := 0, slots := 0, locals := 13 } : Room).slots) := by
  refine MetFree.of_bodySF (plainFor_of_name pn_0) hisR ?_
  intro p e s m args below meth c s₁ Bd hml0 hP hK
  obtain ⟨rfl, hZ, hh⟩ := hP
  have hx := Bd.exec
  have hby := Bd.bytes
  have hml : c.maxLocals = 2 := hml0
  have hown : s.vm.findClass "latchwork/WaitQueue" = some m.cls := findClass_of_methodNamed Bd.named
  have hnm := (name_of_methodNamed Bd.named Bd.method).1
  have X0 : Stand p l e ({ frames := 1, cells := 0, slots := 0, locals := 13 } : Room) s m #[(.ref o0_)] below meth c s₁ [] 0 0 := Stand.of_body Bd
  have e0 : s₁.heap = h0 := by rw [← hh, Bd.state]; rfl
  have N0 := Fr.nil n0
  obtain ⟨G, pre0, hG⟩ : ∃ G : State → Prop, (∀ t, own_S p e below m s₁ 0 #[lvR o0_, .unset] [] t → G t) ∧ (∀ t, G t → Steps p.tables e below (s₁.setTop (entryFrame m #[(.ref o0_)] 2)) t) := ⟨fun t => Steps p.tables e below (s₁.setTop (entryFrame m #[(.ref o0_)] 2)) t, fun t k => castTop (efpoll13 m o0_) k, fun _ k => k⟩
  have K0 : Keep h0 h0 [o0_, o2_, o1_] := Keep.refl _ _
  obtain ⟨T1, X1, e1, st1⟩ := getF X0 hx hZ hown (host := "") (Or.inl (own_w hw 23 rfl)) Via.refl e0 P1 (g := (mkF m 1 #[lvR o0_, .unset] [(.ref o0_)])) rfl rfl (hb hby d3_1)
  obtain ⟨cq2, kq2, q2a, q2b, q2c⟩ := isOf hZ e1 P0
  obtain ⟨_, _, ⟨T2, L2, k2, n2⟩, -, X2, ⟨Lc2, hQ2, l2, y2, z2⟩, st2⟩ := X1.virtualBack hx (y := (⟨"latchwork/WaitQueue", "remove", "(Llatchwork/WaitQueue$Waiter;)Z"⟩ : MethodName)) (z := (⟨"latchwork/WaitQueue", "remove", "(Llatchwork/WaitQueue$Waiter;)Z"⟩ : MethodName)) hown (mvT hZ (own_w hw 56 rfl)) (mvT hZ (own_w hw 57 rfl)) (notFace_of_selects (args := #[]) (mvT hZ (own_w hw 59 rfl))) (mvT hZ (own_w hw 59 rfl)) (mvT hZ (own_w hw 58 rfl)) (by decide) (backOf (W := 0) (rmremove14 l Z a0 hw [] o0_ o1_ o2_ h0 n0 O0 P0 P1 P2 P3 P4 P5 P6 P7 P8 P9 P10 P11 P12 P13 P14 P15 P16 P17 P18 P19 P20 P21) hZ (own_w hw 60 rfl) (own_w hw 2 rfl) (by decide) (by decide)) q2a q2c (g := (mkF m 11 #[lvR o0_, lvR o1_] [(.ref o1_), (.ref o0_)])) rfl (by rw [hml]; rfl) (Steps.refl _) (argsL := [(.ref o1_)]) (rest := []) (lenOf pd_6 rfl) rfl (by show 2 * 0 + _ ≤ _; exact Nat.le_of_eq rfl) (hb hby d3_11) (fun _ _ => ⟨rfl, e1, (by decide : 0 + 0 ≤ _), (by decide : 0 + 0 ≤ _)⟩)
  dsimp only [Pt.U, Pt.locs, Pt.cells, Pt.slots] at X2 l2 y2 z2 st2 hQ2
  subst l2 y2 z2
  obtain ⟨h2, e2⟩ : ∃ z, T2.heap = z := ⟨_, rfl⟩
  rw [e2] at hQ2
  obtain ⟨rfl, N2q, K2, g2_0, g2_1, g2_2, g2_3, g2_4, g2_5, g2_6, g2_7, g2_8, g2_9, g2_10, g2_11, g2_12, g2_13, g2_14, g2_15⟩ := hQ2
  have N3 := Fr.app N0 N2q
  have pre4 : ∀ t, own_S p e below m T2 16 #[lvR o0_, lvR o1_] [(.ref o1_)] t → G t := by
    intro t kt
    refine pre0 t ?_
    show own_S p e below m s₁ 0 #[lvR o0_, .unset] [] _
    refine XS.aloadN X0.here hx rfl (hb hby d3_0) rfl rfl ?_
    show own_S p e below m s₁ 1 #[lvR o0_, .unset] [(.ref o0_)] _
    refine st1 _ ?_
    refine XS.astoreN X1.here hx rfl (hb hby d3_4) rfl rfl (l' := #[lvR o0_, lvR o1_]) rfl ?_
    refine XS.aloadN X1.here hx rfl (hb hby d3_5) rfl rfl ?_
    show own_S p e below m T1 6 #[lvR o0_, lvR o1_] [(.ref o1_)] _
    refine XS.ifnullNo X1.here hx rfl (hb hby d3_6) rfl ?_
    refine XS.aloadN X1.here hx rfl (hb hby d3_9) rfl rfl ?_
    refine XS.aloadN X1.here hx rfl (hb hby d3_10) rfl rfl ?_
    show own_S p e below m T1 11 #[lvR o0_, lvR o1_] [(.ref o1_), (.ref o0_)] _
    refine st2.trans ?_
    refine XS.pop X2.here hx rfl (hb hby d3_14) rfl rfl ?_
    refine XS.aloadN X2.here hx rfl (hb hby d3_15) rfl rfl ?_
    exact kt
  have f6 : Keep h0 h2 [o0_, o2_, o1_] := K0.trans K2 (allS (Or.inl (List.mem_of_getElem? (i := 0) rfl)) (allS (Or.inl (List.mem_of_getElem? (i := 1) rfl)) (allS (Or.inl (List.mem_of_getElem? (i := 2) rfl)) all0)))
  obtain ⟨fs, hr, hrun, hended, hW, hsame⟩ := X2.leave (v := some (.ref o1_)) (fun h => by rw [Bd.returns] at h; cases h)
  refine ⟨_, _, hG _ (pre4 _ (retOut X2 hx Bd.returns rfl (Or.inr (Or.inr (Or.inr (Or.inr ⟨rfl, rfl, rfl⟩)))) (hb hby d3_16) hr)), hrun, hended, _, _, rfl, ?_, ⟨_, rfl⟩, hW, hsame.mono (by decide) (by decide)⟩
  show Qpoll13 Z o0_ o1_ o2_ h0 n0 _ T2.heap _
  rw [e2]
  exact ⟨rfl, N3, f6, g2_0, g2_1, g2_2, g2_3, g2_4, g2_5, g2_6, g2_7, g2_8, g2_9, g2_10, g2_11, g2_12, g2_13, g2_14, g2_15⟩
theorem efsize15 (m : MethodId) (o0_ : Addr) : entryFrame m #[(.ref o0_)] 1 = mkF m 0 #[lvR o0_] [] := by first | (simp [entryFrame, mkF, argsToLocals, Value.category]; done) | rfl
def Qsize15 (Z : State) (o0_ : Addr) (o1_ : Addr) (h0 : Heap) (n0 : Nat) (v : Option Value) (h : Heap) (L : List Loc) : Prop := v = some (.int (1 : Int32)) ∧ Fr n0 L ∧ h = h0
set_option maxRecDepth 65536 in
set_option maxHeartbeats 40000000 in
theorem rmsize15 (l : Launch) (Z : State) (a0 : Array Value) (hw : ∀ d ∈ tables_1, d.before a0 Z = true) (ws : List Jvm.Cond) (o0_ : Addr) (o1_ : Addr) (h0 : Heap) (n0 : Nat) (O0 : Old Z n0 h0) (P0 : Exa Z h0 o0_ "latchwork/WaitQueue") (P1 : Fld Z h0 o0_ "latchwork/WaitQueue" "head" "Llatchwork/WaitQueue$Waiter;" (.ref o1_)) (P2 : Fld Z h0 o0_ "latchwork/WaitQueue" "size" "I" (.int (1 : Int32))) (P3 : Fld Z h0 o0_ "latchwork/WaitQueue" "tail" "Llatchwork/WaitQueue$Waiter;" (.ref o1_)) (P4 : Exa Z h0 o1_ cn0) (P5 : Fld Z h0 o1_ cn0 "thread" "Ljava/lang/Thread;" .null) (P6 : Fld Z h0 o1_ cn0 "picked" "Z" (.int (0 : Int32))) (P7 : Fld Z h0 o1_ cn0 "queued" "Z" (.int (1 : Int32))) (P8 : Fld Z h0 o1_ cn0 "next" "Llatchwork/WaitQueue$Waiter;" .null) (P9 : Fld Z h0 o1_ cn0 "prev" "Llatchwork/WaitQueue$Waiter;" .null) :
    MetFree l (⟨"latchwork/WaitQueue", "size", "()I"⟩ : MethodName) (head1 (Jvm.Cond.code (⟨"latchwork/WaitQueue", "size", "()I"⟩ : MethodName) prog_8_method_4_code 1 (some .int) :: ws) ({ frames := 0, cells := 0, slots := 0, locals := 0 } : Room)) (fun a U => a = #[(.ref o0_)] ∧ Z.Warmed39 U.vm ∧ U.heap = h0) (fun _ _ _ _ _ => True) (fun _ U o U' => ∃ v L, o = .returned v ∧ Qsize15 Z o0_ o1_ h0 n0 v U'.heap L ∧ FrameEnd U o U' L ({ frames := 0, cells := 0, slots := 0, locals := 0 } : Room).cells ({ frames := 0, cells := 0, slots := 0, locals := 0 } : Room).slots) := by
  refine MetFree.of_bodySF (plainFor_of_name pn_0) hisR ?_
  intro p e s m args below meth c s₁ Bd hml0 hP hK
  obtain ⟨rfl, hZ, hh⟩ := hP
  have hx := Bd.exec
  have hby := Bd.bytes
  have hml : c.maxLocals = 1 := hml0
  have hown : s.vm.findClass "latchwork/WaitQueue" = some m.cls := findClass_of_methodNamed Bd.named
  have hnm := (name_of_methodNamed Bd.named Bd.method).1
  have X0 : Stand p l e ({ frames := 0, cells := 0, slots := 0, locals := 0 } : Room) s m #[(.ref o0_)] below meth c s₁ [] 0 0 := Stand.of_body Bd
  have e0 : s₁.heap = h0 := by rw [← hh, Bd.state]; rfl
  have N0 := Fr.nil n0
  obtain ⟨G, pre0, hG⟩ : ∃ G : State → Prop, (∀ t, own_S p e below m s₁ 0 #[lvR o0_] [] t → G t) ∧ (∀ t, G t → Steps p.tables e below (s₁.setTop (entryFrame m #[(.ref o0_)] 1)) t) := ⟨fun t => Steps p.tables e below (s₁.setTop (entryFrame m #[(.ref o0_)] 1)) t, fun t k => castTop (efsize15 m o0_) k, fun _ k => k⟩
  have K0 : Keep h0 h0 [] := Keep.refl _ _
  obtain ⟨T1, X1, e1, st1⟩ := getF X0 hx hZ hown (host := "") (Or.inl (own_w hw 30 rfl)) Via.refl e0 P2 (g := (mkF m 1 #[lvR o0_] [(.ref o0_)])) rfl rfl (hb hby d4_1)
  have pre2 : ∀ t, own_S p e below m T1 4 #[lvR o0_] [(.int (1 : Int32))] t → G t := by
    intro t kt
    refine pre0 t ?_
    show own_S p e below m s₁ 0 #[lvR o0_] [] _
    refine XS.aloadN X0.here hx rfl (hb hby d4_0) rfl rfl ?_
    show own_S p e below m s₁ 1 #[lvR o0_] [(.ref o0_)] _
    refine st1 _ ?_
    exact kt
  obtain ⟨fs, hr, hrun, hended, hW, hsame⟩ := X1.leave (v := some (.int (1 : Int32))) (fun h => by rw [Bd.returns] at h; cases h)
  refine ⟨_, _, hG _ (pre2 _ (retOut X1 hx Bd.returns rfl (Or.inl ⟨rfl, Or.inl rfl, _, rfl⟩) (hb hby d4_4) hr)), hrun, hended, _, _, rfl, ?_, ⟨_, rfl⟩, hW, hsame.mono (by decide) (by decide)⟩
  show Qsize15 Z o0_ o1_ h0 n0 _ T1.heap _
  rw [e1]
  exact ⟨rfl, N0, rfl⟩
theorem efmax16 (m : MethodId)  : entryFrame m #[(.int (1 : Int32)), (.int (0 : Int32))] 2 = mkF m 0 #[lvI (1 : Int32), lvI (0 : Int32)] [] := by first | (simp [entryFrame, mkF, argsToLocals, Value.category]; done) | rfl
def Qmax16 (Z : State)  (h0 : Heap) (n0 : Nat) (v : Option Value) (h : Heap) (L : List Loc) : Prop := v = some (.int (1 : Int32)) ∧ Fr n0 L ∧ h = h0
set_option maxRecDepth 65536 in
set_option maxHeartbeats 40000000 in
theorem rmmax16 (l : Launch) (Z : State) (a0 : Array Value) (hw : ∀ d ∈ tables_1, d.before a0 Z = true) (ws : List Jvm.Cond)  (h0 : Heap) (n0 : Nat) (O0 : Old Z n0 h0)  :
    MetFree l (⟨"java/lang/Math", "max", "(II)I"⟩ : MethodName) (head1 (Jvm.Cond.code (⟨"java/lang/Math", "max", "(II)I"⟩ : MethodName) jdk_29_method_65_code 2 (some .int) :: ws) ({ frames := 0, cells := 0, slots := 0, locals := 0 } : Room)) (fun a U => a = #[(.int (1 : Int32)), (.int (0 : Int32))] ∧ Z.Warmed39 U.vm ∧ U.heap = h0) (fun _ _ _ _ _ => True) (fun _ U o U' => ∃ v L, o = .returned v ∧ Qmax16 Z  h0 n0 v U'.heap L ∧ FrameEnd U o U' L ({ frames := 0, cells := 0, slots := 0, locals := 0 } : Room).cells ({ frames := 0, cells := 0, slots := 0, locals := 0 } : Room).slots) := by
  refine MetFree.of_bodySF (Jvm.Free.JP.mathPlain rfl (by decide +kernel)) hisR ?_
  intro p e s m args below meth c s₁ Bd hml0 hP hK
  obtain ⟨rfl, hZ, hh⟩ := hP
  have hx := Bd.exec
  have hby := Bd.bytes
  have hml : c.maxLocals = 2 := hml0
  have hown : s.vm.findClass "java/lang/Math" = some m.cls := findClass_of_methodNamed Bd.named
  have hnm := (name_of_methodNamed Bd.named Bd.method).1
  have X0 : Stand p l e ({ frames := 0, cells := 0, slots := 0, locals := 0 } : Room) s m #[(.int (1 : Int32)), (.int (0 : Int32))] below meth c s₁ [] 0 0 := Stand.of_body Bd
  have e0 : s₁.heap = h0 := by rw [← hh, Bd.state]; rfl
  have N0 := Fr.nil n0
  obtain ⟨G, pre0, hG⟩ : ∃ G : State → Prop, (∀ t, own_S p e below m s₁ 0 #[lvI (1 : Int32), lvI (0 : Int32)] [] t → G t) ∧ (∀ t, G t → Steps p.tables e below (s₁.setTop (entryFrame m #[(.int (1 : Int32)), (.int (0 : Int32))] 2)) t) := ⟨fun t => Steps p.tables e below (s₁.setTop (entryFrame m #[(.int (1 : Int32)), (.int (0 : Int32))] 2)) t, fun t k => castTop (efmax16 m ) k, fun _ k => k⟩
  have K0 : Keep h0 h0 [] := Keep.refl _ _
  have pre1 : ∀ t, own_S p e below m s₁ 10 #[lvI (1 : Int32), lvI (0 : Int32)] [(.int (1 : Int32))] t → G t := by
    intro t kt
    refine pre0 t ?_
    show own_S p e below m s₁ 0 #[lvI (1 : Int32), lvI (0 : Int32)] [] _
    refine XS.iloadN X0.here hx rfl (hb hby d5_0) rfl ?_
    refine XS.iloadN X0.here hx rfl (hb hby d5_1) rfl ?_
    show own_S p e below m s₁ 2 #[lvI (1 : Int32), lvI (0 : Int32)] [(.int (0 : Int32)), (.int (1 : Int32))] _
    refine XS.icmpNo X0.here hx rfl (hb hby d5_2) rfl (flt (by decide : ¬ ((1 : Int32) < (0 : Int32)))).1 ?_
    refine XS.iloadN X0.here hx rfl (hb hby d5_5) rfl ?_
    refine XS.goto X0.here hx rfl (pc0 := 6) (pc' := 10) rfl (hb hby d5_6) (by decide) (by decide) ?_
    exact kt
  obtain ⟨fs, hr, hrun, hended, hW, hsame⟩ := X0.leave (v := some (.int (1 : Int32))) (fun h => by rw [Bd.returns] at h; cases h)
  refine ⟨_, _, hG _ (pre1 _ (retOut X0 hx Bd.returns rfl (Or.inl ⟨rfl, Or.inl rfl, _, rfl⟩) (hb hby d5_10) hr)), hrun, hended, _, _, rfl, ?_, ⟨_, rfl⟩, hW, hsame.mono (by decide) (by decide)⟩
  show Qmax16 Z  h0 n0 _ s₁.heap _
  rw [e0]
  exact ⟨rfl, N0, rfl⟩
theorem d7_24 : decode prog_8_method_5_code 24 = .ok (.aload_n 1, 1) := by decide +kernel
theorem d7_25 : decode prog_8_method_5_code 25 = .ok (.aload_n 0, 1) := by decide +kernel
theorem d7_26 : decode prog_8_method_5_code 26 = .ok (.getfield 37, 3) := by decide +kernel
theorem d7_29 : decode prog_8_method_5_code 29 = .ok (.putfield 44, 3) := by decide +kernel
theorem d7_32 : decode prog_8_method_5_code 32 = .ok (.aload_n 0, 1) := by decide +kernel
theorem d7_33 : decode prog_8_method_5_code 33 = .ok (.getfield 37, 3) := by decide +kernel
theorem d7_36 : decode prog_8_method_5_code 36 = .ok (.aload_n 1, 1) := by decide +kernel
theorem d7_37 : decode prog_8_method_5_code 37 = .ok (.putfield 49, 3) := by decide +kernel
theorem d7_40 : decode prog_8_method_5_code 40 = .ok (.aload_n 0, 1) := by decide +kernel
theorem d7_41 : decode prog_8_method_5_code 41 = .ok (.aload_n 1, 1) := by decide +kernel
theorem d7_42 : decode prog_8_method_5_code 42 = .ok (.putfield 37, 3) := by decide +kernel
theorem d7_45 : decode prog_8_method_5_code 45 = .ok (.goto 24, 3) := by decide +kernel
theorem efadd17 (m : MethodId) (o0_ : Addr) (o1_ : Addr) : entryFrame m #[(.ref o0_), (.ref o1_), (.int (1 : Int32))] 3 = mkF m 0 #[lvR o0_, lvR o1_, lvI (1 : Int32)] [] := by first | (simp [entryFrame, mkF, argsToLocals, Value.category]; done) | rfl
def Qadd17 (Z : State) (o0_ : Addr) (o1_ : Addr) (o2_ : Addr) (h0 : Heap) (n0 : Nat) (v : Option Value) (h : Heap) (L : List Loc) : Prop := v = none ∧ Fr n0 L ∧ Keep h0 h [o1_, o2_, o0_] ∧ Exa Z h o0_ "latchwork/WaitQueue" ∧ Fld Z h o0_ "latchwork/WaitQueue" "head" "Llatchwork/WaitQueue$Waiter;" (.ref o1_) ∧ Fld Z h o0_ "latchwork/WaitQueue" "size" "I" (.int (2 : Int32)) ∧ Fld Z h o0_ "latchwork/WaitQueue" "tail" "Llatchwork/WaitQueue$Waiter;" (.ref o2_) ∧ Exa Z h o1_ cn0 ∧ Fld Z h o1_ cn0 "thread" "Ljava/lang/Thread;" .null ∧ Fld Z h o1_ cn0 "picked" "Z" (.int (0 : Int32)) ∧ Fld Z h o1_ cn0 "queued" "Z" (.int (1 : Int32)) ∧ Fld Z h o1_ cn0 "next" "Llatchwork/WaitQueue$Waiter;" (.ref o2_) ∧ Fld Z h o1_ cn0 "prev" "Llatchwork/WaitQueue$Waiter;" .null ∧ Exa Z h o2_ cn0 ∧ Fld Z h o2_ cn0 "thread" "Ljava/lang/Thread;" .null ∧ Fld Z h o2_ cn0 "picked" "Z" (.int (0 : Int32)) ∧ Fld Z h o2_ cn0 "queued" "Z" (.int (1 : Int32)) ∧ Fld Z h o2_ cn0 "next" "Llatchwork/WaitQueue$Waiter;" .null ∧ Fld Z h o2_ cn0 "prev" "Llatchwork/WaitQueue$Waiter;" (.ref o1_)
set_option maxRecDepth 65536 in
set_option maxHeartbeats 40000000 in
theorem rmadd17 (l : Launch) (Z : State) (a0 : Array Value) (hw : ∀ d ∈ tables_1, d.before a0 Z = true) (ws : List Jvm.Cond) (o0_ : Addr) (o1_ : Addr) (o2_ : Addr) (h0 : Heap) (n0 : Nat) (O0 : Old Z n0 h0) (P0 : Exa Z h0 o0_ "latchwork/WaitQueue") (P1 : Fld Z h0 o0_ "latchwork/WaitQueue" "head" "Llatchwork/WaitQueue$Waiter;" (.ref o2_)) (P2 : Fld Z h0 o0_ "latchwork/WaitQueue" "size" "I" (.int (1 : Int32))) (P3 : Fld Z h0 o0_ "latchwork/WaitQueue" "tail" "Llatchwork/WaitQueue$Waiter;" (.ref o2_)) (P4 : Exa Z h0 o1_ cn0) (P5 : Fld Z h0 o1_ cn0 "thread" "Ljava/lang/Thread;" .null) (P6 : Fld Z h0 o1_ cn0 "picked" "Z" (.int (0 : Int32))) (P7 : Fld Z h0 o1_ cn0 "queued" "Z" (.int (0 : Int32))) (P8 : Fld Z h0 o1_ cn0 "next" "Llatchwork/WaitQueue$Waiter;" .null) (P9 : Fld Z h0 o1_ cn0 "prev" "Llatchwork/WaitQueue$Waiter;" .null) (P10 : Exa Z h0 o2_ cn0) (P11 : Fld Z h0 o2_ cn0 "thread" "Ljava/lang/Thread;" .null) (P12 : Fld Z h0 o2_ cn0 "picked" "Z" (.int (0 : Int32))) (P13 : Fld Z h0 o2_ cn0 "queued" "Z" (.int (1 : Int32))) (P14 : Fld Z h0 o2_ cn0 "next" "Llatchwork/WaitQueue$Waiter;" .null) (P15 : Fld Z h0 o2_ cn0 "prev" "Llatchwork/WaitQueue$Waiter;" .null) (P16 : n0 ≤ o1_) (P17 : o0_ ≠ o1_) (P18 : o2_ ≠ o1_) (P19 : n0 ≤ o2_) (P20 : o0_ ≠ o2_) (P21 : n0 ≤ o0_) :
    MetFree l (⟨"latchwork/WaitQueue", "add", "(Llatchwork/WaitQueue$Waiter;Z)V"⟩ : MethodName) (head1 (Jvm.Cond.code (⟨"latchwork/WaitQueue", "add", "(Llatchwork/WaitQueue$Waiter;Z)V"⟩ : MethodName) prog_8_method_5_code 3 none :: ws) ({ frames := 0, cells := 0, slots := 0, locals := 0 } : Room)) (fun a U => a = #[(.ref o0_), (.ref o1_), (.int (1 : Int32))] ∧ Z.Warmed39 U.vm ∧ U.heap = h0) (fun _ _ _ _ _ => True) (fun _ U o U' => ∃ v L, o = .returned v ∧ Qadd17 Z o0_ o1_ o2_ h0 n0 v U'.heap L ∧ FrameEnd U o U' L ({ frames := 0, cells := 0, slots := 0, locals := 0 } : Room).cells ({ frames := 0, cells := 0, slots := 0, locals := 0 } : Room).slots) := by
  refine MetFree.of_bodySF (plainFor_of_name pn_0) hisR ?_
  intro p e s m args below meth c s₁ Bd hml0 hP hK
  obtain ⟨rfl, hZ, hh⟩ := hP
  have hx := Bd.exec
  have hby := Bd.bytes
  have hml : c.maxLocals = 3 := hml0
  have hown : s.vm.findClass "latchwork/WaitQueue" = some m.cls := findClass_of_methodNamed Bd.named
  have hnm := (name_of_methodNamed Bd.named Bd.method).1
  have X0 : Stand p l e ({ frames := 0, cells := 0, slots := 0, locals := 0 } : Room) s m #[(.ref o0_), (.ref o1_), (.int (1 : Int32))] below meth c s₁ [] 0 0 := Stand.of_body Bd
  have e0 : s₁.heap = h0 := by rw [← hh, Bd.state]; rfl
  have N0 := Fr.nil n0
  obtain ⟨G, pre0, hG⟩ : ∃ G : State → Prop, (∀ t, own_S p e below m s₁ 0 #[lvR o0_, lvR o1_, lvI (1 : Int32)] [] t → G t) ∧ (∀ t, G t → Steps p.tables e below (s₁.setTop (entryFrame m #[(.ref o0_), (.ref o1_), (.int (1 : Int32))] 3)) t) := ⟨fun t => Steps p.tables e below (s₁.setTop (entryFrame m #[(.ref o0_), (.ref o1_), (.int (1 : Int32))] 3)) t, fun t k => castTop (efadd17 m o0_ o1_) k, fun _ k => k⟩
  have K0 : Keep h0 h0 [o1_, o2_, o0_] := Keep.refl _ _
  obtain ⟨T1, X1, e1, st1⟩ := getF X0 hx hZ hown (host := "") (Or.inl (own_w hw 23 rfl)) Via.refl e0 P1 (g := (mkF m 1 #[lvR o0_, lvR o1_, lvI (1 : Int32)] [(.ref o0_)])) rfl rfl (hb hby d7_1)
  obtain ⟨T2, X2, e2, st2⟩ := getF X1 hx hZ hown (host := "") (Or.inl (own_w hw 23 rfl)) Via.refl e1 P1 (g := (mkF m 26 #[lvR o0_, lvR o1_, lvI (1 : Int32)] [(.ref o0_), (.ref o1_)])) rfl rfl (hb hby d7_26)
  obtain ⟨T3, h3, X3, e3, W3, st3⟩ := own_putR X2 hx hZ hown (own_w hw 52 rfl) Via.refl e2 P8 P4 (own_w hw 53 rfl) (own_w hw 10 rfl) (ty := (.object "latchwork/WaitQueue$Waiter")) (by decide) rfl rfl (g := (mkF m 29 #[lvR o0_, lvR o1_, lvI (1 : Int32)] [(.ref o2_), (.ref o1_)])) rfl rfl (hb hby d7_29)
  have N4 := Fr.snoc X3 N0 P16
  have f5 : Fld Z h3 o1_ cn0 "next" "Llatchwork/WaitQueue$Waiter;" (.ref o2_) := P8.same W3
  have f6 : Fld Z h3 o0_ "latchwork/WaitQueue" "head" "Llatchwork/WaitQueue$Waiter;" (.ref o2_) := P1.other W3 (Or.inl P17)
  obtain ⟨T7, X7, e7, st7⟩ := getF X3 hx hZ hown (host := "") (Or.inl (own_w hw 23 rfl)) Via.refl e3 f6 (g := (mkF m 33 #[lvR o0_, lvR o1_, lvI (1 : Int32)] [(.ref o0_)])) rfl rfl (hb hby d7_33)
  have f8 : Fld Z h3 o2_ cn0 "prev" "Llatchwork/WaitQueue$Waiter;" .null := P15.other W3 (Or.inl P18)
  have f9 : Exa Z h3 o2_ cn0 := P10.wr W3
  obtain ⟨T10, h10, X10, e10, W10, st10⟩ := own_putR X7 hx hZ hown (own_w hw 54 rfl) Via.refl e7 f8 f9 (own_w hw 55 rfl) (own_w hw 10 rfl) (ty := (.object "latchwork/WaitQueue$Waiter")) (by decide) rfl rfl (g := (mkF m 37 #[lvR o0_, lvR o1_, lvI (1 : Int32)] [(.ref o1_), (.ref o2_)])) rfl rfl (hb hby d7_37)
  have N11 := Fr.snoc X10 N4 P19
  have f12 : Fld Z h10 o2_ cn0 "prev" "Llatchwork/WaitQueue$Waiter;" (.ref o1_) := f8.same W10
  have f13 : Fld Z h10 o0_ "latchwork/WaitQueue" "head" "Llatchwork/WaitQueue$Waiter;" (.ref o2_) := f6.other W10 (Or.inl P20)
  have f14 : Exa Z h3 o0_ "latchwork/WaitQueue" := P0.wr W3
  have f15 : Exa Z h10 o0_ "latchwork/WaitQueue" := f14.wr W10
  obtain ⟨T16, h16, X16, e16, W16, st16⟩ := putF X10 hx hZ hown (host := "") (Or.inl (own_w hw 23 rfl)) Via.refl e10 f13 f15 (Or.inl (own_w hw 24 rfl)) (own_w hw 1 rfl) (ty := (.object "latchwork/WaitQueue$Waiter")) (by decide) rfl rfl (g := (mkF m 42 #[lvR o0_, lvR o1_, lvI (1 : Int32)] [(.ref o1_), (.ref o0_)])) rfl rfl (hb hby d7_42)
  have N17 := Fr.snoc X16 N11 P21
  have f18 : Fld Z h16 o0_ "latchwork/WaitQueue" "head" "Llatchwork/WaitQueue$Waiter;" (.ref o1_) := f13.same W16
  have f19 : Fld Z h3 o1_ cn0 "picked" "Z" (.int (0 : Int32)) := P6.other W3 (Or.inr (slot_ne (Or.inl (own_w hw 49 rfl)) (Or.inl (own_w hw 53 rfl)) (by decide) (t := .boolean) (t' := (.object "latchwork/WaitQueue$Waiter")) (by decide) (by decide)))
  have f20 : Fld Z h10 o1_ cn0 "picked" "Z" (.int (0 : Int32)) := f19.other W10 (Or.inl (Ne.symm P18))
  have f21 : Fld Z h16 o1_ cn0 "picked" "Z" (.int (0 : Int32)) := f20.other W16 (Or.inl (Ne.symm P17))
  have f22 : Exa Z h3 o1_ cn0 := P4.wr W3
  have f23 : Exa Z h10 o1_ cn0 := f22.wr W10
  have f24 : Exa Z h16 o1_ cn0 := f23.wr W16
  obtain ⟨T25, h25, X25, e25, W25, st25⟩ := own_putR X16 hx hZ hown (own_w hw 48 rfl) Via.refl e16 f21 f24 (own_w hw 49 rfl) (own_w hw 10 rfl) (ty := .boolean) (by decide) rfl rfl (g := (mkF m 71 #[lvR o0_, lvR o1_, lvI (1 : Int32)] [(.int (0 : Int32)), (.ref o1_)])) rfl rfl (hb hby d7_71)
  have N26 := Fr.snoc X25 N17 P16
  have f27 : Fld Z h25 o1_ cn0 "picked" "Z" (.int (0 : Int32)) := f21.same W25
  have f28 : Fld Z h3 o1_ cn0 "queued" "Z" (.int (0 : Int32)) := P7.other W3 (Or.inr (slot_ne (Or.inl (own_w hw 51 rfl)) (Or.inl (own_w hw 53 rfl)) (by decide) (t := .boolean) (t' := (.object "latchwork/WaitQueue$Waiter")) (by decide) (by decide)))
  have f29 : Fld Z h10 o1_ cn0 "queued" "Z" (.int (0 : Int32)) := f28.other W10 (Or.inl (Ne.symm P18))
  have f30 : Fld Z h16 o1_ cn0 "queued" "Z" (.int (0 : Int32)) := f29.other W16 (Or.inl (Ne.symm P17))
  have f31 : Fld Z h25 o1_ cn0 "queued" "Z" (.int (0 : Int32)) := f30.other W25 (Or.inr (slot_ne (Or.inl (own_w hw 51 rfl)) (Or.inl (own_w hw 49 rfl)) (by decide) (t := .boolean) (t' := .boolean) (by decide) (by decide)))
  have f32 : Exa Z h25 o1_ cn0 := f24.wr W25
  obtain ⟨T33, h33, X33, e33, W33, st33⟩ := own_putR X25 hx hZ hown (own_w hw 50 rfl) Via.refl e25 f31 f32 (own_w hw 51 rfl) (own_w hw 10 rfl) (ty := .boolean) (by decide) rfl rfl (g := (mkF m 76 #[lvR o0_, lvR o1_, lvI (1 : Int32)] [(.int (1 : Int32)), (.ref o1_)])) rfl rfl (hb hby d7_76)
  have N34 := Fr.snoc X33 N26 P16
  have f35 : Fld Z h33 o1_ cn0 "queued" "Z" (.int (1 : Int32)) := f31.same W33
  have f36 : Fld Z h3 o0_ "latchwork/WaitQueue" "size" "I" (.int (1 : Int32)) := P2.other W3 (Or.inl P17)
  have f37 : Fld Z h10 o0_ "latchwork/WaitQueue" "size" "I" (.int (1 : Int32)) := f36.other W10 (Or.inl P20)
  have f38 : Fld Z h16 o0_ "latchwork/WaitQueue" "size" "I" (.int (1 : Int32)) := f37.other W16 (Or.inr (slot_ne (Or.inl (own_w hw 31 rfl)) (Or.inl (own_w hw 24 rfl)) (by decide) (t := .int) (t' := (.object "latchwork/WaitQueue$Waiter")) (by decide) (by decide)))
  have f39 : Fld Z h25 o0_ "latchwork/WaitQueue" "size" "I" (.int (1 : Int32)) := f38.other W25 (Or.inl P17)
  have f40 : Fld Z h33 o0_ "latchwork/WaitQueue" "size" "I" (.int (1 : Int32)) := f39.other W33 (Or.inl P17)
  obtain ⟨T41, X41, e41, st41⟩ := getF X33 hx hZ hown (host := "") (Or.inl (own_w hw 30 rfl)) Via.refl e33 f40 (g := (mkF m 81 #[lvR o0_, lvR o1_, lvI (1 : Int32)] [(.ref o0_), (.ref o0_)])) rfl rfl (hb hby d7_81)
  have f42 : Exa Z h16 o0_ "latchwork/WaitQueue" := f15.wr W16
  have f43 : Exa Z h25 o0_ "latchwork/WaitQueue" := f42.wr W25
  have f44 : Exa Z h33 o0_ "latchwork/WaitQueue" := f43.wr W33
  obtain ⟨T45, h45, X45, e45, W45, st45⟩ := putF X41 hx hZ hown (host := "") (Or.inl (own_w hw 30 rfl)) Via.refl e41 f40 f44 (Or.inl (own_w hw 31 rfl)) (own_w hw 1 rfl) (ty := .int) (by decide) rfl rfl (g := (mkF m 86 #[lvR o0_, lvR o1_, lvI (1 : Int32)] [(.int (2 : Int32)), (.ref o0_)])) rfl rfl (hb hby d7_86)
  have N46 := Fr.snoc X45 N34 P21
  have f47 : Fld Z h45 o0_ "latchwork/WaitQueue" "size" "I" (.int (2 : Int32)) := f40.same W45
  have pre48 : ∀ t, own_S p e below m T45 89 #[lvR o0_, lvR o1_, lvI (1 : Int32)] [] t → G t := by
    intro t kt
    refine pre0 t ?_
    show own_S p e below m s₁ 0 #[lvR o0_, lvR o1_, lvI (1 : Int32)] [] _
    refine XS.aloadN X0.here hx rfl (hb hby d7_0) rfl rfl ?_
    show own_S p e below m s₁ 1 #[lvR o0_, lvR o1_, lvI (1 : Int32)] [(.ref o0_)] _
    refine st1 _ ?_
    show own_S p e below m T1 4 #[lvR o0_, lvR o1_, lvI (1 : Int32)] [(.ref o2_)] _
    refine XS.ifnonnullYes X1.here hx rfl (pc0 := 4) (pc' := 20) rfl (hb hby d7_4) rfl (by decide) (by decide) ?_
    refine XS.iloadN X1.here hx rfl (hb hby d7_20) rfl ?_
    show own_S p e below m T1 21 #[lvR o0_, lvR o1_, lvI (1 : Int32)] [(.int (1 : Int32))] _
    refine XS.ifNo X1.here hx rfl (hb hby d7_21) rfl ((if0 _ _).trans (feq (by decide : ¬ ((1 : Int32) = (0 : Int32)))).1) ?_
    refine XS.aloadN X1.here hx rfl (hb hby d7_24) rfl rfl ?_
    refine XS.aloadN X1.here hx rfl (hb hby d7_25) rfl rfl ?_
    show own_S p e below m T1 26 #[lvR o0_, lvR o1_, lvI (1 : Int32)] [(.ref o0_), (.ref o1_)] _
    refine st2 _ ?_
    show own_S p e below m T2 29 #[lvR o0_, lvR o1_, lvI (1 : Int32)] [(.ref o2_), (.ref o1_)] _
    refine st3 _ ?_
    refine XS.aloadN X3.here hx rfl (hb hby d7_32) rfl rfl ?_
    show own_S p e below m T3 33 #[lvR o0_, lvR o1_, lvI (1 : Int32)] [(.ref o0_)] _
    refine st7 _ ?_
    refine XS.aloadN X7.here hx rfl (hb hby d7_36) rfl rfl ?_
    show own_S p e below m T7 37 #[lvR o0_, lvR o1_, lvI (1 : Int32)] [(.ref o1_), (.ref o2_)] _
    refine st10 _ ?_
    refine XS.aloadN X10.here hx rfl (hb hby d7_40) rfl rfl ?_
    refine XS.aloadN X10.here hx rfl (hb hby d7_41) rfl rfl ?_
    show own_S p e below m T10 42 #[lvR o0_, lvR o1_, lvI (1 : Int32)] [(.ref o1_), (.ref o0_)] _
    refine st16 _ ?_
    refine XS.goto X16.here hx rfl (pc0 := 45) (pc' := 69) rfl (hb hby d7_45) (by decide) (by decide) ?_
    refine XS.aloadN X16.here hx rfl (hb hby d7_69) rfl rfl ?_
    refine XS.iconst X16.here hx rfl (hb hby d7_70) ?_
    show own_S p e below m T16 71 #[lvR o0_, lvR o1_, lvI (1 : Int32)] [(.int (0 : Int32)), (.ref o1_)] _
    refine st25 _ ?_
    refine XS.aloadN X25.here hx rfl (hb hby d7_74) rfl rfl ?_
    refine XS.iconst X25.here hx rfl (hb hby d7_75) ?_
    show own_S p e below m T25 76 #[lvR o0_, lvR o1_, lvI (1 : Int32)] [(.int (1 : Int32)), (.ref o1_)] _
    refine st33 _ ?_
    refine XS.aloadN X33.here hx rfl (hb hby d7_79) rfl rfl ?_
    refine XS.dup X33.here hx rfl (hb hby d7_80) rfl rfl ?_
    show own_S p e below m T33 81 #[lvR o0_, lvR o1_, lvI (1 : Int32)] [(.ref o0_), (.ref o0_)] _
    refine st41 _ ?_
    refine XS.iconst X41.here hx rfl (hb hby d7_84) ?_
    refine XS.iadd X41.here hx rfl (hb hby d7_85) rfl ?_
    show own_S p e below m T41 86 #[lvR o0_, lvR o1_, lvI (1 : Int32)] [(.int (2 : Int32)), (.ref o0_)] _
    refine st45 _ ?_
    exact kt
  have f50 : Keep h0 h3 [o1_, o2_, o0_] := K0.wr W3 (Or.inl (List.mem_of_getElem? (i := 0) rfl))
  have f51 : Keep h0 h10 [o1_, o2_, o0_] := f50.wr W10 (Or.inl (List.mem_of_getElem? (i := 1) rfl))
  have f52 : Keep h0 h16 [o1_, o2_, o0_] := f51.wr W16 (Or.inl (List.mem_of_getElem? (i := 2) rfl))
  have f53 : Keep h0 h25 [o1_, o2_, o0_] := f52.wr W25 (Or.inl (List.mem_of_getElem? (i := 0) rfl))
  have f54 : Keep h0 h33 [o1_, o2_, o0_] := f53.wr W33 (Or.inl (List.mem_of_getElem? (i := 0) rfl))
  have f55 : Keep h0 h45 [o1_, o2_, o0_] := f54.wr W45 (Or.inl (List.mem_of_getElem? (i := 2) rfl))
  have f56 : Exa Z h45 o0_ "latchwork/WaitQueue" := f44.wr W45
  have f57 : Fld Z h25 o0_ "latchwork/WaitQueue" "head" "Llatchwork/WaitQueue$Waiter;" (.ref o1_) := f18.other W25 (Or.inl P17)
  have f58 : Fld Z h33 o0_ "latchwork/WaitQueue" "head" "Llatchwork/WaitQueue$Waiter;" (.ref o1_) := f57.other W33 (Or.inl P17)
  have f59 : Fld Z h45 o0_ "latchwork/WaitQueue" "head" "Llatchwork/WaitQueue$Waiter;" (.ref o1_) := f58.other W45 (Or.inr (slot_ne (Or.inl (own_w hw 24 rfl)) (Or.inl (own_w hw 31 rfl)) (by decide) (t := (.object "latchwork/WaitQueue$Waiter")) (t' := .int) (by decide) (by decide)))
  have f60 : Fld Z h3 o0_ "latchwork/WaitQueue" "tail" "Llatchwork/WaitQueue$Waiter;" (.ref o2_) := P3.other W3 (Or.inl P17)
  have f61 : Fld Z h10 o0_ "latchwork/WaitQueue" "tail" "Llatchwork/WaitQueue$Waiter;" (.ref o2_) := f60.other W10 (Or.inl P20)
  have f62 : Fld Z h16 o0_ "latchwork/WaitQueue" "tail" "Llatchwork/WaitQueue$Waiter;" (.ref o2_) := f61.other W16 (Or.inr (slot_ne (Or.inl (own_w hw 47 rfl)) (Or.inl (own_w hw 24 rfl)) (by decide) (t := (.object "latchwork/WaitQueue$Waiter")) (t' := (.object "latchwork/WaitQueue$Waiter")) (by decide) (by decide)))
  have f63 : Fld Z h25 o0_ "latchwork/WaitQueue" "tail" "Llatchwork/WaitQueue$Waiter;" (.ref o2_) := f62.other W25 (Or.inl P17)
  have f64 : Fld Z h33 o0_ "latchwork/WaitQueue" "tail" "Llatchwork/WaitQueue$Waiter;" (.ref o2_) := f63.other W33 (Or.inl P17)
  have f65 : Fld Z h45 o0_ "latchwork/WaitQueue" "tail" "Llatchwork/WaitQueue$Waiter;" (.ref o2_) := f64.other W45 (Or.inr (slot_ne (Or.inl (own_w hw 47 rfl)) (Or.inl (own_w hw 31 rfl)) (by decide) (t := (.object "latchwork/WaitQueue$Waiter")) (t' := .int) (by decide) (by decide)))
  have f66 : Exa Z h33 o1_ cn0 := f32.wr W33
  have f67 : Exa Z h45 o1_ cn0 := f66.wr W45
  have f68 : Fld Z h3 o1_ cn0 "thread" "Ljava/lang/Thread;" .null := P5.other W3 (Or.inr (slot_ne (Or.inr (own_w hw 17 rfl)) (Or.inl (own_w hw 53 rfl)) (by decide) (t := (.object "java/lang/Thread")) (t' := (.object "latchwork/WaitQueue$Waiter")) (by decide) (by decide)))
  have f69 : Fld Z h10 o1_ cn0 "thread" "Ljava/lang/Thread;" .null := f68.other W10 (Or.inl (Ne.symm P18))
  have f70 : Fld Z h16 o1_ cn0 "thread" "Ljava/lang/Thread;" .null := f69.other W16 (Or.inl (Ne.symm P17))
  have f71 : Fld Z h25 o1_ cn0 "thread" "Ljava/lang/Thread;" .null := f70.other W25 (Or.inr (slot_ne (Or.inr (own_w hw 17 rfl)) (Or.inl (own_w hw 49 rfl)) (by decide) (t := (.object "java/lang/Thread")) (t' := .boolean) (by decide) (by decide)))
  have f72 : Fld Z h33 o1_ cn0 "thread" "Ljava/lang/Thread;" .null := f71.other W33 (Or.inr (slot_ne (Or.inr (own_w hw 17 rfl)) (Or.inl (own_w hw 51 rfl)) (by decide) (t := (.object "java/lang/Thread")) (t' := .boolean) (by decide) (by decide)))
  have f73 : Fld Z h45 o1_ cn0 "thread" "Ljava/lang/Thread;" .null := f72.other W45 (Or.inl (Ne.symm P17))
  have f74 : Fld Z h33 o1_ cn0 "picked" "Z" (.int (0 : Int32)) := f27.other W33 (Or.inr (slot_ne (Or.inl (own_w hw 49 rfl)) (Or.inl (own_w hw 51 rfl)) (by decide) (t := .boolean) (t' := .boolean) (by decide) (by decide)))
  have f75 : Fld Z h45 o1_ cn0 "picked" "Z" (.int (0 : Int32)) := f74.other W45 (Or.inl (Ne.symm P17))
  have f76 : Fld Z h45 o1_ cn0 "queued" "Z" (.int (1 : Int32)) := f35.other W45 (Or.inl (Ne.symm P17))
  have f77 : Fld Z h10 o1_ cn0 "next" "Llatchwork/WaitQueue$Waiter;" (.ref o2_) := f5.other W10 (Or.inl (Ne.symm P18))
  have f78 : Fld Z h16 o1_ cn0 "next" "Llatchwork/WaitQueue$Waiter;" (.ref o2_) := f77.other W16 (Or.inl (Ne.symm P17))
  have f79 : Fld Z h25 o1_ cn0 "next" "Llatchwork/WaitQueue$Waiter;" (.ref o2_) := f78.other W25 (Or.inr (slot_ne (Or.inl (own_w hw 53 rfl)) (Or.inl (own_w hw 49 rfl)) (by decide) (t := (.object "latchwork/WaitQueue$Waiter")) (t' := .boolean) (by decide) (by decide)))
  have f80 : Fld Z h33 o1_ cn0 "next" "Llatchwork/WaitQueue$Waiter;" (.ref o2_) := f79.other W33 (Or.inr (slot_ne (Or.inl (own_w hw 53 rfl)) (Or.inl (own_w hw 51 rfl)) (by decide) (t := (.object "latchwork/WaitQueue$Waiter")) (t' := .boolean) (by decide) (by decide)))
  have f81 : Fld Z h45 o1_ cn0 "next" "Llatchwork/WaitQueue$Waiter;" (.ref o2_) := f80.other W45 (Or.inl (Ne.symm P17))
  have f82 : Fld Z h3 o1_ cn0 "prev" "Llatchwork/WaitQueue$Waiter;" .null := P9.other W3 (Or.inr (slot_ne (Or.inl (own_w hw 55 rfl)) (Or.inl (own_w hw 53 rfl)) (by decide) (t := (.object "latchwork/WaitQueue$Waiter")) (t' := (.object "latchwork/WaitQueue$Waiter")) (by decide) (by decide)))
  have f83 : Fld Z h10 o1_ cn0 "prev" "Llatchwork/WaitQueue$Waiter;" .null := f82.other W10 (Or.inl (Ne.symm P18))
  have f84 : Fld Z h16 o1_ cn0 "prev" "Llatchwork/WaitQueue$Waiter;" .null := f83.other W16 (Or.inl (Ne.symm P17))
  have f85 : Fld Z h25 o1_ cn0 "prev" "Llatchwork/WaitQueue$Waiter;" .null := f84.other W25 (Or.inr (slot_ne (Or.inl (own_w hw 55 rfl)) (Or.inl (own_w hw 49 rfl)) (by decide) (t := (.object "latchwork/WaitQueue$Waiter")) (t' := .boolean) (by decide) (by decide)))
  have f86 : Fld Z h33 o1_ cn0 "prev" "Llatchwork/WaitQueue$Waiter;" .null := f85.other W33 (Or.inr (slot_ne (Or.inl (own_w hw 55 rfl)) (Or.inl (own_w hw 51 rfl)) (by decide) (t := (.object "latchwork/WaitQueue$Waiter")) (t' := .boolean) (by decide) (by decide)))
  have f87 : Fld Z h45 o1_ cn0 "prev" "Llatchwork/WaitQueue$Waiter;" .null := f86.other W45 (Or.inl (Ne.symm P17))
  have f88 : Exa Z h10 o2_ cn0 := f9.wr W10
  have f89 : Exa Z h16 o2_ cn0 := f88.wr W16
  have f90 : Exa Z h25 o2_ cn0 := f89.wr W25
  have f91 : Exa Z h33 o2_ cn0 := f90.wr W33
  have f92 : Exa Z h45 o2_ cn0 := f91.wr W45
  have f93 : Fld Z h3 o2_ cn0 "thread" "Ljava/lang/Thread;" .null := P11.other W3 (Or.inl P18)
  have f94 : Fld Z h10 o2_ cn0 "thread" "Ljava/lang/Thread;" .null := f93.other W10 (Or.inr (slot_ne (Or.inr (own_w hw 17 rfl)) (Or.inl (own_w hw 55 rfl)) (by decide) (t := (.object "java/lang/Thread")) (t' := (.object "latchwork/WaitQueue$Waiter")) (by decide) (by decide)))
  have f95 : Fld Z h16 o2_ cn0 "thread" "Ljava/lang/Thread;" .null := f94.other W16 (Or.inl (Ne.symm P20))
  have f96 : Fld Z h25 o2_ cn0 "thread" "Ljava/lang/Thread;" .null := f95.other W25 (Or.inl P18)
  have f97 : Fld Z h33 o2_ cn0 "thread" "Ljava/lang/Thread;" .null := f96.other W33 (Or.inl P18)
  have f98 : Fld Z h45 o2_ cn0 "thread" "Ljava/lang/Thread;" .null := f97.other W45 (Or.inl (Ne.symm P20))
  have f99 : Fld Z h3 o2_ cn0 "picked" "Z" (.int (0 : Int32)) := P12.other W3 (Or.inl P18)
  have f100 : Fld Z h10 o2_ cn0 "picked" "Z" (.int (0 : Int32)) := f99.other W10 (Or.inr (slot_ne (Or.inl (own_w hw 49 rfl)) (Or.inl (own_w hw 55 rfl)) (by decide) (t := .boolean) (t' := (.object "latchwork/WaitQueue$Waiter")) (by decide) (by decide)))
  have f101 : Fld Z h16 o2_ cn0 "picked" "Z" (.int (0 : Int32)) := f100.other W16 (Or.inl (Ne.symm P20))
  have f102 : Fld Z h25 o2_ cn0 "picked" "Z" (.int (0 : Int32)) := f101.other W25 (Or.inl P18)
  have f103 : Fld Z h33 o2_ cn0 "picked" "Z" (.int (0 : Int32)) := f102.other W33 (Or.inl P18)
  have f104 : Fld Z h45 o2_ cn0 "picked" "Z" (.int (0 : Int32)) := f103.other W45 (Or.inl (Ne.symm P20))
  have f105 : Fld Z h3 o2_ cn0 "queued" "Z" (.int (1 : Int32)) := P13.other W3 (Or.inl P18)
  have f106 : Fld Z h10 o2_ cn0 "queued" "Z" (.int (1 : Int32)) := f105.other W10 (Or.inr (slot_ne (Or.inl (own_w hw 51 rfl)) (Or.inl (own_w hw 55 rfl)) (by decide) (t := .boolean) (t' := (.object "latchwork/WaitQueue$Waiter")) (by decide) (by decide)))
  have f107 : Fld Z h16 o2_ cn0 "queued" "Z" (.int (1 : Int32)) := f106.other W16 (Or.inl (Ne.symm P20))
  have f108 : Fld Z h25 o2_ cn0 "queued" "Z" (.int (1 : Int32)) := f107.other W25 (Or.inl P18)
  have f109 : Fld Z h33 o2_ cn0 "queued" "Z" (.int (1 : Int32)) := f108.other W33 (Or.inl P18)
  have f110 : Fld Z h45 o2_ cn0 "queued" "Z" (.int (1 : Int32)) := f109.other W45 (Or.inl (Ne.symm P20))
  have f111 : Fld Z h3 o2_ cn0 "next" "Llatchwork/WaitQueue$Waiter;" .null := P14.other W3 (Or.inl P18)
  have f112 : Fld Z h10 o2_ cn0 "next" "Llatchwork/WaitQueue$Waiter;" .null := f111.other W10 (Or.inr (slot_ne (Or.inl (own_w hw 53 rfl)) (Or.inl (own_w hw 55 rfl)) (by decide) (t := (.object "latchwork/WaitQueue$Waiter")) (t' := (.object "latchwork/WaitQueue$Waiter")) (by decide) (by decide)))
  have f113 : Fld Z h16 o2_ cn0 "next" "Llatchwork/WaitQueue$Waiter;" .null := f112.other W16 (Or.inl (Ne.symm P20))
  have f114 : Fld Z h25 o2_ cn0 "next" "Llatchwork/WaitQueue$Waiter;" .null := f113.other W25 (Or.inl P18)
  have f115 : Fld Z h33 o2_ cn0 "next" "Llatchwork/WaitQueue$Waiter;" .null := f114.other W33 (Or.inl P18)
  have f116 : Fld Z h45 o2_ cn0 "next" "Llatchwork/WaitQueue$Waiter;" .null := f115.other W45 (Or.inl (Ne.symm P20))
  have f117 : Fld Z h16 o2_ cn0 "prev" "Llatchwork/WaitQueue$Waiter;" (.ref o1_) := f12.other W16 (Or.inl (Ne.symm P20))
  have f118 : Fld Z h25 o2_ cn0 "prev" "Llatchwork/WaitQueue$Waiter;" (.ref o1_) := f117.other W25 (Or.inl P18)
  have f119 : Fld Z h33 o2_ cn0 "prev" "Llatchwork/WaitQueue$Waiter;" (.ref o1_) := f118.other W33 (Or.inl P18)
  have f120 : Fld Z h45 o2_ cn0 "prev" "Llatchwork/WaitQueue$Waiter;" (.ref o1_) := f119.other W45 (Or.inl (Ne.symm P20))
  obtain ⟨fs, hr, hrun, hended, hW, hsame⟩ := X45.leave (v := none) (fun _ => rfl)
  refine ⟨_, _, hG _ (pre48 _ (X45.returnOut hx Bd.returns (hb hby d7_89) hr)), hrun, hended, _, _, rfl, ?_, ⟨_, rfl⟩, hW, hsame.mono (by decide) (by decide)⟩
  show Qadd17 Z o0_ o1_ o2_ h0 n0 _ T45.heap _
  rw [e45]
  exact ⟨rfl, N46, f55, f56, f59, f47, f65, f67, f73, f75, f76, f81, f87, f92, f98, f104, f110, f116, f120⟩
theorem efadd18 (m : MethodId) (o0_ : Addr) (o1_ : Addr) : entryFrame m #[(.ref o0_), (.ref o1_), (.int (0 : Int32))] 3 = mkF m 0 #[lvR o0_, lvR o1_, lvI (0 : Int32)] [] := by first | (simp [entryFrame, mkF, argsToLocals, Value.category]; done) | rfl
def Qadd18 (Z : State) (o0_ : Addr) (o1_ : Addr) (o2_ : Addr) (o3_ : Addr) (h0 : Heap) (n0 : Nat) (v : Option Value) (h : Heap) (L : List Loc) : Prop := v = none ∧ Fr n0 L ∧ Keep h0 h [o1_, o3_, o0_] ∧ Exa Z h o0_ "latchwork/WaitQueue" ∧ Fld Z h o0_ "latchwork/WaitQueue" "head" "Llatchwork/WaitQueue$Waiter;" (.ref o2_) ∧ Fld Z h o0_ "latchwork/WaitQueue" "size" "I" (.int (3 : Int32)) ∧ Fld Z h o0_ "latchwork/WaitQueue" "tail" "Llatchwork/WaitQueue$Waiter;" (.ref o1_) ∧ Exa Z h o1_ cn0 ∧ Fld Z h o1_ cn0 "thread" "Ljava/lang/Thread;" .null ∧ Fld Z h o1_ cn0 "picked" "Z" (.int (0 : Int32)) ∧ Fld Z h o1_ cn0 "queued" "Z" (.int (1 : Int32)) ∧ Fld Z h o1_ cn0 "next" "Llatchwork/WaitQueue$Waiter;" .null ∧ Fld Z h o1_ cn0 "prev" "Llatchwork/WaitQueue$Waiter;" (.ref o3_) ∧ Exa Z h o3_ cn0 ∧ Fld Z h o3_ cn0 "thread" "Ljava/lang/Thread;" .null ∧ Fld Z h o3_ cn0 "picked" "Z" (.int (0 : Int32)) ∧ Fld Z h o3_ cn0 "queued" "Z" (.int (1 : Int32)) ∧ Fld Z h o3_ cn0 "next" "Llatchwork/WaitQueue$Waiter;" (.ref o1_) ∧ Fld Z h o3_ cn0 "prev" "Llatchwork/WaitQueue$Waiter;" (.ref o2_)
set_option maxRecDepth 65536 in
set_option maxHeartbeats 40000000 in
theorem rmadd18 (l : Launch) (Z : State) (a0 : Array Value) (hw : ∀ d ∈ tables_1, d.before a0 Z = true) (ws : List Jvm.Cond) (o0_ : Addr) (o1_ : Addr) (o2_ : Addr) (o3_ : Addr) (h0 : Heap) (n0 : Nat) (O0 : Old Z n0 h0) (P0 : Exa Z h0 o0_ "latchwork/WaitQueue") (P1 : Fld Z h0 o0_ "latchwork/WaitQueue" "head" "Llatchwork/WaitQueue$Waiter;" (.ref o2_)) (P2 : Fld Z h0 o0_ "latchwork/WaitQueue" "size" "I" (.int (2 : Int32))) (P3 : Fld Z h0 o0_ "latchwork/WaitQueue" "tail" "Llatchwork/WaitQueue$Waiter;" (.ref o3_)) (P4 : Exa Z h0 o1_ cn0) (P5 : Fld Z h0 o1_ cn0 "thread" "Ljava/lang/Thread;" .null) (P6 : Fld Z h0 o1_ cn0 "picked" "Z" (.int (0 : Int32))) (P7 : Fld Z h0 o1_ cn0 "queued" "Z" (.int (0 : Int32))) (P8 : Fld Z h0 o1_ cn0 "next" "Llatchwork/WaitQueue$Waiter;" .null) (P9 : Fld Z h0 o1_ cn0 "prev" "Llatchwork/WaitQueue$Waiter;" .null) (P10 : Exa Z h0 o2_ cn0) (P11 : Fld Z h0 o2_ cn0 "thread" "Ljava/lang/Thread;" .null) (P12 : Fld Z h0 o2_ cn0 "picked" "Z" (.int (0 : Int32))) (P13 : Fld Z h0 o2_ cn0 "queued" "Z" (.int (1 : Int32))) (P14 : Fld Z h0 o2_ cn0 "next" "Llatchwork/WaitQueue$Waiter;" (.ref o3_)) (P15 : Fld Z h0 o2_ cn0 "prev" "Llatchwork/WaitQueue$Waiter;" .null) (P16 : Exa Z h0 o3_ cn0) (P17 : Fld Z h0 o3_ cn0 "thread" "Ljava/lang/Thread;" .null) (P18 : Fld Z h0 o3_ cn0 "picked" "Z" (.int (0 : Int32))) (P19 : Fld Z h0 o3_ cn0 "queued" "Z" (.int (1 : Int32))) (P20 : Fld Z h0 o3_ cn0 "next" "Llatchwork/WaitQueue$Waiter;" .null) (P21 : Fld Z h0 o3_ cn0 "prev" "Llatchwork/WaitQueue$Waiter;" (.ref o2_)) (P22 : n0 ≤ o1_) (P23 : o0_ ≠ o1_) (P24 : o3_ ≠ o1_) (P25 : n0 ≤ o3_) (P26 : o0_ ≠ o3_) (P27 : n0 ≤ o0_) :
    MetFree l (⟨"latchwork/WaitQueue", "add", "(Llatchwork/WaitQueue$Waiter;Z)V"⟩ : MethodName) (head1 (Jvm.Cond.code (⟨"latchwork/WaitQueue", "add", "(Llatchwork/WaitQueue$Waiter;Z)V"⟩ : MethodName) prog_8_method_5_code 3 none :: ws) ({ frames := 0, cells := 0, slots := 0, locals := 0 } : Room)) (fun a U => a = #[(.ref o0_), (.ref o1_), (.int (0 : Int32))] ∧ Z.Warmed39 U.vm ∧ U.heap = h0) (fun _ _ _ _ _ => True) (fun _ U o U' => ∃ v L, o = .returned v ∧ Qadd18 Z o0_ o1_ o2_ o3_ h0 n0 v U'.heap L ∧ FrameEnd U o U' L ({ frames := 0, cells := 0, slots := 0, locals := 0 } : Room).cells ({ frames := 0, cells := 0, slots := 0, locals := 0 } : Room).slots) := by
  refine MetFree.of_bodySF (plainFor_of_name pn_0) hisR ?_
  intro p e s m args below meth c s₁ Bd hml0 hP hK
  obtain ⟨rfl, hZ, hh⟩ := hP
  have hx := Bd.exec
  have hby := Bd.bytes
  have hml : c.maxLocals = 3 := hml0
  have hown : s.vm.findClass "latchwork/WaitQueue" = some m.cls := findClass_of_methodNamed Bd.named
  have hnm := (name_of_methodNamed Bd.named Bd.method).1
  have X0 : Stand p l e ({ frames := 0, cells := 0, slots := 0, locals := 0 } : Room) s m #[(.ref o0_), (.ref o1_), (.int (0 : Int32))] below meth c s₁ [] 0 0 := Stand.of_body Bd
  have e0 : s₁.heap = h0 := by rw [← hh, Bd.state]; rfl
  have N0 := Fr.nil n0
  obtain ⟨G, pre0, hG⟩ : ∃ G : State → Prop, (∀ t, own_S p e below m s₁ 0 #[lvR o0_, lvR o1_, lvI (0 : Int32)] [] t → G t) ∧ (∀ t, G t → Steps p.tables e below (s₁.setTop (entryFrame m #[(.ref o0_), (.ref o1_), (.int (0 : Int32))] 3)) t) := ⟨fun t => Steps p.tables e below (s₁.setTop (entryFrame m #[(.ref o0_), (.ref o1_), (.int (0 : Int32))] 3)) t, fun t k => castTop (efadd18 m o0_ o1_) k, fun _ k => k⟩
  have K0 : Keep h0 h0 [o1_, o3_, o0_] := Keep.refl _ _
  obtain ⟨T1, X1, e1, st1⟩ := getF X0 hx hZ hown (host := "") (Or.inl (own_w hw 23 rfl)) Via.refl e0 P1 (g := (mkF m 1 #[lvR o0_, lvR o1_, lvI (0 : Int32)] [(.ref o0_)])) rfl rfl (hb hby d7_1)
  obtain ⟨T2, X2, e2, st2⟩ := getF X1 hx hZ hown (host := "") (Or.inl (own_w hw 46 rfl)) Via.refl e1 P3 (g := (mkF m 50 #[lvR o0_, lvR o1_, lvI (0 : Int32)] [(.ref o0_), (.ref o1_)])) rfl rfl (hb hby d7_50)
  obtain ⟨T3, h3, X3, e3, W3, st3⟩ := own_putR X2 hx hZ hown (own_w hw 54 rfl) Via.refl e2 P9 P4 (own_w hw 55 rfl) (own_w hw 10 rfl) (ty := (.object "latchwork/WaitQueue$Waiter")) (by decide) rfl rfl (g := (mkF m 53 #[lvR o0_, lvR o1_, lvI (0 : Int32)] [(.ref o3_), (.ref o1_)])) rfl rfl (hb hby d7_53)
  have N4 := Fr.snoc X3 N0 P22
  have f5 : Fld Z h3 o1_ cn0 "prev" "Llatchwork/WaitQueue$Waiter;" (.ref o3_) := P9.same W3
  have f6 : Fld Z h3 o0_ "latchwork/WaitQueue" "tail" "Llatchwork/WaitQueue$Waiter;" (.ref o3_) := P3.other W3 (Or.inl P23)
  obtain ⟨T7, X7, e7, st7⟩ := getF X3 hx hZ hown (host := "") (Or.inl (own_w hw 46 rfl)) Via.refl e3 f6 (g := (mkF m 57 #[lvR o0_, lvR o1_, lvI (0 : Int32)] [(.ref o0_)])) rfl rfl (hb hby d7_57)
  have f8 : Fld Z h3 o3_ cn0 "next" "Llatchwork/WaitQueue$Waiter;" .null := P20.other W3 (Or.inl P24)
  have f9 : Exa Z h3 o3_ cn0 := P16.wr W3
  obtain ⟨T10, h10, X10, e10, W10, st10⟩ := own_putR X7 hx hZ hown (own_w hw 52 rfl) Via.refl e7 f8 f9 (own_w hw 53 rfl) (own_w hw 10 rfl) (ty := (.object "latchwork/WaitQueue$Waiter")) (by decide) rfl rfl (g := (mkF m 61 #[lvR o0_, lvR o1_, lvI (0 : Int32)] [(.ref o1_), (.ref o3_)])) rfl rfl (hb hby d7_61)
  have N11 := Fr.snoc X10 N4 P25
  have f12 : Fld Z h10 o3_ cn0 "next" "Llatchwork/WaitQueue$Waiter;" (.ref o1_) := f8.same W10
  have f13 : Fld Z h10 o0_ "latchwork/WaitQueue" "tail" "Llatchwork/WaitQueue$Waiter;" (.ref o3_) := f6.other W10 (Or.inl P26)
  have f14 : Exa Z h3 o0_ "latchwork/WaitQueue" := P0.wr W3
  have f15 : Exa Z h10 o0_ "latchwork/WaitQueue" := f14.wr W10
  obtain ⟨T16, h16, X16, e16, W16, st16⟩ := putF X10 hx hZ hown (host := "") (Or.inl (own_w hw 46 rfl)) Via.refl e10 f13 f15 (Or.inl (own_w hw 47 rfl)) (own_w hw 1 rfl) (ty := (.object "latchwork/WaitQueue$Waiter")) (by decide) rfl rfl (g := (mkF m 66 #[lvR o0_, lvR o1_, lvI (0 : Int32)] [(.ref o1_), (.ref o0_)])) rfl rfl (hb hby d7_66)
  have N17 := Fr.snoc X16 N11 P27
  have f18 : Fld Z h16 o0_ "latchwork/WaitQueue" "tail" "Llatchwork/WaitQueue$Waiter;" (.ref o1_) := f13.same W16
  have f19 : Fld Z h3 o1_ cn0 "picked" "Z" (.int (0 : Int32)) := P6.other W3 (Or.inr (slot_ne (Or.inl (own_w hw 49 rfl)) (Or.inl (own_w hw 55 rfl)) (by decide) (t := .boolean) (t' := (.object "latchwork/WaitQueue$Waiter")) (by decide) (by decide)))
  have f20 : Fld Z h10 o1_ cn0 "picked" "Z" (.int (0 : Int32)) := f19.other W10 (Or.inl (Ne.symm P24))
  have f21 : Fld Z h16 o1_ cn0 "picked" "Z" (.int (0 : Int32)) := f20.other W16 (Or.inl (Ne.symm P23))
  have f22 : Exa Z h3 o1_ cn0 := P4.wr W3
  have f23 : Exa Z h10 o1_ cn0 := f22.wr W10
  have f24 : Exa Z h16 o1_ cn0 := f23.wr W16
  obtain ⟨T25, h25, X25, e25, W25, st25⟩ := own_putR X16 hx hZ hown (own_w hw 48 rfl) Via.refl e16 f21 f24 (own_w hw 49 rfl) (own_w hw 10 rfl) (ty := .boolean) (by decide) rfl rfl (g := (mkF m 71 #[lvR o0_, lvR o1_, lvI (0 : Int32)] [(.int (0 : Int32)), (.ref o1_)])) rfl rfl (hb hby d7_71)
  have N26 := Fr.snoc X25 N17 P22
  have f27 : Fld Z h25 o1_ cn0 "picked" "Z" (.int (0 : Int32)) := f21.same W25
  have f28 : Fld Z h3 o1_ cn0 "queued" "Z" (.int (0 : Int32)) := P7.other W3 (Or.inr (slot_ne (Or.inl (own_w hw 51 rfl)) (Or.inl (own_w hw 55 rfl)) (by decide) (t := .boolean) (t' := (.object "latchwork/WaitQueue$Waiter")) (by decide) (by decide)))
  have f29 : Fld Z h10 o1_ cn0 "queued" "Z" (.int (0 : Int32)) := f28.other W10 (Or.inl (Ne.symm P24))
  have f30 : Fld Z h16 o1_ cn0 "queued" "Z" (.int (0 : Int32)) := f29.other W16 (Or.inl (Ne.symm P23))
  have f31 : Fld Z h25 o1_ cn0 "queued" "Z" (.int (0 : Int32)) := f30.other W25 (Or.inr (slot_ne (Or.inl (own_w hw 51 rfl)) (Or.inl (own_w hw 49 rfl)) (by decide) (t := .boolean) (t' := .boolean) (by decide) (by decide)))
  have f32 : Exa Z h25 o1_ cn0 := f24.wr W25
  obtain ⟨T33, h33, X33, e33, W33, st33⟩ := own_putR X25 hx hZ hown (own_w hw 50 rfl) Via.refl e25 f31 f32 (own_w hw 51 rfl) (own_w hw 10 rfl) (ty := .boolean) (by decide) rfl rfl (g := (mkF m 76 #[lvR o0_, lvR o1_, lvI (0 : Int32)] [(.int (1 : Int32)), (.ref o1_)])) rfl rfl (hb hby d7_76)
  have N34 := Fr.snoc X33 N26 P22
  have f35 : Fld Z h33 o1_ cn0 "queued" "Z" (.int (1 : Int32)) := f31.same W33
  have f36 : Fld Z h3 o0_ "latchwork/WaitQueue" "size" "I" (.int (2 : Int32)) := P2.other W3 (Or.inl P23)
  have f37 : Fld Z h10 o0_ "latchwork/WaitQueue" "size" "I" (.int (2 : Int32)) := f36.other W10 (Or.inl P26)
  have f38 : Fld Z h16 o0_ "latchwork/WaitQueue" "size" "I" (.int (2 : Int32)) := f37.other W16 (Or.inr (slot_ne (Or.inl (own_w hw 31 rfl)) (Or.inl (own_w hw 47 rfl)) (by decide) (t := .int) (t' := (.object "latchwork/WaitQueue$Waiter")) (by decide) (by decide)))
  have f39 : Fld Z h25 o0_ "latchwork/WaitQueue" "size" "I" (.int (2 : Int32)) := f38.other W25 (Or.inl P23)
  have f40 : Fld Z h33 o0_ "latchwork/WaitQueue" "size" "I" (.int (2 : Int32)) := f39.other W33 (Or.inl P23)
  obtain ⟨T41, X41, e41, st41⟩ := getF X33 hx hZ hown (host := "") (Or.inl (own_w hw 30 rfl)) Via.refl e33 f40 (g := (mkF m 81 #[lvR o0_, lvR o1_, lvI (0 : Int32)] [(.ref o0_), (.ref o0_)])) rfl rfl (hb hby d7_81)
  have f42 : Exa Z h16 o0_ "latchwork/WaitQueue" := f15.wr W16
  have f43 : Exa Z h25 o0_ "latchwork/WaitQueue" := f42.wr W25
  have f44 : Exa Z h33 o0_ "latchwork/WaitQueue" := f43.wr W33
  obtain ⟨T45, h45, X45, e45, W45, st45⟩ := putF X41 hx hZ hown (host := "") (Or.inl (own_w hw 30 rfl)) Via.refl e41 f40 f44 (Or.inl (own_w hw 31 rfl)) (own_w hw 1 rfl) (ty := .int) (by decide) rfl rfl (g := (mkF m 86 #[lvR o0_, lvR o1_, lvI (0 : Int32)] [(.int (3 : Int32)), (.ref o0_)])) rfl rfl (hb hby d7_86)
  have N46 := Fr.snoc X45 N34 P27
  have f47 : Fld Z h45 o0_ "latchwork/WaitQueue" "size" "I" (.int (3 : Int32)) := f40.same W45
  have pre48 : ∀ t, own_S p e below m T45 89 #[lvR o0_, lvR o1_, lvI (0 : Int32)] [] t → G t := by
    intro t kt
    refine pre0 t ?_
    show own_S p e below m s₁ 0 #[lvR o0_, lvR o1_, lvI (0 : Int32)] [] _
    refine XS.aloadN X0.here hx rfl (hb hby d7_0) rfl rfl ?_
    show own_S p e below m s₁ 1 #[lvR o0_, lvR o1_, lvI (0 : Int32)] [(.ref o0_)] _
    refine st1 _ ?_
    show own_S p e below m T1 4 #[lvR o0_, lvR o1_, lvI (0 : Int32)] [(.ref o2_)] _
    refine XS.ifnonnullYes X1.here hx rfl (pc0 := 4) (pc' := 20) rfl (hb hby d7_4) rfl (by decide) (by decide) ?_
    refine XS.iloadN X1.here hx rfl (hb hby d7_20) rfl ?_
    show own_S p e below m T1 21 #[lvR o0_, lvR o1_, lvI (0 : Int32)] [(.int (0 : Int32))] _
    refine XS.ifYes X1.here hx rfl (pc0 := 21) (pc' := 48) rfl (hb hby d7_21) rfl ((if0 _ _).trans (teq (by decide : (0 : Int32) = (0 : Int32))).1) (by decide) (by decide) ?_
    refine XS.aloadN X1.here hx rfl (hb hby d7_48) rfl rfl ?_
    refine XS.aloadN X1.here hx rfl (hb hby d7_49) rfl rfl ?_
    show own_S p e below m T1 50 #[lvR o0_, lvR o1_, lvI (0 : Int32)] [(.ref o0_), (.ref o1_)] _
    refine st2 _ ?_
    show own_S p e below m T2 53 #[lvR o0_, lvR o1_, lvI (0 : Int32)] [(.ref o3_), (.ref o1_)] _
    refine st3 _ ?_
    refine XS.aloadN X3.here hx rfl (hb hby d7_56) rfl rfl ?_
    show own_S p e below m T3 57 #[lvR o0_, lvR o1_, lvI (0 : Int32)] [(.ref o0_)] _
    refine st7 _ ?_
    refine XS.aloadN X7.here hx rfl (hb hby d7_60) rfl rfl ?_
    show own_S p e below m T7 61 #[lvR o0_, lvR o1_, lvI (0 : Int32)] [(.ref o1_), (.ref o3_)] _
    refine st10 _ ?_
    refine XS.aloadN X10.here hx rfl (hb hby d7_64) rfl rfl ?_
    refine XS.aloadN X10.here hx rfl (hb hby d7_65) rfl rfl ?_
    show own_S p e below m T10 66 #[lvR o0_, lvR o1_, lvI (0 : Int32)] [(.ref o1_), (.ref o0_)] _
    refine st16 _ ?_
    refine XS.aloadN X16.here hx rfl (hb hby d7_69) rfl rfl ?_
    refine XS.iconst X16.here hx rfl (hb hby d7_70) ?_
    show own_S p e below m T16 71 #[lvR o0_, lvR o1_, lvI (0 : Int32)] [(.int (0 : Int32)), (.ref o1_)] _
    refine st25 _ ?_
    refine XS.aloadN X25.here hx rfl (hb hby d7_74) rfl rfl ?_
    refine XS.iconst X25.here hx rfl (hb hby d7_75) ?_
    show own_S p e below m T25 76 #[lvR o0_, lvR o1_, lvI (0 : Int32)] [(.int (1 : Int32)), (.ref o1_)] _
    refine st33 _ ?_
    refine XS.aloadN X33.here hx rfl (hb hby d7_79) rfl rfl ?_
    refine XS.dup X33.here hx rfl (hb hby d7_80) rfl rfl ?_
    show own_S p e below m T33 81 #[lvR o0_, lvR o1_, lvI (0 : Int32)] [(.ref o0_), (.ref o0_)] _
    refine st41 _ ?_
    refine XS.iconst X41.here hx rfl (hb hby d7_84) ?_
    refine XS.iadd X41.here hx rfl (hb hby d7_85) rfl ?_
    show own_S p e below m T41 86 #[lvR o0_, lvR o1_, lvI (0 : Int32)] [(.int (3 : Int32)), (.ref o0_)] _
    refine st45 _ ?_
    exact kt
  have f50 : Keep h0 h3 [o1_, o3_, o0_] := K0.wr W3 (Or.inl (List.mem_of_getElem? (i := 0) rfl))
  have f51 : Keep h0 h10 [o1_, o3_, o0_] := f50.wr W10 (Or.inl (List.mem_of_getElem? (i := 1) rfl))
  have f52 : Keep h0 h16 [o1_, o3_, o0_] := f51.wr W16 (Or.inl (List.mem_of_getElem? (i := 2) rfl))
  have f53 : Keep h0 h25 [o1_, o3_, o0_] := f52.wr W25 (Or.inl (List.mem_of_getElem? (i := 0) rfl))
  have f54 : Keep h0 h33 [o1_, o3_, o0_] := f53.wr W33 (Or.inl (List.mem_of_getElem? (i := 0) rfl))
  have f55 : Keep h0 h45 [o1_, o3_, o0_] := f54.wr W45 (Or.inl (List.mem_of_getElem? (i := 2) rfl))
  have f56 : Exa Z h45 o0_ "latchwork/WaitQueue" := f44.wr W45
  have f57 : Fld Z h3 o0_ "latchwork/WaitQueue" "head" "Llatchwork/WaitQueue$Waiter;" (.ref o2_) := P1.other W3 (Or.inl P23)
  have f58 : Fld Z h10 o0_ "latchwork/WaitQueue" "head" "Llatchwork/WaitQueue$Waiter;" (.ref o2_) := f57.other W10 (Or.inl P26)
  have f59 : Fld Z h16 o0_ "latchwork/WaitQueue" "head" "Llatchwork/WaitQueue$Waiter;" (.ref o2_) := f58.other W16 (Or.inr (slot_ne (Or.inl (own_w hw 24 rfl)) (Or.inl (own_w hw 47 rfl)) (by decide) (t := (.object "latchwork/WaitQueue$Waiter")) (t' := (.object "latchwork/WaitQueue$Waiter")) (by decide) (by decide)))
  have f60 : Fld Z h25 o0_ "latchwork/WaitQueue" "head" "Llatchwork/WaitQueue$Waiter;" (.ref o2_) := f59.other W25 (Or.inl P23)
  have f61 : Fld Z h33 o0_ "latchwork/WaitQueue" "head" "Llatchwork/WaitQueue$Waiter;" (.ref o2_) := f60.other W33 (Or.inl P23)
  have f62 : Fld Z h45 o0_ "latchwork/WaitQueue" "head" "Llatchwork/WaitQueue$Waiter;" (.ref o2_) := f61.other W45 (Or.inr (slot_ne (Or.inl (own_w hw 24 rfl)) (Or.inl (own_w hw 31 rfl)) (by decide) (t := (.object "latchwork/WaitQueue$Waiter")) (t' := .int) (by decide) (by decide)))
  have f63 : Fld Z h25 o0_ "latchwork/WaitQueue" "tail" "Llatchwork/WaitQueue$Waiter;" (.ref o1_) := f18.other W25 (Or.inl P23)
  have f64 : Fld Z h33 o0_ "latchwork/WaitQueue" "tail" "Llatchwork/WaitQueue$Waiter;" (.ref o1_) := f63.other W33 (Or.inl P23)
  have f65 : Fld Z h45 o0_ "latchwork/WaitQueue" "tail" "Llatchwork/WaitQueue$Waiter;" (.ref o1_) := f64.other W45 (Or.inr (slot_ne (Or.inl (own_w hw 47 rfl)) (Or.inl (own_w hw 31 rfl)) (by decide) (t := (.object "latchwork/WaitQueue$Waiter")) (t' := .int) (by decide) (by decide)))
  have f66 : Exa Z h33 o1_ cn0 := f32.wr W33
  have f67 : Exa Z h45 o1_ cn0 := f66.wr W45
  have f68 : Fld Z h3 o1_ cn0 "thread" "Ljava/lang/Thread;" .null := P5.other W3 (Or.inr (slot_ne (Or.inr (own_w hw 17 rfl)) (Or.inl (own_w hw 55 rfl)) (by decide) (t := (.object "java/lang/Thread")) (t' := (.object "latchwork/WaitQueue$Waiter")) (by decide) (by decide)))
  have f69 : Fld Z h10 o1_ cn0 "thread" "Ljava/lang/Thread;" .null := f68.other W10 (Or.inl (Ne.symm P24))
  have f70 : Fld Z h16 o1_ cn0 "thread" "Ljava/lang/Thread;" .null := f69.other W16 (Or.inl (Ne.symm P23))
  have f71 : Fld Z h25 o1_ cn0 "thread" "Ljava/lang/Thread;" .null := f70.other W25 (Or.inr (slot_ne (Or.inr (own_w hw 17 rfl)) (Or.inl (own_w hw 49 rfl)) (by decide) (t := (.object "java/lang/Thread")) (t' := .boolean) (by decide) (by decide)))
  have f72 : Fld Z h33 o1_ cn0 "thread" "Ljava/lang/Thread;" .null := f71.other W33 (Or.inr (slot_ne (Or.inr (own_w hw 17 rfl)) (Or.inl (own_w hw 51 rfl)) (by decide) (t := (.object "java/lang/Thread")) (t' := .boolean) (by decide) (by decide)))
  have f73 : Fld Z h45 o1_ cn0 "thread" "Ljava/lang/Thread;" .null := f72.other W45 (Or.inl (Ne.symm P23))
  have f74 : Fld Z h33 o1_ cn0 "picked" "Z" (.int (0 : Int32)) := f27.other W33 (Or.inr (slot_ne (Or.inl (own_w hw 49 rfl)) (Or.inl (own_w hw 51 rfl)) (by decide) (t := .boolean) (t' := .boolean) (by decide) (by decide)))
  have f75 : Fld Z h45 o1_ cn0 "picked" "Z" (.int (0 : Int32)) := f74.other W45 (Or.inl (Ne.symm P23))
  have f76 : Fld Z h45 o1_ cn0 "queued" "Z" (.int (1 : Int32)) := f35.other W45 (Or.inl (Ne.symm P23))
  have f77 : Fld Z h3 o1_ cn0 "next" "Llatchwork/WaitQueue$Waiter;" .null := P8.other W3 (Or.inr (slot_ne (Or.inl (own_w hw 53 rfl)) (Or.inl (own_w hw 55 rfl)) (by decide) (t := (.object "latchwork/WaitQueue$Waiter")) (t' := (.object "latchwork/WaitQueue$Waiter")) (by decide) (by decide)))
  have f78 : Fld Z h10 o1_ cn0 "next" "Llatchwork/WaitQueue$Waiter;" .null := f77.other W10 (Or.inl (Ne.symm P24))
  have f79 : Fld Z h16 o1_ cn0 "next" "Llatchwork/WaitQueue$Waiter;" .null := f78.other W16 (Or.inl (Ne.symm P23))
  have f80 : Fld Z h25 o1_ cn0 "next" "Llatchwork/WaitQueue$Waiter;" .null := f79.other W25 (Or.inr (slot_ne (Or.inl (own_w hw 53 rfl)) (Or.inl (own_w hw 49 rfl)) (by decide) (t := (.object "latchwork/WaitQueue$Waiter")) (t' := .boolean) (by decide) (by decide)))
  have f81 : Fld Z h33 o1_ cn0 "next" "Llatchwork/WaitQueue$Waiter;" .null := f80.other W33 (Or.inr (slot_ne (Or.inl (own_w hw 53 rfl)) (Or.inl (own_w hw 51 rfl)) (by decide) (t := (.object "latchwork/WaitQueue$Waiter")) (t' := .boolean) (by decide) (by decide)))
  have f82 : Fld Z h45 o1_ cn0 "next" "Llatchwork/WaitQueue$Waiter;" .null := f81.other W45 (Or.inl (Ne.symm P23))
  have f83 : Fld Z h10 o1_ cn0 "prev" "Llatchwork/WaitQueue$Waiter;" (.ref o3_) := f5.other W10 (Or.inl (Ne.symm P24))
  have f84 : Fld Z h16 o1_ cn0 "prev" "Llatchwork/WaitQueue$Waiter;" (.ref o3_) := f83.other W16 (Or.inl (Ne.symm P23))
  have f85 : Fld Z h25 o1_ cn0 "prev" "Llatchwork/WaitQueue$Waiter;" (.ref o3_) := f84.other W25 (Or.inr (slot_ne (Or.inl (own_w hw 55 rfl)) (Or.inl (own_w hw 49 rfl)) (by decide) (t := (.object "latchwork/WaitQueue$Waiter")) (t' := .boolean) (by decide) (by decide)))
  have f86 : Fld Z h33 o1_ cn0 "prev" "Llatchwork/WaitQueue$Waiter;" (.ref o3_) := f85.other W33 (Or.inr (slot_ne (Or.inl (own_w hw 55 rfl)) (Or.inl (own_w hw 51 rfl)) (by decide) (t := (.object "latchwork/WaitQueue$Waiter")) (t' := .boolean) (by decide) (by decide)))
  have f87 : Fld Z h45 o1_ cn0 "prev" "Llatchwork/WaitQueue$Waiter;" (.ref o3_) := f86.other W45 (Or.inl (Ne.symm P23))
  have f88 : Exa Z h10 o3_ cn0 := f9.wr W10
  have f89 : Exa Z h16 o3_ cn0 := f88.wr W16
  have f90 : Exa Z h25 o3_ cn0 := f89.wr W25
  have f91 : Exa Z h33 o3_ cn0 := f90.wr W33
  have f92 : Exa Z h45 o3_ cn0 := f91.wr W45
  have f93 : Fld Z h3 o3_ cn0 "thread" "Ljava/lang/Thread;" .null := P17.other W3 (Or.inl P24)
  have f94 : Fld Z h10 o3_ cn0 "thread" "Ljava/lang/Thread;" .null := f93.other W10 (Or.inr (slot_ne (Or.inr (own_w hw 17 rfl)) (Or.inl (own_w hw 53 rfl)) (by decide) (t := (.object "java/lang/Thread")) (t' := (.object "latchwork/WaitQueue$Waiter")) (by decide) (by decide)))
  have f95 : Fld Z h16 o3_ cn0 "thread" "Ljava/lang/Thread;" .null := f94.other W16 (Or.inl (Ne.symm P26))
  have f96 : Fld Z h25 o3_ cn0 "thread" "Ljava/lang/Thread;" .null := f95.other W25 (Or.inl P24)
  have f97 : Fld Z h33 o3_ cn0 "thread" "Ljava/lang/Thread;" .null := f96.other W33 (Or.inl P24)
  have f98 : Fld Z h45 o3_ cn0 "thread" "Ljava/lang/Thread;" .null := f97.other W45 (Or.inl (Ne.symm P26))
  have f99 : Fld Z h3 o3_ cn0 "picked" "Z" (.int (0 : Int32)) := P18.other W3 (Or.inl P24)
  have f100 : Fld Z h10 o3_ cn0 "picked" "Z" (.int (0 : Int32)) := f99.other W10 (Or.inr (slot_ne (Or.inl (own_w hw 49 rfl)) (Or.inl (own_w hw 53 rfl)) (by decide) (t := .boolean) (t' := (.object "latchwork/WaitQueue$Waiter")) (by decide) (by decide)))
  have f101 : Fld Z h16 o3_ cn0 "picked" "Z" (.int (0 : Int32)) := f100.other W16 (Or.inl (Ne.symm P26))
  have f102 : Fld Z h25 o3_ cn0 "picked" "Z" (.int (0 : Int32)) := f101.other W25 (Or.inl P24)
  have f103 : Fld Z h33 o3_ cn0 "picked" "Z" (.int (0 : Int32)) := f102.other W33 (Or.inl P24)
  have f104 : Fld Z h45 o3_ cn0 "picked" "Z" (.int (0 : Int32)) := f103.other W45 (Or.inl (Ne.symm P26))
  have f105 : Fld Z h3 o3_ cn0 "queued" "Z" (.int (1 : Int32)) := P19.other W3 (Or.inl P24)
  have f106 : Fld Z h10 o3_ cn0 "queued" "Z" (.int (1 : Int32)) := f105.other W10 (Or.inr (slot_ne (Or.inl (own_w hw 51 rfl)) (Or.inl (own_w hw 53 rfl)) (by decide) (t := .boolean) (t' := (.object "latchwork/WaitQueue$Waiter")) (by decide) (by decide)))
  have f107 : Fld Z h16 o3_ cn0 "queued" "Z" (.int (1 : Int32)) := f106.other W16 (Or.inl (Ne.symm P26))
  have f108 : Fld Z h25 o3_ cn0 "queued" "Z" (.int (1 : Int32)) := f107.other W25 (Or.inl P24)
  have f109 : Fld Z h33 o3_ cn0 "queued" "Z" (.int (1 : Int32)) := f108.other W33 (Or.inl P24)
  have f110 : Fld Z h45 o3_ cn0 "queued" "Z" (.int (1 : Int32)) := f109.other W45 (Or.inl (Ne.symm P26))
  have f111 : Fld Z h16 o3_ cn0 "next" "Llatchwork/WaitQueue$Waiter;" (.ref o1_) := f12.other W16 (Or.inl (Ne.symm P26))
  have f112 : Fld Z h25 o3_ cn0 "next" "Llatchwork/WaitQueue$Waiter;" (.ref o1_) := f111.other W25 (Or.inl P24)
  have f113 : Fld Z h33 o3_ cn0 "next" "Llatchwork/WaitQueue$Waiter;" (.ref o1_) := f112.other W33 (Or.inl P24)
  have f114 : Fld Z h45 o3_ cn0 "next" "Llatchwork/WaitQueue$Waiter;" (.ref o1_) := f113.other W45 (Or.inl (Ne.symm P26))
  have f115 : Fld Z h3 o3_ cn0 "prev" "Llatchwork/WaitQueue$Waiter;" (.ref o2_) := P21.other W3 (Or.inl P24)
  have f116 : Fld Z h10 o3_ cn0 "prev" "Llatchwork/WaitQueue$Waiter;" (.ref o2_) := f115.other W10 (Or.inr (slot_ne (Or.inl (own_w hw 55 rfl)) (Or.inl (own_w hw 53 rfl)) (by decide) (t := (.object "latchwork/WaitQueue$Waiter")) (t' := (.object "latchwork/WaitQueue$Waiter")) (by decide) (by decide)))
  have f117 : Fld Z h16 o3_ cn0 "prev" "Llatchwork/WaitQueue$Waiter;" (.ref o2_) := f116.other W16 (Or.inl (Ne.symm P26))
  have f118 : Fld Z h25 o3_ cn0 "prev" "Llatchwork/WaitQueue$Waiter;" (.ref o2_) := f117.other W25 (Or.inl P24)
  have f119 : Fld Z h33 o3_ cn0 "prev" "Llatchwork/WaitQueue$Waiter;" (.ref o2_) := f118.other W33 (Or.inl P24)
  have f120 : Fld Z h45 o3_ cn0 "prev" "Llatchwork/WaitQueue$Waiter;" (.ref o2_) := f119.other W45 (Or.inl (Ne.symm P26))
  obtain ⟨fs, hr, hrun, hended, hW, hsame⟩ := X45.leave (v := none) (fun _ => rfl)
  refine ⟨_, _, hG _ (pre48 _ (X45.returnOut hx Bd.returns (hb hby d7_89) hr)), hrun, hended, _, _, rfl, ?_, ⟨_, rfl⟩, hW, hsame.mono (by decide) (by decide)⟩
  show Qadd18 Z o0_ o1_ o2_ o3_ h0 n0 _ T45.heap _
  rw [e45]
  exact ⟨rfl, N46, f55, f56, f62, f47, f65, f67, f73, f75, f76, f82, f87, f92, f98, f104, f110, f114, f120⟩
theorem efremove20 (m : MethodId) (o0_ : Addr) (o1_ : Addr) : entryFrame m #[(.ref o0_), (.ref o1_)] 2 = mkF m 0 #[lvR o0_, lvR o1_] [] := by first | (simp [entryFrame, mkF, argsToLocals, Value.category]; done) | rfl
def Qremove20 (Z : State) (o0_ : Addr) (o1_ : Addr) (o2_ : Addr) (o3_ : Addr) (h0 : Heap) (n0 : Nat) (v : Option Value) (h : Heap) (L : List Loc) : Prop := v = some (.int (1 : Int32)) ∧ Fr n0 L ∧ Keep h0 h [o0_, o3_, o1_] ∧ Exa Z h o0_ "latchwork/WaitQueue" ∧ Fld Z h o0_ "latchwork/WaitQueue" "head" "Llatchwork/WaitQueue$Waiter;" (.ref o3_) ∧ Fld Z h o0_ "latchwork/WaitQueue" "size" "I" (.int (2 : Int32)) ∧ Fld Z h o0_ "latchwork/WaitQueue" "tail" "Llatchwork/WaitQueue$Waiter;" (.ref o2_) ∧ Exa Z h o1_ cn0 ∧ Fld Z h o1_ cn0 "thread" "Ljava/lang/Thread;" .null ∧ Fld Z h o1_ cn0 "picked" "Z" (.int (0 : Int32)) ∧ Fld Z h o1_ cn0 "queued" "Z" (.int (0 : Int32)) ∧ Fld Z h o1_ cn0 "next" "Llatchwork/WaitQueue$Waiter;" .null ∧ Fld Z h o1_ cn0 "prev" "Llatchwork/WaitQueue$Waiter;" .null ∧ Exa Z h o3_ cn0 ∧ Fld Z h o3_ cn0 "thread" "Ljava/lang/Thread;" .null ∧ Fld Z h o3_ cn0 "picked" "Z" (.int (0 : Int32)) ∧ Fld Z h o3_ cn0 "queued" "Z" (.int (1 : Int32)) ∧ Fld Z h o3_ cn0 "next" "Llatchwork/WaitQueue$Waiter;" (.ref o2_) ∧ Fld Z h o3_ cn0 "prev" "Llatchwork/WaitQueue$Waiter;" .null
set_option maxRecDepth 65536 in
set_option maxHeartbeats 40000000 in
theorem rmremove20 (l : Launch) (Z : State) (a0 : Array Value) (hw : ∀ d ∈ tables_1, d.before a0 Z = true) (ws : List Jvm.Cond) (o0_ : Addr) (o1_ : Addr) (o2_ : Addr) (o3_ : Addr) (h0 : Heap) (n0 : Nat) (O0 : Old Z n0 h0) (P0 : Exa Z h0 o0_ "latchwork/WaitQueue") (P1 : Fld Z h0 o0_ "latchwork/WaitQueue" "head" "Llatchwork/WaitQueue$Waiter;" (.ref o1_)) (P2 : Fld Z h0 o0_ "latchwork/WaitQueue" "size" "I" (.int (3 : Int32))) (P3 : Fld Z h0 o0_ "latchwork/WaitQueue" "tail" "Llatchwork/WaitQueue$Waiter;" (.ref o2_)) (P4 : Exa Z h0 o1_ cn0) (P5 : Fld Z h0 o1_ cn0 "thread" "Ljava/lang/Thread;" .null) (P6 : Fld Z h0 o1_ cn0 "picked" "Z" (.int (0 : Int32))) (P7 : Fld Z h0 o1_ cn0 "queued" "Z" (.int (1 : Int32))) (P8 : Fld Z h0 o1_ cn0 "next" "Llatchwork/WaitQueue$Waiter;" (.ref o3_)) (P9 : Fld Z h0 o1_ cn0 "prev" "Llatchwork/WaitQueue$Waiter;" .null) (P10 : Exa Z h0 o2_ cn0) (P11 : Fld Z h0 o2_ cn0 "thread" "Ljava/lang/Thread;" .null) (P12 : Fld Z h0 o2_ cn0 "picked" "Z" (.int (0 : Int32))) (P13 : Fld Z h0 o2_ cn0 "queued" "Z" (.int (1 : Int32))) (P14 : Fld Z h0 o2_ cn0 "next" "Llatchwork/WaitQueue$Waiter;" .null) (P15 : Fld Z h0 o2_ cn0 "prev" "Llatchwork/WaitQueue$Waiter;" (.ref o3_)) (P16 : Exa Z h0 o3_ cn0) (P17 : Fld Z h0 o3_ cn0 "thread" "Ljava/lang/Thread;" .null) (P18 : Fld Z h0 o3_ cn0 "picked" "Z" (.int (0 : Int32))) (P19 : Fld Z h0 o3_ cn0 "queued" "Z" (.int (1 : Int32))) (P20 : Fld Z h0 o3_ cn0 "next" "Llatchwork/WaitQueue$Waiter;" (.ref o2_)) (P21 : Fld Z h0 o3_ cn0 "prev" "Llatchwork/WaitQueue$Waiter;" (.ref o1_)) (P22 : n0 ≤ o0_) (P23 : o1_ ≠ o0_) (P24 : o3_ ≠ o0_) (P25 : n0 ≤ o3_) (P26 : o1_ ≠ o3_) (P27 : n0 ≤ o1_) :
    MetFree l (⟨"latchwork/WaitQueue", "remove", "(Llatchwork/WaitQueue$Waiter;)Z"⟩ : MethodName) (head1 (Jvm.Cond.code (⟨"latchwork/WaitQueue", "remove", "(Llatchwork/WaitQueue$Waiter;)Z"⟩ : MethodName) prog_8_method_9_code 2 (some .boolean) :: ws) ({ frames := 0, cells := 0, slots := 0, locals := 0 } : Room)) (fun a U => a = #[(.ref o0_), (.ref o1_)] ∧ Z.Warmed39 U.vm ∧ U.heap = h0) (fun _ _ _ _ _ => True) (fun _ U o U' => ∃ v L, o = .returned v ∧ Qremove20 Z o0_ o1_ o2_ o3_ h0 n0 v U'.heap L ∧ FrameEnd U o U' L ({ frames := 0, cells := 0, slots := 0, locals := 0 } : Room).cells ({ frames := 0, cells := 0, slots := 0, locals := 0 } : Room).slots) := by
  refine MetFree.of_bodySF (plainFor_of_name pn_0) hisR ?_
  intro p e s m args below meth c s₁ Bd hml0 hP hK
  obtain ⟨rfl, hZ, hh⟩ := hP
  have hx := Bd.exec
  have hby := Bd.bytes
  have hml : c.maxLocals = 2 := hml0
  have hown : s.vm.findClass "latchwork/WaitQueue" = some m.cls := findClass_of_methodNamed Bd.named
  have hnm := (name_of_methodNamed Bd.named Bd.method).1
  have X0 : Stand p l e ({ frames := 0, cells := 0, slots := 0, locals := 0 } : Room) s m #[(.ref o0_), (.ref o1_)] below meth c s₁ [] 0 0 := Stand.of_body Bd
  have e0 : s₁.heap = h0 := by rw [← hh, Bd.state]; rfl
  have N0 := Fr.nil n0
  obtain ⟨G, pre0, hG⟩ : ∃ G : State → Prop, (∀ t, own_S p e below m s₁ 0 #[lvR o0_, lvR o1_] [] t → G t) ∧ (∀ t, G t → Steps p.tables e below (s₁.setTop (entryFrame m #[(.ref o0_), (.ref o1_)] 2)) t) := ⟨fun t => Steps p.tables e below (s₁.setTop (entryFrame m #[(.ref o0_), (.ref o1_)] 2)) t, fun t k => castTop (efremove20 m o0_ o1_) k, fun _ k => k⟩
  have K0 : Keep h0 h0 [o0_, o3_, o1_] := Keep.refl _ _
  obtain ⟨T1, X1, e1, st1⟩ := own_getR X0 hx hZ hown (own_w hw 50 rfl) Via.refl e0 P7 (g := (mkF m 1 #[lvR o0_, lvR o1_] [(.ref o1_)])) rfl rfl (hb hby d8_1)
  obtain ⟨T2, X2, e2, st2⟩ := own_getR X1 hx hZ hown (own_w hw 54 rfl) Via.refl e1 P9 (g := (mkF m 10 #[lvR o0_, lvR o1_] [(.ref o1_)])) rfl rfl (hb hby d8_10)
  obtain ⟨T3, X3, e3, st3⟩ := own_getR X2 hx hZ hown (own_w hw 52 rfl) Via.refl e2 P8 (g := (mkF m 18 #[lvR o0_, lvR o1_] [(.ref o1_), (.ref o0_)])) rfl rfl (hb hby d8_18)
  obtain ⟨T4, h4, X4, e4, W4, st4⟩ := putF X3 hx hZ hown (host := "") (Or.inl (own_w hw 23 rfl)) Via.refl e3 P1 P0 (Or.inl (own_w hw 24 rfl)) (own_w hw 1 rfl) (ty := (.object "latchwork/WaitQueue$Waiter")) (by decide) rfl rfl (g := (mkF m 21 #[lvR o0_, lvR o1_] [(.ref o3_), (.ref o0_)])) rfl rfl (hb hby d8_21)
  have N5 := Fr.snoc X4 N0 P22
  have f6 : Fld Z h4 o0_ "latchwork/WaitQueue" "head" "Llatchwork/WaitQueue$Waiter;" (.ref o3_) := P1.same W4
  have f7 : Fld Z h4 o1_ cn0 "next" "Llatchwork/WaitQueue$Waiter;" (.ref o3_) := P8.other W4 (Or.inl P23)
  obtain ⟨T8, X8, e8, st8⟩ := own_getR X4 hx hZ hown (own_w hw 52 rfl) Via.refl e4 f7 (g := (mkF m 39 #[lvR o0_, lvR o1_] [(.ref o1_)])) rfl rfl (hb hby d8_39)
  obtain ⟨T9, X9, e9, st9⟩ := own_getR X8 hx hZ hown (own_w hw 52 rfl) Via.refl e8 f7 (g := (mkF m 57 #[lvR o0_, lvR o1_] [(.ref o1_)])) rfl rfl (hb hby d8_57)
  have f10 : Fld Z h4 o1_ cn0 "prev" "Llatchwork/WaitQueue$Waiter;" .null := P9.other W4 (Or.inl P23)
  obtain ⟨T11, X11, e11, st11⟩ := own_getR X9 hx hZ hown (own_w hw 54 rfl) Via.refl e9 f10 (g := (mkF m 61 #[lvR o0_, lvR o1_] [(.ref o1_), (.ref o3_)])) rfl rfl (hb hby d8_61)
  have f12 : Fld Z h4 o3_ cn0 "prev" "Llatchwork/WaitQueue$Waiter;" (.ref o1_) := P21.other W4 (Or.inl P24)
  have f13 : Exa Z h4 o3_ cn0 := P16.wr W4
  obtain ⟨T14, h14, X14, e14, W14, st14⟩ := own_putR X11 hx hZ hown (own_w hw 54 rfl) Via.refl e11 f12 f13 (own_w hw 55 rfl) (own_w hw 10 rfl) (ty := (.object "latchwork/WaitQueue$Waiter")) (by decide) rfl rfl (g := (mkF m 64 #[lvR o0_, lvR o1_] [.null, (.ref o3_)])) rfl rfl (hb hby d8_64)
  have N15 := Fr.snoc X14 N5 P25
  have f16 : Fld Z h14 o3_ cn0 "prev" "Llatchwork/WaitQueue$Waiter;" .null := f12.same W14
  have f17 : Fld Z h14 o1_ cn0 "prev" "Llatchwork/WaitQueue$Waiter;" .null := f10.other W14 (Or.inl P26)
  have f18 : Exa Z h4 o1_ cn0 := P4.wr W4
  have f19 : Exa Z h14 o1_ cn0 := f18.wr W14
  obtain ⟨T20, h20, X20, e20, W20, st20⟩ := own_putR X14 hx hZ hown (own_w hw 54 rfl) Via.refl e14 f17 f19 (own_w hw 55 rfl) (own_w hw 10 rfl) (ty := (.object "latchwork/WaitQueue$Waiter")) (by decide) rfl rfl (g := (mkF m 69 #[lvR o0_, lvR o1_] [.null, (.ref o1_)])) rfl rfl (hb hby d8_69)
  have N21 := Fr.snoc X20 N15 P27
  have f22 : Fld Z h20 o1_ cn0 "prev" "Llatchwork/WaitQueue$Waiter;" .null := f17.same W20
  have f23 : Fld Z h14 o1_ cn0 "next" "Llatchwork/WaitQueue$Waiter;" (.ref o3_) := f7.other W14 (Or.inl P26)
  have f24 : Fld Z h20 o1_ cn0 "next" "Llatchwork/WaitQueue$Waiter;" (.ref o3_) := f23.other W20 (Or.inr (slot_ne (Or.inl (own_w hw 53 rfl)) (Or.inl (own_w hw 55 rfl)) (by decide) (t := (.object "latchwork/WaitQueue$Waiter")) (t' := (.object "latchwork/WaitQueue$Waiter")) (by decide) (by decide)))
  have f25 : Exa Z h20 o1_ cn0 := f19.wr W20
  obtain ⟨T26, h26, X26, e26, W26, st26⟩ := own_putR X20 hx hZ hown (own_w hw 52 rfl) Via.refl e20 f24 f25 (own_w hw 53 rfl) (own_w hw 10 rfl) (ty := (.object "latchwork/WaitQueue$Waiter")) (by decide) rfl rfl (g := (mkF m 74 #[lvR o0_, lvR o1_] [.null, (.ref o1_)])) rfl rfl (hb hby d8_74)
  have N27 := Fr.snoc X26 N21 P27
  have f28 : Fld Z h26 o1_ cn0 "next" "Llatchwork/WaitQueue$Waiter;" .null := f24.same W26
  have f29 : Fld Z h4 o1_ cn0 "queued" "Z" (.int (1 : Int32)) := P7.other W4 (Or.inl P23)
  have f30 : Fld Z h14 o1_ cn0 "queued" "Z" (.int (1 : Int32)) := f29.other W14 (Or.inl P26)
  have f31 : Fld Z h20 o1_ cn0 "queued" "Z" (.int (1 : Int32)) := f30.other W20 (Or.inr (slot_ne (Or.inl (own_w hw 51 rfl)) (Or.inl (own_w hw 55 rfl)) (by decide) (t := .boolean) (t' := (.object "latchwork/WaitQueue$Waiter")) (by decide) (by decide)))
  have f32 : Fld Z h26 o1_ cn0 "queued" "Z" (.int (1 : Int32)) := f31.other W26 (Or.inr (slot_ne (Or.inl (own_w hw 51 rfl)) (Or.inl (own_w hw 53 rfl)) (by decide) (t := .boolean) (t' := (.object "latchwork/WaitQueue$Waiter")) (by decide) (by decide)))
  have f33 : Exa Z h26 o1_ cn0 := f25.wr W26
  obtain ⟨T34, h34, X34, e34, W34, st34⟩ := own_putR X26 hx hZ hown (own_w hw 50 rfl) Via.refl e26 f32 f33 (own_w hw 51 rfl) (own_w hw 10 rfl) (ty := .boolean) (by decide) rfl rfl (g := (mkF m 79 #[lvR o0_, lvR o1_] [(.int (0 : Int32)), (.ref o1_)])) rfl rfl (hb hby d8_79)
  have N35 := Fr.snoc X34 N27 P27
  have f36 : Fld Z h34 o1_ cn0 "queued" "Z" (.int (0 : Int32)) := f32.same W34
  have f37 : Fld Z h4 o0_ "latchwork/WaitQueue" "size" "I" (.int (3 : Int32)) := P2.other W4 (Or.inr (slot_ne (Or.inl (own_w hw 31 rfl)) (Or.inl (own_w hw 24 rfl)) (by decide) (t := .int) (t' := (.object "latchwork/WaitQueue$Waiter")) (by decide) (by decide)))
  have f38 : Fld Z h14 o0_ "latchwork/WaitQueue" "size" "I" (.int (3 : Int32)) := f37.other W14 (Or.inl (Ne.symm P24))
  have f39 : Fld Z h20 o0_ "latchwork/WaitQueue" "size" "I" (.int (3 : Int32)) := f38.other W20 (Or.inl (Ne.symm P23))
  have f40 : Fld Z h26 o0_ "latchwork/WaitQueue" "size" "I" (.int (3 : Int32)) := f39.other W26 (Or.inl (Ne.symm P23))
  have f41 : Fld Z h34 o0_ "latchwork/WaitQueue" "size" "I" (.int (3 : Int32)) := f40.other W34 (Or.inl (Ne.symm P23))
  obtain ⟨T42, X42, e42, st42⟩ := getF X34 hx hZ hown (host := "") (Or.inl (own_w hw 30 rfl)) Via.refl e34 f41 (g := (mkF m 84 #[lvR o0_, lvR o1_] [(.ref o0_), (.ref o0_)])) rfl rfl (hb hby d8_84)
  have f43 : Exa Z h4 o0_ "latchwork/WaitQueue" := P0.wr W4
  have f44 : Exa Z h14 o0_ "latchwork/WaitQueue" := f43.wr W14
  have f45 : Exa Z h20 o0_ "latchwork/WaitQueue" := f44.wr W20
  have f46 : Exa Z h26 o0_ "latchwork/WaitQueue" := f45.wr W26
  have f47 : Exa Z h34 o0_ "latchwork/WaitQueue" := f46.wr W34
  obtain ⟨T48, h48, X48, e48, W48, st48⟩ := putF X42 hx hZ hown (host := "") (Or.inl (own_w hw 30 rfl)) Via.refl e42 f41 f47 (Or.inl (own_w hw 31 rfl)) (own_w hw 1 rfl) (ty := .int) (by decide) rfl rfl (g := (mkF m 89 #[lvR o0_, lvR o1_] [(.int (2 : Int32)), (.ref o0_)])) rfl rfl (hb hby d8_89)
  have N49 := Fr.snoc X48 N35 P22
  have f50 : Fld Z h48 o0_ "latchwork/WaitQueue" "size" "I" (.int (2 : Int32)) := f41.same W48
  have pre51 : ∀ t, own_S p e below m T48 93 #[lvR o0_, lvR o1_] [(.int (1 : Int32))] t → G t := by
    intro t kt
    refine pre0 t ?_
    show own_S p e below m s₁ 0 #[lvR o0_, lvR o1_] [] _
    refine XS.aloadN X0.here hx rfl (hb hby d8_0) rfl rfl ?_
    show own_S p e below m s₁ 1 #[lvR o0_, lvR o1_] [(.ref o1_)] _
    refine st1 _ ?_
    show own_S p e below m T1 4 #[lvR o0_, lvR o1_] [(.int (1 : Int32))] _
    refine XS.ifYes X1.here hx rfl (pc0 := 4) (pc' := 9) rfl (hb hby d8_4) rfl ((if0 _ _).trans (feq (by decide : ¬ ((1 : Int32) = (0 : Int32)))).2) (by decide) (by decide) ?_
    refine XS.aloadN X1.here hx rfl (hb hby d8_9) rfl rfl ?_
    show own_S p e below m T1 10 #[lvR o0_, lvR o1_] [(.ref o1_)] _
    refine st2 _ ?_
    show own_S p e below m T2 13 #[lvR o0_, lvR o1_] [.null] _
    refine XS.ifnonnullNo X2.here hx rfl (hb hby d8_13) rfl ?_
    refine XS.aloadN X2.here hx rfl (hb hby d8_16) rfl rfl ?_
    refine XS.aloadN X2.here hx rfl (hb hby d8_17) rfl rfl ?_
    show own_S p e below m T2 18 #[lvR o0_, lvR o1_] [(.ref o1_), (.ref o0_)] _
    refine st3 _ ?_
    show own_S p e below m T3 21 #[lvR o0_, lvR o1_] [(.ref o3_), (.ref o0_)] _
    refine st4 _ ?_
    refine XS.goto X4.here hx rfl (pc0 := 24) (pc' := 38) rfl (hb hby d8_24) (by decide) (by decide) ?_
    refine XS.aloadN X4.here hx rfl (hb hby d8_38) rfl rfl ?_
    show own_S p e below m T4 39 #[lvR o0_, lvR o1_] [(.ref o1_)] _
    refine st8 _ ?_
    show own_S p e below m T8 42 #[lvR o0_, lvR o1_] [(.ref o3_)] _
    refine XS.ifnonnullYes X8.here hx rfl (pc0 := 42) (pc' := 56) rfl (hb hby d8_42) rfl (by decide) (by decide) ?_
    refine XS.aloadN X8.here hx rfl (hb hby d8_56) rfl rfl ?_
    show own_S p e below m T8 57 #[lvR o0_, lvR o1_] [(.ref o1_)] _
    refine st9 _ ?_
    refine XS.aloadN X9.here hx rfl (hb hby d8_60) rfl rfl ?_
    show own_S p e below m T9 61 #[lvR o0_, lvR o1_] [(.ref o1_), (.ref o3_)] _
    refine st11 _ ?_
    show own_S p e below m T11 64 #[lvR o0_, lvR o1_] [.null, (.ref o3_)] _
    refine st14 _ ?_
    refine XS.aloadN X14.here hx rfl (hb hby d8_67) rfl rfl ?_
    refine XS.aconstNull X14.here hx rfl (hb hby d8_68) ?_
    show own_S p e below m T14 69 #[lvR o0_, lvR o1_] [.null, (.ref o1_)] _
    refine st20 _ ?_
    refine XS.aloadN X20.here hx rfl (hb hby d8_72) rfl rfl ?_
    refine XS.aconstNull X20.here hx rfl (hb hby d8_73) ?_
    show own_S p e below m T20 74 #[lvR o0_, lvR o1_] [.null, (.ref o1_)] _
    refine st26 _ ?_
    refine XS.aloadN X26.here hx rfl (hb hby d8_77) rfl rfl ?_
    refine XS.iconst X26.here hx rfl (hb hby d8_78) ?_
    show own_S p e below m T26 79 #[lvR o0_, lvR o1_] [(.int (0 : Int32)), (.ref o1_)] _
    refine st34 _ ?_
    refine XS.aloadN X34.here hx rfl (hb hby d8_82) rfl rfl ?_
    refine XS.dup X34.here hx rfl (hb hby d8_83) rfl rfl ?_
    show own_S p e below m T34 84 #[lvR o0_, lvR o1_] [(.ref o0_), (.ref o0_)] _
    refine st42 _ ?_
    refine XS.iconst X42.here hx rfl (hb hby d8_87) ?_
    refine XS.isub X42.here hx rfl (hb hby d8_88) rfl ?_
    show own_S p e below m T42 89 #[lvR o0_, lvR o1_] [(.int (2 : Int32)), (.ref o0_)] _
    refine st48 _ ?_
    refine XS.iconst X48.here hx rfl (hb hby d8_92) ?_
    exact kt
  have f53 : Keep h0 h4 [o0_, o3_, o1_] := K0.wr W4 (Or.inl (List.mem_of_getElem? (i := 0) rfl))
  have f54 : Keep h0 h14 [o0_, o3_, o1_] := f53.wr W14 (Or.inl (List.mem_of_getElem? (i := 1) rfl))
  have f55 : Keep h0 h20 [o0_, o3_, o1_] := f54.wr W20 (Or.inl (List.mem_of_getElem? (i := 2) rfl))
  have f56 : Keep h0 h26 [o0_, o3_, o1_] := f55.wr W26 (Or.inl (List.mem_of_getElem? (i := 2) rfl))
  have f57 : Keep h0 h34 [o0_, o3_, o1_] := f56.wr W34 (Or.inl (List.mem_of_getElem? (i := 2) rfl))
  have f58 : Keep h0 h48 [o0_, o3_, o1_] := f57.wr W48 (Or.inl (List.mem_of_getElem? (i := 0) rfl))
  have f59 : Exa Z h48 o0_ "latchwork/WaitQueue" := f47.wr W48
  have f60 : Fld Z h14 o0_ "latchwork/WaitQueue" "head" "Llatchwork/WaitQueue$Waiter;" (.ref o3_) := f6.other W14 (Or.inl (Ne.symm P24))
  have f61 : Fld Z h20 o0_ "latchwork/WaitQueue" "head" "Llatchwork/WaitQueue$Waiter;" (.ref o3_) := f60.other W20 (Or.inl (Ne.symm P23))
  have f62 : Fld Z h26 o0_ "latchwork/WaitQueue" "head" "Llatchwork/WaitQueue$Waiter;" (.ref o3_) := f61.other W26 (Or.inl (Ne.symm P23))
  have f63 : Fld Z h34 o0_ "latchwork/WaitQueue" "head" "Llatchwork/WaitQueue$Waiter;" (.ref o3_) := f62.other W34 (Or.inl (Ne.symm P23))
  have f64 : Fld Z h48 o0_ "latchwork/WaitQueue" "head" "Llatchwork/WaitQueue$Waiter;" (.ref o3_) := f63.other W48 (Or.inr (slot_ne (Or.inl (own_w hw 24 rfl)) (Or.inl (own_w hw 31 rfl)) (by decide) (t := (.object "latchwork/WaitQueue$Waiter")) (t' := .int) (by decide) (by decide)))
  have f65 : Fld Z h4 o0_ "latchwork/WaitQueue" "tail" "Llatchwork/WaitQueue$Waiter;" (.ref o2_) := P3.other W4 (Or.inr (slot_ne (Or.inl (own_w hw 47 rfl)) (Or.inl (own_w hw 24 rfl)) (by decide) (t := (.object "latchwork/WaitQueue$Waiter")) (t' := (.object "latchwork/WaitQueue$Waiter")) (by decide) (by decide)))
  have f66 : Fld Z h14 o0_ "latchwork/WaitQueue" "tail" "Llatchwork/WaitQueue$Waiter;" (.ref o2_) := f65.other W14 (Or.inl (Ne.symm P24))
  have f67 : Fld Z h20 o0_ "latchwork/WaitQueue" "tail" "Llatchwork/WaitQueue$Waiter;" (.ref o2_) := f66.other W20 (Or.inl (Ne.symm P23))
  have f68 : Fld Z h26 o0_ "latchwork/WaitQueue" "tail" "Llatchwork/WaitQueue$Waiter;" (.ref o2_) := f67.other W26 (Or.inl (Ne.symm P23))
  have f69 : Fld Z h34 o0_ "latchwork/WaitQueue" "tail" "Llatchwork/WaitQueue$Waiter;" (.ref o2_) := f68.other W34 (Or.inl (Ne.symm P23))
  have f70 : Fld Z h48 o0_ "latchwork/WaitQueue" "tail" "Llatchwork/WaitQueue$Waiter;" (.ref o2_) := f69.other W48 (Or.inr (slot_ne (Or.inl (own_w hw 47 rfl)) (Or.inl (own_w hw 31 rfl)) (by decide) (t := (.object "latchwork/WaitQueue$Waiter")) (t' := .int) (by decide) (by decide)))
  have f71 : Exa Z h34 o1_ cn0 := f33.wr W34
  have f72 : Exa Z h48 o1_ cn0 := f71.wr W48
  have f73 : Fld Z h4 o1_ cn0 "thread" "Ljava/lang/Thread;" .null := P5.other W4 (Or.inl P23)
  have f74 : Fld Z h14 o1_ cn0 "thread" "Ljava/lang/Thread;" .null := f73.other W14 (Or.inl P26)
  have f75 : Fld Z h20 o1_ cn0 "thread" "Ljava/lang/Thread;" .null := f74.other W20 (Or.inr (slot_ne (Or.inr (own_w hw 17 rfl)) (Or.inl (own_w hw 55 rfl)) (by decide) (t := (.object "java/lang/Thread")) (t' := (.object "latchwork/WaitQueue$Waiter")) (by decide) (by decide)))
  have f76 : Fld Z h26 o1_ cn0 "thread" "Ljava/lang/Thread;" .null := f75.other W26 (Or.inr (slot_ne (Or.inr (own_w hw 17 rfl)) (Or.inl (own_w hw 53 rfl)) (by decide) (t := (.object "java/lang/Thread")) (t' := (.object "latchwork/WaitQueue$Waiter")) (by decide) (by decide)))
  have f77 : Fld Z h34 o1_ cn0 "thread" "Ljava/lang/Thread;" .null := f76.other W34 (Or.inr (slot_ne (Or.inr (own_w hw 17 rfl)) (Or.inl (own_w hw 51 rfl)) (by decide) (t := (.object "java/lang/Thread")) (t' := .boolean) (by decide) (by decide)))
  have f78 : Fld Z h48 o1_ cn0 "thread" "Ljava/lang/Thread;" .null := f77.other W48 (Or.inl P23)
  have f79 : Fld Z h4 o1_ cn0 "picked" "Z" (.int (0 : Int32)) := P6.other W4 (Or.inl P23)
  have f80 : Fld Z h14 o1_ cn0 "picked" "Z" (.int (0 : Int32)) := f79.other W14 (Or.inl P26)
  have f81 : Fld Z h20 o1_ cn0 "picked" "Z" (.int (0 : Int32)) := f80.other W20 (Or.inr (slot_ne (Or.inl (own_w hw 49 rfl)) (Or.inl (own_w hw 55 rfl)) (by decide) (t := .boolean) (t' := (.object "latchwork/WaitQueue$Waiter")) (by decide) (by decide)))
  have f82 : Fld Z h26 o1_ cn0 "picked" "Z" (.int (0 : Int32)) := f81.other W26 (Or.inr (slot_ne (Or.inl (own_w hw 49 rfl)) (Or.inl (own_w hw 53 rfl)) (by decide) (t := .boolean) (t' := (.object "latchwork/WaitQueue$Waiter")) (by decide) (by decide)))
  have f83 : Fld Z h34 o1_ cn0 "picked" "Z" (.int (0 : Int32)) := f82.other W34 (Or.inr (slot_ne (Or.inl (own_w hw 49 rfl)) (Or.inl (own_w hw 51 rfl)) (by decide) (t := .boolean) (t' := .boolean) (by decide) (by decide)))
  have f84 : Fld Z h48 o1_ cn0 "picked" "Z" (.int (0 : Int32)) := f83.other W48 (Or.inl P23)
  have f85 : Fld Z h48 o1_ cn0 "queued" "Z" (.int (0 : Int32)) := f36.other W48 (Or.inl P23)
  have f86 : Fld Z h34 o1_ cn0 "next" "Llatchwork/WaitQueue$Waiter;" .null := f28.other W34 (Or.inr (slot_ne (Or.inl (own_w hw 53 rfl)) (Or.inl (own_w hw 51 rfl)) (by decide) (t := (.object "latchwork/WaitQueue$Waiter")) (t' := .boolean) (by decide) (by decide)))
  have f87 : Fld Z h48 o1_ cn0 "next" "Llatchwork/WaitQueue$Waiter;" .null := f86.other W48 (Or.inl P23)
  have f88 : Fld Z h26 o1_ cn0 "prev" "Llatchwork/WaitQueue$Waiter;" .null := f22.other W26 (Or.inr (slot_ne (Or.inl (own_w hw 55 rfl)) (Or.inl (own_w hw 53 rfl)) (by decide) (t := (.object "latchwork/WaitQueue$Waiter")) (t' := (.object "latchwork/WaitQueue$Waiter")) (by decide) (by decide)))
  have f89 : Fld Z h34 o1_ cn0 "prev" "Llatchwork/WaitQueue$Waiter;" .null := f88.other W34 (Or.inr (slot_ne (Or.inl (own_w hw 55 rfl)) (Or.inl (own_w hw 51 rfl)) (by decide) (t := (.object "latchwork/WaitQueue$Waiter")) (t' := .boolean) (by decide) (by decide)))
  have f90 : Fld Z h48 o1_ cn0 "prev" "Llatchwork/WaitQueue$Waiter;" .null := f89.other W48 (Or.inl P23)
  have f91 : Exa Z h14 o3_ cn0 := f13.wr W14
  have f92 : Exa Z h20 o3_ cn0 := f91.wr W20
  have f93 : Exa Z h26 o3_ cn0 := f92.wr W26
  have f94 : Exa Z h34 o3_ cn0 := f93.wr W34
  have f95 : Exa Z h48 o3_ cn0 := f94.wr W48
  have f96 : Fld Z h4 o3_ cn0 "thread" "Ljava/lang/Thread;" .null := P17.other W4 (Or.inl P24)
  have f97 : Fld Z h14 o3_ cn0 "thread" "Ljava/lang/Thread;" .null := f96.other W14 (Or.inr (slot_ne (Or.inr (own_w hw 17 rfl)) (Or.inl (own_w hw 55 rfl)) (by decide) (t := (.object "java/lang/Thread")) (t' := (.object "latchwork/WaitQueue$Waiter")) (by decide) (by decide)))
  have f98 : Fld Z h20 o3_ cn0 "thread" "Ljava/lang/Thread;" .null := f97.other W20 (Or.inl (Ne.symm P26))
  have f99 : Fld Z h26 o3_ cn0 "thread" "Ljava/lang/Thread;" .null := f98.other W26 (Or.inl (Ne.symm P26))
  have f100 : Fld Z h34 o3_ cn0 "thread" "Ljava/lang/Thread;" .null := f99.other W34 (Or.inl (Ne.symm P26))
  have f101 : Fld Z h48 o3_ cn0 "thread" "Ljava/lang/Thread;" .null := f100.other W48 (Or.inl P24)
  have f102 : Fld Z h4 o3_ cn0 "picked" "Z" (.int (0 : Int32)) := P18.other W4 (Or.inl P24)
  have f103 : Fld Z h14 o3_ cn0 "picked" "Z" (.int (0 : Int32)) := f102.other W14 (Or.inr (slot_ne (Or.inl (own_w hw 49 rfl)) (Or.inl (own_w hw 55 rfl)) (by decide) (t := .boolean) (t' := (.object "latchwork/WaitQueue$Waiter")) (by decide) (by decide)))
  have f104 : Fld Z h20 o3_ cn0 "picked" "Z" (.int (0 : Int32)) := f103.other W20 (Or.inl (Ne.symm P26))
  have f105 : Fld Z h26 o3_ cn0 "picked" "Z" (.int (0 : Int32)) := f104.other W26 (Or.inl (Ne.symm P26))
  have f106 : Fld Z h34 o3_ cn0 "picked" "Z" (.int (0 : Int32)) := f105.other W34 (Or.inl (Ne.symm P26))
  have f107 : Fld Z h48 o3_ cn0 "picked" "Z" (.int (0 : Int32)) := f106.other W48 (Or.inl P24)
  have f108 : Fld Z h4 o3_ cn0 "queued" "Z" (.int (1 : Int32)) := P19.other W4 (Or.inl P24)
  have f109 : Fld Z h14 o3_ cn0 "queued" "Z" (.int (1 : Int32)) := f108.other W14 (Or.inr (slot_ne (Or.inl (own_w hw 51 rfl)) (Or.inl (own_w hw 55 rfl)) (by decide) (t := .boolean) (t' := (.object "latchwork/WaitQueue$Waiter")) (by decide) (by decide)))
  have f110 : Fld Z h20 o3_ cn0 "queued" "Z" (.int (1 : Int32)) := f109.other W20 (Or.inl (Ne.symm P26))
  have f111 : Fld Z h26 o3_ cn0 "queued" "Z" (.int (1 : Int32)) := f110.other W26 (Or.inl (Ne.symm P26))
  have f112 : Fld Z h34 o3_ cn0 "queued" "Z" (.int (1 : Int32)) := f111.other W34 (Or.inl (Ne.symm P26))
  have f113 : Fld Z h48 o3_ cn0 "queued" "Z" (.int (1 : Int32)) := f112.other W48 (Or.inl P24)
  have f114 : Fld Z h4 o3_ cn0 "next" "Llatchwork/WaitQueue$Waiter;" (.ref o2_) := P20.other W4 (Or.inl P24)
  have f115 : Fld Z h14 o3_ cn0 "next" "Llatchwork/WaitQueue$Waiter;" (.ref o2_) := f114.other W14 (Or.inr (slot_ne (Or.inl (own_w hw 53 rfl)) (Or.inl (own_w hw 55 rfl)) (by decide) (t := (.object "latchwork/WaitQueue$Waiter")) (t' := (.object "latchwork/WaitQueue$Waiter")) (by decide) (by decide)))
  have f116 : Fld Z h20 o3_ cn0 "next" "Llatchwork/WaitQueue$Waiter;" (.ref o2_) := f115.other W20 (Or.inl (Ne.symm P26))
  have f117 : Fld Z h26 o3_ cn0 "next" "Llatchwork/WaitQueue$Waiter;" (.ref o2_) := f116.other W26 (Or.inl (Ne.symm P26))
  have f118 : Fld Z h34 o3_ cn0 "next" "Llatchwork/WaitQueue$Waiter;" (.ref o2_) := f117.other W34 (Or.inl (Ne.symm P26))
  have f119 : Fld Z h48 o3_ cn0 "next" "Llatchwork/WaitQueue$Waiter;" (.ref o2_) := f118.other W48 (Or.inl P24)
  have f120 : Fld Z h20 o3_ cn0 "prev" "Llatchwork/WaitQueue$Waiter;" .null := f16.other W20 (Or.inl (Ne.symm P26))
  have f121 : Fld Z h26 o3_ cn0 "prev" "Llatchwork/WaitQueue$Waiter;" .null := f120.other W26 (Or.inl (Ne.symm P26))
  have f122 : Fld Z h34 o3_ cn0 "prev" "Llatchwork/WaitQueue$Waiter;" .null := f121.other W34 (Or.inl (Ne.symm P26))
  have f123 : Fld Z h48 o3_ cn0 "prev" "Llatchwork/WaitQueue$Waiter;" .null := f122.other W48 (Or.inl P24)
  obtain ⟨fs, hr, hrun, hended, hW, hsame⟩ := X48.leave (v := some (.int (1 : Int32))) (fun h => by rw [Bd.returns] at h; cases h)
  refine ⟨_, _, hG _ (pre51 _ (retN X48 hx (t := .boolean) Bd.returns (by simp) (hb hby d8_93) hr)), hrun, hended, _, _, rfl, ?_, ⟨_, rfl⟩, hW, hsame.mono (by decide) (by decide)⟩
  show Qremove20 Z o0_ o1_ o2_ o3_ h0 n0 _ T48.heap _
  rw [e48]
  exact ⟨rfl, N49, f58, f59, f64, f50, f70, f72, f78, f84, f85, f87, f90, f95, f101, f107, f113, f119, f123⟩
theorem efpoll19 (m : MethodId) (o0_ : Addr) : entryFrame m #[(.ref o0_)] 2 = mkF m 0 #[lvR o0_, .unset] [] := by first | (simp [entryFrame, mkF, argsToLocals, Value.category]; done) | rfl
def Qpoll19 (Z : State) (o0_ : Addr) (o1_ : Addr) (o2_ : Addr) (o3_ : Addr) (h0 : Heap) (n0 : Nat) (v : Option Value) (h : Heap) (L : List Loc) : Prop := v = some (.ref o1_) ∧ Fr n0 L ∧ Keep h0 h [o0_, o3_, o1_] ∧ Exa Z h o0_ "latchwork/WaitQueue" ∧ Fld Z h o0_ "latchwork/WaitQueue" "head" "Llatchwork/WaitQueue$Waiter;" (.ref o3_) ∧ Fld Z h o0_ "latchwork/WaitQueue" "size" "I" (.int (2 : Int32)) ∧ Fld Z h o0_ "latchwork/WaitQueue" "tail" "Llatchwork/WaitQueue$Waiter;" (.ref o2_) ∧ Exa Z h o1_ cn0 ∧ Fld Z h o1_ cn0 "thread" "Ljava/lang/Thread;" .null ∧ Fld Z h o1_ cn0 "picked" "Z" (.int (0 : Int32)) ∧ Fld Z h o1_ cn0 "queued" "Z" (.int (0 : Int32)) ∧ Fld Z h o1_ cn0 "next" "Llatchwork/WaitQueue$Waiter;" .null ∧ Fld Z h o1_ cn0 "prev" "Llatchwork/WaitQueue$Waiter;" .null ∧ Exa Z h o3_ cn0 ∧ Fld Z h o3_ cn0 "thread" "Ljava/lang/Thread;" .null ∧ Fld Z h o3_ cn0 "picked" "Z" (.int (0 : Int32)) ∧ Fld Z h o3_ cn0 "queued" "Z" (.int (1 : Int32)) ∧ Fld Z h o3_ cn0 "next" "Llatchwork/WaitQueue$Waiter;" (.ref o2_) ∧ Fld Z h o3_ cn0 "prev" "Llatchwork/WaitQueue$Waiter;" .null
set_option maxRecDepth 65536 in
set_option maxHeartbeats 40000000 in
theorem rmpoll19 (l : Launch) (Z : State) (a0 : Array Value) (hw : ∀ d ∈ tables_1, d.before a0 Z = true) (ws : List Jvm.Cond) (o0_ : Addr) (o1_ : Addr) (o2_ : Addr) (o3_ : Addr) (h0 : Heap) (n0 : Nat) (O0 : Old Z n0 h0) (P0 : Exa Z h0 o0_ "latchwork/WaitQueue") (P1 : Fld Z h0 o0_ "latchwork/WaitQueue" "head" "Llatchwork/WaitQueue$Waiter;" (.ref o1_)) (P2 : Fld Z h0 o0_ "latchwork/WaitQueue" "size" "I" (.int (3 : Int32))) (P3 : Fld Z h0 o0_ "latchwork/WaitQueue" "tail" "Llatchwork/WaitQueue$Waiter;" (.ref o2_)) (P4 : Exa Z h0 o1_ cn0) (P5 : Fld Z h0 o1_ cn0 "thread" "Ljava/lang/Thread;" .null) (P6 : Fld Z h0 o1_ cn0 "picked" "Z" (.int (0 : Int32))) (P7 : Fld Z h0 o1_ cn0 "queued" "Z" (.int (1 : Int32))) (P8 : Fld Z h0 o1_ cn0 "next" "Llatchwork/WaitQueue$Waiter;" (.ref o3_)) (P9 : Fld Z h0 o1_ cn0 "prev" "Llatchwork/WaitQueue$Waiter;" .null) (P10 : Exa Z h0 o2_ cn0) (P11 : Fld Z h0 o2_ cn0 "thread" "Ljava/lang/Thread;" .null) (P12 : Fld Z h0 o2_ cn0 "picked" "Z" (.int (0 : Int32))) (P13 : Fld Z h0 o2_ cn0 "queued" "Z" (.int (1 : Int32))) (P14 : Fld Z h0 o2_ cn0 "next" "Llatchwork/WaitQueue$Waiter;" .null) (P15 : Fld Z h0 o2_ cn0 "prev" "Llatchwork/WaitQueue$Waiter;" (.ref o3_)) (P16 : Exa Z h0 o3_ cn0) (P17 : Fld Z h0 o3_ cn0 "thread" "Ljava/lang/Thread;" .null) (P18 : Fld Z h0 o3_ cn0 "picked" "Z" (.int (0 : Int32))) (P19 : Fld Z h0 o3_ cn0 "queued" "Z" (.int (1 : Int32))) (P20 : Fld Z h0 o3_ cn0 "next" "Llatchwork/WaitQueue$Waiter;" (.ref o2_)) (P21 : Fld Z h0 o3_ cn0 "prev" "Llatchwork/WaitQueue$Waiter;" (.ref o1_)) (P22 : n0 ≤ o0_) (P23 : o1_ ≠ o0_) (P24 : o3_ ≠ o0_) (P25 : n0 ≤ o3_) (P26 : o1_ ≠ o3_) (P27 : n0 ≤ o1_) :
    MetFree l (⟨"latchwork/WaitQueue", "poll", "()Llatchwork/WaitQueue$Waiter;"⟩ : MethodName) (head1 (Jvm.Cond.code (⟨"latchwork/WaitQueue", "poll", "()Llatchwork/WaitQueue$Waiter;"⟩ : MethodName) prog_8_method_8_code 2 (some (.object "latchwork/WaitQueue$Waiter")) :: ws) ({ frames := 1, cells := 0, slots := 0, locals := 13 } : Room)) (fun a U => a = #[(.ref o0_)] ∧ Z.Warmed39 U.vm ∧ U.heap = h0) (fun _ _ _ _ _ => True) (fun _ U o U' => ∃ v L, o = .returned v ∧ Qpoll19 Z o0_ o1_ o2_ o3_ h0 n0 v U'.heap L ∧ FrameEnd U o U' L ({ frames := 1, cells := 0, slots := 0, locals := 13 } : Room).cells ({ frames := 1, cells := 0, slots := 0, locals := 13 } : Room).slots) := by
  refine MetFree.of_bodySF (plainFor_of_name pn_0) hisR ?_
  intro p e s m args below meth c s₁ Bd hml0 hP hK
  obtain ⟨rfl, hZ, hh⟩ := hP
  have hx := Bd.exec
  have hby := Bd.bytes
  have hml : c.maxLocals = 2 := hml0
  have hown : s.vm.findClass "latchwork/WaitQueue" = some m.cls := findClass_of_methodNamed Bd.named
  have hnm := (name_of_methodNamed Bd.named Bd.method).1
  have X0 : Stand p l e ({ frames := 1, cells := 0, slots := 0, locals := 13 } : Room) s m #[(.ref o0_)] below meth c s₁ [] 0 0 := Stand.of_body Bd
  have e0 : s₁.heap = h0 := by rw [← hh, Bd.state]; rfl
  have N0 := Fr.nil n0
  obtain ⟨G, pre0, hG⟩ : ∃ G : State → Prop, (∀ t, own_S p e below m s₁ 0 #[lvR o0_, .unset] [] t → G t) ∧ (∀ t, G t → Steps p.tables e below (s₁.setTop (entryFrame m #[(.ref o0_)] 2)) t) := ⟨fun t => Steps p.tables e below (s₁.setTop (entryFrame m #[(.ref o0_)] 2)) t, fun t k => castTop (efpoll19 m o0_) k, fun _ k => k⟩
  have K0 : Keep h0 h0 [o0_, o3_, o1_] := Keep.refl _ _
  obtain ⟨T1, X1, e1, st1⟩ := getF X0 hx hZ hown (host := "") (Or.inl (own_w hw 23 rfl)) Via.refl e0 P1 (g := (mkF m 1 #[lvR o0_, .unset] [(.ref o0_)])) rfl rfl (hb hby d3_1)
  obtain ⟨cq2, kq2, q2a, q2b, q2c⟩ := isOf hZ e1 P0
  obtain ⟨_, _, ⟨T2, L2, k2, n2⟩, -, X2, ⟨Lc2, hQ2, l2, y2, z2⟩, st2⟩ := X1.virtualBack hx (y := (⟨"latchwork/WaitQueue", "remove", "(Llatchwork/WaitQueue$Waiter;)Z"⟩ : MethodName)) (z := (⟨"latchwork/WaitQueue", "remove", "(Llatchwork/WaitQueue$Waiter;)Z"⟩ : MethodName)) hown (mvT hZ (own_w hw 56 rfl)) (mvT hZ (own_w hw 57 rfl)) (notFace_of_selects (args := #[]) (mvT hZ (own_w hw 59 rfl))) (mvT hZ (own_w hw 59 rfl)) (mvT hZ (own_w hw 58 rfl)) (by decide) (backOf (W := 0) (rmremove20 l Z a0 hw [] o0_ o1_ o2_ o3_ h0 n0 O0 P0 P1 P2 P3 P4 P5 P6 P7 P8 P9 P10 P11 P12 P13 P14 P15 P16 P17 P18 P19 P20 P21 P22 P23 P24 P25 P26 P27) hZ (own_w hw 60 rfl) (own_w hw 2 rfl) (by decide) (by decide)) q2a q2c (g := (mkF m 11 #[lvR o0_, lvR o1_] [(.ref o1_), (.ref o0_)])) rfl (by rw [hml]; rfl) (Steps.refl _) (argsL := [(.ref o1_)]) (rest := []) (lenOf pd_6 rfl) rfl (by show 2 * 0 + _ ≤ _; exact Nat.le_of_eq rfl) (hb hby d3_11) (fun _ _ => ⟨rfl, e1, (by decide : 0 + 0 ≤ _), (by decide : 0 + 0 ≤ _)⟩)
  dsimp only [Pt.U, Pt.locs, Pt.cells, Pt.slots] at X2 l2 y2 z2 st2 hQ2
  subst l2 y2 z2
  obtain ⟨h2, e2⟩ : ∃ z, T2.heap = z := ⟨_, rfl⟩
  rw [e2] at hQ2
  obtain ⟨rfl, N2q, K2, g2_0, g2_1, g2_2, g2_3, g2_4, g2_5, g2_6, g2_7, g2_8, g2_9, g2_10, g2_11, g2_12, g2_13, g2_14, g2_15⟩ := hQ2
  have N3 := Fr.app N0 N2q
  have pre4 : ∀ t, own_S p e below m T2 16 #[lvR o0_, lvR o1_] [(.ref o1_)] t → G t := by
    intro t kt
    refine pre0 t ?_
    show own_S p e below m s₁ 0 #[lvR o0_, .unset] [] _
    refine XS.aloadN X0.here hx rfl (hb hby d3_0) rfl rfl ?_
    show own_S p e below m s₁ 1 #[lvR o0_, .unset] [(.ref o0_)] _
    refine st1 _ ?_
    refine XS.astoreN X1.here hx rfl (hb hby d3_4) rfl rfl (l' := #[lvR o0_, lvR o1_]) rfl ?_
    refine XS.aloadN X1.here hx rfl (hb hby d3_5) rfl rfl ?_
    show own_S p e below m T1 6 #[lvR o0_, lvR o1_] [(.ref o1_)] _
    refine XS.ifnullNo X1.here hx rfl (hb hby d3_6) rfl ?_
    refine XS.aloadN X1.here hx rfl (hb hby d3_9) rfl rfl ?_
    refine XS.aloadN X1.here hx rfl (hb hby d3_10) rfl rfl ?_
    show own_S p e below m T1 11 #[lvR o0_, lvR o1_] [(.ref o1_), (.ref o0_)] _
    refine st2.trans ?_
    refine XS.pop X2.here hx rfl (hb hby d3_14) rfl rfl ?_
    refine XS.aloadN X2.here hx rfl (hb hby d3_15) rfl rfl ?_
    exact kt
  have f6 : Keep h0 h2 [o0_, o3_, o1_] := K0.trans K2 (allS (Or.inl (List.mem_of_getElem? (i := 0) rfl)) (allS (Or.inl (List.mem_of_getElem? (i := 1) rfl)) (allS (Or.inl (List.mem_of_getElem? (i := 2) rfl)) all0)))
  obtain ⟨fs, hr, hrun, hended, hW, hsame⟩ := X2.leave (v := some (.ref o1_)) (fun h => by rw [Bd.returns] at h; cases h)
  refine ⟨_, _, hG _ (pre4 _ (retOut X2 hx Bd.returns rfl (Or.inr (Or.inr (Or.inr (Or.inr ⟨rfl, rfl, rfl⟩)))) (hb hby d3_16) hr)), hrun, hended, _, _, rfl, ?_, ⟨_, rfl⟩, hW, hsame.mono (by decide) (by decide)⟩
  show Qpoll19 Z o0_ o1_ o2_ o3_ h0 n0 _ T2.heap _
  rw [e2]
  exact ⟨rfl, N3, f6, g2_0, g2_1, g2_2, g2_3, g2_4, g2_5, g2_6, g2_7, g2_8, g2_9, g2_10, g2_11, g2_12, g2_13, g2_14, g2_15⟩
theorem efsize21 (m : MethodId) (o0_ : Addr) : entryFrame m #[(.ref o0_)] 1 = mkF m 0 #[lvR o0_] [] := by first | (simp [entryFrame, mkF, argsToLocals, Value.category]; done) | rfl
def Qsize21 (Z : State) (o0_ : Addr) (o1_ : Addr) (o2_ : Addr) (h0 : Heap) (n0 : Nat) (v : Option Value) (h : Heap) (L : List Loc) : Prop := v = some (.int (2 : Int32)) ∧ Fr n0 L ∧ h = h0
set_option maxRecDepth 65536 in
set_option maxHeartbeats 40000000 in
theorem rmsize21 (l : Launch) (Z : State) (a0 : Array Value) (hw : ∀ d ∈ tables_1, d.before a0 Z = true) (ws : List Jvm.Cond) (o0_ : Addr) (o1_ : Addr) (o2_ : Addr) (h0 : Heap) (n0 : Nat) (O0 : Old Z n0 h0) (P0 : Exa Z h0 o0_ "latchwork/WaitQueue") (P1 : Fld Z h0 o0_ "latchwork/WaitQueue" "head" "Llatchwork/WaitQueue$Waiter;" (.ref o1_)) (P2 : Fld Z h0 o0_ "latchwork/WaitQueue" "size" "I" (.int (2 : Int32))) (P3 : Fld Z h0 o0_ "latchwork/WaitQueue" "tail" "Llatchwork/WaitQueue$Waiter;" (.ref o2_)) (P4 : Exa Z h0 o1_ cn0) (P5 : Fld Z h0 o1_ cn0 "thread" "Ljava/lang/Thread;" .null) (P6 : Fld Z h0 o1_ cn0 "picked" "Z" (.int (0 : Int32))) (P7 : Fld Z h0 o1_ cn0 "queued" "Z" (.int (1 : Int32))) (P8 : Fld Z h0 o1_ cn0 "next" "Llatchwork/WaitQueue$Waiter;" (.ref o2_)) (P9 : Fld Z h0 o1_ cn0 "prev" "Llatchwork/WaitQueue$Waiter;" .null) (P10 : Exa Z h0 o2_ cn0) (P11 : Fld Z h0 o2_ cn0 "thread" "Ljava/lang/Thread;" .null) (P12 : Fld Z h0 o2_ cn0 "picked" "Z" (.int (0 : Int32))) (P13 : Fld Z h0 o2_ cn0 "queued" "Z" (.int (1 : Int32))) (P14 : Fld Z h0 o2_ cn0 "next" "Llatchwork/WaitQueue$Waiter;" .null) (P15 : Fld Z h0 o2_ cn0 "prev" "Llatchwork/WaitQueue$Waiter;" (.ref o1_)) :
    MetFree l (⟨"latchwork/WaitQueue", "size", "()I"⟩ : MethodName) (head1 (Jvm.Cond.code (⟨"latchwork/WaitQueue", "size", "()I"⟩ : MethodName) prog_8_method_4_code 1 (some .int) :: ws) ({ frames := 0, cells := 0, slots := 0, locals := 0 } : Room)) (fun a U => a = #[(.ref o0_)] ∧ Z.Warmed39 U.vm ∧ U.heap = h0) (fun _ _ _ _ _ => True) (fun _ U o U' => ∃ v L, o = .returned v ∧ Qsize21 Z o0_ o1_ o2_ h0 n0 v U'.heap L ∧ FrameEnd U o U' L ({ frames := 0, cells := 0, slots := 0, locals := 0 } : Room).cells ({ frames := 0, cells := 0, slots := 0, locals := 0 } : Room).slots) := by
  refine MetFree.of_bodySF (plainFor_of_name pn_0) hisR ?_
  intro p e s m args below meth c s₁ Bd hml0 hP hK
  obtain ⟨rfl, hZ, hh⟩ := hP
  have hx := Bd.exec
  have hby := Bd.bytes
  have hml : c.maxLocals = 1 := hml0
  have hown : s.vm.findClass "latchwork/WaitQueue" = some m.cls := findClass_of_methodNamed Bd.named
  have hnm := (name_of_methodNamed Bd.named Bd.method).1
  have X0 : Stand p l e ({ frames := 0, cells := 0, slots := 0, locals := 0 } : Room) s m #[(.ref o0_)] below meth c s₁ [] 0 0 := Stand.of_body Bd
  have e0 : s₁.heap = h0 := by rw [← hh, Bd.state]; rfl
  have N0 := Fr.nil n0
  obtain ⟨G, pre0, hG⟩ : ∃ G : State → Prop, (∀ t, own_S p e below m s₁ 0 #[lvR o0_] [] t → G t) ∧ (∀ t, G t → Steps p.tables e below (s₁.setTop (entryFrame m #[(.ref o0_)] 1)) t) := ⟨fun t => Steps p.tables e below (s₁.setTop (entryFrame m #[(.ref o0_)] 1)) t, fun t k => castTop (efsize21 m o0_) k, fun _ k => k⟩
  have K0 : Keep h0 h0 [] := Keep.refl _ _
  obtain ⟨T1, X1, e1, st1⟩ := getF X0 hx hZ hown (host := "") (Or.inl (own_w hw 30 rfl)) Via.refl e0 P2 (g := (mkF m 1 #[lvR o0_] [(.ref o0_)])) rfl rfl (hb hby d4_1)
  have pre2 : ∀ t, own_S p e below m T1 4 #[lvR o0_] [(.int (2 : Int32))] t → G t := by
    intro t kt
    refine pre0 t ?_
    show own_S p e below m s₁ 0 #[lvR o0_] [] _
    refine XS.aloadN X0.here hx rfl (hb hby d4_0) rfl rfl ?_
    show own_S p e below m s₁ 1 #[lvR o0_] [(.ref o0_)] _
    refine st1 _ ?_
    exact kt
  obtain ⟨fs, hr, hrun, hended, hW, hsame⟩ := X1.leave (v := some (.int (2 : Int32))) (fun h => by rw [Bd.returns] at h; cases h)
  refine ⟨_, _, hG _ (pre2 _ (retOut X1 hx Bd.returns rfl (Or.inl ⟨rfl, Or.inl rfl, _, rfl⟩) (hb hby d4_4) hr)), hrun, hended, _, _, rfl, ?_, ⟨_, rfl⟩, hW, hsame.mono (by decide) (by decide)⟩
  show Qsize21 Z o0_ o1_ o2_ h0 n0 _ T1.heap _
  rw [e1]
  exact ⟨rfl, N0, rfl⟩
theorem efmax22 (m : MethodId)  : entryFrame m #[(.int (2 : Int32)), (.int (0 : Int32))] 2 = mkF m 0 #[lvI (2 : Int32), lvI (0 : Int32)] [] := by first | (simp [entryFrame, mkF, argsToLocals, Value.category]; done) | rfl
def Qmax22 (Z : State)  (h0 : Heap) (n0 : Nat) (v : Option Value) (h : Heap) (L : List Loc) : Prop := v = some (.int (2 : Int32)) ∧ Fr n0 L ∧ h = h0
set_option maxRecDepth 65536 in
set_option maxHeartbeats 40000000 in
theorem rmmax22 (l : Launch) (Z : State) (a0 : Array Value) (hw : ∀ d ∈ tables_1, d.before a0 Z = true) (ws : List Jvm.Cond)  (h0 : Heap) (n0 : Nat) (O0 : Old Z n0 h0)  :
    MetFree l (⟨"java/lang/Math", "max", "(II)I"⟩ : MethodName) (head1 (Jvm.Cond.code (⟨"java/lang/Math", "max", "(II)I"⟩ : MethodName) jdk_29_method_65_code 2 (some .int) :: ws) ({ frames := 0, cells := 0, slots := 0, locals := 0 } : Room)) (fun a U => a = #[(.int (2 : Int32)), (.int (0 : Int32))] ∧ Z.Warmed39 U.vm ∧ U.heap = h0) (fun _ _ _ _ _ => True) (fun _ U o U' => ∃ v L, o = .returned v ∧ Qmax22 Z  h0 n0 v U'.heap L ∧ FrameEnd U o U' L ({ frames := 0, cells := 0, slots := 0, locals := 0 } : Room).cells ({ frames := 0, cells := 0, slots := 0, locals := 0 } : Room).slots) := by
  refine MetFree.of_bodySF (Jvm.Free.JP.mathPlain rfl (by decide +kernel)) hisR ?_
  intro p e s m args below meth c s₁ Bd hml0 hP hK
  obtain ⟨rfl, hZ, hh⟩ := hP
  have hx := Bd.exec
  have hby := Bd.bytes
  have hml : c.maxLocals = 2 := hml0
  have hown : s.vm.findClass "java/lang/Math" = some m.cls := findClass_of_methodNamed Bd.named
  have hnm := (name_of_methodNamed Bd.named Bd.method).1
  have X0 : Stand p l e ({ frames := 0, cells := 0, slots := 0, locals := 0 } : Room) s m #[(.int (2 : Int32)), (.int (0 : Int32))] below meth c s₁ [] 0 0 := Stand.of_body Bd
  have e0 : s₁.heap = h0 := by rw [← hh, Bd.state]; rfl
  have N0 := Fr.nil n0
  obtain ⟨G, pre0, hG⟩ : ∃ G : State → Prop, (∀ t, own_S p e below m s₁ 0 #[lvI (2 : Int32), lvI (0 : Int32)] [] t → G t) ∧ (∀ t, G t → Steps p.tables e below (s₁.setTop (entryFrame m #[(.int (2 : Int32)), (.int (0 : Int32))] 2)) t) := ⟨fun t => Steps p.tables e below (s₁.setTop (entryFrame m #[(.int (2 : Int32)), (.int (0 : Int32))] 2)) t, fun t k => castTop (efmax22 m ) k, fun _ k => k⟩
  have K0 : Keep h0 h0 [] := Keep.refl _ _
  have pre1 : ∀ t, own_S p e below m s₁ 10 #[lvI (2 : Int32), lvI (0 : Int32)] [(.int (2 : Int32))] t → G t := by
    intro t kt
    refine pre0 t ?_
    show own_S p e below m s₁ 0 #[lvI (2 : Int32), lvI (0 : Int32)] [] _
    refine XS.iloadN X0.here hx rfl (hb hby d5_0) rfl ?_
    refine XS.iloadN X0.here hx rfl (hb hby d5_1) rfl ?_
    show own_S p e below m s₁ 2 #[lvI (2 : Int32), lvI (0 : Int32)] [(.int (0 : Int32)), (.int (2 : Int32))] _
    refine XS.icmpNo X0.here hx rfl (hb hby d5_2) rfl (flt (by decide : ¬ ((2 : Int32) < (0 : Int32)))).1 ?_
    refine XS.iloadN X0.here hx rfl (hb hby d5_5) rfl ?_
    refine XS.goto X0.here hx rfl (pc0 := 6) (pc' := 10) rfl (hb hby d5_6) (by decide) (by decide) ?_
    exact kt
  obtain ⟨fs, hr, hrun, hended, hW, hsame⟩ := X0.leave (v := some (.int (2 : Int32))) (fun h => by rw [Bd.returns] at h; cases h)
  refine ⟨_, _, hG _ (pre1 _ (retOut X0 hx Bd.returns rfl (Or.inl ⟨rfl, Or.inl rfl, _, rfl⟩) (hb hby d5_10) hr)), hrun, hended, _, _, rfl, ?_, ⟨_, rfl⟩, hW, hsame.mono (by decide) (by decide)⟩
  show Qmax22 Z  h0 n0 _ s₁.heap _
  rw [e0]
  exact ⟨rfl, N0, rfl⟩
theorem efadd23 (m : MethodId) (o0_ : Addr) (o1_ : Addr) : entryFrame m #[(.ref o0_), (.ref o1_), (.int (1 : Int32))] 3 = mkF m 0 #[lvR o0_, lvR o1_, lvI (1 : Int32)] [] := by first | (simp [entryFrame, mkF, argsToLocals, Value.category]; done) | rfl
def Qadd23 (Z : State) (o0_ : Addr) (o1_ : Addr) (o2_ : Addr) (o3_ : Addr) (h0 : Heap) (n0 : Nat) (v : Option Value) (h : Heap) (L : List Loc) : Prop := v = none ∧ Fr n0 L ∧ Keep h0 h [o1_, o2_, o0_] ∧ Exa Z h o0_ "latchwork/WaitQueue" ∧ Fld Z h o0_ "latchwork/WaitQueue" "head" "Llatchwork/WaitQueue$Waiter;" (.ref o1_) ∧ Fld Z h o0_ "latchwork/WaitQueue" "size" "I" (.int (3 : Int32)) ∧ Fld Z h o0_ "latchwork/WaitQueue" "tail" "Llatchwork/WaitQueue$Waiter;" (.ref o3_) ∧ Exa Z h o1_ cn0 ∧ Fld Z h o1_ cn0 "thread" "Ljava/lang/Thread;" .null ∧ Fld Z h o1_ cn0 "picked" "Z" (.int (0 : Int32)) ∧ Fld Z h o1_ cn0 "queued" "Z" (.int (1 : Int32)) ∧ Fld Z h o1_ cn0 "next" "Llatchwork/WaitQueue$Waiter;" (.ref o2_) ∧ Fld Z h o1_ cn0 "prev" "Llatchwork/WaitQueue$Waiter;" .null ∧ Exa Z h o2_ cn0 ∧ Fld Z h o2_ cn0 "thread" "Ljava/lang/Thread;" .null ∧ Fld Z h o2_ cn0 "picked" "Z" (.int (0 : Int32)) ∧ Fld Z h o2_ cn0 "queued" "Z" (.int (1 : Int32)) ∧ Fld Z h o2_ cn0 "next" "Llatchwork/WaitQueue$Waiter;" (.ref o3_) ∧ Fld Z h o2_ cn0 "prev" "Llatchwork/WaitQueue$Waiter;" (.ref o1_)
set_option maxRecDepth 65536 in
set_option maxHeartbeats 40000000 in
theorem rmadd23 (l : Launch) (Z : State) (a0 : Array Value) (hw : ∀ d ∈ tables_1, d.before a0 Z = true) (ws : List Jvm.Cond) (o0_ : Addr) (o1_ : Addr) (o2_ : Addr) (o3_ : Addr) (h0 : Heap) (n0 : Nat) (O0 : Old Z n0 h0) (P0 : Exa Z h0 o0_ "latchwork/WaitQueue") (P1 : Fld Z h0 o0_ "latchwork/WaitQueue" "head" "Llatchwork/WaitQueue$Waiter;" (.ref o2_)) (P2 : Fld Z h0 o0_ "latchwork/WaitQueue" "size" "I" (.int (2 : Int32))) (P3 : Fld Z h0 o0_ "latchwork/WaitQueue" "tail" "Llatchwork/WaitQueue$Waiter;" (.ref o3_)) (P4 : Exa Z h0 o1_ cn0) (P5 : Fld Z h0 o1_ cn0 "thread" "Ljava/lang/Thread;" .null) (P6 : Fld Z h0 o1_ cn0 "picked" "Z" (.int (0 : Int32))) (P7 : Fld Z h0 o1_ cn0 "queued" "Z" (.int (0 : Int32))) (P8 : Fld Z h0 o1_ cn0 "next" "Llatchwork/WaitQueue$Waiter;" .null) (P9 : Fld Z h0 o1_ cn0 "prev" "Llatchwork/WaitQueue$Waiter;" .null) (P10 : Exa Z h0 o2_ cn0) (P11 : Fld Z h0 o2_ cn0 "thread" "Ljava/lang/Thread;" .null) (P12 : Fld Z h0 o2_ cn0 "picked" "Z" (.int (0 : Int32))) (P13 : Fld Z h0 o2_ cn0 "queued" "Z" (.int (1 : Int32))) (P14 : Fld Z h0 o2_ cn0 "next" "Llatchwork/WaitQueue$Waiter;" (.ref o3_)) (P15 : Fld Z h0 o2_ cn0 "prev" "Llatchwork/WaitQueue$Waiter;" .null) (P16 : Exa Z h0 o3_ cn0) (P17 : Fld Z h0 o3_ cn0 "thread" "Ljava/lang/Thread;" .null) (P18 : Fld Z h0 o3_ cn0 "picked" "Z" (.int (0 : Int32))) (P19 : Fld Z h0 o3_ cn0 "queued" "Z" (.int (1 : Int32))) (P20 : Fld Z h0 o3_ cn0 "next" "Llatchwork/WaitQueue$Waiter;" .null) (P21 : Fld Z h0 o3_ cn0 "prev" "Llatchwork/WaitQueue$Waiter;" (.ref o2_)) (P22 : n0 ≤ o1_) (P23 : o0_ ≠ o1_) (P24 : o2_ ≠ o1_) (P25 : n0 ≤ o2_) (P26 : o0_ ≠ o2_) (P27 : n0 ≤ o0_) :
    MetFree l (⟨"latchwork/WaitQueue", "add", "(Llatchwork/WaitQueue$Waiter;Z)V"⟩ : MethodName) (head1 (Jvm.Cond.code (⟨"latchwork/WaitQueue", "add", "(Llatchwork/WaitQueue$Waiter;Z)V"⟩ : MethodName) prog_8_method_5_code 3 none :: ws) ({ frames := 0, cells := 0, slots := 0, locals := 0 } : Room)) (fun a U => a = #[(.ref o0_), (.ref o1_), (.int (1 : Int32))] ∧ Z.Warmed39 U.vm ∧ U.heap = h0) (fun _ _ _ _ _ => True) (fun _ U o U' => ∃ v L, o = .returned v ∧ Qadd23 Z o0_ o1_ o2_ o3_ h0 n0 v U'.heap L ∧ FrameEnd U o U' L ({ frames := 0, cells := 0, slots := 0, locals := 0 } : Room).cells ({ frames := 0, cells := 0, slots := 0, locals := 0 } : Room).slots) := by
  refine MetFree.of_bodySF (plainFor_of_name pn_0) hisR ?_
  intro p e s m args below meth c s₁ Bd hml0 hP hK
  obtain ⟨rfl, hZ, hh⟩ := hP
  have hx := Bd.exec
  have hby := Bd.bytes
  have hml : c.maxLocals = 3 := hml0
  have hown : s.vm.findClass "latchwork/WaitQueue" = some m.cls := findClass_of_methodNamed Bd.named
  have hnm := (name_of_methodNamed Bd.named Bd.method).1
  have X0 : Stand p l e ({ frames := 0, cells := 0, slots := 0, locals := 0 } : Room) s m #[(.ref o0_), (.ref o1_), (.int (1 : Int32))] below meth c s₁ [] 0 0 := Stand.of_body Bd
  have e0 : s₁.heap = h0 := by rw [← hh, Bd.state]; rfl
  have N0 := Fr.nil n0
  obtain ⟨G, pre0, hG⟩ : ∃ G : State → Prop, (∀ t, own_S p e below m s₁ 0 #[lvR o0_, lvR o1_, lvI (1 : Int32)] [] t → G t) ∧ (∀ t, G t → Steps p.tables e below (s₁.setTop (entryFrame m #[(.ref o0_), (.ref o1_), (.int (1 : Int32))] 3)) t) := ⟨fun t => Steps p.tables e below (s₁.setTop (entryFrame m #[(.ref o0_), (.ref o1_), (.int (1 : Int32))] 3)) t, fun t k => castTop (efadd23 m o0_ o1_) k, fun _ k => k⟩
  have K0 : Keep h0 h0 [o1_, o2_, o0_] := Keep.refl _ _
  obtain ⟨T1, X1, e1, st1⟩ := getF X0 hx hZ hown (host := "") (Or.inl (own_w hw 23 rfl)) Via.refl e0 P1 (g := (mkF m 1 #[lvR o0_, lvR o1_, lvI (1 : Int32)] [(.ref o0_)])) rfl rfl (hb hby d7_1)
  obtain ⟨T2, X2, e2, st2⟩ := getF X1 hx hZ hown (host := "") (Or.inl (own_w hw 23 rfl)) Via.refl e1 P1 (g := (mkF m 26 #[lvR o0_, lvR o1_, lvI (1 : Int32)] [(.ref o0_), (.ref o1_)])) rfl rfl (hb hby d7_26)
  obtain ⟨T3, h3, X3, e3, W3, st3⟩ := own_putR X2 hx hZ hown (own_w hw 52 rfl) Via.refl e2 P8 P4 (own_w hw 53 rfl) (own_w hw 10 rfl) (ty := (.object "latchwork/WaitQueue$Waiter")) (by decide) rfl rfl (g := (mkF m 29 #[lvR o0_, lvR o1_, lvI (1 : Int32)] [(.ref o2_), (.ref o1_)])) rfl rfl (hb hby d7_29)
  have N4 := Fr.snoc X3 N0 P22
  have f5 : Fld Z h3 o1_ cn0 "next" "Llatchwork/WaitQueue$Waiter;" (.ref o2_) := P8.same W3
  have f6 : Fld Z h3 o0_ "latchwork/WaitQueue" "head" "Llatchwork/WaitQueue$Waiter;" (.ref o2_) := P1.other W3 (Or.inl P23)
  obtain ⟨T7, X7, e7, st7⟩ := getF X3 hx hZ hown (host := "") (Or.inl (own_w hw 23 rfl)) Via.refl e3 f6 (g := (mkF m 33 #[lvR o0_, lvR o1_, lvI (1 : Int32)] [(.ref o0_)])) rfl rfl (hb hby d7_33)
  have f8 : Fld Z h3 o2_ cn0 "prev" "Llatchwork/WaitQueue$Waiter;" .null := P15.other W3 (Or.inl P24)
  have f9 : Exa Z h3 o2_ cn0 := P10.wr W3
  obtain ⟨T10, h10, X10, e10, W10, st10⟩ := own_putR X7 hx hZ hown (own_w hw 54 rfl) Via.refl e7 f8 f9 (own_w hw 55 rfl) (own_w hw 10 rfl) (ty := (.object "latchwork/WaitQueue$Waiter")) (by decide) rfl rfl (g := (mkF m 37 #[lvR o0_, lvR o1_, lvI (1 : Int32)] [(.ref o1_), (.ref o2_)])) rfl rfl (hb hby d7_37)
  have N11 := Fr.snoc X10 N4 P25
  have f12 : Fld Z h10 o2_ cn0 "prev" "Llatchwork/WaitQueue$Waiter;" (.ref o1_) := f8.same W10
  have f13 : Fld Z h10 o0_ "latchwork/WaitQueue" "head" "Llatchwork/WaitQueue$Waiter;" (.ref o2_) := f6.other W10 (Or.inl P26)
  have f14 : Exa Z h3 o0_ "latchwork/WaitQueue" := P0.wr W3
  have f15 : Exa Z h10 o0_ "latchwork/WaitQueue" := f14.wr W10
  obtain ⟨T16, h16, X16, e16, W16, st16⟩ := putF X10 hx hZ hown (host := "") (Or.inl (own_w hw 23 rfl)) Via.refl e10 f13 f15 (Or.inl (own_w hw 24 rfl)) (own_w hw 1 rfl) (ty := (.object "latchwork/WaitQueue$Waiter")) (by decide) rfl rfl (g := (mkF m 42 #[lvR o0_, lvR o1_, lvI (1 : Int32)] [(.ref o1_), (.ref o0_)])) rfl rfl (hb hby d7_42)
  have N17 := Fr.snoc X16 N11 P27
  have f18 : Fld Z h16 o0_ "latchwork/WaitQueue" "head" "Llatchwork/WaitQueue$Waiter;" (.ref o1_) := f13.same W16
  have f19 : Fld Z h3 o1_ cn0 "picked" "Z" (.int (0 : Int32)) := P6.other W3 (Or.inr (slot_ne (Or.inl (own_w hw 49 rfl)) (Or.inl (own_w hw 53 rfl)) (by decide) (t := .boolean) (t' := (.object "latchwork/WaitQueue$Waiter")) (by decide) (by decide)))
  have f20 : Fld Z h10 o1_ cn0 "picked" "Z" (.int (0 : Int32)) := f19.other W10 (Or.inl (Ne.symm P24))
  have f21 : Fld Z h16 o1_ cn0 "picked" "Z" (.int (0 : Int32)) := f20.other W16 (Or.inl (Ne.symm P23))
  have f22 : Exa Z h3 o1_ cn0 := P4.wr W3
  have f23 : Exa Z h10 o1_ cn0 := f22.wr W10
  have f24 : Exa Z h16 o1_ cn0 := f23.wr W16
  obtain ⟨T25, h25, X25, e25, W25, st25⟩ := own_putR X16 hx hZ hown (own_w hw 48 rfl) Via.refl e16 f21 f24 (own_w hw 49 rfl) (own_w hw 10 rfl) (ty := .boolean) (by decide) rfl rfl (g := (mkF m 71 #[lvR o0_, lvR o1_, lvI (1 : Int32)] [(.int (0 : Int32)), (.ref o1_)])) rfl rfl (hb hby d7_71)
  have N26 := Fr.snoc X25 N17 P22
  have f27 : Fld Z h25 o1_ cn0 "picked" "Z" (.int (0 : Int32)) := f21.same W25
  have f28 : Fld Z h3 o1_ cn0 "queued" "Z" (.int (0 : Int32)) := P7.other W3 (Or.inr (slot_ne (Or.inl (own_w hw 51 rfl)) (Or.inl (own_w hw 53 rfl)) (by decide) (t := .boolean) (t' := (.object "latchwork/WaitQueue$Waiter")) (by decide) (by decide)))
  have f29 : Fld Z h10 o1_ cn0 "queued" "Z" (.int (0 : Int32)) := f28.other W10 (Or.inl (Ne.symm P24))
  have f30 : Fld Z h16 o1_ cn0 "queued" "Z" (.int (0 : Int32)) := f29.other W16 (Or.inl (Ne.symm P23))
  have f31 : Fld Z h25 o1_ cn0 "queued" "Z" (.int (0 : Int32)) := f30.other W25 (Or.inr (slot_ne (Or.inl (own_w hw 51 rfl)) (Or.inl (own_w hw 49 rfl)) (by decide) (t := .boolean) (t' := .boolean) (by decide) (by decide)))
  have f32 : Exa Z h25 o1_ cn0 := f24.wr W25
  obtain ⟨T33, h33, X33, e33, W33, st33⟩ := own_putR X25 hx hZ hown (own_w hw 50 rfl) Via.refl e25 f31 f32 (own_w hw 51 rfl) (own_w hw 10 rfl) (ty := .boolean) (by decide) rfl rfl (g := (mkF m 76 #[lvR o0_, lvR o1_, lvI (1 : Int32)] [(.int (1 : Int32)), (.ref o1_)])) rfl rfl (hb hby d7_76)
  have N34 := Fr.snoc X33 N26 P22
  have f35 : Fld Z h33 o1_ cn0 "queued" "Z" (.int (1 : Int32)) := f31.same W33
  have f36 : Fld Z h3 o0_ "latchwork/WaitQueue" "size" "I" (.int (2 : Int32)) := P2.other W3 (Or.inl P23)
  have f37 : Fld Z h10 o0_ "latchwork/WaitQueue" "size" "I" (.int (2 : Int32)) := f36.other W10 (Or.inl P26)
  have f38 : Fld Z h16 o0_ "latchwork/WaitQueue" "size" "I" (.int (2 : Int32)) := f37.other W16 (Or.inr (slot_ne (Or.inl (own_w hw 31 rfl)) (Or.inl (own_w hw 24 rfl)) (by decide) (t := .int) (t' := (.object "latchwork/WaitQueue$Waiter")) (by decide) (by decide)))
  have f39 : Fld Z h25 o0_ "latchwork/WaitQueue" "size" "I" (.int (2 : Int32)) := f38.other W25 (Or.inl P23)
  have f40 : Fld Z h33 o0_ "latchwork/WaitQueue" "size" "I" (.int (2 : Int32)) := f39.other W33 (Or.inl P23)
  obtain ⟨T41, X41, e41, st41⟩ := getF X33 hx hZ hown (host := "") (Or.inl (own_w hw 30 rfl)) Via.refl e33 f40 (g := (mkF m 81 #[lvR o0_, lvR o1_, lvI (1 : Int32)] [(.ref o0_), (.ref o0_)])) rfl rfl (hb hby d7_81)
  have f42 : Exa Z h16 o0_ "latchwork/WaitQueue" := f15.wr W16
  have f43 : Exa Z h25 o0_ "latchwork/WaitQueue" := f42.wr W25
  have f44 : Exa Z h33 o0_ "latchwork/WaitQueue" := f43.wr W33
  obtain ⟨T45, h45, X45, e45, W45, st45⟩ := putF X41 hx hZ hown (host := "") (Or.inl (own_w hw 30 rfl)) Via.refl e41 f40 f44 (Or.inl (own_w hw 31 rfl)) (own_w hw 1 rfl) (ty := .int) (by decide) rfl rfl (g := (mkF m 86 #[lvR o0_, lvR o1_, lvI (1 : Int32)] [(.int (3 : Int32)), (.ref o0_)])) rfl rfl (hb hby d7_86)
  have N46 := Fr.snoc X45 N34 P27
  have f47 : Fld Z h45 o0_ "latchwork/WaitQueue" "size" "I" (.int (3 : Int32)) := f40.same W45
  have pre48 : ∀ t, own_S p e below m T45 89 #[lvR o0_, lvR o1_, lvI (1 : Int32)] [] t → G t := by
    intro t kt
    refine pre0 t ?_
    show own_S p e below m s₁ 0 #[lvR o0_, lvR o1_, lvI (1 : Int32)] [] _
    refine XS.aloadN X0.here hx rfl (hb hby d7_0) rfl rfl ?_
    show own_S p e below m s₁ 1 #[lvR o0_, lvR o1_, lvI (1 : Int32)] [(.ref o0_)] _
    refine st1 _ ?_
    show own_S p e below m T1 4 #[lvR o0_, lvR o1_, lvI (1 : Int32)] [(.ref o2_)] _
    refine XS.ifnonnullYes X1.here hx rfl (pc0 := 4) (pc' := 20) rfl (hb hby d7_4) rfl (by decide) (by decide) ?_
    refine XS.iloadN X1.here hx rfl (hb hby d7_20) rfl ?_
    show own_S p e below m T1 21 #[lvR o0_, lvR o1_, lvI (1 : Int32)] [(.int (1 : Int32))] _
    refine XS.ifNo X1.here hx rfl (hb hby d7_21) rfl ((if0 _ _).trans (feq (by decide : ¬ ((1 : Int32) = (0 : Int32)))).1) ?_
    refine XS.aloadN X1.here hx rfl (hb hby d7_24) rfl rfl ?_
    refine XS.aloadN X1.here hx rfl (hb hby d7_25) rfl rfl ?_
    show own_S p e below m T1 26 #[lvR o0_, lvR o1_, lvI (1 : Int32)] [(.ref o0_), (.ref o1_)] _
    refine st2 _ ?_
    show own_S p e below m T2 29 #[lvR o0_, lvR o1_, lvI (1 : Int32)] [(.ref o2_), (.ref o1_)] _
    refine st3 _ ?_
    refine XS.aloadN X3.here hx rfl (hb hby d7_32) rfl rfl ?_
    show own_S p e below m T3 33 #[lvR o0_, lvR o1_, lvI (1 : Int32)] [(.ref o0_)] _
    refine st7 _ ?_
    refine XS.aloadN X7.here hx rfl (hb hby d7_36) rfl rfl ?_
    show own_S p e below m T7 37 #[lvR o0_, lvR o1_, lvI (1 : Int32)] [(.ref o1_), (.ref o2_)] _
    refine st10 _ ?_
    refine XS.aloadN X10.here hx rfl (hb hby d7_40) rfl rfl ?_
    refine XS.aloadN X10.here hx rfl (hb hby d7_41) rfl rfl ?_
    show own_S p e below m T10 42 #[lvR o0_, lvR o1_, lvI (1 : Int32)] [(.ref o1_), (.ref o0_)] _
    refine st16 _ ?_
    refine XS.goto X16.here hx rfl (pc0 := 45) (pc' := 69) rfl (hb hby d7_45) (by decide) (by decide) ?_
    refine XS.aloadN X16.here hx rfl (hb hby d7_69) rfl rfl ?_
    refine XS.iconst X16.here hx rfl (hb hby d7_70) ?_
    show own_S p e below m T16 71 #[lvR o0_, lvR o1_, lvI (1 : Int32)] [(.int (0 : Int32)), (.ref o1_)] _
    refine st25 _ ?_
    refine XS.aloadN X25.here hx rfl (hb hby d7_74) rfl rfl ?_
    refine XS.iconst X25.here hx rfl (hb hby d7_75) ?_
    show own_S p e below m T25 76 #[lvR o0_, lvR o1_, lvI (1 : Int32)] [(.int (1 : Int32)), (.ref o1_)] _
    refine st33 _ ?_
    refine XS.aloadN X33.here hx rfl (hb hby d7_79) rfl rfl ?_
    refine XS.dup X33.here hx rfl (hb hby d7_80) rfl rfl ?_
    show own_S p e below m T33 81 #[lvR o0_, lvR o1_, lvI (1 : Int32)] [(.ref o0_), (.ref o0_)] _
    refine st41 _ ?_
    refine XS.iconst X41.here hx rfl (hb hby d7_84) ?_
    refine XS.iadd X41.here hx rfl (hb hby d7_85) rfl ?_
    show own_S p e below m T41 86 #[lvR o0_, lvR o1_, lvI (1 : Int32)] [(.int (3 : Int32)), (.ref o0_)] _
    refine st45 _ ?_
    exact kt
  have f50 : Keep h0 h3 [o1_, o2_, o0_] := K0.wr W3 (Or.inl (List.mem_of_getElem? (i := 0) rfl))
  have f51 : Keep h0 h10 [o1_, o2_, o0_] := f50.wr W10 (Or.inl (List.mem_of_getElem? (i := 1) rfl))
  have f52 : Keep h0 h16 [o1_, o2_, o0_] := f51.wr W16 (Or.inl (List.mem_of_getElem? (i := 2) rfl))
  have f53 : Keep h0 h25 [o1_, o2_, o0_] := f52.wr W25 (Or.inl (List.mem_of_getElem? (i := 0) rfl))
  have f54 : Keep h0 h33 [o1_, o2_, o0_] := f53.wr W33 (Or.inl (List.mem_of_getElem? (i := 0) rfl))
  have f55 : Keep h0 h45 [o1_, o2_, o0_] := f54.wr W45 (Or.inl (List.mem_of_getElem? (i := 2) rfl))
  have f56 : Exa Z h45 o0_ "latchwork/WaitQueue" := f44.wr W45
  have f57 : Fld Z h25 o0_ "latchwork/WaitQueue" "head" "Llatchwork/WaitQueue$Waiter;" (.ref o1_) := f18.other W25 (Or.inl P23)
  have f58 : Fld Z h33 o0_ "latchwork/WaitQueue" "head" "Llatchwork/WaitQueue$Waiter;" (.ref o1_) := f57.other W33 (Or.inl P23)
  have f59 : Fld Z h45 o0_ "latchwork/WaitQueue" "head" "Llatchwork/WaitQueue$Waiter;" (.ref o1_) := f58.other W45 (Or.inr (slot_ne (Or.inl (own_w hw 24 rfl)) (Or.inl (own_w hw 31 rfl)) (by decide) (t := (.object "latchwork/WaitQueue$Waiter")) (t' := .int) (by decide) (by decide)))
  have f60 : Fld Z h3 o0_ "latchwork/WaitQueue" "tail" "Llatchwork/WaitQueue$Waiter;" (.ref o3_) := P3.other W3 (Or.inl P23)
  have f61 : Fld Z h10 o0_ "latchwork/WaitQueue" "tail" "Llatchwork/WaitQueue$Waiter;" (.ref o3_) := f60.other W10 (Or.inl P26)
  have f62 : Fld Z h16 o0_ "latchwork/WaitQueue" "tail" "Llatchwork/WaitQueue$Waiter;" (.ref o3_) := f61.other W16 (Or.inr (slot_ne (Or.inl (own_w hw 47 rfl)) (Or.inl (own_w hw 24 rfl)) (by decide) (t := (.object "latchwork/WaitQueue$Waiter")) (t' := (.object "latchwork/WaitQueue$Waiter")) (by decide) (by decide)))
  have f63 : Fld Z h25 o0_ "latchwork/WaitQueue" "tail" "Llatchwork/WaitQueue$Waiter;" (.ref o3_) := f62.other W25 (Or.inl P23)
  have f64 : Fld Z h33 o0_ "latchwork/WaitQueue" "tail" "Llatchwork/WaitQueue$Waiter;" (.ref o3_) := f63.other W33 (Or.inl P23)
  have f65 : Fld Z h45 o0_ "latchwork/WaitQueue" "tail" "Llatchwork/WaitQueue$Waiter;" (.ref o3_) := f64.other W45 (Or.inr (slot_ne (Or.inl (own_w hw 47 rfl)) (Or.inl (own_w hw 31 rfl)) (by decide) (t := (.object "latchwork/WaitQueue$Waiter")) (t' := .int) (by decide) (by decide)))
  have f66 : Exa Z h33 o1_ cn0 := f32.wr W33
  have f67 : Exa Z h45 o1_ cn0 := f66.wr W45
  have f68 : Fld Z h3 o1_ cn0 "thread" "Ljava/lang/Thread;" .null := P5.other W3 (Or.inr (slot_ne (Or.inr (own_w hw 17 rfl)) (Or.inl (own_w hw 53 rfl)) (by decide) (t := (.object "java/lang/Thread")) (t' := (.object "latchwork/WaitQueue$Waiter")) (by decide) (by decide)))
  have f69 : Fld Z h10 o1_ cn0 "thread" "Ljava/lang/Thread;" .null := f68.other W10 (Or.inl (Ne.symm P24))
  have f70 : Fld Z h16 o1_ cn0 "thread" "Ljava/lang/Thread;" .null := f69.other W16 (Or.inl (Ne.symm P23))
  have f71 : Fld Z h25 o1_ cn0 "thread" "Ljava/lang/Thread;" .null := f70.other W25 (Or.inr (slot_ne (Or.inr (own_w hw 17 rfl)) (Or.inl (own_w hw 49 rfl)) (by decide) (t := (.object "java/lang/Thread")) (t' := .boolean) (by decide) (by decide)))
  have f72 : Fld Z h33 o1_ cn0 "thread" "Ljava/lang/Thread;" .null := f71.other W33 (Or.inr (slot_ne (Or.inr (own_w hw 17 rfl)) (Or.inl (own_w hw 51 rfl)) (by decide) (t := (.object "java/lang/Thread")) (t' := .boolean) (by decide) (by decide)))
  have f73 : Fld Z h45 o1_ cn0 "thread" "Ljava/lang/Thread;" .null := f72.other W45 (Or.inl (Ne.symm P23))
  have f74 : Fld Z h33 o1_ cn0 "picked" "Z" (.int (0 : Int32)) := f27.other W33 (Or.inr (slot_ne (Or.inl (own_w hw 49 rfl)) (Or.inl (own_w hw 51 rfl)) (by decide) (t := .boolean) (t' := .boolean) (by decide) (by decide)))
  have f75 : Fld Z h45 o1_ cn0 "picked" "Z" (.int (0 : Int32)) := f74.other W45 (Or.inl (Ne.symm P23))
  have f76 : Fld Z h45 o1_ cn0 "queued" "Z" (.int (1 : Int32)) := f35.other W45 (Or.inl (Ne.symm P23))
  have f77 : Fld Z h10 o1_ cn0 "next" "Llatchwork/WaitQueue$Waiter;" (.ref o2_) := f5.other W10 (Or.inl (Ne.symm P24))
  have f78 : Fld Z h16 o1_ cn0 "next" "Llatchwork/WaitQueue$Waiter;" (.ref o2_) := f77.other W16 (Or.inl (Ne.symm P23))
  have f79 : Fld Z h25 o1_ cn0 "next" "Llatchwork/WaitQueue$Waiter;" (.ref o2_) := f78.other W25 (Or.inr (slot_ne (Or.inl (own_w hw 53 rfl)) (Or.inl (own_w hw 49 rfl)) (by decide) (t := (.object "latchwork/WaitQueue$Waiter")) (t' := .boolean) (by decide) (by decide)))
  have f80 : Fld Z h33 o1_ cn0 "next" "Llatchwork/WaitQueue$Waiter;" (.ref o2_) := f79.other W33 (Or.inr (slot_ne (Or.inl (own_w hw 53 rfl)) (Or.inl (own_w hw 51 rfl)) (by decide) (t := (.object "latchwork/WaitQueue$Waiter")) (t' := .boolean) (by decide) (by decide)))
  have f81 : Fld Z h45 o1_ cn0 "next" "Llatchwork/WaitQueue$Waiter;" (.ref o2_) := f80.other W45 (Or.inl (Ne.symm P23))
  have f82 : Fld Z h3 o1_ cn0 "prev" "Llatchwork/WaitQueue$Waiter;" .null := P9.other W3 (Or.inr (slot_ne (Or.inl (own_w hw 55 rfl)) (Or.inl (own_w hw 53 rfl)) (by decide) (t := (.object "latchwork/WaitQueue$Waiter")) (t' := (.object "latchwork/WaitQueue$Waiter")) (by decide) (by decide)))
  have f83 : Fld Z h10 o1_ cn0 "prev" "Llatchwork/WaitQueue$Waiter;" .null := f82.other W10 (Or.inl (Ne.symm P24))
  have f84 : Fld Z h16 o1_ cn0 "prev" "Llatchwork/WaitQueue$Waiter;" .null := f83.other W16 (Or.inl (Ne.symm P23))
  have f85 : Fld Z h25 o1_ cn0 "prev" "Llatchwork/WaitQueue$Waiter;" .null := f84.other W25 (Or.inr (slot_ne (Or.inl (own_w hw 55 rfl)) (Or.inl (own_w hw 49 rfl)) (by decide) (t := (.object "latchwork/WaitQueue$Waiter")) (t' := .boolean) (by decide) (by decide)))
  have f86 : Fld Z h33 o1_ cn0 "prev" "Llatchwork/WaitQueue$Waiter;" .null := f85.other W33 (Or.inr (slot_ne (Or.inl (own_w hw 55 rfl)) (Or.inl (own_w hw 51 rfl)) (by decide) (t := (.object "latchwork/WaitQueue$Waiter")) (t' := .boolean) (by decide) (by decide)))
  have f87 : Fld Z h45 o1_ cn0 "prev" "Llatchwork/WaitQueue$Waiter;" .null := f86.other W45 (Or.inl (Ne.symm P23))
  have f88 : Exa Z h10 o2_ cn0 := f9.wr W10
  have f89 : Exa Z h16 o2_ cn0 := f88.wr W16
  have f90 : Exa Z h25 o2_ cn0 := f89.wr W25
  have f91 : Exa Z h33 o2_ cn0 := f90.wr W33
  have f92 : Exa Z h45 o2_ cn0 := f91.wr W45
  have f93 : Fld Z h3 o2_ cn0 "thread" "Ljava/lang/Thread;" .null := P11.other W3 (Or.inl P24)
  have f94 : Fld Z h10 o2_ cn0 "thread" "Ljava/lang/Thread;" .null := f93.other W10 (Or.inr (slot_ne (Or.inr (own_w hw 17 rfl)) (Or.inl (own_w hw 55 rfl)) (by decide) (t := (.object "java/lang/Thread")) (t' := (.object "latchwork/WaitQueue$Waiter")) (by decide) (by decide)))
  have f95 : Fld Z h16 o2_ cn0 "thread" "Ljava/lang/Thread;" .null := f94.other W16 (Or.inl (Ne.symm P26))
  have f96 : Fld Z h25 o2_ cn0 "thread" "Ljava/lang/Thread;" .null := f95.other W25 (Or.inl P24)
  have f97 : Fld Z h33 o2_ cn0 "thread" "Ljava/lang/Thread;" .null := f96.other W33 (Or.inl P24)
  have f98 : Fld Z h45 o2_ cn0 "thread" "Ljava/lang/Thread;" .null := f97.other W45 (Or.inl (Ne.symm P26))
  have f99 : Fld Z h3 o2_ cn0 "picked" "Z" (.int (0 : Int32)) := P12.other W3 (Or.inl P24)
  have f100 : Fld Z h10 o2_ cn0 "picked" "Z" (.int (0 : Int32)) := f99.other W10 (Or.inr (slot_ne (Or.inl (own_w hw 49 rfl)) (Or.inl (own_w hw 55 rfl)) (by decide) (t := .boolean) (t' := (.object "latchwork/WaitQueue$Waiter")) (by decide) (by decide)))
  have f101 : Fld Z h16 o2_ cn0 "picked" "Z" (.int (0 : Int32)) := f100.other W16 (Or.inl (Ne.symm P26))
  have f102 : Fld Z h25 o2_ cn0 "picked" "Z" (.int (0 : Int32)) := f101.other W25 (Or.inl P24)
  have f103 : Fld Z h33 o2_ cn0 "picked" "Z" (.int (0 : Int32)) := f102.other W33 (Or.inl P24)
  have f104 : Fld Z h45 o2_ cn0 "picked" "Z" (.int (0 : Int32)) := f103.other W45 (Or.inl (Ne.symm P26))
  have f105 : Fld Z h3 o2_ cn0 "queued" "Z" (.int (1 : Int32)) := P13.other W3 (Or.inl P24)
  have f106 : Fld Z h10 o2_ cn0 "queued" "Z" (.int (1 : Int32)) := f105.other W10 (Or.inr (slot_ne (Or.inl (own_w hw 51 rfl)) (Or.inl (own_w hw 55 rfl)) (by decide) (t := .boolean) (t' := (.object "latchwork/WaitQueue$Waiter")) (by decide) (by decide)))
  have f107 : Fld Z h16 o2_ cn0 "queued" "Z" (.int (1 : Int32)) := f106.other W16 (Or.inl (Ne.symm P26))
  have f108 : Fld Z h25 o2_ cn0 "queued" "Z" (.int (1 : Int32)) := f107.other W25 (Or.inl P24)
  have f109 : Fld Z h33 o2_ cn0 "queued" "Z" (.int (1 : Int32)) := f108.other W33 (Or.inl P24)
  have f110 : Fld Z h45 o2_ cn0 "queued" "Z" (.int (1 : Int32)) := f109.other W45 (Or.inl (Ne.symm P26))
  have f111 : Fld Z h3 o2_ cn0 "next" "Llatchwork/WaitQueue$Waiter;" (.ref o3_) := P14.other W3 (Or.inl P24)
  have f112 : Fld Z h10 o2_ cn0 "next" "Llatchwork/WaitQueue$Waiter;" (.ref o3_) := f111.other W10 (Or.inr (slot_ne (Or.inl (own_w hw 53 rfl)) (Or.inl (own_w hw 55 rfl)) (by decide) (t := (.object "latchwork/WaitQueue$Waiter")) (t' := (.object "latchwork/WaitQueue$Waiter")) (by decide) (by decide)))
  have f113 : Fld Z h16 o2_ cn0 "next" "Llatchwork/WaitQueue$Waiter;" (.ref o3_) := f112.other W16 (Or.inl (Ne.symm P26))
  have f114 : Fld Z h25 o2_ cn0 "next" "Llatchwork/WaitQueue$Waiter;" (.ref o3_) := f113.other W25 (Or.inl P24)
  have f115 : Fld Z h33 o2_ cn0 "next" "Llatchwork/WaitQueue$Waiter;" (.ref o3_) := f114.other W33 (Or.inl P24)
  have f116 : Fld Z h45 o2_ cn0 "next" "Llatchwork/WaitQueue$Waiter;" (.ref o3_) := f115.other W45 (Or.inl (Ne.symm P26))
  have f117 : Fld Z h16 o2_ cn0 "prev" "Llatchwork/WaitQueue$Waiter;" (.ref o1_) := f12.other W16 (Or.inl (Ne.symm P26))
  have f118 : Fld Z h25 o2_ cn0 "prev" "Llatchwork/WaitQueue$Waiter;" (.ref o1_) := f117.other W25 (Or.inl P24)
  have f119 : Fld Z h33 o2_ cn0 "prev" "Llatchwork/WaitQueue$Waiter;" (.ref o1_) := f118.other W33 (Or.inl P24)
  have f120 : Fld Z h45 o2_ cn0 "prev" "Llatchwork/WaitQueue$Waiter;" (.ref o1_) := f119.other W45 (Or.inl (Ne.symm P26))
  obtain ⟨fs, hr, hrun, hended, hW, hsame⟩ := X45.leave (v := none) (fun _ => rfl)
  refine ⟨_, _, hG _ (pre48 _ (X45.returnOut hx Bd.returns (hb hby d7_89) hr)), hrun, hended, _, _, rfl, ?_, ⟨_, rfl⟩, hW, hsame.mono (by decide) (by decide)⟩
  show Qadd23 Z o0_ o1_ o2_ o3_ h0 n0 _ T45.heap _
  rw [e45]
  exact ⟨rfl, N46, f55, f56, f59, f47, f65, f67, f73, f75, f76, f81, f87, f92, f98, f104, f110, f116, f120⟩
theorem pn_2 : plainName "latchwork/WaitQueuePollPinLaw" = true := by first | (simp [plainName, overriddenIn]; done) | decide +kernel
theorem efLaw (m : MethodId) (p0_ : Int32) (p1_ : Int32) : entryFrame m #[(.int p0_), (.int p1_)] maxLocals = mkF m 0 #[lvI p0_, lvI p1_, .unset, .unset, .unset, .unset, .unset, .unset, .unset, .unset, .unset, .unset, .unset, .unset, .unset, .unset, .unset, .unset, .unset, .unset] [] := by first | (simp [entryFrame, mkF, argsToLocals, Value.category, maxLocals]; done) | rfl
def QLaw (Z : State) (p0_ : Int32) (p1_ : Int32) (h0 : Heap) (n0 : Nat) (v : Option Value) (h : Heap) (L : List Loc) : Prop := v = some (.int (1 : Int32)) ∧ Fr n0 L
set_option maxRecDepth 65536 in
set_option maxHeartbeats 40000000 in
theorem rmLaw (l : Launch) (Z : State) (a0 : Array Value) (hw : ∀ d ∈ tables_1, d.before a0 Z = true) (ws : List Jvm.Cond) (p0_ : Int32) (p1_ : Int32) (h0 : Heap) (n0 : Nat) (O0 : Old Z n0 h0)  :
    MetFree l x (head1 (Jvm.Cond.code x code maxLocals ret :: ws) room_1) (fun a U => a = #[(.int p0_), (.int p1_)] ∧ Z.Warmed39 U.vm ∧ U.heap = h0) (fun _ _ _ _ _ => True) (fun _ U o U' => ∃ v L, o = .returned v ∧ QLaw Z p0_ p1_ h0 n0 v U'.heap L ∧ FrameEnd U o U' L room_1.cells room_1.slots) := by
  refine MetFree.of_bodySF (plainFor_of_name pn_2) hisR ?_
  intro p e s m args below meth c s₁ Bd hml0 hP hK
  obtain ⟨rfl, hZ, hh⟩ := hP
  have hx := Bd.exec
  have hby := Bd.bytes
  have hml : c.maxLocals = 20 := hml0
  have hown : s.vm.findClass "latchwork/WaitQueuePollPinLaw" = some m.cls := findClass_of_methodNamed Bd.named
  have hnm := (name_of_methodNamed Bd.named Bd.method).1
  have X0 : Stand p l e room_1 s m #[(.int p0_), (.int p1_)] below meth c s₁ [] 0 0 := Stand.of_body Bd
  have e0 : s₁.heap = h0 := by rw [← hh, Bd.state]; rfl
  have N0 := Fr.nil n0
  obtain ⟨G, pre0, hG⟩ : ∃ G : State → Prop, (∀ t, own_S p e below m s₁ 0 #[lvI p0_, lvI p1_, .unset, .unset, .unset, .unset, .unset, .unset, .unset, .unset, .unset, .unset, .unset, .unset, .unset, .unset, .unset, .unset, .unset, .unset] [] t → G t) ∧ (∀ t, G t → Steps p.tables e below (s₁.setTop (entryFrame m #[(.int p0_), (.int p1_)] maxLocals)) t) := ⟨fun t => Steps p.tables e below (s₁.setTop (entryFrame m #[(.int p0_), (.int p1_)] maxLocals)) t, fun t k => castTop (efLaw m p0_ p1_) k, fun _ k => k⟩
  have K0 : Keep h0 h0 [] := Keep.refl _ _
  have pre1 : ∀ t, own_S p e below m s₁ 3 #[lvI p0_, lvI p1_, .unset, .unset, .unset, .unset, .unset, .unset, .unset, .unset, .unset, .unset, .unset, .unset, .unset, .unset, .unset, .unset, .unset, .unset] [(.int (p0_ &&& (3 : Int32)))] t → G t := by
    intro t kt
    refine pre0 t ?_
    show own_S p e below m s₁ 0 #[lvI p0_, lvI p1_, .unset, .unset, .unset, .unset, .unset, .unset, .unset, .unset, .unset, .unset, .unset, .unset, .unset, .unset, .unset, .unset, .unset, .unset] [] _
    refine XS.iloadN X0.here hx rfl (hb hby at_0) rfl ?_
    refine XS.iconst X0.here hx rfl (hb hby at_1) ?_
    refine XS.iand X0.here hx rfl (hb hby at_2) rfl ?_
    exact kt
  have hv2 : (p0_ &&& (3 : Int32)) = (0 : Int32) ∨ (p0_ &&& (3 : Int32)) = (1 : Int32) ∨ (p0_ &&& (3 : Int32)) = (2 : Int32) ∨ (p0_ &&& (3 : Int32)) = (3 : Int32) := own_and3 _
  rcases hv2 with hv3 | hv3 | hv3 | hv3
  · have pre4 : ∀ t, own_S p e below m s₁ 3 #[lvI p0_, lvI p1_, .unset, .unset, .unset, .unset, .unset, .unset, .unset, .unset, .unset, .unset, .unset, .unset, .unset, .unset, .unset, .unset, .unset, .unset] [(.int (0 : Int32))] t → G t := fun t kt => pre1 t (by rw [hv3]; exact kt)
    have pre5 : ∀ t, own_S p e below m s₁ 7 #[lvI p0_, lvI p1_, lvI (0 : Int32), .unset, .unset, .unset, .unset, .unset, .unset, .unset, .unset, .unset, .unset, .unset, .unset, .unset, .unset, .unset, .unset, .unset] [(.int (p1_ &&& (4 : Int32)))] t → G t := by
      intro t kt
      refine pre4 t ?_
      show own_S p e below m s₁ 3 #[lvI p0_, lvI p1_, .unset, .unset, .unset, .unset, .unset, .unset, .unset, .unset, .unset, .unset, .unset, .unset, .unset, .unset, .unset, .unset, .unset, .unset] [(.int (0 : Int32))] _
      refine XS.istoreN X0.here hx rfl (hb hby at_3) rfl (l' := #[lvI p0_, lvI p1_, lvI (0 : Int32), .unset, .unset, .unset, .unset, .unset, .unset, .unset, .unset, .unset, .unset, .unset, .unset, .unset, .unset, .unset, .unset, .unset]) rfl ?_
      refine XS.iloadN X0.here hx rfl (hb hby at_4) rfl ?_
      refine XS.iconst X0.here hx rfl (hb hby at_5) ?_
      refine XS.iand X0.here hx rfl (hb hby at_6) rfl ?_
      exact kt
    obtain ⟨z6, hz6, prez6⟩ : ∃ z : Int32, (((0 : Int32) = z ∧ ((p1_ &&& (4 : Int32)) = (0 : Int32))) ∨ ((1 : Int32) = z ∧ ¬ ((p1_ &&& (4 : Int32)) = (0 : Int32)))) ∧ ∀ t, own_S p e below m s₁ 15 #[lvI p0_, lvI p1_, lvI (0 : Int32), .unset, .unset, .unset, .unset, .unset, .unset, .unset, .unset, .unset, .unset, .unset, .unset, .unset, .unset, .unset, .unset, .unset] [(.int z)] t → G t := by
      by_cases hc7 : (p1_ &&& (4 : Int32)) = (0 : Int32)
      · refine ⟨(0 : Int32), Or.inl ⟨rfl, hc7⟩, fun t kt => pre5 t ?_⟩
        show own_S p e below m s₁ 7 #[lvI p0_, lvI p1_, lvI (0 : Int32), .unset, .unset, .unset, .unset, .unset, .unset, .unset, .unset, .unset, .unset, .unset, .unset, .unset, .unset, .unset, .unset, .unset] [(.int (p1_ &&& (4 : Int32)))] _
        refine XS.ifYes X0.here hx rfl (pc0 := 7) (pc' := 14) rfl (hb hby at_7) rfl ((if0 _ _).trans (teq hc7).1) (by decide) (by decide) ?_
        refine XS.iconst X0.here hx rfl (hb hby at_14) ?_
        exact kt
      · refine ⟨(1 : Int32), Or.inr ⟨rfl, hc7⟩, fun t kt => pre5 t ?_⟩
        show own_S p e below m s₁ 7 #[lvI p0_, lvI p1_, lvI (0 : Int32), .unset, .unset, .unset, .unset, .unset, .unset, .unset, .unset, .unset, .unset, .unset, .unset, .unset, .unset, .unset, .unset, .unset] [(.int (p1_ &&& (4 : Int32)))] _
        refine XS.ifNo X0.here hx rfl (hb hby at_7) rfl ((if0 _ _).trans (feq hc7).1) ?_
        refine XS.iconst X0.here hx rfl (hb hby at_10) ?_
        refine XS.goto X0.here hx rfl (pc0 := 11) (pc' := 15) rfl (hb hby at_11) (by decide) (by decide) ?_
        exact kt
    have pre8 : ∀ t, own_S p e below m s₁ 19 #[lvI p0_, lvI p1_, lvI (0 : Int32), lvI z6, .unset, .unset, .unset, .unset, .unset, .unset, .unset, .unset, .unset, .unset, .unset, .unset, .unset, .unset, .unset, .unset] [(.int (p1_ &&& (1 : Int32)))] t → G t := by
      intro t kt
      refine prez6 t ?_
      show own_S p e below m s₁ 15 #[lvI p0_, lvI p1_, lvI (0 : Int32), .unset, .unset, .unset, .unset, .unset, .unset, .unset, .unset, .unset, .unset, .unset, .unset, .unset, .unset, .unset, .unset, .unset] [(.int z6)] _
      refine XS.istoreN X0.here hx rfl (hb hby at_15) rfl (l' := #[lvI p0_, lvI p1_, lvI (0 : Int32), lvI z6, .unset, .unset, .unset, .unset, .unset, .unset, .unset, .unset, .unset, .unset, .unset, .unset, .unset, .unset, .unset, .unset]) rfl ?_
      refine XS.iloadN X0.here hx rfl (hb hby at_16) rfl ?_
      refine XS.iconst X0.here hx rfl (hb hby at_17) ?_
      refine XS.iand X0.here hx rfl (hb hby at_18) rfl ?_
      exact kt
    obtain ⟨z9, hz9, prez9⟩ : ∃ z : Int32, (((0 : Int32) = z ∧ ((p1_ &&& (1 : Int32)) = (0 : Int32))) ∨ ((1 : Int32) = z ∧ ¬ ((p1_ &&& (1 : Int32)) = (0 : Int32)))) ∧ ∀ t, own_S p e below m s₁ 27 #[lvI p0_, lvI p1_, lvI (0 : Int32), lvI z6, .unset, .unset, .unset, .unset, .unset, .unset, .unset, .unset, .unset, .unset, .unset, .unset, .unset, .unset, .unset, .unset] [(.int z)] t → G t := by
      by_cases hc10 : (p1_ &&& (1 : Int32)) = (0 : Int32)
      · refine ⟨(0 : Int32), Or.inl ⟨rfl, hc10⟩, fun t kt => pre8 t ?_⟩
        show own_S p e below m s₁ 19 #[lvI p0_, lvI p1_, lvI (0 : Int32), lvI z6, .unset, .unset, .unset, .unset, .unset, .unset, .unset, .unset, .unset, .unset, .unset, .unset, .unset, .unset, .unset, .unset] [(.int (p1_ &&& (1 : Int32)))] _
        refine XS.ifYes X0.here hx rfl (pc0 := 19) (pc' := 26) rfl (hb hby at_19) rfl ((if0 _ _).trans (teq hc10).1) (by decide) (by decide) ?_
        refine XS.iconst X0.here hx rfl (hb hby at_26) ?_
        exact kt
      · refine ⟨(1 : Int32), Or.inr ⟨rfl, hc10⟩, fun t kt => pre8 t ?_⟩
        show own_S p e below m s₁ 19 #[lvI p0_, lvI p1_, lvI (0 : Int32), lvI z6, .unset, .unset, .unset, .unset, .unset, .unset, .unset, .unset, .unset, .unset, .unset, .unset, .unset, .unset, .unset, .unset] [(.int (p1_ &&& (1 : Int32)))] _
        refine XS.ifNo X0.here hx rfl (hb hby at_19) rfl ((if0 _ _).trans (feq hc10).1) ?_
        refine XS.iconst X0.here hx rfl (hb hby at_22) ?_
        refine XS.goto X0.here hx rfl (pc0 := 23) (pc' := 27) rfl (hb hby at_23) (by decide) (by decide) ?_
        exact kt
    have pre11 : ∀ t, own_S p e below m s₁ 32 #[lvI p0_, lvI p1_, lvI (0 : Int32), lvI z6, lvI z9, .unset, .unset, .unset, .unset, .unset, .unset, .unset, .unset, .unset, .unset, .unset, .unset, .unset, .unset, .unset] [(.int (p1_ &&& (2 : Int32)))] t → G t := by
      intro t kt
      refine prez9 t ?_
      show own_S p e below m s₁ 27 #[lvI p0_, lvI p1_, lvI (0 : Int32), lvI z6, .unset, .unset, .unset, .unset, .unset, .unset, .unset, .unset, .unset, .unset, .unset, .unset, .unset, .unset, .unset, .unset] [(.int z9)] _
      refine XS.istore X0.here hx rfl (hb hby at_27) rfl (l' := #[lvI p0_, lvI p1_, lvI (0 : Int32), lvI z6, lvI z9, .unset, .unset, .unset, .unset, .unset, .unset, .unset, .unset, .unset, .unset, .unset, .unset, .unset, .unset, .unset]) rfl ?_
      refine XS.iloadN X0.here hx rfl (hb hby at_29) rfl ?_
      refine XS.iconst X0.here hx rfl (hb hby at_30) ?_
      refine XS.iand X0.here hx rfl (hb hby at_31) rfl ?_
      exact kt
    obtain ⟨z12, hz12, prez12⟩ : ∃ z : Int32, (((0 : Int32) = z ∧ ((p1_ &&& (2 : Int32)) = (0 : Int32))) ∨ ((1 : Int32) = z ∧ ¬ ((p1_ &&& (2 : Int32)) = (0 : Int32)))) ∧ ∀ t, own_S p e below m s₁ 40 #[lvI p0_, lvI p1_, lvI (0 : Int32), lvI z6, lvI z9, .unset, .unset, .unset, .unset, .unset, .unset, .unset, .unset, .unset, .unset, .unset, .unset, .unset, .unset, .unset] [(.int z)] t → G t := by
      by_cases hc13 : (p1_ &&& (2 : Int32)) = (0 : Int32)
      · refine ⟨(0 : Int32), Or.inl ⟨rfl, hc13⟩, fun t kt => pre11 t ?_⟩
        show own_S p e below m s₁ 32 #[lvI p0_, lvI p1_, lvI (0 : Int32), lvI z6, lvI z9, .unset, .unset, .unset, .unset, .unset, .unset, .unset, .unset, .unset, .unset, .unset, .unset, .unset, .unset, .unset] [(.int (p1_ &&& (2 : Int32)))] _
        refine XS.ifYes X0.here hx rfl (pc0 := 32) (pc' := 39) rfl (hb hby at_32) rfl ((if0 _ _).trans (teq hc13).1) (by decide) (by decide) ?_
        refine XS.iconst X0.here hx rfl (hb hby at_39) ?_
        exact kt
      · refine ⟨(1 : Int32), Or.inr ⟨rfl, hc13⟩, fun t kt => pre11 t ?_⟩
        show own_S p e below m s₁ 32 #[lvI p0_, lvI p1_, lvI (0 : Int32), lvI z6, lvI z9, .unset, .unset, .unset, .unset, .unset, .unset, .unset, .unset, .unset, .unset, .unset, .unset, .unset, .unset, .unset] [(.int (p1_ &&& (2 : Int32)))] _
        refine XS.ifNo X0.here hx rfl (hb hby at_32) rfl ((if0 _ _).trans (feq hc13).1) ?_
        refine XS.iconst X0.here hx rfl (hb hby at_35) ?_
        refine XS.goto X0.here hx rfl (pc0 := 36) (pc' := 40) rfl (hb hby at_36) (by decide) (by decide) ?_
        exact kt
    obtain ⟨T14, h14, X14, e14, E14, A14, D14, -, st14⟩ := newO X0 hx hZ hown (own_w hw 0 rfl) (own_w hw 1 rfl) (own_w hw 2 rfl) e0 (g := (mkF m 42 #[lvI p0_, lvI p1_, lvI (0 : Int32), lvI z6, lvI z9, lvI z12, .unset, .unset, .unset, .unset, .unset, .unset, .unset, .unset, .unset, .unset, .unset, .unset, .unset, .unset] [])) rfl (hb hby at_42) (by decide) (by decide)
    obtain ⟨b14, g14⟩ : ∃ z, z = h0.size := ⟨_, rfl⟩
    rw [← g14] at A14 D14 st14
    have ge15 : n0 ≤ b14 := Nat.le_trans (Nat.le_trans (Nat.le_of_eq O0.1.symm) O0.2.1) (Nat.le_of_eq g14.symm)
    have sz16 : h0.size ≤ b14 := Nat.le_trans K0.1 (Nat.le_of_eq g14.symm)
    have f17 : Fld Z h14 b14 "latchwork/WaitQueue" "head" "Llatchwork/WaitQueue$Waiter;" .null := D14 (Or.inl (own_w hw 24 rfl)) (ty := (.object "latchwork/WaitQueue$Waiter")) (by decide)
    have f18 : Fld Z h14 b14 "latchwork/WaitQueue" "size" "I" (.int (0 : Int32)) := D14 (Or.inl (own_w hw 31 rfl)) (ty := .int) (by decide)
    have f19 : Fld Z h14 b14 "latchwork/WaitQueue" "tail" "Llatchwork/WaitQueue$Waiter;" .null := D14 (Or.inl (own_w hw 47 rfl)) (ty := (.object "latchwork/WaitQueue$Waiter")) (by decide)
    have f21 : Old Z n0 h14 := O0.ext E14
    obtain ⟨_, _, ⟨T20, L20, k20, n20⟩, -, X20, ⟨Lc20, hQ20, l20, y20, z20⟩, st20⟩ := X14.specialBack hx (y := (⟨"latchwork/WaitQueue", "<init>", "()V"⟩ : MethodName)) rfl hown (mvT hZ (own_w hw 3 rfl)) (mvT hZ (own_w hw 4 rfl)) (mvT hZ (own_w hw 5 rfl)) (by decide) (backOf (W := 1) (rminit1 l Z a0 hw [] b14 h14 n0 f21 A14 f17 f18 f19) hZ (own_w hw 5 rfl) (own_w hw 2 rfl) (by decide) (by decide)) (g := (mkF m 46 #[lvI p0_, lvI p1_, lvI (0 : Int32), lvI z6, lvI z9, lvI z12, .unset, .unset, .unset, .unset, .unset, .unset, .unset, .unset, .unset, .unset, .unset, .unset, .unset, .unset] [(.ref b14), (.ref b14)])) rfl (by rw [hml]; rfl) (Steps.refl _) (a := b14) (argsL := []) (rest := [(.ref b14)]) (lenOf pd_0 rfl) rfl (by show 2 * 0 + _ ≤ _; exact Nat.le_of_eq rfl) (hb hby at_46) (fun _ _ => ⟨rfl, e14, (by decide : 1 + 0 ≤ _), (by decide : 4 + 0 ≤ _)⟩)
    dsimp only [Pt.U, Pt.locs, Pt.cells, Pt.slots] at X20 l20 y20 z20 st20 hQ20
    subst l20 y20 z20
    obtain ⟨h20, e20⟩ : ∃ z, T20.heap = z := ⟨_, rfl⟩
    rw [e20] at hQ20
    obtain ⟨rfl, N20q, hh20⟩ := hQ20
    have N22 := Fr.app N0 N20q
    have e20' : T20.heap = h14 := e20.trans hh20
    obtain ⟨T23, h23, X23, e23, E23, A23, D23, -, st23⟩ := newO X20 hx hZ hown (own_w hw 9 rfl) (own_w hw 10 rfl) (own_w hw 11 rfl) e20' (g := (mkF m 51 #[lvI p0_, lvI p1_, lvI (0 : Int32), lvI z6, lvI z9, lvI z12, lvR b14, .unset, .unset, .unset, .unset, .unset, .unset, .unset, .unset, .unset, .unset, .unset, .unset, .unset] [])) rfl (hb hby at_51) (by decide) (by decide)
    obtain ⟨b23, g23⟩ : ∃ z, z = h14.size := ⟨_, rfl⟩
    rw [← g23] at A23 D23 st23
    have ge24 : n0 ≤ b23 := Nat.le_trans (Nat.le_trans (Nat.le_of_eq f21.1.symm) f21.2.1) (Nat.le_of_eq g23.symm)
    have f25 : Keep h0 h14 [] := K0.ext E14
    have sz26 : h0.size ≤ b23 := Nat.le_trans f25.1 (Nat.le_of_eq g23.symm)
    have f27 : Fld Z h23 b23 cn0 "thread" "Ljava/lang/Thread;" .null := D23 (Or.inr (own_w hw 17 rfl)) (ty := (.object "java/lang/Thread")) (by decide)
    have f28 : Fld Z h23 b23 cn0 "picked" "Z" (.int (0 : Int32)) := D23 (Or.inl (own_w hw 49 rfl)) (ty := .boolean) (by decide)
    have f29 : Fld Z h23 b23 cn0 "queued" "Z" (.int (0 : Int32)) := D23 (Or.inl (own_w hw 51 rfl)) (ty := .boolean) (by decide)
    have f30 : Fld Z h23 b23 cn0 "next" "Llatchwork/WaitQueue$Waiter;" .null := D23 (Or.inl (own_w hw 53 rfl)) (ty := (.object "latchwork/WaitQueue$Waiter")) (by decide)
    have f31 : Fld Z h23 b23 cn0 "prev" "Llatchwork/WaitQueue$Waiter;" .null := D23 (Or.inl (own_w hw 55 rfl)) (ty := (.object "latchwork/WaitQueue$Waiter")) (by decide)
    have f33 : Old Z n0 h23 := f21.ext E23
    obtain ⟨_, _, ⟨T32, L32, k32, n32⟩, -, X32, ⟨Lc32, hQ32, l32, y32, z32⟩, st32⟩ := X23.specialBack hx (y := (⟨"latchwork/WaitQueue$Waiter", "<init>", "(Ljava/lang/Thread;)V"⟩ : MethodName)) rfl hown (mvT hZ (own_w hw 12 rfl)) (mvT hZ (own_w hw 13 rfl)) (mvT hZ (own_w hw 14 rfl)) (by decide) (backOf (W := 1) (rminit2 l Z a0 hw [] b23 h23 n0 f33 A23 f27 f28 f29 f30 f31 ge24) hZ (own_w hw 14 rfl) (own_w hw 11 rfl) (by decide) (by decide)) (g := (mkF m 56 #[lvI p0_, lvI p1_, lvI (0 : Int32), lvI z6, lvI z9, lvI z12, lvR b14, .unset, .unset, .unset, .unset, .unset, .unset, .unset, .unset, .unset, .unset, .unset, .unset, .unset] [.null, (.ref b23), (.ref b23)])) rfl (by rw [hml]; rfl) (Steps.refl _) (a := b23) (argsL := [.null]) (rest := [(.ref b23)]) (lenOf pd_1 rfl) rfl (by show 2 * 0 + _ ≤ _; exact Nat.le_of_eq rfl) (hb hby at_56) (fun _ _ => ⟨rfl, e23, (by decide : 2 + 0 ≤ _), (by decide : 12 + 0 ≤ _)⟩)
    dsimp only [Pt.U, Pt.locs, Pt.cells, Pt.slots] at X32 l32 y32 z32 st32 hQ32
    subst l32 y32 z32
    obtain ⟨h32, e32⟩ : ∃ z, T32.heap = z := ⟨_, rfl⟩
    rw [e32] at hQ32
    obtain ⟨rfl, N32q, K32, g32_0, g32_1, g32_2, g32_3, g32_4, g32_5⟩ := hQ32
    have N34 := Fr.app N22 N32q
    obtain ⟨T35, h35, X35, e35, E35, A35, D35, -, st35⟩ := newO X32 hx hZ hown (own_w hw 9 rfl) (own_w hw 10 rfl) (own_w hw 11 rfl) e32 (g := (mkF m 61 #[lvI p0_, lvI p1_, lvI (0 : Int32), lvI z6, lvI z9, lvI z12, lvR b14, lvR b23, .unset, .unset, .unset, .unset, .unset, .unset, .unset, .unset, .unset, .unset, .unset, .unset] [])) rfl (hb hby at_61) (by decide) (by decide)
    obtain ⟨b35, g35⟩ : ∃ z, z = h32.size := ⟨_, rfl⟩
    rw [← g35] at A35 D35 st35
    have f36 : Old Z n0 h32 := f33.keep K32 (allS (ge24) all0)
    have ge37 : n0 ≤ b35 := Nat.le_trans (Nat.le_trans (Nat.le_of_eq f36.1.symm) f36.2.1) (Nat.le_of_eq g35.symm)
    have f38 : Keep h0 h23 [] := f25.ext E23
    have f39 : Keep h0 h32 [] := f38.trans K32 (allS (Or.inr sz26) all0)
    have sz40 : h0.size ≤ b35 := Nat.le_trans f39.1 (Nat.le_of_eq g35.symm)
    have f41 : Fld Z h35 b35 cn0 "thread" "Ljava/lang/Thread;" .null := D35 (Or.inr (own_w hw 17 rfl)) (ty := (.object "java/lang/Thread")) (by decide)
    have f42 : Fld Z h35 b35 cn0 "picked" "Z" (.int (0 : Int32)) := D35 (Or.inl (own_w hw 49 rfl)) (ty := .boolean) (by decide)
    have f43 : Fld Z h35 b35 cn0 "queued" "Z" (.int (0 : Int32)) := D35 (Or.inl (own_w hw 51 rfl)) (ty := .boolean) (by decide)
    have f44 : Fld Z h35 b35 cn0 "next" "Llatchwork/WaitQueue$Waiter;" .null := D35 (Or.inl (own_w hw 53 rfl)) (ty := (.object "latchwork/WaitQueue$Waiter")) (by decide)
    have f45 : Fld Z h35 b35 cn0 "prev" "Llatchwork/WaitQueue$Waiter;" .null := D35 (Or.inl (own_w hw 55 rfl)) (ty := (.object "latchwork/WaitQueue$Waiter")) (by decide)
    have f47 : Old Z n0 h35 := f36.ext E35
    obtain ⟨_, _, ⟨T46, L46, k46, n46⟩, -, X46, ⟨Lc46, hQ46, l46, y46, z46⟩, st46⟩ := X35.specialBack hx (y := (⟨"latchwork/WaitQueue$Waiter", "<init>", "(Ljava/lang/Thread;)V"⟩ : MethodName)) rfl hown (mvT hZ (own_w hw 12 rfl)) (mvT hZ (own_w hw 13 rfl)) (mvT hZ (own_w hw 14 rfl)) (by decide) (backOf (W := 1) (rminit2 l Z a0 hw [] b35 h35 n0 f47 A35 f41 f42 f43 f44 f45 ge37) hZ (own_w hw 14 rfl) (own_w hw 11 rfl) (by decide) (by decide)) (g := (mkF m 66 #[lvI p0_, lvI p1_, lvI (0 : Int32), lvI z6, lvI z9, lvI z12, lvR b14, lvR b23, .unset, .unset, .unset, .unset, .unset, .unset, .unset, .unset, .unset, .unset, .unset, .unset] [.null, (.ref b35), (.ref b35)])) rfl (by rw [hml]; rfl) (Steps.refl _) (a := b35) (argsL := [.null]) (rest := [(.ref b35)]) (lenOf pd_1 rfl) rfl (by show 2 * 0 + _ ≤ _; exact Nat.le_of_eq rfl) (hb hby at_66) (fun _ _ => ⟨rfl, e35, (by decide : 3 + 0 ≤ _), (by decide : 20 + 0 ≤ _)⟩)
    dsimp only [Pt.U, Pt.locs, Pt.cells, Pt.slots] at X46 l46 y46 z46 st46 hQ46
    subst l46 y46 z46
    obtain ⟨h46, e46⟩ : ∃ z, T46.heap = z := ⟨_, rfl⟩
    rw [e46] at hQ46
    obtain ⟨rfl, N46q, K46, g46_0, g46_1, g46_2, g46_3, g46_4, g46_5⟩ := hQ46
    have N48 := Fr.app N34 N46q
    obtain ⟨T49, h49, X49, e49, E49, A49, D49, -, st49⟩ := newO X46 hx hZ hown (own_w hw 9 rfl) (own_w hw 10 rfl) (own_w hw 11 rfl) e46 (g := (mkF m 71 #[lvI p0_, lvI p1_, lvI (0 : Int32), lvI z6, lvI z9, lvI z12, lvR b14, lvR b23, lvR b35, .unset, .unset, .unset, .unset, .unset, .unset, .unset, .unset, .unset, .unset, .unset] [])) rfl (hb hby at_71) (by decide) (by decide)
    obtain ⟨b49, g49⟩ : ∃ z, z = h46.size := ⟨_, rfl⟩
    rw [← g49] at A49 D49 st49
    have f50 : Old Z n0 h46 := f47.keep K46 (allS (ge37) all0)
    have ge51 : n0 ≤ b49 := Nat.le_trans (Nat.le_trans (Nat.le_of_eq f50.1.symm) f50.2.1) (Nat.le_of_eq g49.symm)
    have f52 : Keep h0 h35 [] := f39.ext E35
    have f53 : Keep h0 h46 [] := f52.trans K46 (allS (Or.inr sz40) all0)
    have sz54 : h0.size ≤ b49 := Nat.le_trans f53.1 (Nat.le_of_eq g49.symm)
    have f55 : Fld Z h49 b49 cn0 "thread" "Ljava/lang/Thread;" .null := D49 (Or.inr (own_w hw 17 rfl)) (ty := (.object "java/lang/Thread")) (by decide)
    have f56 : Fld Z h49 b49 cn0 "picked" "Z" (.int (0 : Int32)) := D49 (Or.inl (own_w hw 49 rfl)) (ty := .boolean) (by decide)
    have f57 : Fld Z h49 b49 cn0 "queued" "Z" (.int (0 : Int32)) := D49 (Or.inl (own_w hw 51 rfl)) (ty := .boolean) (by decide)
    have f58 : Fld Z h49 b49 cn0 "next" "Llatchwork/WaitQueue$Waiter;" .null := D49 (Or.inl (own_w hw 53 rfl)) (ty := (.object "latchwork/WaitQueue$Waiter")) (by decide)
    have f59 : Fld Z h49 b49 cn0 "prev" "Llatchwork/WaitQueue$Waiter;" .null := D49 (Or.inl (own_w hw 55 rfl)) (ty := (.object "latchwork/WaitQueue$Waiter")) (by decide)
    have f61 : Old Z n0 h49 := f50.ext E49
    obtain ⟨_, _, ⟨T60, L60, k60, n60⟩, -, X60, ⟨Lc60, hQ60, l60, y60, z60⟩, st60⟩ := X49.specialBack hx (y := (⟨"latchwork/WaitQueue$Waiter", "<init>", "(Ljava/lang/Thread;)V"⟩ : MethodName)) rfl hown (mvT hZ (own_w hw 12 rfl)) (mvT hZ (own_w hw 13 rfl)) (mvT hZ (own_w hw 14 rfl)) (by decide) (backOf (W := 1) (rminit2 l Z a0 hw [] b49 h49 n0 f61 A49 f55 f56 f57 f58 f59 ge51) hZ (own_w hw 14 rfl) (own_w hw 11 rfl) (by decide) (by decide)) (g := (mkF m 76 #[lvI p0_, lvI p1_, lvI (0 : Int32), lvI z6, lvI z9, lvI z12, lvR b14, lvR b23, lvR b35, .unset, .unset, .unset, .unset, .unset, .unset, .unset, .unset, .unset, .unset, .unset] [.null, (.ref b49), (.ref b49)])) rfl (by rw [hml]; rfl) (Steps.refl _) (a := b49) (argsL := [.null]) (rest := [(.ref b49)]) (lenOf pd_1 rfl) rfl (by show 2 * 0 + _ ≤ _; exact Nat.le_of_eq rfl) (hb hby at_76) (fun _ _ => ⟨rfl, e49, (by decide : 4 + 0 ≤ _), (by decide : 28 + 0 ≤ _)⟩)
    dsimp only [Pt.U, Pt.locs, Pt.cells, Pt.slots] at X60 l60 y60 z60 st60 hQ60
    subst l60 y60 z60
    obtain ⟨h60, e60⟩ : ∃ z, T60.heap = z := ⟨_, rfl⟩
    rw [e60] at hQ60
    obtain ⟨rfl, N60q, K60, g60_0, g60_1, g60_2, g60_3, g60_4, g60_5⟩ := hQ60
    have N62 := Fr.app N48 N60q
    have f64 : Exa Z h23 b14 "latchwork/WaitQueue" := A14.ext E23
    have f65 : Exa Z h32 b14 "latchwork/WaitQueue" := f64.keep K32
    have f66 : Exa Z h35 b14 "latchwork/WaitQueue" := f65.ext E35
    have f67 : Exa Z h46 b14 "latchwork/WaitQueue" := f66.keep K46
    have f68 : Exa Z h49 b14 "latchwork/WaitQueue" := f67.ext E49
    have f69 : Exa Z h60 b14 "latchwork/WaitQueue" := f68.keep K60
    have f70 : Fld Z h23 b14 "latchwork/WaitQueue" "head" "Llatchwork/WaitQueue$Waiter;" .null := f17.ext E23
    have ne72 : b14 ≠ b23 := Nat.ne_of_lt (Nat.lt_of_lt_of_le A14.lt (Nat.le_of_eq g23.symm))
    have f71 : Fld Z h32 b14 "latchwork/WaitQueue" "head" "Llatchwork/WaitQueue$Waiter;" .null := f70.keep K32 (ninS ne72 nin0)
    have f73 : Fld Z h35 b14 "latchwork/WaitQueue" "head" "Llatchwork/WaitQueue$Waiter;" .null := f71.ext E35
    have ne75 : b14 ≠ b35 := Nat.ne_of_lt (Nat.lt_of_lt_of_le f65.lt (Nat.le_of_eq g35.symm))
    have f74 : Fld Z h46 b14 "latchwork/WaitQueue" "head" "Llatchwork/WaitQueue$Waiter;" .null := f73.keep K46 (ninS ne75 nin0)
    have f76 : Fld Z h49 b14 "latchwork/WaitQueue" "head" "Llatchwork/WaitQueue$Waiter;" .null := f74.ext E49
    have ne78 : b14 ≠ b49 := Nat.ne_of_lt (Nat.lt_of_lt_of_le f67.lt (Nat.le_of_eq g49.symm))
    have f77 : Fld Z h60 b14 "latchwork/WaitQueue" "head" "Llatchwork/WaitQueue$Waiter;" .null := f76.keep K60 (ninS ne78 nin0)
    have f79 : Fld Z h23 b14 "latchwork/WaitQueue" "size" "I" (.int (0 : Int32)) := f18.ext E23
    have f80 : Fld Z h32 b14 "latchwork/WaitQueue" "size" "I" (.int (0 : Int32)) := f79.keep K32 (ninS ne72 nin0)
    have f81 : Fld Z h35 b14 "latchwork/WaitQueue" "size" "I" (.int (0 : Int32)) := f80.ext E35
    have f82 : Fld Z h46 b14 "latchwork/WaitQueue" "size" "I" (.int (0 : Int32)) := f81.keep K46 (ninS ne75 nin0)
    have f83 : Fld Z h49 b14 "latchwork/WaitQueue" "size" "I" (.int (0 : Int32)) := f82.ext E49
    have f84 : Fld Z h60 b14 "latchwork/WaitQueue" "size" "I" (.int (0 : Int32)) := f83.keep K60 (ninS ne78 nin0)
    have f85 : Fld Z h23 b14 "latchwork/WaitQueue" "tail" "Llatchwork/WaitQueue$Waiter;" .null := f19.ext E23
    have f86 : Fld Z h32 b14 "latchwork/WaitQueue" "tail" "Llatchwork/WaitQueue$Waiter;" .null := f85.keep K32 (ninS ne72 nin0)
    have f87 : Fld Z h35 b14 "latchwork/WaitQueue" "tail" "Llatchwork/WaitQueue$Waiter;" .null := f86.ext E35
    have f88 : Fld Z h46 b14 "latchwork/WaitQueue" "tail" "Llatchwork/WaitQueue$Waiter;" .null := f87.keep K46 (ninS ne75 nin0)
    have f89 : Fld Z h49 b14 "latchwork/WaitQueue" "tail" "Llatchwork/WaitQueue$Waiter;" .null := f88.ext E49
    have f90 : Fld Z h60 b14 "latchwork/WaitQueue" "tail" "Llatchwork/WaitQueue$Waiter;" .null := f89.keep K60 (ninS ne78 nin0)
    have f91 : Old Z n0 h60 := f61.keep K60 (allS (ge51) all0)
    obtain ⟨cq63, kq63, q63a, q63b, q63c⟩ := isOf hZ e60 f69
    obtain ⟨_, _, ⟨T63, L63, k63, n63⟩, -, X63, ⟨Lc63, hQ63, l63, y63, z63⟩, st63⟩ := X60.virtualBack hx (y := (⟨"latchwork/WaitQueue", "poll", "()Llatchwork/WaitQueue$Waiter;"⟩ : MethodName)) (z := (⟨"latchwork/WaitQueue", "poll", "()Llatchwork/WaitQueue$Waiter;"⟩ : MethodName)) hown (mvT hZ (own_w hw 18 rfl)) (mvT hZ (own_w hw 19 rfl)) (notFace_of_selects (args := #[]) (mvT hZ (own_w hw 21 rfl))) (mvT hZ (own_w hw 21 rfl)) (mvT hZ (own_w hw 20 rfl)) (by decide) (backOf (W := 0) (rmpoll3 l Z a0 hw [] b14 h60 n0 f91 f69 f77 f84 f90) hZ (own_w hw 22 rfl) (own_w hw 2 rfl) (by decide) (by decide)) q63a q63c (g := (mkF m 203 #[lvI p0_, lvI p1_, lvI (0 : Int32), lvI z6, lvI z9, lvI z12, lvR b14, lvR b23, lvR b35, lvR b49, .val .null, .val .null, .val .null, .unset, .unset, .unset, .unset, .unset, .unset, .unset] [(.ref b14)])) rfl (by rw [hml]; rfl) (Steps.refl _) (argsL := []) (rest := []) (lenOf pd_2 rfl) rfl (by show 2 * 0 + _ ≤ _; exact Nat.le_of_eq rfl) (hb hby at_203) (fun _ _ => ⟨rfl, e60, (by decide : 4 + 0 ≤ _), (by decide : 28 + 0 ≤ _)⟩)
    dsimp only [Pt.U, Pt.locs, Pt.cells, Pt.slots] at X63 l63 y63 z63 st63 hQ63
    subst l63 y63 z63
    obtain ⟨h63, e63⟩ : ∃ z, T63.heap = z := ⟨_, rfl⟩
    rw [e63] at hQ63
    obtain ⟨rfl, N63q, hh63⟩ := hQ63
    have N92 := Fr.app N62 N63q
    have e63' : T63.heap = h60 := e63.trans hh63
    obtain ⟨cq93, kq93, q93a, q93b, q93c⟩ := isOf hZ e63' f69
    obtain ⟨_, _, ⟨T93, L93, k93, n93⟩, -, X93, ⟨Lc93, hQ93, l93, y93, z93⟩, st93⟩ := X63.virtualBack hx (y := (⟨"latchwork/WaitQueue", "size", "()I"⟩ : MethodName)) (z := (⟨"latchwork/WaitQueue", "size", "()I"⟩ : MethodName)) hown (mvT hZ (own_w hw 25 rfl)) (mvT hZ (own_w hw 26 rfl)) (notFace_of_selects (args := #[]) (mvT hZ (own_w hw 28 rfl))) (mvT hZ (own_w hw 28 rfl)) (mvT hZ (own_w hw 27 rfl)) (by decide) (backOf (W := 0) (rmsize4 l Z a0 hw [] b14 h60 n0 f91 f69 f77 f84 f90) hZ (own_w hw 29 rfl) (own_w hw 2 rfl) (by decide) (by decide)) q93a q93c (g := (mkF m 210 #[lvI p0_, lvI p1_, lvI (0 : Int32), lvI z6, lvI z9, lvI z12, lvR b14, lvR b23, lvR b35, lvR b49, .val .null, .val .null, .val .null, .val .null, .unset, .unset, .unset, .unset, .unset, .unset] [(.ref b14)])) rfl (by rw [hml]; rfl) (Steps.refl _) (argsL := []) (rest := []) (lenOf pd_3 rfl) rfl (by show 2 * 0 + _ ≤ _; exact Nat.le_of_eq rfl) (hb hby at_210) (fun _ _ => ⟨rfl, e63', (by decide : 4 + 0 ≤ _), (by decide : 28 + 0 ≤ _)⟩)
    dsimp only [Pt.U, Pt.locs, Pt.cells, Pt.slots] at X93 l93 y93 z93 st93 hQ93
    subst l93 y93 z93
    obtain ⟨h93, e93⟩ : ∃ z, T93.heap = z := ⟨_, rfl⟩
    rw [e93] at hQ93
    obtain ⟨rfl, N93q, hh93⟩ := hQ93
    have N94 := Fr.app N92 N93q
    have e93' : T93.heap = h60 := e93.trans hh93
    obtain ⟨cq95, kq95, q95a, q95b, q95c⟩ := isOf hZ e93' f69
    obtain ⟨_, _, ⟨T95, L95, k95, n95⟩, -, X95, ⟨Lc95, hQ95, l95, y95, z95⟩, st95⟩ := X93.virtualBack hx (y := (⟨"latchwork/WaitQueue", "poll", "()Llatchwork/WaitQueue$Waiter;"⟩ : MethodName)) (z := (⟨"latchwork/WaitQueue", "poll", "()Llatchwork/WaitQueue$Waiter;"⟩ : MethodName)) hown (mvT hZ (own_w hw 18 rfl)) (mvT hZ (own_w hw 19 rfl)) (notFace_of_selects (args := #[]) (mvT hZ (own_w hw 21 rfl))) (mvT hZ (own_w hw 21 rfl)) (mvT hZ (own_w hw 20 rfl)) (by decide) (backOf (W := 0) (rmpoll3 l Z a0 hw [] b14 h60 n0 f91 f69 f77 f84 f90) hZ (own_w hw 22 rfl) (own_w hw 2 rfl) (by decide) (by decide)) q95a q95c (g := (mkF m 217 #[lvI p0_, lvI p1_, lvI (0 : Int32), lvI z6, lvI z9, lvI z12, lvR b14, lvR b23, lvR b35, lvR b49, .val .null, .val .null, .val .null, .val .null, lvI (0 : Int32), .unset, .unset, .unset, .unset, .unset] [(.ref b14)])) rfl (by rw [hml]; rfl) (Steps.refl _) (argsL := []) (rest := []) (lenOf pd_2 rfl) rfl (by show 2 * 0 + _ ≤ _; exact Nat.le_of_eq rfl) (hb hby at_217) (fun _ _ => ⟨rfl, e93', (by decide : 4 + 0 ≤ _), (by decide : 28 + 0 ≤ _)⟩)
    dsimp only [Pt.U, Pt.locs, Pt.cells, Pt.slots] at X95 l95 y95 z95 st95 hQ95
    subst l95 y95 z95
    obtain ⟨h95, e95⟩ : ∃ z, T95.heap = z := ⟨_, rfl⟩
    rw [e95] at hQ95
    obtain ⟨rfl, N95q, hh95⟩ := hQ95
    have N96 := Fr.app N94 N95q
    have e95' : T95.heap = h60 := e95.trans hh95
    obtain ⟨cq97, kq97, q97a, q97b, q97c⟩ := isOf hZ e95' f69
    obtain ⟨_, _, ⟨T97, L97, k97, n97⟩, -, X97, ⟨Lc97, hQ97, l97, y97, z97⟩, st97⟩ := X95.virtualBack hx (y := (⟨"latchwork/WaitQueue", "poll", "()Llatchwork/WaitQueue$Waiter;"⟩ : MethodName)) (z := (⟨"latchwork/WaitQueue", "poll", "()Llatchwork/WaitQueue$Waiter;"⟩ : MethodName)) hown (mvT hZ (own_w hw 18 rfl)) (mvT hZ (own_w hw 19 rfl)) (notFace_of_selects (args := #[]) (mvT hZ (own_w hw 21 rfl))) (mvT hZ (own_w hw 21 rfl)) (mvT hZ (own_w hw 20 rfl)) (by decide) (backOf (W := 0) (rmpoll3 l Z a0 hw [] b14 h60 n0 f91 f69 f77 f84 f90) hZ (own_w hw 22 rfl) (own_w hw 2 rfl) (by decide) (by decide)) q97a q97c (g := (mkF m 224 #[lvI p0_, lvI p1_, lvI (0 : Int32), lvI z6, lvI z9, lvI z12, lvR b14, lvR b23, lvR b35, lvR b49, .val .null, .val .null, .val .null, .val .null, lvI (0 : Int32), .val .null, .unset, .unset, .unset, .unset] [(.ref b14)])) rfl (by rw [hml]; rfl) (Steps.refl _) (argsL := []) (rest := []) (lenOf pd_2 rfl) rfl (by show 2 * 0 + _ ≤ _; exact Nat.le_of_eq rfl) (hb hby at_224) (fun _ _ => ⟨rfl, e95', (by decide : 4 + 0 ≤ _), (by decide : 28 + 0 ≤ _)⟩)
    dsimp only [Pt.U, Pt.locs, Pt.cells, Pt.slots] at X97 l97 y97 z97 st97 hQ97
    subst l97 y97 z97
    obtain ⟨h97, e97⟩ : ∃ z, T97.heap = z := ⟨_, rfl⟩
    rw [e97] at hQ97
    obtain ⟨rfl, N97q, hh97⟩ := hQ97
    have N98 := Fr.app N96 N97q
    have e97' : T97.heap = h60 := e97.trans hh97
    obtain ⟨cq99, kq99, q99a, q99b, q99c⟩ := isOf hZ e97' f69
    obtain ⟨_, _, ⟨T99, L99, k99, n99⟩, -, X99, ⟨Lc99, hQ99, l99, y99, z99⟩, st99⟩ := X97.virtualBack hx (y := (⟨"latchwork/WaitQueue", "poll", "()Llatchwork/WaitQueue$Waiter;"⟩ : MethodName)) (z := (⟨"latchwork/WaitQueue", "poll", "()Llatchwork/WaitQueue$Waiter;"⟩ : MethodName)) hown (mvT hZ (own_w hw 18 rfl)) (mvT hZ (own_w hw 19 rfl)) (notFace_of_selects (args := #[]) (mvT hZ (own_w hw 21 rfl))) (mvT hZ (own_w hw 21 rfl)) (mvT hZ (own_w hw 20 rfl)) (by decide) (backOf (W := 0) (rmpoll3 l Z a0 hw [] b14 h60 n0 f91 f69 f77 f84 f90) hZ (own_w hw 22 rfl) (own_w hw 2 rfl) (by decide) (by decide)) q99a q99c (g := (mkF m 231 #[lvI p0_, lvI p1_, lvI (0 : Int32), lvI z6, lvI z9, lvI z12, lvR b14, lvR b23, lvR b35, lvR b49, .val .null, .val .null, .val .null, .val .null, lvI (0 : Int32), .val .null, .val .null, .unset, .unset, .unset] [(.ref b14)])) rfl (by rw [hml]; rfl) (Steps.refl _) (argsL := []) (rest := []) (lenOf pd_2 rfl) rfl (by show 2 * 0 + _ ≤ _; exact Nat.le_of_eq rfl) (hb hby at_231) (fun _ _ => ⟨rfl, e97', (by decide : 4 + 0 ≤ _), (by decide : 28 + 0 ≤ _)⟩)
    dsimp only [Pt.U, Pt.locs, Pt.cells, Pt.slots] at X99 l99 y99 z99 st99 hQ99
    subst l99 y99 z99
    obtain ⟨h99, e99⟩ : ∃ z, T99.heap = z := ⟨_, rfl⟩
    rw [e99] at hQ99
    obtain ⟨rfl, N99q, hh99⟩ := hQ99
    have N100 := Fr.app N98 N99q
    have e99' : T99.heap = h60 := e99.trans hh99
    obtain ⟨cq101, kq101, q101a, q101b, q101c⟩ := isOf hZ e99' f69
    obtain ⟨_, _, ⟨T101, L101, k101, n101⟩, -, X101, ⟨Lc101, hQ101, l101, y101, z101⟩, st101⟩ := X99.virtualBack hx (y := (⟨"latchwork/WaitQueue", "size", "()I"⟩ : MethodName)) (z := (⟨"latchwork/WaitQueue", "size", "()I"⟩ : MethodName)) hown (mvT hZ (own_w hw 25 rfl)) (mvT hZ (own_w hw 26 rfl)) (notFace_of_selects (args := #[]) (mvT hZ (own_w hw 28 rfl))) (mvT hZ (own_w hw 28 rfl)) (mvT hZ (own_w hw 27 rfl)) (by decide) (backOf (W := 0) (rmsize4 l Z a0 hw [] b14 h60 n0 f91 f69 f77 f84 f90) hZ (own_w hw 29 rfl) (own_w hw 2 rfl) (by decide) (by decide)) q101a q101c (g := (mkF m 238 #[lvI p0_, lvI p1_, lvI (0 : Int32), lvI z6, lvI z9, lvI z12, lvR b14, lvR b23, lvR b35, lvR b49, .val .null, .val .null, .val .null, .val .null, lvI (0 : Int32), .val .null, .val .null, .val .null, .unset, .unset] [(.ref b14)])) rfl (by rw [hml]; rfl) (Steps.refl _) (argsL := []) (rest := []) (lenOf pd_3 rfl) rfl (by show 2 * 0 + _ ≤ _; exact Nat.le_of_eq rfl) (hb hby at_238) (fun _ _ => ⟨rfl, e99', (by decide : 4 + 0 ≤ _), (by decide : 28 + 0 ≤ _)⟩)
    dsimp only [Pt.U, Pt.locs, Pt.cells, Pt.slots] at X101 l101 y101 z101 st101 hQ101
    subst l101 y101 z101
    obtain ⟨h101, e101⟩ : ∃ z, T101.heap = z := ⟨_, rfl⟩
    rw [e101] at hQ101
    obtain ⟨rfl, N101q, hh101⟩ := hQ101
    have N102 := Fr.app N100 N101q
    have e101' : T101.heap = h60 := e101.trans hh101
    obtain ⟨_, _, ⟨T103, L103, k103, n103⟩, -, X103, ⟨Lc103, hQ103, l103, y103, z103⟩, st103⟩ := Jvm.LawKit.callS X101 hx (y := (⟨"java/lang/Math", "max", "(II)I"⟩ : MethodName)) hown (mvT hZ (own_w hw 32 rfl)) (mvT hZ (own_w hw 33 rfl)) (mvT hZ (own_w hw 34 rfl)) (mvT hZ (own_w hw 35 rfl)) (by decide) (backOf (W := 1) (rmmax5 l Z a0 hw []  h60 n0 f91 ) hZ (own_w hw 35 rfl) (own_w hw 34 rfl) (by decide) (by decide)) (g := (mkF m 287 #[lvI p0_, lvI p1_, lvI (0 : Int32), lvI z6, lvI z9, lvI z12, lvR b14, lvR b23, lvR b35, lvR b49, .val .null, .val .null, .val .null, .val .null, lvI (0 : Int32), .val .null, .val .null, .val .null, lvI (0 : Int32), lvI (1 : Int32)] [(.int (0 : Int32)), (.int (-1 : Int32)), (.int (0 : Int32))])) rfl (by rw [hml]; rfl) (argsL := [(.int (-1 : Int32)), (.int (0 : Int32))]) (rest := [(.int (0 : Int32))]) (lenOf pd_4 rfl) rfl (by show 2 * 0 + _ ≤ _; exact Nat.le_of_eq rfl) (hb hby at_287) (fun _ _ => ⟨rfl, e101', (by decide : 4 + 0 ≤ _), (by decide : 28 + 0 ≤ _)⟩)
    dsimp only [Pt.U, Pt.locs, Pt.cells, Pt.slots] at X103 l103 y103 z103 st103 hQ103
    subst l103 y103 z103
    obtain ⟨h103, e103⟩ : ∃ z, T103.heap = z := ⟨_, rfl⟩
    rw [e103] at hQ103
    obtain ⟨rfl, N103q, hh103⟩ := hQ103
    have N104 := Fr.app N102 N103q
    have e103' : T103.heap = h60 := e103.trans hh103
    obtain ⟨cq105, kq105, q105a, q105b, q105c⟩ := isOf hZ e103' f69
    obtain ⟨_, _, ⟨T105, L105, k105, n105⟩, -, X105, ⟨Lc105, hQ105, l105, y105, z105⟩, st105⟩ := X103.virtualBack hx (y := (⟨"latchwork/WaitQueue", "first", "()Llatchwork/WaitQueue$Waiter;"⟩ : MethodName)) (z := (⟨"latchwork/WaitQueue", "first", "()Llatchwork/WaitQueue$Waiter;"⟩ : MethodName)) hown (mvT hZ (own_w hw 36 rfl)) (mvT hZ (own_w hw 37 rfl)) (notFace_of_selects (args := #[]) (mvT hZ (own_w hw 39 rfl))) (mvT hZ (own_w hw 39 rfl)) (mvT hZ (own_w hw 38 rfl)) (by decide) (backOf (W := 0) (rmfirst6 l Z a0 hw [] b14 h60 n0 f91 f69 f77 f84 f90) hZ (own_w hw 40 rfl) (own_w hw 2 rfl) (by decide) (by decide)) q105a q105c (g := (mkF m 300 #[lvI p0_, lvI p1_, lvI (0 : Int32), lvI z6, lvI z9, lvI z12, lvR b14, lvR b23, lvR b35, lvR b49, .val .null, .val .null, .val .null, .val .null, lvI (0 : Int32), .val .null, .val .null, .val .null, lvI (0 : Int32), lvI (1 : Int32)] [(.ref b14)])) rfl (by rw [hml]; rfl) (Steps.refl _) (argsL := []) (rest := []) (lenOf pd_2 rfl) rfl (by show 2 * 0 + _ ≤ _; exact Nat.le_of_eq rfl) (hb hby at_300) (fun _ _ => ⟨rfl, e103', (by decide : 4 + 0 ≤ _), (by decide : 28 + 0 ≤ _)⟩)
    dsimp only [Pt.U, Pt.locs, Pt.cells, Pt.slots] at X105 l105 y105 z105 st105 hQ105
    subst l105 y105 z105
    obtain ⟨h105, e105⟩ : ∃ z, T105.heap = z := ⟨_, rfl⟩
    rw [e105] at hQ105
    obtain ⟨rfl, N105q, hh105⟩ := hQ105
    have N106 := Fr.app N104 N105q
    have e105' : T105.heap = h60 := e105.trans hh105
    have pre107 : ∀ t, own_S p e below m T105 340 #[lvI p0_, lvI p1_, lvI (0 : Int32), lvI z6, lvI z9, lvI z12, lvR b14, lvR b23, lvR b35, lvR b49, .val .null, .val .null, .val .null, .val .null, lvI (0 : Int32), .val .null, .val .null, .val .null, lvI (0 : Int32), lvI (1 : Int32)] [(.int (1 : Int32))] t → G t := by
      intro t kt
      refine prez12 t ?_
      show own_S p e below m s₁ 40 #[lvI p0_, lvI p1_, lvI (0 : Int32), lvI z6, lvI z9, .unset, .unset, .unset, .unset, .unset, .unset, .unset, .unset, .unset, .unset, .unset, .unset, .unset, .unset, .unset] [(.int z12)] _
      refine XS.istore X0.here hx rfl (hb hby at_40) rfl (l' := #[lvI p0_, lvI p1_, lvI (0 : Int32), lvI z6, lvI z9, lvI z12, .unset, .unset, .unset, .unset, .unset, .unset, .unset, .unset, .unset, .unset, .unset, .unset, .unset, .unset]) rfl ?_
      show own_S p e below m s₁ 42 #[lvI p0_, lvI p1_, lvI (0 : Int32), lvI z6, lvI z9, lvI z12, .unset, .unset, .unset, .unset, .unset, .unset, .unset, .unset, .unset, .unset, .unset, .unset, .unset, .unset] [] _
      refine st14 _ ?_
      refine XS.dup X14.here hx rfl (hb hby at_45) rfl rfl ?_
      show own_S p e below m T14 46 #[lvI p0_, lvI p1_, lvI (0 : Int32), lvI z6, lvI z9, lvI z12, .unset, .unset, .unset, .unset, .unset, .unset, .unset, .unset, .unset, .unset, .unset, .unset, .unset, .unset] [(.ref b14), (.ref b14)] _
      refine st20.trans ?_
      refine XS.astore X20.here hx rfl (hb hby at_49) rfl rfl (l' := #[lvI p0_, lvI p1_, lvI (0 : Int32), lvI z6, lvI z9, lvI z12, lvR b14, .unset, .unset, .unset, .unset, .unset, .unset, .unset, .unset, .unset, .unset, .unset, .unset, .unset]) rfl ?_
      show own_S p e below m T20 51 #[lvI p0_, lvI p1_, lvI (0 : Int32), lvI z6, lvI z9, lvI z12, lvR b14, .unset, .unset, .unset, .unset, .unset, .unset, .unset, .unset, .unset, .unset, .unset, .unset, .unset] [] _
      refine st23 _ ?_
      refine XS.dup X23.here hx rfl (hb hby at_54) rfl rfl ?_
      refine XS.aconstNull X23.here hx rfl (hb hby at_55) ?_
      show own_S p e below m T23 56 #[lvI p0_, lvI p1_, lvI (0 : Int32), lvI z6, lvI z9, lvI z12, lvR b14, .unset, .unset, .unset, .unset, .unset, .unset, .unset, .unset, .unset, .unset, .unset, .unset, .unset] [.null, (.ref b23), (.ref b23)] _
      refine st32.trans ?_
      refine XS.astore X32.here hx rfl (hb hby at_59) rfl rfl (l' := #[lvI p0_, lvI p1_, lvI (0 : Int32), lvI z6, lvI z9, lvI z12, lvR b14, lvR b23, .unset, .unset, .unset, .unset, .unset, .unset, .unset, .unset, .unset, .unset, .unset, .unset]) rfl ?_
      show own_S p e below m T32 61 #[lvI p0_, lvI p1_, lvI (0 : Int32), lvI z6, lvI z9, lvI z12, lvR b14, lvR b23, .unset, .unset, .unset, .unset, .unset, .unset, .unset, .unset, .unset, .unset, .unset, .unset] [] _
      refine st35 _ ?_
      refine XS.dup X35.here hx rfl (hb hby at_64) rfl rfl ?_
      refine XS.aconstNull X35.here hx rfl (hb hby at_65) ?_
      show own_S p e below m T35 66 #[lvI p0_, lvI p1_, lvI (0 : Int32), lvI z6, lvI z9, lvI z12, lvR b14, lvR b23, .unset, .unset, .unset, .unset, .unset, .unset, .unset, .unset, .unset, .unset, .unset, .unset] [.null, (.ref b35), (.ref b35)] _
      refine st46.trans ?_
      refine XS.astore X46.here hx rfl (hb hby at_69) rfl rfl (l' := #[lvI p0_, lvI p1_, lvI (0 : Int32), lvI z6, lvI z9, lvI z12, lvR b14, lvR b23, lvR b35, .unset, .unset, .unset, .unset, .unset, .unset, .unset, .unset, .unset, .unset, .unset]) rfl ?_
      show own_S p e below m T46 71 #[lvI p0_, lvI p1_, lvI (0 : Int32), lvI z6, lvI z9, lvI z12, lvR b14, lvR b23, lvR b35, .unset, .unset, .unset, .unset, .unset, .unset, .unset, .unset, .unset, .unset, .unset] [] _
      refine st49 _ ?_
      refine XS.dup X49.here hx rfl (hb hby at_74) rfl rfl ?_
      refine XS.aconstNull X49.here hx rfl (hb hby at_75) ?_
      show own_S p e below m T49 76 #[lvI p0_, lvI p1_, lvI (0 : Int32), lvI z6, lvI z9, lvI z12, lvR b14, lvR b23, lvR b35, .unset, .unset, .unset, .unset, .unset, .unset, .unset, .unset, .unset, .unset, .unset] [.null, (.ref b49), (.ref b49)] _
      refine st60.trans ?_
      refine XS.astore X60.here hx rfl (hb hby at_79) rfl rfl (l' := #[lvI p0_, lvI p1_, lvI (0 : Int32), lvI z6, lvI z9, lvI z12, lvR b14, lvR b23, lvR b35, lvR b49, .unset, .unset, .unset, .unset, .unset, .unset, .unset, .unset, .unset, .unset]) rfl ?_
      refine XS.iloadN X60.here hx rfl (hb hby at_81) rfl ?_
      refine XS.iconst X60.here hx rfl (hb hby at_82) ?_
      show own_S p e below m T60 83 #[lvI p0_, lvI p1_, lvI (0 : Int32), lvI z6, lvI z9, lvI z12, lvR b14, lvR b23, lvR b35, lvR b49, .unset, .unset, .unset, .unset, .unset, .unset, .unset, .unset, .unset, .unset] [(.int (1 : Int32)), (.int (0 : Int32))] _
      refine XS.icmpYes X60.here hx rfl (pc0 := 83) (pc' := 94) rfl (hb hby at_83) rfl (tlt (by decide : (0 : Int32) < (1 : Int32))).1 (by decide) (by decide) ?_
      refine XS.iloadN X60.here hx rfl (hb hby at_94) rfl ?_
      refine XS.iconst X60.here hx rfl (hb hby at_95) ?_
      show own_S p e below m T60 96 #[lvI p0_, lvI p1_, lvI (0 : Int32), lvI z6, lvI z9, lvI z12, lvR b14, lvR b23, lvR b35, lvR b49, .unset, .unset, .unset, .unset, .unset, .unset, .unset, .unset, .unset, .unset] [(.int (2 : Int32)), (.int (0 : Int32))] _
      refine XS.icmpYes X60.here hx rfl (pc0 := 96) (pc' := 108) rfl (hb hby at_96) rfl (tlt (by decide : (0 : Int32) < (2 : Int32))).1 (by decide) (by decide) ?_
      refine XS.iloadN X60.here hx rfl (hb hby at_108) rfl ?_
      refine XS.iconst X60.here hx rfl (hb hby at_109) ?_
      show own_S p e below m T60 110 #[lvI p0_, lvI p1_, lvI (0 : Int32), lvI z6, lvI z9, lvI z12, lvR b14, lvR b23, lvR b35, lvR b49, .unset, .unset, .unset, .unset, .unset, .unset, .unset, .unset, .unset, .unset] [(.int (3 : Int32)), (.int (0 : Int32))] _
      refine XS.icmpYes X60.here hx rfl (pc0 := 110) (pc' := 122) rfl (hb hby at_110) rfl (tlt (by decide : (0 : Int32) < (3 : Int32))).1 (by decide) (by decide) ?_
      refine XS.aconstNull X60.here hx rfl (hb hby at_122) ?_
      refine XS.astore X60.here hx rfl (hb hby at_123) rfl rfl (l' := #[lvI p0_, lvI p1_, lvI (0 : Int32), lvI z6, lvI z9, lvI z12, lvR b14, lvR b23, lvR b35, lvR b49, .val .null, .unset, .unset, .unset, .unset, .unset, .unset, .unset, .unset, .unset]) rfl ?_
      refine XS.aconstNull X60.here hx rfl (hb hby at_125) ?_
      show own_S p e below m T60 126 #[lvI p0_, lvI p1_, lvI (0 : Int32), lvI z6, lvI z9, lvI z12, lvR b14, lvR b23, lvR b35, lvR b49, .val .null, .unset, .unset, .unset, .unset, .unset, .unset, .unset, .unset, .unset] [.null] _
      refine XS.astore X60.here hx rfl (hb hby at_126) rfl rfl (l' := #[lvI p0_, lvI p1_, lvI (0 : Int32), lvI z6, lvI z9, lvI z12, lvR b14, lvR b23, lvR b35, lvR b49, .val .null, .val .null, .unset, .unset, .unset, .unset, .unset, .unset, .unset, .unset]) rfl ?_
      refine XS.aconstNull X60.here hx rfl (hb hby at_128) ?_
      refine XS.astore X60.here hx rfl (hb hby at_129) rfl rfl (l' := #[lvI p0_, lvI p1_, lvI (0 : Int32), lvI z6, lvI z9, lvI z12, lvR b14, lvR b23, lvR b35, lvR b49, .val .null, .val .null, .val .null, .unset, .unset, .unset, .unset, .unset, .unset, .unset]) rfl ?_
      refine XS.iloadN X60.here hx rfl (hb hby at_131) rfl ?_
      show own_S p e below m T60 132 #[lvI p0_, lvI p1_, lvI (0 : Int32), lvI z6, lvI z9, lvI z12, lvR b14, lvR b23, lvR b35, lvR b49, .val .null, .val .null, .val .null, .unset, .unset, .unset, .unset, .unset, .unset, .unset] [(.int (0 : Int32))] _
      refine XS.iconst X60.here hx rfl (hb hby at_132) ?_
      show own_S p e below m T60 133 #[lvI p0_, lvI p1_, lvI (0 : Int32), lvI z6, lvI z9, lvI z12, lvR b14, lvR b23, lvR b35, lvR b49, .val .null, .val .null, .val .null, .unset, .unset, .unset, .unset, .unset, .unset, .unset] [(.int (1 : Int32)), (.int (0 : Int32))] _
      refine XS.icmpYes X60.here hx rfl (pc0 := 133) (pc' := 143) rfl (hb hby at_133) rfl (feq (by decide : ¬ ((0 : Int32) = (1 : Int32)))).2 (by decide) (by decide) ?_
      refine XS.iloadN X60.here hx rfl (hb hby at_143) rfl ?_
      refine XS.iconst X60.here hx rfl (hb hby at_144) ?_
      show own_S p e below m T60 145 #[lvI p0_, lvI p1_, lvI (0 : Int32), lvI z6, lvI z9, lvI z12, lvR b14, lvR b23, lvR b35, lvR b49, .val .null, .val .null, .val .null, .unset, .unset, .unset, .unset, .unset, .unset, .unset] [(.int (2 : Int32)), (.int (0 : Int32))] _
      refine XS.icmpYes X60.here hx rfl (pc0 := 145) (pc' := 201) rfl (hb hby at_145) rfl (tlt (by decide : (0 : Int32) < (2 : Int32))).1 (by decide) (by decide) ?_
      refine XS.aload X60.here hx rfl (hb hby at_201) rfl rfl ?_
      show own_S p e below m T60 203 #[lvI p0_, lvI p1_, lvI (0 : Int32), lvI z6, lvI z9, lvI z12, lvR b14, lvR b23, lvR b35, lvR b49, .val .null, .val .null, .val .null, .unset, .unset, .unset, .unset, .unset, .unset, .unset] [(.ref b14)] _
      refine st63.trans ?_
      refine XS.astore X63.here hx rfl (hb hby at_206) rfl rfl (l' := #[lvI p0_, lvI p1_, lvI (0 : Int32), lvI z6, lvI z9, lvI z12, lvR b14, lvR b23, lvR b35, lvR b49, .val .null, .val .null, .val .null, .val .null, .unset, .unset, .unset, .unset, .unset, .unset]) rfl ?_
      refine XS.aload X63.here hx rfl (hb hby at_208) rfl rfl ?_
      show own_S p e below m T63 210 #[lvI p0_, lvI p1_, lvI (0 : Int32), lvI z6, lvI z9, lvI z12, lvR b14, lvR b23, lvR b35, lvR b49, .val .null, .val .null, .val .null, .val .null, .unset, .unset, .unset, .unset, .unset, .unset] [(.ref b14)] _
      refine st93.trans ?_
      refine XS.istore X93.here hx rfl (hb hby at_213) rfl (l' := #[lvI p0_, lvI p1_, lvI (0 : Int32), lvI z6, lvI z9, lvI z12, lvR b14, lvR b23, lvR b35, lvR b49, .val .null, .val .null, .val .null, .val .null, lvI (0 : Int32), .unset, .unset, .unset, .unset, .unset]) rfl ?_
      refine XS.aload X93.here hx rfl (hb hby at_215) rfl rfl ?_
      show own_S p e below m T93 217 #[lvI p0_, lvI p1_, lvI (0 : Int32), lvI z6, lvI z9, lvI z12, lvR b14, lvR b23, lvR b35, lvR b49, .val .null, .val .null, .val .null, .val .null, lvI (0 : Int32), .unset, .unset, .unset, .unset, .unset] [(.ref b14)] _
      refine st95.trans ?_
      refine XS.astore X95.here hx rfl (hb hby at_220) rfl rfl (l' := #[lvI p0_, lvI p1_, lvI (0 : Int32), lvI z6, lvI z9, lvI z12, lvR b14, lvR b23, lvR b35, lvR b49, .val .null, .val .null, .val .null, .val .null, lvI (0 : Int32), .val .null, .unset, .unset, .unset, .unset]) rfl ?_
      refine XS.aload X95.here hx rfl (hb hby at_222) rfl rfl ?_
      show own_S p e below m T95 224 #[lvI p0_, lvI p1_, lvI (0 : Int32), lvI z6, lvI z9, lvI z12, lvR b14, lvR b23, lvR b35, lvR b49, .val .null, .val .null, .val .null, .val .null, lvI (0 : Int32), .val .null, .unset, .unset, .unset, .unset] [(.ref b14)] _
      refine st97.trans ?_
      refine XS.astore X97.here hx rfl (hb hby at_227) rfl rfl (l' := #[lvI p0_, lvI p1_, lvI (0 : Int32), lvI z6, lvI z9, lvI z12, lvR b14, lvR b23, lvR b35, lvR b49, .val .null, .val .null, .val .null, .val .null, lvI (0 : Int32), .val .null, .val .null, .unset, .unset, .unset]) rfl ?_
      refine XS.aload X97.here hx rfl (hb hby at_229) rfl rfl ?_
      show own_S p e below m T97 231 #[lvI p0_, lvI p1_, lvI (0 : Int32), lvI z6, lvI z9, lvI z12, lvR b14, lvR b23, lvR b35, lvR b49, .val .null, .val .null, .val .null, .val .null, lvI (0 : Int32), .val .null, .val .null, .unset, .unset, .unset] [(.ref b14)] _
      refine st99.trans ?_
      refine XS.astore X99.here hx rfl (hb hby at_234) rfl rfl (l' := #[lvI p0_, lvI p1_, lvI (0 : Int32), lvI z6, lvI z9, lvI z12, lvR b14, lvR b23, lvR b35, lvR b49, .val .null, .val .null, .val .null, .val .null, lvI (0 : Int32), .val .null, .val .null, .val .null, .unset, .unset]) rfl ?_
      refine XS.aload X99.here hx rfl (hb hby at_236) rfl rfl ?_
      show own_S p e below m T99 238 #[lvI p0_, lvI p1_, lvI (0 : Int32), lvI z6, lvI z9, lvI z12, lvR b14, lvR b23, lvR b35, lvR b49, .val .null, .val .null, .val .null, .val .null, lvI (0 : Int32), .val .null, .val .null, .val .null, .unset, .unset] [(.ref b14)] _
      refine st101.trans ?_
      refine XS.istore X101.here hx rfl (hb hby at_241) rfl (l' := #[lvI p0_, lvI p1_, lvI (0 : Int32), lvI z6, lvI z9, lvI z12, lvR b14, lvR b23, lvR b35, lvR b49, .val .null, .val .null, .val .null, .val .null, lvI (0 : Int32), .val .null, .val .null, .val .null, lvI (0 : Int32), .unset]) rfl ?_
      refine XS.aload X101.here hx rfl (hb hby at_243) rfl rfl ?_
      refine XS.aload X101.here hx rfl (hb hby at_245) rfl rfl ?_
      show own_S p e below m T101 247 #[lvI p0_, lvI p1_, lvI (0 : Int32), lvI z6, lvI z9, lvI z12, lvR b14, lvR b23, lvR b35, lvR b49, .val .null, .val .null, .val .null, .val .null, lvI (0 : Int32), .val .null, .val .null, .val .null, lvI (0 : Int32), .unset] [.null, .null] _
      refine Jvm.RoadKit.acmp (g := (mkF m 247 #[lvI p0_, lvI p1_, lvI (0 : Int32), lvI z6, lvI z9, lvI z12, lvR b14, lvR b23, lvR b35, lvR b49, .val .null, .val .null, .val .null, .val .null, lvI (0 : Int32), .val .null, .val .null, .val .null, lvI (0 : Int32), .unset] [.null, .null])) X101 hx rfl rfl rfl (pc0 := 247) (pc' := 250) (same := true) rfl (hb hby at_247) rfl (decide_eq_true rfl) (by decide) (by decide) ?_
      refine XS.aload X101.here hx rfl (hb hby at_250) rfl rfl ?_
      refine XS.aload X101.here hx rfl (hb hby at_252) rfl rfl ?_
      show own_S p e below m T101 254 #[lvI p0_, lvI p1_, lvI (0 : Int32), lvI z6, lvI z9, lvI z12, lvR b14, lvR b23, lvR b35, lvR b49, .val .null, .val .null, .val .null, .val .null, lvI (0 : Int32), .val .null, .val .null, .val .null, lvI (0 : Int32), .unset] [.null, .null] _
      refine Jvm.RoadKit.acmp (g := (mkF m 254 #[lvI p0_, lvI p1_, lvI (0 : Int32), lvI z6, lvI z9, lvI z12, lvR b14, lvR b23, lvR b35, lvR b49, .val .null, .val .null, .val .null, .val .null, lvI (0 : Int32), .val .null, .val .null, .val .null, lvI (0 : Int32), .unset] [.null, .null])) X101 hx rfl rfl rfl (pc0 := 254) (pc' := 257) (same := true) rfl (hb hby at_254) rfl (decide_eq_true rfl) (by decide) (by decide) ?_
      refine XS.aload X101.here hx rfl (hb hby at_257) rfl rfl ?_
      refine XS.aload X101.here hx rfl (hb hby at_259) rfl rfl ?_
      show own_S p e below m T101 261 #[lvI p0_, lvI p1_, lvI (0 : Int32), lvI z6, lvI z9, lvI z12, lvR b14, lvR b23, lvR b35, lvR b49, .val .null, .val .null, .val .null, .val .null, lvI (0 : Int32), .val .null, .val .null, .val .null, lvI (0 : Int32), .unset] [.null, .null] _
      refine Jvm.RoadKit.acmp (g := (mkF m 261 #[lvI p0_, lvI p1_, lvI (0 : Int32), lvI z6, lvI z9, lvI z12, lvR b14, lvR b23, lvR b35, lvR b49, .val .null, .val .null, .val .null, .val .null, lvI (0 : Int32), .val .null, .val .null, .val .null, lvI (0 : Int32), .unset] [.null, .null])) X101 hx rfl rfl rfl (pc0 := 261) (pc' := 264) (same := true) rfl (hb hby at_261) rfl (decide_eq_true rfl) (by decide) (by decide) ?_
      refine XS.aload X101.here hx rfl (hb hby at_264) rfl rfl ?_
      show own_S p e below m T101 266 #[lvI p0_, lvI p1_, lvI (0 : Int32), lvI z6, lvI z9, lvI z12, lvR b14, lvR b23, lvR b35, lvR b49, .val .null, .val .null, .val .null, .val .null, lvI (0 : Int32), .val .null, .val .null, .val .null, lvI (0 : Int32), .unset] [.null] _
      refine XS.ifnonnullNo X101.here hx rfl (hb hby at_266) rfl ?_
      refine XS.iconst X101.here hx rfl (hb hby at_269) ?_
      refine XS.goto X101.here hx rfl (pc0 := 270) (pc' := 274) rfl (hb hby at_270) (by decide) (by decide) ?_
      refine XS.istore X101.here hx rfl (hb hby at_274) rfl (l' := #[lvI p0_, lvI p1_, lvI (0 : Int32), lvI z6, lvI z9, lvI z12, lvR b14, lvR b23, lvR b35, lvR b49, .val .null, .val .null, .val .null, .val .null, lvI (0 : Int32), .val .null, .val .null, .val .null, lvI (0 : Int32), lvI (1 : Int32)]) rfl ?_
      show own_S p e below m T101 276 #[lvI p0_, lvI p1_, lvI (0 : Int32), lvI z6, lvI z9, lvI z12, lvR b14, lvR b23, lvR b35, lvR b49, .val .null, .val .null, .val .null, .val .null, lvI (0 : Int32), .val .null, .val .null, .val .null, lvI (0 : Int32), lvI (1 : Int32)] [] _
      refine XS.iload X101.here hx rfl (hb hby at_276) rfl ?_
      show own_S p e below m T101 278 #[lvI p0_, lvI p1_, lvI (0 : Int32), lvI z6, lvI z9, lvI z12, lvR b14, lvR b23, lvR b35, lvR b49, .val .null, .val .null, .val .null, .val .null, lvI (0 : Int32), .val .null, .val .null, .val .null, lvI (0 : Int32), lvI (1 : Int32)] [(.int (1 : Int32))] _
      refine XS.ifNo X101.here hx rfl (hb hby at_278) rfl ((if0 _ _).trans (feq (by decide : ¬ ((1 : Int32) = (0 : Int32)))).1) ?_
      refine XS.iload X101.here hx rfl (hb hby at_281) rfl ?_
      refine XS.iloadN X101.here hx rfl (hb hby at_283) rfl ?_
      refine XS.iconst X101.here hx rfl (hb hby at_284) ?_
      show own_S p e below m T101 285 #[lvI p0_, lvI p1_, lvI (0 : Int32), lvI z6, lvI z9, lvI z12, lvR b14, lvR b23, lvR b35, lvR b49, .val .null, .val .null, .val .null, .val .null, lvI (0 : Int32), .val .null, .val .null, .val .null, lvI (0 : Int32), lvI (1 : Int32)] [(.int (1 : Int32)), (.int (0 : Int32)), (.int (0 : Int32))] _
      refine XS.isub X101.here hx rfl (hb hby at_285) rfl ?_
      refine XS.iconst X101.here hx rfl (hb hby at_286) ?_
      show own_S p e below m T101 287 #[lvI p0_, lvI p1_, lvI (0 : Int32), lvI z6, lvI z9, lvI z12, lvR b14, lvR b23, lvR b35, lvR b49, .val .null, .val .null, .val .null, .val .null, lvI (0 : Int32), .val .null, .val .null, .val .null, lvI (0 : Int32), lvI (1 : Int32)] [(.int (0 : Int32)), (.int (-1 : Int32)), (.int (0 : Int32))] _
      refine st103 _ ?_
      show own_S p e below m T103 290 #[lvI p0_, lvI p1_, lvI (0 : Int32), lvI z6, lvI z9, lvI z12, lvR b14, lvR b23, lvR b35, lvR b49, .val .null, .val .null, .val .null, .val .null, lvI (0 : Int32), .val .null, .val .null, .val .null, lvI (0 : Int32), lvI (1 : Int32)] [(.int (0 : Int32)), (.int (0 : Int32))] _
      refine XS.icmpNo X103.here hx rfl (hb hby at_290) rfl (teq (by decide : (0 : Int32) = (0 : Int32))).2 ?_
      refine XS.iload X103.here hx rfl (hb hby at_293) rfl ?_
      show own_S p e below m T103 295 #[lvI p0_, lvI p1_, lvI (0 : Int32), lvI z6, lvI z9, lvI z12, lvR b14, lvR b23, lvR b35, lvR b49, .val .null, .val .null, .val .null, .val .null, lvI (0 : Int32), .val .null, .val .null, .val .null, lvI (0 : Int32), lvI (1 : Int32)] [(.int (0 : Int32))] _
      refine XS.ifNo X103.here hx rfl (hb hby at_295) rfl ((if0 _ _).trans (teq (by decide : (0 : Int32) = (0 : Int32))).2) ?_
      refine XS.aload X103.here hx rfl (hb hby at_298) rfl rfl ?_
      show own_S p e below m T103 300 #[lvI p0_, lvI p1_, lvI (0 : Int32), lvI z6, lvI z9, lvI z12, lvR b14, lvR b23, lvR b35, lvR b49, .val .null, .val .null, .val .null, .val .null, lvI (0 : Int32), .val .null, .val .null, .val .null, lvI (0 : Int32), lvI (1 : Int32)] [(.ref b14)] _
      refine st105.trans ?_
      show own_S p e below m T105 303 #[lvI p0_, lvI p1_, lvI (0 : Int32), lvI z6, lvI z9, lvI z12, lvR b14, lvR b23, lvR b35, lvR b49, .val .null, .val .null, .val .null, .val .null, lvI (0 : Int32), .val .null, .val .null, .val .null, lvI (0 : Int32), lvI (1 : Int32)] [.null] _
      refine XS.ifnonnullNo X105.here hx rfl (hb hby at_303) rfl ?_
      refine XS.iconst X105.here hx rfl (hb hby at_306) ?_
      refine XS.goto X105.here hx rfl (pc0 := 307) (pc' := 311) rfl (hb hby at_307) (by decide) (by decide) ?_
      refine XS.istore X105.here hx rfl (hb hby at_311) rfl (l' := #[lvI p0_, lvI p1_, lvI (0 : Int32), lvI z6, lvI z9, lvI z12, lvR b14, lvR b23, lvR b35, lvR b49, .val .null, .val .null, .val .null, .val .null, lvI (0 : Int32), .val .null, .val .null, .val .null, lvI (0 : Int32), lvI (1 : Int32)]) rfl ?_
      show own_S p e below m T105 313 #[lvI p0_, lvI p1_, lvI (0 : Int32), lvI z6, lvI z9, lvI z12, lvR b14, lvR b23, lvR b35, lvR b49, .val .null, .val .null, .val .null, .val .null, lvI (0 : Int32), .val .null, .val .null, .val .null, lvI (0 : Int32), lvI (1 : Int32)] [] _
      refine XS.iload X105.here hx rfl (hb hby at_313) rfl ?_
      show own_S p e below m T105 315 #[lvI p0_, lvI p1_, lvI (0 : Int32), lvI z6, lvI z9, lvI z12, lvR b14, lvR b23, lvR b35, lvR b49, .val .null, .val .null, .val .null, .val .null, lvI (0 : Int32), .val .null, .val .null, .val .null, lvI (0 : Int32), lvI (1 : Int32)] [(.int (1 : Int32))] _
      refine XS.ifNo X105.here hx rfl (hb hby at_315) rfl ((if0 _ _).trans (feq (by decide : ¬ ((1 : Int32) = (0 : Int32)))).1) ?_
      refine XS.aload X105.here hx rfl (hb hby at_318) rfl rfl ?_
      show own_S p e below m T105 320 #[lvI p0_, lvI p1_, lvI (0 : Int32), lvI z6, lvI z9, lvI z12, lvR b14, lvR b23, lvR b35, lvR b49, .val .null, .val .null, .val .null, .val .null, lvI (0 : Int32), .val .null, .val .null, .val .null, lvI (0 : Int32), lvI (1 : Int32)] [.null] _
      refine XS.ifnullYes X105.here hx rfl (pc0 := 320) (pc' := 338) rfl (hb hby at_320) rfl (by decide) (by decide) ?_
      refine XS.iload X105.here hx rfl (hb hby at_338) rfl ?_
      exact kt
    obtain ⟨fs, hr, hrun, hended, hW, hsame⟩ := X105.leave (v := some (.int (1 : Int32))) (fun h => by rw [Bd.returns] at h; cases h)
    refine ⟨_, _, hG _ (pre107 _ (retN X105 hx (t := .boolean) Bd.returns (by simp) (hb hby at_340) hr)), hrun, hended, _, _, rfl, ?_, ⟨_, rfl⟩, hW, hsame.mono (by decide) (by decide)⟩
    show QLaw Z p0_ p1_ h0 n0 _ T105.heap _
    rw [e105']
    exact ⟨rfl, N106⟩
  · have pre109 : ∀ t, own_S p e below m s₁ 3 #[lvI p0_, lvI p1_, .unset, .unset, .unset, .unset, .unset, .unset, .unset, .unset, .unset, .unset, .unset, .unset, .unset, .unset, .unset, .unset, .unset, .unset] [(.int (1 : Int32))] t → G t := fun t kt => pre1 t (by rw [hv3]; exact kt)
    have pre110 : ∀ t, own_S p e below m s₁ 7 #[lvI p0_, lvI p1_, lvI (1 : Int32), .unset, .unset, .unset, .unset, .unset, .unset, .unset, .unset, .unset, .unset, .unset, .unset, .unset, .unset, .unset, .unset, .unset] [(.int (p1_ &&& (4 : Int32)))] t → G t := by
      intro t kt
      refine pre109 t ?_
      show own_S p e below m s₁ 3 #[lvI p0_, lvI p1_, .unset, .unset, .unset, .unset, .unset, .unset, .unset, .unset, .unset, .unset, .unset, .unset, .unset, .unset, .unset, .unset, .unset, .unset] [(.int (1 : Int32))] _
      refine XS.istoreN X0.here hx rfl (hb hby at_3) rfl (l' := #[lvI p0_, lvI p1_, lvI (1 : Int32), .unset, .unset, .unset, .unset, .unset, .unset, .unset, .unset, .unset, .unset, .unset, .unset, .unset, .unset, .unset, .unset, .unset]) rfl ?_
      refine XS.iloadN X0.here hx rfl (hb hby at_4) rfl ?_
      refine XS.iconst X0.here hx rfl (hb hby at_5) ?_
      refine XS.iand X0.here hx rfl (hb hby at_6) rfl ?_
      exact kt
    obtain ⟨z111, hz111, prez111⟩ : ∃ z : Int32, (((0 : Int32) = z ∧ ((p1_ &&& (4 : Int32)) = (0 : Int32))) ∨ ((1 : Int32) = z ∧ ¬ ((p1_ &&& (4 : Int32)) = (0 : Int32)))) ∧ ∀ t, own_S p e below m s₁ 15 #[lvI p0_, lvI p1_, lvI (1 : Int32), .unset, .unset, .unset, .unset, .unset, .unset, .unset, .unset, .unset, .unset, .unset, .unset, .unset, .unset, .unset, .unset, .unset] [(.int z)] t → G t := by
      by_cases hc112 : (p1_ &&& (4 : Int32)) = (0 : Int32)
      · refine ⟨(0 : Int32), Or.inl ⟨rfl, hc112⟩, fun t kt => pre110 t ?_⟩
        show own_S p e below m s₁ 7 #[lvI p0_, lvI p1_, lvI (1 : Int32), .unset, .unset, .unset, .unset, .unset, .unset, .unset, .unset, .unset, .unset, .unset, .unset, .unset, .unset, .unset, .unset, .unset] [(.int (p1_ &&& (4 : Int32)))] _
        refine XS.ifYes X0.here hx rfl (pc0 := 7) (pc' := 14) rfl (hb hby at_7) rfl ((if0 _ _).trans (teq hc112).1) (by decide) (by decide) ?_
        refine XS.iconst X0.here hx rfl (hb hby at_14) ?_
        exact kt
      · refine ⟨(1 : Int32), Or.inr ⟨rfl, hc112⟩, fun t kt => pre110 t ?_⟩
        show own_S p e below m s₁ 7 #[lvI p0_, lvI p1_, lvI (1 : Int32), .unset, .unset, .unset, .unset, .unset, .unset, .unset, .unset, .unset, .unset, .unset, .unset, .unset, .unset, .unset, .unset, .unset] [(.int (p1_ &&& (4 : Int32)))] _
        refine XS.ifNo X0.here hx rfl (hb hby at_7) rfl ((if0 _ _).trans (feq hc112).1) ?_
        refine XS.iconst X0.here hx rfl (hb hby at_10) ?_
        refine XS.goto X0.here hx rfl (pc0 := 11) (pc' := 15) rfl (hb hby at_11) (by decide) (by decide) ?_
        exact kt
    have pre113 : ∀ t, own_S p e below m s₁ 19 #[lvI p0_, lvI p1_, lvI (1 : Int32), lvI z111, .unset, .unset, .unset, .unset, .unset, .unset, .unset, .unset, .unset, .unset, .unset, .unset, .unset, .unset, .unset, .unset] [(.int (p1_ &&& (1 : Int32)))] t → G t := by
      intro t kt
      refine prez111 t ?_
      show own_S p e below m s₁ 15 #[lvI p0_, lvI p1_, lvI (1 : Int32), .unset, .unset, .unset, .unset, .unset, .unset, .unset, .unset, .unset, .unset, .unset, .unset, .unset, .unset, .unset, .unset, .unset] [(.int z111)] _
      refine XS.istoreN X0.here hx rfl (hb hby at_15) rfl (l' := #[lvI p0_, lvI p1_, lvI (1 : Int32), lvI z111, .unset, .unset, .unset, .unset, .unset, .unset, .unset, .unset, .unset, .unset, .unset, .unset, .unset, .unset, .unset, .unset]) rfl ?_
      refine XS.iloadN X0.here hx rfl (hb hby at_16) rfl ?_
      refine XS.iconst X0.here hx rfl (hb hby at_17) ?_
      refine XS.iand X0.here hx rfl (hb hby at_18) rfl ?_
      exact kt
    obtain ⟨z114, hz114, prez114⟩ : ∃ z : Int32, (((0 : Int32) = z ∧ ((p1_ &&& (1 : Int32)) = (0 : Int32))) ∨ ((1 : Int32) = z ∧ ¬ ((p1_ &&& (1 : Int32)) = (0 : Int32)))) ∧ ∀ t, own_S p e below m s₁ 27 #[lvI p0_, lvI p1_, lvI (1 : Int32), lvI z111, .unset, .unset, .unset, .unset, .unset, .unset, .unset, .unset, .unset, .unset, .unset, .unset, .unset, .unset, .unset, .unset] [(.int z)] t → G t := by
      by_cases hc115 : (p1_ &&& (1 : Int32)) = (0 : Int32)
      · refine ⟨(0 : Int32), Or.inl ⟨rfl, hc115⟩, fun t kt => pre113 t ?_⟩
        show own_S p e below m s₁ 19 #[lvI p0_, lvI p1_, lvI (1 : Int32), lvI z111, .unset, .unset, .unset, .unset, .unset, .unset, .unset, .unset, .unset, .unset, .unset, .unset, .unset, .unset, .unset, .unset] [(.int (p1_ &&& (1 : Int32)))] _
        refine XS.ifYes X0.here hx rfl (pc0 := 19) (pc' := 26) rfl (hb hby at_19) rfl ((if0 _ _).trans (teq hc115).1) (by decide) (by decide) ?_
        refine XS.iconst X0.here hx rfl (hb hby at_26) ?_
        exact kt
      · refine ⟨(1 : Int32), Or.inr ⟨rfl, hc115⟩, fun t kt => pre113 t ?_⟩
        show own_S p e below m s₁ 19 #[lvI p0_, lvI p1_, lvI (1 : Int32), lvI z111, .unset, .unset, .unset, .unset, .unset, .unset, .unset, .unset, .unset, .unset, .unset, .unset, .unset, .unset, .unset, .unset] [(.int (p1_ &&& (1 : Int32)))] _
        refine XS.ifNo X0.here hx rfl (hb hby at_19) rfl ((if0 _ _).trans (feq hc115).1) ?_
        refine XS.iconst X0.here hx rfl (hb hby at_22) ?_
        refine XS.goto X0.here hx rfl (pc0 := 23) (pc' := 27) rfl (hb hby at_23) (by decide) (by decide) ?_
        exact kt
    have pre116 : ∀ t, own_S p e below m s₁ 32 #[lvI p0_, lvI p1_, lvI (1 : Int32), lvI z111, lvI z114, .unset, .unset, .unset, .unset, .unset, .unset, .unset, .unset, .unset, .unset, .unset, .unset, .unset, .unset, .unset] [(.int (p1_ &&& (2 : Int32)))] t → G t := by
      intro t kt
      refine prez114 t ?_
      show own_S p e below m s₁ 27 #[lvI p0_, lvI p1_, lvI (1 : Int32), lvI z111, .unset, .unset, .unset, .unset, .unset, .unset, .unset, .unset, .unset, .unset, .unset, .unset, .unset, .unset, .unset, .unset] [(.int z114)] _
      refine XS.istore X0.here hx rfl (hb hby at_27) rfl (l' := #[lvI p0_, lvI p1_, lvI (1 : Int32), lvI z111, lvI z114, .unset, .unset, .unset, .unset, .unset, .unset, .unset, .unset, .unset, .unset, .unset, .unset, .unset, .unset, .unset]) rfl ?_
      refine XS.iloadN X0.here hx rfl (hb hby at_29) rfl ?_
      refine XS.iconst X0.here hx rfl (hb hby at_30) ?_
      refine XS.iand X0.here hx rfl (hb hby at_31) rfl ?_
      exact kt
    obtain ⟨z117, hz117, prez117⟩ : ∃ z : Int32, (((0 : Int32) = z ∧ ((p1_ &&& (2 : Int32)) = (0 : Int32))) ∨ ((1 : Int32) = z ∧ ¬ ((p1_ &&& (2 : Int32)) = (0 : Int32)))) ∧ ∀ t, own_S p e below m s₁ 40 #[lvI p0_, lvI p1_, lvI (1 : Int32), lvI z111, lvI z114, .unset, .unset, .unset, .unset, .unset, .unset, .unset, .unset, .unset, .unset, .unset, .unset, .unset, .unset, .unset] [(.int z)] t → G t := by
      by_cases hc118 : (p1_ &&& (2 : Int32)) = (0 : Int32)
      · refine ⟨(0 : Int32), Or.inl ⟨rfl, hc118⟩, fun t kt => pre116 t ?_⟩
        show own_S p e below m s₁ 32 #[lvI p0_, lvI p1_, lvI (1 : Int32), lvI z111, lvI z114, .unset, .unset, .unset, .unset, .unset, .unset, .unset, .unset, .unset, .unset, .unset, .unset, .unset, .unset, .unset] [(.int (p1_ &&& (2 : Int32)))] _
        refine XS.ifYes X0.here hx rfl (pc0 := 32) (pc' := 39) rfl (hb hby at_32) rfl ((if0 _ _).trans (teq hc118).1) (by decide) (by decide) ?_
        refine XS.iconst X0.here hx rfl (hb hby at_39) ?_
        exact kt
      · refine ⟨(1 : Int32), Or.inr ⟨rfl, hc118⟩, fun t kt => pre116 t ?_⟩
        show own_S p e below m s₁ 32 #[lvI p0_, lvI p1_, lvI (1 : Int32), lvI z111, lvI z114, .unset, .unset, .unset, .unset, .unset, .unset, .unset, .unset, .unset, .unset, .unset, .unset, .unset, .unset, .unset] [(.int (p1_ &&& (2 : Int32)))] _
        refine XS.ifNo X0.here hx rfl (hb hby at_32) rfl ((if0 _ _).trans (feq hc118).1) ?_
        refine XS.iconst X0.here hx rfl (hb hby at_35) ?_
        refine XS.goto X0.here hx rfl (pc0 := 36) (pc' := 40) rfl (hb hby at_36) (by decide) (by decide) ?_
        exact kt
    obtain ⟨T119, h119, X119, e119, E119, A119, D119, -, st119⟩ := newO X0 hx hZ hown (own_w hw 0 rfl) (own_w hw 1 rfl) (own_w hw 2 rfl) e0 (g := (mkF m 42 #[lvI p0_, lvI p1_, lvI (1 : Int32), lvI z111, lvI z114, lvI z117, .unset, .unset, .unset, .unset, .unset, .unset, .unset, .unset, .unset, .unset, .unset, .unset, .unset, .unset] [])) rfl (hb hby at_42) (by decide) (by decide)
    obtain ⟨b119, g119⟩ : ∃ z, z = h0.size := ⟨_, rfl⟩
    rw [← g119] at A119 D119 st119
    have ge120 : n0 ≤ b119 := Nat.le_trans (Nat.le_trans (Nat.le_of_eq O0.1.symm) O0.2.1) (Nat.le_of_eq g119.symm)
    have sz121 : h0.size ≤ b119 := Nat.le_trans K0.1 (Nat.le_of_eq g119.symm)
    have f122 : Fld Z h119 b119 "latchwork/WaitQueue" "head" "Llatchwork/WaitQueue$Waiter;" .null := D119 (Or.inl (own_w hw 24 rfl)) (ty := (.object "latchwork/WaitQueue$Waiter")) (by decide)
    have f123 : Fld Z h119 b119 "latchwork/WaitQueue" "size" "I" (.int (0 : Int32)) := D119 (Or.inl (own_w hw 31 rfl)) (ty := .int) (by decide)
    have f124 : Fld Z h119 b119 "latchwork/WaitQueue" "tail" "Llatchwork/WaitQueue$Waiter;" .null := D119 (Or.inl (own_w hw 47 rfl)) (ty := (.object "latchwork/WaitQueue$Waiter")) (by decide)
    have f126 : Old Z n0 h119 := O0.ext E119
    obtain ⟨_, _, ⟨T125, L125, k125, n125⟩, -, X125, ⟨Lc125, hQ125, l125, y125, z125⟩, st125⟩ := X119.specialBack hx (y := (⟨"latchwork/WaitQueue", "<init>", "()V"⟩ : MethodName)) rfl hown (mvT hZ (own_w hw 3 rfl)) (mvT hZ (own_w hw 4 rfl)) (mvT hZ (own_w hw 5 rfl)) (by decide) (backOf (W := 1) (rminit1 l Z a0 hw [] b119 h119 n0 f126 A119 f122 f123 f124) hZ (own_w hw 5 rfl) (own_w hw 2 rfl) (by decide) (by decide)) (g := (mkF m 46 #[lvI p0_, lvI p1_, lvI (1 : Int32), lvI z111, lvI z114, lvI z117, .unset, .unset, .unset, .unset, .unset, .unset, .unset, .unset, .unset, .unset, .unset, .unset, .unset, .unset] [(.ref b119), (.ref b119)])) rfl (by rw [hml]; rfl) (Steps.refl _) (a := b119) (argsL := []) (rest := [(.ref b119)]) (lenOf pd_0 rfl) rfl (by show 2 * 0 + _ ≤ _; exact Nat.le_of_eq rfl) (hb hby at_46) (fun _ _ => ⟨rfl, e119, (by decide : 1 + 0 ≤ _), (by decide : 4 + 0 ≤ _)⟩)
    dsimp only [Pt.U, Pt.locs, Pt.cells, Pt.slots] at X125 l125 y125 z125 st125 hQ125
    subst l125 y125 z125
    obtain ⟨h125, e125⟩ : ∃ z, T125.heap = z := ⟨_, rfl⟩
    rw [e125] at hQ125
    obtain ⟨rfl, N125q, hh125⟩ := hQ125
    have N127 := Fr.app N0 N125q
    have e125' : T125.heap = h119 := e125.trans hh125
    obtain ⟨T128, h128, X128, e128, E128, A128, D128, -, st128⟩ := newO X125 hx hZ hown (own_w hw 9 rfl) (own_w hw 10 rfl) (own_w hw 11 rfl) e125' (g := (mkF m 51 #[lvI p0_, lvI p1_, lvI (1 : Int32), lvI z111, lvI z114, lvI z117, lvR b119, .unset, .unset, .unset, .unset, .unset, .unset, .unset, .unset, .unset, .unset, .unset, .unset, .unset] [])) rfl (hb hby at_51) (by decide) (by decide)
    obtain ⟨b128, g128⟩ : ∃ z, z = h119.size := ⟨_, rfl⟩
    rw [← g128] at A128 D128 st128
    have ge129 : n0 ≤ b128 := Nat.le_trans (Nat.le_trans (Nat.le_of_eq f126.1.symm) f126.2.1) (Nat.le_of_eq g128.symm)
    have f130 : Keep h0 h119 [] := K0.ext E119
    have sz131 : h0.size ≤ b128 := Nat.le_trans f130.1 (Nat.le_of_eq g128.symm)
    have f132 : Fld Z h128 b128 cn0 "thread" "Ljava/lang/Thread;" .null := D128 (Or.inr (own_w hw 17 rfl)) (ty := (.object "java/lang/Thread")) (by decide)
    have f133 : Fld Z h128 b128 cn0 "picked" "Z" (.int (0 : Int32)) := D128 (Or.inl (own_w hw 49 rfl)) (ty := .boolean) (by decide)
    have f134 : Fld Z h128 b128 cn0 "queued" "Z" (.int (0 : Int32)) := D128 (Or.inl (own_w hw 51 rfl)) (ty := .boolean) (by decide)
    have f135 : Fld Z h128 b128 cn0 "next" "Llatchwork/WaitQueue$Waiter;" .null := D128 (Or.inl (own_w hw 53 rfl)) (ty := (.object "latchwork/WaitQueue$Waiter")) (by decide)
    have f136 : Fld Z h128 b128 cn0 "prev" "Llatchwork/WaitQueue$Waiter;" .null := D128 (Or.inl (own_w hw 55 rfl)) (ty := (.object "latchwork/WaitQueue$Waiter")) (by decide)
    have f138 : Old Z n0 h128 := f126.ext E128
    obtain ⟨_, _, ⟨T137, L137, k137, n137⟩, -, X137, ⟨Lc137, hQ137, l137, y137, z137⟩, st137⟩ := X128.specialBack hx (y := (⟨"latchwork/WaitQueue$Waiter", "<init>", "(Ljava/lang/Thread;)V"⟩ : MethodName)) rfl hown (mvT hZ (own_w hw 12 rfl)) (mvT hZ (own_w hw 13 rfl)) (mvT hZ (own_w hw 14 rfl)) (by decide) (backOf (W := 1) (rminit2 l Z a0 hw [] b128 h128 n0 f138 A128 f132 f133 f134 f135 f136 ge129) hZ (own_w hw 14 rfl) (own_w hw 11 rfl) (by decide) (by decide)) (g := (mkF m 56 #[lvI p0_, lvI p1_, lvI (1 : Int32), lvI z111, lvI z114, lvI z117, lvR b119, .unset, .unset, .unset, .unset, .unset, .unset, .unset, .unset, .unset, .unset, .unset, .unset, .unset] [.null, (.ref b128), (.ref b128)])) rfl (by rw [hml]; rfl) (Steps.refl _) (a := b128) (argsL := [.null]) (rest := [(.ref b128)]) (lenOf pd_1 rfl) rfl (by show 2 * 0 + _ ≤ _; exact Nat.le_of_eq rfl) (hb hby at_56) (fun _ _ => ⟨rfl, e128, (by decide : 2 + 0 ≤ _), (by decide : 12 + 0 ≤ _)⟩)
    dsimp only [Pt.U, Pt.locs, Pt.cells, Pt.slots] at X137 l137 y137 z137 st137 hQ137
    subst l137 y137 z137
    obtain ⟨h137, e137⟩ : ∃ z, T137.heap = z := ⟨_, rfl⟩
    rw [e137] at hQ137
    obtain ⟨rfl, N137q, K137, g137_0, g137_1, g137_2, g137_3, g137_4, g137_5⟩ := hQ137
    have N139 := Fr.app N127 N137q
    obtain ⟨T140, h140, X140, e140, E140, A140, D140, -, st140⟩ := newO X137 hx hZ hown (own_w hw 9 rfl) (own_w hw 10 rfl) (own_w hw 11 rfl) e137 (g := (mkF m 61 #[lvI p0_, lvI p1_, lvI (1 : Int32), lvI z111, lvI z114, lvI z117, lvR b119, lvR b128, .unset, .unset, .unset, .unset, .unset, .unset, .unset, .unset, .unset, .unset, .unset, .unset] [])) rfl (hb hby at_61) (by decide) (by decide)
    obtain ⟨b140, g140⟩ : ∃ z, z = h137.size := ⟨_, rfl⟩
    rw [← g140] at A140 D140 st140
    have f141 : Old Z n0 h137 := f138.keep K137 (allS (ge129) all0)
    have ge142 : n0 ≤ b140 := Nat.le_trans (Nat.le_trans (Nat.le_of_eq f141.1.symm) f141.2.1) (Nat.le_of_eq g140.symm)
    have f143 : Keep h0 h128 [] := f130.ext E128
    have f144 : Keep h0 h137 [] := f143.trans K137 (allS (Or.inr sz131) all0)
    have sz145 : h0.size ≤ b140 := Nat.le_trans f144.1 (Nat.le_of_eq g140.symm)
    have f146 : Fld Z h140 b140 cn0 "thread" "Ljava/lang/Thread;" .null := D140 (Or.inr (own_w hw 17 rfl)) (ty := (.object "java/lang/Thread")) (by decide)
    have f147 : Fld Z h140 b140 cn0 "picked" "Z" (.int (0 : Int32)) := D140 (Or.inl (own_w hw 49 rfl)) (ty := .boolean) (by decide)
    have f148 : Fld Z h140 b140 cn0 "queued" "Z" (.int (0 : Int32)) := D140 (Or.inl (own_w hw 51 rfl)) (ty := .boolean) (by decide)
    have f149 : Fld Z h140 b140 cn0 "next" "Llatchwork/WaitQueue$Waiter;" .null := D140 (Or.inl (own_w hw 53 rfl)) (ty := (.object "latchwork/WaitQueue$Waiter")) (by decide)
    have f150 : Fld Z h140 b140 cn0 "prev" "Llatchwork/WaitQueue$Waiter;" .null := D140 (Or.inl (own_w hw 55 rfl)) (ty := (.object "latchwork/WaitQueue$Waiter")) (by decide)
    have f152 : Old Z n0 h140 := f141.ext E140
    obtain ⟨_, _, ⟨T151, L151, k151, n151⟩, -, X151, ⟨Lc151, hQ151, l151, y151, z151⟩, st151⟩ := X140.specialBack hx (y := (⟨"latchwork/WaitQueue$Waiter", "<init>", "(Ljava/lang/Thread;)V"⟩ : MethodName)) rfl hown (mvT hZ (own_w hw 12 rfl)) (mvT hZ (own_w hw 13 rfl)) (mvT hZ (own_w hw 14 rfl)) (by decide) (backOf (W := 1) (rminit2 l Z a0 hw [] b140 h140 n0 f152 A140 f146 f147 f148 f149 f150 ge142) hZ (own_w hw 14 rfl) (own_w hw 11 rfl) (by decide) (by decide)) (g := (mkF m 66 #[lvI p0_, lvI p1_, lvI (1 : Int32), lvI z111, lvI z114, lvI z117, lvR b119, lvR b128, .unset, .unset, .unset, .unset, .unset, .unset, .unset, .unset, .unset, .unset, .unset, .unset] [.null, (.ref b140), (.ref b140)])) rfl (by rw [hml]; rfl) (Steps.refl _) (a := b140) (argsL := [.null]) (rest := [(.ref b140)]) (lenOf pd_1 rfl) rfl (by show 2 * 0 + _ ≤ _; exact Nat.le_of_eq rfl) (hb hby at_66) (fun _ _ => ⟨rfl, e140, (by decide : 3 + 0 ≤ _), (by decide : 20 + 0 ≤ _)⟩)
    dsimp only [Pt.U, Pt.locs, Pt.cells, Pt.slots] at X151 l151 y151 z151 st151 hQ151
    subst l151 y151 z151
    obtain ⟨h151, e151⟩ : ∃ z, T151.heap = z := ⟨_, rfl⟩
    rw [e151] at hQ151
    obtain ⟨rfl, N151q, K151, g151_0, g151_1, g151_2, g151_3, g151_4, g151_5⟩ := hQ151
    have N153 := Fr.app N139 N151q
    obtain ⟨T154, h154, X154, e154, E154, A154, D154, -, st154⟩ := newO X151 hx hZ hown (own_w hw 9 rfl) (own_w hw 10 rfl) (own_w hw 11 rfl) e151 (g := (mkF m 71 #[lvI p0_, lvI p1_, lvI (1 : Int32), lvI z111, lvI z114, lvI z117, lvR b119, lvR b128, lvR b140, .unset, .unset, .unset, .unset, .unset, .unset, .unset, .unset, .unset, .unset, .unset] [])) rfl (hb hby at_71) (by decide) (by decide)
    obtain ⟨b154, g154⟩ : ∃ z, z = h151.size := ⟨_, rfl⟩
    rw [← g154] at A154 D154 st154
    have f155 : Old Z n0 h151 := f152.keep K151 (allS (ge142) all0)
    have ge156 : n0 ≤ b154 := Nat.le_trans (Nat.le_trans (Nat.le_of_eq f155.1.symm) f155.2.1) (Nat.le_of_eq g154.symm)
    have f157 : Keep h0 h140 [] := f144.ext E140
    have f158 : Keep h0 h151 [] := f157.trans K151 (allS (Or.inr sz145) all0)
    have sz159 : h0.size ≤ b154 := Nat.le_trans f158.1 (Nat.le_of_eq g154.symm)
    have f160 : Fld Z h154 b154 cn0 "thread" "Ljava/lang/Thread;" .null := D154 (Or.inr (own_w hw 17 rfl)) (ty := (.object "java/lang/Thread")) (by decide)
    have f161 : Fld Z h154 b154 cn0 "picked" "Z" (.int (0 : Int32)) := D154 (Or.inl (own_w hw 49 rfl)) (ty := .boolean) (by decide)
    have f162 : Fld Z h154 b154 cn0 "queued" "Z" (.int (0 : Int32)) := D154 (Or.inl (own_w hw 51 rfl)) (ty := .boolean) (by decide)
    have f163 : Fld Z h154 b154 cn0 "next" "Llatchwork/WaitQueue$Waiter;" .null := D154 (Or.inl (own_w hw 53 rfl)) (ty := (.object "latchwork/WaitQueue$Waiter")) (by decide)
    have f164 : Fld Z h154 b154 cn0 "prev" "Llatchwork/WaitQueue$Waiter;" .null := D154 (Or.inl (own_w hw 55 rfl)) (ty := (.object "latchwork/WaitQueue$Waiter")) (by decide)
    have f166 : Old Z n0 h154 := f155.ext E154
    obtain ⟨_, _, ⟨T165, L165, k165, n165⟩, -, X165, ⟨Lc165, hQ165, l165, y165, z165⟩, st165⟩ := X154.specialBack hx (y := (⟨"latchwork/WaitQueue$Waiter", "<init>", "(Ljava/lang/Thread;)V"⟩ : MethodName)) rfl hown (mvT hZ (own_w hw 12 rfl)) (mvT hZ (own_w hw 13 rfl)) (mvT hZ (own_w hw 14 rfl)) (by decide) (backOf (W := 1) (rminit2 l Z a0 hw [] b154 h154 n0 f166 A154 f160 f161 f162 f163 f164 ge156) hZ (own_w hw 14 rfl) (own_w hw 11 rfl) (by decide) (by decide)) (g := (mkF m 76 #[lvI p0_, lvI p1_, lvI (1 : Int32), lvI z111, lvI z114, lvI z117, lvR b119, lvR b128, lvR b140, .unset, .unset, .unset, .unset, .unset, .unset, .unset, .unset, .unset, .unset, .unset] [.null, (.ref b154), (.ref b154)])) rfl (by rw [hml]; rfl) (Steps.refl _) (a := b154) (argsL := [.null]) (rest := [(.ref b154)]) (lenOf pd_1 rfl) rfl (by show 2 * 0 + _ ≤ _; exact Nat.le_of_eq rfl) (hb hby at_76) (fun _ _ => ⟨rfl, e154, (by decide : 4 + 0 ≤ _), (by decide : 28 + 0 ≤ _)⟩)
    dsimp only [Pt.U, Pt.locs, Pt.cells, Pt.slots] at X165 l165 y165 z165 st165 hQ165
    subst l165 y165 z165
    obtain ⟨h165, e165⟩ : ∃ z, T165.heap = z := ⟨_, rfl⟩
    rw [e165] at hQ165
    obtain ⟨rfl, N165q, K165, g165_0, g165_1, g165_2, g165_3, g165_4, g165_5⟩ := hQ165
    have N167 := Fr.app N153 N165q
    have f169 : Exa Z h128 b119 "latchwork/WaitQueue" := A119.ext E128
    have f170 : Exa Z h137 b119 "latchwork/WaitQueue" := f169.keep K137
    have f171 : Exa Z h140 b119 "latchwork/WaitQueue" := f170.ext E140
    have f172 : Exa Z h151 b119 "latchwork/WaitQueue" := f171.keep K151
    have f173 : Exa Z h154 b119 "latchwork/WaitQueue" := f172.ext E154
    have f174 : Exa Z h165 b119 "latchwork/WaitQueue" := f173.keep K165
    have f175 : Fld Z h128 b119 "latchwork/WaitQueue" "head" "Llatchwork/WaitQueue$Waiter;" .null := f122.ext E128
    have ne177 : b119 ≠ b128 := Nat.ne_of_lt (Nat.lt_of_lt_of_le A119.lt (Nat.le_of_eq g128.symm))
    have f176 : Fld Z h137 b119 "latchwork/WaitQueue" "head" "Llatchwork/WaitQueue$Waiter;" .null := f175.keep K137 (ninS ne177 nin0)
    have f178 : Fld Z h140 b119 "latchwork/WaitQueue" "head" "Llatchwork/WaitQueue$Waiter;" .null := f176.ext E140
    have ne180 : b119 ≠ b140 := Nat.ne_of_lt (Nat.lt_of_lt_of_le f170.lt (Nat.le_of_eq g140.symm))
    have f179 : Fld Z h151 b119 "latchwork/WaitQueue" "head" "Llatchwork/WaitQueue$Waiter;" .null := f178.keep K151 (ninS ne180 nin0)
    have f181 : Fld Z h154 b119 "latchwork/WaitQueue" "head" "Llatchwork/WaitQueue$Waiter;" .null := f179.ext E154
    have ne183 : b119 ≠ b154 := Nat.ne_of_lt (Nat.lt_of_lt_of_le f172.lt (Nat.le_of_eq g154.symm))
    have f182 : Fld Z h165 b119 "latchwork/WaitQueue" "head" "Llatchwork/WaitQueue$Waiter;" .null := f181.keep K165 (ninS ne183 nin0)
    have f184 : Fld Z h128 b119 "latchwork/WaitQueue" "size" "I" (.int (0 : Int32)) := f123.ext E128
    have f185 : Fld Z h137 b119 "latchwork/WaitQueue" "size" "I" (.int (0 : Int32)) := f184.keep K137 (ninS ne177 nin0)
    have f186 : Fld Z h140 b119 "latchwork/WaitQueue" "size" "I" (.int (0 : Int32)) := f185.ext E140
    have f187 : Fld Z h151 b119 "latchwork/WaitQueue" "size" "I" (.int (0 : Int32)) := f186.keep K151 (ninS ne180 nin0)
    have f188 : Fld Z h154 b119 "latchwork/WaitQueue" "size" "I" (.int (0 : Int32)) := f187.ext E154
    have f189 : Fld Z h165 b119 "latchwork/WaitQueue" "size" "I" (.int (0 : Int32)) := f188.keep K165 (ninS ne183 nin0)
    have f190 : Fld Z h128 b119 "latchwork/WaitQueue" "tail" "Llatchwork/WaitQueue$Waiter;" .null := f124.ext E128
    have f191 : Fld Z h137 b119 "latchwork/WaitQueue" "tail" "Llatchwork/WaitQueue$Waiter;" .null := f190.keep K137 (ninS ne177 nin0)
    have f192 : Fld Z h140 b119 "latchwork/WaitQueue" "tail" "Llatchwork/WaitQueue$Waiter;" .null := f191.ext E140
    have f193 : Fld Z h151 b119 "latchwork/WaitQueue" "tail" "Llatchwork/WaitQueue$Waiter;" .null := f192.keep K151 (ninS ne180 nin0)
    have f194 : Fld Z h154 b119 "latchwork/WaitQueue" "tail" "Llatchwork/WaitQueue$Waiter;" .null := f193.ext E154
    have f195 : Fld Z h165 b119 "latchwork/WaitQueue" "tail" "Llatchwork/WaitQueue$Waiter;" .null := f194.keep K165 (ninS ne183 nin0)
    have f196 : Exa Z h140 b128 cn0 := g137_0.ext E140
    have f197 : Exa Z h151 b128 cn0 := f196.keep K151
    have f198 : Exa Z h154 b128 cn0 := f197.ext E154
    have f199 : Exa Z h165 b128 cn0 := f198.keep K165
    have f200 : Fld Z h140 b128 cn0 "thread" "Ljava/lang/Thread;" .null := g137_1.ext E140
    have ne202 : b128 ≠ b140 := Nat.ne_of_lt (Nat.lt_of_lt_of_le g137_0.lt (Nat.le_of_eq g140.symm))
    have f201 : Fld Z h151 b128 cn0 "thread" "Ljava/lang/Thread;" .null := f200.keep K151 (ninS ne202 nin0)
    have f203 : Fld Z h154 b128 cn0 "thread" "Ljava/lang/Thread;" .null := f201.ext E154
    have ne205 : b128 ≠ b154 := Nat.ne_of_lt (Nat.lt_of_lt_of_le f197.lt (Nat.le_of_eq g154.symm))
    have f204 : Fld Z h165 b128 cn0 "thread" "Ljava/lang/Thread;" .null := f203.keep K165 (ninS ne205 nin0)
    have f206 : Fld Z h140 b128 cn0 "picked" "Z" (.int (0 : Int32)) := g137_2.ext E140
    have f207 : Fld Z h151 b128 cn0 "picked" "Z" (.int (0 : Int32)) := f206.keep K151 (ninS ne202 nin0)
    have f208 : Fld Z h154 b128 cn0 "picked" "Z" (.int (0 : Int32)) := f207.ext E154
    have f209 : Fld Z h165 b128 cn0 "picked" "Z" (.int (0 : Int32)) := f208.keep K165 (ninS ne205 nin0)
    have f210 : Fld Z h140 b128 cn0 "queued" "Z" (.int (0 : Int32)) := g137_3.ext E140
    have f211 : Fld Z h151 b128 cn0 "queued" "Z" (.int (0 : Int32)) := f210.keep K151 (ninS ne202 nin0)
    have f212 : Fld Z h154 b128 cn0 "queued" "Z" (.int (0 : Int32)) := f211.ext E154
    have f213 : Fld Z h165 b128 cn0 "queued" "Z" (.int (0 : Int32)) := f212.keep K165 (ninS ne205 nin0)
    have f214 : Fld Z h140 b128 cn0 "next" "Llatchwork/WaitQueue$Waiter;" .null := g137_4.ext E140
    have f215 : Fld Z h151 b128 cn0 "next" "Llatchwork/WaitQueue$Waiter;" .null := f214.keep K151 (ninS ne202 nin0)
    have f216 : Fld Z h154 b128 cn0 "next" "Llatchwork/WaitQueue$Waiter;" .null := f215.ext E154
    have f217 : Fld Z h165 b128 cn0 "next" "Llatchwork/WaitQueue$Waiter;" .null := f216.keep K165 (ninS ne205 nin0)
    have f218 : Fld Z h140 b128 cn0 "prev" "Llatchwork/WaitQueue$Waiter;" .null := g137_5.ext E140
    have f219 : Fld Z h151 b128 cn0 "prev" "Llatchwork/WaitQueue$Waiter;" .null := f218.keep K151 (ninS ne202 nin0)
    have f220 : Fld Z h154 b128 cn0 "prev" "Llatchwork/WaitQueue$Waiter;" .null := f219.ext E154
    have f221 : Fld Z h165 b128 cn0 "prev" "Llatchwork/WaitQueue$Waiter;" .null := f220.keep K165 (ninS ne205 nin0)
    have f222 : Old Z n0 h165 := f166.keep K165 (allS (ge156) all0)
    obtain ⟨cq168, kq168, q168a, q168b, q168c⟩ := isOf hZ e165 f174
    obtain ⟨_, _, ⟨T168, L168, k168, n168⟩, -, X168, ⟨Lc168, hQ168, l168, y168, z168⟩, st168⟩ := X165.virtualBack hx (y := (⟨"latchwork/WaitQueue", "add", "(Llatchwork/WaitQueue$Waiter;Z)V"⟩ : MethodName)) (z := (⟨"latchwork/WaitQueue", "add", "(Llatchwork/WaitQueue$Waiter;Z)V"⟩ : MethodName)) hown (mvT hZ (own_w hw 41 rfl)) (mvT hZ (own_w hw 42 rfl)) (notFace_of_selects (args := #[]) (mvT hZ (own_w hw 44 rfl))) (mvT hZ (own_w hw 44 rfl)) (mvT hZ (own_w hw 43 rfl)) (by decide) (backOf (W := 0) (rmadd7 l Z a0 hw [] b119 b128 z111 h165 n0 f222 f174 f182 f189 f195 f199 f204 f209 f213 f217 f221 ge120 (Ne.symm ne177) ge129) hZ (own_w hw 45 rfl) (own_w hw 2 rfl) (by decide) (by decide)) q168a q168c (g := (mkF m 91 #[lvI p0_, lvI p1_, lvI (1 : Int32), lvI z111, lvI z114, lvI z117, lvR b119, lvR b128, lvR b140, lvR b154, .unset, .unset, .unset, .unset, .unset, .unset, .unset, .unset, .unset, .unset] [(.int z111), (.ref b128), (.ref b119)])) rfl (by rw [hml]; rfl) (Steps.refl _) (argsL := [(.ref b128), (.int z111)]) (rest := []) (lenOf pd_5 rfl) rfl (by show 2 * 0 + _ ≤ _; exact Nat.le_of_eq rfl) (hb hby at_91) (fun _ _ => ⟨rfl, e165, (by decide : 4 + 0 ≤ _), (by decide : 28 + 0 ≤ _)⟩)
    dsimp only [Pt.U, Pt.locs, Pt.cells, Pt.slots] at X168 l168 y168 z168 st168 hQ168
    subst l168 y168 z168
    obtain ⟨h168, e168⟩ : ∃ z, T168.heap = z := ⟨_, rfl⟩
    rw [e168] at hQ168
    obtain ⟨rfl, N168q, K168, g168_0, g168_1, g168_2, g168_3, g168_4, g168_5, g168_6, g168_7, g168_8, g168_9⟩ := hQ168
    have N223 := Fr.app N167 N168q
    have f225 : Old Z n0 h168 := f222.keep K168 (allS (ge120) (allS (ge129) all0))
    obtain ⟨cq224, kq224, q224a, q224b, q224c⟩ := isOf hZ e168 g168_0
    obtain ⟨_, _, ⟨T224, L224, k224, n224⟩, -, X224, ⟨Lc224, hQ224, l224, y224, z224⟩, st224⟩ := X168.virtualBack hx (y := (⟨"latchwork/WaitQueue", "poll", "()Llatchwork/WaitQueue$Waiter;"⟩ : MethodName)) (z := (⟨"latchwork/WaitQueue", "poll", "()Llatchwork/WaitQueue$Waiter;"⟩ : MethodName)) hown (mvT hZ (own_w hw 18 rfl)) (mvT hZ (own_w hw 19 rfl)) (notFace_of_selects (args := #[]) (mvT hZ (own_w hw 21 rfl))) (mvT hZ (own_w hw 21 rfl)) (mvT hZ (own_w hw 20 rfl)) (by decide) (backOf (W := 0) (rmpoll8 l Z a0 hw [] b119 b128 h168 n0 f225 g168_0 g168_1 g168_2 g168_3 g168_4 g168_5 g168_6 g168_7 g168_8 g168_9 ge120 (Ne.symm ne177) ge129) hZ (own_w hw 22 rfl) (own_w hw 2 rfl) (by decide) (by decide)) q224a q224c (g := (mkF m 203 #[lvI p0_, lvI p1_, lvI (1 : Int32), lvI z111, lvI z114, lvI z117, lvR b119, lvR b128, lvR b140, lvR b154, lvR b128, .val .null, .val .null, .unset, .unset, .unset, .unset, .unset, .unset, .unset] [(.ref b119)])) rfl (by rw [hml]; rfl) (Steps.refl _) (argsL := []) (rest := []) (lenOf pd_2 rfl) rfl (by show 2 * 0 + _ ≤ _; exact Nat.le_of_eq rfl) (hb hby at_203) (fun _ _ => ⟨rfl, e168, (by decide : 4 + 0 ≤ _), (by decide : 28 + 0 ≤ _)⟩)
    dsimp only [Pt.U, Pt.locs, Pt.cells, Pt.slots] at X224 l224 y224 z224 st224 hQ224
    subst l224 y224 z224
    obtain ⟨h224, e224⟩ : ∃ z, T224.heap = z := ⟨_, rfl⟩
    rw [e224] at hQ224
    obtain ⟨rfl, N224q, K224, g224_0, g224_1, g224_2, g224_3, g224_4, g224_5, g224_6, g224_7, g224_8, g224_9⟩ := hQ224
    have N226 := Fr.app N223 N224q
    have f228 : Old Z n0 h224 := f225.keep K224 (allS (ge120) (allS (ge129) all0))
    obtain ⟨cq227, kq227, q227a, q227b, q227c⟩ := isOf hZ e224 g224_0
    obtain ⟨_, _, ⟨T227, L227, k227, n227⟩, -, X227, ⟨Lc227, hQ227, l227, y227, z227⟩, st227⟩ := X224.virtualBack hx (y := (⟨"latchwork/WaitQueue", "size", "()I"⟩ : MethodName)) (z := (⟨"latchwork/WaitQueue", "size", "()I"⟩ : MethodName)) hown (mvT hZ (own_w hw 25 rfl)) (mvT hZ (own_w hw 26 rfl)) (notFace_of_selects (args := #[]) (mvT hZ (own_w hw 28 rfl))) (mvT hZ (own_w hw 28 rfl)) (mvT hZ (own_w hw 27 rfl)) (by decide) (backOf (W := 0) (rmsize4 l Z a0 hw [] b119 h224 n0 f228 g224_0 g224_1 g224_2 g224_3) hZ (own_w hw 29 rfl) (own_w hw 2 rfl) (by decide) (by decide)) q227a q227c (g := (mkF m 210 #[lvI p0_, lvI p1_, lvI (1 : Int32), lvI z111, lvI z114, lvI z117, lvR b119, lvR b128, lvR b140, lvR b154, lvR b128, .val .null, .val .null, lvR b128, .unset, .unset, .unset, .unset, .unset, .unset] [(.ref b119)])) rfl (by rw [hml]; rfl) (Steps.refl _) (argsL := []) (rest := []) (lenOf pd_3 rfl) rfl (by show 2 * 0 + _ ≤ _; exact Nat.le_of_eq rfl) (hb hby at_210) (fun _ _ => ⟨rfl, e224, (by decide : 4 + 0 ≤ _), (by decide : 28 + 0 ≤ _)⟩)
    dsimp only [Pt.U, Pt.locs, Pt.cells, Pt.slots] at X227 l227 y227 z227 st227 hQ227
    subst l227 y227 z227
    obtain ⟨h227, e227⟩ : ∃ z, T227.heap = z := ⟨_, rfl⟩
    rw [e227] at hQ227
    obtain ⟨rfl, N227q, hh227⟩ := hQ227
    have N229 := Fr.app N226 N227q
    have e227' : T227.heap = h224 := e227.trans hh227
    obtain ⟨cq230, kq230, q230a, q230b, q230c⟩ := isOf hZ e227' g224_0
    obtain ⟨_, _, ⟨T230, L230, k230, n230⟩, -, X230, ⟨Lc230, hQ230, l230, y230, z230⟩, st230⟩ := X227.virtualBack hx (y := (⟨"latchwork/WaitQueue", "poll", "()Llatchwork/WaitQueue$Waiter;"⟩ : MethodName)) (z := (⟨"latchwork/WaitQueue", "poll", "()Llatchwork/WaitQueue$Waiter;"⟩ : MethodName)) hown (mvT hZ (own_w hw 18 rfl)) (mvT hZ (own_w hw 19 rfl)) (notFace_of_selects (args := #[]) (mvT hZ (own_w hw 21 rfl))) (mvT hZ (own_w hw 21 rfl)) (mvT hZ (own_w hw 20 rfl)) (by decide) (backOf (W := 0) (rmpoll3 l Z a0 hw [] b119 h224 n0 f228 g224_0 g224_1 g224_2 g224_3) hZ (own_w hw 22 rfl) (own_w hw 2 rfl) (by decide) (by decide)) q230a q230c (g := (mkF m 217 #[lvI p0_, lvI p1_, lvI (1 : Int32), lvI z111, lvI z114, lvI z117, lvR b119, lvR b128, lvR b140, lvR b154, lvR b128, .val .null, .val .null, lvR b128, lvI (0 : Int32), .unset, .unset, .unset, .unset, .unset] [(.ref b119)])) rfl (by rw [hml]; rfl) (Steps.refl _) (argsL := []) (rest := []) (lenOf pd_2 rfl) rfl (by show 2 * 0 + _ ≤ _; exact Nat.le_of_eq rfl) (hb hby at_217) (fun _ _ => ⟨rfl, e227', (by decide : 4 + 0 ≤ _), (by decide : 28 + 0 ≤ _)⟩)
    dsimp only [Pt.U, Pt.locs, Pt.cells, Pt.slots] at X230 l230 y230 z230 st230 hQ230
    subst l230 y230 z230
    obtain ⟨h230, e230⟩ : ∃ z, T230.heap = z := ⟨_, rfl⟩
    rw [e230] at hQ230
    obtain ⟨rfl, N230q, hh230⟩ := hQ230
    have N231 := Fr.app N229 N230q
    have e230' : T230.heap = h224 := e230.trans hh230
    obtain ⟨cq232, kq232, q232a, q232b, q232c⟩ := isOf hZ e230' g224_0
    obtain ⟨_, _, ⟨T232, L232, k232, n232⟩, -, X232, ⟨Lc232, hQ232, l232, y232, z232⟩, st232⟩ := X230.virtualBack hx (y := (⟨"latchwork/WaitQueue", "poll", "()Llatchwork/WaitQueue$Waiter;"⟩ : MethodName)) (z := (⟨"latchwork/WaitQueue", "poll", "()Llatchwork/WaitQueue$Waiter;"⟩ : MethodName)) hown (mvT hZ (own_w hw 18 rfl)) (mvT hZ (own_w hw 19 rfl)) (notFace_of_selects (args := #[]) (mvT hZ (own_w hw 21 rfl))) (mvT hZ (own_w hw 21 rfl)) (mvT hZ (own_w hw 20 rfl)) (by decide) (backOf (W := 0) (rmpoll3 l Z a0 hw [] b119 h224 n0 f228 g224_0 g224_1 g224_2 g224_3) hZ (own_w hw 22 rfl) (own_w hw 2 rfl) (by decide) (by decide)) q232a q232c (g := (mkF m 224 #[lvI p0_, lvI p1_, lvI (1 : Int32), lvI z111, lvI z114, lvI z117, lvR b119, lvR b128, lvR b140, lvR b154, lvR b128, .val .null, .val .null, lvR b128, lvI (0 : Int32), .val .null, .unset, .unset, .unset, .unset] [(.ref b119)])) rfl (by rw [hml]; rfl) (Steps.refl _) (argsL := []) (rest := []) (lenOf pd_2 rfl) rfl (by show 2 * 0 + _ ≤ _; exact Nat.le_of_eq rfl) (hb hby at_224) (fun _ _ => ⟨rfl, e230', (by decide : 4 + 0 ≤ _), (by decide : 28 + 0 ≤ _)⟩)
    dsimp only [Pt.U, Pt.locs, Pt.cells, Pt.slots] at X232 l232 y232 z232 st232 hQ232
    subst l232 y232 z232
    obtain ⟨h232, e232⟩ : ∃ z, T232.heap = z := ⟨_, rfl⟩
    rw [e232] at hQ232
    obtain ⟨rfl, N232q, hh232⟩ := hQ232
    have N233 := Fr.app N231 N232q
    have e232' : T232.heap = h224 := e232.trans hh232
    obtain ⟨cq234, kq234, q234a, q234b, q234c⟩ := isOf hZ e232' g224_0
    obtain ⟨_, _, ⟨T234, L234, k234, n234⟩, -, X234, ⟨Lc234, hQ234, l234, y234, z234⟩, st234⟩ := X232.virtualBack hx (y := (⟨"latchwork/WaitQueue", "poll", "()Llatchwork/WaitQueue$Waiter;"⟩ : MethodName)) (z := (⟨"latchwork/WaitQueue", "poll", "()Llatchwork/WaitQueue$Waiter;"⟩ : MethodName)) hown (mvT hZ (own_w hw 18 rfl)) (mvT hZ (own_w hw 19 rfl)) (notFace_of_selects (args := #[]) (mvT hZ (own_w hw 21 rfl))) (mvT hZ (own_w hw 21 rfl)) (mvT hZ (own_w hw 20 rfl)) (by decide) (backOf (W := 0) (rmpoll3 l Z a0 hw [] b119 h224 n0 f228 g224_0 g224_1 g224_2 g224_3) hZ (own_w hw 22 rfl) (own_w hw 2 rfl) (by decide) (by decide)) q234a q234c (g := (mkF m 231 #[lvI p0_, lvI p1_, lvI (1 : Int32), lvI z111, lvI z114, lvI z117, lvR b119, lvR b128, lvR b140, lvR b154, lvR b128, .val .null, .val .null, lvR b128, lvI (0 : Int32), .val .null, .val .null, .unset, .unset, .unset] [(.ref b119)])) rfl (by rw [hml]; rfl) (Steps.refl _) (argsL := []) (rest := []) (lenOf pd_2 rfl) rfl (by show 2 * 0 + _ ≤ _; exact Nat.le_of_eq rfl) (hb hby at_231) (fun _ _ => ⟨rfl, e232', (by decide : 4 + 0 ≤ _), (by decide : 28 + 0 ≤ _)⟩)
    dsimp only [Pt.U, Pt.locs, Pt.cells, Pt.slots] at X234 l234 y234 z234 st234 hQ234
    subst l234 y234 z234
    obtain ⟨h234, e234⟩ : ∃ z, T234.heap = z := ⟨_, rfl⟩
    rw [e234] at hQ234
    obtain ⟨rfl, N234q, hh234⟩ := hQ234
    have N235 := Fr.app N233 N234q
    have e234' : T234.heap = h224 := e234.trans hh234
    obtain ⟨cq236, kq236, q236a, q236b, q236c⟩ := isOf hZ e234' g224_0
    obtain ⟨_, _, ⟨T236, L236, k236, n236⟩, -, X236, ⟨Lc236, hQ236, l236, y236, z236⟩, st236⟩ := X234.virtualBack hx (y := (⟨"latchwork/WaitQueue", "size", "()I"⟩ : MethodName)) (z := (⟨"latchwork/WaitQueue", "size", "()I"⟩ : MethodName)) hown (mvT hZ (own_w hw 25 rfl)) (mvT hZ (own_w hw 26 rfl)) (notFace_of_selects (args := #[]) (mvT hZ (own_w hw 28 rfl))) (mvT hZ (own_w hw 28 rfl)) (mvT hZ (own_w hw 27 rfl)) (by decide) (backOf (W := 0) (rmsize4 l Z a0 hw [] b119 h224 n0 f228 g224_0 g224_1 g224_2 g224_3) hZ (own_w hw 29 rfl) (own_w hw 2 rfl) (by decide) (by decide)) q236a q236c (g := (mkF m 238 #[lvI p0_, lvI p1_, lvI (1 : Int32), lvI z111, lvI z114, lvI z117, lvR b119, lvR b128, lvR b140, lvR b154, lvR b128, .val .null, .val .null, lvR b128, lvI (0 : Int32), .val .null, .val .null, .val .null, .unset, .unset] [(.ref b119)])) rfl (by rw [hml]; rfl) (Steps.refl _) (argsL := []) (rest := []) (lenOf pd_3 rfl) rfl (by show 2 * 0 + _ ≤ _; exact Nat.le_of_eq rfl) (hb hby at_238) (fun _ _ => ⟨rfl, e234', (by decide : 4 + 0 ≤ _), (by decide : 28 + 0 ≤ _)⟩)
    dsimp only [Pt.U, Pt.locs, Pt.cells, Pt.slots] at X236 l236 y236 z236 st236 hQ236
    subst l236 y236 z236
    obtain ⟨h236, e236⟩ : ∃ z, T236.heap = z := ⟨_, rfl⟩
    rw [e236] at hQ236
    obtain ⟨rfl, N236q, hh236⟩ := hQ236
    have N237 := Fr.app N235 N236q
    have e236' : T236.heap = h224 := e236.trans hh236
    obtain ⟨_, _, ⟨T238, L238, k238, n238⟩, -, X238, ⟨Lc238, hQ238, l238, y238, z238⟩, st238⟩ := Jvm.LawKit.callS X236 hx (y := (⟨"java/lang/Math", "max", "(II)I"⟩ : MethodName)) hown (mvT hZ (own_w hw 32 rfl)) (mvT hZ (own_w hw 33 rfl)) (mvT hZ (own_w hw 34 rfl)) (mvT hZ (own_w hw 35 rfl)) (by decide) (backOf (W := 1) (rmmax10 l Z a0 hw []  h224 n0 f228 ) hZ (own_w hw 35 rfl) (own_w hw 34 rfl) (by decide) (by decide)) (g := (mkF m 287 #[lvI p0_, lvI p1_, lvI (1 : Int32), lvI z111, lvI z114, lvI z117, lvR b119, lvR b128, lvR b140, lvR b154, lvR b128, .val .null, .val .null, lvR b128, lvI (0 : Int32), .val .null, .val .null, .val .null, lvI (0 : Int32), lvI (1 : Int32)] [(.int (0 : Int32)), (.int (0 : Int32)), (.int (0 : Int32))])) rfl (by rw [hml]; rfl) (argsL := [(.int (0 : Int32)), (.int (0 : Int32))]) (rest := [(.int (0 : Int32))]) (lenOf pd_4 rfl) rfl (by show 2 * 0 + _ ≤ _; exact Nat.le_of_eq rfl) (hb hby at_287) (fun _ _ => ⟨rfl, e236', (by decide : 4 + 0 ≤ _), (by decide : 28 + 0 ≤ _)⟩)
    dsimp only [Pt.U, Pt.locs, Pt.cells, Pt.slots] at X238 l238 y238 z238 st238 hQ238
    subst l238 y238 z238
    obtain ⟨h238, e238⟩ : ∃ z, T238.heap = z := ⟨_, rfl⟩
    rw [e238] at hQ238
    obtain ⟨rfl, N238q, hh238⟩ := hQ238
    have N239 := Fr.app N237 N238q
    have e238' : T238.heap = h224 := e238.trans hh238
    obtain ⟨cq240, kq240, q240a, q240b, q240c⟩ := isOf hZ e238' g224_0
    obtain ⟨_, _, ⟨T240, L240, k240, n240⟩, -, X240, ⟨Lc240, hQ240, l240, y240, z240⟩, st240⟩ := X238.virtualBack hx (y := (⟨"latchwork/WaitQueue", "first", "()Llatchwork/WaitQueue$Waiter;"⟩ : MethodName)) (z := (⟨"latchwork/WaitQueue", "first", "()Llatchwork/WaitQueue$Waiter;"⟩ : MethodName)) hown (mvT hZ (own_w hw 36 rfl)) (mvT hZ (own_w hw 37 rfl)) (notFace_of_selects (args := #[]) (mvT hZ (own_w hw 39 rfl))) (mvT hZ (own_w hw 39 rfl)) (mvT hZ (own_w hw 38 rfl)) (by decide) (backOf (W := 0) (rmfirst6 l Z a0 hw [] b119 h224 n0 f228 g224_0 g224_1 g224_2 g224_3) hZ (own_w hw 40 rfl) (own_w hw 2 rfl) (by decide) (by decide)) q240a q240c (g := (mkF m 300 #[lvI p0_, lvI p1_, lvI (1 : Int32), lvI z111, lvI z114, lvI z117, lvR b119, lvR b128, lvR b140, lvR b154, lvR b128, .val .null, .val .null, lvR b128, lvI (0 : Int32), .val .null, .val .null, .val .null, lvI (0 : Int32), lvI (1 : Int32)] [(.ref b119)])) rfl (by rw [hml]; rfl) (Steps.refl _) (argsL := []) (rest := []) (lenOf pd_2 rfl) rfl (by show 2 * 0 + _ ≤ _; exact Nat.le_of_eq rfl) (hb hby at_300) (fun _ _ => ⟨rfl, e238', (by decide : 4 + 0 ≤ _), (by decide : 28 + 0 ≤ _)⟩)
    dsimp only [Pt.U, Pt.locs, Pt.cells, Pt.slots] at X240 l240 y240 z240 st240 hQ240
    subst l240 y240 z240
    obtain ⟨h240, e240⟩ : ∃ z, T240.heap = z := ⟨_, rfl⟩
    rw [e240] at hQ240
    obtain ⟨rfl, N240q, hh240⟩ := hQ240
    have N241 := Fr.app N239 N240q
    have e240' : T240.heap = h224 := e240.trans hh240
    obtain ⟨cq242, kq242, q242a, q242b, q242c⟩ := isOf hZ e240' g224_4
    obtain ⟨_, _, ⟨T242, L242, k242, n242⟩, -, X242, ⟨Lc242, hQ242, l242, y242, z242⟩, st242⟩ := X240.virtualBack hx (y := (⟨"latchwork/WaitQueue$Waiter", "isQueued", "()Z"⟩ : MethodName)) (z := (⟨"latchwork/WaitQueue$Waiter", "isQueued", "()Z"⟩ : MethodName)) hown (mvT hZ (own_w hw 61 rfl)) (mvT hZ (own_w hw 62 rfl)) (notFace_of_selects (args := #[]) (mvT hZ (own_w hw 64 rfl))) (mvT hZ (own_w hw 64 rfl)) (mvT hZ (own_w hw 63 rfl)) (by decide) (backOf (W := 0) (rmisQueued11 l Z a0 hw [] b128 h224 n0 f228 g224_4 g224_5 g224_6 g224_7 g224_8 g224_9) hZ (own_w hw 65 rfl) (own_w hw 11 rfl) (by decide) (by decide)) q242a q242c (g := (mkF m 325 #[lvI p0_, lvI p1_, lvI (1 : Int32), lvI z111, lvI z114, lvI z117, lvR b119, lvR b128, lvR b140, lvR b154, lvR b128, .val .null, .val .null, lvR b128, lvI (0 : Int32), .val .null, .val .null, .val .null, lvI (0 : Int32), lvI (1 : Int32)] [(.ref b128)])) rfl (by rw [hml]; rfl) (Steps.refl _) (argsL := []) (rest := []) (lenOf pd_7 rfl) rfl (by show 2 * 0 + _ ≤ _; exact Nat.le_of_eq rfl) (hb hby at_325) (fun _ _ => ⟨rfl, e240', (by decide : 4 + 0 ≤ _), (by decide : 28 + 0 ≤ _)⟩)
    dsimp only [Pt.U, Pt.locs, Pt.cells, Pt.slots] at X242 l242 y242 z242 st242 hQ242
    subst l242 y242 z242
    obtain ⟨h242, e242⟩ : ∃ z, T242.heap = z := ⟨_, rfl⟩
    rw [e242] at hQ242
    obtain ⟨rfl, N242q, hh242⟩ := hQ242
    have N243 := Fr.app N241 N242q
    have e242' : T242.heap = h224 := e242.trans hh242
    have pre244 : ∀ t, own_S p e below m T242 340 #[lvI p0_, lvI p1_, lvI (1 : Int32), lvI z111, lvI z114, lvI z117, lvR b119, lvR b128, lvR b140, lvR b154, lvR b128, .val .null, .val .null, lvR b128, lvI (0 : Int32), .val .null, .val .null, .val .null, lvI (0 : Int32), lvI (1 : Int32)] [(.int (1 : Int32))] t → G t := by
      intro t kt
      refine prez117 t ?_
      show own_S p e below m s₁ 40 #[lvI p0_, lvI p1_, lvI (1 : Int32), lvI z111, lvI z114, .unset, .unset, .unset, .unset, .unset, .unset, .unset, .unset, .unset, .unset, .unset, .unset, .unset, .unset, .unset] [(.int z117)] _
      refine XS.istore X0.here hx rfl (hb hby at_40) rfl (l' := #[lvI p0_, lvI p1_, lvI (1 : Int32), lvI z111, lvI z114, lvI z117, .unset, .unset, .unset, .unset, .unset, .unset, .unset, .unset, .unset, .unset, .unset, .unset, .unset, .unset]) rfl ?_
      show own_S p e below m s₁ 42 #[lvI p0_, lvI p1_, lvI (1 : Int32), lvI z111, lvI z114, lvI z117, .unset, .unset, .unset, .unset, .unset, .unset, .unset, .unset, .unset, .unset, .unset, .unset, .unset, .unset] [] _
      refine st119 _ ?_
      refine XS.dup X119.here hx rfl (hb hby at_45) rfl rfl ?_
      show own_S p e below m T119 46 #[lvI p0_, lvI p1_, lvI (1 : Int32), lvI z111, lvI z114, lvI z117, .unset, .unset, .unset, .unset, .unset, .unset, .unset, .unset, .unset, .unset, .unset, .unset, .unset, .unset] [(.ref b119), (.ref b119)] _
      refine st125.trans ?_
      refine XS.astore X125.here hx rfl (hb hby at_49) rfl rfl (l' := #[lvI p0_, lvI p1_, lvI (1 : Int32), lvI z111, lvI z114, lvI z117, lvR b119, .unset, .unset, .unset, .unset, .unset, .unset, .unset, .unset, .unset, .unset, .unset, .unset, .unset]) rfl ?_
      show own_S p e below m T125 51 #[lvI p0_, lvI p1_, lvI (1 : Int32), lvI z111, lvI z114, lvI z117, lvR b119, .unset, .unset, .unset, .unset, .unset, .unset, .unset, .unset, .unset, .unset, .unset, .unset, .unset] [] _
      refine st128 _ ?_
      refine XS.dup X128.here hx rfl (hb hby at_54) rfl rfl ?_
      refine XS.aconstNull X128.here hx rfl (hb hby at_55) ?_
      show own_S p e below m T128 56 #[lvI p0_, lvI p1_, lvI (1 : Int32), lvI z111, lvI z114, lvI z117, lvR b119, .unset, .unset, .unset, .unset, .unset, .unset, .unset, .unset, .unset, .unset, .unset, .unset, .unset] [.null, (.ref b128), (.ref b128)] _
      refine st137.trans ?_
      refine XS.astore X137.here hx rfl (hb hby at_59) rfl rfl (l' := #[lvI p0_, lvI p1_, lvI (1 : Int32), lvI z111, lvI z114, lvI z117, lvR b119, lvR b128, .unset, .unset, .unset, .unset, .unset, .unset, .unset, .unset, .unset, .unset, .unset, .unset]) rfl ?_
      show own_S p e below m T137 61 #[lvI p0_, lvI p1_, lvI (1 : Int32), lvI z111, lvI z114, lvI z117, lvR b119, lvR b128, .unset, .unset, .unset, .unset, .unset, .unset, .unset, .unset, .unset, .unset, .unset, .unset] [] _
      refine st140 _ ?_
      refine XS.dup X140.here hx rfl (hb hby at_64) rfl rfl ?_
      refine XS.aconstNull X140.here hx rfl (hb hby at_65) ?_
      show own_S p e below m T140 66 #[lvI p0_, lvI p1_, lvI (1 : Int32), lvI z111, lvI z114, lvI z117, lvR b119, lvR b128, .unset, .unset, .unset, .unset, .unset, .unset, .unset, .unset, .unset, .unset, .unset, .unset] [.null, (.ref b140), (.ref b140)] _
      refine st151.trans ?_
      refine XS.astore X151.here hx rfl (hb hby at_69) rfl rfl (l' := #[lvI p0_, lvI p1_, lvI (1 : Int32), lvI z111, lvI z114, lvI z117, lvR b119, lvR b128, lvR b140, .unset, .unset, .unset, .unset, .unset, .unset, .unset, .unset, .unset, .unset, .unset]) rfl ?_
      show own_S p e below m T151 71 #[lvI p0_, lvI p1_, lvI (1 : Int32), lvI z111, lvI z114, lvI z117, lvR b119, lvR b128, lvR b140, .unset, .unset, .unset, .unset, .unset, .unset, .unset, .unset, .unset, .unset, .unset] [] _
      refine st154 _ ?_
      refine XS.dup X154.here hx rfl (hb hby at_74) rfl rfl ?_
      refine XS.aconstNull X154.here hx rfl (hb hby at_75) ?_
      show own_S p e below m T154 76 #[lvI p0_, lvI p1_, lvI (1 : Int32), lvI z111, lvI z114, lvI z117, lvR b119, lvR b128, lvR b140, .unset, .unset, .unset, .unset, .unset, .unset, .unset, .unset, .unset, .unset, .unset] [.null, (.ref b154), (.ref b154)] _
      refine st165.trans ?_
      refine XS.astore X165.here hx rfl (hb hby at_79) rfl rfl (l' := #[lvI p0_, lvI p1_, lvI (1 : Int32), lvI z111, lvI z114, lvI z117, lvR b119, lvR b128, lvR b140, lvR b154, .unset, .unset, .unset, .unset, .unset, .unset, .unset, .unset, .unset, .unset]) rfl ?_
      refine XS.iloadN X165.here hx rfl (hb hby at_81) rfl ?_
      refine XS.iconst X165.here hx rfl (hb hby at_82) ?_
      show own_S p e below m T165 83 #[lvI p0_, lvI p1_, lvI (1 : Int32), lvI z111, lvI z114, lvI z117, lvR b119, lvR b128, lvR b140, lvR b154, .unset, .unset, .unset, .unset, .unset, .unset, .unset, .unset, .unset, .unset] [(.int (1 : Int32)), (.int (1 : Int32))] _
      refine XS.icmpNo X165.here hx rfl (hb hby at_83) rfl (flt (by decide : ¬ ((1 : Int32) < (1 : Int32)))).1 ?_
      refine XS.aload X165.here hx rfl (hb hby at_86) rfl rfl ?_
      refine XS.aload X165.here hx rfl (hb hby at_88) rfl rfl ?_
      refine XS.iloadN X165.here hx rfl (hb hby at_90) rfl ?_
      show own_S p e below m T165 91 #[lvI p0_, lvI p1_, lvI (1 : Int32), lvI z111, lvI z114, lvI z117, lvR b119, lvR b128, lvR b140, lvR b154, .unset, .unset, .unset, .unset, .unset, .unset, .unset, .unset, .unset, .unset] [(.int z111), (.ref b128), (.ref b119)] _
      refine st168.trans ?_
      refine XS.iloadN X168.here hx rfl (hb hby at_94) rfl ?_
      refine XS.iconst X168.here hx rfl (hb hby at_95) ?_
      show own_S p e below m T168 96 #[lvI p0_, lvI p1_, lvI (1 : Int32), lvI z111, lvI z114, lvI z117, lvR b119, lvR b128, lvR b140, lvR b154, .unset, .unset, .unset, .unset, .unset, .unset, .unset, .unset, .unset, .unset] [(.int (2 : Int32)), (.int (1 : Int32))] _
      refine XS.icmpYes X168.here hx rfl (pc0 := 96) (pc' := 108) rfl (hb hby at_96) rfl (tlt (by decide : (1 : Int32) < (2 : Int32))).1 (by decide) (by decide) ?_
      refine XS.iloadN X168.here hx rfl (hb hby at_108) rfl ?_
      refine XS.iconst X168.here hx rfl (hb hby at_109) ?_
      show own_S p e below m T168 110 #[lvI p0_, lvI p1_, lvI (1 : Int32), lvI z111, lvI z114, lvI z117, lvR b119, lvR b128, lvR b140, lvR b154, .unset, .unset, .unset, .unset, .unset, .unset, .unset, .unset, .unset, .unset] [(.int (3 : Int32)), (.int (1 : Int32))] _
      refine XS.icmpYes X168.here hx rfl (pc0 := 110) (pc' := 122) rfl (hb hby at_110) rfl (tlt (by decide : (1 : Int32) < (3 : Int32))).1 (by decide) (by decide) ?_
      refine XS.aconstNull X168.here hx rfl (hb hby at_122) ?_
      refine XS.astore X168.here hx rfl (hb hby at_123) rfl rfl (l' := #[lvI p0_, lvI p1_, lvI (1 : Int32), lvI z111, lvI z114, lvI z117, lvR b119, lvR b128, lvR b140, lvR b154, .val .null, .unset, .unset, .unset, .unset, .unset, .unset, .unset, .unset, .unset]) rfl ?_
      refine XS.aconstNull X168.here hx rfl (hb hby at_125) ?_
      show own_S p e below m T168 126 #[lvI p0_, lvI p1_, lvI (1 : Int32), lvI z111, lvI z114, lvI z117, lvR b119, lvR b128, lvR b140, lvR b154, .val .null, .unset, .unset, .unset, .unset, .unset, .unset, .unset, .unset, .unset] [.null] _
      refine XS.astore X168.here hx rfl (hb hby at_126) rfl rfl (l' := #[lvI p0_, lvI p1_, lvI (1 : Int32), lvI z111, lvI z114, lvI z117, lvR b119, lvR b128, lvR b140, lvR b154, .val .null, .val .null, .unset, .unset, .unset, .unset, .unset, .unset, .unset, .unset]) rfl ?_
      refine XS.aconstNull X168.here hx rfl (hb hby at_128) ?_
      refine XS.astore X168.here hx rfl (hb hby at_129) rfl rfl (l' := #[lvI p0_, lvI p1_, lvI (1 : Int32), lvI z111, lvI z114, lvI z117, lvR b119, lvR b128, lvR b140, lvR b154, .val .null, .val .null, .val .null, .unset, .unset, .unset, .unset, .unset, .unset, .unset]) rfl ?_
      refine XS.iloadN X168.here hx rfl (hb hby at_131) rfl ?_
      show own_S p e below m T168 132 #[lvI p0_, lvI p1_, lvI (1 : Int32), lvI z111, lvI z114, lvI z117, lvR b119, lvR b128, lvR b140, lvR b154, .val .null, .val .null, .val .null, .unset, .unset, .unset, .unset, .unset, .unset, .unset] [(.int (1 : Int32))] _
      refine XS.iconst X168.here hx rfl (hb hby at_132) ?_
      show own_S p e below m T168 133 #[lvI p0_, lvI p1_, lvI (1 : Int32), lvI z111, lvI z114, lvI z117, lvR b119, lvR b128, lvR b140, lvR b154, .val .null, .val .null, .val .null, .unset, .unset, .unset, .unset, .unset, .unset, .unset] [(.int (1 : Int32)), (.int (1 : Int32))] _
      refine XS.icmpNo X168.here hx rfl (hb hby at_133) rfl (teq (by decide : (1 : Int32) = (1 : Int32))).2 ?_
      refine XS.aload X168.here hx rfl (hb hby at_136) rfl rfl ?_
      refine XS.astore X168.here hx rfl (hb hby at_138) rfl rfl (l' := #[lvI p0_, lvI p1_, lvI (1 : Int32), lvI z111, lvI z114, lvI z117, lvR b119, lvR b128, lvR b140, lvR b154, lvR b128, .val .null, .val .null, .unset, .unset, .unset, .unset, .unset, .unset, .unset]) rfl ?_
      refine XS.goto X168.here hx rfl (pc0 := 140) (pc' := 201) rfl (hb hby at_140) (by decide) (by decide) ?_
      show own_S p e below m T168 201 #[lvI p0_, lvI p1_, lvI (1 : Int32), lvI z111, lvI z114, lvI z117, lvR b119, lvR b128, lvR b140, lvR b154, lvR b128, .val .null, .val .null, .unset, .unset, .unset, .unset, .unset, .unset, .unset] [] _
      refine XS.aload X168.here hx rfl (hb hby at_201) rfl rfl ?_
      show own_S p e below m T168 203 #[lvI p0_, lvI p1_, lvI (1 : Int32), lvI z111, lvI z114, lvI z117, lvR b119, lvR b128, lvR b140, lvR b154, lvR b128, .val .null, .val .null, .unset, .unset, .unset, .unset, .unset, .unset, .unset] [(.ref b119)] _
      refine st224.trans ?_
      refine XS.astore X224.here hx rfl (hb hby at_206) rfl rfl (l' := #[lvI p0_, lvI p1_, lvI (1 : Int32), lvI z111, lvI z114, lvI z117, lvR b119, lvR b128, lvR b140, lvR b154, lvR b128, .val .null, .val .null, lvR b128, .unset, .unset, .unset, .unset, .unset, .unset]) rfl ?_
      refine XS.aload X224.here hx rfl (hb hby at_208) rfl rfl ?_
      show own_S p e below m T224 210 #[lvI p0_, lvI p1_, lvI (1 : Int32), lvI z111, lvI z114, lvI z117, lvR b119, lvR b128, lvR b140, lvR b154, lvR b128, .val .null, .val .null, lvR b128, .unset, .unset, .unset, .unset, .unset, .unset] [(.ref b119)] _
      refine st227.trans ?_
      refine XS.istore X227.here hx rfl (hb hby at_213) rfl (l' := #[lvI p0_, lvI p1_, lvI (1 : Int32), lvI z111, lvI z114, lvI z117, lvR b119, lvR b128, lvR b140, lvR b154, lvR b128, .val .null, .val .null, lvR b128, lvI (0 : Int32), .unset, .unset, .unset, .unset, .unset]) rfl ?_
      refine XS.aload X227.here hx rfl (hb hby at_215) rfl rfl ?_
      show own_S p e below m T227 217 #[lvI p0_, lvI p1_, lvI (1 : Int32), lvI z111, lvI z114, lvI z117, lvR b119, lvR b128, lvR b140, lvR b154, lvR b128, .val .null, .val .null, lvR b128, lvI (0 : Int32), .unset, .unset, .unset, .unset, .unset] [(.ref b119)] _
      refine st230.trans ?_
      refine XS.astore X230.here hx rfl (hb hby at_220) rfl rfl (l' := #[lvI p0_, lvI p1_, lvI (1 : Int32), lvI z111, lvI z114, lvI z117, lvR b119, lvR b128, lvR b140, lvR b154, lvR b128, .val .null, .val .null, lvR b128, lvI (0 : Int32), .val .null, .unset, .unset, .unset, .unset]) rfl ?_
      refine XS.aload X230.here hx rfl (hb hby at_222) rfl rfl ?_
      show own_S p e below m T230 224 #[lvI p0_, lvI p1_, lvI (1 : Int32), lvI z111, lvI z114, lvI z117, lvR b119, lvR b128, lvR b140, lvR b154, lvR b128, .val .null, .val .null, lvR b128, lvI (0 : Int32), .val .null, .unset, .unset, .unset, .unset] [(.ref b119)] _
      refine st232.trans ?_
      refine XS.astore X232.here hx rfl (hb hby at_227) rfl rfl (l' := #[lvI p0_, lvI p1_, lvI (1 : Int32), lvI z111, lvI z114, lvI z117, lvR b119, lvR b128, lvR b140, lvR b154, lvR b128, .val .null, .val .null, lvR b128, lvI (0 : Int32), .val .null, .val .null, .unset, .unset, .unset]) rfl ?_
      refine XS.aload X232.here hx rfl (hb hby at_229) rfl rfl ?_
      show own_S p e below m T232 231 #[lvI p0_, lvI p1_, lvI (1 : Int32), lvI z111, lvI z114, lvI z117, lvR b119, lvR b128, lvR b140, lvR b154, lvR b128, .val .null, .val .null, lvR b128, lvI (0 : Int32), .val .null, .val .null, .unset, .unset, .unset] [(.ref b119)] _
      refine st234.trans ?_
      refine XS.astore X234.here hx rfl (hb hby at_234) rfl rfl (l' := #[lvI p0_, lvI p1_, lvI (1 : Int32), lvI z111, lvI z114, lvI z117, lvR b119, lvR b128, lvR b140, lvR b154, lvR b128, .val .null, .val .null, lvR b128, lvI (0 : Int32), .val .null, .val .null, .val .null, .unset, .unset]) rfl ?_
      refine XS.aload X234.here hx rfl (hb hby at_236) rfl rfl ?_
      show own_S p e below m T234 238 #[lvI p0_, lvI p1_, lvI (1 : Int32), lvI z111, lvI z114, lvI z117, lvR b119, lvR b128, lvR b140, lvR b154, lvR b128, .val .null, .val .null, lvR b128, lvI (0 : Int32), .val .null, .val .null, .val .null, .unset, .unset] [(.ref b119)] _
      refine st236.trans ?_
      refine XS.istore X236.here hx rfl (hb hby at_241) rfl (l' := #[lvI p0_, lvI p1_, lvI (1 : Int32), lvI z111, lvI z114, lvI z117, lvR b119, lvR b128, lvR b140, lvR b154, lvR b128, .val .null, .val .null, lvR b128, lvI (0 : Int32), .val .null, .val .null, .val .null, lvI (0 : Int32), .unset]) rfl ?_
      refine XS.aload X236.here hx rfl (hb hby at_243) rfl rfl ?_
      refine XS.aload X236.here hx rfl (hb hby at_245) rfl rfl ?_
      show own_S p e below m T236 247 #[lvI p0_, lvI p1_, lvI (1 : Int32), lvI z111, lvI z114, lvI z117, lvR b119, lvR b128, lvR b140, lvR b154, lvR b128, .val .null, .val .null, lvR b128, lvI (0 : Int32), .val .null, .val .null, .val .null, lvI (0 : Int32), .unset] [(.ref b128), (.ref b128)] _
      refine Jvm.RoadKit.acmp (g := (mkF m 247 #[lvI p0_, lvI p1_, lvI (1 : Int32), lvI z111, lvI z114, lvI z117, lvR b119, lvR b128, lvR b140, lvR b154, lvR b128, .val .null, .val .null, lvR b128, lvI (0 : Int32), .val .null, .val .null, .val .null, lvI (0 : Int32), .unset] [(.ref b128), (.ref b128)])) X236 hx rfl rfl rfl (pc0 := 247) (pc' := 250) (same := true) rfl (hb hby at_247) rfl (decide_eq_true rfl) (by decide) (by decide) ?_
      refine XS.aload X236.here hx rfl (hb hby at_250) rfl rfl ?_
      refine XS.aload X236.here hx rfl (hb hby at_252) rfl rfl ?_
      show own_S p e below m T236 254 #[lvI p0_, lvI p1_, lvI (1 : Int32), lvI z111, lvI z114, lvI z117, lvR b119, lvR b128, lvR b140, lvR b154, lvR b128, .val .null, .val .null, lvR b128, lvI (0 : Int32), .val .null, .val .null, .val .null, lvI (0 : Int32), .unset] [.null, .null] _
      refine Jvm.RoadKit.acmp (g := (mkF m 254 #[lvI p0_, lvI p1_, lvI (1 : Int32), lvI z111, lvI z114, lvI z117, lvR b119, lvR b128, lvR b140, lvR b154, lvR b128, .val .null, .val .null, lvR b128, lvI (0 : Int32), .val .null, .val .null, .val .null, lvI (0 : Int32), .unset] [.null, .null])) X236 hx rfl rfl rfl (pc0 := 254) (pc' := 257) (same := true) rfl (hb hby at_254) rfl (decide_eq_true rfl) (by decide) (by decide) ?_
      refine XS.aload X236.here hx rfl (hb hby at_257) rfl rfl ?_
      refine XS.aload X236.here hx rfl (hb hby at_259) rfl rfl ?_
      show own_S p e below m T236 261 #[lvI p0_, lvI p1_, lvI (1 : Int32), lvI z111, lvI z114, lvI z117, lvR b119, lvR b128, lvR b140, lvR b154, lvR b128, .val .null, .val .null, lvR b128, lvI (0 : Int32), .val .null, .val .null, .val .null, lvI (0 : Int32), .unset] [.null, .null] _
      refine Jvm.RoadKit.acmp (g := (mkF m 261 #[lvI p0_, lvI p1_, lvI (1 : Int32), lvI z111, lvI z114, lvI z117, lvR b119, lvR b128, lvR b140, lvR b154, lvR b128, .val .null, .val .null, lvR b128, lvI (0 : Int32), .val .null, .val .null, .val .null, lvI (0 : Int32), .unset] [.null, .null])) X236 hx rfl rfl rfl (pc0 := 261) (pc' := 264) (same := true) rfl (hb hby at_261) rfl (decide_eq_true rfl) (by decide) (by decide) ?_
      refine XS.aload X236.here hx rfl (hb hby at_264) rfl rfl ?_
      show own_S p e below m T236 266 #[lvI p0_, lvI p1_, lvI (1 : Int32), lvI z111, lvI z114, lvI z117, lvR b119, lvR b128, lvR b140, lvR b154, lvR b128, .val .null, .val .null, lvR b128, lvI (0 : Int32), .val .null, .val .null, .val .null, lvI (0 : Int32), .unset] [.null] _
      refine XS.ifnonnullNo X236.here hx rfl (hb hby at_266) rfl ?_
      refine XS.iconst X236.here hx rfl (hb hby at_269) ?_
      refine XS.goto X236.here hx rfl (pc0 := 270) (pc' := 274) rfl (hb hby at_270) (by decide) (by decide) ?_
      refine XS.istore X236.here hx rfl (hb hby at_274) rfl (l' := #[lvI p0_, lvI p1_, lvI (1 : Int32), lvI z111, lvI z114, lvI z117, lvR b119, lvR b128, lvR b140, lvR b154, lvR b128, .val .null, .val .null, lvR b128, lvI (0 : Int32), .val .null, .val .null, .val .null, lvI (0 : Int32), lvI (1 : Int32)]) rfl ?_
      show own_S p e below m T236 276 #[lvI p0_, lvI p1_, lvI (1 : Int32), lvI z111, lvI z114, lvI z117, lvR b119, lvR b128, lvR b140, lvR b154, lvR b128, .val .null, .val .null, lvR b128, lvI (0 : Int32), .val .null, .val .null, .val .null, lvI (0 : Int32), lvI (1 : Int32)] [] _
      refine XS.iload X236.here hx rfl (hb hby at_276) rfl ?_
      show own_S p e below m T236 278 #[lvI p0_, lvI p1_, lvI (1 : Int32), lvI z111, lvI z114, lvI z117, lvR b119, lvR b128, lvR b140, lvR b154, lvR b128, .val .null, .val .null, lvR b128, lvI (0 : Int32), .val .null, .val .null, .val .null, lvI (0 : Int32), lvI (1 : Int32)] [(.int (1 : Int32))] _
      refine XS.ifNo X236.here hx rfl (hb hby at_278) rfl ((if0 _ _).trans (feq (by decide : ¬ ((1 : Int32) = (0 : Int32)))).1) ?_
      refine XS.iload X236.here hx rfl (hb hby at_281) rfl ?_
      refine XS.iloadN X236.here hx rfl (hb hby at_283) rfl ?_
      refine XS.iconst X236.here hx rfl (hb hby at_284) ?_
      show own_S p e below m T236 285 #[lvI p0_, lvI p1_, lvI (1 : Int32), lvI z111, lvI z114, lvI z117, lvR b119, lvR b128, lvR b140, lvR b154, lvR b128, .val .null, .val .null, lvR b128, lvI (0 : Int32), .val .null, .val .null, .val .null, lvI (0 : Int32), lvI (1 : Int32)] [(.int (1 : Int32)), (.int (1 : Int32)), (.int (0 : Int32))] _
      refine XS.isub X236.here hx rfl (hb hby at_285) rfl ?_
      refine XS.iconst X236.here hx rfl (hb hby at_286) ?_
      show own_S p e below m T236 287 #[lvI p0_, lvI p1_, lvI (1 : Int32), lvI z111, lvI z114, lvI z117, lvR b119, lvR b128, lvR b140, lvR b154, lvR b128, .val .null, .val .null, lvR b128, lvI (0 : Int32), .val .null, .val .null, .val .null, lvI (0 : Int32), lvI (1 : Int32)] [(.int (0 : Int32)), (.int (0 : Int32)), (.int (0 : Int32))] _
      refine st238 _ ?_
      show own_S p e below m T238 290 #[lvI p0_, lvI p1_, lvI (1 : Int32), lvI z111, lvI z114, lvI z117, lvR b119, lvR b128, lvR b140, lvR b154, lvR b128, .val .null, .val .null, lvR b128, lvI (0 : Int32), .val .null, .val .null, .val .null, lvI (0 : Int32), lvI (1 : Int32)] [(.int (0 : Int32)), (.int (0 : Int32))] _
      refine XS.icmpNo X238.here hx rfl (hb hby at_290) rfl (teq (by decide : (0 : Int32) = (0 : Int32))).2 ?_
      refine XS.iload X238.here hx rfl (hb hby at_293) rfl ?_
      show own_S p e below m T238 295 #[lvI p0_, lvI p1_, lvI (1 : Int32), lvI z111, lvI z114, lvI z117, lvR b119, lvR b128, lvR b140, lvR b154, lvR b128, .val .null, .val .null, lvR b128, lvI (0 : Int32), .val .null, .val .null, .val .null, lvI (0 : Int32), lvI (1 : Int32)] [(.int (0 : Int32))] _
      refine XS.ifNo X238.here hx rfl (hb hby at_295) rfl ((if0 _ _).trans (teq (by decide : (0 : Int32) = (0 : Int32))).2) ?_
      refine XS.aload X238.here hx rfl (hb hby at_298) rfl rfl ?_
      show own_S p e below m T238 300 #[lvI p0_, lvI p1_, lvI (1 : Int32), lvI z111, lvI z114, lvI z117, lvR b119, lvR b128, lvR b140, lvR b154, lvR b128, .val .null, .val .null, lvR b128, lvI (0 : Int32), .val .null, .val .null, .val .null, lvI (0 : Int32), lvI (1 : Int32)] [(.ref b119)] _
      refine st240.trans ?_
      show own_S p e below m T240 303 #[lvI p0_, lvI p1_, lvI (1 : Int32), lvI z111, lvI z114, lvI z117, lvR b119, lvR b128, lvR b140, lvR b154, lvR b128, .val .null, .val .null, lvR b128, lvI (0 : Int32), .val .null, .val .null, .val .null, lvI (0 : Int32), lvI (1 : Int32)] [.null] _
      refine XS.ifnonnullNo X240.here hx rfl (hb hby at_303) rfl ?_
      refine XS.iconst X240.here hx rfl (hb hby at_306) ?_
      refine XS.goto X240.here hx rfl (pc0 := 307) (pc' := 311) rfl (hb hby at_307) (by decide) (by decide) ?_
      refine XS.istore X240.here hx rfl (hb hby at_311) rfl (l' := #[lvI p0_, lvI p1_, lvI (1 : Int32), lvI z111, lvI z114, lvI z117, lvR b119, lvR b128, lvR b140, lvR b154, lvR b128, .val .null, .val .null, lvR b128, lvI (0 : Int32), .val .null, .val .null, .val .null, lvI (0 : Int32), lvI (1 : Int32)]) rfl ?_
      show own_S p e below m T240 313 #[lvI p0_, lvI p1_, lvI (1 : Int32), lvI z111, lvI z114, lvI z117, lvR b119, lvR b128, lvR b140, lvR b154, lvR b128, .val .null, .val .null, lvR b128, lvI (0 : Int32), .val .null, .val .null, .val .null, lvI (0 : Int32), lvI (1 : Int32)] [] _
      refine XS.iload X240.here hx rfl (hb hby at_313) rfl ?_
      show own_S p e below m T240 315 #[lvI p0_, lvI p1_, lvI (1 : Int32), lvI z111, lvI z114, lvI z117, lvR b119, lvR b128, lvR b140, lvR b154, lvR b128, .val .null, .val .null, lvR b128, lvI (0 : Int32), .val .null, .val .null, .val .null, lvI (0 : Int32), lvI (1 : Int32)] [(.int (1 : Int32))] _
      refine XS.ifNo X240.here hx rfl (hb hby at_315) rfl ((if0 _ _).trans (feq (by decide : ¬ ((1 : Int32) = (0 : Int32)))).1) ?_
      refine XS.aload X240.here hx rfl (hb hby at_318) rfl rfl ?_
      show own_S p e below m T240 320 #[lvI p0_, lvI p1_, lvI (1 : Int32), lvI z111, lvI z114, lvI z117, lvR b119, lvR b128, lvR b140, lvR b154, lvR b128, .val .null, .val .null, lvR b128, lvI (0 : Int32), .val .null, .val .null, .val .null, lvI (0 : Int32), lvI (1 : Int32)] [(.ref b128)] _
      refine XS.ifnullNo X240.here hx rfl (hb hby at_320) rfl ?_
      refine XS.aload X240.here hx rfl (hb hby at_323) rfl rfl ?_
      show own_S p e below m T240 325 #[lvI p0_, lvI p1_, lvI (1 : Int32), lvI z111, lvI z114, lvI z117, lvR b119, lvR b128, lvR b140, lvR b154, lvR b128, .val .null, .val .null, lvR b128, lvI (0 : Int32), .val .null, .val .null, .val .null, lvI (0 : Int32), lvI (1 : Int32)] [(.ref b128)] _
      refine st242.trans ?_
      show own_S p e below m T242 328 #[lvI p0_, lvI p1_, lvI (1 : Int32), lvI z111, lvI z114, lvI z117, lvR b119, lvR b128, lvR b140, lvR b154, lvR b128, .val .null, .val .null, lvR b128, lvI (0 : Int32), .val .null, .val .null, .val .null, lvI (0 : Int32), lvI (1 : Int32)] [(.int (0 : Int32))] _
      refine XS.ifNo X242.here hx rfl (hb hby at_328) rfl ((if0 _ _).trans (teq (by decide : (0 : Int32) = (0 : Int32))).2) ?_
      refine XS.iconst X242.here hx rfl (hb hby at_331) ?_
      refine XS.goto X242.here hx rfl (pc0 := 332) (pc' := 336) rfl (hb hby at_332) (by decide) (by decide) ?_
      refine XS.istore X242.here hx rfl (hb hby at_336) rfl (l' := #[lvI p0_, lvI p1_, lvI (1 : Int32), lvI z111, lvI z114, lvI z117, lvR b119, lvR b128, lvR b140, lvR b154, lvR b128, .val .null, .val .null, lvR b128, lvI (0 : Int32), .val .null, .val .null, .val .null, lvI (0 : Int32), lvI (1 : Int32)]) rfl ?_
      show own_S p e below m T242 338 #[lvI p0_, lvI p1_, lvI (1 : Int32), lvI z111, lvI z114, lvI z117, lvR b119, lvR b128, lvR b140, lvR b154, lvR b128, .val .null, .val .null, lvR b128, lvI (0 : Int32), .val .null, .val .null, .val .null, lvI (0 : Int32), lvI (1 : Int32)] [] _
      refine XS.iload X242.here hx rfl (hb hby at_338) rfl ?_
      exact kt
    obtain ⟨fs, hr, hrun, hended, hW, hsame⟩ := X242.leave (v := some (.int (1 : Int32))) (fun h => by rw [Bd.returns] at h; cases h)
    refine ⟨_, _, hG _ (pre244 _ (retN X242 hx (t := .boolean) Bd.returns (by simp) (hb hby at_340) hr)), hrun, hended, _, _, rfl, ?_, ⟨_, rfl⟩, hW, hsame.mono (by decide) (by decide)⟩
    show QLaw Z p0_ p1_ h0 n0 _ T242.heap _
    rw [e242']
    exact ⟨rfl, N243⟩
  · have pre246 : ∀ t, own_S p e below m s₁ 3 #[lvI p0_, lvI p1_, .unset, .unset, .unset, .unset, .unset, .unset, .unset, .unset, .unset, .unset, .unset, .unset, .unset, .unset, .unset, .unset, .unset, .unset] [(.int (2 : Int32))] t → G t := fun t kt => pre1 t (by rw [hv3]; exact kt)
    have pre247 : ∀ t, own_S p e below m s₁ 7 #[lvI p0_, lvI p1_, lvI (2 : Int32), .unset, .unset, .unset, .unset, .unset, .unset, .unset, .unset, .unset, .unset, .unset, .unset, .unset, .unset, .unset, .unset, .unset] [(.int (p1_ &&& (4 : Int32)))] t → G t := by
      intro t kt
      refine pre246 t ?_
      show own_S p e below m s₁ 3 #[lvI p0_, lvI p1_, .unset, .unset, .unset, .unset, .unset, .unset, .unset, .unset, .unset, .unset, .unset, .unset, .unset, .unset, .unset, .unset, .unset, .unset] [(.int (2 : Int32))] _
      refine XS.istoreN X0.here hx rfl (hb hby at_3) rfl (l' := #[lvI p0_, lvI p1_, lvI (2 : Int32), .unset, .unset, .unset, .unset, .unset, .unset, .unset, .unset, .unset, .unset, .unset, .unset, .unset, .unset, .unset, .unset, .unset]) rfl ?_
      refine XS.iloadN X0.here hx rfl (hb hby at_4) rfl ?_
      refine XS.iconst X0.here hx rfl (hb hby at_5) ?_
      refine XS.iand X0.here hx rfl (hb hby at_6) rfl ?_
      exact kt
    obtain ⟨z248, hz248, prez248⟩ : ∃ z : Int32, (((0 : Int32) = z ∧ ((p1_ &&& (4 : Int32)) = (0 : Int32))) ∨ ((1 : Int32) = z ∧ ¬ ((p1_ &&& (4 : Int32)) = (0 : Int32)))) ∧ ∀ t, own_S p e below m s₁ 15 #[lvI p0_, lvI p1_, lvI (2 : Int32), .unset, .unset, .unset, .unset, .unset, .unset, .unset, .unset, .unset, .unset, .unset, .unset, .unset, .unset, .unset, .unset, .unset] [(.int z)] t → G t := by
      by_cases hc249 : (p1_ &&& (4 : Int32)) = (0 : Int32)
      · refine ⟨(0 : Int32), Or.inl ⟨rfl, hc249⟩, fun t kt => pre247 t ?_⟩
        show own_S p e below m s₁ 7 #[lvI p0_, lvI p1_, lvI (2 : Int32), .unset, .unset, .unset, .unset, .unset, .unset, .unset, .unset, .unset, .unset, .unset, .unset, .unset, .unset, .unset, .unset, .unset] [(.int (p1_ &&& (4 : Int32)))] _
        refine XS.ifYes X0.here hx rfl (pc0 := 7) (pc' := 14) rfl (hb hby at_7) rfl ((if0 _ _).trans (teq hc249).1) (by decide) (by decide) ?_
        refine XS.iconst X0.here hx rfl (hb hby at_14) ?_
        exact kt
      · refine ⟨(1 : Int32), Or.inr ⟨rfl, hc249⟩, fun t kt => pre247 t ?_⟩
        show own_S p e below m s₁ 7 #[lvI p0_, lvI p1_, lvI (2 : Int32), .unset, .unset, .unset, .unset, .unset, .unset, .unset, .unset, .unset, .unset, .unset, .unset, .unset, .unset, .unset, .unset, .unset] [(.int (p1_ &&& (4 : Int32)))] _
        refine XS.ifNo X0.here hx rfl (hb hby at_7) rfl ((if0 _ _).trans (feq hc249).1) ?_
        refine XS.iconst X0.here hx rfl (hb hby at_10) ?_
        refine XS.goto X0.here hx rfl (pc0 := 11) (pc' := 15) rfl (hb hby at_11) (by decide) (by decide) ?_
        exact kt
    have pre250 : ∀ t, own_S p e below m s₁ 19 #[lvI p0_, lvI p1_, lvI (2 : Int32), lvI z248, .unset, .unset, .unset, .unset, .unset, .unset, .unset, .unset, .unset, .unset, .unset, .unset, .unset, .unset, .unset, .unset] [(.int (p1_ &&& (1 : Int32)))] t → G t := by
      intro t kt
      refine prez248 t ?_
      show own_S p e below m s₁ 15 #[lvI p0_, lvI p1_, lvI (2 : Int32), .unset, .unset, .unset, .unset, .unset, .unset, .unset, .unset, .unset, .unset, .unset, .unset, .unset, .unset, .unset, .unset, .unset] [(.int z248)] _
      refine XS.istoreN X0.here hx rfl (hb hby at_15) rfl (l' := #[lvI p0_, lvI p1_, lvI (2 : Int32), lvI z248, .unset, .unset, .unset, .unset, .unset, .unset, .unset, .unset, .unset, .unset, .unset, .unset, .unset, .unset, .unset, .unset]) rfl ?_
      refine XS.iloadN X0.here hx rfl (hb hby at_16) rfl ?_
      refine XS.iconst X0.here hx rfl (hb hby at_17) ?_
      refine XS.iand X0.here hx rfl (hb hby at_18) rfl ?_
      exact kt
    obtain ⟨z251, hz251, prez251⟩ : ∃ z : Int32, (((0 : Int32) = z ∧ ((p1_ &&& (1 : Int32)) = (0 : Int32))) ∨ ((1 : Int32) = z ∧ ¬ ((p1_ &&& (1 : Int32)) = (0 : Int32)))) ∧ ∀ t, own_S p e below m s₁ 27 #[lvI p0_, lvI p1_, lvI (2 : Int32), lvI z248, .unset, .unset, .unset, .unset, .unset, .unset, .unset, .unset, .unset, .unset, .unset, .unset, .unset, .unset, .unset, .unset] [(.int z)] t → G t := by
      by_cases hc252 : (p1_ &&& (1 : Int32)) = (0 : Int32)
      · refine ⟨(0 : Int32), Or.inl ⟨rfl, hc252⟩, fun t kt => pre250 t ?_⟩
        show own_S p e below m s₁ 19 #[lvI p0_, lvI p1_, lvI (2 : Int32), lvI z248, .unset, .unset, .unset, .unset, .unset, .unset, .unset, .unset, .unset, .unset, .unset, .unset, .unset, .unset, .unset, .unset] [(.int (p1_ &&& (1 : Int32)))] _
        refine XS.ifYes X0.here hx rfl (pc0 := 19) (pc' := 26) rfl (hb hby at_19) rfl ((if0 _ _).trans (teq hc252).1) (by decide) (by decide) ?_
        refine XS.iconst X0.here hx rfl (hb hby at_26) ?_
        exact kt
      · refine ⟨(1 : Int32), Or.inr ⟨rfl, hc252⟩, fun t kt => pre250 t ?_⟩
        show own_S p e below m s₁ 19 #[lvI p0_, lvI p1_, lvI (2 : Int32), lvI z248, .unset, .unset, .unset, .unset, .unset, .unset, .unset, .unset, .unset, .unset, .unset, .unset, .unset, .unset, .unset, .unset] [(.int (p1_ &&& (1 : Int32)))] _
        refine XS.ifNo X0.here hx rfl (hb hby at_19) rfl ((if0 _ _).trans (feq hc252).1) ?_
        refine XS.iconst X0.here hx rfl (hb hby at_22) ?_
        refine XS.goto X0.here hx rfl (pc0 := 23) (pc' := 27) rfl (hb hby at_23) (by decide) (by decide) ?_
        exact kt
    have pre253 : ∀ t, own_S p e below m s₁ 32 #[lvI p0_, lvI p1_, lvI (2 : Int32), lvI z248, lvI z251, .unset, .unset, .unset, .unset, .unset, .unset, .unset, .unset, .unset, .unset, .unset, .unset, .unset, .unset, .unset] [(.int (p1_ &&& (2 : Int32)))] t → G t := by
      intro t kt
      refine prez251 t ?_
      show own_S p e below m s₁ 27 #[lvI p0_, lvI p1_, lvI (2 : Int32), lvI z248, .unset, .unset, .unset, .unset, .unset, .unset, .unset, .unset, .unset, .unset, .unset, .unset, .unset, .unset, .unset, .unset] [(.int z251)] _
      refine XS.istore X0.here hx rfl (hb hby at_27) rfl (l' := #[lvI p0_, lvI p1_, lvI (2 : Int32), lvI z248, lvI z251, .unset, .unset, .unset, .unset, .unset, .unset, .unset, .unset, .unset, .unset, .unset, .unset, .unset, .unset, .unset]) rfl ?_
      refine XS.iloadN X0.here hx rfl (hb hby at_29) rfl ?_
      refine XS.iconst X0.here hx rfl (hb hby at_30) ?_
      refine XS.iand X0.here hx rfl (hb hby at_31) rfl ?_
      exact kt
    obtain ⟨z254, hz254, prez254⟩ : ∃ z : Int32, (((0 : Int32) = z ∧ ((p1_ &&& (2 : Int32)) = (0 : Int32))) ∨ ((1 : Int32) = z ∧ ¬ ((p1_ &&& (2 : Int32)) = (0 : Int32)))) ∧ ∀ t, own_S p e below m s₁ 40 #[lvI p0_, lvI p1_, lvI (2 : Int32), lvI z248, lvI z251, .unset, .unset, .unset, .unset, .unset, .unset, .unset, .unset, .unset, .unset, .unset, .unset, .unset, .unset, .unset] [(.int z)] t → G t := by
      by_cases hc255 : (p1_ &&& (2 : Int32)) = (0 : Int32)
      · refine ⟨(0 : Int32), Or.inl ⟨rfl, hc255⟩, fun t kt => pre253 t ?_⟩
        show own_S p e below m s₁ 32 #[lvI p0_, lvI p1_, lvI (2 : Int32), lvI z248, lvI z251, .unset, .unset, .unset, .unset, .unset, .unset, .unset, .unset, .unset, .unset, .unset, .unset, .unset, .unset, .unset] [(.int (p1_ &&& (2 : Int32)))] _
        refine XS.ifYes X0.here hx rfl (pc0 := 32) (pc' := 39) rfl (hb hby at_32) rfl ((if0 _ _).trans (teq hc255).1) (by decide) (by decide) ?_
        refine XS.iconst X0.here hx rfl (hb hby at_39) ?_
        exact kt
      · refine ⟨(1 : Int32), Or.inr ⟨rfl, hc255⟩, fun t kt => pre253 t ?_⟩
        show own_S p e below m s₁ 32 #[lvI p0_, lvI p1_, lvI (2 : Int32), lvI z248, lvI z251, .unset, .unset, .unset, .unset, .unset, .unset, .unset, .unset, .unset, .unset, .unset, .unset, .unset, .unset, .unset] [(.int (p1_ &&& (2 : Int32)))] _
        refine XS.ifNo X0.here hx rfl (hb hby at_32) rfl ((if0 _ _).trans (feq hc255).1) ?_
        refine XS.iconst X0.here hx rfl (hb hby at_35) ?_
        refine XS.goto X0.here hx rfl (pc0 := 36) (pc' := 40) rfl (hb hby at_36) (by decide) (by decide) ?_
        exact kt
    obtain ⟨T256, h256, X256, e256, E256, A256, D256, -, st256⟩ := newO X0 hx hZ hown (own_w hw 0 rfl) (own_w hw 1 rfl) (own_w hw 2 rfl) e0 (g := (mkF m 42 #[lvI p0_, lvI p1_, lvI (2 : Int32), lvI z248, lvI z251, lvI z254, .unset, .unset, .unset, .unset, .unset, .unset, .unset, .unset, .unset, .unset, .unset, .unset, .unset, .unset] [])) rfl (hb hby at_42) (by decide) (by decide)
    obtain ⟨b256, g256⟩ : ∃ z, z = h0.size := ⟨_, rfl⟩
    rw [← g256] at A256 D256 st256
    have ge257 : n0 ≤ b256 := Nat.le_trans (Nat.le_trans (Nat.le_of_eq O0.1.symm) O0.2.1) (Nat.le_of_eq g256.symm)
    have sz258 : h0.size ≤ b256 := Nat.le_trans K0.1 (Nat.le_of_eq g256.symm)
    have f259 : Fld Z h256 b256 "latchwork/WaitQueue" "head" "Llatchwork/WaitQueue$Waiter;" .null := D256 (Or.inl (own_w hw 24 rfl)) (ty := (.object "latchwork/WaitQueue$Waiter")) (by decide)
    have f260 : Fld Z h256 b256 "latchwork/WaitQueue" "size" "I" (.int (0 : Int32)) := D256 (Or.inl (own_w hw 31 rfl)) (ty := .int) (by decide)
    have f261 : Fld Z h256 b256 "latchwork/WaitQueue" "tail" "Llatchwork/WaitQueue$Waiter;" .null := D256 (Or.inl (own_w hw 47 rfl)) (ty := (.object "latchwork/WaitQueue$Waiter")) (by decide)
    have f263 : Old Z n0 h256 := O0.ext E256
    obtain ⟨_, _, ⟨T262, L262, k262, n262⟩, -, X262, ⟨Lc262, hQ262, l262, y262, z262⟩, st262⟩ := X256.specialBack hx (y := (⟨"latchwork/WaitQueue", "<init>", "()V"⟩ : MethodName)) rfl hown (mvT hZ (own_w hw 3 rfl)) (mvT hZ (own_w hw 4 rfl)) (mvT hZ (own_w hw 5 rfl)) (by decide) (backOf (W := 1) (rminit1 l Z a0 hw [] b256 h256 n0 f263 A256 f259 f260 f261) hZ (own_w hw 5 rfl) (own_w hw 2 rfl) (by decide) (by decide)) (g := (mkF m 46 #[lvI p0_, lvI p1_, lvI (2 : Int32), lvI z248, lvI z251, lvI z254, .unset, .unset, .unset, .unset, .unset, .unset, .unset, .unset, .unset, .unset, .unset, .unset, .unset, .unset] [(.ref b256), (.ref b256)])) rfl (by rw [hml]; rfl) (Steps.refl _) (a := b256) (argsL := []) (rest := [(.ref b256)]) (lenOf pd_0 rfl) rfl (by show 2 * 0 + _ ≤ _; exact Nat.le_of_eq rfl) (hb hby at_46) (fun _ _ => ⟨rfl, e256, (by decide : 1 + 0 ≤ _), (by decide : 4 + 0 ≤ _)⟩)
    dsimp only [Pt.U, Pt.locs, Pt.cells, Pt.slots] at X262 l262 y262 z262 st262 hQ262
    subst l262 y262 z262
    obtain ⟨h262, e262⟩ : ∃ z, T262.heap = z := ⟨_, rfl⟩
    rw [e262] at hQ262
    obtain ⟨rfl, N262q, hh262⟩ := hQ262
    have N264 := Fr.app N0 N262q
    have e262' : T262.heap = h256 := e262.trans hh262
    obtain ⟨T265, h265, X265, e265, E265, A265, D265, -, st265⟩ := newO X262 hx hZ hown (own_w hw 9 rfl) (own_w hw 10 rfl) (own_w hw 11 rfl) e262' (g := (mkF m 51 #[lvI p0_, lvI p1_, lvI (2 : Int32), lvI z248, lvI z251, lvI z254, lvR b256, .unset, .unset, .unset, .unset, .unset, .unset, .unset, .unset, .unset, .unset, .unset, .unset, .unset] [])) rfl (hb hby at_51) (by decide) (by decide)
    obtain ⟨b265, g265⟩ : ∃ z, z = h256.size := ⟨_, rfl⟩
    rw [← g265] at A265 D265 st265
    have ge266 : n0 ≤ b265 := Nat.le_trans (Nat.le_trans (Nat.le_of_eq f263.1.symm) f263.2.1) (Nat.le_of_eq g265.symm)
    have f267 : Keep h0 h256 [] := K0.ext E256
    have sz268 : h0.size ≤ b265 := Nat.le_trans f267.1 (Nat.le_of_eq g265.symm)
    have f269 : Fld Z h265 b265 cn0 "thread" "Ljava/lang/Thread;" .null := D265 (Or.inr (own_w hw 17 rfl)) (ty := (.object "java/lang/Thread")) (by decide)
    have f270 : Fld Z h265 b265 cn0 "picked" "Z" (.int (0 : Int32)) := D265 (Or.inl (own_w hw 49 rfl)) (ty := .boolean) (by decide)
    have f271 : Fld Z h265 b265 cn0 "queued" "Z" (.int (0 : Int32)) := D265 (Or.inl (own_w hw 51 rfl)) (ty := .boolean) (by decide)
    have f272 : Fld Z h265 b265 cn0 "next" "Llatchwork/WaitQueue$Waiter;" .null := D265 (Or.inl (own_w hw 53 rfl)) (ty := (.object "latchwork/WaitQueue$Waiter")) (by decide)
    have f273 : Fld Z h265 b265 cn0 "prev" "Llatchwork/WaitQueue$Waiter;" .null := D265 (Or.inl (own_w hw 55 rfl)) (ty := (.object "latchwork/WaitQueue$Waiter")) (by decide)
    have f275 : Old Z n0 h265 := f263.ext E265
    obtain ⟨_, _, ⟨T274, L274, k274, n274⟩, -, X274, ⟨Lc274, hQ274, l274, y274, z274⟩, st274⟩ := X265.specialBack hx (y := (⟨"latchwork/WaitQueue$Waiter", "<init>", "(Ljava/lang/Thread;)V"⟩ : MethodName)) rfl hown (mvT hZ (own_w hw 12 rfl)) (mvT hZ (own_w hw 13 rfl)) (mvT hZ (own_w hw 14 rfl)) (by decide) (backOf (W := 1) (rminit2 l Z a0 hw [] b265 h265 n0 f275 A265 f269 f270 f271 f272 f273 ge266) hZ (own_w hw 14 rfl) (own_w hw 11 rfl) (by decide) (by decide)) (g := (mkF m 56 #[lvI p0_, lvI p1_, lvI (2 : Int32), lvI z248, lvI z251, lvI z254, lvR b256, .unset, .unset, .unset, .unset, .unset, .unset, .unset, .unset, .unset, .unset, .unset, .unset, .unset] [.null, (.ref b265), (.ref b265)])) rfl (by rw [hml]; rfl) (Steps.refl _) (a := b265) (argsL := [.null]) (rest := [(.ref b265)]) (lenOf pd_1 rfl) rfl (by show 2 * 0 + _ ≤ _; exact Nat.le_of_eq rfl) (hb hby at_56) (fun _ _ => ⟨rfl, e265, (by decide : 2 + 0 ≤ _), (by decide : 12 + 0 ≤ _)⟩)
    dsimp only [Pt.U, Pt.locs, Pt.cells, Pt.slots] at X274 l274 y274 z274 st274 hQ274
    subst l274 y274 z274
    obtain ⟨h274, e274⟩ : ∃ z, T274.heap = z := ⟨_, rfl⟩
    rw [e274] at hQ274
    obtain ⟨rfl, N274q, K274, g274_0, g274_1, g274_2, g274_3, g274_4, g274_5⟩ := hQ274
    have N276 := Fr.app N264 N274q
    obtain ⟨T277, h277, X277, e277, E277, A277, D277, -, st277⟩ := newO X274 hx hZ hown (own_w hw 9 rfl) (own_w hw 10 rfl) (own_w hw 11 rfl) e274 (g := (mkF m 61 #[lvI p0_, lvI p1_, lvI (2 : Int32), lvI z248, lvI z251, lvI z254, lvR b256, lvR b265, .unset, .unset, .unset, .unset, .unset, .unset, .unset, .unset, .unset, .unset, .unset, .unset] [])) rfl (hb hby at_61) (by decide) (by decide)
    obtain ⟨b277, g277⟩ : ∃ z, z = h274.size := ⟨_, rfl⟩
    rw [← g277] at A277 D277 st277
    have f278 : Old Z n0 h274 := f275.keep K274 (allS (ge266) all0)
    have ge279 : n0 ≤ b277 := Nat.le_trans (Nat.le_trans (Nat.le_of_eq f278.1.symm) f278.2.1) (Nat.le_of_eq g277.symm)
    have f280 : Keep h0 h265 [] := f267.ext E265
    have f281 : Keep h0 h274 [] := f280.trans K274 (allS (Or.inr sz268) all0)
    have sz282 : h0.size ≤ b277 := Nat.le_trans f281.1 (Nat.le_of_eq g277.symm)
    have f283 : Fld Z h277 b277 cn0 "thread" "Ljava/lang/Thread;" .null := D277 (Or.inr (own_w hw 17 rfl)) (ty := (.object "java/lang/Thread")) (by decide)
    have f284 : Fld Z h277 b277 cn0 "picked" "Z" (.int (0 : Int32)) := D277 (Or.inl (own_w hw 49 rfl)) (ty := .boolean) (by decide)
    have f285 : Fld Z h277 b277 cn0 "queued" "Z" (.int (0 : Int32)) := D277 (Or.inl (own_w hw 51 rfl)) (ty := .boolean) (by decide)
    have f286 : Fld Z h277 b277 cn0 "next" "Llatchwork/WaitQueue$Waiter;" .null := D277 (Or.inl (own_w hw 53 rfl)) (ty := (.object "latchwork/WaitQueue$Waiter")) (by decide)
    have f287 : Fld Z h277 b277 cn0 "prev" "Llatchwork/WaitQueue$Waiter;" .null := D277 (Or.inl (own_w hw 55 rfl)) (ty := (.object "latchwork/WaitQueue$Waiter")) (by decide)
    have f289 : Old Z n0 h277 := f278.ext E277
    obtain ⟨_, _, ⟨T288, L288, k288, n288⟩, -, X288, ⟨Lc288, hQ288, l288, y288, z288⟩, st288⟩ := X277.specialBack hx (y := (⟨"latchwork/WaitQueue$Waiter", "<init>", "(Ljava/lang/Thread;)V"⟩ : MethodName)) rfl hown (mvT hZ (own_w hw 12 rfl)) (mvT hZ (own_w hw 13 rfl)) (mvT hZ (own_w hw 14 rfl)) (by decide) (backOf (W := 1) (rminit2 l Z a0 hw [] b277 h277 n0 f289 A277 f283 f284 f285 f286 f287 ge279) hZ (own_w hw 14 rfl) (own_w hw 11 rfl) (by decide) (by decide)) (g := (mkF m 66 #[lvI p0_, lvI p1_, lvI (2 : Int32), lvI z248, lvI z251, lvI z254, lvR b256, lvR b265, .unset, .unset, .unset, .unset, .unset, .unset, .unset, .unset, .unset, .unset, .unset, .unset] [.null, (.ref b277), (.ref b277)])) rfl (by rw [hml]; rfl) (Steps.refl _) (a := b277) (argsL := [.null]) (rest := [(.ref b277)]) (lenOf pd_1 rfl) rfl (by show 2 * 0 + _ ≤ _; exact Nat.le_of_eq rfl) (hb hby at_66) (fun _ _ => ⟨rfl, e277, (by decide : 3 + 0 ≤ _), (by decide : 20 + 0 ≤ _)⟩)
    dsimp only [Pt.U, Pt.locs, Pt.cells, Pt.slots] at X288 l288 y288 z288 st288 hQ288
    subst l288 y288 z288
    obtain ⟨h288, e288⟩ : ∃ z, T288.heap = z := ⟨_, rfl⟩
    rw [e288] at hQ288
    obtain ⟨rfl, N288q, K288, g288_0, g288_1, g288_2, g288_3, g288_4, g288_5⟩ := hQ288
    have N290 := Fr.app N276 N288q
    obtain ⟨T291, h291, X291, e291, E291, A291, D291, -, st291⟩ := newO X288 hx hZ hown (own_w hw 9 rfl) (own_w hw 10 rfl) (own_w hw 11 rfl) e288 (g := (mkF m 71 #[lvI p0_, lvI p1_, lvI (2 : Int32), lvI z248, lvI z251, lvI z254, lvR b256, lvR b265, lvR b277, .unset, .unset, .unset, .unset, .unset, .unset, .unset, .unset, .unset, .unset, .unset] [])) rfl (hb hby at_71) (by decide) (by decide)
    obtain ⟨b291, g291⟩ : ∃ z, z = h288.size := ⟨_, rfl⟩
    rw [← g291] at A291 D291 st291
    have f292 : Old Z n0 h288 := f289.keep K288 (allS (ge279) all0)
    have ge293 : n0 ≤ b291 := Nat.le_trans (Nat.le_trans (Nat.le_of_eq f292.1.symm) f292.2.1) (Nat.le_of_eq g291.symm)
    have f294 : Keep h0 h277 [] := f281.ext E277
    have f295 : Keep h0 h288 [] := f294.trans K288 (allS (Or.inr sz282) all0)
    have sz296 : h0.size ≤ b291 := Nat.le_trans f295.1 (Nat.le_of_eq g291.symm)
    have f297 : Fld Z h291 b291 cn0 "thread" "Ljava/lang/Thread;" .null := D291 (Or.inr (own_w hw 17 rfl)) (ty := (.object "java/lang/Thread")) (by decide)
    have f298 : Fld Z h291 b291 cn0 "picked" "Z" (.int (0 : Int32)) := D291 (Or.inl (own_w hw 49 rfl)) (ty := .boolean) (by decide)
    have f299 : Fld Z h291 b291 cn0 "queued" "Z" (.int (0 : Int32)) := D291 (Or.inl (own_w hw 51 rfl)) (ty := .boolean) (by decide)
    have f300 : Fld Z h291 b291 cn0 "next" "Llatchwork/WaitQueue$Waiter;" .null := D291 (Or.inl (own_w hw 53 rfl)) (ty := (.object "latchwork/WaitQueue$Waiter")) (by decide)
    have f301 : Fld Z h291 b291 cn0 "prev" "Llatchwork/WaitQueue$Waiter;" .null := D291 (Or.inl (own_w hw 55 rfl)) (ty := (.object "latchwork/WaitQueue$Waiter")) (by decide)
    have f303 : Old Z n0 h291 := f292.ext E291
    obtain ⟨_, _, ⟨T302, L302, k302, n302⟩, -, X302, ⟨Lc302, hQ302, l302, y302, z302⟩, st302⟩ := X291.specialBack hx (y := (⟨"latchwork/WaitQueue$Waiter", "<init>", "(Ljava/lang/Thread;)V"⟩ : MethodName)) rfl hown (mvT hZ (own_w hw 12 rfl)) (mvT hZ (own_w hw 13 rfl)) (mvT hZ (own_w hw 14 rfl)) (by decide) (backOf (W := 1) (rminit2 l Z a0 hw [] b291 h291 n0 f303 A291 f297 f298 f299 f300 f301 ge293) hZ (own_w hw 14 rfl) (own_w hw 11 rfl) (by decide) (by decide)) (g := (mkF m 76 #[lvI p0_, lvI p1_, lvI (2 : Int32), lvI z248, lvI z251, lvI z254, lvR b256, lvR b265, lvR b277, .unset, .unset, .unset, .unset, .unset, .unset, .unset, .unset, .unset, .unset, .unset] [.null, (.ref b291), (.ref b291)])) rfl (by rw [hml]; rfl) (Steps.refl _) (a := b291) (argsL := [.null]) (rest := [(.ref b291)]) (lenOf pd_1 rfl) rfl (by show 2 * 0 + _ ≤ _; exact Nat.le_of_eq rfl) (hb hby at_76) (fun _ _ => ⟨rfl, e291, (by decide : 4 + 0 ≤ _), (by decide : 28 + 0 ≤ _)⟩)
    dsimp only [Pt.U, Pt.locs, Pt.cells, Pt.slots] at X302 l302 y302 z302 st302 hQ302
    subst l302 y302 z302
    obtain ⟨h302, e302⟩ : ∃ z, T302.heap = z := ⟨_, rfl⟩
    rw [e302] at hQ302
    obtain ⟨rfl, N302q, K302, g302_0, g302_1, g302_2, g302_3, g302_4, g302_5⟩ := hQ302
    have N304 := Fr.app N290 N302q
    have f306 : Exa Z h265 b256 "latchwork/WaitQueue" := A256.ext E265
    have f307 : Exa Z h274 b256 "latchwork/WaitQueue" := f306.keep K274
    have f308 : Exa Z h277 b256 "latchwork/WaitQueue" := f307.ext E277
    have f309 : Exa Z h288 b256 "latchwork/WaitQueue" := f308.keep K288
    have f310 : Exa Z h291 b256 "latchwork/WaitQueue" := f309.ext E291
    have f311 : Exa Z h302 b256 "latchwork/WaitQueue" := f310.keep K302
    have f312 : Fld Z h265 b256 "latchwork/WaitQueue" "head" "Llatchwork/WaitQueue$Waiter;" .null := f259.ext E265
    have ne314 : b256 ≠ b265 := Nat.ne_of_lt (Nat.lt_of_lt_of_le A256.lt (Nat.le_of_eq g265.symm))
    have f313 : Fld Z h274 b256 "latchwork/WaitQueue" "head" "Llatchwork/WaitQueue$Waiter;" .null := f312.keep K274 (ninS ne314 nin0)
    have f315 : Fld Z h277 b256 "latchwork/WaitQueue" "head" "Llatchwork/WaitQueue$Waiter;" .null := f313.ext E277
    have ne317 : b256 ≠ b277 := Nat.ne_of_lt (Nat.lt_of_lt_of_le f307.lt (Nat.le_of_eq g277.symm))
    have f316 : Fld Z h288 b256 "latchwork/WaitQueue" "head" "Llatchwork/WaitQueue$Waiter;" .null := f315.keep K288 (ninS ne317 nin0)
    have f318 : Fld Z h291 b256 "latchwork/WaitQueue" "head" "Llatchwork/WaitQueue$Waiter;" .null := f316.ext E291
    have ne320 : b256 ≠ b291 := Nat.ne_of_lt (Nat.lt_of_lt_of_le f309.lt (Nat.le_of_eq g291.symm))
    have f319 : Fld Z h302 b256 "latchwork/WaitQueue" "head" "Llatchwork/WaitQueue$Waiter;" .null := f318.keep K302 (ninS ne320 nin0)
    have f321 : Fld Z h265 b256 "latchwork/WaitQueue" "size" "I" (.int (0 : Int32)) := f260.ext E265
    have f322 : Fld Z h274 b256 "latchwork/WaitQueue" "size" "I" (.int (0 : Int32)) := f321.keep K274 (ninS ne314 nin0)
    have f323 : Fld Z h277 b256 "latchwork/WaitQueue" "size" "I" (.int (0 : Int32)) := f322.ext E277
    have f324 : Fld Z h288 b256 "latchwork/WaitQueue" "size" "I" (.int (0 : Int32)) := f323.keep K288 (ninS ne317 nin0)
    have f325 : Fld Z h291 b256 "latchwork/WaitQueue" "size" "I" (.int (0 : Int32)) := f324.ext E291
    have f326 : Fld Z h302 b256 "latchwork/WaitQueue" "size" "I" (.int (0 : Int32)) := f325.keep K302 (ninS ne320 nin0)
    have f327 : Fld Z h265 b256 "latchwork/WaitQueue" "tail" "Llatchwork/WaitQueue$Waiter;" .null := f261.ext E265
    have f328 : Fld Z h274 b256 "latchwork/WaitQueue" "tail" "Llatchwork/WaitQueue$Waiter;" .null := f327.keep K274 (ninS ne314 nin0)
    have f329 : Fld Z h277 b256 "latchwork/WaitQueue" "tail" "Llatchwork/WaitQueue$Waiter;" .null := f328.ext E277
    have f330 : Fld Z h288 b256 "latchwork/WaitQueue" "tail" "Llatchwork/WaitQueue$Waiter;" .null := f329.keep K288 (ninS ne317 nin0)
    have f331 : Fld Z h291 b256 "latchwork/WaitQueue" "tail" "Llatchwork/WaitQueue$Waiter;" .null := f330.ext E291
    have f332 : Fld Z h302 b256 "latchwork/WaitQueue" "tail" "Llatchwork/WaitQueue$Waiter;" .null := f331.keep K302 (ninS ne320 nin0)
    have f333 : Exa Z h277 b265 cn0 := g274_0.ext E277
    have f334 : Exa Z h288 b265 cn0 := f333.keep K288
    have f335 : Exa Z h291 b265 cn0 := f334.ext E291
    have f336 : Exa Z h302 b265 cn0 := f335.keep K302
    have f337 : Fld Z h277 b265 cn0 "thread" "Ljava/lang/Thread;" .null := g274_1.ext E277
    have ne339 : b265 ≠ b277 := Nat.ne_of_lt (Nat.lt_of_lt_of_le g274_0.lt (Nat.le_of_eq g277.symm))
    have f338 : Fld Z h288 b265 cn0 "thread" "Ljava/lang/Thread;" .null := f337.keep K288 (ninS ne339 nin0)
    have f340 : Fld Z h291 b265 cn0 "thread" "Ljava/lang/Thread;" .null := f338.ext E291
    have ne342 : b265 ≠ b291 := Nat.ne_of_lt (Nat.lt_of_lt_of_le f334.lt (Nat.le_of_eq g291.symm))
    have f341 : Fld Z h302 b265 cn0 "thread" "Ljava/lang/Thread;" .null := f340.keep K302 (ninS ne342 nin0)
    have f343 : Fld Z h277 b265 cn0 "picked" "Z" (.int (0 : Int32)) := g274_2.ext E277
    have f344 : Fld Z h288 b265 cn0 "picked" "Z" (.int (0 : Int32)) := f343.keep K288 (ninS ne339 nin0)
    have f345 : Fld Z h291 b265 cn0 "picked" "Z" (.int (0 : Int32)) := f344.ext E291
    have f346 : Fld Z h302 b265 cn0 "picked" "Z" (.int (0 : Int32)) := f345.keep K302 (ninS ne342 nin0)
    have f347 : Fld Z h277 b265 cn0 "queued" "Z" (.int (0 : Int32)) := g274_3.ext E277
    have f348 : Fld Z h288 b265 cn0 "queued" "Z" (.int (0 : Int32)) := f347.keep K288 (ninS ne339 nin0)
    have f349 : Fld Z h291 b265 cn0 "queued" "Z" (.int (0 : Int32)) := f348.ext E291
    have f350 : Fld Z h302 b265 cn0 "queued" "Z" (.int (0 : Int32)) := f349.keep K302 (ninS ne342 nin0)
    have f351 : Fld Z h277 b265 cn0 "next" "Llatchwork/WaitQueue$Waiter;" .null := g274_4.ext E277
    have f352 : Fld Z h288 b265 cn0 "next" "Llatchwork/WaitQueue$Waiter;" .null := f351.keep K288 (ninS ne339 nin0)
    have f353 : Fld Z h291 b265 cn0 "next" "Llatchwork/WaitQueue$Waiter;" .null := f352.ext E291
    have f354 : Fld Z h302 b265 cn0 "next" "Llatchwork/WaitQueue$Waiter;" .null := f353.keep K302 (ninS ne342 nin0)
    have f355 : Fld Z h277 b265 cn0 "prev" "Llatchwork/WaitQueue$Waiter;" .null := g274_5.ext E277
    have f356 : Fld Z h288 b265 cn0 "prev" "Llatchwork/WaitQueue$Waiter;" .null := f355.keep K288 (ninS ne339 nin0)
    have f357 : Fld Z h291 b265 cn0 "prev" "Llatchwork/WaitQueue$Waiter;" .null := f356.ext E291
    have f358 : Fld Z h302 b265 cn0 "prev" "Llatchwork/WaitQueue$Waiter;" .null := f357.keep K302 (ninS ne342 nin0)
    have f359 : Old Z n0 h302 := f303.keep K302 (allS (ge293) all0)
    obtain ⟨cq305, kq305, q305a, q305b, q305c⟩ := isOf hZ e302 f311
    obtain ⟨_, _, ⟨T305, L305, k305, n305⟩, -, X305, ⟨Lc305, hQ305, l305, y305, z305⟩, st305⟩ := X302.virtualBack hx (y := (⟨"latchwork/WaitQueue", "add", "(Llatchwork/WaitQueue$Waiter;Z)V"⟩ : MethodName)) (z := (⟨"latchwork/WaitQueue", "add", "(Llatchwork/WaitQueue$Waiter;Z)V"⟩ : MethodName)) hown (mvT hZ (own_w hw 41 rfl)) (mvT hZ (own_w hw 42 rfl)) (notFace_of_selects (args := #[]) (mvT hZ (own_w hw 44 rfl))) (mvT hZ (own_w hw 44 rfl)) (mvT hZ (own_w hw 43 rfl)) (by decide) (backOf (W := 0) (rmadd7 l Z a0 hw [] b256 b265 z248 h302 n0 f359 f311 f319 f326 f332 f336 f341 f346 f350 f354 f358 ge257 (Ne.symm ne314) ge266) hZ (own_w hw 45 rfl) (own_w hw 2 rfl) (by decide) (by decide)) q305a q305c (g := (mkF m 91 #[lvI p0_, lvI p1_, lvI (2 : Int32), lvI z248, lvI z251, lvI z254, lvR b256, lvR b265, lvR b277, lvR b291, .unset, .unset, .unset, .unset, .unset, .unset, .unset, .unset, .unset, .unset] [(.int z248), (.ref b265), (.ref b256)])) rfl (by rw [hml]; rfl) (Steps.refl _) (argsL := [(.ref b265), (.int z248)]) (rest := []) (lenOf pd_5 rfl) rfl (by show 2 * 0 + _ ≤ _; exact Nat.le_of_eq rfl) (hb hby at_91) (fun _ _ => ⟨rfl, e302, (by decide : 4 + 0 ≤ _), (by decide : 28 + 0 ≤ _)⟩)
    dsimp only [Pt.U, Pt.locs, Pt.cells, Pt.slots] at X305 l305 y305 z305 st305 hQ305
    subst l305 y305 z305
    obtain ⟨h305, e305⟩ : ∃ z, T305.heap = z := ⟨_, rfl⟩
    rw [e305] at hQ305
    obtain ⟨rfl, N305q, K305, g305_0, g305_1, g305_2, g305_3, g305_4, g305_5, g305_6, g305_7, g305_8, g305_9⟩ := hQ305
    have N360 := Fr.app N304 N305q
    have pre361 : ∀ t, own_S p e below m T305 105 #[lvI p0_, lvI p1_, lvI (2 : Int32), lvI z248, lvI z251, lvI z254, lvR b256, lvR b265, lvR b277, lvR b291, .unset, .unset, .unset, .unset, .unset, .unset, .unset, .unset, .unset, .unset] [(.int z251), (.ref b277), (.ref b256)] t → G t := by
      intro t kt
      refine prez254 t ?_
      show own_S p e below m s₁ 40 #[lvI p0_, lvI p1_, lvI (2 : Int32), lvI z248, lvI z251, .unset, .unset, .unset, .unset, .unset, .unset, .unset, .unset, .unset, .unset, .unset, .unset, .unset, .unset, .unset] [(.int z254)] _
      refine XS.istore X0.here hx rfl (hb hby at_40) rfl (l' := #[lvI p0_, lvI p1_, lvI (2 : Int32), lvI z248, lvI z251, lvI z254, .unset, .unset, .unset, .unset, .unset, .unset, .unset, .unset, .unset, .unset, .unset, .unset, .unset, .unset]) rfl ?_
      show own_S p e below m s₁ 42 #[lvI p0_, lvI p1_, lvI (2 : Int32), lvI z248, lvI z251, lvI z254, .unset, .unset, .unset, .unset, .unset, .unset, .unset, .unset, .unset, .unset, .unset, .unset, .unset, .unset] [] _
      refine st256 _ ?_
      refine XS.dup X256.here hx rfl (hb hby at_45) rfl rfl ?_
      show own_S p e below m T256 46 #[lvI p0_, lvI p1_, lvI (2 : Int32), lvI z248, lvI z251, lvI z254, .unset, .unset, .unset, .unset, .unset, .unset, .unset, .unset, .unset, .unset, .unset, .unset, .unset, .unset] [(.ref b256), (.ref b256)] _
      refine st262.trans ?_
      refine XS.astore X262.here hx rfl (hb hby at_49) rfl rfl (l' := #[lvI p0_, lvI p1_, lvI (2 : Int32), lvI z248, lvI z251, lvI z254, lvR b256, .unset, .unset, .unset, .unset, .unset, .unset, .unset, .unset, .unset, .unset, .unset, .unset, .unset]) rfl ?_
      show own_S p e below m T262 51 #[lvI p0_, lvI p1_, lvI (2 : Int32), lvI z248, lvI z251, lvI z254, lvR b256, .unset, .unset, .unset, .unset, .unset, .unset, .unset, .unset, .unset, .unset, .unset, .unset, .unset] [] _
      refine st265 _ ?_
      refine XS.dup X265.here hx rfl (hb hby at_54) rfl rfl ?_
      refine XS.aconstNull X265.here hx rfl (hb hby at_55) ?_
      show own_S p e below m T265 56 #[lvI p0_, lvI p1_, lvI (2 : Int32), lvI z248, lvI z251, lvI z254, lvR b256, .unset, .unset, .unset, .unset, .unset, .unset, .unset, .unset, .unset, .unset, .unset, .unset, .unset] [.null, (.ref b265), (.ref b265)] _
      refine st274.trans ?_
      refine XS.astore X274.here hx rfl (hb hby at_59) rfl rfl (l' := #[lvI p0_, lvI p1_, lvI (2 : Int32), lvI z248, lvI z251, lvI z254, lvR b256, lvR b265, .unset, .unset, .unset, .unset, .unset, .unset, .unset, .unset, .unset, .unset, .unset, .unset]) rfl ?_
      show own_S p e below m T274 61 #[lvI p0_, lvI p1_, lvI (2 : Int32), lvI z248, lvI z251, lvI z254, lvR b256, lvR b265, .unset, .unset, .unset, .unset, .unset, .unset, .unset, .unset, .unset, .unset, .unset, .unset] [] _
      refine st277 _ ?_
      refine XS.dup X277.here hx rfl (hb hby at_64) rfl rfl ?_
      refine XS.aconstNull X277.here hx rfl (hb hby at_65) ?_
      show own_S p e below m T277 66 #[lvI p0_, lvI p1_, lvI (2 : Int32), lvI z248, lvI z251, lvI z254, lvR b256, lvR b265, .unset, .unset, .unset, .unset, .unset, .unset, .unset, .unset, .unset, .unset, .unset, .unset] [.null, (.ref b277), (.ref b277)] _
      refine st288.trans ?_
      refine XS.astore X288.here hx rfl (hb hby at_69) rfl rfl (l' := #[lvI p0_, lvI p1_, lvI (2 : Int32), lvI z248, lvI z251, lvI z254, lvR b256, lvR b265, lvR b277, .unset, .unset, .unset, .unset, .unset, .unset, .unset, .unset, .unset, .unset, .unset]) rfl ?_
      show own_S p e below m T288 71 #[lvI p0_, lvI p1_, lvI (2 : Int32), lvI z248, lvI z251, lvI z254, lvR b256, lvR b265, lvR b277, .unset, .unset, .unset, .unset, .unset, .unset, .unset, .unset, .unset, .unset, .unset] [] _
      refine st291 _ ?_
      refine XS.dup X291.here hx rfl (hb hby at_74) rfl rfl ?_
      refine XS.aconstNull X291.here hx rfl (hb hby at_75) ?_
      show own_S p e below m T291 76 #[lvI p0_, lvI p1_, lvI (2 : Int32), lvI z248, lvI z251, lvI z254, lvR b256, lvR b265, lvR b277, .unset, .unset, .unset, .unset, .unset, .unset, .unset, .unset, .unset, .unset, .unset] [.null, (.ref b291), (.ref b291)] _
      refine st302.trans ?_
      refine XS.astore X302.here hx rfl (hb hby at_79) rfl rfl (l' := #[lvI p0_, lvI p1_, lvI (2 : Int32), lvI z248, lvI z251, lvI z254, lvR b256, lvR b265, lvR b277, lvR b291, .unset, .unset, .unset, .unset, .unset, .unset, .unset, .unset, .unset, .unset]) rfl ?_
      refine XS.iloadN X302.here hx rfl (hb hby at_81) rfl ?_
      refine XS.iconst X302.here hx rfl (hb hby at_82) ?_
      show own_S p e below m T302 83 #[lvI p0_, lvI p1_, lvI (2 : Int32), lvI z248, lvI z251, lvI z254, lvR b256, lvR b265, lvR b277, lvR b291, .unset, .unset, .unset, .unset, .unset, .unset, .unset, .unset, .unset, .unset] [(.int (1 : Int32)), (.int (2 : Int32))] _
      refine XS.icmpNo X302.here hx rfl (hb hby at_83) rfl (flt (by decide : ¬ ((2 : Int32) < (1 : Int32)))).1 ?_
      refine XS.aload X302.here hx rfl (hb hby at_86) rfl rfl ?_
      refine XS.aload X302.here hx rfl (hb hby at_88) rfl rfl ?_
      refine XS.iloadN X302.here hx rfl (hb hby at_90) rfl ?_
      show own_S p e below m T302 91 #[lvI p0_, lvI p1_, lvI (2 : Int32), lvI z248, lvI z251, lvI z254, lvR b256, lvR b265, lvR b277, lvR b291, .unset, .unset, .unset, .unset, .unset, .unset, .unset, .unset, .unset, .unset] [(.int z248), (.ref b265), (.ref b256)] _
      refine st305.trans ?_
      refine XS.iloadN X305.here hx rfl (hb hby at_94) rfl ?_
      refine XS.iconst X305.here hx rfl (hb hby at_95) ?_
      show own_S p e below m T305 96 #[lvI p0_, lvI p1_, lvI (2 : Int32), lvI z248, lvI z251, lvI z254, lvR b256, lvR b265, lvR b277, lvR b291, .unset, .unset, .unset, .unset, .unset, .unset, .unset, .unset, .unset, .unset] [(.int (2 : Int32)), (.int (2 : Int32))] _
      refine XS.icmpNo X305.here hx rfl (hb hby at_96) rfl (flt (by decide : ¬ ((2 : Int32) < (2 : Int32)))).1 ?_
      refine XS.aload X305.here hx rfl (hb hby at_99) rfl rfl ?_
      refine XS.aload X305.here hx rfl (hb hby at_101) rfl rfl ?_
      refine XS.iload X305.here hx rfl (hb hby at_103) rfl ?_
      exact kt
    rcases hz251 with ⟨rfl, hj362⟩ | ⟨rfl, hj362⟩
    · have f364 : Exa Z h291 b277 cn0 := g288_0.ext E291
      have f365 : Exa Z h302 b277 cn0 := f364.keep K302
      have f366 : Exa Z h305 b277 cn0 := f365.keep K305
      have f367 : Fld Z h291 b277 cn0 "thread" "Ljava/lang/Thread;" .null := g288_1.ext E291
      have ne369 : b277 ≠ b291 := Nat.ne_of_lt (Nat.lt_of_lt_of_le g288_0.lt (Nat.le_of_eq g291.symm))
      have f368 : Fld Z h302 b277 cn0 "thread" "Ljava/lang/Thread;" .null := f367.keep K302 (ninS ne369 nin0)
      have f370 : Fld Z h305 b277 cn0 "thread" "Ljava/lang/Thread;" .null := f368.keep K305 (ninS (Ne.symm ne317) (ninS (Ne.symm ne339) nin0))
      have f371 : Fld Z h291 b277 cn0 "picked" "Z" (.int (0 : Int32)) := g288_2.ext E291
      have f372 : Fld Z h302 b277 cn0 "picked" "Z" (.int (0 : Int32)) := f371.keep K302 (ninS ne369 nin0)
      have f373 : Fld Z h305 b277 cn0 "picked" "Z" (.int (0 : Int32)) := f372.keep K305 (ninS (Ne.symm ne317) (ninS (Ne.symm ne339) nin0))
      have f374 : Fld Z h291 b277 cn0 "queued" "Z" (.int (0 : Int32)) := g288_3.ext E291
      have f375 : Fld Z h302 b277 cn0 "queued" "Z" (.int (0 : Int32)) := f374.keep K302 (ninS ne369 nin0)
      have f376 : Fld Z h305 b277 cn0 "queued" "Z" (.int (0 : Int32)) := f375.keep K305 (ninS (Ne.symm ne317) (ninS (Ne.symm ne339) nin0))
      have f377 : Fld Z h291 b277 cn0 "next" "Llatchwork/WaitQueue$Waiter;" .null := g288_4.ext E291
      have f378 : Fld Z h302 b277 cn0 "next" "Llatchwork/WaitQueue$Waiter;" .null := f377.keep K302 (ninS ne369 nin0)
      have f379 : Fld Z h305 b277 cn0 "next" "Llatchwork/WaitQueue$Waiter;" .null := f378.keep K305 (ninS (Ne.symm ne317) (ninS (Ne.symm ne339) nin0))
      have f380 : Fld Z h291 b277 cn0 "prev" "Llatchwork/WaitQueue$Waiter;" .null := g288_5.ext E291
      have f381 : Fld Z h302 b277 cn0 "prev" "Llatchwork/WaitQueue$Waiter;" .null := f380.keep K302 (ninS ne369 nin0)
      have f382 : Fld Z h305 b277 cn0 "prev" "Llatchwork/WaitQueue$Waiter;" .null := f381.keep K305 (ninS (Ne.symm ne317) (ninS (Ne.symm ne339) nin0))
      have f383 : Old Z n0 h305 := f359.keep K305 (allS (ge257) (allS (ge266) all0))
      obtain ⟨cq363, kq363, q363a, q363b, q363c⟩ := isOf hZ e305 g305_0
      obtain ⟨_, _, ⟨T363, L363, k363, n363⟩, -, X363, ⟨Lc363, hQ363, l363, y363, z363⟩, st363⟩ := X305.virtualBack hx (y := (⟨"latchwork/WaitQueue", "add", "(Llatchwork/WaitQueue$Waiter;Z)V"⟩ : MethodName)) (z := (⟨"latchwork/WaitQueue", "add", "(Llatchwork/WaitQueue$Waiter;Z)V"⟩ : MethodName)) hown (mvT hZ (own_w hw 41 rfl)) (mvT hZ (own_w hw 42 rfl)) (notFace_of_selects (args := #[]) (mvT hZ (own_w hw 44 rfl))) (mvT hZ (own_w hw 44 rfl)) (mvT hZ (own_w hw 43 rfl)) (by decide) (backOf (W := 0) (rmadd12 l Z a0 hw [] b256 b277 b265 h305 n0 f383 g305_0 g305_1 g305_2 g305_3 f366 f370 f373 f376 f379 f382 g305_4 g305_5 g305_6 g305_7 g305_8 g305_9 ge279 ne317 ne339 ge266 ne314 ge257) hZ (own_w hw 45 rfl) (own_w hw 2 rfl) (by decide) (by decide)) q363a q363c (g := (mkF m 105 #[lvI p0_, lvI p1_, lvI (2 : Int32), lvI z248, lvI (0 : Int32), lvI z254, lvR b256, lvR b265, lvR b277, lvR b291, .unset, .unset, .unset, .unset, .unset, .unset, .unset, .unset, .unset, .unset] [(.int (0 : Int32)), (.ref b277), (.ref b256)])) rfl (by rw [hml]; rfl) (Steps.refl _) (argsL := [(.ref b277), (.int (0 : Int32))]) (rest := []) (lenOf pd_5 rfl) rfl (by show 2 * 0 + _ ≤ _; exact Nat.le_of_eq rfl) (hb hby at_105) (fun _ _ => ⟨rfl, e305, (by decide : 4 + 0 ≤ _), (by decide : 28 + 0 ≤ _)⟩)
      dsimp only [Pt.U, Pt.locs, Pt.cells, Pt.slots] at X363 l363 y363 z363 st363 hQ363
      subst l363 y363 z363
      obtain ⟨h363, e363⟩ : ∃ z, T363.heap = z := ⟨_, rfl⟩
      rw [e363] at hQ363
      obtain ⟨rfl, N363q, K363, g363_0, g363_1, g363_2, g363_3, g363_4, g363_5, g363_6, g363_7, g363_8, g363_9, g363_10, g363_11, g363_12, g363_13, g363_14, g363_15⟩ := hQ363
      have N384 := Fr.app N360 N363q
      have f386 : Old Z n0 h363 := f383.keep K363 (allS (ge279) (allS (ge266) (allS (ge257) all0)))
      obtain ⟨cq385, kq385, q385a, q385b, q385c⟩ := isOf hZ e363 g363_0
      obtain ⟨_, _, ⟨T385, L385, k385, n385⟩, -, X385, ⟨Lc385, hQ385, l385, y385, z385⟩, st385⟩ := X363.virtualBack hx (y := (⟨"latchwork/WaitQueue", "poll", "()Llatchwork/WaitQueue$Waiter;"⟩ : MethodName)) (z := (⟨"latchwork/WaitQueue", "poll", "()Llatchwork/WaitQueue$Waiter;"⟩ : MethodName)) hown (mvT hZ (own_w hw 18 rfl)) (mvT hZ (own_w hw 19 rfl)) (notFace_of_selects (args := #[]) (mvT hZ (own_w hw 21 rfl))) (mvT hZ (own_w hw 21 rfl)) (mvT hZ (own_w hw 20 rfl)) (by decide) (backOf (W := 0) (rmpoll13 l Z a0 hw [] b256 b265 b277 h363 n0 f386 g363_0 g363_1 g363_2 g363_3 g363_10 g363_11 g363_12 g363_13 g363_14 g363_15 g363_4 g363_5 g363_6 g363_7 g363_8 g363_9 ge257 (Ne.symm ne314) (Ne.symm ne317) ge279 ne339 ge266) hZ (own_w hw 22 rfl) (own_w hw 2 rfl) (by decide) (by decide)) q385a q385c (g := (mkF m 203 #[lvI p0_, lvI p1_, lvI (2 : Int32), lvI z248, lvI (0 : Int32), lvI z254, lvR b256, lvR b265, lvR b277, lvR b291, lvR b265, lvR b277, .val .null, .unset, .unset, .unset, .unset, .unset, .unset, .unset] [(.ref b256)])) rfl (by rw [hml]; rfl) (Steps.refl _) (argsL := []) (rest := []) (lenOf pd_2 rfl) rfl (by show 2 * 0 + _ ≤ _; exact Nat.le_of_eq rfl) (hb hby at_203) (fun _ _ => ⟨rfl, e363, (by decide : 4 + 0 ≤ _), (by decide : 28 + 0 ≤ _)⟩)
      dsimp only [Pt.U, Pt.locs, Pt.cells, Pt.slots] at X385 l385 y385 z385 st385 hQ385
      subst l385 y385 z385
      obtain ⟨h385, e385⟩ : ∃ z, T385.heap = z := ⟨_, rfl⟩
      rw [e385] at hQ385
      obtain ⟨rfl, N385q, K385, g385_0, g385_1, g385_2, g385_3, g385_4, g385_5, g385_6, g385_7, g385_8, g385_9, g385_10, g385_11, g385_12, g385_13, g385_14, g385_15⟩ := hQ385
      have N387 := Fr.app N384 N385q
      have f389 : Old Z n0 h385 := f386.keep K385 (allS (ge257) (allS (ge279) (allS (ge266) all0)))
      obtain ⟨cq388, kq388, q388a, q388b, q388c⟩ := isOf hZ e385 g385_0
      obtain ⟨_, _, ⟨T388, L388, k388, n388⟩, -, X388, ⟨Lc388, hQ388, l388, y388, z388⟩, st388⟩ := X385.virtualBack hx (y := (⟨"latchwork/WaitQueue", "size", "()I"⟩ : MethodName)) (z := (⟨"latchwork/WaitQueue", "size", "()I"⟩ : MethodName)) hown (mvT hZ (own_w hw 25 rfl)) (mvT hZ (own_w hw 26 rfl)) (notFace_of_selects (args := #[]) (mvT hZ (own_w hw 28 rfl))) (mvT hZ (own_w hw 28 rfl)) (mvT hZ (own_w hw 27 rfl)) (by decide) (backOf (W := 0) (rmsize15 l Z a0 hw [] b256 b277 h385 n0 f389 g385_0 g385_1 g385_2 g385_3 g385_10 g385_11 g385_12 g385_13 g385_14 g385_15) hZ (own_w hw 29 rfl) (own_w hw 2 rfl) (by decide) (by decide)) q388a q388c (g := (mkF m 210 #[lvI p0_, lvI p1_, lvI (2 : Int32), lvI z248, lvI (0 : Int32), lvI z254, lvR b256, lvR b265, lvR b277, lvR b291, lvR b265, lvR b277, .val .null, lvR b265, .unset, .unset, .unset, .unset, .unset, .unset] [(.ref b256)])) rfl (by rw [hml]; rfl) (Steps.refl _) (argsL := []) (rest := []) (lenOf pd_3 rfl) rfl (by show 2 * 0 + _ ≤ _; exact Nat.le_of_eq rfl) (hb hby at_210) (fun _ _ => ⟨rfl, e385, (by decide : 4 + 0 ≤ _), (by decide : 28 + 0 ≤ _)⟩)
      dsimp only [Pt.U, Pt.locs, Pt.cells, Pt.slots] at X388 l388 y388 z388 st388 hQ388
      subst l388 y388 z388
      obtain ⟨h388, e388⟩ : ∃ z, T388.heap = z := ⟨_, rfl⟩
      rw [e388] at hQ388
      obtain ⟨rfl, N388q, hh388⟩ := hQ388
      have N390 := Fr.app N387 N388q
      have e388' : T388.heap = h385 := e388.trans hh388
      obtain ⟨cq391, kq391, q391a, q391b, q391c⟩ := isOf hZ e388' g385_0
      obtain ⟨_, _, ⟨T391, L391, k391, n391⟩, -, X391, ⟨Lc391, hQ391, l391, y391, z391⟩, st391⟩ := X388.virtualBack hx (y := (⟨"latchwork/WaitQueue", "poll", "()Llatchwork/WaitQueue$Waiter;"⟩ : MethodName)) (z := (⟨"latchwork/WaitQueue", "poll", "()Llatchwork/WaitQueue$Waiter;"⟩ : MethodName)) hown (mvT hZ (own_w hw 18 rfl)) (mvT hZ (own_w hw 19 rfl)) (notFace_of_selects (args := #[]) (mvT hZ (own_w hw 21 rfl))) (mvT hZ (own_w hw 21 rfl)) (mvT hZ (own_w hw 20 rfl)) (by decide) (backOf (W := 0) (rmpoll8 l Z a0 hw [] b256 b277 h385 n0 f389 g385_0 g385_1 g385_2 g385_3 g385_10 g385_11 g385_12 g385_13 g385_14 g385_15 ge257 (Ne.symm ne317) ge279) hZ (own_w hw 22 rfl) (own_w hw 2 rfl) (by decide) (by decide)) q391a q391c (g := (mkF m 217 #[lvI p0_, lvI p1_, lvI (2 : Int32), lvI z248, lvI (0 : Int32), lvI z254, lvR b256, lvR b265, lvR b277, lvR b291, lvR b265, lvR b277, .val .null, lvR b265, lvI (1 : Int32), .unset, .unset, .unset, .unset, .unset] [(.ref b256)])) rfl (by rw [hml]; rfl) (Steps.refl _) (argsL := []) (rest := []) (lenOf pd_2 rfl) rfl (by show 2 * 0 + _ ≤ _; exact Nat.le_of_eq rfl) (hb hby at_217) (fun _ _ => ⟨rfl, e388', (by decide : 4 + 0 ≤ _), (by decide : 28 + 0 ≤ _)⟩)
      dsimp only [Pt.U, Pt.locs, Pt.cells, Pt.slots] at X391 l391 y391 z391 st391 hQ391
      subst l391 y391 z391
      obtain ⟨h391, e391⟩ : ∃ z, T391.heap = z := ⟨_, rfl⟩
      rw [e391] at hQ391
      obtain ⟨rfl, N391q, K391, g391_0, g391_1, g391_2, g391_3, g391_4, g391_5, g391_6, g391_7, g391_8, g391_9⟩ := hQ391
      have N392 := Fr.app N390 N391q
      have f394 : Old Z n0 h391 := f389.keep K391 (allS (ge257) (allS (ge279) all0))
      obtain ⟨cq393, kq393, q393a, q393b, q393c⟩ := isOf hZ e391 g391_0
      obtain ⟨_, _, ⟨T393, L393, k393, n393⟩, -, X393, ⟨Lc393, hQ393, l393, y393, z393⟩, st393⟩ := X391.virtualBack hx (y := (⟨"latchwork/WaitQueue", "poll", "()Llatchwork/WaitQueue$Waiter;"⟩ : MethodName)) (z := (⟨"latchwork/WaitQueue", "poll", "()Llatchwork/WaitQueue$Waiter;"⟩ : MethodName)) hown (mvT hZ (own_w hw 18 rfl)) (mvT hZ (own_w hw 19 rfl)) (notFace_of_selects (args := #[]) (mvT hZ (own_w hw 21 rfl))) (mvT hZ (own_w hw 21 rfl)) (mvT hZ (own_w hw 20 rfl)) (by decide) (backOf (W := 0) (rmpoll3 l Z a0 hw [] b256 h391 n0 f394 g391_0 g391_1 g391_2 g391_3) hZ (own_w hw 22 rfl) (own_w hw 2 rfl) (by decide) (by decide)) q393a q393c (g := (mkF m 224 #[lvI p0_, lvI p1_, lvI (2 : Int32), lvI z248, lvI (0 : Int32), lvI z254, lvR b256, lvR b265, lvR b277, lvR b291, lvR b265, lvR b277, .val .null, lvR b265, lvI (1 : Int32), lvR b277, .unset, .unset, .unset, .unset] [(.ref b256)])) rfl (by rw [hml]; rfl) (Steps.refl _) (argsL := []) (rest := []) (lenOf pd_2 rfl) rfl (by show 2 * 0 + _ ≤ _; exact Nat.le_of_eq rfl) (hb hby at_224) (fun _ _ => ⟨rfl, e391, (by decide : 4 + 0 ≤ _), (by decide : 28 + 0 ≤ _)⟩)
      dsimp only [Pt.U, Pt.locs, Pt.cells, Pt.slots] at X393 l393 y393 z393 st393 hQ393
      subst l393 y393 z393
      obtain ⟨h393, e393⟩ : ∃ z, T393.heap = z := ⟨_, rfl⟩
      rw [e393] at hQ393
      obtain ⟨rfl, N393q, hh393⟩ := hQ393
      have N395 := Fr.app N392 N393q
      have e393' : T393.heap = h391 := e393.trans hh393
      obtain ⟨cq396, kq396, q396a, q396b, q396c⟩ := isOf hZ e393' g391_0
      obtain ⟨_, _, ⟨T396, L396, k396, n396⟩, -, X396, ⟨Lc396, hQ396, l396, y396, z396⟩, st396⟩ := X393.virtualBack hx (y := (⟨"latchwork/WaitQueue", "poll", "()Llatchwork/WaitQueue$Waiter;"⟩ : MethodName)) (z := (⟨"latchwork/WaitQueue", "poll", "()Llatchwork/WaitQueue$Waiter;"⟩ : MethodName)) hown (mvT hZ (own_w hw 18 rfl)) (mvT hZ (own_w hw 19 rfl)) (notFace_of_selects (args := #[]) (mvT hZ (own_w hw 21 rfl))) (mvT hZ (own_w hw 21 rfl)) (mvT hZ (own_w hw 20 rfl)) (by decide) (backOf (W := 0) (rmpoll3 l Z a0 hw [] b256 h391 n0 f394 g391_0 g391_1 g391_2 g391_3) hZ (own_w hw 22 rfl) (own_w hw 2 rfl) (by decide) (by decide)) q396a q396c (g := (mkF m 231 #[lvI p0_, lvI p1_, lvI (2 : Int32), lvI z248, lvI (0 : Int32), lvI z254, lvR b256, lvR b265, lvR b277, lvR b291, lvR b265, lvR b277, .val .null, lvR b265, lvI (1 : Int32), lvR b277, .val .null, .unset, .unset, .unset] [(.ref b256)])) rfl (by rw [hml]; rfl) (Steps.refl _) (argsL := []) (rest := []) (lenOf pd_2 rfl) rfl (by show 2 * 0 + _ ≤ _; exact Nat.le_of_eq rfl) (hb hby at_231) (fun _ _ => ⟨rfl, e393', (by decide : 4 + 0 ≤ _), (by decide : 28 + 0 ≤ _)⟩)
      dsimp only [Pt.U, Pt.locs, Pt.cells, Pt.slots] at X396 l396 y396 z396 st396 hQ396
      subst l396 y396 z396
      obtain ⟨h396, e396⟩ : ∃ z, T396.heap = z := ⟨_, rfl⟩
      rw [e396] at hQ396
      obtain ⟨rfl, N396q, hh396⟩ := hQ396
      have N397 := Fr.app N395 N396q
      have e396' : T396.heap = h391 := e396.trans hh396
      obtain ⟨cq398, kq398, q398a, q398b, q398c⟩ := isOf hZ e396' g391_0
      obtain ⟨_, _, ⟨T398, L398, k398, n398⟩, -, X398, ⟨Lc398, hQ398, l398, y398, z398⟩, st398⟩ := X396.virtualBack hx (y := (⟨"latchwork/WaitQueue", "size", "()I"⟩ : MethodName)) (z := (⟨"latchwork/WaitQueue", "size", "()I"⟩ : MethodName)) hown (mvT hZ (own_w hw 25 rfl)) (mvT hZ (own_w hw 26 rfl)) (notFace_of_selects (args := #[]) (mvT hZ (own_w hw 28 rfl))) (mvT hZ (own_w hw 28 rfl)) (mvT hZ (own_w hw 27 rfl)) (by decide) (backOf (W := 0) (rmsize4 l Z a0 hw [] b256 h391 n0 f394 g391_0 g391_1 g391_2 g391_3) hZ (own_w hw 29 rfl) (own_w hw 2 rfl) (by decide) (by decide)) q398a q398c (g := (mkF m 238 #[lvI p0_, lvI p1_, lvI (2 : Int32), lvI z248, lvI (0 : Int32), lvI z254, lvR b256, lvR b265, lvR b277, lvR b291, lvR b265, lvR b277, .val .null, lvR b265, lvI (1 : Int32), lvR b277, .val .null, .val .null, .unset, .unset] [(.ref b256)])) rfl (by rw [hml]; rfl) (Steps.refl _) (argsL := []) (rest := []) (lenOf pd_3 rfl) rfl (by show 2 * 0 + _ ≤ _; exact Nat.le_of_eq rfl) (hb hby at_238) (fun _ _ => ⟨rfl, e396', (by decide : 4 + 0 ≤ _), (by decide : 28 + 0 ≤ _)⟩)
      dsimp only [Pt.U, Pt.locs, Pt.cells, Pt.slots] at X398 l398 y398 z398 st398 hQ398
      subst l398 y398 z398
      obtain ⟨h398, e398⟩ : ∃ z, T398.heap = z := ⟨_, rfl⟩
      rw [e398] at hQ398
      obtain ⟨rfl, N398q, hh398⟩ := hQ398
      have N399 := Fr.app N397 N398q
      have e398' : T398.heap = h391 := e398.trans hh398
      obtain ⟨_, _, ⟨T400, L400, k400, n400⟩, -, X400, ⟨Lc400, hQ400, l400, y400, z400⟩, st400⟩ := Jvm.LawKit.callS X398 hx (y := (⟨"java/lang/Math", "max", "(II)I"⟩ : MethodName)) hown (mvT hZ (own_w hw 32 rfl)) (mvT hZ (own_w hw 33 rfl)) (mvT hZ (own_w hw 34 rfl)) (mvT hZ (own_w hw 35 rfl)) (by decide) (backOf (W := 1) (rmmax16 l Z a0 hw []  h391 n0 f394 ) hZ (own_w hw 35 rfl) (own_w hw 34 rfl) (by decide) (by decide)) (g := (mkF m 287 #[lvI p0_, lvI p1_, lvI (2 : Int32), lvI z248, lvI (0 : Int32), lvI z254, lvR b256, lvR b265, lvR b277, lvR b291, lvR b265, lvR b277, .val .null, lvR b265, lvI (1 : Int32), lvR b277, .val .null, .val .null, lvI (0 : Int32), lvI (1 : Int32)] [(.int (0 : Int32)), (.int (1 : Int32)), (.int (1 : Int32))])) rfl (by rw [hml]; rfl) (argsL := [(.int (1 : Int32)), (.int (0 : Int32))]) (rest := [(.int (1 : Int32))]) (lenOf pd_4 rfl) rfl (by show 2 * 0 + _ ≤ _; exact Nat.le_of_eq rfl) (hb hby at_287) (fun _ _ => ⟨rfl, e398', (by decide : 4 + 0 ≤ _), (by decide : 28 + 0 ≤ _)⟩)
      dsimp only [Pt.U, Pt.locs, Pt.cells, Pt.slots] at X400 l400 y400 z400 st400 hQ400
      subst l400 y400 z400
      obtain ⟨h400, e400⟩ : ∃ z, T400.heap = z := ⟨_, rfl⟩
      rw [e400] at hQ400
      obtain ⟨rfl, N400q, hh400⟩ := hQ400
      have N401 := Fr.app N399 N400q
      have e400' : T400.heap = h391 := e400.trans hh400
      obtain ⟨cq402, kq402, q402a, q402b, q402c⟩ := isOf hZ e400' g391_0
      obtain ⟨_, _, ⟨T402, L402, k402, n402⟩, -, X402, ⟨Lc402, hQ402, l402, y402, z402⟩, st402⟩ := X400.virtualBack hx (y := (⟨"latchwork/WaitQueue", "first", "()Llatchwork/WaitQueue$Waiter;"⟩ : MethodName)) (z := (⟨"latchwork/WaitQueue", "first", "()Llatchwork/WaitQueue$Waiter;"⟩ : MethodName)) hown (mvT hZ (own_w hw 36 rfl)) (mvT hZ (own_w hw 37 rfl)) (notFace_of_selects (args := #[]) (mvT hZ (own_w hw 39 rfl))) (mvT hZ (own_w hw 39 rfl)) (mvT hZ (own_w hw 38 rfl)) (by decide) (backOf (W := 0) (rmfirst6 l Z a0 hw [] b256 h391 n0 f394 g391_0 g391_1 g391_2 g391_3) hZ (own_w hw 40 rfl) (own_w hw 2 rfl) (by decide) (by decide)) q402a q402c (g := (mkF m 300 #[lvI p0_, lvI p1_, lvI (2 : Int32), lvI z248, lvI (0 : Int32), lvI z254, lvR b256, lvR b265, lvR b277, lvR b291, lvR b265, lvR b277, .val .null, lvR b265, lvI (1 : Int32), lvR b277, .val .null, .val .null, lvI (0 : Int32), lvI (1 : Int32)] [(.ref b256)])) rfl (by rw [hml]; rfl) (Steps.refl _) (argsL := []) (rest := []) (lenOf pd_2 rfl) rfl (by show 2 * 0 + _ ≤ _; exact Nat.le_of_eq rfl) (hb hby at_300) (fun _ _ => ⟨rfl, e400', (by decide : 4 + 0 ≤ _), (by decide : 28 + 0 ≤ _)⟩)
      dsimp only [Pt.U, Pt.locs, Pt.cells, Pt.slots] at X402 l402 y402 z402 st402 hQ402
      subst l402 y402 z402
      obtain ⟨h402, e402⟩ : ∃ z, T402.heap = z := ⟨_, rfl⟩
      rw [e402] at hQ402
      obtain ⟨rfl, N402q, hh402⟩ := hQ402
      have N403 := Fr.app N401 N402q
      have e402' : T402.heap = h391 := e402.trans hh402
      have f405 : Exa Z h391 b265 cn0 := g385_4.keep K391
      have f406 : Fld Z h391 b265 cn0 "thread" "Ljava/lang/Thread;" .null := g385_5.keep K391 (ninS (Ne.symm ne314) (ninS ne339 nin0))
      have f407 : Fld Z h391 b265 cn0 "picked" "Z" (.int (0 : Int32)) := g385_6.keep K391 (ninS (Ne.symm ne314) (ninS ne339 nin0))
      have f408 : Fld Z h391 b265 cn0 "queued" "Z" (.int (0 : Int32)) := g385_7.keep K391 (ninS (Ne.symm ne314) (ninS ne339 nin0))
      have f409 : Fld Z h391 b265 cn0 "next" "Llatchwork/WaitQueue$Waiter;" .null := g385_8.keep K391 (ninS (Ne.symm ne314) (ninS ne339 nin0))
      have f410 : Fld Z h391 b265 cn0 "prev" "Llatchwork/WaitQueue$Waiter;" .null := g385_9.keep K391 (ninS (Ne.symm ne314) (ninS ne339 nin0))
      obtain ⟨cq404, kq404, q404a, q404b, q404c⟩ := isOf hZ e402' f405
      obtain ⟨_, _, ⟨T404, L404, k404, n404⟩, -, X404, ⟨Lc404, hQ404, l404, y404, z404⟩, st404⟩ := X402.virtualBack hx (y := (⟨"latchwork/WaitQueue$Waiter", "isQueued", "()Z"⟩ : MethodName)) (z := (⟨"latchwork/WaitQueue$Waiter", "isQueued", "()Z"⟩ : MethodName)) hown (mvT hZ (own_w hw 61 rfl)) (mvT hZ (own_w hw 62 rfl)) (notFace_of_selects (args := #[]) (mvT hZ (own_w hw 64 rfl))) (mvT hZ (own_w hw 64 rfl)) (mvT hZ (own_w hw 63 rfl)) (by decide) (backOf (W := 0) (rmisQueued11 l Z a0 hw [] b265 h391 n0 f394 f405 f406 f407 f408 f409 f410) hZ (own_w hw 65 rfl) (own_w hw 11 rfl) (by decide) (by decide)) q404a q404c (g := (mkF m 325 #[lvI p0_, lvI p1_, lvI (2 : Int32), lvI z248, lvI (0 : Int32), lvI z254, lvR b256, lvR b265, lvR b277, lvR b291, lvR b265, lvR b277, .val .null, lvR b265, lvI (1 : Int32), lvR b277, .val .null, .val .null, lvI (0 : Int32), lvI (1 : Int32)] [(.ref b265)])) rfl (by rw [hml]; rfl) (Steps.refl _) (argsL := []) (rest := []) (lenOf pd_7 rfl) rfl (by show 2 * 0 + _ ≤ _; exact Nat.le_of_eq rfl) (hb hby at_325) (fun _ _ => ⟨rfl, e402', (by decide : 4 + 0 ≤ _), (by decide : 28 + 0 ≤ _)⟩)
      dsimp only [Pt.U, Pt.locs, Pt.cells, Pt.slots] at X404 l404 y404 z404 st404 hQ404
      subst l404 y404 z404
      obtain ⟨h404, e404⟩ : ∃ z, T404.heap = z := ⟨_, rfl⟩
      rw [e404] at hQ404
      obtain ⟨rfl, N404q, hh404⟩ := hQ404
      have N411 := Fr.app N403 N404q
      have e404' : T404.heap = h391 := e404.trans hh404
      have pre412 : ∀ t, own_S p e below m T404 340 #[lvI p0_, lvI p1_, lvI (2 : Int32), lvI z248, lvI (0 : Int32), lvI z254, lvR b256, lvR b265, lvR b277, lvR b291, lvR b265, lvR b277, .val .null, lvR b265, lvI (1 : Int32), lvR b277, .val .null, .val .null, lvI (0 : Int32), lvI (1 : Int32)] [(.int (1 : Int32))] t → G t := by
        intro t kt
        refine pre361 t ?_
        show own_S p e below m T305 105 #[lvI p0_, lvI p1_, lvI (2 : Int32), lvI z248, lvI (0 : Int32), lvI z254, lvR b256, lvR b265, lvR b277, lvR b291, .unset, .unset, .unset, .unset, .unset, .unset, .unset, .unset, .unset, .unset] [(.int (0 : Int32)), (.ref b277), (.ref b256)] _
        refine st363.trans ?_
        refine XS.iloadN X363.here hx rfl (hb hby at_108) rfl ?_
        refine XS.iconst X363.here hx rfl (hb hby at_109) ?_
        show own_S p e below m T363 110 #[lvI p0_, lvI p1_, lvI (2 : Int32), lvI z248, lvI (0 : Int32), lvI z254, lvR b256, lvR b265, lvR b277, lvR b291, .unset, .unset, .unset, .unset, .unset, .unset, .unset, .unset, .unset, .unset] [(.int (3 : Int32)), (.int (2 : Int32))] _
        refine XS.icmpYes X363.here hx rfl (pc0 := 110) (pc' := 122) rfl (hb hby at_110) rfl (tlt (by decide : (2 : Int32) < (3 : Int32))).1 (by decide) (by decide) ?_
        refine XS.aconstNull X363.here hx rfl (hb hby at_122) ?_
        refine XS.astore X363.here hx rfl (hb hby at_123) rfl rfl (l' := #[lvI p0_, lvI p1_, lvI (2 : Int32), lvI z248, lvI (0 : Int32), lvI z254, lvR b256, lvR b265, lvR b277, lvR b291, .val .null, .unset, .unset, .unset, .unset, .unset, .unset, .unset, .unset, .unset]) rfl ?_
        refine XS.aconstNull X363.here hx rfl (hb hby at_125) ?_
        show own_S p e below m T363 126 #[lvI p0_, lvI p1_, lvI (2 : Int32), lvI z248, lvI (0 : Int32), lvI z254, lvR b256, lvR b265, lvR b277, lvR b291, .val .null, .unset, .unset, .unset, .unset, .unset, .unset, .unset, .unset, .unset] [.null] _
        refine XS.astore X363.here hx rfl (hb hby at_126) rfl rfl (l' := #[lvI p0_, lvI p1_, lvI (2 : Int32), lvI z248, lvI (0 : Int32), lvI z254, lvR b256, lvR b265, lvR b277, lvR b291, .val .null, .val .null, .unset, .unset, .unset, .unset, .unset, .unset, .unset, .unset]) rfl ?_
        refine XS.aconstNull X363.here hx rfl (hb hby at_128) ?_
        refine XS.astore X363.here hx rfl (hb hby at_129) rfl rfl (l' := #[lvI p0_, lvI p1_, lvI (2 : Int32), lvI z248, lvI (0 : Int32), lvI z254, lvR b256, lvR b265, lvR b277, lvR b291, .val .null, .val .null, .val .null, .unset, .unset, .unset, .unset, .unset, .unset, .unset]) rfl ?_
        refine XS.iloadN X363.here hx rfl (hb hby at_131) rfl ?_
        show own_S p e below m T363 132 #[lvI p0_, lvI p1_, lvI (2 : Int32), lvI z248, lvI (0 : Int32), lvI z254, lvR b256, lvR b265, lvR b277, lvR b291, .val .null, .val .null, .val .null, .unset, .unset, .unset, .unset, .unset, .unset, .unset] [(.int (2 : Int32))] _
        refine XS.iconst X363.here hx rfl (hb hby at_132) ?_
        show own_S p e below m T363 133 #[lvI p0_, lvI p1_, lvI (2 : Int32), lvI z248, lvI (0 : Int32), lvI z254, lvR b256, lvR b265, lvR b277, lvR b291, .val .null, .val .null, .val .null, .unset, .unset, .unset, .unset, .unset, .unset, .unset] [(.int (1 : Int32)), (.int (2 : Int32))] _
        refine XS.icmpYes X363.here hx rfl (pc0 := 133) (pc' := 143) rfl (hb hby at_133) rfl (feq (by decide : ¬ ((2 : Int32) = (1 : Int32)))).2 (by decide) (by decide) ?_
        refine XS.iloadN X363.here hx rfl (hb hby at_143) rfl ?_
        refine XS.iconst X363.here hx rfl (hb hby at_144) ?_
        show own_S p e below m T363 145 #[lvI p0_, lvI p1_, lvI (2 : Int32), lvI z248, lvI (0 : Int32), lvI z254, lvR b256, lvR b265, lvR b277, lvR b291, .val .null, .val .null, .val .null, .unset, .unset, .unset, .unset, .unset, .unset, .unset] [(.int (2 : Int32)), (.int (2 : Int32))] _
        refine XS.icmpNo X363.here hx rfl (hb hby at_145) rfl (flt (by decide : ¬ ((2 : Int32) < (2 : Int32)))).1 ?_
        refine XS.iload X363.here hx rfl (hb hby at_148) rfl ?_
        show own_S p e below m T363 150 #[lvI p0_, lvI p1_, lvI (2 : Int32), lvI z248, lvI (0 : Int32), lvI z254, lvR b256, lvR b265, lvR b277, lvR b291, .val .null, .val .null, .val .null, .unset, .unset, .unset, .unset, .unset, .unset, .unset] [(.int (0 : Int32))] _
        refine XS.ifYes X363.here hx rfl (pc0 := 150) (pc' := 164) rfl (hb hby at_150) rfl ((if0 _ _).trans (teq (by decide : (0 : Int32) = (0 : Int32))).1) (by decide) (by decide) ?_
        refine XS.aload X363.here hx rfl (hb hby at_164) rfl rfl ?_
        refine XS.astore X363.here hx rfl (hb hby at_166) rfl rfl (l' := #[lvI p0_, lvI p1_, lvI (2 : Int32), lvI z248, lvI (0 : Int32), lvI z254, lvR b256, lvR b265, lvR b277, lvR b291, lvR b265, .val .null, .val .null, .unset, .unset, .unset, .unset, .unset, .unset, .unset]) rfl ?_
        refine XS.aload X363.here hx rfl (hb hby at_168) rfl rfl ?_
        show own_S p e below m T363 170 #[lvI p0_, lvI p1_, lvI (2 : Int32), lvI z248, lvI (0 : Int32), lvI z254, lvR b256, lvR b265, lvR b277, lvR b291, lvR b265, .val .null, .val .null, .unset, .unset, .unset, .unset, .unset, .unset, .unset] [(.ref b277)] _
        refine XS.astore X363.here hx rfl (hb hby at_170) rfl rfl (l' := #[lvI p0_, lvI p1_, lvI (2 : Int32), lvI z248, lvI (0 : Int32), lvI z254, lvR b256, lvR b265, lvR b277, lvR b291, lvR b265, lvR b277, .val .null, .unset, .unset, .unset, .unset, .unset, .unset, .unset]) rfl ?_
        refine XS.iloadN X363.here hx rfl (hb hby at_172) rfl ?_
        refine XS.iconst X363.here hx rfl (hb hby at_173) ?_
        show own_S p e below m T363 174 #[lvI p0_, lvI p1_, lvI (2 : Int32), lvI z248, lvI (0 : Int32), lvI z254, lvR b256, lvR b265, lvR b277, lvR b291, lvR b265, lvR b277, .val .null, .unset, .unset, .unset, .unset, .unset, .unset, .unset] [(.int (3 : Int32)), (.int (2 : Int32))] _
        refine XS.icmpYes X363.here hx rfl (pc0 := 174) (pc' := 201) rfl (hb hby at_174) rfl (feq (by decide : ¬ ((2 : Int32) = (3 : Int32)))).2 (by decide) (by decide) ?_
        refine XS.aload X363.here hx rfl (hb hby at_201) rfl rfl ?_
        show own_S p e below m T363 203 #[lvI p0_, lvI p1_, lvI (2 : Int32), lvI z248, lvI (0 : Int32), lvI z254, lvR b256, lvR b265, lvR b277, lvR b291, lvR b265, lvR b277, .val .null, .unset, .unset, .unset, .unset, .unset, .unset, .unset] [(.ref b256)] _
        refine st385.trans ?_
        refine XS.astore X385.here hx rfl (hb hby at_206) rfl rfl (l' := #[lvI p0_, lvI p1_, lvI (2 : Int32), lvI z248, lvI (0 : Int32), lvI z254, lvR b256, lvR b265, lvR b277, lvR b291, lvR b265, lvR b277, .val .null, lvR b265, .unset, .unset, .unset, .unset, .unset, .unset]) rfl ?_
        refine XS.aload X385.here hx rfl (hb hby at_208) rfl rfl ?_
        show own_S p e below m T385 210 #[lvI p0_, lvI p1_, lvI (2 : Int32), lvI z248, lvI (0 : Int32), lvI z254, lvR b256, lvR b265, lvR b277, lvR b291, lvR b265, lvR b277, .val .null, lvR b265, .unset, .unset, .unset, .unset, .unset, .unset] [(.ref b256)] _
        refine st388.trans ?_
        refine XS.istore X388.here hx rfl (hb hby at_213) rfl (l' := #[lvI p0_, lvI p1_, lvI (2 : Int32), lvI z248, lvI (0 : Int32), lvI z254, lvR b256, lvR b265, lvR b277, lvR b291, lvR b265, lvR b277, .val .null, lvR b265, lvI (1 : Int32), .unset, .unset, .unset, .unset, .unset]) rfl ?_
        refine XS.aload X388.here hx rfl (hb hby at_215) rfl rfl ?_
        show own_S p e below m T388 217 #[lvI p0_, lvI p1_, lvI (2 : Int32), lvI z248, lvI (0 : Int32), lvI z254, lvR b256, lvR b265, lvR b277, lvR b291, lvR b265, lvR b277, .val .null, lvR b265, lvI (1 : Int32), .unset, .unset, .unset, .unset, .unset] [(.ref b256)] _
        refine st391.trans ?_
        refine XS.astore X391.here hx rfl (hb hby at_220) rfl rfl (l' := #[lvI p0_, lvI p1_, lvI (2 : Int32), lvI z248, lvI (0 : Int32), lvI z254, lvR b256, lvR b265, lvR b277, lvR b291, lvR b265, lvR b277, .val .null, lvR b265, lvI (1 : Int32), lvR b277, .unset, .unset, .unset, .unset]) rfl ?_
        refine XS.aload X391.here hx rfl (hb hby at_222) rfl rfl ?_
        show own_S p e below m T391 224 #[lvI p0_, lvI p1_, lvI (2 : Int32), lvI z248, lvI (0 : Int32), lvI z254, lvR b256, lvR b265, lvR b277, lvR b291, lvR b265, lvR b277, .val .null, lvR b265, lvI (1 : Int32), lvR b277, .unset, .unset, .unset, .unset] [(.ref b256)] _
        refine st393.trans ?_
        refine XS.astore X393.here hx rfl (hb hby at_227) rfl rfl (l' := #[lvI p0_, lvI p1_, lvI (2 : Int32), lvI z248, lvI (0 : Int32), lvI z254, lvR b256, lvR b265, lvR b277, lvR b291, lvR b265, lvR b277, .val .null, lvR b265, lvI (1 : Int32), lvR b277, .val .null, .unset, .unset, .unset]) rfl ?_
        refine XS.aload X393.here hx rfl (hb hby at_229) rfl rfl ?_
        show own_S p e below m T393 231 #[lvI p0_, lvI p1_, lvI (2 : Int32), lvI z248, lvI (0 : Int32), lvI z254, lvR b256, lvR b265, lvR b277, lvR b291, lvR b265, lvR b277, .val .null, lvR b265, lvI (1 : Int32), lvR b277, .val .null, .unset, .unset, .unset] [(.ref b256)] _
        refine st396.trans ?_
        refine XS.astore X396.here hx rfl (hb hby at_234) rfl rfl (l' := #[lvI p0_, lvI p1_, lvI (2 : Int32), lvI z248, lvI (0 : Int32), lvI z254, lvR b256, lvR b265, lvR b277, lvR b291, lvR b265, lvR b277, .val .null, lvR b265, lvI (1 : Int32), lvR b277, .val .null, .val .null, .unset, .unset]) rfl ?_
        refine XS.aload X396.here hx rfl (hb hby at_236) rfl rfl ?_
        show own_S p e below m T396 238 #[lvI p0_, lvI p1_, lvI (2 : Int32), lvI z248, lvI (0 : Int32), lvI z254, lvR b256, lvR b265, lvR b277, lvR b291, lvR b265, lvR b277, .val .null, lvR b265, lvI (1 : Int32), lvR b277, .val .null, .val .null, .unset, .unset] [(.ref b256)] _
        refine st398.trans ?_
        refine XS.istore X398.here hx rfl (hb hby at_241) rfl (l' := #[lvI p0_, lvI p1_, lvI (2 : Int32), lvI z248, lvI (0 : Int32), lvI z254, lvR b256, lvR b265, lvR b277, lvR b291, lvR b265, lvR b277, .val .null, lvR b265, lvI (1 : Int32), lvR b277, .val .null, .val .null, lvI (0 : Int32), .unset]) rfl ?_
        refine XS.aload X398.here hx rfl (hb hby at_243) rfl rfl ?_
        refine XS.aload X398.here hx rfl (hb hby at_245) rfl rfl ?_
        show own_S p e below m T398 247 #[lvI p0_, lvI p1_, lvI (2 : Int32), lvI z248, lvI (0 : Int32), lvI z254, lvR b256, lvR b265, lvR b277, lvR b291, lvR b265, lvR b277, .val .null, lvR b265, lvI (1 : Int32), lvR b277, .val .null, .val .null, lvI (0 : Int32), .unset] [(.ref b265), (.ref b265)] _
        refine Jvm.RoadKit.acmp (g := (mkF m 247 #[lvI p0_, lvI p1_, lvI (2 : Int32), lvI z248, lvI (0 : Int32), lvI z254, lvR b256, lvR b265, lvR b277, lvR b291, lvR b265, lvR b277, .val .null, lvR b265, lvI (1 : Int32), lvR b277, .val .null, .val .null, lvI (0 : Int32), .unset] [(.ref b265), (.ref b265)])) X398 hx rfl rfl rfl (pc0 := 247) (pc' := 250) (same := true) rfl (hb hby at_247) rfl (decide_eq_true rfl) (by decide) (by decide) ?_
        refine XS.aload X398.here hx rfl (hb hby at_250) rfl rfl ?_
        refine XS.aload X398.here hx rfl (hb hby at_252) rfl rfl ?_
        show own_S p e below m T398 254 #[lvI p0_, lvI p1_, lvI (2 : Int32), lvI z248, lvI (0 : Int32), lvI z254, lvR b256, lvR b265, lvR b277, lvR b291, lvR b265, lvR b277, .val .null, lvR b265, lvI (1 : Int32), lvR b277, .val .null, .val .null, lvI (0 : Int32), .unset] [(.ref b277), (.ref b277)] _
        refine Jvm.RoadKit.acmp (g := (mkF m 254 #[lvI p0_, lvI p1_, lvI (2 : Int32), lvI z248, lvI (0 : Int32), lvI z254, lvR b256, lvR b265, lvR b277, lvR b291, lvR b265, lvR b277, .val .null, lvR b265, lvI (1 : Int32), lvR b277, .val .null, .val .null, lvI (0 : Int32), .unset] [(.ref b277), (.ref b277)])) X398 hx rfl rfl rfl (pc0 := 254) (pc' := 257) (same := true) rfl (hb hby at_254) rfl (decide_eq_true rfl) (by decide) (by decide) ?_
        refine XS.aload X398.here hx rfl (hb hby at_257) rfl rfl ?_
        refine XS.aload X398.here hx rfl (hb hby at_259) rfl rfl ?_
        show own_S p e below m T398 261 #[lvI p0_, lvI p1_, lvI (2 : Int32), lvI z248, lvI (0 : Int32), lvI z254, lvR b256, lvR b265, lvR b277, lvR b291, lvR b265, lvR b277, .val .null, lvR b265, lvI (1 : Int32), lvR b277, .val .null, .val .null, lvI (0 : Int32), .unset] [.null, .null] _
        refine Jvm.RoadKit.acmp (g := (mkF m 261 #[lvI p0_, lvI p1_, lvI (2 : Int32), lvI z248, lvI (0 : Int32), lvI z254, lvR b256, lvR b265, lvR b277, lvR b291, lvR b265, lvR b277, .val .null, lvR b265, lvI (1 : Int32), lvR b277, .val .null, .val .null, lvI (0 : Int32), .unset] [.null, .null])) X398 hx rfl rfl rfl (pc0 := 261) (pc' := 264) (same := true) rfl (hb hby at_261) rfl (decide_eq_true rfl) (by decide) (by decide) ?_
        refine XS.aload X398.here hx rfl (hb hby at_264) rfl rfl ?_
        show own_S p e below m T398 266 #[lvI p0_, lvI p1_, lvI (2 : Int32), lvI z248, lvI (0 : Int32), lvI z254, lvR b256, lvR b265, lvR b277, lvR b291, lvR b265, lvR b277, .val .null, lvR b265, lvI (1 : Int32), lvR b277, .val .null, .val .null, lvI (0 : Int32), .unset] [.null] _
        refine XS.ifnonnullNo X398.here hx rfl (hb hby at_266) rfl ?_
        refine XS.iconst X398.here hx rfl (hb hby at_269) ?_
        refine XS.goto X398.here hx rfl (pc0 := 270) (pc' := 274) rfl (hb hby at_270) (by decide) (by decide) ?_
        refine XS.istore X398.here hx rfl (hb hby at_274) rfl (l' := #[lvI p0_, lvI p1_, lvI (2 : Int32), lvI z248, lvI (0 : Int32), lvI z254, lvR b256, lvR b265, lvR b277, lvR b291, lvR b265, lvR b277, .val .null, lvR b265, lvI (1 : Int32), lvR b277, .val .null, .val .null, lvI (0 : Int32), lvI (1 : Int32)]) rfl ?_
        show own_S p e below m T398 276 #[lvI p0_, lvI p1_, lvI (2 : Int32), lvI z248, lvI (0 : Int32), lvI z254, lvR b256, lvR b265, lvR b277, lvR b291, lvR b265, lvR b277, .val .null, lvR b265, lvI (1 : Int32), lvR b277, .val .null, .val .null, lvI (0 : Int32), lvI (1 : Int32)] [] _
        refine XS.iload X398.here hx rfl (hb hby at_276) rfl ?_
        show own_S p e below m T398 278 #[lvI p0_, lvI p1_, lvI (2 : Int32), lvI z248, lvI (0 : Int32), lvI z254, lvR b256, lvR b265, lvR b277, lvR b291, lvR b265, lvR b277, .val .null, lvR b265, lvI (1 : Int32), lvR b277, .val .null, .val .null, lvI (0 : Int32), lvI (1 : Int32)] [(.int (1 : Int32))] _
        refine XS.ifNo X398.here hx rfl (hb hby at_278) rfl ((if0 _ _).trans (feq (by decide : ¬ ((1 : Int32) = (0 : Int32)))).1) ?_
        refine XS.iload X398.here hx rfl (hb hby at_281) rfl ?_
        refine XS.iloadN X398.here hx rfl (hb hby at_283) rfl ?_
        refine XS.iconst X398.here hx rfl (hb hby at_284) ?_
        show own_S p e below m T398 285 #[lvI p0_, lvI p1_, lvI (2 : Int32), lvI z248, lvI (0 : Int32), lvI z254, lvR b256, lvR b265, lvR b277, lvR b291, lvR b265, lvR b277, .val .null, lvR b265, lvI (1 : Int32), lvR b277, .val .null, .val .null, lvI (0 : Int32), lvI (1 : Int32)] [(.int (1 : Int32)), (.int (2 : Int32)), (.int (1 : Int32))] _
        refine XS.isub X398.here hx rfl (hb hby at_285) rfl ?_
        refine XS.iconst X398.here hx rfl (hb hby at_286) ?_
        show own_S p e below m T398 287 #[lvI p0_, lvI p1_, lvI (2 : Int32), lvI z248, lvI (0 : Int32), lvI z254, lvR b256, lvR b265, lvR b277, lvR b291, lvR b265, lvR b277, .val .null, lvR b265, lvI (1 : Int32), lvR b277, .val .null, .val .null, lvI (0 : Int32), lvI (1 : Int32)] [(.int (0 : Int32)), (.int (1 : Int32)), (.int (1 : Int32))] _
        refine st400 _ ?_
        show own_S p e below m T400 290 #[lvI p0_, lvI p1_, lvI (2 : Int32), lvI z248, lvI (0 : Int32), lvI z254, lvR b256, lvR b265, lvR b277, lvR b291, lvR b265, lvR b277, .val .null, lvR b265, lvI (1 : Int32), lvR b277, .val .null, .val .null, lvI (0 : Int32), lvI (1 : Int32)] [(.int (1 : Int32)), (.int (1 : Int32))] _
        refine XS.icmpNo X400.here hx rfl (hb hby at_290) rfl (teq (by decide : (1 : Int32) = (1 : Int32))).2 ?_
        refine XS.iload X400.here hx rfl (hb hby at_293) rfl ?_
        show own_S p e below m T400 295 #[lvI p0_, lvI p1_, lvI (2 : Int32), lvI z248, lvI (0 : Int32), lvI z254, lvR b256, lvR b265, lvR b277, lvR b291, lvR b265, lvR b277, .val .null, lvR b265, lvI (1 : Int32), lvR b277, .val .null, .val .null, lvI (0 : Int32), lvI (1 : Int32)] [(.int (0 : Int32))] _
        refine XS.ifNo X400.here hx rfl (hb hby at_295) rfl ((if0 _ _).trans (teq (by decide : (0 : Int32) = (0 : Int32))).2) ?_
        refine XS.aload X400.here hx rfl (hb hby at_298) rfl rfl ?_
        show own_S p e below m T400 300 #[lvI p0_, lvI p1_, lvI (2 : Int32), lvI z248, lvI (0 : Int32), lvI z254, lvR b256, lvR b265, lvR b277, lvR b291, lvR b265, lvR b277, .val .null, lvR b265, lvI (1 : Int32), lvR b277, .val .null, .val .null, lvI (0 : Int32), lvI (1 : Int32)] [(.ref b256)] _
        refine st402.trans ?_
        show own_S p e below m T402 303 #[lvI p0_, lvI p1_, lvI (2 : Int32), lvI z248, lvI (0 : Int32), lvI z254, lvR b256, lvR b265, lvR b277, lvR b291, lvR b265, lvR b277, .val .null, lvR b265, lvI (1 : Int32), lvR b277, .val .null, .val .null, lvI (0 : Int32), lvI (1 : Int32)] [.null] _
        refine XS.ifnonnullNo X402.here hx rfl (hb hby at_303) rfl ?_
        refine XS.iconst X402.here hx rfl (hb hby at_306) ?_
        refine XS.goto X402.here hx rfl (pc0 := 307) (pc' := 311) rfl (hb hby at_307) (by decide) (by decide) ?_
        refine XS.istore X402.here hx rfl (hb hby at_311) rfl (l' := #[lvI p0_, lvI p1_, lvI (2 : Int32), lvI z248, lvI (0 : Int32), lvI z254, lvR b256, lvR b265, lvR b277, lvR b291, lvR b265, lvR b277, .val .null, lvR b265, lvI (1 : Int32), lvR b277, .val .null, .val .null, lvI (0 : Int32), lvI (1 : Int32)]) rfl ?_
        show own_S p e below m T402 313 #[lvI p0_, lvI p1_, lvI (2 : Int32), lvI z248, lvI (0 : Int32), lvI z254, lvR b256, lvR b265, lvR b277, lvR b291, lvR b265, lvR b277, .val .null, lvR b265, lvI (1 : Int32), lvR b277, .val .null, .val .null, lvI (0 : Int32), lvI (1 : Int32)] [] _
        refine XS.iload X402.here hx rfl (hb hby at_313) rfl ?_
        show own_S p e below m T402 315 #[lvI p0_, lvI p1_, lvI (2 : Int32), lvI z248, lvI (0 : Int32), lvI z254, lvR b256, lvR b265, lvR b277, lvR b291, lvR b265, lvR b277, .val .null, lvR b265, lvI (1 : Int32), lvR b277, .val .null, .val .null, lvI (0 : Int32), lvI (1 : Int32)] [(.int (1 : Int32))] _
        refine XS.ifNo X402.here hx rfl (hb hby at_315) rfl ((if0 _ _).trans (feq (by decide : ¬ ((1 : Int32) = (0 : Int32)))).1) ?_
        refine XS.aload X402.here hx rfl (hb hby at_318) rfl rfl ?_
        show own_S p e below m T402 320 #[lvI p0_, lvI p1_, lvI (2 : Int32), lvI z248, lvI (0 : Int32), lvI z254, lvR b256, lvR b265, lvR b277, lvR b291, lvR b265, lvR b277, .val .null, lvR b265, lvI (1 : Int32), lvR b277, .val .null, .val .null, lvI (0 : Int32), lvI (1 : Int32)] [(.ref b265)] _
        refine XS.ifnullNo X402.here hx rfl (hb hby at_320) rfl ?_
        refine XS.aload X402.here hx rfl (hb hby at_323) rfl rfl ?_
        show own_S p e below m T402 325 #[lvI p0_, lvI p1_, lvI (2 : Int32), lvI z248, lvI (0 : Int32), lvI z254, lvR b256, lvR b265, lvR b277, lvR b291, lvR b265, lvR b277, .val .null, lvR b265, lvI (1 : Int32), lvR b277, .val .null, .val .null, lvI (0 : Int32), lvI (1 : Int32)] [(.ref b265)] _
        refine st404.trans ?_
        show own_S p e below m T404 328 #[lvI p0_, lvI p1_, lvI (2 : Int32), lvI z248, lvI (0 : Int32), lvI z254, lvR b256, lvR b265, lvR b277, lvR b291, lvR b265, lvR b277, .val .null, lvR b265, lvI (1 : Int32), lvR b277, .val .null, .val .null, lvI (0 : Int32), lvI (1 : Int32)] [(.int (0 : Int32))] _
        refine XS.ifNo X404.here hx rfl (hb hby at_328) rfl ((if0 _ _).trans (teq (by decide : (0 : Int32) = (0 : Int32))).2) ?_
        refine XS.iconst X404.here hx rfl (hb hby at_331) ?_
        refine XS.goto X404.here hx rfl (pc0 := 332) (pc' := 336) rfl (hb hby at_332) (by decide) (by decide) ?_
        refine XS.istore X404.here hx rfl (hb hby at_336) rfl (l' := #[lvI p0_, lvI p1_, lvI (2 : Int32), lvI z248, lvI (0 : Int32), lvI z254, lvR b256, lvR b265, lvR b277, lvR b291, lvR b265, lvR b277, .val .null, lvR b265, lvI (1 : Int32), lvR b277, .val .null, .val .null, lvI (0 : Int32), lvI (1 : Int32)]) rfl ?_
        show own_S p e below m T404 338 #[lvI p0_, lvI p1_, lvI (2 : Int32), lvI z248, lvI (0 : Int32), lvI z254, lvR b256, lvR b265, lvR b277, lvR b291, lvR b265, lvR b277, .val .null, lvR b265, lvI (1 : Int32), lvR b277, .val .null, .val .null, lvI (0 : Int32), lvI (1 : Int32)] [] _
        refine XS.iload X404.here hx rfl (hb hby at_338) rfl ?_
        exact kt
      obtain ⟨fs, hr, hrun, hended, hW, hsame⟩ := X404.leave (v := some (.int (1 : Int32))) (fun h => by rw [Bd.returns] at h; cases h)
      refine ⟨_, _, hG _ (pre412 _ (retN X404 hx (t := .boolean) Bd.returns (by simp) (hb hby at_340) hr)), hrun, hended, _, _, rfl, ?_, ⟨_, rfl⟩, hW, hsame.mono (by decide) (by decide)⟩
      show QLaw Z p0_ p1_ h0 n0 _ T404.heap _
      rw [e404']
      exact ⟨rfl, N411⟩
    · have f415 : Exa Z h291 b277 cn0 := g288_0.ext E291
      have f416 : Exa Z h302 b277 cn0 := f415.keep K302
      have f417 : Exa Z h305 b277 cn0 := f416.keep K305
      have f418 : Fld Z h291 b277 cn0 "thread" "Ljava/lang/Thread;" .null := g288_1.ext E291
      have ne420 : b277 ≠ b291 := Nat.ne_of_lt (Nat.lt_of_lt_of_le g288_0.lt (Nat.le_of_eq g291.symm))
      have f419 : Fld Z h302 b277 cn0 "thread" "Ljava/lang/Thread;" .null := f418.keep K302 (ninS ne420 nin0)
      have f421 : Fld Z h305 b277 cn0 "thread" "Ljava/lang/Thread;" .null := f419.keep K305 (ninS (Ne.symm ne317) (ninS (Ne.symm ne339) nin0))
      have f422 : Fld Z h291 b277 cn0 "picked" "Z" (.int (0 : Int32)) := g288_2.ext E291
      have f423 : Fld Z h302 b277 cn0 "picked" "Z" (.int (0 : Int32)) := f422.keep K302 (ninS ne420 nin0)
      have f424 : Fld Z h305 b277 cn0 "picked" "Z" (.int (0 : Int32)) := f423.keep K305 (ninS (Ne.symm ne317) (ninS (Ne.symm ne339) nin0))
      have f425 : Fld Z h291 b277 cn0 "queued" "Z" (.int (0 : Int32)) := g288_3.ext E291
      have f426 : Fld Z h302 b277 cn0 "queued" "Z" (.int (0 : Int32)) := f425.keep K302 (ninS ne420 nin0)
      have f427 : Fld Z h305 b277 cn0 "queued" "Z" (.int (0 : Int32)) := f426.keep K305 (ninS (Ne.symm ne317) (ninS (Ne.symm ne339) nin0))
      have f428 : Fld Z h291 b277 cn0 "next" "Llatchwork/WaitQueue$Waiter;" .null := g288_4.ext E291
      have f429 : Fld Z h302 b277 cn0 "next" "Llatchwork/WaitQueue$Waiter;" .null := f428.keep K302 (ninS ne420 nin0)
      have f430 : Fld Z h305 b277 cn0 "next" "Llatchwork/WaitQueue$Waiter;" .null := f429.keep K305 (ninS (Ne.symm ne317) (ninS (Ne.symm ne339) nin0))
      have f431 : Fld Z h291 b277 cn0 "prev" "Llatchwork/WaitQueue$Waiter;" .null := g288_5.ext E291
      have f432 : Fld Z h302 b277 cn0 "prev" "Llatchwork/WaitQueue$Waiter;" .null := f431.keep K302 (ninS ne420 nin0)
      have f433 : Fld Z h305 b277 cn0 "prev" "Llatchwork/WaitQueue$Waiter;" .null := f432.keep K305 (ninS (Ne.symm ne317) (ninS (Ne.symm ne339) nin0))
      have f434 : Old Z n0 h305 := f359.keep K305 (allS (ge257) (allS (ge266) all0))
      obtain ⟨cq414, kq414, q414a, q414b, q414c⟩ := isOf hZ e305 g305_0
      obtain ⟨_, _, ⟨T414, L414, k414, n414⟩, -, X414, ⟨Lc414, hQ414, l414, y414, z414⟩, st414⟩ := X305.virtualBack hx (y := (⟨"latchwork/WaitQueue", "add", "(Llatchwork/WaitQueue$Waiter;Z)V"⟩ : MethodName)) (z := (⟨"latchwork/WaitQueue", "add", "(Llatchwork/WaitQueue$Waiter;Z)V"⟩ : MethodName)) hown (mvT hZ (own_w hw 41 rfl)) (mvT hZ (own_w hw 42 rfl)) (notFace_of_selects (args := #[]) (mvT hZ (own_w hw 44 rfl))) (mvT hZ (own_w hw 44 rfl)) (mvT hZ (own_w hw 43 rfl)) (by decide) (backOf (W := 0) (rmadd17 l Z a0 hw [] b256 b277 b265 h305 n0 f434 g305_0 g305_1 g305_2 g305_3 f417 f421 f424 f427 f430 f433 g305_4 g305_5 g305_6 g305_7 g305_8 g305_9 ge279 ne317 ne339 ge266 ne314 ge257) hZ (own_w hw 45 rfl) (own_w hw 2 rfl) (by decide) (by decide)) q414a q414c (g := (mkF m 105 #[lvI p0_, lvI p1_, lvI (2 : Int32), lvI z248, lvI (1 : Int32), lvI z254, lvR b256, lvR b265, lvR b277, lvR b291, .unset, .unset, .unset, .unset, .unset, .unset, .unset, .unset, .unset, .unset] [(.int (1 : Int32)), (.ref b277), (.ref b256)])) rfl (by rw [hml]; rfl) (Steps.refl _) (argsL := [(.ref b277), (.int (1 : Int32))]) (rest := []) (lenOf pd_5 rfl) rfl (by show 2 * 0 + _ ≤ _; exact Nat.le_of_eq rfl) (hb hby at_105) (fun _ _ => ⟨rfl, e305, (by decide : 4 + 0 ≤ _), (by decide : 28 + 0 ≤ _)⟩)
      dsimp only [Pt.U, Pt.locs, Pt.cells, Pt.slots] at X414 l414 y414 z414 st414 hQ414
      subst l414 y414 z414
      obtain ⟨h414, e414⟩ : ∃ z, T414.heap = z := ⟨_, rfl⟩
      rw [e414] at hQ414
      obtain ⟨rfl, N414q, K414, g414_0, g414_1, g414_2, g414_3, g414_4, g414_5, g414_6, g414_7, g414_8, g414_9, g414_10, g414_11, g414_12, g414_13, g414_14, g414_15⟩ := hQ414
      have N435 := Fr.app N360 N414q
      have f437 : Old Z n0 h414 := f434.keep K414 (allS (ge279) (allS (ge266) (allS (ge257) all0)))
      obtain ⟨cq436, kq436, q436a, q436b, q436c⟩ := isOf hZ e414 g414_0
      obtain ⟨_, _, ⟨T436, L436, k436, n436⟩, -, X436, ⟨Lc436, hQ436, l436, y436, z436⟩, st436⟩ := X414.virtualBack hx (y := (⟨"latchwork/WaitQueue", "poll", "()Llatchwork/WaitQueue$Waiter;"⟩ : MethodName)) (z := (⟨"latchwork/WaitQueue", "poll", "()Llatchwork/WaitQueue$Waiter;"⟩ : MethodName)) hown (mvT hZ (own_w hw 18 rfl)) (mvT hZ (own_w hw 19 rfl)) (notFace_of_selects (args := #[]) (mvT hZ (own_w hw 21 rfl))) (mvT hZ (own_w hw 21 rfl)) (mvT hZ (own_w hw 20 rfl)) (by decide) (backOf (W := 0) (rmpoll13 l Z a0 hw [] b256 b277 b265 h414 n0 f437 g414_0 g414_1 g414_2 g414_3 g414_4 g414_5 g414_6 g414_7 g414_8 g414_9 g414_10 g414_11 g414_12 g414_13 g414_14 g414_15 ge257 (Ne.symm ne317) (Ne.symm ne314) ge266 (Ne.symm ne339) ge279) hZ (own_w hw 22 rfl) (own_w hw 2 rfl) (by decide) (by decide)) q436a q436c (g := (mkF m 203 #[lvI p0_, lvI p1_, lvI (2 : Int32), lvI z248, lvI (1 : Int32), lvI z254, lvR b256, lvR b265, lvR b277, lvR b291, lvR b277, lvR b265, .val .null, .unset, .unset, .unset, .unset, .unset, .unset, .unset] [(.ref b256)])) rfl (by rw [hml]; rfl) (Steps.refl _) (argsL := []) (rest := []) (lenOf pd_2 rfl) rfl (by show 2 * 0 + _ ≤ _; exact Nat.le_of_eq rfl) (hb hby at_203) (fun _ _ => ⟨rfl, e414, (by decide : 4 + 0 ≤ _), (by decide : 28 + 0 ≤ _)⟩)
      dsimp only [Pt.U, Pt.locs, Pt.cells, Pt.slots] at X436 l436 y436 z436 st436 hQ436
      subst l436 y436 z436
      obtain ⟨h436, e436⟩ : ∃ z, T436.heap = z := ⟨_, rfl⟩
      rw [e436] at hQ436
      obtain ⟨rfl, N436q, K436, g436_0, g436_1, g436_2, g436_3, g436_4, g436_5, g436_6, g436_7, g436_8, g436_9, g436_10, g436_11, g436_12, g436_13, g436_14, g436_15⟩ := hQ436
      have N438 := Fr.app N435 N436q
      have f440 : Old Z n0 h436 := f437.keep K436 (allS (ge257) (allS (ge266) (allS (ge279) all0)))
      obtain ⟨cq439, kq439, q439a, q439b, q439c⟩ := isOf hZ e436 g436_0
      obtain ⟨_, _, ⟨T439, L439, k439, n439⟩, -, X439, ⟨Lc439, hQ439, l439, y439, z439⟩, st439⟩ := X436.virtualBack hx (y := (⟨"latchwork/WaitQueue", "size", "()I"⟩ : MethodName)) (z := (⟨"latchwork/WaitQueue", "size", "()I"⟩ : MethodName)) hown (mvT hZ (own_w hw 25 rfl)) (mvT hZ (own_w hw 26 rfl)) (notFace_of_selects (args := #[]) (mvT hZ (own_w hw 28 rfl))) (mvT hZ (own_w hw 28 rfl)) (mvT hZ (own_w hw 27 rfl)) (by decide) (backOf (W := 0) (rmsize15 l Z a0 hw [] b256 b265 h436 n0 f440 g436_0 g436_1 g436_2 g436_3 g436_10 g436_11 g436_12 g436_13 g436_14 g436_15) hZ (own_w hw 29 rfl) (own_w hw 2 rfl) (by decide) (by decide)) q439a q439c (g := (mkF m 210 #[lvI p0_, lvI p1_, lvI (2 : Int32), lvI z248, lvI (1 : Int32), lvI z254, lvR b256, lvR b265, lvR b277, lvR b291, lvR b277, lvR b265, .val .null, lvR b277, .unset, .unset, .unset, .unset, .unset, .unset] [(.ref b256)])) rfl (by rw [hml]; rfl) (Steps.refl _) (argsL := []) (rest := []) (lenOf pd_3 rfl) rfl (by show 2 * 0 + _ ≤ _; exact Nat.le_of_eq rfl) (hb hby at_210) (fun _ _ => ⟨rfl, e436, (by decide : 4 + 0 ≤ _), (by decide : 28 + 0 ≤ _)⟩)
      dsimp only [Pt.U, Pt.locs, Pt.cells, Pt.slots] at X439 l439 y439 z439 st439 hQ439
      subst l439 y439 z439
      obtain ⟨h439, e439⟩ : ∃ z, T439.heap = z := ⟨_, rfl⟩
      rw [e439] at hQ439
      obtain ⟨rfl, N439q, hh439⟩ := hQ439
      have N441 := Fr.app N438 N439q
      have e439' : T439.heap = h436 := e439.trans hh439
      obtain ⟨cq442, kq442, q442a, q442b, q442c⟩ := isOf hZ e439' g436_0
      obtain ⟨_, _, ⟨T442, L442, k442, n442⟩, -, X442, ⟨Lc442, hQ442, l442, y442, z442⟩, st442⟩ := X439.virtualBack hx (y := (⟨"latchwork/WaitQueue", "poll", "()Llatchwork/WaitQueue$Waiter;"⟩ : MethodName)) (z := (⟨"latchwork/WaitQueue", "poll", "()Llatchwork/WaitQueue$Waiter;"⟩ : MethodName)) hown (mvT hZ (own_w hw 18 rfl)) (mvT hZ (own_w hw 19 rfl)) (notFace_of_selects (args := #[]) (mvT hZ (own_w hw 21 rfl))) (mvT hZ (own_w hw 21 rfl)) (mvT hZ (own_w hw 20 rfl)) (by decide) (backOf (W := 0) (rmpoll8 l Z a0 hw [] b256 b265 h436 n0 f440 g436_0 g436_1 g436_2 g436_3 g436_10 g436_11 g436_12 g436_13 g436_14 g436_15 ge257 (Ne.symm ne314) ge266) hZ (own_w hw 22 rfl) (own_w hw 2 rfl) (by decide) (by decide)) q442a q442c (g := (mkF m 217 #[lvI p0_, lvI p1_, lvI (2 : Int32), lvI z248, lvI (1 : Int32), lvI z254, lvR b256, lvR b265, lvR b277, lvR b291, lvR b277, lvR b265, .val .null, lvR b277, lvI (1 : Int32), .unset, .unset, .unset, .unset, .unset] [(.ref b256)])) rfl (by rw [hml]; rfl) (Steps.refl _) (argsL := []) (rest := []) (lenOf pd_2 rfl) rfl (by show 2 * 0 + _ ≤ _; exact Nat.le_of_eq rfl) (hb hby at_217) (fun _ _ => ⟨rfl, e439', (by decide : 4 + 0 ≤ _), (by decide : 28 + 0 ≤ _)⟩)
      dsimp only [Pt.U, Pt.locs, Pt.cells, Pt.slots] at X442 l442 y442 z442 st442 hQ442
      subst l442 y442 z442
      obtain ⟨h442, e442⟩ : ∃ z, T442.heap = z := ⟨_, rfl⟩
      rw [e442] at hQ442
      obtain ⟨rfl, N442q, K442, g442_0, g442_1, g442_2, g442_3, g442_4, g442_5, g442_6, g442_7, g442_8, g442_9⟩ := hQ442
      have N443 := Fr.app N441 N442q
      have f445 : Old Z n0 h442 := f440.keep K442 (allS (ge257) (allS (ge266) all0))
      obtain ⟨cq444, kq444, q444a, q444b, q444c⟩ := isOf hZ e442 g442_0
      obtain ⟨_, _, ⟨T444, L444, k444, n444⟩, -, X444, ⟨Lc444, hQ444, l444, y444, z444⟩, st444⟩ := X442.virtualBack hx (y := (⟨"latchwork/WaitQueue", "poll", "()Llatchwork/WaitQueue$Waiter;"⟩ : MethodName)) (z := (⟨"latchwork/WaitQueue", "poll", "()Llatchwork/WaitQueue$Waiter;"⟩ : MethodName)) hown (mvT hZ (own_w hw 18 rfl)) (mvT hZ (own_w hw 19 rfl)) (notFace_of_selects (args := #[]) (mvT hZ (own_w hw 21 rfl))) (mvT hZ (own_w hw 21 rfl)) (mvT hZ (own_w hw 20 rfl)) (by decide) (backOf (W := 0) (rmpoll3 l Z a0 hw [] b256 h442 n0 f445 g442_0 g442_1 g442_2 g442_3) hZ (own_w hw 22 rfl) (own_w hw 2 rfl) (by decide) (by decide)) q444a q444c (g := (mkF m 224 #[lvI p0_, lvI p1_, lvI (2 : Int32), lvI z248, lvI (1 : Int32), lvI z254, lvR b256, lvR b265, lvR b277, lvR b291, lvR b277, lvR b265, .val .null, lvR b277, lvI (1 : Int32), lvR b265, .unset, .unset, .unset, .unset] [(.ref b256)])) rfl (by rw [hml]; rfl) (Steps.refl _) (argsL := []) (rest := []) (lenOf pd_2 rfl) rfl (by show 2 * 0 + _ ≤ _; exact Nat.le_of_eq rfl) (hb hby at_224) (fun _ _ => ⟨rfl, e442, (by decide : 4 + 0 ≤ _), (by decide : 28 + 0 ≤ _)⟩)
      dsimp only [Pt.U, Pt.locs, Pt.cells, Pt.slots] at X444 l444 y444 z444 st444 hQ444
      subst l444 y444 z444
      obtain ⟨h444, e444⟩ : ∃ z, T444.heap = z := ⟨_, rfl⟩
      rw [e444] at hQ444
      obtain ⟨rfl, N444q, hh444⟩ := hQ444
      have N446 := Fr.app N443 N444q
      have e444' : T444.heap = h442 := e444.trans hh444
      obtain ⟨cq447, kq447, q447a, q447b, q447c⟩ := isOf hZ e444' g442_0
      obtain ⟨_, _, ⟨T447, L447, k447, n447⟩, -, X447, ⟨Lc447, hQ447, l447, y447, z447⟩, st447⟩ := X444.virtualBack hx (y := (⟨"latchwork/WaitQueue", "poll", "()Llatchwork/WaitQueue$Waiter;"⟩ : MethodName)) (z := (⟨"latchwork/WaitQueue", "poll", "()Llatchwork/WaitQueue$Waiter;"⟩ : MethodName)) hown (mvT hZ (own_w hw 18 rfl)) (mvT hZ (own_w hw 19 rfl)) (notFace_of_selects (args := #[]) (mvT hZ (own_w hw 21 rfl))) (mvT hZ (own_w hw 21 rfl)) (mvT hZ (own_w hw 20 rfl)) (by decide) (backOf (W := 0) (rmpoll3 l Z a0 hw [] b256 h442 n0 f445 g442_0 g442_1 g442_2 g442_3) hZ (own_w hw 22 rfl) (own_w hw 2 rfl) (by decide) (by decide)) q447a q447c (g := (mkF m 231 #[lvI p0_, lvI p1_, lvI (2 : Int32), lvI z248, lvI (1 : Int32), lvI z254, lvR b256, lvR b265, lvR b277, lvR b291, lvR b277, lvR b265, .val .null, lvR b277, lvI (1 : Int32), lvR b265, .val .null, .unset, .unset, .unset] [(.ref b256)])) rfl (by rw [hml]; rfl) (Steps.refl _) (argsL := []) (rest := []) (lenOf pd_2 rfl) rfl (by show 2 * 0 + _ ≤ _; exact Nat.le_of_eq rfl) (hb hby at_231) (fun _ _ => ⟨rfl, e444', (by decide : 4 + 0 ≤ _), (by decide : 28 + 0 ≤ _)⟩)
      dsimp only [Pt.U, Pt.locs, Pt.cells, Pt.slots] at X447 l447 y447 z447 st447 hQ447
      subst l447 y447 z447
      obtain ⟨h447, e447⟩ : ∃ z, T447.heap = z := ⟨_, rfl⟩
      rw [e447] at hQ447
      obtain ⟨rfl, N447q, hh447⟩ := hQ447
      have N448 := Fr.app N446 N447q
      have e447' : T447.heap = h442 := e447.trans hh447
      obtain ⟨cq449, kq449, q449a, q449b, q449c⟩ := isOf hZ e447' g442_0
      obtain ⟨_, _, ⟨T449, L449, k449, n449⟩, -, X449, ⟨Lc449, hQ449, l449, y449, z449⟩, st449⟩ := X447.virtualBack hx (y := (⟨"latchwork/WaitQueue", "size", "()I"⟩ : MethodName)) (z := (⟨"latchwork/WaitQueue", "size", "()I"⟩ : MethodName)) hown (mvT hZ (own_w hw 25 rfl)) (mvT hZ (own_w hw 26 rfl)) (notFace_of_selects (args := #[]) (mvT hZ (own_w hw 28 rfl))) (mvT hZ (own_w hw 28 rfl)) (mvT hZ (own_w hw 27 rfl)) (by decide) (backOf (W := 0) (rmsize4 l Z a0 hw [] b256 h442 n0 f445 g442_0 g442_1 g442_2 g442_3) hZ (own_w hw 29 rfl) (own_w hw 2 rfl) (by decide) (by decide)) q449a q449c (g := (mkF m 238 #[lvI p0_, lvI p1_, lvI (2 : Int32), lvI z248, lvI (1 : Int32), lvI z254, lvR b256, lvR b265, lvR b277, lvR b291, lvR b277, lvR b265, .val .null, lvR b277, lvI (1 : Int32), lvR b265, .val .null, .val .null, .unset, .unset] [(.ref b256)])) rfl (by rw [hml]; rfl) (Steps.refl _) (argsL := []) (rest := []) (lenOf pd_3 rfl) rfl (by show 2 * 0 + _ ≤ _; exact Nat.le_of_eq rfl) (hb hby at_238) (fun _ _ => ⟨rfl, e447', (by decide : 4 + 0 ≤ _), (by decide : 28 + 0 ≤ _)⟩)
      dsimp only [Pt.U, Pt.locs, Pt.cells, Pt.slots] at X449 l449 y449 z449 st449 hQ449
      subst l449 y449 z449
      obtain ⟨h449, e449⟩ : ∃ z, T449.heap = z := ⟨_, rfl⟩
      rw [e449] at hQ449
      obtain ⟨rfl, N449q, hh449⟩ := hQ449
      have N450 := Fr.app N448 N449q
      have e449' : T449.heap = h442 := e449.trans hh449
      obtain ⟨_, _, ⟨T451, L451, k451, n451⟩, -, X451, ⟨Lc451, hQ451, l451, y451, z451⟩, st451⟩ := Jvm.LawKit.callS X449 hx (y := (⟨"java/lang/Math", "max", "(II)I"⟩ : MethodName)) hown (mvT hZ (own_w hw 32 rfl)) (mvT hZ (own_w hw 33 rfl)) (mvT hZ (own_w hw 34 rfl)) (mvT hZ (own_w hw 35 rfl)) (by decide) (backOf (W := 1) (rmmax16 l Z a0 hw []  h442 n0 f445 ) hZ (own_w hw 35 rfl) (own_w hw 34 rfl) (by decide) (by decide)) (g := (mkF m 287 #[lvI p0_, lvI p1_, lvI (2 : Int32), lvI z248, lvI (1 : Int32), lvI z254, lvR b256, lvR b265, lvR b277, lvR b291, lvR b277, lvR b265, .val .null, lvR b277, lvI (1 : Int32), lvR b265, .val .null, .val .null, lvI (0 : Int32), lvI (1 : Int32)] [(.int (0 : Int32)), (.int (1 : Int32)), (.int (1 : Int32))])) rfl (by rw [hml]; rfl) (argsL := [(.int (1 : Int32)), (.int (0 : Int32))]) (rest := [(.int (1 : Int32))]) (lenOf pd_4 rfl) rfl (by show 2 * 0 + _ ≤ _; exact Nat.le_of_eq rfl) (hb hby at_287) (fun _ _ => ⟨rfl, e449', (by decide : 4 + 0 ≤ _), (by decide : 28 + 0 ≤ _)⟩)
      dsimp only [Pt.U, Pt.locs, Pt.cells, Pt.slots] at X451 l451 y451 z451 st451 hQ451
      subst l451 y451 z451
      obtain ⟨h451, e451⟩ : ∃ z, T451.heap = z := ⟨_, rfl⟩
      rw [e451] at hQ451
      obtain ⟨rfl, N451q, hh451⟩ := hQ451
      have N452 := Fr.app N450 N451q
      have e451' : T451.heap = h442 := e451.trans hh451
      obtain ⟨cq453, kq453, q453a, q453b, q453c⟩ := isOf hZ e451' g442_0
      obtain ⟨_, _, ⟨T453, L453, k453, n453⟩, -, X453, ⟨Lc453, hQ453, l453, y453, z453⟩, st453⟩ := X451.virtualBack hx (y := (⟨"latchwork/WaitQueue", "first", "()Llatchwork/WaitQueue$Waiter;"⟩ : MethodName)) (z := (⟨"latchwork/WaitQueue", "first", "()Llatchwork/WaitQueue$Waiter;"⟩ : MethodName)) hown (mvT hZ (own_w hw 36 rfl)) (mvT hZ (own_w hw 37 rfl)) (notFace_of_selects (args := #[]) (mvT hZ (own_w hw 39 rfl))) (mvT hZ (own_w hw 39 rfl)) (mvT hZ (own_w hw 38 rfl)) (by decide) (backOf (W := 0) (rmfirst6 l Z a0 hw [] b256 h442 n0 f445 g442_0 g442_1 g442_2 g442_3) hZ (own_w hw 40 rfl) (own_w hw 2 rfl) (by decide) (by decide)) q453a q453c (g := (mkF m 300 #[lvI p0_, lvI p1_, lvI (2 : Int32), lvI z248, lvI (1 : Int32), lvI z254, lvR b256, lvR b265, lvR b277, lvR b291, lvR b277, lvR b265, .val .null, lvR b277, lvI (1 : Int32), lvR b265, .val .null, .val .null, lvI (0 : Int32), lvI (1 : Int32)] [(.ref b256)])) rfl (by rw [hml]; rfl) (Steps.refl _) (argsL := []) (rest := []) (lenOf pd_2 rfl) rfl (by show 2 * 0 + _ ≤ _; exact Nat.le_of_eq rfl) (hb hby at_300) (fun _ _ => ⟨rfl, e451', (by decide : 4 + 0 ≤ _), (by decide : 28 + 0 ≤ _)⟩)
      dsimp only [Pt.U, Pt.locs, Pt.cells, Pt.slots] at X453 l453 y453 z453 st453 hQ453
      subst l453 y453 z453
      obtain ⟨h453, e453⟩ : ∃ z, T453.heap = z := ⟨_, rfl⟩
      rw [e453] at hQ453
      obtain ⟨rfl, N453q, hh453⟩ := hQ453
      have N454 := Fr.app N452 N453q
      have e453' : T453.heap = h442 := e453.trans hh453
      have f456 : Exa Z h442 b277 cn0 := g436_4.keep K442
      have f457 : Fld Z h442 b277 cn0 "thread" "Ljava/lang/Thread;" .null := g436_5.keep K442 (ninS (Ne.symm ne317) (ninS (Ne.symm ne339) nin0))
      have f458 : Fld Z h442 b277 cn0 "picked" "Z" (.int (0 : Int32)) := g436_6.keep K442 (ninS (Ne.symm ne317) (ninS (Ne.symm ne339) nin0))
      have f459 : Fld Z h442 b277 cn0 "queued" "Z" (.int (0 : Int32)) := g436_7.keep K442 (ninS (Ne.symm ne317) (ninS (Ne.symm ne339) nin0))
      have f460 : Fld Z h442 b277 cn0 "next" "Llatchwork/WaitQueue$Waiter;" .null := g436_8.keep K442 (ninS (Ne.symm ne317) (ninS (Ne.symm ne339) nin0))
      have f461 : Fld Z h442 b277 cn0 "prev" "Llatchwork/WaitQueue$Waiter;" .null := g436_9.keep K442 (ninS (Ne.symm ne317) (ninS (Ne.symm ne339) nin0))
      obtain ⟨cq455, kq455, q455a, q455b, q455c⟩ := isOf hZ e453' f456
      obtain ⟨_, _, ⟨T455, L455, k455, n455⟩, -, X455, ⟨Lc455, hQ455, l455, y455, z455⟩, st455⟩ := X453.virtualBack hx (y := (⟨"latchwork/WaitQueue$Waiter", "isQueued", "()Z"⟩ : MethodName)) (z := (⟨"latchwork/WaitQueue$Waiter", "isQueued", "()Z"⟩ : MethodName)) hown (mvT hZ (own_w hw 61 rfl)) (mvT hZ (own_w hw 62 rfl)) (notFace_of_selects (args := #[]) (mvT hZ (own_w hw 64 rfl))) (mvT hZ (own_w hw 64 rfl)) (mvT hZ (own_w hw 63 rfl)) (by decide) (backOf (W := 0) (rmisQueued11 l Z a0 hw [] b277 h442 n0 f445 f456 f457 f458 f459 f460 f461) hZ (own_w hw 65 rfl) (own_w hw 11 rfl) (by decide) (by decide)) q455a q455c (g := (mkF m 325 #[lvI p0_, lvI p1_, lvI (2 : Int32), lvI z248, lvI (1 : Int32), lvI z254, lvR b256, lvR b265, lvR b277, lvR b291, lvR b277, lvR b265, .val .null, lvR b277, lvI (1 : Int32), lvR b265, .val .null, .val .null, lvI (0 : Int32), lvI (1 : Int32)] [(.ref b277)])) rfl (by rw [hml]; rfl) (Steps.refl _) (argsL := []) (rest := []) (lenOf pd_7 rfl) rfl (by show 2 * 0 + _ ≤ _; exact Nat.le_of_eq rfl) (hb hby at_325) (fun _ _ => ⟨rfl, e453', (by decide : 4 + 0 ≤ _), (by decide : 28 + 0 ≤ _)⟩)
      dsimp only [Pt.U, Pt.locs, Pt.cells, Pt.slots] at X455 l455 y455 z455 st455 hQ455
      subst l455 y455 z455
      obtain ⟨h455, e455⟩ : ∃ z, T455.heap = z := ⟨_, rfl⟩
      rw [e455] at hQ455
      obtain ⟨rfl, N455q, hh455⟩ := hQ455
      have N462 := Fr.app N454 N455q
      have e455' : T455.heap = h442 := e455.trans hh455
      have pre463 : ∀ t, own_S p e below m T455 340 #[lvI p0_, lvI p1_, lvI (2 : Int32), lvI z248, lvI (1 : Int32), lvI z254, lvR b256, lvR b265, lvR b277, lvR b291, lvR b277, lvR b265, .val .null, lvR b277, lvI (1 : Int32), lvR b265, .val .null, .val .null, lvI (0 : Int32), lvI (1 : Int32)] [(.int (1 : Int32))] t → G t := by
        intro t kt
        refine pre361 t ?_
        show own_S p e below m T305 105 #[lvI p0_, lvI p1_, lvI (2 : Int32), lvI z248, lvI (1 : Int32), lvI z254, lvR b256, lvR b265, lvR b277, lvR b291, .unset, .unset, .unset, .unset, .unset, .unset, .unset, .unset, .unset, .unset] [(.int (1 : Int32)), (.ref b277), (.ref b256)] _
        refine st414.trans ?_
        refine XS.iloadN X414.here hx rfl (hb hby at_108) rfl ?_
        refine XS.iconst X414.here hx rfl (hb hby at_109) ?_
        show own_S p e below m T414 110 #[lvI p0_, lvI p1_, lvI (2 : Int32), lvI z248, lvI (1 : Int32), lvI z254, lvR b256, lvR b265, lvR b277, lvR b291, .unset, .unset, .unset, .unset, .unset, .unset, .unset, .unset, .unset, .unset] [(.int (3 : Int32)), (.int (2 : Int32))] _
        refine XS.icmpYes X414.here hx rfl (pc0 := 110) (pc' := 122) rfl (hb hby at_110) rfl (tlt (by decide : (2 : Int32) < (3 : Int32))).1 (by decide) (by decide) ?_
        refine XS.aconstNull X414.here hx rfl (hb hby at_122) ?_
        refine XS.astore X414.here hx rfl (hb hby at_123) rfl rfl (l' := #[lvI p0_, lvI p1_, lvI (2 : Int32), lvI z248, lvI (1 : Int32), lvI z254, lvR b256, lvR b265, lvR b277, lvR b291, .val .null, .unset, .unset, .unset, .unset, .unset, .unset, .unset, .unset, .unset]) rfl ?_
        refine XS.aconstNull X414.here hx rfl (hb hby at_125) ?_
        show own_S p e below m T414 126 #[lvI p0_, lvI p1_, lvI (2 : Int32), lvI z248, lvI (1 : Int32), lvI z254, lvR b256, lvR b265, lvR b277, lvR b291, .val .null, .unset, .unset, .unset, .unset, .unset, .unset, .unset, .unset, .unset] [.null] _
        refine XS.astore X414.here hx rfl (hb hby at_126) rfl rfl (l' := #[lvI p0_, lvI p1_, lvI (2 : Int32), lvI z248, lvI (1 : Int32), lvI z254, lvR b256, lvR b265, lvR b277, lvR b291, .val .null, .val .null, .unset, .unset, .unset, .unset, .unset, .unset, .unset, .unset]) rfl ?_
        refine XS.aconstNull X414.here hx rfl (hb hby at_128) ?_
        refine XS.astore X414.here hx rfl (hb hby at_129) rfl rfl (l' := #[lvI p0_, lvI p1_, lvI (2 : Int32), lvI z248, lvI (1 : Int32), lvI z254, lvR b256, lvR b265, lvR b277, lvR b291, .val .null, .val .null, .val .null, .unset, .unset, .unset, .unset, .unset, .unset, .unset]) rfl ?_
        refine XS.iloadN X414.here hx rfl (hb hby at_131) rfl ?_
        show own_S p e below m T414 132 #[lvI p0_, lvI p1_, lvI (2 : Int32), lvI z248, lvI (1 : Int32), lvI z254, lvR b256, lvR b265, lvR b277, lvR b291, .val .null, .val .null, .val .null, .unset, .unset, .unset, .unset, .unset, .unset, .unset] [(.int (2 : Int32))] _
        refine XS.iconst X414.here hx rfl (hb hby at_132) ?_
        show own_S p e below m T414 133 #[lvI p0_, lvI p1_, lvI (2 : Int32), lvI z248, lvI (1 : Int32), lvI z254, lvR b256, lvR b265, lvR b277, lvR b291, .val .null, .val .null, .val .null, .unset, .unset, .unset, .unset, .unset, .unset, .unset] [(.int (1 : Int32)), (.int (2 : Int32))] _
        refine XS.icmpYes X414.here hx rfl (pc0 := 133) (pc' := 143) rfl (hb hby at_133) rfl (feq (by decide : ¬ ((2 : Int32) = (1 : Int32)))).2 (by decide) (by decide) ?_
        refine XS.iloadN X414.here hx rfl (hb hby at_143) rfl ?_
        refine XS.iconst X414.here hx rfl (hb hby at_144) ?_
        show own_S p e below m T414 145 #[lvI p0_, lvI p1_, lvI (2 : Int32), lvI z248, lvI (1 : Int32), lvI z254, lvR b256, lvR b265, lvR b277, lvR b291, .val .null, .val .null, .val .null, .unset, .unset, .unset, .unset, .unset, .unset, .unset] [(.int (2 : Int32)), (.int (2 : Int32))] _
        refine XS.icmpNo X414.here hx rfl (hb hby at_145) rfl (flt (by decide : ¬ ((2 : Int32) < (2 : Int32)))).1 ?_
        refine XS.iload X414.here hx rfl (hb hby at_148) rfl ?_
        show own_S p e below m T414 150 #[lvI p0_, lvI p1_, lvI (2 : Int32), lvI z248, lvI (1 : Int32), lvI z254, lvR b256, lvR b265, lvR b277, lvR b291, .val .null, .val .null, .val .null, .unset, .unset, .unset, .unset, .unset, .unset, .unset] [(.int (1 : Int32))] _
        refine XS.ifNo X414.here hx rfl (hb hby at_150) rfl ((if0 _ _).trans (feq (by decide : ¬ ((1 : Int32) = (0 : Int32)))).1) ?_
        refine XS.aload X414.here hx rfl (hb hby at_153) rfl rfl ?_
        refine XS.astore X414.here hx rfl (hb hby at_155) rfl rfl (l' := #[lvI p0_, lvI p1_, lvI (2 : Int32), lvI z248, lvI (1 : Int32), lvI z254, lvR b256, lvR b265, lvR b277, lvR b291, lvR b277, .val .null, .val .null, .unset, .unset, .unset, .unset, .unset, .unset, .unset]) rfl ?_
        refine XS.aload X414.here hx rfl (hb hby at_157) rfl rfl ?_
        show own_S p e below m T414 159 #[lvI p0_, lvI p1_, lvI (2 : Int32), lvI z248, lvI (1 : Int32), lvI z254, lvR b256, lvR b265, lvR b277, lvR b291, lvR b277, .val .null, .val .null, .unset, .unset, .unset, .unset, .unset, .unset, .unset] [(.ref b265)] _
        refine XS.astore X414.here hx rfl (hb hby at_159) rfl rfl (l' := #[lvI p0_, lvI p1_, lvI (2 : Int32), lvI z248, lvI (1 : Int32), lvI z254, lvR b256, lvR b265, lvR b277, lvR b291, lvR b277, lvR b265, .val .null, .unset, .unset, .unset, .unset, .unset, .unset, .unset]) rfl ?_
        refine XS.goto X414.here hx rfl (pc0 := 161) (pc' := 172) rfl (hb hby at_161) (by decide) (by decide) ?_
        refine XS.iloadN X414.here hx rfl (hb hby at_172) rfl ?_
        refine XS.iconst X414.here hx rfl (hb hby at_173) ?_
        show own_S p e below m T414 174 #[lvI p0_, lvI p1_, lvI (2 : Int32), lvI z248, lvI (1 : Int32), lvI z254, lvR b256, lvR b265, lvR b277, lvR b291, lvR b277, lvR b265, .val .null, .unset, .unset, .unset, .unset, .unset, .unset, .unset] [(.int (3 : Int32)), (.int (2 : Int32))] _
        refine XS.icmpYes X414.here hx rfl (pc0 := 174) (pc' := 201) rfl (hb hby at_174) rfl (feq (by decide : ¬ ((2 : Int32) = (3 : Int32)))).2 (by decide) (by decide) ?_
        refine XS.aload X414.here hx rfl (hb hby at_201) rfl rfl ?_
        show own_S p e below m T414 203 #[lvI p0_, lvI p1_, lvI (2 : Int32), lvI z248, lvI (1 : Int32), lvI z254, lvR b256, lvR b265, lvR b277, lvR b291, lvR b277, lvR b265, .val .null, .unset, .unset, .unset, .unset, .unset, .unset, .unset] [(.ref b256)] _
        refine st436.trans ?_
        refine XS.astore X436.here hx rfl (hb hby at_206) rfl rfl (l' := #[lvI p0_, lvI p1_, lvI (2 : Int32), lvI z248, lvI (1 : Int32), lvI z254, lvR b256, lvR b265, lvR b277, lvR b291, lvR b277, lvR b265, .val .null, lvR b277, .unset, .unset, .unset, .unset, .unset, .unset]) rfl ?_
        refine XS.aload X436.here hx rfl (hb hby at_208) rfl rfl ?_
        show own_S p e below m T436 210 #[lvI p0_, lvI p1_, lvI (2 : Int32), lvI z248, lvI (1 : Int32), lvI z254, lvR b256, lvR b265, lvR b277, lvR b291, lvR b277, lvR b265, .val .null, lvR b277, .unset, .unset, .unset, .unset, .unset, .unset] [(.ref b256)] _
        refine st439.trans ?_
        refine XS.istore X439.here hx rfl (hb hby at_213) rfl (l' := #[lvI p0_, lvI p1_, lvI (2 : Int32), lvI z248, lvI (1 : Int32), lvI z254, lvR b256, lvR b265, lvR b277, lvR b291, lvR b277, lvR b265, .val .null, lvR b277, lvI (1 : Int32), .unset, .unset, .unset, .unset, .unset]) rfl ?_
        refine XS.aload X439.here hx rfl (hb hby at_215) rfl rfl ?_
        show own_S p e below m T439 217 #[lvI p0_, lvI p1_, lvI (2 : Int32), lvI z248, lvI (1 : Int32), lvI z254, lvR b256, lvR b265, lvR b277, lvR b291, lvR b277, lvR b265, .val .null, lvR b277, lvI (1 : Int32), .unset, .unset, .unset, .unset, .unset] [(.ref b256)] _
        refine st442.trans ?_
        refine XS.astore X442.here hx rfl (hb hby at_220) rfl rfl (l' := #[lvI p0_, lvI p1_, lvI (2 : Int32), lvI z248, lvI (1 : Int32), lvI z254, lvR b256, lvR b265, lvR b277, lvR b291, lvR b277, lvR b265, .val .null, lvR b277, lvI (1 : Int32), lvR b265, .unset, .unset, .unset, .unset]) rfl ?_
        refine XS.aload X442.here hx rfl (hb hby at_222) rfl rfl ?_
        show own_S p e below m T442 224 #[lvI p0_, lvI p1_, lvI (2 : Int32), lvI z248, lvI (1 : Int32), lvI z254, lvR b256, lvR b265, lvR b277, lvR b291, lvR b277, lvR b265, .val .null, lvR b277, lvI (1 : Int32), lvR b265, .unset, .unset, .unset, .unset] [(.ref b256)] _
        refine st444.trans ?_
        refine XS.astore X444.here hx rfl (hb hby at_227) rfl rfl (l' := #[lvI p0_, lvI p1_, lvI (2 : Int32), lvI z248, lvI (1 : Int32), lvI z254, lvR b256, lvR b265, lvR b277, lvR b291, lvR b277, lvR b265, .val .null, lvR b277, lvI (1 : Int32), lvR b265, .val .null, .unset, .unset, .unset]) rfl ?_
        refine XS.aload X444.here hx rfl (hb hby at_229) rfl rfl ?_
        show own_S p e below m T444 231 #[lvI p0_, lvI p1_, lvI (2 : Int32), lvI z248, lvI (1 : Int32), lvI z254, lvR b256, lvR b265, lvR b277, lvR b291, lvR b277, lvR b265, .val .null, lvR b277, lvI (1 : Int32), lvR b265, .val .null, .unset, .unset, .unset] [(.ref b256)] _
        refine st447.trans ?_
        refine XS.astore X447.here hx rfl (hb hby at_234) rfl rfl (l' := #[lvI p0_, lvI p1_, lvI (2 : Int32), lvI z248, lvI (1 : Int32), lvI z254, lvR b256, lvR b265, lvR b277, lvR b291, lvR b277, lvR b265, .val .null, lvR b277, lvI (1 : Int32), lvR b265, .val .null, .val .null, .unset, .unset]) rfl ?_
        refine XS.aload X447.here hx rfl (hb hby at_236) rfl rfl ?_
        show own_S p e below m T447 238 #[lvI p0_, lvI p1_, lvI (2 : Int32), lvI z248, lvI (1 : Int32), lvI z254, lvR b256, lvR b265, lvR b277, lvR b291, lvR b277, lvR b265, .val .null, lvR b277, lvI (1 : Int32), lvR b265, .val .null, .val .null, .unset, .unset] [(.ref b256)] _
        refine st449.trans ?_
        refine XS.istore X449.here hx rfl (hb hby at_241) rfl (l' := #[lvI p0_, lvI p1_, lvI (2 : Int32), lvI z248, lvI (1 : Int32), lvI z254, lvR b256, lvR b265, lvR b277, lvR b291, lvR b277, lvR b265, .val .null, lvR b277, lvI (1 : Int32), lvR b265, .val .null, .val .null, lvI (0 : Int32), .unset]) rfl ?_
        refine XS.aload X449.here hx rfl (hb hby at_243) rfl rfl ?_
        refine XS.aload X449.here hx rfl (hb hby at_245) rfl rfl ?_
        show own_S p e below m T449 247 #[lvI p0_, lvI p1_, lvI (2 : Int32), lvI z248, lvI (1 : Int32), lvI z254, lvR b256, lvR b265, lvR b277, lvR b291, lvR b277, lvR b265, .val .null, lvR b277, lvI (1 : Int32), lvR b265, .val .null, .val .null, lvI (0 : Int32), .unset] [(.ref b277), (.ref b277)] _
        refine Jvm.RoadKit.acmp (g := (mkF m 247 #[lvI p0_, lvI p1_, lvI (2 : Int32), lvI z248, lvI (1 : Int32), lvI z254, lvR b256, lvR b265, lvR b277, lvR b291, lvR b277, lvR b265, .val .null, lvR b277, lvI (1 : Int32), lvR b265, .val .null, .val .null, lvI (0 : Int32), .unset] [(.ref b277), (.ref b277)])) X449 hx rfl rfl rfl (pc0 := 247) (pc' := 250) (same := true) rfl (hb hby at_247) rfl (decide_eq_true rfl) (by decide) (by decide) ?_
        refine XS.aload X449.here hx rfl (hb hby at_250) rfl rfl ?_
        refine XS.aload X449.here hx rfl (hb hby at_252) rfl rfl ?_
        show own_S p e below m T449 254 #[lvI p0_, lvI p1_, lvI (2 : Int32), lvI z248, lvI (1 : Int32), lvI z254, lvR b256, lvR b265, lvR b277, lvR b291, lvR b277, lvR b265, .val .null, lvR b277, lvI (1 : Int32), lvR b265, .val .null, .val .null, lvI (0 : Int32), .unset] [(.ref b265), (.ref b265)] _
        refine Jvm.RoadKit.acmp (g := (mkF m 254 #[lvI p0_, lvI p1_, lvI (2 : Int32), lvI z248, lvI (1 : Int32), lvI z254, lvR b256, lvR b265, lvR b277, lvR b291, lvR b277, lvR b265, .val .null, lvR b277, lvI (1 : Int32), lvR b265, .val .null, .val .null, lvI (0 : Int32), .unset] [(.ref b265), (.ref b265)])) X449 hx rfl rfl rfl (pc0 := 254) (pc' := 257) (same := true) rfl (hb hby at_254) rfl (decide_eq_true rfl) (by decide) (by decide) ?_
        refine XS.aload X449.here hx rfl (hb hby at_257) rfl rfl ?_
        refine XS.aload X449.here hx rfl (hb hby at_259) rfl rfl ?_
        show own_S p e below m T449 261 #[lvI p0_, lvI p1_, lvI (2 : Int32), lvI z248, lvI (1 : Int32), lvI z254, lvR b256, lvR b265, lvR b277, lvR b291, lvR b277, lvR b265, .val .null, lvR b277, lvI (1 : Int32), lvR b265, .val .null, .val .null, lvI (0 : Int32), .unset] [.null, .null] _
        refine Jvm.RoadKit.acmp (g := (mkF m 261 #[lvI p0_, lvI p1_, lvI (2 : Int32), lvI z248, lvI (1 : Int32), lvI z254, lvR b256, lvR b265, lvR b277, lvR b291, lvR b277, lvR b265, .val .null, lvR b277, lvI (1 : Int32), lvR b265, .val .null, .val .null, lvI (0 : Int32), .unset] [.null, .null])) X449 hx rfl rfl rfl (pc0 := 261) (pc' := 264) (same := true) rfl (hb hby at_261) rfl (decide_eq_true rfl) (by decide) (by decide) ?_
        refine XS.aload X449.here hx rfl (hb hby at_264) rfl rfl ?_
        show own_S p e below m T449 266 #[lvI p0_, lvI p1_, lvI (2 : Int32), lvI z248, lvI (1 : Int32), lvI z254, lvR b256, lvR b265, lvR b277, lvR b291, lvR b277, lvR b265, .val .null, lvR b277, lvI (1 : Int32), lvR b265, .val .null, .val .null, lvI (0 : Int32), .unset] [.null] _
        refine XS.ifnonnullNo X449.here hx rfl (hb hby at_266) rfl ?_
        refine XS.iconst X449.here hx rfl (hb hby at_269) ?_
        refine XS.goto X449.here hx rfl (pc0 := 270) (pc' := 274) rfl (hb hby at_270) (by decide) (by decide) ?_
        refine XS.istore X449.here hx rfl (hb hby at_274) rfl (l' := #[lvI p0_, lvI p1_, lvI (2 : Int32), lvI z248, lvI (1 : Int32), lvI z254, lvR b256, lvR b265, lvR b277, lvR b291, lvR b277, lvR b265, .val .null, lvR b277, lvI (1 : Int32), lvR b265, .val .null, .val .null, lvI (0 : Int32), lvI (1 : Int32)]) rfl ?_
        show own_S p e below m T449 276 #[lvI p0_, lvI p1_, lvI (2 : Int32), lvI z248, lvI (1 : Int32), lvI z254, lvR b256, lvR b265, lvR b277, lvR b291, lvR b277, lvR b265, .val .null, lvR b277, lvI (1 : Int32), lvR b265, .val .null, .val .null, lvI (0 : Int32), lvI (1 : Int32)] [] _
        refine XS.iload X449.here hx rfl (hb hby at_276) rfl ?_
        show own_S p e below m T449 278 #[lvI p0_, lvI p1_, lvI (2 : Int32), lvI z248, lvI (1 : Int32), lvI z254, lvR b256, lvR b265, lvR b277, lvR b291, lvR b277, lvR b265, .val .null, lvR b277, lvI (1 : Int32), lvR b265, .val .null, .val .null, lvI (0 : Int32), lvI (1 : Int32)] [(.int (1 : Int32))] _
        refine XS.ifNo X449.here hx rfl (hb hby at_278) rfl ((if0 _ _).trans (feq (by decide : ¬ ((1 : Int32) = (0 : Int32)))).1) ?_
        refine XS.iload X449.here hx rfl (hb hby at_281) rfl ?_
        refine XS.iloadN X449.here hx rfl (hb hby at_283) rfl ?_
        refine XS.iconst X449.here hx rfl (hb hby at_284) ?_
        show own_S p e below m T449 285 #[lvI p0_, lvI p1_, lvI (2 : Int32), lvI z248, lvI (1 : Int32), lvI z254, lvR b256, lvR b265, lvR b277, lvR b291, lvR b277, lvR b265, .val .null, lvR b277, lvI (1 : Int32), lvR b265, .val .null, .val .null, lvI (0 : Int32), lvI (1 : Int32)] [(.int (1 : Int32)), (.int (2 : Int32)), (.int (1 : Int32))] _
        refine XS.isub X449.here hx rfl (hb hby at_285) rfl ?_
        refine XS.iconst X449.here hx rfl (hb hby at_286) ?_
        show own_S p e below m T449 287 #[lvI p0_, lvI p1_, lvI (2 : Int32), lvI z248, lvI (1 : Int32), lvI z254, lvR b256, lvR b265, lvR b277, lvR b291, lvR b277, lvR b265, .val .null, lvR b277, lvI (1 : Int32), lvR b265, .val .null, .val .null, lvI (0 : Int32), lvI (1 : Int32)] [(.int (0 : Int32)), (.int (1 : Int32)), (.int (1 : Int32))] _
        refine st451 _ ?_
        show own_S p e below m T451 290 #[lvI p0_, lvI p1_, lvI (2 : Int32), lvI z248, lvI (1 : Int32), lvI z254, lvR b256, lvR b265, lvR b277, lvR b291, lvR b277, lvR b265, .val .null, lvR b277, lvI (1 : Int32), lvR b265, .val .null, .val .null, lvI (0 : Int32), lvI (1 : Int32)] [(.int (1 : Int32)), (.int (1 : Int32))] _
        refine XS.icmpNo X451.here hx rfl (hb hby at_290) rfl (teq (by decide : (1 : Int32) = (1 : Int32))).2 ?_
        refine XS.iload X451.here hx rfl (hb hby at_293) rfl ?_
        show own_S p e below m T451 295 #[lvI p0_, lvI p1_, lvI (2 : Int32), lvI z248, lvI (1 : Int32), lvI z254, lvR b256, lvR b265, lvR b277, lvR b291, lvR b277, lvR b265, .val .null, lvR b277, lvI (1 : Int32), lvR b265, .val .null, .val .null, lvI (0 : Int32), lvI (1 : Int32)] [(.int (0 : Int32))] _
        refine XS.ifNo X451.here hx rfl (hb hby at_295) rfl ((if0 _ _).trans (teq (by decide : (0 : Int32) = (0 : Int32))).2) ?_
        refine XS.aload X451.here hx rfl (hb hby at_298) rfl rfl ?_
        show own_S p e below m T451 300 #[lvI p0_, lvI p1_, lvI (2 : Int32), lvI z248, lvI (1 : Int32), lvI z254, lvR b256, lvR b265, lvR b277, lvR b291, lvR b277, lvR b265, .val .null, lvR b277, lvI (1 : Int32), lvR b265, .val .null, .val .null, lvI (0 : Int32), lvI (1 : Int32)] [(.ref b256)] _
        refine st453.trans ?_
        show own_S p e below m T453 303 #[lvI p0_, lvI p1_, lvI (2 : Int32), lvI z248, lvI (1 : Int32), lvI z254, lvR b256, lvR b265, lvR b277, lvR b291, lvR b277, lvR b265, .val .null, lvR b277, lvI (1 : Int32), lvR b265, .val .null, .val .null, lvI (0 : Int32), lvI (1 : Int32)] [.null] _
        refine XS.ifnonnullNo X453.here hx rfl (hb hby at_303) rfl ?_
        refine XS.iconst X453.here hx rfl (hb hby at_306) ?_
        refine XS.goto X453.here hx rfl (pc0 := 307) (pc' := 311) rfl (hb hby at_307) (by decide) (by decide) ?_
        refine XS.istore X453.here hx rfl (hb hby at_311) rfl (l' := #[lvI p0_, lvI p1_, lvI (2 : Int32), lvI z248, lvI (1 : Int32), lvI z254, lvR b256, lvR b265, lvR b277, lvR b291, lvR b277, lvR b265, .val .null, lvR b277, lvI (1 : Int32), lvR b265, .val .null, .val .null, lvI (0 : Int32), lvI (1 : Int32)]) rfl ?_
        show own_S p e below m T453 313 #[lvI p0_, lvI p1_, lvI (2 : Int32), lvI z248, lvI (1 : Int32), lvI z254, lvR b256, lvR b265, lvR b277, lvR b291, lvR b277, lvR b265, .val .null, lvR b277, lvI (1 : Int32), lvR b265, .val .null, .val .null, lvI (0 : Int32), lvI (1 : Int32)] [] _
        refine XS.iload X453.here hx rfl (hb hby at_313) rfl ?_
        show own_S p e below m T453 315 #[lvI p0_, lvI p1_, lvI (2 : Int32), lvI z248, lvI (1 : Int32), lvI z254, lvR b256, lvR b265, lvR b277, lvR b291, lvR b277, lvR b265, .val .null, lvR b277, lvI (1 : Int32), lvR b265, .val .null, .val .null, lvI (0 : Int32), lvI (1 : Int32)] [(.int (1 : Int32))] _
        refine XS.ifNo X453.here hx rfl (hb hby at_315) rfl ((if0 _ _).trans (feq (by decide : ¬ ((1 : Int32) = (0 : Int32)))).1) ?_
        refine XS.aload X453.here hx rfl (hb hby at_318) rfl rfl ?_
        show own_S p e below m T453 320 #[lvI p0_, lvI p1_, lvI (2 : Int32), lvI z248, lvI (1 : Int32), lvI z254, lvR b256, lvR b265, lvR b277, lvR b291, lvR b277, lvR b265, .val .null, lvR b277, lvI (1 : Int32), lvR b265, .val .null, .val .null, lvI (0 : Int32), lvI (1 : Int32)] [(.ref b277)] _
        refine XS.ifnullNo X453.here hx rfl (hb hby at_320) rfl ?_
        refine XS.aload X453.here hx rfl (hb hby at_323) rfl rfl ?_
        show own_S p e below m T453 325 #[lvI p0_, lvI p1_, lvI (2 : Int32), lvI z248, lvI (1 : Int32), lvI z254, lvR b256, lvR b265, lvR b277, lvR b291, lvR b277, lvR b265, .val .null, lvR b277, lvI (1 : Int32), lvR b265, .val .null, .val .null, lvI (0 : Int32), lvI (1 : Int32)] [(.ref b277)] _
        refine st455.trans ?_
        show own_S p e below m T455 328 #[lvI p0_, lvI p1_, lvI (2 : Int32), lvI z248, lvI (1 : Int32), lvI z254, lvR b256, lvR b265, lvR b277, lvR b291, lvR b277, lvR b265, .val .null, lvR b277, lvI (1 : Int32), lvR b265, .val .null, .val .null, lvI (0 : Int32), lvI (1 : Int32)] [(.int (0 : Int32))] _
        refine XS.ifNo X455.here hx rfl (hb hby at_328) rfl ((if0 _ _).trans (teq (by decide : (0 : Int32) = (0 : Int32))).2) ?_
        refine XS.iconst X455.here hx rfl (hb hby at_331) ?_
        refine XS.goto X455.here hx rfl (pc0 := 332) (pc' := 336) rfl (hb hby at_332) (by decide) (by decide) ?_
        refine XS.istore X455.here hx rfl (hb hby at_336) rfl (l' := #[lvI p0_, lvI p1_, lvI (2 : Int32), lvI z248, lvI (1 : Int32), lvI z254, lvR b256, lvR b265, lvR b277, lvR b291, lvR b277, lvR b265, .val .null, lvR b277, lvI (1 : Int32), lvR b265, .val .null, .val .null, lvI (0 : Int32), lvI (1 : Int32)]) rfl ?_
        show own_S p e below m T455 338 #[lvI p0_, lvI p1_, lvI (2 : Int32), lvI z248, lvI (1 : Int32), lvI z254, lvR b256, lvR b265, lvR b277, lvR b291, lvR b277, lvR b265, .val .null, lvR b277, lvI (1 : Int32), lvR b265, .val .null, .val .null, lvI (0 : Int32), lvI (1 : Int32)] [] _
        refine XS.iload X455.here hx rfl (hb hby at_338) rfl ?_
        exact kt
      obtain ⟨fs, hr, hrun, hended, hW, hsame⟩ := X455.leave (v := some (.int (1 : Int32))) (fun h => by rw [Bd.returns] at h; cases h)
      refine ⟨_, _, hG _ (pre463 _ (retN X455 hx (t := .boolean) Bd.returns (by simp) (hb hby at_340) hr)), hrun, hended, _, _, rfl, ?_, ⟨_, rfl⟩, hW, hsame.mono (by decide) (by decide)⟩
      show QLaw Z p0_ p1_ h0 n0 _ T455.heap _
      rw [e455']
      exact ⟨rfl, N462⟩
  · have pre465 : ∀ t, own_S p e below m s₁ 3 #[lvI p0_, lvI p1_, .unset, .unset, .unset, .unset, .unset, .unset, .unset, .unset, .unset, .unset, .unset, .unset, .unset, .unset, .unset, .unset, .unset, .unset] [(.int (3 : Int32))] t → G t := fun t kt => pre1 t (by rw [hv3]; exact kt)
    have pre466 : ∀ t, own_S p e below m s₁ 7 #[lvI p0_, lvI p1_, lvI (3 : Int32), .unset, .unset, .unset, .unset, .unset, .unset, .unset, .unset, .unset, .unset, .unset, .unset, .unset, .unset, .unset, .unset, .unset] [(.int (p1_ &&& (4 : Int32)))] t → G t := by
      intro t kt
      refine pre465 t ?_
      show own_S p e below m s₁ 3 #[lvI p0_, lvI p1_, .unset, .unset, .unset, .unset, .unset, .unset, .unset, .unset, .unset, .unset, .unset, .unset, .unset, .unset, .unset, .unset, .unset, .unset] [(.int (3 : Int32))] _
      refine XS.istoreN X0.here hx rfl (hb hby at_3) rfl (l' := #[lvI p0_, lvI p1_, lvI (3 : Int32), .unset, .unset, .unset, .unset, .unset, .unset, .unset, .unset, .unset, .unset, .unset, .unset, .unset, .unset, .unset, .unset, .unset]) rfl ?_
      refine XS.iloadN X0.here hx rfl (hb hby at_4) rfl ?_
      refine XS.iconst X0.here hx rfl (hb hby at_5) ?_
      refine XS.iand X0.here hx rfl (hb hby at_6) rfl ?_
      exact kt
    obtain ⟨z467, hz467, prez467⟩ : ∃ z : Int32, (((0 : Int32) = z ∧ ((p1_ &&& (4 : Int32)) = (0 : Int32))) ∨ ((1 : Int32) = z ∧ ¬ ((p1_ &&& (4 : Int32)) = (0 : Int32)))) ∧ ∀ t, own_S p e below m s₁ 15 #[lvI p0_, lvI p1_, lvI (3 : Int32), .unset, .unset, .unset, .unset, .unset, .unset, .unset, .unset, .unset, .unset, .unset, .unset, .unset, .unset, .unset, .unset, .unset] [(.int z)] t → G t := by
      by_cases hc468 : (p1_ &&& (4 : Int32)) = (0 : Int32)
      · refine ⟨(0 : Int32), Or.inl ⟨rfl, hc468⟩, fun t kt => pre466 t ?_⟩
        show own_S p e below m s₁ 7 #[lvI p0_, lvI p1_, lvI (3 : Int32), .unset, .unset, .unset, .unset, .unset, .unset, .unset, .unset, .unset, .unset, .unset, .unset, .unset, .unset, .unset, .unset, .unset] [(.int (p1_ &&& (4 : Int32)))] _
        refine XS.ifYes X0.here hx rfl (pc0 := 7) (pc' := 14) rfl (hb hby at_7) rfl ((if0 _ _).trans (teq hc468).1) (by decide) (by decide) ?_
        refine XS.iconst X0.here hx rfl (hb hby at_14) ?_
        exact kt
      · refine ⟨(1 : Int32), Or.inr ⟨rfl, hc468⟩, fun t kt => pre466 t ?_⟩
        show own_S p e below m s₁ 7 #[lvI p0_, lvI p1_, lvI (3 : Int32), .unset, .unset, .unset, .unset, .unset, .unset, .unset, .unset, .unset, .unset, .unset, .unset, .unset, .unset, .unset, .unset, .unset] [(.int (p1_ &&& (4 : Int32)))] _
        refine XS.ifNo X0.here hx rfl (hb hby at_7) rfl ((if0 _ _).trans (feq hc468).1) ?_
        refine XS.iconst X0.here hx rfl (hb hby at_10) ?_
        refine XS.goto X0.here hx rfl (pc0 := 11) (pc' := 15) rfl (hb hby at_11) (by decide) (by decide) ?_
        exact kt
    have pre469 : ∀ t, own_S p e below m s₁ 19 #[lvI p0_, lvI p1_, lvI (3 : Int32), lvI z467, .unset, .unset, .unset, .unset, .unset, .unset, .unset, .unset, .unset, .unset, .unset, .unset, .unset, .unset, .unset, .unset] [(.int (p1_ &&& (1 : Int32)))] t → G t := by
      intro t kt
      refine prez467 t ?_
      show own_S p e below m s₁ 15 #[lvI p0_, lvI p1_, lvI (3 : Int32), .unset, .unset, .unset, .unset, .unset, .unset, .unset, .unset, .unset, .unset, .unset, .unset, .unset, .unset, .unset, .unset, .unset] [(.int z467)] _
      refine XS.istoreN X0.here hx rfl (hb hby at_15) rfl (l' := #[lvI p0_, lvI p1_, lvI (3 : Int32), lvI z467, .unset, .unset, .unset, .unset, .unset, .unset, .unset, .unset, .unset, .unset, .unset, .unset, .unset, .unset, .unset, .unset]) rfl ?_
      refine XS.iloadN X0.here hx rfl (hb hby at_16) rfl ?_
      refine XS.iconst X0.here hx rfl (hb hby at_17) ?_
      refine XS.iand X0.here hx rfl (hb hby at_18) rfl ?_
      exact kt
    obtain ⟨z470, hz470, prez470⟩ : ∃ z : Int32, (((0 : Int32) = z ∧ ((p1_ &&& (1 : Int32)) = (0 : Int32))) ∨ ((1 : Int32) = z ∧ ¬ ((p1_ &&& (1 : Int32)) = (0 : Int32)))) ∧ ∀ t, own_S p e below m s₁ 27 #[lvI p0_, lvI p1_, lvI (3 : Int32), lvI z467, .unset, .unset, .unset, .unset, .unset, .unset, .unset, .unset, .unset, .unset, .unset, .unset, .unset, .unset, .unset, .unset] [(.int z)] t → G t := by
      by_cases hc471 : (p1_ &&& (1 : Int32)) = (0 : Int32)
      · refine ⟨(0 : Int32), Or.inl ⟨rfl, hc471⟩, fun t kt => pre469 t ?_⟩
        show own_S p e below m s₁ 19 #[lvI p0_, lvI p1_, lvI (3 : Int32), lvI z467, .unset, .unset, .unset, .unset, .unset, .unset, .unset, .unset, .unset, .unset, .unset, .unset, .unset, .unset, .unset, .unset] [(.int (p1_ &&& (1 : Int32)))] _
        refine XS.ifYes X0.here hx rfl (pc0 := 19) (pc' := 26) rfl (hb hby at_19) rfl ((if0 _ _).trans (teq hc471).1) (by decide) (by decide) ?_
        refine XS.iconst X0.here hx rfl (hb hby at_26) ?_
        exact kt
      · refine ⟨(1 : Int32), Or.inr ⟨rfl, hc471⟩, fun t kt => pre469 t ?_⟩
        show own_S p e below m s₁ 19 #[lvI p0_, lvI p1_, lvI (3 : Int32), lvI z467, .unset, .unset, .unset, .unset, .unset, .unset, .unset, .unset, .unset, .unset, .unset, .unset, .unset, .unset, .unset, .unset] [(.int (p1_ &&& (1 : Int32)))] _
        refine XS.ifNo X0.here hx rfl (hb hby at_19) rfl ((if0 _ _).trans (feq hc471).1) ?_
        refine XS.iconst X0.here hx rfl (hb hby at_22) ?_
        refine XS.goto X0.here hx rfl (pc0 := 23) (pc' := 27) rfl (hb hby at_23) (by decide) (by decide) ?_
        exact kt
    have pre472 : ∀ t, own_S p e below m s₁ 32 #[lvI p0_, lvI p1_, lvI (3 : Int32), lvI z467, lvI z470, .unset, .unset, .unset, .unset, .unset, .unset, .unset, .unset, .unset, .unset, .unset, .unset, .unset, .unset, .unset] [(.int (p1_ &&& (2 : Int32)))] t → G t := by
      intro t kt
      refine prez470 t ?_
      show own_S p e below m s₁ 27 #[lvI p0_, lvI p1_, lvI (3 : Int32), lvI z467, .unset, .unset, .unset, .unset, .unset, .unset, .unset, .unset, .unset, .unset, .unset, .unset, .unset, .unset, .unset, .unset] [(.int z470)] _
      refine XS.istore X0.here hx rfl (hb hby at_27) rfl (l' := #[lvI p0_, lvI p1_, lvI (3 : Int32), lvI z467, lvI z470, .unset, .unset, .unset, .unset, .unset, .unset, .unset, .unset, .unset, .unset, .unset, .unset, .unset, .unset, .unset]) rfl ?_
      refine XS.iloadN X0.here hx rfl (hb hby at_29) rfl ?_
      refine XS.iconst X0.here hx rfl (hb hby at_30) ?_
      refine XS.iand X0.here hx rfl (hb hby at_31) rfl ?_
      exact kt
    obtain ⟨z473, hz473, prez473⟩ : ∃ z : Int32, (((0 : Int32) = z ∧ ((p1_ &&& (2 : Int32)) = (0 : Int32))) ∨ ((1 : Int32) = z ∧ ¬ ((p1_ &&& (2 : Int32)) = (0 : Int32)))) ∧ ∀ t, own_S p e below m s₁ 40 #[lvI p0_, lvI p1_, lvI (3 : Int32), lvI z467, lvI z470, .unset, .unset, .unset, .unset, .unset, .unset, .unset, .unset, .unset, .unset, .unset, .unset, .unset, .unset, .unset] [(.int z)] t → G t := by
      by_cases hc474 : (p1_ &&& (2 : Int32)) = (0 : Int32)
      · refine ⟨(0 : Int32), Or.inl ⟨rfl, hc474⟩, fun t kt => pre472 t ?_⟩
        show own_S p e below m s₁ 32 #[lvI p0_, lvI p1_, lvI (3 : Int32), lvI z467, lvI z470, .unset, .unset, .unset, .unset, .unset, .unset, .unset, .unset, .unset, .unset, .unset, .unset, .unset, .unset, .unset] [(.int (p1_ &&& (2 : Int32)))] _
        refine XS.ifYes X0.here hx rfl (pc0 := 32) (pc' := 39) rfl (hb hby at_32) rfl ((if0 _ _).trans (teq hc474).1) (by decide) (by decide) ?_
        refine XS.iconst X0.here hx rfl (hb hby at_39) ?_
        exact kt
      · refine ⟨(1 : Int32), Or.inr ⟨rfl, hc474⟩, fun t kt => pre472 t ?_⟩
        show own_S p e below m s₁ 32 #[lvI p0_, lvI p1_, lvI (3 : Int32), lvI z467, lvI z470, .unset, .unset, .unset, .unset, .unset, .unset, .unset, .unset, .unset, .unset, .unset, .unset, .unset, .unset, .unset] [(.int (p1_ &&& (2 : Int32)))] _
        refine XS.ifNo X0.here hx rfl (hb hby at_32) rfl ((if0 _ _).trans (feq hc474).1) ?_
        refine XS.iconst X0.here hx rfl (hb hby at_35) ?_
        refine XS.goto X0.here hx rfl (pc0 := 36) (pc' := 40) rfl (hb hby at_36) (by decide) (by decide) ?_
        exact kt
    obtain ⟨T475, h475, X475, e475, E475, A475, D475, -, st475⟩ := newO X0 hx hZ hown (own_w hw 0 rfl) (own_w hw 1 rfl) (own_w hw 2 rfl) e0 (g := (mkF m 42 #[lvI p0_, lvI p1_, lvI (3 : Int32), lvI z467, lvI z470, lvI z473, .unset, .unset, .unset, .unset, .unset, .unset, .unset, .unset, .unset, .unset, .unset, .unset, .unset, .unset] [])) rfl (hb hby at_42) (by decide) (by decide)
    obtain ⟨b475, g475⟩ : ∃ z, z = h0.size := ⟨_, rfl⟩
    rw [← g475] at A475 D475 st475
    have ge476 : n0 ≤ b475 := Nat.le_trans (Nat.le_trans (Nat.le_of_eq O0.1.symm) O0.2.1) (Nat.le_of_eq g475.symm)
    have sz477 : h0.size ≤ b475 := Nat.le_trans K0.1 (Nat.le_of_eq g475.symm)
    have f478 : Fld Z h475 b475 "latchwork/WaitQueue" "head" "Llatchwork/WaitQueue$Waiter;" .null := D475 (Or.inl (own_w hw 24 rfl)) (ty := (.object "latchwork/WaitQueue$Waiter")) (by decide)
    have f479 : Fld Z h475 b475 "latchwork/WaitQueue" "size" "I" (.int (0 : Int32)) := D475 (Or.inl (own_w hw 31 rfl)) (ty := .int) (by decide)
    have f480 : Fld Z h475 b475 "latchwork/WaitQueue" "tail" "Llatchwork/WaitQueue$Waiter;" .null := D475 (Or.inl (own_w hw 47 rfl)) (ty := (.object "latchwork/WaitQueue$Waiter")) (by decide)
    have f482 : Old Z n0 h475 := O0.ext E475
    obtain ⟨_, _, ⟨T481, L481, k481, n481⟩, -, X481, ⟨Lc481, hQ481, l481, y481, z481⟩, st481⟩ := X475.specialBack hx (y := (⟨"latchwork/WaitQueue", "<init>", "()V"⟩ : MethodName)) rfl hown (mvT hZ (own_w hw 3 rfl)) (mvT hZ (own_w hw 4 rfl)) (mvT hZ (own_w hw 5 rfl)) (by decide) (backOf (W := 1) (rminit1 l Z a0 hw [] b475 h475 n0 f482 A475 f478 f479 f480) hZ (own_w hw 5 rfl) (own_w hw 2 rfl) (by decide) (by decide)) (g := (mkF m 46 #[lvI p0_, lvI p1_, lvI (3 : Int32), lvI z467, lvI z470, lvI z473, .unset, .unset, .unset, .unset, .unset, .unset, .unset, .unset, .unset, .unset, .unset, .unset, .unset, .unset] [(.ref b475), (.ref b475)])) rfl (by rw [hml]; rfl) (Steps.refl _) (a := b475) (argsL := []) (rest := [(.ref b475)]) (lenOf pd_0 rfl) rfl (by show 2 * 0 + _ ≤ _; exact Nat.le_of_eq rfl) (hb hby at_46) (fun _ _ => ⟨rfl, e475, (by decide : 1 + 0 ≤ _), (by decide : 4 + 0 ≤ _)⟩)
    dsimp only [Pt.U, Pt.locs, Pt.cells, Pt.slots] at X481 l481 y481 z481 st481 hQ481
    subst l481 y481 z481
    obtain ⟨h481, e481⟩ : ∃ z, T481.heap = z := ⟨_, rfl⟩
    rw [e481] at hQ481
    obtain ⟨rfl, N481q, hh481⟩ := hQ481
    have N483 := Fr.app N0 N481q
    have e481' : T481.heap = h475 := e481.trans hh481
    obtain ⟨T484, h484, X484, e484, E484, A484, D484, -, st484⟩ := newO X481 hx hZ hown (own_w hw 9 rfl) (own_w hw 10 rfl) (own_w hw 11 rfl) e481' (g := (mkF m 51 #[lvI p0_, lvI p1_, lvI (3 : Int32), lvI z467, lvI z470, lvI z473, lvR b475, .unset, .unset, .unset, .unset, .unset, .unset, .unset, .unset, .unset, .unset, .unset, .unset, .unset] [])) rfl (hb hby at_51) (by decide) (by decide)
    obtain ⟨b484, g484⟩ : ∃ z, z = h475.size := ⟨_, rfl⟩
    rw [← g484] at A484 D484 st484
    have ge485 : n0 ≤ b484 := Nat.le_trans (Nat.le_trans (Nat.le_of_eq f482.1.symm) f482.2.1) (Nat.le_of_eq g484.symm)
    have f486 : Keep h0 h475 [] := K0.ext E475
    have sz487 : h0.size ≤ b484 := Nat.le_trans f486.1 (Nat.le_of_eq g484.symm)
    have f488 : Fld Z h484 b484 cn0 "thread" "Ljava/lang/Thread;" .null := D484 (Or.inr (own_w hw 17 rfl)) (ty := (.object "java/lang/Thread")) (by decide)
    have f489 : Fld Z h484 b484 cn0 "picked" "Z" (.int (0 : Int32)) := D484 (Or.inl (own_w hw 49 rfl)) (ty := .boolean) (by decide)
    have f490 : Fld Z h484 b484 cn0 "queued" "Z" (.int (0 : Int32)) := D484 (Or.inl (own_w hw 51 rfl)) (ty := .boolean) (by decide)
    have f491 : Fld Z h484 b484 cn0 "next" "Llatchwork/WaitQueue$Waiter;" .null := D484 (Or.inl (own_w hw 53 rfl)) (ty := (.object "latchwork/WaitQueue$Waiter")) (by decide)
    have f492 : Fld Z h484 b484 cn0 "prev" "Llatchwork/WaitQueue$Waiter;" .null := D484 (Or.inl (own_w hw 55 rfl)) (ty := (.object "latchwork/WaitQueue$Waiter")) (by decide)
    have f494 : Old Z n0 h484 := f482.ext E484
    obtain ⟨_, _, ⟨T493, L493, k493, n493⟩, -, X493, ⟨Lc493, hQ493, l493, y493, z493⟩, st493⟩ := X484.specialBack hx (y := (⟨"latchwork/WaitQueue$Waiter", "<init>", "(Ljava/lang/Thread;)V"⟩ : MethodName)) rfl hown (mvT hZ (own_w hw 12 rfl)) (mvT hZ (own_w hw 13 rfl)) (mvT hZ (own_w hw 14 rfl)) (by decide) (backOf (W := 1) (rminit2 l Z a0 hw [] b484 h484 n0 f494 A484 f488 f489 f490 f491 f492 ge485) hZ (own_w hw 14 rfl) (own_w hw 11 rfl) (by decide) (by decide)) (g := (mkF m 56 #[lvI p0_, lvI p1_, lvI (3 : Int32), lvI z467, lvI z470, lvI z473, lvR b475, .unset, .unset, .unset, .unset, .unset, .unset, .unset, .unset, .unset, .unset, .unset, .unset, .unset] [.null, (.ref b484), (.ref b484)])) rfl (by rw [hml]; rfl) (Steps.refl _) (a := b484) (argsL := [.null]) (rest := [(.ref b484)]) (lenOf pd_1 rfl) rfl (by show 2 * 0 + _ ≤ _; exact Nat.le_of_eq rfl) (hb hby at_56) (fun _ _ => ⟨rfl, e484, (by decide : 2 + 0 ≤ _), (by decide : 12 + 0 ≤ _)⟩)
    dsimp only [Pt.U, Pt.locs, Pt.cells, Pt.slots] at X493 l493 y493 z493 st493 hQ493
    subst l493 y493 z493
    obtain ⟨h493, e493⟩ : ∃ z, T493.heap = z := ⟨_, rfl⟩
    rw [e493] at hQ493
    obtain ⟨rfl, N493q, K493, g493_0, g493_1, g493_2, g493_3, g493_4, g493_5⟩ := hQ493
    have N495 := Fr.app N483 N493q
    obtain ⟨T496, h496, X496, e496, E496, A496, D496, -, st496⟩ := newO X493 hx hZ hown (own_w hw 9 rfl) (own_w hw 10 rfl) (own_w hw 11 rfl) e493 (g := (mkF m 61 #[lvI p0_, lvI p1_, lvI (3 : Int32), lvI z467, lvI z470, lvI z473, lvR b475, lvR b484, .unset, .unset, .unset, .unset, .unset, .unset, .unset, .unset, .unset, .unset, .unset, .unset] [])) rfl (hb hby at_61) (by decide) (by decide)
    obtain ⟨b496, g496⟩ : ∃ z, z = h493.size := ⟨_, rfl⟩
    rw [← g496] at A496 D496 st496
    have f497 : Old Z n0 h493 := f494.keep K493 (allS (ge485) all0)
    have ge498 : n0 ≤ b496 := Nat.le_trans (Nat.le_trans (Nat.le_of_eq f497.1.symm) f497.2.1) (Nat.le_of_eq g496.symm)
    have f499 : Keep h0 h484 [] := f486.ext E484
    have f500 : Keep h0 h493 [] := f499.trans K493 (allS (Or.inr sz487) all0)
    have sz501 : h0.size ≤ b496 := Nat.le_trans f500.1 (Nat.le_of_eq g496.symm)
    have f502 : Fld Z h496 b496 cn0 "thread" "Ljava/lang/Thread;" .null := D496 (Or.inr (own_w hw 17 rfl)) (ty := (.object "java/lang/Thread")) (by decide)
    have f503 : Fld Z h496 b496 cn0 "picked" "Z" (.int (0 : Int32)) := D496 (Or.inl (own_w hw 49 rfl)) (ty := .boolean) (by decide)
    have f504 : Fld Z h496 b496 cn0 "queued" "Z" (.int (0 : Int32)) := D496 (Or.inl (own_w hw 51 rfl)) (ty := .boolean) (by decide)
    have f505 : Fld Z h496 b496 cn0 "next" "Llatchwork/WaitQueue$Waiter;" .null := D496 (Or.inl (own_w hw 53 rfl)) (ty := (.object "latchwork/WaitQueue$Waiter")) (by decide)
    have f506 : Fld Z h496 b496 cn0 "prev" "Llatchwork/WaitQueue$Waiter;" .null := D496 (Or.inl (own_w hw 55 rfl)) (ty := (.object "latchwork/WaitQueue$Waiter")) (by decide)
    have f508 : Old Z n0 h496 := f497.ext E496
    obtain ⟨_, _, ⟨T507, L507, k507, n507⟩, -, X507, ⟨Lc507, hQ507, l507, y507, z507⟩, st507⟩ := X496.specialBack hx (y := (⟨"latchwork/WaitQueue$Waiter", "<init>", "(Ljava/lang/Thread;)V"⟩ : MethodName)) rfl hown (mvT hZ (own_w hw 12 rfl)) (mvT hZ (own_w hw 13 rfl)) (mvT hZ (own_w hw 14 rfl)) (by decide) (backOf (W := 1) (rminit2 l Z a0 hw [] b496 h496 n0 f508 A496 f502 f503 f504 f505 f506 ge498) hZ (own_w hw 14 rfl) (own_w hw 11 rfl) (by decide) (by decide)) (g := (mkF m 66 #[lvI p0_, lvI p1_, lvI (3 : Int32), lvI z467, lvI z470, lvI z473, lvR b475, lvR b484, .unset, .unset, .unset, .unset, .unset, .unset, .unset, .unset, .unset, .unset, .unset, .unset] [.null, (.ref b496), (.ref b496)])) rfl (by rw [hml]; rfl) (Steps.refl _) (a := b496) (argsL := [.null]) (rest := [(.ref b496)]) (lenOf pd_1 rfl) rfl (by show 2 * 0 + _ ≤ _; exact Nat.le_of_eq rfl) (hb hby at_66) (fun _ _ => ⟨rfl, e496, (by decide : 3 + 0 ≤ _), (by decide : 20 + 0 ≤ _)⟩)
    dsimp only [Pt.U, Pt.locs, Pt.cells, Pt.slots] at X507 l507 y507 z507 st507 hQ507
    subst l507 y507 z507
    obtain ⟨h507, e507⟩ : ∃ z, T507.heap = z := ⟨_, rfl⟩
    rw [e507] at hQ507
    obtain ⟨rfl, N507q, K507, g507_0, g507_1, g507_2, g507_3, g507_4, g507_5⟩ := hQ507
    have N509 := Fr.app N495 N507q
    obtain ⟨T510, h510, X510, e510, E510, A510, D510, -, st510⟩ := newO X507 hx hZ hown (own_w hw 9 rfl) (own_w hw 10 rfl) (own_w hw 11 rfl) e507 (g := (mkF m 71 #[lvI p0_, lvI p1_, lvI (3 : Int32), lvI z467, lvI z470, lvI z473, lvR b475, lvR b484, lvR b496, .unset, .unset, .unset, .unset, .unset, .unset, .unset, .unset, .unset, .unset, .unset] [])) rfl (hb hby at_71) (by decide) (by decide)
    obtain ⟨b510, g510⟩ : ∃ z, z = h507.size := ⟨_, rfl⟩
    rw [← g510] at A510 D510 st510
    have f511 : Old Z n0 h507 := f508.keep K507 (allS (ge498) all0)
    have ge512 : n0 ≤ b510 := Nat.le_trans (Nat.le_trans (Nat.le_of_eq f511.1.symm) f511.2.1) (Nat.le_of_eq g510.symm)
    have f513 : Keep h0 h496 [] := f500.ext E496
    have f514 : Keep h0 h507 [] := f513.trans K507 (allS (Or.inr sz501) all0)
    have sz515 : h0.size ≤ b510 := Nat.le_trans f514.1 (Nat.le_of_eq g510.symm)
    have f516 : Fld Z h510 b510 cn0 "thread" "Ljava/lang/Thread;" .null := D510 (Or.inr (own_w hw 17 rfl)) (ty := (.object "java/lang/Thread")) (by decide)
    have f517 : Fld Z h510 b510 cn0 "picked" "Z" (.int (0 : Int32)) := D510 (Or.inl (own_w hw 49 rfl)) (ty := .boolean) (by decide)
    have f518 : Fld Z h510 b510 cn0 "queued" "Z" (.int (0 : Int32)) := D510 (Or.inl (own_w hw 51 rfl)) (ty := .boolean) (by decide)
    have f519 : Fld Z h510 b510 cn0 "next" "Llatchwork/WaitQueue$Waiter;" .null := D510 (Or.inl (own_w hw 53 rfl)) (ty := (.object "latchwork/WaitQueue$Waiter")) (by decide)
    have f520 : Fld Z h510 b510 cn0 "prev" "Llatchwork/WaitQueue$Waiter;" .null := D510 (Or.inl (own_w hw 55 rfl)) (ty := (.object "latchwork/WaitQueue$Waiter")) (by decide)
    have f522 : Old Z n0 h510 := f511.ext E510
    obtain ⟨_, _, ⟨T521, L521, k521, n521⟩, -, X521, ⟨Lc521, hQ521, l521, y521, z521⟩, st521⟩ := X510.specialBack hx (y := (⟨"latchwork/WaitQueue$Waiter", "<init>", "(Ljava/lang/Thread;)V"⟩ : MethodName)) rfl hown (mvT hZ (own_w hw 12 rfl)) (mvT hZ (own_w hw 13 rfl)) (mvT hZ (own_w hw 14 rfl)) (by decide) (backOf (W := 1) (rminit2 l Z a0 hw [] b510 h510 n0 f522 A510 f516 f517 f518 f519 f520 ge512) hZ (own_w hw 14 rfl) (own_w hw 11 rfl) (by decide) (by decide)) (g := (mkF m 76 #[lvI p0_, lvI p1_, lvI (3 : Int32), lvI z467, lvI z470, lvI z473, lvR b475, lvR b484, lvR b496, .unset, .unset, .unset, .unset, .unset, .unset, .unset, .unset, .unset, .unset, .unset] [.null, (.ref b510), (.ref b510)])) rfl (by rw [hml]; rfl) (Steps.refl _) (a := b510) (argsL := [.null]) (rest := [(.ref b510)]) (lenOf pd_1 rfl) rfl (by show 2 * 0 + _ ≤ _; exact Nat.le_of_eq rfl) (hb hby at_76) (fun _ _ => ⟨rfl, e510, (by decide : 4 + 0 ≤ _), (by decide : 28 + 0 ≤ _)⟩)
    dsimp only [Pt.U, Pt.locs, Pt.cells, Pt.slots] at X521 l521 y521 z521 st521 hQ521
    subst l521 y521 z521
    obtain ⟨h521, e521⟩ : ∃ z, T521.heap = z := ⟨_, rfl⟩
    rw [e521] at hQ521
    obtain ⟨rfl, N521q, K521, g521_0, g521_1, g521_2, g521_3, g521_4, g521_5⟩ := hQ521
    have N523 := Fr.app N509 N521q
    have f525 : Exa Z h484 b475 "latchwork/WaitQueue" := A475.ext E484
    have f526 : Exa Z h493 b475 "latchwork/WaitQueue" := f525.keep K493
    have f527 : Exa Z h496 b475 "latchwork/WaitQueue" := f526.ext E496
    have f528 : Exa Z h507 b475 "latchwork/WaitQueue" := f527.keep K507
    have f529 : Exa Z h510 b475 "latchwork/WaitQueue" := f528.ext E510
    have f530 : Exa Z h521 b475 "latchwork/WaitQueue" := f529.keep K521
    have f531 : Fld Z h484 b475 "latchwork/WaitQueue" "head" "Llatchwork/WaitQueue$Waiter;" .null := f478.ext E484
    have ne533 : b475 ≠ b484 := Nat.ne_of_lt (Nat.lt_of_lt_of_le A475.lt (Nat.le_of_eq g484.symm))
    have f532 : Fld Z h493 b475 "latchwork/WaitQueue" "head" "Llatchwork/WaitQueue$Waiter;" .null := f531.keep K493 (ninS ne533 nin0)
    have f534 : Fld Z h496 b475 "latchwork/WaitQueue" "head" "Llatchwork/WaitQueue$Waiter;" .null := f532.ext E496
    have ne536 : b475 ≠ b496 := Nat.ne_of_lt (Nat.lt_of_lt_of_le f526.lt (Nat.le_of_eq g496.symm))
    have f535 : Fld Z h507 b475 "latchwork/WaitQueue" "head" "Llatchwork/WaitQueue$Waiter;" .null := f534.keep K507 (ninS ne536 nin0)
    have f537 : Fld Z h510 b475 "latchwork/WaitQueue" "head" "Llatchwork/WaitQueue$Waiter;" .null := f535.ext E510
    have ne539 : b475 ≠ b510 := Nat.ne_of_lt (Nat.lt_of_lt_of_le f528.lt (Nat.le_of_eq g510.symm))
    have f538 : Fld Z h521 b475 "latchwork/WaitQueue" "head" "Llatchwork/WaitQueue$Waiter;" .null := f537.keep K521 (ninS ne539 nin0)
    have f540 : Fld Z h484 b475 "latchwork/WaitQueue" "size" "I" (.int (0 : Int32)) := f479.ext E484
    have f541 : Fld Z h493 b475 "latchwork/WaitQueue" "size" "I" (.int (0 : Int32)) := f540.keep K493 (ninS ne533 nin0)
    have f542 : Fld Z h496 b475 "latchwork/WaitQueue" "size" "I" (.int (0 : Int32)) := f541.ext E496
    have f543 : Fld Z h507 b475 "latchwork/WaitQueue" "size" "I" (.int (0 : Int32)) := f542.keep K507 (ninS ne536 nin0)
    have f544 : Fld Z h510 b475 "latchwork/WaitQueue" "size" "I" (.int (0 : Int32)) := f543.ext E510
    have f545 : Fld Z h521 b475 "latchwork/WaitQueue" "size" "I" (.int (0 : Int32)) := f544.keep K521 (ninS ne539 nin0)
    have f546 : Fld Z h484 b475 "latchwork/WaitQueue" "tail" "Llatchwork/WaitQueue$Waiter;" .null := f480.ext E484
    have f547 : Fld Z h493 b475 "latchwork/WaitQueue" "tail" "Llatchwork/WaitQueue$Waiter;" .null := f546.keep K493 (ninS ne533 nin0)
    have f548 : Fld Z h496 b475 "latchwork/WaitQueue" "tail" "Llatchwork/WaitQueue$Waiter;" .null := f547.ext E496
    have f549 : Fld Z h507 b475 "latchwork/WaitQueue" "tail" "Llatchwork/WaitQueue$Waiter;" .null := f548.keep K507 (ninS ne536 nin0)
    have f550 : Fld Z h510 b475 "latchwork/WaitQueue" "tail" "Llatchwork/WaitQueue$Waiter;" .null := f549.ext E510
    have f551 : Fld Z h521 b475 "latchwork/WaitQueue" "tail" "Llatchwork/WaitQueue$Waiter;" .null := f550.keep K521 (ninS ne539 nin0)
    have f552 : Exa Z h496 b484 cn0 := g493_0.ext E496
    have f553 : Exa Z h507 b484 cn0 := f552.keep K507
    have f554 : Exa Z h510 b484 cn0 := f553.ext E510
    have f555 : Exa Z h521 b484 cn0 := f554.keep K521
    have f556 : Fld Z h496 b484 cn0 "thread" "Ljava/lang/Thread;" .null := g493_1.ext E496
    have ne558 : b484 ≠ b496 := Nat.ne_of_lt (Nat.lt_of_lt_of_le g493_0.lt (Nat.le_of_eq g496.symm))
    have f557 : Fld Z h507 b484 cn0 "thread" "Ljava/lang/Thread;" .null := f556.keep K507 (ninS ne558 nin0)
    have f559 : Fld Z h510 b484 cn0 "thread" "Ljava/lang/Thread;" .null := f557.ext E510
    have ne561 : b484 ≠ b510 := Nat.ne_of_lt (Nat.lt_of_lt_of_le f553.lt (Nat.le_of_eq g510.symm))
    have f560 : Fld Z h521 b484 cn0 "thread" "Ljava/lang/Thread;" .null := f559.keep K521 (ninS ne561 nin0)
    have f562 : Fld Z h496 b484 cn0 "picked" "Z" (.int (0 : Int32)) := g493_2.ext E496
    have f563 : Fld Z h507 b484 cn0 "picked" "Z" (.int (0 : Int32)) := f562.keep K507 (ninS ne558 nin0)
    have f564 : Fld Z h510 b484 cn0 "picked" "Z" (.int (0 : Int32)) := f563.ext E510
    have f565 : Fld Z h521 b484 cn0 "picked" "Z" (.int (0 : Int32)) := f564.keep K521 (ninS ne561 nin0)
    have f566 : Fld Z h496 b484 cn0 "queued" "Z" (.int (0 : Int32)) := g493_3.ext E496
    have f567 : Fld Z h507 b484 cn0 "queued" "Z" (.int (0 : Int32)) := f566.keep K507 (ninS ne558 nin0)
    have f568 : Fld Z h510 b484 cn0 "queued" "Z" (.int (0 : Int32)) := f567.ext E510
    have f569 : Fld Z h521 b484 cn0 "queued" "Z" (.int (0 : Int32)) := f568.keep K521 (ninS ne561 nin0)
    have f570 : Fld Z h496 b484 cn0 "next" "Llatchwork/WaitQueue$Waiter;" .null := g493_4.ext E496
    have f571 : Fld Z h507 b484 cn0 "next" "Llatchwork/WaitQueue$Waiter;" .null := f570.keep K507 (ninS ne558 nin0)
    have f572 : Fld Z h510 b484 cn0 "next" "Llatchwork/WaitQueue$Waiter;" .null := f571.ext E510
    have f573 : Fld Z h521 b484 cn0 "next" "Llatchwork/WaitQueue$Waiter;" .null := f572.keep K521 (ninS ne561 nin0)
    have f574 : Fld Z h496 b484 cn0 "prev" "Llatchwork/WaitQueue$Waiter;" .null := g493_5.ext E496
    have f575 : Fld Z h507 b484 cn0 "prev" "Llatchwork/WaitQueue$Waiter;" .null := f574.keep K507 (ninS ne558 nin0)
    have f576 : Fld Z h510 b484 cn0 "prev" "Llatchwork/WaitQueue$Waiter;" .null := f575.ext E510
    have f577 : Fld Z h521 b484 cn0 "prev" "Llatchwork/WaitQueue$Waiter;" .null := f576.keep K521 (ninS ne561 nin0)
    have f578 : Old Z n0 h521 := f522.keep K521 (allS (ge512) all0)
    obtain ⟨cq524, kq524, q524a, q524b, q524c⟩ := isOf hZ e521 f530
    obtain ⟨_, _, ⟨T524, L524, k524, n524⟩, -, X524, ⟨Lc524, hQ524, l524, y524, z524⟩, st524⟩ := X521.virtualBack hx (y := (⟨"latchwork/WaitQueue", "add", "(Llatchwork/WaitQueue$Waiter;Z)V"⟩ : MethodName)) (z := (⟨"latchwork/WaitQueue", "add", "(Llatchwork/WaitQueue$Waiter;Z)V"⟩ : MethodName)) hown (mvT hZ (own_w hw 41 rfl)) (mvT hZ (own_w hw 42 rfl)) (notFace_of_selects (args := #[]) (mvT hZ (own_w hw 44 rfl))) (mvT hZ (own_w hw 44 rfl)) (mvT hZ (own_w hw 43 rfl)) (by decide) (backOf (W := 0) (rmadd7 l Z a0 hw [] b475 b484 z467 h521 n0 f578 f530 f538 f545 f551 f555 f560 f565 f569 f573 f577 ge476 (Ne.symm ne533) ge485) hZ (own_w hw 45 rfl) (own_w hw 2 rfl) (by decide) (by decide)) q524a q524c (g := (mkF m 91 #[lvI p0_, lvI p1_, lvI (3 : Int32), lvI z467, lvI z470, lvI z473, lvR b475, lvR b484, lvR b496, lvR b510, .unset, .unset, .unset, .unset, .unset, .unset, .unset, .unset, .unset, .unset] [(.int z467), (.ref b484), (.ref b475)])) rfl (by rw [hml]; rfl) (Steps.refl _) (argsL := [(.ref b484), (.int z467)]) (rest := []) (lenOf pd_5 rfl) rfl (by show 2 * 0 + _ ≤ _; exact Nat.le_of_eq rfl) (hb hby at_91) (fun _ _ => ⟨rfl, e521, (by decide : 4 + 0 ≤ _), (by decide : 28 + 0 ≤ _)⟩)
    dsimp only [Pt.U, Pt.locs, Pt.cells, Pt.slots] at X524 l524 y524 z524 st524 hQ524
    subst l524 y524 z524
    obtain ⟨h524, e524⟩ : ∃ z, T524.heap = z := ⟨_, rfl⟩
    rw [e524] at hQ524
    obtain ⟨rfl, N524q, K524, g524_0, g524_1, g524_2, g524_3, g524_4, g524_5, g524_6, g524_7, g524_8, g524_9⟩ := hQ524
    have N579 := Fr.app N523 N524q
    have pre580 : ∀ t, own_S p e below m T524 105 #[lvI p0_, lvI p1_, lvI (3 : Int32), lvI z467, lvI z470, lvI z473, lvR b475, lvR b484, lvR b496, lvR b510, .unset, .unset, .unset, .unset, .unset, .unset, .unset, .unset, .unset, .unset] [(.int z470), (.ref b496), (.ref b475)] t → G t := by
      intro t kt
      refine prez473 t ?_
      show own_S p e below m s₁ 40 #[lvI p0_, lvI p1_, lvI (3 : Int32), lvI z467, lvI z470, .unset, .unset, .unset, .unset, .unset, .unset, .unset, .unset, .unset, .unset, .unset, .unset, .unset, .unset, .unset] [(.int z473)] _
      refine XS.istore X0.here hx rfl (hb hby at_40) rfl (l' := #[lvI p0_, lvI p1_, lvI (3 : Int32), lvI z467, lvI z470, lvI z473, .unset, .unset, .unset, .unset, .unset, .unset, .unset, .unset, .unset, .unset, .unset, .unset, .unset, .unset]) rfl ?_
      show own_S p e below m s₁ 42 #[lvI p0_, lvI p1_, lvI (3 : Int32), lvI z467, lvI z470, lvI z473, .unset, .unset, .unset, .unset, .unset, .unset, .unset, .unset, .unset, .unset, .unset, .unset, .unset, .unset] [] _
      refine st475 _ ?_
      refine XS.dup X475.here hx rfl (hb hby at_45) rfl rfl ?_
      show own_S p e below m T475 46 #[lvI p0_, lvI p1_, lvI (3 : Int32), lvI z467, lvI z470, lvI z473, .unset, .unset, .unset, .unset, .unset, .unset, .unset, .unset, .unset, .unset, .unset, .unset, .unset, .unset] [(.ref b475), (.ref b475)] _
      refine st481.trans ?_
      refine XS.astore X481.here hx rfl (hb hby at_49) rfl rfl (l' := #[lvI p0_, lvI p1_, lvI (3 : Int32), lvI z467, lvI z470, lvI z473, lvR b475, .unset, .unset, .unset, .unset, .unset, .unset, .unset, .unset, .unset, .unset, .unset, .unset, .unset]) rfl ?_
      show own_S p e below m T481 51 #[lvI p0_, lvI p1_, lvI (3 : Int32), lvI z467, lvI z470, lvI z473, lvR b475, .unset, .unset, .unset, .unset, .unset, .unset, .unset, .unset, .unset, .unset, .unset, .unset, .unset] [] _
      refine st484 _ ?_
      refine XS.dup X484.here hx rfl (hb hby at_54) rfl rfl ?_
      refine XS.aconstNull X484.here hx rfl (hb hby at_55) ?_
      show own_S p e below m T484 56 #[lvI p0_, lvI p1_, lvI (3 : Int32), lvI z467, lvI z470, lvI z473, lvR b475, .unset, .unset, .unset, .unset, .unset, .unset, .unset, .unset, .unset, .unset, .unset, .unset, .unset] [.null, (.ref b484), (.ref b484)] _
      refine st493.trans ?_
      refine XS.astore X493.here hx rfl (hb hby at_59) rfl rfl (l' := #[lvI p0_, lvI p1_, lvI (3 : Int32), lvI z467, lvI z470, lvI z473, lvR b475, lvR b484, .unset, .unset, .unset, .unset, .unset, .unset, .unset, .unset, .unset, .unset, .unset, .unset]) rfl ?_
      show own_S p e below m T493 61 #[lvI p0_, lvI p1_, lvI (3 : Int32), lvI z467, lvI z470, lvI z473, lvR b475, lvR b484, .unset, .unset, .unset, .unset, .unset, .unset, .unset, .unset, .unset, .unset, .unset, .unset] [] _
      refine st496 _ ?_
      refine XS.dup X496.here hx rfl (hb hby at_64) rfl rfl ?_
      refine XS.aconstNull X496.here hx rfl (hb hby at_65) ?_
      show own_S p e below m T496 66 #[lvI p0_, lvI p1_, lvI (3 : Int32), lvI z467, lvI z470, lvI z473, lvR b475, lvR b484, .unset, .unset, .unset, .unset, .unset, .unset, .unset, .unset, .unset, .unset, .unset, .unset] [.null, (.ref b496), (.ref b496)] _
      refine st507.trans ?_
      refine XS.astore X507.here hx rfl (hb hby at_69) rfl rfl (l' := #[lvI p0_, lvI p1_, lvI (3 : Int32), lvI z467, lvI z470, lvI z473, lvR b475, lvR b484, lvR b496, .unset, .unset, .unset, .unset, .unset, .unset, .unset, .unset, .unset, .unset, .unset]) rfl ?_
      show own_S p e below m T507 71 #[lvI p0_, lvI p1_, lvI (3 : Int32), lvI z467, lvI z470, lvI z473, lvR b475, lvR b484, lvR b496, .unset, .unset, .unset, .unset, .unset, .unset, .unset, .unset, .unset, .unset, .unset] [] _
      refine st510 _ ?_
      refine XS.dup X510.here hx rfl (hb hby at_74) rfl rfl ?_
      refine XS.aconstNull X510.here hx rfl (hb hby at_75) ?_
      show own_S p e below m T510 76 #[lvI p0_, lvI p1_, lvI (3 : Int32), lvI z467, lvI z470, lvI z473, lvR b475, lvR b484, lvR b496, .unset, .unset, .unset, .unset, .unset, .unset, .unset, .unset, .unset, .unset, .unset] [.null, (.ref b510), (.ref b510)] _
      refine st521.trans ?_
      refine XS.astore X521.here hx rfl (hb hby at_79) rfl rfl (l' := #[lvI p0_, lvI p1_, lvI (3 : Int32), lvI z467, lvI z470, lvI z473, lvR b475, lvR b484, lvR b496, lvR b510, .unset, .unset, .unset, .unset, .unset, .unset, .unset, .unset, .unset, .unset]) rfl ?_
      refine XS.iloadN X521.here hx rfl (hb hby at_81) rfl ?_
      refine XS.iconst X521.here hx rfl (hb hby at_82) ?_
      show own_S p e below m T521 83 #[lvI p0_, lvI p1_, lvI (3 : Int32), lvI z467, lvI z470, lvI z473, lvR b475, lvR b484, lvR b496, lvR b510, .unset, .unset, .unset, .unset, .unset, .unset, .unset, .unset, .unset, .unset] [(.int (1 : Int32)), (.int (3 : Int32))] _
      refine XS.icmpNo X521.here hx rfl (hb hby at_83) rfl (flt (by decide : ¬ ((3 : Int32) < (1 : Int32)))).1 ?_
      refine XS.aload X521.here hx rfl (hb hby at_86) rfl rfl ?_
      refine XS.aload X521.here hx rfl (hb hby at_88) rfl rfl ?_
      refine XS.iloadN X521.here hx rfl (hb hby at_90) rfl ?_
      show own_S p e below m T521 91 #[lvI p0_, lvI p1_, lvI (3 : Int32), lvI z467, lvI z470, lvI z473, lvR b475, lvR b484, lvR b496, lvR b510, .unset, .unset, .unset, .unset, .unset, .unset, .unset, .unset, .unset, .unset] [(.int z467), (.ref b484), (.ref b475)] _
      refine st524.trans ?_
      refine XS.iloadN X524.here hx rfl (hb hby at_94) rfl ?_
      refine XS.iconst X524.here hx rfl (hb hby at_95) ?_
      show own_S p e below m T524 96 #[lvI p0_, lvI p1_, lvI (3 : Int32), lvI z467, lvI z470, lvI z473, lvR b475, lvR b484, lvR b496, lvR b510, .unset, .unset, .unset, .unset, .unset, .unset, .unset, .unset, .unset, .unset] [(.int (2 : Int32)), (.int (3 : Int32))] _
      refine XS.icmpNo X524.here hx rfl (hb hby at_96) rfl (flt (by decide : ¬ ((3 : Int32) < (2 : Int32)))).1 ?_
      refine XS.aload X524.here hx rfl (hb hby at_99) rfl rfl ?_
      refine XS.aload X524.here hx rfl (hb hby at_101) rfl rfl ?_
      refine XS.iload X524.here hx rfl (hb hby at_103) rfl ?_
      exact kt
    rcases hz470 with ⟨rfl, hj581⟩ | ⟨rfl, hj581⟩
    · have f583 : Exa Z h510 b496 cn0 := g507_0.ext E510
      have f584 : Exa Z h521 b496 cn0 := f583.keep K521
      have f585 : Exa Z h524 b496 cn0 := f584.keep K524
      have f586 : Fld Z h510 b496 cn0 "thread" "Ljava/lang/Thread;" .null := g507_1.ext E510
      have ne588 : b496 ≠ b510 := Nat.ne_of_lt (Nat.lt_of_lt_of_le g507_0.lt (Nat.le_of_eq g510.symm))
      have f587 : Fld Z h521 b496 cn0 "thread" "Ljava/lang/Thread;" .null := f586.keep K521 (ninS ne588 nin0)
      have f589 : Fld Z h524 b496 cn0 "thread" "Ljava/lang/Thread;" .null := f587.keep K524 (ninS (Ne.symm ne536) (ninS (Ne.symm ne558) nin0))
      have f590 : Fld Z h510 b496 cn0 "picked" "Z" (.int (0 : Int32)) := g507_2.ext E510
      have f591 : Fld Z h521 b496 cn0 "picked" "Z" (.int (0 : Int32)) := f590.keep K521 (ninS ne588 nin0)
      have f592 : Fld Z h524 b496 cn0 "picked" "Z" (.int (0 : Int32)) := f591.keep K524 (ninS (Ne.symm ne536) (ninS (Ne.symm ne558) nin0))
      have f593 : Fld Z h510 b496 cn0 "queued" "Z" (.int (0 : Int32)) := g507_3.ext E510
      have f594 : Fld Z h521 b496 cn0 "queued" "Z" (.int (0 : Int32)) := f593.keep K521 (ninS ne588 nin0)
      have f595 : Fld Z h524 b496 cn0 "queued" "Z" (.int (0 : Int32)) := f594.keep K524 (ninS (Ne.symm ne536) (ninS (Ne.symm ne558) nin0))
      have f596 : Fld Z h510 b496 cn0 "next" "Llatchwork/WaitQueue$Waiter;" .null := g507_4.ext E510
      have f597 : Fld Z h521 b496 cn0 "next" "Llatchwork/WaitQueue$Waiter;" .null := f596.keep K521 (ninS ne588 nin0)
      have f598 : Fld Z h524 b496 cn0 "next" "Llatchwork/WaitQueue$Waiter;" .null := f597.keep K524 (ninS (Ne.symm ne536) (ninS (Ne.symm ne558) nin0))
      have f599 : Fld Z h510 b496 cn0 "prev" "Llatchwork/WaitQueue$Waiter;" .null := g507_5.ext E510
      have f600 : Fld Z h521 b496 cn0 "prev" "Llatchwork/WaitQueue$Waiter;" .null := f599.keep K521 (ninS ne588 nin0)
      have f601 : Fld Z h524 b496 cn0 "prev" "Llatchwork/WaitQueue$Waiter;" .null := f600.keep K524 (ninS (Ne.symm ne536) (ninS (Ne.symm ne558) nin0))
      have f602 : Old Z n0 h524 := f578.keep K524 (allS (ge476) (allS (ge485) all0))
      obtain ⟨cq582, kq582, q582a, q582b, q582c⟩ := isOf hZ e524 g524_0
      obtain ⟨_, _, ⟨T582, L582, k582, n582⟩, -, X582, ⟨Lc582, hQ582, l582, y582, z582⟩, st582⟩ := X524.virtualBack hx (y := (⟨"latchwork/WaitQueue", "add", "(Llatchwork/WaitQueue$Waiter;Z)V"⟩ : MethodName)) (z := (⟨"latchwork/WaitQueue", "add", "(Llatchwork/WaitQueue$Waiter;Z)V"⟩ : MethodName)) hown (mvT hZ (own_w hw 41 rfl)) (mvT hZ (own_w hw 42 rfl)) (notFace_of_selects (args := #[]) (mvT hZ (own_w hw 44 rfl))) (mvT hZ (own_w hw 44 rfl)) (mvT hZ (own_w hw 43 rfl)) (by decide) (backOf (W := 0) (rmadd12 l Z a0 hw [] b475 b496 b484 h524 n0 f602 g524_0 g524_1 g524_2 g524_3 f585 f589 f592 f595 f598 f601 g524_4 g524_5 g524_6 g524_7 g524_8 g524_9 ge498 ne536 ne558 ge485 ne533 ge476) hZ (own_w hw 45 rfl) (own_w hw 2 rfl) (by decide) (by decide)) q582a q582c (g := (mkF m 105 #[lvI p0_, lvI p1_, lvI (3 : Int32), lvI z467, lvI (0 : Int32), lvI z473, lvR b475, lvR b484, lvR b496, lvR b510, .unset, .unset, .unset, .unset, .unset, .unset, .unset, .unset, .unset, .unset] [(.int (0 : Int32)), (.ref b496), (.ref b475)])) rfl (by rw [hml]; rfl) (Steps.refl _) (argsL := [(.ref b496), (.int (0 : Int32))]) (rest := []) (lenOf pd_5 rfl) rfl (by show 2 * 0 + _ ≤ _; exact Nat.le_of_eq rfl) (hb hby at_105) (fun _ _ => ⟨rfl, e524, (by decide : 4 + 0 ≤ _), (by decide : 28 + 0 ≤ _)⟩)
      dsimp only [Pt.U, Pt.locs, Pt.cells, Pt.slots] at X582 l582 y582 z582 st582 hQ582
      subst l582 y582 z582
      obtain ⟨h582, e582⟩ : ∃ z, T582.heap = z := ⟨_, rfl⟩
      rw [e582] at hQ582
      obtain ⟨rfl, N582q, K582, g582_0, g582_1, g582_2, g582_3, g582_4, g582_5, g582_6, g582_7, g582_8, g582_9, g582_10, g582_11, g582_12, g582_13, g582_14, g582_15⟩ := hQ582
      have N603 := Fr.app N579 N582q
      have pre604 : ∀ t, own_S p e below m T582 119 #[lvI p0_, lvI p1_, lvI (3 : Int32), lvI z467, lvI (0 : Int32), lvI z473, lvR b475, lvR b484, lvR b496, lvR b510, .unset, .unset, .unset, .unset, .unset, .unset, .unset, .unset, .unset, .unset] [(.int z473), (.ref b510), (.ref b475)] t → G t := by
        intro t kt
        refine pre580 t ?_
        show own_S p e below m T524 105 #[lvI p0_, lvI p1_, lvI (3 : Int32), lvI z467, lvI (0 : Int32), lvI z473, lvR b475, lvR b484, lvR b496, lvR b510, .unset, .unset, .unset, .unset, .unset, .unset, .unset, .unset, .unset, .unset] [(.int (0 : Int32)), (.ref b496), (.ref b475)] _
        refine st582.trans ?_
        refine XS.iloadN X582.here hx rfl (hb hby at_108) rfl ?_
        refine XS.iconst X582.here hx rfl (hb hby at_109) ?_
        show own_S p e below m T582 110 #[lvI p0_, lvI p1_, lvI (3 : Int32), lvI z467, lvI (0 : Int32), lvI z473, lvR b475, lvR b484, lvR b496, lvR b510, .unset, .unset, .unset, .unset, .unset, .unset, .unset, .unset, .unset, .unset] [(.int (3 : Int32)), (.int (3 : Int32))] _
        refine XS.icmpNo X582.here hx rfl (hb hby at_110) rfl (flt (by decide : ¬ ((3 : Int32) < (3 : Int32)))).1 ?_
        refine XS.aload X582.here hx rfl (hb hby at_113) rfl rfl ?_
        refine XS.aload X582.here hx rfl (hb hby at_115) rfl rfl ?_
        refine XS.iload X582.here hx rfl (hb hby at_117) rfl ?_
        exact kt
      rcases hz473 with ⟨rfl, hj605⟩ | ⟨rfl, hj605⟩
      · have f607 : Exa Z h524 b510 cn0 := g521_0.keep K524
        have f608 : Exa Z h582 b510 cn0 := f607.keep K582
        have f609 : Fld Z h524 b510 cn0 "thread" "Ljava/lang/Thread;" .null := g521_1.keep K524 (ninS (Ne.symm ne539) (ninS (Ne.symm ne561) nin0))
        have f610 : Fld Z h582 b510 cn0 "thread" "Ljava/lang/Thread;" .null := f609.keep K582 (ninS (Ne.symm ne588) (ninS (Ne.symm ne561) (ninS (Ne.symm ne539) nin0)))
        have f611 : Fld Z h524 b510 cn0 "picked" "Z" (.int (0 : Int32)) := g521_2.keep K524 (ninS (Ne.symm ne539) (ninS (Ne.symm ne561) nin0))
        have f612 : Fld Z h582 b510 cn0 "picked" "Z" (.int (0 : Int32)) := f611.keep K582 (ninS (Ne.symm ne588) (ninS (Ne.symm ne561) (ninS (Ne.symm ne539) nin0)))
        have f613 : Fld Z h524 b510 cn0 "queued" "Z" (.int (0 : Int32)) := g521_3.keep K524 (ninS (Ne.symm ne539) (ninS (Ne.symm ne561) nin0))
        have f614 : Fld Z h582 b510 cn0 "queued" "Z" (.int (0 : Int32)) := f613.keep K582 (ninS (Ne.symm ne588) (ninS (Ne.symm ne561) (ninS (Ne.symm ne539) nin0)))
        have f615 : Fld Z h524 b510 cn0 "next" "Llatchwork/WaitQueue$Waiter;" .null := g521_4.keep K524 (ninS (Ne.symm ne539) (ninS (Ne.symm ne561) nin0))
        have f616 : Fld Z h582 b510 cn0 "next" "Llatchwork/WaitQueue$Waiter;" .null := f615.keep K582 (ninS (Ne.symm ne588) (ninS (Ne.symm ne561) (ninS (Ne.symm ne539) nin0)))
        have f617 : Fld Z h524 b510 cn0 "prev" "Llatchwork/WaitQueue$Waiter;" .null := g521_5.keep K524 (ninS (Ne.symm ne539) (ninS (Ne.symm ne561) nin0))
        have f618 : Fld Z h582 b510 cn0 "prev" "Llatchwork/WaitQueue$Waiter;" .null := f617.keep K582 (ninS (Ne.symm ne588) (ninS (Ne.symm ne561) (ninS (Ne.symm ne539) nin0)))
        have f619 : Old Z n0 h582 := f602.keep K582 (allS (ge498) (allS (ge485) (allS (ge476) all0)))
        obtain ⟨cq606, kq606, q606a, q606b, q606c⟩ := isOf hZ e582 g582_0
        obtain ⟨_, _, ⟨T606, L606, k606, n606⟩, -, X606, ⟨Lc606, hQ606, l606, y606, z606⟩, st606⟩ := X582.virtualBack hx (y := (⟨"latchwork/WaitQueue", "add", "(Llatchwork/WaitQueue$Waiter;Z)V"⟩ : MethodName)) (z := (⟨"latchwork/WaitQueue", "add", "(Llatchwork/WaitQueue$Waiter;Z)V"⟩ : MethodName)) hown (mvT hZ (own_w hw 41 rfl)) (mvT hZ (own_w hw 42 rfl)) (notFace_of_selects (args := #[]) (mvT hZ (own_w hw 44 rfl))) (mvT hZ (own_w hw 44 rfl)) (mvT hZ (own_w hw 43 rfl)) (by decide) (backOf (W := 0) (rmadd18 l Z a0 hw [] b475 b510 b484 b496 h582 n0 f619 g582_0 g582_1 g582_2 g582_3 f608 f610 f612 f614 f616 f618 g582_10 g582_11 g582_12 g582_13 g582_14 g582_15 g582_4 g582_5 g582_6 g582_7 g582_8 g582_9 ge512 ne539 ne588 ge498 ne536 ge476) hZ (own_w hw 45 rfl) (own_w hw 2 rfl) (by decide) (by decide)) q606a q606c (g := (mkF m 119 #[lvI p0_, lvI p1_, lvI (3 : Int32), lvI z467, lvI (0 : Int32), lvI (0 : Int32), lvR b475, lvR b484, lvR b496, lvR b510, .unset, .unset, .unset, .unset, .unset, .unset, .unset, .unset, .unset, .unset] [(.int (0 : Int32)), (.ref b510), (.ref b475)])) rfl (by rw [hml]; rfl) (Steps.refl _) (argsL := [(.ref b510), (.int (0 : Int32))]) (rest := []) (lenOf pd_5 rfl) rfl (by show 2 * 0 + _ ≤ _; exact Nat.le_of_eq rfl) (hb hby at_119) (fun _ _ => ⟨rfl, e582, (by decide : 4 + 0 ≤ _), (by decide : 28 + 0 ≤ _)⟩)
        dsimp only [Pt.U, Pt.locs, Pt.cells, Pt.slots] at X606 l606 y606 z606 st606 hQ606
        subst l606 y606 z606
        obtain ⟨h606, e606⟩ : ∃ z, T606.heap = z := ⟨_, rfl⟩
        rw [e606] at hQ606
        obtain ⟨rfl, N606q, K606, g606_0, g606_1, g606_2, g606_3, g606_4, g606_5, g606_6, g606_7, g606_8, g606_9, g606_10, g606_11, g606_12, g606_13, g606_14, g606_15⟩ := hQ606
        have N620 := Fr.app N603 N606q
        have f622 : Exa Z h606 b484 cn0 := g582_10.keep K606
        have f623 : Fld Z h606 b484 cn0 "thread" "Ljava/lang/Thread;" .null := g582_11.keep K606 (ninS ne561 (ninS ne558 (ninS (Ne.symm ne533) nin0)))
        have f624 : Fld Z h606 b484 cn0 "picked" "Z" (.int (0 : Int32)) := g582_12.keep K606 (ninS ne561 (ninS ne558 (ninS (Ne.symm ne533) nin0)))
        have f625 : Fld Z h606 b484 cn0 "queued" "Z" (.int (1 : Int32)) := g582_13.keep K606 (ninS ne561 (ninS ne558 (ninS (Ne.symm ne533) nin0)))
        have f626 : Fld Z h606 b484 cn0 "next" "Llatchwork/WaitQueue$Waiter;" (.ref b496) := g582_14.keep K606 (ninS ne561 (ninS ne558 (ninS (Ne.symm ne533) nin0)))
        have f627 : Fld Z h606 b484 cn0 "prev" "Llatchwork/WaitQueue$Waiter;" .null := g582_15.keep K606 (ninS ne561 (ninS ne558 (ninS (Ne.symm ne533) nin0)))
        have f628 : Old Z n0 h606 := f619.keep K606 (allS (ge512) (allS (ge498) (allS (ge476) all0)))
        obtain ⟨cq621, kq621, q621a, q621b, q621c⟩ := isOf hZ e606 g606_0
        obtain ⟨_, _, ⟨T621, L621, k621, n621⟩, -, X621, ⟨Lc621, hQ621, l621, y621, z621⟩, st621⟩ := X606.virtualBack hx (y := (⟨"latchwork/WaitQueue", "poll", "()Llatchwork/WaitQueue$Waiter;"⟩ : MethodName)) (z := (⟨"latchwork/WaitQueue", "poll", "()Llatchwork/WaitQueue$Waiter;"⟩ : MethodName)) hown (mvT hZ (own_w hw 18 rfl)) (mvT hZ (own_w hw 19 rfl)) (notFace_of_selects (args := #[]) (mvT hZ (own_w hw 21 rfl))) (mvT hZ (own_w hw 21 rfl)) (mvT hZ (own_w hw 20 rfl)) (by decide) (backOf (W := 0) (rmpoll19 l Z a0 hw [] b475 b484 b510 b496 h606 n0 f628 g606_0 g606_1 g606_2 g606_3 f622 f623 f624 f625 f626 f627 g606_4 g606_5 g606_6 g606_7 g606_8 g606_9 g606_10 g606_11 g606_12 g606_13 g606_14 g606_15 ge476 (Ne.symm ne533) (Ne.symm ne536) ge498 ne558 ge485) hZ (own_w hw 22 rfl) (own_w hw 2 rfl) (by decide) (by decide)) q621a q621c (g := (mkF m 203 #[lvI p0_, lvI p1_, lvI (3 : Int32), lvI z467, lvI (0 : Int32), lvI (0 : Int32), lvR b475, lvR b484, lvR b496, lvR b510, lvR b484, lvR b496, lvR b510, .unset, .unset, .unset, .unset, .unset, .unset, .unset] [(.ref b475)])) rfl (by rw [hml]; rfl) (Steps.refl _) (argsL := []) (rest := []) (lenOf pd_2 rfl) rfl (by show 2 * 0 + _ ≤ _; exact Nat.le_of_eq rfl) (hb hby at_203) (fun _ _ => ⟨rfl, e606, (by decide : 4 + 0 ≤ _), (by decide : 28 + 0 ≤ _)⟩)
        dsimp only [Pt.U, Pt.locs, Pt.cells, Pt.slots] at X621 l621 y621 z621 st621 hQ621
        subst l621 y621 z621
        obtain ⟨h621, e621⟩ : ∃ z, T621.heap = z := ⟨_, rfl⟩
        rw [e621] at hQ621
        obtain ⟨rfl, N621q, K621, g621_0, g621_1, g621_2, g621_3, g621_4, g621_5, g621_6, g621_7, g621_8, g621_9, g621_10, g621_11, g621_12, g621_13, g621_14, g621_15⟩ := hQ621
        have N629 := Fr.app N620 N621q
        have f631 : Exa Z h621 b510 cn0 := g606_4.keep K621
        have f632 : Fld Z h621 b510 cn0 "thread" "Ljava/lang/Thread;" .null := g606_5.keep K621 (ninS (Ne.symm ne539) (ninS (Ne.symm ne588) (ninS (Ne.symm ne561) nin0)))
        have f633 : Fld Z h621 b510 cn0 "picked" "Z" (.int (0 : Int32)) := g606_6.keep K621 (ninS (Ne.symm ne539) (ninS (Ne.symm ne588) (ninS (Ne.symm ne561) nin0)))
        have f634 : Fld Z h621 b510 cn0 "queued" "Z" (.int (1 : Int32)) := g606_7.keep K621 (ninS (Ne.symm ne539) (ninS (Ne.symm ne588) (ninS (Ne.symm ne561) nin0)))
        have f635 : Fld Z h621 b510 cn0 "next" "Llatchwork/WaitQueue$Waiter;" .null := g606_8.keep K621 (ninS (Ne.symm ne539) (ninS (Ne.symm ne588) (ninS (Ne.symm ne561) nin0)))
        have f636 : Fld Z h621 b510 cn0 "prev" "Llatchwork/WaitQueue$Waiter;" (.ref b496) := g606_9.keep K621 (ninS (Ne.symm ne539) (ninS (Ne.symm ne588) (ninS (Ne.symm ne561) nin0)))
        have f637 : Old Z n0 h621 := f628.keep K621 (allS (ge476) (allS (ge498) (allS (ge485) all0)))
        obtain ⟨cq630, kq630, q630a, q630b, q630c⟩ := isOf hZ e621 g621_0
        obtain ⟨_, _, ⟨T630, L630, k630, n630⟩, -, X630, ⟨Lc630, hQ630, l630, y630, z630⟩, st630⟩ := X621.virtualBack hx (y := (⟨"latchwork/WaitQueue", "size", "()I"⟩ : MethodName)) (z := (⟨"latchwork/WaitQueue", "size", "()I"⟩ : MethodName)) hown (mvT hZ (own_w hw 25 rfl)) (mvT hZ (own_w hw 26 rfl)) (notFace_of_selects (args := #[]) (mvT hZ (own_w hw 28 rfl))) (mvT hZ (own_w hw 28 rfl)) (mvT hZ (own_w hw 27 rfl)) (by decide) (backOf (W := 0) (rmsize21 l Z a0 hw [] b475 b496 b510 h621 n0 f637 g621_0 g621_1 g621_2 g621_3 g621_10 g621_11 g621_12 g621_13 g621_14 g621_15 f631 f632 f633 f634 f635 f636) hZ (own_w hw 29 rfl) (own_w hw 2 rfl) (by decide) (by decide)) q630a q630c (g := (mkF m 210 #[lvI p0_, lvI p1_, lvI (3 : Int32), lvI z467, lvI (0 : Int32), lvI (0 : Int32), lvR b475, lvR b484, lvR b496, lvR b510, lvR b484, lvR b496, lvR b510, lvR b484, .unset, .unset, .unset, .unset, .unset, .unset] [(.ref b475)])) rfl (by rw [hml]; rfl) (Steps.refl _) (argsL := []) (rest := []) (lenOf pd_3 rfl) rfl (by show 2 * 0 + _ ≤ _; exact Nat.le_of_eq rfl) (hb hby at_210) (fun _ _ => ⟨rfl, e621, (by decide : 4 + 0 ≤ _), (by decide : 28 + 0 ≤ _)⟩)
        dsimp only [Pt.U, Pt.locs, Pt.cells, Pt.slots] at X630 l630 y630 z630 st630 hQ630
        subst l630 y630 z630
        obtain ⟨h630, e630⟩ : ∃ z, T630.heap = z := ⟨_, rfl⟩
        rw [e630] at hQ630
        obtain ⟨rfl, N630q, hh630⟩ := hQ630
        have N638 := Fr.app N629 N630q
        have e630' : T630.heap = h621 := e630.trans hh630
        obtain ⟨cq639, kq639, q639a, q639b, q639c⟩ := isOf hZ e630' g621_0
        obtain ⟨_, _, ⟨T639, L639, k639, n639⟩, -, X639, ⟨Lc639, hQ639, l639, y639, z639⟩, st639⟩ := X630.virtualBack hx (y := (⟨"latchwork/WaitQueue", "poll", "()Llatchwork/WaitQueue$Waiter;"⟩ : MethodName)) (z := (⟨"latchwork/WaitQueue", "poll", "()Llatchwork/WaitQueue$Waiter;"⟩ : MethodName)) hown (mvT hZ (own_w hw 18 rfl)) (mvT hZ (own_w hw 19 rfl)) (notFace_of_selects (args := #[]) (mvT hZ (own_w hw 21 rfl))) (mvT hZ (own_w hw 21 rfl)) (mvT hZ (own_w hw 20 rfl)) (by decide) (backOf (W := 0) (rmpoll13 l Z a0 hw [] b475 b496 b510 h621 n0 f637 g621_0 g621_1 g621_2 g621_3 g621_10 g621_11 g621_12 g621_13 g621_14 g621_15 f631 f632 f633 f634 f635 f636 ge476 (Ne.symm ne536) (Ne.symm ne539) ge512 ne588 ge498) hZ (own_w hw 22 rfl) (own_w hw 2 rfl) (by decide) (by decide)) q639a q639c (g := (mkF m 217 #[lvI p0_, lvI p1_, lvI (3 : Int32), lvI z467, lvI (0 : Int32), lvI (0 : Int32), lvR b475, lvR b484, lvR b496, lvR b510, lvR b484, lvR b496, lvR b510, lvR b484, lvI (2 : Int32), .unset, .unset, .unset, .unset, .unset] [(.ref b475)])) rfl (by rw [hml]; rfl) (Steps.refl _) (argsL := []) (rest := []) (lenOf pd_2 rfl) rfl (by show 2 * 0 + _ ≤ _; exact Nat.le_of_eq rfl) (hb hby at_217) (fun _ _ => ⟨rfl, e630', (by decide : 4 + 0 ≤ _), (by decide : 28 + 0 ≤ _)⟩)
        dsimp only [Pt.U, Pt.locs, Pt.cells, Pt.slots] at X639 l639 y639 z639 st639 hQ639
        subst l639 y639 z639
        obtain ⟨h639, e639⟩ : ∃ z, T639.heap = z := ⟨_, rfl⟩
        rw [e639] at hQ639
        obtain ⟨rfl, N639q, K639, g639_0, g639_1, g639_2, g639_3, g639_4, g639_5, g639_6, g639_7, g639_8, g639_9, g639_10, g639_11, g639_12, g639_13, g639_14, g639_15⟩ := hQ639
        have N640 := Fr.app N638 N639q
        have f642 : Old Z n0 h639 := f637.keep K639 (allS (ge476) (allS (ge512) (allS (ge498) all0)))
        obtain ⟨cq641, kq641, q641a, q641b, q641c⟩ := isOf hZ e639 g639_0
        obtain ⟨_, _, ⟨T641, L641, k641, n641⟩, -, X641, ⟨Lc641, hQ641, l641, y641, z641⟩, st641⟩ := X639.virtualBack hx (y := (⟨"latchwork/WaitQueue", "poll", "()Llatchwork/WaitQueue$Waiter;"⟩ : MethodName)) (z := (⟨"latchwork/WaitQueue", "poll", "()Llatchwork/WaitQueue$Waiter;"⟩ : MethodName)) hown (mvT hZ (own_w hw 18 rfl)) (mvT hZ (own_w hw 19 rfl)) (notFace_of_selects (args := #[]) (mvT hZ (own_w hw 21 rfl))) (mvT hZ (own_w hw 21 rfl)) (mvT hZ (own_w hw 20 rfl)) (by decide) (backOf (W := 0) (rmpoll8 l Z a0 hw [] b475 b510 h639 n0 f642 g639_0 g639_1 g639_2 g639_3 g639_10 g639_11 g639_12 g639_13 g639_14 g639_15 ge476 (Ne.symm ne539) ge512) hZ (own_w hw 22 rfl) (own_w hw 2 rfl) (by decide) (by decide)) q641a q641c (g := (mkF m 224 #[lvI p0_, lvI p1_, lvI (3 : Int32), lvI z467, lvI (0 : Int32), lvI (0 : Int32), lvR b475, lvR b484, lvR b496, lvR b510, lvR b484, lvR b496, lvR b510, lvR b484, lvI (2 : Int32), lvR b496, .unset, .unset, .unset, .unset] [(.ref b475)])) rfl (by rw [hml]; rfl) (Steps.refl _) (argsL := []) (rest := []) (lenOf pd_2 rfl) rfl (by show 2 * 0 + _ ≤ _; exact Nat.le_of_eq rfl) (hb hby at_224) (fun _ _ => ⟨rfl, e639, (by decide : 4 + 0 ≤ _), (by decide : 28 + 0 ≤ _)⟩)
        dsimp only [Pt.U, Pt.locs, Pt.cells, Pt.slots] at X641 l641 y641 z641 st641 hQ641
        subst l641 y641 z641
        obtain ⟨h641, e641⟩ : ∃ z, T641.heap = z := ⟨_, rfl⟩
        rw [e641] at hQ641
        obtain ⟨rfl, N641q, K641, g641_0, g641_1, g641_2, g641_3, g641_4, g641_5, g641_6, g641_7, g641_8, g641_9⟩ := hQ641
        have N643 := Fr.app N640 N641q
        have f645 : Old Z n0 h641 := f642.keep K641 (allS (ge476) (allS (ge512) all0))
        obtain ⟨cq644, kq644, q644a, q644b, q644c⟩ := isOf hZ e641 g641_0
        obtain ⟨_, _, ⟨T644, L644, k644, n644⟩, -, X644, ⟨Lc644, hQ644, l644, y644, z644⟩, st644⟩ := X641.virtualBack hx (y := (⟨"latchwork/WaitQueue", "poll", "()Llatchwork/WaitQueue$Waiter;"⟩ : MethodName)) (z := (⟨"latchwork/WaitQueue", "poll", "()Llatchwork/WaitQueue$Waiter;"⟩ : MethodName)) hown (mvT hZ (own_w hw 18 rfl)) (mvT hZ (own_w hw 19 rfl)) (notFace_of_selects (args := #[]) (mvT hZ (own_w hw 21 rfl))) (mvT hZ (own_w hw 21 rfl)) (mvT hZ (own_w hw 20 rfl)) (by decide) (backOf (W := 0) (rmpoll3 l Z a0 hw [] b475 h641 n0 f645 g641_0 g641_1 g641_2 g641_3) hZ (own_w hw 22 rfl) (own_w hw 2 rfl) (by decide) (by decide)) q644a q644c (g := (mkF m 231 #[lvI p0_, lvI p1_, lvI (3 : Int32), lvI z467, lvI (0 : Int32), lvI (0 : Int32), lvR b475, lvR b484, lvR b496, lvR b510, lvR b484, lvR b496, lvR b510, lvR b484, lvI (2 : Int32), lvR b496, lvR b510, .unset, .unset, .unset] [(.ref b475)])) rfl (by rw [hml]; rfl) (Steps.refl _) (argsL := []) (rest := []) (lenOf pd_2 rfl) rfl (by show 2 * 0 + _ ≤ _; exact Nat.le_of_eq rfl) (hb hby at_231) (fun _ _ => ⟨rfl, e641, (by decide : 4 + 0 ≤ _), (by decide : 28 + 0 ≤ _)⟩)
        dsimp only [Pt.U, Pt.locs, Pt.cells, Pt.slots] at X644 l644 y644 z644 st644 hQ644
        subst l644 y644 z644
        obtain ⟨h644, e644⟩ : ∃ z, T644.heap = z := ⟨_, rfl⟩
        rw [e644] at hQ644
        obtain ⟨rfl, N644q, hh644⟩ := hQ644
        have N646 := Fr.app N643 N644q
        have e644' : T644.heap = h641 := e644.trans hh644
        obtain ⟨cq647, kq647, q647a, q647b, q647c⟩ := isOf hZ e644' g641_0
        obtain ⟨_, _, ⟨T647, L647, k647, n647⟩, -, X647, ⟨Lc647, hQ647, l647, y647, z647⟩, st647⟩ := X644.virtualBack hx (y := (⟨"latchwork/WaitQueue", "size", "()I"⟩ : MethodName)) (z := (⟨"latchwork/WaitQueue", "size", "()I"⟩ : MethodName)) hown (mvT hZ (own_w hw 25 rfl)) (mvT hZ (own_w hw 26 rfl)) (notFace_of_selects (args := #[]) (mvT hZ (own_w hw 28 rfl))) (mvT hZ (own_w hw 28 rfl)) (mvT hZ (own_w hw 27 rfl)) (by decide) (backOf (W := 0) (rmsize4 l Z a0 hw [] b475 h641 n0 f645 g641_0 g641_1 g641_2 g641_3) hZ (own_w hw 29 rfl) (own_w hw 2 rfl) (by decide) (by decide)) q647a q647c (g := (mkF m 238 #[lvI p0_, lvI p1_, lvI (3 : Int32), lvI z467, lvI (0 : Int32), lvI (0 : Int32), lvR b475, lvR b484, lvR b496, lvR b510, lvR b484, lvR b496, lvR b510, lvR b484, lvI (2 : Int32), lvR b496, lvR b510, .val .null, .unset, .unset] [(.ref b475)])) rfl (by rw [hml]; rfl) (Steps.refl _) (argsL := []) (rest := []) (lenOf pd_3 rfl) rfl (by show 2 * 0 + _ ≤ _; exact Nat.le_of_eq rfl) (hb hby at_238) (fun _ _ => ⟨rfl, e644', (by decide : 4 + 0 ≤ _), (by decide : 28 + 0 ≤ _)⟩)
        dsimp only [Pt.U, Pt.locs, Pt.cells, Pt.slots] at X647 l647 y647 z647 st647 hQ647
        subst l647 y647 z647
        obtain ⟨h647, e647⟩ : ∃ z, T647.heap = z := ⟨_, rfl⟩
        rw [e647] at hQ647
        obtain ⟨rfl, N647q, hh647⟩ := hQ647
        have N648 := Fr.app N646 N647q
        have e647' : T647.heap = h641 := e647.trans hh647
        obtain ⟨_, _, ⟨T649, L649, k649, n649⟩, -, X649, ⟨Lc649, hQ649, l649, y649, z649⟩, st649⟩ := Jvm.LawKit.callS X647 hx (y := (⟨"java/lang/Math", "max", "(II)I"⟩ : MethodName)) hown (mvT hZ (own_w hw 32 rfl)) (mvT hZ (own_w hw 33 rfl)) (mvT hZ (own_w hw 34 rfl)) (mvT hZ (own_w hw 35 rfl)) (by decide) (backOf (W := 1) (rmmax22 l Z a0 hw []  h641 n0 f645 ) hZ (own_w hw 35 rfl) (own_w hw 34 rfl) (by decide) (by decide)) (g := (mkF m 287 #[lvI p0_, lvI p1_, lvI (3 : Int32), lvI z467, lvI (0 : Int32), lvI (0 : Int32), lvR b475, lvR b484, lvR b496, lvR b510, lvR b484, lvR b496, lvR b510, lvR b484, lvI (2 : Int32), lvR b496, lvR b510, .val .null, lvI (0 : Int32), lvI (1 : Int32)] [(.int (0 : Int32)), (.int (2 : Int32)), (.int (2 : Int32))])) rfl (by rw [hml]; rfl) (argsL := [(.int (2 : Int32)), (.int (0 : Int32))]) (rest := [(.int (2 : Int32))]) (lenOf pd_4 rfl) rfl (by show 2 * 0 + _ ≤ _; exact Nat.le_of_eq rfl) (hb hby at_287) (fun _ _ => ⟨rfl, e647', (by decide : 4 + 0 ≤ _), (by decide : 28 + 0 ≤ _)⟩)
        dsimp only [Pt.U, Pt.locs, Pt.cells, Pt.slots] at X649 l649 y649 z649 st649 hQ649
        subst l649 y649 z649
        obtain ⟨h649, e649⟩ : ∃ z, T649.heap = z := ⟨_, rfl⟩
        rw [e649] at hQ649
        obtain ⟨rfl, N649q, hh649⟩ := hQ649
        have N650 := Fr.app N648 N649q
        have e649' : T649.heap = h641 := e649.trans hh649
        obtain ⟨cq651, kq651, q651a, q651b, q651c⟩ := isOf hZ e649' g641_0
        obtain ⟨_, _, ⟨T651, L651, k651, n651⟩, -, X651, ⟨Lc651, hQ651, l651, y651, z651⟩, st651⟩ := X649.virtualBack hx (y := (⟨"latchwork/WaitQueue", "first", "()Llatchwork/WaitQueue$Waiter;"⟩ : MethodName)) (z := (⟨"latchwork/WaitQueue", "first", "()Llatchwork/WaitQueue$Waiter;"⟩ : MethodName)) hown (mvT hZ (own_w hw 36 rfl)) (mvT hZ (own_w hw 37 rfl)) (notFace_of_selects (args := #[]) (mvT hZ (own_w hw 39 rfl))) (mvT hZ (own_w hw 39 rfl)) (mvT hZ (own_w hw 38 rfl)) (by decide) (backOf (W := 0) (rmfirst6 l Z a0 hw [] b475 h641 n0 f645 g641_0 g641_1 g641_2 g641_3) hZ (own_w hw 40 rfl) (own_w hw 2 rfl) (by decide) (by decide)) q651a q651c (g := (mkF m 300 #[lvI p0_, lvI p1_, lvI (3 : Int32), lvI z467, lvI (0 : Int32), lvI (0 : Int32), lvR b475, lvR b484, lvR b496, lvR b510, lvR b484, lvR b496, lvR b510, lvR b484, lvI (2 : Int32), lvR b496, lvR b510, .val .null, lvI (0 : Int32), lvI (1 : Int32)] [(.ref b475)])) rfl (by rw [hml]; rfl) (Steps.refl _) (argsL := []) (rest := []) (lenOf pd_2 rfl) rfl (by show 2 * 0 + _ ≤ _; exact Nat.le_of_eq rfl) (hb hby at_300) (fun _ _ => ⟨rfl, e649', (by decide : 4 + 0 ≤ _), (by decide : 28 + 0 ≤ _)⟩)
        dsimp only [Pt.U, Pt.locs, Pt.cells, Pt.slots] at X651 l651 y651 z651 st651 hQ651
        subst l651 y651 z651
        obtain ⟨h651, e651⟩ : ∃ z, T651.heap = z := ⟨_, rfl⟩
        rw [e651] at hQ651
        obtain ⟨rfl, N651q, hh651⟩ := hQ651
        have N652 := Fr.app N650 N651q
        have e651' : T651.heap = h641 := e651.trans hh651
        have f654 : Exa Z h639 b484 cn0 := g621_4.keep K639
        have f655 : Exa Z h641 b484 cn0 := f654.keep K641
        have f656 : Fld Z h639 b484 cn0 "thread" "Ljava/lang/Thread;" .null := g621_5.keep K639 (ninS (Ne.symm ne533) (ninS ne561 (ninS ne558 nin0)))
        have f657 : Fld Z h641 b484 cn0 "thread" "Ljava/lang/Thread;" .null := f656.keep K641 (ninS (Ne.symm ne533) (ninS ne561 nin0))
        have f658 : Fld Z h639 b484 cn0 "picked" "Z" (.int (0 : Int32)) := g621_6.keep K639 (ninS (Ne.symm ne533) (ninS ne561 (ninS ne558 nin0)))
        have f659 : Fld Z h641 b484 cn0 "picked" "Z" (.int (0 : Int32)) := f658.keep K641 (ninS (Ne.symm ne533) (ninS ne561 nin0))
        have f660 : Fld Z h639 b484 cn0 "queued" "Z" (.int (0 : Int32)) := g621_7.keep K639 (ninS (Ne.symm ne533) (ninS ne561 (ninS ne558 nin0)))
        have f661 : Fld Z h641 b484 cn0 "queued" "Z" (.int (0 : Int32)) := f660.keep K641 (ninS (Ne.symm ne533) (ninS ne561 nin0))
        have f662 : Fld Z h639 b484 cn0 "next" "Llatchwork/WaitQueue$Waiter;" .null := g621_8.keep K639 (ninS (Ne.symm ne533) (ninS ne561 (ninS ne558 nin0)))
        have f663 : Fld Z h641 b484 cn0 "next" "Llatchwork/WaitQueue$Waiter;" .null := f662.keep K641 (ninS (Ne.symm ne533) (ninS ne561 nin0))
        have f664 : Fld Z h639 b484 cn0 "prev" "Llatchwork/WaitQueue$Waiter;" .null := g621_9.keep K639 (ninS (Ne.symm ne533) (ninS ne561 (ninS ne558 nin0)))
        have f665 : Fld Z h641 b484 cn0 "prev" "Llatchwork/WaitQueue$Waiter;" .null := f664.keep K641 (ninS (Ne.symm ne533) (ninS ne561 nin0))
        obtain ⟨cq653, kq653, q653a, q653b, q653c⟩ := isOf hZ e651' f655
        obtain ⟨_, _, ⟨T653, L653, k653, n653⟩, -, X653, ⟨Lc653, hQ653, l653, y653, z653⟩, st653⟩ := X651.virtualBack hx (y := (⟨"latchwork/WaitQueue$Waiter", "isQueued", "()Z"⟩ : MethodName)) (z := (⟨"latchwork/WaitQueue$Waiter", "isQueued", "()Z"⟩ : MethodName)) hown (mvT hZ (own_w hw 61 rfl)) (mvT hZ (own_w hw 62 rfl)) (notFace_of_selects (args := #[]) (mvT hZ (own_w hw 64 rfl))) (mvT hZ (own_w hw 64 rfl)) (mvT hZ (own_w hw 63 rfl)) (by decide) (backOf (W := 0) (rmisQueued11 l Z a0 hw [] b484 h641 n0 f645 f655 f657 f659 f661 f663 f665) hZ (own_w hw 65 rfl) (own_w hw 11 rfl) (by decide) (by decide)) q653a q653c (g := (mkF m 325 #[lvI p0_, lvI p1_, lvI (3 : Int32), lvI z467, lvI (0 : Int32), lvI (0 : Int32), lvR b475, lvR b484, lvR b496, lvR b510, lvR b484, lvR b496, lvR b510, lvR b484, lvI (2 : Int32), lvR b496, lvR b510, .val .null, lvI (0 : Int32), lvI (1 : Int32)] [(.ref b484)])) rfl (by rw [hml]; rfl) (Steps.refl _) (argsL := []) (rest := []) (lenOf pd_7 rfl) rfl (by show 2 * 0 + _ ≤ _; exact Nat.le_of_eq rfl) (hb hby at_325) (fun _ _ => ⟨rfl, e651', (by decide : 4 + 0 ≤ _), (by decide : 28 + 0 ≤ _)⟩)
        dsimp only [Pt.U, Pt.locs, Pt.cells, Pt.slots] at X653 l653 y653 z653 st653 hQ653
        subst l653 y653 z653
        obtain ⟨h653, e653⟩ : ∃ z, T653.heap = z := ⟨_, rfl⟩
        rw [e653] at hQ653
        obtain ⟨rfl, N653q, hh653⟩ := hQ653
        have N666 := Fr.app N652 N653q
        have e653' : T653.heap = h641 := e653.trans hh653
        have pre667 : ∀ t, own_S p e below m T653 340 #[lvI p0_, lvI p1_, lvI (3 : Int32), lvI z467, lvI (0 : Int32), lvI (0 : Int32), lvR b475, lvR b484, lvR b496, lvR b510, lvR b484, lvR b496, lvR b510, lvR b484, lvI (2 : Int32), lvR b496, lvR b510, .val .null, lvI (0 : Int32), lvI (1 : Int32)] [(.int (1 : Int32))] t → G t := by
          intro t kt
          refine pre604 t ?_
          show own_S p e below m T582 119 #[lvI p0_, lvI p1_, lvI (3 : Int32), lvI z467, lvI (0 : Int32), lvI (0 : Int32), lvR b475, lvR b484, lvR b496, lvR b510, .unset, .unset, .unset, .unset, .unset, .unset, .unset, .unset, .unset, .unset] [(.int (0 : Int32)), (.ref b510), (.ref b475)] _
          refine st606.trans ?_
          refine XS.aconstNull X606.here hx rfl (hb hby at_122) ?_
          refine XS.astore X606.here hx rfl (hb hby at_123) rfl rfl (l' := #[lvI p0_, lvI p1_, lvI (3 : Int32), lvI z467, lvI (0 : Int32), lvI (0 : Int32), lvR b475, lvR b484, lvR b496, lvR b510, .val .null, .unset, .unset, .unset, .unset, .unset, .unset, .unset, .unset, .unset]) rfl ?_
          refine XS.aconstNull X606.here hx rfl (hb hby at_125) ?_
          show own_S p e below m T606 126 #[lvI p0_, lvI p1_, lvI (3 : Int32), lvI z467, lvI (0 : Int32), lvI (0 : Int32), lvR b475, lvR b484, lvR b496, lvR b510, .val .null, .unset, .unset, .unset, .unset, .unset, .unset, .unset, .unset, .unset] [.null] _
          refine XS.astore X606.here hx rfl (hb hby at_126) rfl rfl (l' := #[lvI p0_, lvI p1_, lvI (3 : Int32), lvI z467, lvI (0 : Int32), lvI (0 : Int32), lvR b475, lvR b484, lvR b496, lvR b510, .val .null, .val .null, .unset, .unset, .unset, .unset, .unset, .unset, .unset, .unset]) rfl ?_
          refine XS.aconstNull X606.here hx rfl (hb hby at_128) ?_
          refine XS.astore X606.here hx rfl (hb hby at_129) rfl rfl (l' := #[lvI p0_, lvI p1_, lvI (3 : Int32), lvI z467, lvI (0 : Int32), lvI (0 : Int32), lvR b475, lvR b484, lvR b496, lvR b510, .val .null, .val .null, .val .null, .unset, .unset, .unset, .unset, .unset, .unset, .unset]) rfl ?_
          refine XS.iloadN X606.here hx rfl (hb hby at_131) rfl ?_
          show own_S p e below m T606 132 #[lvI p0_, lvI p1_, lvI (3 : Int32), lvI z467, lvI (0 : Int32), lvI (0 : Int32), lvR b475, lvR b484, lvR b496, lvR b510, .val .null, .val .null, .val .null, .unset, .unset, .unset, .unset, .unset, .unset, .unset] [(.int (3 : Int32))] _
          refine XS.iconst X606.here hx rfl (hb hby at_132) ?_
          show own_S p e below m T606 133 #[lvI p0_, lvI p1_, lvI (3 : Int32), lvI z467, lvI (0 : Int32), lvI (0 : Int32), lvR b475, lvR b484, lvR b496, lvR b510, .val .null, .val .null, .val .null, .unset, .unset, .unset, .unset, .unset, .unset, .unset] [(.int (1 : Int32)), (.int (3 : Int32))] _
          refine XS.icmpYes X606.here hx rfl (pc0 := 133) (pc' := 143) rfl (hb hby at_133) rfl (feq (by decide : ¬ ((3 : Int32) = (1 : Int32)))).2 (by decide) (by decide) ?_
          refine XS.iloadN X606.here hx rfl (hb hby at_143) rfl ?_
          refine XS.iconst X606.here hx rfl (hb hby at_144) ?_
          show own_S p e below m T606 145 #[lvI p0_, lvI p1_, lvI (3 : Int32), lvI z467, lvI (0 : Int32), lvI (0 : Int32), lvR b475, lvR b484, lvR b496, lvR b510, .val .null, .val .null, .val .null, .unset, .unset, .unset, .unset, .unset, .unset, .unset] [(.int (2 : Int32)), (.int (3 : Int32))] _
          refine XS.icmpNo X606.here hx rfl (hb hby at_145) rfl (flt (by decide : ¬ ((3 : Int32) < (2 : Int32)))).1 ?_
          refine XS.iload X606.here hx rfl (hb hby at_148) rfl ?_
          show own_S p e below m T606 150 #[lvI p0_, lvI p1_, lvI (3 : Int32), lvI z467, lvI (0 : Int32), lvI (0 : Int32), lvR b475, lvR b484, lvR b496, lvR b510, .val .null, .val .null, .val .null, .unset, .unset, .unset, .unset, .unset, .unset, .unset] [(.int (0 : Int32))] _
          refine XS.ifYes X606.here hx rfl (pc0 := 150) (pc' := 164) rfl (hb hby at_150) rfl ((if0 _ _).trans (teq (by decide : (0 : Int32) = (0 : Int32))).1) (by decide) (by decide) ?_
          refine XS.aload X606.here hx rfl (hb hby at_164) rfl rfl ?_
          refine XS.astore X606.here hx rfl (hb hby at_166) rfl rfl (l' := #[lvI p0_, lvI p1_, lvI (3 : Int32), lvI z467, lvI (0 : Int32), lvI (0 : Int32), lvR b475, lvR b484, lvR b496, lvR b510, lvR b484, .val .null, .val .null, .unset, .unset, .unset, .unset, .unset, .unset, .unset]) rfl ?_
          refine XS.aload X606.here hx rfl (hb hby at_168) rfl rfl ?_
          show own_S p e below m T606 170 #[lvI p0_, lvI p1_, lvI (3 : Int32), lvI z467, lvI (0 : Int32), lvI (0 : Int32), lvR b475, lvR b484, lvR b496, lvR b510, lvR b484, .val .null, .val .null, .unset, .unset, .unset, .unset, .unset, .unset, .unset] [(.ref b496)] _
          refine XS.astore X606.here hx rfl (hb hby at_170) rfl rfl (l' := #[lvI p0_, lvI p1_, lvI (3 : Int32), lvI z467, lvI (0 : Int32), lvI (0 : Int32), lvR b475, lvR b484, lvR b496, lvR b510, lvR b484, lvR b496, .val .null, .unset, .unset, .unset, .unset, .unset, .unset, .unset]) rfl ?_
          refine XS.iloadN X606.here hx rfl (hb hby at_172) rfl ?_
          refine XS.iconst X606.here hx rfl (hb hby at_173) ?_
          show own_S p e below m T606 174 #[lvI p0_, lvI p1_, lvI (3 : Int32), lvI z467, lvI (0 : Int32), lvI (0 : Int32), lvR b475, lvR b484, lvR b496, lvR b510, lvR b484, lvR b496, .val .null, .unset, .unset, .unset, .unset, .unset, .unset, .unset] [(.int (3 : Int32)), (.int (3 : Int32))] _
          refine XS.icmpNo X606.here hx rfl (hb hby at_174) rfl (teq (by decide : (3 : Int32) = (3 : Int32))).2 ?_
          refine XS.iload X606.here hx rfl (hb hby at_177) rfl ?_
          show own_S p e below m T606 179 #[lvI p0_, lvI p1_, lvI (3 : Int32), lvI z467, lvI (0 : Int32), lvI (0 : Int32), lvR b475, lvR b484, lvR b496, lvR b510, lvR b484, lvR b496, .val .null, .unset, .unset, .unset, .unset, .unset, .unset, .unset] [(.int (0 : Int32))] _
          refine XS.ifYes X606.here hx rfl (pc0 := 179) (pc' := 197) rfl (hb hby at_179) rfl ((if0 _ _).trans (teq (by decide : (0 : Int32) = (0 : Int32))).1) (by decide) (by decide) ?_
          refine XS.aload X606.here hx rfl (hb hby at_197) rfl rfl ?_
          refine XS.astore X606.here hx rfl (hb hby at_199) rfl rfl (l' := #[lvI p0_, lvI p1_, lvI (3 : Int32), lvI z467, lvI (0 : Int32), lvI (0 : Int32), lvR b475, lvR b484, lvR b496, lvR b510, lvR b484, lvR b496, lvR b510, .unset, .unset, .unset, .unset, .unset, .unset, .unset]) rfl ?_
          refine XS.aload X606.here hx rfl (hb hby at_201) rfl rfl ?_
          show own_S p e below m T606 203 #[lvI p0_, lvI p1_, lvI (3 : Int32), lvI z467, lvI (0 : Int32), lvI (0 : Int32), lvR b475, lvR b484, lvR b496, lvR b510, lvR b484, lvR b496, lvR b510, .unset, .unset, .unset, .unset, .unset, .unset, .unset] [(.ref b475)] _
          refine st621.trans ?_
          refine XS.astore X621.here hx rfl (hb hby at_206) rfl rfl (l' := #[lvI p0_, lvI p1_, lvI (3 : Int32), lvI z467, lvI (0 : Int32), lvI (0 : Int32), lvR b475, lvR b484, lvR b496, lvR b510, lvR b484, lvR b496, lvR b510, lvR b484, .unset, .unset, .unset, .unset, .unset, .unset]) rfl ?_
          refine XS.aload X621.here hx rfl (hb hby at_208) rfl rfl ?_
          show own_S p e below m T621 210 #[lvI p0_, lvI p1_, lvI (3 : Int32), lvI z467, lvI (0 : Int32), lvI (0 : Int32), lvR b475, lvR b484, lvR b496, lvR b510, lvR b484, lvR b496, lvR b510, lvR b484, .unset, .unset, .unset, .unset, .unset, .unset] [(.ref b475)] _
          refine st630.trans ?_
          refine XS.istore X630.here hx rfl (hb hby at_213) rfl (l' := #[lvI p0_, lvI p1_, lvI (3 : Int32), lvI z467, lvI (0 : Int32), lvI (0 : Int32), lvR b475, lvR b484, lvR b496, lvR b510, lvR b484, lvR b496, lvR b510, lvR b484, lvI (2 : Int32), .unset, .unset, .unset, .unset, .unset]) rfl ?_
          refine XS.aload X630.here hx rfl (hb hby at_215) rfl rfl ?_
          show own_S p e below m T630 217 #[lvI p0_, lvI p1_, lvI (3 : Int32), lvI z467, lvI (0 : Int32), lvI (0 : Int32), lvR b475, lvR b484, lvR b496, lvR b510, lvR b484, lvR b496, lvR b510, lvR b484, lvI (2 : Int32), .unset, .unset, .unset, .unset, .unset] [(.ref b475)] _
          refine st639.trans ?_
          refine XS.astore X639.here hx rfl (hb hby at_220) rfl rfl (l' := #[lvI p0_, lvI p1_, lvI (3 : Int32), lvI z467, lvI (0 : Int32), lvI (0 : Int32), lvR b475, lvR b484, lvR b496, lvR b510, lvR b484, lvR b496, lvR b510, lvR b484, lvI (2 : Int32), lvR b496, .unset, .unset, .unset, .unset]) rfl ?_
          refine XS.aload X639.here hx rfl (hb hby at_222) rfl rfl ?_
          show own_S p e below m T639 224 #[lvI p0_, lvI p1_, lvI (3 : Int32), lvI z467, lvI (0 : Int32), lvI (0 : Int32), lvR b475, lvR b484, lvR b496, lvR b510, lvR b484, lvR b496, lvR b510, lvR b484, lvI (2 : Int32), lvR b496, .unset, .unset, .unset, .unset] [(.ref b475)] _
          refine st641.trans ?_
          refine XS.astore X641.here hx rfl (hb hby at_227) rfl rfl (l' := #[lvI p0_, lvI p1_, lvI (3 : Int32), lvI z467, lvI (0 : Int32), lvI (0 : Int32), lvR b475, lvR b484, lvR b496, lvR b510, lvR b484, lvR b496, lvR b510, lvR b484, lvI (2 : Int32), lvR b496, lvR b510, .unset, .unset, .unset]) rfl ?_
          refine XS.aload X641.here hx rfl (hb hby at_229) rfl rfl ?_
          show own_S p e below m T641 231 #[lvI p0_, lvI p1_, lvI (3 : Int32), lvI z467, lvI (0 : Int32), lvI (0 : Int32), lvR b475, lvR b484, lvR b496, lvR b510, lvR b484, lvR b496, lvR b510, lvR b484, lvI (2 : Int32), lvR b496, lvR b510, .unset, .unset, .unset] [(.ref b475)] _
          refine st644.trans ?_
          refine XS.astore X644.here hx rfl (hb hby at_234) rfl rfl (l' := #[lvI p0_, lvI p1_, lvI (3 : Int32), lvI z467, lvI (0 : Int32), lvI (0 : Int32), lvR b475, lvR b484, lvR b496, lvR b510, lvR b484, lvR b496, lvR b510, lvR b484, lvI (2 : Int32), lvR b496, lvR b510, .val .null, .unset, .unset]) rfl ?_
          refine XS.aload X644.here hx rfl (hb hby at_236) rfl rfl ?_
          show own_S p e below m T644 238 #[lvI p0_, lvI p1_, lvI (3 : Int32), lvI z467, lvI (0 : Int32), lvI (0 : Int32), lvR b475, lvR b484, lvR b496, lvR b510, lvR b484, lvR b496, lvR b510, lvR b484, lvI (2 : Int32), lvR b496, lvR b510, .val .null, .unset, .unset] [(.ref b475)] _
          refine st647.trans ?_
          refine XS.istore X647.here hx rfl (hb hby at_241) rfl (l' := #[lvI p0_, lvI p1_, lvI (3 : Int32), lvI z467, lvI (0 : Int32), lvI (0 : Int32), lvR b475, lvR b484, lvR b496, lvR b510, lvR b484, lvR b496, lvR b510, lvR b484, lvI (2 : Int32), lvR b496, lvR b510, .val .null, lvI (0 : Int32), .unset]) rfl ?_
          refine XS.aload X647.here hx rfl (hb hby at_243) rfl rfl ?_
          refine XS.aload X647.here hx rfl (hb hby at_245) rfl rfl ?_
          show own_S p e below m T647 247 #[lvI p0_, lvI p1_, lvI (3 : Int32), lvI z467, lvI (0 : Int32), lvI (0 : Int32), lvR b475, lvR b484, lvR b496, lvR b510, lvR b484, lvR b496, lvR b510, lvR b484, lvI (2 : Int32), lvR b496, lvR b510, .val .null, lvI (0 : Int32), .unset] [(.ref b484), (.ref b484)] _
          refine Jvm.RoadKit.acmp (g := (mkF m 247 #[lvI p0_, lvI p1_, lvI (3 : Int32), lvI z467, lvI (0 : Int32), lvI (0 : Int32), lvR b475, lvR b484, lvR b496, lvR b510, lvR b484, lvR b496, lvR b510, lvR b484, lvI (2 : Int32), lvR b496, lvR b510, .val .null, lvI (0 : Int32), .unset] [(.ref b484), (.ref b484)])) X647 hx rfl rfl rfl (pc0 := 247) (pc' := 250) (same := true) rfl (hb hby at_247) rfl (decide_eq_true rfl) (by decide) (by decide) ?_
          refine XS.aload X647.here hx rfl (hb hby at_250) rfl rfl ?_
          refine XS.aload X647.here hx rfl (hb hby at_252) rfl rfl ?_
          show own_S p e below m T647 254 #[lvI p0_, lvI p1_, lvI (3 : Int32), lvI z467, lvI (0 : Int32), lvI (0 : Int32), lvR b475, lvR b484, lvR b496, lvR b510, lvR b484, lvR b496, lvR b510, lvR b484, lvI (2 : Int32), lvR b496, lvR b510, .val .null, lvI (0 : Int32), .unset] [(.ref b496), (.ref b496)] _
          refine Jvm.RoadKit.acmp (g := (mkF m 254 #[lvI p0_, lvI p1_, lvI (3 : Int32), lvI z467, lvI (0 : Int32), lvI (0 : Int32), lvR b475, lvR b484, lvR b496, lvR b510, lvR b484, lvR b496, lvR b510, lvR b484, lvI (2 : Int32), lvR b496, lvR b510, .val .null, lvI (0 : Int32), .unset] [(.ref b496), (.ref b496)])) X647 hx rfl rfl rfl (pc0 := 254) (pc' := 257) (same := true) rfl (hb hby at_254) rfl (decide_eq_true rfl) (by decide) (by decide) ?_
          refine XS.aload X647.here hx rfl (hb hby at_257) rfl rfl ?_
          refine XS.aload X647.here hx rfl (hb hby at_259) rfl rfl ?_
          show own_S p e below m T647 261 #[lvI p0_, lvI p1_, lvI (3 : Int32), lvI z467, lvI (0 : Int32), lvI (0 : Int32), lvR b475, lvR b484, lvR b496, lvR b510, lvR b484, lvR b496, lvR b510, lvR b484, lvI (2 : Int32), lvR b496, lvR b510, .val .null, lvI (0 : Int32), .unset] [(.ref b510), (.ref b510)] _
          refine Jvm.RoadKit.acmp (g := (mkF m 261 #[lvI p0_, lvI p1_, lvI (3 : Int32), lvI z467, lvI (0 : Int32), lvI (0 : Int32), lvR b475, lvR b484, lvR b496, lvR b510, lvR b484, lvR b496, lvR b510, lvR b484, lvI (2 : Int32), lvR b496, lvR b510, .val .null, lvI (0 : Int32), .unset] [(.ref b510), (.ref b510)])) X647 hx rfl rfl rfl (pc0 := 261) (pc' := 264) (same := true) rfl (hb hby at_261) rfl (decide_eq_true rfl) (by decide) (by decide) ?_
          refine XS.aload X647.here hx rfl (hb hby at_264) rfl rfl ?_
          show own_S p e below m T647 266 #[lvI p0_, lvI p1_, lvI (3 : Int32), lvI z467, lvI (0 : Int32), lvI (0 : Int32), lvR b475, lvR b484, lvR b496, lvR b510, lvR b484, lvR b496, lvR b510, lvR b484, lvI (2 : Int32), lvR b496, lvR b510, .val .null, lvI (0 : Int32), .unset] [.null] _
          refine XS.ifnonnullNo X647.here hx rfl (hb hby at_266) rfl ?_
          refine XS.iconst X647.here hx rfl (hb hby at_269) ?_
          refine XS.goto X647.here hx rfl (pc0 := 270) (pc' := 274) rfl (hb hby at_270) (by decide) (by decide) ?_
          refine XS.istore X647.here hx rfl (hb hby at_274) rfl (l' := #[lvI p0_, lvI p1_, lvI (3 : Int32), lvI z467, lvI (0 : Int32), lvI (0 : Int32), lvR b475, lvR b484, lvR b496, lvR b510, lvR b484, lvR b496, lvR b510, lvR b484, lvI (2 : Int32), lvR b496, lvR b510, .val .null, lvI (0 : Int32), lvI (1 : Int32)]) rfl ?_
          show own_S p e below m T647 276 #[lvI p0_, lvI p1_, lvI (3 : Int32), lvI z467, lvI (0 : Int32), lvI (0 : Int32), lvR b475, lvR b484, lvR b496, lvR b510, lvR b484, lvR b496, lvR b510, lvR b484, lvI (2 : Int32), lvR b496, lvR b510, .val .null, lvI (0 : Int32), lvI (1 : Int32)] [] _
          refine XS.iload X647.here hx rfl (hb hby at_276) rfl ?_
          show own_S p e below m T647 278 #[lvI p0_, lvI p1_, lvI (3 : Int32), lvI z467, lvI (0 : Int32), lvI (0 : Int32), lvR b475, lvR b484, lvR b496, lvR b510, lvR b484, lvR b496, lvR b510, lvR b484, lvI (2 : Int32), lvR b496, lvR b510, .val .null, lvI (0 : Int32), lvI (1 : Int32)] [(.int (1 : Int32))] _
          refine XS.ifNo X647.here hx rfl (hb hby at_278) rfl ((if0 _ _).trans (feq (by decide : ¬ ((1 : Int32) = (0 : Int32)))).1) ?_
          refine XS.iload X647.here hx rfl (hb hby at_281) rfl ?_
          refine XS.iloadN X647.here hx rfl (hb hby at_283) rfl ?_
          refine XS.iconst X647.here hx rfl (hb hby at_284) ?_
          show own_S p e below m T647 285 #[lvI p0_, lvI p1_, lvI (3 : Int32), lvI z467, lvI (0 : Int32), lvI (0 : Int32), lvR b475, lvR b484, lvR b496, lvR b510, lvR b484, lvR b496, lvR b510, lvR b484, lvI (2 : Int32), lvR b496, lvR b510, .val .null, lvI (0 : Int32), lvI (1 : Int32)] [(.int (1 : Int32)), (.int (3 : Int32)), (.int (2 : Int32))] _
          refine XS.isub X647.here hx rfl (hb hby at_285) rfl ?_
          refine XS.iconst X647.here hx rfl (hb hby at_286) ?_
          show own_S p e below m T647 287 #[lvI p0_, lvI p1_, lvI (3 : Int32), lvI z467, lvI (0 : Int32), lvI (0 : Int32), lvR b475, lvR b484, lvR b496, lvR b510, lvR b484, lvR b496, lvR b510, lvR b484, lvI (2 : Int32), lvR b496, lvR b510, .val .null, lvI (0 : Int32), lvI (1 : Int32)] [(.int (0 : Int32)), (.int (2 : Int32)), (.int (2 : Int32))] _
          refine st649 _ ?_
          show own_S p e below m T649 290 #[lvI p0_, lvI p1_, lvI (3 : Int32), lvI z467, lvI (0 : Int32), lvI (0 : Int32), lvR b475, lvR b484, lvR b496, lvR b510, lvR b484, lvR b496, lvR b510, lvR b484, lvI (2 : Int32), lvR b496, lvR b510, .val .null, lvI (0 : Int32), lvI (1 : Int32)] [(.int (2 : Int32)), (.int (2 : Int32))] _
          refine XS.icmpNo X649.here hx rfl (hb hby at_290) rfl (teq (by decide : (2 : Int32) = (2 : Int32))).2 ?_
          refine XS.iload X649.here hx rfl (hb hby at_293) rfl ?_
          show own_S p e below m T649 295 #[lvI p0_, lvI p1_, lvI (3 : Int32), lvI z467, lvI (0 : Int32), lvI (0 : Int32), lvR b475, lvR b484, lvR b496, lvR b510, lvR b484, lvR b496, lvR b510, lvR b484, lvI (2 : Int32), lvR b496, lvR b510, .val .null, lvI (0 : Int32), lvI (1 : Int32)] [(.int (0 : Int32))] _
          refine XS.ifNo X649.here hx rfl (hb hby at_295) rfl ((if0 _ _).trans (teq (by decide : (0 : Int32) = (0 : Int32))).2) ?_
          refine XS.aload X649.here hx rfl (hb hby at_298) rfl rfl ?_
          show own_S p e below m T649 300 #[lvI p0_, lvI p1_, lvI (3 : Int32), lvI z467, lvI (0 : Int32), lvI (0 : Int32), lvR b475, lvR b484, lvR b496, lvR b510, lvR b484, lvR b496, lvR b510, lvR b484, lvI (2 : Int32), lvR b496, lvR b510, .val .null, lvI (0 : Int32), lvI (1 : Int32)] [(.ref b475)] _
          refine st651.trans ?_
          show own_S p e below m T651 303 #[lvI p0_, lvI p1_, lvI (3 : Int32), lvI z467, lvI (0 : Int32), lvI (0 : Int32), lvR b475, lvR b484, lvR b496, lvR b510, lvR b484, lvR b496, lvR b510, lvR b484, lvI (2 : Int32), lvR b496, lvR b510, .val .null, lvI (0 : Int32), lvI (1 : Int32)] [.null] _
          refine XS.ifnonnullNo X651.here hx rfl (hb hby at_303) rfl ?_
          refine XS.iconst X651.here hx rfl (hb hby at_306) ?_
          refine XS.goto X651.here hx rfl (pc0 := 307) (pc' := 311) rfl (hb hby at_307) (by decide) (by decide) ?_
          refine XS.istore X651.here hx rfl (hb hby at_311) rfl (l' := #[lvI p0_, lvI p1_, lvI (3 : Int32), lvI z467, lvI (0 : Int32), lvI (0 : Int32), lvR b475, lvR b484, lvR b496, lvR b510, lvR b484, lvR b496, lvR b510, lvR b484, lvI (2 : Int32), lvR b496, lvR b510, .val .null, lvI (0 : Int32), lvI (1 : Int32)]) rfl ?_
          show own_S p e below m T651 313 #[lvI p0_, lvI p1_, lvI (3 : Int32), lvI z467, lvI (0 : Int32), lvI (0 : Int32), lvR b475, lvR b484, lvR b496, lvR b510, lvR b484, lvR b496, lvR b510, lvR b484, lvI (2 : Int32), lvR b496, lvR b510, .val .null, lvI (0 : Int32), lvI (1 : Int32)] [] _
          refine XS.iload X651.here hx rfl (hb hby at_313) rfl ?_
          show own_S p e below m T651 315 #[lvI p0_, lvI p1_, lvI (3 : Int32), lvI z467, lvI (0 : Int32), lvI (0 : Int32), lvR b475, lvR b484, lvR b496, lvR b510, lvR b484, lvR b496, lvR b510, lvR b484, lvI (2 : Int32), lvR b496, lvR b510, .val .null, lvI (0 : Int32), lvI (1 : Int32)] [(.int (1 : Int32))] _
          refine XS.ifNo X651.here hx rfl (hb hby at_315) rfl ((if0 _ _).trans (feq (by decide : ¬ ((1 : Int32) = (0 : Int32)))).1) ?_
          refine XS.aload X651.here hx rfl (hb hby at_318) rfl rfl ?_
          show own_S p e below m T651 320 #[lvI p0_, lvI p1_, lvI (3 : Int32), lvI z467, lvI (0 : Int32), lvI (0 : Int32), lvR b475, lvR b484, lvR b496, lvR b510, lvR b484, lvR b496, lvR b510, lvR b484, lvI (2 : Int32), lvR b496, lvR b510, .val .null, lvI (0 : Int32), lvI (1 : Int32)] [(.ref b484)] _
          refine XS.ifnullNo X651.here hx rfl (hb hby at_320) rfl ?_
          refine XS.aload X651.here hx rfl (hb hby at_323) rfl rfl ?_
          show own_S p e below m T651 325 #[lvI p0_, lvI p1_, lvI (3 : Int32), lvI z467, lvI (0 : Int32), lvI (0 : Int32), lvR b475, lvR b484, lvR b496, lvR b510, lvR b484, lvR b496, lvR b510, lvR b484, lvI (2 : Int32), lvR b496, lvR b510, .val .null, lvI (0 : Int32), lvI (1 : Int32)] [(.ref b484)] _
          refine st653.trans ?_
          show own_S p e below m T653 328 #[lvI p0_, lvI p1_, lvI (3 : Int32), lvI z467, lvI (0 : Int32), lvI (0 : Int32), lvR b475, lvR b484, lvR b496, lvR b510, lvR b484, lvR b496, lvR b510, lvR b484, lvI (2 : Int32), lvR b496, lvR b510, .val .null, lvI (0 : Int32), lvI (1 : Int32)] [(.int (0 : Int32))] _
          refine XS.ifNo X653.here hx rfl (hb hby at_328) rfl ((if0 _ _).trans (teq (by decide : (0 : Int32) = (0 : Int32))).2) ?_
          refine XS.iconst X653.here hx rfl (hb hby at_331) ?_
          refine XS.goto X653.here hx rfl (pc0 := 332) (pc' := 336) rfl (hb hby at_332) (by decide) (by decide) ?_
          refine XS.istore X653.here hx rfl (hb hby at_336) rfl (l' := #[lvI p0_, lvI p1_, lvI (3 : Int32), lvI z467, lvI (0 : Int32), lvI (0 : Int32), lvR b475, lvR b484, lvR b496, lvR b510, lvR b484, lvR b496, lvR b510, lvR b484, lvI (2 : Int32), lvR b496, lvR b510, .val .null, lvI (0 : Int32), lvI (1 : Int32)]) rfl ?_
          show own_S p e below m T653 338 #[lvI p0_, lvI p1_, lvI (3 : Int32), lvI z467, lvI (0 : Int32), lvI (0 : Int32), lvR b475, lvR b484, lvR b496, lvR b510, lvR b484, lvR b496, lvR b510, lvR b484, lvI (2 : Int32), lvR b496, lvR b510, .val .null, lvI (0 : Int32), lvI (1 : Int32)] [] _
          refine XS.iload X653.here hx rfl (hb hby at_338) rfl ?_
          exact kt
        obtain ⟨fs, hr, hrun, hended, hW, hsame⟩ := X653.leave (v := some (.int (1 : Int32))) (fun h => by rw [Bd.returns] at h; cases h)
        refine ⟨_, _, hG _ (pre667 _ (retN X653 hx (t := .boolean) Bd.returns (by simp) (hb hby at_340) hr)), hrun, hended, _, _, rfl, ?_, ⟨_, rfl⟩, hW, hsame.mono (by decide) (by decide)⟩
        show QLaw Z p0_ p1_ h0 n0 _ T653.heap _
        rw [e653']
        exact ⟨rfl, N666⟩
      · have f670 : Exa Z h524 b510 cn0 := g521_0.keep K524
        have f671 : Exa Z h582 b510 cn0 := f670.keep K582
        have f672 : Fld Z h524 b510 cn0 "thread" "Ljava/lang/Thread;" .null := g521_1.keep K524 (ninS (Ne.symm ne539) (ninS (Ne.symm ne561) nin0))
        have f673 : Fld Z h582 b510 cn0 "thread" "Ljava/lang/Thread;" .null := f672.keep K582 (ninS (Ne.symm ne588) (ninS (Ne.symm ne561) (ninS (Ne.symm ne539) nin0)))
        have f674 : Fld Z h524 b510 cn0 "picked" "Z" (.int (0 : Int32)) := g521_2.keep K524 (ninS (Ne.symm ne539) (ninS (Ne.symm ne561) nin0))
        have f675 : Fld Z h582 b510 cn0 "picked" "Z" (.int (0 : Int32)) := f674.keep K582 (ninS (Ne.symm ne588) (ninS (Ne.symm ne561) (ninS (Ne.symm ne539) nin0)))
        have f676 : Fld Z h524 b510 cn0 "queued" "Z" (.int (0 : Int32)) := g521_3.keep K524 (ninS (Ne.symm ne539) (ninS (Ne.symm ne561) nin0))
        have f677 : Fld Z h582 b510 cn0 "queued" "Z" (.int (0 : Int32)) := f676.keep K582 (ninS (Ne.symm ne588) (ninS (Ne.symm ne561) (ninS (Ne.symm ne539) nin0)))
        have f678 : Fld Z h524 b510 cn0 "next" "Llatchwork/WaitQueue$Waiter;" .null := g521_4.keep K524 (ninS (Ne.symm ne539) (ninS (Ne.symm ne561) nin0))
        have f679 : Fld Z h582 b510 cn0 "next" "Llatchwork/WaitQueue$Waiter;" .null := f678.keep K582 (ninS (Ne.symm ne588) (ninS (Ne.symm ne561) (ninS (Ne.symm ne539) nin0)))
        have f680 : Fld Z h524 b510 cn0 "prev" "Llatchwork/WaitQueue$Waiter;" .null := g521_5.keep K524 (ninS (Ne.symm ne539) (ninS (Ne.symm ne561) nin0))
        have f681 : Fld Z h582 b510 cn0 "prev" "Llatchwork/WaitQueue$Waiter;" .null := f680.keep K582 (ninS (Ne.symm ne588) (ninS (Ne.symm ne561) (ninS (Ne.symm ne539) nin0)))
        have f682 : Old Z n0 h582 := f602.keep K582 (allS (ge498) (allS (ge485) (allS (ge476) all0)))
        obtain ⟨cq669, kq669, q669a, q669b, q669c⟩ := isOf hZ e582 g582_0
        obtain ⟨_, _, ⟨T669, L669, k669, n669⟩, -, X669, ⟨Lc669, hQ669, l669, y669, z669⟩, st669⟩ := X582.virtualBack hx (y := (⟨"latchwork/WaitQueue", "add", "(Llatchwork/WaitQueue$Waiter;Z)V"⟩ : MethodName)) (z := (⟨"latchwork/WaitQueue", "add", "(Llatchwork/WaitQueue$Waiter;Z)V"⟩ : MethodName)) hown (mvT hZ (own_w hw 41 rfl)) (mvT hZ (own_w hw 42 rfl)) (notFace_of_selects (args := #[]) (mvT hZ (own_w hw 44 rfl))) (mvT hZ (own_w hw 44 rfl)) (mvT hZ (own_w hw 43 rfl)) (by decide) (backOf (W := 0) (rmadd23 l Z a0 hw [] b475 b510 b484 b496 h582 n0 f682 g582_0 g582_1 g582_2 g582_3 f671 f673 f675 f677 f679 f681 g582_10 g582_11 g582_12 g582_13 g582_14 g582_15 g582_4 g582_5 g582_6 g582_7 g582_8 g582_9 ge512 ne539 ne561 ge485 ne533 ge476) hZ (own_w hw 45 rfl) (own_w hw 2 rfl) (by decide) (by decide)) q669a q669c (g := (mkF m 119 #[lvI p0_, lvI p1_, lvI (3 : Int32), lvI z467, lvI (0 : Int32), lvI (1 : Int32), lvR b475, lvR b484, lvR b496, lvR b510, .unset, .unset, .unset, .unset, .unset, .unset, .unset, .unset, .unset, .unset] [(.int (1 : Int32)), (.ref b510), (.ref b475)])) rfl (by rw [hml]; rfl) (Steps.refl _) (argsL := [(.ref b510), (.int (1 : Int32))]) (rest := []) (lenOf pd_5 rfl) rfl (by show 2 * 0 + _ ≤ _; exact Nat.le_of_eq rfl) (hb hby at_119) (fun _ _ => ⟨rfl, e582, (by decide : 4 + 0 ≤ _), (by decide : 28 + 0 ≤ _)⟩)
        dsimp only [Pt.U, Pt.locs, Pt.cells, Pt.slots] at X669 l669 y669 z669 st669 hQ669
        subst l669 y669 z669
        obtain ⟨h669, e669⟩ : ∃ z, T669.heap = z := ⟨_, rfl⟩
        rw [e669] at hQ669
        obtain ⟨rfl, N669q, K669, g669_0, g669_1, g669_2, g669_3, g669_4, g669_5, g669_6, g669_7, g669_8, g669_9, g669_10, g669_11, g669_12, g669_13, g669_14, g669_15⟩ := hQ669
        have N683 := Fr.app N603 N669q
        have f685 : Exa Z h669 b496 cn0 := g582_4.keep K669
        have f686 : Fld Z h669 b496 cn0 "thread" "Ljava/lang/Thread;" .null := g582_5.keep K669 (ninS ne588 (ninS (Ne.symm ne558) (ninS (Ne.symm ne536) nin0)))
        have f687 : Fld Z h669 b496 cn0 "picked" "Z" (.int (0 : Int32)) := g582_6.keep K669 (ninS ne588 (ninS (Ne.symm ne558) (ninS (Ne.symm ne536) nin0)))
        have f688 : Fld Z h669 b496 cn0 "queued" "Z" (.int (1 : Int32)) := g582_7.keep K669 (ninS ne588 (ninS (Ne.symm ne558) (ninS (Ne.symm ne536) nin0)))
        have f689 : Fld Z h669 b496 cn0 "next" "Llatchwork/WaitQueue$Waiter;" .null := g582_8.keep K669 (ninS ne588 (ninS (Ne.symm ne558) (ninS (Ne.symm ne536) nin0)))
        have f690 : Fld Z h669 b496 cn0 "prev" "Llatchwork/WaitQueue$Waiter;" (.ref b484) := g582_9.keep K669 (ninS ne588 (ninS (Ne.symm ne558) (ninS (Ne.symm ne536) nin0)))
        have f691 : Old Z n0 h669 := f682.keep K669 (allS (ge512) (allS (ge485) (allS (ge476) all0)))
        obtain ⟨cq684, kq684, q684a, q684b, q684c⟩ := isOf hZ e669 g669_0
        obtain ⟨_, _, ⟨T684, L684, k684, n684⟩, -, X684, ⟨Lc684, hQ684, l684, y684, z684⟩, st684⟩ := X669.virtualBack hx (y := (⟨"latchwork/WaitQueue", "poll", "()Llatchwork/WaitQueue$Waiter;"⟩ : MethodName)) (z := (⟨"latchwork/WaitQueue", "poll", "()Llatchwork/WaitQueue$Waiter;"⟩ : MethodName)) hown (mvT hZ (own_w hw 18 rfl)) (mvT hZ (own_w hw 19 rfl)) (notFace_of_selects (args := #[]) (mvT hZ (own_w hw 21 rfl))) (mvT hZ (own_w hw 21 rfl)) (mvT hZ (own_w hw 20 rfl)) (by decide) (backOf (W := 0) (rmpoll19 l Z a0 hw [] b475 b510 b496 b484 h669 n0 f691 g669_0 g669_1 g669_2 g669_3 g669_4 g669_5 g669_6 g669_7 g669_8 g669_9 f685 f686 f687 f688 f689 f690 g669_10 g669_11 g669_12 g669_13 g669_14 g669_15 ge476 (Ne.symm ne539) (Ne.symm ne533) ge485 (Ne.symm ne561) ge512) hZ (own_w hw 22 rfl) (own_w hw 2 rfl) (by decide) (by decide)) q684a q684c (g := (mkF m 203 #[lvI p0_, lvI p1_, lvI (3 : Int32), lvI z467, lvI (0 : Int32), lvI (1 : Int32), lvR b475, lvR b484, lvR b496, lvR b510, lvR b510, lvR b484, lvR b496, .unset, .unset, .unset, .unset, .unset, .unset, .unset] [(.ref b475)])) rfl (by rw [hml]; rfl) (Steps.refl _) (argsL := []) (rest := []) (lenOf pd_2 rfl) rfl (by show 2 * 0 + _ ≤ _; exact Nat.le_of_eq rfl) (hb hby at_203) (fun _ _ => ⟨rfl, e669, (by decide : 4 + 0 ≤ _), (by decide : 28 + 0 ≤ _)⟩)
        dsimp only [Pt.U, Pt.locs, Pt.cells, Pt.slots] at X684 l684 y684 z684 st684 hQ684
        subst l684 y684 z684
        obtain ⟨h684, e684⟩ : ∃ z, T684.heap = z := ⟨_, rfl⟩
        rw [e684] at hQ684
        obtain ⟨rfl, N684q, K684, g684_0, g684_1, g684_2, g684_3, g684_4, g684_5, g684_6, g684_7, g684_8, g684_9, g684_10, g684_11, g684_12, g684_13, g684_14, g684_15⟩ := hQ684
        have N692 := Fr.app N683 N684q
        have f694 : Exa Z h684 b496 cn0 := f685.keep K684
        have f695 : Fld Z h684 b496 cn0 "thread" "Ljava/lang/Thread;" .null := f686.keep K684 (ninS (Ne.symm ne536) (ninS (Ne.symm ne558) (ninS ne588 nin0)))
        have f696 : Fld Z h684 b496 cn0 "picked" "Z" (.int (0 : Int32)) := f687.keep K684 (ninS (Ne.symm ne536) (ninS (Ne.symm ne558) (ninS ne588 nin0)))
        have f697 : Fld Z h684 b496 cn0 "queued" "Z" (.int (1 : Int32)) := f688.keep K684 (ninS (Ne.symm ne536) (ninS (Ne.symm ne558) (ninS ne588 nin0)))
        have f698 : Fld Z h684 b496 cn0 "next" "Llatchwork/WaitQueue$Waiter;" .null := f689.keep K684 (ninS (Ne.symm ne536) (ninS (Ne.symm ne558) (ninS ne588 nin0)))
        have f699 : Fld Z h684 b496 cn0 "prev" "Llatchwork/WaitQueue$Waiter;" (.ref b484) := f690.keep K684 (ninS (Ne.symm ne536) (ninS (Ne.symm ne558) (ninS ne588 nin0)))
        have f700 : Old Z n0 h684 := f691.keep K684 (allS (ge476) (allS (ge485) (allS (ge512) all0)))
        obtain ⟨cq693, kq693, q693a, q693b, q693c⟩ := isOf hZ e684 g684_0
        obtain ⟨_, _, ⟨T693, L693, k693, n693⟩, -, X693, ⟨Lc693, hQ693, l693, y693, z693⟩, st693⟩ := X684.virtualBack hx (y := (⟨"latchwork/WaitQueue", "size", "()I"⟩ : MethodName)) (z := (⟨"latchwork/WaitQueue", "size", "()I"⟩ : MethodName)) hown (mvT hZ (own_w hw 25 rfl)) (mvT hZ (own_w hw 26 rfl)) (notFace_of_selects (args := #[]) (mvT hZ (own_w hw 28 rfl))) (mvT hZ (own_w hw 28 rfl)) (mvT hZ (own_w hw 27 rfl)) (by decide) (backOf (W := 0) (rmsize21 l Z a0 hw [] b475 b484 b496 h684 n0 f700 g684_0 g684_1 g684_2 g684_3 g684_10 g684_11 g684_12 g684_13 g684_14 g684_15 f694 f695 f696 f697 f698 f699) hZ (own_w hw 29 rfl) (own_w hw 2 rfl) (by decide) (by decide)) q693a q693c (g := (mkF m 210 #[lvI p0_, lvI p1_, lvI (3 : Int32), lvI z467, lvI (0 : Int32), lvI (1 : Int32), lvR b475, lvR b484, lvR b496, lvR b510, lvR b510, lvR b484, lvR b496, lvR b510, .unset, .unset, .unset, .unset, .unset, .unset] [(.ref b475)])) rfl (by rw [hml]; rfl) (Steps.refl _) (argsL := []) (rest := []) (lenOf pd_3 rfl) rfl (by show 2 * 0 + _ ≤ _; exact Nat.le_of_eq rfl) (hb hby at_210) (fun _ _ => ⟨rfl, e684, (by decide : 4 + 0 ≤ _), (by decide : 28 + 0 ≤ _)⟩)
        dsimp only [Pt.U, Pt.locs, Pt.cells, Pt.slots] at X693 l693 y693 z693 st693 hQ693
        subst l693 y693 z693
        obtain ⟨h693, e693⟩ : ∃ z, T693.heap = z := ⟨_, rfl⟩
        rw [e693] at hQ693
        obtain ⟨rfl, N693q, hh693⟩ := hQ693
        have N701 := Fr.app N692 N693q
        have e693' : T693.heap = h684 := e693.trans hh693
        obtain ⟨cq702, kq702, q702a, q702b, q702c⟩ := isOf hZ e693' g684_0
        obtain ⟨_, _, ⟨T702, L702, k702, n702⟩, -, X702, ⟨Lc702, hQ702, l702, y702, z702⟩, st702⟩ := X693.virtualBack hx (y := (⟨"latchwork/WaitQueue", "poll", "()Llatchwork/WaitQueue$Waiter;"⟩ : MethodName)) (z := (⟨"latchwork/WaitQueue", "poll", "()Llatchwork/WaitQueue$Waiter;"⟩ : MethodName)) hown (mvT hZ (own_w hw 18 rfl)) (mvT hZ (own_w hw 19 rfl)) (notFace_of_selects (args := #[]) (mvT hZ (own_w hw 21 rfl))) (mvT hZ (own_w hw 21 rfl)) (mvT hZ (own_w hw 20 rfl)) (by decide) (backOf (W := 0) (rmpoll13 l Z a0 hw [] b475 b484 b496 h684 n0 f700 g684_0 g684_1 g684_2 g684_3 g684_10 g684_11 g684_12 g684_13 g684_14 g684_15 f694 f695 f696 f697 f698 f699 ge476 (Ne.symm ne533) (Ne.symm ne536) ge498 ne558 ge485) hZ (own_w hw 22 rfl) (own_w hw 2 rfl) (by decide) (by decide)) q702a q702c (g := (mkF m 217 #[lvI p0_, lvI p1_, lvI (3 : Int32), lvI z467, lvI (0 : Int32), lvI (1 : Int32), lvR b475, lvR b484, lvR b496, lvR b510, lvR b510, lvR b484, lvR b496, lvR b510, lvI (2 : Int32), .unset, .unset, .unset, .unset, .unset] [(.ref b475)])) rfl (by rw [hml]; rfl) (Steps.refl _) (argsL := []) (rest := []) (lenOf pd_2 rfl) rfl (by show 2 * 0 + _ ≤ _; exact Nat.le_of_eq rfl) (hb hby at_217) (fun _ _ => ⟨rfl, e693', (by decide : 4 + 0 ≤ _), (by decide : 28 + 0 ≤ _)⟩)
        dsimp only [Pt.U, Pt.locs, Pt.cells, Pt.slots] at X702 l702 y702 z702 st702 hQ702
        subst l702 y702 z702
        obtain ⟨h702, e702⟩ : ∃ z, T702.heap = z := ⟨_, rfl⟩
        rw [e702] at hQ702
        obtain ⟨rfl, N702q, K702, g702_0, g702_1, g702_2, g702_3, g702_4, g702_5, g702_6, g702_7, g702_8, g702_9, g702_10, g702_11, g702_12, g702_13, g702_14, g702_15⟩ := hQ702
        have N703 := Fr.app N701 N702q
        have f705 : Old Z n0 h702 := f700.keep K702 (allS (ge476) (allS (ge498) (allS (ge485) all0)))
        obtain ⟨cq704, kq704, q704a, q704b, q704c⟩ := isOf hZ e702 g702_0
        obtain ⟨_, _, ⟨T704, L704, k704, n704⟩, -, X704, ⟨Lc704, hQ704, l704, y704, z704⟩, st704⟩ := X702.virtualBack hx (y := (⟨"latchwork/WaitQueue", "poll", "()Llatchwork/WaitQueue$Waiter;"⟩ : MethodName)) (z := (⟨"latchwork/WaitQueue", "poll", "()Llatchwork/WaitQueue$Waiter;"⟩ : MethodName)) hown (mvT hZ (own_w hw 18 rfl)) (mvT hZ (own_w hw 19 rfl)) (notFace_of_selects (args := #[]) (mvT hZ (own_w hw 21 rfl))) (mvT hZ (own_w hw 21 rfl)) (mvT hZ (own_w hw 20 rfl)) (by decide) (backOf (W := 0) (rmpoll8 l Z a0 hw [] b475 b496 h702 n0 f705 g702_0 g702_1 g702_2 g702_3 g702_10 g702_11 g702_12 g702_13 g702_14 g702_15 ge476 (Ne.symm ne536) ge498) hZ (own_w hw 22 rfl) (own_w hw 2 rfl) (by decide) (by decide)) q704a q704c (g := (mkF m 224 #[lvI p0_, lvI p1_, lvI (3 : Int32), lvI z467, lvI (0 : Int32), lvI (1 : Int32), lvR b475, lvR b484, lvR b496, lvR b510, lvR b510, lvR b484, lvR b496, lvR b510, lvI (2 : Int32), lvR b484, .unset, .unset, .unset, .unset] [(.ref b475)])) rfl (by rw [hml]; rfl) (Steps.refl _) (argsL := []) (rest := []) (lenOf pd_2 rfl) rfl (by show 2 * 0 + _ ≤ _; exact Nat.le_of_eq rfl) (hb hby at_224) (fun _ _ => ⟨rfl, e702, (by decide : 4 + 0 ≤ _), (by decide : 28 + 0 ≤ _)⟩)
        dsimp only [Pt.U, Pt.locs, Pt.cells, Pt.slots] at X704 l704 y704 z704 st704 hQ704
        subst l704 y704 z704
        obtain ⟨h704, e704⟩ : ∃ z, T704.heap = z := ⟨_, rfl⟩
        rw [e704] at hQ704
        obtain ⟨rfl, N704q, K704, g704_0, g704_1, g704_2, g704_3, g704_4, g704_5, g704_6, g704_7, g704_8, g704_9⟩ := hQ704
        have N706 := Fr.app N703 N704q
        have f708 : Old Z n0 h704 := f705.keep K704 (allS (ge476) (allS (ge498) all0))
        obtain ⟨cq707, kq707, q707a, q707b, q707c⟩ := isOf hZ e704 g704_0
        obtain ⟨_, _, ⟨T707, L707, k707, n707⟩, -, X707, ⟨Lc707, hQ707, l707, y707, z707⟩, st707⟩ := X704.virtualBack hx (y := (⟨"latchwork/WaitQueue", "poll", "()Llatchwork/WaitQueue$Waiter;"⟩ : MethodName)) (z := (⟨"latchwork/WaitQueue", "poll", "()Llatchwork/WaitQueue$Waiter;"⟩ : MethodName)) hown (mvT hZ (own_w hw 18 rfl)) (mvT hZ (own_w hw 19 rfl)) (notFace_of_selects (args := #[]) (mvT hZ (own_w hw 21 rfl))) (mvT hZ (own_w hw 21 rfl)) (mvT hZ (own_w hw 20 rfl)) (by decide) (backOf (W := 0) (rmpoll3 l Z a0 hw [] b475 h704 n0 f708 g704_0 g704_1 g704_2 g704_3) hZ (own_w hw 22 rfl) (own_w hw 2 rfl) (by decide) (by decide)) q707a q707c (g := (mkF m 231 #[lvI p0_, lvI p1_, lvI (3 : Int32), lvI z467, lvI (0 : Int32), lvI (1 : Int32), lvR b475, lvR b484, lvR b496, lvR b510, lvR b510, lvR b484, lvR b496, lvR b510, lvI (2 : Int32), lvR b484, lvR b496, .unset, .unset, .unset] [(.ref b475)])) rfl (by rw [hml]; rfl) (Steps.refl _) (argsL := []) (rest := []) (lenOf pd_2 rfl) rfl (by show 2 * 0 + _ ≤ _; exact Nat.le_of_eq rfl) (hb hby at_231) (fun _ _ => ⟨rfl, e704, (by decide : 4 + 0 ≤ _), (by decide : 28 + 0 ≤ _)⟩)
        dsimp only [Pt.U, Pt.locs, Pt.cells, Pt.slots] at X707 l707 y707 z707 st707 hQ707
        subst l707 y707 z707
        obtain ⟨h707, e707⟩ : ∃ z, T707.heap = z := ⟨_, rfl⟩
        rw [e707] at hQ707
        obtain ⟨rfl, N707q, hh707⟩ := hQ707
        have N709 := Fr.app N706 N707q
        have e707' : T707.heap = h704 := e707.trans hh707
        obtain ⟨cq710, kq710, q710a, q710b, q710c⟩ := isOf hZ e707' g704_0
        obtain ⟨_, _, ⟨T710, L710, k710, n710⟩, -, X710, ⟨Lc710, hQ710, l710, y710, z710⟩, st710⟩ := X707.virtualBack hx (y := (⟨"latchwork/WaitQueue", "size", "()I"⟩ : MethodName)) (z := (⟨"latchwork/WaitQueue", "size", "()I"⟩ : MethodName)) hown (mvT hZ (own_w hw 25 rfl)) (mvT hZ (own_w hw 26 rfl)) (notFace_of_selects (args := #[]) (mvT hZ (own_w hw 28 rfl))) (mvT hZ (own_w hw 28 rfl)) (mvT hZ (own_w hw 27 rfl)) (by decide) (backOf (W := 0) (rmsize4 l Z a0 hw [] b475 h704 n0 f708 g704_0 g704_1 g704_2 g704_3) hZ (own_w hw 29 rfl) (own_w hw 2 rfl) (by decide) (by decide)) q710a q710c (g := (mkF m 238 #[lvI p0_, lvI p1_, lvI (3 : Int32), lvI z467, lvI (0 : Int32), lvI (1 : Int32), lvR b475, lvR b484, lvR b496, lvR b510, lvR b510, lvR b484, lvR b496, lvR b510, lvI (2 : Int32), lvR b484, lvR b496, .val .null, .unset, .unset] [(.ref b475)])) rfl (by rw [hml]; rfl) (Steps.refl _) (argsL := []) (rest := []) (lenOf pd_3 rfl) rfl (by show 2 * 0 + _ ≤ _; exact Nat.le_of_eq rfl) (hb hby at_238) (fun _ _ => ⟨rfl, e707', (by decide : 4 + 0 ≤ _), (by decide : 28 + 0 ≤ _)⟩)
        dsimp only [Pt.U, Pt.locs, Pt.cells, Pt.slots] at X710 l710 y710 z710 st710 hQ710
        subst l710 y710 z710
        obtain ⟨h710, e710⟩ : ∃ z, T710.heap = z := ⟨_, rfl⟩
        rw [e710] at hQ710
        obtain ⟨rfl, N710q, hh710⟩ := hQ710
        have N711 := Fr.app N709 N710q
        have e710' : T710.heap = h704 := e710.trans hh710
        obtain ⟨_, _, ⟨T712, L712, k712, n712⟩, -, X712, ⟨Lc712, hQ712, l712, y712, z712⟩, st712⟩ := Jvm.LawKit.callS X710 hx (y := (⟨"java/lang/Math", "max", "(II)I"⟩ : MethodName)) hown (mvT hZ (own_w hw 32 rfl)) (mvT hZ (own_w hw 33 rfl)) (mvT hZ (own_w hw 34 rfl)) (mvT hZ (own_w hw 35 rfl)) (by decide) (backOf (W := 1) (rmmax22 l Z a0 hw []  h704 n0 f708 ) hZ (own_w hw 35 rfl) (own_w hw 34 rfl) (by decide) (by decide)) (g := (mkF m 287 #[lvI p0_, lvI p1_, lvI (3 : Int32), lvI z467, lvI (0 : Int32), lvI (1 : Int32), lvR b475, lvR b484, lvR b496, lvR b510, lvR b510, lvR b484, lvR b496, lvR b510, lvI (2 : Int32), lvR b484, lvR b496, .val .null, lvI (0 : Int32), lvI (1 : Int32)] [(.int (0 : Int32)), (.int (2 : Int32)), (.int (2 : Int32))])) rfl (by rw [hml]; rfl) (argsL := [(.int (2 : Int32)), (.int (0 : Int32))]) (rest := [(.int (2 : Int32))]) (lenOf pd_4 rfl) rfl (by show 2 * 0 + _ ≤ _; exact Nat.le_of_eq rfl) (hb hby at_287) (fun _ _ => ⟨rfl, e710', (by decide : 4 + 0 ≤ _), (by decide : 28 + 0 ≤ _)⟩)
        dsimp only [Pt.U, Pt.locs, Pt.cells, Pt.slots] at X712 l712 y712 z712 st712 hQ712
        subst l712 y712 z712
        obtain ⟨h712, e712⟩ : ∃ z, T712.heap = z := ⟨_, rfl⟩
        rw [e712] at hQ712
        obtain ⟨rfl, N712q, hh712⟩ := hQ712
        have N713 := Fr.app N711 N712q
        have e712' : T712.heap = h704 := e712.trans hh712
        obtain ⟨cq714, kq714, q714a, q714b, q714c⟩ := isOf hZ e712' g704_0
        obtain ⟨_, _, ⟨T714, L714, k714, n714⟩, -, X714, ⟨Lc714, hQ714, l714, y714, z714⟩, st714⟩ := X712.virtualBack hx (y := (⟨"latchwork/WaitQueue", "first", "()Llatchwork/WaitQueue$Waiter;"⟩ : MethodName)) (z := (⟨"latchwork/WaitQueue", "first", "()Llatchwork/WaitQueue$Waiter;"⟩ : MethodName)) hown (mvT hZ (own_w hw 36 rfl)) (mvT hZ (own_w hw 37 rfl)) (notFace_of_selects (args := #[]) (mvT hZ (own_w hw 39 rfl))) (mvT hZ (own_w hw 39 rfl)) (mvT hZ (own_w hw 38 rfl)) (by decide) (backOf (W := 0) (rmfirst6 l Z a0 hw [] b475 h704 n0 f708 g704_0 g704_1 g704_2 g704_3) hZ (own_w hw 40 rfl) (own_w hw 2 rfl) (by decide) (by decide)) q714a q714c (g := (mkF m 300 #[lvI p0_, lvI p1_, lvI (3 : Int32), lvI z467, lvI (0 : Int32), lvI (1 : Int32), lvR b475, lvR b484, lvR b496, lvR b510, lvR b510, lvR b484, lvR b496, lvR b510, lvI (2 : Int32), lvR b484, lvR b496, .val .null, lvI (0 : Int32), lvI (1 : Int32)] [(.ref b475)])) rfl (by rw [hml]; rfl) (Steps.refl _) (argsL := []) (rest := []) (lenOf pd_2 rfl) rfl (by show 2 * 0 + _ ≤ _; exact Nat.le_of_eq rfl) (hb hby at_300) (fun _ _ => ⟨rfl, e712', (by decide : 4 + 0 ≤ _), (by decide : 28 + 0 ≤ _)⟩)
        dsimp only [Pt.U, Pt.locs, Pt.cells, Pt.slots] at X714 l714 y714 z714 st714 hQ714
        subst l714 y714 z714
        obtain ⟨h714, e714⟩ : ∃ z, T714.heap = z := ⟨_, rfl⟩
        rw [e714] at hQ714
        obtain ⟨rfl, N714q, hh714⟩ := hQ714
        have N715 := Fr.app N713 N714q
        have e714' : T714.heap = h704 := e714.trans hh714
        have f717 : Exa Z h702 b510 cn0 := g684_4.keep K702
        have f718 : Exa Z h704 b510 cn0 := f717.keep K704
        have f719 : Fld Z h702 b510 cn0 "thread" "Ljava/lang/Thread;" .null := g684_5.keep K702 (ninS (Ne.symm ne539) (ninS (Ne.symm ne588) (ninS (Ne.symm ne561) nin0)))
        have f720 : Fld Z h704 b510 cn0 "thread" "Ljava/lang/Thread;" .null := f719.keep K704 (ninS (Ne.symm ne539) (ninS (Ne.symm ne588) nin0))
        have f721 : Fld Z h702 b510 cn0 "picked" "Z" (.int (0 : Int32)) := g684_6.keep K702 (ninS (Ne.symm ne539) (ninS (Ne.symm ne588) (ninS (Ne.symm ne561) nin0)))
        have f722 : Fld Z h704 b510 cn0 "picked" "Z" (.int (0 : Int32)) := f721.keep K704 (ninS (Ne.symm ne539) (ninS (Ne.symm ne588) nin0))
        have f723 : Fld Z h702 b510 cn0 "queued" "Z" (.int (0 : Int32)) := g684_7.keep K702 (ninS (Ne.symm ne539) (ninS (Ne.symm ne588) (ninS (Ne.symm ne561) nin0)))
        have f724 : Fld Z h704 b510 cn0 "queued" "Z" (.int (0 : Int32)) := f723.keep K704 (ninS (Ne.symm ne539) (ninS (Ne.symm ne588) nin0))
        have f725 : Fld Z h702 b510 cn0 "next" "Llatchwork/WaitQueue$Waiter;" .null := g684_8.keep K702 (ninS (Ne.symm ne539) (ninS (Ne.symm ne588) (ninS (Ne.symm ne561) nin0)))
        have f726 : Fld Z h704 b510 cn0 "next" "Llatchwork/WaitQueue$Waiter;" .null := f725.keep K704 (ninS (Ne.symm ne539) (ninS (Ne.symm ne588) nin0))
        have f727 : Fld Z h702 b510 cn0 "prev" "Llatchwork/WaitQueue$Waiter;" .null := g684_9.keep K702 (ninS (Ne.symm ne539) (ninS (Ne.symm ne588) (ninS (Ne.symm ne561) nin0)))
        have f728 : Fld Z h704 b510 cn0 "prev" "Llatchwork/WaitQueue$Waiter;" .null := f727.keep K704 (ninS (Ne.symm ne539) (ninS (Ne.symm ne588) nin0))
        obtain ⟨cq716, kq716, q716a, q716b, q716c⟩ := isOf hZ e714' f718
        obtain ⟨_, _, ⟨T716, L716, k716, n716⟩, -, X716, ⟨Lc716, hQ716, l716, y716, z716⟩, st716⟩ := X714.virtualBack hx (y := (⟨"latchwork/WaitQueue$Waiter", "isQueued", "()Z"⟩ : MethodName)) (z := (⟨"latchwork/WaitQueue$Waiter", "isQueued", "()Z"⟩ : MethodName)) hown (mvT hZ (own_w hw 61 rfl)) (mvT hZ (own_w hw 62 rfl)) (notFace_of_selects (args := #[]) (mvT hZ (own_w hw 64 rfl))) (mvT hZ (own_w hw 64 rfl)) (mvT hZ (own_w hw 63 rfl)) (by decide) (backOf (W := 0) (rmisQueued11 l Z a0 hw [] b510 h704 n0 f708 f718 f720 f722 f724 f726 f728) hZ (own_w hw 65 rfl) (own_w hw 11 rfl) (by decide) (by decide)) q716a q716c (g := (mkF m 325 #[lvI p0_, lvI p1_, lvI (3 : Int32), lvI z467, lvI (0 : Int32), lvI (1 : Int32), lvR b475, lvR b484, lvR b496, lvR b510, lvR b510, lvR b484, lvR b496, lvR b510, lvI (2 : Int32), lvR b484, lvR b496, .val .null, lvI (0 : Int32), lvI (1 : Int32)] [(.ref b510)])) rfl (by rw [hml]; rfl) (Steps.refl _) (argsL := []) (rest := []) (lenOf pd_7 rfl) rfl (by show 2 * 0 + _ ≤ _; exact Nat.le_of_eq rfl) (hb hby at_325) (fun _ _ => ⟨rfl, e714', (by decide : 4 + 0 ≤ _), (by decide : 28 + 0 ≤ _)⟩)
        dsimp only [Pt.U, Pt.locs, Pt.cells, Pt.slots] at X716 l716 y716 z716 st716 hQ716
        subst l716 y716 z716
        obtain ⟨h716, e716⟩ : ∃ z, T716.heap = z := ⟨_, rfl⟩
        rw [e716] at hQ716
        obtain ⟨rfl, N716q, hh716⟩ := hQ716
        have N729 := Fr.app N715 N716q
        have e716' : T716.heap = h704 := e716.trans hh716
        have pre730 : ∀ t, own_S p e below m T716 340 #[lvI p0_, lvI p1_, lvI (3 : Int32), lvI z467, lvI (0 : Int32), lvI (1 : Int32), lvR b475, lvR b484, lvR b496, lvR b510, lvR b510, lvR b484, lvR b496, lvR b510, lvI (2 : Int32), lvR b484, lvR b496, .val .null, lvI (0 : Int32), lvI (1 : Int32)] [(.int (1 : Int32))] t → G t := by
          intro t kt
          refine pre604 t ?_
          show own_S p e below m T582 119 #[lvI p0_, lvI p1_, lvI (3 : Int32), lvI z467, lvI (0 : Int32), lvI (1 : Int32), lvR b475, lvR b484, lvR b496, lvR b510, .unset, .unset, .unset, .unset, .unset, .unset, .unset, .unset, .unset, .unset] [(.int (1 : Int32)), (.ref b510), (.ref b475)] _
          refine st669.trans ?_
          refine XS.aconstNull X669.here hx rfl (hb hby at_122) ?_
          refine XS.astore X669.here hx rfl (hb hby at_123) rfl rfl (l' := #[lvI p0_, lvI p1_, lvI (3 : Int32), lvI z467, lvI (0 : Int32), lvI (1 : Int32), lvR b475, lvR b484, lvR b496, lvR b510, .val .null, .unset, .unset, .unset, .unset, .unset, .unset, .unset, .unset, .unset]) rfl ?_
          refine XS.aconstNull X669.here hx rfl (hb hby at_125) ?_
          show own_S p e below m T669 126 #[lvI p0_, lvI p1_, lvI (3 : Int32), lvI z467, lvI (0 : Int32), lvI (1 : Int32), lvR b475, lvR b484, lvR b496, lvR b510, .val .null, .unset, .unset, .unset, .unset, .unset, .unset, .unset, .unset, .unset] [.null] _
          refine XS.astore X669.here hx rfl (hb hby at_126) rfl rfl (l' := #[lvI p0_, lvI p1_, lvI (3 : Int32), lvI z467, lvI (0 : Int32), lvI (1 : Int32), lvR b475, lvR b484, lvR b496, lvR b510, .val .null, .val .null, .unset, .unset, .unset, .unset, .unset, .unset, .unset, .unset]) rfl ?_
          refine XS.aconstNull X669.here hx rfl (hb hby at_128) ?_
          refine XS.astore X669.here hx rfl (hb hby at_129) rfl rfl (l' := #[lvI p0_, lvI p1_, lvI (3 : Int32), lvI z467, lvI (0 : Int32), lvI (1 : Int32), lvR b475, lvR b484, lvR b496, lvR b510, .val .null, .val .null, .val .null, .unset, .unset, .unset, .unset, .unset, .unset, .unset]) rfl ?_
          refine XS.iloadN X669.here hx rfl (hb hby at_131) rfl ?_
          show own_S p e below m T669 132 #[lvI p0_, lvI p1_, lvI (3 : Int32), lvI z467, lvI (0 : Int32), lvI (1 : Int32), lvR b475, lvR b484, lvR b496, lvR b510, .val .null, .val .null, .val .null, .unset, .unset, .unset, .unset, .unset, .unset, .unset] [(.int (3 : Int32))] _
          refine XS.iconst X669.here hx rfl (hb hby at_132) ?_
          show own_S p e below m T669 133 #[lvI p0_, lvI p1_, lvI (3 : Int32), lvI z467, lvI (0 : Int32), lvI (1 : Int32), lvR b475, lvR b484, lvR b496, lvR b510, .val .null, .val .null, .val .null, .unset, .unset, .unset, .unset, .unset, .unset, .unset] [(.int (1 : Int32)), (.int (3 : Int32))] _
          refine XS.icmpYes X669.here hx rfl (pc0 := 133) (pc' := 143) rfl (hb hby at_133) rfl (feq (by decide : ¬ ((3 : Int32) = (1 : Int32)))).2 (by decide) (by decide) ?_
          refine XS.iloadN X669.here hx rfl (hb hby at_143) rfl ?_
          refine XS.iconst X669.here hx rfl (hb hby at_144) ?_
          show own_S p e below m T669 145 #[lvI p0_, lvI p1_, lvI (3 : Int32), lvI z467, lvI (0 : Int32), lvI (1 : Int32), lvR b475, lvR b484, lvR b496, lvR b510, .val .null, .val .null, .val .null, .unset, .unset, .unset, .unset, .unset, .unset, .unset] [(.int (2 : Int32)), (.int (3 : Int32))] _
          refine XS.icmpNo X669.here hx rfl (hb hby at_145) rfl (flt (by decide : ¬ ((3 : Int32) < (2 : Int32)))).1 ?_
          refine XS.iload X669.here hx rfl (hb hby at_148) rfl ?_
          show own_S p e below m T669 150 #[lvI p0_, lvI p1_, lvI (3 : Int32), lvI z467, lvI (0 : Int32), lvI (1 : Int32), lvR b475, lvR b484, lvR b496, lvR b510, .val .null, .val .null, .val .null, .unset, .unset, .unset, .unset, .unset, .unset, .unset] [(.int (0 : Int32))] _
          refine XS.ifYes X669.here hx rfl (pc0 := 150) (pc' := 164) rfl (hb hby at_150) rfl ((if0 _ _).trans (teq (by decide : (0 : Int32) = (0 : Int32))).1) (by decide) (by decide) ?_
          refine XS.aload X669.here hx rfl (hb hby at_164) rfl rfl ?_
          refine XS.astore X669.here hx rfl (hb hby at_166) rfl rfl (l' := #[lvI p0_, lvI p1_, lvI (3 : Int32), lvI z467, lvI (0 : Int32), lvI (1 : Int32), lvR b475, lvR b484, lvR b496, lvR b510, lvR b484, .val .null, .val .null, .unset, .unset, .unset, .unset, .unset, .unset, .unset]) rfl ?_
          refine XS.aload X669.here hx rfl (hb hby at_168) rfl rfl ?_
          show own_S p e below m T669 170 #[lvI p0_, lvI p1_, lvI (3 : Int32), lvI z467, lvI (0 : Int32), lvI (1 : Int32), lvR b475, lvR b484, lvR b496, lvR b510, lvR b484, .val .null, .val .null, .unset, .unset, .unset, .unset, .unset, .unset, .unset] [(.ref b496)] _
          refine XS.astore X669.here hx rfl (hb hby at_170) rfl rfl (l' := #[lvI p0_, lvI p1_, lvI (3 : Int32), lvI z467, lvI (0 : Int32), lvI (1 : Int32), lvR b475, lvR b484, lvR b496, lvR b510, lvR b484, lvR b496, .val .null, .unset, .unset, .unset, .unset, .unset, .unset, .unset]) rfl ?_
          refine XS.iloadN X669.here hx rfl (hb hby at_172) rfl ?_
          refine XS.iconst X669.here hx rfl (hb hby at_173) ?_
          show own_S p e below m T669 174 #[lvI p0_, lvI p1_, lvI (3 : Int32), lvI z467, lvI (0 : Int32), lvI (1 : Int32), lvR b475, lvR b484, lvR b496, lvR b510, lvR b484, lvR b496, .val .null, .unset, .unset, .unset, .unset, .unset, .unset, .unset] [(.int (3 : Int32)), (.int (3 : Int32))] _
          refine XS.icmpNo X669.here hx rfl (hb hby at_174) rfl (teq (by decide : (3 : Int32) = (3 : Int32))).2 ?_
          refine XS.iload X669.here hx rfl (hb hby at_177) rfl ?_
          show own_S p e below m T669 179 #[lvI p0_, lvI p1_, lvI (3 : Int32), lvI z467, lvI (0 : Int32), lvI (1 : Int32), lvR b475, lvR b484, lvR b496, lvR b510, lvR b484, lvR b496, .val .null, .unset, .unset, .unset, .unset, .unset, .unset, .unset] [(.int (1 : Int32))] _
          refine XS.ifNo X669.here hx rfl (hb hby at_179) rfl ((if0 _ _).trans (feq (by decide : ¬ ((1 : Int32) = (0 : Int32)))).1) ?_
          refine XS.aload X669.here hx rfl (hb hby at_182) rfl rfl ?_
          refine XS.astore X669.here hx rfl (hb hby at_184) rfl rfl (l' := #[lvI p0_, lvI p1_, lvI (3 : Int32), lvI z467, lvI (0 : Int32), lvI (1 : Int32), lvR b475, lvR b484, lvR b496, lvR b510, lvR b484, lvR b496, lvR b496, .unset, .unset, .unset, .unset, .unset, .unset, .unset]) rfl ?_
          refine XS.aload X669.here hx rfl (hb hby at_186) rfl rfl ?_
          show own_S p e below m T669 188 #[lvI p0_, lvI p1_, lvI (3 : Int32), lvI z467, lvI (0 : Int32), lvI (1 : Int32), lvR b475, lvR b484, lvR b496, lvR b510, lvR b484, lvR b496, lvR b496, .unset, .unset, .unset, .unset, .unset, .unset, .unset] [(.ref b484)] _
          refine XS.astore X669.here hx rfl (hb hby at_188) rfl rfl (l' := #[lvI p0_, lvI p1_, lvI (3 : Int32), lvI z467, lvI (0 : Int32), lvI (1 : Int32), lvR b475, lvR b484, lvR b496, lvR b510, lvR b484, lvR b484, lvR b496, .unset, .unset, .unset, .unset, .unset, .unset, .unset]) rfl ?_
          refine XS.aload X669.here hx rfl (hb hby at_190) rfl rfl ?_
          refine XS.astore X669.here hx rfl (hb hby at_192) rfl rfl (l' := #[lvI p0_, lvI p1_, lvI (3 : Int32), lvI z467, lvI (0 : Int32), lvI (1 : Int32), lvR b475, lvR b484, lvR b496, lvR b510, lvR b510, lvR b484, lvR b496, .unset, .unset, .unset, .unset, .unset, .unset, .unset]) rfl ?_
          refine XS.goto X669.here hx rfl (pc0 := 194) (pc' := 201) rfl (hb hby at_194) (by decide) (by decide) ?_
          show own_S p e below m T669 201 #[lvI p0_, lvI p1_, lvI (3 : Int32), lvI z467, lvI (0 : Int32), lvI (1 : Int32), lvR b475, lvR b484, lvR b496, lvR b510, lvR b510, lvR b484, lvR b496, .unset, .unset, .unset, .unset, .unset, .unset, .unset] [] _
          refine XS.aload X669.here hx rfl (hb hby at_201) rfl rfl ?_
          show own_S p e below m T669 203 #[lvI p0_, lvI p1_, lvI (3 : Int32), lvI z467, lvI (0 : Int32), lvI (1 : Int32), lvR b475, lvR b484, lvR b496, lvR b510, lvR b510, lvR b484, lvR b496, .unset, .unset, .unset, .unset, .unset, .unset, .unset] [(.ref b475)] _
          refine st684.trans ?_
          refine XS.astore X684.here hx rfl (hb hby at_206) rfl rfl (l' := #[lvI p0_, lvI p1_, lvI (3 : Int32), lvI z467, lvI (0 : Int32), lvI (1 : Int32), lvR b475, lvR b484, lvR b496, lvR b510, lvR b510, lvR b484, lvR b496, lvR b510, .unset, .unset, .unset, .unset, .unset, .unset]) rfl ?_
          refine XS.aload X684.here hx rfl (hb hby at_208) rfl rfl ?_
          show own_S p e below m T684 210 #[lvI p0_, lvI p1_, lvI (3 : Int32), lvI z467, lvI (0 : Int32), lvI (1 : Int32), lvR b475, lvR b484, lvR b496, lvR b510, lvR b510, lvR b484, lvR b496, lvR b510, .unset, .unset, .unset, .unset, .unset, .unset] [(.ref b475)] _
          refine st693.trans ?_
          refine XS.istore X693.here hx rfl (hb hby at_213) rfl (l' := #[lvI p0_, lvI p1_, lvI (3 : Int32), lvI z467, lvI (0 : Int32), lvI (1 : Int32), lvR b475, lvR b484, lvR b496, lvR b510, lvR b510, lvR b484, lvR b496, lvR b510, lvI (2 : Int32), .unset, .unset, .unset, .unset, .unset]) rfl ?_
          refine XS.aload X693.here hx rfl (hb hby at_215) rfl rfl ?_
          show own_S p e below m T693 217 #[lvI p0_, lvI p1_, lvI (3 : Int32), lvI z467, lvI (0 : Int32), lvI (1 : Int32), lvR b475, lvR b484, lvR b496, lvR b510, lvR b510, lvR b484, lvR b496, lvR b510, lvI (2 : Int32), .unset, .unset, .unset, .unset, .unset] [(.ref b475)] _
          refine st702.trans ?_
          refine XS.astore X702.here hx rfl (hb hby at_220) rfl rfl (l' := #[lvI p0_, lvI p1_, lvI (3 : Int32), lvI z467, lvI (0 : Int32), lvI (1 : Int32), lvR b475, lvR b484, lvR b496, lvR b510, lvR b510, lvR b484, lvR b496, lvR b510, lvI (2 : Int32), lvR b484, .unset, .unset, .unset, .unset]) rfl ?_
          refine XS.aload X702.here hx rfl (hb hby at_222) rfl rfl ?_
          show own_S p e below m T702 224 #[lvI p0_, lvI p1_, lvI (3 : Int32), lvI z467, lvI (0 : Int32), lvI (1 : Int32), lvR b475, lvR b484, lvR b496, lvR b510, lvR b510, lvR b484, lvR b496, lvR b510, lvI (2 : Int32), lvR b484, .unset, .unset, .unset, .unset] [(.ref b475)] _
          refine st704.trans ?_
          refine XS.astore X704.here hx rfl (hb hby at_227) rfl rfl (l' := #[lvI p0_, lvI p1_, lvI (3 : Int32), lvI z467, lvI (0 : Int32), lvI (1 : Int32), lvR b475, lvR b484, lvR b496, lvR b510, lvR b510, lvR b484, lvR b496, lvR b510, lvI (2 : Int32), lvR b484, lvR b496, .unset, .unset, .unset]) rfl ?_
          refine XS.aload X704.here hx rfl (hb hby at_229) rfl rfl ?_
          show own_S p e below m T704 231 #[lvI p0_, lvI p1_, lvI (3 : Int32), lvI z467, lvI (0 : Int32), lvI (1 : Int32), lvR b475, lvR b484, lvR b496, lvR b510, lvR b510, lvR b484, lvR b496, lvR b510, lvI (2 : Int32), lvR b484, lvR b496, .unset, .unset, .unset] [(.ref b475)] _
          refine st707.trans ?_
          refine XS.astore X707.here hx rfl (hb hby at_234) rfl rfl (l' := #[lvI p0_, lvI p1_, lvI (3 : Int32), lvI z467, lvI (0 : Int32), lvI (1 : Int32), lvR b475, lvR b484, lvR b496, lvR b510, lvR b510, lvR b484, lvR b496, lvR b510, lvI (2 : Int32), lvR b484, lvR b496, .val .null, .unset, .unset]) rfl ?_
          refine XS.aload X707.here hx rfl (hb hby at_236) rfl rfl ?_
          show own_S p e below m T707 238 #[lvI p0_, lvI p1_, lvI (3 : Int32), lvI z467, lvI (0 : Int32), lvI (1 : Int32), lvR b475, lvR b484, lvR b496, lvR b510, lvR b510, lvR b484, lvR b496, lvR b510, lvI (2 : Int32), lvR b484, lvR b496, .val .null, .unset, .unset] [(.ref b475)] _
          refine st710.trans ?_
          refine XS.istore X710.here hx rfl (hb hby at_241) rfl (l' := #[lvI p0_, lvI p1_, lvI (3 : Int32), lvI z467, lvI (0 : Int32), lvI (1 : Int32), lvR b475, lvR b484, lvR b496, lvR b510, lvR b510, lvR b484, lvR b496, lvR b510, lvI (2 : Int32), lvR b484, lvR b496, .val .null, lvI (0 : Int32), .unset]) rfl ?_
          refine XS.aload X710.here hx rfl (hb hby at_243) rfl rfl ?_
          refine XS.aload X710.here hx rfl (hb hby at_245) rfl rfl ?_
          show own_S p e below m T710 247 #[lvI p0_, lvI p1_, lvI (3 : Int32), lvI z467, lvI (0 : Int32), lvI (1 : Int32), lvR b475, lvR b484, lvR b496, lvR b510, lvR b510, lvR b484, lvR b496, lvR b510, lvI (2 : Int32), lvR b484, lvR b496, .val .null, lvI (0 : Int32), .unset] [(.ref b510), (.ref b510)] _
          refine Jvm.RoadKit.acmp (g := (mkF m 247 #[lvI p0_, lvI p1_, lvI (3 : Int32), lvI z467, lvI (0 : Int32), lvI (1 : Int32), lvR b475, lvR b484, lvR b496, lvR b510, lvR b510, lvR b484, lvR b496, lvR b510, lvI (2 : Int32), lvR b484, lvR b496, .val .null, lvI (0 : Int32), .unset] [(.ref b510), (.ref b510)])) X710 hx rfl rfl rfl (pc0 := 247) (pc' := 250) (same := true) rfl (hb hby at_247) rfl (decide_eq_true rfl) (by decide) (by decide) ?_
          refine XS.aload X710.here hx rfl (hb hby at_250) rfl rfl ?_
          refine XS.aload X710.here hx rfl (hb hby at_252) rfl rfl ?_
          show own_S p e below m T710 254 #[lvI p0_, lvI p1_, lvI (3 : Int32), lvI z467, lvI (0 : Int32), lvI (1 : Int32), lvR b475, lvR b484, lvR b496, lvR b510, lvR b510, lvR b484, lvR b496, lvR b510, lvI (2 : Int32), lvR b484, lvR b496, .val .null, lvI (0 : Int32), .unset] [(.ref b484), (.ref b484)] _
          refine Jvm.RoadKit.acmp (g := (mkF m 254 #[lvI p0_, lvI p1_, lvI (3 : Int32), lvI z467, lvI (0 : Int32), lvI (1 : Int32), lvR b475, lvR b484, lvR b496, lvR b510, lvR b510, lvR b484, lvR b496, lvR b510, lvI (2 : Int32), lvR b484, lvR b496, .val .null, lvI (0 : Int32), .unset] [(.ref b484), (.ref b484)])) X710 hx rfl rfl rfl (pc0 := 254) (pc' := 257) (same := true) rfl (hb hby at_254) rfl (decide_eq_true rfl) (by decide) (by decide) ?_
          refine XS.aload X710.here hx rfl (hb hby at_257) rfl rfl ?_
          refine XS.aload X710.here hx rfl (hb hby at_259) rfl rfl ?_
          show own_S p e below m T710 261 #[lvI p0_, lvI p1_, lvI (3 : Int32), lvI z467, lvI (0 : Int32), lvI (1 : Int32), lvR b475, lvR b484, lvR b496, lvR b510, lvR b510, lvR b484, lvR b496, lvR b510, lvI (2 : Int32), lvR b484, lvR b496, .val .null, lvI (0 : Int32), .unset] [(.ref b496), (.ref b496)] _
          refine Jvm.RoadKit.acmp (g := (mkF m 261 #[lvI p0_, lvI p1_, lvI (3 : Int32), lvI z467, lvI (0 : Int32), lvI (1 : Int32), lvR b475, lvR b484, lvR b496, lvR b510, lvR b510, lvR b484, lvR b496, lvR b510, lvI (2 : Int32), lvR b484, lvR b496, .val .null, lvI (0 : Int32), .unset] [(.ref b496), (.ref b496)])) X710 hx rfl rfl rfl (pc0 := 261) (pc' := 264) (same := true) rfl (hb hby at_261) rfl (decide_eq_true rfl) (by decide) (by decide) ?_
          refine XS.aload X710.here hx rfl (hb hby at_264) rfl rfl ?_
          show own_S p e below m T710 266 #[lvI p0_, lvI p1_, lvI (3 : Int32), lvI z467, lvI (0 : Int32), lvI (1 : Int32), lvR b475, lvR b484, lvR b496, lvR b510, lvR b510, lvR b484, lvR b496, lvR b510, lvI (2 : Int32), lvR b484, lvR b496, .val .null, lvI (0 : Int32), .unset] [.null] _
          refine XS.ifnonnullNo X710.here hx rfl (hb hby at_266) rfl ?_
          refine XS.iconst X710.here hx rfl (hb hby at_269) ?_
          refine XS.goto X710.here hx rfl (pc0 := 270) (pc' := 274) rfl (hb hby at_270) (by decide) (by decide) ?_
          refine XS.istore X710.here hx rfl (hb hby at_274) rfl (l' := #[lvI p0_, lvI p1_, lvI (3 : Int32), lvI z467, lvI (0 : Int32), lvI (1 : Int32), lvR b475, lvR b484, lvR b496, lvR b510, lvR b510, lvR b484, lvR b496, lvR b510, lvI (2 : Int32), lvR b484, lvR b496, .val .null, lvI (0 : Int32), lvI (1 : Int32)]) rfl ?_
          show own_S p e below m T710 276 #[lvI p0_, lvI p1_, lvI (3 : Int32), lvI z467, lvI (0 : Int32), lvI (1 : Int32), lvR b475, lvR b484, lvR b496, lvR b510, lvR b510, lvR b484, lvR b496, lvR b510, lvI (2 : Int32), lvR b484, lvR b496, .val .null, lvI (0 : Int32), lvI (1 : Int32)] [] _
          refine XS.iload X710.here hx rfl (hb hby at_276) rfl ?_
          show own_S p e below m T710 278 #[lvI p0_, lvI p1_, lvI (3 : Int32), lvI z467, lvI (0 : Int32), lvI (1 : Int32), lvR b475, lvR b484, lvR b496, lvR b510, lvR b510, lvR b484, lvR b496, lvR b510, lvI (2 : Int32), lvR b484, lvR b496, .val .null, lvI (0 : Int32), lvI (1 : Int32)] [(.int (1 : Int32))] _
          refine XS.ifNo X710.here hx rfl (hb hby at_278) rfl ((if0 _ _).trans (feq (by decide : ¬ ((1 : Int32) = (0 : Int32)))).1) ?_
          refine XS.iload X710.here hx rfl (hb hby at_281) rfl ?_
          refine XS.iloadN X710.here hx rfl (hb hby at_283) rfl ?_
          refine XS.iconst X710.here hx rfl (hb hby at_284) ?_
          show own_S p e below m T710 285 #[lvI p0_, lvI p1_, lvI (3 : Int32), lvI z467, lvI (0 : Int32), lvI (1 : Int32), lvR b475, lvR b484, lvR b496, lvR b510, lvR b510, lvR b484, lvR b496, lvR b510, lvI (2 : Int32), lvR b484, lvR b496, .val .null, lvI (0 : Int32), lvI (1 : Int32)] [(.int (1 : Int32)), (.int (3 : Int32)), (.int (2 : Int32))] _
          refine XS.isub X710.here hx rfl (hb hby at_285) rfl ?_
          refine XS.iconst X710.here hx rfl (hb hby at_286) ?_
          show own_S p e below m T710 287 #[lvI p0_, lvI p1_, lvI (3 : Int32), lvI z467, lvI (0 : Int32), lvI (1 : Int32), lvR b475, lvR b484, lvR b496, lvR b510, lvR b510, lvR b484, lvR b496, lvR b510, lvI (2 : Int32), lvR b484, lvR b496, .val .null, lvI (0 : Int32), lvI (1 : Int32)] [(.int (0 : Int32)), (.int (2 : Int32)), (.int (2 : Int32))] _
          refine st712 _ ?_
          show own_S p e below m T712 290 #[lvI p0_, lvI p1_, lvI (3 : Int32), lvI z467, lvI (0 : Int32), lvI (1 : Int32), lvR b475, lvR b484, lvR b496, lvR b510, lvR b510, lvR b484, lvR b496, lvR b510, lvI (2 : Int32), lvR b484, lvR b496, .val .null, lvI (0 : Int32), lvI (1 : Int32)] [(.int (2 : Int32)), (.int (2 : Int32))] _
          refine XS.icmpNo X712.here hx rfl (hb hby at_290) rfl (teq (by decide : (2 : Int32) = (2 : Int32))).2 ?_
          refine XS.iload X712.here hx rfl (hb hby at_293) rfl ?_
          show own_S p e below m T712 295 #[lvI p0_, lvI p1_, lvI (3 : Int32), lvI z467, lvI (0 : Int32), lvI (1 : Int32), lvR b475, lvR b484, lvR b496, lvR b510, lvR b510, lvR b484, lvR b496, lvR b510, lvI (2 : Int32), lvR b484, lvR b496, .val .null, lvI (0 : Int32), lvI (1 : Int32)] [(.int (0 : Int32))] _
          refine XS.ifNo X712.here hx rfl (hb hby at_295) rfl ((if0 _ _).trans (teq (by decide : (0 : Int32) = (0 : Int32))).2) ?_
          refine XS.aload X712.here hx rfl (hb hby at_298) rfl rfl ?_
          show own_S p e below m T712 300 #[lvI p0_, lvI p1_, lvI (3 : Int32), lvI z467, lvI (0 : Int32), lvI (1 : Int32), lvR b475, lvR b484, lvR b496, lvR b510, lvR b510, lvR b484, lvR b496, lvR b510, lvI (2 : Int32), lvR b484, lvR b496, .val .null, lvI (0 : Int32), lvI (1 : Int32)] [(.ref b475)] _
          refine st714.trans ?_
          show own_S p e below m T714 303 #[lvI p0_, lvI p1_, lvI (3 : Int32), lvI z467, lvI (0 : Int32), lvI (1 : Int32), lvR b475, lvR b484, lvR b496, lvR b510, lvR b510, lvR b484, lvR b496, lvR b510, lvI (2 : Int32), lvR b484, lvR b496, .val .null, lvI (0 : Int32), lvI (1 : Int32)] [.null] _
          refine XS.ifnonnullNo X714.here hx rfl (hb hby at_303) rfl ?_
          refine XS.iconst X714.here hx rfl (hb hby at_306) ?_
          refine XS.goto X714.here hx rfl (pc0 := 307) (pc' := 311) rfl (hb hby at_307) (by decide) (by decide) ?_
          refine XS.istore X714.here hx rfl (hb hby at_311) rfl (l' := #[lvI p0_, lvI p1_, lvI (3 : Int32), lvI z467, lvI (0 : Int32), lvI (1 : Int32), lvR b475, lvR b484, lvR b496, lvR b510, lvR b510, lvR b484, lvR b496, lvR b510, lvI (2 : Int32), lvR b484, lvR b496, .val .null, lvI (0 : Int32), lvI (1 : Int32)]) rfl ?_
          show own_S p e below m T714 313 #[lvI p0_, lvI p1_, lvI (3 : Int32), lvI z467, lvI (0 : Int32), lvI (1 : Int32), lvR b475, lvR b484, lvR b496, lvR b510, lvR b510, lvR b484, lvR b496, lvR b510, lvI (2 : Int32), lvR b484, lvR b496, .val .null, lvI (0 : Int32), lvI (1 : Int32)] [] _
          refine XS.iload X714.here hx rfl (hb hby at_313) rfl ?_
          show own_S p e below m T714 315 #[lvI p0_, lvI p1_, lvI (3 : Int32), lvI z467, lvI (0 : Int32), lvI (1 : Int32), lvR b475, lvR b484, lvR b496, lvR b510, lvR b510, lvR b484, lvR b496, lvR b510, lvI (2 : Int32), lvR b484, lvR b496, .val .null, lvI (0 : Int32), lvI (1 : Int32)] [(.int (1 : Int32))] _
          refine XS.ifNo X714.here hx rfl (hb hby at_315) rfl ((if0 _ _).trans (feq (by decide : ¬ ((1 : Int32) = (0 : Int32)))).1) ?_
          refine XS.aload X714.here hx rfl (hb hby at_318) rfl rfl ?_
          show own_S p e below m T714 320 #[lvI p0_, lvI p1_, lvI (3 : Int32), lvI z467, lvI (0 : Int32), lvI (1 : Int32), lvR b475, lvR b484, lvR b496, lvR b510, lvR b510, lvR b484, lvR b496, lvR b510, lvI (2 : Int32), lvR b484, lvR b496, .val .null, lvI (0 : Int32), lvI (1 : Int32)] [(.ref b510)] _
          refine XS.ifnullNo X714.here hx rfl (hb hby at_320) rfl ?_
          refine XS.aload X714.here hx rfl (hb hby at_323) rfl rfl ?_
          show own_S p e below m T714 325 #[lvI p0_, lvI p1_, lvI (3 : Int32), lvI z467, lvI (0 : Int32), lvI (1 : Int32), lvR b475, lvR b484, lvR b496, lvR b510, lvR b510, lvR b484, lvR b496, lvR b510, lvI (2 : Int32), lvR b484, lvR b496, .val .null, lvI (0 : Int32), lvI (1 : Int32)] [(.ref b510)] _
          refine st716.trans ?_
          show own_S p e below m T716 328 #[lvI p0_, lvI p1_, lvI (3 : Int32), lvI z467, lvI (0 : Int32), lvI (1 : Int32), lvR b475, lvR b484, lvR b496, lvR b510, lvR b510, lvR b484, lvR b496, lvR b510, lvI (2 : Int32), lvR b484, lvR b496, .val .null, lvI (0 : Int32), lvI (1 : Int32)] [(.int (0 : Int32))] _
          refine XS.ifNo X716.here hx rfl (hb hby at_328) rfl ((if0 _ _).trans (teq (by decide : (0 : Int32) = (0 : Int32))).2) ?_
          refine XS.iconst X716.here hx rfl (hb hby at_331) ?_
          refine XS.goto X716.here hx rfl (pc0 := 332) (pc' := 336) rfl (hb hby at_332) (by decide) (by decide) ?_
          refine XS.istore X716.here hx rfl (hb hby at_336) rfl (l' := #[lvI p0_, lvI p1_, lvI (3 : Int32), lvI z467, lvI (0 : Int32), lvI (1 : Int32), lvR b475, lvR b484, lvR b496, lvR b510, lvR b510, lvR b484, lvR b496, lvR b510, lvI (2 : Int32), lvR b484, lvR b496, .val .null, lvI (0 : Int32), lvI (1 : Int32)]) rfl ?_
          show own_S p e below m T716 338 #[lvI p0_, lvI p1_, lvI (3 : Int32), lvI z467, lvI (0 : Int32), lvI (1 : Int32), lvR b475, lvR b484, lvR b496, lvR b510, lvR b510, lvR b484, lvR b496, lvR b510, lvI (2 : Int32), lvR b484, lvR b496, .val .null, lvI (0 : Int32), lvI (1 : Int32)] [] _
          refine XS.iload X716.here hx rfl (hb hby at_338) rfl ?_
          exact kt
        obtain ⟨fs, hr, hrun, hended, hW, hsame⟩ := X716.leave (v := some (.int (1 : Int32))) (fun h => by rw [Bd.returns] at h; cases h)
        refine ⟨_, _, hG _ (pre730 _ (retN X716 hx (t := .boolean) Bd.returns (by simp) (hb hby at_340) hr)), hrun, hended, _, _, rfl, ?_, ⟨_, rfl⟩, hW, hsame.mono (by decide) (by decide)⟩
        show QLaw Z p0_ p1_ h0 n0 _ T716.heap _
        rw [e716']
        exact ⟨rfl, N729⟩
    · have f733 : Exa Z h510 b496 cn0 := g507_0.ext E510
      have f734 : Exa Z h521 b496 cn0 := f733.keep K521
      have f735 : Exa Z h524 b496 cn0 := f734.keep K524
      have f736 : Fld Z h510 b496 cn0 "thread" "Ljava/lang/Thread;" .null := g507_1.ext E510
      have ne738 : b496 ≠ b510 := Nat.ne_of_lt (Nat.lt_of_lt_of_le g507_0.lt (Nat.le_of_eq g510.symm))
      have f737 : Fld Z h521 b496 cn0 "thread" "Ljava/lang/Thread;" .null := f736.keep K521 (ninS ne738 nin0)
      have f739 : Fld Z h524 b496 cn0 "thread" "Ljava/lang/Thread;" .null := f737.keep K524 (ninS (Ne.symm ne536) (ninS (Ne.symm ne558) nin0))
      have f740 : Fld Z h510 b496 cn0 "picked" "Z" (.int (0 : Int32)) := g507_2.ext E510
      have f741 : Fld Z h521 b496 cn0 "picked" "Z" (.int (0 : Int32)) := f740.keep K521 (ninS ne738 nin0)
      have f742 : Fld Z h524 b496 cn0 "picked" "Z" (.int (0 : Int32)) := f741.keep K524 (ninS (Ne.symm ne536) (ninS (Ne.symm ne558) nin0))
      have f743 : Fld Z h510 b496 cn0 "queued" "Z" (.int (0 : Int32)) := g507_3.ext E510
      have f744 : Fld Z h521 b496 cn0 "queued" "Z" (.int (0 : Int32)) := f743.keep K521 (ninS ne738 nin0)
      have f745 : Fld Z h524 b496 cn0 "queued" "Z" (.int (0 : Int32)) := f744.keep K524 (ninS (Ne.symm ne536) (ninS (Ne.symm ne558) nin0))
      have f746 : Fld Z h510 b496 cn0 "next" "Llatchwork/WaitQueue$Waiter;" .null := g507_4.ext E510
      have f747 : Fld Z h521 b496 cn0 "next" "Llatchwork/WaitQueue$Waiter;" .null := f746.keep K521 (ninS ne738 nin0)
      have f748 : Fld Z h524 b496 cn0 "next" "Llatchwork/WaitQueue$Waiter;" .null := f747.keep K524 (ninS (Ne.symm ne536) (ninS (Ne.symm ne558) nin0))
      have f749 : Fld Z h510 b496 cn0 "prev" "Llatchwork/WaitQueue$Waiter;" .null := g507_5.ext E510
      have f750 : Fld Z h521 b496 cn0 "prev" "Llatchwork/WaitQueue$Waiter;" .null := f749.keep K521 (ninS ne738 nin0)
      have f751 : Fld Z h524 b496 cn0 "prev" "Llatchwork/WaitQueue$Waiter;" .null := f750.keep K524 (ninS (Ne.symm ne536) (ninS (Ne.symm ne558) nin0))
      have f752 : Old Z n0 h524 := f578.keep K524 (allS (ge476) (allS (ge485) all0))
      obtain ⟨cq732, kq732, q732a, q732b, q732c⟩ := isOf hZ e524 g524_0
      obtain ⟨_, _, ⟨T732, L732, k732, n732⟩, -, X732, ⟨Lc732, hQ732, l732, y732, z732⟩, st732⟩ := X524.virtualBack hx (y := (⟨"latchwork/WaitQueue", "add", "(Llatchwork/WaitQueue$Waiter;Z)V"⟩ : MethodName)) (z := (⟨"latchwork/WaitQueue", "add", "(Llatchwork/WaitQueue$Waiter;Z)V"⟩ : MethodName)) hown (mvT hZ (own_w hw 41 rfl)) (mvT hZ (own_w hw 42 rfl)) (notFace_of_selects (args := #[]) (mvT hZ (own_w hw 44 rfl))) (mvT hZ (own_w hw 44 rfl)) (mvT hZ (own_w hw 43 rfl)) (by decide) (backOf (W := 0) (rmadd17 l Z a0 hw [] b475 b496 b484 h524 n0 f752 g524_0 g524_1 g524_2 g524_3 f735 f739 f742 f745 f748 f751 g524_4 g524_5 g524_6 g524_7 g524_8 g524_9 ge498 ne536 ne558 ge485 ne533 ge476) hZ (own_w hw 45 rfl) (own_w hw 2 rfl) (by decide) (by decide)) q732a q732c (g := (mkF m 105 #[lvI p0_, lvI p1_, lvI (3 : Int32), lvI z467, lvI (1 : Int32), lvI z473, lvR b475, lvR b484, lvR b496, lvR b510, .unset, .unset, .unset, .unset, .unset, .unset, .unset, .unset, .unset, .unset] [(.int (1 : Int32)), (.ref b496), (.ref b475)])) rfl (by rw [hml]; rfl) (Steps.refl _) (argsL := [(.ref b496), (.int (1 : Int32))]) (rest := []) (lenOf pd_5 rfl) rfl (by show 2 * 0 + _ ≤ _; exact Nat.le_of_eq rfl) (hb hby at_105) (fun _ _ => ⟨rfl, e524, (by decide : 4 + 0 ≤ _), (by decide : 28 + 0 ≤ _)⟩)
      dsimp only [Pt.U, Pt.locs, Pt.cells, Pt.slots] at X732 l732 y732 z732 st732 hQ732
      subst l732 y732 z732
      obtain ⟨h732, e732⟩ : ∃ z, T732.heap = z := ⟨_, rfl⟩
      rw [e732] at hQ732
      obtain ⟨rfl, N732q, K732, g732_0, g732_1, g732_2, g732_3, g732_4, g732_5, g732_6, g732_7, g732_8, g732_9, g732_10, g732_11, g732_12, g732_13, g732_14, g732_15⟩ := hQ732
      have N753 := Fr.app N579 N732q
      have pre754 : ∀ t, own_S p e below m T732 119 #[lvI p0_, lvI p1_, lvI (3 : Int32), lvI z467, lvI (1 : Int32), lvI z473, lvR b475, lvR b484, lvR b496, lvR b510, .unset, .unset, .unset, .unset, .unset, .unset, .unset, .unset, .unset, .unset] [(.int z473), (.ref b510), (.ref b475)] t → G t := by
        intro t kt
        refine pre580 t ?_
        show own_S p e below m T524 105 #[lvI p0_, lvI p1_, lvI (3 : Int32), lvI z467, lvI (1 : Int32), lvI z473, lvR b475, lvR b484, lvR b496, lvR b510, .unset, .unset, .unset, .unset, .unset, .unset, .unset, .unset, .unset, .unset] [(.int (1 : Int32)), (.ref b496), (.ref b475)] _
        refine st732.trans ?_
        refine XS.iloadN X732.here hx rfl (hb hby at_108) rfl ?_
        refine XS.iconst X732.here hx rfl (hb hby at_109) ?_
        show own_S p e below m T732 110 #[lvI p0_, lvI p1_, lvI (3 : Int32), lvI z467, lvI (1 : Int32), lvI z473, lvR b475, lvR b484, lvR b496, lvR b510, .unset, .unset, .unset, .unset, .unset, .unset, .unset, .unset, .unset, .unset] [(.int (3 : Int32)), (.int (3 : Int32))] _
        refine XS.icmpNo X732.here hx rfl (hb hby at_110) rfl (flt (by decide : ¬ ((3 : Int32) < (3 : Int32)))).1 ?_
        refine XS.aload X732.here hx rfl (hb hby at_113) rfl rfl ?_
        refine XS.aload X732.here hx rfl (hb hby at_115) rfl rfl ?_
        refine XS.iload X732.here hx rfl (hb hby at_117) rfl ?_
        exact kt
      rcases hz473 with ⟨rfl, hj755⟩ | ⟨rfl, hj755⟩
      · have f757 : Exa Z h524 b510 cn0 := g521_0.keep K524
        have f758 : Exa Z h732 b510 cn0 := f757.keep K732
        have f759 : Fld Z h524 b510 cn0 "thread" "Ljava/lang/Thread;" .null := g521_1.keep K524 (ninS (Ne.symm ne539) (ninS (Ne.symm ne561) nin0))
        have f760 : Fld Z h732 b510 cn0 "thread" "Ljava/lang/Thread;" .null := f759.keep K732 (ninS (Ne.symm ne738) (ninS (Ne.symm ne561) (ninS (Ne.symm ne539) nin0)))
        have f761 : Fld Z h524 b510 cn0 "picked" "Z" (.int (0 : Int32)) := g521_2.keep K524 (ninS (Ne.symm ne539) (ninS (Ne.symm ne561) nin0))
        have f762 : Fld Z h732 b510 cn0 "picked" "Z" (.int (0 : Int32)) := f761.keep K732 (ninS (Ne.symm ne738) (ninS (Ne.symm ne561) (ninS (Ne.symm ne539) nin0)))
        have f763 : Fld Z h524 b510 cn0 "queued" "Z" (.int (0 : Int32)) := g521_3.keep K524 (ninS (Ne.symm ne539) (ninS (Ne.symm ne561) nin0))
        have f764 : Fld Z h732 b510 cn0 "queued" "Z" (.int (0 : Int32)) := f763.keep K732 (ninS (Ne.symm ne738) (ninS (Ne.symm ne561) (ninS (Ne.symm ne539) nin0)))
        have f765 : Fld Z h524 b510 cn0 "next" "Llatchwork/WaitQueue$Waiter;" .null := g521_4.keep K524 (ninS (Ne.symm ne539) (ninS (Ne.symm ne561) nin0))
        have f766 : Fld Z h732 b510 cn0 "next" "Llatchwork/WaitQueue$Waiter;" .null := f765.keep K732 (ninS (Ne.symm ne738) (ninS (Ne.symm ne561) (ninS (Ne.symm ne539) nin0)))
        have f767 : Fld Z h524 b510 cn0 "prev" "Llatchwork/WaitQueue$Waiter;" .null := g521_5.keep K524 (ninS (Ne.symm ne539) (ninS (Ne.symm ne561) nin0))
        have f768 : Fld Z h732 b510 cn0 "prev" "Llatchwork/WaitQueue$Waiter;" .null := f767.keep K732 (ninS (Ne.symm ne738) (ninS (Ne.symm ne561) (ninS (Ne.symm ne539) nin0)))
        have f769 : Old Z n0 h732 := f752.keep K732 (allS (ge498) (allS (ge485) (allS (ge476) all0)))
        obtain ⟨cq756, kq756, q756a, q756b, q756c⟩ := isOf hZ e732 g732_0
        obtain ⟨_, _, ⟨T756, L756, k756, n756⟩, -, X756, ⟨Lc756, hQ756, l756, y756, z756⟩, st756⟩ := X732.virtualBack hx (y := (⟨"latchwork/WaitQueue", "add", "(Llatchwork/WaitQueue$Waiter;Z)V"⟩ : MethodName)) (z := (⟨"latchwork/WaitQueue", "add", "(Llatchwork/WaitQueue$Waiter;Z)V"⟩ : MethodName)) hown (mvT hZ (own_w hw 41 rfl)) (mvT hZ (own_w hw 42 rfl)) (notFace_of_selects (args := #[]) (mvT hZ (own_w hw 44 rfl))) (mvT hZ (own_w hw 44 rfl)) (mvT hZ (own_w hw 43 rfl)) (by decide) (backOf (W := 0) (rmadd18 l Z a0 hw [] b475 b510 b496 b484 h732 n0 f769 g732_0 g732_1 g732_2 g732_3 f758 f760 f762 f764 f766 f768 g732_4 g732_5 g732_6 g732_7 g732_8 g732_9 g732_10 g732_11 g732_12 g732_13 g732_14 g732_15 ge512 ne539 ne561 ge485 ne533 ge476) hZ (own_w hw 45 rfl) (own_w hw 2 rfl) (by decide) (by decide)) q756a q756c (g := (mkF m 119 #[lvI p0_, lvI p1_, lvI (3 : Int32), lvI z467, lvI (1 : Int32), lvI (0 : Int32), lvR b475, lvR b484, lvR b496, lvR b510, .unset, .unset, .unset, .unset, .unset, .unset, .unset, .unset, .unset, .unset] [(.int (0 : Int32)), (.ref b510), (.ref b475)])) rfl (by rw [hml]; rfl) (Steps.refl _) (argsL := [(.ref b510), (.int (0 : Int32))]) (rest := []) (lenOf pd_5 rfl) rfl (by show 2 * 0 + _ ≤ _; exact Nat.le_of_eq rfl) (hb hby at_119) (fun _ _ => ⟨rfl, e732, (by decide : 4 + 0 ≤ _), (by decide : 28 + 0 ≤ _)⟩)
        dsimp only [Pt.U, Pt.locs, Pt.cells, Pt.slots] at X756 l756 y756 z756 st756 hQ756
        subst l756 y756 z756
        obtain ⟨h756, e756⟩ : ∃ z, T756.heap = z := ⟨_, rfl⟩
        rw [e756] at hQ756
        obtain ⟨rfl, N756q, K756, g756_0, g756_1, g756_2, g756_3, g756_4, g756_5, g756_6, g756_7, g756_8, g756_9, g756_10, g756_11, g756_12, g756_13, g756_14, g756_15⟩ := hQ756
        have N770 := Fr.app N753 N756q
        have f772 : Exa Z h756 b496 cn0 := g732_4.keep K756
        have f773 : Fld Z h756 b496 cn0 "thread" "Ljava/lang/Thread;" .null := g732_5.keep K756 (ninS ne738 (ninS (Ne.symm ne558) (ninS (Ne.symm ne536) nin0)))
        have f774 : Fld Z h756 b496 cn0 "picked" "Z" (.int (0 : Int32)) := g732_6.keep K756 (ninS ne738 (ninS (Ne.symm ne558) (ninS (Ne.symm ne536) nin0)))
        have f775 : Fld Z h756 b496 cn0 "queued" "Z" (.int (1 : Int32)) := g732_7.keep K756 (ninS ne738 (ninS (Ne.symm ne558) (ninS (Ne.symm ne536) nin0)))
        have f776 : Fld Z h756 b496 cn0 "next" "Llatchwork/WaitQueue$Waiter;" (.ref b484) := g732_8.keep K756 (ninS ne738 (ninS (Ne.symm ne558) (ninS (Ne.symm ne536) nin0)))
        have f777 : Fld Z h756 b496 cn0 "prev" "Llatchwork/WaitQueue$Waiter;" .null := g732_9.keep K756 (ninS ne738 (ninS (Ne.symm ne558) (ninS (Ne.symm ne536) nin0)))
        have f778 : Old Z n0 h756 := f769.keep K756 (allS (ge512) (allS (ge485) (allS (ge476) all0)))
        obtain ⟨cq771, kq771, q771a, q771b, q771c⟩ := isOf hZ e756 g756_0
        obtain ⟨_, _, ⟨T771, L771, k771, n771⟩, -, X771, ⟨Lc771, hQ771, l771, y771, z771⟩, st771⟩ := X756.virtualBack hx (y := (⟨"latchwork/WaitQueue", "poll", "()Llatchwork/WaitQueue$Waiter;"⟩ : MethodName)) (z := (⟨"latchwork/WaitQueue", "poll", "()Llatchwork/WaitQueue$Waiter;"⟩ : MethodName)) hown (mvT hZ (own_w hw 18 rfl)) (mvT hZ (own_w hw 19 rfl)) (notFace_of_selects (args := #[]) (mvT hZ (own_w hw 21 rfl))) (mvT hZ (own_w hw 21 rfl)) (mvT hZ (own_w hw 20 rfl)) (by decide) (backOf (W := 0) (rmpoll19 l Z a0 hw [] b475 b496 b510 b484 h756 n0 f778 g756_0 g756_1 g756_2 g756_3 f772 f773 f774 f775 f776 f777 g756_4 g756_5 g756_6 g756_7 g756_8 g756_9 g756_10 g756_11 g756_12 g756_13 g756_14 g756_15 ge476 (Ne.symm ne536) (Ne.symm ne533) ge485 (Ne.symm ne558) ge498) hZ (own_w hw 22 rfl) (own_w hw 2 rfl) (by decide) (by decide)) q771a q771c (g := (mkF m 203 #[lvI p0_, lvI p1_, lvI (3 : Int32), lvI z467, lvI (1 : Int32), lvI (0 : Int32), lvR b475, lvR b484, lvR b496, lvR b510, lvR b496, lvR b484, lvR b510, .unset, .unset, .unset, .unset, .unset, .unset, .unset] [(.ref b475)])) rfl (by rw [hml]; rfl) (Steps.refl _) (argsL := []) (rest := []) (lenOf pd_2 rfl) rfl (by show 2 * 0 + _ ≤ _; exact Nat.le_of_eq rfl) (hb hby at_203) (fun _ _ => ⟨rfl, e756, (by decide : 4 + 0 ≤ _), (by decide : 28 + 0 ≤ _)⟩)
        dsimp only [Pt.U, Pt.locs, Pt.cells, Pt.slots] at X771 l771 y771 z771 st771 hQ771
        subst l771 y771 z771
        obtain ⟨h771, e771⟩ : ∃ z, T771.heap = z := ⟨_, rfl⟩
        rw [e771] at hQ771
        obtain ⟨rfl, N771q, K771, g771_0, g771_1, g771_2, g771_3, g771_4, g771_5, g771_6, g771_7, g771_8, g771_9, g771_10, g771_11, g771_12, g771_13, g771_14, g771_15⟩ := hQ771
        have N779 := Fr.app N770 N771q
        have f781 : Exa Z h771 b510 cn0 := g756_4.keep K771
        have f782 : Fld Z h771 b510 cn0 "thread" "Ljava/lang/Thread;" .null := g756_5.keep K771 (ninS (Ne.symm ne539) (ninS (Ne.symm ne561) (ninS (Ne.symm ne738) nin0)))
        have f783 : Fld Z h771 b510 cn0 "picked" "Z" (.int (0 : Int32)) := g756_6.keep K771 (ninS (Ne.symm ne539) (ninS (Ne.symm ne561) (ninS (Ne.symm ne738) nin0)))
        have f784 : Fld Z h771 b510 cn0 "queued" "Z" (.int (1 : Int32)) := g756_7.keep K771 (ninS (Ne.symm ne539) (ninS (Ne.symm ne561) (ninS (Ne.symm ne738) nin0)))
        have f785 : Fld Z h771 b510 cn0 "next" "Llatchwork/WaitQueue$Waiter;" .null := g756_8.keep K771 (ninS (Ne.symm ne539) (ninS (Ne.symm ne561) (ninS (Ne.symm ne738) nin0)))
        have f786 : Fld Z h771 b510 cn0 "prev" "Llatchwork/WaitQueue$Waiter;" (.ref b484) := g756_9.keep K771 (ninS (Ne.symm ne539) (ninS (Ne.symm ne561) (ninS (Ne.symm ne738) nin0)))
        have f787 : Old Z n0 h771 := f778.keep K771 (allS (ge476) (allS (ge485) (allS (ge498) all0)))
        obtain ⟨cq780, kq780, q780a, q780b, q780c⟩ := isOf hZ e771 g771_0
        obtain ⟨_, _, ⟨T780, L780, k780, n780⟩, -, X780, ⟨Lc780, hQ780, l780, y780, z780⟩, st780⟩ := X771.virtualBack hx (y := (⟨"latchwork/WaitQueue", "size", "()I"⟩ : MethodName)) (z := (⟨"latchwork/WaitQueue", "size", "()I"⟩ : MethodName)) hown (mvT hZ (own_w hw 25 rfl)) (mvT hZ (own_w hw 26 rfl)) (notFace_of_selects (args := #[]) (mvT hZ (own_w hw 28 rfl))) (mvT hZ (own_w hw 28 rfl)) (mvT hZ (own_w hw 27 rfl)) (by decide) (backOf (W := 0) (rmsize21 l Z a0 hw [] b475 b484 b510 h771 n0 f787 g771_0 g771_1 g771_2 g771_3 g771_10 g771_11 g771_12 g771_13 g771_14 g771_15 f781 f782 f783 f784 f785 f786) hZ (own_w hw 29 rfl) (own_w hw 2 rfl) (by decide) (by decide)) q780a q780c (g := (mkF m 210 #[lvI p0_, lvI p1_, lvI (3 : Int32), lvI z467, lvI (1 : Int32), lvI (0 : Int32), lvR b475, lvR b484, lvR b496, lvR b510, lvR b496, lvR b484, lvR b510, lvR b496, .unset, .unset, .unset, .unset, .unset, .unset] [(.ref b475)])) rfl (by rw [hml]; rfl) (Steps.refl _) (argsL := []) (rest := []) (lenOf pd_3 rfl) rfl (by show 2 * 0 + _ ≤ _; exact Nat.le_of_eq rfl) (hb hby at_210) (fun _ _ => ⟨rfl, e771, (by decide : 4 + 0 ≤ _), (by decide : 28 + 0 ≤ _)⟩)
        dsimp only [Pt.U, Pt.locs, Pt.cells, Pt.slots] at X780 l780 y780 z780 st780 hQ780
        subst l780 y780 z780
        obtain ⟨h780, e780⟩ : ∃ z, T780.heap = z := ⟨_, rfl⟩
        rw [e780] at hQ780
        obtain ⟨rfl, N780q, hh780⟩ := hQ780
        have N788 := Fr.app N779 N780q
        have e780' : T780.heap = h771 := e780.trans hh780
        obtain ⟨cq789, kq789, q789a, q789b, q789c⟩ := isOf hZ e780' g771_0
        obtain ⟨_, _, ⟨T789, L789, k789, n789⟩, -, X789, ⟨Lc789, hQ789, l789, y789, z789⟩, st789⟩ := X780.virtualBack hx (y := (⟨"latchwork/WaitQueue", "poll", "()Llatchwork/WaitQueue$Waiter;"⟩ : MethodName)) (z := (⟨"latchwork/WaitQueue", "poll", "()Llatchwork/WaitQueue$Waiter;"⟩ : MethodName)) hown (mvT hZ (own_w hw 18 rfl)) (mvT hZ (own_w hw 19 rfl)) (notFace_of_selects (args := #[]) (mvT hZ (own_w hw 21 rfl))) (mvT hZ (own_w hw 21 rfl)) (mvT hZ (own_w hw 20 rfl)) (by decide) (backOf (W := 0) (rmpoll13 l Z a0 hw [] b475 b484 b510 h771 n0 f787 g771_0 g771_1 g771_2 g771_3 g771_10 g771_11 g771_12 g771_13 g771_14 g771_15 f781 f782 f783 f784 f785 f786 ge476 (Ne.symm ne533) (Ne.symm ne539) ge512 ne561 ge485) hZ (own_w hw 22 rfl) (own_w hw 2 rfl) (by decide) (by decide)) q789a q789c (g := (mkF m 217 #[lvI p0_, lvI p1_, lvI (3 : Int32), lvI z467, lvI (1 : Int32), lvI (0 : Int32), lvR b475, lvR b484, lvR b496, lvR b510, lvR b496, lvR b484, lvR b510, lvR b496, lvI (2 : Int32), .unset, .unset, .unset, .unset, .unset] [(.ref b475)])) rfl (by rw [hml]; rfl) (Steps.refl _) (argsL := []) (rest := []) (lenOf pd_2 rfl) rfl (by show 2 * 0 + _ ≤ _; exact Nat.le_of_eq rfl) (hb hby at_217) (fun _ _ => ⟨rfl, e780', (by decide : 4 + 0 ≤ _), (by decide : 28 + 0 ≤ _)⟩)
        dsimp only [Pt.U, Pt.locs, Pt.cells, Pt.slots] at X789 l789 y789 z789 st789 hQ789
        subst l789 y789 z789
        obtain ⟨h789, e789⟩ : ∃ z, T789.heap = z := ⟨_, rfl⟩
        rw [e789] at hQ789
        obtain ⟨rfl, N789q, K789, g789_0, g789_1, g789_2, g789_3, g789_4, g789_5, g789_6, g789_7, g789_8, g789_9, g789_10, g789_11, g789_12, g789_13, g789_14, g789_15⟩ := hQ789
        have N790 := Fr.app N788 N789q
        have f792 : Old Z n0 h789 := f787.keep K789 (allS (ge476) (allS (ge512) (allS (ge485) all0)))
        obtain ⟨cq791, kq791, q791a, q791b, q791c⟩ := isOf hZ e789 g789_0
        obtain ⟨_, _, ⟨T791, L791, k791, n791⟩, -, X791, ⟨Lc791, hQ791, l791, y791, z791⟩, st791⟩ := X789.virtualBack hx (y := (⟨"latchwork/WaitQueue", "poll", "()Llatchwork/WaitQueue$Waiter;"⟩ : MethodName)) (z := (⟨"latchwork/WaitQueue", "poll", "()Llatchwork/WaitQueue$Waiter;"⟩ : MethodName)) hown (mvT hZ (own_w hw 18 rfl)) (mvT hZ (own_w hw 19 rfl)) (notFace_of_selects (args := #[]) (mvT hZ (own_w hw 21 rfl))) (mvT hZ (own_w hw 21 rfl)) (mvT hZ (own_w hw 20 rfl)) (by decide) (backOf (W := 0) (rmpoll8 l Z a0 hw [] b475 b510 h789 n0 f792 g789_0 g789_1 g789_2 g789_3 g789_10 g789_11 g789_12 g789_13 g789_14 g789_15 ge476 (Ne.symm ne539) ge512) hZ (own_w hw 22 rfl) (own_w hw 2 rfl) (by decide) (by decide)) q791a q791c (g := (mkF m 224 #[lvI p0_, lvI p1_, lvI (3 : Int32), lvI z467, lvI (1 : Int32), lvI (0 : Int32), lvR b475, lvR b484, lvR b496, lvR b510, lvR b496, lvR b484, lvR b510, lvR b496, lvI (2 : Int32), lvR b484, .unset, .unset, .unset, .unset] [(.ref b475)])) rfl (by rw [hml]; rfl) (Steps.refl _) (argsL := []) (rest := []) (lenOf pd_2 rfl) rfl (by show 2 * 0 + _ ≤ _; exact Nat.le_of_eq rfl) (hb hby at_224) (fun _ _ => ⟨rfl, e789, (by decide : 4 + 0 ≤ _), (by decide : 28 + 0 ≤ _)⟩)
        dsimp only [Pt.U, Pt.locs, Pt.cells, Pt.slots] at X791 l791 y791 z791 st791 hQ791
        subst l791 y791 z791
        obtain ⟨h791, e791⟩ : ∃ z, T791.heap = z := ⟨_, rfl⟩
        rw [e791] at hQ791
        obtain ⟨rfl, N791q, K791, g791_0, g791_1, g791_2, g791_3, g791_4, g791_5, g791_6, g791_7, g791_8, g791_9⟩ := hQ791
        have N793 := Fr.app N790 N791q
        have f795 : Old Z n0 h791 := f792.keep K791 (allS (ge476) (allS (ge512) all0))
        obtain ⟨cq794, kq794, q794a, q794b, q794c⟩ := isOf hZ e791 g791_0
        obtain ⟨_, _, ⟨T794, L794, k794, n794⟩, -, X794, ⟨Lc794, hQ794, l794, y794, z794⟩, st794⟩ := X791.virtualBack hx (y := (⟨"latchwork/WaitQueue", "poll", "()Llatchwork/WaitQueue$Waiter;"⟩ : MethodName)) (z := (⟨"latchwork/WaitQueue", "poll", "()Llatchwork/WaitQueue$Waiter;"⟩ : MethodName)) hown (mvT hZ (own_w hw 18 rfl)) (mvT hZ (own_w hw 19 rfl)) (notFace_of_selects (args := #[]) (mvT hZ (own_w hw 21 rfl))) (mvT hZ (own_w hw 21 rfl)) (mvT hZ (own_w hw 20 rfl)) (by decide) (backOf (W := 0) (rmpoll3 l Z a0 hw [] b475 h791 n0 f795 g791_0 g791_1 g791_2 g791_3) hZ (own_w hw 22 rfl) (own_w hw 2 rfl) (by decide) (by decide)) q794a q794c (g := (mkF m 231 #[lvI p0_, lvI p1_, lvI (3 : Int32), lvI z467, lvI (1 : Int32), lvI (0 : Int32), lvR b475, lvR b484, lvR b496, lvR b510, lvR b496, lvR b484, lvR b510, lvR b496, lvI (2 : Int32), lvR b484, lvR b510, .unset, .unset, .unset] [(.ref b475)])) rfl (by rw [hml]; rfl) (Steps.refl _) (argsL := []) (rest := []) (lenOf pd_2 rfl) rfl (by show 2 * 0 + _ ≤ _; exact Nat.le_of_eq rfl) (hb hby at_231) (fun _ _ => ⟨rfl, e791, (by decide : 4 + 0 ≤ _), (by decide : 28 + 0 ≤ _)⟩)
        dsimp only [Pt.U, Pt.locs, Pt.cells, Pt.slots] at X794 l794 y794 z794 st794 hQ794
        subst l794 y794 z794
        obtain ⟨h794, e794⟩ : ∃ z, T794.heap = z := ⟨_, rfl⟩
        rw [e794] at hQ794
        obtain ⟨rfl, N794q, hh794⟩ := hQ794
        have N796 := Fr.app N793 N794q
        have e794' : T794.heap = h791 := e794.trans hh794
        obtain ⟨cq797, kq797, q797a, q797b, q797c⟩ := isOf hZ e794' g791_0
        obtain ⟨_, _, ⟨T797, L797, k797, n797⟩, -, X797, ⟨Lc797, hQ797, l797, y797, z797⟩, st797⟩ := X794.virtualBack hx (y := (⟨"latchwork/WaitQueue", "size", "()I"⟩ : MethodName)) (z := (⟨"latchwork/WaitQueue", "size", "()I"⟩ : MethodName)) hown (mvT hZ (own_w hw 25 rfl)) (mvT hZ (own_w hw 26 rfl)) (notFace_of_selects (args := #[]) (mvT hZ (own_w hw 28 rfl))) (mvT hZ (own_w hw 28 rfl)) (mvT hZ (own_w hw 27 rfl)) (by decide) (backOf (W := 0) (rmsize4 l Z a0 hw [] b475 h791 n0 f795 g791_0 g791_1 g791_2 g791_3) hZ (own_w hw 29 rfl) (own_w hw 2 rfl) (by decide) (by decide)) q797a q797c (g := (mkF m 238 #[lvI p0_, lvI p1_, lvI (3 : Int32), lvI z467, lvI (1 : Int32), lvI (0 : Int32), lvR b475, lvR b484, lvR b496, lvR b510, lvR b496, lvR b484, lvR b510, lvR b496, lvI (2 : Int32), lvR b484, lvR b510, .val .null, .unset, .unset] [(.ref b475)])) rfl (by rw [hml]; rfl) (Steps.refl _) (argsL := []) (rest := []) (lenOf pd_3 rfl) rfl (by show 2 * 0 + _ ≤ _; exact Nat.le_of_eq rfl) (hb hby at_238) (fun _ _ => ⟨rfl, e794', (by decide : 4 + 0 ≤ _), (by decide : 28 + 0 ≤ _)⟩)
        dsimp only [Pt.U, Pt.locs, Pt.cells, Pt.slots] at X797 l797 y797 z797 st797 hQ797
        subst l797 y797 z797
        obtain ⟨h797, e797⟩ : ∃ z, T797.heap = z := ⟨_, rfl⟩
        rw [e797] at hQ797
        obtain ⟨rfl, N797q, hh797⟩ := hQ797
        have N798 := Fr.app N796 N797q
        have e797' : T797.heap = h791 := e797.trans hh797
        obtain ⟨_, _, ⟨T799, L799, k799, n799⟩, -, X799, ⟨Lc799, hQ799, l799, y799, z799⟩, st799⟩ := Jvm.LawKit.callS X797 hx (y := (⟨"java/lang/Math", "max", "(II)I"⟩ : MethodName)) hown (mvT hZ (own_w hw 32 rfl)) (mvT hZ (own_w hw 33 rfl)) (mvT hZ (own_w hw 34 rfl)) (mvT hZ (own_w hw 35 rfl)) (by decide) (backOf (W := 1) (rmmax22 l Z a0 hw []  h791 n0 f795 ) hZ (own_w hw 35 rfl) (own_w hw 34 rfl) (by decide) (by decide)) (g := (mkF m 287 #[lvI p0_, lvI p1_, lvI (3 : Int32), lvI z467, lvI (1 : Int32), lvI (0 : Int32), lvR b475, lvR b484, lvR b496, lvR b510, lvR b496, lvR b484, lvR b510, lvR b496, lvI (2 : Int32), lvR b484, lvR b510, .val .null, lvI (0 : Int32), lvI (1 : Int32)] [(.int (0 : Int32)), (.int (2 : Int32)), (.int (2 : Int32))])) rfl (by rw [hml]; rfl) (argsL := [(.int (2 : Int32)), (.int (0 : Int32))]) (rest := [(.int (2 : Int32))]) (lenOf pd_4 rfl) rfl (by show 2 * 0 + _ ≤ _; exact Nat.le_of_eq rfl) (hb hby at_287) (fun _ _ => ⟨rfl, e797', (by decide : 4 + 0 ≤ _), (by decide : 28 + 0 ≤ _)⟩)
        dsimp only [Pt.U, Pt.locs, Pt.cells, Pt.slots] at X799 l799 y799 z799 st799 hQ799
        subst l799 y799 z799
        obtain ⟨h799, e799⟩ : ∃ z, T799.heap = z := ⟨_, rfl⟩
        rw [e799] at hQ799
        obtain ⟨rfl, N799q, hh799⟩ := hQ799
        have N800 := Fr.app N798 N799q
        have e799' : T799.heap = h791 := e799.trans hh799
        obtain ⟨cq801, kq801, q801a, q801b, q801c⟩ := isOf hZ e799' g791_0
        obtain ⟨_, _, ⟨T801, L801, k801, n801⟩, -, X801, ⟨Lc801, hQ801, l801, y801, z801⟩, st801⟩ := X799.virtualBack hx (y := (⟨"latchwork/WaitQueue", "first", "()Llatchwork/WaitQueue$Waiter;"⟩ : MethodName)) (z := (⟨"latchwork/WaitQueue", "first", "()Llatchwork/WaitQueue$Waiter;"⟩ : MethodName)) hown (mvT hZ (own_w hw 36 rfl)) (mvT hZ (own_w hw 37 rfl)) (notFace_of_selects (args := #[]) (mvT hZ (own_w hw 39 rfl))) (mvT hZ (own_w hw 39 rfl)) (mvT hZ (own_w hw 38 rfl)) (by decide) (backOf (W := 0) (rmfirst6 l Z a0 hw [] b475 h791 n0 f795 g791_0 g791_1 g791_2 g791_3) hZ (own_w hw 40 rfl) (own_w hw 2 rfl) (by decide) (by decide)) q801a q801c (g := (mkF m 300 #[lvI p0_, lvI p1_, lvI (3 : Int32), lvI z467, lvI (1 : Int32), lvI (0 : Int32), lvR b475, lvR b484, lvR b496, lvR b510, lvR b496, lvR b484, lvR b510, lvR b496, lvI (2 : Int32), lvR b484, lvR b510, .val .null, lvI (0 : Int32), lvI (1 : Int32)] [(.ref b475)])) rfl (by rw [hml]; rfl) (Steps.refl _) (argsL := []) (rest := []) (lenOf pd_2 rfl) rfl (by show 2 * 0 + _ ≤ _; exact Nat.le_of_eq rfl) (hb hby at_300) (fun _ _ => ⟨rfl, e799', (by decide : 4 + 0 ≤ _), (by decide : 28 + 0 ≤ _)⟩)
        dsimp only [Pt.U, Pt.locs, Pt.cells, Pt.slots] at X801 l801 y801 z801 st801 hQ801
        subst l801 y801 z801
        obtain ⟨h801, e801⟩ : ∃ z, T801.heap = z := ⟨_, rfl⟩
        rw [e801] at hQ801
        obtain ⟨rfl, N801q, hh801⟩ := hQ801
        have N802 := Fr.app N800 N801q
        have e801' : T801.heap = h791 := e801.trans hh801
        have f804 : Exa Z h789 b496 cn0 := g771_4.keep K789
        have f805 : Exa Z h791 b496 cn0 := f804.keep K791
        have f806 : Fld Z h789 b496 cn0 "thread" "Ljava/lang/Thread;" .null := g771_5.keep K789 (ninS (Ne.symm ne536) (ninS ne738 (ninS (Ne.symm ne558) nin0)))
        have f807 : Fld Z h791 b496 cn0 "thread" "Ljava/lang/Thread;" .null := f806.keep K791 (ninS (Ne.symm ne536) (ninS ne738 nin0))
        have f808 : Fld Z h789 b496 cn0 "picked" "Z" (.int (0 : Int32)) := g771_6.keep K789 (ninS (Ne.symm ne536) (ninS ne738 (ninS (Ne.symm ne558) nin0)))
        have f809 : Fld Z h791 b496 cn0 "picked" "Z" (.int (0 : Int32)) := f808.keep K791 (ninS (Ne.symm ne536) (ninS ne738 nin0))
        have f810 : Fld Z h789 b496 cn0 "queued" "Z" (.int (0 : Int32)) := g771_7.keep K789 (ninS (Ne.symm ne536) (ninS ne738 (ninS (Ne.symm ne558) nin0)))
        have f811 : Fld Z h791 b496 cn0 "queued" "Z" (.int (0 : Int32)) := f810.keep K791 (ninS (Ne.symm ne536) (ninS ne738 nin0))
        have f812 : Fld Z h789 b496 cn0 "next" "Llatchwork/WaitQueue$Waiter;" .null := g771_8.keep K789 (ninS (Ne.symm ne536) (ninS ne738 (ninS (Ne.symm ne558) nin0)))
        have f813 : Fld Z h791 b496 cn0 "next" "Llatchwork/WaitQueue$Waiter;" .null := f812.keep K791 (ninS (Ne.symm ne536) (ninS ne738 nin0))
        have f814 : Fld Z h789 b496 cn0 "prev" "Llatchwork/WaitQueue$Waiter;" .null := g771_9.keep K789 (ninS (Ne.symm ne536) (ninS ne738 (ninS (Ne.symm ne558) nin0)))
        have f815 : Fld Z h791 b496 cn0 "prev" "Llatchwork/WaitQueue$Waiter;" .null := f814.keep K791 (ninS (Ne.symm ne536) (ninS ne738 nin0))
        obtain ⟨cq803, kq803, q803a, q803b, q803c⟩ := isOf hZ e801' f805
        obtain ⟨_, _, ⟨T803, L803, k803, n803⟩, -, X803, ⟨Lc803, hQ803, l803, y803, z803⟩, st803⟩ := X801.virtualBack hx (y := (⟨"latchwork/WaitQueue$Waiter", "isQueued", "()Z"⟩ : MethodName)) (z := (⟨"latchwork/WaitQueue$Waiter", "isQueued", "()Z"⟩ : MethodName)) hown (mvT hZ (own_w hw 61 rfl)) (mvT hZ (own_w hw 62 rfl)) (notFace_of_selects (args := #[]) (mvT hZ (own_w hw 64 rfl))) (mvT hZ (own_w hw 64 rfl)) (mvT hZ (own_w hw 63 rfl)) (by decide) (backOf (W := 0) (rmisQueued11 l Z a0 hw [] b496 h791 n0 f795 f805 f807 f809 f811 f813 f815) hZ (own_w hw 65 rfl) (own_w hw 11 rfl) (by decide) (by decide)) q803a q803c (g := (mkF m 325 #[lvI p0_, lvI p1_, lvI (3 : Int32), lvI z467, lvI (1 : Int32), lvI (0 : Int32), lvR b475, lvR b484, lvR b496, lvR b510, lvR b496, lvR b484, lvR b510, lvR b496, lvI (2 : Int32), lvR b484, lvR b510, .val .null, lvI (0 : Int32), lvI (1 : Int32)] [(.ref b496)])) rfl (by rw [hml]; rfl) (Steps.refl _) (argsL := []) (rest := []) (lenOf pd_7 rfl) rfl (by show 2 * 0 + _ ≤ _; exact Nat.le_of_eq rfl) (hb hby at_325) (fun _ _ => ⟨rfl, e801', (by decide : 4 + 0 ≤ _), (by decide : 28 + 0 ≤ _)⟩)
        dsimp only [Pt.U, Pt.locs, Pt.cells, Pt.slots] at X803 l803 y803 z803 st803 hQ803
        subst l803 y803 z803
        obtain ⟨h803, e803⟩ : ∃ z, T803.heap = z := ⟨_, rfl⟩
        rw [e803] at hQ803
        obtain ⟨rfl, N803q, hh803⟩ := hQ803
        have N816 := Fr.app N802 N803q
        have e803' : T803.heap = h791 := e803.trans hh803
        have pre817 : ∀ t, own_S p e below m T803 340 #[lvI p0_, lvI p1_, lvI (3 : Int32), lvI z467, lvI (1 : Int32), lvI (0 : Int32), lvR b475, lvR b484, lvR b496, lvR b510, lvR b496, lvR b484, lvR b510, lvR b496, lvI (2 : Int32), lvR b484, lvR b510, .val .null, lvI (0 : Int32), lvI (1 : Int32)] [(.int (1 : Int32))] t → G t := by
          intro t kt
          refine pre754 t ?_
          show own_S p e below m T732 119 #[lvI p0_, lvI p1_, lvI (3 : Int32), lvI z467, lvI (1 : Int32), lvI (0 : Int32), lvR b475, lvR b484, lvR b496, lvR b510, .unset, .unset, .unset, .unset, .unset, .unset, .unset, .unset, .unset, .unset] [(.int (0 : Int32)), (.ref b510), (.ref b475)] _
          refine st756.trans ?_
          refine XS.aconstNull X756.here hx rfl (hb hby at_122) ?_
          refine XS.astore X756.here hx rfl (hb hby at_123) rfl rfl (l' := #[lvI p0_, lvI p1_, lvI (3 : Int32), lvI z467, lvI (1 : Int32), lvI (0 : Int32), lvR b475, lvR b484, lvR b496, lvR b510, .val .null, .unset, .unset, .unset, .unset, .unset, .unset, .unset, .unset, .unset]) rfl ?_
          refine XS.aconstNull X756.here hx rfl (hb hby at_125) ?_
          show own_S p e below m T756 126 #[lvI p0_, lvI p1_, lvI (3 : Int32), lvI z467, lvI (1 : Int32), lvI (0 : Int32), lvR b475, lvR b484, lvR b496, lvR b510, .val .null, .unset, .unset, .unset, .unset, .unset, .unset, .unset, .unset, .unset] [.null] _
          refine XS.astore X756.here hx rfl (hb hby at_126) rfl rfl (l' := #[lvI p0_, lvI p1_, lvI (3 : Int32), lvI z467, lvI (1 : Int32), lvI (0 : Int32), lvR b475, lvR b484, lvR b496, lvR b510, .val .null, .val .null, .unset, .unset, .unset, .unset, .unset, .unset, .unset, .unset]) rfl ?_
          refine XS.aconstNull X756.here hx rfl (hb hby at_128) ?_
          refine XS.astore X756.here hx rfl (hb hby at_129) rfl rfl (l' := #[lvI p0_, lvI p1_, lvI (3 : Int32), lvI z467, lvI (1 : Int32), lvI (0 : Int32), lvR b475, lvR b484, lvR b496, lvR b510, .val .null, .val .null, .val .null, .unset, .unset, .unset, .unset, .unset, .unset, .unset]) rfl ?_
          refine XS.iloadN X756.here hx rfl (hb hby at_131) rfl ?_
          show own_S p e below m T756 132 #[lvI p0_, lvI p1_, lvI (3 : Int32), lvI z467, lvI (1 : Int32), lvI (0 : Int32), lvR b475, lvR b484, lvR b496, lvR b510, .val .null, .val .null, .val .null, .unset, .unset, .unset, .unset, .unset, .unset, .unset] [(.int (3 : Int32))] _
          refine XS.iconst X756.here hx rfl (hb hby at_132) ?_
          show own_S p e below m T756 133 #[lvI p0_, lvI p1_, lvI (3 : Int32), lvI z467, lvI (1 : Int32), lvI (0 : Int32), lvR b475, lvR b484, lvR b496, lvR b510, .val .null, .val .null, .val .null, .unset, .unset, .unset, .unset, .unset, .unset, .unset] [(.int (1 : Int32)), (.int (3 : Int32))] _
          refine XS.icmpYes X756.here hx rfl (pc0 := 133) (pc' := 143) rfl (hb hby at_133) rfl (feq (by decide : ¬ ((3 : Int32) = (1 : Int32)))).2 (by decide) (by decide) ?_
          refine XS.iloadN X756.here hx rfl (hb hby at_143) rfl ?_
          refine XS.iconst X756.here hx rfl (hb hby at_144) ?_
          show own_S p e below m T756 145 #[lvI p0_, lvI p1_, lvI (3 : Int32), lvI z467, lvI (1 : Int32), lvI (0 : Int32), lvR b475, lvR b484, lvR b496, lvR b510, .val .null, .val .null, .val .null, .unset, .unset, .unset, .unset, .unset, .unset, .unset] [(.int (2 : Int32)), (.int (3 : Int32))] _
          refine XS.icmpNo X756.here hx rfl (hb hby at_145) rfl (flt (by decide : ¬ ((3 : Int32) < (2 : Int32)))).1 ?_
          refine XS.iload X756.here hx rfl (hb hby at_148) rfl ?_
          show own_S p e below m T756 150 #[lvI p0_, lvI p1_, lvI (3 : Int32), lvI z467, lvI (1 : Int32), lvI (0 : Int32), lvR b475, lvR b484, lvR b496, lvR b510, .val .null, .val .null, .val .null, .unset, .unset, .unset, .unset, .unset, .unset, .unset] [(.int (1 : Int32))] _
          refine XS.ifNo X756.here hx rfl (hb hby at_150) rfl ((if0 _ _).trans (feq (by decide : ¬ ((1 : Int32) = (0 : Int32)))).1) ?_
          refine XS.aload X756.here hx rfl (hb hby at_153) rfl rfl ?_
          refine XS.astore X756.here hx rfl (hb hby at_155) rfl rfl (l' := #[lvI p0_, lvI p1_, lvI (3 : Int32), lvI z467, lvI (1 : Int32), lvI (0 : Int32), lvR b475, lvR b484, lvR b496, lvR b510, lvR b496, .val .null, .val .null, .unset, .unset, .unset, .unset, .unset, .unset, .unset]) rfl ?_
          refine XS.aload X756.here hx rfl (hb hby at_157) rfl rfl ?_
          show own_S p e below m T756 159 #[lvI p0_, lvI p1_, lvI (3 : Int32), lvI z467, lvI (1 : Int32), lvI (0 : Int32), lvR b475, lvR b484, lvR b496, lvR b510, lvR b496, .val .null, .val .null, .unset, .unset, .unset, .unset, .unset, .unset, .unset] [(.ref b484)] _
          refine XS.astore X756.here hx rfl (hb hby at_159) rfl rfl (l' := #[lvI p0_, lvI p1_, lvI (3 : Int32), lvI z467, lvI (1 : Int32), lvI (0 : Int32), lvR b475, lvR b484, lvR b496, lvR b510, lvR b496, lvR b484, .val .null, .unset, .unset, .unset, .unset, .unset, .unset, .unset]) rfl ?_
          refine XS.goto X756.here hx rfl (pc0 := 161) (pc' := 172) rfl (hb hby at_161) (by decide) (by decide) ?_
          refine XS.iloadN X756.here hx rfl (hb hby at_172) rfl ?_
          refine XS.iconst X756.here hx rfl (hb hby at_173) ?_
          show own_S p e below m T756 174 #[lvI p0_, lvI p1_, lvI (3 : Int32), lvI z467, lvI (1 : Int32), lvI (0 : Int32), lvR b475, lvR b484, lvR b496, lvR b510, lvR b496, lvR b484, .val .null, .unset, .unset, .unset, .unset, .unset, .unset, .unset] [(.int (3 : Int32)), (.int (3 : Int32))] _
          refine XS.icmpNo X756.here hx rfl (hb hby at_174) rfl (teq (by decide : (3 : Int32) = (3 : Int32))).2 ?_
          refine XS.iload X756.here hx rfl (hb hby at_177) rfl ?_
          show own_S p e below m T756 179 #[lvI p0_, lvI p1_, lvI (3 : Int32), lvI z467, lvI (1 : Int32), lvI (0 : Int32), lvR b475, lvR b484, lvR b496, lvR b510, lvR b496, lvR b484, .val .null, .unset, .unset, .unset, .unset, .unset, .unset, .unset] [(.int (0 : Int32))] _
          refine XS.ifYes X756.here hx rfl (pc0 := 179) (pc' := 197) rfl (hb hby at_179) rfl ((if0 _ _).trans (teq (by decide : (0 : Int32) = (0 : Int32))).1) (by decide) (by decide) ?_
          refine XS.aload X756.here hx rfl (hb hby at_197) rfl rfl ?_
          refine XS.astore X756.here hx rfl (hb hby at_199) rfl rfl (l' := #[lvI p0_, lvI p1_, lvI (3 : Int32), lvI z467, lvI (1 : Int32), lvI (0 : Int32), lvR b475, lvR b484, lvR b496, lvR b510, lvR b496, lvR b484, lvR b510, .unset, .unset, .unset, .unset, .unset, .unset, .unset]) rfl ?_
          refine XS.aload X756.here hx rfl (hb hby at_201) rfl rfl ?_
          show own_S p e below m T756 203 #[lvI p0_, lvI p1_, lvI (3 : Int32), lvI z467, lvI (1 : Int32), lvI (0 : Int32), lvR b475, lvR b484, lvR b496, lvR b510, lvR b496, lvR b484, lvR b510, .unset, .unset, .unset, .unset, .unset, .unset, .unset] [(.ref b475)] _
          refine st771.trans ?_
          refine XS.astore X771.here hx rfl (hb hby at_206) rfl rfl (l' := #[lvI p0_, lvI p1_, lvI (3 : Int32), lvI z467, lvI (1 : Int32), lvI (0 : Int32), lvR b475, lvR b484, lvR b496, lvR b510, lvR b496, lvR b484, lvR b510, lvR b496, .unset, .unset, .unset, .unset, .unset, .unset]) rfl ?_
          refine XS.aload X771.here hx rfl (hb hby at_208) rfl rfl ?_
          show own_S p e below m T771 210 #[lvI p0_, lvI p1_, lvI (3 : Int32), lvI z467, lvI (1 : Int32), lvI (0 : Int32), lvR b475, lvR b484, lvR b496, lvR b510, lvR b496, lvR b484, lvR b510, lvR b496, .unset, .unset, .unset, .unset, .unset, .unset] [(.ref b475)] _
          refine st780.trans ?_
          refine XS.istore X780.here hx rfl (hb hby at_213) rfl (l' := #[lvI p0_, lvI p1_, lvI (3 : Int32), lvI z467, lvI (1 : Int32), lvI (0 : Int32), lvR b475, lvR b484, lvR b496, lvR b510, lvR b496, lvR b484, lvR b510, lvR b496, lvI (2 : Int32), .unset, .unset, .unset, .unset, .unset]) rfl ?_
          refine XS.aload X780.here hx rfl (hb hby at_215) rfl rfl ?_
          show own_S p e below m T780 217 #[lvI p0_, lvI p1_, lvI (3 : Int32), lvI z467, lvI (1 : Int32), lvI (0 : Int32), lvR b475, lvR b484, lvR b496, lvR b510, lvR b496, lvR b484, lvR b510, lvR b496, lvI (2 : Int32), .unset, .unset, .unset, .unset, .unset] [(.ref b475)] _
          refine st789.trans ?_
          refine XS.astore X789.here hx rfl (hb hby at_220) rfl rfl (l' := #[lvI p0_, lvI p1_, lvI (3 : Int32), lvI z467, lvI (1 : Int32), lvI (0 : Int32), lvR b475, lvR b484, lvR b496, lvR b510, lvR b496, lvR b484, lvR b510, lvR b496, lvI (2 : Int32), lvR b484, .unset, .unset, .unset, .unset]) rfl ?_
          refine XS.aload X789.here hx rfl (hb hby at_222) rfl rfl ?_
          show own_S p e below m T789 224 #[lvI p0_, lvI p1_, lvI (3 : Int32), lvI z467, lvI (1 : Int32), lvI (0 : Int32), lvR b475, lvR b484, lvR b496, lvR b510, lvR b496, lvR b484, lvR b510, lvR b496, lvI (2 : Int32), lvR b484, .unset, .unset, .unset, .unset] [(.ref b475)] _
          refine st791.trans ?_
          refine XS.astore X791.here hx rfl (hb hby at_227) rfl rfl (l' := #[lvI p0_, lvI p1_, lvI (3 : Int32), lvI z467, lvI (1 : Int32), lvI (0 : Int32), lvR b475, lvR b484, lvR b496, lvR b510, lvR b496, lvR b484, lvR b510, lvR b496, lvI (2 : Int32), lvR b484, lvR b510, .unset, .unset, .unset]) rfl ?_
          refine XS.aload X791.here hx rfl (hb hby at_229) rfl rfl ?_
          show own_S p e below m T791 231 #[lvI p0_, lvI p1_, lvI (3 : Int32), lvI z467, lvI (1 : Int32), lvI (0 : Int32), lvR b475, lvR b484, lvR b496, lvR b510, lvR b496, lvR b484, lvR b510, lvR b496, lvI (2 : Int32), lvR b484, lvR b510, .unset, .unset, .unset] [(.ref b475)] _
          refine st794.trans ?_
          refine XS.astore X794.here hx rfl (hb hby at_234) rfl rfl (l' := #[lvI p0_, lvI p1_, lvI (3 : Int32), lvI z467, lvI (1 : Int32), lvI (0 : Int32), lvR b475, lvR b484, lvR b496, lvR b510, lvR b496, lvR b484, lvR b510, lvR b496, lvI (2 : Int32), lvR b484, lvR b510, .val .null, .unset, .unset]) rfl ?_
          refine XS.aload X794.here hx rfl (hb hby at_236) rfl rfl ?_
          show own_S p e below m T794 238 #[lvI p0_, lvI p1_, lvI (3 : Int32), lvI z467, lvI (1 : Int32), lvI (0 : Int32), lvR b475, lvR b484, lvR b496, lvR b510, lvR b496, lvR b484, lvR b510, lvR b496, lvI (2 : Int32), lvR b484, lvR b510, .val .null, .unset, .unset] [(.ref b475)] _
          refine st797.trans ?_
          refine XS.istore X797.here hx rfl (hb hby at_241) rfl (l' := #[lvI p0_, lvI p1_, lvI (3 : Int32), lvI z467, lvI (1 : Int32), lvI (0 : Int32), lvR b475, lvR b484, lvR b496, lvR b510, lvR b496, lvR b484, lvR b510, lvR b496, lvI (2 : Int32), lvR b484, lvR b510, .val .null, lvI (0 : Int32), .unset]) rfl ?_
          refine XS.aload X797.here hx rfl (hb hby at_243) rfl rfl ?_
          refine XS.aload X797.here hx rfl (hb hby at_245) rfl rfl ?_
          show own_S p e below m T797 247 #[lvI p0_, lvI p1_, lvI (3 : Int32), lvI z467, lvI (1 : Int32), lvI (0 : Int32), lvR b475, lvR b484, lvR b496, lvR b510, lvR b496, lvR b484, lvR b510, lvR b496, lvI (2 : Int32), lvR b484, lvR b510, .val .null, lvI (0 : Int32), .unset] [(.ref b496), (.ref b496)] _
          refine Jvm.RoadKit.acmp (g := (mkF m 247 #[lvI p0_, lvI p1_, lvI (3 : Int32), lvI z467, lvI (1 : Int32), lvI (0 : Int32), lvR b475, lvR b484, lvR b496, lvR b510, lvR b496, lvR b484, lvR b510, lvR b496, lvI (2 : Int32), lvR b484, lvR b510, .val .null, lvI (0 : Int32), .unset] [(.ref b496), (.ref b496)])) X797 hx rfl rfl rfl (pc0 := 247) (pc' := 250) (same := true) rfl (hb hby at_247) rfl (decide_eq_true rfl) (by decide) (by decide) ?_
          refine XS.aload X797.here hx rfl (hb hby at_250) rfl rfl ?_
          refine XS.aload X797.here hx rfl (hb hby at_252) rfl rfl ?_
          show own_S p e below m T797 254 #[lvI p0_, lvI p1_, lvI (3 : Int32), lvI z467, lvI (1 : Int32), lvI (0 : Int32), lvR b475, lvR b484, lvR b496, lvR b510, lvR b496, lvR b484, lvR b510, lvR b496, lvI (2 : Int32), lvR b484, lvR b510, .val .null, lvI (0 : Int32), .unset] [(.ref b484), (.ref b484)] _
          refine Jvm.RoadKit.acmp (g := (mkF m 254 #[lvI p0_, lvI p1_, lvI (3 : Int32), lvI z467, lvI (1 : Int32), lvI (0 : Int32), lvR b475, lvR b484, lvR b496, lvR b510, lvR b496, lvR b484, lvR b510, lvR b496, lvI (2 : Int32), lvR b484, lvR b510, .val .null, lvI (0 : Int32), .unset] [(.ref b484), (.ref b484)])) X797 hx rfl rfl rfl (pc0 := 254) (pc' := 257) (same := true) rfl (hb hby at_254) rfl (decide_eq_true rfl) (by decide) (by decide) ?_
          refine XS.aload X797.here hx rfl (hb hby at_257) rfl rfl ?_
          refine XS.aload X797.here hx rfl (hb hby at_259) rfl rfl ?_
          show own_S p e below m T797 261 #[lvI p0_, lvI p1_, lvI (3 : Int32), lvI z467, lvI (1 : Int32), lvI (0 : Int32), lvR b475, lvR b484, lvR b496, lvR b510, lvR b496, lvR b484, lvR b510, lvR b496, lvI (2 : Int32), lvR b484, lvR b510, .val .null, lvI (0 : Int32), .unset] [(.ref b510), (.ref b510)] _
          refine Jvm.RoadKit.acmp (g := (mkF m 261 #[lvI p0_, lvI p1_, lvI (3 : Int32), lvI z467, lvI (1 : Int32), lvI (0 : Int32), lvR b475, lvR b484, lvR b496, lvR b510, lvR b496, lvR b484, lvR b510, lvR b496, lvI (2 : Int32), lvR b484, lvR b510, .val .null, lvI (0 : Int32), .unset] [(.ref b510), (.ref b510)])) X797 hx rfl rfl rfl (pc0 := 261) (pc' := 264) (same := true) rfl (hb hby at_261) rfl (decide_eq_true rfl) (by decide) (by decide) ?_
          refine XS.aload X797.here hx rfl (hb hby at_264) rfl rfl ?_
          show own_S p e below m T797 266 #[lvI p0_, lvI p1_, lvI (3 : Int32), lvI z467, lvI (1 : Int32), lvI (0 : Int32), lvR b475, lvR b484, lvR b496, lvR b510, lvR b496, lvR b484, lvR b510, lvR b496, lvI (2 : Int32), lvR b484, lvR b510, .val .null, lvI (0 : Int32), .unset] [.null] _
          refine XS.ifnonnullNo X797.here hx rfl (hb hby at_266) rfl ?_
          refine XS.iconst X797.here hx rfl (hb hby at_269) ?_
          refine XS.goto X797.here hx rfl (pc0 := 270) (pc' := 274) rfl (hb hby at_270) (by decide) (by decide) ?_
          refine XS.istore X797.here hx rfl (hb hby at_274) rfl (l' := #[lvI p0_, lvI p1_, lvI (3 : Int32), lvI z467, lvI (1 : Int32), lvI (0 : Int32), lvR b475, lvR b484, lvR b496, lvR b510, lvR b496, lvR b484, lvR b510, lvR b496, lvI (2 : Int32), lvR b484, lvR b510, .val .null, lvI (0 : Int32), lvI (1 : Int32)]) rfl ?_
          show own_S p e below m T797 276 #[lvI p0_, lvI p1_, lvI (3 : Int32), lvI z467, lvI (1 : Int32), lvI (0 : Int32), lvR b475, lvR b484, lvR b496, lvR b510, lvR b496, lvR b484, lvR b510, lvR b496, lvI (2 : Int32), lvR b484, lvR b510, .val .null, lvI (0 : Int32), lvI (1 : Int32)] [] _
          refine XS.iload X797.here hx rfl (hb hby at_276) rfl ?_
          show own_S p e below m T797 278 #[lvI p0_, lvI p1_, lvI (3 : Int32), lvI z467, lvI (1 : Int32), lvI (0 : Int32), lvR b475, lvR b484, lvR b496, lvR b510, lvR b496, lvR b484, lvR b510, lvR b496, lvI (2 : Int32), lvR b484, lvR b510, .val .null, lvI (0 : Int32), lvI (1 : Int32)] [(.int (1 : Int32))] _
          refine XS.ifNo X797.here hx rfl (hb hby at_278) rfl ((if0 _ _).trans (feq (by decide : ¬ ((1 : Int32) = (0 : Int32)))).1) ?_
          refine XS.iload X797.here hx rfl (hb hby at_281) rfl ?_
          refine XS.iloadN X797.here hx rfl (hb hby at_283) rfl ?_
          refine XS.iconst X797.here hx rfl (hb hby at_284) ?_
          show own_S p e below m T797 285 #[lvI p0_, lvI p1_, lvI (3 : Int32), lvI z467, lvI (1 : Int32), lvI (0 : Int32), lvR b475, lvR b484, lvR b496, lvR b510, lvR b496, lvR b484, lvR b510, lvR b496, lvI (2 : Int32), lvR b484, lvR b510, .val .null, lvI (0 : Int32), lvI (1 : Int32)] [(.int (1 : Int32)), (.int (3 : Int32)), (.int (2 : Int32))] _
          refine XS.isub X797.here hx rfl (hb hby at_285) rfl ?_
          refine XS.iconst X797.here hx rfl (hb hby at_286) ?_
          show own_S p e below m T797 287 #[lvI p0_, lvI p1_, lvI (3 : Int32), lvI z467, lvI (1 : Int32), lvI (0 : Int32), lvR b475, lvR b484, lvR b496, lvR b510, lvR b496, lvR b484, lvR b510, lvR b496, lvI (2 : Int32), lvR b484, lvR b510, .val .null, lvI (0 : Int32), lvI (1 : Int32)] [(.int (0 : Int32)), (.int (2 : Int32)), (.int (2 : Int32))] _
          refine st799 _ ?_
          show own_S p e below m T799 290 #[lvI p0_, lvI p1_, lvI (3 : Int32), lvI z467, lvI (1 : Int32), lvI (0 : Int32), lvR b475, lvR b484, lvR b496, lvR b510, lvR b496, lvR b484, lvR b510, lvR b496, lvI (2 : Int32), lvR b484, lvR b510, .val .null, lvI (0 : Int32), lvI (1 : Int32)] [(.int (2 : Int32)), (.int (2 : Int32))] _
          refine XS.icmpNo X799.here hx rfl (hb hby at_290) rfl (teq (by decide : (2 : Int32) = (2 : Int32))).2 ?_
          refine XS.iload X799.here hx rfl (hb hby at_293) rfl ?_
          show own_S p e below m T799 295 #[lvI p0_, lvI p1_, lvI (3 : Int32), lvI z467, lvI (1 : Int32), lvI (0 : Int32), lvR b475, lvR b484, lvR b496, lvR b510, lvR b496, lvR b484, lvR b510, lvR b496, lvI (2 : Int32), lvR b484, lvR b510, .val .null, lvI (0 : Int32), lvI (1 : Int32)] [(.int (0 : Int32))] _
          refine XS.ifNo X799.here hx rfl (hb hby at_295) rfl ((if0 _ _).trans (teq (by decide : (0 : Int32) = (0 : Int32))).2) ?_
          refine XS.aload X799.here hx rfl (hb hby at_298) rfl rfl ?_
          show own_S p e below m T799 300 #[lvI p0_, lvI p1_, lvI (3 : Int32), lvI z467, lvI (1 : Int32), lvI (0 : Int32), lvR b475, lvR b484, lvR b496, lvR b510, lvR b496, lvR b484, lvR b510, lvR b496, lvI (2 : Int32), lvR b484, lvR b510, .val .null, lvI (0 : Int32), lvI (1 : Int32)] [(.ref b475)] _
          refine st801.trans ?_
          show own_S p e below m T801 303 #[lvI p0_, lvI p1_, lvI (3 : Int32), lvI z467, lvI (1 : Int32), lvI (0 : Int32), lvR b475, lvR b484, lvR b496, lvR b510, lvR b496, lvR b484, lvR b510, lvR b496, lvI (2 : Int32), lvR b484, lvR b510, .val .null, lvI (0 : Int32), lvI (1 : Int32)] [.null] _
          refine XS.ifnonnullNo X801.here hx rfl (hb hby at_303) rfl ?_
          refine XS.iconst X801.here hx rfl (hb hby at_306) ?_
          refine XS.goto X801.here hx rfl (pc0 := 307) (pc' := 311) rfl (hb hby at_307) (by decide) (by decide) ?_
          refine XS.istore X801.here hx rfl (hb hby at_311) rfl (l' := #[lvI p0_, lvI p1_, lvI (3 : Int32), lvI z467, lvI (1 : Int32), lvI (0 : Int32), lvR b475, lvR b484, lvR b496, lvR b510, lvR b496, lvR b484, lvR b510, lvR b496, lvI (2 : Int32), lvR b484, lvR b510, .val .null, lvI (0 : Int32), lvI (1 : Int32)]) rfl ?_
          show own_S p e below m T801 313 #[lvI p0_, lvI p1_, lvI (3 : Int32), lvI z467, lvI (1 : Int32), lvI (0 : Int32), lvR b475, lvR b484, lvR b496, lvR b510, lvR b496, lvR b484, lvR b510, lvR b496, lvI (2 : Int32), lvR b484, lvR b510, .val .null, lvI (0 : Int32), lvI (1 : Int32)] [] _
          refine XS.iload X801.here hx rfl (hb hby at_313) rfl ?_
          show own_S p e below m T801 315 #[lvI p0_, lvI p1_, lvI (3 : Int32), lvI z467, lvI (1 : Int32), lvI (0 : Int32), lvR b475, lvR b484, lvR b496, lvR b510, lvR b496, lvR b484, lvR b510, lvR b496, lvI (2 : Int32), lvR b484, lvR b510, .val .null, lvI (0 : Int32), lvI (1 : Int32)] [(.int (1 : Int32))] _
          refine XS.ifNo X801.here hx rfl (hb hby at_315) rfl ((if0 _ _).trans (feq (by decide : ¬ ((1 : Int32) = (0 : Int32)))).1) ?_
          refine XS.aload X801.here hx rfl (hb hby at_318) rfl rfl ?_
          show own_S p e below m T801 320 #[lvI p0_, lvI p1_, lvI (3 : Int32), lvI z467, lvI (1 : Int32), lvI (0 : Int32), lvR b475, lvR b484, lvR b496, lvR b510, lvR b496, lvR b484, lvR b510, lvR b496, lvI (2 : Int32), lvR b484, lvR b510, .val .null, lvI (0 : Int32), lvI (1 : Int32)] [(.ref b496)] _
          refine XS.ifnullNo X801.here hx rfl (hb hby at_320) rfl ?_
          refine XS.aload X801.here hx rfl (hb hby at_323) rfl rfl ?_
          show own_S p e below m T801 325 #[lvI p0_, lvI p1_, lvI (3 : Int32), lvI z467, lvI (1 : Int32), lvI (0 : Int32), lvR b475, lvR b484, lvR b496, lvR b510, lvR b496, lvR b484, lvR b510, lvR b496, lvI (2 : Int32), lvR b484, lvR b510, .val .null, lvI (0 : Int32), lvI (1 : Int32)] [(.ref b496)] _
          refine st803.trans ?_
          show own_S p e below m T803 328 #[lvI p0_, lvI p1_, lvI (3 : Int32), lvI z467, lvI (1 : Int32), lvI (0 : Int32), lvR b475, lvR b484, lvR b496, lvR b510, lvR b496, lvR b484, lvR b510, lvR b496, lvI (2 : Int32), lvR b484, lvR b510, .val .null, lvI (0 : Int32), lvI (1 : Int32)] [(.int (0 : Int32))] _
          refine XS.ifNo X803.here hx rfl (hb hby at_328) rfl ((if0 _ _).trans (teq (by decide : (0 : Int32) = (0 : Int32))).2) ?_
          refine XS.iconst X803.here hx rfl (hb hby at_331) ?_
          refine XS.goto X803.here hx rfl (pc0 := 332) (pc' := 336) rfl (hb hby at_332) (by decide) (by decide) ?_
          refine XS.istore X803.here hx rfl (hb hby at_336) rfl (l' := #[lvI p0_, lvI p1_, lvI (3 : Int32), lvI z467, lvI (1 : Int32), lvI (0 : Int32), lvR b475, lvR b484, lvR b496, lvR b510, lvR b496, lvR b484, lvR b510, lvR b496, lvI (2 : Int32), lvR b484, lvR b510, .val .null, lvI (0 : Int32), lvI (1 : Int32)]) rfl ?_
          show own_S p e below m T803 338 #[lvI p0_, lvI p1_, lvI (3 : Int32), lvI z467, lvI (1 : Int32), lvI (0 : Int32), lvR b475, lvR b484, lvR b496, lvR b510, lvR b496, lvR b484, lvR b510, lvR b496, lvI (2 : Int32), lvR b484, lvR b510, .val .null, lvI (0 : Int32), lvI (1 : Int32)] [] _
          refine XS.iload X803.here hx rfl (hb hby at_338) rfl ?_
          exact kt
        obtain ⟨fs, hr, hrun, hended, hW, hsame⟩ := X803.leave (v := some (.int (1 : Int32))) (fun h => by rw [Bd.returns] at h; cases h)
        refine ⟨_, _, hG _ (pre817 _ (retN X803 hx (t := .boolean) Bd.returns (by simp) (hb hby at_340) hr)), hrun, hended, _, _, rfl, ?_, ⟨_, rfl⟩, hW, hsame.mono (by decide) (by decide)⟩
        show QLaw Z p0_ p1_ h0 n0 _ T803.heap _
        rw [e803']
        exact ⟨rfl, N816⟩
      · have f820 : Exa Z h524 b510 cn0 := g521_0.keep K524
        have f821 : Exa Z h732 b510 cn0 := f820.keep K732
        have f822 : Fld Z h524 b510 cn0 "thread" "Ljava/lang/Thread;" .null := g521_1.keep K524 (ninS (Ne.symm ne539) (ninS (Ne.symm ne561) nin0))
        have f823 : Fld Z h732 b510 cn0 "thread" "Ljava/lang/Thread;" .null := f822.keep K732 (ninS (Ne.symm ne738) (ninS (Ne.symm ne561) (ninS (Ne.symm ne539) nin0)))
        have f824 : Fld Z h524 b510 cn0 "picked" "Z" (.int (0 : Int32)) := g521_2.keep K524 (ninS (Ne.symm ne539) (ninS (Ne.symm ne561) nin0))
        have f825 : Fld Z h732 b510 cn0 "picked" "Z" (.int (0 : Int32)) := f824.keep K732 (ninS (Ne.symm ne738) (ninS (Ne.symm ne561) (ninS (Ne.symm ne539) nin0)))
        have f826 : Fld Z h524 b510 cn0 "queued" "Z" (.int (0 : Int32)) := g521_3.keep K524 (ninS (Ne.symm ne539) (ninS (Ne.symm ne561) nin0))
        have f827 : Fld Z h732 b510 cn0 "queued" "Z" (.int (0 : Int32)) := f826.keep K732 (ninS (Ne.symm ne738) (ninS (Ne.symm ne561) (ninS (Ne.symm ne539) nin0)))
        have f828 : Fld Z h524 b510 cn0 "next" "Llatchwork/WaitQueue$Waiter;" .null := g521_4.keep K524 (ninS (Ne.symm ne539) (ninS (Ne.symm ne561) nin0))
        have f829 : Fld Z h732 b510 cn0 "next" "Llatchwork/WaitQueue$Waiter;" .null := f828.keep K732 (ninS (Ne.symm ne738) (ninS (Ne.symm ne561) (ninS (Ne.symm ne539) nin0)))
        have f830 : Fld Z h524 b510 cn0 "prev" "Llatchwork/WaitQueue$Waiter;" .null := g521_5.keep K524 (ninS (Ne.symm ne539) (ninS (Ne.symm ne561) nin0))
        have f831 : Fld Z h732 b510 cn0 "prev" "Llatchwork/WaitQueue$Waiter;" .null := f830.keep K732 (ninS (Ne.symm ne738) (ninS (Ne.symm ne561) (ninS (Ne.symm ne539) nin0)))
        have f832 : Old Z n0 h732 := f752.keep K732 (allS (ge498) (allS (ge485) (allS (ge476) all0)))
        obtain ⟨cq819, kq819, q819a, q819b, q819c⟩ := isOf hZ e732 g732_0
        obtain ⟨_, _, ⟨T819, L819, k819, n819⟩, -, X819, ⟨Lc819, hQ819, l819, y819, z819⟩, st819⟩ := X732.virtualBack hx (y := (⟨"latchwork/WaitQueue", "add", "(Llatchwork/WaitQueue$Waiter;Z)V"⟩ : MethodName)) (z := (⟨"latchwork/WaitQueue", "add", "(Llatchwork/WaitQueue$Waiter;Z)V"⟩ : MethodName)) hown (mvT hZ (own_w hw 41 rfl)) (mvT hZ (own_w hw 42 rfl)) (notFace_of_selects (args := #[]) (mvT hZ (own_w hw 44 rfl))) (mvT hZ (own_w hw 44 rfl)) (mvT hZ (own_w hw 43 rfl)) (by decide) (backOf (W := 0) (rmadd23 l Z a0 hw [] b475 b510 b496 b484 h732 n0 f832 g732_0 g732_1 g732_2 g732_3 f821 f823 f825 f827 f829 f831 g732_4 g732_5 g732_6 g732_7 g732_8 g732_9 g732_10 g732_11 g732_12 g732_13 g732_14 g732_15 ge512 ne539 ne738 ge498 ne536 ge476) hZ (own_w hw 45 rfl) (own_w hw 2 rfl) (by decide) (by decide)) q819a q819c (g := (mkF m 119 #[lvI p0_, lvI p1_, lvI (3 : Int32), lvI z467, lvI (1 : Int32), lvI (1 : Int32), lvR b475, lvR b484, lvR b496, lvR b510, .unset, .unset, .unset, .unset, .unset, .unset, .unset, .unset, .unset, .unset] [(.int (1 : Int32)), (.ref b510), (.ref b475)])) rfl (by rw [hml]; rfl) (Steps.refl _) (argsL := [(.ref b510), (.int (1 : Int32))]) (rest := []) (lenOf pd_5 rfl) rfl (by show 2 * 0 + _ ≤ _; exact Nat.le_of_eq rfl) (hb hby at_119) (fun _ _ => ⟨rfl, e732, (by decide : 4 + 0 ≤ _), (by decide : 28 + 0 ≤ _)⟩)
        dsimp only [Pt.U, Pt.locs, Pt.cells, Pt.slots] at X819 l819 y819 z819 st819 hQ819
        subst l819 y819 z819
        obtain ⟨h819, e819⟩ : ∃ z, T819.heap = z := ⟨_, rfl⟩
        rw [e819] at hQ819
        obtain ⟨rfl, N819q, K819, g819_0, g819_1, g819_2, g819_3, g819_4, g819_5, g819_6, g819_7, g819_8, g819_9, g819_10, g819_11, g819_12, g819_13, g819_14, g819_15⟩ := hQ819
        have N833 := Fr.app N753 N819q
        have f835 : Exa Z h819 b484 cn0 := g732_10.keep K819
        have f836 : Fld Z h819 b484 cn0 "thread" "Ljava/lang/Thread;" .null := g732_11.keep K819 (ninS ne561 (ninS ne558 (ninS (Ne.symm ne533) nin0)))
        have f837 : Fld Z h819 b484 cn0 "picked" "Z" (.int (0 : Int32)) := g732_12.keep K819 (ninS ne561 (ninS ne558 (ninS (Ne.symm ne533) nin0)))
        have f838 : Fld Z h819 b484 cn0 "queued" "Z" (.int (1 : Int32)) := g732_13.keep K819 (ninS ne561 (ninS ne558 (ninS (Ne.symm ne533) nin0)))
        have f839 : Fld Z h819 b484 cn0 "next" "Llatchwork/WaitQueue$Waiter;" .null := g732_14.keep K819 (ninS ne561 (ninS ne558 (ninS (Ne.symm ne533) nin0)))
        have f840 : Fld Z h819 b484 cn0 "prev" "Llatchwork/WaitQueue$Waiter;" (.ref b496) := g732_15.keep K819 (ninS ne561 (ninS ne558 (ninS (Ne.symm ne533) nin0)))
        have f841 : Old Z n0 h819 := f832.keep K819 (allS (ge512) (allS (ge498) (allS (ge476) all0)))
        obtain ⟨cq834, kq834, q834a, q834b, q834c⟩ := isOf hZ e819 g819_0
        obtain ⟨_, _, ⟨T834, L834, k834, n834⟩, -, X834, ⟨Lc834, hQ834, l834, y834, z834⟩, st834⟩ := X819.virtualBack hx (y := (⟨"latchwork/WaitQueue", "poll", "()Llatchwork/WaitQueue$Waiter;"⟩ : MethodName)) (z := (⟨"latchwork/WaitQueue", "poll", "()Llatchwork/WaitQueue$Waiter;"⟩ : MethodName)) hown (mvT hZ (own_w hw 18 rfl)) (mvT hZ (own_w hw 19 rfl)) (notFace_of_selects (args := #[]) (mvT hZ (own_w hw 21 rfl))) (mvT hZ (own_w hw 21 rfl)) (mvT hZ (own_w hw 20 rfl)) (by decide) (backOf (W := 0) (rmpoll19 l Z a0 hw [] b475 b510 b484 b496 h819 n0 f841 g819_0 g819_1 g819_2 g819_3 g819_4 g819_5 g819_6 g819_7 g819_8 g819_9 f835 f836 f837 f838 f839 f840 g819_10 g819_11 g819_12 g819_13 g819_14 g819_15 ge476 (Ne.symm ne539) (Ne.symm ne536) ge498 (Ne.symm ne738) ge512) hZ (own_w hw 22 rfl) (own_w hw 2 rfl) (by decide) (by decide)) q834a q834c (g := (mkF m 203 #[lvI p0_, lvI p1_, lvI (3 : Int32), lvI z467, lvI (1 : Int32), lvI (1 : Int32), lvR b475, lvR b484, lvR b496, lvR b510, lvR b510, lvR b496, lvR b484, .unset, .unset, .unset, .unset, .unset, .unset, .unset] [(.ref b475)])) rfl (by rw [hml]; rfl) (Steps.refl _) (argsL := []) (rest := []) (lenOf pd_2 rfl) rfl (by show 2 * 0 + _ ≤ _; exact Nat.le_of_eq rfl) (hb hby at_203) (fun _ _ => ⟨rfl, e819, (by decide : 4 + 0 ≤ _), (by decide : 28 + 0 ≤ _)⟩)
        dsimp only [Pt.U, Pt.locs, Pt.cells, Pt.slots] at X834 l834 y834 z834 st834 hQ834
        subst l834 y834 z834
        obtain ⟨h834, e834⟩ : ∃ z, T834.heap = z := ⟨_, rfl⟩
        rw [e834] at hQ834
        obtain ⟨rfl, N834q, K834, g834_0, g834_1, g834_2, g834_3, g834_4, g834_5, g834_6, g834_7, g834_8, g834_9, g834_10, g834_11, g834_12, g834_13, g834_14, g834_15⟩ := hQ834
        have N842 := Fr.app N833 N834q
        have f844 : Exa Z h834 b484 cn0 := f835.keep K834
        have f845 : Fld Z h834 b484 cn0 "thread" "Ljava/lang/Thread;" .null := f836.keep K834 (ninS (Ne.symm ne533) (ninS ne558 (ninS ne561 nin0)))
        have f846 : Fld Z h834 b484 cn0 "picked" "Z" (.int (0 : Int32)) := f837.keep K834 (ninS (Ne.symm ne533) (ninS ne558 (ninS ne561 nin0)))
        have f847 : Fld Z h834 b484 cn0 "queued" "Z" (.int (1 : Int32)) := f838.keep K834 (ninS (Ne.symm ne533) (ninS ne558 (ninS ne561 nin0)))
        have f848 : Fld Z h834 b484 cn0 "next" "Llatchwork/WaitQueue$Waiter;" .null := f839.keep K834 (ninS (Ne.symm ne533) (ninS ne558 (ninS ne561 nin0)))
        have f849 : Fld Z h834 b484 cn0 "prev" "Llatchwork/WaitQueue$Waiter;" (.ref b496) := f840.keep K834 (ninS (Ne.symm ne533) (ninS ne558 (ninS ne561 nin0)))
        have f850 : Old Z n0 h834 := f841.keep K834 (allS (ge476) (allS (ge498) (allS (ge512) all0)))
        obtain ⟨cq843, kq843, q843a, q843b, q843c⟩ := isOf hZ e834 g834_0
        obtain ⟨_, _, ⟨T843, L843, k843, n843⟩, -, X843, ⟨Lc843, hQ843, l843, y843, z843⟩, st843⟩ := X834.virtualBack hx (y := (⟨"latchwork/WaitQueue", "size", "()I"⟩ : MethodName)) (z := (⟨"latchwork/WaitQueue", "size", "()I"⟩ : MethodName)) hown (mvT hZ (own_w hw 25 rfl)) (mvT hZ (own_w hw 26 rfl)) (notFace_of_selects (args := #[]) (mvT hZ (own_w hw 28 rfl))) (mvT hZ (own_w hw 28 rfl)) (mvT hZ (own_w hw 27 rfl)) (by decide) (backOf (W := 0) (rmsize21 l Z a0 hw [] b475 b496 b484 h834 n0 f850 g834_0 g834_1 g834_2 g834_3 g834_10 g834_11 g834_12 g834_13 g834_14 g834_15 f844 f845 f846 f847 f848 f849) hZ (own_w hw 29 rfl) (own_w hw 2 rfl) (by decide) (by decide)) q843a q843c (g := (mkF m 210 #[lvI p0_, lvI p1_, lvI (3 : Int32), lvI z467, lvI (1 : Int32), lvI (1 : Int32), lvR b475, lvR b484, lvR b496, lvR b510, lvR b510, lvR b496, lvR b484, lvR b510, .unset, .unset, .unset, .unset, .unset, .unset] [(.ref b475)])) rfl (by rw [hml]; rfl) (Steps.refl _) (argsL := []) (rest := []) (lenOf pd_3 rfl) rfl (by show 2 * 0 + _ ≤ _; exact Nat.le_of_eq rfl) (hb hby at_210) (fun _ _ => ⟨rfl, e834, (by decide : 4 + 0 ≤ _), (by decide : 28 + 0 ≤ _)⟩)
        dsimp only [Pt.U, Pt.locs, Pt.cells, Pt.slots] at X843 l843 y843 z843 st843 hQ843
        subst l843 y843 z843
        obtain ⟨h843, e843⟩ : ∃ z, T843.heap = z := ⟨_, rfl⟩
        rw [e843] at hQ843
        obtain ⟨rfl, N843q, hh843⟩ := hQ843
        have N851 := Fr.app N842 N843q
        have e843' : T843.heap = h834 := e843.trans hh843
        obtain ⟨cq852, kq852, q852a, q852b, q852c⟩ := isOf hZ e843' g834_0
        obtain ⟨_, _, ⟨T852, L852, k852, n852⟩, -, X852, ⟨Lc852, hQ852, l852, y852, z852⟩, st852⟩ := X843.virtualBack hx (y := (⟨"latchwork/WaitQueue", "poll", "()Llatchwork/WaitQueue$Waiter;"⟩ : MethodName)) (z := (⟨"latchwork/WaitQueue", "poll", "()Llatchwork/WaitQueue$Waiter;"⟩ : MethodName)) hown (mvT hZ (own_w hw 18 rfl)) (mvT hZ (own_w hw 19 rfl)) (notFace_of_selects (args := #[]) (mvT hZ (own_w hw 21 rfl))) (mvT hZ (own_w hw 21 rfl)) (mvT hZ (own_w hw 20 rfl)) (by decide) (backOf (W := 0) (rmpoll13 l Z a0 hw [] b475 b496 b484 h834 n0 f850 g834_0 g834_1 g834_2 g834_3 g834_10 g834_11 g834_12 g834_13 g834_14 g834_15 f844 f845 f846 f847 f848 f849 ge476 (Ne.symm ne536) (Ne.symm ne533) ge485 (Ne.symm ne558) ge498) hZ (own_w hw 22 rfl) (own_w hw 2 rfl) (by decide) (by decide)) q852a q852c (g := (mkF m 217 #[lvI p0_, lvI p1_, lvI (3 : Int32), lvI z467, lvI (1 : Int32), lvI (1 : Int32), lvR b475, lvR b484, lvR b496, lvR b510, lvR b510, lvR b496, lvR b484, lvR b510, lvI (2 : Int32), .unset, .unset, .unset, .unset, .unset] [(.ref b475)])) rfl (by rw [hml]; rfl) (Steps.refl _) (argsL := []) (rest := []) (lenOf pd_2 rfl) rfl (by show 2 * 0 + _ ≤ _; exact Nat.le_of_eq rfl) (hb hby at_217) (fun _ _ => ⟨rfl, e843', (by decide : 4 + 0 ≤ _), (by decide : 28 + 0 ≤ _)⟩)
        dsimp only [Pt.U, Pt.locs, Pt.cells, Pt.slots] at X852 l852 y852 z852 st852 hQ852
        subst l852 y852 z852
        obtain ⟨h852, e852⟩ : ∃ z, T852.heap = z := ⟨_, rfl⟩
        rw [e852] at hQ852
        obtain ⟨rfl, N852q, K852, g852_0, g852_1, g852_2, g852_3, g852_4, g852_5, g852_6, g852_7, g852_8, g852_9, g852_10, g852_11, g852_12, g852_13, g852_14, g852_15⟩ := hQ852
        have N853 := Fr.app N851 N852q
        have f855 : Old Z n0 h852 := f850.keep K852 (allS (ge476) (allS (ge485) (allS (ge498) all0)))
        obtain ⟨cq854, kq854, q854a, q854b, q854c⟩ := isOf hZ e852 g852_0
        obtain ⟨_, _, ⟨T854, L854, k854, n854⟩, -, X854, ⟨Lc854, hQ854, l854, y854, z854⟩, st854⟩ := X852.virtualBack hx (y := (⟨"latchwork/WaitQueue", "poll", "()Llatchwork/WaitQueue$Waiter;"⟩ : MethodName)) (z := (⟨"latchwork/WaitQueue", "poll", "()Llatchwork/WaitQueue$Waiter;"⟩ : MethodName)) hown (mvT hZ (own_w hw 18 rfl)) (mvT hZ (own_w hw 19 rfl)) (notFace_of_selects (args := #[]) (mvT hZ (own_w hw 21 rfl))) (mvT hZ (own_w hw 21 rfl)) (mvT hZ (own_w hw 20 rfl)) (by decide) (backOf (W := 0) (rmpoll8 l Z a0 hw [] b475 b484 h852 n0 f855 g852_0 g852_1 g852_2 g852_3 g852_10 g852_11 g852_12 g852_13 g852_14 g852_15 ge476 (Ne.symm ne533) ge485) hZ (own_w hw 22 rfl) (own_w hw 2 rfl) (by decide) (by decide)) q854a q854c (g := (mkF m 224 #[lvI p0_, lvI p1_, lvI (3 : Int32), lvI z467, lvI (1 : Int32), lvI (1 : Int32), lvR b475, lvR b484, lvR b496, lvR b510, lvR b510, lvR b496, lvR b484, lvR b510, lvI (2 : Int32), lvR b496, .unset, .unset, .unset, .unset] [(.ref b475)])) rfl (by rw [hml]; rfl) (Steps.refl _) (argsL := []) (rest := []) (lenOf pd_2 rfl) rfl (by show 2 * 0 + _ ≤ _; exact Nat.le_of_eq rfl) (hb hby at_224) (fun _ _ => ⟨rfl, e852, (by decide : 4 + 0 ≤ _), (by decide : 28 + 0 ≤ _)⟩)
        dsimp only [Pt.U, Pt.locs, Pt.cells, Pt.slots] at X854 l854 y854 z854 st854 hQ854
        subst l854 y854 z854
        obtain ⟨h854, e854⟩ : ∃ z, T854.heap = z := ⟨_, rfl⟩
        rw [e854] at hQ854
        obtain ⟨rfl, N854q, K854, g854_0, g854_1, g854_2, g854_3, g854_4, g854_5, g854_6, g854_7, g854_8, g854_9⟩ := hQ854
        have N856 := Fr.app N853 N854q
        have f858 : Old Z n0 h854 := f855.keep K854 (allS (ge476) (allS (ge485) all0))
        obtain ⟨cq857, kq857, q857a, q857b, q857c⟩ := isOf hZ e854 g854_0
        obtain ⟨_, _, ⟨T857, L857, k857, n857⟩, -, X857, ⟨Lc857, hQ857, l857, y857, z857⟩, st857⟩ := X854.virtualBack hx (y := (⟨"latchwork/WaitQueue", "poll", "()Llatchwork/WaitQueue$Waiter;"⟩ : MethodName)) (z := (⟨"latchwork/WaitQueue", "poll", "()Llatchwork/WaitQueue$Waiter;"⟩ : MethodName)) hown (mvT hZ (own_w hw 18 rfl)) (mvT hZ (own_w hw 19 rfl)) (notFace_of_selects (args := #[]) (mvT hZ (own_w hw 21 rfl))) (mvT hZ (own_w hw 21 rfl)) (mvT hZ (own_w hw 20 rfl)) (by decide) (backOf (W := 0) (rmpoll3 l Z a0 hw [] b475 h854 n0 f858 g854_0 g854_1 g854_2 g854_3) hZ (own_w hw 22 rfl) (own_w hw 2 rfl) (by decide) (by decide)) q857a q857c (g := (mkF m 231 #[lvI p0_, lvI p1_, lvI (3 : Int32), lvI z467, lvI (1 : Int32), lvI (1 : Int32), lvR b475, lvR b484, lvR b496, lvR b510, lvR b510, lvR b496, lvR b484, lvR b510, lvI (2 : Int32), lvR b496, lvR b484, .unset, .unset, .unset] [(.ref b475)])) rfl (by rw [hml]; rfl) (Steps.refl _) (argsL := []) (rest := []) (lenOf pd_2 rfl) rfl (by show 2 * 0 + _ ≤ _; exact Nat.le_of_eq rfl) (hb hby at_231) (fun _ _ => ⟨rfl, e854, (by decide : 4 + 0 ≤ _), (by decide : 28 + 0 ≤ _)⟩)
        dsimp only [Pt.U, Pt.locs, Pt.cells, Pt.slots] at X857 l857 y857 z857 st857 hQ857
        subst l857 y857 z857
        obtain ⟨h857, e857⟩ : ∃ z, T857.heap = z := ⟨_, rfl⟩
        rw [e857] at hQ857
        obtain ⟨rfl, N857q, hh857⟩ := hQ857
        have N859 := Fr.app N856 N857q
        have e857' : T857.heap = h854 := e857.trans hh857
        obtain ⟨cq860, kq860, q860a, q860b, q860c⟩ := isOf hZ e857' g854_0
        obtain ⟨_, _, ⟨T860, L860, k860, n860⟩, -, X860, ⟨Lc860, hQ860, l860, y860, z860⟩, st860⟩ := X857.virtualBack hx (y := (⟨"latchwork/WaitQueue", "size", "()I"⟩ : MethodName)) (z := (⟨"latchwork/WaitQueue", "size", "()I"⟩ : MethodName)) hown (mvT hZ (own_w hw 25 rfl)) (mvT hZ (own_w hw 26 rfl)) (notFace_of_selects (args := #[]) (mvT hZ (own_w hw 28 rfl))) (mvT hZ (own_w hw 28 rfl)) (mvT hZ (own_w hw 27 rfl)) (by decide) (backOf (W := 0) (rmsize4 l Z a0 hw [] b475 h854 n0 f858 g854_0 g854_1 g854_2 g854_3) hZ (own_w hw 29 rfl) (own_w hw 2 rfl) (by decide) (by decide)) q860a q860c (g := (mkF m 238 #[lvI p0_, lvI p1_, lvI (3 : Int32), lvI z467, lvI (1 : Int32), lvI (1 : Int32), lvR b475, lvR b484, lvR b496, lvR b510, lvR b510, lvR b496, lvR b484, lvR b510, lvI (2 : Int32), lvR b496, lvR b484, .val .null, .unset, .unset] [(.ref b475)])) rfl (by rw [hml]; rfl) (Steps.refl _) (argsL := []) (rest := []) (lenOf pd_3 rfl) rfl (by show 2 * 0 + _ ≤ _; exact Nat.le_of_eq rfl) (hb hby at_238) (fun _ _ => ⟨rfl, e857', (by decide : 4 + 0 ≤ _), (by decide : 28 + 0 ≤ _)⟩)
        dsimp only [Pt.U, Pt.locs, Pt.cells, Pt.slots] at X860 l860 y860 z860 st860 hQ860
        subst l860 y860 z860
        obtain ⟨h860, e860⟩ : ∃ z, T860.heap = z := ⟨_, rfl⟩
        rw [e860] at hQ860
        obtain ⟨rfl, N860q, hh860⟩ := hQ860
        have N861 := Fr.app N859 N860q
        have e860' : T860.heap = h854 := e860.trans hh860
        obtain ⟨_, _, ⟨T862, L862, k862, n862⟩, -, X862, ⟨Lc862, hQ862, l862, y862, z862⟩, st862⟩ := Jvm.LawKit.callS X860 hx (y := (⟨"java/lang/Math", "max", "(II)I"⟩ : MethodName)) hown (mvT hZ (own_w hw 32 rfl)) (mvT hZ (own_w hw 33 rfl)) (mvT hZ (own_w hw 34 rfl)) (mvT hZ (own_w hw 35 rfl)) (by decide) (backOf (W := 1) (rmmax22 l Z a0 hw []  h854 n0 f858 ) hZ (own_w hw 35 rfl) (own_w hw 34 rfl) (by decide) (by decide)) (g := (mkF m 287 #[lvI p0_, lvI p1_, lvI (3 : Int32), lvI z467, lvI (1 : Int32), lvI (1 : Int32), lvR b475, lvR b484, lvR b496, lvR b510, lvR b510, lvR b496, lvR b484, lvR b510, lvI (2 : Int32), lvR b496, lvR b484, .val .null, lvI (0 : Int32), lvI (1 : Int32)] [(.int (0 : Int32)), (.int (2 : Int32)), (.int (2 : Int32))])) rfl (by rw [hml]; rfl) (argsL := [(.int (2 : Int32)), (.int (0 : Int32))]) (rest := [(.int (2 : Int32))]) (lenOf pd_4 rfl) rfl (by show 2 * 0 + _ ≤ _; exact Nat.le_of_eq rfl) (hb hby at_287) (fun _ _ => ⟨rfl, e860', (by decide : 4 + 0 ≤ _), (by decide : 28 + 0 ≤ _)⟩)
        dsimp only [Pt.U, Pt.locs, Pt.cells, Pt.slots] at X862 l862 y862 z862 st862 hQ862
        subst l862 y862 z862
        obtain ⟨h862, e862⟩ : ∃ z, T862.heap = z := ⟨_, rfl⟩
        rw [e862] at hQ862
        obtain ⟨rfl, N862q, hh862⟩ := hQ862
        have N863 := Fr.app N861 N862q
        have e862' : T862.heap = h854 := e862.trans hh862
        obtain ⟨cq864, kq864, q864a, q864b, q864c⟩ := isOf hZ e862' g854_0
        obtain ⟨_, _, ⟨T864, L864, k864, n864⟩, -, X864, ⟨Lc864, hQ864, l864, y864, z864⟩, st864⟩ := X862.virtualBack hx (y := (⟨"latchwork/WaitQueue", "first", "()Llatchwork/WaitQueue$Waiter;"⟩ : MethodName)) (z := (⟨"latchwork/WaitQueue", "first", "()Llatchwork/WaitQueue$Waiter;"⟩ : MethodName)) hown (mvT hZ (own_w hw 36 rfl)) (mvT hZ (own_w hw 37 rfl)) (notFace_of_selects (args := #[]) (mvT hZ (own_w hw 39 rfl))) (mvT hZ (own_w hw 39 rfl)) (mvT hZ (own_w hw 38 rfl)) (by decide) (backOf (W := 0) (rmfirst6 l Z a0 hw [] b475 h854 n0 f858 g854_0 g854_1 g854_2 g854_3) hZ (own_w hw 40 rfl) (own_w hw 2 rfl) (by decide) (by decide)) q864a q864c (g := (mkF m 300 #[lvI p0_, lvI p1_, lvI (3 : Int32), lvI z467, lvI (1 : Int32), lvI (1 : Int32), lvR b475, lvR b484, lvR b496, lvR b510, lvR b510, lvR b496, lvR b484, lvR b510, lvI (2 : Int32), lvR b496, lvR b484, .val .null, lvI (0 : Int32), lvI (1 : Int32)] [(.ref b475)])) rfl (by rw [hml]; rfl) (Steps.refl _) (argsL := []) (rest := []) (lenOf pd_2 rfl) rfl (by show 2 * 0 + _ ≤ _; exact Nat.le_of_eq rfl) (hb hby at_300) (fun _ _ => ⟨rfl, e862', (by decide : 4 + 0 ≤ _), (by decide : 28 + 0 ≤ _)⟩)
        dsimp only [Pt.U, Pt.locs, Pt.cells, Pt.slots] at X864 l864 y864 z864 st864 hQ864
        subst l864 y864 z864
        obtain ⟨h864, e864⟩ : ∃ z, T864.heap = z := ⟨_, rfl⟩
        rw [e864] at hQ864
        obtain ⟨rfl, N864q, hh864⟩ := hQ864
        have N865 := Fr.app N863 N864q
        have e864' : T864.heap = h854 := e864.trans hh864
        have f867 : Exa Z h852 b510 cn0 := g834_4.keep K852
        have f868 : Exa Z h854 b510 cn0 := f867.keep K854
        have f869 : Fld Z h852 b510 cn0 "thread" "Ljava/lang/Thread;" .null := g834_5.keep K852 (ninS (Ne.symm ne539) (ninS (Ne.symm ne561) (ninS (Ne.symm ne738) nin0)))
        have f870 : Fld Z h854 b510 cn0 "thread" "Ljava/lang/Thread;" .null := f869.keep K854 (ninS (Ne.symm ne539) (ninS (Ne.symm ne561) nin0))
        have f871 : Fld Z h852 b510 cn0 "picked" "Z" (.int (0 : Int32)) := g834_6.keep K852 (ninS (Ne.symm ne539) (ninS (Ne.symm ne561) (ninS (Ne.symm ne738) nin0)))
        have f872 : Fld Z h854 b510 cn0 "picked" "Z" (.int (0 : Int32)) := f871.keep K854 (ninS (Ne.symm ne539) (ninS (Ne.symm ne561) nin0))
        have f873 : Fld Z h852 b510 cn0 "queued" "Z" (.int (0 : Int32)) := g834_7.keep K852 (ninS (Ne.symm ne539) (ninS (Ne.symm ne561) (ninS (Ne.symm ne738) nin0)))
        have f874 : Fld Z h854 b510 cn0 "queued" "Z" (.int (0 : Int32)) := f873.keep K854 (ninS (Ne.symm ne539) (ninS (Ne.symm ne561) nin0))
        have f875 : Fld Z h852 b510 cn0 "next" "Llatchwork/WaitQueue$Waiter;" .null := g834_8.keep K852 (ninS (Ne.symm ne539) (ninS (Ne.symm ne561) (ninS (Ne.symm ne738) nin0)))
        have f876 : Fld Z h854 b510 cn0 "next" "Llatchwork/WaitQueue$Waiter;" .null := f875.keep K854 (ninS (Ne.symm ne539) (ninS (Ne.symm ne561) nin0))
        have f877 : Fld Z h852 b510 cn0 "prev" "Llatchwork/WaitQueue$Waiter;" .null := g834_9.keep K852 (ninS (Ne.symm ne539) (ninS (Ne.symm ne561) (ninS (Ne.symm ne738) nin0)))
        have f878 : Fld Z h854 b510 cn0 "prev" "Llatchwork/WaitQueue$Waiter;" .null := f877.keep K854 (ninS (Ne.symm ne539) (ninS (Ne.symm ne561) nin0))
        obtain ⟨cq866, kq866, q866a, q866b, q866c⟩ := isOf hZ e864' f868
        obtain ⟨_, _, ⟨T866, L866, k866, n866⟩, -, X866, ⟨Lc866, hQ866, l866, y866, z866⟩, st866⟩ := X864.virtualBack hx (y := (⟨"latchwork/WaitQueue$Waiter", "isQueued", "()Z"⟩ : MethodName)) (z := (⟨"latchwork/WaitQueue$Waiter", "isQueued", "()Z"⟩ : MethodName)) hown (mvT hZ (own_w hw 61 rfl)) (mvT hZ (own_w hw 62 rfl)) (notFace_of_selects (args := #[]) (mvT hZ (own_w hw 64 rfl))) (mvT hZ (own_w hw 64 rfl)) (mvT hZ (own_w hw 63 rfl)) (by decide) (backOf (W := 0) (rmisQueued11 l Z a0 hw [] b510 h854 n0 f858 f868 f870 f872 f874 f876 f878) hZ (own_w hw 65 rfl) (own_w hw 11 rfl) (by decide) (by decide)) q866a q866c (g := (mkF m 325 #[lvI p0_, lvI p1_, lvI (3 : Int32), lvI z467, lvI (1 : Int32), lvI (1 : Int32), lvR b475, lvR b484, lvR b496, lvR b510, lvR b510, lvR b496, lvR b484, lvR b510, lvI (2 : Int32), lvR b496, lvR b484, .val .null, lvI (0 : Int32), lvI (1 : Int32)] [(.ref b510)])) rfl (by rw [hml]; rfl) (Steps.refl _) (argsL := []) (rest := []) (lenOf pd_7 rfl) rfl (by show 2 * 0 + _ ≤ _; exact Nat.le_of_eq rfl) (hb hby at_325) (fun _ _ => ⟨rfl, e864', (by decide : 4 + 0 ≤ _), (by decide : 28 + 0 ≤ _)⟩)
        dsimp only [Pt.U, Pt.locs, Pt.cells, Pt.slots] at X866 l866 y866 z866 st866 hQ866
        subst l866 y866 z866
        obtain ⟨h866, e866⟩ : ∃ z, T866.heap = z := ⟨_, rfl⟩
        rw [e866] at hQ866
        obtain ⟨rfl, N866q, hh866⟩ := hQ866
        have N879 := Fr.app N865 N866q
        have e866' : T866.heap = h854 := e866.trans hh866
        have pre880 : ∀ t, own_S p e below m T866 340 #[lvI p0_, lvI p1_, lvI (3 : Int32), lvI z467, lvI (1 : Int32), lvI (1 : Int32), lvR b475, lvR b484, lvR b496, lvR b510, lvR b510, lvR b496, lvR b484, lvR b510, lvI (2 : Int32), lvR b496, lvR b484, .val .null, lvI (0 : Int32), lvI (1 : Int32)] [(.int (1 : Int32))] t → G t := by
          intro t kt
          refine pre754 t ?_
          show own_S p e below m T732 119 #[lvI p0_, lvI p1_, lvI (3 : Int32), lvI z467, lvI (1 : Int32), lvI (1 : Int32), lvR b475, lvR b484, lvR b496, lvR b510, .unset, .unset, .unset, .unset, .unset, .unset, .unset, .unset, .unset, .unset] [(.int (1 : Int32)), (.ref b510), (.ref b475)] _
          refine st819.trans ?_
          refine XS.aconstNull X819.here hx rfl (hb hby at_122) ?_
          refine XS.astore X819.here hx rfl (hb hby at_123) rfl rfl (l' := #[lvI p0_, lvI p1_, lvI (3 : Int32), lvI z467, lvI (1 : Int32), lvI (1 : Int32), lvR b475, lvR b484, lvR b496, lvR b510, .val .null, .unset, .unset, .unset, .unset, .unset, .unset, .unset, .unset, .unset]) rfl ?_
          refine XS.aconstNull X819.here hx rfl (hb hby at_125) ?_
          show own_S p e below m T819 126 #[lvI p0_, lvI p1_, lvI (3 : Int32), lvI z467, lvI (1 : Int32), lvI (1 : Int32), lvR b475, lvR b484, lvR b496, lvR b510, .val .null, .unset, .unset, .unset, .unset, .unset, .unset, .unset, .unset, .unset] [.null] _
          refine XS.astore X819.here hx rfl (hb hby at_126) rfl rfl (l' := #[lvI p0_, lvI p1_, lvI (3 : Int32), lvI z467, lvI (1 : Int32), lvI (1 : Int32), lvR b475, lvR b484, lvR b496, lvR b510, .val .null, .val .null, .unset, .unset, .unset, .unset, .unset, .unset, .unset, .unset]) rfl ?_
          refine XS.aconstNull X819.here hx rfl (hb hby at_128) ?_
          refine XS.astore X819.here hx rfl (hb hby at_129) rfl rfl (l' := #[lvI p0_, lvI p1_, lvI (3 : Int32), lvI z467, lvI (1 : Int32), lvI (1 : Int32), lvR b475, lvR b484, lvR b496, lvR b510, .val .null, .val .null, .val .null, .unset, .unset, .unset, .unset, .unset, .unset, .unset]) rfl ?_
          refine XS.iloadN X819.here hx rfl (hb hby at_131) rfl ?_
          show own_S p e below m T819 132 #[lvI p0_, lvI p1_, lvI (3 : Int32), lvI z467, lvI (1 : Int32), lvI (1 : Int32), lvR b475, lvR b484, lvR b496, lvR b510, .val .null, .val .null, .val .null, .unset, .unset, .unset, .unset, .unset, .unset, .unset] [(.int (3 : Int32))] _
          refine XS.iconst X819.here hx rfl (hb hby at_132) ?_
          show own_S p e below m T819 133 #[lvI p0_, lvI p1_, lvI (3 : Int32), lvI z467, lvI (1 : Int32), lvI (1 : Int32), lvR b475, lvR b484, lvR b496, lvR b510, .val .null, .val .null, .val .null, .unset, .unset, .unset, .unset, .unset, .unset, .unset] [(.int (1 : Int32)), (.int (3 : Int32))] _
          refine XS.icmpYes X819.here hx rfl (pc0 := 133) (pc' := 143) rfl (hb hby at_133) rfl (feq (by decide : ¬ ((3 : Int32) = (1 : Int32)))).2 (by decide) (by decide) ?_
          refine XS.iloadN X819.here hx rfl (hb hby at_143) rfl ?_
          refine XS.iconst X819.here hx rfl (hb hby at_144) ?_
          show own_S p e below m T819 145 #[lvI p0_, lvI p1_, lvI (3 : Int32), lvI z467, lvI (1 : Int32), lvI (1 : Int32), lvR b475, lvR b484, lvR b496, lvR b510, .val .null, .val .null, .val .null, .unset, .unset, .unset, .unset, .unset, .unset, .unset] [(.int (2 : Int32)), (.int (3 : Int32))] _
          refine XS.icmpNo X819.here hx rfl (hb hby at_145) rfl (flt (by decide : ¬ ((3 : Int32) < (2 : Int32)))).1 ?_
          refine XS.iload X819.here hx rfl (hb hby at_148) rfl ?_
          show own_S p e below m T819 150 #[lvI p0_, lvI p1_, lvI (3 : Int32), lvI z467, lvI (1 : Int32), lvI (1 : Int32), lvR b475, lvR b484, lvR b496, lvR b510, .val .null, .val .null, .val .null, .unset, .unset, .unset, .unset, .unset, .unset, .unset] [(.int (1 : Int32))] _
          refine XS.ifNo X819.here hx rfl (hb hby at_150) rfl ((if0 _ _).trans (feq (by decide : ¬ ((1 : Int32) = (0 : Int32)))).1) ?_
          refine XS.aload X819.here hx rfl (hb hby at_153) rfl rfl ?_
          refine XS.astore X819.here hx rfl (hb hby at_155) rfl rfl (l' := #[lvI p0_, lvI p1_, lvI (3 : Int32), lvI z467, lvI (1 : Int32), lvI (1 : Int32), lvR b475, lvR b484, lvR b496, lvR b510, lvR b496, .val .null, .val .null, .unset, .unset, .unset, .unset, .unset, .unset, .unset]) rfl ?_
          refine XS.aload X819.here hx rfl (hb hby at_157) rfl rfl ?_
          show own_S p e below m T819 159 #[lvI p0_, lvI p1_, lvI (3 : Int32), lvI z467, lvI (1 : Int32), lvI (1 : Int32), lvR b475, lvR b484, lvR b496, lvR b510, lvR b496, .val .null, .val .null, .unset, .unset, .unset, .unset, .unset, .unset, .unset] [(.ref b484)] _
          refine XS.astore X819.here hx rfl (hb hby at_159) rfl rfl (l' := #[lvI p0_, lvI p1_, lvI (3 : Int32), lvI z467, lvI (1 : Int32), lvI (1 : Int32), lvR b475, lvR b484, lvR b496, lvR b510, lvR b496, lvR b484, .val .null, .unset, .unset, .unset, .unset, .unset, .unset, .unset]) rfl ?_
          refine XS.goto X819.here hx rfl (pc0 := 161) (pc' := 172) rfl (hb hby at_161) (by decide) (by decide) ?_
          refine XS.iloadN X819.here hx rfl (hb hby at_172) rfl ?_
          refine XS.iconst X819.here hx rfl (hb hby at_173) ?_
          show own_S p e below m T819 174 #[lvI p0_, lvI p1_, lvI (3 : Int32), lvI z467, lvI (1 : Int32), lvI (1 : Int32), lvR b475, lvR b484, lvR b496, lvR b510, lvR b496, lvR b484, .val .null, .unset, .unset, .unset, .unset, .unset, .unset, .unset] [(.int (3 : Int32)), (.int (3 : Int32))] _
          refine XS.icmpNo X819.here hx rfl (hb hby at_174) rfl (teq (by decide : (3 : Int32) = (3 : Int32))).2 ?_
          refine XS.iload X819.here hx rfl (hb hby at_177) rfl ?_
          show own_S p e below m T819 179 #[lvI p0_, lvI p1_, lvI (3 : Int32), lvI z467, lvI (1 : Int32), lvI (1 : Int32), lvR b475, lvR b484, lvR b496, lvR b510, lvR b496, lvR b484, .val .null, .unset, .unset, .unset, .unset, .unset, .unset, .unset] [(.int (1 : Int32))] _
          refine XS.ifNo X819.here hx rfl (hb hby at_179) rfl ((if0 _ _).trans (feq (by decide : ¬ ((1 : Int32) = (0 : Int32)))).1) ?_
          refine XS.aload X819.here hx rfl (hb hby at_182) rfl rfl ?_
          refine XS.astore X819.here hx rfl (hb hby at_184) rfl rfl (l' := #[lvI p0_, lvI p1_, lvI (3 : Int32), lvI z467, lvI (1 : Int32), lvI (1 : Int32), lvR b475, lvR b484, lvR b496, lvR b510, lvR b496, lvR b484, lvR b484, .unset, .unset, .unset, .unset, .unset, .unset, .unset]) rfl ?_
          refine XS.aload X819.here hx rfl (hb hby at_186) rfl rfl ?_
          show own_S p e below m T819 188 #[lvI p0_, lvI p1_, lvI (3 : Int32), lvI z467, lvI (1 : Int32), lvI (1 : Int32), lvR b475, lvR b484, lvR b496, lvR b510, lvR b496, lvR b484, lvR b484, .unset, .unset, .unset, .unset, .unset, .unset, .unset] [(.ref b496)] _
          refine XS.astore X819.here hx rfl (hb hby at_188) rfl rfl (l' := #[lvI p0_, lvI p1_, lvI (3 : Int32), lvI z467, lvI (1 : Int32), lvI (1 : Int32), lvR b475, lvR b484, lvR b496, lvR b510, lvR b496, lvR b496, lvR b484, .unset, .unset, .unset, .unset, .unset, .unset, .unset]) rfl ?_
          refine XS.aload X819.here hx rfl (hb hby at_190) rfl rfl ?_
          refine XS.astore X819.here hx rfl (hb hby at_192) rfl rfl (l' := #[lvI p0_, lvI p1_, lvI (3 : Int32), lvI z467, lvI (1 : Int32), lvI (1 : Int32), lvR b475, lvR b484, lvR b496, lvR b510, lvR b510, lvR b496, lvR b484, .unset, .unset, .unset, .unset, .unset, .unset, .unset]) rfl ?_
          refine XS.goto X819.here hx rfl (pc0 := 194) (pc' := 201) rfl (hb hby at_194) (by decide) (by decide) ?_
          show own_S p e below m T819 201 #[lvI p0_, lvI p1_, lvI (3 : Int32), lvI z467, lvI (1 : Int32), lvI (1 : Int32), lvR b475, lvR b484, lvR b496, lvR b510, lvR b510, lvR b496, lvR b484, .unset, .unset, .unset, .unset, .unset, .unset, .unset] [] _
          refine XS.aload X819.here hx rfl (hb hby at_201) rfl rfl ?_
          show own_S p e below m T819 203 #[lvI p0_, lvI p1_, lvI (3 : Int32), lvI z467, lvI (1 : Int32), lvI (1 : Int32), lvR b475, lvR b484, lvR b496, lvR b510, lvR b510, lvR b496, lvR b484, .unset, .unset, .unset, .unset, .unset, .unset, .unset] [(.ref b475)] _
          refine st834.trans ?_
          refine XS.astore X834.here hx rfl (hb hby at_206) rfl rfl (l' := #[lvI p0_, lvI p1_, lvI (3 : Int32), lvI z467, lvI (1 : Int32), lvI (1 : Int32), lvR b475, lvR b484, lvR b496, lvR b510, lvR b510, lvR b496, lvR b484, lvR b510, .unset, .unset, .unset, .unset, .unset, .unset]) rfl ?_
          refine XS.aload X834.here hx rfl (hb hby at_208) rfl rfl ?_
          show own_S p e below m T834 210 #[lvI p0_, lvI p1_, lvI (3 : Int32), lvI z467, lvI (1 : Int32), lvI (1 : Int32), lvR b475, lvR b484, lvR b496, lvR b510, lvR b510, lvR b496, lvR b484, lvR b510, .unset, .unset, .unset, .unset, .unset, .unset] [(.ref b475)] _
          refine st843.trans ?_
          refine XS.istore X843.here hx rfl (hb hby at_213) rfl (l' := #[lvI p0_, lvI p1_, lvI (3 : Int32), lvI z467, lvI (1 : Int32), lvI (1 : Int32), lvR b475, lvR b484, lvR b496, lvR b510, lvR b510, lvR b496, lvR b484, lvR b510, lvI (2 : Int32), .unset, .unset, .unset, .unset, .unset]) rfl ?_
          refine XS.aload X843.here hx rfl (hb hby at_215) rfl rfl ?_
          show own_S p e below m T843 217 #[lvI p0_, lvI p1_, lvI (3 : Int32), lvI z467, lvI (1 : Int32), lvI (1 : Int32), lvR b475, lvR b484, lvR b496, lvR b510, lvR b510, lvR b496, lvR b484, lvR b510, lvI (2 : Int32), .unset, .unset, .unset, .unset, .unset] [(.ref b475)] _
          refine st852.trans ?_
          refine XS.astore X852.here hx rfl (hb hby at_220) rfl rfl (l' := #[lvI p0_, lvI p1_, lvI (3 : Int32), lvI z467, lvI (1 : Int32), lvI (1 : Int32), lvR b475, lvR b484, lvR b496, lvR b510, lvR b510, lvR b496, lvR b484, lvR b510, lvI (2 : Int32), lvR b496, .unset, .unset, .unset, .unset]) rfl ?_
          refine XS.aload X852.here hx rfl (hb hby at_222) rfl rfl ?_
          show own_S p e below m T852 224 #[lvI p0_, lvI p1_, lvI (3 : Int32), lvI z467, lvI (1 : Int32), lvI (1 : Int32), lvR b475, lvR b484, lvR b496, lvR b510, lvR b510, lvR b496, lvR b484, lvR b510, lvI (2 : Int32), lvR b496, .unset, .unset, .unset, .unset] [(.ref b475)] _
          refine st854.trans ?_
          refine XS.astore X854.here hx rfl (hb hby at_227) rfl rfl (l' := #[lvI p0_, lvI p1_, lvI (3 : Int32), lvI z467, lvI (1 : Int32), lvI (1 : Int32), lvR b475, lvR b484, lvR b496, lvR b510, lvR b510, lvR b496, lvR b484, lvR b510, lvI (2 : Int32), lvR b496, lvR b484, .unset, .unset, .unset]) rfl ?_
          refine XS.aload X854.here hx rfl (hb hby at_229) rfl rfl ?_
          show own_S p e below m T854 231 #[lvI p0_, lvI p1_, lvI (3 : Int32), lvI z467, lvI (1 : Int32), lvI (1 : Int32), lvR b475, lvR b484, lvR b496, lvR b510, lvR b510, lvR b496, lvR b484, lvR b510, lvI (2 : Int32), lvR b496, lvR b484, .unset, .unset, .unset] [(.ref b475)] _
          refine st857.trans ?_
          refine XS.astore X857.here hx rfl (hb hby at_234) rfl rfl (l' := #[lvI p0_, lvI p1_, lvI (3 : Int32), lvI z467, lvI (1 : Int32), lvI (1 : Int32), lvR b475, lvR b484, lvR b496, lvR b510, lvR b510, lvR b496, lvR b484, lvR b510, lvI (2 : Int32), lvR b496, lvR b484, .val .null, .unset, .unset]) rfl ?_
          refine XS.aload X857.here hx rfl (hb hby at_236) rfl rfl ?_
          show own_S p e below m T857 238 #[lvI p0_, lvI p1_, lvI (3 : Int32), lvI z467, lvI (1 : Int32), lvI (1 : Int32), lvR b475, lvR b484, lvR b496, lvR b510, lvR b510, lvR b496, lvR b484, lvR b510, lvI (2 : Int32), lvR b496, lvR b484, .val .null, .unset, .unset] [(.ref b475)] _
          refine st860.trans ?_
          refine XS.istore X860.here hx rfl (hb hby at_241) rfl (l' := #[lvI p0_, lvI p1_, lvI (3 : Int32), lvI z467, lvI (1 : Int32), lvI (1 : Int32), lvR b475, lvR b484, lvR b496, lvR b510, lvR b510, lvR b496, lvR b484, lvR b510, lvI (2 : Int32), lvR b496, lvR b484, .val .null, lvI (0 : Int32), .unset]) rfl ?_
          refine XS.aload X860.here hx rfl (hb hby at_243) rfl rfl ?_
          refine XS.aload X860.here hx rfl (hb hby at_245) rfl rfl ?_
          show own_S p e below m T860 247 #[lvI p0_, lvI p1_, lvI (3 : Int32), lvI z467, lvI (1 : Int32), lvI (1 : Int32), lvR b475, lvR b484, lvR b496, lvR b510, lvR b510, lvR b496, lvR b484, lvR b510, lvI (2 : Int32), lvR b496, lvR b484, .val .null, lvI (0 : Int32), .unset] [(.ref b510), (.ref b510)] _
          refine Jvm.RoadKit.acmp (g := (mkF m 247 #[lvI p0_, lvI p1_, lvI (3 : Int32), lvI z467, lvI (1 : Int32), lvI (1 : Int32), lvR b475, lvR b484, lvR b496, lvR b510, lvR b510, lvR b496, lvR b484, lvR b510, lvI (2 : Int32), lvR b496, lvR b484, .val .null, lvI (0 : Int32), .unset] [(.ref b510), (.ref b510)])) X860 hx rfl rfl rfl (pc0 := 247) (pc' := 250) (same := true) rfl (hb hby at_247) rfl (decide_eq_true rfl) (by decide) (by decide) ?_
          refine XS.aload X860.here hx rfl (hb hby at_250) rfl rfl ?_
          refine XS.aload X860.here hx rfl (hb hby at_252) rfl rfl ?_
          show own_S p e below m T860 254 #[lvI p0_, lvI p1_, lvI (3 : Int32), lvI z467, lvI (1 : Int32), lvI (1 : Int32), lvR b475, lvR b484, lvR b496, lvR b510, lvR b510, lvR b496, lvR b484, lvR b510, lvI (2 : Int32), lvR b496, lvR b484, .val .null, lvI (0 : Int32), .unset] [(.ref b496), (.ref b496)] _
          refine Jvm.RoadKit.acmp (g := (mkF m 254 #[lvI p0_, lvI p1_, lvI (3 : Int32), lvI z467, lvI (1 : Int32), lvI (1 : Int32), lvR b475, lvR b484, lvR b496, lvR b510, lvR b510, lvR b496, lvR b484, lvR b510, lvI (2 : Int32), lvR b496, lvR b484, .val .null, lvI (0 : Int32), .unset] [(.ref b496), (.ref b496)])) X860 hx rfl rfl rfl (pc0 := 254) (pc' := 257) (same := true) rfl (hb hby at_254) rfl (decide_eq_true rfl) (by decide) (by decide) ?_
          refine XS.aload X860.here hx rfl (hb hby at_257) rfl rfl ?_
          refine XS.aload X860.here hx rfl (hb hby at_259) rfl rfl ?_
          show own_S p e below m T860 261 #[lvI p0_, lvI p1_, lvI (3 : Int32), lvI z467, lvI (1 : Int32), lvI (1 : Int32), lvR b475, lvR b484, lvR b496, lvR b510, lvR b510, lvR b496, lvR b484, lvR b510, lvI (2 : Int32), lvR b496, lvR b484, .val .null, lvI (0 : Int32), .unset] [(.ref b484), (.ref b484)] _
          refine Jvm.RoadKit.acmp (g := (mkF m 261 #[lvI p0_, lvI p1_, lvI (3 : Int32), lvI z467, lvI (1 : Int32), lvI (1 : Int32), lvR b475, lvR b484, lvR b496, lvR b510, lvR b510, lvR b496, lvR b484, lvR b510, lvI (2 : Int32), lvR b496, lvR b484, .val .null, lvI (0 : Int32), .unset] [(.ref b484), (.ref b484)])) X860 hx rfl rfl rfl (pc0 := 261) (pc' := 264) (same := true) rfl (hb hby at_261) rfl (decide_eq_true rfl) (by decide) (by decide) ?_
          refine XS.aload X860.here hx rfl (hb hby at_264) rfl rfl ?_
          show own_S p e below m T860 266 #[lvI p0_, lvI p1_, lvI (3 : Int32), lvI z467, lvI (1 : Int32), lvI (1 : Int32), lvR b475, lvR b484, lvR b496, lvR b510, lvR b510, lvR b496, lvR b484, lvR b510, lvI (2 : Int32), lvR b496, lvR b484, .val .null, lvI (0 : Int32), .unset] [.null] _
          refine XS.ifnonnullNo X860.here hx rfl (hb hby at_266) rfl ?_
          refine XS.iconst X860.here hx rfl (hb hby at_269) ?_
          refine XS.goto X860.here hx rfl (pc0 := 270) (pc' := 274) rfl (hb hby at_270) (by decide) (by decide) ?_
          refine XS.istore X860.here hx rfl (hb hby at_274) rfl (l' := #[lvI p0_, lvI p1_, lvI (3 : Int32), lvI z467, lvI (1 : Int32), lvI (1 : Int32), lvR b475, lvR b484, lvR b496, lvR b510, lvR b510, lvR b496, lvR b484, lvR b510, lvI (2 : Int32), lvR b496, lvR b484, .val .null, lvI (0 : Int32), lvI (1 : Int32)]) rfl ?_
          show own_S p e below m T860 276 #[lvI p0_, lvI p1_, lvI (3 : Int32), lvI z467, lvI (1 : Int32), lvI (1 : Int32), lvR b475, lvR b484, lvR b496, lvR b510, lvR b510, lvR b496, lvR b484, lvR b510, lvI (2 : Int32), lvR b496, lvR b484, .val .null, lvI (0 : Int32), lvI (1 : Int32)] [] _
          refine XS.iload X860.here hx rfl (hb hby at_276) rfl ?_
          show own_S p e below m T860 278 #[lvI p0_, lvI p1_, lvI (3 : Int32), lvI z467, lvI (1 : Int32), lvI (1 : Int32), lvR b475, lvR b484, lvR b496, lvR b510, lvR b510, lvR b496, lvR b484, lvR b510, lvI (2 : Int32), lvR b496, lvR b484, .val .null, lvI (0 : Int32), lvI (1 : Int32)] [(.int (1 : Int32))] _
          refine XS.ifNo X860.here hx rfl (hb hby at_278) rfl ((if0 _ _).trans (feq (by decide : ¬ ((1 : Int32) = (0 : Int32)))).1) ?_
          refine XS.iload X860.here hx rfl (hb hby at_281) rfl ?_
          refine XS.iloadN X860.here hx rfl (hb hby at_283) rfl ?_
          refine XS.iconst X860.here hx rfl (hb hby at_284) ?_
          show own_S p e below m T860 285 #[lvI p0_, lvI p1_, lvI (3 : Int32), lvI z467, lvI (1 : Int32), lvI (1 : Int32), lvR b475, lvR b484, lvR b496, lvR b510, lvR b510, lvR b496, lvR b484, lvR b510, lvI (2 : Int32), lvR b496, lvR b484, .val .null, lvI (0 : Int32), lvI (1 : Int32)] [(.int (1 : Int32)), (.int (3 : Int32)), (.int (2 : Int32))] _
          refine XS.isub X860.here hx rfl (hb hby at_285) rfl ?_
          refine XS.iconst X860.here hx rfl (hb hby at_286) ?_
          show own_S p e below m T860 287 #[lvI p0_, lvI p1_, lvI (3 : Int32), lvI z467, lvI (1 : Int32), lvI (1 : Int32), lvR b475, lvR b484, lvR b496, lvR b510, lvR b510, lvR b496, lvR b484, lvR b510, lvI (2 : Int32), lvR b496, lvR b484, .val .null, lvI (0 : Int32), lvI (1 : Int32)] [(.int (0 : Int32)), (.int (2 : Int32)), (.int (2 : Int32))] _
          refine st862 _ ?_
          show own_S p e below m T862 290 #[lvI p0_, lvI p1_, lvI (3 : Int32), lvI z467, lvI (1 : Int32), lvI (1 : Int32), lvR b475, lvR b484, lvR b496, lvR b510, lvR b510, lvR b496, lvR b484, lvR b510, lvI (2 : Int32), lvR b496, lvR b484, .val .null, lvI (0 : Int32), lvI (1 : Int32)] [(.int (2 : Int32)), (.int (2 : Int32))] _
          refine XS.icmpNo X862.here hx rfl (hb hby at_290) rfl (teq (by decide : (2 : Int32) = (2 : Int32))).2 ?_
          refine XS.iload X862.here hx rfl (hb hby at_293) rfl ?_
          show own_S p e below m T862 295 #[lvI p0_, lvI p1_, lvI (3 : Int32), lvI z467, lvI (1 : Int32), lvI (1 : Int32), lvR b475, lvR b484, lvR b496, lvR b510, lvR b510, lvR b496, lvR b484, lvR b510, lvI (2 : Int32), lvR b496, lvR b484, .val .null, lvI (0 : Int32), lvI (1 : Int32)] [(.int (0 : Int32))] _
          refine XS.ifNo X862.here hx rfl (hb hby at_295) rfl ((if0 _ _).trans (teq (by decide : (0 : Int32) = (0 : Int32))).2) ?_
          refine XS.aload X862.here hx rfl (hb hby at_298) rfl rfl ?_
          show own_S p e below m T862 300 #[lvI p0_, lvI p1_, lvI (3 : Int32), lvI z467, lvI (1 : Int32), lvI (1 : Int32), lvR b475, lvR b484, lvR b496, lvR b510, lvR b510, lvR b496, lvR b484, lvR b510, lvI (2 : Int32), lvR b496, lvR b484, .val .null, lvI (0 : Int32), lvI (1 : Int32)] [(.ref b475)] _
          refine st864.trans ?_
          show own_S p e below m T864 303 #[lvI p0_, lvI p1_, lvI (3 : Int32), lvI z467, lvI (1 : Int32), lvI (1 : Int32), lvR b475, lvR b484, lvR b496, lvR b510, lvR b510, lvR b496, lvR b484, lvR b510, lvI (2 : Int32), lvR b496, lvR b484, .val .null, lvI (0 : Int32), lvI (1 : Int32)] [.null] _
          refine XS.ifnonnullNo X864.here hx rfl (hb hby at_303) rfl ?_
          refine XS.iconst X864.here hx rfl (hb hby at_306) ?_
          refine XS.goto X864.here hx rfl (pc0 := 307) (pc' := 311) rfl (hb hby at_307) (by decide) (by decide) ?_
          refine XS.istore X864.here hx rfl (hb hby at_311) rfl (l' := #[lvI p0_, lvI p1_, lvI (3 : Int32), lvI z467, lvI (1 : Int32), lvI (1 : Int32), lvR b475, lvR b484, lvR b496, lvR b510, lvR b510, lvR b496, lvR b484, lvR b510, lvI (2 : Int32), lvR b496, lvR b484, .val .null, lvI (0 : Int32), lvI (1 : Int32)]) rfl ?_
          show own_S p e below m T864 313 #[lvI p0_, lvI p1_, lvI (3 : Int32), lvI z467, lvI (1 : Int32), lvI (1 : Int32), lvR b475, lvR b484, lvR b496, lvR b510, lvR b510, lvR b496, lvR b484, lvR b510, lvI (2 : Int32), lvR b496, lvR b484, .val .null, lvI (0 : Int32), lvI (1 : Int32)] [] _
          refine XS.iload X864.here hx rfl (hb hby at_313) rfl ?_
          show own_S p e below m T864 315 #[lvI p0_, lvI p1_, lvI (3 : Int32), lvI z467, lvI (1 : Int32), lvI (1 : Int32), lvR b475, lvR b484, lvR b496, lvR b510, lvR b510, lvR b496, lvR b484, lvR b510, lvI (2 : Int32), lvR b496, lvR b484, .val .null, lvI (0 : Int32), lvI (1 : Int32)] [(.int (1 : Int32))] _
          refine XS.ifNo X864.here hx rfl (hb hby at_315) rfl ((if0 _ _).trans (feq (by decide : ¬ ((1 : Int32) = (0 : Int32)))).1) ?_
          refine XS.aload X864.here hx rfl (hb hby at_318) rfl rfl ?_
          show own_S p e below m T864 320 #[lvI p0_, lvI p1_, lvI (3 : Int32), lvI z467, lvI (1 : Int32), lvI (1 : Int32), lvR b475, lvR b484, lvR b496, lvR b510, lvR b510, lvR b496, lvR b484, lvR b510, lvI (2 : Int32), lvR b496, lvR b484, .val .null, lvI (0 : Int32), lvI (1 : Int32)] [(.ref b510)] _
          refine XS.ifnullNo X864.here hx rfl (hb hby at_320) rfl ?_
          refine XS.aload X864.here hx rfl (hb hby at_323) rfl rfl ?_
          show own_S p e below m T864 325 #[lvI p0_, lvI p1_, lvI (3 : Int32), lvI z467, lvI (1 : Int32), lvI (1 : Int32), lvR b475, lvR b484, lvR b496, lvR b510, lvR b510, lvR b496, lvR b484, lvR b510, lvI (2 : Int32), lvR b496, lvR b484, .val .null, lvI (0 : Int32), lvI (1 : Int32)] [(.ref b510)] _
          refine st866.trans ?_
          show own_S p e below m T866 328 #[lvI p0_, lvI p1_, lvI (3 : Int32), lvI z467, lvI (1 : Int32), lvI (1 : Int32), lvR b475, lvR b484, lvR b496, lvR b510, lvR b510, lvR b496, lvR b484, lvR b510, lvI (2 : Int32), lvR b496, lvR b484, .val .null, lvI (0 : Int32), lvI (1 : Int32)] [(.int (0 : Int32))] _
          refine XS.ifNo X866.here hx rfl (hb hby at_328) rfl ((if0 _ _).trans (teq (by decide : (0 : Int32) = (0 : Int32))).2) ?_
          refine XS.iconst X866.here hx rfl (hb hby at_331) ?_
          refine XS.goto X866.here hx rfl (pc0 := 332) (pc' := 336) rfl (hb hby at_332) (by decide) (by decide) ?_
          refine XS.istore X866.here hx rfl (hb hby at_336) rfl (l' := #[lvI p0_, lvI p1_, lvI (3 : Int32), lvI z467, lvI (1 : Int32), lvI (1 : Int32), lvR b475, lvR b484, lvR b496, lvR b510, lvR b510, lvR b496, lvR b484, lvR b510, lvI (2 : Int32), lvR b496, lvR b484, .val .null, lvI (0 : Int32), lvI (1 : Int32)]) rfl ?_
          show own_S p e below m T866 338 #[lvI p0_, lvI p1_, lvI (3 : Int32), lvI z467, lvI (1 : Int32), lvI (1 : Int32), lvR b475, lvR b484, lvR b496, lvR b510, lvR b510, lvR b496, lvR b484, lvR b510, lvI (2 : Int32), lvR b496, lvR b484, .val .null, lvI (0 : Int32), lvI (1 : Int32)] [] _
          refine XS.iload X866.here hx rfl (hb hby at_338) rfl ?_
          exact kt
        obtain ⟨fs, hr, hrun, hended, hW, hsame⟩ := X866.leave (v := some (.int (1 : Int32))) (fun h => by rw [Bd.returns] at h; cases h)
        refine ⟨_, _, hG _ (pre880 _ (retN X866 hx (t := .boolean) Bd.returns (by simp) (hb hby at_340) hr)), hrun, hended, _, _, rfl, ?_, ⟨_, rfl⟩, hW, hsame.mono (by decide) (by decide)⟩
        show QLaw Z p0_ p1_ h0 n0 _ T866.heap _
        rw [e866']
        exact ⟨rfl, N879⟩
set_option maxRecDepth 65536 in
set_option maxHeartbeats 40000000 in
theorem comes_1 {Post : Tables → Env → Array Value → State → Outcome → State → Prop} (hpost : ∀ tb e args s v u, (limb_1_1.after args s (.returned v) u = true ∧ limb_1_2.after args s (.returned v) u = true ∧ True) → FrameEnd s (.returned v) u (Jvm.fieldLocs frame_1_writes args s ++ Jvm.arrayLocs frame_1_arrays args s ++ Jvm.staticLocs frame_1_statics s) 16 128 → Post tb e args s (.returned v) u) :
    ArmFor flags0 classFile x code maxLocals ret World_1 tables_1 room_1 Calls_1 rest_1 Pre_1 Post := by
  intro l hfl _ _ p e ha hc hk s m args below hf hA hF happ hP
  obtain ⟨hcalls, hrest, hpre⟩ := hP
  obtain ⟨-, -, -, hnamed, -, -, -, hat⟩ := (Spec.applies_iff hf).mp happ
  obtain ⟨hg, hn⟩ := and_e (Cond.before_iff.mp (show (Jvm.Cond.and given_1 narrow_1).before args s = true from hpre))
  obtain ⟨g1, g2⟩ := and_e hg
  obtain ⟨g3, g4⟩ := and_e g2
  obtain ⟨w0, w1, rfl⟩ : ∃ w0 w1 : Value, args = #[w0, w1] := by
    have hs : args.size = 2 := by simpa [Cond.value, given_1] using g1
    obtain ⟨L⟩ := args
    match L, hs with
    | [w0, w1], _ => exact ⟨w0, w1, rfl⟩
  have hw := fun d (hd : d ∈ tables_1) => atoms_spec (ws := Jvm.Cond.code x code maxLocals ret :: tables_1) hat d (List.mem_cons_of_mem _ hd)
  have hfit : Fit s := fun {y c} hc i hi => by
    obtain ⟨ha, rfl⟩ := Array.getElem?_eq_some_iff.mp hc
    have q := List.all_eq_true.mp ((Array.all_eq_true_iff_forall_mem.mp hF) _ (Array.getElem_mem ha)) i (List.mem_range.mpr hi)
    simpa [Array.getElem?_eq_getElem hi] using q
  obtain ⟨i0, ei0⟩ := is_v g3
  obtain rfl : w0 = (.int i0) := Option.some.inj ei0
  obtain ⟨i1, ei1⟩ := is_v g4
  obtain rfl : w1 = (.int i1) := Option.some.inj ei1
  obtain ⟨n, o, h1, h2, h3, _, L, rfl, ⟨rfl, N⟩, hq⟩ := rmLaw l s _ hw tables_1 i0 i1 s.heap s.heap.size (Old.start s)  p e ha hc hk s m _ below hf ((Spec.applies_iff_loose hf).mp happ).1 ⟨rfl, State.Warmed39.refl s, rfl⟩ trivial
  refine ⟨n, _, h1, h2, h3, hpost _ _ _ _ _ _ ⟨Cond.after_iff.mpr rfl, Cond.after_iff.mpr (eq_i res_at (Term.int_eval (1)) rfl), trivial⟩ ⟨hq.1, hq.2.1, (hq.2.2.sift fun y hy => Or.inr (N y hy)).mono (by decide) (by decide)⟩⟩
theorem main_1_1 : Claimed_1_1 := comes_1 fun _ _ _ _ _ _ h hF => ⟨h.1, hF⟩
theorem main_1_2 : Claimed_1_2 := comes_1 fun _ _ _ _ _ _ h hF => ⟨h.2.1, hF⟩
end Jvm.Pilot.@@N@@
namespace Jvm.Pilot.@@N@@
open Jvm Jvm.ClassFile Sem Op Lib Jvm.Free Jvm.Stand Jvm.Pilot.@@N@@.Jvm.D
/-! MADE BY PROGRAM (witnessworld.py) out of the Statement's table words and the real class files: 11 classes; the members and pool entries that the words name. The judged class is class 1, her method 1. -/
namespace start1
open Jvm.ClassFile
def u (s : String) : CpInfo := .utf8 (stringToUtf16 s)
/-- a pool by its gaps: so many unusable entries, then the entry; so many at the end -/
def gap : Nat → List CpInfo → List CpInfo
  | 0, r => r
  | n + 1, r => .unusable :: gap n r
def poolList (es : List (Nat × CpInfo)) (last : Nat) : List CpInfo := es.foldr (fun e r => gap e.1 (e.2 :: r)) (gap last [])
def pool (es : List (Nat × CpInfo)) (last : Nat) : Array CpInfo := ⟨poolList es last⟩
def fileOf (pool : Array CpInfo) (this : Nat) (attrs : Array Attribute := #[]) (ms : Array MethodInfo := #[]) (fl : Nat := 33) (sup : Nat := 0) (ifs : Array Nat := #[]) (fds : Array FieldInfo := #[]) : ClassFile where
  minorVersion := 0
  majorVersion := 65
  constantPool := pool
  accessFlags := fl
  thisClass := this
  superClass := sup
  interfaces := ifs
  fields := fds
  methods := ms
  attributes := attrs
def plain (name : String) (sup : Option ClassId) : Class where
  name := name
  kind := .ordinary
  loader := none
  accessFlags := 33
  super := sup
  interfaces := #[]
  cf := none
  fields := #[]
  methods := #[]
  instanceTypes := #[]
  staticTypes := #[]
  resolved := #[]
  callSites := []
  init := .initialized
  statics := none
  mirror := none

def pool0 : Array CpInfo := pool [(5, u "<init>"), (0, u "()V"), (1, .class_ 10), (1, u "java/lang/Object")] 113

def k0c0 : Code := { maxStack := 0, maxLocals := 1, code := object_method_1_code, exceptionTable := #[], attributes := #[] }
def k0m0 : Method := { name := "<init>", desc := "()V", sig := { parameters := [], returnType := none }, accessFlags := 1, code := some k0c0 }
/-- java/lang/Object -/
def k0 : Class := { plain "java/lang/Object" none with
  accessFlags := 33
  interfaces := #[]
  cf := some (fileOf pool0 8 #[] #[{ accessFlags := 1, nameIndex := 5, descriptorIndex := 6, attributes := #[] }] 33 0 #[] #[])
  fields := #[]
  methods := #[k0m0]
  instanceTypes := #[]
  staticTypes := #[]
  resolved := Array.replicate 124 none
  statics := none }

def pool1 : Array CpInfo := pool [(2, .class_ 4), (0, .nameAndType 5 6), (0, u "java/lang/Object"), (0, u "<init>"), (0, u "()V"), (0, .class_ 8), (0, u "latchwork/WaitQueue"), (0, .methodref 7 3), (0, .class_ 11), (0, u "latchwork/WaitQueue$Waiter"), (0, .methodref 10 13), (0, .nameAndType 5 14), (0, u "(Ljava/lang/Thread;)V"), (0, .methodref 7 16), (0, .nameAndType 17 18), (0, u "add"), (0, u "(Llatchwork/WaitQueue$Waiter;Z)V"), (0, .methodref 7 20), (0, .nameAndType 21 22), (0, u "poll"), (0, u "()Llatchwork/WaitQueue$Waiter;"), (0, .methodref 7 24), (0, .nameAndType 25 26), (0, u "size"), (0, u "()I"), (0, .methodref 28 29), (0, .class_ 30), (0, .nameAndType 31 32), (0, u "java/lang/Math"), (0, u "max"), (0, u "(II)I"), (0, .methodref 7 34), (0, .nameAndType 35 22), (0, u "first"), (0, .methodref 10 37), (0, .nameAndType 38 39), (0, u "isQueued"), (0, u "()Z"), (0, .class_ 41), (0, u "latchwork/WaitQueuePollPinLaw"), (2, u "law"), (0, u "(II)Z")] 5

def k1m0 : Method := { name := "<init>", desc := "()V", sig := { parameters := [], returnType := none }, accessFlags := 1, code := none }
def k1c1 : Code := { maxStack := 3, maxLocals := 20, code := code, exceptionTable := #[], attributes := #[] }
def k1m1 : Method := { name := "law", desc := "(II)Z", sig := { parameters := [.int, .int], returnType := some .boolean }, accessFlags := 9, code := some k1c1 }
/-- latchwork/WaitQueuePollPinLaw -/
def k1 : Class := { plain "latchwork/WaitQueuePollPinLaw" (some 0) with
  accessFlags := 49
  interfaces := #[]
  cf := some (fileOf pool1 40 #[] #[{ accessFlags := 1, nameIndex := 5, descriptorIndex := 6, attributes := #[] }, { accessFlags := 9, nameIndex := 44, descriptorIndex := 45, attributes := #[] }] 49 2 #[] #[])
  fields := #[]
  methods := #[k1m0, k1m1]
  instanceTypes := #[]
  staticTypes := #[]
  resolved := Array.replicate 51 none
  statics := none }

def pool2 : Array CpInfo := pool [(3, .methodref 4 5), (0, .class_ 6), (0, .nameAndType 7 8), (0, u "java/lang/Object"), (0, u "<init>"), (0, u "()V"), (1, .class_ 12), (1, u "latchwork/WaitQueue"), (0, u "LOCKED"), (0, u "Ljava/lang/invoke/VarHandle;"), (18, .fieldref 10 34), (0, .nameAndType 35 36), (0, u "size"), (0, u "I"), (0, .fieldref 10 38), (0, .nameAndType 39 40), (0, u "head"), (0, u "Llatchwork/WaitQueue$Waiter;"), (0, .fieldref 10 42), (0, .nameAndType 43 40), (0, u "tail"), (0, .fieldref 45 46), (0, .class_ 47), (0, .nameAndType 48 40), (0, u "latchwork/WaitQueue$Waiter"), (0, u "next"), (0, .fieldref 45 50), (0, .nameAndType 51 40), (0, u "prev"), (0, .fieldref 45 53), (0, .nameAndType 54 55), (0, u "picked"), (0, u "Z"), (0, .fieldref 45 57), (0, .nameAndType 58 55), (0, u "queued"), (0, .methodref 10 60), (0, .nameAndType 61 62), (0, u "remove"), (0, u "(Llatchwork/WaitQueue$Waiter;)Z"), (65, u "poll"), (0, u "()Llatchwork/WaitQueue$Waiter;"), (11, u "locked"), (19, u "NO_LIMIT"), (0, u "J"), (1, u "SPIN_NANOS"), (0, u "SPINS"), (4, u "()I"), (0, u "add"), (0, u "(Llatchwork/WaitQueue$Waiter;Z)V"), (0, u "first")] 16

def k2c0 : Code := { maxStack := 1, maxLocals := 1, code := prog_8_method_1_code, exceptionTable := #[], attributes := #[] }
def k2m0 : Method := { name := "<init>", desc := "()V", sig := { parameters := [], returnType := none }, accessFlags := 0, code := some k2c0 }
def k2c1 : Code := { maxStack := 1, maxLocals := 1, code := prog_8_method_4_code, exceptionTable := #[], attributes := #[] }
def k2m1 : Method := { name := "size", desc := "()I", sig := { parameters := [], returnType := some .int }, accessFlags := 0, code := some k2c1 }
def k2c2 : Code := { maxStack := 3, maxLocals := 3, code := prog_8_method_5_code, exceptionTable := #[], attributes := #[] }
def k2m2 : Method := { name := "add", desc := "(Llatchwork/WaitQueue$Waiter;Z)V", sig := { parameters := [(.object "latchwork/WaitQueue$Waiter"), .boolean], returnType := none }, accessFlags := 0, code := some k2c2 }
def k2c3 : Code := { maxStack := 1, maxLocals := 1, code := prog_8_method_6_code, exceptionTable := #[], attributes := #[] }
def k2m3 : Method := { name := "first", desc := "()Llatchwork/WaitQueue$Waiter;", sig := { parameters := [], returnType := some (.object "latchwork/WaitQueue$Waiter") }, accessFlags := 0, code := some k2c3 }
def k2c4 : Code := { maxStack := 2, maxLocals := 2, code := prog_8_method_8_code, exceptionTable := #[], attributes := #[] }
def k2m4 : Method := { name := "poll", desc := "()Llatchwork/WaitQueue$Waiter;", sig := { parameters := [], returnType := some (.object "latchwork/WaitQueue$Waiter") }, accessFlags := 0, code := some k2c4 }
def k2c5 : Code := { maxStack := 3, maxLocals := 2, code := prog_8_method_9_code, exceptionTable := #[], attributes := #[] }
def k2m5 : Method := { name := "remove", desc := "(Llatchwork/WaitQueue$Waiter;)Z", sig := { parameters := [(.object "latchwork/WaitQueue$Waiter")], returnType := some .boolean }, accessFlags := 0, code := some k2c5 }
/-- latchwork/WaitQueue -/
def k2 : Class := { plain "latchwork/WaitQueue" (some 0) with
  accessFlags := 32
  interfaces := #[]
  cf := some (fileOf pool2 10 #[.nestMembers #[45]] #[{ accessFlags := 0, nameIndex := 7, descriptorIndex := 8, attributes := #[] }, { accessFlags := 0, nameIndex := 35, descriptorIndex := 170, attributes := #[] }, { accessFlags := 0, nameIndex := 171, descriptorIndex := 172, attributes := #[] }, { accessFlags := 0, nameIndex := 173, descriptorIndex := 129, attributes := #[] }, { accessFlags := 0, nameIndex := 128, descriptorIndex := 129, attributes := #[] }, { accessFlags := 0, nameIndex := 61, descriptorIndex := 62, attributes := #[] }] 32 4 #[] #[{ accessFlags := 24, nameIndex := 161, descriptorIndex := 162, attributes := #[] }, { accessFlags := 24, nameIndex := 164, descriptorIndex := 162, attributes := #[] }, { accessFlags := 26, nameIndex := 165, descriptorIndex := 36, attributes := #[] }, { accessFlags := 26, nameIndex := 13, descriptorIndex := 14, attributes := #[] }, { accessFlags := 2, nameIndex := 141, descriptorIndex := 36, attributes := #[] }, { accessFlags := 2, nameIndex := 39, descriptorIndex := 40, attributes := #[] }, { accessFlags := 2, nameIndex := 43, descriptorIndex := 40, attributes := #[] }, { accessFlags := 66, nameIndex := 35, descriptorIndex := 36, attributes := #[] }])
  fields := #[{ name := "NO_LIMIT", type := .long, accessFlags := 24, slot := 0, constantValue := 0 }, { name := "SPIN_NANOS", type := .long, accessFlags := 24, slot := 1, constantValue := 0 }, { name := "SPINS", type := .int, accessFlags := 26, slot := 2, constantValue := 0 }, { name := "LOCKED", type := (.object "java/lang/invoke/VarHandle"), accessFlags := 26, slot := 3, constantValue := 0 }, { name := "locked", type := .int, accessFlags := 2, slot := 0, constantValue := 0 }, { name := "head", type := (.object "latchwork/WaitQueue$Waiter"), accessFlags := 2, slot := 1, constantValue := 0 }, { name := "tail", type := (.object "latchwork/WaitQueue$Waiter"), accessFlags := 2, slot := 2, constantValue := 0 }, { name := "size", type := .int, accessFlags := 66, slot := 3, constantValue := 0 }]
  methods := #[k2m0, k2m1, k2m2, k2m3, k2m4, k2m5]
  instanceTypes := #[.int, (.object "latchwork/WaitQueue$Waiter"), (.object "latchwork/WaitQueue$Waiter"), .int]
  staticTypes := #[.long, .long, .int, (.object "java/lang/invoke/VarHandle")]
  resolved := ((((Array.replicate 190 none).setIfInBounds 52 (some (.field 3 4))).setIfInBounds 56 (some (.field 3 3))).setIfInBounds 44 (some (.field 3 2))).setIfInBounds 49 (some (.field 3 1))
  statics := none }

def pool3 : Array CpInfo := pool [(1, .methodref 2 3), (0, .class_ 4), (0, .nameAndType 5 6), (0, u "java/lang/Object"), (0, u "<init>"), (0, u "()V"), (0, .fieldref 8 9), (0, .class_ 10), (0, .nameAndType 11 12), (0, u "latchwork/WaitQueue$Waiter"), (0, u "thread"), (0, u "Ljava/lang/Thread;"), (0, .fieldref 8 14), (0, .nameAndType 15 16), (0, u "queued"), (0, u "Z"), (2, u "picked"), (2, u "interrupted"), (2, u "parked"), (2, u "heir"), (0, u "prev"), (0, u "Llatchwork/WaitQueue$Waiter;"), (0, u "next"), (0, u "(Ljava/lang/Thread;)V"), (2, u "isQueued"), (0, u "()Z"), (8, .class_ 46), (0, u "latchwork/WaitQueue")] 2

def k3c0 : Code := { maxStack := 2, maxLocals := 2, code := prog_9_method_1_code, exceptionTable := #[], attributes := #[] }
def k3m0 : Method := { name := "<init>", desc := "(Ljava/lang/Thread;)V", sig := { parameters := [(.object "java/lang/Thread")], returnType := none }, accessFlags := 0, code := some k3c0 }
def k3c1 : Code := { maxStack := 1, maxLocals := 1, code := prog_9_method_2_code, exceptionTable := #[], attributes := #[] }
def k3m1 : Method := { name := "isQueued", desc := "()Z", sig := { parameters := [], returnType := some .boolean }, accessFlags := 0, code := some k3c1 }
/-- latchwork/WaitQueue$Waiter -/
def k3 : Class := { plain "latchwork/WaitQueue$Waiter" (some 0) with
  accessFlags := 48
  interfaces := #[]
  cf := some (fileOf pool3 8 #[.nestHost 45] #[{ accessFlags := 0, nameIndex := 5, descriptorIndex := 32, attributes := #[] }, { accessFlags := 0, nameIndex := 35, descriptorIndex := 36, attributes := #[] }] 48 2 #[] #[{ accessFlags := 16, nameIndex := 11, descriptorIndex := 12, attributes := #[] }, { accessFlags := 2, nameIndex := 29, descriptorIndex := 30, attributes := #[] }, { accessFlags := 2, nameIndex := 31, descriptorIndex := 30, attributes := #[] }, { accessFlags := 66, nameIndex := 15, descriptorIndex := 16, attributes := #[] }, { accessFlags := 66, nameIndex := 19, descriptorIndex := 16, attributes := #[] }, { accessFlags := 2, nameIndex := 22, descriptorIndex := 16, attributes := #[] }, { accessFlags := 2, nameIndex := 25, descriptorIndex := 16, attributes := #[] }, { accessFlags := 66, nameIndex := 28, descriptorIndex := 16, attributes := #[] }])
  fields := #[{ name := "thread", type := (.object "java/lang/Thread"), accessFlags := 16, slot := 0, constantValue := 0 }, { name := "prev", type := (.object "latchwork/WaitQueue$Waiter"), accessFlags := 2, slot := 1, constantValue := 0 }, { name := "next", type := (.object "latchwork/WaitQueue$Waiter"), accessFlags := 2, slot := 2, constantValue := 0 }, { name := "queued", type := .boolean, accessFlags := 66, slot := 3, constantValue := 0 }, { name := "picked", type := .boolean, accessFlags := 66, slot := 4, constantValue := 0 }, { name := "interrupted", type := .boolean, accessFlags := 2, slot := 5, constantValue := 0 }, { name := "parked", type := .boolean, accessFlags := 2, slot := 6, constantValue := 0 }, { name := "heir", type := .boolean, accessFlags := 66, slot := 7, constantValue := 0 }]
  methods := #[k3m0, k3m1]
  instanceTypes := #[(.object "java/lang/Thread"), (.object "latchwork/WaitQueue$Waiter"), (.object "latchwork/WaitQueue$Waiter"), .boolean, .boolean, .boolean, .boolean, .boolean]
  staticTypes := #[]
  resolved := Array.replicate 49 none
  statics := none }

def pool4 : Array CpInfo := pool [(1, .class_ 2), (0, u "java/lang/Math"), (1, .class_ 6), (1, u "java/lang/Object"), (0, u "<init>"), (0, u "()V"), (89, .class_ 100), (1, u "java/lang/Math$RandomNumberGeneratorHolder"), (71, u "negativeZeroFloatBits"), (0, u "J"), (2, u "negativeZeroDoubleBits"), (21, u "max"), (46, u "$assertionsDisabled"), (0, u "Z"), (88, u "(II)I"), (2, u "twoToTheDoubleScaleDown"), (0, u "D"), (4, u "twoToTheDoubleScaleUp"), (9, u "E"), (3, u "PI"), (2, u "TAU"), (2, u "DEGREES_TO_RADIANS"), (0, u "RADIANS_TO_DEGREES")] 94

def k4m0 : Method := { name := "<init>", desc := "()V", sig := { parameters := [], returnType := none }, accessFlags := 2, code := none }
def k4c1 : Code := { maxStack := 2, maxLocals := 2, code := jdk_29_method_65_code, exceptionTable := #[], attributes := #[] }
def k4m1 : Method := { name := "max", desc := "(II)I", sig := { parameters := [.int, .int], returnType := some .int }, accessFlags := 9, code := some k4c1 }
/-- java/lang/Math -/
def k4 : Class := { plain "java/lang/Math" (some 0) with
  accessFlags := 49
  interfaces := #[]
  cf := some (fileOf pool4 1 #[.nestMembers #[98]] #[{ accessFlags := 2, nameIndex := 7, descriptorIndex := 8, attributes := #[] }, { accessFlags := 9, nameIndex := 198, descriptorIndex := 335, attributes := #[] }] 49 4 #[] #[{ accessFlags := 25, nameIndex := 354, descriptorIndex := 339, attributes := #[] }, { accessFlags := 25, nameIndex := 358, descriptorIndex := 339, attributes := #[] }, { accessFlags := 25, nameIndex := 361, descriptorIndex := 339, attributes := #[] }, { accessFlags := 26, nameIndex := 364, descriptorIndex := 339, attributes := #[] }, { accessFlags := 26, nameIndex := 365, descriptorIndex := 339, attributes := #[] }, { accessFlags := 26, nameIndex := 172, descriptorIndex := 173, attributes := #[] }, { accessFlags := 26, nameIndex := 176, descriptorIndex := 173, attributes := #[] }, { accessFlags := 8, nameIndex := 344, descriptorIndex := 339, attributes := #[] }, { accessFlags := 8, nameIndex := 338, descriptorIndex := 339, attributes := #[] }, { accessFlags := 4120, nameIndex := 245, descriptorIndex := 246, attributes := #[] }])
  fields := #[{ name := "E", type := .double, accessFlags := 25, slot := 0, constantValue := 0 }, { name := "PI", type := .double, accessFlags := 25, slot := 1, constantValue := 0 }, { name := "TAU", type := .double, accessFlags := 25, slot := 2, constantValue := 0 }, { name := "DEGREES_TO_RADIANS", type := .double, accessFlags := 26, slot := 3, constantValue := 0 }, { name := "RADIANS_TO_DEGREES", type := .double, accessFlags := 26, slot := 4, constantValue := 0 }, { name := "negativeZeroFloatBits", type := .long, accessFlags := 26, slot := 5, constantValue := 0 }, { name := "negativeZeroDoubleBits", type := .long, accessFlags := 26, slot := 6, constantValue := 0 }, { name := "twoToTheDoubleScaleUp", type := .double, accessFlags := 8, slot := 7, constantValue := 0 }, { name := "twoToTheDoubleScaleDown", type := .double, accessFlags := 8, slot := 8, constantValue := 0 }, { name := "$assertionsDisabled", type := .boolean, accessFlags := 4120, slot := 9, constantValue := 0 }]
  methods := #[k4m0, k4m1]
  instanceTypes := #[]
  staticTypes := #[.double, .double, .double, .double, .double, .long, .long, .double, .double, .boolean]
  resolved := Array.replicate 460 none
  statics := none }

def pool5 : Array CpInfo := pool [(1, u "java/lang/Cloneable"), (0, .class_ 1), (0, u "java/lang/Object"), (0, .class_ 3)] 3

/-- java/lang/Cloneable -/
def k5 : Class := { plain "java/lang/Cloneable" (some 0) with
  accessFlags := 1537
  interfaces := #[]
  cf := some (fileOf pool5 2 #[] #[] 1537 4 #[] #[])
  fields := #[]
  methods := #[]
  instanceTypes := #[]
  staticTypes := #[]
  resolved := Array.replicate 8 none
  statics := none }

def pool6 : Array CpInfo := pool [(1, u "java/io/Serializable"), (0, .class_ 1), (0, u "java/lang/Object"), (0, .class_ 3)] 3

/-- java/io/Serializable -/
def k6 : Class := { plain "java/io/Serializable" (some 0) with
  accessFlags := 1537
  interfaces := #[]
  cf := some (fileOf pool6 2 #[] #[] 1537 4 #[] #[])
  fields := #[]
  methods := #[]
  instanceTypes := #[]
  staticTypes := #[]
  resolved := Array.replicate 8 none
  statics := none }

/-- the primitive byte -/
def k7 : Class := { plain "byte" none with kind := .primitive 'B', accessFlags := 0x411 }
/-- [B -/
def k8 : Class := { plain "[B" (some 0) with kind := .array 7 .byte, interfaces := #[5, 6], accessFlags := 1041 }

/-- the primitive int -/
def k9 : Class := { plain "int" none with kind := .primitive 'I', accessFlags := 0x411 }
/-- [I -/
def k10 : Class := { plain "[I" (some 0) with kind := .array 9 .int, interfaces := #[5, 6], accessFlags := 1041 }

def heap : Heap := #[]
def classes : Array Class := #[k0, k1, k2, k3, k4, k5, k6, k7, k8, k9, k10]
def interned : List (Array UInt16 × Addr) := []
def slotsUsed : Nat := 0
def theMethod : MethodId := ⟨1, 1⟩
def args0 : Array Value := #[.int 3, .int 1]
def aboutOver (below : List Frame) : State where
  vm := { classes := classes, interned := interned.toArray }
  heap := heap
  slotsUsed := slotsUsed
  threads := #[{ frames := .invoking theMethod args0 :: below }]
def below0 : List Frame := [.native { method := ⟨0, 0⟩, args := #[] }]
def about1 : State := aboutOver below0
def p0 : Program := .bare "" "" ""
def e0 : Env := launch0.env 0 0 0
theorem w_frames : about1.frames = Frame.invoking theMethod args0 :: below0 := rfl
set_option maxRecDepth 65536 in
theorem w_args : argsFit about1.vm theMethod args0 = true := by decide +kernel
set_option maxRecDepth 65536 in
theorem w_heap : heapFits about1 = true := by decide +kernel
set_option maxRecDepth 65536 in
theorem w_runnable : about1.curStatus? = some .runnable := by decide +kernel
set_option maxRecDepth 65536 in
theorem w_alone : about1.alone = true := by decide +kernel
set_option maxRecDepth 65536 in
theorem w_named : about1.methodNamed? x = some theMethod := by decide +kernel
set_option maxRecDepth 65536 in
theorem w_hears : about1.hears theMethod below0 = true := by decide +kernel
set_option maxRecDepth 65536 in
theorem w_ripe : about1.ripe theMethod args0 below0 = true := by decide +kernel
theorem w_running : about1.status = .running := rfl
set_option maxRecDepth 65536 in
theorem w_room : about1.hasRoom e0.platform room_1 = true :=
  launch0.hasRoom_least _ room_1 (by decide +kernel) (by decide +kernel) (by decide +kernel) (by decide +kernel) (by decide +kernel) (by decide +kernel)
theorem allAtoms_all (ts : List Jvm.Cond) (a : Array Jvm.Value) (st : Jvm.State) : (allAtoms ts).before a st = ts.all (fun c => c.before a st) := by
  induction ts with
  | nil => rfl
  | cons c t ih =>
    show (Jvm.Cond.and c (allAtoms t)).before a st = _
    rw [Jvm.Cond.before_and, ih, List.all_cons]
def words1 : List Jvm.Cond := Jvm.Cond.code x code maxLocals ret :: tables_1
/-- a 'code' word, met by the world's own term for the bytes: nothing is compared byte by byte -/
theorem code_word {y : MethodName} {bytes : ByteArray} {mx : Nat} {rt : Option FieldType} {a : Array Value} {s : State} {m : MethodId} {meth : Method} {c : Code} (h1 : s.methodNamed? y = some m) (h2 : s.vm.method? m = some meth) (h3 : meth.code = some c) (h4 : c.code = bytes)
    (h5 : (c.maxLocals == mx && c.exceptionTable.isEmpty && decide (c.maxStack ≤ mostOperands) && decide (meth.sig.returnType = rt) && !meth.locks && decide (parseMethodDescriptor y.desc = some meth.sig)) = true) : (Jvm.Cond.code y bytes mx rt).before a s = true := by
  simp only [Bool.and_eq_true, beq_iff_eq, Bool.not_eq_true', decide_eq_true_eq] at h5
  obtain ⟨⟨⟨⟨⟨g1, g2⟩, g3⟩, g4⟩, g5⟩, g6⟩ := h5
  simp [Cond.before, Cond.holds, Cond.value, h1, h2, h3, h4, g1, g2, g3, g4, g5, g6]
def isCode : Jvm.Cond → Bool
  | .code _ _ _ _ => true
  | _ => false
theorem all_split {L : List Jvm.Cond} {P : Jvm.Cond → Bool} (h1 : L.all (fun c => isCode c || P c) = true) (h2 : ∀ c ∈ L.filter isCode, P c = true) : L.all P = true := by
  refine List.all_eq_true.mpr fun c hc => ?_
  have h := List.all_eq_true.mp h1 c hc
  rcases Bool.eq_false_or_eq_true (isCode c) with hi | hi
  · exact h2 c (List.mem_filter.mpr ⟨hc, hi⟩)
  · simpa [hi] using h
set_option maxRecDepth 65536 in
theorem w_c0 : (Jvm.Cond.code x code maxLocals ret).before args0 about1 = true := code_word (m := ⟨1, 1⟩) (meth := k1m1) (c := k1c1) (by decide +kernel) rfl rfl rfl (by decide +kernel)
set_option maxRecDepth 65536 in
theorem w_c1 : (Jvm.Cond.code ({ cls := "latchwork/WaitQueue", name := "<init>", desc := "()V" } : Jvm.MethodName) prog_8_method_1_code (1 : Nat) (Option.none : Option Jvm.ClassFile.FieldType)).before args0 about1 = true := code_word (m := ⟨2, 0⟩) (meth := k2m0) (c := k2c0) (by decide +kernel) rfl rfl rfl (by decide +kernel)
set_option maxRecDepth 65536 in
theorem w_c2 : (Jvm.Cond.code ({ cls := "java/lang/Object", name := "<init>", desc := "()V" } : Jvm.MethodName) object_method_1_code (1 : Nat) (Option.none : Option Jvm.ClassFile.FieldType)).before args0 about1 = true := code_word (m := ⟨0, 0⟩) (meth := k0m0) (c := k0c0) (by decide +kernel) rfl rfl rfl (by decide +kernel)
set_option maxRecDepth 65536 in
theorem w_c3 : (Jvm.Cond.code ({ cls := "latchwork/WaitQueue$Waiter", name := "<init>", desc := "(Ljava/lang/Thread;)V" } : Jvm.MethodName) prog_9_method_1_code (2 : Nat) (Option.none : Option Jvm.ClassFile.FieldType)).before args0 about1 = true := code_word (m := ⟨3, 0⟩) (meth := k3m0) (c := k3c0) (by decide +kernel) rfl rfl rfl (by decide +kernel)
set_option maxRecDepth 65536 in
theorem w_c4 : (Jvm.Cond.code ({ cls := "latchwork/WaitQueue", name := "poll", desc := "()Llatchwork/WaitQueue$Waiter;" } : Jvm.MethodName) prog_8_method_8_code (2 : Nat) (Option.some (Jvm.ClassFile.FieldType.object "latchwork/WaitQueue$Waiter"))).before args0 about1 = true := code_word (m := ⟨2, 4⟩) (meth := k2m4) (c := k2c4) (by decide +kernel) rfl rfl rfl (by decide +kernel)
set_option maxRecDepth 65536 in
theorem w_c5 : (Jvm.Cond.code ({ cls := "latchwork/WaitQueue", name := "size", desc := "()I" } : Jvm.MethodName) prog_8_method_4_code (1 : Nat) (Option.some Jvm.ClassFile.FieldType.int)).before args0 about1 = true := code_word (m := ⟨2, 1⟩) (meth := k2m1) (c := k2c1) (by decide +kernel) rfl rfl rfl (by decide +kernel)
set_option maxRecDepth 65536 in
theorem w_c6 : (Jvm.Cond.code ({ cls := "java/lang/Math", name := "max", desc := "(II)I" } : Jvm.MethodName) jdk_29_method_65_code (2 : Nat) (Option.some Jvm.ClassFile.FieldType.int)).before args0 about1 = true := code_word (m := ⟨4, 1⟩) (meth := k4m1) (c := k4c1) (by decide +kernel) rfl rfl rfl (by decide +kernel)
set_option maxRecDepth 65536 in
theorem w_c7 : (Jvm.Cond.code ({ cls := "latchwork/WaitQueue", name := "first", desc := "()Llatchwork/WaitQueue$Waiter;" } : Jvm.MethodName) prog_8_method_6_code (1 : Nat) (Option.some (Jvm.ClassFile.FieldType.object "latchwork/WaitQueue$Waiter"))).before args0 about1 = true := code_word (m := ⟨2, 3⟩) (meth := k2m3) (c := k2c3) (by decide +kernel) rfl rfl rfl (by decide +kernel)
set_option maxRecDepth 65536 in
theorem w_c8 : (Jvm.Cond.code ({ cls := "latchwork/WaitQueue", name := "add", desc := "(Llatchwork/WaitQueue$Waiter;Z)V" } : Jvm.MethodName) prog_8_method_5_code (3 : Nat) (Option.none : Option Jvm.ClassFile.FieldType)).before args0 about1 = true := code_word (m := ⟨2, 2⟩) (meth := k2m2) (c := k2c2) (by decide +kernel) rfl rfl rfl (by decide +kernel)
set_option maxRecDepth 65536 in
theorem w_c9 : (Jvm.Cond.code ({ cls := "latchwork/WaitQueue", name := "remove", desc := "(Llatchwork/WaitQueue$Waiter;)Z" } : Jvm.MethodName) prog_8_method_9_code (2 : Nat) (Option.some Jvm.ClassFile.FieldType.boolean)).before args0 about1 = true := code_word (m := ⟨2, 5⟩) (meth := k2m5) (c := k2c5) (by decide +kernel) rfl rfl rfl (by decide +kernel)
set_option maxRecDepth 65536 in
theorem w_c10 : (Jvm.Cond.code ({ cls := "latchwork/WaitQueue$Waiter", name := "isQueued", desc := "()Z" } : Jvm.MethodName) prog_9_method_2_code (1 : Nat) (Option.some Jvm.ClassFile.FieldType.boolean)).before args0 about1 = true := code_word (m := ⟨3, 1⟩) (meth := k3m1) (c := k3c1) (by decide +kernel) rfl rfl rfl (by decide +kernel)
def codes1 : List Jvm.Cond := [Jvm.Cond.code x code maxLocals ret, Jvm.Cond.code ({ cls := "latchwork/WaitQueue", name := "<init>", desc := "()V" } : Jvm.MethodName) prog_8_method_1_code (1 : Nat) (Option.none : Option Jvm.ClassFile.FieldType), Jvm.Cond.code ({ cls := "java/lang/Object", name := "<init>", desc := "()V" } : Jvm.MethodName) object_method_1_code (1 : Nat) (Option.none : Option Jvm.ClassFile.FieldType), Jvm.Cond.code ({ cls := "latchwork/WaitQueue$Waiter", name := "<init>", desc := "(Ljava/lang/Thread;)V" } : Jvm.MethodName) prog_9_method_1_code (2 : Nat) (Option.none : Option Jvm.ClassFile.FieldType), Jvm.Cond.code ({ cls := "latchwork/WaitQueue", name := "poll", desc := "()Llatchwork/WaitQueue$Waiter;" } : Jvm.MethodName) prog_8_method_8_code (2 : Nat) (Option.some (Jvm.ClassFile.FieldType.object "latchwork/WaitQueue$Waiter")), Jvm.Cond.code ({ cls := "latchwork/WaitQueue", name := "size", desc := "()I" } : Jvm.MethodName) prog_8_method_4_code (1 : Nat) (Option.some Jvm.ClassFile.FieldType.int), Jvm.Cond.code ({ cls := "java/lang/Math", name := "max", desc := "(II)I" } : Jvm.MethodName) jdk_29_method_65_code (2 : Nat) (Option.some Jvm.ClassFile.FieldType.int), Jvm.Cond.code ({ cls := "latchwork/WaitQueue", name := "first", desc := "()Llatchwork/WaitQueue$Waiter;" } : Jvm.MethodName) prog_8_method_6_code (1 : Nat) (Option.some (Jvm.ClassFile.FieldType.object "latchwork/WaitQueue$Waiter")), Jvm.Cond.code ({ cls := "latchwork/WaitQueue", name := "add", desc := "(Llatchwork/WaitQueue$Waiter;Z)V" } : Jvm.MethodName) prog_8_method_5_code (3 : Nat) (Option.none : Option Jvm.ClassFile.FieldType), Jvm.Cond.code ({ cls := "latchwork/WaitQueue", name := "remove", desc := "(Llatchwork/WaitQueue$Waiter;)Z" } : Jvm.MethodName) prog_8_method_9_code (2 : Nat) (Option.some Jvm.ClassFile.FieldType.boolean), Jvm.Cond.code ({ cls := "latchwork/WaitQueue$Waiter", name := "isQueued", desc := "()Z" } : Jvm.MethodName) prog_9_method_2_code (1 : Nat) (Option.some Jvm.ClassFile.FieldType.boolean)]
set_option maxRecDepth 65536 in
theorem codes_eq : words1.filter isCode = codes1 := rfl
theorem w_codes : ∀ c ∈ words1.filter isCode, c.before args0 about1 = true := by
  rw [codes_eq]
  intro c hc
  simp only [codes1, List.mem_cons, List.not_mem_nil, or_false] at hc
  rcases hc with rfl | rfl | rfl | rfl | rfl | rfl | rfl | rfl | rfl | rfl | rfl
  · exact w_c0
  · exact w_c1
  · exact w_c2
  · exact w_c3
  · exact w_c4
  · exact w_c5
  · exact w_c6
  · exact w_c7
  · exact w_c8
  · exact w_c9
  · exact w_c10
set_option maxRecDepth 65536 in
theorem w_t1 : (words1.take 24).all (fun c => isCode c || c.before args0 about1) = true := by decide +kernel
set_option maxRecDepth 65536 in
theorem w_t2 : ((words1.drop 24).take 24).all (fun c => isCode c || c.before args0 about1) = true := by decide +kernel
set_option maxRecDepth 65536 in
theorem w_t3 : ((words1.drop 24).drop 24).all (fun c => isCode c || c.before args0 about1) = true := by decide +kernel
theorem w_tables : (allAtoms (Jvm.Cond.code x code maxLocals ret :: tables_1)).before args0 about1 = true := by
  rw [allAtoms_all]
  show words1.all (fun c => c.before args0 about1) = true
  refine all_split ?_ w_codes
  rw [← List.take_append_drop 24 words1, List.all_append, w_t1, ← List.take_append_drop 24 (words1.drop 24), List.all_append, w_t2, w_t3]
  rfl
set_option maxRecDepth 65536 in
theorem w_case : (Jvm.Cond.and given_1 narrow_1).before args0 about1 = true := by decide +kernel
theorem w_applies : (headSpec (Jvm.Cond.code x code maxLocals ret :: tables_1) room_1).applies x e0.platform about1 = true :=
  (Spec.applies_iff w_frames).mpr ⟨w_running, w_runnable, w_alone, w_named, w_hears, w_ripe, w_room, w_tables⟩
theorem atStart : AtStart classFile x code maxLocals ret World_1 tables_1 room_1 Calls_1 rest_1 Pre_1 launch0 p0 e0 about1 theMethod args0 below0 :=
  ⟨lists_1, trivial, launch0.admits_env _ _ _, launch0.least_env, fairChoices_fair.cas, fairChoices_fair.clock, w_frames, w_args, w_heap, w_applies, trivial, trivial, w_case⟩
end start1
theorem witness_1 : WitnessClaimed_1 := ⟨start1.p0, start1.e0, start1.about1, start1.theMethod, start1.args0, start1.below0, start1.atStart⟩
end Jvm.Pilot.@@N@@
