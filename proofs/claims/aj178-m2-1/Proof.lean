import JvmDerived
import JvmDerived.Pilot.@@N@@Statement
import JvmDerived.Pilot.@@N@@Code
set_option linter.unusedVariables false
set_option linter.unusedSimpArgs false
namespace Jvm.Pilot.@@N@@
open Jvm Jvm.ClassFile Sem Op Lib Jvm.Free Jvm.Stand Jvm.LawKit Jvm.RoadKit Bundle Jvm.Pilot.@@N@@.Jvm.D
theorem own_w {a0 : Array Value} {Z : State} {d : Jvm.Cond} (hw : ∀ d ∈ tables_1, d.before a0 Z = true) (i : Nat) (h : tables_1[i]? = some d) : d.before a0 Z = true := hw _ (List.mem_of_getElem? h)
abbrev lvI (x : Int32) : Slot := .val (.int x)
abbrev lvR (x : Addr) : Slot := .val (.ref x)
abbrev own_S (p : Program) (e : Env) (b : List Frame) (m : MethodId) (T : State) (pc : Nat) (l : Array Slot) (st : List Value) (t : State) : Prop := Steps p.tables e b (T.setTop (mkF m pc l st)) t
theorem own_eqi {args : Array Value} {s : State} {t : Term} {k : Int32} (h : (Jvm.Cond.eq t (.int k)).value args s none s [] = some true) : t.eval args s none [] s = some (.int k) := by
  simp only [Cond.value, Term.eval] at h
  cases ht : t.eval args s none [] s with
  | none => simp [ht] at h
  | some x => cases x <;> simp [ht] at h ⊢ <;> exact h
theorem own_nei {args : Array Value} {s : State} {t : Term} {k x : Int32} (h : (Jvm.Cond.not (Jvm.Cond.eq t (.int k))).value args s none s [] = some true) (ht : t.eval args s none [] s = some (.int x)) : ¬ (x = k) := by
  have h1 := not_v h
  simp only [Cond.value, ht, Term.eval] at h1
  intro e
  subst e
  simp at h1
theorem own_gcls {p : Program} {l : Launch} {e : Env} {R : Room} {s : State} {m : MethodId} {args : Array Value} {below : List Frame} {meth : Method} {c : Code} {T : State} {locs : List Loc} {cells slots : Nat} {Z : State} {h : Heap} {a : Addr} (X : Stand p l e R s m args below meth c T locs cells slots) (hx : p.tables.exec = Jvm.exec) (hZ : Z.Warmed39 s.vm) {a0 : Array Value} {own C : String} {index : Nat} (hown : s.vm.findClass own = some m.cls)
    (w1 : (Jvm.Cond.methodLink own index ⟨"java/lang/Object", "getClass", "()Ljava/lang/Class;"⟩).before a0 Z = true) (w2 : (Jvm.Cond.declares ⟨"java/lang/Object", "getClass", "()Ljava/lang/Class;"⟩).before a0 Z = true) (w4 : (Jvm.Cond.selects C ⟨"java/lang/Object", "getClass", "()Ljava/lang/Class;"⟩ ⟨"java/lang/Object", "getClass", "()Ljava/lang/Class;"⟩).before a0 Z = true)
    (w5 : (Jvm.Cond.instanceMethod ⟨"java/lang/Object", "getClass", "()Ljava/lang/Class;"⟩).before a0 Z = true) (w6 : (Jvm.Cond.native ⟨"java/lang/Object", "getClass", "()Ljava/lang/Class;"⟩).before a0 Z = true) (eT : T.heap = h) (E : Exa Z h a C) {mr : Addr} (M : Mir Z C mr)
    {g : JFrame} (hg : g.method = m) (hsize : g.locals.size = c.maxLocals) {rest : List Value} (hs : g.stack = .ref a :: rest) (hd : decode c.code g.pc = .ok (.invokevirtual index, 3)) (hf : 1 ≤ R.frames) {W : Nat} (hW : 2 * g.monitorRoom + (rest.map fun v => v.category).sum ≤ W) (hl : W + (nativeFrameWords "java/lang/Object" "getClass" 1 + 11) ≤ R.locals) :
    ∃ T', Stand p l e R s m args below meth c T' locs cells slots ∧ T'.heap = h ∧ ∀ target, Steps p.tables e below (T'.setTop { g with pc := g.pc + 3, stack := .ref mr :: rest }) target → Steps p.tables e below (T.setTop g) target := by
  obtain ⟨cc, kc, m1, m2, m3, -⟩ := M
  obtain ⟨cB, kB, i1, -, i3⟩ := isOf hZ eT E
  obtain ⟨k', q, ek⟩ := hZ.alike.2.2 _ _ m2
  have hc : s.vm.findClass C = some cc := by rw [hZ.alike.findClass]; exact m1
  cases i1.symm.trans hc
  obtain ⟨vm', X', st⟩ := X.getClassOf hx hown (mvT hZ w1) (mvT hZ w2) (notFace_of_selects (args := #[]) (mvT hZ w4)) (mvT hZ w4) (mvT hZ w5) (mvT hZ w6) hc i3 q (by rw [ek]; exact m3) hg hsize hs hd hf (by omega)
  exact ⟨_, X', eT, st⟩
theorem own_ldcM {p : Program} {l : Launch} {e : Env} {R : Room} {s : State} {m : MethodId} {args : Array Value} {below : List Frame} {meth : Method} {c : Code} {T : State} {locs : List Loc} {cells slots : Nat} {Z : State} {h : Heap} (X : Stand p l e R s m args below meth c T locs cells slots) (hx : p.tables.exec = Jvm.exec) (hZ : Z.Warmed39 s.vm) {a0 : Array Value} {own C : String} {index : Nat} (hown : s.vm.findClass own = some m.cls) (w : (Jvm.Cond.classLink own index C).before a0 Z = true) (eT : T.heap = h) {mr : Addr} (M : Mir Z C mr)
    {g : JFrame} (hg : g.method = m) (hd : decode c.code g.pc = .ok (.ldc index, 2)) : ∃ T', Stand p l e R s m args below meth c T' locs cells slots ∧ T'.heap = h ∧ ∀ target, Steps p.tables e below (T'.setTop { g with pc := g.pc + 2, stack := .ref mr :: g.stack }) target → Steps p.tables e below (T.setTop g) target := by
  obtain ⟨cc, kc, m1, m2, m3, -⟩ := M
  obtain ⟨k', q, ek⟩ := hZ.alike.2.2 _ _ m2
  have hc : s.vm.findClass C = some cc := by rw [hZ.alike.findClass]; exact m1
  have hm : k'.mirror = some mr := by rw [ek]; exact m3
  obtain ⟨vm', X', st⟩ := X.ldcMirror (a := mr) hx hown (mv hZ w) (by simp [Term.eval, hc, q, hm]) hg hd
  exact ⟨_, X', eT, st⟩
theorem own_ovr {Z : State} {h : Heap} {a : Addr} {cl : Cell} {C ad : String} {a0 : Array Value} (w : (Jvm.Cond.arrayOver (.object C)).before a0 Z = true) (E : Exa Z h a ad) (q : h[a]? = some cl) (had : "[" ++ (FieldType.object C).toString = ad) : Ovr Z cl.cls C := by
  obtain ⟨comp, c, k, h1, -, h2, h3, h4⟩ := Cond.arrayOver_spec w
  subst had
  obtain ⟨cell, k', g1, g2, -⟩ := E
  cases q.symm.trans g1
  cases h4.symm.trans g2
  exact ⟨k, comp, h2, h3, h1⟩
theorem own_len {args : Array Value} {s : State} {t : Term} {a : Addr} {cl : Cell} {ty : FieldType} {n : Int32} (h : (Jvm.Cond.eq (.length t) (.int n)).value args s none s [] = some true) (ht : t.eval args s none [] s = some (.ref a)) (A : Arr s s.heap a cl ty) : cl.slots.size < 2 ^ 31 ∧ cl.slots.size.toInt32 = n := by
  have e := own_eqi h
  have q := A.fin (Vm.Alike.refl _)
  simp only [Term.eval, ht, q, Option.bind_eq_bind, Option.bind_some] at e
  split at e
  · rename_i q'
    exact ⟨q', Value.int.inj (Option.some.inj e)⟩
  · cases e
theorem own_i2b2 (x : Int32) : (x.toInt8.toInt32).toInt8.toInt32 = x.toInt8.toInt32 := by
  have h1 := c_i2b x
  have h2 := c_i2b (x.toInt8.toInt32)
  apply Int32.toInt_inj.mp
  omega
theorem own_mod3 (x : Int32) : ((x &&& (2147483647 : Int32)) % (3 : Int32)) = (0 : Int32) ∨ ((x &&& (2147483647 : Int32)) % (3 : Int32)) = (1 : Int32) ∨ ((x &&& (2147483647 : Int32)) % (3 : Int32)) = (2 : Int32) := by
  have h1 := c_mask x 2147483647 31 (by decide) (by decide)
  have h2 := (c_irem (x &&& (2147483647 : Int32)) (3 : Int32) 3 rfl).1 (by rw [h1]; omega)
  rw [h1] at h2
  have h3 : ((x &&& (2147483647 : Int32)) % (3 : Int32)).toInt = 0 ∨ ((x &&& (2147483647 : Int32)) % (3 : Int32)).toInt = 1 ∨ ((x &&& (2147483647 : Int32)) % (3 : Int32)).toInt = 2 := by omega
  rcases h3 with h | h | h
  · exact (Or.inl (Int32.toInt_inj.mp h))
  · exact (Or.inr (Or.inl (Int32.toInt_inj.mp h)))
  · exact (Or.inr (Or.inr (Int32.toInt_inj.mp h)))
theorem own_c255 (x : Int32) : ¬ ((255 : Int32) < (x &&& (255 : Int32))) := by
  have h1 := c_mask x 255 8 (by decide) (by decide)
  rw [Int32.lt_iff_toInt_lt]
  have : (255 : Int32).toInt = 255 := rfl
  omega
theorem d1_0 : decode jdk_42_method_139_code 0 = .ok (.getstatic 38, 3) := by decide +kernel
theorem d1_3 : decode jdk_42_method_139_code 3 = .ok (.ifCond .eq 23, 3) := by decide +kernel
theorem d1_6 : decode jdk_42_method_139_code 6 = .ok (.iload_n 0, 1) := by decide +kernel
theorem d1_7 : decode jdk_42_method_139_code 7 = .ok (.invokestatic 1015, 3) := by decide +kernel
theorem d2_0 : decode jdk_43_method_3_code 0 = .ok (.iload_n 0, 1) := by decide +kernel
theorem d2_1 : decode jdk_43_method_3_code 1 = .ok (.sipush 255, 3) := by decide +kernel
theorem d2_4 : decode jdk_43_method_3_code 4 = .ok (.if_icmp .gt 7, 3) := by decide +kernel
theorem d2_7 : decode jdk_43_method_3_code 7 = .ok (.iconst 1, 1) := by decide +kernel
theorem d2_8 : decode jdk_43_method_3_code 8 = .ok (.goto 4, 3) := by decide +kernel
theorem d2_12 : decode jdk_43_method_3_code 12 = .ok (.ireturn, 1) := by decide +kernel
theorem pn_0 : plainName "java/lang/StringLatin1" = true := by first | (simp [plainName, overriddenIn]; done) | decide +kernel
theorem efcanEncode2 (m : MethodId) (x0_ : Int32) : entryFrame m #[(.int x0_)] 1 = mkF m 0 #[lvI x0_] [] := by first | (simp [entryFrame, mkF, argsToLocals, Value.category]; done) | rfl
def QcanEncode2 (Z : State) (x0_ : Int32) (h0 : Heap) (n0 : Nat) (v : Option Value) (h : Heap) (L : List Loc) : Prop := v = some (.int (1 : Int32)) ∧ Fr n0 L ∧ h = h0
set_option maxRecDepth 65536 in
set_option maxHeartbeats 40000000 in
theorem rmcanEncode2 (l : Launch) (Z : State) (a0 : Array Value) (hw : ∀ d ∈ tables_1, d.before a0 Z = true) (ws : List Jvm.Cond) (x0_ : Int32) (h0 : Heap) (n0 : Nat) (O0 : Old Z n0 h0) (ha0 : ¬ ((255 : Int32) < x0_)) :
    MetFree l (⟨"java/lang/StringLatin1", "canEncode", "(C)Z"⟩ : MethodName) (head1 (Jvm.Cond.code (⟨"java/lang/StringLatin1", "canEncode", "(C)Z"⟩ : MethodName) jdk_43_method_3_code 1 (some .boolean) :: ws) ({ frames := 0, cells := 0, slots := 0, locals := 0 } : Room)) (fun a U => a = #[(.int x0_)] ∧ Z.Warmed39 U.vm ∧ U.heap = h0) (fun _ _ _ _ _ => True) (fun _ U o U' => ∃ v L, o = .returned v ∧ QcanEncode2 Z x0_ h0 n0 v U'.heap L ∧ FrameEnd U o U' L ({ frames := 0, cells := 0, slots := 0, locals := 0 } : Room).cells ({ frames := 0, cells := 0, slots := 0, locals := 0 } : Room).slots) := by
  refine MetFree.of_bodySF (plainFor_of_name pn_0) hisR ?_
  intro p e s m args below meth c s₁ Bd hml0 hP hK
  obtain ⟨rfl, hZ, hh⟩ := hP
  have hx := Bd.exec
  have hby := Bd.bytes
  have hml : c.maxLocals = 1 := hml0
  have hown : s.vm.findClass "java/lang/StringLatin1" = some m.cls := findClass_of_methodNamed Bd.named
  have hnm := (name_of_methodNamed Bd.named Bd.method).1
  have X0 : Stand p l e ({ frames := 0, cells := 0, slots := 0, locals := 0 } : Room) s m #[(.int x0_)] below meth c s₁ [] 0 0 := Stand.of_body Bd
  have e0 : s₁.heap = h0 := by rw [← hh, Bd.state]; rfl
  have N0 := Fr.nil n0
  obtain ⟨G, pre0, hG⟩ : ∃ G : State → Prop, (∀ t, own_S p e below m s₁ 0 #[lvI x0_] [] t → G t) ∧ (∀ t, G t → Steps p.tables e below (s₁.setTop (entryFrame m #[(.int x0_)] 1)) t) := ⟨fun t => Steps p.tables e below (s₁.setTop (entryFrame m #[(.int x0_)] 1)) t, fun t k => castTop (efcanEncode2 m x0_) k, fun _ k => k⟩
  have K0 : Keep h0 h0 [] := Keep.refl _ _
  have pre1 : ∀ t, own_S p e below m s₁ 12 #[lvI x0_] [(.int (1 : Int32))] t → G t := by
    intro t kt
    refine pre0 t ?_
    show own_S p e below m s₁ 0 #[lvI x0_] [] _
    refine XS.iloadN X0.here hx rfl (hb hby d2_0) rfl ?_
    refine XS.sipush X0.here hx rfl (hb hby d2_1) ?_
    show own_S p e below m s₁ 4 #[lvI x0_] [(.int (255 : Int32)), (.int x0_)] _
    refine XS.icmpNo X0.here hx rfl (hb hby d2_4) rfl (flt ha0).2.2.1 ?_
    refine XS.iconst X0.here hx rfl (hb hby d2_7) ?_
    refine XS.goto X0.here hx rfl (pc0 := 8) (pc' := 12) rfl (hb hby d2_8) (by decide) (by decide) ?_
    exact kt
  obtain ⟨fs, hr, hrun, hended, hW, hsame⟩ := X0.leave (v := some (.int (1 : Int32))) (fun h => by rw [Bd.returns] at h; cases h)
  refine ⟨_, _, hG _ (pre1 _ (retN X0 hx (t := .boolean) Bd.returns (by simp) (hb hby d2_12) hr)), hrun, hended, _, _, rfl, ?_, ⟨_, rfl⟩, hW, hsame.mono (by decide) (by decide)⟩
  show QcanEncode2 Z x0_ h0 n0 _ s₁.heap _
  rw [e0]
  exact ⟨rfl, N0, rfl⟩
theorem pd_0 : parseMethodDescriptor "(C)Z" = some ⟨[.char], some .boolean⟩ := by decide +kernel
theorem d1_10 : decode jdk_42_method_139_code 10 = .ok (.ifCond .eq 16, 3) := by decide +kernel
theorem d1_13 : decode jdk_42_method_139_code 13 = .ok (.new 10, 3) := by decide +kernel
theorem d1_16 : decode jdk_42_method_139_code 16 = .ok (.dup, 1) := by decide +kernel
theorem d1_17 : decode jdk_42_method_139_code 17 = .ok (.iload_n 0, 1) := by decide +kernel
theorem d1_18 : decode jdk_42_method_139_code 18 = .ok (.invokestatic 1018, 3) := by decide +kernel
theorem d3_0 : decode jdk_43_method_46_code 0 = .ok (.iconst 1, 1) := by decide +kernel
theorem d3_1 : decode jdk_43_method_46_code 1 = .ok (.newarray .byte, 2) := by decide +kernel
theorem d3_3 : decode jdk_43_method_46_code 3 = .ok (.dup, 1) := by decide +kernel
theorem d3_4 : decode jdk_43_method_46_code 4 = .ok (.iconst 0, 1) := by decide +kernel
theorem d3_5 : decode jdk_43_method_46_code 5 = .ok (.iload_n 0, 1) := by decide +kernel
theorem d3_6 : decode jdk_43_method_46_code 6 = .ok (.i2b, 1) := by decide +kernel
theorem d3_7 : decode jdk_43_method_46_code 7 = .ok (.bastore, 1) := by decide +kernel
theorem d3_8 : decode jdk_43_method_46_code 8 = .ok (.areturn, 1) := by decide +kernel
theorem eftoBytes3 (m : MethodId) (x0_ : Int32) : entryFrame m #[(.int x0_)] 1 = mkF m 0 #[lvI x0_] [] := by first | (simp [entryFrame, mkF, argsToLocals, Value.category]; done) | rfl
def QtoBytes3 (Z : State) (x0_ : Int32) (h0 : Heap) (n0 : Nat) (v : Option Value) (h : Heap) (L : List Loc) : Prop := ∃ k1 : ClassId, ∃ nb1 : Addr, v = some (.ref nb1) ∧ Fr n0 L ∧ Keep h0 h [] ∧ h0.size ≤ nb1 ∧ Arv Z h nb1 k1 .byte (1 : Int32) [(.int (x0_.toInt8.toInt32))] (.int (0 : Int32)) ∧ Exa Z h nb1 "[B"
set_option maxRecDepth 65536 in
set_option maxHeartbeats 40000000 in
theorem rmtoBytes3 (l : Launch) (Z : State) (a0 : Array Value) (hw : ∀ d ∈ tables_1, d.before a0 Z = true) (ws : List Jvm.Cond) (x0_ : Int32) (h0 : Heap) (n0 : Nat) (O0 : Old Z n0 h0)  :
    MetFree l (⟨"java/lang/StringLatin1", "toBytes", "(C)[B"⟩ : MethodName) (head1 (Jvm.Cond.code (⟨"java/lang/StringLatin1", "toBytes", "(C)[B"⟩ : MethodName) jdk_43_method_46_code 1 (some (.array .byte)) :: ws) ({ frames := 0, cells := 1, slots := 1, locals := 0 } : Room)) (fun a U => a = #[(.int x0_)] ∧ Z.Warmed39 U.vm ∧ U.heap = h0) (fun _ _ _ _ _ => True) (fun _ U o U' => ∃ v L, o = .returned v ∧ QtoBytes3 Z x0_ h0 n0 v U'.heap L ∧ FrameEnd U o U' L ({ frames := 0, cells := 1, slots := 1, locals := 0 } : Room).cells ({ frames := 0, cells := 1, slots := 1, locals := 0 } : Room).slots) := by
  refine MetFree.of_bodySF (plainFor_of_name pn_0) hisR ?_
  intro p e s m args below meth c s₁ Bd hml0 hP hK
  obtain ⟨rfl, hZ, hh⟩ := hP
  have hx := Bd.exec
  have hby := Bd.bytes
  have hml : c.maxLocals = 1 := hml0
  have hown : s.vm.findClass "java/lang/StringLatin1" = some m.cls := findClass_of_methodNamed Bd.named
  have hnm := (name_of_methodNamed Bd.named Bd.method).1
  have X0 : Stand p l e ({ frames := 0, cells := 1, slots := 1, locals := 0 } : Room) s m #[(.int x0_)] below meth c s₁ [] 0 0 := Stand.of_body Bd
  have e0 : s₁.heap = h0 := by rw [← hh, Bd.state]; rfl
  have N0 := Fr.nil n0
  obtain ⟨G, pre0, hG⟩ : ∃ G : State → Prop, (∀ t, own_S p e below m s₁ 0 #[lvI x0_] [] t → G t) ∧ (∀ t, G t → Steps p.tables e below (s₁.setTop (entryFrame m #[(.int x0_)] 1)) t) := ⟨fun t => Steps p.tables e below (s₁.setTop (entryFrame m #[(.int x0_)] 1)) t, fun t k => castTop (eftoBytes3 m x0_) k, fun _ k => k⟩
  have K0 : Keep h0 h0 [] := Keep.refl _ _
  obtain ⟨T1, h1, k1, X1, e1, E1, A1, Z1, st1⟩ := newPE X0 hx hZ (own_w hw 18 rfl) e0 (g := (mkF m 1 #[lvI x0_] [(.int (1 : Int32))])) rfl (hb hby d3_1) rfl (by decide) (cap := 1) (by decide) (by decide) (by decide) (by decide) (ad := "[B") (by decide)
  obtain ⟨b1, g1⟩ : ∃ z, z = h0.size := ⟨_, rfl⟩
  rw [← g1] at A1 Z1 st1
  have ge2 : n0 ≤ b1 := Nat.le_trans (Nat.le_trans (Nat.le_of_eq O0.1.symm) O0.2.1) (Nat.le_of_eq g1.symm)
  have sz3 : h0.size ≤ b1 := Nat.le_trans K0.1 (Nat.le_of_eq g1.symm)
  have f4 : Arv Z h1 b1 k1 .byte (1 : Int32) [(.int (0 : Int32))] (.int (0 : Int32)) := (Arv.new A1 (by decide)).pad (pad_rep [] (.int (0 : Int32)) 1)
  obtain ⟨c5, r5, q5, s5, z5, y5, G5⟩ := id f4
  have hin5 : ¬ ((0 : Int32) < 0 ∨ c5.slots.size ≤ ((0 : Int32)).toNatClampNeg) := inb_of s5 ⟨by decide, by decide⟩
  obtain ⟨T5, h5, X5, e5, W5, st5⟩ := stB X1 hx hZ e1 r5 (j := (0 : Int32)) hin5 (g := (mkF m 7 #[lvI x0_] [(.int (x0_.toInt8.toInt32)), (.int (0 : Int32)), (.ref b1), (.ref b1)])) rfl rfl (hb hby d3_7)
  have N6 := Fr.snoc X5 N0 ge2
  have f7 : Arv Z h5 b1 k1 .byte (1 : Int32) [(.int ((x0_.toInt8.toInt32).toInt8.toInt32))] (.int (0 : Int32)) := Arv.set r5 q5 s5 z5 y5 G5 (fits_nar_byte _) W5 0 rfl (Nat.le_of_ble_eq_true rfl)
  have f8 : Arv Z h5 b1 k1 .byte (1 : Int32) [(.int (x0_.toInt8.toInt32))] (.int (0 : Int32)) := by have q := f7; rw [own_i2b2] at q; exact q
  have pre9 : ∀ t, own_S p e below m T5 8 #[lvI x0_] [(.ref b1)] t → G t := by
    intro t kt
    refine pre0 t ?_
    show own_S p e below m s₁ 0 #[lvI x0_] [] _
    refine XS.iconst X0.here hx rfl (hb hby d3_0) ?_
    show own_S p e below m s₁ 1 #[lvI x0_] [(.int (1 : Int32))] _
    refine st1 _ ?_
    refine XS.dup X1.here hx rfl (hb hby d3_3) rfl rfl ?_
    refine XS.iconst X1.here hx rfl (hb hby d3_4) ?_
    refine XS.iloadN X1.here hx rfl (hb hby d3_5) rfl ?_
    show own_S p e below m T1 6 #[lvI x0_] [(.int x0_), (.int (0 : Int32)), (.ref b1), (.ref b1)] _
    refine XS.i2b X1.here hx rfl (hb hby d3_6) rfl ?_
    show own_S p e below m T1 7 #[lvI x0_] [(.int (x0_.toInt8.toInt32)), (.int (0 : Int32)), (.ref b1), (.ref b1)] _
    refine st5 _ ?_
    exact kt
  have f11 : Keep h0 h1 [] := K0.ext E1
  have f12 : Keep h0 h5 [] := f11.wr W5 (Or.inr sz3)
  have f13 : Exa Z h5 b1 "[B" := Z1.wr W5
  obtain ⟨fs, hr, hrun, hended, hW, hsame⟩ := X5.leave (v := some (.ref b1)) (fun h => by rw [Bd.returns] at h; cases h)
  refine ⟨_, _, hG _ (pre9 _ (retOut X5 hx Bd.returns rfl (Or.inr (Or.inr (Or.inr (Or.inr ⟨rfl, rfl, rfl⟩)))) (hb hby d3_8) hr)), hrun, hended, _, _, rfl, ?_, ⟨_, rfl⟩, hW, hsame.mono (by decide) (by decide)⟩
  show QtoBytes3 Z x0_ h0 n0 _ T5.heap _
  rw [e5]
  exact ⟨k1, b1, rfl, N6, f12, sz3, f8, f13⟩
theorem pd_1 : parseMethodDescriptor "(C)[B" = some ⟨[.char], some (.array .byte)⟩ := by decide +kernel
theorem d1_21 : decode jdk_42_method_139_code 21 = .ok (.iconst 0, 1) := by decide +kernel
theorem d1_22 : decode jdk_42_method_139_code 22 = .ok (.invokespecial 209, 3) := by decide +kernel
theorem d4_0 : decode jdk_42_method_151_code 0 = .ok (.aload_n 0, 1) := by decide +kernel
theorem d4_1 : decode jdk_42_method_151_code 1 = .ok (.invokespecial 1, 3) := by decide +kernel
theorem d4_4 : decode jdk_42_method_151_code 4 = .ok (.aload_n 0, 1) := by decide +kernel
theorem d4_5 : decode jdk_42_method_151_code 5 = .ok (.aload_n 1, 1) := by decide +kernel
theorem d4_6 : decode jdk_42_method_151_code 6 = .ok (.putfield 9, 3) := by decide +kernel
theorem d4_9 : decode jdk_42_method_151_code 9 = .ok (.aload_n 0, 1) := by decide +kernel
theorem d4_10 : decode jdk_42_method_151_code 10 = .ok (.iload_n 2, 1) := by decide +kernel
theorem d4_11 : decode jdk_42_method_151_code 11 = .ok (.putfield 15, 3) := by decide +kernel
theorem d4_14 : decode jdk_42_method_151_code 14 = .ok (.return_, 1) := by decide +kernel
theorem pn_1 : plainName "java/lang/String" = true := by first | (simp [plainName, overriddenIn]; done) | decide +kernel
theorem efinit4 (m : MethodId) (o0_ : Addr) (o1_ : Addr) : entryFrame m #[(.ref o0_), (.ref o1_), (.int (0 : Int32))] 3 = mkF m 0 #[lvR o0_, lvR o1_, lvI (0 : Int32)] [] := by first | (simp [entryFrame, mkF, argsToLocals, Value.category]; done) | rfl
def Qinit4 (Z : State) (o0_ : Addr) (o1_ : Addr) (ko1_ : ClassId) (x0_ : Int32) (h0 : Heap) (n0 : Nat) (v : Option Value) (h : Heap) (L : List Loc) : Prop := v = none ∧ Fr n0 L ∧ Keep h0 h [o0_] ∧ Exa Z h o0_ "java/lang/String" ∧ Fld Z h o0_ "java/lang/String" "value" "[B" (.ref o1_) ∧ Fld Z h o0_ "java/lang/String" "coder" "B" (.int (0 : Int32))
set_option maxRecDepth 65536 in
set_option maxHeartbeats 40000000 in
theorem rminit4 (l : Launch) (Z : State) (a0 : Array Value) (hw : ∀ d ∈ tables_1, d.before a0 Z = true) (ws : List Jvm.Cond) (o0_ : Addr) (o1_ : Addr) (ko1_ : ClassId) (x0_ : Int32) (h0 : Heap) (n0 : Nat) (O0 : Old Z n0 h0) (P0 : Exa Z h0 o0_ "java/lang/String") (P1 : Fld Z h0 o0_ "java/lang/String" "value" "[B" .null) (P2 : Fld Z h0 o0_ "java/lang/String" "coder" "B" (.int (0 : Int32))) (P3 : Arv Z h0 o1_ ko1_ .byte (1 : Int32) [(.int x0_)] (.int (0 : Int32))) (P4 : Exa Z h0 o1_ "[B") (P5 : n0 ≤ o0_) :
    MetFree l (⟨"java/lang/String", "<init>", "([BB)V"⟩ : MethodName) (head1 (Jvm.Cond.code (⟨"java/lang/String", "<init>", "([BB)V"⟩ : MethodName) jdk_42_method_151_code 3 none :: ws) ({ frames := 1, cells := 0, slots := 0, locals := 12 } : Room)) (fun a U => a = #[(.ref o0_), (.ref o1_), (.int (0 : Int32))] ∧ Z.Warmed39 U.vm ∧ U.heap = h0) (fun _ _ _ _ _ => True) (fun _ U o U' => ∃ v L, o = .returned v ∧ Qinit4 Z o0_ o1_ ko1_ x0_ h0 n0 v U'.heap L ∧ FrameEnd U o U' L ({ frames := 1, cells := 0, slots := 0, locals := 12 } : Room).cells ({ frames := 1, cells := 0, slots := 0, locals := 12 } : Room).slots) := by
  refine MetFree.of_bodySF (plainFor_of_name pn_1) hisR ?_
  intro p e s m args below meth c s₁ Bd hml0 hP hK
  obtain ⟨rfl, hZ, hh⟩ := hP
  have hx := Bd.exec
  have hby := Bd.bytes
  have hml : c.maxLocals = 3 := hml0
  have hown : s.vm.findClass "java/lang/String" = some m.cls := findClass_of_methodNamed Bd.named
  have hnm := (name_of_methodNamed Bd.named Bd.method).1
  have X0 : Stand p l e ({ frames := 1, cells := 0, slots := 0, locals := 12 } : Room) s m #[(.ref o0_), (.ref o1_), (.int (0 : Int32))] below meth c s₁ [] 0 0 := Stand.of_body Bd
  have e0 : s₁.heap = h0 := by rw [← hh, Bd.state]; rfl
  have N0 := Fr.nil n0
  obtain ⟨G, pre0, hG⟩ : ∃ G : State → Prop, (∀ t, own_S p e below m s₁ 0 #[lvR o0_, lvR o1_, lvI (0 : Int32)] [] t → G t) ∧ (∀ t, G t → Steps p.tables e below (s₁.setTop (entryFrame m #[(.ref o0_), (.ref o1_), (.int (0 : Int32))] 3)) t) := ⟨fun t => Steps p.tables e below (s₁.setTop (entryFrame m #[(.ref o0_), (.ref o1_), (.int (0 : Int32))] 3)) t, fun t k => castTop (efinit4 m o0_ o1_) k, fun _ k => k⟩
  have K0 : Keep h0 h0 [o0_] := Keep.refl _ _
  obtain ⟨T1, X1, e1, st1⟩ := initO X0 hx hZ hown (own_w hw 23 rfl) (own_w hw 24 rfl) (own_w hw 25 rfl) e0 (g := (mkF m 1 #[lvR o0_, lvR o1_, lvI (0 : Int32)] [(.ref o0_)])) rfl (by rw [hml]; rfl) rfl (hb hby d4_1) (by decide) (W := 0) (by show 2 * 0 + _ ≤ _; exact Nat.le_of_eq rfl) (by decide)
  obtain ⟨T2, h2, X2, e2, W2, st2⟩ := putF X1 hx hZ hown (host := "") (Or.inl (own_w hw 26 rfl)) Via.refl e1 P1 P0 (Or.inr ⟨(own_w hw 27 rfl), rfl, hnm⟩) (own_w hw 14 rfl) (ty := (.array .byte)) (by decide) rfl rfl (g := (mkF m 6 #[lvR o0_, lvR o1_, lvI (0 : Int32)] [(.ref o1_), (.ref o0_)])) rfl rfl (hb hby d4_6)
  have N3 := Fr.snoc X2 N0 P5
  have f4 : Fld Z h2 o0_ "java/lang/String" "value" "[B" (.ref o1_) := P1.same W2
  have f5 : Fld Z h2 o0_ "java/lang/String" "coder" "B" (.int (0 : Int32)) := P2.other W2 (Or.inr (slot_ne (Or.inr (own_w hw 29 rfl)) (Or.inr (own_w hw 27 rfl)) (by decide) (t := .byte) (t' := (.array .byte)) (by decide) (by decide)))
  have f6 : Exa Z h2 o0_ "java/lang/String" := P0.wr W2
  obtain ⟨T7, h7, X7, e7, W7, st7⟩ := putF X2 hx hZ hown (host := "") (Or.inl (own_w hw 28 rfl)) Via.refl e2 f5 f6 (Or.inr ⟨(own_w hw 29 rfl), rfl, hnm⟩) (own_w hw 14 rfl) (ty := .byte) (by decide) rfl rfl (g := (mkF m 11 #[lvR o0_, lvR o1_, lvI (0 : Int32)] [(.int (0 : Int32)), (.ref o0_)])) rfl rfl (hb hby d4_11)
  have N8 := Fr.snoc X7 N3 P5
  have f9 : Fld Z h7 o0_ "java/lang/String" "coder" "B" (.int (0 : Int32)) := f5.same W7
  have pre10 : ∀ t, own_S p e below m T7 14 #[lvR o0_, lvR o1_, lvI (0 : Int32)] [] t → G t := by
    intro t kt
    refine pre0 t ?_
    show own_S p e below m s₁ 0 #[lvR o0_, lvR o1_, lvI (0 : Int32)] [] _
    refine XS.aloadN X0.here hx rfl (hb hby d4_0) rfl rfl ?_
    show own_S p e below m s₁ 1 #[lvR o0_, lvR o1_, lvI (0 : Int32)] [(.ref o0_)] _
    refine st1 _ ?_
    refine XS.aloadN X1.here hx rfl (hb hby d4_4) rfl rfl ?_
    refine XS.aloadN X1.here hx rfl (hb hby d4_5) rfl rfl ?_
    show own_S p e below m T1 6 #[lvR o0_, lvR o1_, lvI (0 : Int32)] [(.ref o1_), (.ref o0_)] _
    refine st2 _ ?_
    refine XS.aloadN X2.here hx rfl (hb hby d4_9) rfl rfl ?_
    refine XS.iloadN X2.here hx rfl (hb hby d4_10) rfl ?_
    show own_S p e below m T2 11 #[lvR o0_, lvR o1_, lvI (0 : Int32)] [(.int (0 : Int32)), (.ref o0_)] _
    refine st7 _ ?_
    exact kt
  have f12 : Keep h0 h2 [o0_] := K0.wr W2 (Or.inl (List.mem_of_getElem? (i := 0) rfl))
  have f13 : Keep h0 h7 [o0_] := f12.wr W7 (Or.inl (List.mem_of_getElem? (i := 0) rfl))
  have f14 : Exa Z h7 o0_ "java/lang/String" := f6.wr W7
  have f15 : Fld Z h7 o0_ "java/lang/String" "value" "[B" (.ref o1_) := f4.other W7 (Or.inr (slot_ne (Or.inr (own_w hw 27 rfl)) (Or.inr (own_w hw 29 rfl)) (by decide) (t := (.array .byte)) (t' := .byte) (by decide) (by decide)))
  obtain ⟨fs, hr, hrun, hended, hW, hsame⟩ := X7.leave (v := none) (fun _ => rfl)
  refine ⟨_, _, hG _ (pre10 _ (X7.returnOut hx Bd.returns (hb hby d4_14) hr)), hrun, hended, _, _, rfl, ?_, ⟨_, rfl⟩, hW, hsame.mono (by decide) (by decide)⟩
  show Qinit4 Z o0_ o1_ ko1_ x0_ h0 n0 _ T7.heap _
  rw [e7]
  exact ⟨rfl, N8, f13, f14, f15, f9⟩
theorem pd_2 : parseMethodDescriptor "([BB)V" = some ⟨[(.array .byte), .byte], none⟩ := by decide +kernel
theorem d1_25 : decode jdk_42_method_139_code 25 = .ok (.areturn, 1) := by decide +kernel
theorem efvalueOf1 (m : MethodId) (x0_ : Int32) : entryFrame m #[(.int x0_)] 1 = mkF m 0 #[lvI x0_] [] := by first | (simp [entryFrame, mkF, argsToLocals, Value.category]; done) | rfl
def QvalueOf1 (Z : State) (x0_ : Int32) (x1_ : Int32) (h0 : Heap) (n0 : Nat) (v : Option Value) (h : Heap) (L : List Loc) : Prop := ∃ k1_9 : ClassId, ∃ nb4 : Addr, ∃ nnb1_9 : Addr, v = some (.ref nb4) ∧ Fr n0 L ∧ Keep h0 h [] ∧ h0.size ≤ nb4 ∧ h0.size ≤ nnb1_9 ∧ nb4 ≠ nnb1_9 ∧ Exa Z h nb4 "java/lang/String" ∧ Fld Z h nb4 "java/lang/String" "value" "[B" (.ref nnb1_9) ∧ Fld Z h nb4 "java/lang/String" "coder" "B" (.int (0 : Int32)) ∧ Arv Z h nnb1_9 k1_9 .byte (1 : Int32) [(.int (x0_.toInt8.toInt32))] (.int (0 : Int32)) ∧ Exa Z h nnb1_9 "[B"
set_option maxRecDepth 65536 in
set_option maxHeartbeats 40000000 in
theorem rmvalueOf1 (l : Launch) (Z : State) (a0 : Array Value) (hw : ∀ d ∈ tables_1, d.before a0 Z = true) (ws : List Jvm.Cond) (x0_ : Int32) (x1_ : Int32) (h0 : Heap) (n0 : Nat) (O0 : Old Z n0 h0) (ha0 : ¬ ((255 : Int32) < x0_)) (P1 : ¬ (x1_ = (0 : Int32))) (P2 : Sta Z Z.heap "java/lang/String" "COMPACT_STRINGS" "Z" (.int x1_)) :
    MetFree l (⟨"java/lang/String", "valueOf", "(C)Ljava/lang/String;"⟩ : MethodName) (head1 (Jvm.Cond.code (⟨"java/lang/String", "valueOf", "(C)Ljava/lang/String;"⟩ : MethodName) jdk_42_method_139_code 1 (some (.object "java/lang/String")) :: ws) ({ frames := 2, cells := 2, slots := 5, locals := 27 } : Room)) (fun a U => a = #[(.int x0_)] ∧ Z.Warmed39 U.vm ∧ U.heap = h0) (fun _ _ _ _ _ => True) (fun _ U o U' => ∃ v L, o = .returned v ∧ QvalueOf1 Z x0_ x1_ h0 n0 v U'.heap L ∧ FrameEnd U o U' L ({ frames := 2, cells := 2, slots := 5, locals := 27 } : Room).cells ({ frames := 2, cells := 2, slots := 5, locals := 27 } : Room).slots) := by
  refine MetFree.of_bodySF (plainFor_of_name pn_1) hisR ?_
  intro p e s m args below meth c s₁ Bd hml0 hP hK
  obtain ⟨rfl, hZ, hh⟩ := hP
  have hx := Bd.exec
  have hby := Bd.bytes
  have hml : c.maxLocals = 1 := hml0
  have hown : s.vm.findClass "java/lang/String" = some m.cls := findClass_of_methodNamed Bd.named
  have hnm := (name_of_methodNamed Bd.named Bd.method).1
  have X0 : Stand p l e ({ frames := 2, cells := 2, slots := 5, locals := 27 } : Room) s m #[(.int x0_)] below meth c s₁ [] 0 0 := Stand.of_body Bd
  have e0 : s₁.heap = h0 := by rw [← hh, Bd.state]; rfl
  have N0 := Fr.nil n0
  obtain ⟨G, pre0, hG⟩ : ∃ G : State → Prop, (∀ t, own_S p e below m s₁ 0 #[lvI x0_] [] t → G t) ∧ (∀ t, G t → Steps p.tables e below (s₁.setTop (entryFrame m #[(.int x0_)] 1)) t) := ⟨fun t => Steps p.tables e below (s₁.setTop (entryFrame m #[(.int x0_)] 1)) t, fun t k => castTop (efvalueOf1 m x0_) k, fun _ k => k⟩
  have K0 : Keep h0 h0 [] := Keep.refl _ _
  obtain ⟨T1, X1, e1, st1⟩ := getS2 X0 hx hZ hown (host := "") (Or.inl (own_w hw 8 rfl)) Via.refl e0 (P2.ext O0.2) (g := (mkF m 0 #[lvI x0_] [])) rfl (hb hby d1_0)
  obtain ⟨_, _, ⟨T2, L2, k2, n2⟩, -, X2, ⟨Lc2, hQ2, l2, y2, z2⟩, st2⟩ := Jvm.LawKit.callS X1 hx (y := (⟨"java/lang/StringLatin1", "canEncode", "(C)Z"⟩ : MethodName)) hown (mvT hZ (own_w hw 9 rfl)) (mvT hZ (own_w hw 10 rfl)) (mvT hZ (own_w hw 11 rfl)) (mvT hZ (own_w hw 12 rfl)) (by decide) (backOf (W := 0) (rmcanEncode2 l Z a0 hw [] x0_ h0 n0 O0 ha0) hZ (own_w hw 12 rfl) (own_w hw 11 rfl) (by decide) (by decide)) (g := (mkF m 7 #[lvI x0_] [(.int x0_)])) rfl (by rw [hml]; rfl) (argsL := [(.int x0_)]) (rest := []) (lenOf pd_0 rfl) rfl (by show 2 * 0 + _ ≤ _; exact Nat.le_of_eq rfl) (hb hby d1_7) (fun _ _ => ⟨rfl, e1, (by decide : 0 + 0 ≤ _), (by decide : 0 + 0 ≤ _)⟩)
  dsimp only [Pt.U, Pt.locs, Pt.cells, Pt.slots] at X2 l2 y2 z2 st2 hQ2
  subst l2 y2 z2
  obtain ⟨h2, e2⟩ : ∃ z, T2.heap = z := ⟨_, rfl⟩
  rw [e2] at hQ2
  obtain ⟨rfl, N2q, hh2⟩ := hQ2
  have N3 := Fr.app N0 N2q
  have e2' : T2.heap = h0 := e2.trans hh2
  obtain ⟨T4, h4, X4, e4, E4, A4, D4, -, st4⟩ := newO X2 hx hZ hown (own_w hw 13 rfl) (own_w hw 14 rfl) (own_w hw 6 rfl) e2' (g := (mkF m 13 #[lvI x0_] [])) rfl (hb hby d1_13) (by decide) (by decide)
  obtain ⟨b4, g4⟩ : ∃ z, z = h0.size := ⟨_, rfl⟩
  rw [← g4] at A4 D4 st4
  have ge5 : n0 ≤ b4 := Nat.le_trans (Nat.le_trans (Nat.le_of_eq O0.1.symm) O0.2.1) (Nat.le_of_eq g4.symm)
  have sz6 : h0.size ≤ b4 := Nat.le_trans K0.1 (Nat.le_of_eq g4.symm)
  have f7 : Fld Z h4 b4 "java/lang/String" "value" "[B" .null := D4 (Or.inr (own_w hw 27 rfl)) (ty := (.array .byte)) (by decide)
  have f8 : Fld Z h4 b4 "java/lang/String" "coder" "B" (.int (0 : Int32)) := D4 (Or.inr (own_w hw 29 rfl)) (ty := .byte) (by decide)
  have f10 : Old Z n0 h4 := O0.ext E4
  obtain ⟨_, _, ⟨T9, L9, k9, n9⟩, -, X9, ⟨Lc9, hQ9, l9, y9, z9⟩, st9⟩ := Jvm.LawKit.callS X4 hx (y := (⟨"java/lang/StringLatin1", "toBytes", "(C)[B"⟩ : MethodName)) hown (mvT hZ (own_w hw 15 rfl)) (mvT hZ (own_w hw 16 rfl)) (mvT hZ (own_w hw 11 rfl)) (mvT hZ (own_w hw 17 rfl)) (by decide) (backOf (W := 2) (rmtoBytes3 l Z a0 hw [] x0_ h4 n0 f10 ) hZ (own_w hw 17 rfl) (own_w hw 11 rfl) (by decide) (by decide)) (g := (mkF m 18 #[lvI x0_] [(.int x0_), (.ref b4), (.ref b4)])) rfl (by rw [hml]; rfl) (argsL := [(.int x0_)]) (rest := [(.ref b4), (.ref b4)]) (lenOf pd_1 rfl) rfl (by show 2 * 0 + _ ≤ _; exact Nat.le_of_eq rfl) (hb hby d1_18) (fun _ _ => ⟨rfl, e4, (by decide : 1 + 1 ≤ _), (by decide : 4 + 1 ≤ _)⟩)
  dsimp only [Pt.U, Pt.locs, Pt.cells, Pt.slots] at X9 l9 y9 z9 st9 hQ9
  subst l9 y9 z9
  obtain ⟨h9, e9⟩ : ∃ z, T9.heap = z := ⟨_, rfl⟩
  rw [e9] at hQ9
  obtain ⟨k1_9, nb1_9, rfl, N9q, K9, sznb1_9, g9_0, g9_1⟩ := hQ9
  have N11 := Fr.app N3 N9q
  have ge12 : n0 ≤ nb1_9 := Nat.le_trans (Nat.le_trans (Nat.le_of_eq f10.1.symm) f10.2.1) sznb1_9
  have f13 : Keep h0 h4 [] := K0.ext E4
  have sz14 : h0.size ≤ nb1_9 := Nat.le_trans f13.1 sznb1_9
  have f16 : Exa Z h9 b4 "java/lang/String" := A4.keep K9
  have f17 : Fld Z h9 b4 "java/lang/String" "value" "[B" .null := f7.keep K9 nin0
  have f18 : Fld Z h9 b4 "java/lang/String" "coder" "B" (.int (0 : Int32)) := f8.keep K9 nin0
  have f19 : Old Z n0 h9 := f10.keep K9 all0
  obtain ⟨_, _, ⟨T15, L15, k15, n15⟩, -, X15, ⟨Lc15, hQ15, l15, y15, z15⟩, st15⟩ := X9.specialBack hx (y := (⟨"java/lang/String", "<init>", "([BB)V"⟩ : MethodName)) rfl hown (mvT hZ (own_w hw 19 rfl)) (mvT hZ (own_w hw 20 rfl)) (mvT hZ (own_w hw 22 rfl)) (by decide) (backOf (W := 1) (rminit4 l Z a0 hw [] b4 nb1_9 k1_9 (x0_.toInt8.toInt32) h9 n0 f19 f16 f17 f18 g9_0 g9_1 ge5) hZ (own_w hw 22 rfl) (own_w hw 6 rfl) (by decide) (by decide)) (g := (mkF m 22 #[lvI x0_] [(.int (0 : Int32)), (.ref nb1_9), (.ref b4), (.ref b4)])) rfl (by rw [hml]; rfl) (Steps.refl _) (a := b4) (argsL := [(.ref nb1_9), (.int (0 : Int32))]) (rest := [(.ref b4)]) (lenOf pd_2 rfl) rfl (by show 2 * 0 + _ ≤ _; exact Nat.le_of_eq rfl) (hb hby d1_22) (fun _ _ => ⟨rfl, e9, (by decide : 2 + 0 ≤ _), (by decide : 5 + 0 ≤ _)⟩)
  dsimp only [Pt.U, Pt.locs, Pt.cells, Pt.slots] at X15 l15 y15 z15 st15 hQ15
  subst l15 y15 z15
  obtain ⟨h15, e15⟩ : ∃ z, T15.heap = z := ⟨_, rfl⟩
  rw [e15] at hQ15
  obtain ⟨rfl, N15q, K15, g15_0, g15_1, g15_2⟩ := hQ15
  have N20 := Fr.app N11 N15q
  have pre21 : ∀ t, own_S p e below m T15 25 #[lvI x0_] [(.ref b4)] t → G t := by
    intro t kt
    refine pre0 t ?_
    show own_S p e below m s₁ 0 #[lvI x0_] [] _
    refine st1 _ ?_
    show own_S p e below m T1 3 #[lvI x0_] [(.int x1_)] _
    refine XS.ifNo X1.here hx rfl (hb hby d1_3) rfl ((if0 _ _).trans (feq P1).1) ?_
    refine XS.iloadN X1.here hx rfl (hb hby d1_6) rfl ?_
    show own_S p e below m T1 7 #[lvI x0_] [(.int x0_)] _
    refine st2 _ ?_
    show own_S p e below m T2 10 #[lvI x0_] [(.int (1 : Int32))] _
    refine XS.ifNo X2.here hx rfl (hb hby d1_10) rfl ((if0 _ _).trans (feq (by decide : ¬ ((1 : Int32) = (0 : Int32)))).1) ?_
    show own_S p e below m T2 13 #[lvI x0_] [] _
    refine st4 _ ?_
    refine XS.dup X4.here hx rfl (hb hby d1_16) rfl rfl ?_
    refine XS.iloadN X4.here hx rfl (hb hby d1_17) rfl ?_
    show own_S p e below m T4 18 #[lvI x0_] [(.int x0_), (.ref b4), (.ref b4)] _
    refine st9 _ ?_
    refine XS.iconst X9.here hx rfl (hb hby d1_21) ?_
    show own_S p e below m T9 22 #[lvI x0_] [(.int (0 : Int32)), (.ref nb1_9), (.ref b4), (.ref b4)] _
    refine st15.trans ?_
    exact kt
  have f23 : Keep h0 h9 [] := f13.trans K9 all0
  have f24 : Keep h0 h15 [] := f23.trans K15 (allS (Or.inr sz6) all0)
  have ne25 : b4 ≠ nb1_9 := Nat.ne_of_lt (Nat.lt_of_lt_of_le A4.lt sznb1_9)
  have f26 : Arv Z h15 nb1_9 k1_9 .byte (1 : Int32) [(.int (x0_.toInt8.toInt32))] (.int (0 : Int32)) := g9_0.keep K15 (ninS (Ne.symm ne25) nin0)
  have f27 : Exa Z h15 nb1_9 "[B" := g9_1.keep K15
  obtain ⟨fs, hr, hrun, hended, hW, hsame⟩ := X15.leave (v := some (.ref b4)) (fun h => by rw [Bd.returns] at h; cases h)
  refine ⟨_, _, hG _ (pre21 _ (retOut X15 hx Bd.returns rfl (Or.inr (Or.inr (Or.inr (Or.inr ⟨rfl, rfl, rfl⟩)))) (hb hby d1_25) hr)), hrun, hended, _, _, rfl, ?_, ⟨_, rfl⟩, hW, hsame.mono (by decide) (by decide)⟩
  show QvalueOf1 Z x0_ x1_ h0 n0 _ T15.heap _
  rw [e15]
  exact ⟨k1_9, b4, nb1_9, rfl, N20, f24, sz6, sz14, ne25, g15_0, g15_1, g15_2, f26, f27⟩
theorem pd_3 : parseMethodDescriptor "(C)Ljava/lang/String;" = some ⟨[.char], some (.object "java/lang/String")⟩ := by decide +kernel
theorem d5_0 : decode jdk_38_method_2_code 0 = .ok (.aload_n 0, 1) := by decide +kernel
theorem d5_1 : decode jdk_38_method_2_code 1 = .ok (.invokespecial 1, 3) := by decide +kernel
theorem d6_0 : decode jdk_39_method_1_code 0 = .ok (.aload_n 0, 1) := by decide +kernel
theorem d6_1 : decode jdk_39_method_1_code 1 = .ok (.invokespecial 1, 3) := by decide +kernel
theorem d7_0 : decode jdk_22_method_1_code 0 = .ok (.aload_n 0, 1) := by decide +kernel
theorem d7_1 : decode jdk_22_method_1_code 1 = .ok (.invokespecial 1, 3) := by decide +kernel
theorem d7_4 : decode jdk_22_method_1_code 4 = .ok (.return_, 1) := by decide +kernel
theorem pn_2 : plainName "java/util/AbstractCollection" = true := by first | (simp [plainName, overriddenIn]; done) | decide +kernel
theorem efinit7 (m : MethodId) (o0_ : Addr) : entryFrame m #[(.ref o0_)] 1 = mkF m 0 #[lvR o0_] [] := by first | (simp [entryFrame, mkF, argsToLocals, Value.category]; done) | rfl
def Qinit7 (Z : State) (o0_ : Addr) (h0 : Heap) (n0 : Nat) (v : Option Value) (h : Heap) (L : List Loc) : Prop := v = none ∧ Fr n0 L ∧ h = h0
set_option maxRecDepth 65536 in
set_option maxHeartbeats 40000000 in
theorem rminit7 (l : Launch) (Z : State) (a0 : Array Value) (hw : ∀ d ∈ tables_1, d.before a0 Z = true) (ws : List Jvm.Cond) (o0_ : Addr) (h0 : Heap) (n0 : Nat) (O0 : Old Z n0 h0) (P0 : Exa Z h0 o0_ "java/util/ArrayList") (P1 : Fld Z h0 o0_ "java/util/AbstractList" "modCount" "I" (.int (0 : Int32))) (P2 : Fld Z h0 o0_ "java/util/ArrayList" "elementData" "[Ljava/lang/Object;" .null) (P3 : Fld Z h0 o0_ "java/util/ArrayList" "size" "I" (.int (0 : Int32))) :
    MetFree l (⟨"java/util/AbstractCollection", "<init>", "()V"⟩ : MethodName) (head1 (Jvm.Cond.code (⟨"java/util/AbstractCollection", "<init>", "()V"⟩ : MethodName) jdk_22_method_1_code 1 none :: ws) ({ frames := 1, cells := 0, slots := 0, locals := 12 } : Room)) (fun a U => a = #[(.ref o0_)] ∧ Z.Warmed39 U.vm ∧ U.heap = h0) (fun _ _ _ _ _ => True) (fun _ U o U' => ∃ v L, o = .returned v ∧ Qinit7 Z o0_ h0 n0 v U'.heap L ∧ FrameEnd U o U' L ({ frames := 1, cells := 0, slots := 0, locals := 12 } : Room).cells ({ frames := 1, cells := 0, slots := 0, locals := 12 } : Room).slots) := by
  refine MetFree.of_bodySF (plainFor_of_name pn_2) hisR ?_
  intro p e s m args below meth c s₁ Bd hml0 hP hK
  obtain ⟨rfl, hZ, hh⟩ := hP
  have hx := Bd.exec
  have hby := Bd.bytes
  have hml : c.maxLocals = 1 := hml0
  have hown : s.vm.findClass "java/util/AbstractCollection" = some m.cls := findClass_of_methodNamed Bd.named
  have hnm := (name_of_methodNamed Bd.named Bd.method).1
  have X0 : Stand p l e ({ frames := 1, cells := 0, slots := 0, locals := 12 } : Room) s m #[(.ref o0_)] below meth c s₁ [] 0 0 := Stand.of_body Bd
  have e0 : s₁.heap = h0 := by rw [← hh, Bd.state]; rfl
  have N0 := Fr.nil n0
  obtain ⟨G, pre0, hG⟩ : ∃ G : State → Prop, (∀ t, own_S p e below m s₁ 0 #[lvR o0_] [] t → G t) ∧ (∀ t, G t → Steps p.tables e below (s₁.setTop (entryFrame m #[(.ref o0_)] 1)) t) := ⟨fun t => Steps p.tables e below (s₁.setTop (entryFrame m #[(.ref o0_)] 1)) t, fun t k => castTop (efinit7 m o0_) k, fun _ k => k⟩
  have K0 : Keep h0 h0 [] := Keep.refl _ _
  obtain ⟨T1, X1, e1, st1⟩ := initO X0 hx hZ hown (own_w hw 48 rfl) (own_w hw 24 rfl) (own_w hw 25 rfl) e0 (g := (mkF m 1 #[lvR o0_] [(.ref o0_)])) rfl (by rw [hml]; rfl) rfl (hb hby d7_1) (by decide) (W := 0) (by show 2 * 0 + _ ≤ _; exact Nat.le_of_eq rfl) (by decide)
  have pre2 : ∀ t, own_S p e below m T1 4 #[lvR o0_] [] t → G t := by
    intro t kt
    refine pre0 t ?_
    show own_S p e below m s₁ 0 #[lvR o0_] [] _
    refine XS.aloadN X0.here hx rfl (hb hby d7_0) rfl rfl ?_
    show own_S p e below m s₁ 1 #[lvR o0_] [(.ref o0_)] _
    refine st1 _ ?_
    exact kt
  obtain ⟨fs, hr, hrun, hended, hW, hsame⟩ := X1.leave (v := none) (fun _ => rfl)
  refine ⟨_, _, hG _ (pre2 _ (X1.returnOut hx Bd.returns (hb hby d7_4) hr)), hrun, hended, _, _, rfl, ?_, ⟨_, rfl⟩, hW, hsame.mono (by decide) (by decide)⟩
  show Qinit7 Z o0_ h0 n0 _ T1.heap _
  rw [e1]
  exact ⟨rfl, N0, rfl⟩
theorem pd_4 : parseMethodDescriptor "()V" = some ⟨[], none⟩ := by decide +kernel
theorem d6_4 : decode jdk_39_method_1_code 4 = .ok (.aload_n 0, 1) := by decide +kernel
theorem d6_5 : decode jdk_39_method_1_code 5 = .ok (.iconst 0, 1) := by decide +kernel
theorem d6_6 : decode jdk_39_method_1_code 6 = .ok (.putfield 7, 3) := by decide +kernel
theorem d6_9 : decode jdk_39_method_1_code 9 = .ok (.return_, 1) := by decide +kernel
theorem pn_3 : plainName "java/util/AbstractList" = true := by first | (simp [plainName, overriddenIn]; done) | decide +kernel
theorem efinit6 (m : MethodId) (o0_ : Addr) : entryFrame m #[(.ref o0_)] 1 = mkF m 0 #[lvR o0_] [] := by first | (simp [entryFrame, mkF, argsToLocals, Value.category]; done) | rfl
def Qinit6 (Z : State) (o0_ : Addr) (h0 : Heap) (n0 : Nat) (v : Option Value) (h : Heap) (L : List Loc) : Prop := v = none ∧ Fr n0 L ∧ Keep h0 h [o0_] ∧ Exa Z h o0_ "java/util/ArrayList" ∧ Fld Z h o0_ "java/util/AbstractList" "modCount" "I" (.int (0 : Int32)) ∧ Fld Z h o0_ "java/util/ArrayList" "elementData" "[Ljava/lang/Object;" .null ∧ Fld Z h o0_ "java/util/ArrayList" "size" "I" (.int (0 : Int32))
set_option maxRecDepth 65536 in
set_option maxHeartbeats 40000000 in
theorem rminit6 (l : Launch) (Z : State) (a0 : Array Value) (hw : ∀ d ∈ tables_1, d.before a0 Z = true) (ws : List Jvm.Cond) (o0_ : Addr) (h0 : Heap) (n0 : Nat) (O0 : Old Z n0 h0) (P0 : Exa Z h0 o0_ "java/util/ArrayList") (P1 : Fld Z h0 o0_ "java/util/AbstractList" "modCount" "I" (.int (0 : Int32))) (P2 : Fld Z h0 o0_ "java/util/ArrayList" "elementData" "[Ljava/lang/Object;" .null) (P3 : Fld Z h0 o0_ "java/util/ArrayList" "size" "I" (.int (0 : Int32))) (P4 : n0 ≤ o0_) :
    MetFree l (⟨"java/util/AbstractList", "<init>", "()V"⟩ : MethodName) (head1 (Jvm.Cond.code (⟨"java/util/AbstractList", "<init>", "()V"⟩ : MethodName) jdk_39_method_1_code 1 none :: ws) ({ frames := 2, cells := 0, slots := 0, locals := 24 } : Room)) (fun a U => a = #[(.ref o0_)] ∧ Z.Warmed39 U.vm ∧ U.heap = h0) (fun _ _ _ _ _ => True) (fun _ U o U' => ∃ v L, o = .returned v ∧ Qinit6 Z o0_ h0 n0 v U'.heap L ∧ FrameEnd U o U' L ({ frames := 2, cells := 0, slots := 0, locals := 24 } : Room).cells ({ frames := 2, cells := 0, slots := 0, locals := 24 } : Room).slots) := by
  refine MetFree.of_bodySF (plainFor_of_name pn_3) hisR ?_
  intro p e s m args below meth c s₁ Bd hml0 hP hK
  obtain ⟨rfl, hZ, hh⟩ := hP
  have hx := Bd.exec
  have hby := Bd.bytes
  have hml : c.maxLocals = 1 := hml0
  have hown : s.vm.findClass "java/util/AbstractList" = some m.cls := findClass_of_methodNamed Bd.named
  have hnm := (name_of_methodNamed Bd.named Bd.method).1
  have X0 : Stand p l e ({ frames := 2, cells := 0, slots := 0, locals := 24 } : Room) s m #[(.ref o0_)] below meth c s₁ [] 0 0 := Stand.of_body Bd
  have e0 : s₁.heap = h0 := by rw [← hh, Bd.state]; rfl
  have N0 := Fr.nil n0
  obtain ⟨G, pre0, hG⟩ : ∃ G : State → Prop, (∀ t, own_S p e below m s₁ 0 #[lvR o0_] [] t → G t) ∧ (∀ t, G t → Steps p.tables e below (s₁.setTop (entryFrame m #[(.ref o0_)] 1)) t) := ⟨fun t => Steps p.tables e below (s₁.setTop (entryFrame m #[(.ref o0_)] 1)) t, fun t k => castTop (efinit6 m o0_) k, fun _ k => k⟩
  have K0 : Keep h0 h0 [o0_] := Keep.refl _ _
  obtain ⟨_, _, ⟨T1, L1, k1, n1⟩, -, X1, ⟨Lc1, hQ1, l1, y1, z1⟩, st1⟩ := X0.specialBack hx (y := (⟨"java/util/AbstractCollection", "<init>", "()V"⟩ : MethodName)) rfl hown (mvT hZ (own_w hw 42 rfl)) (mvT hZ (own_w hw 43 rfl)) (mvT hZ (own_w hw 47 rfl)) (by decide) (backOf (W := 0) (rminit7 l Z a0 hw [] o0_ h0 n0 O0 P0 P1 P2 P3) hZ (own_w hw 47 rfl) (own_w hw 46 rfl) (by decide) (by decide)) (g := (mkF m 1 #[lvR o0_] [(.ref o0_)])) rfl (by rw [hml]; rfl) (Steps.refl _) (a := o0_) (argsL := []) (rest := []) (lenOf pd_4 rfl) rfl (by show 2 * 0 + _ ≤ _; exact Nat.le_of_eq rfl) (hb hby d6_1) (fun _ _ => ⟨rfl, e0, (by decide : 0 + 0 ≤ _), (by decide : 0 + 0 ≤ _)⟩)
  dsimp only [Pt.U, Pt.locs, Pt.cells, Pt.slots] at X1 l1 y1 z1 st1 hQ1
  subst l1 y1 z1
  obtain ⟨h1, e1⟩ : ∃ z, T1.heap = z := ⟨_, rfl⟩
  rw [e1] at hQ1
  obtain ⟨rfl, N1q, hh1⟩ := hQ1
  have N2 := Fr.app N0 N1q
  have e1' : T1.heap = h0 := e1.trans hh1
  obtain ⟨T3, h3, X3, e3, W3, st3⟩ := putF X1 hx hZ hown (host := "") (Or.inl (own_w hw 49 rfl)) Via.refl e1' P1 P0 (Or.inl (own_w hw 50 rfl)) (own_w hw 31 rfl) (ty := .int) (by decide) rfl rfl (g := (mkF m 6 #[lvR o0_] [(.int (0 : Int32)), (.ref o0_)])) rfl rfl (hb hby d6_6)
  have N4 := Fr.snoc X3 N2 P4
  have f5 : Fld Z h3 o0_ "java/util/AbstractList" "modCount" "I" (.int (0 : Int32)) := P1.same W3
  have pre6 : ∀ t, own_S p e below m T3 9 #[lvR o0_] [] t → G t := by
    intro t kt
    refine pre0 t ?_
    show own_S p e below m s₁ 0 #[lvR o0_] [] _
    refine XS.aloadN X0.here hx rfl (hb hby d6_0) rfl rfl ?_
    show own_S p e below m s₁ 1 #[lvR o0_] [(.ref o0_)] _
    refine st1.trans ?_
    refine XS.aloadN X1.here hx rfl (hb hby d6_4) rfl rfl ?_
    refine XS.iconst X1.here hx rfl (hb hby d6_5) ?_
    show own_S p e below m T1 6 #[lvR o0_] [(.int (0 : Int32)), (.ref o0_)] _
    refine st3 _ ?_
    exact kt
  have f8 : Keep h0 h3 [o0_] := K0.wr W3 (Or.inl (List.mem_of_getElem? (i := 0) rfl))
  have f9 : Exa Z h3 o0_ "java/util/ArrayList" := P0.wr W3
  have f10 : Fld Z h3 o0_ "java/util/ArrayList" "elementData" "[Ljava/lang/Object;" .null := P2.other W3 (Or.inr (slot_ne (Or.inl (own_w hw 53 rfl)) (Or.inl (own_w hw 50 rfl)) (by decide) (t := (.array (.object "java/lang/Object"))) (t' := .int) (by decide) (by decide)))
  have f11 : Fld Z h3 o0_ "java/util/ArrayList" "size" "I" (.int (0 : Int32)) := P3.other W3 (Or.inr (slot_ne (Or.inl (own_w hw 62 rfl)) (Or.inl (own_w hw 50 rfl)) (by decide) (t := .int) (t' := .int) (by decide) (by decide)))
  obtain ⟨fs, hr, hrun, hended, hW, hsame⟩ := X3.leave (v := none) (fun _ => rfl)
  refine ⟨_, _, hG _ (pre6 _ (X3.returnOut hx Bd.returns (hb hby d6_9) hr)), hrun, hended, _, _, rfl, ?_, ⟨_, rfl⟩, hW, hsame.mono (by decide) (by decide)⟩
  show Qinit6 Z o0_ h0 n0 _ T3.heap _
  rw [e3]
  exact ⟨rfl, N4, f8, f9, f5, f10, f11⟩
theorem d5_4 : decode jdk_38_method_2_code 4 = .ok (.aload_n 0, 1) := by decide +kernel
theorem d5_5 : decode jdk_38_method_2_code 5 = .ok (.getstatic 39, 3) := by decide +kernel
theorem d5_8 : decode jdk_38_method_2_code 8 = .ok (.putfield 9, 3) := by decide +kernel
theorem d5_11 : decode jdk_38_method_2_code 11 = .ok (.return_, 1) := by decide +kernel
theorem pn_4 : plainName "java/util/ArrayList" = true := by first | (simp [plainName, overriddenIn]; done) | decide +kernel
theorem efinit5 (m : MethodId) (o0_ : Addr) : entryFrame m #[(.ref o0_)] 1 = mkF m 0 #[lvR o0_] [] := by first | (simp [entryFrame, mkF, argsToLocals, Value.category]; done) | rfl
def Qinit5 (Z : State) (o0_ : Addr) (o1_ : Addr) (ko1_ : ClassId) (h0 : Heap) (n0 : Nat) (v : Option Value) (h : Heap) (L : List Loc) : Prop := v = none ∧ Fr n0 L ∧ Keep h0 h [o0_] ∧ Exa Z h o0_ "java/util/ArrayList" ∧ Fld Z h o0_ "java/util/AbstractList" "modCount" "I" (.int (0 : Int32)) ∧ Fld Z h o0_ "java/util/ArrayList" "elementData" "[Ljava/lang/Object;" (.ref o1_) ∧ Fld Z h o0_ "java/util/ArrayList" "size" "I" (.int (0 : Int32))
set_option maxRecDepth 65536 in
set_option maxHeartbeats 40000000 in
theorem rminit5 (l : Launch) (Z : State) (a0 : Array Value) (hw : ∀ d ∈ tables_1, d.before a0 Z = true) (ws : List Jvm.Cond) (o0_ : Addr) (o1_ : Addr) (ko1_ : ClassId) (h0 : Heap) (n0 : Nat) (O0 : Old Z n0 h0) (P0 : Exa Z h0 o0_ "java/util/ArrayList") (P1 : Fld Z h0 o0_ "java/util/AbstractList" "modCount" "I" (.int (0 : Int32))) (P2 : Fld Z h0 o0_ "java/util/ArrayList" "elementData" "[Ljava/lang/Object;" .null) (P3 : Fld Z h0 o0_ "java/util/ArrayList" "size" "I" (.int (0 : Int32))) (P4 : n0 ≤ o0_) (P5 : Exa Z Z.heap o1_ "[Ljava/lang/Object;") (P6 : Arv Z Z.heap o1_ ko1_ (.object "java/lang/Object") (0 : Int32) [] .null) (P7 : Sta Z Z.heap "java/util/ArrayList" "DEFAULTCAPACITY_EMPTY_ELEMENTDATA" "[Ljava/lang/Object;" (.ref o1_)) :
    MetFree l (⟨"java/util/ArrayList", "<init>", "()V"⟩ : MethodName) (head1 (Jvm.Cond.code (⟨"java/util/ArrayList", "<init>", "()V"⟩ : MethodName) jdk_38_method_2_code 1 none :: ws) ({ frames := 3, cells := 0, slots := 0, locals := 36 } : Room)) (fun a U => a = #[(.ref o0_)] ∧ Z.Warmed39 U.vm ∧ U.heap = h0) (fun _ _ _ _ _ => True) (fun _ U o U' => ∃ v L, o = .returned v ∧ Qinit5 Z o0_ o1_ ko1_ h0 n0 v U'.heap L ∧ FrameEnd U o U' L ({ frames := 3, cells := 0, slots := 0, locals := 36 } : Room).cells ({ frames := 3, cells := 0, slots := 0, locals := 36 } : Room).slots) := by
  refine MetFree.of_bodySF (plainFor_of_name pn_4) hisR ?_
  intro p e s m args below meth c s₁ Bd hml0 hP hK
  obtain ⟨rfl, hZ, hh⟩ := hP
  have hx := Bd.exec
  have hby := Bd.bytes
  have hml : c.maxLocals = 1 := hml0
  have hown : s.vm.findClass "java/util/ArrayList" = some m.cls := findClass_of_methodNamed Bd.named
  have hnm := (name_of_methodNamed Bd.named Bd.method).1
  have X0 : Stand p l e ({ frames := 3, cells := 0, slots := 0, locals := 36 } : Room) s m #[(.ref o0_)] below meth c s₁ [] 0 0 := Stand.of_body Bd
  have e0 : s₁.heap = h0 := by rw [← hh, Bd.state]; rfl
  have N0 := Fr.nil n0
  obtain ⟨G, pre0, hG⟩ : ∃ G : State → Prop, (∀ t, own_S p e below m s₁ 0 #[lvR o0_] [] t → G t) ∧ (∀ t, G t → Steps p.tables e below (s₁.setTop (entryFrame m #[(.ref o0_)] 1)) t) := ⟨fun t => Steps p.tables e below (s₁.setTop (entryFrame m #[(.ref o0_)] 1)) t, fun t k => castTop (efinit5 m o0_) k, fun _ k => k⟩
  have K0 : Keep h0 h0 [o0_] := Keep.refl _ _
  obtain ⟨_, _, ⟨T1, L1, k1, n1⟩, -, X1, ⟨Lc1, hQ1, l1, y1, z1⟩, st1⟩ := X0.specialBack hx (y := (⟨"java/util/AbstractList", "<init>", "()V"⟩ : MethodName)) rfl hown (mvT hZ (own_w hw 36 rfl)) (mvT hZ (own_w hw 37 rfl)) (mvT hZ (own_w hw 41 rfl)) (by decide) (backOf (W := 0) (rminit6 l Z a0 hw [] o0_ h0 n0 O0 P0 P1 P2 P3 P4) hZ (own_w hw 41 rfl) (own_w hw 40 rfl) (by decide) (by decide)) (g := (mkF m 1 #[lvR o0_] [(.ref o0_)])) rfl (by rw [hml]; rfl) (Steps.refl _) (a := o0_) (argsL := []) (rest := []) (lenOf pd_4 rfl) rfl (by show 2 * 0 + _ ≤ _; exact Nat.le_of_eq rfl) (hb hby d5_1) (fun _ _ => ⟨rfl, e0, (by decide : 0 + 0 ≤ _), (by decide : 0 + 0 ≤ _)⟩)
  dsimp only [Pt.U, Pt.locs, Pt.cells, Pt.slots] at X1 l1 y1 z1 st1 hQ1
  subst l1 y1 z1
  obtain ⟨h1, e1⟩ : ∃ z, T1.heap = z := ⟨_, rfl⟩
  rw [e1] at hQ1
  obtain ⟨rfl, N1q, K1, g1_0, g1_1, g1_2, g1_3⟩ := hQ1
  have N2 := Fr.app N0 N1q
  have f3 : Old Z n0 h1 := O0.keep K1 (allS (P4) all0)
  obtain ⟨T4, X4, e4, st4⟩ := getS2 X1 hx hZ hown (host := "") (Or.inl (own_w hw 51 rfl)) Via.refl e1 (P7.ext f3.2) (g := (mkF m 5 #[lvR o0_] [(.ref o0_)])) rfl (hb hby d5_5)
  obtain ⟨T5, h5, X5, e5, W5, st5⟩ := putF X4 hx hZ hown (host := "") (Or.inl (own_w hw 52 rfl)) Via.refl e4 g1_2 g1_0 (Or.inl (own_w hw 53 rfl)) (own_w hw 31 rfl) (ty := (.array (.object "java/lang/Object"))) (by decide) rfl rfl (g := (mkF m 8 #[lvR o0_] [(.ref o1_), (.ref o0_)])) rfl rfl (hb hby d5_8)
  have N6 := Fr.snoc X5 N2 P4
  have f7 : Fld Z h5 o0_ "java/util/ArrayList" "elementData" "[Ljava/lang/Object;" (.ref o1_) := g1_2.same W5
  have pre8 : ∀ t, own_S p e below m T5 11 #[lvR o0_] [] t → G t := by
    intro t kt
    refine pre0 t ?_
    show own_S p e below m s₁ 0 #[lvR o0_] [] _
    refine XS.aloadN X0.here hx rfl (hb hby d5_0) rfl rfl ?_
    show own_S p e below m s₁ 1 #[lvR o0_] [(.ref o0_)] _
    refine st1.trans ?_
    refine XS.aloadN X1.here hx rfl (hb hby d5_4) rfl rfl ?_
    show own_S p e below m T1 5 #[lvR o0_] [(.ref o0_)] _
    refine st4 _ ?_
    show own_S p e below m T4 8 #[lvR o0_] [(.ref o1_), (.ref o0_)] _
    refine st5 _ ?_
    exact kt
  have f10 : Keep h0 h1 [o0_] := K0.trans K1 (allS (Or.inl (List.mem_of_getElem? (i := 0) rfl)) all0)
  have f11 : Keep h0 h5 [o0_] := f10.wr W5 (Or.inl (List.mem_of_getElem? (i := 0) rfl))
  have f12 : Exa Z h5 o0_ "java/util/ArrayList" := g1_0.wr W5
  have f13 : Fld Z h5 o0_ "java/util/AbstractList" "modCount" "I" (.int (0 : Int32)) := g1_1.other W5 (Or.inr (slot_ne (Or.inl (own_w hw 50 rfl)) (Or.inl (own_w hw 53 rfl)) (by decide) (t := .int) (t' := (.array (.object "java/lang/Object"))) (by decide) (by decide)))
  have f14 : Fld Z h5 o0_ "java/util/ArrayList" "size" "I" (.int (0 : Int32)) := g1_3.other W5 (Or.inr (slot_ne (Or.inl (own_w hw 62 rfl)) (Or.inl (own_w hw 53 rfl)) (by decide) (t := .int) (t' := (.array (.object "java/lang/Object"))) (by decide) (by decide)))
  obtain ⟨fs, hr, hrun, hended, hW, hsame⟩ := X5.leave (v := none) (fun _ => rfl)
  refine ⟨_, _, hG _ (pre8 _ (X5.returnOut hx Bd.returns (hb hby d5_11) hr)), hrun, hended, _, _, rfl, ?_, ⟨_, rfl⟩, hW, hsame.mono (by decide) (by decide)⟩
  show Qinit5 Z o0_ o1_ ko1_ h0 n0 _ T5.heap _
  rw [e5]
  exact ⟨rfl, N6, f11, f12, f13, f7, f14⟩
theorem d8_0 : decode jdk_38_method_25_code 0 = .ok (.aload_n 0, 1) := by decide +kernel
theorem d8_1 : decode jdk_38_method_25_code 1 = .ok (.dup, 1) := by decide +kernel
theorem d8_2 : decode jdk_38_method_25_code 2 = .ok (.getfield 63, 3) := by decide +kernel
theorem d8_5 : decode jdk_38_method_25_code 5 = .ok (.iconst 1, 1) := by decide +kernel
theorem d8_6 : decode jdk_38_method_25_code 6 = .ok (.iadd, 1) := by decide +kernel
theorem d8_7 : decode jdk_38_method_25_code 7 = .ok (.putfield 63, 3) := by decide +kernel
theorem d8_10 : decode jdk_38_method_25_code 10 = .ok (.aload_n 0, 1) := by decide +kernel
theorem d8_11 : decode jdk_38_method_25_code 11 = .ok (.aload_n 1, 1) := by decide +kernel
theorem d8_12 : decode jdk_38_method_25_code 12 = .ok (.aload_n 0, 1) := by decide +kernel
theorem d8_13 : decode jdk_38_method_25_code 13 = .ok (.getfield 9, 3) := by decide +kernel
theorem d8_16 : decode jdk_38_method_25_code 16 = .ok (.aload_n 0, 1) := by decide +kernel
theorem d8_17 : decode jdk_38_method_25_code 17 = .ok (.getfield 48, 3) := by decide +kernel
theorem d8_20 : decode jdk_38_method_25_code 20 = .ok (.invokevirtual 131, 3) := by decide +kernel
theorem d9_0 : decode jdk_38_method_24_code 0 = .ok (.iload_n 3, 1) := by decide +kernel
theorem d9_1 : decode jdk_38_method_24_code 1 = .ok (.aload_n 2, 1) := by decide +kernel
theorem d9_2 : decode jdk_38_method_24_code 2 = .ok (.arraylength, 1) := by decide +kernel
theorem d9_3 : decode jdk_38_method_24_code 3 = .ok (.if_icmp .ne 8, 3) := by decide +kernel
theorem d9_6 : decode jdk_38_method_24_code 6 = .ok (.aload_n 0, 1) := by decide +kernel
theorem d9_7 : decode jdk_38_method_24_code 7 = .ok (.invokevirtual 129, 3) := by decide +kernel
theorem d10_0 : decode jdk_38_method_7_code 0 = .ok (.aload_n 0, 1) := by decide +kernel
theorem d10_1 : decode jdk_38_method_7_code 1 = .ok (.aload_n 0, 1) := by decide +kernel
theorem d10_2 : decode jdk_38_method_7_code 2 = .ok (.getfield 48, 3) := by decide +kernel
theorem d10_5 : decode jdk_38_method_7_code 5 = .ok (.iconst 1, 1) := by decide +kernel
theorem d10_6 : decode jdk_38_method_7_code 6 = .ok (.iadd, 1) := by decide +kernel
theorem d10_7 : decode jdk_38_method_7_code 7 = .ok (.invokevirtual 69, 3) := by decide +kernel
theorem d11_0 : decode jdk_38_method_6_code 0 = .ok (.aload_n 0, 1) := by decide +kernel
theorem d11_1 : decode jdk_38_method_6_code 1 = .ok (.getfield 9, 3) := by decide +kernel
theorem d11_4 : decode jdk_38_method_6_code 4 = .ok (.arraylength, 1) := by decide +kernel
theorem d11_5 : decode jdk_38_method_6_code 5 = .ok (.istore_n 2, 1) := by decide +kernel
theorem d11_6 : decode jdk_38_method_6_code 6 = .ok (.iload_n 2, 1) := by decide +kernel
theorem d11_7 : decode jdk_38_method_6_code 7 = .ok (.ifCond .gt 13, 3) := by decide +kernel
theorem d11_10 : decode jdk_38_method_6_code 10 = .ok (.aload_n 0, 1) := by decide +kernel
theorem d11_11 : decode jdk_38_method_6_code 11 = .ok (.getfield 9, 3) := by decide +kernel
theorem d11_14 : decode jdk_38_method_6_code 14 = .ok (.getstatic 39, 3) := by decide +kernel
theorem d11_17 : decode jdk_38_method_6_code 17 = .ok (.if_acmp .eq 28, 3) := by decide +kernel
theorem d11_45 : decode jdk_38_method_6_code 45 = .ok (.aload_n 0, 1) := by decide +kernel
theorem d11_46 : decode jdk_38_method_6_code 46 = .ok (.bipush 10, 2) := by decide +kernel
theorem d11_48 : decode jdk_38_method_6_code 48 = .ok (.iload_n 1, 1) := by decide +kernel
theorem d11_49 : decode jdk_38_method_6_code 49 = .ok (.invokestatic 79, 3) := by decide +kernel
theorem d12_0 : decode jdk_29_method_65_code 0 = .ok (.iload_n 0, 1) := by decide +kernel
theorem d12_1 : decode jdk_29_method_65_code 1 = .ok (.iload_n 1, 1) := by decide +kernel
theorem d12_2 : decode jdk_29_method_65_code 2 = .ok (.if_icmp .lt 7, 3) := by decide +kernel
theorem d12_5 : decode jdk_29_method_65_code 5 = .ok (.iload_n 0, 1) := by decide +kernel
theorem d12_6 : decode jdk_29_method_65_code 6 = .ok (.goto 4, 3) := by decide +kernel
theorem d12_10 : decode jdk_29_method_65_code 10 = .ok (.ireturn, 1) := by decide +kernel
theorem efmax18 (m : MethodId)  : entryFrame m #[(.int (10 : Int32)), (.int (1 : Int32))] 2 = mkF m 0 #[lvI (10 : Int32), lvI (1 : Int32)] [] := by first | (simp [entryFrame, mkF, argsToLocals, Value.category]; done) | rfl
def Qmax18 (Z : State)  (h0 : Heap) (n0 : Nat) (v : Option Value) (h : Heap) (L : List Loc) : Prop := v = some (.int (10 : Int32)) ∧ Fr n0 L ∧ h = h0
set_option maxRecDepth 65536 in
set_option maxHeartbeats 40000000 in
theorem rmmax18 (l : Launch) (Z : State) (a0 : Array Value) (hw : ∀ d ∈ tables_1, d.before a0 Z = true) (ws : List Jvm.Cond)  (h0 : Heap) (n0 : Nat) (O0 : Old Z n0 h0)  :
    MetFree l (⟨"java/lang/Math", "max", "(II)I"⟩ : MethodName) (head1 (Jvm.Cond.code (⟨"java/lang/Math", "max", "(II)I"⟩ : MethodName) jdk_29_method_65_code 2 (some .int) :: ws) ({ frames := 0, cells := 0, slots := 0, locals := 0 } : Room)) (fun a U => a = #[(.int (10 : Int32)), (.int (1 : Int32))] ∧ Z.Warmed39 U.vm ∧ U.heap = h0) (fun _ _ _ _ _ => True) (fun _ U o U' => ∃ v L, o = .returned v ∧ Qmax18 Z  h0 n0 v U'.heap L ∧ FrameEnd U o U' L ({ frames := 0, cells := 0, slots := 0, locals := 0 } : Room).cells ({ frames := 0, cells := 0, slots := 0, locals := 0 } : Room).slots) := by
  refine MetFree.of_bodySF (Jvm.Free.JP.mathPlain rfl (by decide +kernel)) hisR ?_
  intro p e s m args below meth c s₁ Bd hml0 hP hK
  obtain ⟨rfl, hZ, hh⟩ := hP
  have hx := Bd.exec
  have hby := Bd.bytes
  have hml : c.maxLocals = 2 := hml0
  have hown : s.vm.findClass "java/lang/Math" = some m.cls := findClass_of_methodNamed Bd.named
  have hnm := (name_of_methodNamed Bd.named Bd.method).1
  have X0 : Stand p l e ({ frames := 0, cells := 0, slots := 0, locals := 0 } : Room) s m #[(.int (10 : Int32)), (.int (1 : Int32))] below meth c s₁ [] 0 0 := Stand.of_body Bd
  have e0 : s₁.heap = h0 := by rw [← hh, Bd.state]; rfl
  have N0 := Fr.nil n0
  obtain ⟨G, pre0, hG⟩ : ∃ G : State → Prop, (∀ t, own_S p e below m s₁ 0 #[lvI (10 : Int32), lvI (1 : Int32)] [] t → G t) ∧ (∀ t, G t → Steps p.tables e below (s₁.setTop (entryFrame m #[(.int (10 : Int32)), (.int (1 : Int32))] 2)) t) := ⟨fun t => Steps p.tables e below (s₁.setTop (entryFrame m #[(.int (10 : Int32)), (.int (1 : Int32))] 2)) t, fun t k => castTop (efmax18 m ) k, fun _ k => k⟩
  have K0 : Keep h0 h0 [] := Keep.refl _ _
  have pre1 : ∀ t, own_S p e below m s₁ 10 #[lvI (10 : Int32), lvI (1 : Int32)] [(.int (10 : Int32))] t → G t := by
    intro t kt
    refine pre0 t ?_
    show own_S p e below m s₁ 0 #[lvI (10 : Int32), lvI (1 : Int32)] [] _
    refine XS.iloadN X0.here hx rfl (hb hby d12_0) rfl ?_
    refine XS.iloadN X0.here hx rfl (hb hby d12_1) rfl ?_
    show own_S p e below m s₁ 2 #[lvI (10 : Int32), lvI (1 : Int32)] [(.int (1 : Int32)), (.int (10 : Int32))] _
    refine XS.icmpNo X0.here hx rfl (hb hby d12_2) rfl (flt (by decide : ¬ ((10 : Int32) < (1 : Int32)))).1 ?_
    refine XS.iloadN X0.here hx rfl (hb hby d12_5) rfl ?_
    refine XS.goto X0.here hx rfl (pc0 := 6) (pc' := 10) rfl (hb hby d12_6) (by decide) (by decide) ?_
    exact kt
  obtain ⟨fs, hr, hrun, hended, hW, hsame⟩ := X0.leave (v := some (.int (10 : Int32))) (fun h => by rw [Bd.returns] at h; cases h)
  refine ⟨_, _, hG _ (pre1 _ (retOut X0 hx Bd.returns rfl (Or.inl ⟨rfl, Or.inl rfl, _, rfl⟩) (hb hby d12_10) hr)), hrun, hended, _, _, rfl, ?_, ⟨_, rfl⟩, hW, hsame.mono (by decide) (by decide)⟩
  show Qmax18 Z  h0 n0 _ s₁.heap _
  rw [e0]
  exact ⟨rfl, N0, rfl⟩
theorem pd_5 : parseMethodDescriptor "(II)I" = some ⟨[.int, .int], some .int⟩ := by decide +kernel
theorem d11_52 : decode jdk_38_method_6_code 52 = .ok (.anewarray 7, 3) := by decide +kernel
theorem d11_55 : decode jdk_38_method_6_code 55 = .ok (.dup_x1, 1) := by decide +kernel
theorem d11_56 : decode jdk_38_method_6_code 56 = .ok (.putfield 9, 3) := by decide +kernel
theorem d11_59 : decode jdk_38_method_6_code 59 = .ok (.areturn, 1) := by decide +kernel
theorem efgrow17 (m : MethodId) (o0_ : Addr) : entryFrame m #[(.ref o0_), (.int (1 : Int32))] 4 = mkF m 0 #[lvR o0_, lvI (1 : Int32), .unset, .unset] [] := by first | (simp [entryFrame, mkF, argsToLocals, Value.category]; done) | rfl
def Qgrow17 (Z : State) (o0_ : Addr) (o1_ : Addr) (ko1_ : ClassId) (h0 : Heap) (n0 : Nat) (v : Option Value) (h : Heap) (L : List Loc) : Prop := ∃ k8 : ClassId, ∃ nb8 : Addr, v = some (.ref nb8) ∧ Fr n0 L ∧ Keep h0 h [o0_] ∧ h0.size ≤ nb8 ∧ Exa Z h o0_ "java/util/ArrayList" ∧ Fld Z h o0_ "java/util/AbstractList" "modCount" "I" (.int (1 : Int32)) ∧ Fld Z h o0_ "java/util/ArrayList" "elementData" "[Ljava/lang/Object;" (.ref nb8) ∧ Fld Z h o0_ "java/util/ArrayList" "size" "I" (.int (0 : Int32)) ∧ Arv Z h nb8 k8 (.object "java/lang/Object") (10 : Int32) [.null, .null, .null, .null, .null, .null, .null, .null, .null, .null] .null ∧ Exa Z h nb8 "[Ljava/lang/Object;"
set_option maxRecDepth 65536 in
set_option maxHeartbeats 40000000 in
theorem rmgrow17 (l : Launch) (Z : State) (a0 : Array Value) (hw : ∀ d ∈ tables_1, d.before a0 Z = true) (ws : List Jvm.Cond) (o0_ : Addr) (o1_ : Addr) (ko1_ : ClassId) (h0 : Heap) (n0 : Nat) (O0 : Old Z n0 h0) (P0 : Exa Z h0 o0_ "java/util/ArrayList") (P1 : Fld Z h0 o0_ "java/util/AbstractList" "modCount" "I" (.int (1 : Int32))) (P2 : Fld Z h0 o0_ "java/util/ArrayList" "elementData" "[Ljava/lang/Object;" (.ref o1_)) (P3 : Fld Z h0 o0_ "java/util/ArrayList" "size" "I" (.int (0 : Int32))) (P4 : Exa Z Z.heap o1_ "[Ljava/lang/Object;") (P5 : Arv Z Z.heap o1_ ko1_ (.object "java/lang/Object") (0 : Int32) [] .null) (P6 : Sta Z Z.heap "java/util/ArrayList" "DEFAULTCAPACITY_EMPTY_ELEMENTDATA" "[Ljava/lang/Object;" (.ref o1_)) (P7 : n0 ≤ o0_) :
    MetFree l (⟨"java/util/ArrayList", "grow", "(I)[Ljava/lang/Object;"⟩ : MethodName) (head1 (Jvm.Cond.code (⟨"java/util/ArrayList", "grow", "(I)[Ljava/lang/Object;"⟩ : MethodName) jdk_38_method_6_code 4 (some (.array (.object "java/lang/Object"))) :: ws) ({ frames := 1, cells := 1, slots := 10, locals := 14 } : Room)) (fun a U => a = #[(.ref o0_), (.int (1 : Int32))] ∧ Z.Warmed39 U.vm ∧ U.heap = h0) (fun _ _ _ _ _ => True) (fun _ U o U' => ∃ v L, o = .returned v ∧ Qgrow17 Z o0_ o1_ ko1_ h0 n0 v U'.heap L ∧ FrameEnd U o U' L ({ frames := 1, cells := 1, slots := 10, locals := 14 } : Room).cells ({ frames := 1, cells := 1, slots := 10, locals := 14 } : Room).slots) := by
  refine MetFree.of_bodySF (plainFor_of_name pn_4) hisR ?_
  intro p e s m args below meth c s₁ Bd hml0 hP hK
  obtain ⟨rfl, hZ, hh⟩ := hP
  have hx := Bd.exec
  have hby := Bd.bytes
  have hml : c.maxLocals = 4 := hml0
  have hown : s.vm.findClass "java/util/ArrayList" = some m.cls := findClass_of_methodNamed Bd.named
  have hnm := (name_of_methodNamed Bd.named Bd.method).1
  have X0 : Stand p l e ({ frames := 1, cells := 1, slots := 10, locals := 14 } : Room) s m #[(.ref o0_), (.int (1 : Int32))] below meth c s₁ [] 0 0 := Stand.of_body Bd
  have e0 : s₁.heap = h0 := by rw [← hh, Bd.state]; rfl
  have N0 := Fr.nil n0
  obtain ⟨G, pre0, hG⟩ : ∃ G : State → Prop, (∀ t, own_S p e below m s₁ 0 #[lvR o0_, lvI (1 : Int32), .unset, .unset] [] t → G t) ∧ (∀ t, G t → Steps p.tables e below (s₁.setTop (entryFrame m #[(.ref o0_), (.int (1 : Int32))] 4)) t) := ⟨fun t => Steps p.tables e below (s₁.setTop (entryFrame m #[(.ref o0_), (.int (1 : Int32))] 4)) t, fun t k => castTop (efgrow17 m o0_) k, fun _ k => k⟩
  have K0 : Keep h0 h0 [o0_] := Keep.refl _ _
  obtain ⟨T1, X1, e1, st1⟩ := getF X0 hx hZ hown (host := "") (Or.inl (own_w hw 52 rfl)) Via.refl e0 P2 (g := (mkF m 1 #[lvR o0_, lvI (1 : Int32), .unset, .unset] [(.ref o0_)])) rfl rfl (hb hby d11_1)
  have f3 : Arv Z h0 o1_ ko1_ (.object "java/lang/Object") (0 : Int32) [] .null := P5.ext O0.2
  obtain ⟨c2, r2, q2, s2, z2, y2, G2⟩ := id f3
  obtain ⟨T4, X4, e4, st4⟩ := getF X1 hx hZ hown (host := "") (Or.inl (own_w hw 52 rfl)) Via.refl e1 P2 (g := (mkF m 11 #[lvR o0_, lvI (1 : Int32), lvI (0 : Int32), .unset] [(.ref o0_)])) rfl rfl (hb hby d11_11)
  obtain ⟨T5, X5, e5, st5⟩ := getS2 X4 hx hZ hown (host := "") (Or.inl (own_w hw 51 rfl)) Via.refl e4 (P6.ext O0.2) (g := (mkF m 14 #[lvR o0_, lvI (1 : Int32), lvI (0 : Int32), .unset] [(.ref o1_)])) rfl (hb hby d11_14)
  obtain ⟨_, _, ⟨T6, L6, k6, n6⟩, -, X6, ⟨Lc6, hQ6, l6, y6, z6⟩, st6⟩ := Jvm.LawKit.callS X5 hx (y := (⟨"java/lang/Math", "max", "(II)I"⟩ : MethodName)) hown (mvT hZ (own_w hw 78 rfl)) (mvT hZ (own_w hw 79 rfl)) (mvT hZ (own_w hw 80 rfl)) (mvT hZ (own_w hw 81 rfl)) (by decide) (backOf (W := 1) (rmmax18 l Z a0 hw []  h0 n0 O0 ) hZ (own_w hw 81 rfl) (own_w hw 80 rfl) (by decide) (by decide)) (g := (mkF m 49 #[lvR o0_, lvI (1 : Int32), lvI (0 : Int32), .unset] [(.int (1 : Int32)), (.int (10 : Int32)), (.ref o0_)])) rfl (by rw [hml]; rfl) (argsL := [(.int (10 : Int32)), (.int (1 : Int32))]) (rest := [(.ref o0_)]) (lenOf pd_5 rfl) rfl (by show 2 * 0 + _ ≤ _; exact Nat.le_of_eq rfl) (hb hby d11_49) (fun _ _ => ⟨rfl, e5, (by decide : 0 + 0 ≤ _), (by decide : 0 + 0 ≤ _)⟩)
  dsimp only [Pt.U, Pt.locs, Pt.cells, Pt.slots] at X6 l6 y6 z6 st6 hQ6
  subst l6 y6 z6
  obtain ⟨h6, e6⟩ : ∃ z, T6.heap = z := ⟨_, rfl⟩
  rw [e6] at hQ6
  obtain ⟨rfl, N6q, hh6⟩ := hQ6
  have N7 := Fr.app N0 N6q
  have e6' : T6.heap = h0 := e6.trans hh6
  obtain ⟨T8, h8, k8, X8, e8, E8, A8, Z8, O8, st8⟩ := newRE X6 hx hZ hown (own_w hw 82 rfl) (own_w hw 83 rfl) e6' (g := (mkF m 52 #[lvR o0_, lvI (1 : Int32), lvI (0 : Int32), .unset] [(.int (10 : Int32)), (.ref o0_)])) rfl (hb hby d11_52) rfl (by decide) (cap := 10) (by decide) (by decide) (by decide) (by decide) (ad := "[Ljava/lang/Object;") (by decide)
  obtain ⟨b8, g8⟩ : ∃ z, z = h0.size := ⟨_, rfl⟩
  rw [← g8] at A8 Z8 st8
  have ge9 : n0 ≤ b8 := Nat.le_trans (Nat.le_trans (Nat.le_of_eq O0.1.symm) O0.2.1) (Nat.le_of_eq g8.symm)
  have sz10 : h0.size ≤ b8 := Nat.le_trans K0.1 (Nat.le_of_eq g8.symm)
  have f11 : Arv Z h8 b8 k8 (.object "java/lang/Object") (10 : Int32) [.null, .null, .null, .null, .null, .null, .null, .null, .null, .null] .null := (Arv.new A8 (by decide)).pad (pad_rep [] .null 10)
  have f12 : Fld Z h8 o0_ "java/util/ArrayList" "elementData" "[Ljava/lang/Object;" (.ref o1_) := P2.ext E8
  have f13 : Exa Z h8 o0_ "java/util/ArrayList" := P0.ext E8
  obtain ⟨T14, h14, X14, e14, W14, st14⟩ := putF X8 hx hZ hown (host := "") (Or.inl (own_w hw 52 rfl)) Via.refl e8 f12 f13 (Or.inl (own_w hw 53 rfl)) (own_w hw 31 rfl) (ty := (.array (.object "java/lang/Object"))) (by decide) rfl rfl (g := (mkF m 56 #[lvR o0_, lvI (1 : Int32), lvI (0 : Int32), .unset] [(.ref b8), (.ref o0_), (.ref b8)])) rfl rfl (hb hby d11_56)
  have N15 := Fr.snoc X14 N7 P7
  have f16 : Fld Z h14 o0_ "java/util/ArrayList" "elementData" "[Ljava/lang/Object;" (.ref b8) := f12.same W14
  have pre17 : ∀ t, own_S p e below m T14 59 #[lvR o0_, lvI (1 : Int32), lvI (0 : Int32), .unset] [(.ref b8)] t → G t := by
    intro t kt
    refine pre0 t ?_
    show own_S p e below m s₁ 0 #[lvR o0_, lvI (1 : Int32), .unset, .unset] [] _
    refine XS.aloadN X0.here hx rfl (hb hby d11_0) rfl rfl ?_
    show own_S p e below m s₁ 1 #[lvR o0_, lvI (1 : Int32), .unset, .unset] [(.ref o0_)] _
    refine st1 _ ?_
    show own_S p e below m T1 4 #[lvR o0_, lvI (1 : Int32), .unset, .unset] [(.ref o1_)] _
    refine X1.arraylength hx (by rw [e1]; exact r2.1) (State.isArrayOf_alike hZ.alike r2.2.1) (g := (mkF m 4 #[lvR o0_, lvI (1 : Int32), .unset, .unset] [(.ref o1_)])) rfl rfl (hb hby d11_4) _ ?_
    rw [len_of s2 z2]
    refine XS.istoreN X1.here hx rfl (hb hby d11_5) rfl (l' := #[lvR o0_, lvI (1 : Int32), lvI (0 : Int32), .unset]) rfl ?_
    refine XS.iloadN X1.here hx rfl (hb hby d11_6) rfl ?_
    show own_S p e below m T1 7 #[lvR o0_, lvI (1 : Int32), lvI (0 : Int32), .unset] [(.int (0 : Int32))] _
    refine XS.ifNo X1.here hx rfl (hb hby d11_7) rfl ((if0 _ _).trans (flt (by decide : ¬ ((0 : Int32) < (0 : Int32)))).2.2.1) ?_
    refine XS.aloadN X1.here hx rfl (hb hby d11_10) rfl rfl ?_
    show own_S p e below m T1 11 #[lvR o0_, lvI (1 : Int32), lvI (0 : Int32), .unset] [(.ref o0_)] _
    refine st4 _ ?_
    show own_S p e below m T4 14 #[lvR o0_, lvI (1 : Int32), lvI (0 : Int32), .unset] [(.ref o1_)] _
    refine st5 _ ?_
    show own_S p e below m T5 17 #[lvR o0_, lvI (1 : Int32), lvI (0 : Int32), .unset] [(.ref o1_), (.ref o1_)] _
    refine Jvm.RoadKit.acmp (g := (mkF m 17 #[lvR o0_, lvI (1 : Int32), lvI (0 : Int32), .unset] [(.ref o1_), (.ref o1_)])) X5 hx rfl rfl rfl (pc0 := 17) (pc' := 45) (same := true) rfl (hb hby d11_17) rfl (decide_eq_true rfl) (by decide) (by decide) ?_
    refine XS.aloadN X5.here hx rfl (hb hby d11_45) rfl rfl ?_
    refine XS.bipush X5.here hx rfl (hb hby d11_46) ?_
    refine XS.iloadN X5.here hx rfl (hb hby d11_48) rfl ?_
    show own_S p e below m T5 49 #[lvR o0_, lvI (1 : Int32), lvI (0 : Int32), .unset] [(.int (1 : Int32)), (.int (10 : Int32)), (.ref o0_)] _
    refine st6 _ ?_
    show own_S p e below m T6 52 #[lvR o0_, lvI (1 : Int32), lvI (0 : Int32), .unset] [(.int (10 : Int32)), (.ref o0_)] _
    refine st8 _ ?_
    show own_S p e below m T8 55 #[lvR o0_, lvI (1 : Int32), lvI (0 : Int32), .unset] [(.ref b8), (.ref o0_)] _
    refine XS.dupX1 X8.here hx rfl (hb hby d11_55) rfl rfl rfl ?_
    show own_S p e below m T8 56 #[lvR o0_, lvI (1 : Int32), lvI (0 : Int32), .unset] [(.ref b8), (.ref o0_), (.ref b8)] _
    refine st14 _ ?_
    exact kt
  have f19 : Keep h0 h8 [o0_] := K0.ext E8
  have f20 : Keep h0 h14 [o0_] := f19.wr W14 (Or.inl (List.mem_of_getElem? (i := 0) rfl))
  have f21 : Exa Z h14 o0_ "java/util/ArrayList" := f13.wr W14
  have f22 : Fld Z h8 o0_ "java/util/AbstractList" "modCount" "I" (.int (1 : Int32)) := P1.ext E8
  have f23 : Fld Z h14 o0_ "java/util/AbstractList" "modCount" "I" (.int (1 : Int32)) := f22.other W14 (Or.inr (slot_ne (Or.inl (own_w hw 50 rfl)) (Or.inl (own_w hw 53 rfl)) (by decide) (t := .int) (t' := (.array (.object "java/lang/Object"))) (by decide) (by decide)))
  have f24 : Fld Z h8 o0_ "java/util/ArrayList" "size" "I" (.int (0 : Int32)) := P3.ext E8
  have f25 : Fld Z h14 o0_ "java/util/ArrayList" "size" "I" (.int (0 : Int32)) := f24.other W14 (Or.inr (slot_ne (Or.inl (own_w hw 62 rfl)) (Or.inl (own_w hw 53 rfl)) (by decide) (t := .int) (t' := (.array (.object "java/lang/Object"))) (by decide) (by decide)))
  have ne27 : o0_ ≠ b8 := Nat.ne_of_lt (Nat.lt_of_lt_of_le P0.lt (Nat.le_of_eq g8.symm))
  have f26 : Arv Z h14 b8 k8 (.object "java/lang/Object") (10 : Int32) [.null, .null, .null, .null, .null, .null, .null, .null, .null, .null] .null := f11.other W14 (Ne.symm ne27)
  have f28 : Exa Z h14 b8 "[Ljava/lang/Object;" := Z8.wr W14
  obtain ⟨fs, hr, hrun, hended, hW, hsame⟩ := X14.leave (v := some (.ref b8)) (fun h => by rw [Bd.returns] at h; cases h)
  refine ⟨_, _, hG _ (pre17 _ (retOut X14 hx Bd.returns rfl (Or.inr (Or.inr (Or.inr (Or.inr ⟨rfl, rfl, rfl⟩)))) (hb hby d11_59) hr)), hrun, hended, _, _, rfl, ?_, ⟨_, rfl⟩, hW, hsame.mono (by decide) (by decide)⟩
  show Qgrow17 Z o0_ o1_ ko1_ h0 n0 _ T14.heap _
  rw [e14]
  exact ⟨k8, b8, rfl, N15, f20, sz10, f21, f23, f16, f25, f26, f28⟩
theorem pd_6 : parseMethodDescriptor "(I)[Ljava/lang/Object;" = some ⟨[.int], some (.array (.object "java/lang/Object"))⟩ := by decide +kernel
theorem d10_10 : decode jdk_38_method_7_code 10 = .ok (.areturn, 1) := by decide +kernel
theorem efgrow15 (m : MethodId) (o0_ : Addr) : entryFrame m #[(.ref o0_)] 1 = mkF m 0 #[lvR o0_] [] := by first | (simp [entryFrame, mkF, argsToLocals, Value.category]; done) | rfl
def Qgrow15 (Z : State) (o0_ : Addr) (o1_ : Addr) (ko1_ : ClassId) (h0 : Heap) (n0 : Nat) (v : Option Value) (h : Heap) (L : List Loc) : Prop := ∃ k8_2 : ClassId, ∃ nnb8_2 : Addr, v = some (.ref nnb8_2) ∧ Fr n0 L ∧ Keep h0 h [o0_] ∧ h0.size ≤ nnb8_2 ∧ Exa Z h o0_ "java/util/ArrayList" ∧ Fld Z h o0_ "java/util/AbstractList" "modCount" "I" (.int (1 : Int32)) ∧ Fld Z h o0_ "java/util/ArrayList" "elementData" "[Ljava/lang/Object;" (.ref nnb8_2) ∧ Fld Z h o0_ "java/util/ArrayList" "size" "I" (.int (0 : Int32)) ∧ Arv Z h nnb8_2 k8_2 (.object "java/lang/Object") (10 : Int32) [.null, .null, .null, .null, .null, .null, .null, .null, .null, .null] .null ∧ Exa Z h nnb8_2 "[Ljava/lang/Object;"
set_option maxRecDepth 65536 in
set_option maxHeartbeats 40000000 in
theorem rmgrow15 (l : Launch) (Z : State) (a0 : Array Value) (hw : ∀ d ∈ tables_1, d.before a0 Z = true) (ws : List Jvm.Cond) (o0_ : Addr) (o1_ : Addr) (ko1_ : ClassId) (h0 : Heap) (n0 : Nat) (O0 : Old Z n0 h0) (P0 : Exa Z h0 o0_ "java/util/ArrayList") (P1 : Fld Z h0 o0_ "java/util/AbstractList" "modCount" "I" (.int (1 : Int32))) (P2 : Fld Z h0 o0_ "java/util/ArrayList" "elementData" "[Ljava/lang/Object;" (.ref o1_)) (P3 : Fld Z h0 o0_ "java/util/ArrayList" "size" "I" (.int (0 : Int32))) (P4 : Exa Z Z.heap o1_ "[Ljava/lang/Object;") (P5 : Arv Z Z.heap o1_ ko1_ (.object "java/lang/Object") (0 : Int32) [] .null) (P6 : Sta Z Z.heap "java/util/ArrayList" "DEFAULTCAPACITY_EMPTY_ELEMENTDATA" "[Ljava/lang/Object;" (.ref o1_)) (P7 : n0 ≤ o0_) :
    MetFree l (⟨"java/util/ArrayList", "grow", "()[Ljava/lang/Object;"⟩ : MethodName) (head1 (Jvm.Cond.code (⟨"java/util/ArrayList", "grow", "()[Ljava/lang/Object;"⟩ : MethodName) jdk_38_method_7_code 1 (some (.array (.object "java/lang/Object"))) :: ws) ({ frames := 2, cells := 1, slots := 10, locals := 29 } : Room)) (fun a U => a = #[(.ref o0_)] ∧ Z.Warmed39 U.vm ∧ U.heap = h0) (fun _ _ _ _ _ => True) (fun _ U o U' => ∃ v L, o = .returned v ∧ Qgrow15 Z o0_ o1_ ko1_ h0 n0 v U'.heap L ∧ FrameEnd U o U' L ({ frames := 2, cells := 1, slots := 10, locals := 29 } : Room).cells ({ frames := 2, cells := 1, slots := 10, locals := 29 } : Room).slots) := by
  refine MetFree.of_bodySF (plainFor_of_name pn_4) hisR ?_
  intro p e s m args below meth c s₁ Bd hml0 hP hK
  obtain ⟨rfl, hZ, hh⟩ := hP
  have hx := Bd.exec
  have hby := Bd.bytes
  have hml : c.maxLocals = 1 := hml0
  have hown : s.vm.findClass "java/util/ArrayList" = some m.cls := findClass_of_methodNamed Bd.named
  have hnm := (name_of_methodNamed Bd.named Bd.method).1
  have X0 : Stand p l e ({ frames := 2, cells := 1, slots := 10, locals := 29 } : Room) s m #[(.ref o0_)] below meth c s₁ [] 0 0 := Stand.of_body Bd
  have e0 : s₁.heap = h0 := by rw [← hh, Bd.state]; rfl
  have N0 := Fr.nil n0
  obtain ⟨G, pre0, hG⟩ : ∃ G : State → Prop, (∀ t, own_S p e below m s₁ 0 #[lvR o0_] [] t → G t) ∧ (∀ t, G t → Steps p.tables e below (s₁.setTop (entryFrame m #[(.ref o0_)] 1)) t) := ⟨fun t => Steps p.tables e below (s₁.setTop (entryFrame m #[(.ref o0_)] 1)) t, fun t k => castTop (efgrow15 m o0_) k, fun _ k => k⟩
  have K0 : Keep h0 h0 [o0_] := Keep.refl _ _
  obtain ⟨T1, X1, e1, st1⟩ := getF X0 hx hZ hown (host := "") (Or.inl (own_w hw 61 rfl)) Via.refl e0 P3 (g := (mkF m 2 #[lvR o0_] [(.ref o0_), (.ref o0_)])) rfl rfl (hb hby d10_2)
  obtain ⟨cq2, q2, q2'⟩ := P0.cell
  obtain ⟨_, _, ⟨T2, L2, k2, n2⟩, -, X2, ⟨Lc2, hQ2, l2, y2, z2⟩, st2⟩ := X1.privateBack hx (y := (⟨"java/util/ArrayList", "grow", "(I)[Ljava/lang/Object;"⟩ : MethodName)) hown (mvT hZ (own_w hw 73 rfl)) (mvT hZ (own_w hw 74 rfl)) (mvT hZ (own_w hw 76 rfl)) (Cond.privateMethod_at (mvP hZ (own_w hw 75 rfl) (args := #[]))) (mvT hZ (own_w hw 77 rfl)) (by decide) (backOf (W := 0) (rmgrow17 l Z a0 hw [] o0_ o1_ ko1_ h0 n0 O0 P0 P1 P2 P3 P4 P5 P6 P7) hZ (own_w hw 77 rfl) (own_w hw 32 rfl) (by decide) (by decide)) (g := (mkF m 7 #[lvR o0_] [(.int (1 : Int32)), (.ref o0_)])) rfl (by rw [hml]; rfl) (Steps.refl _) (a := o0_) (by rw [e1]; exact q2) q2' (argsL := [(.int (1 : Int32))]) (rest := []) (lenOf pd_6 rfl) rfl (by show 2 * 0 + _ ≤ _; exact Nat.le_of_eq rfl) (hb hby d10_7) (fun _ _ => ⟨rfl, e1, (by decide : 0 + 1 ≤ _), (by decide : 0 + 10 ≤ _)⟩)
  dsimp only [Pt.U, Pt.locs, Pt.cells, Pt.slots] at X2 l2 y2 z2 st2 hQ2
  subst l2 y2 z2
  obtain ⟨h2, e2⟩ : ∃ z, T2.heap = z := ⟨_, rfl⟩
  rw [e2] at hQ2
  obtain ⟨k8_2, nb8_2, rfl, N2q, K2, sznb8_2, g2_0, g2_1, g2_2, g2_3, g2_4, g2_5⟩ := hQ2
  have N3 := Fr.app N0 N2q
  have ge4 : n0 ≤ nb8_2 := Nat.le_trans (Nat.le_trans (Nat.le_of_eq O0.1.symm) O0.2.1) sznb8_2
  have sz5 : h0.size ≤ nb8_2 := Nat.le_trans K0.1 sznb8_2
  have pre6 : ∀ t, own_S p e below m T2 10 #[lvR o0_] [(.ref nb8_2)] t → G t := by
    intro t kt
    refine pre0 t ?_
    show own_S p e below m s₁ 0 #[lvR o0_] [] _
    refine XS.aloadN X0.here hx rfl (hb hby d10_0) rfl rfl ?_
    refine XS.aloadN X0.here hx rfl (hb hby d10_1) rfl rfl ?_
    show own_S p e below m s₁ 2 #[lvR o0_] [(.ref o0_), (.ref o0_)] _
    refine st1 _ ?_
    refine XS.iconst X1.here hx rfl (hb hby d10_5) ?_
    refine XS.iadd X1.here hx rfl (hb hby d10_6) rfl ?_
    show own_S p e below m T1 7 #[lvR o0_] [(.int (1 : Int32)), (.ref o0_)] _
    refine st2.trans ?_
    exact kt
  have f8 : Keep h0 h2 [o0_] := K0.trans K2 (allS (Or.inl (List.mem_of_getElem? (i := 0) rfl)) all0)
  obtain ⟨fs, hr, hrun, hended, hW, hsame⟩ := X2.leave (v := some (.ref nb8_2)) (fun h => by rw [Bd.returns] at h; cases h)
  refine ⟨_, _, hG _ (pre6 _ (retOut X2 hx Bd.returns rfl (Or.inr (Or.inr (Or.inr (Or.inr ⟨rfl, rfl, rfl⟩)))) (hb hby d10_10) hr)), hrun, hended, _, _, rfl, ?_, ⟨_, rfl⟩, hW, hsame.mono (by decide) (by decide)⟩
  show Qgrow15 Z o0_ o1_ ko1_ h0 n0 _ T2.heap _
  rw [e2]
  exact ⟨k8_2, nb8_2, rfl, N3, f8, sz5, g2_0, g2_1, g2_2, g2_3, g2_4, g2_5⟩
theorem pd_7 : parseMethodDescriptor "()[Ljava/lang/Object;" = some ⟨[], some (.array (.object "java/lang/Object"))⟩ := by decide +kernel
theorem d9_10 : decode jdk_38_method_24_code 10 = .ok (.astore_n 2, 1) := by decide +kernel
theorem d9_11 : decode jdk_38_method_24_code 11 = .ok (.aload_n 2, 1) := by decide +kernel
theorem d9_12 : decode jdk_38_method_24_code 12 = .ok (.iload_n 3, 1) := by decide +kernel
theorem d9_13 : decode jdk_38_method_24_code 13 = .ok (.aload_n 1, 1) := by decide +kernel
theorem d9_14 : decode jdk_38_method_24_code 14 = .ok (.aastore, 1) := by decide +kernel
theorem d9_15 : decode jdk_38_method_24_code 15 = .ok (.aload_n 0, 1) := by decide +kernel
theorem d9_16 : decode jdk_38_method_24_code 16 = .ok (.iload_n 3, 1) := by decide +kernel
theorem d9_17 : decode jdk_38_method_24_code 17 = .ok (.iconst 1, 1) := by decide +kernel
theorem d9_18 : decode jdk_38_method_24_code 18 = .ok (.iadd, 1) := by decide +kernel
theorem d9_19 : decode jdk_38_method_24_code 19 = .ok (.putfield 48, 3) := by decide +kernel
theorem d9_22 : decode jdk_38_method_24_code 22 = .ok (.return_, 1) := by decide +kernel
theorem efadd12 (m : MethodId) (o0_ : Addr) (o1_ : Addr) (o2_ : Addr) : entryFrame m #[(.ref o0_), (.ref o1_), (.ref o2_), (.int (0 : Int32))] 4 = mkF m 0 #[lvR o0_, lvR o1_, lvR o2_, lvI (0 : Int32)] [] := by first | (simp [entryFrame, mkF, argsToLocals, Value.category]; done) | rfl
def Qadd12 (Z : State) (o0_ : Addr) (o1_ : Addr) (o2_ : Addr) (o3_ : Addr) (ko2_ : ClassId) (ko3_ : ClassId) (x0_ : Int32) (h0 : Heap) (n0 : Nat) (v : Option Value) (h : Heap) (L : List Loc) : Prop := ∃ k8_2_3 : ClassId, ∃ nnnb8_2_3 : Addr, v = none ∧ Fr n0 L ∧ Keep h0 h [o0_] ∧ h0.size ≤ nnnb8_2_3 ∧ Exa Z h o0_ "java/util/ArrayList" ∧ Fld Z h o0_ "java/util/AbstractList" "modCount" "I" (.int (1 : Int32)) ∧ Fld Z h o0_ "java/util/ArrayList" "elementData" "[Ljava/lang/Object;" (.ref nnnb8_2_3) ∧ Fld Z h o0_ "java/util/ArrayList" "size" "I" (.int (1 : Int32)) ∧ Arv Z h nnnb8_2_3 k8_2_3 (.object "java/lang/Object") (10 : Int32) [(.ref o1_), .null, .null, .null, .null, .null, .null, .null, .null, .null] .null ∧ Exa Z h nnnb8_2_3 "[Ljava/lang/Object;"
abbrev mn0 : MethodName := ⟨"java/util/ArrayList", "add", "(Ljava/lang/Object;[Ljava/lang/Object;I)V"⟩
set_option maxRecDepth 65536 in
set_option maxHeartbeats 40000000 in
theorem rmadd12 (l : Launch) (Z : State) (a0 : Array Value) (hw : ∀ d ∈ tables_1, d.before a0 Z = true) (ws : List Jvm.Cond) (o0_ : Addr) (o1_ : Addr) (o2_ : Addr) (o3_ : Addr) (ko2_ : ClassId) (ko3_ : ClassId) (x0_ : Int32) (h0 : Heap) (n0 : Nat) (O0 : Old Z n0 h0) (P0 : Exa Z h0 o0_ "java/util/ArrayList") (P1 : Fld Z h0 o0_ "java/util/AbstractList" "modCount" "I" (.int (1 : Int32))) (P2 : Fld Z h0 o0_ "java/util/ArrayList" "elementData" "[Ljava/lang/Object;" (.ref o2_)) (P3 : Fld Z h0 o0_ "java/util/ArrayList" "size" "I" (.int (0 : Int32))) (P4 : Exa Z h0 o1_ "java/lang/String") (P5 : Fld Z h0 o1_ "java/lang/String" "value" "[B" (.ref o3_)) (P6 : Fld Z h0 o1_ "java/lang/String" "coder" "B" (.int (0 : Int32))) (P7 : Exa Z Z.heap o2_ "[Ljava/lang/Object;") (P8 : Arv Z Z.heap o2_ ko2_ (.object "java/lang/Object") (0 : Int32) [] .null) (P9 : Arv Z h0 o3_ ko3_ .byte (1 : Int32) [(.int x0_)] (.int (0 : Int32))) (P10 : Exa Z h0 o3_ "[B") (P11 : Sta Z Z.heap "java/util/ArrayList" "DEFAULTCAPACITY_EMPTY_ELEMENTDATA" "[Ljava/lang/Object;" (.ref o2_)) (P12 : n0 ≤ o0_) :
    MetFree l mn0 (head1 (Jvm.Cond.code mn0 jdk_38_method_24_code 4 none :: ws) ({ frames := 3, cells := 1, slots := 10, locals := 41 } : Room)) (fun a U => a = #[(.ref o0_), (.ref o1_), (.ref o2_), (.int (0 : Int32))] ∧ Z.Warmed39 U.vm ∧ U.heap = h0) (fun _ _ _ _ _ => True) (fun _ U o U' => ∃ v L, o = .returned v ∧ Qadd12 Z o0_ o1_ o2_ o3_ ko2_ ko3_ x0_ h0 n0 v U'.heap L ∧ FrameEnd U o U' L ({ frames := 3, cells := 1, slots := 10, locals := 41 } : Room).cells ({ frames := 3, cells := 1, slots := 10, locals := 41 } : Room).slots) := by
  refine MetFree.of_bodySF (plainFor_of_name pn_4) hisR ?_
  intro p e s m args below meth c s₁ Bd hml0 hP hK
  obtain ⟨rfl, hZ, hh⟩ := hP
  have hx := Bd.exec
  have hby := Bd.bytes
  have hml : c.maxLocals = 4 := hml0
  have hown : s.vm.findClass "java/util/ArrayList" = some m.cls := findClass_of_methodNamed Bd.named
  have hnm := (name_of_methodNamed Bd.named Bd.method).1
  have X0 : Stand p l e ({ frames := 3, cells := 1, slots := 10, locals := 41 } : Room) s m #[(.ref o0_), (.ref o1_), (.ref o2_), (.int (0 : Int32))] below meth c s₁ [] 0 0 := Stand.of_body Bd
  have e0 : s₁.heap = h0 := by rw [← hh, Bd.state]; rfl
  have N0 := Fr.nil n0
  obtain ⟨G, pre0, hG⟩ : ∃ G : State → Prop, (∀ t, own_S p e below m s₁ 0 #[lvR o0_, lvR o1_, lvR o2_, lvI (0 : Int32)] [] t → G t) ∧ (∀ t, G t → Steps p.tables e below (s₁.setTop (entryFrame m #[(.ref o0_), (.ref o1_), (.ref o2_), (.int (0 : Int32))] 4)) t) := ⟨fun t => Steps p.tables e below (s₁.setTop (entryFrame m #[(.ref o0_), (.ref o1_), (.ref o2_), (.int (0 : Int32))] 4)) t, fun t k => castTop (efadd12 m o0_ o1_ o2_) k, fun _ k => k⟩
  have K0 : Keep h0 h0 [o0_] := Keep.refl _ _
  have f2 : Arv Z h0 o2_ ko2_ (.object "java/lang/Object") (0 : Int32) [] .null := P8.ext O0.2
  obtain ⟨c1, r1, q1, s1, z1, y1, G1⟩ := id f2
  obtain ⟨cq3, q3, q3'⟩ := P0.cell
  obtain ⟨_, _, ⟨T3, L3, k3, n3⟩, -, X3, ⟨Lc3, hQ3, l3, y3, z3⟩, st3⟩ := X0.privateBack hx (y := (⟨"java/util/ArrayList", "grow", "()[Ljava/lang/Object;"⟩ : MethodName)) hown (mvT hZ (own_w hw 68 rfl)) (mvT hZ (own_w hw 69 rfl)) (mvT hZ (own_w hw 71 rfl)) (Cond.privateMethod_at (mvP hZ (own_w hw 70 rfl) (args := #[]))) (mvT hZ (own_w hw 72 rfl)) (by decide) (backOf (W := 0) (rmgrow15 l Z a0 hw [] o0_ o2_ ko2_ h0 n0 O0 P0 P1 P2 P3 P7 P8 P11 P12) hZ (own_w hw 72 rfl) (own_w hw 32 rfl) (by decide) (by decide)) (g := (mkF m 7 #[lvR o0_, lvR o1_, lvR o2_, lvI (0 : Int32)] [(.ref o0_)])) rfl (by rw [hml]; rfl) (Steps.refl _) (a := o0_) (by rw [e0]; exact q3) q3' (argsL := []) (rest := []) (lenOf pd_7 rfl) rfl (by show 2 * 0 + _ ≤ _; exact Nat.le_of_eq rfl) (hb hby d9_7) (fun _ _ => ⟨rfl, e0, (by decide : 0 + 1 ≤ _), (by decide : 0 + 10 ≤ _)⟩)
  dsimp only [Pt.U, Pt.locs, Pt.cells, Pt.slots] at X3 l3 y3 z3 st3 hQ3
  subst l3 y3 z3
  obtain ⟨h3, e3⟩ : ∃ z, T3.heap = z := ⟨_, rfl⟩
  rw [e3] at hQ3
  obtain ⟨k8_2_3, nnb8_2_3, rfl, N3q, K3, sznnb8_2_3, g3_0, g3_1, g3_2, g3_3, g3_4, g3_5⟩ := hQ3
  have N4 := Fr.app N0 N3q
  have ge5 : n0 ≤ nnb8_2_3 := Nat.le_trans (Nat.le_trans (Nat.le_of_eq O0.1.symm) O0.2.1) sznnb8_2_3
  have sz6 : h0.size ≤ nnb8_2_3 := Nat.le_trans K0.1 sznnb8_2_3
  obtain ⟨c7, r7, q7, s7, z7, y7, G7⟩ := id g3_4
  have hin7 : ¬ ((0 : Int32) < 0 ∨ c7.slots.size ≤ ((0 : Int32)).toNatClampNeg) := inb_of s7 ⟨by decide, by decide⟩
  have f8 : Exa Z h3 o1_ "java/lang/String" := P4.keep K3
  obtain ⟨T7, h7, X7, e7, W7, st7⟩ := stR X3 hx hZ e3 r7 (j := (0 : Int32)) hin7 rfl (Sto.of r7 (own_ovr (own_w hw 83 rfl) g3_5 r7.1 (by decide)) (Ins.of_exa f8 (own_w hw 84 rfl))) (g := (mkF m 14 #[lvR o0_, lvR o1_, lvR nnb8_2_3, lvI (0 : Int32)] [(.ref o1_), (.int (0 : Int32)), (.ref nnb8_2_3)])) rfl rfl (hb hby d9_14)
  have N9 := Fr.snoc X7 N4 ge5
  have f10 : Arv Z h7 nnb8_2_3 k8_2_3 (.object "java/lang/Object") (10 : Int32) [(.ref o1_), .null, .null, .null, .null, .null, .null, .null, .null, .null] .null := Arv.set r7 q7 s7 z7 y7 G7 rfl W7 0 rfl (Nat.le_of_ble_eq_true rfl)
  have ne12 : o0_ ≠ nnb8_2_3 := Nat.ne_of_lt (Nat.lt_of_lt_of_le P0.lt sznnb8_2_3)
  have f11 : Fld Z h7 o0_ "java/util/ArrayList" "size" "I" (.int (0 : Int32)) := g3_3.other W7 (Or.inl ne12)
  have f13 : Exa Z h7 o0_ "java/util/ArrayList" := g3_0.wr W7
  obtain ⟨T14, h14, X14, e14, W14, st14⟩ := putF X7 hx hZ hown (host := "") (Or.inl (own_w hw 61 rfl)) Via.refl e7 f11 f13 (Or.inl (own_w hw 62 rfl)) (own_w hw 31 rfl) (ty := .int) (by decide) rfl rfl (g := (mkF m 19 #[lvR o0_, lvR o1_, lvR nnb8_2_3, lvI (0 : Int32)] [(.int (1 : Int32)), (.ref o0_)])) rfl rfl (hb hby d9_19)
  have N15 := Fr.snoc X14 N9 P12
  have f16 : Fld Z h14 o0_ "java/util/ArrayList" "size" "I" (.int (1 : Int32)) := f11.same W14
  have pre17 : ∀ t, own_S p e below m T14 22 #[lvR o0_, lvR o1_, lvR nnb8_2_3, lvI (0 : Int32)] [] t → G t := by
    intro t kt
    refine pre0 t ?_
    show own_S p e below m s₁ 0 #[lvR o0_, lvR o1_, lvR o2_, lvI (0 : Int32)] [] _
    refine XS.iloadN X0.here hx rfl (hb hby d9_0) rfl ?_
    refine XS.aloadN X0.here hx rfl (hb hby d9_1) rfl rfl ?_
    show own_S p e below m s₁ 2 #[lvR o0_, lvR o1_, lvR o2_, lvI (0 : Int32)] [(.ref o2_), (.int (0 : Int32))] _
    refine X0.arraylength hx (by rw [e0]; exact r1.1) (State.isArrayOf_alike hZ.alike r1.2.1) (g := (mkF m 2 #[lvR o0_, lvR o1_, lvR o2_, lvI (0 : Int32)] [(.ref o2_), (.int (0 : Int32))])) rfl rfl (hb hby d9_2) _ ?_
    rw [len_of s1 z1]
    show own_S p e below m s₁ 3 #[lvR o0_, lvR o1_, lvR o2_, lvI (0 : Int32)] [(.int (0 : Int32)), (.int (0 : Int32))] _
    refine XS.icmpNo X0.here hx rfl (hb hby d9_3) rfl (teq (by decide : (0 : Int32) = (0 : Int32))).2 ?_
    refine XS.aloadN X0.here hx rfl (hb hby d9_6) rfl rfl ?_
    show own_S p e below m s₁ 7 #[lvR o0_, lvR o1_, lvR o2_, lvI (0 : Int32)] [(.ref o0_)] _
    refine st3.trans ?_
    refine XS.astoreN X3.here hx rfl (hb hby d9_10) rfl rfl (l' := #[lvR o0_, lvR o1_, lvR nnb8_2_3, lvI (0 : Int32)]) rfl ?_
    refine XS.aloadN X3.here hx rfl (hb hby d9_11) rfl rfl ?_
    refine XS.iloadN X3.here hx rfl (hb hby d9_12) rfl ?_
    refine XS.aloadN X3.here hx rfl (hb hby d9_13) rfl rfl ?_
    show own_S p e below m T3 14 #[lvR o0_, lvR o1_, lvR nnb8_2_3, lvI (0 : Int32)] [(.ref o1_), (.int (0 : Int32)), (.ref nnb8_2_3)] _
    refine st7 _ ?_
    refine XS.aloadN X7.here hx rfl (hb hby d9_15) rfl rfl ?_
    refine XS.iloadN X7.here hx rfl (hb hby d9_16) rfl ?_
    refine XS.iconst X7.here hx rfl (hb hby d9_17) ?_
    refine XS.iadd X7.here hx rfl (hb hby d9_18) rfl ?_
    show own_S p e below m T7 19 #[lvR o0_, lvR o1_, lvR nnb8_2_3, lvI (0 : Int32)] [(.int (1 : Int32)), (.ref o0_)] _
    refine st14 _ ?_
    exact kt
  have f19 : Keep h0 h3 [o0_] := K0.trans K3 (allS (Or.inl (List.mem_of_getElem? (i := 0) rfl)) all0)
  have f20 : Keep h0 h7 [o0_] := f19.wr W7 (Or.inr sz6)
  have f21 : Keep h0 h14 [o0_] := f20.wr W14 (Or.inl (List.mem_of_getElem? (i := 0) rfl))
  have f22 : Exa Z h14 o0_ "java/util/ArrayList" := f13.wr W14
  have f23 : Fld Z h7 o0_ "java/util/AbstractList" "modCount" "I" (.int (1 : Int32)) := g3_1.other W7 (Or.inl ne12)
  have f24 : Fld Z h14 o0_ "java/util/AbstractList" "modCount" "I" (.int (1 : Int32)) := f23.other W14 (Or.inr (slot_ne (Or.inl (own_w hw 50 rfl)) (Or.inl (own_w hw 62 rfl)) (by decide) (t := .int) (t' := .int) (by decide) (by decide)))
  have f25 : Fld Z h7 o0_ "java/util/ArrayList" "elementData" "[Ljava/lang/Object;" (.ref nnb8_2_3) := g3_2.other W7 (Or.inl ne12)
  have f26 : Fld Z h14 o0_ "java/util/ArrayList" "elementData" "[Ljava/lang/Object;" (.ref nnb8_2_3) := f25.other W14 (Or.inr (slot_ne (Or.inl (own_w hw 53 rfl)) (Or.inl (own_w hw 62 rfl)) (by decide) (t := (.array (.object "java/lang/Object"))) (t' := .int) (by decide) (by decide)))
  have f27 : Arv Z h14 nnb8_2_3 k8_2_3 (.object "java/lang/Object") (10 : Int32) [(.ref o1_), .null, .null, .null, .null, .null, .null, .null, .null, .null] .null := f10.other W14 (Ne.symm ne12)
  have f28 : Exa Z h7 nnb8_2_3 "[Ljava/lang/Object;" := g3_5.wr W7
  have f29 : Exa Z h14 nnb8_2_3 "[Ljava/lang/Object;" := f28.wr W14
  obtain ⟨fs, hr, hrun, hended, hW, hsame⟩ := X14.leave (v := none) (fun _ => rfl)
  refine ⟨_, _, hG _ (pre17 _ (X14.returnOut hx Bd.returns (hb hby d9_22) hr)), hrun, hended, _, _, rfl, ?_, ⟨_, rfl⟩, hW, hsame.mono (by decide) (by decide)⟩
  show Qadd12 Z o0_ o1_ o2_ o3_ ko2_ ko3_ x0_ h0 n0 _ T14.heap _
  rw [e14]
  exact ⟨k8_2_3, nnb8_2_3, rfl, N15, f21, sz6, f22, f24, f26, f16, f27, f29⟩
theorem pd_8 : parseMethodDescriptor "(Ljava/lang/Object;[Ljava/lang/Object;I)V" = some ⟨[(.object "java/lang/Object"), (.array (.object "java/lang/Object")), .int], none⟩ := by decide +kernel
theorem d8_23 : decode jdk_38_method_25_code 23 = .ok (.iconst 1, 1) := by decide +kernel
theorem d8_24 : decode jdk_38_method_25_code 24 = .ok (.ireturn, 1) := by decide +kernel
theorem efadd8 (m : MethodId) (o0_ : Addr) (o1_ : Addr) : entryFrame m #[(.ref o0_), (.ref o1_)] 2 = mkF m 0 #[lvR o0_, lvR o1_] [] := by first | (simp [entryFrame, mkF, argsToLocals, Value.category]; done) | rfl
def Qadd8 (Z : State) (o0_ : Addr) (o1_ : Addr) (o2_ : Addr) (o3_ : Addr) (ko2_ : ClassId) (ko3_ : ClassId) (x0_ : Int32) (h0 : Heap) (n0 : Nat) (v : Option Value) (h : Heap) (L : List Loc) : Prop := ∃ k8_2_3_9 : ClassId, ∃ nnnnb8_2_3_9 : Addr, v = some (.int (1 : Int32)) ∧ Fr n0 L ∧ Keep h0 h [o0_] ∧ h0.size ≤ nnnnb8_2_3_9 ∧ Exa Z h o0_ "java/util/ArrayList" ∧ Fld Z h o0_ "java/util/AbstractList" "modCount" "I" (.int (1 : Int32)) ∧ Fld Z h o0_ "java/util/ArrayList" "elementData" "[Ljava/lang/Object;" (.ref nnnnb8_2_3_9) ∧ Fld Z h o0_ "java/util/ArrayList" "size" "I" (.int (1 : Int32)) ∧ Arv Z h nnnnb8_2_3_9 k8_2_3_9 (.object "java/lang/Object") (10 : Int32) [(.ref o1_), .null, .null, .null, .null, .null, .null, .null, .null, .null] .null ∧ Exa Z h nnnnb8_2_3_9 "[Ljava/lang/Object;"
set_option maxRecDepth 65536 in
set_option maxHeartbeats 40000000 in
theorem rmadd8 (l : Launch) (Z : State) (a0 : Array Value) (hw : ∀ d ∈ tables_1, d.before a0 Z = true) (ws : List Jvm.Cond) (o0_ : Addr) (o1_ : Addr) (o2_ : Addr) (o3_ : Addr) (ko2_ : ClassId) (ko3_ : ClassId) (x0_ : Int32) (h0 : Heap) (n0 : Nat) (O0 : Old Z n0 h0) (P0 : Exa Z h0 o0_ "java/util/ArrayList") (P1 : Fld Z h0 o0_ "java/util/AbstractList" "modCount" "I" (.int (0 : Int32))) (P2 : Fld Z h0 o0_ "java/util/ArrayList" "elementData" "[Ljava/lang/Object;" (.ref o2_)) (P3 : Fld Z h0 o0_ "java/util/ArrayList" "size" "I" (.int (0 : Int32))) (P4 : Exa Z h0 o1_ "java/lang/String") (P5 : Fld Z h0 o1_ "java/lang/String" "value" "[B" (.ref o3_)) (P6 : Fld Z h0 o1_ "java/lang/String" "coder" "B" (.int (0 : Int32))) (P7 : Exa Z Z.heap o2_ "[Ljava/lang/Object;") (P8 : Arv Z Z.heap o2_ ko2_ (.object "java/lang/Object") (0 : Int32) [] .null) (P9 : Arv Z h0 o3_ ko3_ .byte (1 : Int32) [(.int x0_)] (.int (0 : Int32))) (P10 : Exa Z h0 o3_ "[B") (P11 : n0 ≤ o0_) (P12 : Sta Z Z.heap "java/util/ArrayList" "DEFAULTCAPACITY_EMPTY_ELEMENTDATA" "[Ljava/lang/Object;" (.ref o2_)) (P13 : o1_ ≠ o0_) (P14 : o3_ ≠ o0_) :
    MetFree l (⟨"java/util/ArrayList", "add", "(Ljava/lang/Object;)Z"⟩ : MethodName) (head1 (Jvm.Cond.code (⟨"java/util/ArrayList", "add", "(Ljava/lang/Object;)Z"⟩ : MethodName) jdk_38_method_25_code 2 (some .boolean) :: ws) ({ frames := 4, cells := 1, slots := 10, locals := 56 } : Room)) (fun a U => a = #[(.ref o0_), (.ref o1_)] ∧ Z.Warmed39 U.vm ∧ U.heap = h0) (fun _ _ _ _ _ => True) (fun _ U o U' => ∃ v L, o = .returned v ∧ Qadd8 Z o0_ o1_ o2_ o3_ ko2_ ko3_ x0_ h0 n0 v U'.heap L ∧ FrameEnd U o U' L ({ frames := 4, cells := 1, slots := 10, locals := 56 } : Room).cells ({ frames := 4, cells := 1, slots := 10, locals := 56 } : Room).slots) := by
  refine MetFree.of_bodySF (plainFor_of_name pn_4) hisR ?_
  intro p e s m args below meth c s₁ Bd hml0 hP hK
  obtain ⟨rfl, hZ, hh⟩ := hP
  have hx := Bd.exec
  have hby := Bd.bytes
  have hml : c.maxLocals = 2 := hml0
  have hown : s.vm.findClass "java/util/ArrayList" = some m.cls := findClass_of_methodNamed Bd.named
  have hnm := (name_of_methodNamed Bd.named Bd.method).1
  have X0 : Stand p l e ({ frames := 4, cells := 1, slots := 10, locals := 56 } : Room) s m #[(.ref o0_), (.ref o1_)] below meth c s₁ [] 0 0 := Stand.of_body Bd
  have e0 : s₁.heap = h0 := by rw [← hh, Bd.state]; rfl
  have N0 := Fr.nil n0
  obtain ⟨G, pre0, hG⟩ : ∃ G : State → Prop, (∀ t, own_S p e below m s₁ 0 #[lvR o0_, lvR o1_] [] t → G t) ∧ (∀ t, G t → Steps p.tables e below (s₁.setTop (entryFrame m #[(.ref o0_), (.ref o1_)] 2)) t) := ⟨fun t => Steps p.tables e below (s₁.setTop (entryFrame m #[(.ref o0_), (.ref o1_)] 2)) t, fun t k => castTop (efadd8 m o0_ o1_) k, fun _ k => k⟩
  have K0 : Keep h0 h0 [o0_] := Keep.refl _ _
  obtain ⟨T1, X1, e1, st1⟩ := getF X0 hx hZ hown (host := "") (Or.inl (own_w hw 59 rfl)) (Via.of (own_w hw 60 rfl)) e0 P1 (g := (mkF m 2 #[lvR o0_, lvR o1_] [(.ref o0_), (.ref o0_)])) rfl rfl (hb hby d8_2)
  obtain ⟨T2, h2, X2, e2, W2, st2⟩ := putF X1 hx hZ hown (host := "") (Or.inl (own_w hw 59 rfl)) (Via.of (own_w hw 60 rfl)) e1 P1 P0 (Or.inl (own_w hw 50 rfl)) (own_w hw 31 rfl) (ty := .int) (by decide) rfl rfl (g := (mkF m 7 #[lvR o0_, lvR o1_] [(.int (1 : Int32)), (.ref o0_)])) rfl rfl (hb hby d8_7)
  have N3 := Fr.snoc X2 N0 P11
  have f4 : Fld Z h2 o0_ "java/util/AbstractList" "modCount" "I" (.int (1 : Int32)) := P1.same W2
  have f5 : Fld Z h2 o0_ "java/util/ArrayList" "elementData" "[Ljava/lang/Object;" (.ref o2_) := P2.other W2 (Or.inr (slot_ne (Or.inl (own_w hw 53 rfl)) (Or.inl (own_w hw 50 rfl)) (by decide) (t := (.array (.object "java/lang/Object"))) (t' := .int) (by decide) (by decide)))
  obtain ⟨T6, X6, e6, st6⟩ := getF X2 hx hZ hown (host := "") (Or.inl (own_w hw 52 rfl)) Via.refl e2 f5 (g := (mkF m 13 #[lvR o0_, lvR o1_] [(.ref o0_), (.ref o1_), (.ref o0_)])) rfl rfl (hb hby d8_13)
  have f7 : Fld Z h2 o0_ "java/util/ArrayList" "size" "I" (.int (0 : Int32)) := P3.other W2 (Or.inr (slot_ne (Or.inl (own_w hw 62 rfl)) (Or.inl (own_w hw 50 rfl)) (by decide) (t := .int) (t' := .int) (by decide) (by decide)))
  obtain ⟨T8, X8, e8, st8⟩ := getF X6 hx hZ hown (host := "") (Or.inl (own_w hw 61 rfl)) Via.refl e6 f7 (g := (mkF m 17 #[lvR o0_, lvR o1_] [(.ref o0_), (.ref o2_), (.ref o1_), (.ref o0_)])) rfl rfl (hb hby d8_17)
  have f10 : Exa Z h2 o0_ "java/util/ArrayList" := P0.wr W2
  have f11 : Exa Z h2 o1_ "java/lang/String" := P4.wr W2
  have f12 : Fld Z h2 o1_ "java/lang/String" "value" "[B" (.ref o3_) := P5.other W2 (Or.inl P13)
  have f13 : Fld Z h2 o1_ "java/lang/String" "coder" "B" (.int (0 : Int32)) := P6.other W2 (Or.inl P13)
  have f14 : Arv Z h2 o3_ ko3_ .byte (1 : Int32) [(.int x0_)] (.int (0 : Int32)) := P9.other W2 P14
  have f15 : Exa Z h2 o3_ "[B" := P10.wr W2
  have f16 : Old Z n0 h2 := O0.wr W2 P11
  obtain ⟨cq9, q9, q9'⟩ := f10.cell
  obtain ⟨_, _, ⟨T9, L9, k9, n9⟩, -, X9, ⟨Lc9, hQ9, l9, y9, z9⟩, st9⟩ := X8.privateBack hx (y := mn0) hown (mvT hZ (own_w hw 63 rfl)) (mvT hZ (own_w hw 64 rfl)) (mvT hZ (own_w hw 66 rfl)) (Cond.privateMethod_at (mvP hZ (own_w hw 65 rfl) (args := #[]))) (mvT hZ (own_w hw 67 rfl)) (by decide) (backOf (W := 0) (rmadd12 l Z a0 hw [] o0_ o1_ o2_ o3_ ko2_ ko3_ x0_ h2 n0 f16 f10 f4 f5 f7 f11 f12 f13 P7 P8 f14 f15 P12 P11) hZ (own_w hw 67 rfl) (own_w hw 32 rfl) (by decide) (by decide)) (g := (mkF m 20 #[lvR o0_, lvR o1_] [(.int (0 : Int32)), (.ref o2_), (.ref o1_), (.ref o0_)])) rfl (by rw [hml]; rfl) (Steps.refl _) (a := o0_) (by rw [e8]; exact q9) q9' (argsL := [(.ref o1_), (.ref o2_), (.int (0 : Int32))]) (rest := []) (lenOf pd_8 rfl) rfl (by show 2 * 0 + _ ≤ _; exact Nat.le_of_eq rfl) (hb hby d8_20) (fun _ _ => ⟨rfl, e8, (by decide : 0 + 1 ≤ _), (by decide : 0 + 10 ≤ _)⟩)
  dsimp only [Pt.U, Pt.locs, Pt.cells, Pt.slots] at X9 l9 y9 z9 st9 hQ9
  subst l9 y9 z9
  obtain ⟨h9, e9⟩ : ∃ z, T9.heap = z := ⟨_, rfl⟩
  rw [e9] at hQ9
  obtain ⟨k8_2_3_9, nnnb8_2_3_9, rfl, N9q, K9, sznnnb8_2_3_9, g9_0, g9_1, g9_2, g9_3, g9_4, g9_5⟩ := hQ9
  have N17 := Fr.app N3 N9q
  have ge18 : n0 ≤ nnnb8_2_3_9 := Nat.le_trans (Nat.le_trans (Nat.le_of_eq f16.1.symm) f16.2.1) sznnnb8_2_3_9
  have f19 : Keep h0 h2 [o0_] := K0.wr W2 (Or.inl (List.mem_of_getElem? (i := 0) rfl))
  have sz20 : h0.size ≤ nnnb8_2_3_9 := Nat.le_trans f19.1 sznnnb8_2_3_9
  have pre21 : ∀ t, own_S p e below m T9 24 #[lvR o0_, lvR o1_] [(.int (1 : Int32))] t → G t := by
    intro t kt
    refine pre0 t ?_
    show own_S p e below m s₁ 0 #[lvR o0_, lvR o1_] [] _
    refine XS.aloadN X0.here hx rfl (hb hby d8_0) rfl rfl ?_
    refine XS.dup X0.here hx rfl (hb hby d8_1) rfl rfl ?_
    show own_S p e below m s₁ 2 #[lvR o0_, lvR o1_] [(.ref o0_), (.ref o0_)] _
    refine st1 _ ?_
    refine XS.iconst X1.here hx rfl (hb hby d8_5) ?_
    refine XS.iadd X1.here hx rfl (hb hby d8_6) rfl ?_
    show own_S p e below m T1 7 #[lvR o0_, lvR o1_] [(.int (1 : Int32)), (.ref o0_)] _
    refine st2 _ ?_
    refine XS.aloadN X2.here hx rfl (hb hby d8_10) rfl rfl ?_
    refine XS.aloadN X2.here hx rfl (hb hby d8_11) rfl rfl ?_
    refine XS.aloadN X2.here hx rfl (hb hby d8_12) rfl rfl ?_
    show own_S p e below m T2 13 #[lvR o0_, lvR o1_] [(.ref o0_), (.ref o1_), (.ref o0_)] _
    refine st6 _ ?_
    refine XS.aloadN X6.here hx rfl (hb hby d8_16) rfl rfl ?_
    show own_S p e below m T6 17 #[lvR o0_, lvR o1_] [(.ref o0_), (.ref o2_), (.ref o1_), (.ref o0_)] _
    refine st8 _ ?_
    show own_S p e below m T8 20 #[lvR o0_, lvR o1_] [(.int (0 : Int32)), (.ref o2_), (.ref o1_), (.ref o0_)] _
    refine st9.trans ?_
    refine XS.iconst X9.here hx rfl (hb hby d8_23) ?_
    exact kt
  have f23 : Keep h0 h9 [o0_] := f19.trans K9 (allS (Or.inl (List.mem_of_getElem? (i := 0) rfl)) all0)
  obtain ⟨fs, hr, hrun, hended, hW, hsame⟩ := X9.leave (v := some (.int (1 : Int32))) (fun h => by rw [Bd.returns] at h; cases h)
  refine ⟨_, _, hG _ (pre21 _ (retN X9 hx (t := .boolean) Bd.returns (by simp) (hb hby d8_24) hr)), hrun, hended, _, _, rfl, ?_, ⟨_, rfl⟩, hW, hsame.mono (by decide) (by decide)⟩
  show Qadd8 Z o0_ o1_ o2_ o3_ ko2_ ko3_ x0_ h0 n0 _ T9.heap _
  rw [e9]
  exact ⟨k8_2_3_9, nnnb8_2_3_9, rfl, N17, f23, sz20, g9_0, g9_1, g9_2, g9_3, g9_4, g9_5⟩
theorem pd_9 : parseMethodDescriptor "(Ljava/lang/Object;)Z" = some ⟨[(.object "java/lang/Object")], some .boolean⟩ := by decide +kernel
theorem d13_0 : decode prog_17_method_7_code 0 = .ok (.aload_n 0, 1) := by decide +kernel
theorem d13_1 : decode prog_17_method_7_code 1 = .ok (.getstatic 3, 3) := by decide +kernel
theorem d13_4 : decode prog_17_method_7_code 4 = .ok (.if_acmp .eq 7, 3) := by decide +kernel
theorem d13_11 : decode prog_17_method_7_code 11 = .ok (.iconst 0, 1) := by decide +kernel
theorem d13_12 : decode prog_17_method_7_code 12 = .ok (.ireturn, 1) := by decide +kernel
theorem pn_5 : plainName "com/example/inquiry_into_concepts/inquiryintoconcepts/index/Representation" = true := by first | (simp [plainName, overriddenIn]; done) | decide +kernel
theorem efholdsConcepts19 (m : MethodId) (o0_ : Addr) : entryFrame m #[(.ref o0_)] 1 = mkF m 0 #[lvR o0_] [] := by first | (simp [entryFrame, mkF, argsToLocals, Value.category]; done) | rfl
def QholdsConcepts19 (Z : State) (o0_ : Addr) (h0 : Heap) (n0 : Nat) (v : Option Value) (h : Heap) (L : List Loc) : Prop := v = some (.int (0 : Int32)) ∧ Fr n0 L ∧ h = h0
abbrev cn1 : String := "com/example/inquiry_into_concepts/inquiryintoconcepts/index/Representation"
abbrev mn2 : MethodName := ⟨"com/example/inquiry_into_concepts/inquiryintoconcepts/index/Representation", "holdsConcepts", "()Z"⟩
set_option maxRecDepth 65536 in
set_option maxHeartbeats 40000000 in
theorem rmholdsConcepts19 (l : Launch) (Z : State) (a0 : Array Value) (hw : ∀ d ∈ tables_1, d.before a0 Z = true) (ws : List Jvm.Cond) (o0_ : Addr) (h0 : Heap) (n0 : Nat) (O0 : Old Z n0 h0) (P0 : Exa Z Z.heap o0_ cn1) (P1 : Fld Z Z.heap o0_ "java/lang/Enum" "ordinal" "I" (.int (0 : Int32))) (P2 : Sta Z Z.heap "com/example/inquiry_into_concepts/inquiryintoconcepts/index/Representation" "WORDS" "Lcom/example/inquiry_into_concepts/inquiryintoconcepts/index/Representation;" (.ref o0_)) :
    MetFree l mn2 (head1 (Jvm.Cond.code mn2 prog_17_method_7_code 1 (some .boolean) :: ws) ({ frames := 0, cells := 0, slots := 0, locals := 0 } : Room)) (fun a U => a = #[(.ref o0_)] ∧ Z.Warmed39 U.vm ∧ U.heap = h0) (fun _ _ _ _ _ => True) (fun _ U o U' => ∃ v L, o = .returned v ∧ QholdsConcepts19 Z o0_ h0 n0 v U'.heap L ∧ FrameEnd U o U' L ({ frames := 0, cells := 0, slots := 0, locals := 0 } : Room).cells ({ frames := 0, cells := 0, slots := 0, locals := 0 } : Room).slots) := by
  refine MetFree.of_bodySF (plainFor_of_name pn_5) hisR ?_
  intro p e s m args below meth c s₁ Bd hml0 hP hK
  obtain ⟨rfl, hZ, hh⟩ := hP
  have hx := Bd.exec
  have hby := Bd.bytes
  have hml : c.maxLocals = 1 := hml0
  have hown : s.vm.findClass "com/example/inquiry_into_concepts/inquiryintoconcepts/index/Representation" = some m.cls := findClass_of_methodNamed Bd.named
  have hnm := (name_of_methodNamed Bd.named Bd.method).1
  have X0 : Stand p l e ({ frames := 0, cells := 0, slots := 0, locals := 0 } : Room) s m #[(.ref o0_)] below meth c s₁ [] 0 0 := Stand.of_body Bd
  have e0 : s₁.heap = h0 := by rw [← hh, Bd.state]; rfl
  have N0 := Fr.nil n0
  obtain ⟨G, pre0, hG⟩ : ∃ G : State → Prop, (∀ t, own_S p e below m s₁ 0 #[lvR o0_] [] t → G t) ∧ (∀ t, G t → Steps p.tables e below (s₁.setTop (entryFrame m #[(.ref o0_)] 1)) t) := ⟨fun t => Steps p.tables e below (s₁.setTop (entryFrame m #[(.ref o0_)] 1)) t, fun t k => castTop (efholdsConcepts19 m o0_) k, fun _ k => k⟩
  have K0 : Keep h0 h0 [] := Keep.refl _ _
  obtain ⟨T1, X1, e1, st1⟩ := getS2 X0 hx hZ hown (host := "") (Or.inl (own_w hw 90 rfl)) Via.refl e0 (P2.ext O0.2) (g := (mkF m 1 #[lvR o0_] [(.ref o0_)])) rfl (hb hby d13_1)
  have pre2 : ∀ t, own_S p e below m T1 12 #[lvR o0_] [(.int (0 : Int32))] t → G t := by
    intro t kt
    refine pre0 t ?_
    show own_S p e below m s₁ 0 #[lvR o0_] [] _
    refine XS.aloadN X0.here hx rfl (hb hby d13_0) rfl rfl ?_
    show own_S p e below m s₁ 1 #[lvR o0_] [(.ref o0_)] _
    refine st1 _ ?_
    show own_S p e below m T1 4 #[lvR o0_] [(.ref o0_), (.ref o0_)] _
    refine Jvm.RoadKit.acmp (g := (mkF m 4 #[lvR o0_] [(.ref o0_), (.ref o0_)])) X1 hx rfl rfl rfl (pc0 := 4) (pc' := 11) (same := true) rfl (hb hby d13_4) rfl (decide_eq_true rfl) (by decide) (by decide) ?_
    refine XS.iconst X1.here hx rfl (hb hby d13_11) ?_
    exact kt
  obtain ⟨fs, hr, hrun, hended, hW, hsame⟩ := X1.leave (v := some (.int (0 : Int32))) (fun h => by rw [Bd.returns] at h; cases h)
  refine ⟨_, _, hG _ (pre2 _ (retN X1 hx (t := .boolean) Bd.returns (by simp) (hb hby d13_12) hr)), hrun, hended, _, _, rfl, ?_, ⟨_, rfl⟩, hW, hsame.mono (by decide) (by decide)⟩
  show QholdsConcepts19 Z o0_ h0 n0 _ T1.heap _
  rw [e1]
  exact ⟨rfl, N0, rfl⟩
theorem pd_10 : parseMethodDescriptor "()Z" = some ⟨[], some .boolean⟩ := by decide +kernel
theorem d14_0 : decode prog_17_method_8_code 0 = .ok (.aload_n 0, 1) := by decide +kernel
theorem d14_1 : decode prog_17_method_8_code 1 = .ok (.invokevirtual 48, 3) := by decide +kernel
theorem d15_0 : decode jdk_37_method_2_code 0 = .ok (.aload_n 0, 1) := by decide +kernel
theorem d15_1 : decode jdk_37_method_2_code 1 = .ok (.getfield 7, 3) := by decide +kernel
theorem d15_4 : decode jdk_37_method_2_code 4 = .ok (.ireturn, 1) := by decide +kernel
theorem pn_6 : plainName "java/lang/Enum" = true := by first | (simp [plainName, overriddenIn]; done) | decide +kernel
theorem efordinal21 (m : MethodId) (o0_ : Addr) : entryFrame m #[(.ref o0_)] 1 = mkF m 0 #[lvR o0_] [] := by first | (simp [entryFrame, mkF, argsToLocals, Value.category]; done) | rfl
def Qordinal21 (Z : State) (o0_ : Addr) (h0 : Heap) (n0 : Nat) (v : Option Value) (h : Heap) (L : List Loc) : Prop := v = some (.int (0 : Int32)) ∧ Fr n0 L ∧ h = h0
set_option maxRecDepth 65536 in
set_option maxHeartbeats 40000000 in
theorem rmordinal21 (l : Launch) (Z : State) (a0 : Array Value) (hw : ∀ d ∈ tables_1, d.before a0 Z = true) (ws : List Jvm.Cond) (o0_ : Addr) (h0 : Heap) (n0 : Nat) (O0 : Old Z n0 h0) (P0 : Exa Z Z.heap o0_ cn1) (P1 : Fld Z Z.heap o0_ "java/lang/Enum" "ordinal" "I" (.int (0 : Int32))) :
    MetFree l (⟨"java/lang/Enum", "ordinal", "()I"⟩ : MethodName) (head1 (Jvm.Cond.code (⟨"java/lang/Enum", "ordinal", "()I"⟩ : MethodName) jdk_37_method_2_code 1 (some .int) :: ws) ({ frames := 0, cells := 0, slots := 0, locals := 0 } : Room)) (fun a U => a = #[(.ref o0_)] ∧ Z.Warmed39 U.vm ∧ U.heap = h0) (fun _ _ _ _ _ => True) (fun _ U o U' => ∃ v L, o = .returned v ∧ Qordinal21 Z o0_ h0 n0 v U'.heap L ∧ FrameEnd U o U' L ({ frames := 0, cells := 0, slots := 0, locals := 0 } : Room).cells ({ frames := 0, cells := 0, slots := 0, locals := 0 } : Room).slots) := by
  refine MetFree.of_bodySF (plainFor_of_name pn_6) hisR ?_
  intro p e s m args below meth c s₁ Bd hml0 hP hK
  obtain ⟨rfl, hZ, hh⟩ := hP
  have hx := Bd.exec
  have hby := Bd.bytes
  have hml : c.maxLocals = 1 := hml0
  have hown : s.vm.findClass "java/lang/Enum" = some m.cls := findClass_of_methodNamed Bd.named
  have hnm := (name_of_methodNamed Bd.named Bd.method).1
  have X0 : Stand p l e ({ frames := 0, cells := 0, slots := 0, locals := 0 } : Room) s m #[(.ref o0_)] below meth c s₁ [] 0 0 := Stand.of_body Bd
  have e0 : s₁.heap = h0 := by rw [← hh, Bd.state]; rfl
  have N0 := Fr.nil n0
  obtain ⟨G, pre0, hG⟩ : ∃ G : State → Prop, (∀ t, own_S p e below m s₁ 0 #[lvR o0_] [] t → G t) ∧ (∀ t, G t → Steps p.tables e below (s₁.setTop (entryFrame m #[(.ref o0_)] 1)) t) := ⟨fun t => Steps p.tables e below (s₁.setTop (entryFrame m #[(.ref o0_)] 1)) t, fun t k => castTop (efordinal21 m o0_) k, fun _ k => k⟩
  have K0 : Keep h0 h0 [] := Keep.refl _ _
  have f1 : Fld Z h0 o0_ "java/lang/Enum" "ordinal" "I" (.int (0 : Int32)) := P1.ext O0.2
  obtain ⟨T2, X2, e2, st2⟩ := getF X0 hx hZ hown (host := "") (Or.inl (own_w hw 103 rfl)) Via.refl e0 f1 (g := (mkF m 1 #[lvR o0_] [(.ref o0_)])) rfl rfl (hb hby d15_1)
  have pre3 : ∀ t, own_S p e below m T2 4 #[lvR o0_] [(.int (0 : Int32))] t → G t := by
    intro t kt
    refine pre0 t ?_
    show own_S p e below m s₁ 0 #[lvR o0_] [] _
    refine XS.aloadN X0.here hx rfl (hb hby d15_0) rfl rfl ?_
    show own_S p e below m s₁ 1 #[lvR o0_] [(.ref o0_)] _
    refine st2 _ ?_
    exact kt
  obtain ⟨fs, hr, hrun, hended, hW, hsame⟩ := X2.leave (v := some (.int (0 : Int32))) (fun h => by rw [Bd.returns] at h; cases h)
  refine ⟨_, _, hG _ (pre3 _ (retOut X2 hx Bd.returns rfl (Or.inl ⟨rfl, Or.inl rfl, _, rfl⟩) (hb hby d15_4) hr)), hrun, hended, _, _, rfl, ?_, ⟨_, rfl⟩, hW, hsame.mono (by decide) (by decide)⟩
  show Qordinal21 Z o0_ h0 n0 _ T2.heap _
  rw [e2]
  exact ⟨rfl, N0, rfl⟩
theorem pd_11 : parseMethodDescriptor "()I" = some ⟨[], some .int⟩ := by decide +kernel
abbrev mn3 : MethodName := ⟨"com/example/inquiry_into_concepts/inquiryintoconcepts/index/Representation", "ordinal", "()I"⟩
theorem d14_4 : decode prog_17_method_8_code 4 = .ok (.tableswitch 28 0 2 #[38, 42, 46], 28) := by decide +kernel
theorem d14_42 : decode prog_17_method_8_code 42 = .ok (.aload_n 1, 1) := by decide +kernel
theorem d14_43 : decode prog_17_method_8_code 43 = .ok (.goto 44, 3) := by decide +kernel
theorem d14_87 : decode prog_17_method_8_code 87 = .ok (.areturn, 1) := by decide +kernel
theorem efterms20 (m : MethodId) (o0_ : Addr) (o1_ : Addr) (o2_ : Addr) : entryFrame m #[(.ref o0_), (.ref o1_), (.ref o2_)] 4 = mkF m 0 #[lvR o0_, lvR o1_, lvR o2_, .unset] [] := by first | (simp [entryFrame, mkF, argsToLocals, Value.category]; done) | rfl
def Qterms20 (Z : State) (o0_ : Addr) (o1_ : Addr) (o2_ : Addr) (o3_ : Addr) (o4_ : Addr) (ko3_ : ClassId) (ko4_ : ClassId) (o5_ : Addr) (o6_ : Addr) (ko6_ : ClassId) (x0_ : Int32) (h0 : Heap) (n0 : Nat) (v : Option Value) (h : Heap) (L : List Loc) : Prop := v = some (.ref o1_) ∧ Fr n0 L ∧ h = h0
abbrev mn4 : MethodName := ⟨"com/example/inquiry_into_concepts/inquiryintoconcepts/index/Representation", "terms", "(Ljava/util/List;Ljava/util/List;)Ljava/util/List;"⟩
set_option maxRecDepth 65536 in
set_option maxHeartbeats 40000000 in
theorem rmterms20 (l : Launch) (Z : State) (a0 : Array Value) (hw : ∀ d ∈ tables_1, d.before a0 Z = true) (ws : List Jvm.Cond) (o0_ : Addr) (o1_ : Addr) (o2_ : Addr) (o3_ : Addr) (o4_ : Addr) (ko3_ : ClassId) (ko4_ : ClassId) (o5_ : Addr) (o6_ : Addr) (ko6_ : ClassId) (x0_ : Int32) (h0 : Heap) (n0 : Nat) (O0 : Old Z n0 h0) (P0 : Exa Z Z.heap o0_ cn1) (P1 : Fld Z Z.heap o0_ "java/lang/Enum" "ordinal" "I" (.int (0 : Int32))) (P2 : Exa Z h0 o1_ "java/util/ArrayList") (P3 : Fld Z h0 o1_ "java/util/AbstractList" "modCount" "I" (.int (0 : Int32))) (P4 : Fld Z h0 o1_ "java/util/ArrayList" "elementData" "[Ljava/lang/Object;" (.ref o3_)) (P5 : Fld Z h0 o1_ "java/util/ArrayList" "size" "I" (.int (0 : Int32))) (P6 : Exa Z h0 o2_ "java/util/ArrayList") (P7 : Fld Z h0 o2_ "java/util/AbstractList" "modCount" "I" (.int (1 : Int32))) (P8 : Fld Z h0 o2_ "java/util/ArrayList" "elementData" "[Ljava/lang/Object;" (.ref o4_)) (P9 : Fld Z h0 o2_ "java/util/ArrayList" "size" "I" (.int (1 : Int32))) (P10 : Exa Z Z.heap o3_ "[Ljava/lang/Object;") (P11 : Arv Z Z.heap o3_ ko3_ (.object "java/lang/Object") (0 : Int32) [] .null) (P12 : Arv Z h0 o4_ ko4_ (.object "java/lang/Object") (10 : Int32) [(.ref o5_), .null, .null, .null, .null, .null, .null, .null, .null, .null] .null) (P13 : Exa Z h0 o4_ "[Ljava/lang/Object;") (P14 : Exa Z h0 o5_ "java/lang/String") (P15 : Fld Z h0 o5_ "java/lang/String" "value" "[B" (.ref o6_)) (P16 : Fld Z h0 o5_ "java/lang/String" "coder" "B" (.int (0 : Int32))) (P17 : Arv Z h0 o6_ ko6_ .byte (1 : Int32) [(.int x0_)] (.int (0 : Int32))) (P18 : Exa Z h0 o6_ "[B") :
    MetFree l mn4 (head1 (Jvm.Cond.code mn4 prog_17_method_8_code 4 (some (.object "java/util/List")) :: ws) ({ frames := 1, cells := 0, slots := 0, locals := 12 } : Room)) (fun a U => a = #[(.ref o0_), (.ref o1_), (.ref o2_)] ∧ Z.Warmed39 U.vm ∧ U.heap = h0) (fun _ _ _ _ _ => True) (fun _ U o U' => ∃ v L, o = .returned v ∧ Qterms20 Z o0_ o1_ o2_ o3_ o4_ ko3_ ko4_ o5_ o6_ ko6_ x0_ h0 n0 v U'.heap L ∧ FrameEnd U o U' L ({ frames := 1, cells := 0, slots := 0, locals := 12 } : Room).cells ({ frames := 1, cells := 0, slots := 0, locals := 12 } : Room).slots) := by
  refine MetFree.of_bodySF (plainFor_of_name pn_5) hisR ?_
  intro p e s m args below meth c s₁ Bd hml0 hP hK
  obtain ⟨rfl, hZ, hh⟩ := hP
  have hx := Bd.exec
  have hby := Bd.bytes
  have hml : c.maxLocals = 4 := hml0
  have hown : s.vm.findClass "com/example/inquiry_into_concepts/inquiryintoconcepts/index/Representation" = some m.cls := findClass_of_methodNamed Bd.named
  have hnm := (name_of_methodNamed Bd.named Bd.method).1
  have X0 : Stand p l e ({ frames := 1, cells := 0, slots := 0, locals := 12 } : Room) s m #[(.ref o0_), (.ref o1_), (.ref o2_)] below meth c s₁ [] 0 0 := Stand.of_body Bd
  have e0 : s₁.heap = h0 := by rw [← hh, Bd.state]; rfl
  have N0 := Fr.nil n0
  obtain ⟨G, pre0, hG⟩ : ∃ G : State → Prop, (∀ t, own_S p e below m s₁ 0 #[lvR o0_, lvR o1_, lvR o2_, .unset] [] t → G t) ∧ (∀ t, G t → Steps p.tables e below (s₁.setTop (entryFrame m #[(.ref o0_), (.ref o1_), (.ref o2_)] 4)) t) := ⟨fun t => Steps p.tables e below (s₁.setTop (entryFrame m #[(.ref o0_), (.ref o1_), (.ref o2_)] 4)) t, fun t k => castTop (efterms20 m o0_ o1_ o2_) k, fun _ k => k⟩
  have K0 : Keep h0 h0 [] := Keep.refl _ _
  have f2 : Exa Z h0 o0_ cn1 := P0.ext O0.2
  obtain ⟨cq1, kq1, q1a, q1b, q1c⟩ := isOf hZ e0 f2
  obtain ⟨_, _, ⟨T1, L1, k1, n1⟩, -, X1, ⟨Lc1, hQ1, l1, y1, z1⟩, st1⟩ := X0.virtualBackUp hx (x := mn3) (y := (⟨"java/lang/Enum", "ordinal", "()I"⟩ : MethodName)) hown (mvT hZ (own_w hw 96 rfl)) (mvT hZ (own_w hw 97 rfl)) (mvT hZ (own_w hw 98 rfl)) (by decide) (mvT hZ (own_w hw 100 rfl)) (mvT hZ (own_w hw 99 rfl)) (backOf (W := 0) (rmordinal21 l Z a0 hw [] o0_ h0 n0 O0 P0 P1) hZ (own_w hw 102 rfl) (own_w hw 101 rfl) (by decide) (by decide)) q1a q1c (g := (mkF m 1 #[lvR o0_, lvR o1_, lvR o2_, .unset] [(.ref o0_)])) rfl (by rw [hml]; rfl) (Steps.refl _) (argsL := []) (rest := []) (lenOf pd_11 rfl) rfl (by show 2 * 0 + _ ≤ _; exact Nat.le_of_eq rfl) (hb hby d14_1) (fun _ _ => ⟨rfl, e0, (by decide : 0 + 0 ≤ _), (by decide : 0 + 0 ≤ _)⟩)
  dsimp only [Pt.U, Pt.locs, Pt.cells, Pt.slots] at X1 l1 y1 z1 st1 hQ1
  subst l1 y1 z1
  obtain ⟨h1, e1⟩ : ∃ z, T1.heap = z := ⟨_, rfl⟩
  rw [e1] at hQ1
  obtain ⟨rfl, N1q, hh1⟩ := hQ1
  have N3 := Fr.app N0 N1q
  have e1' : T1.heap = h0 := e1.trans hh1
  have pre4 : ∀ t, own_S p e below m T1 87 #[lvR o0_, lvR o1_, lvR o2_, .unset] [(.ref o1_)] t → G t := by
    intro t kt
    refine pre0 t ?_
    show own_S p e below m s₁ 0 #[lvR o0_, lvR o1_, lvR o2_, .unset] [] _
    refine XS.aloadN X0.here hx rfl (hb hby d14_0) rfl rfl ?_
    show own_S p e below m s₁ 1 #[lvR o0_, lvR o1_, lvR o2_, .unset] [(.ref o0_)] _
    refine st1.trans ?_
    show own_S p e below m T1 4 #[lvR o0_, lvR o1_, lvR o2_, .unset] [(.int (0 : Int32))] _
    refine XS.tswIn X1.here hx rfl (pc0 := 4) (pc' := 42) (o := 38) rfl (hb hby d14_4) rfl (by decide) rfl (by decide) (by decide) ?_
    refine XS.aloadN X1.here hx rfl (hb hby d14_42) rfl rfl ?_
    refine XS.goto X1.here hx rfl (pc0 := 43) (pc' := 87) rfl (hb hby d14_43) (by decide) (by decide) ?_
    exact kt
  obtain ⟨fs, hr, hrun, hended, hW, hsame⟩ := X1.leave (v := some (.ref o1_)) (fun h => by rw [Bd.returns] at h; cases h)
  refine ⟨_, _, hG _ (pre4 _ (retOut X1 hx Bd.returns rfl (Or.inr (Or.inr (Or.inr (Or.inr ⟨rfl, rfl, rfl⟩)))) (hb hby d14_87) hr)), hrun, hended, _, _, rfl, ?_, ⟨_, rfl⟩, hW, hsame.mono (by decide) (by decide)⟩
  show Qterms20 Z o0_ o1_ o2_ o3_ o4_ ko3_ ko4_ o5_ o6_ ko6_ x0_ h0 n0 _ T1.heap _
  rw [e1']
  exact ⟨rfl, N3, rfl⟩
theorem pd_12 : parseMethodDescriptor "(Ljava/util/List;Ljava/util/List;)Ljava/util/List;" = some ⟨[(.object "java/util/List"), (.object "java/util/List")], some (.object "java/util/List")⟩ := by decide +kernel
theorem d16_0 : decode jdk_38_method_8_code 0 = .ok (.aload_n 0, 1) := by decide +kernel
theorem d16_1 : decode jdk_38_method_8_code 1 = .ok (.getfield 48, 3) := by decide +kernel
theorem d16_4 : decode jdk_38_method_8_code 4 = .ok (.ireturn, 1) := by decide +kernel
theorem efsize22 (m : MethodId) (o0_ : Addr) : entryFrame m #[(.ref o0_)] 1 = mkF m 0 #[lvR o0_] [] := by first | (simp [entryFrame, mkF, argsToLocals, Value.category]; done) | rfl
def Qsize22 (Z : State) (o0_ : Addr) (o1_ : Addr) (ko1_ : ClassId) (h0 : Heap) (n0 : Nat) (v : Option Value) (h : Heap) (L : List Loc) : Prop := v = some (.int (0 : Int32)) ∧ Fr n0 L ∧ h = h0
set_option maxRecDepth 65536 in
set_option maxHeartbeats 40000000 in
theorem rmsize22 (l : Launch) (Z : State) (a0 : Array Value) (hw : ∀ d ∈ tables_1, d.before a0 Z = true) (ws : List Jvm.Cond) (o0_ : Addr) (o1_ : Addr) (ko1_ : ClassId) (h0 : Heap) (n0 : Nat) (O0 : Old Z n0 h0) (P0 : Exa Z h0 o0_ "java/util/ArrayList") (P1 : Fld Z h0 o0_ "java/util/AbstractList" "modCount" "I" (.int (0 : Int32))) (P2 : Fld Z h0 o0_ "java/util/ArrayList" "elementData" "[Ljava/lang/Object;" (.ref o1_)) (P3 : Fld Z h0 o0_ "java/util/ArrayList" "size" "I" (.int (0 : Int32))) (P4 : Exa Z Z.heap o1_ "[Ljava/lang/Object;") (P5 : Arv Z Z.heap o1_ ko1_ (.object "java/lang/Object") (0 : Int32) [] .null) :
    MetFree l (⟨"java/util/ArrayList", "size", "()I"⟩ : MethodName) (head1 (Jvm.Cond.code (⟨"java/util/ArrayList", "size", "()I"⟩ : MethodName) jdk_38_method_8_code 1 (some .int) :: ws) ({ frames := 0, cells := 0, slots := 0, locals := 0 } : Room)) (fun a U => a = #[(.ref o0_)] ∧ Z.Warmed39 U.vm ∧ U.heap = h0) (fun _ _ _ _ _ => True) (fun _ U o U' => ∃ v L, o = .returned v ∧ Qsize22 Z o0_ o1_ ko1_ h0 n0 v U'.heap L ∧ FrameEnd U o U' L ({ frames := 0, cells := 0, slots := 0, locals := 0 } : Room).cells ({ frames := 0, cells := 0, slots := 0, locals := 0 } : Room).slots) := by
  refine MetFree.of_bodySF (plainFor_of_name pn_4) hisR ?_
  intro p e s m args below meth c s₁ Bd hml0 hP hK
  obtain ⟨rfl, hZ, hh⟩ := hP
  have hx := Bd.exec
  have hby := Bd.bytes
  have hml : c.maxLocals = 1 := hml0
  have hown : s.vm.findClass "java/util/ArrayList" = some m.cls := findClass_of_methodNamed Bd.named
  have hnm := (name_of_methodNamed Bd.named Bd.method).1
  have X0 : Stand p l e ({ frames := 0, cells := 0, slots := 0, locals := 0 } : Room) s m #[(.ref o0_)] below meth c s₁ [] 0 0 := Stand.of_body Bd
  have e0 : s₁.heap = h0 := by rw [← hh, Bd.state]; rfl
  have N0 := Fr.nil n0
  obtain ⟨G, pre0, hG⟩ : ∃ G : State → Prop, (∀ t, own_S p e below m s₁ 0 #[lvR o0_] [] t → G t) ∧ (∀ t, G t → Steps p.tables e below (s₁.setTop (entryFrame m #[(.ref o0_)] 1)) t) := ⟨fun t => Steps p.tables e below (s₁.setTop (entryFrame m #[(.ref o0_)] 1)) t, fun t k => castTop (efsize22 m o0_) k, fun _ k => k⟩
  have K0 : Keep h0 h0 [] := Keep.refl _ _
  obtain ⟨T1, X1, e1, st1⟩ := getF X0 hx hZ hown (host := "") (Or.inl (own_w hw 61 rfl)) Via.refl e0 P3 (g := (mkF m 1 #[lvR o0_] [(.ref o0_)])) rfl rfl (hb hby d16_1)
  have pre2 : ∀ t, own_S p e below m T1 4 #[lvR o0_] [(.int (0 : Int32))] t → G t := by
    intro t kt
    refine pre0 t ?_
    show own_S p e below m s₁ 0 #[lvR o0_] [] _
    refine XS.aloadN X0.here hx rfl (hb hby d16_0) rfl rfl ?_
    show own_S p e below m s₁ 1 #[lvR o0_] [(.ref o0_)] _
    refine st1 _ ?_
    exact kt
  obtain ⟨fs, hr, hrun, hended, hW, hsame⟩ := X1.leave (v := some (.int (0 : Int32))) (fun h => by rw [Bd.returns] at h; cases h)
  refine ⟨_, _, hG _ (pre2 _ (retOut X1 hx Bd.returns rfl (Or.inl ⟨rfl, Or.inl rfl, _, rfl⟩) (hb hby d16_4) hr)), hrun, hended, _, _, rfl, ?_, ⟨_, rfl⟩, hW, hsame.mono (by decide) (by decide)⟩
  show Qsize22 Z o0_ o1_ ko1_ h0 n0 _ T1.heap _
  rw [e1]
  exact ⟨rfl, N0, rfl⟩
theorem d13_7 : decode prog_17_method_7_code 7 = .ok (.iconst 1, 1) := by decide +kernel
theorem d13_8 : decode prog_17_method_7_code 8 = .ok (.goto 4, 3) := by decide +kernel
theorem efholdsConcepts23 (m : MethodId) (o0_ : Addr) : entryFrame m #[(.ref o0_)] 1 = mkF m 0 #[lvR o0_] [] := by first | (simp [entryFrame, mkF, argsToLocals, Value.category]; done) | rfl
def QholdsConcepts23 (Z : State) (o0_ : Addr) (o1_ : Addr) (h0 : Heap) (n0 : Nat) (v : Option Value) (h : Heap) (L : List Loc) : Prop := v = some (.int (1 : Int32)) ∧ Fr n0 L ∧ h = h0
set_option maxRecDepth 65536 in
set_option maxHeartbeats 40000000 in
theorem rmholdsConcepts23 (l : Launch) (Z : State) (a0 : Array Value) (hw : ∀ d ∈ tables_1, d.before a0 Z = true) (ws : List Jvm.Cond) (o0_ : Addr) (o1_ : Addr) (h0 : Heap) (n0 : Nat) (O0 : Old Z n0 h0) (P0 : Exa Z Z.heap o0_ cn1) (P1 : Fld Z Z.heap o0_ "java/lang/Enum" "ordinal" "I" (.int (1 : Int32))) (P2 : Exa Z Z.heap o1_ cn1) (P3 : Fld Z Z.heap o1_ "java/lang/Enum" "ordinal" "I" (.int (0 : Int32))) (P4 : Sta Z Z.heap "com/example/inquiry_into_concepts/inquiryintoconcepts/index/Representation" "WORDS" "Lcom/example/inquiry_into_concepts/inquiryintoconcepts/index/Representation;" (.ref o1_)) :
    MetFree l mn2 (head1 (Jvm.Cond.code mn2 prog_17_method_7_code 1 (some .boolean) :: ws) ({ frames := 0, cells := 0, slots := 0, locals := 0 } : Room)) (fun a U => a = #[(.ref o0_)] ∧ Z.Warmed39 U.vm ∧ U.heap = h0) (fun _ _ _ _ _ => True) (fun _ U o U' => ∃ v L, o = .returned v ∧ QholdsConcepts23 Z o0_ o1_ h0 n0 v U'.heap L ∧ FrameEnd U o U' L ({ frames := 0, cells := 0, slots := 0, locals := 0 } : Room).cells ({ frames := 0, cells := 0, slots := 0, locals := 0 } : Room).slots) := by
  refine MetFree.of_bodySF (plainFor_of_name pn_5) hisR ?_
  intro p e s m args below meth c s₁ Bd hml0 hP hK
  obtain ⟨rfl, hZ, hh⟩ := hP
  have hx := Bd.exec
  have hby := Bd.bytes
  have hml : c.maxLocals = 1 := hml0
  have hown : s.vm.findClass "com/example/inquiry_into_concepts/inquiryintoconcepts/index/Representation" = some m.cls := findClass_of_methodNamed Bd.named
  have hnm := (name_of_methodNamed Bd.named Bd.method).1
  have X0 : Stand p l e ({ frames := 0, cells := 0, slots := 0, locals := 0 } : Room) s m #[(.ref o0_)] below meth c s₁ [] 0 0 := Stand.of_body Bd
  have e0 : s₁.heap = h0 := by rw [← hh, Bd.state]; rfl
  have N0 := Fr.nil n0
  obtain ⟨G, pre0, hG⟩ : ∃ G : State → Prop, (∀ t, own_S p e below m s₁ 0 #[lvR o0_] [] t → G t) ∧ (∀ t, G t → Steps p.tables e below (s₁.setTop (entryFrame m #[(.ref o0_)] 1)) t) := ⟨fun t => Steps p.tables e below (s₁.setTop (entryFrame m #[(.ref o0_)] 1)) t, fun t k => castTop (efholdsConcepts23 m o0_) k, fun _ k => k⟩
  have K0 : Keep h0 h0 [] := Keep.refl _ _
  obtain ⟨T1, X1, e1, st1⟩ := getS2 X0 hx hZ hown (host := "") (Or.inl (own_w hw 90 rfl)) Via.refl e0 (P4.ext O0.2) (g := (mkF m 1 #[lvR o0_] [(.ref o0_)])) rfl (hb hby d13_1)
  have ne2 : o0_ ≠ o1_ := Fld.ne P1 P3 (fun q => absurd (Value.int.inj q) (by decide))
  have pre3 : ∀ t, own_S p e below m T1 12 #[lvR o0_] [(.int (1 : Int32))] t → G t := by
    intro t kt
    refine pre0 t ?_
    show own_S p e below m s₁ 0 #[lvR o0_] [] _
    refine XS.aloadN X0.here hx rfl (hb hby d13_0) rfl rfl ?_
    show own_S p e below m s₁ 1 #[lvR o0_] [(.ref o0_)] _
    refine st1 _ ?_
    show own_S p e below m T1 4 #[lvR o0_] [(.ref o1_), (.ref o0_)] _
    refine Jvm.RoadKit.acmp (g := (mkF m 4 #[lvR o0_] [(.ref o1_), (.ref o0_)])) X1 hx rfl rfl rfl (pc0 := 4) (pc' := 7) (same := false) rfl (hb hby d13_4) rfl (decide_eq_false fun q => ne2 (Value.ref.inj q)) (by decide) (by decide) ?_
    refine XS.iconst X1.here hx rfl (hb hby d13_7) ?_
    refine XS.goto X1.here hx rfl (pc0 := 8) (pc' := 12) rfl (hb hby d13_8) (by decide) (by decide) ?_
    exact kt
  obtain ⟨fs, hr, hrun, hended, hW, hsame⟩ := X1.leave (v := some (.int (1 : Int32))) (fun h => by rw [Bd.returns] at h; cases h)
  refine ⟨_, _, hG _ (pre3 _ (retN X1 hx (t := .boolean) Bd.returns (by simp) (hb hby d13_12) hr)), hrun, hended, _, _, rfl, ?_, ⟨_, rfl⟩, hW, hsame.mono (by decide) (by decide)⟩
  show QholdsConcepts23 Z o0_ o1_ h0 n0 _ T1.heap _
  rw [e1]
  exact ⟨rfl, N0, rfl⟩
theorem efordinal25 (m : MethodId) (o0_ : Addr) : entryFrame m #[(.ref o0_)] 1 = mkF m 0 #[lvR o0_] [] := by first | (simp [entryFrame, mkF, argsToLocals, Value.category]; done) | rfl
def Qordinal25 (Z : State) (o0_ : Addr) (h0 : Heap) (n0 : Nat) (v : Option Value) (h : Heap) (L : List Loc) : Prop := v = some (.int (1 : Int32)) ∧ Fr n0 L ∧ h = h0
set_option maxRecDepth 65536 in
set_option maxHeartbeats 40000000 in
theorem rmordinal25 (l : Launch) (Z : State) (a0 : Array Value) (hw : ∀ d ∈ tables_1, d.before a0 Z = true) (ws : List Jvm.Cond) (o0_ : Addr) (h0 : Heap) (n0 : Nat) (O0 : Old Z n0 h0) (P0 : Exa Z Z.heap o0_ cn1) (P1 : Fld Z Z.heap o0_ "java/lang/Enum" "ordinal" "I" (.int (1 : Int32))) :
    MetFree l (⟨"java/lang/Enum", "ordinal", "()I"⟩ : MethodName) (head1 (Jvm.Cond.code (⟨"java/lang/Enum", "ordinal", "()I"⟩ : MethodName) jdk_37_method_2_code 1 (some .int) :: ws) ({ frames := 0, cells := 0, slots := 0, locals := 0 } : Room)) (fun a U => a = #[(.ref o0_)] ∧ Z.Warmed39 U.vm ∧ U.heap = h0) (fun _ _ _ _ _ => True) (fun _ U o U' => ∃ v L, o = .returned v ∧ Qordinal25 Z o0_ h0 n0 v U'.heap L ∧ FrameEnd U o U' L ({ frames := 0, cells := 0, slots := 0, locals := 0 } : Room).cells ({ frames := 0, cells := 0, slots := 0, locals := 0 } : Room).slots) := by
  refine MetFree.of_bodySF (plainFor_of_name pn_6) hisR ?_
  intro p e s m args below meth c s₁ Bd hml0 hP hK
  obtain ⟨rfl, hZ, hh⟩ := hP
  have hx := Bd.exec
  have hby := Bd.bytes
  have hml : c.maxLocals = 1 := hml0
  have hown : s.vm.findClass "java/lang/Enum" = some m.cls := findClass_of_methodNamed Bd.named
  have hnm := (name_of_methodNamed Bd.named Bd.method).1
  have X0 : Stand p l e ({ frames := 0, cells := 0, slots := 0, locals := 0 } : Room) s m #[(.ref o0_)] below meth c s₁ [] 0 0 := Stand.of_body Bd
  have e0 : s₁.heap = h0 := by rw [← hh, Bd.state]; rfl
  have N0 := Fr.nil n0
  obtain ⟨G, pre0, hG⟩ : ∃ G : State → Prop, (∀ t, own_S p e below m s₁ 0 #[lvR o0_] [] t → G t) ∧ (∀ t, G t → Steps p.tables e below (s₁.setTop (entryFrame m #[(.ref o0_)] 1)) t) := ⟨fun t => Steps p.tables e below (s₁.setTop (entryFrame m #[(.ref o0_)] 1)) t, fun t k => castTop (efordinal25 m o0_) k, fun _ k => k⟩
  have K0 : Keep h0 h0 [] := Keep.refl _ _
  have f1 : Fld Z h0 o0_ "java/lang/Enum" "ordinal" "I" (.int (1 : Int32)) := P1.ext O0.2
  obtain ⟨T2, X2, e2, st2⟩ := getF X0 hx hZ hown (host := "") (Or.inl (own_w hw 103 rfl)) Via.refl e0 f1 (g := (mkF m 1 #[lvR o0_] [(.ref o0_)])) rfl rfl (hb hby d15_1)
  have pre3 : ∀ t, own_S p e below m T2 4 #[lvR o0_] [(.int (1 : Int32))] t → G t := by
    intro t kt
    refine pre0 t ?_
    show own_S p e below m s₁ 0 #[lvR o0_] [] _
    refine XS.aloadN X0.here hx rfl (hb hby d15_0) rfl rfl ?_
    show own_S p e below m s₁ 1 #[lvR o0_] [(.ref o0_)] _
    refine st2 _ ?_
    exact kt
  obtain ⟨fs, hr, hrun, hended, hW, hsame⟩ := X2.leave (v := some (.int (1 : Int32))) (fun h => by rw [Bd.returns] at h; cases h)
  refine ⟨_, _, hG _ (pre3 _ (retOut X2 hx Bd.returns rfl (Or.inl ⟨rfl, Or.inl rfl, _, rfl⟩) (hb hby d15_4) hr)), hrun, hended, _, _, rfl, ?_, ⟨_, rfl⟩, hW, hsame.mono (by decide) (by decide)⟩
  show Qordinal25 Z o0_ h0 n0 _ T2.heap _
  rw [e2]
  exact ⟨rfl, N0, rfl⟩
theorem d14_46 : decode prog_17_method_8_code 46 = .ok (.aload_n 2, 1) := by decide +kernel
theorem d14_47 : decode prog_17_method_8_code 47 = .ok (.goto 40, 3) := by decide +kernel
theorem efterms24 (m : MethodId) (o0_ : Addr) (o1_ : Addr) (o2_ : Addr) : entryFrame m #[(.ref o0_), (.ref o1_), (.ref o2_)] 4 = mkF m 0 #[lvR o0_, lvR o1_, lvR o2_, .unset] [] := by first | (simp [entryFrame, mkF, argsToLocals, Value.category]; done) | rfl
def Qterms24 (Z : State) (o0_ : Addr) (o1_ : Addr) (o2_ : Addr) (o3_ : Addr) (o4_ : Addr) (ko3_ : ClassId) (ko4_ : ClassId) (o5_ : Addr) (o6_ : Addr) (ko6_ : ClassId) (x0_ : Int32) (h0 : Heap) (n0 : Nat) (v : Option Value) (h : Heap) (L : List Loc) : Prop := v = some (.ref o2_) ∧ Fr n0 L ∧ h = h0
set_option maxRecDepth 65536 in
set_option maxHeartbeats 40000000 in
theorem rmterms24 (l : Launch) (Z : State) (a0 : Array Value) (hw : ∀ d ∈ tables_1, d.before a0 Z = true) (ws : List Jvm.Cond) (o0_ : Addr) (o1_ : Addr) (o2_ : Addr) (o3_ : Addr) (o4_ : Addr) (ko3_ : ClassId) (ko4_ : ClassId) (o5_ : Addr) (o6_ : Addr) (ko6_ : ClassId) (x0_ : Int32) (h0 : Heap) (n0 : Nat) (O0 : Old Z n0 h0) (P0 : Exa Z Z.heap o0_ cn1) (P1 : Fld Z Z.heap o0_ "java/lang/Enum" "ordinal" "I" (.int (1 : Int32))) (P2 : Exa Z h0 o1_ "java/util/ArrayList") (P3 : Fld Z h0 o1_ "java/util/AbstractList" "modCount" "I" (.int (0 : Int32))) (P4 : Fld Z h0 o1_ "java/util/ArrayList" "elementData" "[Ljava/lang/Object;" (.ref o3_)) (P5 : Fld Z h0 o1_ "java/util/ArrayList" "size" "I" (.int (0 : Int32))) (P6 : Exa Z h0 o2_ "java/util/ArrayList") (P7 : Fld Z h0 o2_ "java/util/AbstractList" "modCount" "I" (.int (1 : Int32))) (P8 : Fld Z h0 o2_ "java/util/ArrayList" "elementData" "[Ljava/lang/Object;" (.ref o4_)) (P9 : Fld Z h0 o2_ "java/util/ArrayList" "size" "I" (.int (1 : Int32))) (P10 : Exa Z Z.heap o3_ "[Ljava/lang/Object;") (P11 : Arv Z Z.heap o3_ ko3_ (.object "java/lang/Object") (0 : Int32) [] .null) (P12 : Arv Z h0 o4_ ko4_ (.object "java/lang/Object") (10 : Int32) [(.ref o5_), .null, .null, .null, .null, .null, .null, .null, .null, .null] .null) (P13 : Exa Z h0 o4_ "[Ljava/lang/Object;") (P14 : Exa Z h0 o5_ "java/lang/String") (P15 : Fld Z h0 o5_ "java/lang/String" "value" "[B" (.ref o6_)) (P16 : Fld Z h0 o5_ "java/lang/String" "coder" "B" (.int (0 : Int32))) (P17 : Arv Z h0 o6_ ko6_ .byte (1 : Int32) [(.int x0_)] (.int (0 : Int32))) (P18 : Exa Z h0 o6_ "[B") :
    MetFree l mn4 (head1 (Jvm.Cond.code mn4 prog_17_method_8_code 4 (some (.object "java/util/List")) :: ws) ({ frames := 1, cells := 0, slots := 0, locals := 12 } : Room)) (fun a U => a = #[(.ref o0_), (.ref o1_), (.ref o2_)] ∧ Z.Warmed39 U.vm ∧ U.heap = h0) (fun _ _ _ _ _ => True) (fun _ U o U' => ∃ v L, o = .returned v ∧ Qterms24 Z o0_ o1_ o2_ o3_ o4_ ko3_ ko4_ o5_ o6_ ko6_ x0_ h0 n0 v U'.heap L ∧ FrameEnd U o U' L ({ frames := 1, cells := 0, slots := 0, locals := 12 } : Room).cells ({ frames := 1, cells := 0, slots := 0, locals := 12 } : Room).slots) := by
  refine MetFree.of_bodySF (plainFor_of_name pn_5) hisR ?_
  intro p e s m args below meth c s₁ Bd hml0 hP hK
  obtain ⟨rfl, hZ, hh⟩ := hP
  have hx := Bd.exec
  have hby := Bd.bytes
  have hml : c.maxLocals = 4 := hml0
  have hown : s.vm.findClass "com/example/inquiry_into_concepts/inquiryintoconcepts/index/Representation" = some m.cls := findClass_of_methodNamed Bd.named
  have hnm := (name_of_methodNamed Bd.named Bd.method).1
  have X0 : Stand p l e ({ frames := 1, cells := 0, slots := 0, locals := 12 } : Room) s m #[(.ref o0_), (.ref o1_), (.ref o2_)] below meth c s₁ [] 0 0 := Stand.of_body Bd
  have e0 : s₁.heap = h0 := by rw [← hh, Bd.state]; rfl
  have N0 := Fr.nil n0
  obtain ⟨G, pre0, hG⟩ : ∃ G : State → Prop, (∀ t, own_S p e below m s₁ 0 #[lvR o0_, lvR o1_, lvR o2_, .unset] [] t → G t) ∧ (∀ t, G t → Steps p.tables e below (s₁.setTop (entryFrame m #[(.ref o0_), (.ref o1_), (.ref o2_)] 4)) t) := ⟨fun t => Steps p.tables e below (s₁.setTop (entryFrame m #[(.ref o0_), (.ref o1_), (.ref o2_)] 4)) t, fun t k => castTop (efterms24 m o0_ o1_ o2_) k, fun _ k => k⟩
  have K0 : Keep h0 h0 [] := Keep.refl _ _
  have f2 : Exa Z h0 o0_ cn1 := P0.ext O0.2
  obtain ⟨cq1, kq1, q1a, q1b, q1c⟩ := isOf hZ e0 f2
  obtain ⟨_, _, ⟨T1, L1, k1, n1⟩, -, X1, ⟨Lc1, hQ1, l1, y1, z1⟩, st1⟩ := X0.virtualBackUp hx (x := mn3) (y := (⟨"java/lang/Enum", "ordinal", "()I"⟩ : MethodName)) hown (mvT hZ (own_w hw 96 rfl)) (mvT hZ (own_w hw 97 rfl)) (mvT hZ (own_w hw 98 rfl)) (by decide) (mvT hZ (own_w hw 100 rfl)) (mvT hZ (own_w hw 99 rfl)) (backOf (W := 0) (rmordinal25 l Z a0 hw [] o0_ h0 n0 O0 P0 P1) hZ (own_w hw 102 rfl) (own_w hw 101 rfl) (by decide) (by decide)) q1a q1c (g := (mkF m 1 #[lvR o0_, lvR o1_, lvR o2_, .unset] [(.ref o0_)])) rfl (by rw [hml]; rfl) (Steps.refl _) (argsL := []) (rest := []) (lenOf pd_11 rfl) rfl (by show 2 * 0 + _ ≤ _; exact Nat.le_of_eq rfl) (hb hby d14_1) (fun _ _ => ⟨rfl, e0, (by decide : 0 + 0 ≤ _), (by decide : 0 + 0 ≤ _)⟩)
  dsimp only [Pt.U, Pt.locs, Pt.cells, Pt.slots] at X1 l1 y1 z1 st1 hQ1
  subst l1 y1 z1
  obtain ⟨h1, e1⟩ : ∃ z, T1.heap = z := ⟨_, rfl⟩
  rw [e1] at hQ1
  obtain ⟨rfl, N1q, hh1⟩ := hQ1
  have N3 := Fr.app N0 N1q
  have e1' : T1.heap = h0 := e1.trans hh1
  have pre4 : ∀ t, own_S p e below m T1 87 #[lvR o0_, lvR o1_, lvR o2_, .unset] [(.ref o2_)] t → G t := by
    intro t kt
    refine pre0 t ?_
    show own_S p e below m s₁ 0 #[lvR o0_, lvR o1_, lvR o2_, .unset] [] _
    refine XS.aloadN X0.here hx rfl (hb hby d14_0) rfl rfl ?_
    show own_S p e below m s₁ 1 #[lvR o0_, lvR o1_, lvR o2_, .unset] [(.ref o0_)] _
    refine st1.trans ?_
    show own_S p e below m T1 4 #[lvR o0_, lvR o1_, lvR o2_, .unset] [(.int (1 : Int32))] _
    refine XS.tswIn X1.here hx rfl (pc0 := 4) (pc' := 46) (o := 42) rfl (hb hby d14_4) rfl (by decide) rfl (by decide) (by decide) ?_
    refine XS.aloadN X1.here hx rfl (hb hby d14_46) rfl rfl ?_
    refine XS.goto X1.here hx rfl (pc0 := 47) (pc' := 87) rfl (hb hby d14_47) (by decide) (by decide) ?_
    exact kt
  obtain ⟨fs, hr, hrun, hended, hW, hsame⟩ := X1.leave (v := some (.ref o2_)) (fun h => by rw [Bd.returns] at h; cases h)
  refine ⟨_, _, hG _ (pre4 _ (retOut X1 hx Bd.returns rfl (Or.inr (Or.inr (Or.inr (Or.inr ⟨rfl, rfl, rfl⟩)))) (hb hby d14_87) hr)), hrun, hended, _, _, rfl, ?_, ⟨_, rfl⟩, hW, hsame.mono (by decide) (by decide)⟩
  show Qterms24 Z o0_ o1_ o2_ o3_ o4_ ko3_ ko4_ o5_ o6_ ko6_ x0_ h0 n0 _ T1.heap _
  rw [e1']
  exact ⟨rfl, N3, rfl⟩
theorem efsize26 (m : MethodId) (o0_ : Addr) : entryFrame m #[(.ref o0_)] 1 = mkF m 0 #[lvR o0_] [] := by first | (simp [entryFrame, mkF, argsToLocals, Value.category]; done) | rfl
def Qsize26 (Z : State) (o0_ : Addr) (o1_ : Addr) (ko1_ : ClassId) (o2_ : Addr) (o3_ : Addr) (ko3_ : ClassId) (x0_ : Int32) (h0 : Heap) (n0 : Nat) (v : Option Value) (h : Heap) (L : List Loc) : Prop := v = some (.int (1 : Int32)) ∧ Fr n0 L ∧ h = h0
set_option maxRecDepth 65536 in
set_option maxHeartbeats 40000000 in
theorem rmsize26 (l : Launch) (Z : State) (a0 : Array Value) (hw : ∀ d ∈ tables_1, d.before a0 Z = true) (ws : List Jvm.Cond) (o0_ : Addr) (o1_ : Addr) (ko1_ : ClassId) (o2_ : Addr) (o3_ : Addr) (ko3_ : ClassId) (x0_ : Int32) (h0 : Heap) (n0 : Nat) (O0 : Old Z n0 h0) (P0 : Exa Z h0 o0_ "java/util/ArrayList") (P1 : Fld Z h0 o0_ "java/util/AbstractList" "modCount" "I" (.int (1 : Int32))) (P2 : Fld Z h0 o0_ "java/util/ArrayList" "elementData" "[Ljava/lang/Object;" (.ref o1_)) (P3 : Fld Z h0 o0_ "java/util/ArrayList" "size" "I" (.int (1 : Int32))) (P4 : Arv Z h0 o1_ ko1_ (.object "java/lang/Object") (10 : Int32) [(.ref o2_), .null, .null, .null, .null, .null, .null, .null, .null, .null] .null) (P5 : Exa Z h0 o1_ "[Ljava/lang/Object;") (P6 : Exa Z h0 o2_ "java/lang/String") (P7 : Fld Z h0 o2_ "java/lang/String" "value" "[B" (.ref o3_)) (P8 : Fld Z h0 o2_ "java/lang/String" "coder" "B" (.int (0 : Int32))) (P9 : Arv Z h0 o3_ ko3_ .byte (1 : Int32) [(.int x0_)] (.int (0 : Int32))) (P10 : Exa Z h0 o3_ "[B") :
    MetFree l (⟨"java/util/ArrayList", "size", "()I"⟩ : MethodName) (head1 (Jvm.Cond.code (⟨"java/util/ArrayList", "size", "()I"⟩ : MethodName) jdk_38_method_8_code 1 (some .int) :: ws) ({ frames := 0, cells := 0, slots := 0, locals := 0 } : Room)) (fun a U => a = #[(.ref o0_)] ∧ Z.Warmed39 U.vm ∧ U.heap = h0) (fun _ _ _ _ _ => True) (fun _ U o U' => ∃ v L, o = .returned v ∧ Qsize26 Z o0_ o1_ ko1_ o2_ o3_ ko3_ x0_ h0 n0 v U'.heap L ∧ FrameEnd U o U' L ({ frames := 0, cells := 0, slots := 0, locals := 0 } : Room).cells ({ frames := 0, cells := 0, slots := 0, locals := 0 } : Room).slots) := by
  refine MetFree.of_bodySF (plainFor_of_name pn_4) hisR ?_
  intro p e s m args below meth c s₁ Bd hml0 hP hK
  obtain ⟨rfl, hZ, hh⟩ := hP
  have hx := Bd.exec
  have hby := Bd.bytes
  have hml : c.maxLocals = 1 := hml0
  have hown : s.vm.findClass "java/util/ArrayList" = some m.cls := findClass_of_methodNamed Bd.named
  have hnm := (name_of_methodNamed Bd.named Bd.method).1
  have X0 : Stand p l e ({ frames := 0, cells := 0, slots := 0, locals := 0 } : Room) s m #[(.ref o0_)] below meth c s₁ [] 0 0 := Stand.of_body Bd
  have e0 : s₁.heap = h0 := by rw [← hh, Bd.state]; rfl
  have N0 := Fr.nil n0
  obtain ⟨G, pre0, hG⟩ : ∃ G : State → Prop, (∀ t, own_S p e below m s₁ 0 #[lvR o0_] [] t → G t) ∧ (∀ t, G t → Steps p.tables e below (s₁.setTop (entryFrame m #[(.ref o0_)] 1)) t) := ⟨fun t => Steps p.tables e below (s₁.setTop (entryFrame m #[(.ref o0_)] 1)) t, fun t k => castTop (efsize26 m o0_) k, fun _ k => k⟩
  have K0 : Keep h0 h0 [] := Keep.refl _ _
  obtain ⟨T1, X1, e1, st1⟩ := getF X0 hx hZ hown (host := "") (Or.inl (own_w hw 61 rfl)) Via.refl e0 P3 (g := (mkF m 1 #[lvR o0_] [(.ref o0_)])) rfl rfl (hb hby d16_1)
  have pre2 : ∀ t, own_S p e below m T1 4 #[lvR o0_] [(.int (1 : Int32))] t → G t := by
    intro t kt
    refine pre0 t ?_
    show own_S p e below m s₁ 0 #[lvR o0_] [] _
    refine XS.aloadN X0.here hx rfl (hb hby d16_0) rfl rfl ?_
    show own_S p e below m s₁ 1 #[lvR o0_] [(.ref o0_)] _
    refine st1 _ ?_
    exact kt
  obtain ⟨fs, hr, hrun, hended, hW, hsame⟩ := X1.leave (v := some (.int (1 : Int32))) (fun h => by rw [Bd.returns] at h; cases h)
  refine ⟨_, _, hG _ (pre2 _ (retOut X1 hx Bd.returns rfl (Or.inl ⟨rfl, Or.inl rfl, _, rfl⟩) (hb hby d16_4) hr)), hrun, hended, _, _, rfl, ?_, ⟨_, rfl⟩, hW, hsame.mono (by decide) (by decide)⟩
  show Qsize26 Z o0_ o1_ ko1_ o2_ o3_ ko3_ x0_ h0 n0 _ T1.heap _
  rw [e1]
  exact ⟨rfl, N0, rfl⟩
theorem d17_0 : decode jdk_38_method_20_code 0 = .ok (.iload_n 1, 1) := by decide +kernel
theorem d17_1 : decode jdk_38_method_20_code 1 = .ok (.aload_n 0, 1) := by decide +kernel
theorem d17_2 : decode jdk_38_method_20_code 2 = .ok (.getfield 48, 3) := by decide +kernel
theorem d17_5 : decode jdk_38_method_20_code 5 = .ok (.invokestatic 118, 3) := by decide +kernel
theorem d18_0 : decode jdk_31_method_17_code 0 = .ok (.iload_n 0, 1) := by decide +kernel
theorem d18_1 : decode jdk_31_method_17_code 1 = .ok (.iload_n 1, 1) := by decide +kernel
theorem d18_2 : decode jdk_31_method_17_code 2 = .ok (.aconst_null, 1) := by decide +kernel
theorem d18_3 : decode jdk_31_method_17_code 3 = .ok (.invokestatic 105, 3) := by decide +kernel
theorem d19_0 : decode jdk_41_method_11_code 0 = .ok (.iload_n 0, 1) := by decide +kernel
theorem d19_1 : decode jdk_41_method_11_code 1 = .ok (.ifCond .lt 8, 3) := by decide +kernel
theorem d19_4 : decode jdk_41_method_11_code 4 = .ok (.iload_n 0, 1) := by decide +kernel
theorem d19_5 : decode jdk_41_method_11_code 5 = .ok (.iload_n 1, 1) := by decide +kernel
theorem d19_6 : decode jdk_41_method_11_code 6 = .ok (.if_icmp .lt 10, 3) := by decide +kernel
theorem d19_16 : decode jdk_41_method_11_code 16 = .ok (.iload_n 0, 1) := by decide +kernel
theorem d19_17 : decode jdk_41_method_11_code 17 = .ok (.ireturn, 1) := by decide +kernel
theorem pn_7 : plainName "jdk/internal/util/Preconditions" = true := by first | (simp [plainName, overriddenIn]; done) | decide +kernel
theorem efcheckIndex29 (m : MethodId)  : entryFrame m #[(.int (0 : Int32)), (.int (1 : Int32)), .null] 3 = mkF m 0 #[lvI (0 : Int32), lvI (1 : Int32), .val .null] [] := by first | (simp [entryFrame, mkF, argsToLocals, Value.category]; done) | rfl
def QcheckIndex29 (Z : State)  (h0 : Heap) (n0 : Nat) (v : Option Value) (h : Heap) (L : List Loc) : Prop := v = some (.int (0 : Int32)) ∧ Fr n0 L ∧ h = h0
abbrev mn5 : MethodName := ⟨"jdk/internal/util/Preconditions", "checkIndex", "(IILjava/util/function/BiFunction;)I"⟩
set_option maxRecDepth 65536 in
set_option maxHeartbeats 40000000 in
theorem rmcheckIndex29 (l : Launch) (Z : State) (a0 : Array Value) (hw : ∀ d ∈ tables_1, d.before a0 Z = true) (ws : List Jvm.Cond)  (h0 : Heap) (n0 : Nat) (O0 : Old Z n0 h0)  :
    MetFree l mn5 (head1 (Jvm.Cond.code mn5 jdk_41_method_11_code 3 (some .int) :: ws) ({ frames := 0, cells := 0, slots := 0, locals := 0 } : Room)) (fun a U => a = #[(.int (0 : Int32)), (.int (1 : Int32)), .null] ∧ Z.Warmed39 U.vm ∧ U.heap = h0) (fun _ _ _ _ _ => True) (fun _ U o U' => ∃ v L, o = .returned v ∧ QcheckIndex29 Z  h0 n0 v U'.heap L ∧ FrameEnd U o U' L ({ frames := 0, cells := 0, slots := 0, locals := 0 } : Room).cells ({ frames := 0, cells := 0, slots := 0, locals := 0 } : Room).slots) := by
  refine MetFree.of_bodySF (plainFor_of_name pn_7) hisR ?_
  intro p e s m args below meth c s₁ Bd hml0 hP hK
  obtain ⟨rfl, hZ, hh⟩ := hP
  have hx := Bd.exec
  have hby := Bd.bytes
  have hml : c.maxLocals = 3 := hml0
  have hown : s.vm.findClass "jdk/internal/util/Preconditions" = some m.cls := findClass_of_methodNamed Bd.named
  have hnm := (name_of_methodNamed Bd.named Bd.method).1
  have X0 : Stand p l e ({ frames := 0, cells := 0, slots := 0, locals := 0 } : Room) s m #[(.int (0 : Int32)), (.int (1 : Int32)), .null] below meth c s₁ [] 0 0 := Stand.of_body Bd
  have e0 : s₁.heap = h0 := by rw [← hh, Bd.state]; rfl
  have N0 := Fr.nil n0
  obtain ⟨G, pre0, hG⟩ : ∃ G : State → Prop, (∀ t, own_S p e below m s₁ 0 #[lvI (0 : Int32), lvI (1 : Int32), .val .null] [] t → G t) ∧ (∀ t, G t → Steps p.tables e below (s₁.setTop (entryFrame m #[(.int (0 : Int32)), (.int (1 : Int32)), .null] 3)) t) := ⟨fun t => Steps p.tables e below (s₁.setTop (entryFrame m #[(.int (0 : Int32)), (.int (1 : Int32)), .null] 3)) t, fun t k => castTop (efcheckIndex29 m ) k, fun _ k => k⟩
  have K0 : Keep h0 h0 [] := Keep.refl _ _
  have pre1 : ∀ t, own_S p e below m s₁ 17 #[lvI (0 : Int32), lvI (1 : Int32), .val .null] [(.int (0 : Int32))] t → G t := by
    intro t kt
    refine pre0 t ?_
    show own_S p e below m s₁ 0 #[lvI (0 : Int32), lvI (1 : Int32), .val .null] [] _
    refine XS.iloadN X0.here hx rfl (hb hby d19_0) rfl ?_
    show own_S p e below m s₁ 1 #[lvI (0 : Int32), lvI (1 : Int32), .val .null] [(.int (0 : Int32))] _
    refine XS.ifNo X0.here hx rfl (hb hby d19_1) rfl ((if0 _ _).trans (flt (by decide : ¬ ((0 : Int32) < (0 : Int32)))).1) ?_
    refine XS.iloadN X0.here hx rfl (hb hby d19_4) rfl ?_
    refine XS.iloadN X0.here hx rfl (hb hby d19_5) rfl ?_
    show own_S p e below m s₁ 6 #[lvI (0 : Int32), lvI (1 : Int32), .val .null] [(.int (1 : Int32)), (.int (0 : Int32))] _
    refine XS.icmpYes X0.here hx rfl (pc0 := 6) (pc' := 16) rfl (hb hby d19_6) rfl (tlt (by decide : (0 : Int32) < (1 : Int32))).1 (by decide) (by decide) ?_
    refine XS.iloadN X0.here hx rfl (hb hby d19_16) rfl ?_
    exact kt
  obtain ⟨fs, hr, hrun, hended, hW, hsame⟩ := X0.leave (v := some (.int (0 : Int32))) (fun h => by rw [Bd.returns] at h; cases h)
  refine ⟨_, _, hG _ (pre1 _ (retOut X0 hx Bd.returns rfl (Or.inl ⟨rfl, Or.inl rfl, _, rfl⟩) (hb hby d19_17) hr)), hrun, hended, _, _, rfl, ?_, ⟨_, rfl⟩, hW, hsame.mono (by decide) (by decide)⟩
  show QcheckIndex29 Z  h0 n0 _ s₁.heap _
  rw [e0]
  exact ⟨rfl, N0, rfl⟩
theorem pd_13 : parseMethodDescriptor "(IILjava/util/function/BiFunction;)I" = some ⟨[.int, .int, (.object "java/util/function/BiFunction")], some .int⟩ := by decide +kernel
theorem d18_6 : decode jdk_31_method_17_code 6 = .ok (.ireturn, 1) := by decide +kernel
theorem pn_8 : plainName "java/util/Objects" = true := by first | (simp [plainName, overriddenIn]; done) | decide +kernel
theorem efcheckIndex28 (m : MethodId)  : entryFrame m #[(.int (0 : Int32)), (.int (1 : Int32))] 2 = mkF m 0 #[lvI (0 : Int32), lvI (1 : Int32)] [] := by first | (simp [entryFrame, mkF, argsToLocals, Value.category]; done) | rfl
def QcheckIndex28 (Z : State)  (h0 : Heap) (n0 : Nat) (v : Option Value) (h : Heap) (L : List Loc) : Prop := v = some (.int (0 : Int32)) ∧ Fr n0 L ∧ h = h0
set_option maxRecDepth 65536 in
set_option maxHeartbeats 40000000 in
theorem rmcheckIndex28 (l : Launch) (Z : State) (a0 : Array Value) (hw : ∀ d ∈ tables_1, d.before a0 Z = true) (ws : List Jvm.Cond)  (h0 : Heap) (n0 : Nat) (O0 : Old Z n0 h0)  :
    MetFree l (⟨"java/util/Objects", "checkIndex", "(II)I"⟩ : MethodName) (head1 (Jvm.Cond.code (⟨"java/util/Objects", "checkIndex", "(II)I"⟩ : MethodName) jdk_31_method_17_code 2 (some .int) :: ws) ({ frames := 1, cells := 0, slots := 0, locals := 14 } : Room)) (fun a U => a = #[(.int (0 : Int32)), (.int (1 : Int32))] ∧ Z.Warmed39 U.vm ∧ U.heap = h0) (fun _ _ _ _ _ => True) (fun _ U o U' => ∃ v L, o = .returned v ∧ QcheckIndex28 Z  h0 n0 v U'.heap L ∧ FrameEnd U o U' L ({ frames := 1, cells := 0, slots := 0, locals := 14 } : Room).cells ({ frames := 1, cells := 0, slots := 0, locals := 14 } : Room).slots) := by
  refine MetFree.of_bodySF (plainFor_of_name pn_8) hisR ?_
  intro p e s m args below meth c s₁ Bd hml0 hP hK
  obtain ⟨rfl, hZ, hh⟩ := hP
  have hx := Bd.exec
  have hby := Bd.bytes
  have hml : c.maxLocals = 2 := hml0
  have hown : s.vm.findClass "java/util/Objects" = some m.cls := findClass_of_methodNamed Bd.named
  have hnm := (name_of_methodNamed Bd.named Bd.method).1
  have X0 : Stand p l e ({ frames := 1, cells := 0, slots := 0, locals := 14 } : Room) s m #[(.int (0 : Int32)), (.int (1 : Int32))] below meth c s₁ [] 0 0 := Stand.of_body Bd
  have e0 : s₁.heap = h0 := by rw [← hh, Bd.state]; rfl
  have N0 := Fr.nil n0
  obtain ⟨G, pre0, hG⟩ : ∃ G : State → Prop, (∀ t, own_S p e below m s₁ 0 #[lvI (0 : Int32), lvI (1 : Int32)] [] t → G t) ∧ (∀ t, G t → Steps p.tables e below (s₁.setTop (entryFrame m #[(.int (0 : Int32)), (.int (1 : Int32))] 2)) t) := ⟨fun t => Steps p.tables e below (s₁.setTop (entryFrame m #[(.int (0 : Int32)), (.int (1 : Int32))] 2)) t, fun t k => castTop (efcheckIndex28 m ) k, fun _ k => k⟩
  have K0 : Keep h0 h0 [] := Keep.refl _ _
  obtain ⟨_, _, ⟨T1, L1, k1, n1⟩, -, X1, ⟨Lc1, hQ1, l1, y1, z1⟩, st1⟩ := Jvm.LawKit.callS X0 hx (y := mn5) hown (mvT hZ (own_w hw 170 rfl)) (mvT hZ (own_w hw 171 rfl)) (mvT hZ (own_w hw 172 rfl)) (mvT hZ (own_w hw 173 rfl)) (by decide) (backOf (W := 0) (rmcheckIndex29 l Z a0 hw []  h0 n0 O0 ) hZ (own_w hw 173 rfl) (own_w hw 172 rfl) (by decide) (by decide)) (g := (mkF m 3 #[lvI (0 : Int32), lvI (1 : Int32)] [.null, (.int (1 : Int32)), (.int (0 : Int32))])) rfl (by rw [hml]; rfl) (argsL := [(.int (0 : Int32)), (.int (1 : Int32)), .null]) (rest := []) (lenOf pd_13 rfl) rfl (by show 2 * 0 + _ ≤ _; exact Nat.le_of_eq rfl) (hb hby d18_3) (fun _ _ => ⟨rfl, e0, (by decide : 0 + 0 ≤ _), (by decide : 0 + 0 ≤ _)⟩)
  dsimp only [Pt.U, Pt.locs, Pt.cells, Pt.slots] at X1 l1 y1 z1 st1 hQ1
  subst l1 y1 z1
  obtain ⟨h1, e1⟩ : ∃ z, T1.heap = z := ⟨_, rfl⟩
  rw [e1] at hQ1
  obtain ⟨rfl, N1q, hh1⟩ := hQ1
  have N2 := Fr.app N0 N1q
  have e1' : T1.heap = h0 := e1.trans hh1
  have pre3 : ∀ t, own_S p e below m T1 6 #[lvI (0 : Int32), lvI (1 : Int32)] [(.int (0 : Int32))] t → G t := by
    intro t kt
    refine pre0 t ?_
    show own_S p e below m s₁ 0 #[lvI (0 : Int32), lvI (1 : Int32)] [] _
    refine XS.iloadN X0.here hx rfl (hb hby d18_0) rfl ?_
    refine XS.iloadN X0.here hx rfl (hb hby d18_1) rfl ?_
    refine XS.aconstNull X0.here hx rfl (hb hby d18_2) ?_
    show own_S p e below m s₁ 3 #[lvI (0 : Int32), lvI (1 : Int32)] [.null, (.int (1 : Int32)), (.int (0 : Int32))] _
    refine st1 _ ?_
    exact kt
  obtain ⟨fs, hr, hrun, hended, hW, hsame⟩ := X1.leave (v := some (.int (0 : Int32))) (fun h => by rw [Bd.returns] at h; cases h)
  refine ⟨_, _, hG _ (pre3 _ (retOut X1 hx Bd.returns rfl (Or.inl ⟨rfl, Or.inl rfl, _, rfl⟩) (hb hby d18_6) hr)), hrun, hended, _, _, rfl, ?_, ⟨_, rfl⟩, hW, hsame.mono (by decide) (by decide)⟩
  show QcheckIndex28 Z  h0 n0 _ T1.heap _
  rw [e1']
  exact ⟨rfl, N2, rfl⟩
theorem d17_8 : decode jdk_38_method_20_code 8 = .ok (.pop, 1) := by decide +kernel
theorem d17_9 : decode jdk_38_method_20_code 9 = .ok (.aload_n 0, 1) := by decide +kernel
theorem d17_10 : decode jdk_38_method_20_code 10 = .ok (.iload_n 1, 1) := by decide +kernel
theorem d17_11 : decode jdk_38_method_20_code 11 = .ok (.invokevirtual 123, 3) := by decide +kernel
theorem d20_0 : decode jdk_38_method_18_code 0 = .ok (.aload_n 0, 1) := by decide +kernel
theorem d20_1 : decode jdk_38_method_18_code 1 = .ok (.getfield 9, 3) := by decide +kernel
theorem d20_4 : decode jdk_38_method_18_code 4 = .ok (.iload_n 1, 1) := by decide +kernel
theorem d20_5 : decode jdk_38_method_18_code 5 = .ok (.aaload, 1) := by decide +kernel
theorem d20_6 : decode jdk_38_method_18_code 6 = .ok (.areturn, 1) := by decide +kernel
theorem efelementData30 (m : MethodId) (o0_ : Addr) : entryFrame m #[(.ref o0_), (.int (0 : Int32))] 2 = mkF m 0 #[lvR o0_, lvI (0 : Int32)] [] := by first | (simp [entryFrame, mkF, argsToLocals, Value.category]; done) | rfl
def QelementData30 (Z : State) (o0_ : Addr) (o1_ : Addr) (ko1_ : ClassId) (o2_ : Addr) (o3_ : Addr) (ko3_ : ClassId) (x0_ : Int32) (h0 : Heap) (n0 : Nat) (v : Option Value) (h : Heap) (L : List Loc) : Prop := v = some (.ref o2_) ∧ Fr n0 L ∧ h = h0
set_option maxRecDepth 65536 in
set_option maxHeartbeats 40000000 in
theorem rmelementData30 (l : Launch) (Z : State) (a0 : Array Value) (hw : ∀ d ∈ tables_1, d.before a0 Z = true) (ws : List Jvm.Cond) (o0_ : Addr) (o1_ : Addr) (ko1_ : ClassId) (o2_ : Addr) (o3_ : Addr) (ko3_ : ClassId) (x0_ : Int32) (h0 : Heap) (n0 : Nat) (O0 : Old Z n0 h0) (P0 : Exa Z h0 o0_ "java/util/ArrayList") (P1 : Fld Z h0 o0_ "java/util/AbstractList" "modCount" "I" (.int (1 : Int32))) (P2 : Fld Z h0 o0_ "java/util/ArrayList" "elementData" "[Ljava/lang/Object;" (.ref o1_)) (P3 : Fld Z h0 o0_ "java/util/ArrayList" "size" "I" (.int (1 : Int32))) (P4 : Arv Z h0 o1_ ko1_ (.object "java/lang/Object") (10 : Int32) [(.ref o2_), .null, .null, .null, .null, .null, .null, .null, .null, .null] .null) (P5 : Exa Z h0 o1_ "[Ljava/lang/Object;") (P6 : Exa Z h0 o2_ "java/lang/String") (P7 : Fld Z h0 o2_ "java/lang/String" "value" "[B" (.ref o3_)) (P8 : Fld Z h0 o2_ "java/lang/String" "coder" "B" (.int (0 : Int32))) (P9 : Arv Z h0 o3_ ko3_ .byte (1 : Int32) [(.int x0_)] (.int (0 : Int32))) (P10 : Exa Z h0 o3_ "[B") :
    MetFree l (⟨"java/util/ArrayList", "elementData", "(I)Ljava/lang/Object;"⟩ : MethodName) (head1 (Jvm.Cond.code (⟨"java/util/ArrayList", "elementData", "(I)Ljava/lang/Object;"⟩ : MethodName) jdk_38_method_18_code 2 (some (.object "java/lang/Object")) :: ws) ({ frames := 0, cells := 0, slots := 0, locals := 0 } : Room)) (fun a U => a = #[(.ref o0_), (.int (0 : Int32))] ∧ Z.Warmed39 U.vm ∧ U.heap = h0) (fun _ _ _ _ _ => True) (fun _ U o U' => ∃ v L, o = .returned v ∧ QelementData30 Z o0_ o1_ ko1_ o2_ o3_ ko3_ x0_ h0 n0 v U'.heap L ∧ FrameEnd U o U' L ({ frames := 0, cells := 0, slots := 0, locals := 0 } : Room).cells ({ frames := 0, cells := 0, slots := 0, locals := 0 } : Room).slots) := by
  refine MetFree.of_bodySF (plainFor_of_name pn_4) hisR ?_
  intro p e s m args below meth c s₁ Bd hml0 hP hK
  obtain ⟨rfl, hZ, hh⟩ := hP
  have hx := Bd.exec
  have hby := Bd.bytes
  have hml : c.maxLocals = 2 := hml0
  have hown : s.vm.findClass "java/util/ArrayList" = some m.cls := findClass_of_methodNamed Bd.named
  have hnm := (name_of_methodNamed Bd.named Bd.method).1
  have X0 : Stand p l e ({ frames := 0, cells := 0, slots := 0, locals := 0 } : Room) s m #[(.ref o0_), (.int (0 : Int32))] below meth c s₁ [] 0 0 := Stand.of_body Bd
  have e0 : s₁.heap = h0 := by rw [← hh, Bd.state]; rfl
  have N0 := Fr.nil n0
  obtain ⟨G, pre0, hG⟩ : ∃ G : State → Prop, (∀ t, own_S p e below m s₁ 0 #[lvR o0_, lvI (0 : Int32)] [] t → G t) ∧ (∀ t, G t → Steps p.tables e below (s₁.setTop (entryFrame m #[(.ref o0_), (.int (0 : Int32))] 2)) t) := ⟨fun t => Steps p.tables e below (s₁.setTop (entryFrame m #[(.ref o0_), (.int (0 : Int32))] 2)) t, fun t k => castTop (efelementData30 m o0_) k, fun _ k => k⟩
  have K0 : Keep h0 h0 [] := Keep.refl _ _
  obtain ⟨T1, X1, e1, st1⟩ := getF X0 hx hZ hown (host := "") (Or.inl (own_w hw 52 rfl)) Via.refl e0 P2 (g := (mkF m 1 #[lvR o0_, lvI (0 : Int32)] [(.ref o0_)])) rfl rfl (hb hby d20_1)
  obtain ⟨c2, r2, q2, s2, z2, y2, G2⟩ := id P4
  have hin2 : ¬ ((0 : Int32) < 0 ∨ c2.slots.size ≤ ((0 : Int32)).toNatClampNeg) := inb_of s2 ⟨by decide, by decide⟩
  have hat2 : c2.slots[((0 : Int32)).toNatClampNeg]? = some (.ref o2_) := Has.at y2 hin2 rfl
  have pre3 : ∀ t, own_S p e below m T1 6 #[lvR o0_, lvI (0 : Int32)] [(.ref o2_)] t → G t := by
    intro t kt
    refine pre0 t ?_
    show own_S p e below m s₁ 0 #[lvR o0_, lvI (0 : Int32)] [] _
    refine XS.aloadN X0.here hx rfl (hb hby d20_0) rfl rfl ?_
    show own_S p e below m s₁ 1 #[lvR o0_, lvI (0 : Int32)] [(.ref o0_)] _
    refine st1 _ ?_
    refine XS.iloadN X1.here hx rfl (hb hby d20_4) rfl ?_
    show own_S p e below m T1 5 #[lvR o0_, lvI (0 : Int32)] [(.int (0 : Int32)), (.ref o1_)] _
    refine X1.aaload hx (j := (0 : Int32)) (v := (.ref o2_)) (by rw [e1]; exact r2.1) (State.isArrayOf_alike hZ.alike r2.2.1) rfl r2.2.2 hin2 hat2 (g := (mkF m 5 #[lvR o0_, lvI (0 : Int32)] [(.int (0 : Int32)), (.ref o1_)])) rfl rfl (hb hby d20_5) _ ?_
    exact kt
  obtain ⟨fs, hr, hrun, hended, hW, hsame⟩ := X1.leave (v := some (.ref o2_)) (fun h => by rw [Bd.returns] at h; cases h)
  refine ⟨_, _, hG _ (pre3 _ (retOut X1 hx Bd.returns rfl (Or.inr (Or.inr (Or.inr (Or.inr ⟨rfl, rfl, rfl⟩)))) (hb hby d20_6) hr)), hrun, hended, _, _, rfl, ?_, ⟨_, rfl⟩, hW, hsame.mono (by decide) (by decide)⟩
  show QelementData30 Z o0_ o1_ ko1_ o2_ o3_ ko3_ x0_ h0 n0 _ T1.heap _
  rw [e1]
  exact ⟨rfl, N0, rfl⟩
theorem pd_14 : parseMethodDescriptor "(I)Ljava/lang/Object;" = some ⟨[.int], some (.object "java/lang/Object")⟩ := by decide +kernel
theorem d17_14 : decode jdk_38_method_20_code 14 = .ok (.areturn, 1) := by decide +kernel
theorem efget27 (m : MethodId) (o0_ : Addr) : entryFrame m #[(.ref o0_), (.int (0 : Int32))] 2 = mkF m 0 #[lvR o0_, lvI (0 : Int32)] [] := by first | (simp [entryFrame, mkF, argsToLocals, Value.category]; done) | rfl
def Qget27 (Z : State) (o0_ : Addr) (o1_ : Addr) (ko1_ : ClassId) (o2_ : Addr) (o3_ : Addr) (ko3_ : ClassId) (x0_ : Int32) (h0 : Heap) (n0 : Nat) (v : Option Value) (h : Heap) (L : List Loc) : Prop := v = some (.ref o2_) ∧ Fr n0 L ∧ h = h0
set_option maxRecDepth 65536 in
set_option maxHeartbeats 40000000 in
theorem rmget27 (l : Launch) (Z : State) (a0 : Array Value) (hw : ∀ d ∈ tables_1, d.before a0 Z = true) (ws : List Jvm.Cond) (o0_ : Addr) (o1_ : Addr) (ko1_ : ClassId) (o2_ : Addr) (o3_ : Addr) (ko3_ : ClassId) (x0_ : Int32) (h0 : Heap) (n0 : Nat) (O0 : Old Z n0 h0) (P0 : Exa Z h0 o0_ "java/util/ArrayList") (P1 : Fld Z h0 o0_ "java/util/AbstractList" "modCount" "I" (.int (1 : Int32))) (P2 : Fld Z h0 o0_ "java/util/ArrayList" "elementData" "[Ljava/lang/Object;" (.ref o1_)) (P3 : Fld Z h0 o0_ "java/util/ArrayList" "size" "I" (.int (1 : Int32))) (P4 : Arv Z h0 o1_ ko1_ (.object "java/lang/Object") (10 : Int32) [(.ref o2_), .null, .null, .null, .null, .null, .null, .null, .null, .null] .null) (P5 : Exa Z h0 o1_ "[Ljava/lang/Object;") (P6 : Exa Z h0 o2_ "java/lang/String") (P7 : Fld Z h0 o2_ "java/lang/String" "value" "[B" (.ref o3_)) (P8 : Fld Z h0 o2_ "java/lang/String" "coder" "B" (.int (0 : Int32))) (P9 : Arv Z h0 o3_ ko3_ .byte (1 : Int32) [(.int x0_)] (.int (0 : Int32))) (P10 : Exa Z h0 o3_ "[B") :
    MetFree l (⟨"java/util/ArrayList", "get", "(I)Ljava/lang/Object;"⟩ : MethodName) (head1 (Jvm.Cond.code (⟨"java/util/ArrayList", "get", "(I)Ljava/lang/Object;"⟩ : MethodName) jdk_38_method_20_code 2 (some (.object "java/lang/Object")) :: ws) ({ frames := 2, cells := 0, slots := 0, locals := 27 } : Room)) (fun a U => a = #[(.ref o0_), (.int (0 : Int32))] ∧ Z.Warmed39 U.vm ∧ U.heap = h0) (fun _ _ _ _ _ => True) (fun _ U o U' => ∃ v L, o = .returned v ∧ Qget27 Z o0_ o1_ ko1_ o2_ o3_ ko3_ x0_ h0 n0 v U'.heap L ∧ FrameEnd U o U' L ({ frames := 2, cells := 0, slots := 0, locals := 27 } : Room).cells ({ frames := 2, cells := 0, slots := 0, locals := 27 } : Room).slots) := by
  refine MetFree.of_bodySF (plainFor_of_name pn_4) hisR ?_
  intro p e s m args below meth c s₁ Bd hml0 hP hK
  obtain ⟨rfl, hZ, hh⟩ := hP
  have hx := Bd.exec
  have hby := Bd.bytes
  have hml : c.maxLocals = 2 := hml0
  have hown : s.vm.findClass "java/util/ArrayList" = some m.cls := findClass_of_methodNamed Bd.named
  have hnm := (name_of_methodNamed Bd.named Bd.method).1
  have X0 : Stand p l e ({ frames := 2, cells := 0, slots := 0, locals := 27 } : Room) s m #[(.ref o0_), (.int (0 : Int32))] below meth c s₁ [] 0 0 := Stand.of_body Bd
  have e0 : s₁.heap = h0 := by rw [← hh, Bd.state]; rfl
  have N0 := Fr.nil n0
  obtain ⟨G, pre0, hG⟩ : ∃ G : State → Prop, (∀ t, own_S p e below m s₁ 0 #[lvR o0_, lvI (0 : Int32)] [] t → G t) ∧ (∀ t, G t → Steps p.tables e below (s₁.setTop (entryFrame m #[(.ref o0_), (.int (0 : Int32))] 2)) t) := ⟨fun t => Steps p.tables e below (s₁.setTop (entryFrame m #[(.ref o0_), (.int (0 : Int32))] 2)) t, fun t k => castTop (efget27 m o0_) k, fun _ k => k⟩
  have K0 : Keep h0 h0 [] := Keep.refl _ _
  obtain ⟨T1, X1, e1, st1⟩ := getF X0 hx hZ hown (host := "") (Or.inl (own_w hw 61 rfl)) Via.refl e0 P3 (g := (mkF m 2 #[lvR o0_, lvI (0 : Int32)] [(.ref o0_), (.int (0 : Int32))])) rfl rfl (hb hby d17_2)
  obtain ⟨_, _, ⟨T2, L2, k2, n2⟩, -, X2, ⟨Lc2, hQ2, l2, y2, z2⟩, st2⟩ := Jvm.LawKit.callS X1 hx (y := (⟨"java/util/Objects", "checkIndex", "(II)I"⟩ : MethodName)) hown (mvT hZ (own_w hw 166 rfl)) (mvT hZ (own_w hw 167 rfl)) (mvT hZ (own_w hw 168 rfl)) (mvT hZ (own_w hw 169 rfl)) (by decide) (backOf (W := 0) (rmcheckIndex28 l Z a0 hw []  h0 n0 O0 ) hZ (own_w hw 169 rfl) (own_w hw 168 rfl) (by decide) (by decide)) (g := (mkF m 5 #[lvR o0_, lvI (0 : Int32)] [(.int (1 : Int32)), (.int (0 : Int32))])) rfl (by rw [hml]; rfl) (argsL := [(.int (0 : Int32)), (.int (1 : Int32))]) (rest := []) (lenOf pd_5 rfl) rfl (by show 2 * 0 + _ ≤ _; exact Nat.le_of_eq rfl) (hb hby d17_5) (fun _ _ => ⟨rfl, e1, (by decide : 0 + 0 ≤ _), (by decide : 0 + 0 ≤ _)⟩)
  dsimp only [Pt.U, Pt.locs, Pt.cells, Pt.slots] at X2 l2 y2 z2 st2 hQ2
  subst l2 y2 z2
  obtain ⟨h2, e2⟩ : ∃ z, T2.heap = z := ⟨_, rfl⟩
  rw [e2] at hQ2
  obtain ⟨rfl, N2q, hh2⟩ := hQ2
  have N3 := Fr.app N0 N2q
  have e2' : T2.heap = h0 := e2.trans hh2
  obtain ⟨cq4, kq4, q4a, q4b, q4c⟩ := isOf hZ e2' P0
  obtain ⟨_, _, ⟨T4, L4, k4, n4⟩, -, X4, ⟨Lc4, hQ4, l4, y4, z4⟩, st4⟩ := X2.virtualBack hx (y := (⟨"java/util/ArrayList", "elementData", "(I)Ljava/lang/Object;"⟩ : MethodName)) (z := (⟨"java/util/ArrayList", "elementData", "(I)Ljava/lang/Object;"⟩ : MethodName)) hown (mvT hZ (own_w hw 174 rfl)) (mvT hZ (own_w hw 175 rfl)) (notFace_of_selects (args := #[]) (mvT hZ (own_w hw 177 rfl))) (mvT hZ (own_w hw 177 rfl)) (mvT hZ (own_w hw 176 rfl)) (by decide) (backOf (W := 0) (rmelementData30 l Z a0 hw [] o0_ o1_ ko1_ o2_ o3_ ko3_ x0_ h0 n0 O0 P0 P1 P2 P3 P4 P5 P6 P7 P8 P9 P10) hZ (own_w hw 178 rfl) (own_w hw 32 rfl) (by decide) (by decide)) q4a q4c (g := (mkF m 11 #[lvR o0_, lvI (0 : Int32)] [(.int (0 : Int32)), (.ref o0_)])) rfl (by rw [hml]; rfl) (Steps.refl _) (argsL := [(.int (0 : Int32))]) (rest := []) (lenOf pd_14 rfl) rfl (by show 2 * 0 + _ ≤ _; exact Nat.le_of_eq rfl) (hb hby d17_11) (fun _ _ => ⟨rfl, e2', (by decide : 0 + 0 ≤ _), (by decide : 0 + 0 ≤ _)⟩)
  dsimp only [Pt.U, Pt.locs, Pt.cells, Pt.slots] at X4 l4 y4 z4 st4 hQ4
  subst l4 y4 z4
  obtain ⟨h4, e4⟩ : ∃ z, T4.heap = z := ⟨_, rfl⟩
  rw [e4] at hQ4
  obtain ⟨rfl, N4q, hh4⟩ := hQ4
  have N5 := Fr.app N3 N4q
  have e4' : T4.heap = h0 := e4.trans hh4
  have pre6 : ∀ t, own_S p e below m T4 14 #[lvR o0_, lvI (0 : Int32)] [(.ref o2_)] t → G t := by
    intro t kt
    refine pre0 t ?_
    show own_S p e below m s₁ 0 #[lvR o0_, lvI (0 : Int32)] [] _
    refine XS.iloadN X0.here hx rfl (hb hby d17_0) rfl ?_
    refine XS.aloadN X0.here hx rfl (hb hby d17_1) rfl rfl ?_
    show own_S p e below m s₁ 2 #[lvR o0_, lvI (0 : Int32)] [(.ref o0_), (.int (0 : Int32))] _
    refine st1 _ ?_
    show own_S p e below m T1 5 #[lvR o0_, lvI (0 : Int32)] [(.int (1 : Int32)), (.int (0 : Int32))] _
    refine st2 _ ?_
    refine XS.pop X2.here hx rfl (hb hby d17_8) rfl rfl ?_
    refine XS.aloadN X2.here hx rfl (hb hby d17_9) rfl rfl ?_
    refine XS.iloadN X2.here hx rfl (hb hby d17_10) rfl ?_
    show own_S p e below m T2 11 #[lvR o0_, lvI (0 : Int32)] [(.int (0 : Int32)), (.ref o0_)] _
    refine st4.trans ?_
    exact kt
  obtain ⟨fs, hr, hrun, hended, hW, hsame⟩ := X4.leave (v := some (.ref o2_)) (fun h => by rw [Bd.returns] at h; cases h)
  refine ⟨_, _, hG _ (pre6 _ (retOut X4 hx Bd.returns rfl (Or.inr (Or.inr (Or.inr (Or.inr ⟨rfl, rfl, rfl⟩)))) (hb hby d17_14) hr)), hrun, hended, _, _, rfl, ?_, ⟨_, rfl⟩, hW, hsame.mono (by decide) (by decide)⟩
  show Qget27 Z o0_ o1_ ko1_ o2_ o3_ ko3_ x0_ h0 n0 _ T4.heap _
  rw [e4']
  exact ⟨rfl, N5, rfl⟩
theorem d21_0 : decode jdk_42_method_66_code 0 = .ok (.aload_n 0, 1) := by decide +kernel
theorem d21_1 : decode jdk_42_method_66_code 1 = .ok (.aload_n 1, 1) := by decide +kernel
theorem d21_2 : decode jdk_42_method_66_code 2 = .ok (.if_acmp .ne 5, 3) := by decide +kernel
theorem d21_5 : decode jdk_42_method_66_code 5 = .ok (.iconst 1, 1) := by decide +kernel
theorem d21_6 : decode jdk_42_method_66_code 6 = .ok (.ireturn, 1) := by decide +kernel
theorem efequals31 (m : MethodId) (o0_ : Addr) : entryFrame m #[(.ref o0_), (.ref o0_)] 3 = mkF m 0 #[lvR o0_, lvR o0_, .unset] [] := by first | (simp [entryFrame, mkF, argsToLocals, Value.category]; done) | rfl
def Qequals31 (Z : State) (o0_ : Addr) (o1_ : Addr) (ko1_ : ClassId) (x0_ : Int32) (h0 : Heap) (n0 : Nat) (v : Option Value) (h : Heap) (L : List Loc) : Prop := v = some (.int (1 : Int32)) ∧ Fr n0 L ∧ h = h0
set_option maxRecDepth 65536 in
set_option maxHeartbeats 40000000 in
theorem rmequals31 (l : Launch) (Z : State) (a0 : Array Value) (hw : ∀ d ∈ tables_1, d.before a0 Z = true) (ws : List Jvm.Cond) (o0_ : Addr) (o1_ : Addr) (ko1_ : ClassId) (x0_ : Int32) (h0 : Heap) (n0 : Nat) (O0 : Old Z n0 h0) (P0 : Exa Z h0 o0_ "java/lang/String") (P1 : Fld Z h0 o0_ "java/lang/String" "value" "[B" (.ref o1_)) (P2 : Fld Z h0 o0_ "java/lang/String" "coder" "B" (.int (0 : Int32))) (P3 : Arv Z h0 o1_ ko1_ .byte (1 : Int32) [(.int x0_)] (.int (0 : Int32))) (P4 : Exa Z h0 o1_ "[B") :
    MetFree l (⟨"java/lang/String", "equals", "(Ljava/lang/Object;)Z"⟩ : MethodName) (head1 (Jvm.Cond.code (⟨"java/lang/String", "equals", "(Ljava/lang/Object;)Z"⟩ : MethodName) jdk_42_method_66_code 3 (some .boolean) :: ws) ({ frames := 0, cells := 0, slots := 0, locals := 0 } : Room)) (fun a U => a = #[(.ref o0_), (.ref o0_)] ∧ Z.Warmed39 U.vm ∧ U.heap = h0) (fun _ _ _ _ _ => True) (fun _ U o U' => ∃ v L, o = .returned v ∧ Qequals31 Z o0_ o1_ ko1_ x0_ h0 n0 v U'.heap L ∧ FrameEnd U o U' L ({ frames := 0, cells := 0, slots := 0, locals := 0 } : Room).cells ({ frames := 0, cells := 0, slots := 0, locals := 0 } : Room).slots) := by
  refine MetFree.of_bodySF (plainFor_of_name pn_1) hisR ?_
  intro p e s m args below meth c s₁ Bd hml0 hP hK
  obtain ⟨rfl, hZ, hh⟩ := hP
  have hx := Bd.exec
  have hby := Bd.bytes
  have hml : c.maxLocals = 3 := hml0
  have hown : s.vm.findClass "java/lang/String" = some m.cls := findClass_of_methodNamed Bd.named
  have hnm := (name_of_methodNamed Bd.named Bd.method).1
  have X0 : Stand p l e ({ frames := 0, cells := 0, slots := 0, locals := 0 } : Room) s m #[(.ref o0_), (.ref o0_)] below meth c s₁ [] 0 0 := Stand.of_body Bd
  have e0 : s₁.heap = h0 := by rw [← hh, Bd.state]; rfl
  have N0 := Fr.nil n0
  obtain ⟨G, pre0, hG⟩ : ∃ G : State → Prop, (∀ t, own_S p e below m s₁ 0 #[lvR o0_, lvR o0_, .unset] [] t → G t) ∧ (∀ t, G t → Steps p.tables e below (s₁.setTop (entryFrame m #[(.ref o0_), (.ref o0_)] 3)) t) := ⟨fun t => Steps p.tables e below (s₁.setTop (entryFrame m #[(.ref o0_), (.ref o0_)] 3)) t, fun t k => castTop (efequals31 m o0_) k, fun _ k => k⟩
  have K0 : Keep h0 h0 [] := Keep.refl _ _
  have pre1 : ∀ t, own_S p e below m s₁ 6 #[lvR o0_, lvR o0_, .unset] [(.int (1 : Int32))] t → G t := by
    intro t kt
    refine pre0 t ?_
    show own_S p e below m s₁ 0 #[lvR o0_, lvR o0_, .unset] [] _
    refine XS.aloadN X0.here hx rfl (hb hby d21_0) rfl rfl ?_
    refine XS.aloadN X0.here hx rfl (hb hby d21_1) rfl rfl ?_
    show own_S p e below m s₁ 2 #[lvR o0_, lvR o0_, .unset] [(.ref o0_), (.ref o0_)] _
    refine Jvm.RoadKit.acmp (g := (mkF m 2 #[lvR o0_, lvR o0_, .unset] [(.ref o0_), (.ref o0_)])) X0 hx rfl rfl rfl (pc0 := 2) (pc' := 5) (same := true) rfl (hb hby d21_2) rfl (decide_eq_true rfl) (by decide) (by decide) ?_
    refine XS.iconst X0.here hx rfl (hb hby d21_5) ?_
    exact kt
  obtain ⟨fs, hr, hrun, hended, hW, hsame⟩ := X0.leave (v := some (.int (1 : Int32))) (fun h => by rw [Bd.returns] at h; cases h)
  refine ⟨_, _, hG _ (pre1 _ (retN X0 hx (t := .boolean) Bd.returns (by simp) (hb hby d21_6) hr)), hrun, hended, _, _, rfl, ?_, ⟨_, rfl⟩, hW, hsame.mono (by decide) (by decide)⟩
  show Qequals31 Z o0_ o1_ ko1_ x0_ h0 n0 _ s₁.heap _
  rw [e0]
  exact ⟨rfl, N0, rfl⟩
theorem efholdsConcepts32 (m : MethodId) (o0_ : Addr) : entryFrame m #[(.ref o0_)] 1 = mkF m 0 #[lvR o0_] [] := by first | (simp [entryFrame, mkF, argsToLocals, Value.category]; done) | rfl
def QholdsConcepts32 (Z : State) (o0_ : Addr) (o1_ : Addr) (h0 : Heap) (n0 : Nat) (v : Option Value) (h : Heap) (L : List Loc) : Prop := v = some (.int (1 : Int32)) ∧ Fr n0 L ∧ h = h0
set_option maxRecDepth 65536 in
set_option maxHeartbeats 40000000 in
theorem rmholdsConcepts32 (l : Launch) (Z : State) (a0 : Array Value) (hw : ∀ d ∈ tables_1, d.before a0 Z = true) (ws : List Jvm.Cond) (o0_ : Addr) (o1_ : Addr) (h0 : Heap) (n0 : Nat) (O0 : Old Z n0 h0) (P0 : Exa Z Z.heap o0_ cn1) (P1 : Fld Z Z.heap o0_ "java/lang/Enum" "ordinal" "I" (.int (2 : Int32))) (P2 : Exa Z Z.heap o1_ cn1) (P3 : Fld Z Z.heap o1_ "java/lang/Enum" "ordinal" "I" (.int (0 : Int32))) (P4 : Sta Z Z.heap "com/example/inquiry_into_concepts/inquiryintoconcepts/index/Representation" "WORDS" "Lcom/example/inquiry_into_concepts/inquiryintoconcepts/index/Representation;" (.ref o1_)) :
    MetFree l mn2 (head1 (Jvm.Cond.code mn2 prog_17_method_7_code 1 (some .boolean) :: ws) ({ frames := 0, cells := 0, slots := 0, locals := 0 } : Room)) (fun a U => a = #[(.ref o0_)] ∧ Z.Warmed39 U.vm ∧ U.heap = h0) (fun _ _ _ _ _ => True) (fun _ U o U' => ∃ v L, o = .returned v ∧ QholdsConcepts32 Z o0_ o1_ h0 n0 v U'.heap L ∧ FrameEnd U o U' L ({ frames := 0, cells := 0, slots := 0, locals := 0 } : Room).cells ({ frames := 0, cells := 0, slots := 0, locals := 0 } : Room).slots) := by
  refine MetFree.of_bodySF (plainFor_of_name pn_5) hisR ?_
  intro p e s m args below meth c s₁ Bd hml0 hP hK
  obtain ⟨rfl, hZ, hh⟩ := hP
  have hx := Bd.exec
  have hby := Bd.bytes
  have hml : c.maxLocals = 1 := hml0
  have hown : s.vm.findClass "com/example/inquiry_into_concepts/inquiryintoconcepts/index/Representation" = some m.cls := findClass_of_methodNamed Bd.named
  have hnm := (name_of_methodNamed Bd.named Bd.method).1
  have X0 : Stand p l e ({ frames := 0, cells := 0, slots := 0, locals := 0 } : Room) s m #[(.ref o0_)] below meth c s₁ [] 0 0 := Stand.of_body Bd
  have e0 : s₁.heap = h0 := by rw [← hh, Bd.state]; rfl
  have N0 := Fr.nil n0
  obtain ⟨G, pre0, hG⟩ : ∃ G : State → Prop, (∀ t, own_S p e below m s₁ 0 #[lvR o0_] [] t → G t) ∧ (∀ t, G t → Steps p.tables e below (s₁.setTop (entryFrame m #[(.ref o0_)] 1)) t) := ⟨fun t => Steps p.tables e below (s₁.setTop (entryFrame m #[(.ref o0_)] 1)) t, fun t k => castTop (efholdsConcepts32 m o0_) k, fun _ k => k⟩
  have K0 : Keep h0 h0 [] := Keep.refl _ _
  obtain ⟨T1, X1, e1, st1⟩ := getS2 X0 hx hZ hown (host := "") (Or.inl (own_w hw 90 rfl)) Via.refl e0 (P4.ext O0.2) (g := (mkF m 1 #[lvR o0_] [(.ref o0_)])) rfl (hb hby d13_1)
  have ne2 : o0_ ≠ o1_ := Fld.ne P1 P3 (fun q => absurd (Value.int.inj q) (by decide))
  have pre3 : ∀ t, own_S p e below m T1 12 #[lvR o0_] [(.int (1 : Int32))] t → G t := by
    intro t kt
    refine pre0 t ?_
    show own_S p e below m s₁ 0 #[lvR o0_] [] _
    refine XS.aloadN X0.here hx rfl (hb hby d13_0) rfl rfl ?_
    show own_S p e below m s₁ 1 #[lvR o0_] [(.ref o0_)] _
    refine st1 _ ?_
    show own_S p e below m T1 4 #[lvR o0_] [(.ref o1_), (.ref o0_)] _
    refine Jvm.RoadKit.acmp (g := (mkF m 4 #[lvR o0_] [(.ref o1_), (.ref o0_)])) X1 hx rfl rfl rfl (pc0 := 4) (pc' := 7) (same := false) rfl (hb hby d13_4) rfl (decide_eq_false fun q => ne2 (Value.ref.inj q)) (by decide) (by decide) ?_
    refine XS.iconst X1.here hx rfl (hb hby d13_7) ?_
    refine XS.goto X1.here hx rfl (pc0 := 8) (pc' := 12) rfl (hb hby d13_8) (by decide) (by decide) ?_
    exact kt
  obtain ⟨fs, hr, hrun, hended, hW, hsame⟩ := X1.leave (v := some (.int (1 : Int32))) (fun h => by rw [Bd.returns] at h; cases h)
  refine ⟨_, _, hG _ (pre3 _ (retN X1 hx (t := .boolean) Bd.returns (by simp) (hb hby d13_12) hr)), hrun, hended, _, _, rfl, ?_, ⟨_, rfl⟩, hW, hsame.mono (by decide) (by decide)⟩
  show QholdsConcepts32 Z o0_ o1_ h0 n0 _ T1.heap _
  rw [e1]
  exact ⟨rfl, N0, rfl⟩
theorem efordinal34 (m : MethodId) (o0_ : Addr) : entryFrame m #[(.ref o0_)] 1 = mkF m 0 #[lvR o0_] [] := by first | (simp [entryFrame, mkF, argsToLocals, Value.category]; done) | rfl
def Qordinal34 (Z : State) (o0_ : Addr) (h0 : Heap) (n0 : Nat) (v : Option Value) (h : Heap) (L : List Loc) : Prop := v = some (.int (2 : Int32)) ∧ Fr n0 L ∧ h = h0
set_option maxRecDepth 65536 in
set_option maxHeartbeats 40000000 in
theorem rmordinal34 (l : Launch) (Z : State) (a0 : Array Value) (hw : ∀ d ∈ tables_1, d.before a0 Z = true) (ws : List Jvm.Cond) (o0_ : Addr) (h0 : Heap) (n0 : Nat) (O0 : Old Z n0 h0) (P0 : Exa Z Z.heap o0_ cn1) (P1 : Fld Z Z.heap o0_ "java/lang/Enum" "ordinal" "I" (.int (2 : Int32))) :
    MetFree l (⟨"java/lang/Enum", "ordinal", "()I"⟩ : MethodName) (head1 (Jvm.Cond.code (⟨"java/lang/Enum", "ordinal", "()I"⟩ : MethodName) jdk_37_method_2_code 1 (some .int) :: ws) ({ frames := 0, cells := 0, slots := 0, locals := 0 } : Room)) (fun a U => a = #[(.ref o0_)] ∧ Z.Warmed39 U.vm ∧ U.heap = h0) (fun _ _ _ _ _ => True) (fun _ U o U' => ∃ v L, o = .returned v ∧ Qordinal34 Z o0_ h0 n0 v U'.heap L ∧ FrameEnd U o U' L ({ frames := 0, cells := 0, slots := 0, locals := 0 } : Room).cells ({ frames := 0, cells := 0, slots := 0, locals := 0 } : Room).slots) := by
  refine MetFree.of_bodySF (plainFor_of_name pn_6) hisR ?_
  intro p e s m args below meth c s₁ Bd hml0 hP hK
  obtain ⟨rfl, hZ, hh⟩ := hP
  have hx := Bd.exec
  have hby := Bd.bytes
  have hml : c.maxLocals = 1 := hml0
  have hown : s.vm.findClass "java/lang/Enum" = some m.cls := findClass_of_methodNamed Bd.named
  have hnm := (name_of_methodNamed Bd.named Bd.method).1
  have X0 : Stand p l e ({ frames := 0, cells := 0, slots := 0, locals := 0 } : Room) s m #[(.ref o0_)] below meth c s₁ [] 0 0 := Stand.of_body Bd
  have e0 : s₁.heap = h0 := by rw [← hh, Bd.state]; rfl
  have N0 := Fr.nil n0
  obtain ⟨G, pre0, hG⟩ : ∃ G : State → Prop, (∀ t, own_S p e below m s₁ 0 #[lvR o0_] [] t → G t) ∧ (∀ t, G t → Steps p.tables e below (s₁.setTop (entryFrame m #[(.ref o0_)] 1)) t) := ⟨fun t => Steps p.tables e below (s₁.setTop (entryFrame m #[(.ref o0_)] 1)) t, fun t k => castTop (efordinal34 m o0_) k, fun _ k => k⟩
  have K0 : Keep h0 h0 [] := Keep.refl _ _
  have f1 : Fld Z h0 o0_ "java/lang/Enum" "ordinal" "I" (.int (2 : Int32)) := P1.ext O0.2
  obtain ⟨T2, X2, e2, st2⟩ := getF X0 hx hZ hown (host := "") (Or.inl (own_w hw 103 rfl)) Via.refl e0 f1 (g := (mkF m 1 #[lvR o0_] [(.ref o0_)])) rfl rfl (hb hby d15_1)
  have pre3 : ∀ t, own_S p e below m T2 4 #[lvR o0_] [(.int (2 : Int32))] t → G t := by
    intro t kt
    refine pre0 t ?_
    show own_S p e below m s₁ 0 #[lvR o0_] [] _
    refine XS.aloadN X0.here hx rfl (hb hby d15_0) rfl rfl ?_
    show own_S p e below m s₁ 1 #[lvR o0_] [(.ref o0_)] _
    refine st2 _ ?_
    exact kt
  obtain ⟨fs, hr, hrun, hended, hW, hsame⟩ := X2.leave (v := some (.int (2 : Int32))) (fun h => by rw [Bd.returns] at h; cases h)
  refine ⟨_, _, hG _ (pre3 _ (retOut X2 hx Bd.returns rfl (Or.inl ⟨rfl, Or.inl rfl, _, rfl⟩) (hb hby d15_4) hr)), hrun, hended, _, _, rfl, ?_, ⟨_, rfl⟩, hW, hsame.mono (by decide) (by decide)⟩
  show Qordinal34 Z o0_ h0 n0 _ T2.heap _
  rw [e2]
  exact ⟨rfl, N0, rfl⟩
theorem d14_50 : decode prog_17_method_8_code 50 = .ok (.new 57, 3) := by decide +kernel
theorem d14_53 : decode prog_17_method_8_code 53 = .ok (.dup, 1) := by decide +kernel
theorem d14_54 : decode prog_17_method_8_code 54 = .ok (.aload_n 1, 1) := by decide +kernel
theorem d14_55 : decode prog_17_method_8_code 55 = .ok (.invokeinterface 59 1, 5) := by decide +kernel
theorem d14_60 : decode prog_17_method_8_code 60 = .ok (.aload_n 2, 1) := by decide +kernel
theorem d14_61 : decode prog_17_method_8_code 61 = .ok (.invokeinterface 59 1, 5) := by decide +kernel
theorem d14_66 : decode prog_17_method_8_code 66 = .ok (.iadd, 1) := by decide +kernel
theorem d14_67 : decode prog_17_method_8_code 67 = .ok (.invokespecial 64, 3) := by decide +kernel
theorem d22_0 : decode jdk_38_method_1_code 0 = .ok (.aload_n 0, 1) := by decide +kernel
theorem d22_1 : decode jdk_38_method_1_code 1 = .ok (.invokespecial 1, 3) := by decide +kernel
theorem d22_4 : decode jdk_38_method_1_code 4 = .ok (.iload_n 1, 1) := by decide +kernel
theorem d22_5 : decode jdk_38_method_1_code 5 = .ok (.ifCond .le 14, 3) := by decide +kernel
theorem d22_8 : decode jdk_38_method_1_code 8 = .ok (.aload_n 0, 1) := by decide +kernel
theorem d22_9 : decode jdk_38_method_1_code 9 = .ok (.iload_n 1, 1) := by decide +kernel
theorem d22_10 : decode jdk_38_method_1_code 10 = .ok (.anewarray 7, 3) := by decide +kernel
theorem d22_13 : decode jdk_38_method_1_code 13 = .ok (.putfield 9, 3) := by decide +kernel
theorem d22_16 : decode jdk_38_method_1_code 16 = .ok (.goto 44, 3) := by decide +kernel
theorem d22_60 : decode jdk_38_method_1_code 60 = .ok (.return_, 1) := by decide +kernel
theorem efinit35 (m : MethodId) (o0_ : Addr) : entryFrame m #[(.ref o0_), (.int (1 : Int32))] 2 = mkF m 0 #[lvR o0_, lvI (1 : Int32)] [] := by first | (simp [entryFrame, mkF, argsToLocals, Value.category]; done) | rfl
def Qinit35 (Z : State) (o0_ : Addr) (h0 : Heap) (n0 : Nat) (v : Option Value) (h : Heap) (L : List Loc) : Prop := ∃ k3 : ClassId, ∃ nb3 : Addr, v = none ∧ Fr n0 L ∧ Keep h0 h [o0_] ∧ h0.size ≤ nb3 ∧ Exa Z h o0_ "java/util/ArrayList" ∧ Fld Z h o0_ "java/util/AbstractList" "modCount" "I" (.int (0 : Int32)) ∧ Fld Z h o0_ "java/util/ArrayList" "elementData" "[Ljava/lang/Object;" (.ref nb3) ∧ Fld Z h o0_ "java/util/ArrayList" "size" "I" (.int (0 : Int32)) ∧ Arv Z h nb3 k3 (.object "java/lang/Object") (1 : Int32) [.null] .null ∧ Exa Z h nb3 "[Ljava/lang/Object;"
set_option maxRecDepth 65536 in
set_option maxHeartbeats 40000000 in
theorem rminit35 (l : Launch) (Z : State) (a0 : Array Value) (hw : ∀ d ∈ tables_1, d.before a0 Z = true) (ws : List Jvm.Cond) (o0_ : Addr) (h0 : Heap) (n0 : Nat) (O0 : Old Z n0 h0) (P0 : Exa Z h0 o0_ "java/util/ArrayList") (P1 : Fld Z h0 o0_ "java/util/AbstractList" "modCount" "I" (.int (0 : Int32))) (P2 : Fld Z h0 o0_ "java/util/ArrayList" "elementData" "[Ljava/lang/Object;" .null) (P3 : Fld Z h0 o0_ "java/util/ArrayList" "size" "I" (.int (0 : Int32))) (P4 : n0 ≤ o0_) :
    MetFree l (⟨"java/util/ArrayList", "<init>", "(I)V"⟩ : MethodName) (head1 (Jvm.Cond.code (⟨"java/util/ArrayList", "<init>", "(I)V"⟩ : MethodName) jdk_38_method_1_code 2 none :: ws) ({ frames := 3, cells := 1, slots := 1, locals := 36 } : Room)) (fun a U => a = #[(.ref o0_), (.int (1 : Int32))] ∧ Z.Warmed39 U.vm ∧ U.heap = h0) (fun _ _ _ _ _ => True) (fun _ U o U' => ∃ v L, o = .returned v ∧ Qinit35 Z o0_ h0 n0 v U'.heap L ∧ FrameEnd U o U' L ({ frames := 3, cells := 1, slots := 1, locals := 36 } : Room).cells ({ frames := 3, cells := 1, slots := 1, locals := 36 } : Room).slots) := by
  refine MetFree.of_bodySF (plainFor_of_name pn_4) hisR ?_
  intro p e s m args below meth c s₁ Bd hml0 hP hK
  obtain ⟨rfl, hZ, hh⟩ := hP
  have hx := Bd.exec
  have hby := Bd.bytes
  have hml : c.maxLocals = 2 := hml0
  have hown : s.vm.findClass "java/util/ArrayList" = some m.cls := findClass_of_methodNamed Bd.named
  have hnm := (name_of_methodNamed Bd.named Bd.method).1
  have X0 : Stand p l e ({ frames := 3, cells := 1, slots := 1, locals := 36 } : Room) s m #[(.ref o0_), (.int (1 : Int32))] below meth c s₁ [] 0 0 := Stand.of_body Bd
  have e0 : s₁.heap = h0 := by rw [← hh, Bd.state]; rfl
  have N0 := Fr.nil n0
  obtain ⟨G, pre0, hG⟩ : ∃ G : State → Prop, (∀ t, own_S p e below m s₁ 0 #[lvR o0_, lvI (1 : Int32)] [] t → G t) ∧ (∀ t, G t → Steps p.tables e below (s₁.setTop (entryFrame m #[(.ref o0_), (.int (1 : Int32))] 2)) t) := ⟨fun t => Steps p.tables e below (s₁.setTop (entryFrame m #[(.ref o0_), (.int (1 : Int32))] 2)) t, fun t k => castTop (efinit35 m o0_) k, fun _ k => k⟩
  have K0 : Keep h0 h0 [o0_] := Keep.refl _ _
  obtain ⟨_, _, ⟨T1, L1, k1, n1⟩, -, X1, ⟨Lc1, hQ1, l1, y1, z1⟩, st1⟩ := X0.specialBack hx (y := (⟨"java/util/AbstractList", "<init>", "()V"⟩ : MethodName)) rfl hown (mvT hZ (own_w hw 36 rfl)) (mvT hZ (own_w hw 37 rfl)) (mvT hZ (own_w hw 41 rfl)) (by decide) (backOf (W := 0) (rminit6 l Z a0 hw [] o0_ h0 n0 O0 P0 P1 P2 P3 P4) hZ (own_w hw 41 rfl) (own_w hw 40 rfl) (by decide) (by decide)) (g := (mkF m 1 #[lvR o0_, lvI (1 : Int32)] [(.ref o0_)])) rfl (by rw [hml]; rfl) (Steps.refl _) (a := o0_) (argsL := []) (rest := []) (lenOf pd_4 rfl) rfl (by show 2 * 0 + _ ≤ _; exact Nat.le_of_eq rfl) (hb hby d22_1) (fun _ _ => ⟨rfl, e0, (by decide : 0 + 0 ≤ _), (by decide : 0 + 0 ≤ _)⟩)
  dsimp only [Pt.U, Pt.locs, Pt.cells, Pt.slots] at X1 l1 y1 z1 st1 hQ1
  subst l1 y1 z1
  obtain ⟨h1, e1⟩ : ∃ z, T1.heap = z := ⟨_, rfl⟩
  rw [e1] at hQ1
  obtain ⟨rfl, N1q, K1, g1_0, g1_1, g1_2, g1_3⟩ := hQ1
  have N2 := Fr.app N0 N1q
  obtain ⟨T3, h3, k3, X3, e3, E3, A3, Z3, O3, st3⟩ := newRE X1 hx hZ hown (own_w hw 82 rfl) (own_w hw 83 rfl) e1 (g := (mkF m 10 #[lvR o0_, lvI (1 : Int32)] [(.int (1 : Int32)), (.ref o0_)])) rfl (hb hby d22_10) rfl (by decide) (cap := 1) (by decide) (by decide) (by decide) (by decide) (ad := "[Ljava/lang/Object;") (by decide)
  obtain ⟨b3, g3⟩ : ∃ z, z = h1.size := ⟨_, rfl⟩
  rw [← g3] at A3 Z3 st3
  have f4 : Old Z n0 h1 := O0.keep K1 (allS (P4) all0)
  have ge5 : n0 ≤ b3 := Nat.le_trans (Nat.le_trans (Nat.le_of_eq f4.1.symm) f4.2.1) (Nat.le_of_eq g3.symm)
  have f6 : Keep h0 h1 [o0_] := K0.trans K1 (allS (Or.inl (List.mem_of_getElem? (i := 0) rfl)) all0)
  have sz7 : h0.size ≤ b3 := Nat.le_trans f6.1 (Nat.le_of_eq g3.symm)
  have f8 : Arv Z h3 b3 k3 (.object "java/lang/Object") (1 : Int32) [.null] .null := (Arv.new A3 (by decide)).pad (pad_rep [] .null 1)
  have f9 : Fld Z h3 o0_ "java/util/ArrayList" "elementData" "[Ljava/lang/Object;" .null := g1_2.ext E3
  have f10 : Exa Z h3 o0_ "java/util/ArrayList" := g1_0.ext E3
  obtain ⟨T11, h11, X11, e11, W11, st11⟩ := putF X3 hx hZ hown (host := "") (Or.inl (own_w hw 52 rfl)) Via.refl e3 f9 f10 (Or.inl (own_w hw 53 rfl)) (own_w hw 31 rfl) (ty := (.array (.object "java/lang/Object"))) (by decide) rfl rfl (g := (mkF m 13 #[lvR o0_, lvI (1 : Int32)] [(.ref b3), (.ref o0_)])) rfl rfl (hb hby d22_13)
  have N12 := Fr.snoc X11 N2 P4
  have f13 : Fld Z h11 o0_ "java/util/ArrayList" "elementData" "[Ljava/lang/Object;" (.ref b3) := f9.same W11
  have pre14 : ∀ t, own_S p e below m T11 60 #[lvR o0_, lvI (1 : Int32)] [] t → G t := by
    intro t kt
    refine pre0 t ?_
    show own_S p e below m s₁ 0 #[lvR o0_, lvI (1 : Int32)] [] _
    refine XS.aloadN X0.here hx rfl (hb hby d22_0) rfl rfl ?_
    show own_S p e below m s₁ 1 #[lvR o0_, lvI (1 : Int32)] [(.ref o0_)] _
    refine st1.trans ?_
    refine XS.iloadN X1.here hx rfl (hb hby d22_4) rfl ?_
    show own_S p e below m T1 5 #[lvR o0_, lvI (1 : Int32)] [(.int (1 : Int32))] _
    refine XS.ifNo X1.here hx rfl (hb hby d22_5) rfl ((if0 _ _).trans (tlt (by decide : (0 : Int32) < (1 : Int32))).2.2.2) ?_
    refine XS.aloadN X1.here hx rfl (hb hby d22_8) rfl rfl ?_
    refine XS.iloadN X1.here hx rfl (hb hby d22_9) rfl ?_
    show own_S p e below m T1 10 #[lvR o0_, lvI (1 : Int32)] [(.int (1 : Int32)), (.ref o0_)] _
    refine st3 _ ?_
    show own_S p e below m T3 13 #[lvR o0_, lvI (1 : Int32)] [(.ref b3), (.ref o0_)] _
    refine st11 _ ?_
    refine XS.goto X11.here hx rfl (pc0 := 16) (pc' := 60) rfl (hb hby d22_16) (by decide) (by decide) ?_
    exact kt
  have f16 : Keep h0 h3 [o0_] := f6.ext E3
  have f17 : Keep h0 h11 [o0_] := f16.wr W11 (Or.inl (List.mem_of_getElem? (i := 0) rfl))
  have f18 : Exa Z h11 o0_ "java/util/ArrayList" := f10.wr W11
  have f19 : Fld Z h3 o0_ "java/util/AbstractList" "modCount" "I" (.int (0 : Int32)) := g1_1.ext E3
  have f20 : Fld Z h11 o0_ "java/util/AbstractList" "modCount" "I" (.int (0 : Int32)) := f19.other W11 (Or.inr (slot_ne (Or.inl (own_w hw 50 rfl)) (Or.inl (own_w hw 53 rfl)) (by decide) (t := .int) (t' := (.array (.object "java/lang/Object"))) (by decide) (by decide)))
  have f21 : Fld Z h3 o0_ "java/util/ArrayList" "size" "I" (.int (0 : Int32)) := g1_3.ext E3
  have f22 : Fld Z h11 o0_ "java/util/ArrayList" "size" "I" (.int (0 : Int32)) := f21.other W11 (Or.inr (slot_ne (Or.inl (own_w hw 62 rfl)) (Or.inl (own_w hw 53 rfl)) (by decide) (t := .int) (t' := (.array (.object "java/lang/Object"))) (by decide) (by decide)))
  have ne24 : o0_ ≠ b3 := Nat.ne_of_lt (Nat.lt_of_lt_of_le g1_0.lt (Nat.le_of_eq g3.symm))
  have f23 : Arv Z h11 b3 k3 (.object "java/lang/Object") (1 : Int32) [.null] .null := f8.other W11 (Ne.symm ne24)
  have f25 : Exa Z h11 b3 "[Ljava/lang/Object;" := Z3.wr W11
  obtain ⟨fs, hr, hrun, hended, hW, hsame⟩ := X11.leave (v := none) (fun _ => rfl)
  refine ⟨_, _, hG _ (pre14 _ (X11.returnOut hx Bd.returns (hb hby d22_60) hr)), hrun, hended, _, _, rfl, ?_, ⟨_, rfl⟩, hW, hsame.mono (by decide) (by decide)⟩
  show Qinit35 Z o0_ h0 n0 _ T11.heap _
  rw [e11]
  exact ⟨k3, b3, rfl, N12, f17, sz7, f18, f20, f13, f22, f23, f25⟩
theorem pd_15 : parseMethodDescriptor "(I)V" = some ⟨[.int], none⟩ := by decide +kernel
theorem d14_70 : decode prog_17_method_8_code 70 = .ok (.astore_n 3, 1) := by decide +kernel
theorem d14_71 : decode prog_17_method_8_code 71 = .ok (.aload_n 3, 1) := by decide +kernel
theorem d14_72 : decode prog_17_method_8_code 72 = .ok (.aload_n 1, 1) := by decide +kernel
theorem d14_73 : decode prog_17_method_8_code 73 = .ok (.invokevirtual 67, 3) := by decide +kernel
theorem d23_0 : decode jdk_38_method_41_code 0 = .ok (.aload_n 1, 1) := by decide +kernel
theorem d23_1 : decode jdk_38_method_41_code 1 = .ok (.invokeinterface 42 1, 5) := by decide +kernel
theorem d24_0 : decode jdk_38_method_16_code 0 = .ok (.aload_n 0, 1) := by decide +kernel
theorem d24_1 : decode jdk_38_method_16_code 1 = .ok (.getfield 9, 3) := by decide +kernel
theorem d24_4 : decode jdk_38_method_16_code 4 = .ok (.aload_n 0, 1) := by decide +kernel
theorem d24_5 : decode jdk_38_method_16_code 5 = .ok (.getfield 48, 3) := by decide +kernel
theorem d24_8 : decode jdk_38_method_16_code 8 = .ok (.invokestatic 66, 3) := by decide +kernel
theorem d25_0 : decode jdk_65_method_119_code 0 = .ok (.aload_n 0, 1) := by decide +kernel
theorem d25_1 : decode jdk_65_method_119_code 1 = .ok (.iload_n 1, 1) := by decide +kernel
theorem d25_2 : decode jdk_65_method_119_code 2 = .ok (.aload_n 0, 1) := by decide +kernel
theorem d25_3 : decode jdk_65_method_119_code 3 = .ok (.invokevirtual 86, 3) := by decide +kernel
theorem d25_6 : decode jdk_65_method_119_code 6 = .ok (.invokestatic 300, 3) := by decide +kernel
theorem d26_0 : decode jdk_65_method_120_code 0 = .ok (.aload_n 2, 1) := by decide +kernel
theorem d26_1 : decode jdk_65_method_120_code 1 = .ok (.ldc 110, 2) := by decide +kernel
theorem d26_3 : decode jdk_65_method_120_code 3 = .ok (.if_acmp .ne 10, 3) := by decide +kernel
theorem d26_6 : decode jdk_65_method_120_code 6 = .ok (.iload_n 1, 1) := by decide +kernel
theorem d26_7 : decode jdk_65_method_120_code 7 = .ok (.anewarray 2, 3) := by decide +kernel
theorem d26_10 : decode jdk_65_method_120_code 10 = .ok (.goto 14, 3) := by decide +kernel
theorem d26_24 : decode jdk_65_method_120_code 24 = .ok (.astore_n 3, 1) := by decide +kernel
theorem d26_25 : decode jdk_65_method_120_code 25 = .ok (.aload_n 0, 1) := by decide +kernel
theorem d26_26 : decode jdk_65_method_120_code 26 = .ok (.iconst 0, 1) := by decide +kernel
theorem d26_27 : decode jdk_65_method_120_code 27 = .ok (.aload_n 3, 1) := by decide +kernel
theorem d26_28 : decode jdk_65_method_120_code 28 = .ok (.iconst 0, 1) := by decide +kernel
theorem d26_29 : decode jdk_65_method_120_code 29 = .ok (.aload_n 0, 1) := by decide +kernel
theorem d26_30 : decode jdk_65_method_120_code 30 = .ok (.arraylength, 1) := by decide +kernel
theorem d26_31 : decode jdk_65_method_120_code 31 = .ok (.iload_n 1, 1) := by decide +kernel
theorem d26_32 : decode jdk_65_method_120_code 32 = .ok (.invokestatic 304, 3) := by decide +kernel
theorem d27_0 : decode jdk_29_method_69_code 0 = .ok (.iload_n 0, 1) := by decide +kernel
theorem d27_1 : decode jdk_29_method_69_code 1 = .ok (.iload_n 1, 1) := by decide +kernel
theorem d27_2 : decode jdk_29_method_69_code 2 = .ok (.if_icmp .gt 7, 3) := by decide +kernel
theorem d27_5 : decode jdk_29_method_69_code 5 = .ok (.iload_n 0, 1) := by decide +kernel
theorem d27_6 : decode jdk_29_method_69_code 6 = .ok (.goto 4, 3) := by decide +kernel
theorem d27_10 : decode jdk_29_method_69_code 10 = .ok (.ireturn, 1) := by decide +kernel
theorem efmin50 (m : MethodId)  : entryFrame m #[(.int (0 : Int32)), (.int (0 : Int32))] 2 = mkF m 0 #[lvI (0 : Int32), lvI (0 : Int32)] [] := by first | (simp [entryFrame, mkF, argsToLocals, Value.category]; done) | rfl
def Qmin50 (Z : State)  (h0 : Heap) (n0 : Nat) (v : Option Value) (h : Heap) (L : List Loc) : Prop := v = some (.int (0 : Int32)) ∧ Fr n0 L ∧ h = h0
set_option maxRecDepth 65536 in
set_option maxHeartbeats 40000000 in
theorem rmmin50 (l : Launch) (Z : State) (a0 : Array Value) (hw : ∀ d ∈ tables_1, d.before a0 Z = true) (ws : List Jvm.Cond)  (h0 : Heap) (n0 : Nat) (O0 : Old Z n0 h0)  :
    MetFree l (⟨"java/lang/Math", "min", "(II)I"⟩ : MethodName) (head1 (Jvm.Cond.code (⟨"java/lang/Math", "min", "(II)I"⟩ : MethodName) jdk_29_method_69_code 2 (some .int) :: ws) ({ frames := 0, cells := 0, slots := 0, locals := 0 } : Room)) (fun a U => a = #[(.int (0 : Int32)), (.int (0 : Int32))] ∧ Z.Warmed39 U.vm ∧ U.heap = h0) (fun _ _ _ _ _ => True) (fun _ U o U' => ∃ v L, o = .returned v ∧ Qmin50 Z  h0 n0 v U'.heap L ∧ FrameEnd U o U' L ({ frames := 0, cells := 0, slots := 0, locals := 0 } : Room).cells ({ frames := 0, cells := 0, slots := 0, locals := 0 } : Room).slots) := by
  refine MetFree.of_bodySF (Jvm.Free.JP.mathPlain rfl (by decide +kernel)) hisR ?_
  intro p e s m args below meth c s₁ Bd hml0 hP hK
  obtain ⟨rfl, hZ, hh⟩ := hP
  have hx := Bd.exec
  have hby := Bd.bytes
  have hml : c.maxLocals = 2 := hml0
  have hown : s.vm.findClass "java/lang/Math" = some m.cls := findClass_of_methodNamed Bd.named
  have hnm := (name_of_methodNamed Bd.named Bd.method).1
  have X0 : Stand p l e ({ frames := 0, cells := 0, slots := 0, locals := 0 } : Room) s m #[(.int (0 : Int32)), (.int (0 : Int32))] below meth c s₁ [] 0 0 := Stand.of_body Bd
  have e0 : s₁.heap = h0 := by rw [← hh, Bd.state]; rfl
  have N0 := Fr.nil n0
  obtain ⟨G, pre0, hG⟩ : ∃ G : State → Prop, (∀ t, own_S p e below m s₁ 0 #[lvI (0 : Int32), lvI (0 : Int32)] [] t → G t) ∧ (∀ t, G t → Steps p.tables e below (s₁.setTop (entryFrame m #[(.int (0 : Int32)), (.int (0 : Int32))] 2)) t) := ⟨fun t => Steps p.tables e below (s₁.setTop (entryFrame m #[(.int (0 : Int32)), (.int (0 : Int32))] 2)) t, fun t k => castTop (efmin50 m ) k, fun _ k => k⟩
  have K0 : Keep h0 h0 [] := Keep.refl _ _
  have pre1 : ∀ t, own_S p e below m s₁ 10 #[lvI (0 : Int32), lvI (0 : Int32)] [(.int (0 : Int32))] t → G t := by
    intro t kt
    refine pre0 t ?_
    show own_S p e below m s₁ 0 #[lvI (0 : Int32), lvI (0 : Int32)] [] _
    refine XS.iloadN X0.here hx rfl (hb hby d27_0) rfl ?_
    refine XS.iloadN X0.here hx rfl (hb hby d27_1) rfl ?_
    show own_S p e below m s₁ 2 #[lvI (0 : Int32), lvI (0 : Int32)] [(.int (0 : Int32)), (.int (0 : Int32))] _
    refine XS.icmpNo X0.here hx rfl (hb hby d27_2) rfl (flt (by decide : ¬ ((0 : Int32) < (0 : Int32)))).2.2.1 ?_
    refine XS.iloadN X0.here hx rfl (hb hby d27_5) rfl ?_
    refine XS.goto X0.here hx rfl (pc0 := 6) (pc' := 10) rfl (hb hby d27_6) (by decide) (by decide) ?_
    exact kt
  obtain ⟨fs, hr, hrun, hended, hW, hsame⟩ := X0.leave (v := some (.int (0 : Int32))) (fun h => by rw [Bd.returns] at h; cases h)
  refine ⟨_, _, hG _ (pre1 _ (retOut X0 hx Bd.returns rfl (Or.inl ⟨rfl, Or.inl rfl, _, rfl⟩) (hb hby d27_10) hr)), hrun, hended, _, _, rfl, ?_, ⟨_, rfl⟩, hW, hsame.mono (by decide) (by decide)⟩
  show Qmin50 Z  h0 n0 _ s₁.heap _
  rw [e0]
  exact ⟨rfl, N0, rfl⟩
theorem d26_35 : decode jdk_65_method_120_code 35 = .ok (.invokestatic 150, 3) := by decide +kernel
theorem d26_38 : decode jdk_65_method_120_code 38 = .ok (.aload_n 3, 1) := by decide +kernel
theorem d26_39 : decode jdk_65_method_120_code 39 = .ok (.areturn, 1) := by decide +kernel
theorem pn_9 : plainName "java/util/Arrays" = true := by first | (simp [plainName, overriddenIn]; done) | decide +kernel
theorem efcopyOf49 (m : MethodId) (o0_ : Addr) (o1_ : Addr) : entryFrame m #[(.ref o0_), (.int (0 : Int32)), (.ref o1_)] 4 = mkF m 0 #[lvR o0_, lvI (0 : Int32), lvR o1_, .unset] [] := by first | (simp [entryFrame, mkF, argsToLocals, Value.category]; done) | rfl
def QcopyOf49 (Z : State) (o0_ : Addr) (o1_ : Addr) (ko0_ : ClassId) (h0 : Heap) (n0 : Nat) (v : Option Value) (h : Heap) (L : List Loc) : Prop := ∃ k2 : ClassId, ∃ nb2 : Addr, v = some (.ref nb2) ∧ Fr n0 L ∧ Keep h0 h [] ∧ h0.size ≤ nb2 ∧ Arv Z h nb2 k2 (.object "java/lang/Object") (0 : Int32) [] .null ∧ Exa Z h nb2 "[Ljava/lang/Object;"
abbrev mn6 : MethodName := ⟨"java/util/Arrays", "copyOf", "([Ljava/lang/Object;ILjava/lang/Class;)[Ljava/lang/Object;"⟩
set_option maxRecDepth 65536 in
set_option maxHeartbeats 40000000 in
theorem rmcopyOf49 (l : Launch) (Z : State) (a0 : Array Value) (hw : ∀ d ∈ tables_1, d.before a0 Z = true) (ws : List Jvm.Cond) (o0_ : Addr) (o1_ : Addr) (ko0_ : ClassId) (h0 : Heap) (n0 : Nat) (O0 : Old Z n0 h0) (P0 : Exa Z Z.heap o0_ "[Ljava/lang/Object;") (P1 : Arv Z Z.heap o0_ ko0_ (.object "java/lang/Object") (0 : Int32) [] .null) (P2 : Mir Z "[Ljava/lang/Object;" o1_) :
    MetFree l mn6 (head1 (Jvm.Cond.code mn6 jdk_65_method_120_code 4 (some (.array (.object "java/lang/Object"))) :: ws) ({ frames := 1, cells := 1, slots := 0, locals := 18 } : Room)) (fun a U => a = #[(.ref o0_), (.int (0 : Int32)), (.ref o1_)] ∧ Z.Warmed39 U.vm ∧ U.heap = h0) (fun _ _ _ _ _ => True) (fun _ U o U' => ∃ v L, o = .returned v ∧ QcopyOf49 Z o0_ o1_ ko0_ h0 n0 v U'.heap L ∧ FrameEnd U o U' L ({ frames := 1, cells := 1, slots := 0, locals := 18 } : Room).cells ({ frames := 1, cells := 1, slots := 0, locals := 18 } : Room).slots) := by
  refine MetFree.of_bodySF (plainFor_of_name pn_9) hisR ?_
  intro p e s m args below meth c s₁ Bd hml0 hP hK
  obtain ⟨rfl, hZ, hh⟩ := hP
  have hx := Bd.exec
  have hby := Bd.bytes
  have hml : c.maxLocals = 4 := hml0
  have hown : s.vm.findClass "java/util/Arrays" = some m.cls := findClass_of_methodNamed Bd.named
  have hnm := (name_of_methodNamed Bd.named Bd.method).1
  have X0 : Stand p l e ({ frames := 1, cells := 1, slots := 0, locals := 18 } : Room) s m #[(.ref o0_), (.int (0 : Int32)), (.ref o1_)] below meth c s₁ [] 0 0 := Stand.of_body Bd
  have e0 : s₁.heap = h0 := by rw [← hh, Bd.state]; rfl
  have N0 := Fr.nil n0
  obtain ⟨G, pre0, hG⟩ : ∃ G : State → Prop, (∀ t, own_S p e below m s₁ 0 #[lvR o0_, lvI (0 : Int32), lvR o1_, .unset] [] t → G t) ∧ (∀ t, G t → Steps p.tables e below (s₁.setTop (entryFrame m #[(.ref o0_), (.int (0 : Int32)), (.ref o1_)] 4)) t) := ⟨fun t => Steps p.tables e below (s₁.setTop (entryFrame m #[(.ref o0_), (.int (0 : Int32)), (.ref o1_)] 4)) t, fun t k => castTop (efcopyOf49 m o0_ o1_) k, fun _ k => k⟩
  have K0 : Keep h0 h0 [] := Keep.refl _ _
  obtain ⟨T1, X1, e1, st1⟩ := own_ldcM X0 hx hZ hown (own_w hw 148 rfl) e0 P2 (g := (mkF m 1 #[lvR o0_, lvI (0 : Int32), lvR o1_, .unset] [(.ref o1_)])) rfl (hb hby d26_1)
  obtain ⟨T2, h2, k2, X2, e2, E2, A2, Z2, O2, st2⟩ := newRE X1 hx hZ hown (own_w hw 149 rfl) (own_w hw 83 rfl) e1 (g := (mkF m 7 #[lvR o0_, lvI (0 : Int32), lvR o1_, .unset] [(.int (0 : Int32))])) rfl (hb hby d26_7) rfl (by decide) (cap := 0) (by decide) (by decide) (by decide) (by decide) (ad := "[Ljava/lang/Object;") (by decide)
  obtain ⟨b2, g2⟩ : ∃ z, z = h0.size := ⟨_, rfl⟩
  rw [← g2] at A2 Z2 st2
  have ge3 : n0 ≤ b2 := Nat.le_trans (Nat.le_trans (Nat.le_of_eq O0.1.symm) O0.2.1) (Nat.le_of_eq g2.symm)
  have sz4 : h0.size ≤ b2 := Nat.le_trans K0.1 (Nat.le_of_eq g2.symm)
  have f5 : Arv Z h2 b2 k2 (.object "java/lang/Object") (0 : Int32) [] .null := (Arv.new A2 (by decide)).pad (pad_rep [] .null 0)
  have f7 : Old Z n0 h2 := O0.ext E2
  have f8 : Arv Z h2 o0_ ko0_ (.object "java/lang/Object") (0 : Int32) [] .null := P1.ext f7.2
  obtain ⟨c6, r6, q6, s6, z6, y6, G6⟩ := id f8
  obtain ⟨_, _, ⟨T9, L9, k9, n9⟩, -, X9, ⟨Lc9, hQ9, l9, y9, z9⟩, st9⟩ := Jvm.LawKit.callS X2 hx (y := (⟨"java/lang/Math", "min", "(II)I"⟩ : MethodName)) hown (mvT hZ (own_w hw 150 rfl)) (mvT hZ (own_w hw 151 rfl)) (mvT hZ (own_w hw 80 rfl)) (mvT hZ (own_w hw 152 rfl)) (by decide) (backOf (W := 4) (rmmin50 l Z a0 hw []  h2 n0 f7 ) hZ (own_w hw 152 rfl) (own_w hw 80 rfl) (by decide) (by decide)) (g := (mkF m 32 #[lvR o0_, lvI (0 : Int32), lvR o1_, lvR b2] [(.int (0 : Int32)), (.int (0 : Int32)), (.int (0 : Int32)), (.ref b2), (.int (0 : Int32)), (.ref o0_)])) rfl (by rw [hml]; rfl) (argsL := [(.int (0 : Int32)), (.int (0 : Int32))]) (rest := [(.int (0 : Int32)), (.ref b2), (.int (0 : Int32)), (.ref o0_)]) (lenOf pd_5 rfl) rfl (by show 2 * 0 + _ ≤ _; exact Nat.le_of_eq rfl) (hb hby d26_32) (fun _ _ => ⟨rfl, e2, (by decide : 1 + 0 ≤ _), (by decide : 0 + 0 ≤ _)⟩)
  dsimp only [Pt.U, Pt.locs, Pt.cells, Pt.slots] at X9 l9 y9 z9 st9 hQ9
  subst l9 y9 z9
  obtain ⟨h9, e9⟩ : ∃ z, T9.heap = z := ⟨_, rfl⟩
  rw [e9] at hQ9
  obtain ⟨rfl, N9q, hh9⟩ := hQ9
  have N10 := Fr.app N0 N9q
  have e9' : T9.heap = h2 := e9.trans hh9
  have f12 : Arv Z h2 o0_ ko0_ (.object "java/lang/Object") (0 : Int32) [] .null := P1.ext f7.2
  obtain ⟨c11, r11, q11, s11, z11, y11, G11⟩ := id f5
  obtain ⟨T11, h11, L11, X11, e11, N11, K11, V11, st11⟩ := cpA (us := []) X9 hx hZ hown (own_w hw 153 rfl) (own_w hw 156 rfl) (own_w hw 154 rfl) (own_w hw 155 rfl) e9' f12 f5 (Or.inr ⟨rfl, rfl, trivial⟩) (sp := (0 : Int32)) (dp := (0 : Int32)) (nn := (0 : Int32)) (by decide) (by decide) (by decide) (by decide) (by decide) rfl (Nat.le_of_ble_eq_true rfl) N10 ge3 (g := (mkF m 35 #[lvR o0_, lvI (0 : Int32), lvR o1_, lvR b2] [(.int (0 : Int32)), (.int (0 : Int32)), (.ref b2), (.int (0 : Int32)), (.ref o0_)])) rfl (by rw [hml]; rfl) rfl (hb hby d26_35) (by decide) (W := 0) (by show 2 * 0 + _ ≤ _; exact Nat.le_of_eq rfl) (by decide)
  have f13 : Arv Z h11 b2 k2 (.object "java/lang/Object") (0 : Int32) [] .null := V11
  have pre14 : ∀ t, own_S p e below m T11 39 #[lvR o0_, lvI (0 : Int32), lvR o1_, lvR b2] [(.ref b2)] t → G t := by
    intro t kt
    refine pre0 t ?_
    show own_S p e below m s₁ 0 #[lvR o0_, lvI (0 : Int32), lvR o1_, .unset] [] _
    refine XS.aloadN X0.here hx rfl (hb hby d26_0) rfl rfl ?_
    show own_S p e below m s₁ 1 #[lvR o0_, lvI (0 : Int32), lvR o1_, .unset] [(.ref o1_)] _
    refine st1 _ ?_
    show own_S p e below m T1 3 #[lvR o0_, lvI (0 : Int32), lvR o1_, .unset] [(.ref o1_), (.ref o1_)] _
    refine Jvm.RoadKit.acmp (g := (mkF m 3 #[lvR o0_, lvI (0 : Int32), lvR o1_, .unset] [(.ref o1_), (.ref o1_)])) X1 hx rfl rfl rfl (pc0 := 3) (pc' := 6) (same := true) rfl (hb hby d26_3) rfl (decide_eq_true rfl) (by decide) (by decide) ?_
    refine XS.iloadN X1.here hx rfl (hb hby d26_6) rfl ?_
    show own_S p e below m T1 7 #[lvR o0_, lvI (0 : Int32), lvR o1_, .unset] [(.int (0 : Int32))] _
    refine st2 _ ?_
    refine XS.goto X2.here hx rfl (pc0 := 10) (pc' := 24) rfl (hb hby d26_10) (by decide) (by decide) ?_
    refine XS.astoreN X2.here hx rfl (hb hby d26_24) rfl rfl (l' := #[lvR o0_, lvI (0 : Int32), lvR o1_, lvR b2]) rfl ?_
    refine XS.aloadN X2.here hx rfl (hb hby d26_25) rfl rfl ?_
    refine XS.iconst X2.here hx rfl (hb hby d26_26) ?_
    refine XS.aloadN X2.here hx rfl (hb hby d26_27) rfl rfl ?_
    show own_S p e below m T2 28 #[lvR o0_, lvI (0 : Int32), lvR o1_, lvR b2] [(.ref b2), (.int (0 : Int32)), (.ref o0_)] _
    refine XS.iconst X2.here hx rfl (hb hby d26_28) ?_
    refine XS.aloadN X2.here hx rfl (hb hby d26_29) rfl rfl ?_
    show own_S p e below m T2 30 #[lvR o0_, lvI (0 : Int32), lvR o1_, lvR b2] [(.ref o0_), (.int (0 : Int32)), (.ref b2), (.int (0 : Int32)), (.ref o0_)] _
    refine X2.arraylength hx (by rw [e2]; exact r6.1) (State.isArrayOf_alike hZ.alike r6.2.1) (g := (mkF m 30 #[lvR o0_, lvI (0 : Int32), lvR o1_, lvR b2] [(.ref o0_), (.int (0 : Int32)), (.ref b2), (.int (0 : Int32)), (.ref o0_)])) rfl rfl (hb hby d26_30) _ ?_
    rw [len_of s6 z6]
    refine XS.iloadN X2.here hx rfl (hb hby d26_31) rfl ?_
    show own_S p e below m T2 32 #[lvR o0_, lvI (0 : Int32), lvR o1_, lvR b2] [(.int (0 : Int32)), (.int (0 : Int32)), (.int (0 : Int32)), (.ref b2), (.int (0 : Int32)), (.ref o0_)] _
    refine st9 _ ?_
    show own_S p e below m T9 35 #[lvR o0_, lvI (0 : Int32), lvR o1_, lvR b2] [(.int (0 : Int32)), (.int (0 : Int32)), (.ref b2), (.int (0 : Int32)), (.ref o0_)] _
    refine st11 _ ?_
    refine XS.aloadN X11.here hx rfl (hb hby d26_38) rfl rfl ?_
    exact kt
  have f16 : Keep h0 h2 [] := K0.ext E2
  have f17 : Keep h0 h11 [] := f16.trans K11 (allS (Or.inr sz4) all0)
  have f18 : Exa Z h11 b2 "[Ljava/lang/Object;" := Z2.keep K11
  obtain ⟨fs, hr, hrun, hended, hW, hsame⟩ := X11.leave (v := some (.ref b2)) (fun h => by rw [Bd.returns] at h; cases h)
  refine ⟨_, _, hG _ (pre14 _ (retOut X11 hx Bd.returns rfl (Or.inr (Or.inr (Or.inr (Or.inr ⟨rfl, rfl, rfl⟩)))) (hb hby d26_39) hr)), hrun, hended, _, _, rfl, ?_, ⟨_, rfl⟩, hW, hsame.mono (by decide) (by decide)⟩
  show QcopyOf49 Z o0_ o1_ ko0_ h0 n0 _ T11.heap _
  rw [e11]
  exact ⟨k2, b2, rfl, N11, f17, sz4, f13, f18⟩
theorem pd_16 : parseMethodDescriptor "([Ljava/lang/Object;ILjava/lang/Class;)[Ljava/lang/Object;" = some ⟨[(.array (.object "java/lang/Object")), .int, (.object "java/lang/Class")], some (.array (.object "java/lang/Object"))⟩ := by decide +kernel
theorem d25_9 : decode jdk_65_method_119_code 9 = .ok (.areturn, 1) := by decide +kernel
theorem efcopyOf48 (m : MethodId) (o0_ : Addr) : entryFrame m #[(.ref o0_), (.int (0 : Int32))] 2 = mkF m 0 #[lvR o0_, lvI (0 : Int32)] [] := by first | (simp [entryFrame, mkF, argsToLocals, Value.category]; done) | rfl
def QcopyOf48 (Z : State) (o0_ : Addr) (ko0_ : ClassId) (o1_ : Addr) (h0 : Heap) (n0 : Nat) (v : Option Value) (h : Heap) (L : List Loc) : Prop := ∃ k2_3 : ClassId, ∃ nnb2_3 : Addr, v = some (.ref nnb2_3) ∧ Fr n0 L ∧ Keep h0 h [] ∧ h0.size ≤ nnb2_3 ∧ Arv Z h nnb2_3 k2_3 (.object "java/lang/Object") (0 : Int32) [] .null ∧ Exa Z h nnb2_3 "[Ljava/lang/Object;"
abbrev mn7 : MethodName := ⟨"java/util/Arrays", "copyOf", "([Ljava/lang/Object;I)[Ljava/lang/Object;"⟩
set_option maxRecDepth 65536 in
set_option maxHeartbeats 40000000 in
theorem rmcopyOf48 (l : Launch) (Z : State) (a0 : Array Value) (hw : ∀ d ∈ tables_1, d.before a0 Z = true) (ws : List Jvm.Cond) (o0_ : Addr) (ko0_ : ClassId) (o1_ : Addr) (h0 : Heap) (n0 : Nat) (O0 : Old Z n0 h0) (P0 : Exa Z Z.heap o0_ "[Ljava/lang/Object;") (P1 : Arv Z Z.heap o0_ ko0_ (.object "java/lang/Object") (0 : Int32) [] .null) (P2 : Mir Z "[Ljava/lang/Object;" o1_) :
    MetFree l mn7 (head1 (Jvm.Cond.code mn7 jdk_65_method_119_code 2 (some (.array (.object "java/lang/Object"))) :: ws) ({ frames := 2, cells := 1, slots := 0, locals := 33 } : Room)) (fun a U => a = #[(.ref o0_), (.int (0 : Int32))] ∧ Z.Warmed39 U.vm ∧ U.heap = h0) (fun _ _ _ _ _ => True) (fun _ U o U' => ∃ v L, o = .returned v ∧ QcopyOf48 Z o0_ ko0_ o1_ h0 n0 v U'.heap L ∧ FrameEnd U o U' L ({ frames := 2, cells := 1, slots := 0, locals := 33 } : Room).cells ({ frames := 2, cells := 1, slots := 0, locals := 33 } : Room).slots) := by
  refine MetFree.of_bodySF (plainFor_of_name pn_9) hisR ?_
  intro p e s m args below meth c s₁ Bd hml0 hP hK
  obtain ⟨rfl, hZ, hh⟩ := hP
  have hx := Bd.exec
  have hby := Bd.bytes
  have hml : c.maxLocals = 2 := hml0
  have hown : s.vm.findClass "java/util/Arrays" = some m.cls := findClass_of_methodNamed Bd.named
  have hnm := (name_of_methodNamed Bd.named Bd.method).1
  have X0 : Stand p l e ({ frames := 2, cells := 1, slots := 0, locals := 33 } : Room) s m #[(.ref o0_), (.int (0 : Int32))] below meth c s₁ [] 0 0 := Stand.of_body Bd
  have e0 : s₁.heap = h0 := by rw [← hh, Bd.state]; rfl
  have N0 := Fr.nil n0
  obtain ⟨G, pre0, hG⟩ : ∃ G : State → Prop, (∀ t, own_S p e below m s₁ 0 #[lvR o0_, lvI (0 : Int32)] [] t → G t) ∧ (∀ t, G t → Steps p.tables e below (s₁.setTop (entryFrame m #[(.ref o0_), (.int (0 : Int32))] 2)) t) := ⟨fun t => Steps p.tables e below (s₁.setTop (entryFrame m #[(.ref o0_), (.int (0 : Int32))] 2)) t, fun t k => castTop (efcopyOf48 m o0_) k, fun _ k => k⟩
  have K0 : Keep h0 h0 [] := Keep.refl _ _
  have f2 : Exa Z h0 o0_ "[Ljava/lang/Object;" := P0.ext O0.2
  obtain ⟨T1, X1, e1, st1⟩ := own_gcls X0 hx hZ hown (own_w hw 139 rfl) (own_w hw 140 rfl) (own_w hw 142 rfl) (own_w hw 141 rfl) (own_w hw 143 rfl) e0 f2 P2 (g := (mkF m 3 #[lvR o0_, lvI (0 : Int32)] [(.ref o0_), (.int (0 : Int32)), (.ref o0_)])) rfl (by rw [hml]; rfl) rfl (hb hby d25_3) (by decide) (W := 2) (by show 2 * 0 + _ ≤ _; exact Nat.le_of_eq rfl) (by decide)
  obtain ⟨_, _, ⟨T3, L3, k3, n3⟩, -, X3, ⟨Lc3, hQ3, l3, y3, z3⟩, st3⟩ := Jvm.LawKit.callS X1 hx (y := mn6) hown (mvT hZ (own_w hw 145 rfl)) (mvT hZ (own_w hw 146 rfl)) (mvT hZ (own_w hw 137 rfl)) (mvT hZ (own_w hw 147 rfl)) (by decide) (backOf (W := 0) (rmcopyOf49 l Z a0 hw [] o0_ o1_ ko0_ h0 n0 O0 P0 P1 P2) hZ (own_w hw 147 rfl) (own_w hw 137 rfl) (by decide) (by decide)) (g := (mkF m 6 #[lvR o0_, lvI (0 : Int32)] [(.ref o1_), (.int (0 : Int32)), (.ref o0_)])) rfl (by rw [hml]; rfl) (argsL := [(.ref o0_), (.int (0 : Int32)), (.ref o1_)]) (rest := []) (lenOf pd_16 rfl) rfl (by show 2 * 0 + _ ≤ _; exact Nat.le_of_eq rfl) (hb hby d25_6) (fun _ _ => ⟨rfl, e1, (by decide : 0 + 1 ≤ _), (by decide : 0 + 0 ≤ _)⟩)
  dsimp only [Pt.U, Pt.locs, Pt.cells, Pt.slots] at X3 l3 y3 z3 st3 hQ3
  subst l3 y3 z3
  obtain ⟨h3, e3⟩ : ∃ z, T3.heap = z := ⟨_, rfl⟩
  rw [e3] at hQ3
  obtain ⟨k2_3, nb2_3, rfl, N3q, K3, sznb2_3, g3_0, g3_1⟩ := hQ3
  have N4 := Fr.app N0 N3q
  have ge5 : n0 ≤ nb2_3 := Nat.le_trans (Nat.le_trans (Nat.le_of_eq O0.1.symm) O0.2.1) sznb2_3
  have sz6 : h0.size ≤ nb2_3 := Nat.le_trans K0.1 sznb2_3
  have pre7 : ∀ t, own_S p e below m T3 9 #[lvR o0_, lvI (0 : Int32)] [(.ref nb2_3)] t → G t := by
    intro t kt
    refine pre0 t ?_
    show own_S p e below m s₁ 0 #[lvR o0_, lvI (0 : Int32)] [] _
    refine XS.aloadN X0.here hx rfl (hb hby d25_0) rfl rfl ?_
    refine XS.iloadN X0.here hx rfl (hb hby d25_1) rfl ?_
    refine XS.aloadN X0.here hx rfl (hb hby d25_2) rfl rfl ?_
    show own_S p e below m s₁ 3 #[lvR o0_, lvI (0 : Int32)] [(.ref o0_), (.int (0 : Int32)), (.ref o0_)] _
    refine st1 _ ?_
    show own_S p e below m T1 6 #[lvR o0_, lvI (0 : Int32)] [(.ref o1_), (.int (0 : Int32)), (.ref o0_)] _
    refine st3 _ ?_
    exact kt
  have f9 : Keep h0 h3 [] := K0.trans K3 all0
  obtain ⟨fs, hr, hrun, hended, hW, hsame⟩ := X3.leave (v := some (.ref nb2_3)) (fun h => by rw [Bd.returns] at h; cases h)
  refine ⟨_, _, hG _ (pre7 _ (retOut X3 hx Bd.returns rfl (Or.inr (Or.inr (Or.inr (Or.inr ⟨rfl, rfl, rfl⟩)))) (hb hby d25_9) hr)), hrun, hended, _, _, rfl, ?_, ⟨_, rfl⟩, hW, hsame.mono (by decide) (by decide)⟩
  show QcopyOf48 Z o0_ ko0_ o1_ h0 n0 _ T3.heap _
  rw [e3]
  exact ⟨k2_3, nb2_3, rfl, N4, f9, sz6, g3_0, g3_1⟩
theorem pd_17 : parseMethodDescriptor "([Ljava/lang/Object;I)[Ljava/lang/Object;" = some ⟨[(.array (.object "java/lang/Object")), .int], some (.array (.object "java/lang/Object"))⟩ := by decide +kernel
theorem d24_11 : decode jdk_38_method_16_code 11 = .ok (.areturn, 1) := by decide +kernel
theorem eftoArray46 (m : MethodId) (o0_ : Addr) : entryFrame m #[(.ref o0_)] 1 = mkF m 0 #[lvR o0_] [] := by first | (simp [entryFrame, mkF, argsToLocals, Value.category]; done) | rfl
def QtoArray46 (Z : State) (o0_ : Addr) (o1_ : Addr) (ko1_ : ClassId) (o2_ : Addr) (h0 : Heap) (n0 : Nat) (v : Option Value) (h : Heap) (L : List Loc) : Prop := ∃ k2_3_3 : ClassId, ∃ nnnb2_3_3 : Addr, v = some (.ref nnnb2_3_3) ∧ Fr n0 L ∧ Keep h0 h [] ∧ h0.size ≤ nnnb2_3_3 ∧ Arv Z h nnnb2_3_3 k2_3_3 (.object "java/lang/Object") (0 : Int32) [] .null ∧ Exa Z h nnnb2_3_3 "[Ljava/lang/Object;"
set_option maxRecDepth 65536 in
set_option maxHeartbeats 40000000 in
theorem rmtoArray46 (l : Launch) (Z : State) (a0 : Array Value) (hw : ∀ d ∈ tables_1, d.before a0 Z = true) (ws : List Jvm.Cond) (o0_ : Addr) (o1_ : Addr) (ko1_ : ClassId) (o2_ : Addr) (h0 : Heap) (n0 : Nat) (O0 : Old Z n0 h0) (P0 : Exa Z h0 o0_ "java/util/ArrayList") (P1 : Fld Z h0 o0_ "java/util/AbstractList" "modCount" "I" (.int (0 : Int32))) (P2 : Fld Z h0 o0_ "java/util/ArrayList" "elementData" "[Ljava/lang/Object;" (.ref o1_)) (P3 : Fld Z h0 o0_ "java/util/ArrayList" "size" "I" (.int (0 : Int32))) (P4 : Exa Z Z.heap o1_ "[Ljava/lang/Object;") (P5 : Arv Z Z.heap o1_ ko1_ (.object "java/lang/Object") (0 : Int32) [] .null) (P6 : Mir Z "[Ljava/lang/Object;" o2_) :
    MetFree l (⟨"java/util/ArrayList", "toArray", "()[Ljava/lang/Object;"⟩ : MethodName) (head1 (Jvm.Cond.code (⟨"java/util/ArrayList", "toArray", "()[Ljava/lang/Object;"⟩ : MethodName) jdk_38_method_16_code 1 (some (.array (.object "java/lang/Object"))) :: ws) ({ frames := 3, cells := 1, slots := 0, locals := 46 } : Room)) (fun a U => a = #[(.ref o0_)] ∧ Z.Warmed39 U.vm ∧ U.heap = h0) (fun _ _ _ _ _ => True) (fun _ U o U' => ∃ v L, o = .returned v ∧ QtoArray46 Z o0_ o1_ ko1_ o2_ h0 n0 v U'.heap L ∧ FrameEnd U o U' L ({ frames := 3, cells := 1, slots := 0, locals := 46 } : Room).cells ({ frames := 3, cells := 1, slots := 0, locals := 46 } : Room).slots) := by
  refine MetFree.of_bodySF (plainFor_of_name pn_4) hisR ?_
  intro p e s m args below meth c s₁ Bd hml0 hP hK
  obtain ⟨rfl, hZ, hh⟩ := hP
  have hx := Bd.exec
  have hby := Bd.bytes
  have hml : c.maxLocals = 1 := hml0
  have hown : s.vm.findClass "java/util/ArrayList" = some m.cls := findClass_of_methodNamed Bd.named
  have hnm := (name_of_methodNamed Bd.named Bd.method).1
  have X0 : Stand p l e ({ frames := 3, cells := 1, slots := 0, locals := 46 } : Room) s m #[(.ref o0_)] below meth c s₁ [] 0 0 := Stand.of_body Bd
  have e0 : s₁.heap = h0 := by rw [← hh, Bd.state]; rfl
  have N0 := Fr.nil n0
  obtain ⟨G, pre0, hG⟩ : ∃ G : State → Prop, (∀ t, own_S p e below m s₁ 0 #[lvR o0_] [] t → G t) ∧ (∀ t, G t → Steps p.tables e below (s₁.setTop (entryFrame m #[(.ref o0_)] 1)) t) := ⟨fun t => Steps p.tables e below (s₁.setTop (entryFrame m #[(.ref o0_)] 1)) t, fun t k => castTop (eftoArray46 m o0_) k, fun _ k => k⟩
  have K0 : Keep h0 h0 [] := Keep.refl _ _
  obtain ⟨T1, X1, e1, st1⟩ := getF X0 hx hZ hown (host := "") (Or.inl (own_w hw 52 rfl)) Via.refl e0 P2 (g := (mkF m 1 #[lvR o0_] [(.ref o0_)])) rfl rfl (hb hby d24_1)
  obtain ⟨T2, X2, e2, st2⟩ := getF X1 hx hZ hown (host := "") (Or.inl (own_w hw 61 rfl)) Via.refl e1 P3 (g := (mkF m 5 #[lvR o0_] [(.ref o0_), (.ref o1_)])) rfl rfl (hb hby d24_5)
  obtain ⟨_, _, ⟨T3, L3, k3, n3⟩, -, X3, ⟨Lc3, hQ3, l3, y3, z3⟩, st3⟩ := Jvm.LawKit.callS X2 hx (y := mn7) hown (mvT hZ (own_w hw 135 rfl)) (mvT hZ (own_w hw 136 rfl)) (mvT hZ (own_w hw 137 rfl)) (mvT hZ (own_w hw 138 rfl)) (by decide) (backOf (W := 0) (rmcopyOf48 l Z a0 hw [] o1_ ko1_ o2_ h0 n0 O0 P4 P5 P6) hZ (own_w hw 138 rfl) (own_w hw 137 rfl) (by decide) (by decide)) (g := (mkF m 8 #[lvR o0_] [(.int (0 : Int32)), (.ref o1_)])) rfl (by rw [hml]; rfl) (argsL := [(.ref o1_), (.int (0 : Int32))]) (rest := []) (lenOf pd_17 rfl) rfl (by show 2 * 0 + _ ≤ _; exact Nat.le_of_eq rfl) (hb hby d24_8) (fun _ _ => ⟨rfl, e2, (by decide : 0 + 1 ≤ _), (by decide : 0 + 0 ≤ _)⟩)
  dsimp only [Pt.U, Pt.locs, Pt.cells, Pt.slots] at X3 l3 y3 z3 st3 hQ3
  subst l3 y3 z3
  obtain ⟨h3, e3⟩ : ∃ z, T3.heap = z := ⟨_, rfl⟩
  rw [e3] at hQ3
  obtain ⟨k2_3_3, nnb2_3_3, rfl, N3q, K3, sznnb2_3_3, g3_0, g3_1⟩ := hQ3
  have N4 := Fr.app N0 N3q
  have ge5 : n0 ≤ nnb2_3_3 := Nat.le_trans (Nat.le_trans (Nat.le_of_eq O0.1.symm) O0.2.1) sznnb2_3_3
  have sz6 : h0.size ≤ nnb2_3_3 := Nat.le_trans K0.1 sznnb2_3_3
  have pre7 : ∀ t, own_S p e below m T3 11 #[lvR o0_] [(.ref nnb2_3_3)] t → G t := by
    intro t kt
    refine pre0 t ?_
    show own_S p e below m s₁ 0 #[lvR o0_] [] _
    refine XS.aloadN X0.here hx rfl (hb hby d24_0) rfl rfl ?_
    show own_S p e below m s₁ 1 #[lvR o0_] [(.ref o0_)] _
    refine st1 _ ?_
    refine XS.aloadN X1.here hx rfl (hb hby d24_4) rfl rfl ?_
    show own_S p e below m T1 5 #[lvR o0_] [(.ref o0_), (.ref o1_)] _
    refine st2 _ ?_
    show own_S p e below m T2 8 #[lvR o0_] [(.int (0 : Int32)), (.ref o1_)] _
    refine st3 _ ?_
    exact kt
  have f9 : Keep h0 h3 [] := K0.trans K3 all0
  obtain ⟨fs, hr, hrun, hended, hW, hsame⟩ := X3.leave (v := some (.ref nnb2_3_3)) (fun h => by rw [Bd.returns] at h; cases h)
  refine ⟨_, _, hG _ (pre7 _ (retOut X3 hx Bd.returns rfl (Or.inr (Or.inr (Or.inr (Or.inr ⟨rfl, rfl, rfl⟩)))) (hb hby d24_11) hr)), hrun, hended, _, _, rfl, ?_, ⟨_, rfl⟩, hW, hsame.mono (by decide) (by decide)⟩
  show QtoArray46 Z o0_ o1_ ko1_ o2_ h0 n0 _ T3.heap _
  rw [e3]
  exact ⟨k2_3_3, nnb2_3_3, rfl, N4, f9, sz6, g3_0, g3_1⟩
theorem d23_6 : decode jdk_38_method_41_code 6 = .ok (.astore_n 2, 1) := by decide +kernel
theorem d23_7 : decode jdk_38_method_41_code 7 = .ok (.aload_n 0, 1) := by decide +kernel
theorem d23_8 : decode jdk_38_method_41_code 8 = .ok (.dup, 1) := by decide +kernel
theorem d23_9 : decode jdk_38_method_41_code 9 = .ok (.getfield 63, 3) := by decide +kernel
theorem d23_12 : decode jdk_38_method_41_code 12 = .ok (.iconst 1, 1) := by decide +kernel
theorem d23_13 : decode jdk_38_method_41_code 13 = .ok (.iadd, 1) := by decide +kernel
theorem d23_14 : decode jdk_38_method_41_code 14 = .ok (.putfield 63, 3) := by decide +kernel
theorem d23_17 : decode jdk_38_method_41_code 17 = .ok (.aload_n 2, 1) := by decide +kernel
theorem d23_18 : decode jdk_38_method_41_code 18 = .ok (.arraylength, 1) := by decide +kernel
theorem d23_19 : decode jdk_38_method_41_code 19 = .ok (.istore_n 3, 1) := by decide +kernel
theorem d23_20 : decode jdk_38_method_41_code 20 = .ok (.iload_n 3, 1) := by decide +kernel
theorem d23_21 : decode jdk_38_method_41_code 21 = .ok (.ifCond .ne 5, 3) := by decide +kernel
theorem d23_24 : decode jdk_38_method_41_code 24 = .ok (.iconst 0, 1) := by decide +kernel
theorem d23_25 : decode jdk_38_method_41_code 25 = .ok (.ireturn, 1) := by decide +kernel
theorem efaddAll43 (m : MethodId) (o0_ : Addr) (o1_ : Addr) : entryFrame m #[(.ref o0_), (.ref o1_)] 6 = mkF m 0 #[lvR o0_, lvR o1_, .unset, .unset, .unset, .unset] [] := by first | (simp [entryFrame, mkF, argsToLocals, Value.category]; done) | rfl
def QaddAll43 (Z : State) (o0_ : Addr) (o1_ : Addr) (o2_ : Addr) (o3_ : Addr) (ko2_ : ClassId) (ko3_ : ClassId) (o4_ : Addr) (h0 : Heap) (n0 : Nat) (v : Option Value) (h : Heap) (L : List Loc) : Prop := v = some (.int (0 : Int32)) ∧ Fr n0 L ∧ Keep h0 h [o0_] ∧ Exa Z h o0_ "java/util/ArrayList" ∧ Fld Z h o0_ "java/util/AbstractList" "modCount" "I" (.int (1 : Int32)) ∧ Fld Z h o0_ "java/util/ArrayList" "elementData" "[Ljava/lang/Object;" (.ref o2_) ∧ Fld Z h o0_ "java/util/ArrayList" "size" "I" (.int (0 : Int32))
set_option maxRecDepth 65536 in
set_option maxHeartbeats 40000000 in
theorem rmaddAll43 (l : Launch) (Z : State) (a0 : Array Value) (hw : ∀ d ∈ tables_1, d.before a0 Z = true) (ws : List Jvm.Cond) (o0_ : Addr) (o1_ : Addr) (o2_ : Addr) (o3_ : Addr) (ko2_ : ClassId) (ko3_ : ClassId) (o4_ : Addr) (h0 : Heap) (n0 : Nat) (O0 : Old Z n0 h0) (P0 : Exa Z h0 o0_ "java/util/ArrayList") (P1 : Fld Z h0 o0_ "java/util/AbstractList" "modCount" "I" (.int (0 : Int32))) (P2 : Fld Z h0 o0_ "java/util/ArrayList" "elementData" "[Ljava/lang/Object;" (.ref o2_)) (P3 : Fld Z h0 o0_ "java/util/ArrayList" "size" "I" (.int (0 : Int32))) (P4 : Exa Z h0 o1_ "java/util/ArrayList") (P5 : Fld Z h0 o1_ "java/util/AbstractList" "modCount" "I" (.int (0 : Int32))) (P6 : Fld Z h0 o1_ "java/util/ArrayList" "elementData" "[Ljava/lang/Object;" (.ref o3_)) (P7 : Fld Z h0 o1_ "java/util/ArrayList" "size" "I" (.int (0 : Int32))) (P8 : Arv Z h0 o2_ ko2_ (.object "java/lang/Object") (1 : Int32) [.null] .null) (P9 : Exa Z h0 o2_ "[Ljava/lang/Object;") (P10 : Exa Z Z.heap o3_ "[Ljava/lang/Object;") (P11 : Arv Z Z.heap o3_ ko3_ (.object "java/lang/Object") (0 : Int32) [] .null) (P12 : Mir Z "[Ljava/lang/Object;" o4_) (P13 : n0 ≤ o0_) :
    MetFree l (⟨"java/util/ArrayList", "addAll", "(Ljava/util/Collection;)Z"⟩ : MethodName) (head1 (Jvm.Cond.code (⟨"java/util/ArrayList", "addAll", "(Ljava/util/Collection;)Z"⟩ : MethodName) jdk_38_method_41_code 6 (some .boolean) :: ws) ({ frames := 4, cells := 1, slots := 0, locals := 58 } : Room)) (fun a U => a = #[(.ref o0_), (.ref o1_)] ∧ Z.Warmed39 U.vm ∧ U.heap = h0) (fun _ _ _ _ _ => True) (fun _ U o U' => ∃ v L, o = .returned v ∧ QaddAll43 Z o0_ o1_ o2_ o3_ ko2_ ko3_ o4_ h0 n0 v U'.heap L ∧ FrameEnd U o U' L ({ frames := 4, cells := 1, slots := 0, locals := 58 } : Room).cells ({ frames := 4, cells := 1, slots := 0, locals := 58 } : Room).slots) := by
  refine MetFree.of_bodySF (plainFor_of_name pn_4) hisR ?_
  intro p e s m args below meth c s₁ Bd hml0 hP hK
  obtain ⟨rfl, hZ, hh⟩ := hP
  have hx := Bd.exec
  have hby := Bd.bytes
  have hml : c.maxLocals = 6 := hml0
  have hown : s.vm.findClass "java/util/ArrayList" = some m.cls := findClass_of_methodNamed Bd.named
  have hnm := (name_of_methodNamed Bd.named Bd.method).1
  have X0 : Stand p l e ({ frames := 4, cells := 1, slots := 0, locals := 58 } : Room) s m #[(.ref o0_), (.ref o1_)] below meth c s₁ [] 0 0 := Stand.of_body Bd
  have e0 : s₁.heap = h0 := by rw [← hh, Bd.state]; rfl
  have N0 := Fr.nil n0
  obtain ⟨G, pre0, hG⟩ : ∃ G : State → Prop, (∀ t, own_S p e below m s₁ 0 #[lvR o0_, lvR o1_, .unset, .unset, .unset, .unset] [] t → G t) ∧ (∀ t, G t → Steps p.tables e below (s₁.setTop (entryFrame m #[(.ref o0_), (.ref o1_)] 6)) t) := ⟨fun t => Steps p.tables e below (s₁.setTop (entryFrame m #[(.ref o0_), (.ref o1_)] 6)) t, fun t k => castTop (efaddAll43 m o0_ o1_) k, fun _ k => k⟩
  have K0 : Keep h0 h0 [o0_] := Keep.refl _ _
  obtain ⟨cq1, kq1, q1a, q1b, q1c⟩ := isOf hZ e0 P4
  obtain ⟨_, _, ⟨T1, L1, k1, n1⟩, -, X1, ⟨Lc1, hQ1, l1, y1, z1⟩, st1⟩ := X0.interfaceBack hx (xi := (⟨"java/util/Collection", "toArray", "()[Ljava/lang/Object;"⟩ : MethodName)) (y := (⟨"java/util/ArrayList", "toArray", "()[Ljava/lang/Object;"⟩ : MethodName)) hown (mvT hZ (own_w hw 126 rfl)) (mvT hZ (own_w hw 127 rfl)) (mvT hZ (own_w hw 128 rfl)) (mvT hZ (own_w hw 129 rfl)) (mvT hZ (own_w hw 130 rfl)) (mvT hZ (own_w hw 131 rfl)) (mvT hZ (own_w hw 132 rfl)) (mvT hZ (own_w hw 133 rfl)) (by decide) (backOf (W := 0) (rmtoArray46 l Z a0 hw [] o1_ o3_ ko3_ o4_ h0 n0 O0 P4 P5 P6 P7 P10 P11 P12) hZ (own_w hw 134 rfl) (own_w hw 32 rfl) (by decide) (by decide)) q1a q1b q1c (g := (mkF m 1 #[lvR o0_, lvR o1_, .unset, .unset, .unset, .unset] [(.ref o1_)])) rfl (by rw [hml]; rfl) (Steps.refl _) (argsL := []) (rest := []) (lenOf pd_7 rfl) rfl (by show 2 * 0 + _ ≤ _; exact Nat.le_of_eq rfl) (hb hby d23_1) (fun _ _ => ⟨rfl, e0, (by decide : 0 + 1 ≤ _), (by decide : 0 + 0 ≤ _)⟩)
  dsimp only [Pt.U, Pt.locs, Pt.cells, Pt.slots] at X1 l1 y1 z1 st1 hQ1
  subst l1 y1 z1
  obtain ⟨h1, e1⟩ : ∃ z, T1.heap = z := ⟨_, rfl⟩
  rw [e1] at hQ1
  obtain ⟨k2_3_3_1, nnnb2_3_3_1, rfl, N1q, K1, sznnnb2_3_3_1, g1_0, g1_1⟩ := hQ1
  have N2 := Fr.app N0 N1q
  have ge3 : n0 ≤ nnnb2_3_3_1 := Nat.le_trans (Nat.le_trans (Nat.le_of_eq O0.1.symm) O0.2.1) sznnnb2_3_3_1
  have sz4 : h0.size ≤ nnnb2_3_3_1 := Nat.le_trans K0.1 sznnnb2_3_3_1
  have f5 : Fld Z h1 o0_ "java/util/AbstractList" "modCount" "I" (.int (0 : Int32)) := P1.keep K1 nin0
  obtain ⟨T6, X6, e6, st6⟩ := getF X1 hx hZ hown (host := "") (Or.inl (own_w hw 59 rfl)) (Via.of (own_w hw 60 rfl)) e1 f5 (g := (mkF m 9 #[lvR o0_, lvR o1_, lvR nnnb2_3_3_1, .unset, .unset, .unset] [(.ref o0_), (.ref o0_)])) rfl rfl (hb hby d23_9)
  have f7 : Exa Z h1 o0_ "java/util/ArrayList" := P0.keep K1
  obtain ⟨T8, h8, X8, e8, W8, st8⟩ := putF X6 hx hZ hown (host := "") (Or.inl (own_w hw 59 rfl)) (Via.of (own_w hw 60 rfl)) e6 f5 f7 (Or.inl (own_w hw 50 rfl)) (own_w hw 31 rfl) (ty := .int) (by decide) rfl rfl (g := (mkF m 14 #[lvR o0_, lvR o1_, lvR nnnb2_3_3_1, .unset, .unset, .unset] [(.int (1 : Int32)), (.ref o0_)])) rfl rfl (hb hby d23_14)
  have N9 := Fr.snoc X8 N2 P13
  have f10 : Fld Z h8 o0_ "java/util/AbstractList" "modCount" "I" (.int (1 : Int32)) := f5.same W8
  have ne13 : o0_ ≠ nnnb2_3_3_1 := Nat.ne_of_lt (Nat.lt_of_lt_of_le P0.lt sznnnb2_3_3_1)
  have f12 : Arv Z h8 nnnb2_3_3_1 k2_3_3_1 (.object "java/lang/Object") (0 : Int32) [] .null := g1_0.other W8 (Ne.symm ne13)
  obtain ⟨c11, r11, q11, s11, z11, y11, G11⟩ := id f12
  have pre14 : ∀ t, own_S p e below m T8 25 #[lvR o0_, lvR o1_, lvR nnnb2_3_3_1, lvI (0 : Int32), .unset, .unset] [(.int (0 : Int32))] t → G t := by
    intro t kt
    refine pre0 t ?_
    show own_S p e below m s₁ 0 #[lvR o0_, lvR o1_, .unset, .unset, .unset, .unset] [] _
    refine XS.aloadN X0.here hx rfl (hb hby d23_0) rfl rfl ?_
    show own_S p e below m s₁ 1 #[lvR o0_, lvR o1_, .unset, .unset, .unset, .unset] [(.ref o1_)] _
    refine st1.trans ?_
    refine XS.astoreN X1.here hx rfl (hb hby d23_6) rfl rfl (l' := #[lvR o0_, lvR o1_, lvR nnnb2_3_3_1, .unset, .unset, .unset]) rfl ?_
    refine XS.aloadN X1.here hx rfl (hb hby d23_7) rfl rfl ?_
    refine XS.dup X1.here hx rfl (hb hby d23_8) rfl rfl ?_
    show own_S p e below m T1 9 #[lvR o0_, lvR o1_, lvR nnnb2_3_3_1, .unset, .unset, .unset] [(.ref o0_), (.ref o0_)] _
    refine st6 _ ?_
    refine XS.iconst X6.here hx rfl (hb hby d23_12) ?_
    refine XS.iadd X6.here hx rfl (hb hby d23_13) rfl ?_
    show own_S p e below m T6 14 #[lvR o0_, lvR o1_, lvR nnnb2_3_3_1, .unset, .unset, .unset] [(.int (1 : Int32)), (.ref o0_)] _
    refine st8 _ ?_
    refine XS.aloadN X8.here hx rfl (hb hby d23_17) rfl rfl ?_
    show own_S p e below m T8 18 #[lvR o0_, lvR o1_, lvR nnnb2_3_3_1, .unset, .unset, .unset] [(.ref nnnb2_3_3_1)] _
    refine X8.arraylength hx (by rw [e8]; exact r11.1) (State.isArrayOf_alike hZ.alike r11.2.1) (g := (mkF m 18 #[lvR o0_, lvR o1_, lvR nnnb2_3_3_1, .unset, .unset, .unset] [(.ref nnnb2_3_3_1)])) rfl rfl (hb hby d23_18) _ ?_
    rw [len_of s11 z11]
    refine XS.istoreN X8.here hx rfl (hb hby d23_19) rfl (l' := #[lvR o0_, lvR o1_, lvR nnnb2_3_3_1, lvI (0 : Int32), .unset, .unset]) rfl ?_
    refine XS.iloadN X8.here hx rfl (hb hby d23_20) rfl ?_
    show own_S p e below m T8 21 #[lvR o0_, lvR o1_, lvR nnnb2_3_3_1, lvI (0 : Int32), .unset, .unset] [(.int (0 : Int32))] _
    refine XS.ifNo X8.here hx rfl (hb hby d23_21) rfl ((if0 _ _).trans (teq (by decide : (0 : Int32) = (0 : Int32))).2) ?_
    refine XS.iconst X8.here hx rfl (hb hby d23_24) ?_
    exact kt
  have f16 : Keep h0 h1 [o0_] := K0.trans K1 all0
  have f17 : Keep h0 h8 [o0_] := f16.wr W8 (Or.inl (List.mem_of_getElem? (i := 0) rfl))
  have f18 : Exa Z h8 o0_ "java/util/ArrayList" := f7.wr W8
  have f19 : Fld Z h1 o0_ "java/util/ArrayList" "elementData" "[Ljava/lang/Object;" (.ref o2_) := P2.keep K1 nin0
  have f20 : Fld Z h8 o0_ "java/util/ArrayList" "elementData" "[Ljava/lang/Object;" (.ref o2_) := f19.other W8 (Or.inr (slot_ne (Or.inl (own_w hw 53 rfl)) (Or.inl (own_w hw 50 rfl)) (by decide) (t := (.array (.object "java/lang/Object"))) (t' := .int) (by decide) (by decide)))
  have f21 : Fld Z h1 o0_ "java/util/ArrayList" "size" "I" (.int (0 : Int32)) := P3.keep K1 nin0
  have f22 : Fld Z h8 o0_ "java/util/ArrayList" "size" "I" (.int (0 : Int32)) := f21.other W8 (Or.inr (slot_ne (Or.inl (own_w hw 62 rfl)) (Or.inl (own_w hw 50 rfl)) (by decide) (t := .int) (t' := .int) (by decide) (by decide)))
  obtain ⟨fs, hr, hrun, hended, hW, hsame⟩ := X8.leave (v := some (.int (0 : Int32))) (fun h => by rw [Bd.returns] at h; cases h)
  refine ⟨_, _, hG _ (pre14 _ (retN X8 hx (t := .boolean) Bd.returns (by simp) (hb hby d23_25) hr)), hrun, hended, _, _, rfl, ?_, ⟨_, rfl⟩, hW, hsame.mono (by decide) (by decide)⟩
  show QaddAll43 Z o0_ o1_ o2_ o3_ ko2_ ko3_ o4_ h0 n0 _ T8.heap _
  rw [e8]
  exact ⟨rfl, N9, f17, f18, f10, f20, f22⟩
theorem pd_18 : parseMethodDescriptor "(Ljava/util/Collection;)Z" = some ⟨[(.object "java/util/Collection")], some .boolean⟩ := by decide +kernel
theorem d14_76 : decode prog_17_method_8_code 76 = .ok (.pop, 1) := by decide +kernel
theorem d14_77 : decode prog_17_method_8_code 77 = .ok (.aload_n 3, 1) := by decide +kernel
theorem d14_78 : decode prog_17_method_8_code 78 = .ok (.aload_n 2, 1) := by decide +kernel
theorem d14_79 : decode prog_17_method_8_code 79 = .ok (.invokevirtual 67, 3) := by decide +kernel
theorem d27_9 : decode jdk_29_method_69_code 9 = .ok (.iload_n 1, 1) := by decide +kernel
theorem efmin58 (m : MethodId)  : entryFrame m #[(.int (10 : Int32)), (.int (1 : Int32))] 2 = mkF m 0 #[lvI (10 : Int32), lvI (1 : Int32)] [] := by first | (simp [entryFrame, mkF, argsToLocals, Value.category]; done) | rfl
def Qmin58 (Z : State)  (h0 : Heap) (n0 : Nat) (v : Option Value) (h : Heap) (L : List Loc) : Prop := v = some (.int (1 : Int32)) ∧ Fr n0 L ∧ h = h0
set_option maxRecDepth 65536 in
set_option maxHeartbeats 40000000 in
theorem rmmin58 (l : Launch) (Z : State) (a0 : Array Value) (hw : ∀ d ∈ tables_1, d.before a0 Z = true) (ws : List Jvm.Cond)  (h0 : Heap) (n0 : Nat) (O0 : Old Z n0 h0)  :
    MetFree l (⟨"java/lang/Math", "min", "(II)I"⟩ : MethodName) (head1 (Jvm.Cond.code (⟨"java/lang/Math", "min", "(II)I"⟩ : MethodName) jdk_29_method_69_code 2 (some .int) :: ws) ({ frames := 0, cells := 0, slots := 0, locals := 0 } : Room)) (fun a U => a = #[(.int (10 : Int32)), (.int (1 : Int32))] ∧ Z.Warmed39 U.vm ∧ U.heap = h0) (fun _ _ _ _ _ => True) (fun _ U o U' => ∃ v L, o = .returned v ∧ Qmin58 Z  h0 n0 v U'.heap L ∧ FrameEnd U o U' L ({ frames := 0, cells := 0, slots := 0, locals := 0 } : Room).cells ({ frames := 0, cells := 0, slots := 0, locals := 0 } : Room).slots) := by
  refine MetFree.of_bodySF (Jvm.Free.JP.mathPlain rfl (by decide +kernel)) hisR ?_
  intro p e s m args below meth c s₁ Bd hml0 hP hK
  obtain ⟨rfl, hZ, hh⟩ := hP
  have hx := Bd.exec
  have hby := Bd.bytes
  have hml : c.maxLocals = 2 := hml0
  have hown : s.vm.findClass "java/lang/Math" = some m.cls := findClass_of_methodNamed Bd.named
  have hnm := (name_of_methodNamed Bd.named Bd.method).1
  have X0 : Stand p l e ({ frames := 0, cells := 0, slots := 0, locals := 0 } : Room) s m #[(.int (10 : Int32)), (.int (1 : Int32))] below meth c s₁ [] 0 0 := Stand.of_body Bd
  have e0 : s₁.heap = h0 := by rw [← hh, Bd.state]; rfl
  have N0 := Fr.nil n0
  obtain ⟨G, pre0, hG⟩ : ∃ G : State → Prop, (∀ t, own_S p e below m s₁ 0 #[lvI (10 : Int32), lvI (1 : Int32)] [] t → G t) ∧ (∀ t, G t → Steps p.tables e below (s₁.setTop (entryFrame m #[(.int (10 : Int32)), (.int (1 : Int32))] 2)) t) := ⟨fun t => Steps p.tables e below (s₁.setTop (entryFrame m #[(.int (10 : Int32)), (.int (1 : Int32))] 2)) t, fun t k => castTop (efmin58 m ) k, fun _ k => k⟩
  have K0 : Keep h0 h0 [] := Keep.refl _ _
  have pre1 : ∀ t, own_S p e below m s₁ 10 #[lvI (10 : Int32), lvI (1 : Int32)] [(.int (1 : Int32))] t → G t := by
    intro t kt
    refine pre0 t ?_
    show own_S p e below m s₁ 0 #[lvI (10 : Int32), lvI (1 : Int32)] [] _
    refine XS.iloadN X0.here hx rfl (hb hby d27_0) rfl ?_
    refine XS.iloadN X0.here hx rfl (hb hby d27_1) rfl ?_
    show own_S p e below m s₁ 2 #[lvI (10 : Int32), lvI (1 : Int32)] [(.int (1 : Int32)), (.int (10 : Int32))] _
    refine XS.icmpYes X0.here hx rfl (pc0 := 2) (pc' := 9) rfl (hb hby d27_2) rfl (tlt (by decide : (1 : Int32) < (10 : Int32))).2.2.1 (by decide) (by decide) ?_
    refine XS.iloadN X0.here hx rfl (hb hby d27_9) rfl ?_
    exact kt
  obtain ⟨fs, hr, hrun, hended, hW, hsame⟩ := X0.leave (v := some (.int (1 : Int32))) (fun h => by rw [Bd.returns] at h; cases h)
  refine ⟨_, _, hG _ (pre1 _ (retOut X0 hx Bd.returns rfl (Or.inl ⟨rfl, Or.inl rfl, _, rfl⟩) (hb hby d27_10) hr)), hrun, hended, _, _, rfl, ?_, ⟨_, rfl⟩, hW, hsame.mono (by decide) (by decide)⟩
  show Qmin58 Z  h0 n0 _ s₁.heap _
  rw [e0]
  exact ⟨rfl, N0, rfl⟩
theorem efcopyOf57 (m : MethodId) (o0_ : Addr) (o1_ : Addr) : entryFrame m #[(.ref o0_), (.int (1 : Int32)), (.ref o1_)] 4 = mkF m 0 #[lvR o0_, lvI (1 : Int32), lvR o1_, .unset] [] := by first | (simp [entryFrame, mkF, argsToLocals, Value.category]; done) | rfl
def QcopyOf57 (Z : State) (o0_ : Addr) (o1_ : Addr) (ko0_ : ClassId) (o2_ : Addr) (o3_ : Addr) (ko3_ : ClassId) (x0_ : Int32) (h0 : Heap) (n0 : Nat) (v : Option Value) (h : Heap) (L : List Loc) : Prop := ∃ k2 : ClassId, ∃ nb2 : Addr, v = some (.ref nb2) ∧ Fr n0 L ∧ Keep h0 h [] ∧ h0.size ≤ nb2 ∧ Arv Z h nb2 k2 (.object "java/lang/Object") (1 : Int32) [(.ref o2_)] .null ∧ Exa Z h nb2 "[Ljava/lang/Object;"
set_option maxRecDepth 65536 in
set_option maxHeartbeats 40000000 in
theorem rmcopyOf57 (l : Launch) (Z : State) (a0 : Array Value) (hw : ∀ d ∈ tables_1, d.before a0 Z = true) (ws : List Jvm.Cond) (o0_ : Addr) (o1_ : Addr) (ko0_ : ClassId) (o2_ : Addr) (o3_ : Addr) (ko3_ : ClassId) (x0_ : Int32) (h0 : Heap) (n0 : Nat) (O0 : Old Z n0 h0) (P0 : Arv Z h0 o0_ ko0_ (.object "java/lang/Object") (10 : Int32) [(.ref o2_), .null, .null, .null, .null, .null, .null, .null, .null, .null] .null) (P1 : Exa Z h0 o0_ "[Ljava/lang/Object;") (P2 : Exa Z h0 o2_ "java/lang/String") (P3 : Fld Z h0 o2_ "java/lang/String" "value" "[B" (.ref o3_)) (P4 : Fld Z h0 o2_ "java/lang/String" "coder" "B" (.int (0 : Int32))) (P5 : Arv Z h0 o3_ ko3_ .byte (1 : Int32) [(.int x0_)] (.int (0 : Int32))) (P6 : Exa Z h0 o3_ "[B") (P7 : Mir Z "[Ljava/lang/Object;" o1_) :
    MetFree l mn6 (head1 (Jvm.Cond.code mn6 jdk_65_method_120_code 4 (some (.array (.object "java/lang/Object"))) :: ws) ({ frames := 1, cells := 1, slots := 1, locals := 18 } : Room)) (fun a U => a = #[(.ref o0_), (.int (1 : Int32)), (.ref o1_)] ∧ Z.Warmed39 U.vm ∧ U.heap = h0) (fun _ _ _ _ _ => True) (fun _ U o U' => ∃ v L, o = .returned v ∧ QcopyOf57 Z o0_ o1_ ko0_ o2_ o3_ ko3_ x0_ h0 n0 v U'.heap L ∧ FrameEnd U o U' L ({ frames := 1, cells := 1, slots := 1, locals := 18 } : Room).cells ({ frames := 1, cells := 1, slots := 1, locals := 18 } : Room).slots) := by
  refine MetFree.of_bodySF (plainFor_of_name pn_9) hisR ?_
  intro p e s m args below meth c s₁ Bd hml0 hP hK
  obtain ⟨rfl, hZ, hh⟩ := hP
  have hx := Bd.exec
  have hby := Bd.bytes
  have hml : c.maxLocals = 4 := hml0
  have hown : s.vm.findClass "java/util/Arrays" = some m.cls := findClass_of_methodNamed Bd.named
  have hnm := (name_of_methodNamed Bd.named Bd.method).1
  have X0 : Stand p l e ({ frames := 1, cells := 1, slots := 1, locals := 18 } : Room) s m #[(.ref o0_), (.int (1 : Int32)), (.ref o1_)] below meth c s₁ [] 0 0 := Stand.of_body Bd
  have e0 : s₁.heap = h0 := by rw [← hh, Bd.state]; rfl
  have N0 := Fr.nil n0
  obtain ⟨G, pre0, hG⟩ : ∃ G : State → Prop, (∀ t, own_S p e below m s₁ 0 #[lvR o0_, lvI (1 : Int32), lvR o1_, .unset] [] t → G t) ∧ (∀ t, G t → Steps p.tables e below (s₁.setTop (entryFrame m #[(.ref o0_), (.int (1 : Int32)), (.ref o1_)] 4)) t) := ⟨fun t => Steps p.tables e below (s₁.setTop (entryFrame m #[(.ref o0_), (.int (1 : Int32)), (.ref o1_)] 4)) t, fun t k => castTop (efcopyOf57 m o0_ o1_) k, fun _ k => k⟩
  have K0 : Keep h0 h0 [] := Keep.refl _ _
  obtain ⟨T1, X1, e1, st1⟩ := own_ldcM X0 hx hZ hown (own_w hw 148 rfl) e0 P7 (g := (mkF m 1 #[lvR o0_, lvI (1 : Int32), lvR o1_, .unset] [(.ref o1_)])) rfl (hb hby d26_1)
  obtain ⟨T2, h2, k2, X2, e2, E2, A2, Z2, O2, st2⟩ := newRE X1 hx hZ hown (own_w hw 149 rfl) (own_w hw 83 rfl) e1 (g := (mkF m 7 #[lvR o0_, lvI (1 : Int32), lvR o1_, .unset] [(.int (1 : Int32))])) rfl (hb hby d26_7) rfl (by decide) (cap := 1) (by decide) (by decide) (by decide) (by decide) (ad := "[Ljava/lang/Object;") (by decide)
  obtain ⟨b2, g2⟩ : ∃ z, z = h0.size := ⟨_, rfl⟩
  rw [← g2] at A2 Z2 st2
  have ge3 : n0 ≤ b2 := Nat.le_trans (Nat.le_trans (Nat.le_of_eq O0.1.symm) O0.2.1) (Nat.le_of_eq g2.symm)
  have sz4 : h0.size ≤ b2 := Nat.le_trans K0.1 (Nat.le_of_eq g2.symm)
  have f5 : Arv Z h2 b2 k2 (.object "java/lang/Object") (1 : Int32) [.null] .null := (Arv.new A2 (by decide)).pad (pad_rep [] .null 1)
  have f7 : Arv Z h2 o0_ ko0_ (.object "java/lang/Object") (10 : Int32) [(.ref o2_), .null, .null, .null, .null, .null, .null, .null, .null, .null] .null := P0.ext E2
  obtain ⟨c6, r6, q6, s6, z6, y6, G6⟩ := id f7
  have f9 : Old Z n0 h2 := O0.ext E2
  obtain ⟨_, _, ⟨T8, L8, k8, n8⟩, -, X8, ⟨Lc8, hQ8, l8, y8, z8⟩, st8⟩ := Jvm.LawKit.callS X2 hx (y := (⟨"java/lang/Math", "min", "(II)I"⟩ : MethodName)) hown (mvT hZ (own_w hw 150 rfl)) (mvT hZ (own_w hw 151 rfl)) (mvT hZ (own_w hw 80 rfl)) (mvT hZ (own_w hw 152 rfl)) (by decide) (backOf (W := 4) (rmmin58 l Z a0 hw []  h2 n0 f9 ) hZ (own_w hw 152 rfl) (own_w hw 80 rfl) (by decide) (by decide)) (g := (mkF m 32 #[lvR o0_, lvI (1 : Int32), lvR o1_, lvR b2] [(.int (1 : Int32)), (.int (10 : Int32)), (.int (0 : Int32)), (.ref b2), (.int (0 : Int32)), (.ref o0_)])) rfl (by rw [hml]; rfl) (argsL := [(.int (10 : Int32)), (.int (1 : Int32))]) (rest := [(.int (0 : Int32)), (.ref b2), (.int (0 : Int32)), (.ref o0_)]) (lenOf pd_5 rfl) rfl (by show 2 * 0 + _ ≤ _; exact Nat.le_of_eq rfl) (hb hby d26_32) (fun _ _ => ⟨rfl, e2, (by decide : 1 + 0 ≤ _), (by decide : 1 + 0 ≤ _)⟩)
  dsimp only [Pt.U, Pt.locs, Pt.cells, Pt.slots] at X8 l8 y8 z8 st8 hQ8
  subst l8 y8 z8
  obtain ⟨h8, e8⟩ : ∃ z, T8.heap = z := ⟨_, rfl⟩
  rw [e8] at hQ8
  obtain ⟨rfl, N8q, hh8⟩ := hQ8
  have N10 := Fr.app N0 N8q
  have e8' : T8.heap = h2 := e8.trans hh8
  obtain ⟨c11, r11, q11, s11, z11, y11, G11⟩ := id f5
  have f12 : Exa Z h2 o2_ "java/lang/String" := P2.ext E2
  obtain ⟨T11, h11, L11, X11, e11, N11, K11, V11, st11⟩ := cpA (us := [(.ref o2_)]) X8 hx hZ hown (own_w hw 153 rfl) (own_w hw 156 rfl) (own_w hw 154 rfl) (own_w hw 155 rfl) e8' f7 f5 (Or.inr ⟨rfl, rfl, ⟨Sto.of r11 (own_ovr (own_w hw 83 rfl) Z2 r11.1 (by decide)) (Ins.of_exa f12 (own_w hw 84 rfl)), trivial⟩⟩) (sp := (0 : Int32)) (dp := (0 : Int32)) (nn := (1 : Int32)) (by decide) (by decide) (by decide) (by decide) (by decide) rfl (Nat.le_of_ble_eq_true rfl) N10 ge3 (g := (mkF m 35 #[lvR o0_, lvI (1 : Int32), lvR o1_, lvR b2] [(.int (1 : Int32)), (.int (0 : Int32)), (.ref b2), (.int (0 : Int32)), (.ref o0_)])) rfl (by rw [hml]; rfl) rfl (hb hby d26_35) (by decide) (W := 0) (by show 2 * 0 + _ ≤ _; exact Nat.le_of_eq rfl) (by decide)
  have f13 : Arv Z h11 b2 k2 (.object "java/lang/Object") (1 : Int32) [(.ref o2_)] .null := V11
  have pre14 : ∀ t, own_S p e below m T11 39 #[lvR o0_, lvI (1 : Int32), lvR o1_, lvR b2] [(.ref b2)] t → G t := by
    intro t kt
    refine pre0 t ?_
    show own_S p e below m s₁ 0 #[lvR o0_, lvI (1 : Int32), lvR o1_, .unset] [] _
    refine XS.aloadN X0.here hx rfl (hb hby d26_0) rfl rfl ?_
    show own_S p e below m s₁ 1 #[lvR o0_, lvI (1 : Int32), lvR o1_, .unset] [(.ref o1_)] _
    refine st1 _ ?_
    show own_S p e below m T1 3 #[lvR o0_, lvI (1 : Int32), lvR o1_, .unset] [(.ref o1_), (.ref o1_)] _
    refine Jvm.RoadKit.acmp (g := (mkF m 3 #[lvR o0_, lvI (1 : Int32), lvR o1_, .unset] [(.ref o1_), (.ref o1_)])) X1 hx rfl rfl rfl (pc0 := 3) (pc' := 6) (same := true) rfl (hb hby d26_3) rfl (decide_eq_true rfl) (by decide) (by decide) ?_
    refine XS.iloadN X1.here hx rfl (hb hby d26_6) rfl ?_
    show own_S p e below m T1 7 #[lvR o0_, lvI (1 : Int32), lvR o1_, .unset] [(.int (1 : Int32))] _
    refine st2 _ ?_
    refine XS.goto X2.here hx rfl (pc0 := 10) (pc' := 24) rfl (hb hby d26_10) (by decide) (by decide) ?_
    refine XS.astoreN X2.here hx rfl (hb hby d26_24) rfl rfl (l' := #[lvR o0_, lvI (1 : Int32), lvR o1_, lvR b2]) rfl ?_
    refine XS.aloadN X2.here hx rfl (hb hby d26_25) rfl rfl ?_
    refine XS.iconst X2.here hx rfl (hb hby d26_26) ?_
    refine XS.aloadN X2.here hx rfl (hb hby d26_27) rfl rfl ?_
    show own_S p e below m T2 28 #[lvR o0_, lvI (1 : Int32), lvR o1_, lvR b2] [(.ref b2), (.int (0 : Int32)), (.ref o0_)] _
    refine XS.iconst X2.here hx rfl (hb hby d26_28) ?_
    refine XS.aloadN X2.here hx rfl (hb hby d26_29) rfl rfl ?_
    show own_S p e below m T2 30 #[lvR o0_, lvI (1 : Int32), lvR o1_, lvR b2] [(.ref o0_), (.int (0 : Int32)), (.ref b2), (.int (0 : Int32)), (.ref o0_)] _
    refine X2.arraylength hx (by rw [e2]; exact r6.1) (State.isArrayOf_alike hZ.alike r6.2.1) (g := (mkF m 30 #[lvR o0_, lvI (1 : Int32), lvR o1_, lvR b2] [(.ref o0_), (.int (0 : Int32)), (.ref b2), (.int (0 : Int32)), (.ref o0_)])) rfl rfl (hb hby d26_30) _ ?_
    rw [len_of s6 z6]
    refine XS.iloadN X2.here hx rfl (hb hby d26_31) rfl ?_
    show own_S p e below m T2 32 #[lvR o0_, lvI (1 : Int32), lvR o1_, lvR b2] [(.int (1 : Int32)), (.int (10 : Int32)), (.int (0 : Int32)), (.ref b2), (.int (0 : Int32)), (.ref o0_)] _
    refine st8 _ ?_
    show own_S p e below m T8 35 #[lvR o0_, lvI (1 : Int32), lvR o1_, lvR b2] [(.int (1 : Int32)), (.int (0 : Int32)), (.ref b2), (.int (0 : Int32)), (.ref o0_)] _
    refine st11 _ ?_
    refine XS.aloadN X11.here hx rfl (hb hby d26_38) rfl rfl ?_
    exact kt
  have f16 : Keep h0 h2 [] := K0.ext E2
  have f17 : Keep h0 h11 [] := f16.trans K11 (allS (Or.inr sz4) all0)
  have f18 : Exa Z h11 b2 "[Ljava/lang/Object;" := Z2.keep K11
  obtain ⟨fs, hr, hrun, hended, hW, hsame⟩ := X11.leave (v := some (.ref b2)) (fun h => by rw [Bd.returns] at h; cases h)
  refine ⟨_, _, hG _ (pre14 _ (retOut X11 hx Bd.returns rfl (Or.inr (Or.inr (Or.inr (Or.inr ⟨rfl, rfl, rfl⟩)))) (hb hby d26_39) hr)), hrun, hended, _, _, rfl, ?_, ⟨_, rfl⟩, hW, hsame.mono (by decide) (by decide)⟩
  show QcopyOf57 Z o0_ o1_ ko0_ o2_ o3_ ko3_ x0_ h0 n0 _ T11.heap _
  rw [e11]
  exact ⟨k2, b2, rfl, N11, f17, sz4, f13, f18⟩
theorem efcopyOf56 (m : MethodId) (o0_ : Addr) : entryFrame m #[(.ref o0_), (.int (1 : Int32))] 2 = mkF m 0 #[lvR o0_, lvI (1 : Int32)] [] := by first | (simp [entryFrame, mkF, argsToLocals, Value.category]; done) | rfl
def QcopyOf56 (Z : State) (o0_ : Addr) (ko0_ : ClassId) (o1_ : Addr) (o2_ : Addr) (ko2_ : ClassId) (x0_ : Int32) (o3_ : Addr) (h0 : Heap) (n0 : Nat) (v : Option Value) (h : Heap) (L : List Loc) : Prop := ∃ k2_2 : ClassId, ∃ nnb2_2 : Addr, v = some (.ref nnb2_2) ∧ Fr n0 L ∧ Keep h0 h [] ∧ h0.size ≤ nnb2_2 ∧ Arv Z h nnb2_2 k2_2 (.object "java/lang/Object") (1 : Int32) [(.ref o1_)] .null ∧ Exa Z h nnb2_2 "[Ljava/lang/Object;"
set_option maxRecDepth 65536 in
set_option maxHeartbeats 40000000 in
theorem rmcopyOf56 (l : Launch) (Z : State) (a0 : Array Value) (hw : ∀ d ∈ tables_1, d.before a0 Z = true) (ws : List Jvm.Cond) (o0_ : Addr) (ko0_ : ClassId) (o1_ : Addr) (o2_ : Addr) (ko2_ : ClassId) (x0_ : Int32) (o3_ : Addr) (h0 : Heap) (n0 : Nat) (O0 : Old Z n0 h0) (P0 : Arv Z h0 o0_ ko0_ (.object "java/lang/Object") (10 : Int32) [(.ref o1_), .null, .null, .null, .null, .null, .null, .null, .null, .null] .null) (P1 : Exa Z h0 o0_ "[Ljava/lang/Object;") (P2 : Exa Z h0 o1_ "java/lang/String") (P3 : Fld Z h0 o1_ "java/lang/String" "value" "[B" (.ref o2_)) (P4 : Fld Z h0 o1_ "java/lang/String" "coder" "B" (.int (0 : Int32))) (P5 : Arv Z h0 o2_ ko2_ .byte (1 : Int32) [(.int x0_)] (.int (0 : Int32))) (P6 : Exa Z h0 o2_ "[B") (P7 : Mir Z "[Ljava/lang/Object;" o3_) :
    MetFree l mn7 (head1 (Jvm.Cond.code mn7 jdk_65_method_119_code 2 (some (.array (.object "java/lang/Object"))) :: ws) ({ frames := 2, cells := 1, slots := 1, locals := 33 } : Room)) (fun a U => a = #[(.ref o0_), (.int (1 : Int32))] ∧ Z.Warmed39 U.vm ∧ U.heap = h0) (fun _ _ _ _ _ => True) (fun _ U o U' => ∃ v L, o = .returned v ∧ QcopyOf56 Z o0_ ko0_ o1_ o2_ ko2_ x0_ o3_ h0 n0 v U'.heap L ∧ FrameEnd U o U' L ({ frames := 2, cells := 1, slots := 1, locals := 33 } : Room).cells ({ frames := 2, cells := 1, slots := 1, locals := 33 } : Room).slots) := by
  refine MetFree.of_bodySF (plainFor_of_name pn_9) hisR ?_
  intro p e s m args below meth c s₁ Bd hml0 hP hK
  obtain ⟨rfl, hZ, hh⟩ := hP
  have hx := Bd.exec
  have hby := Bd.bytes
  have hml : c.maxLocals = 2 := hml0
  have hown : s.vm.findClass "java/util/Arrays" = some m.cls := findClass_of_methodNamed Bd.named
  have hnm := (name_of_methodNamed Bd.named Bd.method).1
  have X0 : Stand p l e ({ frames := 2, cells := 1, slots := 1, locals := 33 } : Room) s m #[(.ref o0_), (.int (1 : Int32))] below meth c s₁ [] 0 0 := Stand.of_body Bd
  have e0 : s₁.heap = h0 := by rw [← hh, Bd.state]; rfl
  have N0 := Fr.nil n0
  obtain ⟨G, pre0, hG⟩ : ∃ G : State → Prop, (∀ t, own_S p e below m s₁ 0 #[lvR o0_, lvI (1 : Int32)] [] t → G t) ∧ (∀ t, G t → Steps p.tables e below (s₁.setTop (entryFrame m #[(.ref o0_), (.int (1 : Int32))] 2)) t) := ⟨fun t => Steps p.tables e below (s₁.setTop (entryFrame m #[(.ref o0_), (.int (1 : Int32))] 2)) t, fun t k => castTop (efcopyOf56 m o0_) k, fun _ k => k⟩
  have K0 : Keep h0 h0 [] := Keep.refl _ _
  obtain ⟨T1, X1, e1, st1⟩ := own_gcls X0 hx hZ hown (own_w hw 139 rfl) (own_w hw 140 rfl) (own_w hw 142 rfl) (own_w hw 141 rfl) (own_w hw 143 rfl) e0 P1 P7 (g := (mkF m 3 #[lvR o0_, lvI (1 : Int32)] [(.ref o0_), (.int (1 : Int32)), (.ref o0_)])) rfl (by rw [hml]; rfl) rfl (hb hby d25_3) (by decide) (W := 2) (by show 2 * 0 + _ ≤ _; exact Nat.le_of_eq rfl) (by decide)
  obtain ⟨_, _, ⟨T2, L2, k2, n2⟩, -, X2, ⟨Lc2, hQ2, l2, y2, z2⟩, st2⟩ := Jvm.LawKit.callS X1 hx (y := mn6) hown (mvT hZ (own_w hw 145 rfl)) (mvT hZ (own_w hw 146 rfl)) (mvT hZ (own_w hw 137 rfl)) (mvT hZ (own_w hw 147 rfl)) (by decide) (backOf (W := 0) (rmcopyOf57 l Z a0 hw [] o0_ o3_ ko0_ o1_ o2_ ko2_ x0_ h0 n0 O0 P0 P1 P2 P3 P4 P5 P6 P7) hZ (own_w hw 147 rfl) (own_w hw 137 rfl) (by decide) (by decide)) (g := (mkF m 6 #[lvR o0_, lvI (1 : Int32)] [(.ref o3_), (.int (1 : Int32)), (.ref o0_)])) rfl (by rw [hml]; rfl) (argsL := [(.ref o0_), (.int (1 : Int32)), (.ref o3_)]) (rest := []) (lenOf pd_16 rfl) rfl (by show 2 * 0 + _ ≤ _; exact Nat.le_of_eq rfl) (hb hby d25_6) (fun _ _ => ⟨rfl, e1, (by decide : 0 + 1 ≤ _), (by decide : 0 + 1 ≤ _)⟩)
  dsimp only [Pt.U, Pt.locs, Pt.cells, Pt.slots] at X2 l2 y2 z2 st2 hQ2
  subst l2 y2 z2
  obtain ⟨h2, e2⟩ : ∃ z, T2.heap = z := ⟨_, rfl⟩
  rw [e2] at hQ2
  obtain ⟨k2_2, nb2_2, rfl, N2q, K2, sznb2_2, g2_0, g2_1⟩ := hQ2
  have N3 := Fr.app N0 N2q
  have ge4 : n0 ≤ nb2_2 := Nat.le_trans (Nat.le_trans (Nat.le_of_eq O0.1.symm) O0.2.1) sznb2_2
  have sz5 : h0.size ≤ nb2_2 := Nat.le_trans K0.1 sznb2_2
  have pre6 : ∀ t, own_S p e below m T2 9 #[lvR o0_, lvI (1 : Int32)] [(.ref nb2_2)] t → G t := by
    intro t kt
    refine pre0 t ?_
    show own_S p e below m s₁ 0 #[lvR o0_, lvI (1 : Int32)] [] _
    refine XS.aloadN X0.here hx rfl (hb hby d25_0) rfl rfl ?_
    refine XS.iloadN X0.here hx rfl (hb hby d25_1) rfl ?_
    refine XS.aloadN X0.here hx rfl (hb hby d25_2) rfl rfl ?_
    show own_S p e below m s₁ 3 #[lvR o0_, lvI (1 : Int32)] [(.ref o0_), (.int (1 : Int32)), (.ref o0_)] _
    refine st1 _ ?_
    show own_S p e below m T1 6 #[lvR o0_, lvI (1 : Int32)] [(.ref o3_), (.int (1 : Int32)), (.ref o0_)] _
    refine st2 _ ?_
    exact kt
  have f8 : Keep h0 h2 [] := K0.trans K2 all0
  obtain ⟨fs, hr, hrun, hended, hW, hsame⟩ := X2.leave (v := some (.ref nb2_2)) (fun h => by rw [Bd.returns] at h; cases h)
  refine ⟨_, _, hG _ (pre6 _ (retOut X2 hx Bd.returns rfl (Or.inr (Or.inr (Or.inr (Or.inr ⟨rfl, rfl, rfl⟩)))) (hb hby d25_9) hr)), hrun, hended, _, _, rfl, ?_, ⟨_, rfl⟩, hW, hsame.mono (by decide) (by decide)⟩
  show QcopyOf56 Z o0_ ko0_ o1_ o2_ ko2_ x0_ o3_ h0 n0 _ T2.heap _
  rw [e2]
  exact ⟨k2_2, nb2_2, rfl, N3, f8, sz5, g2_0, g2_1⟩
theorem eftoArray54 (m : MethodId) (o0_ : Addr) : entryFrame m #[(.ref o0_)] 1 = mkF m 0 #[lvR o0_] [] := by first | (simp [entryFrame, mkF, argsToLocals, Value.category]; done) | rfl
def QtoArray54 (Z : State) (o0_ : Addr) (o1_ : Addr) (ko1_ : ClassId) (o2_ : Addr) (o3_ : Addr) (ko3_ : ClassId) (x0_ : Int32) (o4_ : Addr) (h0 : Heap) (n0 : Nat) (v : Option Value) (h : Heap) (L : List Loc) : Prop := ∃ k2_2_3 : ClassId, ∃ nnnb2_2_3 : Addr, v = some (.ref nnnb2_2_3) ∧ Fr n0 L ∧ Keep h0 h [] ∧ h0.size ≤ nnnb2_2_3 ∧ Arv Z h nnnb2_2_3 k2_2_3 (.object "java/lang/Object") (1 : Int32) [(.ref o2_)] .null ∧ Exa Z h nnnb2_2_3 "[Ljava/lang/Object;"
set_option maxRecDepth 65536 in
set_option maxHeartbeats 40000000 in
theorem rmtoArray54 (l : Launch) (Z : State) (a0 : Array Value) (hw : ∀ d ∈ tables_1, d.before a0 Z = true) (ws : List Jvm.Cond) (o0_ : Addr) (o1_ : Addr) (ko1_ : ClassId) (o2_ : Addr) (o3_ : Addr) (ko3_ : ClassId) (x0_ : Int32) (o4_ : Addr) (h0 : Heap) (n0 : Nat) (O0 : Old Z n0 h0) (P0 : Exa Z h0 o0_ "java/util/ArrayList") (P1 : Fld Z h0 o0_ "java/util/AbstractList" "modCount" "I" (.int (1 : Int32))) (P2 : Fld Z h0 o0_ "java/util/ArrayList" "elementData" "[Ljava/lang/Object;" (.ref o1_)) (P3 : Fld Z h0 o0_ "java/util/ArrayList" "size" "I" (.int (1 : Int32))) (P4 : Arv Z h0 o1_ ko1_ (.object "java/lang/Object") (10 : Int32) [(.ref o2_), .null, .null, .null, .null, .null, .null, .null, .null, .null] .null) (P5 : Exa Z h0 o1_ "[Ljava/lang/Object;") (P6 : Exa Z h0 o2_ "java/lang/String") (P7 : Fld Z h0 o2_ "java/lang/String" "value" "[B" (.ref o3_)) (P8 : Fld Z h0 o2_ "java/lang/String" "coder" "B" (.int (0 : Int32))) (P9 : Arv Z h0 o3_ ko3_ .byte (1 : Int32) [(.int x0_)] (.int (0 : Int32))) (P10 : Exa Z h0 o3_ "[B") (P11 : Mir Z "[Ljava/lang/Object;" o4_) :
    MetFree l (⟨"java/util/ArrayList", "toArray", "()[Ljava/lang/Object;"⟩ : MethodName) (head1 (Jvm.Cond.code (⟨"java/util/ArrayList", "toArray", "()[Ljava/lang/Object;"⟩ : MethodName) jdk_38_method_16_code 1 (some (.array (.object "java/lang/Object"))) :: ws) ({ frames := 3, cells := 1, slots := 1, locals := 46 } : Room)) (fun a U => a = #[(.ref o0_)] ∧ Z.Warmed39 U.vm ∧ U.heap = h0) (fun _ _ _ _ _ => True) (fun _ U o U' => ∃ v L, o = .returned v ∧ QtoArray54 Z o0_ o1_ ko1_ o2_ o3_ ko3_ x0_ o4_ h0 n0 v U'.heap L ∧ FrameEnd U o U' L ({ frames := 3, cells := 1, slots := 1, locals := 46 } : Room).cells ({ frames := 3, cells := 1, slots := 1, locals := 46 } : Room).slots) := by
  refine MetFree.of_bodySF (plainFor_of_name pn_4) hisR ?_
  intro p e s m args below meth c s₁ Bd hml0 hP hK
  obtain ⟨rfl, hZ, hh⟩ := hP
  have hx := Bd.exec
  have hby := Bd.bytes
  have hml : c.maxLocals = 1 := hml0
  have hown : s.vm.findClass "java/util/ArrayList" = some m.cls := findClass_of_methodNamed Bd.named
  have hnm := (name_of_methodNamed Bd.named Bd.method).1
  have X0 : Stand p l e ({ frames := 3, cells := 1, slots := 1, locals := 46 } : Room) s m #[(.ref o0_)] below meth c s₁ [] 0 0 := Stand.of_body Bd
  have e0 : s₁.heap = h0 := by rw [← hh, Bd.state]; rfl
  have N0 := Fr.nil n0
  obtain ⟨G, pre0, hG⟩ : ∃ G : State → Prop, (∀ t, own_S p e below m s₁ 0 #[lvR o0_] [] t → G t) ∧ (∀ t, G t → Steps p.tables e below (s₁.setTop (entryFrame m #[(.ref o0_)] 1)) t) := ⟨fun t => Steps p.tables e below (s₁.setTop (entryFrame m #[(.ref o0_)] 1)) t, fun t k => castTop (eftoArray54 m o0_) k, fun _ k => k⟩
  have K0 : Keep h0 h0 [] := Keep.refl _ _
  obtain ⟨T1, X1, e1, st1⟩ := getF X0 hx hZ hown (host := "") (Or.inl (own_w hw 52 rfl)) Via.refl e0 P2 (g := (mkF m 1 #[lvR o0_] [(.ref o0_)])) rfl rfl (hb hby d24_1)
  obtain ⟨T2, X2, e2, st2⟩ := getF X1 hx hZ hown (host := "") (Or.inl (own_w hw 61 rfl)) Via.refl e1 P3 (g := (mkF m 5 #[lvR o0_] [(.ref o0_), (.ref o1_)])) rfl rfl (hb hby d24_5)
  obtain ⟨_, _, ⟨T3, L3, k3, n3⟩, -, X3, ⟨Lc3, hQ3, l3, y3, z3⟩, st3⟩ := Jvm.LawKit.callS X2 hx (y := mn7) hown (mvT hZ (own_w hw 135 rfl)) (mvT hZ (own_w hw 136 rfl)) (mvT hZ (own_w hw 137 rfl)) (mvT hZ (own_w hw 138 rfl)) (by decide) (backOf (W := 0) (rmcopyOf56 l Z a0 hw [] o1_ ko1_ o2_ o3_ ko3_ x0_ o4_ h0 n0 O0 P4 P5 P6 P7 P8 P9 P10 P11) hZ (own_w hw 138 rfl) (own_w hw 137 rfl) (by decide) (by decide)) (g := (mkF m 8 #[lvR o0_] [(.int (1 : Int32)), (.ref o1_)])) rfl (by rw [hml]; rfl) (argsL := [(.ref o1_), (.int (1 : Int32))]) (rest := []) (lenOf pd_17 rfl) rfl (by show 2 * 0 + _ ≤ _; exact Nat.le_of_eq rfl) (hb hby d24_8) (fun _ _ => ⟨rfl, e2, (by decide : 0 + 1 ≤ _), (by decide : 0 + 1 ≤ _)⟩)
  dsimp only [Pt.U, Pt.locs, Pt.cells, Pt.slots] at X3 l3 y3 z3 st3 hQ3
  subst l3 y3 z3
  obtain ⟨h3, e3⟩ : ∃ z, T3.heap = z := ⟨_, rfl⟩
  rw [e3] at hQ3
  obtain ⟨k2_2_3, nnb2_2_3, rfl, N3q, K3, sznnb2_2_3, g3_0, g3_1⟩ := hQ3
  have N4 := Fr.app N0 N3q
  have ge5 : n0 ≤ nnb2_2_3 := Nat.le_trans (Nat.le_trans (Nat.le_of_eq O0.1.symm) O0.2.1) sznnb2_2_3
  have sz6 : h0.size ≤ nnb2_2_3 := Nat.le_trans K0.1 sznnb2_2_3
  have pre7 : ∀ t, own_S p e below m T3 11 #[lvR o0_] [(.ref nnb2_2_3)] t → G t := by
    intro t kt
    refine pre0 t ?_
    show own_S p e below m s₁ 0 #[lvR o0_] [] _
    refine XS.aloadN X0.here hx rfl (hb hby d24_0) rfl rfl ?_
    show own_S p e below m s₁ 1 #[lvR o0_] [(.ref o0_)] _
    refine st1 _ ?_
    refine XS.aloadN X1.here hx rfl (hb hby d24_4) rfl rfl ?_
    show own_S p e below m T1 5 #[lvR o0_] [(.ref o0_), (.ref o1_)] _
    refine st2 _ ?_
    show own_S p e below m T2 8 #[lvR o0_] [(.int (1 : Int32)), (.ref o1_)] _
    refine st3 _ ?_
    exact kt
  have f9 : Keep h0 h3 [] := K0.trans K3 all0
  obtain ⟨fs, hr, hrun, hended, hW, hsame⟩ := X3.leave (v := some (.ref nnb2_2_3)) (fun h => by rw [Bd.returns] at h; cases h)
  refine ⟨_, _, hG _ (pre7 _ (retOut X3 hx Bd.returns rfl (Or.inr (Or.inr (Or.inr (Or.inr ⟨rfl, rfl, rfl⟩)))) (hb hby d24_11) hr)), hrun, hended, _, _, rfl, ?_, ⟨_, rfl⟩, hW, hsame.mono (by decide) (by decide)⟩
  show QtoArray54 Z o0_ o1_ ko1_ o2_ o3_ ko3_ x0_ o4_ h0 n0 _ T3.heap _
  rw [e3]
  exact ⟨k2_2_3, nnb2_2_3, rfl, N4, f9, sz6, g3_0, g3_1⟩
theorem d23_26 : decode jdk_38_method_41_code 26 = .ok (.iload_n 3, 1) := by decide +kernel
theorem d23_27 : decode jdk_38_method_41_code 27 = .ok (.aload_n 0, 1) := by decide +kernel
theorem d23_28 : decode jdk_38_method_41_code 28 = .ok (.getfield 9, 3) := by decide +kernel
theorem d23_31 : decode jdk_38_method_41_code 31 = .ok (.dup, 1) := by decide +kernel
theorem d23_32 : decode jdk_38_method_41_code 32 = .ok (.astore 4, 2) := by decide +kernel
theorem d23_34 : decode jdk_38_method_41_code 34 = .ok (.arraylength, 1) := by decide +kernel
theorem d23_35 : decode jdk_38_method_41_code 35 = .ok (.aload_n 0, 1) := by decide +kernel
theorem d23_36 : decode jdk_38_method_41_code 36 = .ok (.getfield 48, 3) := by decide +kernel
theorem d23_39 : decode jdk_38_method_41_code 39 = .ok (.dup, 1) := by decide +kernel
theorem d23_40 : decode jdk_38_method_41_code 40 = .ok (.istore 5, 2) := by decide +kernel
theorem d23_42 : decode jdk_38_method_41_code 42 = .ok (.isub, 1) := by decide +kernel
theorem d23_43 : decode jdk_38_method_41_code 43 = .ok (.if_icmp .le 13, 3) := by decide +kernel
theorem d23_56 : decode jdk_38_method_41_code 56 = .ok (.aload_n 2, 1) := by decide +kernel
theorem d23_57 : decode jdk_38_method_41_code 57 = .ok (.iconst 0, 1) := by decide +kernel
theorem d23_58 : decode jdk_38_method_41_code 58 = .ok (.aload 4, 2) := by decide +kernel
theorem d23_60 : decode jdk_38_method_41_code 60 = .ok (.iload 5, 2) := by decide +kernel
theorem d23_62 : decode jdk_38_method_41_code 62 = .ok (.iload_n 3, 1) := by decide +kernel
theorem d23_63 : decode jdk_38_method_41_code 63 = .ok (.invokestatic 112, 3) := by decide +kernel
theorem d23_66 : decode jdk_38_method_41_code 66 = .ok (.aload_n 0, 1) := by decide +kernel
theorem d23_67 : decode jdk_38_method_41_code 67 = .ok (.iload 5, 2) := by decide +kernel
theorem d23_69 : decode jdk_38_method_41_code 69 = .ok (.iload_n 3, 1) := by decide +kernel
theorem d23_70 : decode jdk_38_method_41_code 70 = .ok (.iadd, 1) := by decide +kernel
theorem d23_71 : decode jdk_38_method_41_code 71 = .ok (.putfield 48, 3) := by decide +kernel
theorem d23_74 : decode jdk_38_method_41_code 74 = .ok (.iconst 1, 1) := by decide +kernel
theorem d23_75 : decode jdk_38_method_41_code 75 = .ok (.ireturn, 1) := by decide +kernel
theorem efaddAll51 (m : MethodId) (o0_ : Addr) (o1_ : Addr) : entryFrame m #[(.ref o0_), (.ref o1_)] 6 = mkF m 0 #[lvR o0_, lvR o1_, .unset, .unset, .unset, .unset] [] := by first | (simp [entryFrame, mkF, argsToLocals, Value.category]; done) | rfl
def QaddAll51 (Z : State) (o0_ : Addr) (o1_ : Addr) (o2_ : Addr) (o3_ : Addr) (ko2_ : ClassId) (ko3_ : ClassId) (o4_ : Addr) (o5_ : Addr) (ko5_ : ClassId) (x0_ : Int32) (o6_ : Addr) (h0 : Heap) (n0 : Nat) (v : Option Value) (h : Heap) (L : List Loc) : Prop := v = some (.int (1 : Int32)) ∧ Fr n0 L ∧ Keep h0 h [o0_, o2_] ∧ Exa Z h o0_ "java/util/ArrayList" ∧ Fld Z h o0_ "java/util/AbstractList" "modCount" "I" (.int (2 : Int32)) ∧ Fld Z h o0_ "java/util/ArrayList" "elementData" "[Ljava/lang/Object;" (.ref o2_) ∧ Fld Z h o0_ "java/util/ArrayList" "size" "I" (.int (1 : Int32)) ∧ Arv Z h o2_ ko2_ (.object "java/lang/Object") (1 : Int32) [(.ref o4_)] .null ∧ Exa Z h o2_ "[Ljava/lang/Object;"
set_option maxRecDepth 65536 in
set_option maxHeartbeats 40000000 in
theorem rmaddAll51 (l : Launch) (Z : State) (a0 : Array Value) (hw : ∀ d ∈ tables_1, d.before a0 Z = true) (ws : List Jvm.Cond) (o0_ : Addr) (o1_ : Addr) (o2_ : Addr) (o3_ : Addr) (ko2_ : ClassId) (ko3_ : ClassId) (o4_ : Addr) (o5_ : Addr) (ko5_ : ClassId) (x0_ : Int32) (o6_ : Addr) (h0 : Heap) (n0 : Nat) (O0 : Old Z n0 h0) (P0 : Exa Z h0 o0_ "java/util/ArrayList") (P1 : Fld Z h0 o0_ "java/util/AbstractList" "modCount" "I" (.int (1 : Int32))) (P2 : Fld Z h0 o0_ "java/util/ArrayList" "elementData" "[Ljava/lang/Object;" (.ref o2_)) (P3 : Fld Z h0 o0_ "java/util/ArrayList" "size" "I" (.int (0 : Int32))) (P4 : Exa Z h0 o1_ "java/util/ArrayList") (P5 : Fld Z h0 o1_ "java/util/AbstractList" "modCount" "I" (.int (1 : Int32))) (P6 : Fld Z h0 o1_ "java/util/ArrayList" "elementData" "[Ljava/lang/Object;" (.ref o3_)) (P7 : Fld Z h0 o1_ "java/util/ArrayList" "size" "I" (.int (1 : Int32))) (P8 : Arv Z h0 o2_ ko2_ (.object "java/lang/Object") (1 : Int32) [.null] .null) (P9 : Exa Z h0 o2_ "[Ljava/lang/Object;") (P10 : Arv Z h0 o3_ ko3_ (.object "java/lang/Object") (10 : Int32) [(.ref o4_), .null, .null, .null, .null, .null, .null, .null, .null, .null] .null) (P11 : Exa Z h0 o3_ "[Ljava/lang/Object;") (P12 : Exa Z h0 o4_ "java/lang/String") (P13 : Fld Z h0 o4_ "java/lang/String" "value" "[B" (.ref o5_)) (P14 : Fld Z h0 o4_ "java/lang/String" "coder" "B" (.int (0 : Int32))) (P15 : Arv Z h0 o5_ ko5_ .byte (1 : Int32) [(.int x0_)] (.int (0 : Int32))) (P16 : Exa Z h0 o5_ "[B") (P17 : Mir Z "[Ljava/lang/Object;" o6_) (P18 : n0 ≤ o0_) (P19 : o2_ ≠ o0_) (P20 : n0 ≤ o2_) :
    MetFree l (⟨"java/util/ArrayList", "addAll", "(Ljava/util/Collection;)Z"⟩ : MethodName) (head1 (Jvm.Cond.code (⟨"java/util/ArrayList", "addAll", "(Ljava/util/Collection;)Z"⟩ : MethodName) jdk_38_method_41_code 6 (some .boolean) :: ws) ({ frames := 4, cells := 1, slots := 1, locals := 58 } : Room)) (fun a U => a = #[(.ref o0_), (.ref o1_)] ∧ Z.Warmed39 U.vm ∧ U.heap = h0) (fun _ _ _ _ _ => True) (fun _ U o U' => ∃ v L, o = .returned v ∧ QaddAll51 Z o0_ o1_ o2_ o3_ ko2_ ko3_ o4_ o5_ ko5_ x0_ o6_ h0 n0 v U'.heap L ∧ FrameEnd U o U' L ({ frames := 4, cells := 1, slots := 1, locals := 58 } : Room).cells ({ frames := 4, cells := 1, slots := 1, locals := 58 } : Room).slots) := by
  refine MetFree.of_bodySF (plainFor_of_name pn_4) hisR ?_
  intro p e s m args below meth c s₁ Bd hml0 hP hK
  obtain ⟨rfl, hZ, hh⟩ := hP
  have hx := Bd.exec
  have hby := Bd.bytes
  have hml : c.maxLocals = 6 := hml0
  have hown : s.vm.findClass "java/util/ArrayList" = some m.cls := findClass_of_methodNamed Bd.named
  have hnm := (name_of_methodNamed Bd.named Bd.method).1
  have X0 : Stand p l e ({ frames := 4, cells := 1, slots := 1, locals := 58 } : Room) s m #[(.ref o0_), (.ref o1_)] below meth c s₁ [] 0 0 := Stand.of_body Bd
  have e0 : s₁.heap = h0 := by rw [← hh, Bd.state]; rfl
  have N0 := Fr.nil n0
  obtain ⟨G, pre0, hG⟩ : ∃ G : State → Prop, (∀ t, own_S p e below m s₁ 0 #[lvR o0_, lvR o1_, .unset, .unset, .unset, .unset] [] t → G t) ∧ (∀ t, G t → Steps p.tables e below (s₁.setTop (entryFrame m #[(.ref o0_), (.ref o1_)] 6)) t) := ⟨fun t => Steps p.tables e below (s₁.setTop (entryFrame m #[(.ref o0_), (.ref o1_)] 6)) t, fun t k => castTop (efaddAll51 m o0_ o1_) k, fun _ k => k⟩
  have K0 : Keep h0 h0 [o0_, o2_] := Keep.refl _ _
  obtain ⟨cq1, kq1, q1a, q1b, q1c⟩ := isOf hZ e0 P4
  obtain ⟨_, _, ⟨T1, L1, k1, n1⟩, -, X1, ⟨Lc1, hQ1, l1, y1, z1⟩, st1⟩ := X0.interfaceBack hx (xi := (⟨"java/util/Collection", "toArray", "()[Ljava/lang/Object;"⟩ : MethodName)) (y := (⟨"java/util/ArrayList", "toArray", "()[Ljava/lang/Object;"⟩ : MethodName)) hown (mvT hZ (own_w hw 126 rfl)) (mvT hZ (own_w hw 127 rfl)) (mvT hZ (own_w hw 128 rfl)) (mvT hZ (own_w hw 129 rfl)) (mvT hZ (own_w hw 130 rfl)) (mvT hZ (own_w hw 131 rfl)) (mvT hZ (own_w hw 132 rfl)) (mvT hZ (own_w hw 133 rfl)) (by decide) (backOf (W := 0) (rmtoArray54 l Z a0 hw [] o1_ o3_ ko3_ o4_ o5_ ko5_ x0_ o6_ h0 n0 O0 P4 P5 P6 P7 P10 P11 P12 P13 P14 P15 P16 P17) hZ (own_w hw 134 rfl) (own_w hw 32 rfl) (by decide) (by decide)) q1a q1b q1c (g := (mkF m 1 #[lvR o0_, lvR o1_, .unset, .unset, .unset, .unset] [(.ref o1_)])) rfl (by rw [hml]; rfl) (Steps.refl _) (argsL := []) (rest := []) (lenOf pd_7 rfl) rfl (by show 2 * 0 + _ ≤ _; exact Nat.le_of_eq rfl) (hb hby d23_1) (fun _ _ => ⟨rfl, e0, (by decide : 0 + 1 ≤ _), (by decide : 0 + 1 ≤ _)⟩)
  dsimp only [Pt.U, Pt.locs, Pt.cells, Pt.slots] at X1 l1 y1 z1 st1 hQ1
  subst l1 y1 z1
  obtain ⟨h1, e1⟩ : ∃ z, T1.heap = z := ⟨_, rfl⟩
  rw [e1] at hQ1
  obtain ⟨k2_2_3_1, nnnb2_2_3_1, rfl, N1q, K1, sznnnb2_2_3_1, g1_0, g1_1⟩ := hQ1
  have N2 := Fr.app N0 N1q
  have ge3 : n0 ≤ nnnb2_2_3_1 := Nat.le_trans (Nat.le_trans (Nat.le_of_eq O0.1.symm) O0.2.1) sznnnb2_2_3_1
  have sz4 : h0.size ≤ nnnb2_2_3_1 := Nat.le_trans K0.1 sznnnb2_2_3_1
  have f5 : Fld Z h1 o0_ "java/util/AbstractList" "modCount" "I" (.int (1 : Int32)) := P1.keep K1 nin0
  obtain ⟨T6, X6, e6, st6⟩ := getF X1 hx hZ hown (host := "") (Or.inl (own_w hw 59 rfl)) (Via.of (own_w hw 60 rfl)) e1 f5 (g := (mkF m 9 #[lvR o0_, lvR o1_, lvR nnnb2_2_3_1, .unset, .unset, .unset] [(.ref o0_), (.ref o0_)])) rfl rfl (hb hby d23_9)
  have f7 : Exa Z h1 o0_ "java/util/ArrayList" := P0.keep K1
  obtain ⟨T8, h8, X8, e8, W8, st8⟩ := putF X6 hx hZ hown (host := "") (Or.inl (own_w hw 59 rfl)) (Via.of (own_w hw 60 rfl)) e6 f5 f7 (Or.inl (own_w hw 50 rfl)) (own_w hw 31 rfl) (ty := .int) (by decide) rfl rfl (g := (mkF m 14 #[lvR o0_, lvR o1_, lvR nnnb2_2_3_1, .unset, .unset, .unset] [(.int (2 : Int32)), (.ref o0_)])) rfl rfl (hb hby d23_14)
  have N9 := Fr.snoc X8 N2 P18
  have f10 : Fld Z h8 o0_ "java/util/AbstractList" "modCount" "I" (.int (2 : Int32)) := f5.same W8
  have ne13 : o0_ ≠ nnnb2_2_3_1 := Nat.ne_of_lt (Nat.lt_of_lt_of_le P0.lt sznnnb2_2_3_1)
  have f12 : Arv Z h8 nnnb2_2_3_1 k2_2_3_1 (.object "java/lang/Object") (1 : Int32) [(.ref o4_)] .null := g1_0.other W8 (Ne.symm ne13)
  obtain ⟨c11, r11, q11, s11, z11, y11, G11⟩ := id f12
  have f14 : Fld Z h1 o0_ "java/util/ArrayList" "elementData" "[Ljava/lang/Object;" (.ref o2_) := P2.keep K1 nin0
  have f15 : Fld Z h8 o0_ "java/util/ArrayList" "elementData" "[Ljava/lang/Object;" (.ref o2_) := f14.other W8 (Or.inr (slot_ne (Or.inl (own_w hw 53 rfl)) (Or.inl (own_w hw 50 rfl)) (by decide) (t := (.array (.object "java/lang/Object"))) (t' := .int) (by decide) (by decide)))
  obtain ⟨T16, X16, e16, st16⟩ := getF X8 hx hZ hown (host := "") (Or.inl (own_w hw 52 rfl)) Via.refl e8 f15 (g := (mkF m 28 #[lvR o0_, lvR o1_, lvR nnnb2_2_3_1, lvI (1 : Int32), .unset, .unset] [(.ref o0_), (.int (1 : Int32))])) rfl rfl (hb hby d23_28)
  have f18 : Arv Z h1 o2_ ko2_ (.object "java/lang/Object") (1 : Int32) [.null] .null := P8.keep K1 nin0
  have f19 : Arv Z h8 o2_ ko2_ (.object "java/lang/Object") (1 : Int32) [.null] .null := f18.other W8 P19
  obtain ⟨c17, r17, q17, s17, z17, y17, G17⟩ := id f19
  have f20 : Fld Z h1 o0_ "java/util/ArrayList" "size" "I" (.int (0 : Int32)) := P3.keep K1 nin0
  have f21 : Fld Z h8 o0_ "java/util/ArrayList" "size" "I" (.int (0 : Int32)) := f20.other W8 (Or.inr (slot_ne (Or.inl (own_w hw 62 rfl)) (Or.inl (own_w hw 50 rfl)) (by decide) (t := .int) (t' := .int) (by decide) (by decide)))
  obtain ⟨T22, X22, e22, st22⟩ := getF X16 hx hZ hown (host := "") (Or.inl (own_w hw 61 rfl)) Via.refl e16 f21 (g := (mkF m 36 #[lvR o0_, lvR o1_, lvR nnnb2_2_3_1, lvI (1 : Int32), lvR o2_, .unset] [(.ref o0_), (.int (1 : Int32)), (.int (1 : Int32))])) rfl rfl (hb hby d23_36)
  have f24 : Exa Z h1 o2_ "[Ljava/lang/Object;" := P9.keep K1
  have f25 : Exa Z h8 o2_ "[Ljava/lang/Object;" := f24.wr W8
  obtain ⟨c23, r23, q23, s23, z23, y23, G23⟩ := id f19
  have f26 : Exa Z h1 o4_ "java/lang/String" := P12.keep K1
  have f27 : Exa Z h8 o4_ "java/lang/String" := f26.wr W8
  obtain ⟨T23, h23, L23, X23, e23, N23, K23, V23, st23⟩ := cpA (us := [(.ref o4_)]) X22 hx hZ hown (own_w hw 157 rfl) (own_w hw 156 rfl) (own_w hw 154 rfl) (own_w hw 155 rfl) e22 f12 f19 (Or.inr ⟨rfl, rfl, ⟨Sto.of r23 (own_ovr (own_w hw 83 rfl) f25 r23.1 (by decide)) (Ins.of_exa f27 (own_w hw 84 rfl)), trivial⟩⟩) (sp := (0 : Int32)) (dp := (0 : Int32)) (nn := (1 : Int32)) (by decide) (by decide) (by decide) (by decide) (by decide) rfl (Nat.le_of_ble_eq_true rfl) N9 P20 (g := (mkF m 63 #[lvR o0_, lvR o1_, lvR nnnb2_2_3_1, lvI (1 : Int32), lvR o2_, lvI (0 : Int32)] [(.int (1 : Int32)), (.int (0 : Int32)), (.ref o2_), (.int (0 : Int32)), (.ref nnnb2_2_3_1)])) rfl (by rw [hml]; rfl) rfl (hb hby d23_63) (by decide) (W := 0) (by show 2 * 0 + _ ≤ _; exact Nat.le_of_eq rfl) (by decide)
  have f28 : Arv Z h23 o2_ ko2_ (.object "java/lang/Object") (1 : Int32) [(.ref o4_)] .null := V23
  have f29 : Fld Z h23 o0_ "java/util/ArrayList" "size" "I" (.int (0 : Int32)) := f21.keep K23 (ninS (Ne.symm P19) nin0)
  have f30 : Exa Z h8 o0_ "java/util/ArrayList" := f7.wr W8
  have f31 : Exa Z h23 o0_ "java/util/ArrayList" := f30.keep K23
  obtain ⟨T32, h32, X32, e32, W32, st32⟩ := putF X23 hx hZ hown (host := "") (Or.inl (own_w hw 61 rfl)) Via.refl e23 f29 f31 (Or.inl (own_w hw 62 rfl)) (own_w hw 31 rfl) (ty := .int) (by decide) rfl rfl (g := (mkF m 71 #[lvR o0_, lvR o1_, lvR nnnb2_2_3_1, lvI (1 : Int32), lvR o2_, lvI (0 : Int32)] [(.int (1 : Int32)), (.ref o0_)])) rfl rfl (hb hby d23_71)
  have N33 := Fr.snoc X32 N23 P18
  have f34 : Fld Z h32 o0_ "java/util/ArrayList" "size" "I" (.int (1 : Int32)) := f29.same W32
  have pre35 : ∀ t, own_S p e below m T32 75 #[lvR o0_, lvR o1_, lvR nnnb2_2_3_1, lvI (1 : Int32), lvR o2_, lvI (0 : Int32)] [(.int (1 : Int32))] t → G t := by
    intro t kt
    refine pre0 t ?_
    show own_S p e below m s₁ 0 #[lvR o0_, lvR o1_, .unset, .unset, .unset, .unset] [] _
    refine XS.aloadN X0.here hx rfl (hb hby d23_0) rfl rfl ?_
    show own_S p e below m s₁ 1 #[lvR o0_, lvR o1_, .unset, .unset, .unset, .unset] [(.ref o1_)] _
    refine st1.trans ?_
    refine XS.astoreN X1.here hx rfl (hb hby d23_6) rfl rfl (l' := #[lvR o0_, lvR o1_, lvR nnnb2_2_3_1, .unset, .unset, .unset]) rfl ?_
    refine XS.aloadN X1.here hx rfl (hb hby d23_7) rfl rfl ?_
    refine XS.dup X1.here hx rfl (hb hby d23_8) rfl rfl ?_
    show own_S p e below m T1 9 #[lvR o0_, lvR o1_, lvR nnnb2_2_3_1, .unset, .unset, .unset] [(.ref o0_), (.ref o0_)] _
    refine st6 _ ?_
    refine XS.iconst X6.here hx rfl (hb hby d23_12) ?_
    refine XS.iadd X6.here hx rfl (hb hby d23_13) rfl ?_
    show own_S p e below m T6 14 #[lvR o0_, lvR o1_, lvR nnnb2_2_3_1, .unset, .unset, .unset] [(.int (2 : Int32)), (.ref o0_)] _
    refine st8 _ ?_
    refine XS.aloadN X8.here hx rfl (hb hby d23_17) rfl rfl ?_
    show own_S p e below m T8 18 #[lvR o0_, lvR o1_, lvR nnnb2_2_3_1, .unset, .unset, .unset] [(.ref nnnb2_2_3_1)] _
    refine X8.arraylength hx (by rw [e8]; exact r11.1) (State.isArrayOf_alike hZ.alike r11.2.1) (g := (mkF m 18 #[lvR o0_, lvR o1_, lvR nnnb2_2_3_1, .unset, .unset, .unset] [(.ref nnnb2_2_3_1)])) rfl rfl (hb hby d23_18) _ ?_
    rw [len_of s11 z11]
    refine XS.istoreN X8.here hx rfl (hb hby d23_19) rfl (l' := #[lvR o0_, lvR o1_, lvR nnnb2_2_3_1, lvI (1 : Int32), .unset, .unset]) rfl ?_
    refine XS.iloadN X8.here hx rfl (hb hby d23_20) rfl ?_
    show own_S p e below m T8 21 #[lvR o0_, lvR o1_, lvR nnnb2_2_3_1, lvI (1 : Int32), .unset, .unset] [(.int (1 : Int32))] _
    refine XS.ifYes X8.here hx rfl (pc0 := 21) (pc' := 26) rfl (hb hby d23_21) rfl ((if0 _ _).trans (feq (by decide : ¬ ((1 : Int32) = (0 : Int32)))).2) (by decide) (by decide) ?_
    refine XS.iloadN X8.here hx rfl (hb hby d23_26) rfl ?_
    refine XS.aloadN X8.here hx rfl (hb hby d23_27) rfl rfl ?_
    show own_S p e below m T8 28 #[lvR o0_, lvR o1_, lvR nnnb2_2_3_1, lvI (1 : Int32), .unset, .unset] [(.ref o0_), (.int (1 : Int32))] _
    refine st16 _ ?_
    refine XS.dup X16.here hx rfl (hb hby d23_31) rfl rfl ?_
    refine XS.astore X16.here hx rfl (hb hby d23_32) rfl rfl (l' := #[lvR o0_, lvR o1_, lvR nnnb2_2_3_1, lvI (1 : Int32), lvR o2_, .unset]) rfl ?_
    show own_S p e below m T16 34 #[lvR o0_, lvR o1_, lvR nnnb2_2_3_1, lvI (1 : Int32), lvR o2_, .unset] [(.ref o2_), (.int (1 : Int32))] _
    refine X16.arraylength hx (by rw [e16]; exact r17.1) (State.isArrayOf_alike hZ.alike r17.2.1) (g := (mkF m 34 #[lvR o0_, lvR o1_, lvR nnnb2_2_3_1, lvI (1 : Int32), lvR o2_, .unset] [(.ref o2_), (.int (1 : Int32))])) rfl rfl (hb hby d23_34) _ ?_
    rw [len_of s17 z17]
    refine XS.aloadN X16.here hx rfl (hb hby d23_35) rfl rfl ?_
    show own_S p e below m T16 36 #[lvR o0_, lvR o1_, lvR nnnb2_2_3_1, lvI (1 : Int32), lvR o2_, .unset] [(.ref o0_), (.int (1 : Int32)), (.int (1 : Int32))] _
    refine st22 _ ?_
    refine XS.dup X22.here hx rfl (hb hby d23_39) rfl rfl ?_
    refine XS.istore X22.here hx rfl (hb hby d23_40) rfl (l' := #[lvR o0_, lvR o1_, lvR nnnb2_2_3_1, lvI (1 : Int32), lvR o2_, lvI (0 : Int32)]) rfl ?_
    refine XS.isub X22.here hx rfl (hb hby d23_42) rfl ?_
    show own_S p e below m T22 43 #[lvR o0_, lvR o1_, lvR nnnb2_2_3_1, lvI (1 : Int32), lvR o2_, lvI (0 : Int32)] [(.int (1 : Int32)), (.int (1 : Int32))] _
    refine XS.icmpYes X22.here hx rfl (pc0 := 43) (pc' := 56) rfl (hb hby d23_43) rfl (flt (by decide : ¬ ((1 : Int32) < (1 : Int32)))).2.2.2 (by decide) (by decide) ?_
    refine XS.aloadN X22.here hx rfl (hb hby d23_56) rfl rfl ?_
    refine XS.iconst X22.here hx rfl (hb hby d23_57) ?_
    refine XS.aload X22.here hx rfl (hb hby d23_58) rfl rfl ?_
    refine XS.iload X22.here hx rfl (hb hby d23_60) rfl ?_
    refine XS.iloadN X22.here hx rfl (hb hby d23_62) rfl ?_
    show own_S p e below m T22 63 #[lvR o0_, lvR o1_, lvR nnnb2_2_3_1, lvI (1 : Int32), lvR o2_, lvI (0 : Int32)] [(.int (1 : Int32)), (.int (0 : Int32)), (.ref o2_), (.int (0 : Int32)), (.ref nnnb2_2_3_1)] _
    refine st23 _ ?_
    refine XS.aloadN X23.here hx rfl (hb hby d23_66) rfl rfl ?_
    refine XS.iload X23.here hx rfl (hb hby d23_67) rfl ?_
    refine XS.iloadN X23.here hx rfl (hb hby d23_69) rfl ?_
    refine XS.iadd X23.here hx rfl (hb hby d23_70) rfl ?_
    show own_S p e below m T23 71 #[lvR o0_, lvR o1_, lvR nnnb2_2_3_1, lvI (1 : Int32), lvR o2_, lvI (0 : Int32)] [(.int (1 : Int32)), (.ref o0_)] _
    refine st32 _ ?_
    refine XS.iconst X32.here hx rfl (hb hby d23_74) ?_
    exact kt
  have f37 : Keep h0 h1 [o0_, o2_] := K0.trans K1 all0
  have f38 : Keep h0 h8 [o0_, o2_] := f37.wr W8 (Or.inl (List.mem_of_getElem? (i := 0) rfl))
  have f39 : Keep h0 h23 [o0_, o2_] := f38.trans K23 (allS (Or.inl (List.mem_of_getElem? (i := 1) rfl)) all0)
  have f40 : Keep h0 h32 [o0_, o2_] := f39.wr W32 (Or.inl (List.mem_of_getElem? (i := 0) rfl))
  have f41 : Exa Z h32 o0_ "java/util/ArrayList" := f31.wr W32
  have f42 : Fld Z h23 o0_ "java/util/AbstractList" "modCount" "I" (.int (2 : Int32)) := f10.keep K23 (ninS (Ne.symm P19) nin0)
  have f43 : Fld Z h32 o0_ "java/util/AbstractList" "modCount" "I" (.int (2 : Int32)) := f42.other W32 (Or.inr (slot_ne (Or.inl (own_w hw 50 rfl)) (Or.inl (own_w hw 62 rfl)) (by decide) (t := .int) (t' := .int) (by decide) (by decide)))
  have f44 : Fld Z h23 o0_ "java/util/ArrayList" "elementData" "[Ljava/lang/Object;" (.ref o2_) := f15.keep K23 (ninS (Ne.symm P19) nin0)
  have f45 : Fld Z h32 o0_ "java/util/ArrayList" "elementData" "[Ljava/lang/Object;" (.ref o2_) := f44.other W32 (Or.inr (slot_ne (Or.inl (own_w hw 53 rfl)) (Or.inl (own_w hw 62 rfl)) (by decide) (t := (.array (.object "java/lang/Object"))) (t' := .int) (by decide) (by decide)))
  have f46 : Arv Z h32 o2_ ko2_ (.object "java/lang/Object") (1 : Int32) [(.ref o4_)] .null := f28.other W32 P19
  have f47 : Exa Z h23 o2_ "[Ljava/lang/Object;" := f25.keep K23
  have f48 : Exa Z h32 o2_ "[Ljava/lang/Object;" := f47.wr W32
  obtain ⟨fs, hr, hrun, hended, hW, hsame⟩ := X32.leave (v := some (.int (1 : Int32))) (fun h => by rw [Bd.returns] at h; cases h)
  refine ⟨_, _, hG _ (pre35 _ (retN X32 hx (t := .boolean) Bd.returns (by simp) (hb hby d23_75) hr)), hrun, hended, _, _, rfl, ?_, ⟨_, rfl⟩, hW, hsame.mono (by decide) (by decide)⟩
  show QaddAll51 Z o0_ o1_ o2_ o3_ ko2_ ko3_ o4_ o5_ ko5_ x0_ o6_ h0 n0 _ T32.heap _
  rw [e32]
  exact ⟨rfl, N33, f40, f41, f43, f45, f34, f46, f48⟩
theorem d14_82 : decode prog_17_method_8_code 82 = .ok (.pop, 1) := by decide +kernel
theorem d14_83 : decode prog_17_method_8_code 83 = .ok (.aload_n 3, 1) := by decide +kernel
theorem d14_84 : decode prog_17_method_8_code 84 = .ok (.goto 3, 3) := by decide +kernel
theorem efterms39 (m : MethodId) (o0_ : Addr) (o1_ : Addr) (o2_ : Addr) : entryFrame m #[(.ref o0_), (.ref o1_), (.ref o2_)] 4 = mkF m 0 #[lvR o0_, lvR o1_, lvR o2_, .unset] [] := by first | (simp [entryFrame, mkF, argsToLocals, Value.category]; done) | rfl
def Qterms39 (Z : State) (o0_ : Addr) (o1_ : Addr) (o2_ : Addr) (o3_ : Addr) (o4_ : Addr) (ko3_ : ClassId) (ko4_ : ClassId) (o5_ : Addr) (o6_ : Addr) (ko6_ : ClassId) (x0_ : Int32) (o7_ : Addr) (h0 : Heap) (n0 : Nat) (v : Option Value) (h : Heap) (L : List Loc) : Prop := ∃ k3_30 : ClassId, ∃ nb4 : Addr, ∃ nnb3_30 : Addr, v = some (.ref nb4) ∧ Fr n0 L ∧ Keep h0 h [] ∧ h0.size ≤ nb4 ∧ h0.size ≤ nnb3_30 ∧ nb4 ≠ nnb3_30 ∧ Exa Z h nb4 "java/util/ArrayList" ∧ Fld Z h nb4 "java/util/AbstractList" "modCount" "I" (.int (2 : Int32)) ∧ Fld Z h nb4 "java/util/ArrayList" "elementData" "[Ljava/lang/Object;" (.ref nnb3_30) ∧ Fld Z h nb4 "java/util/ArrayList" "size" "I" (.int (1 : Int32)) ∧ Arv Z h nnb3_30 k3_30 (.object "java/lang/Object") (1 : Int32) [(.ref o5_)] .null ∧ Exa Z h nnb3_30 "[Ljava/lang/Object;"
set_option maxRecDepth 65536 in
set_option maxHeartbeats 40000000 in
theorem rmterms39 (l : Launch) (Z : State) (a0 : Array Value) (hw : ∀ d ∈ tables_1, d.before a0 Z = true) (ws : List Jvm.Cond) (o0_ : Addr) (o1_ : Addr) (o2_ : Addr) (o3_ : Addr) (o4_ : Addr) (ko3_ : ClassId) (ko4_ : ClassId) (o5_ : Addr) (o6_ : Addr) (ko6_ : ClassId) (x0_ : Int32) (o7_ : Addr) (h0 : Heap) (n0 : Nat) (O0 : Old Z n0 h0) (P0 : Exa Z Z.heap o0_ cn1) (P1 : Fld Z Z.heap o0_ "java/lang/Enum" "ordinal" "I" (.int (2 : Int32))) (P2 : Exa Z h0 o1_ "java/util/ArrayList") (P3 : Fld Z h0 o1_ "java/util/AbstractList" "modCount" "I" (.int (0 : Int32))) (P4 : Fld Z h0 o1_ "java/util/ArrayList" "elementData" "[Ljava/lang/Object;" (.ref o3_)) (P5 : Fld Z h0 o1_ "java/util/ArrayList" "size" "I" (.int (0 : Int32))) (P6 : Exa Z h0 o2_ "java/util/ArrayList") (P7 : Fld Z h0 o2_ "java/util/AbstractList" "modCount" "I" (.int (1 : Int32))) (P8 : Fld Z h0 o2_ "java/util/ArrayList" "elementData" "[Ljava/lang/Object;" (.ref o4_)) (P9 : Fld Z h0 o2_ "java/util/ArrayList" "size" "I" (.int (1 : Int32))) (P10 : Exa Z Z.heap o3_ "[Ljava/lang/Object;") (P11 : Arv Z Z.heap o3_ ko3_ (.object "java/lang/Object") (0 : Int32) [] .null) (P12 : Arv Z h0 o4_ ko4_ (.object "java/lang/Object") (10 : Int32) [(.ref o5_), .null, .null, .null, .null, .null, .null, .null, .null, .null] .null) (P13 : Exa Z h0 o4_ "[Ljava/lang/Object;") (P14 : Exa Z h0 o5_ "java/lang/String") (P15 : Fld Z h0 o5_ "java/lang/String" "value" "[B" (.ref o6_)) (P16 : Fld Z h0 o5_ "java/lang/String" "coder" "B" (.int (0 : Int32))) (P17 : Arv Z h0 o6_ ko6_ .byte (1 : Int32) [(.int x0_)] (.int (0 : Int32))) (P18 : Exa Z h0 o6_ "[B") (P19 : Mir Z "[Ljava/lang/Object;" o7_) :
    MetFree l mn4 (head1 (Jvm.Cond.code mn4 prog_17_method_8_code 4 (some (.object "java/util/List")) :: ws) ({ frames := 5, cells := 4, slots := 5, locals := 75 } : Room)) (fun a U => a = #[(.ref o0_), (.ref o1_), (.ref o2_)] ∧ Z.Warmed39 U.vm ∧ U.heap = h0) (fun _ _ _ _ _ => True) (fun _ U o U' => ∃ v L, o = .returned v ∧ Qterms39 Z o0_ o1_ o2_ o3_ o4_ ko3_ ko4_ o5_ o6_ ko6_ x0_ o7_ h0 n0 v U'.heap L ∧ FrameEnd U o U' L ({ frames := 5, cells := 4, slots := 5, locals := 75 } : Room).cells ({ frames := 5, cells := 4, slots := 5, locals := 75 } : Room).slots) := by
  refine MetFree.of_bodySF (plainFor_of_name pn_5) hisR ?_
  intro p e s m args below meth c s₁ Bd hml0 hP hK
  obtain ⟨rfl, hZ, hh⟩ := hP
  have hx := Bd.exec
  have hby := Bd.bytes
  have hml : c.maxLocals = 4 := hml0
  have hown : s.vm.findClass "com/example/inquiry_into_concepts/inquiryintoconcepts/index/Representation" = some m.cls := findClass_of_methodNamed Bd.named
  have hnm := (name_of_methodNamed Bd.named Bd.method).1
  have X0 : Stand p l e ({ frames := 5, cells := 4, slots := 5, locals := 75 } : Room) s m #[(.ref o0_), (.ref o1_), (.ref o2_)] below meth c s₁ [] 0 0 := Stand.of_body Bd
  have e0 : s₁.heap = h0 := by rw [← hh, Bd.state]; rfl
  have N0 := Fr.nil n0
  obtain ⟨G, pre0, hG⟩ : ∃ G : State → Prop, (∀ t, own_S p e below m s₁ 0 #[lvR o0_, lvR o1_, lvR o2_, .unset] [] t → G t) ∧ (∀ t, G t → Steps p.tables e below (s₁.setTop (entryFrame m #[(.ref o0_), (.ref o1_), (.ref o2_)] 4)) t) := ⟨fun t => Steps p.tables e below (s₁.setTop (entryFrame m #[(.ref o0_), (.ref o1_), (.ref o2_)] 4)) t, fun t k => castTop (efterms39 m o0_ o1_ o2_) k, fun _ k => k⟩
  have K0 : Keep h0 h0 [] := Keep.refl _ _
  have f2 : Exa Z h0 o0_ cn1 := P0.ext O0.2
  obtain ⟨cq1, kq1, q1a, q1b, q1c⟩ := isOf hZ e0 f2
  obtain ⟨_, _, ⟨T1, L1, k1, n1⟩, -, X1, ⟨Lc1, hQ1, l1, y1, z1⟩, st1⟩ := X0.virtualBackUp hx (x := mn3) (y := (⟨"java/lang/Enum", "ordinal", "()I"⟩ : MethodName)) hown (mvT hZ (own_w hw 96 rfl)) (mvT hZ (own_w hw 97 rfl)) (mvT hZ (own_w hw 98 rfl)) (by decide) (mvT hZ (own_w hw 100 rfl)) (mvT hZ (own_w hw 99 rfl)) (backOf (W := 0) (rmordinal34 l Z a0 hw [] o0_ h0 n0 O0 P0 P1) hZ (own_w hw 102 rfl) (own_w hw 101 rfl) (by decide) (by decide)) q1a q1c (g := (mkF m 1 #[lvR o0_, lvR o1_, lvR o2_, .unset] [(.ref o0_)])) rfl (by rw [hml]; rfl) (Steps.refl _) (argsL := []) (rest := []) (lenOf pd_11 rfl) rfl (by show 2 * 0 + _ ≤ _; exact Nat.le_of_eq rfl) (hb hby d14_1) (fun _ _ => ⟨rfl, e0, (by decide : 0 + 0 ≤ _), (by decide : 0 + 0 ≤ _)⟩)
  dsimp only [Pt.U, Pt.locs, Pt.cells, Pt.slots] at X1 l1 y1 z1 st1 hQ1
  subst l1 y1 z1
  obtain ⟨h1, e1⟩ : ∃ z, T1.heap = z := ⟨_, rfl⟩
  rw [e1] at hQ1
  obtain ⟨rfl, N1q, hh1⟩ := hQ1
  have N3 := Fr.app N0 N1q
  have e1' : T1.heap = h0 := e1.trans hh1
  obtain ⟨T4, h4, X4, e4, E4, A4, D4, -, st4⟩ := newO X1 hx hZ hown (own_w hw 116 rfl) (own_w hw 31 rfl) (own_w hw 32 rfl) e1' (g := (mkF m 50 #[lvR o0_, lvR o1_, lvR o2_, .unset] [])) rfl (hb hby d14_50) (by decide) (by decide)
  obtain ⟨b4, g4⟩ : ∃ z, z = h0.size := ⟨_, rfl⟩
  rw [← g4] at A4 D4 st4
  have ge5 : n0 ≤ b4 := Nat.le_trans (Nat.le_trans (Nat.le_of_eq O0.1.symm) O0.2.1) (Nat.le_of_eq g4.symm)
  have sz6 : h0.size ≤ b4 := Nat.le_trans K0.1 (Nat.le_of_eq g4.symm)
  have f7 : Fld Z h4 b4 "java/util/AbstractList" "modCount" "I" (.int (0 : Int32)) := D4 (Or.inl (own_w hw 50 rfl)) (ty := .int) (by decide)
  have f8 : Fld Z h4 b4 "java/util/ArrayList" "elementData" "[Ljava/lang/Object;" .null := D4 (Or.inl (own_w hw 53 rfl)) (ty := (.array (.object "java/lang/Object"))) (by decide)
  have f9 : Fld Z h4 b4 "java/util/ArrayList" "size" "I" (.int (0 : Int32)) := D4 (Or.inl (own_w hw 62 rfl)) (ty := .int) (by decide)
  have f11 : Exa Z h4 o1_ "java/util/ArrayList" := P2.ext E4
  have f12 : Fld Z h4 o1_ "java/util/AbstractList" "modCount" "I" (.int (0 : Int32)) := P3.ext E4
  have f13 : Fld Z h4 o1_ "java/util/ArrayList" "elementData" "[Ljava/lang/Object;" (.ref o3_) := P4.ext E4
  have f14 : Fld Z h4 o1_ "java/util/ArrayList" "size" "I" (.int (0 : Int32)) := P5.ext E4
  have f15 : Old Z n0 h4 := O0.ext E4
  obtain ⟨cq10, kq10, q10a, q10b, q10c⟩ := isOf hZ e4 f11
  obtain ⟨_, _, ⟨T10, L10, k10, n10⟩, -, X10, ⟨Lc10, hQ10, l10, y10, z10⟩, st10⟩ := X4.interfaceBack hx (xi := (⟨"java/util/List", "size", "()I"⟩ : MethodName)) (y := (⟨"java/util/ArrayList", "size", "()I"⟩ : MethodName)) hown (mvT hZ (own_w hw 117 rfl)) (mvT hZ (own_w hw 106 rfl)) (mvT hZ (own_w hw 107 rfl)) (mvT hZ (own_w hw 108 rfl)) (mvT hZ (own_w hw 109 rfl)) (mvT hZ (own_w hw 110 rfl)) (mvT hZ (own_w hw 111 rfl)) (mvT hZ (own_w hw 112 rfl)) (by decide) (backOf (W := 2) (rmsize22 l Z a0 hw [] o1_ o3_ ko3_ h4 n0 f15 f11 f12 f13 f14 P10 P11) hZ (own_w hw 113 rfl) (own_w hw 32 rfl) (by decide) (by decide)) q10a q10b q10c (g := (mkF m 55 #[lvR o0_, lvR o1_, lvR o2_, .unset] [(.ref o1_), (.ref b4), (.ref b4)])) rfl (by rw [hml]; rfl) (Steps.refl _) (argsL := []) (rest := [(.ref b4), (.ref b4)]) (lenOf pd_11 rfl) rfl (by show 2 * 0 + _ ≤ _; exact Nat.le_of_eq rfl) (hb hby d14_55) (fun _ _ => ⟨rfl, e4, (by decide : 1 + 0 ≤ _), (by decide : 3 + 0 ≤ _)⟩)
  dsimp only [Pt.U, Pt.locs, Pt.cells, Pt.slots] at X10 l10 y10 z10 st10 hQ10
  subst l10 y10 z10
  obtain ⟨h10, e10⟩ : ∃ z, T10.heap = z := ⟨_, rfl⟩
  rw [e10] at hQ10
  obtain ⟨rfl, N10q, hh10⟩ := hQ10
  have N16 := Fr.app N3 N10q
  have e10' : T10.heap = h4 := e10.trans hh10
  have f18 : Exa Z h4 o2_ "java/util/ArrayList" := P6.ext E4
  have f19 : Fld Z h4 o2_ "java/util/AbstractList" "modCount" "I" (.int (1 : Int32)) := P7.ext E4
  have f20 : Fld Z h4 o2_ "java/util/ArrayList" "elementData" "[Ljava/lang/Object;" (.ref o4_) := P8.ext E4
  have f21 : Fld Z h4 o2_ "java/util/ArrayList" "size" "I" (.int (1 : Int32)) := P9.ext E4
  have f22 : Arv Z h4 o4_ ko4_ (.object "java/lang/Object") (10 : Int32) [(.ref o5_), .null, .null, .null, .null, .null, .null, .null, .null, .null] .null := P12.ext E4
  have f23 : Exa Z h4 o4_ "[Ljava/lang/Object;" := P13.ext E4
  have f24 : Exa Z h4 o5_ "java/lang/String" := P14.ext E4
  have f25 : Fld Z h4 o5_ "java/lang/String" "value" "[B" (.ref o6_) := P15.ext E4
  have f26 : Fld Z h4 o5_ "java/lang/String" "coder" "B" (.int (0 : Int32)) := P16.ext E4
  have f27 : Arv Z h4 o6_ ko6_ .byte (1 : Int32) [(.int x0_)] (.int (0 : Int32)) := P17.ext E4
  have f28 : Exa Z h4 o6_ "[B" := P18.ext E4
  obtain ⟨cq17, kq17, q17a, q17b, q17c⟩ := isOf hZ e10' f18
  obtain ⟨_, _, ⟨T17, L17, k17, n17⟩, -, X17, ⟨Lc17, hQ17, l17, y17, z17⟩, st17⟩ := X10.interfaceBack hx (xi := (⟨"java/util/List", "size", "()I"⟩ : MethodName)) (y := (⟨"java/util/ArrayList", "size", "()I"⟩ : MethodName)) hown (mvT hZ (own_w hw 117 rfl)) (mvT hZ (own_w hw 106 rfl)) (mvT hZ (own_w hw 107 rfl)) (mvT hZ (own_w hw 108 rfl)) (mvT hZ (own_w hw 109 rfl)) (mvT hZ (own_w hw 110 rfl)) (mvT hZ (own_w hw 111 rfl)) (mvT hZ (own_w hw 112 rfl)) (by decide) (backOf (W := 3) (rmsize26 l Z a0 hw [] o2_ o4_ ko4_ o5_ o6_ ko6_ x0_ h4 n0 f15 f18 f19 f20 f21 f22 f23 f24 f25 f26 f27 f28) hZ (own_w hw 113 rfl) (own_w hw 32 rfl) (by decide) (by decide)) q17a q17b q17c (g := (mkF m 61 #[lvR o0_, lvR o1_, lvR o2_, .unset] [(.ref o2_), (.int (0 : Int32)), (.ref b4), (.ref b4)])) rfl (by rw [hml]; rfl) (Steps.refl _) (argsL := []) (rest := [(.int (0 : Int32)), (.ref b4), (.ref b4)]) (lenOf pd_11 rfl) rfl (by show 2 * 0 + _ ≤ _; exact Nat.le_of_eq rfl) (hb hby d14_61) (fun _ _ => ⟨rfl, e10', (by decide : 1 + 0 ≤ _), (by decide : 3 + 0 ≤ _)⟩)
  dsimp only [Pt.U, Pt.locs, Pt.cells, Pt.slots] at X17 l17 y17 z17 st17 hQ17
  subst l17 y17 z17
  obtain ⟨h17, e17⟩ : ∃ z, T17.heap = z := ⟨_, rfl⟩
  rw [e17] at hQ17
  obtain ⟨rfl, N17q, hh17⟩ := hQ17
  have N29 := Fr.app N16 N17q
  have e17' : T17.heap = h4 := e17.trans hh17
  obtain ⟨_, _, ⟨T30, L30, k30, n30⟩, -, X30, ⟨Lc30, hQ30, l30, y30, z30⟩, st30⟩ := X17.specialBack hx (y := (⟨"java/util/ArrayList", "<init>", "(I)V"⟩ : MethodName)) rfl hown (mvT hZ (own_w hw 118 rfl)) (mvT hZ (own_w hw 119 rfl)) (mvT hZ (own_w hw 120 rfl)) (by decide) (backOf (W := 1) (rminit35 l Z a0 hw [] b4 h4 n0 f15 A4 f7 f8 f9 ge5) hZ (own_w hw 120 rfl) (own_w hw 32 rfl) (by decide) (by decide)) (g := (mkF m 67 #[lvR o0_, lvR o1_, lvR o2_, .unset] [(.int (1 : Int32)), (.ref b4), (.ref b4)])) rfl (by rw [hml]; rfl) (Steps.refl _) (a := b4) (argsL := [(.int (1 : Int32))]) (rest := [(.ref b4)]) (lenOf pd_15 rfl) rfl (by show 2 * 0 + _ ≤ _; exact Nat.le_of_eq rfl) (hb hby d14_67) (fun _ _ => ⟨rfl, e17', (by decide : 1 + 1 ≤ _), (by decide : 3 + 1 ≤ _)⟩)
  dsimp only [Pt.U, Pt.locs, Pt.cells, Pt.slots] at X30 l30 y30 z30 st30 hQ30
  subst l30 y30 z30
  obtain ⟨h30, e30⟩ : ∃ z, T30.heap = z := ⟨_, rfl⟩
  rw [e30] at hQ30
  obtain ⟨k3_30, nb3_30, rfl, N30q, K30, sznb3_30, g30_0, g30_1, g30_2, g30_3, g30_4, g30_5⟩ := hQ30
  have N31 := Fr.app N29 N30q
  have ge32 : n0 ≤ nb3_30 := Nat.le_trans (Nat.le_trans (Nat.le_of_eq f15.1.symm) f15.2.1) sznb3_30
  have f33 : Keep h0 h4 [] := K0.ext E4
  have sz34 : h0.size ≤ nb3_30 := Nat.le_trans f33.1 sznb3_30
  have f36 : Exa Z h30 o1_ "java/util/ArrayList" := f11.keep K30
  have ne38 : o1_ ≠ b4 := Nat.ne_of_lt (Nat.lt_of_lt_of_le P2.lt (Nat.le_of_eq g4.symm))
  have f37 : Fld Z h30 o1_ "java/util/AbstractList" "modCount" "I" (.int (0 : Int32)) := f12.keep K30 (ninS ne38 nin0)
  have f39 : Fld Z h30 o1_ "java/util/ArrayList" "elementData" "[Ljava/lang/Object;" (.ref o3_) := f13.keep K30 (ninS ne38 nin0)
  have f40 : Fld Z h30 o1_ "java/util/ArrayList" "size" "I" (.int (0 : Int32)) := f14.keep K30 (ninS ne38 nin0)
  have f41 : Old Z n0 h30 := f15.keep K30 (allS (ge5) all0)
  obtain ⟨cq35, kq35, q35a, q35b, q35c⟩ := isOf hZ e30 g30_0
  obtain ⟨_, _, ⟨T35, L35, k35, n35⟩, -, X35, ⟨Lc35, hQ35, l35, y35, z35⟩, st35⟩ := X30.virtualBack hx (y := (⟨"java/util/ArrayList", "addAll", "(Ljava/util/Collection;)Z"⟩ : MethodName)) (z := (⟨"java/util/ArrayList", "addAll", "(Ljava/util/Collection;)Z"⟩ : MethodName)) hown (mvT hZ (own_w hw 121 rfl)) (mvT hZ (own_w hw 122 rfl)) (notFace_of_selects (args := #[]) (mvT hZ (own_w hw 124 rfl))) (mvT hZ (own_w hw 124 rfl)) (mvT hZ (own_w hw 123 rfl)) (by decide) (backOf (W := 0) (rmaddAll43 l Z a0 hw [] b4 o1_ nb3_30 o3_ k3_30 ko3_ o7_ h30 n0 f41 g30_0 g30_1 g30_2 g30_3 f36 f37 f39 f40 g30_4 g30_5 P10 P11 P19 ge5) hZ (own_w hw 125 rfl) (own_w hw 32 rfl) (by decide) (by decide)) q35a q35c (g := (mkF m 73 #[lvR o0_, lvR o1_, lvR o2_, lvR b4] [(.ref o1_), (.ref b4)])) rfl (by rw [hml]; rfl) (Steps.refl _) (argsL := [(.ref o1_)]) (rest := []) (lenOf pd_18 rfl) rfl (by show 2 * 0 + _ ≤ _; exact Nat.le_of_eq rfl) (hb hby d14_73) (fun _ _ => ⟨rfl, e30, (by decide : 2 + 1 ≤ _), (by decide : 4 + 0 ≤ _)⟩)
  dsimp only [Pt.U, Pt.locs, Pt.cells, Pt.slots] at X35 l35 y35 z35 st35 hQ35
  subst l35 y35 z35
  obtain ⟨h35, e35⟩ : ∃ z, T35.heap = z := ⟨_, rfl⟩
  rw [e35] at hQ35
  obtain ⟨rfl, N35q, K35, g35_0, g35_1, g35_2, g35_3⟩ := hQ35
  have N42 := Fr.app N31 N35q
  have f44 : Exa Z h30 o2_ "java/util/ArrayList" := f18.keep K30
  have f45 : Exa Z h35 o2_ "java/util/ArrayList" := f44.keep K35
  have ne47 : o2_ ≠ b4 := Nat.ne_of_lt (Nat.lt_of_lt_of_le P6.lt (Nat.le_of_eq g4.symm))
  have f46 : Fld Z h30 o2_ "java/util/AbstractList" "modCount" "I" (.int (1 : Int32)) := f19.keep K30 (ninS ne47 nin0)
  have f48 : Fld Z h35 o2_ "java/util/AbstractList" "modCount" "I" (.int (1 : Int32)) := f46.keep K35 (ninS ne47 nin0)
  have f49 : Fld Z h30 o2_ "java/util/ArrayList" "elementData" "[Ljava/lang/Object;" (.ref o4_) := f20.keep K30 (ninS ne47 nin0)
  have f50 : Fld Z h35 o2_ "java/util/ArrayList" "elementData" "[Ljava/lang/Object;" (.ref o4_) := f49.keep K35 (ninS ne47 nin0)
  have f51 : Fld Z h30 o2_ "java/util/ArrayList" "size" "I" (.int (1 : Int32)) := f21.keep K30 (ninS ne47 nin0)
  have f52 : Fld Z h35 o2_ "java/util/ArrayList" "size" "I" (.int (1 : Int32)) := f51.keep K35 (ninS ne47 nin0)
  have ne54 : b4 ≠ nb3_30 := Nat.ne_of_lt (Nat.lt_of_lt_of_le A4.lt sznb3_30)
  have f53 : Arv Z h35 nb3_30 k3_30 (.object "java/lang/Object") (1 : Int32) [.null] .null := g30_4.keep K35 (ninS (Ne.symm ne54) nin0)
  have f55 : Exa Z h35 nb3_30 "[Ljava/lang/Object;" := g30_5.keep K35
  have ne57 : o4_ ≠ b4 := Nat.ne_of_lt (Nat.lt_of_lt_of_le P12.lt (Nat.le_of_eq g4.symm))
  have f56 : Arv Z h30 o4_ ko4_ (.object "java/lang/Object") (10 : Int32) [(.ref o5_), .null, .null, .null, .null, .null, .null, .null, .null, .null] .null := f22.keep K30 (ninS ne57 nin0)
  have f58 : Arv Z h35 o4_ ko4_ (.object "java/lang/Object") (10 : Int32) [(.ref o5_), .null, .null, .null, .null, .null, .null, .null, .null, .null] .null := f56.keep K35 (ninS ne57 nin0)
  have f59 : Exa Z h30 o4_ "[Ljava/lang/Object;" := f23.keep K30
  have f60 : Exa Z h35 o4_ "[Ljava/lang/Object;" := f59.keep K35
  have f61 : Exa Z h30 o5_ "java/lang/String" := f24.keep K30
  have f62 : Exa Z h35 o5_ "java/lang/String" := f61.keep K35
  have ne64 : o5_ ≠ b4 := Nat.ne_of_lt (Nat.lt_of_lt_of_le P14.lt (Nat.le_of_eq g4.symm))
  have f63 : Fld Z h30 o5_ "java/lang/String" "value" "[B" (.ref o6_) := f25.keep K30 (ninS ne64 nin0)
  have f65 : Fld Z h35 o5_ "java/lang/String" "value" "[B" (.ref o6_) := f63.keep K35 (ninS ne64 nin0)
  have f66 : Fld Z h30 o5_ "java/lang/String" "coder" "B" (.int (0 : Int32)) := f26.keep K30 (ninS ne64 nin0)
  have f67 : Fld Z h35 o5_ "java/lang/String" "coder" "B" (.int (0 : Int32)) := f66.keep K35 (ninS ne64 nin0)
  have ne69 : o6_ ≠ b4 := Nat.ne_of_lt (Nat.lt_of_lt_of_le P17.lt (Nat.le_of_eq g4.symm))
  have f68 : Arv Z h30 o6_ ko6_ .byte (1 : Int32) [(.int x0_)] (.int (0 : Int32)) := f27.keep K30 (ninS ne69 nin0)
  have f70 : Arv Z h35 o6_ ko6_ .byte (1 : Int32) [(.int x0_)] (.int (0 : Int32)) := f68.keep K35 (ninS ne69 nin0)
  have f71 : Exa Z h30 o6_ "[B" := f28.keep K30
  have f72 : Exa Z h35 o6_ "[B" := f71.keep K35
  have f73 : Old Z n0 h35 := f41.keep K35 (allS (ge5) all0)
  obtain ⟨cq43, kq43, q43a, q43b, q43c⟩ := isOf hZ e35 g35_0
  obtain ⟨_, _, ⟨T43, L43, k43, n43⟩, -, X43, ⟨Lc43, hQ43, l43, y43, z43⟩, st43⟩ := X35.virtualBack hx (y := (⟨"java/util/ArrayList", "addAll", "(Ljava/util/Collection;)Z"⟩ : MethodName)) (z := (⟨"java/util/ArrayList", "addAll", "(Ljava/util/Collection;)Z"⟩ : MethodName)) hown (mvT hZ (own_w hw 121 rfl)) (mvT hZ (own_w hw 122 rfl)) (notFace_of_selects (args := #[]) (mvT hZ (own_w hw 124 rfl))) (mvT hZ (own_w hw 124 rfl)) (mvT hZ (own_w hw 123 rfl)) (by decide) (backOf (W := 0) (rmaddAll51 l Z a0 hw [] b4 o2_ nb3_30 o4_ k3_30 ko4_ o5_ o6_ ko6_ x0_ o7_ h35 n0 f73 g35_0 g35_1 g35_2 g35_3 f45 f48 f50 f52 f53 f55 f58 f60 f62 f65 f67 f70 f72 P19 ge5 (Ne.symm ne54) ge32) hZ (own_w hw 125 rfl) (own_w hw 32 rfl) (by decide) (by decide)) q43a q43c (g := (mkF m 79 #[lvR o0_, lvR o1_, lvR o2_, lvR b4] [(.ref o2_), (.ref b4)])) rfl (by rw [hml]; rfl) (Steps.refl _) (argsL := [(.ref o2_)]) (rest := []) (lenOf pd_18 rfl) rfl (by show 2 * 0 + _ ≤ _; exact Nat.le_of_eq rfl) (hb hby d14_79) (fun _ _ => ⟨rfl, e35, (by decide : 3 + 1 ≤ _), (by decide : 4 + 1 ≤ _)⟩)
  dsimp only [Pt.U, Pt.locs, Pt.cells, Pt.slots] at X43 l43 y43 z43 st43 hQ43
  subst l43 y43 z43
  obtain ⟨h43, e43⟩ : ∃ z, T43.heap = z := ⟨_, rfl⟩
  rw [e43] at hQ43
  obtain ⟨rfl, N43q, K43, g43_0, g43_1, g43_2, g43_3, g43_4, g43_5⟩ := hQ43
  have N74 := Fr.app N42 N43q
  have pre75 : ∀ t, own_S p e below m T43 87 #[lvR o0_, lvR o1_, lvR o2_, lvR b4] [(.ref b4)] t → G t := by
    intro t kt
    refine pre0 t ?_
    show own_S p e below m s₁ 0 #[lvR o0_, lvR o1_, lvR o2_, .unset] [] _
    refine XS.aloadN X0.here hx rfl (hb hby d14_0) rfl rfl ?_
    show own_S p e below m s₁ 1 #[lvR o0_, lvR o1_, lvR o2_, .unset] [(.ref o0_)] _
    refine st1.trans ?_
    show own_S p e below m T1 4 #[lvR o0_, lvR o1_, lvR o2_, .unset] [(.int (2 : Int32))] _
    refine XS.tswIn X1.here hx rfl (pc0 := 4) (pc' := 50) (o := 46) rfl (hb hby d14_4) rfl (by decide) rfl (by decide) (by decide) ?_
    show own_S p e below m T1 50 #[lvR o0_, lvR o1_, lvR o2_, .unset] [] _
    refine st4 _ ?_
    refine XS.dup X4.here hx rfl (hb hby d14_53) rfl rfl ?_
    refine XS.aloadN X4.here hx rfl (hb hby d14_54) rfl rfl ?_
    show own_S p e below m T4 55 #[lvR o0_, lvR o1_, lvR o2_, .unset] [(.ref o1_), (.ref b4), (.ref b4)] _
    refine st10.trans ?_
    refine XS.aloadN X10.here hx rfl (hb hby d14_60) rfl rfl ?_
    show own_S p e below m T10 61 #[lvR o0_, lvR o1_, lvR o2_, .unset] [(.ref o2_), (.int (0 : Int32)), (.ref b4), (.ref b4)] _
    refine st17.trans ?_
    refine XS.iadd X17.here hx rfl (hb hby d14_66) rfl ?_
    show own_S p e below m T17 67 #[lvR o0_, lvR o1_, lvR o2_, .unset] [(.int (1 : Int32)), (.ref b4), (.ref b4)] _
    refine st30.trans ?_
    refine XS.astoreN X30.here hx rfl (hb hby d14_70) rfl rfl (l' := #[lvR o0_, lvR o1_, lvR o2_, lvR b4]) rfl ?_
    refine XS.aloadN X30.here hx rfl (hb hby d14_71) rfl rfl ?_
    refine XS.aloadN X30.here hx rfl (hb hby d14_72) rfl rfl ?_
    show own_S p e below m T30 73 #[lvR o0_, lvR o1_, lvR o2_, lvR b4] [(.ref o1_), (.ref b4)] _
    refine st35.trans ?_
    refine XS.pop X35.here hx rfl (hb hby d14_76) rfl rfl ?_
    refine XS.aloadN X35.here hx rfl (hb hby d14_77) rfl rfl ?_
    refine XS.aloadN X35.here hx rfl (hb hby d14_78) rfl rfl ?_
    show own_S p e below m T35 79 #[lvR o0_, lvR o1_, lvR o2_, lvR b4] [(.ref o2_), (.ref b4)] _
    refine st43.trans ?_
    refine XS.pop X43.here hx rfl (hb hby d14_82) rfl rfl ?_
    refine XS.aloadN X43.here hx rfl (hb hby d14_83) rfl rfl ?_
    refine XS.goto X43.here hx rfl (pc0 := 84) (pc' := 87) rfl (hb hby d14_84) (by decide) (by decide) ?_
    exact kt
  have f77 : Keep h0 h30 [] := f33.trans K30 (allS (Or.inr sz6) all0)
  have f78 : Keep h0 h35 [] := f77.trans K35 (allS (Or.inr sz6) all0)
  have f79 : Keep h0 h43 [] := f78.trans K43 (allS (Or.inr sz6) (allS (Or.inr sz34) all0))
  obtain ⟨fs, hr, hrun, hended, hW, hsame⟩ := X43.leave (v := some (.ref b4)) (fun h => by rw [Bd.returns] at h; cases h)
  refine ⟨_, _, hG _ (pre75 _ (retOut X43 hx Bd.returns rfl (Or.inr (Or.inr (Or.inr (Or.inr ⟨rfl, rfl, rfl⟩)))) (hb hby d14_87) hr)), hrun, hended, _, _, rfl, ?_, ⟨_, rfl⟩, hW, hsame.mono (by decide) (by decide)⟩
  show Qterms39 Z o0_ o1_ o2_ o3_ o4_ ko3_ ko4_ o5_ o6_ ko6_ x0_ o7_ h0 n0 _ T43.heap _
  rw [e43]
  exact ⟨k3_30, b4, nb3_30, rfl, N74, f79, sz6, sz34, ne54, g43_0, g43_1, g43_2, g43_3, g43_4, g43_5⟩
theorem efsize59 (m : MethodId) (o0_ : Addr) : entryFrame m #[(.ref o0_)] 1 = mkF m 0 #[lvR o0_] [] := by first | (simp [entryFrame, mkF, argsToLocals, Value.category]; done) | rfl
def Qsize59 (Z : State) (o0_ : Addr) (o1_ : Addr) (ko1_ : ClassId) (o2_ : Addr) (o3_ : Addr) (ko3_ : ClassId) (x0_ : Int32) (h0 : Heap) (n0 : Nat) (v : Option Value) (h : Heap) (L : List Loc) : Prop := v = some (.int (1 : Int32)) ∧ Fr n0 L ∧ h = h0
set_option maxRecDepth 65536 in
set_option maxHeartbeats 40000000 in
theorem rmsize59 (l : Launch) (Z : State) (a0 : Array Value) (hw : ∀ d ∈ tables_1, d.before a0 Z = true) (ws : List Jvm.Cond) (o0_ : Addr) (o1_ : Addr) (ko1_ : ClassId) (o2_ : Addr) (o3_ : Addr) (ko3_ : ClassId) (x0_ : Int32) (h0 : Heap) (n0 : Nat) (O0 : Old Z n0 h0) (P0 : Exa Z h0 o0_ "java/util/ArrayList") (P1 : Fld Z h0 o0_ "java/util/AbstractList" "modCount" "I" (.int (2 : Int32))) (P2 : Fld Z h0 o0_ "java/util/ArrayList" "elementData" "[Ljava/lang/Object;" (.ref o1_)) (P3 : Fld Z h0 o0_ "java/util/ArrayList" "size" "I" (.int (1 : Int32))) (P4 : Arv Z h0 o1_ ko1_ (.object "java/lang/Object") (1 : Int32) [(.ref o2_)] .null) (P5 : Exa Z h0 o1_ "[Ljava/lang/Object;") (P6 : Exa Z h0 o2_ "java/lang/String") (P7 : Fld Z h0 o2_ "java/lang/String" "value" "[B" (.ref o3_)) (P8 : Fld Z h0 o2_ "java/lang/String" "coder" "B" (.int (0 : Int32))) (P9 : Arv Z h0 o3_ ko3_ .byte (1 : Int32) [(.int x0_)] (.int (0 : Int32))) (P10 : Exa Z h0 o3_ "[B") :
    MetFree l (⟨"java/util/ArrayList", "size", "()I"⟩ : MethodName) (head1 (Jvm.Cond.code (⟨"java/util/ArrayList", "size", "()I"⟩ : MethodName) jdk_38_method_8_code 1 (some .int) :: ws) ({ frames := 0, cells := 0, slots := 0, locals := 0 } : Room)) (fun a U => a = #[(.ref o0_)] ∧ Z.Warmed39 U.vm ∧ U.heap = h0) (fun _ _ _ _ _ => True) (fun _ U o U' => ∃ v L, o = .returned v ∧ Qsize59 Z o0_ o1_ ko1_ o2_ o3_ ko3_ x0_ h0 n0 v U'.heap L ∧ FrameEnd U o U' L ({ frames := 0, cells := 0, slots := 0, locals := 0 } : Room).cells ({ frames := 0, cells := 0, slots := 0, locals := 0 } : Room).slots) := by
  refine MetFree.of_bodySF (plainFor_of_name pn_4) hisR ?_
  intro p e s m args below meth c s₁ Bd hml0 hP hK
  obtain ⟨rfl, hZ, hh⟩ := hP
  have hx := Bd.exec
  have hby := Bd.bytes
  have hml : c.maxLocals = 1 := hml0
  have hown : s.vm.findClass "java/util/ArrayList" = some m.cls := findClass_of_methodNamed Bd.named
  have hnm := (name_of_methodNamed Bd.named Bd.method).1
  have X0 : Stand p l e ({ frames := 0, cells := 0, slots := 0, locals := 0 } : Room) s m #[(.ref o0_)] below meth c s₁ [] 0 0 := Stand.of_body Bd
  have e0 : s₁.heap = h0 := by rw [← hh, Bd.state]; rfl
  have N0 := Fr.nil n0
  obtain ⟨G, pre0, hG⟩ : ∃ G : State → Prop, (∀ t, own_S p e below m s₁ 0 #[lvR o0_] [] t → G t) ∧ (∀ t, G t → Steps p.tables e below (s₁.setTop (entryFrame m #[(.ref o0_)] 1)) t) := ⟨fun t => Steps p.tables e below (s₁.setTop (entryFrame m #[(.ref o0_)] 1)) t, fun t k => castTop (efsize59 m o0_) k, fun _ k => k⟩
  have K0 : Keep h0 h0 [] := Keep.refl _ _
  obtain ⟨T1, X1, e1, st1⟩ := getF X0 hx hZ hown (host := "") (Or.inl (own_w hw 61 rfl)) Via.refl e0 P3 (g := (mkF m 1 #[lvR o0_] [(.ref o0_)])) rfl rfl (hb hby d16_1)
  have pre2 : ∀ t, own_S p e below m T1 4 #[lvR o0_] [(.int (1 : Int32))] t → G t := by
    intro t kt
    refine pre0 t ?_
    show own_S p e below m s₁ 0 #[lvR o0_] [] _
    refine XS.aloadN X0.here hx rfl (hb hby d16_0) rfl rfl ?_
    show own_S p e below m s₁ 1 #[lvR o0_] [(.ref o0_)] _
    refine st1 _ ?_
    exact kt
  obtain ⟨fs, hr, hrun, hended, hW, hsame⟩ := X1.leave (v := some (.int (1 : Int32))) (fun h => by rw [Bd.returns] at h; cases h)
  refine ⟨_, _, hG _ (pre2 _ (retOut X1 hx Bd.returns rfl (Or.inl ⟨rfl, Or.inl rfl, _, rfl⟩) (hb hby d16_4) hr)), hrun, hended, _, _, rfl, ?_, ⟨_, rfl⟩, hW, hsame.mono (by decide) (by decide)⟩
  show Qsize59 Z o0_ o1_ ko1_ o2_ o3_ ko3_ x0_ h0 n0 _ T1.heap _
  rw [e1]
  exact ⟨rfl, N0, rfl⟩
theorem efelementData61 (m : MethodId) (o0_ : Addr) : entryFrame m #[(.ref o0_), (.int (0 : Int32))] 2 = mkF m 0 #[lvR o0_, lvI (0 : Int32)] [] := by first | (simp [entryFrame, mkF, argsToLocals, Value.category]; done) | rfl
def QelementData61 (Z : State) (o0_ : Addr) (o1_ : Addr) (ko1_ : ClassId) (o2_ : Addr) (o3_ : Addr) (ko3_ : ClassId) (x0_ : Int32) (h0 : Heap) (n0 : Nat) (v : Option Value) (h : Heap) (L : List Loc) : Prop := v = some (.ref o2_) ∧ Fr n0 L ∧ h = h0
set_option maxRecDepth 65536 in
set_option maxHeartbeats 40000000 in
theorem rmelementData61 (l : Launch) (Z : State) (a0 : Array Value) (hw : ∀ d ∈ tables_1, d.before a0 Z = true) (ws : List Jvm.Cond) (o0_ : Addr) (o1_ : Addr) (ko1_ : ClassId) (o2_ : Addr) (o3_ : Addr) (ko3_ : ClassId) (x0_ : Int32) (h0 : Heap) (n0 : Nat) (O0 : Old Z n0 h0) (P0 : Exa Z h0 o0_ "java/util/ArrayList") (P1 : Fld Z h0 o0_ "java/util/AbstractList" "modCount" "I" (.int (2 : Int32))) (P2 : Fld Z h0 o0_ "java/util/ArrayList" "elementData" "[Ljava/lang/Object;" (.ref o1_)) (P3 : Fld Z h0 o0_ "java/util/ArrayList" "size" "I" (.int (1 : Int32))) (P4 : Arv Z h0 o1_ ko1_ (.object "java/lang/Object") (1 : Int32) [(.ref o2_)] .null) (P5 : Exa Z h0 o1_ "[Ljava/lang/Object;") (P6 : Exa Z h0 o2_ "java/lang/String") (P7 : Fld Z h0 o2_ "java/lang/String" "value" "[B" (.ref o3_)) (P8 : Fld Z h0 o2_ "java/lang/String" "coder" "B" (.int (0 : Int32))) (P9 : Arv Z h0 o3_ ko3_ .byte (1 : Int32) [(.int x0_)] (.int (0 : Int32))) (P10 : Exa Z h0 o3_ "[B") :
    MetFree l (⟨"java/util/ArrayList", "elementData", "(I)Ljava/lang/Object;"⟩ : MethodName) (head1 (Jvm.Cond.code (⟨"java/util/ArrayList", "elementData", "(I)Ljava/lang/Object;"⟩ : MethodName) jdk_38_method_18_code 2 (some (.object "java/lang/Object")) :: ws) ({ frames := 0, cells := 0, slots := 0, locals := 0 } : Room)) (fun a U => a = #[(.ref o0_), (.int (0 : Int32))] ∧ Z.Warmed39 U.vm ∧ U.heap = h0) (fun _ _ _ _ _ => True) (fun _ U o U' => ∃ v L, o = .returned v ∧ QelementData61 Z o0_ o1_ ko1_ o2_ o3_ ko3_ x0_ h0 n0 v U'.heap L ∧ FrameEnd U o U' L ({ frames := 0, cells := 0, slots := 0, locals := 0 } : Room).cells ({ frames := 0, cells := 0, slots := 0, locals := 0 } : Room).slots) := by
  refine MetFree.of_bodySF (plainFor_of_name pn_4) hisR ?_
  intro p e s m args below meth c s₁ Bd hml0 hP hK
  obtain ⟨rfl, hZ, hh⟩ := hP
  have hx := Bd.exec
  have hby := Bd.bytes
  have hml : c.maxLocals = 2 := hml0
  have hown : s.vm.findClass "java/util/ArrayList" = some m.cls := findClass_of_methodNamed Bd.named
  have hnm := (name_of_methodNamed Bd.named Bd.method).1
  have X0 : Stand p l e ({ frames := 0, cells := 0, slots := 0, locals := 0 } : Room) s m #[(.ref o0_), (.int (0 : Int32))] below meth c s₁ [] 0 0 := Stand.of_body Bd
  have e0 : s₁.heap = h0 := by rw [← hh, Bd.state]; rfl
  have N0 := Fr.nil n0
  obtain ⟨G, pre0, hG⟩ : ∃ G : State → Prop, (∀ t, own_S p e below m s₁ 0 #[lvR o0_, lvI (0 : Int32)] [] t → G t) ∧ (∀ t, G t → Steps p.tables e below (s₁.setTop (entryFrame m #[(.ref o0_), (.int (0 : Int32))] 2)) t) := ⟨fun t => Steps p.tables e below (s₁.setTop (entryFrame m #[(.ref o0_), (.int (0 : Int32))] 2)) t, fun t k => castTop (efelementData61 m o0_) k, fun _ k => k⟩
  have K0 : Keep h0 h0 [] := Keep.refl _ _
  obtain ⟨T1, X1, e1, st1⟩ := getF X0 hx hZ hown (host := "") (Or.inl (own_w hw 52 rfl)) Via.refl e0 P2 (g := (mkF m 1 #[lvR o0_, lvI (0 : Int32)] [(.ref o0_)])) rfl rfl (hb hby d20_1)
  obtain ⟨c2, r2, q2, s2, z2, y2, G2⟩ := id P4
  have hin2 : ¬ ((0 : Int32) < 0 ∨ c2.slots.size ≤ ((0 : Int32)).toNatClampNeg) := inb_of s2 ⟨by decide, by decide⟩
  have hat2 : c2.slots[((0 : Int32)).toNatClampNeg]? = some (.ref o2_) := Has.at y2 hin2 rfl
  have pre3 : ∀ t, own_S p e below m T1 6 #[lvR o0_, lvI (0 : Int32)] [(.ref o2_)] t → G t := by
    intro t kt
    refine pre0 t ?_
    show own_S p e below m s₁ 0 #[lvR o0_, lvI (0 : Int32)] [] _
    refine XS.aloadN X0.here hx rfl (hb hby d20_0) rfl rfl ?_
    show own_S p e below m s₁ 1 #[lvR o0_, lvI (0 : Int32)] [(.ref o0_)] _
    refine st1 _ ?_
    refine XS.iloadN X1.here hx rfl (hb hby d20_4) rfl ?_
    show own_S p e below m T1 5 #[lvR o0_, lvI (0 : Int32)] [(.int (0 : Int32)), (.ref o1_)] _
    refine X1.aaload hx (j := (0 : Int32)) (v := (.ref o2_)) (by rw [e1]; exact r2.1) (State.isArrayOf_alike hZ.alike r2.2.1) rfl r2.2.2 hin2 hat2 (g := (mkF m 5 #[lvR o0_, lvI (0 : Int32)] [(.int (0 : Int32)), (.ref o1_)])) rfl rfl (hb hby d20_5) _ ?_
    exact kt
  obtain ⟨fs, hr, hrun, hended, hW, hsame⟩ := X1.leave (v := some (.ref o2_)) (fun h => by rw [Bd.returns] at h; cases h)
  refine ⟨_, _, hG _ (pre3 _ (retOut X1 hx Bd.returns rfl (Or.inr (Or.inr (Or.inr (Or.inr ⟨rfl, rfl, rfl⟩)))) (hb hby d20_6) hr)), hrun, hended, _, _, rfl, ?_, ⟨_, rfl⟩, hW, hsame.mono (by decide) (by decide)⟩
  show QelementData61 Z o0_ o1_ ko1_ o2_ o3_ ko3_ x0_ h0 n0 _ T1.heap _
  rw [e1]
  exact ⟨rfl, N0, rfl⟩
theorem efget60 (m : MethodId) (o0_ : Addr) : entryFrame m #[(.ref o0_), (.int (0 : Int32))] 2 = mkF m 0 #[lvR o0_, lvI (0 : Int32)] [] := by first | (simp [entryFrame, mkF, argsToLocals, Value.category]; done) | rfl
def Qget60 (Z : State) (o0_ : Addr) (o1_ : Addr) (ko1_ : ClassId) (o2_ : Addr) (o3_ : Addr) (ko3_ : ClassId) (x0_ : Int32) (h0 : Heap) (n0 : Nat) (v : Option Value) (h : Heap) (L : List Loc) : Prop := v = some (.ref o2_) ∧ Fr n0 L ∧ h = h0
set_option maxRecDepth 65536 in
set_option maxHeartbeats 40000000 in
theorem rmget60 (l : Launch) (Z : State) (a0 : Array Value) (hw : ∀ d ∈ tables_1, d.before a0 Z = true) (ws : List Jvm.Cond) (o0_ : Addr) (o1_ : Addr) (ko1_ : ClassId) (o2_ : Addr) (o3_ : Addr) (ko3_ : ClassId) (x0_ : Int32) (h0 : Heap) (n0 : Nat) (O0 : Old Z n0 h0) (P0 : Exa Z h0 o0_ "java/util/ArrayList") (P1 : Fld Z h0 o0_ "java/util/AbstractList" "modCount" "I" (.int (2 : Int32))) (P2 : Fld Z h0 o0_ "java/util/ArrayList" "elementData" "[Ljava/lang/Object;" (.ref o1_)) (P3 : Fld Z h0 o0_ "java/util/ArrayList" "size" "I" (.int (1 : Int32))) (P4 : Arv Z h0 o1_ ko1_ (.object "java/lang/Object") (1 : Int32) [(.ref o2_)] .null) (P5 : Exa Z h0 o1_ "[Ljava/lang/Object;") (P6 : Exa Z h0 o2_ "java/lang/String") (P7 : Fld Z h0 o2_ "java/lang/String" "value" "[B" (.ref o3_)) (P8 : Fld Z h0 o2_ "java/lang/String" "coder" "B" (.int (0 : Int32))) (P9 : Arv Z h0 o3_ ko3_ .byte (1 : Int32) [(.int x0_)] (.int (0 : Int32))) (P10 : Exa Z h0 o3_ "[B") :
    MetFree l (⟨"java/util/ArrayList", "get", "(I)Ljava/lang/Object;"⟩ : MethodName) (head1 (Jvm.Cond.code (⟨"java/util/ArrayList", "get", "(I)Ljava/lang/Object;"⟩ : MethodName) jdk_38_method_20_code 2 (some (.object "java/lang/Object")) :: ws) ({ frames := 2, cells := 0, slots := 0, locals := 27 } : Room)) (fun a U => a = #[(.ref o0_), (.int (0 : Int32))] ∧ Z.Warmed39 U.vm ∧ U.heap = h0) (fun _ _ _ _ _ => True) (fun _ U o U' => ∃ v L, o = .returned v ∧ Qget60 Z o0_ o1_ ko1_ o2_ o3_ ko3_ x0_ h0 n0 v U'.heap L ∧ FrameEnd U o U' L ({ frames := 2, cells := 0, slots := 0, locals := 27 } : Room).cells ({ frames := 2, cells := 0, slots := 0, locals := 27 } : Room).slots) := by
  refine MetFree.of_bodySF (plainFor_of_name pn_4) hisR ?_
  intro p e s m args below meth c s₁ Bd hml0 hP hK
  obtain ⟨rfl, hZ, hh⟩ := hP
  have hx := Bd.exec
  have hby := Bd.bytes
  have hml : c.maxLocals = 2 := hml0
  have hown : s.vm.findClass "java/util/ArrayList" = some m.cls := findClass_of_methodNamed Bd.named
  have hnm := (name_of_methodNamed Bd.named Bd.method).1
  have X0 : Stand p l e ({ frames := 2, cells := 0, slots := 0, locals := 27 } : Room) s m #[(.ref o0_), (.int (0 : Int32))] below meth c s₁ [] 0 0 := Stand.of_body Bd
  have e0 : s₁.heap = h0 := by rw [← hh, Bd.state]; rfl
  have N0 := Fr.nil n0
  obtain ⟨G, pre0, hG⟩ : ∃ G : State → Prop, (∀ t, own_S p e below m s₁ 0 #[lvR o0_, lvI (0 : Int32)] [] t → G t) ∧ (∀ t, G t → Steps p.tables e below (s₁.setTop (entryFrame m #[(.ref o0_), (.int (0 : Int32))] 2)) t) := ⟨fun t => Steps p.tables e below (s₁.setTop (entryFrame m #[(.ref o0_), (.int (0 : Int32))] 2)) t, fun t k => castTop (efget60 m o0_) k, fun _ k => k⟩
  have K0 : Keep h0 h0 [] := Keep.refl _ _
  obtain ⟨T1, X1, e1, st1⟩ := getF X0 hx hZ hown (host := "") (Or.inl (own_w hw 61 rfl)) Via.refl e0 P3 (g := (mkF m 2 #[lvR o0_, lvI (0 : Int32)] [(.ref o0_), (.int (0 : Int32))])) rfl rfl (hb hby d17_2)
  obtain ⟨_, _, ⟨T2, L2, k2, n2⟩, -, X2, ⟨Lc2, hQ2, l2, y2, z2⟩, st2⟩ := Jvm.LawKit.callS X1 hx (y := (⟨"java/util/Objects", "checkIndex", "(II)I"⟩ : MethodName)) hown (mvT hZ (own_w hw 166 rfl)) (mvT hZ (own_w hw 167 rfl)) (mvT hZ (own_w hw 168 rfl)) (mvT hZ (own_w hw 169 rfl)) (by decide) (backOf (W := 0) (rmcheckIndex28 l Z a0 hw []  h0 n0 O0 ) hZ (own_w hw 169 rfl) (own_w hw 168 rfl) (by decide) (by decide)) (g := (mkF m 5 #[lvR o0_, lvI (0 : Int32)] [(.int (1 : Int32)), (.int (0 : Int32))])) rfl (by rw [hml]; rfl) (argsL := [(.int (0 : Int32)), (.int (1 : Int32))]) (rest := []) (lenOf pd_5 rfl) rfl (by show 2 * 0 + _ ≤ _; exact Nat.le_of_eq rfl) (hb hby d17_5) (fun _ _ => ⟨rfl, e1, (by decide : 0 + 0 ≤ _), (by decide : 0 + 0 ≤ _)⟩)
  dsimp only [Pt.U, Pt.locs, Pt.cells, Pt.slots] at X2 l2 y2 z2 st2 hQ2
  subst l2 y2 z2
  obtain ⟨h2, e2⟩ : ∃ z, T2.heap = z := ⟨_, rfl⟩
  rw [e2] at hQ2
  obtain ⟨rfl, N2q, hh2⟩ := hQ2
  have N3 := Fr.app N0 N2q
  have e2' : T2.heap = h0 := e2.trans hh2
  obtain ⟨cq4, kq4, q4a, q4b, q4c⟩ := isOf hZ e2' P0
  obtain ⟨_, _, ⟨T4, L4, k4, n4⟩, -, X4, ⟨Lc4, hQ4, l4, y4, z4⟩, st4⟩ := X2.virtualBack hx (y := (⟨"java/util/ArrayList", "elementData", "(I)Ljava/lang/Object;"⟩ : MethodName)) (z := (⟨"java/util/ArrayList", "elementData", "(I)Ljava/lang/Object;"⟩ : MethodName)) hown (mvT hZ (own_w hw 174 rfl)) (mvT hZ (own_w hw 175 rfl)) (notFace_of_selects (args := #[]) (mvT hZ (own_w hw 177 rfl))) (mvT hZ (own_w hw 177 rfl)) (mvT hZ (own_w hw 176 rfl)) (by decide) (backOf (W := 0) (rmelementData61 l Z a0 hw [] o0_ o1_ ko1_ o2_ o3_ ko3_ x0_ h0 n0 O0 P0 P1 P2 P3 P4 P5 P6 P7 P8 P9 P10) hZ (own_w hw 178 rfl) (own_w hw 32 rfl) (by decide) (by decide)) q4a q4c (g := (mkF m 11 #[lvR o0_, lvI (0 : Int32)] [(.int (0 : Int32)), (.ref o0_)])) rfl (by rw [hml]; rfl) (Steps.refl _) (argsL := [(.int (0 : Int32))]) (rest := []) (lenOf pd_14 rfl) rfl (by show 2 * 0 + _ ≤ _; exact Nat.le_of_eq rfl) (hb hby d17_11) (fun _ _ => ⟨rfl, e2', (by decide : 0 + 0 ≤ _), (by decide : 0 + 0 ≤ _)⟩)
  dsimp only [Pt.U, Pt.locs, Pt.cells, Pt.slots] at X4 l4 y4 z4 st4 hQ4
  subst l4 y4 z4
  obtain ⟨h4, e4⟩ : ∃ z, T4.heap = z := ⟨_, rfl⟩
  rw [e4] at hQ4
  obtain ⟨rfl, N4q, hh4⟩ := hQ4
  have N5 := Fr.app N3 N4q
  have e4' : T4.heap = h0 := e4.trans hh4
  have pre6 : ∀ t, own_S p e below m T4 14 #[lvR o0_, lvI (0 : Int32)] [(.ref o2_)] t → G t := by
    intro t kt
    refine pre0 t ?_
    show own_S p e below m s₁ 0 #[lvR o0_, lvI (0 : Int32)] [] _
    refine XS.iloadN X0.here hx rfl (hb hby d17_0) rfl ?_
    refine XS.aloadN X0.here hx rfl (hb hby d17_1) rfl rfl ?_
    show own_S p e below m s₁ 2 #[lvR o0_, lvI (0 : Int32)] [(.ref o0_), (.int (0 : Int32))] _
    refine st1 _ ?_
    show own_S p e below m T1 5 #[lvR o0_, lvI (0 : Int32)] [(.int (1 : Int32)), (.int (0 : Int32))] _
    refine st2 _ ?_
    refine XS.pop X2.here hx rfl (hb hby d17_8) rfl rfl ?_
    refine XS.aloadN X2.here hx rfl (hb hby d17_9) rfl rfl ?_
    refine XS.iloadN X2.here hx rfl (hb hby d17_10) rfl ?_
    show own_S p e below m T2 11 #[lvR o0_, lvI (0 : Int32)] [(.int (0 : Int32)), (.ref o0_)] _
    refine st4.trans ?_
    exact kt
  obtain ⟨fs, hr, hrun, hended, hW, hsame⟩ := X4.leave (v := some (.ref o2_)) (fun h => by rw [Bd.returns] at h; cases h)
  refine ⟨_, _, hG _ (pre6 _ (retOut X4 hx Bd.returns rfl (Or.inr (Or.inr (Or.inr (Or.inr ⟨rfl, rfl, rfl⟩)))) (hb hby d17_14) hr)), hrun, hended, _, _, rfl, ?_, ⟨_, rfl⟩, hW, hsame.mono (by decide) (by decide)⟩
  show Qget60 Z o0_ o1_ ko1_ o2_ o3_ ko3_ x0_ h0 n0 _ T4.heap _
  rw [e4']
  exact ⟨rfl, N5, rfl⟩
theorem pn_10 : plainName "com/example/inquiry_into_concepts/inquiryintoconcepts/index/RepresentationHoldsConceptsPinLaw" = true := by first | (simp [plainName, overriddenIn]; done) | decide +kernel
theorem efLaw (m : MethodId) (p0_ : Int32) (p1_ : Int32) : entryFrame m #[(.int p0_), (.int p1_)] maxLocals = mkF m 0 #[lvI p0_, lvI p1_, .unset, .unset, .unset, .unset, .unset, .unset, .unset, .unset, .unset] [] := by first | (simp [entryFrame, mkF, argsToLocals, Value.category, maxLocals]; done) | rfl
def QLaw (Z : State) (p0_ : Int32) (p1_ : Int32) (w_DEFAULTCAPACITY_EMPTY_ELEMENTDATA : Addr) (w_EMPTY_ELEMENTDATA : Addr) (w_COMPACT_STRINGS : Int32) (w_CONCEPTS : Addr) (w_BOTH : Addr) (w_WORDS : Addr) (k_w_EMPTY_ELEMENTDATA : ClassId) (k_w_DEFAULTCAPACITY_EMPTY_ELEMENTDATA : ClassId) (mr_ : Addr) (h0 : Heap) (n0 : Nat) (v : Option Value) (h : Heap) (L : List Loc) : Prop := v = some (.int (1 : Int32)) ∧ Fr n0 L
set_option maxRecDepth 65536 in
set_option maxHeartbeats 40000000 in
theorem rmLaw (l : Launch) (Z : State) (a0 : Array Value) (hw : ∀ d ∈ tables_1, d.before a0 Z = true) (ws : List Jvm.Cond) (p0_ : Int32) (p1_ : Int32) (w_DEFAULTCAPACITY_EMPTY_ELEMENTDATA : Addr) (w_EMPTY_ELEMENTDATA : Addr) (w_COMPACT_STRINGS : Int32) (w_CONCEPTS : Addr) (w_BOTH : Addr) (w_WORDS : Addr) (k_w_EMPTY_ELEMENTDATA : ClassId) (k_w_DEFAULTCAPACITY_EMPTY_ELEMENTDATA : ClassId) (mr_ : Addr) (h0 : Heap) (n0 : Nat) (O0 : Old Z n0 h0) (hz_0 : ¬ (w_COMPACT_STRINGS = (0 : Int32))) (P1 : Sta Z Z.heap "com/example/inquiry_into_concepts/inquiryintoconcepts/index/Representation" "WORDS" "Lcom/example/inquiry_into_concepts/inquiryintoconcepts/index/Representation;" (.ref w_WORDS)) (P2 : Exa Z Z.heap w_WORDS cn1) (P3 : Sta Z Z.heap "com/example/inquiry_into_concepts/inquiryintoconcepts/index/Representation" "BOTH" "Lcom/example/inquiry_into_concepts/inquiryintoconcepts/index/Representation;" (.ref w_BOTH)) (P4 : Exa Z Z.heap w_BOTH cn1) (P5 : Sta Z Z.heap "com/example/inquiry_into_concepts/inquiryintoconcepts/index/Representation" "CONCEPTS" "Lcom/example/inquiry_into_concepts/inquiryintoconcepts/index/Representation;" (.ref w_CONCEPTS)) (P6 : Exa Z Z.heap w_CONCEPTS cn1) (P7 : Sta Z Z.heap "java/lang/String" "COMPACT_STRINGS" "Z" (.int w_COMPACT_STRINGS)) (P8 : Sta Z Z.heap "java/util/ArrayList" "EMPTY_ELEMENTDATA" "[Ljava/lang/Object;" (.ref w_EMPTY_ELEMENTDATA)) (P9 : Exa Z Z.heap w_EMPTY_ELEMENTDATA "[Ljava/lang/Object;") (P10 : Sta Z Z.heap "java/util/ArrayList" "DEFAULTCAPACITY_EMPTY_ELEMENTDATA" "[Ljava/lang/Object;" (.ref w_DEFAULTCAPACITY_EMPTY_ELEMENTDATA)) (P11 : Exa Z Z.heap w_DEFAULTCAPACITY_EMPTY_ELEMENTDATA "[Ljava/lang/Object;") (P12 : Fld Z Z.heap w_WORDS "java/lang/Enum" "ordinal" "I" (.int (0 : Int32))) (P13 : Fld Z Z.heap w_BOTH "java/lang/Enum" "ordinal" "I" (.int (2 : Int32))) (P14 : Fld Z Z.heap w_CONCEPTS "java/lang/Enum" "ordinal" "I" (.int (1 : Int32))) (P15 : Arv Z Z.heap w_EMPTY_ELEMENTDATA k_w_EMPTY_ELEMENTDATA (.object "java/lang/Object") (0 : Int32) [] .null) (P16 : Arv Z Z.heap w_DEFAULTCAPACITY_EMPTY_ELEMENTDATA k_w_DEFAULTCAPACITY_EMPTY_ELEMENTDATA (.object "java/lang/Object") (0 : Int32) [] .null) (P17 : Mir Z "[Ljava/lang/Object;" mr_) :
    MetFree l x (head1 (Jvm.Cond.code x code maxLocals ret :: ws) room_1) (fun a U => a = #[(.int p0_), (.int p1_)] ∧ Z.Warmed39 U.vm ∧ U.heap = h0) (fun _ _ _ _ _ => True) (fun _ U o U' => ∃ v L, o = .returned v ∧ QLaw Z p0_ p1_ w_DEFAULTCAPACITY_EMPTY_ELEMENTDATA w_EMPTY_ELEMENTDATA w_COMPACT_STRINGS w_CONCEPTS w_BOTH w_WORDS k_w_EMPTY_ELEMENTDATA k_w_DEFAULTCAPACITY_EMPTY_ELEMENTDATA mr_ h0 n0 v U'.heap L ∧ FrameEnd U o U' L room_1.cells room_1.slots) := by
  refine MetFree.of_bodySF (plainFor_of_name pn_10) hisR ?_
  intro p e s m args below meth c s₁ Bd hml0 hP hK
  obtain ⟨rfl, hZ, hh⟩ := hP
  have hx := Bd.exec
  have hby := Bd.bytes
  have hml : c.maxLocals = 11 := hml0
  have hown : s.vm.findClass "com/example/inquiry_into_concepts/inquiryintoconcepts/index/RepresentationHoldsConceptsPinLaw" = some m.cls := findClass_of_methodNamed Bd.named
  have hnm := (name_of_methodNamed Bd.named Bd.method).1
  have X0 : Stand p l e room_1 s m #[(.int p0_), (.int p1_)] below meth c s₁ [] 0 0 := Stand.of_body Bd
  have e0 : s₁.heap = h0 := by rw [← hh, Bd.state]; rfl
  have N0 := Fr.nil n0
  obtain ⟨G, pre0, hG⟩ : ∃ G : State → Prop, (∀ t, own_S p e below m s₁ 0 #[lvI p0_, lvI p1_, .unset, .unset, .unset, .unset, .unset, .unset, .unset, .unset, .unset] [] t → G t) ∧ (∀ t, G t → Steps p.tables e below (s₁.setTop (entryFrame m #[(.int p0_), (.int p1_)] maxLocals)) t) := ⟨fun t => Steps p.tables e below (s₁.setTop (entryFrame m #[(.int p0_), (.int p1_)] maxLocals)) t, fun t k => castTop (efLaw m p0_ p1_) k, fun _ k => k⟩
  have K0 : Keep h0 h0 [] := Keep.refl _ _
  have pre1 : ∀ t, own_S p e below m s₁ 6 #[lvI p0_, lvI p1_, .unset, .unset, .unset, .unset, .unset, .unset, .unset, .unset, .unset] [(.int ((p0_ &&& (2147483647 : Int32)) % (3 : Int32)))] t → G t := by
    intro t kt
    refine pre0 t ?_
    show own_S p e below m s₁ 0 #[lvI p0_, lvI p1_, .unset, .unset, .unset, .unset, .unset, .unset, .unset, .unset, .unset] [] _
    refine XS.iloadN X0.here hx rfl (hb hby at_0) rfl ?_
    show own_S p e below m s₁ 1 #[lvI p0_, lvI p1_, .unset, .unset, .unset, .unset, .unset, .unset, .unset, .unset, .unset] [(.int p0_)] _
    refine X0.ldcInt hx hown (mvT hZ (own_w hw 0 rfl)) (g := (mkF m 1 #[lvI p0_, lvI p1_, .unset, .unset, .unset, .unset, .unset, .unset, .unset, .unset, .unset] [(.int p0_)])) rfl (hb hby at_1) _ ?_
    refine XS.iand X0.here hx rfl (hb hby at_3) rfl ?_
    refine XS.iconst X0.here hx rfl (hb hby at_4) ?_
    show own_S p e below m s₁ 5 #[lvI p0_, lvI p1_, .unset, .unset, .unset, .unset, .unset, .unset, .unset, .unset, .unset] [(.int (3 : Int32)), (.int (p0_ &&& (2147483647 : Int32)))] _
    refine iremM (g := (mkF m 5 #[lvI p0_, lvI p1_, .unset, .unset, .unset, .unset, .unset, .unset, .unset, .unset, .unset] [(.int (3 : Int32)), (.int (p0_ &&& (2147483647 : Int32)))])) X0 hx rfl (hb hby at_5) rfl (by decide) ?_
    exact kt
  have hv2 : ((p0_ &&& (2147483647 : Int32)) % (3 : Int32)) = (0 : Int32) ∨ ((p0_ &&& (2147483647 : Int32)) % (3 : Int32)) = (1 : Int32) ∨ ((p0_ &&& (2147483647 : Int32)) % (3 : Int32)) = (2 : Int32) := own_mod3 p0_
  rcases hv2 with hv3 | hv3 | hv3
  · have pre4 : ∀ t, own_S p e below m s₁ 6 #[lvI p0_, lvI p1_, .unset, .unset, .unset, .unset, .unset, .unset, .unset, .unset, .unset] [(.int (0 : Int32))] t → G t := fun t kt => pre1 t (by rw [hv3]; exact kt)
    obtain ⟨T5, X5, e5, st5⟩ := getS2 X0 hx hZ hown (host := "") (Or.inl (own_w hw 1 rfl)) Via.refl e0 (P1.ext O0.2) (g := (mkF m 11 #[lvI p0_, lvI p1_, lvI (0 : Int32), .unset, .unset, .unset, .unset, .unset, .unset, .unset, .unset] [])) rfl (hb hby at_11)
    have hn6 : ¬ ((255 : Int32) < (p1_ &&& (255 : Int32))) := own_c255 p1_
    obtain ⟨_, _, ⟨T7, L7, k7, n7⟩, -, X7, ⟨Lc7, hQ7, l7, y7, z7⟩, st7⟩ := Jvm.LawKit.callS X5 hx (y := (⟨"java/lang/String", "valueOf", "(C)Ljava/lang/String;"⟩ : MethodName)) hown (mvT hZ (own_w hw 4 rfl)) (mvT hZ (own_w hw 5 rfl)) (mvT hZ (own_w hw 6 rfl)) (mvT hZ (own_w hw 7 rfl)) (by decide) (backOf (W := 0) (rmvalueOf1 l Z a0 hw [] (p1_ &&& (255 : Int32)) w_COMPACT_STRINGS h0 n0 O0 hn6 hz_0 P7) hZ (own_w hw 7 rfl) (own_w hw 6 rfl) (by decide) (by decide)) (g := (mkF m 51 #[lvI p0_, lvI p1_, lvI (0 : Int32), lvR w_WORDS, lvI (0 : Int32), .unset, .unset, .unset, .unset, .unset, .unset] [(.int (p1_ &&& (255 : Int32)))])) rfl (by rw [hml]; rfl) (argsL := [(.int (p1_ &&& (255 : Int32)))]) (rest := []) (lenOf pd_3 rfl) rfl (by show 2 * 0 + _ ≤ _; exact Nat.le_of_eq rfl) (hb hby at_51) (fun _ _ => ⟨rfl, e5, (by decide : 0 + 2 ≤ _), (by decide : 0 + 5 ≤ _)⟩)
    dsimp only [Pt.U, Pt.locs, Pt.cells, Pt.slots] at X7 l7 y7 z7 st7 hQ7
    subst l7 y7 z7
    obtain ⟨h7, e7⟩ : ∃ z, T7.heap = z := ⟨_, rfl⟩
    rw [e7] at hQ7
    obtain ⟨k1_9_7, nb4_7, nnb1_9_7, rfl, N7q, K7, sznb4_7, sznnb1_9_7, nenb4_nnb1_9_7, g7_0, g7_1, g7_2, g7_3, g7_4⟩ := hQ7
    have N8 := Fr.app N0 N7q
    have ge9 : n0 ≤ nb4_7 := Nat.le_trans (Nat.le_trans (Nat.le_of_eq O0.1.symm) O0.2.1) sznb4_7
    have sz10 : h0.size ≤ nb4_7 := Nat.le_trans K0.1 sznb4_7
    have ge11 : n0 ≤ nnb1_9_7 := Nat.le_trans (Nat.le_trans (Nat.le_of_eq O0.1.symm) O0.2.1) sznnb1_9_7
    have sz12 : h0.size ≤ nnb1_9_7 := Nat.le_trans K0.1 sznnb1_9_7
    obtain ⟨T13, h13, X13, e13, E13, A13, D13, -, st13⟩ := newO X7 hx hZ hown (own_w hw 30 rfl) (own_w hw 31 rfl) (own_w hw 32 rfl) e7 (g := (mkF m 56 #[lvI p0_, lvI p1_, lvI (0 : Int32), lvR w_WORDS, lvI (0 : Int32), lvR nb4_7, .unset, .unset, .unset, .unset, .unset] [])) rfl (hb hby at_56) (by decide) (by decide)
    obtain ⟨b13, g13⟩ : ∃ z, z = h7.size := ⟨_, rfl⟩
    rw [← g13] at A13 D13 st13
    have f14 : Old Z n0 h7 := O0.keep K7 all0
    have ge15 : n0 ≤ b13 := Nat.le_trans (Nat.le_trans (Nat.le_of_eq f14.1.symm) f14.2.1) (Nat.le_of_eq g13.symm)
    have f16 : Keep h0 h7 [] := K0.trans K7 all0
    have sz17 : h0.size ≤ b13 := Nat.le_trans f16.1 (Nat.le_of_eq g13.symm)
    have f18 : Fld Z h13 b13 "java/util/AbstractList" "modCount" "I" (.int (0 : Int32)) := D13 (Or.inl (own_w hw 50 rfl)) (ty := .int) (by decide)
    have f19 : Fld Z h13 b13 "java/util/ArrayList" "elementData" "[Ljava/lang/Object;" .null := D13 (Or.inl (own_w hw 53 rfl)) (ty := (.array (.object "java/lang/Object"))) (by decide)
    have f20 : Fld Z h13 b13 "java/util/ArrayList" "size" "I" (.int (0 : Int32)) := D13 (Or.inl (own_w hw 62 rfl)) (ty := .int) (by decide)
    have f22 : Old Z n0 h13 := f14.ext E13
    obtain ⟨_, _, ⟨T21, L21, k21, n21⟩, -, X21, ⟨Lc21, hQ21, l21, y21, z21⟩, st21⟩ := X13.specialBack hx (y := (⟨"java/util/ArrayList", "<init>", "()V"⟩ : MethodName)) rfl hown (mvT hZ (own_w hw 33 rfl)) (mvT hZ (own_w hw 34 rfl)) (mvT hZ (own_w hw 35 rfl)) (by decide) (backOf (W := 1) (rminit5 l Z a0 hw [] b13 w_DEFAULTCAPACITY_EMPTY_ELEMENTDATA k_w_DEFAULTCAPACITY_EMPTY_ELEMENTDATA h13 n0 f22 A13 f18 f19 f20 ge15 P11 P16 P10) hZ (own_w hw 35 rfl) (own_w hw 32 rfl) (by decide) (by decide)) (g := (mkF m 60 #[lvI p0_, lvI p1_, lvI (0 : Int32), lvR w_WORDS, lvI (0 : Int32), lvR nb4_7, .unset, .unset, .unset, .unset, .unset] [(.ref b13), (.ref b13)])) rfl (by rw [hml]; rfl) (Steps.refl _) (a := b13) (argsL := []) (rest := [(.ref b13)]) (lenOf pd_4 rfl) rfl (by show 2 * 0 + _ ≤ _; exact Nat.le_of_eq rfl) (hb hby at_60) (fun _ _ => ⟨rfl, e13, (by decide : 3 + 0 ≤ _), (by decide : 8 + 0 ≤ _)⟩)
    dsimp only [Pt.U, Pt.locs, Pt.cells, Pt.slots] at X21 l21 y21 z21 st21 hQ21
    subst l21 y21 z21
    obtain ⟨h21, e21⟩ : ∃ z, T21.heap = z := ⟨_, rfl⟩
    rw [e21] at hQ21
    obtain ⟨rfl, N21q, K21, g21_0, g21_1, g21_2, g21_3⟩ := hQ21
    have N23 := Fr.app N8 N21q
    obtain ⟨T24, h24, X24, e24, E24, A24, D24, -, st24⟩ := newO X21 hx hZ hown (own_w hw 30 rfl) (own_w hw 31 rfl) (own_w hw 32 rfl) e21 (g := (mkF m 65 #[lvI p0_, lvI p1_, lvI (0 : Int32), lvR w_WORDS, lvI (0 : Int32), lvR nb4_7, lvR b13, .unset, .unset, .unset, .unset] [])) rfl (hb hby at_65) (by decide) (by decide)
    obtain ⟨b24, g24⟩ : ∃ z, z = h21.size := ⟨_, rfl⟩
    rw [← g24] at A24 D24 st24
    have f25 : Old Z n0 h21 := f22.keep K21 (allS (ge15) all0)
    have ge26 : n0 ≤ b24 := Nat.le_trans (Nat.le_trans (Nat.le_of_eq f25.1.symm) f25.2.1) (Nat.le_of_eq g24.symm)
    have f27 : Keep h0 h13 [] := f16.ext E13
    have f28 : Keep h0 h21 [] := f27.trans K21 (allS (Or.inr sz17) all0)
    have sz29 : h0.size ≤ b24 := Nat.le_trans f28.1 (Nat.le_of_eq g24.symm)
    have f30 : Fld Z h24 b24 "java/util/AbstractList" "modCount" "I" (.int (0 : Int32)) := D24 (Or.inl (own_w hw 50 rfl)) (ty := .int) (by decide)
    have f31 : Fld Z h24 b24 "java/util/ArrayList" "elementData" "[Ljava/lang/Object;" .null := D24 (Or.inl (own_w hw 53 rfl)) (ty := (.array (.object "java/lang/Object"))) (by decide)
    have f32 : Fld Z h24 b24 "java/util/ArrayList" "size" "I" (.int (0 : Int32)) := D24 (Or.inl (own_w hw 62 rfl)) (ty := .int) (by decide)
    have f34 : Old Z n0 h24 := f25.ext E24
    obtain ⟨_, _, ⟨T33, L33, k33, n33⟩, -, X33, ⟨Lc33, hQ33, l33, y33, z33⟩, st33⟩ := X24.specialBack hx (y := (⟨"java/util/ArrayList", "<init>", "()V"⟩ : MethodName)) rfl hown (mvT hZ (own_w hw 33 rfl)) (mvT hZ (own_w hw 34 rfl)) (mvT hZ (own_w hw 35 rfl)) (by decide) (backOf (W := 1) (rminit5 l Z a0 hw [] b24 w_DEFAULTCAPACITY_EMPTY_ELEMENTDATA k_w_DEFAULTCAPACITY_EMPTY_ELEMENTDATA h24 n0 f34 A24 f30 f31 f32 ge26 P11 P16 P10) hZ (own_w hw 35 rfl) (own_w hw 32 rfl) (by decide) (by decide)) (g := (mkF m 69 #[lvI p0_, lvI p1_, lvI (0 : Int32), lvR w_WORDS, lvI (0 : Int32), lvR nb4_7, lvR b13, .unset, .unset, .unset, .unset] [(.ref b24), (.ref b24)])) rfl (by rw [hml]; rfl) (Steps.refl _) (a := b24) (argsL := []) (rest := [(.ref b24)]) (lenOf pd_4 rfl) rfl (by show 2 * 0 + _ ≤ _; exact Nat.le_of_eq rfl) (hb hby at_69) (fun _ _ => ⟨rfl, e24, (by decide : 4 + 0 ≤ _), (by decide : 11 + 0 ≤ _)⟩)
    dsimp only [Pt.U, Pt.locs, Pt.cells, Pt.slots] at X33 l33 y33 z33 st33 hQ33
    subst l33 y33 z33
    obtain ⟨h33, e33⟩ : ∃ z, T33.heap = z := ⟨_, rfl⟩
    rw [e33] at hQ33
    obtain ⟨rfl, N33q, K33, g33_0, g33_1, g33_2, g33_3⟩ := hQ33
    have N35 := Fr.app N23 N33q
    have f37 : Exa Z h13 nb4_7 "java/lang/String" := g7_0.ext E13
    have f38 : Exa Z h21 nb4_7 "java/lang/String" := f37.keep K21
    have f39 : Exa Z h24 nb4_7 "java/lang/String" := f38.ext E24
    have f40 : Exa Z h33 nb4_7 "java/lang/String" := f39.keep K33
    have f41 : Fld Z h13 nb4_7 "java/lang/String" "value" "[B" (.ref nnb1_9_7) := g7_1.ext E13
    have ne43 : nb4_7 ≠ b13 := Nat.ne_of_lt (Nat.lt_of_lt_of_le g7_0.lt (Nat.le_of_eq g13.symm))
    have f42 : Fld Z h21 nb4_7 "java/lang/String" "value" "[B" (.ref nnb1_9_7) := f41.keep K21 (ninS ne43 nin0)
    have f44 : Fld Z h24 nb4_7 "java/lang/String" "value" "[B" (.ref nnb1_9_7) := f42.ext E24
    have ne46 : nb4_7 ≠ b24 := Nat.ne_of_lt (Nat.lt_of_lt_of_le f38.lt (Nat.le_of_eq g24.symm))
    have f45 : Fld Z h33 nb4_7 "java/lang/String" "value" "[B" (.ref nnb1_9_7) := f44.keep K33 (ninS ne46 nin0)
    have f47 : Fld Z h13 nb4_7 "java/lang/String" "coder" "B" (.int (0 : Int32)) := g7_2.ext E13
    have f48 : Fld Z h21 nb4_7 "java/lang/String" "coder" "B" (.int (0 : Int32)) := f47.keep K21 (ninS ne43 nin0)
    have f49 : Fld Z h24 nb4_7 "java/lang/String" "coder" "B" (.int (0 : Int32)) := f48.ext E24
    have f50 : Fld Z h33 nb4_7 "java/lang/String" "coder" "B" (.int (0 : Int32)) := f49.keep K33 (ninS ne46 nin0)
    have f51 : Arv Z h13 nnb1_9_7 k1_9_7 .byte (1 : Int32) [(.int ((p1_ &&& (255 : Int32)).toInt8.toInt32))] (.int (0 : Int32)) := g7_3.ext E13
    have ne53 : nnb1_9_7 ≠ b13 := Nat.ne_of_lt (Nat.lt_of_lt_of_le g7_3.lt (Nat.le_of_eq g13.symm))
    have f52 : Arv Z h21 nnb1_9_7 k1_9_7 .byte (1 : Int32) [(.int ((p1_ &&& (255 : Int32)).toInt8.toInt32))] (.int (0 : Int32)) := f51.keep K21 (ninS ne53 nin0)
    have f54 : Arv Z h24 nnb1_9_7 k1_9_7 .byte (1 : Int32) [(.int ((p1_ &&& (255 : Int32)).toInt8.toInt32))] (.int (0 : Int32)) := f52.ext E24
    have ne56 : nnb1_9_7 ≠ b24 := Nat.ne_of_lt (Nat.lt_of_lt_of_le f52.lt (Nat.le_of_eq g24.symm))
    have f55 : Arv Z h33 nnb1_9_7 k1_9_7 .byte (1 : Int32) [(.int ((p1_ &&& (255 : Int32)).toInt8.toInt32))] (.int (0 : Int32)) := f54.keep K33 (ninS ne56 nin0)
    have f57 : Exa Z h13 nnb1_9_7 "[B" := g7_4.ext E13
    have f58 : Exa Z h21 nnb1_9_7 "[B" := f57.keep K21
    have f59 : Exa Z h24 nnb1_9_7 "[B" := f58.ext E24
    have f60 : Exa Z h33 nnb1_9_7 "[B" := f59.keep K33
    have f61 : Old Z n0 h33 := f34.keep K33 (allS (ge26) all0)
    obtain ⟨cq36, kq36, q36a, q36b, q36c⟩ := isOf hZ e33 g33_0
    obtain ⟨_, _, ⟨T36, L36, k36, n36⟩, -, X36, ⟨Lc36, hQ36, l36, y36, z36⟩, st36⟩ := X33.virtualBack hx (y := (⟨"java/util/ArrayList", "add", "(Ljava/lang/Object;)Z"⟩ : MethodName)) (z := (⟨"java/util/ArrayList", "add", "(Ljava/lang/Object;)Z"⟩ : MethodName)) hown (mvT hZ (own_w hw 54 rfl)) (mvT hZ (own_w hw 55 rfl)) (notFace_of_selects (args := #[]) (mvT hZ (own_w hw 57 rfl))) (mvT hZ (own_w hw 57 rfl)) (mvT hZ (own_w hw 56 rfl)) (by decide) (backOf (W := 0) (rmadd8 l Z a0 hw [] b24 nb4_7 w_DEFAULTCAPACITY_EMPTY_ELEMENTDATA nnb1_9_7 k_w_DEFAULTCAPACITY_EMPTY_ELEMENTDATA k1_9_7 ((p1_ &&& (255 : Int32)).toInt8.toInt32) h33 n0 f61 g33_0 g33_1 g33_2 g33_3 f40 f45 f50 P11 P16 f55 f60 ge26 P10 ne46 ne56) hZ (own_w hw 58 rfl) (own_w hw 32 rfl) (by decide) (by decide)) q36a q36c (g := (mkF m 78 #[lvI p0_, lvI p1_, lvI (0 : Int32), lvR w_WORDS, lvI (0 : Int32), lvR nb4_7, lvR b13, lvR b24, .unset, .unset, .unset] [(.ref nb4_7), (.ref b24)])) rfl (by rw [hml]; rfl) (Steps.refl _) (argsL := [(.ref nb4_7)]) (rest := []) (lenOf pd_9 rfl) rfl (by show 2 * 0 + _ ≤ _; exact Nat.le_of_eq rfl) (hb hby at_78) (fun _ _ => ⟨rfl, e33, (by decide : 4 + 1 ≤ _), (by decide : 11 + 10 ≤ _)⟩)
    dsimp only [Pt.U, Pt.locs, Pt.cells, Pt.slots] at X36 l36 y36 z36 st36 hQ36
    subst l36 y36 z36
    obtain ⟨h36, e36⟩ : ∃ z, T36.heap = z := ⟨_, rfl⟩
    rw [e36] at hQ36
    obtain ⟨k8_2_3_9_36, nnnnb8_2_3_9_36, rfl, N36q, K36, sznnnnb8_2_3_9_36, g36_0, g36_1, g36_2, g36_3, g36_4, g36_5⟩ := hQ36
    have N62 := Fr.app N35 N36q
    have ge63 : n0 ≤ nnnnb8_2_3_9_36 := Nat.le_trans (Nat.le_trans (Nat.le_of_eq f61.1.symm) f61.2.1) sznnnnb8_2_3_9_36
    have f64 : Keep h0 h24 [] := f28.ext E24
    have f65 : Keep h0 h33 [] := f64.trans K33 (allS (Or.inr sz29) all0)
    have sz66 : h0.size ≤ nnnnb8_2_3_9_36 := Nat.le_trans f65.1 sznnnnb8_2_3_9_36
    have f68 : Old Z n0 h36 := f61.keep K36 (allS (ge26) all0)
    have f69 : Exa Z h36 w_WORDS cn1 := P2.ext f68.2
    obtain ⟨cq67, kq67, q67a, q67b, q67c⟩ := isOf hZ e36 f69
    obtain ⟨_, _, ⟨T67, L67, k67, n67⟩, -, X67, ⟨Lc67, hQ67, l67, y67, z67⟩, st67⟩ := X36.virtualBack hx (y := mn2) (z := mn2) hown (mvT hZ (own_w hw 85 rfl)) (mvT hZ (own_w hw 86 rfl)) (notFace_of_selects (args := #[]) (mvT hZ (own_w hw 88 rfl))) (mvT hZ (own_w hw 88 rfl)) (mvT hZ (own_w hw 87 rfl)) (by decide) (backOf (W := 0) (rmholdsConcepts19 l Z a0 hw [] w_WORDS h36 n0 f68 P2 P12 P1) hZ (own_w hw 89 rfl) (own_w hw 2 rfl) (by decide) (by decide)) q67a q67c (g := (mkF m 83 #[lvI p0_, lvI p1_, lvI (0 : Int32), lvR w_WORDS, lvI (0 : Int32), lvR nb4_7, lvR b13, lvR b24, .unset, .unset, .unset] [(.ref w_WORDS)])) rfl (by rw [hml]; rfl) (Steps.refl _) (argsL := []) (rest := []) (lenOf pd_10 rfl) rfl (by show 2 * 0 + _ ≤ _; exact Nat.le_of_eq rfl) (hb hby at_83) (fun _ _ => ⟨rfl, e36, (by decide : 5 + 0 ≤ _), (by decide : 21 + 0 ≤ _)⟩)
    dsimp only [Pt.U, Pt.locs, Pt.cells, Pt.slots] at X67 l67 y67 z67 st67 hQ67
    subst l67 y67 z67
    obtain ⟨h67, e67⟩ : ∃ z, T67.heap = z := ⟨_, rfl⟩
    rw [e67] at hQ67
    obtain ⟨rfl, N67q, hh67⟩ := hQ67
    have N70 := Fr.app N62 N67q
    have e67' : T67.heap = h36 := e67.trans hh67
    have f72 : Exa Z h24 b13 "java/util/ArrayList" := g21_0.ext E24
    have f73 : Exa Z h33 b13 "java/util/ArrayList" := f72.keep K33
    have f74 : Exa Z h36 b13 "java/util/ArrayList" := f73.keep K36
    have f75 : Fld Z h24 b13 "java/util/AbstractList" "modCount" "I" (.int (0 : Int32)) := g21_1.ext E24
    have ne77 : b13 ≠ b24 := Nat.ne_of_lt (Nat.lt_of_lt_of_le g21_0.lt (Nat.le_of_eq g24.symm))
    have f76 : Fld Z h33 b13 "java/util/AbstractList" "modCount" "I" (.int (0 : Int32)) := f75.keep K33 (ninS ne77 nin0)
    have f78 : Fld Z h36 b13 "java/util/AbstractList" "modCount" "I" (.int (0 : Int32)) := f76.keep K36 (ninS ne77 nin0)
    have f79 : Fld Z h24 b13 "java/util/ArrayList" "elementData" "[Ljava/lang/Object;" (.ref w_DEFAULTCAPACITY_EMPTY_ELEMENTDATA) := g21_2.ext E24
    have f80 : Fld Z h33 b13 "java/util/ArrayList" "elementData" "[Ljava/lang/Object;" (.ref w_DEFAULTCAPACITY_EMPTY_ELEMENTDATA) := f79.keep K33 (ninS ne77 nin0)
    have f81 : Fld Z h36 b13 "java/util/ArrayList" "elementData" "[Ljava/lang/Object;" (.ref w_DEFAULTCAPACITY_EMPTY_ELEMENTDATA) := f80.keep K36 (ninS ne77 nin0)
    have f82 : Fld Z h24 b13 "java/util/ArrayList" "size" "I" (.int (0 : Int32)) := g21_3.ext E24
    have f83 : Fld Z h33 b13 "java/util/ArrayList" "size" "I" (.int (0 : Int32)) := f82.keep K33 (ninS ne77 nin0)
    have f84 : Fld Z h36 b13 "java/util/ArrayList" "size" "I" (.int (0 : Int32)) := f83.keep K36 (ninS ne77 nin0)
    have f85 : Exa Z h36 nb4_7 "java/lang/String" := f40.keep K36
    have f86 : Fld Z h36 nb4_7 "java/lang/String" "value" "[B" (.ref nnb1_9_7) := f45.keep K36 (ninS ne46 nin0)
    have f87 : Fld Z h36 nb4_7 "java/lang/String" "coder" "B" (.int (0 : Int32)) := f50.keep K36 (ninS ne46 nin0)
    have f88 : Arv Z h36 nnb1_9_7 k1_9_7 .byte (1 : Int32) [(.int ((p1_ &&& (255 : Int32)).toInt8.toInt32))] (.int (0 : Int32)) := f55.keep K36 (ninS ne56 nin0)
    have f89 : Exa Z h36 nnb1_9_7 "[B" := f60.keep K36
    have f90 : Exa Z h36 w_WORDS cn1 := P2.ext f68.2
    obtain ⟨cq71, kq71, q71a, q71b, q71c⟩ := isOf hZ e67' f90
    obtain ⟨_, _, ⟨T71, L71, k71, n71⟩, -, X71, ⟨Lc71, hQ71, l71, y71, z71⟩, st71⟩ := X67.virtualBack hx (y := mn4) (z := mn4) hown (mvT hZ (own_w hw 91 rfl)) (mvT hZ (own_w hw 92 rfl)) (notFace_of_selects (args := #[]) (mvT hZ (own_w hw 94 rfl))) (mvT hZ (own_w hw 94 rfl)) (mvT hZ (own_w hw 93 rfl)) (by decide) (backOf (W := 0) (rmterms20 l Z a0 hw [] w_WORDS b13 b24 w_DEFAULTCAPACITY_EMPTY_ELEMENTDATA nnnnb8_2_3_9_36 k_w_DEFAULTCAPACITY_EMPTY_ELEMENTDATA k8_2_3_9_36 nb4_7 nnb1_9_7 k1_9_7 ((p1_ &&& (255 : Int32)).toInt8.toInt32) h36 n0 f68 P2 P12 f74 f78 f81 f84 g36_0 g36_1 g36_2 g36_3 P11 P16 g36_4 g36_5 f85 f86 f87 f88 f89) hZ (own_w hw 95 rfl) (own_w hw 2 rfl) (by decide) (by decide)) q71a q71c (g := (mkF m 93 #[lvI p0_, lvI p1_, lvI (0 : Int32), lvR w_WORDS, lvI (0 : Int32), lvR nb4_7, lvR b13, lvR b24, lvI (0 : Int32), .unset, .unset] [(.ref b24), (.ref b13), (.ref w_WORDS)])) rfl (by rw [hml]; rfl) (Steps.refl _) (argsL := [(.ref b13), (.ref b24)]) (rest := []) (lenOf pd_12 rfl) rfl (by show 2 * 0 + _ ≤ _; exact Nat.le_of_eq rfl) (hb hby at_93) (fun _ _ => ⟨rfl, e67', (by decide : 5 + 0 ≤ _), (by decide : 21 + 0 ≤ _)⟩)
    dsimp only [Pt.U, Pt.locs, Pt.cells, Pt.slots] at X71 l71 y71 z71 st71 hQ71
    subst l71 y71 z71
    obtain ⟨h71, e71⟩ : ∃ z, T71.heap = z := ⟨_, rfl⟩
    rw [e71] at hQ71
    obtain ⟨rfl, N71q, hh71⟩ := hQ71
    have N91 := Fr.app N70 N71q
    have e71' : T71.heap = h36 := e71.trans hh71
    obtain ⟨cq92, kq92, q92a, q92b, q92c⟩ := isOf hZ e71' f74
    obtain ⟨_, _, ⟨T92, L92, k92, n92⟩, -, X92, ⟨Lc92, hQ92, l92, y92, z92⟩, st92⟩ := X71.interfaceBack hx (xi := (⟨"java/util/List", "size", "()I"⟩ : MethodName)) (y := (⟨"java/util/ArrayList", "size", "()I"⟩ : MethodName)) hown (mvT hZ (own_w hw 105 rfl)) (mvT hZ (own_w hw 106 rfl)) (mvT hZ (own_w hw 107 rfl)) (mvT hZ (own_w hw 108 rfl)) (mvT hZ (own_w hw 109 rfl)) (mvT hZ (own_w hw 110 rfl)) (mvT hZ (own_w hw 111 rfl)) (mvT hZ (own_w hw 112 rfl)) (by decide) (backOf (W := 0) (rmsize22 l Z a0 hw [] b13 w_DEFAULTCAPACITY_EMPTY_ELEMENTDATA k_w_DEFAULTCAPACITY_EMPTY_ELEMENTDATA h36 n0 f68 f74 f78 f81 f84 P11 P16) hZ (own_w hw 113 rfl) (own_w hw 32 rfl) (by decide) (by decide)) q92a q92b q92c (g := (mkF m 100 #[lvI p0_, lvI p1_, lvI (0 : Int32), lvR w_WORDS, lvI (0 : Int32), lvR nb4_7, lvR b13, lvR b24, lvI (0 : Int32), lvR b13, .unset] [(.ref b13)])) rfl (by rw [hml]; rfl) (Steps.refl _) (argsL := []) (rest := []) (lenOf pd_11 rfl) rfl (by show 2 * 0 + _ ≤ _; exact Nat.le_of_eq rfl) (hb hby at_100) (fun _ _ => ⟨rfl, e71', (by decide : 5 + 0 ≤ _), (by decide : 21 + 0 ≤ _)⟩)
    dsimp only [Pt.U, Pt.locs, Pt.cells, Pt.slots] at X92 l92 y92 z92 st92 hQ92
    subst l92 y92 z92
    obtain ⟨h92, e92⟩ : ∃ z, T92.heap = z := ⟨_, rfl⟩
    rw [e92] at hQ92
    obtain ⟨rfl, N92q, hh92⟩ := hQ92
    have N93 := Fr.app N91 N92q
    have e92' : T92.heap = h36 := e92.trans hh92
    have pre94 : ∀ t, own_S p e below m T92 154 #[lvI p0_, lvI p1_, lvI (0 : Int32), lvR w_WORDS, lvI (0 : Int32), lvR nb4_7, lvR b13, lvR b24, lvI (0 : Int32), lvR b13, lvI (0 : Int32)] [(.int (1 : Int32))] t → G t := by
      intro t kt
      refine pre4 t ?_
      show own_S p e below m s₁ 6 #[lvI p0_, lvI p1_, .unset, .unset, .unset, .unset, .unset, .unset, .unset, .unset, .unset] [(.int (0 : Int32))] _
      refine XS.istoreN X0.here hx rfl (hb hby at_6) rfl (l' := #[lvI p0_, lvI p1_, lvI (0 : Int32), .unset, .unset, .unset, .unset, .unset, .unset, .unset, .unset]) rfl ?_
      refine XS.iloadN X0.here hx rfl (hb hby at_7) rfl ?_
      show own_S p e below m s₁ 8 #[lvI p0_, lvI p1_, lvI (0 : Int32), .unset, .unset, .unset, .unset, .unset, .unset, .unset, .unset] [(.int (0 : Int32))] _
      refine XS.ifNo X0.here hx rfl (hb hby at_8) rfl ((if0 _ _).trans (teq (by decide : (0 : Int32) = (0 : Int32))).2) ?_
      show own_S p e below m s₁ 11 #[lvI p0_, lvI p1_, lvI (0 : Int32), .unset, .unset, .unset, .unset, .unset, .unset, .unset, .unset] [] _
      refine st5 _ ?_
      refine XS.astoreN X5.here hx rfl (hb hby at_14) rfl rfl (l' := #[lvI p0_, lvI p1_, lvI (0 : Int32), lvR w_WORDS, .unset, .unset, .unset, .unset, .unset, .unset, .unset]) rfl ?_
      refine XS.goto X5.here hx rfl (pc0 := 15) (pc' := 34) rfl (hb hby at_15) (by decide) (by decide) ?_
      refine XS.iloadN X5.here hx rfl (hb hby at_34) rfl ?_
      show own_S p e below m T5 35 #[lvI p0_, lvI p1_, lvI (0 : Int32), lvR w_WORDS, .unset, .unset, .unset, .unset, .unset, .unset, .unset] [(.int (0 : Int32))] _
      refine XS.ifYes X5.here hx rfl (pc0 := 35) (pc' := 42) rfl (hb hby at_35) rfl ((if0 _ _).trans (teq (by decide : (0 : Int32) = (0 : Int32))).1) (by decide) (by decide) ?_
      refine XS.iconst X5.here hx rfl (hb hby at_42) ?_
      refine XS.istore X5.here hx rfl (hb hby at_43) rfl (l' := #[lvI p0_, lvI p1_, lvI (0 : Int32), lvR w_WORDS, lvI (0 : Int32), .unset, .unset, .unset, .unset, .unset, .unset]) rfl ?_
      refine XS.iloadN X5.here hx rfl (hb hby at_45) rfl ?_
      refine XS.sipush X5.here hx rfl (hb hby at_46) ?_
      refine XS.iand X5.here hx rfl (hb hby at_49) rfl ?_
      show own_S p e below m T5 50 #[lvI p0_, lvI p1_, lvI (0 : Int32), lvR w_WORDS, lvI (0 : Int32), .unset, .unset, .unset, .unset, .unset, .unset] [(.int (p1_ &&& (255 : Int32)))] _
      refine XS.i2c X5.here hx rfl (hb hby at_50) rfl ?_
      show own_S p e below m T5 51 #[lvI p0_, lvI p1_, lvI (0 : Int32), lvR w_WORDS, lvI (0 : Int32), .unset, .unset, .unset, .unset, .unset, .unset] [(.int ((p1_ &&& (255 : Int32)).toUInt32.toUInt16.toUInt32.toInt32))] _
      rw [i2c_mask]
      show own_S p e below m T5 51 #[lvI p0_, lvI p1_, lvI (0 : Int32), lvR w_WORDS, lvI (0 : Int32), .unset, .unset, .unset, .unset, .unset, .unset] [(.int (p1_ &&& (255 : Int32)))] _
      refine st7 _ ?_
      refine XS.astore X7.here hx rfl (hb hby at_54) rfl rfl (l' := #[lvI p0_, lvI p1_, lvI (0 : Int32), lvR w_WORDS, lvI (0 : Int32), lvR nb4_7, .unset, .unset, .unset, .unset, .unset]) rfl ?_
      show own_S p e below m T7 56 #[lvI p0_, lvI p1_, lvI (0 : Int32), lvR w_WORDS, lvI (0 : Int32), lvR nb4_7, .unset, .unset, .unset, .unset, .unset] [] _
      refine st13 _ ?_
      refine XS.dup X13.here hx rfl (hb hby at_59) rfl rfl ?_
      show own_S p e below m T13 60 #[lvI p0_, lvI p1_, lvI (0 : Int32), lvR w_WORDS, lvI (0 : Int32), lvR nb4_7, .unset, .unset, .unset, .unset, .unset] [(.ref b13), (.ref b13)] _
      refine st21.trans ?_
      refine XS.astore X21.here hx rfl (hb hby at_63) rfl rfl (l' := #[lvI p0_, lvI p1_, lvI (0 : Int32), lvR w_WORDS, lvI (0 : Int32), lvR nb4_7, lvR b13, .unset, .unset, .unset, .unset]) rfl ?_
      show own_S p e below m T21 65 #[lvI p0_, lvI p1_, lvI (0 : Int32), lvR w_WORDS, lvI (0 : Int32), lvR nb4_7, lvR b13, .unset, .unset, .unset, .unset] [] _
      refine st24 _ ?_
      refine XS.dup X24.here hx rfl (hb hby at_68) rfl rfl ?_
      show own_S p e below m T24 69 #[lvI p0_, lvI p1_, lvI (0 : Int32), lvR w_WORDS, lvI (0 : Int32), lvR nb4_7, lvR b13, .unset, .unset, .unset, .unset] [(.ref b24), (.ref b24)] _
      refine st33.trans ?_
      refine XS.astore X33.here hx rfl (hb hby at_72) rfl rfl (l' := #[lvI p0_, lvI p1_, lvI (0 : Int32), lvR w_WORDS, lvI (0 : Int32), lvR nb4_7, lvR b13, lvR b24, .unset, .unset, .unset]) rfl ?_
      refine XS.aload X33.here hx rfl (hb hby at_74) rfl rfl ?_
      refine XS.aload X33.here hx rfl (hb hby at_76) rfl rfl ?_
      show own_S p e below m T33 78 #[lvI p0_, lvI p1_, lvI (0 : Int32), lvR w_WORDS, lvI (0 : Int32), lvR nb4_7, lvR b13, lvR b24, .unset, .unset, .unset] [(.ref nb4_7), (.ref b24)] _
      refine st36.trans ?_
      refine XS.pop X36.here hx rfl (hb hby at_81) rfl rfl ?_
      refine XS.aloadN X36.here hx rfl (hb hby at_82) rfl rfl ?_
      show own_S p e below m T36 83 #[lvI p0_, lvI p1_, lvI (0 : Int32), lvR w_WORDS, lvI (0 : Int32), lvR nb4_7, lvR b13, lvR b24, .unset, .unset, .unset] [(.ref w_WORDS)] _
      refine st67.trans ?_
      refine XS.istore X67.here hx rfl (hb hby at_86) rfl (l' := #[lvI p0_, lvI p1_, lvI (0 : Int32), lvR w_WORDS, lvI (0 : Int32), lvR nb4_7, lvR b13, lvR b24, lvI (0 : Int32), .unset, .unset]) rfl ?_
      refine XS.aloadN X67.here hx rfl (hb hby at_88) rfl rfl ?_
      refine XS.aload X67.here hx rfl (hb hby at_89) rfl rfl ?_
      refine XS.aload X67.here hx rfl (hb hby at_91) rfl rfl ?_
      show own_S p e below m T67 93 #[lvI p0_, lvI p1_, lvI (0 : Int32), lvR w_WORDS, lvI (0 : Int32), lvR nb4_7, lvR b13, lvR b24, lvI (0 : Int32), .unset, .unset] [(.ref b24), (.ref b13), (.ref w_WORDS)] _
      refine st71.trans ?_
      refine XS.astore X71.here hx rfl (hb hby at_96) rfl rfl (l' := #[lvI p0_, lvI p1_, lvI (0 : Int32), lvR w_WORDS, lvI (0 : Int32), lvR nb4_7, lvR b13, lvR b24, lvI (0 : Int32), lvR b13, .unset]) rfl ?_
      refine XS.aload X71.here hx rfl (hb hby at_98) rfl rfl ?_
      show own_S p e below m T71 100 #[lvI p0_, lvI p1_, lvI (0 : Int32), lvR w_WORDS, lvI (0 : Int32), lvR nb4_7, lvR b13, lvR b24, lvI (0 : Int32), lvR b13, .unset] [(.ref b13)] _
      refine st92.trans ?_
      refine XS.iconst X92.here hx rfl (hb hby at_105) ?_
      show own_S p e below m T92 106 #[lvI p0_, lvI p1_, lvI (0 : Int32), lvR w_WORDS, lvI (0 : Int32), lvR nb4_7, lvR b13, lvR b24, lvI (0 : Int32), lvR b13, .unset] [(.int (1 : Int32)), (.int (0 : Int32))] _
      refine XS.icmpYes X92.here hx rfl (pc0 := 106) (pc' := 132) rfl (hb hby at_106) rfl (feq (by decide : ¬ ((0 : Int32) = (1 : Int32)))).2 (by decide) (by decide) ?_
      refine XS.iconst X92.here hx rfl (hb hby at_132) ?_
      refine XS.istore X92.here hx rfl (hb hby at_133) rfl (l' := #[lvI p0_, lvI p1_, lvI (0 : Int32), lvR w_WORDS, lvI (0 : Int32), lvR nb4_7, lvR b13, lvR b24, lvI (0 : Int32), lvR b13, lvI (0 : Int32)]) rfl ?_
      refine XS.iload X92.here hx rfl (hb hby at_135) rfl ?_
      refine XS.iload X92.here hx rfl (hb hby at_137) rfl ?_
      show own_S p e below m T92 139 #[lvI p0_, lvI p1_, lvI (0 : Int32), lvR w_WORDS, lvI (0 : Int32), lvR nb4_7, lvR b13, lvR b24, lvI (0 : Int32), lvR b13, lvI (0 : Int32)] [(.int (0 : Int32)), (.int (0 : Int32))] _
      refine XS.icmpNo X92.here hx rfl (hb hby at_139) rfl (teq (by decide : (0 : Int32) = (0 : Int32))).2 ?_
      refine XS.iload X92.here hx rfl (hb hby at_142) rfl ?_
      refine XS.iload X92.here hx rfl (hb hby at_144) rfl ?_
      show own_S p e below m T92 146 #[lvI p0_, lvI p1_, lvI (0 : Int32), lvR w_WORDS, lvI (0 : Int32), lvR nb4_7, lvR b13, lvR b24, lvI (0 : Int32), lvR b13, lvI (0 : Int32)] [(.int (0 : Int32)), (.int (0 : Int32))] _
      refine XS.icmpNo X92.here hx rfl (hb hby at_146) rfl (teq (by decide : (0 : Int32) = (0 : Int32))).2 ?_
      refine XS.iconst X92.here hx rfl (hb hby at_149) ?_
      refine XS.goto X92.here hx rfl (pc0 := 150) (pc' := 154) rfl (hb hby at_150) (by decide) (by decide) ?_
      exact kt
    obtain ⟨fs, hr, hrun, hended, hW, hsame⟩ := X92.leave (v := some (.int (1 : Int32))) (fun h => by rw [Bd.returns] at h; cases h)
    refine ⟨_, _, hG _ (pre94 _ (retN X92 hx (t := .boolean) Bd.returns (by simp) (hb hby at_154) hr)), hrun, hended, _, _, rfl, ?_, ⟨_, rfl⟩, hW, hsame.mono (by decide) (by decide)⟩
    show QLaw Z p0_ p1_ w_DEFAULTCAPACITY_EMPTY_ELEMENTDATA w_EMPTY_ELEMENTDATA w_COMPACT_STRINGS w_CONCEPTS w_BOTH w_WORDS k_w_EMPTY_ELEMENTDATA k_w_DEFAULTCAPACITY_EMPTY_ELEMENTDATA mr_ h0 n0 _ T92.heap _
    rw [e92']
    exact ⟨rfl, N93⟩
  · have pre96 : ∀ t, own_S p e below m s₁ 6 #[lvI p0_, lvI p1_, .unset, .unset, .unset, .unset, .unset, .unset, .unset, .unset, .unset] [(.int (1 : Int32))] t → G t := fun t kt => pre1 t (by rw [hv3]; exact kt)
    obtain ⟨T97, X97, e97, st97⟩ := getS2 X0 hx hZ hown (host := "") (Or.inl (own_w hw 185 rfl)) Via.refl e0 (P5.ext O0.2) (g := (mkF m 23 #[lvI p0_, lvI p1_, lvI (1 : Int32), .unset, .unset, .unset, .unset, .unset, .unset, .unset, .unset] [])) rfl (hb hby at_23)
    have hn98 : ¬ ((255 : Int32) < (p1_ &&& (255 : Int32))) := own_c255 p1_
    obtain ⟨_, _, ⟨T99, L99, k99, n99⟩, -, X99, ⟨Lc99, hQ99, l99, y99, z99⟩, st99⟩ := Jvm.LawKit.callS X97 hx (y := (⟨"java/lang/String", "valueOf", "(C)Ljava/lang/String;"⟩ : MethodName)) hown (mvT hZ (own_w hw 4 rfl)) (mvT hZ (own_w hw 5 rfl)) (mvT hZ (own_w hw 6 rfl)) (mvT hZ (own_w hw 7 rfl)) (by decide) (backOf (W := 0) (rmvalueOf1 l Z a0 hw [] (p1_ &&& (255 : Int32)) w_COMPACT_STRINGS h0 n0 O0 hn98 hz_0 P7) hZ (own_w hw 7 rfl) (own_w hw 6 rfl) (by decide) (by decide)) (g := (mkF m 51 #[lvI p0_, lvI p1_, lvI (1 : Int32), lvR w_CONCEPTS, lvI (1 : Int32), .unset, .unset, .unset, .unset, .unset, .unset] [(.int (p1_ &&& (255 : Int32)))])) rfl (by rw [hml]; rfl) (argsL := [(.int (p1_ &&& (255 : Int32)))]) (rest := []) (lenOf pd_3 rfl) rfl (by show 2 * 0 + _ ≤ _; exact Nat.le_of_eq rfl) (hb hby at_51) (fun _ _ => ⟨rfl, e97, (by decide : 0 + 2 ≤ _), (by decide : 0 + 5 ≤ _)⟩)
    dsimp only [Pt.U, Pt.locs, Pt.cells, Pt.slots] at X99 l99 y99 z99 st99 hQ99
    subst l99 y99 z99
    obtain ⟨h99, e99⟩ : ∃ z, T99.heap = z := ⟨_, rfl⟩
    rw [e99] at hQ99
    obtain ⟨k1_9_99, nb4_99, nnb1_9_99, rfl, N99q, K99, sznb4_99, sznnb1_9_99, nenb4_nnb1_9_99, g99_0, g99_1, g99_2, g99_3, g99_4⟩ := hQ99
    have N100 := Fr.app N0 N99q
    have ge101 : n0 ≤ nb4_99 := Nat.le_trans (Nat.le_trans (Nat.le_of_eq O0.1.symm) O0.2.1) sznb4_99
    have sz102 : h0.size ≤ nb4_99 := Nat.le_trans K0.1 sznb4_99
    have ge103 : n0 ≤ nnb1_9_99 := Nat.le_trans (Nat.le_trans (Nat.le_of_eq O0.1.symm) O0.2.1) sznnb1_9_99
    have sz104 : h0.size ≤ nnb1_9_99 := Nat.le_trans K0.1 sznnb1_9_99
    obtain ⟨T105, h105, X105, e105, E105, A105, D105, -, st105⟩ := newO X99 hx hZ hown (own_w hw 30 rfl) (own_w hw 31 rfl) (own_w hw 32 rfl) e99 (g := (mkF m 56 #[lvI p0_, lvI p1_, lvI (1 : Int32), lvR w_CONCEPTS, lvI (1 : Int32), lvR nb4_99, .unset, .unset, .unset, .unset, .unset] [])) rfl (hb hby at_56) (by decide) (by decide)
    obtain ⟨b105, g105⟩ : ∃ z, z = h99.size := ⟨_, rfl⟩
    rw [← g105] at A105 D105 st105
    have f106 : Old Z n0 h99 := O0.keep K99 all0
    have ge107 : n0 ≤ b105 := Nat.le_trans (Nat.le_trans (Nat.le_of_eq f106.1.symm) f106.2.1) (Nat.le_of_eq g105.symm)
    have f108 : Keep h0 h99 [] := K0.trans K99 all0
    have sz109 : h0.size ≤ b105 := Nat.le_trans f108.1 (Nat.le_of_eq g105.symm)
    have f110 : Fld Z h105 b105 "java/util/AbstractList" "modCount" "I" (.int (0 : Int32)) := D105 (Or.inl (own_w hw 50 rfl)) (ty := .int) (by decide)
    have f111 : Fld Z h105 b105 "java/util/ArrayList" "elementData" "[Ljava/lang/Object;" .null := D105 (Or.inl (own_w hw 53 rfl)) (ty := (.array (.object "java/lang/Object"))) (by decide)
    have f112 : Fld Z h105 b105 "java/util/ArrayList" "size" "I" (.int (0 : Int32)) := D105 (Or.inl (own_w hw 62 rfl)) (ty := .int) (by decide)
    have f114 : Old Z n0 h105 := f106.ext E105
    obtain ⟨_, _, ⟨T113, L113, k113, n113⟩, -, X113, ⟨Lc113, hQ113, l113, y113, z113⟩, st113⟩ := X105.specialBack hx (y := (⟨"java/util/ArrayList", "<init>", "()V"⟩ : MethodName)) rfl hown (mvT hZ (own_w hw 33 rfl)) (mvT hZ (own_w hw 34 rfl)) (mvT hZ (own_w hw 35 rfl)) (by decide) (backOf (W := 1) (rminit5 l Z a0 hw [] b105 w_DEFAULTCAPACITY_EMPTY_ELEMENTDATA k_w_DEFAULTCAPACITY_EMPTY_ELEMENTDATA h105 n0 f114 A105 f110 f111 f112 ge107 P11 P16 P10) hZ (own_w hw 35 rfl) (own_w hw 32 rfl) (by decide) (by decide)) (g := (mkF m 60 #[lvI p0_, lvI p1_, lvI (1 : Int32), lvR w_CONCEPTS, lvI (1 : Int32), lvR nb4_99, .unset, .unset, .unset, .unset, .unset] [(.ref b105), (.ref b105)])) rfl (by rw [hml]; rfl) (Steps.refl _) (a := b105) (argsL := []) (rest := [(.ref b105)]) (lenOf pd_4 rfl) rfl (by show 2 * 0 + _ ≤ _; exact Nat.le_of_eq rfl) (hb hby at_60) (fun _ _ => ⟨rfl, e105, (by decide : 3 + 0 ≤ _), (by decide : 8 + 0 ≤ _)⟩)
    dsimp only [Pt.U, Pt.locs, Pt.cells, Pt.slots] at X113 l113 y113 z113 st113 hQ113
    subst l113 y113 z113
    obtain ⟨h113, e113⟩ : ∃ z, T113.heap = z := ⟨_, rfl⟩
    rw [e113] at hQ113
    obtain ⟨rfl, N113q, K113, g113_0, g113_1, g113_2, g113_3⟩ := hQ113
    have N115 := Fr.app N100 N113q
    obtain ⟨T116, h116, X116, e116, E116, A116, D116, -, st116⟩ := newO X113 hx hZ hown (own_w hw 30 rfl) (own_w hw 31 rfl) (own_w hw 32 rfl) e113 (g := (mkF m 65 #[lvI p0_, lvI p1_, lvI (1 : Int32), lvR w_CONCEPTS, lvI (1 : Int32), lvR nb4_99, lvR b105, .unset, .unset, .unset, .unset] [])) rfl (hb hby at_65) (by decide) (by decide)
    obtain ⟨b116, g116⟩ : ∃ z, z = h113.size := ⟨_, rfl⟩
    rw [← g116] at A116 D116 st116
    have f117 : Old Z n0 h113 := f114.keep K113 (allS (ge107) all0)
    have ge118 : n0 ≤ b116 := Nat.le_trans (Nat.le_trans (Nat.le_of_eq f117.1.symm) f117.2.1) (Nat.le_of_eq g116.symm)
    have f119 : Keep h0 h105 [] := f108.ext E105
    have f120 : Keep h0 h113 [] := f119.trans K113 (allS (Or.inr sz109) all0)
    have sz121 : h0.size ≤ b116 := Nat.le_trans f120.1 (Nat.le_of_eq g116.symm)
    have f122 : Fld Z h116 b116 "java/util/AbstractList" "modCount" "I" (.int (0 : Int32)) := D116 (Or.inl (own_w hw 50 rfl)) (ty := .int) (by decide)
    have f123 : Fld Z h116 b116 "java/util/ArrayList" "elementData" "[Ljava/lang/Object;" .null := D116 (Or.inl (own_w hw 53 rfl)) (ty := (.array (.object "java/lang/Object"))) (by decide)
    have f124 : Fld Z h116 b116 "java/util/ArrayList" "size" "I" (.int (0 : Int32)) := D116 (Or.inl (own_w hw 62 rfl)) (ty := .int) (by decide)
    have f126 : Old Z n0 h116 := f117.ext E116
    obtain ⟨_, _, ⟨T125, L125, k125, n125⟩, -, X125, ⟨Lc125, hQ125, l125, y125, z125⟩, st125⟩ := X116.specialBack hx (y := (⟨"java/util/ArrayList", "<init>", "()V"⟩ : MethodName)) rfl hown (mvT hZ (own_w hw 33 rfl)) (mvT hZ (own_w hw 34 rfl)) (mvT hZ (own_w hw 35 rfl)) (by decide) (backOf (W := 1) (rminit5 l Z a0 hw [] b116 w_DEFAULTCAPACITY_EMPTY_ELEMENTDATA k_w_DEFAULTCAPACITY_EMPTY_ELEMENTDATA h116 n0 f126 A116 f122 f123 f124 ge118 P11 P16 P10) hZ (own_w hw 35 rfl) (own_w hw 32 rfl) (by decide) (by decide)) (g := (mkF m 69 #[lvI p0_, lvI p1_, lvI (1 : Int32), lvR w_CONCEPTS, lvI (1 : Int32), lvR nb4_99, lvR b105, .unset, .unset, .unset, .unset] [(.ref b116), (.ref b116)])) rfl (by rw [hml]; rfl) (Steps.refl _) (a := b116) (argsL := []) (rest := [(.ref b116)]) (lenOf pd_4 rfl) rfl (by show 2 * 0 + _ ≤ _; exact Nat.le_of_eq rfl) (hb hby at_69) (fun _ _ => ⟨rfl, e116, (by decide : 4 + 0 ≤ _), (by decide : 11 + 0 ≤ _)⟩)
    dsimp only [Pt.U, Pt.locs, Pt.cells, Pt.slots] at X125 l125 y125 z125 st125 hQ125
    subst l125 y125 z125
    obtain ⟨h125, e125⟩ : ∃ z, T125.heap = z := ⟨_, rfl⟩
    rw [e125] at hQ125
    obtain ⟨rfl, N125q, K125, g125_0, g125_1, g125_2, g125_3⟩ := hQ125
    have N127 := Fr.app N115 N125q
    have f129 : Exa Z h105 nb4_99 "java/lang/String" := g99_0.ext E105
    have f130 : Exa Z h113 nb4_99 "java/lang/String" := f129.keep K113
    have f131 : Exa Z h116 nb4_99 "java/lang/String" := f130.ext E116
    have f132 : Exa Z h125 nb4_99 "java/lang/String" := f131.keep K125
    have f133 : Fld Z h105 nb4_99 "java/lang/String" "value" "[B" (.ref nnb1_9_99) := g99_1.ext E105
    have ne135 : nb4_99 ≠ b105 := Nat.ne_of_lt (Nat.lt_of_lt_of_le g99_0.lt (Nat.le_of_eq g105.symm))
    have f134 : Fld Z h113 nb4_99 "java/lang/String" "value" "[B" (.ref nnb1_9_99) := f133.keep K113 (ninS ne135 nin0)
    have f136 : Fld Z h116 nb4_99 "java/lang/String" "value" "[B" (.ref nnb1_9_99) := f134.ext E116
    have ne138 : nb4_99 ≠ b116 := Nat.ne_of_lt (Nat.lt_of_lt_of_le f130.lt (Nat.le_of_eq g116.symm))
    have f137 : Fld Z h125 nb4_99 "java/lang/String" "value" "[B" (.ref nnb1_9_99) := f136.keep K125 (ninS ne138 nin0)
    have f139 : Fld Z h105 nb4_99 "java/lang/String" "coder" "B" (.int (0 : Int32)) := g99_2.ext E105
    have f140 : Fld Z h113 nb4_99 "java/lang/String" "coder" "B" (.int (0 : Int32)) := f139.keep K113 (ninS ne135 nin0)
    have f141 : Fld Z h116 nb4_99 "java/lang/String" "coder" "B" (.int (0 : Int32)) := f140.ext E116
    have f142 : Fld Z h125 nb4_99 "java/lang/String" "coder" "B" (.int (0 : Int32)) := f141.keep K125 (ninS ne138 nin0)
    have f143 : Arv Z h105 nnb1_9_99 k1_9_99 .byte (1 : Int32) [(.int ((p1_ &&& (255 : Int32)).toInt8.toInt32))] (.int (0 : Int32)) := g99_3.ext E105
    have ne145 : nnb1_9_99 ≠ b105 := Nat.ne_of_lt (Nat.lt_of_lt_of_le g99_3.lt (Nat.le_of_eq g105.symm))
    have f144 : Arv Z h113 nnb1_9_99 k1_9_99 .byte (1 : Int32) [(.int ((p1_ &&& (255 : Int32)).toInt8.toInt32))] (.int (0 : Int32)) := f143.keep K113 (ninS ne145 nin0)
    have f146 : Arv Z h116 nnb1_9_99 k1_9_99 .byte (1 : Int32) [(.int ((p1_ &&& (255 : Int32)).toInt8.toInt32))] (.int (0 : Int32)) := f144.ext E116
    have ne148 : nnb1_9_99 ≠ b116 := Nat.ne_of_lt (Nat.lt_of_lt_of_le f144.lt (Nat.le_of_eq g116.symm))
    have f147 : Arv Z h125 nnb1_9_99 k1_9_99 .byte (1 : Int32) [(.int ((p1_ &&& (255 : Int32)).toInt8.toInt32))] (.int (0 : Int32)) := f146.keep K125 (ninS ne148 nin0)
    have f149 : Exa Z h105 nnb1_9_99 "[B" := g99_4.ext E105
    have f150 : Exa Z h113 nnb1_9_99 "[B" := f149.keep K113
    have f151 : Exa Z h116 nnb1_9_99 "[B" := f150.ext E116
    have f152 : Exa Z h125 nnb1_9_99 "[B" := f151.keep K125
    have f153 : Old Z n0 h125 := f126.keep K125 (allS (ge118) all0)
    obtain ⟨cq128, kq128, q128a, q128b, q128c⟩ := isOf hZ e125 g125_0
    obtain ⟨_, _, ⟨T128, L128, k128, n128⟩, -, X128, ⟨Lc128, hQ128, l128, y128, z128⟩, st128⟩ := X125.virtualBack hx (y := (⟨"java/util/ArrayList", "add", "(Ljava/lang/Object;)Z"⟩ : MethodName)) (z := (⟨"java/util/ArrayList", "add", "(Ljava/lang/Object;)Z"⟩ : MethodName)) hown (mvT hZ (own_w hw 54 rfl)) (mvT hZ (own_w hw 55 rfl)) (notFace_of_selects (args := #[]) (mvT hZ (own_w hw 57 rfl))) (mvT hZ (own_w hw 57 rfl)) (mvT hZ (own_w hw 56 rfl)) (by decide) (backOf (W := 0) (rmadd8 l Z a0 hw [] b116 nb4_99 w_DEFAULTCAPACITY_EMPTY_ELEMENTDATA nnb1_9_99 k_w_DEFAULTCAPACITY_EMPTY_ELEMENTDATA k1_9_99 ((p1_ &&& (255 : Int32)).toInt8.toInt32) h125 n0 f153 g125_0 g125_1 g125_2 g125_3 f132 f137 f142 P11 P16 f147 f152 ge118 P10 ne138 ne148) hZ (own_w hw 58 rfl) (own_w hw 32 rfl) (by decide) (by decide)) q128a q128c (g := (mkF m 78 #[lvI p0_, lvI p1_, lvI (1 : Int32), lvR w_CONCEPTS, lvI (1 : Int32), lvR nb4_99, lvR b105, lvR b116, .unset, .unset, .unset] [(.ref nb4_99), (.ref b116)])) rfl (by rw [hml]; rfl) (Steps.refl _) (argsL := [(.ref nb4_99)]) (rest := []) (lenOf pd_9 rfl) rfl (by show 2 * 0 + _ ≤ _; exact Nat.le_of_eq rfl) (hb hby at_78) (fun _ _ => ⟨rfl, e125, (by decide : 4 + 1 ≤ _), (by decide : 11 + 10 ≤ _)⟩)
    dsimp only [Pt.U, Pt.locs, Pt.cells, Pt.slots] at X128 l128 y128 z128 st128 hQ128
    subst l128 y128 z128
    obtain ⟨h128, e128⟩ : ∃ z, T128.heap = z := ⟨_, rfl⟩
    rw [e128] at hQ128
    obtain ⟨k8_2_3_9_128, nnnnb8_2_3_9_128, rfl, N128q, K128, sznnnnb8_2_3_9_128, g128_0, g128_1, g128_2, g128_3, g128_4, g128_5⟩ := hQ128
    have N154 := Fr.app N127 N128q
    have ge155 : n0 ≤ nnnnb8_2_3_9_128 := Nat.le_trans (Nat.le_trans (Nat.le_of_eq f153.1.symm) f153.2.1) sznnnnb8_2_3_9_128
    have f156 : Keep h0 h116 [] := f120.ext E116
    have f157 : Keep h0 h125 [] := f156.trans K125 (allS (Or.inr sz121) all0)
    have sz158 : h0.size ≤ nnnnb8_2_3_9_128 := Nat.le_trans f157.1 sznnnnb8_2_3_9_128
    have f160 : Old Z n0 h128 := f153.keep K128 (allS (ge118) all0)
    have f161 : Exa Z h128 w_CONCEPTS cn1 := P6.ext f160.2
    obtain ⟨cq159, kq159, q159a, q159b, q159c⟩ := isOf hZ e128 f161
    obtain ⟨_, _, ⟨T159, L159, k159, n159⟩, -, X159, ⟨Lc159, hQ159, l159, y159, z159⟩, st159⟩ := X128.virtualBack hx (y := mn2) (z := mn2) hown (mvT hZ (own_w hw 85 rfl)) (mvT hZ (own_w hw 86 rfl)) (notFace_of_selects (args := #[]) (mvT hZ (own_w hw 88 rfl))) (mvT hZ (own_w hw 88 rfl)) (mvT hZ (own_w hw 87 rfl)) (by decide) (backOf (W := 0) (rmholdsConcepts23 l Z a0 hw [] w_CONCEPTS w_WORDS h128 n0 f160 P6 P14 P2 P12 P1) hZ (own_w hw 89 rfl) (own_w hw 2 rfl) (by decide) (by decide)) q159a q159c (g := (mkF m 83 #[lvI p0_, lvI p1_, lvI (1 : Int32), lvR w_CONCEPTS, lvI (1 : Int32), lvR nb4_99, lvR b105, lvR b116, .unset, .unset, .unset] [(.ref w_CONCEPTS)])) rfl (by rw [hml]; rfl) (Steps.refl _) (argsL := []) (rest := []) (lenOf pd_10 rfl) rfl (by show 2 * 0 + _ ≤ _; exact Nat.le_of_eq rfl) (hb hby at_83) (fun _ _ => ⟨rfl, e128, (by decide : 5 + 0 ≤ _), (by decide : 21 + 0 ≤ _)⟩)
    dsimp only [Pt.U, Pt.locs, Pt.cells, Pt.slots] at X159 l159 y159 z159 st159 hQ159
    subst l159 y159 z159
    obtain ⟨h159, e159⟩ : ∃ z, T159.heap = z := ⟨_, rfl⟩
    rw [e159] at hQ159
    obtain ⟨rfl, N159q, hh159⟩ := hQ159
    have N162 := Fr.app N154 N159q
    have e159' : T159.heap = h128 := e159.trans hh159
    have f164 : Exa Z h116 b105 "java/util/ArrayList" := g113_0.ext E116
    have f165 : Exa Z h125 b105 "java/util/ArrayList" := f164.keep K125
    have f166 : Exa Z h128 b105 "java/util/ArrayList" := f165.keep K128
    have f167 : Fld Z h116 b105 "java/util/AbstractList" "modCount" "I" (.int (0 : Int32)) := g113_1.ext E116
    have ne169 : b105 ≠ b116 := Nat.ne_of_lt (Nat.lt_of_lt_of_le g113_0.lt (Nat.le_of_eq g116.symm))
    have f168 : Fld Z h125 b105 "java/util/AbstractList" "modCount" "I" (.int (0 : Int32)) := f167.keep K125 (ninS ne169 nin0)
    have f170 : Fld Z h128 b105 "java/util/AbstractList" "modCount" "I" (.int (0 : Int32)) := f168.keep K128 (ninS ne169 nin0)
    have f171 : Fld Z h116 b105 "java/util/ArrayList" "elementData" "[Ljava/lang/Object;" (.ref w_DEFAULTCAPACITY_EMPTY_ELEMENTDATA) := g113_2.ext E116
    have f172 : Fld Z h125 b105 "java/util/ArrayList" "elementData" "[Ljava/lang/Object;" (.ref w_DEFAULTCAPACITY_EMPTY_ELEMENTDATA) := f171.keep K125 (ninS ne169 nin0)
    have f173 : Fld Z h128 b105 "java/util/ArrayList" "elementData" "[Ljava/lang/Object;" (.ref w_DEFAULTCAPACITY_EMPTY_ELEMENTDATA) := f172.keep K128 (ninS ne169 nin0)
    have f174 : Fld Z h116 b105 "java/util/ArrayList" "size" "I" (.int (0 : Int32)) := g113_3.ext E116
    have f175 : Fld Z h125 b105 "java/util/ArrayList" "size" "I" (.int (0 : Int32)) := f174.keep K125 (ninS ne169 nin0)
    have f176 : Fld Z h128 b105 "java/util/ArrayList" "size" "I" (.int (0 : Int32)) := f175.keep K128 (ninS ne169 nin0)
    have f177 : Exa Z h128 nb4_99 "java/lang/String" := f132.keep K128
    have f178 : Fld Z h128 nb4_99 "java/lang/String" "value" "[B" (.ref nnb1_9_99) := f137.keep K128 (ninS ne138 nin0)
    have f179 : Fld Z h128 nb4_99 "java/lang/String" "coder" "B" (.int (0 : Int32)) := f142.keep K128 (ninS ne138 nin0)
    have f180 : Arv Z h128 nnb1_9_99 k1_9_99 .byte (1 : Int32) [(.int ((p1_ &&& (255 : Int32)).toInt8.toInt32))] (.int (0 : Int32)) := f147.keep K128 (ninS ne148 nin0)
    have f181 : Exa Z h128 nnb1_9_99 "[B" := f152.keep K128
    have f182 : Exa Z h128 w_CONCEPTS cn1 := P6.ext f160.2
    obtain ⟨cq163, kq163, q163a, q163b, q163c⟩ := isOf hZ e159' f182
    obtain ⟨_, _, ⟨T163, L163, k163, n163⟩, -, X163, ⟨Lc163, hQ163, l163, y163, z163⟩, st163⟩ := X159.virtualBack hx (y := mn4) (z := mn4) hown (mvT hZ (own_w hw 91 rfl)) (mvT hZ (own_w hw 92 rfl)) (notFace_of_selects (args := #[]) (mvT hZ (own_w hw 94 rfl))) (mvT hZ (own_w hw 94 rfl)) (mvT hZ (own_w hw 93 rfl)) (by decide) (backOf (W := 0) (rmterms24 l Z a0 hw [] w_CONCEPTS b105 b116 w_DEFAULTCAPACITY_EMPTY_ELEMENTDATA nnnnb8_2_3_9_128 k_w_DEFAULTCAPACITY_EMPTY_ELEMENTDATA k8_2_3_9_128 nb4_99 nnb1_9_99 k1_9_99 ((p1_ &&& (255 : Int32)).toInt8.toInt32) h128 n0 f160 P6 P14 f166 f170 f173 f176 g128_0 g128_1 g128_2 g128_3 P11 P16 g128_4 g128_5 f177 f178 f179 f180 f181) hZ (own_w hw 95 rfl) (own_w hw 2 rfl) (by decide) (by decide)) q163a q163c (g := (mkF m 93 #[lvI p0_, lvI p1_, lvI (1 : Int32), lvR w_CONCEPTS, lvI (1 : Int32), lvR nb4_99, lvR b105, lvR b116, lvI (1 : Int32), .unset, .unset] [(.ref b116), (.ref b105), (.ref w_CONCEPTS)])) rfl (by rw [hml]; rfl) (Steps.refl _) (argsL := [(.ref b105), (.ref b116)]) (rest := []) (lenOf pd_12 rfl) rfl (by show 2 * 0 + _ ≤ _; exact Nat.le_of_eq rfl) (hb hby at_93) (fun _ _ => ⟨rfl, e159', (by decide : 5 + 0 ≤ _), (by decide : 21 + 0 ≤ _)⟩)
    dsimp only [Pt.U, Pt.locs, Pt.cells, Pt.slots] at X163 l163 y163 z163 st163 hQ163
    subst l163 y163 z163
    obtain ⟨h163, e163⟩ : ∃ z, T163.heap = z := ⟨_, rfl⟩
    rw [e163] at hQ163
    obtain ⟨rfl, N163q, hh163⟩ := hQ163
    have N183 := Fr.app N162 N163q
    have e163' : T163.heap = h128 := e163.trans hh163
    obtain ⟨cq184, kq184, q184a, q184b, q184c⟩ := isOf hZ e163' g128_0
    obtain ⟨_, _, ⟨T184, L184, k184, n184⟩, -, X184, ⟨Lc184, hQ184, l184, y184, z184⟩, st184⟩ := X163.interfaceBack hx (xi := (⟨"java/util/List", "size", "()I"⟩ : MethodName)) (y := (⟨"java/util/ArrayList", "size", "()I"⟩ : MethodName)) hown (mvT hZ (own_w hw 105 rfl)) (mvT hZ (own_w hw 106 rfl)) (mvT hZ (own_w hw 107 rfl)) (mvT hZ (own_w hw 108 rfl)) (mvT hZ (own_w hw 109 rfl)) (mvT hZ (own_w hw 110 rfl)) (mvT hZ (own_w hw 111 rfl)) (mvT hZ (own_w hw 112 rfl)) (by decide) (backOf (W := 0) (rmsize26 l Z a0 hw [] b116 nnnnb8_2_3_9_128 k8_2_3_9_128 nb4_99 nnb1_9_99 k1_9_99 ((p1_ &&& (255 : Int32)).toInt8.toInt32) h128 n0 f160 g128_0 g128_1 g128_2 g128_3 g128_4 g128_5 f177 f178 f179 f180 f181) hZ (own_w hw 113 rfl) (own_w hw 32 rfl) (by decide) (by decide)) q184a q184b q184c (g := (mkF m 100 #[lvI p0_, lvI p1_, lvI (1 : Int32), lvR w_CONCEPTS, lvI (1 : Int32), lvR nb4_99, lvR b105, lvR b116, lvI (1 : Int32), lvR b116, .unset] [(.ref b116)])) rfl (by rw [hml]; rfl) (Steps.refl _) (argsL := []) (rest := []) (lenOf pd_11 rfl) rfl (by show 2 * 0 + _ ≤ _; exact Nat.le_of_eq rfl) (hb hby at_100) (fun _ _ => ⟨rfl, e163', (by decide : 5 + 0 ≤ _), (by decide : 21 + 0 ≤ _)⟩)
    dsimp only [Pt.U, Pt.locs, Pt.cells, Pt.slots] at X184 l184 y184 z184 st184 hQ184
    subst l184 y184 z184
    obtain ⟨h184, e184⟩ : ∃ z, T184.heap = z := ⟨_, rfl⟩
    rw [e184] at hQ184
    obtain ⟨rfl, N184q, hh184⟩ := hQ184
    have N185 := Fr.app N183 N184q
    have e184' : T184.heap = h128 := e184.trans hh184
    obtain ⟨cq186, kq186, q186a, q186b, q186c⟩ := isOf hZ e184' g128_0
    obtain ⟨_, _, ⟨T186, L186, k186, n186⟩, -, X186, ⟨Lc186, hQ186, l186, y186, z186⟩, st186⟩ := X184.interfaceBack hx (xi := (⟨"java/util/List", "get", "(I)Ljava/lang/Object;"⟩ : MethodName)) (y := (⟨"java/util/ArrayList", "get", "(I)Ljava/lang/Object;"⟩ : MethodName)) hown (mvT hZ (own_w hw 158 rfl)) (mvT hZ (own_w hw 159 rfl)) (mvT hZ (own_w hw 160 rfl)) (mvT hZ (own_w hw 161 rfl)) (mvT hZ (own_w hw 162 rfl)) (mvT hZ (own_w hw 163 rfl)) (mvT hZ (own_w hw 164 rfl)) (mvT hZ (own_w hw 112 rfl)) (by decide) (backOf (W := 0) (rmget27 l Z a0 hw [] b116 nnnnb8_2_3_9_128 k8_2_3_9_128 nb4_99 nnb1_9_99 k1_9_99 ((p1_ &&& (255 : Int32)).toInt8.toInt32) h128 n0 f160 g128_0 g128_1 g128_2 g128_3 g128_4 g128_5 f177 f178 f179 f180 f181) hZ (own_w hw 165 rfl) (own_w hw 32 rfl) (by decide) (by decide)) q186a q186b q186c (g := (mkF m 112 #[lvI p0_, lvI p1_, lvI (1 : Int32), lvR w_CONCEPTS, lvI (1 : Int32), lvR nb4_99, lvR b105, lvR b116, lvI (1 : Int32), lvR b116, .unset] [(.int (0 : Int32)), (.ref b116)])) rfl (by rw [hml]; rfl) (Steps.refl _) (argsL := [(.int (0 : Int32))]) (rest := []) (lenOf pd_14 rfl) rfl (by show 2 * 0 + _ ≤ _; exact Nat.le_of_eq rfl) (hb hby at_112) (fun _ _ => ⟨rfl, e184', (by decide : 5 + 0 ≤ _), (by decide : 21 + 0 ≤ _)⟩)
    dsimp only [Pt.U, Pt.locs, Pt.cells, Pt.slots] at X186 l186 y186 z186 st186 hQ186
    subst l186 y186 z186
    obtain ⟨h186, e186⟩ : ∃ z, T186.heap = z := ⟨_, rfl⟩
    rw [e186] at hQ186
    obtain ⟨rfl, N186q, hh186⟩ := hQ186
    have N187 := Fr.app N185 N186q
    have e186' : T186.heap = h128 := e186.trans hh186
    obtain ⟨T188, X188, e188, st188⟩ := castY X186 hx hZ hown (own_w hw 179 rfl) e186' (Ins.self f177) (g := (mkF m 117 #[lvI p0_, lvI p1_, lvI (1 : Int32), lvR w_CONCEPTS, lvI (1 : Int32), lvR nb4_99, lvR b105, lvR b116, lvI (1 : Int32), lvR b116, .unset] [(.ref nb4_99)])) rfl rfl (hb hby at_117)
    obtain ⟨cq189, kq189, q189a, q189b, q189c⟩ := isOf hZ e188 f177
    obtain ⟨_, _, ⟨T189, L189, k189, n189⟩, -, X189, ⟨Lc189, hQ189, l189, y189, z189⟩, st189⟩ := X188.virtualBack hx (y := (⟨"java/lang/String", "equals", "(Ljava/lang/Object;)Z"⟩ : MethodName)) (z := (⟨"java/lang/String", "equals", "(Ljava/lang/Object;)Z"⟩ : MethodName)) hown (mvT hZ (own_w hw 180 rfl)) (mvT hZ (own_w hw 181 rfl)) (notFace_of_selects (args := #[]) (mvT hZ (own_w hw 183 rfl))) (mvT hZ (own_w hw 183 rfl)) (mvT hZ (own_w hw 182 rfl)) (by decide) (backOf (W := 0) (rmequals31 l Z a0 hw [] nb4_99 nnb1_9_99 k1_9_99 ((p1_ &&& (255 : Int32)).toInt8.toInt32) h128 n0 f160 f177 f178 f179 f180 f181) hZ (own_w hw 184 rfl) (own_w hw 6 rfl) (by decide) (by decide)) q189a q189c (g := (mkF m 122 #[lvI p0_, lvI p1_, lvI (1 : Int32), lvR w_CONCEPTS, lvI (1 : Int32), lvR nb4_99, lvR b105, lvR b116, lvI (1 : Int32), lvR b116, .unset] [(.ref nb4_99), (.ref nb4_99)])) rfl (by rw [hml]; rfl) (Steps.refl _) (argsL := [(.ref nb4_99)]) (rest := []) (lenOf pd_9 rfl) rfl (by show 2 * 0 + _ ≤ _; exact Nat.le_of_eq rfl) (hb hby at_122) (fun _ _ => ⟨rfl, e188, (by decide : 5 + 0 ≤ _), (by decide : 21 + 0 ≤ _)⟩)
    dsimp only [Pt.U, Pt.locs, Pt.cells, Pt.slots] at X189 l189 y189 z189 st189 hQ189
    subst l189 y189 z189
    obtain ⟨h189, e189⟩ : ∃ z, T189.heap = z := ⟨_, rfl⟩
    rw [e189] at hQ189
    obtain ⟨rfl, N189q, hh189⟩ := hQ189
    have N190 := Fr.app N187 N189q
    have e189' : T189.heap = h128 := e189.trans hh189
    have pre191 : ∀ t, own_S p e below m T189 154 #[lvI p0_, lvI p1_, lvI (1 : Int32), lvR w_CONCEPTS, lvI (1 : Int32), lvR nb4_99, lvR b105, lvR b116, lvI (1 : Int32), lvR b116, lvI (1 : Int32)] [(.int (1 : Int32))] t → G t := by
      intro t kt
      refine pre96 t ?_
      show own_S p e below m s₁ 6 #[lvI p0_, lvI p1_, .unset, .unset, .unset, .unset, .unset, .unset, .unset, .unset, .unset] [(.int (1 : Int32))] _
      refine XS.istoreN X0.here hx rfl (hb hby at_6) rfl (l' := #[lvI p0_, lvI p1_, lvI (1 : Int32), .unset, .unset, .unset, .unset, .unset, .unset, .unset, .unset]) rfl ?_
      refine XS.iloadN X0.here hx rfl (hb hby at_7) rfl ?_
      show own_S p e below m s₁ 8 #[lvI p0_, lvI p1_, lvI (1 : Int32), .unset, .unset, .unset, .unset, .unset, .unset, .unset, .unset] [(.int (1 : Int32))] _
      refine XS.ifYes X0.here hx rfl (pc0 := 8) (pc' := 18) rfl (hb hby at_8) rfl ((if0 _ _).trans (feq (by decide : ¬ ((1 : Int32) = (0 : Int32)))).2) (by decide) (by decide) ?_
      refine XS.iloadN X0.here hx rfl (hb hby at_18) rfl ?_
      refine XS.iconst X0.here hx rfl (hb hby at_19) ?_
      show own_S p e below m s₁ 20 #[lvI p0_, lvI p1_, lvI (1 : Int32), .unset, .unset, .unset, .unset, .unset, .unset, .unset, .unset] [(.int (1 : Int32)), (.int (1 : Int32))] _
      refine XS.icmpNo X0.here hx rfl (hb hby at_20) rfl (teq (by decide : (1 : Int32) = (1 : Int32))).2 ?_
      show own_S p e below m s₁ 23 #[lvI p0_, lvI p1_, lvI (1 : Int32), .unset, .unset, .unset, .unset, .unset, .unset, .unset, .unset] [] _
      refine st97 _ ?_
      refine XS.astoreN X97.here hx rfl (hb hby at_26) rfl rfl (l' := #[lvI p0_, lvI p1_, lvI (1 : Int32), lvR w_CONCEPTS, .unset, .unset, .unset, .unset, .unset, .unset, .unset]) rfl ?_
      refine XS.goto X97.here hx rfl (pc0 := 27) (pc' := 34) rfl (hb hby at_27) (by decide) (by decide) ?_
      refine XS.iloadN X97.here hx rfl (hb hby at_34) rfl ?_
      show own_S p e below m T97 35 #[lvI p0_, lvI p1_, lvI (1 : Int32), lvR w_CONCEPTS, .unset, .unset, .unset, .unset, .unset, .unset, .unset] [(.int (1 : Int32))] _
      refine XS.ifNo X97.here hx rfl (hb hby at_35) rfl ((if0 _ _).trans (feq (by decide : ¬ ((1 : Int32) = (0 : Int32)))).1) ?_
      refine XS.iconst X97.here hx rfl (hb hby at_38) ?_
      refine XS.goto X97.here hx rfl (pc0 := 39) (pc' := 43) rfl (hb hby at_39) (by decide) (by decide) ?_
      refine XS.istore X97.here hx rfl (hb hby at_43) rfl (l' := #[lvI p0_, lvI p1_, lvI (1 : Int32), lvR w_CONCEPTS, lvI (1 : Int32), .unset, .unset, .unset, .unset, .unset, .unset]) rfl ?_
      refine XS.iloadN X97.here hx rfl (hb hby at_45) rfl ?_
      refine XS.sipush X97.here hx rfl (hb hby at_46) ?_
      show own_S p e below m T97 49 #[lvI p0_, lvI p1_, lvI (1 : Int32), lvR w_CONCEPTS, lvI (1 : Int32), .unset, .unset, .unset, .unset, .unset, .unset] [(.int (255 : Int32)), (.int p1_)] _
      refine XS.iand X97.here hx rfl (hb hby at_49) rfl ?_
      show own_S p e below m T97 50 #[lvI p0_, lvI p1_, lvI (1 : Int32), lvR w_CONCEPTS, lvI (1 : Int32), .unset, .unset, .unset, .unset, .unset, .unset] [(.int (p1_ &&& (255 : Int32)))] _
      refine XS.i2c X97.here hx rfl (hb hby at_50) rfl ?_
      show own_S p e below m T97 51 #[lvI p0_, lvI p1_, lvI (1 : Int32), lvR w_CONCEPTS, lvI (1 : Int32), .unset, .unset, .unset, .unset, .unset, .unset] [(.int ((p1_ &&& (255 : Int32)).toUInt32.toUInt16.toUInt32.toInt32))] _
      rw [i2c_mask]
      show own_S p e below m T97 51 #[lvI p0_, lvI p1_, lvI (1 : Int32), lvR w_CONCEPTS, lvI (1 : Int32), .unset, .unset, .unset, .unset, .unset, .unset] [(.int (p1_ &&& (255 : Int32)))] _
      refine st99 _ ?_
      refine XS.astore X99.here hx rfl (hb hby at_54) rfl rfl (l' := #[lvI p0_, lvI p1_, lvI (1 : Int32), lvR w_CONCEPTS, lvI (1 : Int32), lvR nb4_99, .unset, .unset, .unset, .unset, .unset]) rfl ?_
      show own_S p e below m T99 56 #[lvI p0_, lvI p1_, lvI (1 : Int32), lvR w_CONCEPTS, lvI (1 : Int32), lvR nb4_99, .unset, .unset, .unset, .unset, .unset] [] _
      refine st105 _ ?_
      refine XS.dup X105.here hx rfl (hb hby at_59) rfl rfl ?_
      show own_S p e below m T105 60 #[lvI p0_, lvI p1_, lvI (1 : Int32), lvR w_CONCEPTS, lvI (1 : Int32), lvR nb4_99, .unset, .unset, .unset, .unset, .unset] [(.ref b105), (.ref b105)] _
      refine st113.trans ?_
      refine XS.astore X113.here hx rfl (hb hby at_63) rfl rfl (l' := #[lvI p0_, lvI p1_, lvI (1 : Int32), lvR w_CONCEPTS, lvI (1 : Int32), lvR nb4_99, lvR b105, .unset, .unset, .unset, .unset]) rfl ?_
      show own_S p e below m T113 65 #[lvI p0_, lvI p1_, lvI (1 : Int32), lvR w_CONCEPTS, lvI (1 : Int32), lvR nb4_99, lvR b105, .unset, .unset, .unset, .unset] [] _
      refine st116 _ ?_
      refine XS.dup X116.here hx rfl (hb hby at_68) rfl rfl ?_
      show own_S p e below m T116 69 #[lvI p0_, lvI p1_, lvI (1 : Int32), lvR w_CONCEPTS, lvI (1 : Int32), lvR nb4_99, lvR b105, .unset, .unset, .unset, .unset] [(.ref b116), (.ref b116)] _
      refine st125.trans ?_
      refine XS.astore X125.here hx rfl (hb hby at_72) rfl rfl (l' := #[lvI p0_, lvI p1_, lvI (1 : Int32), lvR w_CONCEPTS, lvI (1 : Int32), lvR nb4_99, lvR b105, lvR b116, .unset, .unset, .unset]) rfl ?_
      refine XS.aload X125.here hx rfl (hb hby at_74) rfl rfl ?_
      refine XS.aload X125.here hx rfl (hb hby at_76) rfl rfl ?_
      show own_S p e below m T125 78 #[lvI p0_, lvI p1_, lvI (1 : Int32), lvR w_CONCEPTS, lvI (1 : Int32), lvR nb4_99, lvR b105, lvR b116, .unset, .unset, .unset] [(.ref nb4_99), (.ref b116)] _
      refine st128.trans ?_
      refine XS.pop X128.here hx rfl (hb hby at_81) rfl rfl ?_
      refine XS.aloadN X128.here hx rfl (hb hby at_82) rfl rfl ?_
      show own_S p e below m T128 83 #[lvI p0_, lvI p1_, lvI (1 : Int32), lvR w_CONCEPTS, lvI (1 : Int32), lvR nb4_99, lvR b105, lvR b116, .unset, .unset, .unset] [(.ref w_CONCEPTS)] _
      refine st159.trans ?_
      refine XS.istore X159.here hx rfl (hb hby at_86) rfl (l' := #[lvI p0_, lvI p1_, lvI (1 : Int32), lvR w_CONCEPTS, lvI (1 : Int32), lvR nb4_99, lvR b105, lvR b116, lvI (1 : Int32), .unset, .unset]) rfl ?_
      refine XS.aloadN X159.here hx rfl (hb hby at_88) rfl rfl ?_
      refine XS.aload X159.here hx rfl (hb hby at_89) rfl rfl ?_
      refine XS.aload X159.here hx rfl (hb hby at_91) rfl rfl ?_
      show own_S p e below m T159 93 #[lvI p0_, lvI p1_, lvI (1 : Int32), lvR w_CONCEPTS, lvI (1 : Int32), lvR nb4_99, lvR b105, lvR b116, lvI (1 : Int32), .unset, .unset] [(.ref b116), (.ref b105), (.ref w_CONCEPTS)] _
      refine st163.trans ?_
      refine XS.astore X163.here hx rfl (hb hby at_96) rfl rfl (l' := #[lvI p0_, lvI p1_, lvI (1 : Int32), lvR w_CONCEPTS, lvI (1 : Int32), lvR nb4_99, lvR b105, lvR b116, lvI (1 : Int32), lvR b116, .unset]) rfl ?_
      refine XS.aload X163.here hx rfl (hb hby at_98) rfl rfl ?_
      show own_S p e below m T163 100 #[lvI p0_, lvI p1_, lvI (1 : Int32), lvR w_CONCEPTS, lvI (1 : Int32), lvR nb4_99, lvR b105, lvR b116, lvI (1 : Int32), lvR b116, .unset] [(.ref b116)] _
      refine st184.trans ?_
      refine XS.iconst X184.here hx rfl (hb hby at_105) ?_
      show own_S p e below m T184 106 #[lvI p0_, lvI p1_, lvI (1 : Int32), lvR w_CONCEPTS, lvI (1 : Int32), lvR nb4_99, lvR b105, lvR b116, lvI (1 : Int32), lvR b116, .unset] [(.int (1 : Int32)), (.int (1 : Int32))] _
      refine XS.icmpNo X184.here hx rfl (hb hby at_106) rfl (teq (by decide : (1 : Int32) = (1 : Int32))).2 ?_
      refine XS.aload X184.here hx rfl (hb hby at_109) rfl rfl ?_
      refine XS.iconst X184.here hx rfl (hb hby at_111) ?_
      show own_S p e below m T184 112 #[lvI p0_, lvI p1_, lvI (1 : Int32), lvR w_CONCEPTS, lvI (1 : Int32), lvR nb4_99, lvR b105, lvR b116, lvI (1 : Int32), lvR b116, .unset] [(.int (0 : Int32)), (.ref b116)] _
      refine st186.trans ?_
      show own_S p e below m T186 117 #[lvI p0_, lvI p1_, lvI (1 : Int32), lvR w_CONCEPTS, lvI (1 : Int32), lvR nb4_99, lvR b105, lvR b116, lvI (1 : Int32), lvR b116, .unset] [(.ref nb4_99)] _
      refine st188 _ ?_
      refine XS.aload X188.here hx rfl (hb hby at_120) rfl rfl ?_
      show own_S p e below m T188 122 #[lvI p0_, lvI p1_, lvI (1 : Int32), lvR w_CONCEPTS, lvI (1 : Int32), lvR nb4_99, lvR b105, lvR b116, lvI (1 : Int32), lvR b116, .unset] [(.ref nb4_99), (.ref nb4_99)] _
      refine st189.trans ?_
      show own_S p e below m T189 125 #[lvI p0_, lvI p1_, lvI (1 : Int32), lvR w_CONCEPTS, lvI (1 : Int32), lvR nb4_99, lvR b105, lvR b116, lvI (1 : Int32), lvR b116, .unset] [(.int (1 : Int32))] _
      refine XS.ifNo X189.here hx rfl (hb hby at_125) rfl ((if0 _ _).trans (feq (by decide : ¬ ((1 : Int32) = (0 : Int32)))).1) ?_
      refine XS.iconst X189.here hx rfl (hb hby at_128) ?_
      refine XS.goto X189.here hx rfl (pc0 := 129) (pc' := 133) rfl (hb hby at_129) (by decide) (by decide) ?_
      refine XS.istore X189.here hx rfl (hb hby at_133) rfl (l' := #[lvI p0_, lvI p1_, lvI (1 : Int32), lvR w_CONCEPTS, lvI (1 : Int32), lvR nb4_99, lvR b105, lvR b116, lvI (1 : Int32), lvR b116, lvI (1 : Int32)]) rfl ?_
      refine XS.iload X189.here hx rfl (hb hby at_135) rfl ?_
      refine XS.iload X189.here hx rfl (hb hby at_137) rfl ?_
      show own_S p e below m T189 139 #[lvI p0_, lvI p1_, lvI (1 : Int32), lvR w_CONCEPTS, lvI (1 : Int32), lvR nb4_99, lvR b105, lvR b116, lvI (1 : Int32), lvR b116, lvI (1 : Int32)] [(.int (1 : Int32)), (.int (1 : Int32))] _
      refine XS.icmpNo X189.here hx rfl (hb hby at_139) rfl (teq (by decide : (1 : Int32) = (1 : Int32))).2 ?_
      refine XS.iload X189.here hx rfl (hb hby at_142) rfl ?_
      refine XS.iload X189.here hx rfl (hb hby at_144) rfl ?_
      show own_S p e below m T189 146 #[lvI p0_, lvI p1_, lvI (1 : Int32), lvR w_CONCEPTS, lvI (1 : Int32), lvR nb4_99, lvR b105, lvR b116, lvI (1 : Int32), lvR b116, lvI (1 : Int32)] [(.int (1 : Int32)), (.int (1 : Int32))] _
      refine XS.icmpNo X189.here hx rfl (hb hby at_146) rfl (teq (by decide : (1 : Int32) = (1 : Int32))).2 ?_
      refine XS.iconst X189.here hx rfl (hb hby at_149) ?_
      refine XS.goto X189.here hx rfl (pc0 := 150) (pc' := 154) rfl (hb hby at_150) (by decide) (by decide) ?_
      exact kt
    obtain ⟨fs, hr, hrun, hended, hW, hsame⟩ := X189.leave (v := some (.int (1 : Int32))) (fun h => by rw [Bd.returns] at h; cases h)
    refine ⟨_, _, hG _ (pre191 _ (retN X189 hx (t := .boolean) Bd.returns (by simp) (hb hby at_154) hr)), hrun, hended, _, _, rfl, ?_, ⟨_, rfl⟩, hW, hsame.mono (by decide) (by decide)⟩
    show QLaw Z p0_ p1_ w_DEFAULTCAPACITY_EMPTY_ELEMENTDATA w_EMPTY_ELEMENTDATA w_COMPACT_STRINGS w_CONCEPTS w_BOTH w_WORDS k_w_EMPTY_ELEMENTDATA k_w_DEFAULTCAPACITY_EMPTY_ELEMENTDATA mr_ h0 n0 _ T189.heap _
    rw [e189']
    exact ⟨rfl, N190⟩
  · have pre193 : ∀ t, own_S p e below m s₁ 6 #[lvI p0_, lvI p1_, .unset, .unset, .unset, .unset, .unset, .unset, .unset, .unset, .unset] [(.int (2 : Int32))] t → G t := fun t kt => pre1 t (by rw [hv3]; exact kt)
    obtain ⟨T194, X194, e194, st194⟩ := getS2 X0 hx hZ hown (host := "") (Or.inl (own_w hw 114 rfl)) Via.refl e0 (P3.ext O0.2) (g := (mkF m 30 #[lvI p0_, lvI p1_, lvI (2 : Int32), .unset, .unset, .unset, .unset, .unset, .unset, .unset, .unset] [])) rfl (hb hby at_30)
    have hn195 : ¬ ((255 : Int32) < (p1_ &&& (255 : Int32))) := own_c255 p1_
    obtain ⟨_, _, ⟨T196, L196, k196, n196⟩, -, X196, ⟨Lc196, hQ196, l196, y196, z196⟩, st196⟩ := Jvm.LawKit.callS X194 hx (y := (⟨"java/lang/String", "valueOf", "(C)Ljava/lang/String;"⟩ : MethodName)) hown (mvT hZ (own_w hw 4 rfl)) (mvT hZ (own_w hw 5 rfl)) (mvT hZ (own_w hw 6 rfl)) (mvT hZ (own_w hw 7 rfl)) (by decide) (backOf (W := 0) (rmvalueOf1 l Z a0 hw [] (p1_ &&& (255 : Int32)) w_COMPACT_STRINGS h0 n0 O0 hn195 hz_0 P7) hZ (own_w hw 7 rfl) (own_w hw 6 rfl) (by decide) (by decide)) (g := (mkF m 51 #[lvI p0_, lvI p1_, lvI (2 : Int32), lvR w_BOTH, lvI (1 : Int32), .unset, .unset, .unset, .unset, .unset, .unset] [(.int (p1_ &&& (255 : Int32)))])) rfl (by rw [hml]; rfl) (argsL := [(.int (p1_ &&& (255 : Int32)))]) (rest := []) (lenOf pd_3 rfl) rfl (by show 2 * 0 + _ ≤ _; exact Nat.le_of_eq rfl) (hb hby at_51) (fun _ _ => ⟨rfl, e194, (by decide : 0 + 2 ≤ _), (by decide : 0 + 5 ≤ _)⟩)
    dsimp only [Pt.U, Pt.locs, Pt.cells, Pt.slots] at X196 l196 y196 z196 st196 hQ196
    subst l196 y196 z196
    obtain ⟨h196, e196⟩ : ∃ z, T196.heap = z := ⟨_, rfl⟩
    rw [e196] at hQ196
    obtain ⟨k1_9_196, nb4_196, nnb1_9_196, rfl, N196q, K196, sznb4_196, sznnb1_9_196, nenb4_nnb1_9_196, g196_0, g196_1, g196_2, g196_3, g196_4⟩ := hQ196
    have N197 := Fr.app N0 N196q
    have ge198 : n0 ≤ nb4_196 := Nat.le_trans (Nat.le_trans (Nat.le_of_eq O0.1.symm) O0.2.1) sznb4_196
    have sz199 : h0.size ≤ nb4_196 := Nat.le_trans K0.1 sznb4_196
    have ge200 : n0 ≤ nnb1_9_196 := Nat.le_trans (Nat.le_trans (Nat.le_of_eq O0.1.symm) O0.2.1) sznnb1_9_196
    have sz201 : h0.size ≤ nnb1_9_196 := Nat.le_trans K0.1 sznnb1_9_196
    obtain ⟨T202, h202, X202, e202, E202, A202, D202, -, st202⟩ := newO X196 hx hZ hown (own_w hw 30 rfl) (own_w hw 31 rfl) (own_w hw 32 rfl) e196 (g := (mkF m 56 #[lvI p0_, lvI p1_, lvI (2 : Int32), lvR w_BOTH, lvI (1 : Int32), lvR nb4_196, .unset, .unset, .unset, .unset, .unset] [])) rfl (hb hby at_56) (by decide) (by decide)
    obtain ⟨b202, g202⟩ : ∃ z, z = h196.size := ⟨_, rfl⟩
    rw [← g202] at A202 D202 st202
    have f203 : Old Z n0 h196 := O0.keep K196 all0
    have ge204 : n0 ≤ b202 := Nat.le_trans (Nat.le_trans (Nat.le_of_eq f203.1.symm) f203.2.1) (Nat.le_of_eq g202.symm)
    have f205 : Keep h0 h196 [] := K0.trans K196 all0
    have sz206 : h0.size ≤ b202 := Nat.le_trans f205.1 (Nat.le_of_eq g202.symm)
    have f207 : Fld Z h202 b202 "java/util/AbstractList" "modCount" "I" (.int (0 : Int32)) := D202 (Or.inl (own_w hw 50 rfl)) (ty := .int) (by decide)
    have f208 : Fld Z h202 b202 "java/util/ArrayList" "elementData" "[Ljava/lang/Object;" .null := D202 (Or.inl (own_w hw 53 rfl)) (ty := (.array (.object "java/lang/Object"))) (by decide)
    have f209 : Fld Z h202 b202 "java/util/ArrayList" "size" "I" (.int (0 : Int32)) := D202 (Or.inl (own_w hw 62 rfl)) (ty := .int) (by decide)
    have f211 : Old Z n0 h202 := f203.ext E202
    obtain ⟨_, _, ⟨T210, L210, k210, n210⟩, -, X210, ⟨Lc210, hQ210, l210, y210, z210⟩, st210⟩ := X202.specialBack hx (y := (⟨"java/util/ArrayList", "<init>", "()V"⟩ : MethodName)) rfl hown (mvT hZ (own_w hw 33 rfl)) (mvT hZ (own_w hw 34 rfl)) (mvT hZ (own_w hw 35 rfl)) (by decide) (backOf (W := 1) (rminit5 l Z a0 hw [] b202 w_DEFAULTCAPACITY_EMPTY_ELEMENTDATA k_w_DEFAULTCAPACITY_EMPTY_ELEMENTDATA h202 n0 f211 A202 f207 f208 f209 ge204 P11 P16 P10) hZ (own_w hw 35 rfl) (own_w hw 32 rfl) (by decide) (by decide)) (g := (mkF m 60 #[lvI p0_, lvI p1_, lvI (2 : Int32), lvR w_BOTH, lvI (1 : Int32), lvR nb4_196, .unset, .unset, .unset, .unset, .unset] [(.ref b202), (.ref b202)])) rfl (by rw [hml]; rfl) (Steps.refl _) (a := b202) (argsL := []) (rest := [(.ref b202)]) (lenOf pd_4 rfl) rfl (by show 2 * 0 + _ ≤ _; exact Nat.le_of_eq rfl) (hb hby at_60) (fun _ _ => ⟨rfl, e202, (by decide : 3 + 0 ≤ _), (by decide : 8 + 0 ≤ _)⟩)
    dsimp only [Pt.U, Pt.locs, Pt.cells, Pt.slots] at X210 l210 y210 z210 st210 hQ210
    subst l210 y210 z210
    obtain ⟨h210, e210⟩ : ∃ z, T210.heap = z := ⟨_, rfl⟩
    rw [e210] at hQ210
    obtain ⟨rfl, N210q, K210, g210_0, g210_1, g210_2, g210_3⟩ := hQ210
    have N212 := Fr.app N197 N210q
    obtain ⟨T213, h213, X213, e213, E213, A213, D213, -, st213⟩ := newO X210 hx hZ hown (own_w hw 30 rfl) (own_w hw 31 rfl) (own_w hw 32 rfl) e210 (g := (mkF m 65 #[lvI p0_, lvI p1_, lvI (2 : Int32), lvR w_BOTH, lvI (1 : Int32), lvR nb4_196, lvR b202, .unset, .unset, .unset, .unset] [])) rfl (hb hby at_65) (by decide) (by decide)
    obtain ⟨b213, g213⟩ : ∃ z, z = h210.size := ⟨_, rfl⟩
    rw [← g213] at A213 D213 st213
    have f214 : Old Z n0 h210 := f211.keep K210 (allS (ge204) all0)
    have ge215 : n0 ≤ b213 := Nat.le_trans (Nat.le_trans (Nat.le_of_eq f214.1.symm) f214.2.1) (Nat.le_of_eq g213.symm)
    have f216 : Keep h0 h202 [] := f205.ext E202
    have f217 : Keep h0 h210 [] := f216.trans K210 (allS (Or.inr sz206) all0)
    have sz218 : h0.size ≤ b213 := Nat.le_trans f217.1 (Nat.le_of_eq g213.symm)
    have f219 : Fld Z h213 b213 "java/util/AbstractList" "modCount" "I" (.int (0 : Int32)) := D213 (Or.inl (own_w hw 50 rfl)) (ty := .int) (by decide)
    have f220 : Fld Z h213 b213 "java/util/ArrayList" "elementData" "[Ljava/lang/Object;" .null := D213 (Or.inl (own_w hw 53 rfl)) (ty := (.array (.object "java/lang/Object"))) (by decide)
    have f221 : Fld Z h213 b213 "java/util/ArrayList" "size" "I" (.int (0 : Int32)) := D213 (Or.inl (own_w hw 62 rfl)) (ty := .int) (by decide)
    have f223 : Old Z n0 h213 := f214.ext E213
    obtain ⟨_, _, ⟨T222, L222, k222, n222⟩, -, X222, ⟨Lc222, hQ222, l222, y222, z222⟩, st222⟩ := X213.specialBack hx (y := (⟨"java/util/ArrayList", "<init>", "()V"⟩ : MethodName)) rfl hown (mvT hZ (own_w hw 33 rfl)) (mvT hZ (own_w hw 34 rfl)) (mvT hZ (own_w hw 35 rfl)) (by decide) (backOf (W := 1) (rminit5 l Z a0 hw [] b213 w_DEFAULTCAPACITY_EMPTY_ELEMENTDATA k_w_DEFAULTCAPACITY_EMPTY_ELEMENTDATA h213 n0 f223 A213 f219 f220 f221 ge215 P11 P16 P10) hZ (own_w hw 35 rfl) (own_w hw 32 rfl) (by decide) (by decide)) (g := (mkF m 69 #[lvI p0_, lvI p1_, lvI (2 : Int32), lvR w_BOTH, lvI (1 : Int32), lvR nb4_196, lvR b202, .unset, .unset, .unset, .unset] [(.ref b213), (.ref b213)])) rfl (by rw [hml]; rfl) (Steps.refl _) (a := b213) (argsL := []) (rest := [(.ref b213)]) (lenOf pd_4 rfl) rfl (by show 2 * 0 + _ ≤ _; exact Nat.le_of_eq rfl) (hb hby at_69) (fun _ _ => ⟨rfl, e213, (by decide : 4 + 0 ≤ _), (by decide : 11 + 0 ≤ _)⟩)
    dsimp only [Pt.U, Pt.locs, Pt.cells, Pt.slots] at X222 l222 y222 z222 st222 hQ222
    subst l222 y222 z222
    obtain ⟨h222, e222⟩ : ∃ z, T222.heap = z := ⟨_, rfl⟩
    rw [e222] at hQ222
    obtain ⟨rfl, N222q, K222, g222_0, g222_1, g222_2, g222_3⟩ := hQ222
    have N224 := Fr.app N212 N222q
    have f226 : Exa Z h202 nb4_196 "java/lang/String" := g196_0.ext E202
    have f227 : Exa Z h210 nb4_196 "java/lang/String" := f226.keep K210
    have f228 : Exa Z h213 nb4_196 "java/lang/String" := f227.ext E213
    have f229 : Exa Z h222 nb4_196 "java/lang/String" := f228.keep K222
    have f230 : Fld Z h202 nb4_196 "java/lang/String" "value" "[B" (.ref nnb1_9_196) := g196_1.ext E202
    have ne232 : nb4_196 ≠ b202 := Nat.ne_of_lt (Nat.lt_of_lt_of_le g196_0.lt (Nat.le_of_eq g202.symm))
    have f231 : Fld Z h210 nb4_196 "java/lang/String" "value" "[B" (.ref nnb1_9_196) := f230.keep K210 (ninS ne232 nin0)
    have f233 : Fld Z h213 nb4_196 "java/lang/String" "value" "[B" (.ref nnb1_9_196) := f231.ext E213
    have ne235 : nb4_196 ≠ b213 := Nat.ne_of_lt (Nat.lt_of_lt_of_le f227.lt (Nat.le_of_eq g213.symm))
    have f234 : Fld Z h222 nb4_196 "java/lang/String" "value" "[B" (.ref nnb1_9_196) := f233.keep K222 (ninS ne235 nin0)
    have f236 : Fld Z h202 nb4_196 "java/lang/String" "coder" "B" (.int (0 : Int32)) := g196_2.ext E202
    have f237 : Fld Z h210 nb4_196 "java/lang/String" "coder" "B" (.int (0 : Int32)) := f236.keep K210 (ninS ne232 nin0)
    have f238 : Fld Z h213 nb4_196 "java/lang/String" "coder" "B" (.int (0 : Int32)) := f237.ext E213
    have f239 : Fld Z h222 nb4_196 "java/lang/String" "coder" "B" (.int (0 : Int32)) := f238.keep K222 (ninS ne235 nin0)
    have f240 : Arv Z h202 nnb1_9_196 k1_9_196 .byte (1 : Int32) [(.int ((p1_ &&& (255 : Int32)).toInt8.toInt32))] (.int (0 : Int32)) := g196_3.ext E202
    have ne242 : nnb1_9_196 ≠ b202 := Nat.ne_of_lt (Nat.lt_of_lt_of_le g196_3.lt (Nat.le_of_eq g202.symm))
    have f241 : Arv Z h210 nnb1_9_196 k1_9_196 .byte (1 : Int32) [(.int ((p1_ &&& (255 : Int32)).toInt8.toInt32))] (.int (0 : Int32)) := f240.keep K210 (ninS ne242 nin0)
    have f243 : Arv Z h213 nnb1_9_196 k1_9_196 .byte (1 : Int32) [(.int ((p1_ &&& (255 : Int32)).toInt8.toInt32))] (.int (0 : Int32)) := f241.ext E213
    have ne245 : nnb1_9_196 ≠ b213 := Nat.ne_of_lt (Nat.lt_of_lt_of_le f241.lt (Nat.le_of_eq g213.symm))
    have f244 : Arv Z h222 nnb1_9_196 k1_9_196 .byte (1 : Int32) [(.int ((p1_ &&& (255 : Int32)).toInt8.toInt32))] (.int (0 : Int32)) := f243.keep K222 (ninS ne245 nin0)
    have f246 : Exa Z h202 nnb1_9_196 "[B" := g196_4.ext E202
    have f247 : Exa Z h210 nnb1_9_196 "[B" := f246.keep K210
    have f248 : Exa Z h213 nnb1_9_196 "[B" := f247.ext E213
    have f249 : Exa Z h222 nnb1_9_196 "[B" := f248.keep K222
    have f250 : Old Z n0 h222 := f223.keep K222 (allS (ge215) all0)
    obtain ⟨cq225, kq225, q225a, q225b, q225c⟩ := isOf hZ e222 g222_0
    obtain ⟨_, _, ⟨T225, L225, k225, n225⟩, -, X225, ⟨Lc225, hQ225, l225, y225, z225⟩, st225⟩ := X222.virtualBack hx (y := (⟨"java/util/ArrayList", "add", "(Ljava/lang/Object;)Z"⟩ : MethodName)) (z := (⟨"java/util/ArrayList", "add", "(Ljava/lang/Object;)Z"⟩ : MethodName)) hown (mvT hZ (own_w hw 54 rfl)) (mvT hZ (own_w hw 55 rfl)) (notFace_of_selects (args := #[]) (mvT hZ (own_w hw 57 rfl))) (mvT hZ (own_w hw 57 rfl)) (mvT hZ (own_w hw 56 rfl)) (by decide) (backOf (W := 0) (rmadd8 l Z a0 hw [] b213 nb4_196 w_DEFAULTCAPACITY_EMPTY_ELEMENTDATA nnb1_9_196 k_w_DEFAULTCAPACITY_EMPTY_ELEMENTDATA k1_9_196 ((p1_ &&& (255 : Int32)).toInt8.toInt32) h222 n0 f250 g222_0 g222_1 g222_2 g222_3 f229 f234 f239 P11 P16 f244 f249 ge215 P10 ne235 ne245) hZ (own_w hw 58 rfl) (own_w hw 32 rfl) (by decide) (by decide)) q225a q225c (g := (mkF m 78 #[lvI p0_, lvI p1_, lvI (2 : Int32), lvR w_BOTH, lvI (1 : Int32), lvR nb4_196, lvR b202, lvR b213, .unset, .unset, .unset] [(.ref nb4_196), (.ref b213)])) rfl (by rw [hml]; rfl) (Steps.refl _) (argsL := [(.ref nb4_196)]) (rest := []) (lenOf pd_9 rfl) rfl (by show 2 * 0 + _ ≤ _; exact Nat.le_of_eq rfl) (hb hby at_78) (fun _ _ => ⟨rfl, e222, (by decide : 4 + 1 ≤ _), (by decide : 11 + 10 ≤ _)⟩)
    dsimp only [Pt.U, Pt.locs, Pt.cells, Pt.slots] at X225 l225 y225 z225 st225 hQ225
    subst l225 y225 z225
    obtain ⟨h225, e225⟩ : ∃ z, T225.heap = z := ⟨_, rfl⟩
    rw [e225] at hQ225
    obtain ⟨k8_2_3_9_225, nnnnb8_2_3_9_225, rfl, N225q, K225, sznnnnb8_2_3_9_225, g225_0, g225_1, g225_2, g225_3, g225_4, g225_5⟩ := hQ225
    have N251 := Fr.app N224 N225q
    have ge252 : n0 ≤ nnnnb8_2_3_9_225 := Nat.le_trans (Nat.le_trans (Nat.le_of_eq f250.1.symm) f250.2.1) sznnnnb8_2_3_9_225
    have f253 : Keep h0 h213 [] := f217.ext E213
    have f254 : Keep h0 h222 [] := f253.trans K222 (allS (Or.inr sz218) all0)
    have sz255 : h0.size ≤ nnnnb8_2_3_9_225 := Nat.le_trans f254.1 sznnnnb8_2_3_9_225
    have f257 : Old Z n0 h225 := f250.keep K225 (allS (ge215) all0)
    have f258 : Exa Z h225 w_BOTH cn1 := P4.ext f257.2
    obtain ⟨cq256, kq256, q256a, q256b, q256c⟩ := isOf hZ e225 f258
    obtain ⟨_, _, ⟨T256, L256, k256, n256⟩, -, X256, ⟨Lc256, hQ256, l256, y256, z256⟩, st256⟩ := X225.virtualBack hx (y := mn2) (z := mn2) hown (mvT hZ (own_w hw 85 rfl)) (mvT hZ (own_w hw 86 rfl)) (notFace_of_selects (args := #[]) (mvT hZ (own_w hw 88 rfl))) (mvT hZ (own_w hw 88 rfl)) (mvT hZ (own_w hw 87 rfl)) (by decide) (backOf (W := 0) (rmholdsConcepts32 l Z a0 hw [] w_BOTH w_WORDS h225 n0 f257 P4 P13 P2 P12 P1) hZ (own_w hw 89 rfl) (own_w hw 2 rfl) (by decide) (by decide)) q256a q256c (g := (mkF m 83 #[lvI p0_, lvI p1_, lvI (2 : Int32), lvR w_BOTH, lvI (1 : Int32), lvR nb4_196, lvR b202, lvR b213, .unset, .unset, .unset] [(.ref w_BOTH)])) rfl (by rw [hml]; rfl) (Steps.refl _) (argsL := []) (rest := []) (lenOf pd_10 rfl) rfl (by show 2 * 0 + _ ≤ _; exact Nat.le_of_eq rfl) (hb hby at_83) (fun _ _ => ⟨rfl, e225, (by decide : 5 + 0 ≤ _), (by decide : 21 + 0 ≤ _)⟩)
    dsimp only [Pt.U, Pt.locs, Pt.cells, Pt.slots] at X256 l256 y256 z256 st256 hQ256
    subst l256 y256 z256
    obtain ⟨h256, e256⟩ : ∃ z, T256.heap = z := ⟨_, rfl⟩
    rw [e256] at hQ256
    obtain ⟨rfl, N256q, hh256⟩ := hQ256
    have N259 := Fr.app N251 N256q
    have e256' : T256.heap = h225 := e256.trans hh256
    have f261 : Exa Z h213 b202 "java/util/ArrayList" := g210_0.ext E213
    have f262 : Exa Z h222 b202 "java/util/ArrayList" := f261.keep K222
    have f263 : Exa Z h225 b202 "java/util/ArrayList" := f262.keep K225
    have f264 : Fld Z h213 b202 "java/util/AbstractList" "modCount" "I" (.int (0 : Int32)) := g210_1.ext E213
    have ne266 : b202 ≠ b213 := Nat.ne_of_lt (Nat.lt_of_lt_of_le g210_0.lt (Nat.le_of_eq g213.symm))
    have f265 : Fld Z h222 b202 "java/util/AbstractList" "modCount" "I" (.int (0 : Int32)) := f264.keep K222 (ninS ne266 nin0)
    have f267 : Fld Z h225 b202 "java/util/AbstractList" "modCount" "I" (.int (0 : Int32)) := f265.keep K225 (ninS ne266 nin0)
    have f268 : Fld Z h213 b202 "java/util/ArrayList" "elementData" "[Ljava/lang/Object;" (.ref w_DEFAULTCAPACITY_EMPTY_ELEMENTDATA) := g210_2.ext E213
    have f269 : Fld Z h222 b202 "java/util/ArrayList" "elementData" "[Ljava/lang/Object;" (.ref w_DEFAULTCAPACITY_EMPTY_ELEMENTDATA) := f268.keep K222 (ninS ne266 nin0)
    have f270 : Fld Z h225 b202 "java/util/ArrayList" "elementData" "[Ljava/lang/Object;" (.ref w_DEFAULTCAPACITY_EMPTY_ELEMENTDATA) := f269.keep K225 (ninS ne266 nin0)
    have f271 : Fld Z h213 b202 "java/util/ArrayList" "size" "I" (.int (0 : Int32)) := g210_3.ext E213
    have f272 : Fld Z h222 b202 "java/util/ArrayList" "size" "I" (.int (0 : Int32)) := f271.keep K222 (ninS ne266 nin0)
    have f273 : Fld Z h225 b202 "java/util/ArrayList" "size" "I" (.int (0 : Int32)) := f272.keep K225 (ninS ne266 nin0)
    have f274 : Exa Z h225 nb4_196 "java/lang/String" := f229.keep K225
    have f275 : Fld Z h225 nb4_196 "java/lang/String" "value" "[B" (.ref nnb1_9_196) := f234.keep K225 (ninS ne235 nin0)
    have f276 : Fld Z h225 nb4_196 "java/lang/String" "coder" "B" (.int (0 : Int32)) := f239.keep K225 (ninS ne235 nin0)
    have f277 : Arv Z h225 nnb1_9_196 k1_9_196 .byte (1 : Int32) [(.int ((p1_ &&& (255 : Int32)).toInt8.toInt32))] (.int (0 : Int32)) := f244.keep K225 (ninS ne245 nin0)
    have f278 : Exa Z h225 nnb1_9_196 "[B" := f249.keep K225
    have f279 : Exa Z h225 w_BOTH cn1 := P4.ext f257.2
    obtain ⟨cq260, kq260, q260a, q260b, q260c⟩ := isOf hZ e256' f279
    obtain ⟨_, _, ⟨T260, L260, k260, n260⟩, -, X260, ⟨Lc260, hQ260, l260, y260, z260⟩, st260⟩ := X256.virtualBack hx (y := mn4) (z := mn4) hown (mvT hZ (own_w hw 91 rfl)) (mvT hZ (own_w hw 92 rfl)) (notFace_of_selects (args := #[]) (mvT hZ (own_w hw 94 rfl))) (mvT hZ (own_w hw 94 rfl)) (mvT hZ (own_w hw 93 rfl)) (by decide) (backOf (W := 0) (rmterms39 l Z a0 hw [] w_BOTH b202 b213 w_DEFAULTCAPACITY_EMPTY_ELEMENTDATA nnnnb8_2_3_9_225 k_w_DEFAULTCAPACITY_EMPTY_ELEMENTDATA k8_2_3_9_225 nb4_196 nnb1_9_196 k1_9_196 ((p1_ &&& (255 : Int32)).toInt8.toInt32) mr_ h225 n0 f257 P4 P13 f263 f267 f270 f273 g225_0 g225_1 g225_2 g225_3 P11 P16 g225_4 g225_5 f274 f275 f276 f277 f278 P17) hZ (own_w hw 95 rfl) (own_w hw 2 rfl) (by decide) (by decide)) q260a q260c (g := (mkF m 93 #[lvI p0_, lvI p1_, lvI (2 : Int32), lvR w_BOTH, lvI (1 : Int32), lvR nb4_196, lvR b202, lvR b213, lvI (1 : Int32), .unset, .unset] [(.ref b213), (.ref b202), (.ref w_BOTH)])) rfl (by rw [hml]; rfl) (Steps.refl _) (argsL := [(.ref b202), (.ref b213)]) (rest := []) (lenOf pd_12 rfl) rfl (by show 2 * 0 + _ ≤ _; exact Nat.le_of_eq rfl) (hb hby at_93) (fun _ _ => ⟨rfl, e256', (by decide : 5 + 4 ≤ _), (by decide : 21 + 5 ≤ _)⟩)
    dsimp only [Pt.U, Pt.locs, Pt.cells, Pt.slots] at X260 l260 y260 z260 st260 hQ260
    subst l260 y260 z260
    obtain ⟨h260, e260⟩ : ∃ z, T260.heap = z := ⟨_, rfl⟩
    rw [e260] at hQ260
    obtain ⟨k3_30_260, nb4_260, nnb3_30_260, rfl, N260q, K260, sznb4_260, sznnb3_30_260, nenb4_nnb3_30_260, g260_0, g260_1, g260_2, g260_3, g260_4, g260_5⟩ := hQ260
    have N280 := Fr.app N259 N260q
    have ge281 : n0 ≤ nb4_260 := Nat.le_trans (Nat.le_trans (Nat.le_of_eq f257.1.symm) f257.2.1) sznb4_260
    have f282 : Keep h0 h225 [] := f254.trans K225 (allS (Or.inr sz218) all0)
    have sz283 : h0.size ≤ nb4_260 := Nat.le_trans f282.1 sznb4_260
    have ge284 : n0 ≤ nnb3_30_260 := Nat.le_trans (Nat.le_trans (Nat.le_of_eq f257.1.symm) f257.2.1) sznnb3_30_260
    have sz285 : h0.size ≤ nnb3_30_260 := Nat.le_trans f282.1 sznnb3_30_260
    have f287 : Exa Z h260 nb4_196 "java/lang/String" := f274.keep K260
    have f288 : Fld Z h260 nb4_196 "java/lang/String" "value" "[B" (.ref nnb1_9_196) := f275.keep K260 nin0
    have f289 : Fld Z h260 nb4_196 "java/lang/String" "coder" "B" (.int (0 : Int32)) := f276.keep K260 nin0
    have f290 : Arv Z h260 nnb1_9_196 k1_9_196 .byte (1 : Int32) [(.int ((p1_ &&& (255 : Int32)).toInt8.toInt32))] (.int (0 : Int32)) := f277.keep K260 nin0
    have f291 : Exa Z h260 nnb1_9_196 "[B" := f278.keep K260
    have f292 : Old Z n0 h260 := f257.keep K260 all0
    obtain ⟨cq286, kq286, q286a, q286b, q286c⟩ := isOf hZ e260 g260_0
    obtain ⟨_, _, ⟨T286, L286, k286, n286⟩, -, X286, ⟨Lc286, hQ286, l286, y286, z286⟩, st286⟩ := X260.interfaceBack hx (xi := (⟨"java/util/List", "size", "()I"⟩ : MethodName)) (y := (⟨"java/util/ArrayList", "size", "()I"⟩ : MethodName)) hown (mvT hZ (own_w hw 105 rfl)) (mvT hZ (own_w hw 106 rfl)) (mvT hZ (own_w hw 107 rfl)) (mvT hZ (own_w hw 108 rfl)) (mvT hZ (own_w hw 109 rfl)) (mvT hZ (own_w hw 110 rfl)) (mvT hZ (own_w hw 111 rfl)) (mvT hZ (own_w hw 112 rfl)) (by decide) (backOf (W := 0) (rmsize59 l Z a0 hw [] nb4_260 nnb3_30_260 k3_30_260 nb4_196 nnb1_9_196 k1_9_196 ((p1_ &&& (255 : Int32)).toInt8.toInt32) h260 n0 f292 g260_0 g260_1 g260_2 g260_3 g260_4 g260_5 f287 f288 f289 f290 f291) hZ (own_w hw 113 rfl) (own_w hw 32 rfl) (by decide) (by decide)) q286a q286b q286c (g := (mkF m 100 #[lvI p0_, lvI p1_, lvI (2 : Int32), lvR w_BOTH, lvI (1 : Int32), lvR nb4_196, lvR b202, lvR b213, lvI (1 : Int32), lvR nb4_260, .unset] [(.ref nb4_260)])) rfl (by rw [hml]; rfl) (Steps.refl _) (argsL := []) (rest := []) (lenOf pd_11 rfl) rfl (by show 2 * 0 + _ ≤ _; exact Nat.le_of_eq rfl) (hb hby at_100) (fun _ _ => ⟨rfl, e260, (by decide : 9 + 0 ≤ _), (by decide : 26 + 0 ≤ _)⟩)
    dsimp only [Pt.U, Pt.locs, Pt.cells, Pt.slots] at X286 l286 y286 z286 st286 hQ286
    subst l286 y286 z286
    obtain ⟨h286, e286⟩ : ∃ z, T286.heap = z := ⟨_, rfl⟩
    rw [e286] at hQ286
    obtain ⟨rfl, N286q, hh286⟩ := hQ286
    have N293 := Fr.app N280 N286q
    have e286' : T286.heap = h260 := e286.trans hh286
    obtain ⟨cq294, kq294, q294a, q294b, q294c⟩ := isOf hZ e286' g260_0
    obtain ⟨_, _, ⟨T294, L294, k294, n294⟩, -, X294, ⟨Lc294, hQ294, l294, y294, z294⟩, st294⟩ := X286.interfaceBack hx (xi := (⟨"java/util/List", "get", "(I)Ljava/lang/Object;"⟩ : MethodName)) (y := (⟨"java/util/ArrayList", "get", "(I)Ljava/lang/Object;"⟩ : MethodName)) hown (mvT hZ (own_w hw 158 rfl)) (mvT hZ (own_w hw 159 rfl)) (mvT hZ (own_w hw 160 rfl)) (mvT hZ (own_w hw 161 rfl)) (mvT hZ (own_w hw 162 rfl)) (mvT hZ (own_w hw 163 rfl)) (mvT hZ (own_w hw 164 rfl)) (mvT hZ (own_w hw 112 rfl)) (by decide) (backOf (W := 0) (rmget60 l Z a0 hw [] nb4_260 nnb3_30_260 k3_30_260 nb4_196 nnb1_9_196 k1_9_196 ((p1_ &&& (255 : Int32)).toInt8.toInt32) h260 n0 f292 g260_0 g260_1 g260_2 g260_3 g260_4 g260_5 f287 f288 f289 f290 f291) hZ (own_w hw 165 rfl) (own_w hw 32 rfl) (by decide) (by decide)) q294a q294b q294c (g := (mkF m 112 #[lvI p0_, lvI p1_, lvI (2 : Int32), lvR w_BOTH, lvI (1 : Int32), lvR nb4_196, lvR b202, lvR b213, lvI (1 : Int32), lvR nb4_260, .unset] [(.int (0 : Int32)), (.ref nb4_260)])) rfl (by rw [hml]; rfl) (Steps.refl _) (argsL := [(.int (0 : Int32))]) (rest := []) (lenOf pd_14 rfl) rfl (by show 2 * 0 + _ ≤ _; exact Nat.le_of_eq rfl) (hb hby at_112) (fun _ _ => ⟨rfl, e286', (by decide : 9 + 0 ≤ _), (by decide : 26 + 0 ≤ _)⟩)
    dsimp only [Pt.U, Pt.locs, Pt.cells, Pt.slots] at X294 l294 y294 z294 st294 hQ294
    subst l294 y294 z294
    obtain ⟨h294, e294⟩ : ∃ z, T294.heap = z := ⟨_, rfl⟩
    rw [e294] at hQ294
    obtain ⟨rfl, N294q, hh294⟩ := hQ294
    have N295 := Fr.app N293 N294q
    have e294' : T294.heap = h260 := e294.trans hh294
    obtain ⟨T296, X296, e296, st296⟩ := castY X294 hx hZ hown (own_w hw 179 rfl) e294' (Ins.self f287) (g := (mkF m 117 #[lvI p0_, lvI p1_, lvI (2 : Int32), lvR w_BOTH, lvI (1 : Int32), lvR nb4_196, lvR b202, lvR b213, lvI (1 : Int32), lvR nb4_260, .unset] [(.ref nb4_196)])) rfl rfl (hb hby at_117)
    obtain ⟨cq297, kq297, q297a, q297b, q297c⟩ := isOf hZ e296 f287
    obtain ⟨_, _, ⟨T297, L297, k297, n297⟩, -, X297, ⟨Lc297, hQ297, l297, y297, z297⟩, st297⟩ := X296.virtualBack hx (y := (⟨"java/lang/String", "equals", "(Ljava/lang/Object;)Z"⟩ : MethodName)) (z := (⟨"java/lang/String", "equals", "(Ljava/lang/Object;)Z"⟩ : MethodName)) hown (mvT hZ (own_w hw 180 rfl)) (mvT hZ (own_w hw 181 rfl)) (notFace_of_selects (args := #[]) (mvT hZ (own_w hw 183 rfl))) (mvT hZ (own_w hw 183 rfl)) (mvT hZ (own_w hw 182 rfl)) (by decide) (backOf (W := 0) (rmequals31 l Z a0 hw [] nb4_196 nnb1_9_196 k1_9_196 ((p1_ &&& (255 : Int32)).toInt8.toInt32) h260 n0 f292 f287 f288 f289 f290 f291) hZ (own_w hw 184 rfl) (own_w hw 6 rfl) (by decide) (by decide)) q297a q297c (g := (mkF m 122 #[lvI p0_, lvI p1_, lvI (2 : Int32), lvR w_BOTH, lvI (1 : Int32), lvR nb4_196, lvR b202, lvR b213, lvI (1 : Int32), lvR nb4_260, .unset] [(.ref nb4_196), (.ref nb4_196)])) rfl (by rw [hml]; rfl) (Steps.refl _) (argsL := [(.ref nb4_196)]) (rest := []) (lenOf pd_9 rfl) rfl (by show 2 * 0 + _ ≤ _; exact Nat.le_of_eq rfl) (hb hby at_122) (fun _ _ => ⟨rfl, e296, (by decide : 9 + 0 ≤ _), (by decide : 26 + 0 ≤ _)⟩)
    dsimp only [Pt.U, Pt.locs, Pt.cells, Pt.slots] at X297 l297 y297 z297 st297 hQ297
    subst l297 y297 z297
    obtain ⟨h297, e297⟩ : ∃ z, T297.heap = z := ⟨_, rfl⟩
    rw [e297] at hQ297
    obtain ⟨rfl, N297q, hh297⟩ := hQ297
    have N298 := Fr.app N295 N297q
    have e297' : T297.heap = h260 := e297.trans hh297
    have pre299 : ∀ t, own_S p e below m T297 154 #[lvI p0_, lvI p1_, lvI (2 : Int32), lvR w_BOTH, lvI (1 : Int32), lvR nb4_196, lvR b202, lvR b213, lvI (1 : Int32), lvR nb4_260, lvI (1 : Int32)] [(.int (1 : Int32))] t → G t := by
      intro t kt
      refine pre193 t ?_
      show own_S p e below m s₁ 6 #[lvI p0_, lvI p1_, .unset, .unset, .unset, .unset, .unset, .unset, .unset, .unset, .unset] [(.int (2 : Int32))] _
      refine XS.istoreN X0.here hx rfl (hb hby at_6) rfl (l' := #[lvI p0_, lvI p1_, lvI (2 : Int32), .unset, .unset, .unset, .unset, .unset, .unset, .unset, .unset]) rfl ?_
      refine XS.iloadN X0.here hx rfl (hb hby at_7) rfl ?_
      show own_S p e below m s₁ 8 #[lvI p0_, lvI p1_, lvI (2 : Int32), .unset, .unset, .unset, .unset, .unset, .unset, .unset, .unset] [(.int (2 : Int32))] _
      refine XS.ifYes X0.here hx rfl (pc0 := 8) (pc' := 18) rfl (hb hby at_8) rfl ((if0 _ _).trans (feq (by decide : ¬ ((2 : Int32) = (0 : Int32)))).2) (by decide) (by decide) ?_
      refine XS.iloadN X0.here hx rfl (hb hby at_18) rfl ?_
      refine XS.iconst X0.here hx rfl (hb hby at_19) ?_
      show own_S p e below m s₁ 20 #[lvI p0_, lvI p1_, lvI (2 : Int32), .unset, .unset, .unset, .unset, .unset, .unset, .unset, .unset] [(.int (1 : Int32)), (.int (2 : Int32))] _
      refine XS.icmpYes X0.here hx rfl (pc0 := 20) (pc' := 30) rfl (hb hby at_20) rfl (feq (by decide : ¬ ((2 : Int32) = (1 : Int32)))).2 (by decide) (by decide) ?_
      show own_S p e below m s₁ 30 #[lvI p0_, lvI p1_, lvI (2 : Int32), .unset, .unset, .unset, .unset, .unset, .unset, .unset, .unset] [] _
      refine st194 _ ?_
      refine XS.astoreN X194.here hx rfl (hb hby at_33) rfl rfl (l' := #[lvI p0_, lvI p1_, lvI (2 : Int32), lvR w_BOTH, .unset, .unset, .unset, .unset, .unset, .unset, .unset]) rfl ?_
      refine XS.iloadN X194.here hx rfl (hb hby at_34) rfl ?_
      show own_S p e below m T194 35 #[lvI p0_, lvI p1_, lvI (2 : Int32), lvR w_BOTH, .unset, .unset, .unset, .unset, .unset, .unset, .unset] [(.int (2 : Int32))] _
      refine XS.ifNo X194.here hx rfl (hb hby at_35) rfl ((if0 _ _).trans (feq (by decide : ¬ ((2 : Int32) = (0 : Int32)))).1) ?_
      refine XS.iconst X194.here hx rfl (hb hby at_38) ?_
      refine XS.goto X194.here hx rfl (pc0 := 39) (pc' := 43) rfl (hb hby at_39) (by decide) (by decide) ?_
      refine XS.istore X194.here hx rfl (hb hby at_43) rfl (l' := #[lvI p0_, lvI p1_, lvI (2 : Int32), lvR w_BOTH, lvI (1 : Int32), .unset, .unset, .unset, .unset, .unset, .unset]) rfl ?_
      refine XS.iloadN X194.here hx rfl (hb hby at_45) rfl ?_
      refine XS.sipush X194.here hx rfl (hb hby at_46) ?_
      show own_S p e below m T194 49 #[lvI p0_, lvI p1_, lvI (2 : Int32), lvR w_BOTH, lvI (1 : Int32), .unset, .unset, .unset, .unset, .unset, .unset] [(.int (255 : Int32)), (.int p1_)] _
      refine XS.iand X194.here hx rfl (hb hby at_49) rfl ?_
      show own_S p e below m T194 50 #[lvI p0_, lvI p1_, lvI (2 : Int32), lvR w_BOTH, lvI (1 : Int32), .unset, .unset, .unset, .unset, .unset, .unset] [(.int (p1_ &&& (255 : Int32)))] _
      refine XS.i2c X194.here hx rfl (hb hby at_50) rfl ?_
      show own_S p e below m T194 51 #[lvI p0_, lvI p1_, lvI (2 : Int32), lvR w_BOTH, lvI (1 : Int32), .unset, .unset, .unset, .unset, .unset, .unset] [(.int ((p1_ &&& (255 : Int32)).toUInt32.toUInt16.toUInt32.toInt32))] _
      rw [i2c_mask]
      show own_S p e below m T194 51 #[lvI p0_, lvI p1_, lvI (2 : Int32), lvR w_BOTH, lvI (1 : Int32), .unset, .unset, .unset, .unset, .unset, .unset] [(.int (p1_ &&& (255 : Int32)))] _
      refine st196 _ ?_
      refine XS.astore X196.here hx rfl (hb hby at_54) rfl rfl (l' := #[lvI p0_, lvI p1_, lvI (2 : Int32), lvR w_BOTH, lvI (1 : Int32), lvR nb4_196, .unset, .unset, .unset, .unset, .unset]) rfl ?_
      show own_S p e below m T196 56 #[lvI p0_, lvI p1_, lvI (2 : Int32), lvR w_BOTH, lvI (1 : Int32), lvR nb4_196, .unset, .unset, .unset, .unset, .unset] [] _
      refine st202 _ ?_
      refine XS.dup X202.here hx rfl (hb hby at_59) rfl rfl ?_
      show own_S p e below m T202 60 #[lvI p0_, lvI p1_, lvI (2 : Int32), lvR w_BOTH, lvI (1 : Int32), lvR nb4_196, .unset, .unset, .unset, .unset, .unset] [(.ref b202), (.ref b202)] _
      refine st210.trans ?_
      refine XS.astore X210.here hx rfl (hb hby at_63) rfl rfl (l' := #[lvI p0_, lvI p1_, lvI (2 : Int32), lvR w_BOTH, lvI (1 : Int32), lvR nb4_196, lvR b202, .unset, .unset, .unset, .unset]) rfl ?_
      show own_S p e below m T210 65 #[lvI p0_, lvI p1_, lvI (2 : Int32), lvR w_BOTH, lvI (1 : Int32), lvR nb4_196, lvR b202, .unset, .unset, .unset, .unset] [] _
      refine st213 _ ?_
      refine XS.dup X213.here hx rfl (hb hby at_68) rfl rfl ?_
      show own_S p e below m T213 69 #[lvI p0_, lvI p1_, lvI (2 : Int32), lvR w_BOTH, lvI (1 : Int32), lvR nb4_196, lvR b202, .unset, .unset, .unset, .unset] [(.ref b213), (.ref b213)] _
      refine st222.trans ?_
      refine XS.astore X222.here hx rfl (hb hby at_72) rfl rfl (l' := #[lvI p0_, lvI p1_, lvI (2 : Int32), lvR w_BOTH, lvI (1 : Int32), lvR nb4_196, lvR b202, lvR b213, .unset, .unset, .unset]) rfl ?_
      refine XS.aload X222.here hx rfl (hb hby at_74) rfl rfl ?_
      refine XS.aload X222.here hx rfl (hb hby at_76) rfl rfl ?_
      show own_S p e below m T222 78 #[lvI p0_, lvI p1_, lvI (2 : Int32), lvR w_BOTH, lvI (1 : Int32), lvR nb4_196, lvR b202, lvR b213, .unset, .unset, .unset] [(.ref nb4_196), (.ref b213)] _
      refine st225.trans ?_
      refine XS.pop X225.here hx rfl (hb hby at_81) rfl rfl ?_
      refine XS.aloadN X225.here hx rfl (hb hby at_82) rfl rfl ?_
      show own_S p e below m T225 83 #[lvI p0_, lvI p1_, lvI (2 : Int32), lvR w_BOTH, lvI (1 : Int32), lvR nb4_196, lvR b202, lvR b213, .unset, .unset, .unset] [(.ref w_BOTH)] _
      refine st256.trans ?_
      refine XS.istore X256.here hx rfl (hb hby at_86) rfl (l' := #[lvI p0_, lvI p1_, lvI (2 : Int32), lvR w_BOTH, lvI (1 : Int32), lvR nb4_196, lvR b202, lvR b213, lvI (1 : Int32), .unset, .unset]) rfl ?_
      refine XS.aloadN X256.here hx rfl (hb hby at_88) rfl rfl ?_
      refine XS.aload X256.here hx rfl (hb hby at_89) rfl rfl ?_
      refine XS.aload X256.here hx rfl (hb hby at_91) rfl rfl ?_
      show own_S p e below m T256 93 #[lvI p0_, lvI p1_, lvI (2 : Int32), lvR w_BOTH, lvI (1 : Int32), lvR nb4_196, lvR b202, lvR b213, lvI (1 : Int32), .unset, .unset] [(.ref b213), (.ref b202), (.ref w_BOTH)] _
      refine st260.trans ?_
      refine XS.astore X260.here hx rfl (hb hby at_96) rfl rfl (l' := #[lvI p0_, lvI p1_, lvI (2 : Int32), lvR w_BOTH, lvI (1 : Int32), lvR nb4_196, lvR b202, lvR b213, lvI (1 : Int32), lvR nb4_260, .unset]) rfl ?_
      refine XS.aload X260.here hx rfl (hb hby at_98) rfl rfl ?_
      show own_S p e below m T260 100 #[lvI p0_, lvI p1_, lvI (2 : Int32), lvR w_BOTH, lvI (1 : Int32), lvR nb4_196, lvR b202, lvR b213, lvI (1 : Int32), lvR nb4_260, .unset] [(.ref nb4_260)] _
      refine st286.trans ?_
      refine XS.iconst X286.here hx rfl (hb hby at_105) ?_
      show own_S p e below m T286 106 #[lvI p0_, lvI p1_, lvI (2 : Int32), lvR w_BOTH, lvI (1 : Int32), lvR nb4_196, lvR b202, lvR b213, lvI (1 : Int32), lvR nb4_260, .unset] [(.int (1 : Int32)), (.int (1 : Int32))] _
      refine XS.icmpNo X286.here hx rfl (hb hby at_106) rfl (teq (by decide : (1 : Int32) = (1 : Int32))).2 ?_
      refine XS.aload X286.here hx rfl (hb hby at_109) rfl rfl ?_
      refine XS.iconst X286.here hx rfl (hb hby at_111) ?_
      show own_S p e below m T286 112 #[lvI p0_, lvI p1_, lvI (2 : Int32), lvR w_BOTH, lvI (1 : Int32), lvR nb4_196, lvR b202, lvR b213, lvI (1 : Int32), lvR nb4_260, .unset] [(.int (0 : Int32)), (.ref nb4_260)] _
      refine st294.trans ?_
      show own_S p e below m T294 117 #[lvI p0_, lvI p1_, lvI (2 : Int32), lvR w_BOTH, lvI (1 : Int32), lvR nb4_196, lvR b202, lvR b213, lvI (1 : Int32), lvR nb4_260, .unset] [(.ref nb4_196)] _
      refine st296 _ ?_
      refine XS.aload X296.here hx rfl (hb hby at_120) rfl rfl ?_
      show own_S p e below m T296 122 #[lvI p0_, lvI p1_, lvI (2 : Int32), lvR w_BOTH, lvI (1 : Int32), lvR nb4_196, lvR b202, lvR b213, lvI (1 : Int32), lvR nb4_260, .unset] [(.ref nb4_196), (.ref nb4_196)] _
      refine st297.trans ?_
      show own_S p e below m T297 125 #[lvI p0_, lvI p1_, lvI (2 : Int32), lvR w_BOTH, lvI (1 : Int32), lvR nb4_196, lvR b202, lvR b213, lvI (1 : Int32), lvR nb4_260, .unset] [(.int (1 : Int32))] _
      refine XS.ifNo X297.here hx rfl (hb hby at_125) rfl ((if0 _ _).trans (feq (by decide : ¬ ((1 : Int32) = (0 : Int32)))).1) ?_
      refine XS.iconst X297.here hx rfl (hb hby at_128) ?_
      refine XS.goto X297.here hx rfl (pc0 := 129) (pc' := 133) rfl (hb hby at_129) (by decide) (by decide) ?_
      refine XS.istore X297.here hx rfl (hb hby at_133) rfl (l' := #[lvI p0_, lvI p1_, lvI (2 : Int32), lvR w_BOTH, lvI (1 : Int32), lvR nb4_196, lvR b202, lvR b213, lvI (1 : Int32), lvR nb4_260, lvI (1 : Int32)]) rfl ?_
      refine XS.iload X297.here hx rfl (hb hby at_135) rfl ?_
      refine XS.iload X297.here hx rfl (hb hby at_137) rfl ?_
      show own_S p e below m T297 139 #[lvI p0_, lvI p1_, lvI (2 : Int32), lvR w_BOTH, lvI (1 : Int32), lvR nb4_196, lvR b202, lvR b213, lvI (1 : Int32), lvR nb4_260, lvI (1 : Int32)] [(.int (1 : Int32)), (.int (1 : Int32))] _
      refine XS.icmpNo X297.here hx rfl (hb hby at_139) rfl (teq (by decide : (1 : Int32) = (1 : Int32))).2 ?_
      refine XS.iload X297.here hx rfl (hb hby at_142) rfl ?_
      refine XS.iload X297.here hx rfl (hb hby at_144) rfl ?_
      show own_S p e below m T297 146 #[lvI p0_, lvI p1_, lvI (2 : Int32), lvR w_BOTH, lvI (1 : Int32), lvR nb4_196, lvR b202, lvR b213, lvI (1 : Int32), lvR nb4_260, lvI (1 : Int32)] [(.int (1 : Int32)), (.int (1 : Int32))] _
      refine XS.icmpNo X297.here hx rfl (hb hby at_146) rfl (teq (by decide : (1 : Int32) = (1 : Int32))).2 ?_
      refine XS.iconst X297.here hx rfl (hb hby at_149) ?_
      refine XS.goto X297.here hx rfl (pc0 := 150) (pc' := 154) rfl (hb hby at_150) (by decide) (by decide) ?_
      exact kt
    obtain ⟨fs, hr, hrun, hended, hW, hsame⟩ := X297.leave (v := some (.int (1 : Int32))) (fun h => by rw [Bd.returns] at h; cases h)
    refine ⟨_, _, hG _ (pre299 _ (retN X297 hx (t := .boolean) Bd.returns (by simp) (hb hby at_154) hr)), hrun, hended, _, _, rfl, ?_, ⟨_, rfl⟩, hW, hsame.mono (by decide) (by decide)⟩
    show QLaw Z p0_ p1_ w_DEFAULTCAPACITY_EMPTY_ELEMENTDATA w_EMPTY_ELEMENTDATA w_COMPACT_STRINGS w_CONCEPTS w_BOTH w_WORDS k_w_EMPTY_ELEMENTDATA k_w_DEFAULTCAPACITY_EMPTY_ELEMENTDATA mr_ h0 n0 _ T297.heap _
    rw [e297']
    exact ⟨rfl, N298⟩
set_option maxRecDepth 65536 in
set_option maxHeartbeats 40000000 in
theorem comes_1 {Post : Tables → Env → Array Value → State → Outcome → State → Prop} (hpost : ∀ tb e args s v u, (limb_1_1.after args s (.returned v) u = true ∧ limb_1_2.after args s (.returned v) u = true ∧ True) → FrameEnd s (.returned v) u (Jvm.fieldLocs frame_1_writes args s ++ Jvm.arrayLocs frame_1_arrays args s ++ Jvm.staticLocs frame_1_statics s) 32 128 → Post tb e args s (.returned v) u) :
    ArmFor flags0 classFile x code maxLocals ret World_1 tables_1 room_1 Calls_1 rest_1 Pre_1 Post := by
  intro l hfl _ _ p e ha hc hk s m args below hf hA hF happ hP
  obtain ⟨hcalls, hrest, hpre⟩ := hP
  obtain ⟨-, -, -, hnamed, -, -, -, hat⟩ := (Spec.applies_iff hf).mp happ
  obtain ⟨hg, hn⟩ := and_e (Cond.before_iff.mp (show (Jvm.Cond.and given_1 narrow_1).before args s = true from hpre))
  obtain ⟨g1, g2⟩ := and_e hg
  obtain ⟨g3, g4⟩ := and_e g2
  obtain ⟨w0, w1, rfl⟩ : ∃ w0 w1 : Value, args = #[w0, w1] := by
    have hs : args.size = 2 := by simpa [Cond.value, given_1] using g1
    obtain ⟨L⟩ := args
    match L, hs with
    | [w0, w1], _ => exact ⟨w0, w1, rfl⟩
  have hw := fun d (hd : d ∈ tables_1) => atoms_spec (ws := Jvm.Cond.code x code maxLocals ret :: tables_1) hat d (List.mem_cons_of_mem _ hd)
  have hfit : Fit s := fun {y c} hc i hi => by
    obtain ⟨ha, rfl⟩ := Array.getElem?_eq_some_iff.mp hc
    have q := List.all_eq_true.mp ((Array.all_eq_true_iff_forall_mem.mp hF) _ (Array.getElem_mem ha)) i (List.mem_range.mpr hi)
    simpa [Array.getElem?_eq_getElem hi] using q
  obtain ⟨i0, ei0⟩ := is_v g3
  obtain rfl : w0 = (.int i0) := Option.some.inj ei0
  obtain ⟨i1, ei1⟩ := is_v g4
  obtain rfl : w1 = (.int i1) := Option.some.inj ei1
  obtain ⟨g5, g6⟩ := and_e hn
  obtain ⟨g7, g8⟩ := and_e g6
  obtain ⟨g9, g10⟩ := and_e g8
  obtain ⟨g11, g12⟩ := and_e g10
  obtain ⟨g13, g14⟩ := and_e g12
  have hr0 := Cond.before_iff.mp (show rest_1_c.before _ s = true from hrest)
  obtain ⟨g15, g16⟩ := and_e hr0
  obtain ⟨g17, g18⟩ := and_e g16
  obtain ⟨g19, g20⟩ := and_e g18
  obtain ⟨g21, g22⟩ := and_e g20
  obtain ⟨g23, g24⟩ := and_e g22
  obtain ⟨g25, g26⟩ := and_e g24
  obtain ⟨g27, g28⟩ := and_e g26
  obtain ⟨g29, g30⟩ := and_e g28
  obtain ⟨g31, g32⟩ := and_e g30
  obtain ⟨g33, g34⟩ := and_e g32
  obtain ⟨g35, g36⟩ := and_e g34
  obtain ⟨g37, g38⟩ := and_e g36
  obtain ⟨g39, g40⟩ := and_e g38
  obtain ⟨g41, g42⟩ := and_e g40
  obtain ⟨g43, g44⟩ := and_e g42
  obtain ⟨g45, g46⟩ := and_e g44
  obtain ⟨g47, g48⟩ := and_e g46
  obtain ⟨g49, g50⟩ := and_e g48
  obtain ⟨w_WORDS, ev_w_WORDS⟩ := exa_v g5
  have S_w_WORDS := Sta.start ev_w_WORDS (Or.inr ⟨(own_w hw 2 rfl), (own_w hw 3 rfl)⟩)
  have E_w_WORDS := Exa.start ev_w_WORDS g5
  obtain ⟨w_BOTH, ev_w_BOTH⟩ := exa_v g9
  have S_w_BOTH := Sta.start ev_w_BOTH (Or.inr ⟨(own_w hw 2 rfl), (own_w hw 115 rfl)⟩)
  have E_w_BOTH := Exa.start ev_w_BOTH g9
  obtain ⟨w_CONCEPTS, ev_w_CONCEPTS⟩ := exa_v g13
  have S_w_CONCEPTS := Sta.start ev_w_CONCEPTS (Or.inr ⟨(own_w hw 2 rfl), (own_w hw 186 rfl)⟩)
  have E_w_CONCEPTS := Exa.start ev_w_CONCEPTS g13
  obtain ⟨w_COMPACT_STRINGS, ev_w_COMPACT_STRINGS⟩ := is_v g17
  have S_w_COMPACT_STRINGS := Sta.start ev_w_COMPACT_STRINGS (Or.inl (Cond.before_iff.mpr g15))
  obtain ⟨w_EMPTY_ELEMENTDATA, ev_w_EMPTY_ELEMENTDATA⟩ := arr_v g39
  have S_w_EMPTY_ELEMENTDATA := Sta.start ev_w_EMPTY_ELEMENTDATA (Or.inl (Cond.before_iff.mpr g35))
  obtain ⟨c_w_EMPTY_ELEMENTDATA, A_w_EMPTY_ELEMENTDATA⟩ := Arr.start ev_w_EMPTY_ELEMENTDATA g39
  have E_w_EMPTY_ELEMENTDATA := Exa.start ev_w_EMPTY_ELEMENTDATA g41
  obtain ⟨w_DEFAULTCAPACITY_EMPTY_ELEMENTDATA, ev_w_DEFAULTCAPACITY_EMPTY_ELEMENTDATA⟩ := arr_v g45
  have S_w_DEFAULTCAPACITY_EMPTY_ELEMENTDATA := Sta.start ev_w_DEFAULTCAPACITY_EMPTY_ELEMENTDATA (Or.inr ⟨(own_w hw 32 rfl), (Cond.before_iff.mpr g37)⟩)
  obtain ⟨c_w_DEFAULTCAPACITY_EMPTY_ELEMENTDATA, A_w_DEFAULTCAPACITY_EMPTY_ELEMENTDATA⟩ := Arr.start ev_w_DEFAULTCAPACITY_EMPTY_ELEMENTDATA g45
  have E_w_DEFAULTCAPACITY_EMPTY_ELEMENTDATA := Exa.start ev_w_DEFAULTCAPACITY_EMPTY_ELEMENTDATA g47
  have F_ordinal_w_WORDS := Fld.start ((fld_at ev_w_WORDS).symm.trans (own_eqi g7))
  have F_ordinal_w_BOTH := Fld.start ((fld_at ev_w_BOTH).symm.trans (own_eqi g11))
  have F_ordinal_w_CONCEPTS := Fld.start ((fld_at ev_w_CONCEPTS).symm.trans (own_eqi g14))
  have Ln_w_EMPTY_ELEMENTDATA := own_len g43 ev_w_EMPTY_ELEMENTDATA A_w_EMPTY_ELEMENTDATA
  have Ln_w_DEFAULTCAPACITY_EMPTY_ELEMENTDATA := own_len g49 ev_w_DEFAULTCAPACITY_EMPTY_ELEMENTDATA A_w_DEFAULTCAPACITY_EMPTY_ELEMENTDATA
  have V_w_EMPTY_ELEMENTDATA : Arv s s.heap w_EMPTY_ELEMENTDATA c_w_EMPTY_ELEMENTDATA.cls (.object "java/lang/Object") (0 : Int32) [] .null := Arv.start hfit A_w_EMPTY_ELEMENTDATA Ln_w_EMPTY_ELEMENTDATA.1 Ln_w_EMPTY_ELEMENTDATA.2 (by decide) rfl trivial
  have V_w_DEFAULTCAPACITY_EMPTY_ELEMENTDATA : Arv s s.heap w_DEFAULTCAPACITY_EMPTY_ELEMENTDATA c_w_DEFAULTCAPACITY_EMPTY_ELEMENTDATA.cls (.object "java/lang/Object") (0 : Int32) [] .null := Arv.start hfit A_w_DEFAULTCAPACITY_EMPTY_ELEMENTDATA Ln_w_DEFAULTCAPACITY_EMPTY_ELEMENTDATA.1 Ln_w_DEFAULTCAPACITY_EMPTY_ELEMENTDATA.2 (by decide) rfl trivial
  obtain ⟨mc_, mk_, mm_, mh1_, mh2_, mh3_, mcell_, mh4_, mh5_⟩ := hcalls.1
  obtain ⟨n, o, h1, h2, h3, _, L, rfl, ⟨rfl, N⟩, hq⟩ := rmLaw l s _ hw tables_1 i0 i1 w_DEFAULTCAPACITY_EMPTY_ELEMENTDATA w_EMPTY_ELEMENTDATA w_COMPACT_STRINGS w_CONCEPTS w_BOTH w_WORDS c_w_EMPTY_ELEMENTDATA.cls c_w_DEFAULTCAPACITY_EMPTY_ELEMENTDATA.cls mm_ s.heap s.heap.size (Old.start s) (own_nei g19 ev_w_COMPACT_STRINGS) S_w_WORDS E_w_WORDS S_w_BOTH E_w_BOTH S_w_CONCEPTS E_w_CONCEPTS S_w_COMPACT_STRINGS S_w_EMPTY_ELEMENTDATA E_w_EMPTY_ELEMENTDATA S_w_DEFAULTCAPACITY_EMPTY_ELEMENTDATA E_w_DEFAULTCAPACITY_EMPTY_ELEMENTDATA F_ordinal_w_WORDS F_ordinal_w_BOTH F_ordinal_w_CONCEPTS V_w_EMPTY_ELEMENTDATA V_w_DEFAULTCAPACITY_EMPTY_ELEMENTDATA ⟨mc_, mk_, mh1_, mh2_, mh3_, mcell_, mh4_, mh5_⟩ p e ha hc hk s m _ below hf ((Spec.applies_iff_loose hf).mp happ).1 ⟨rfl, State.Warmed39.refl s, rfl⟩ trivial
  refine ⟨n, _, h1, h2, h3, hpost _ _ _ _ _ _ ⟨Cond.after_iff.mpr rfl, Cond.after_iff.mpr (eq_i res_at (Term.int_eval (1)) rfl), trivial⟩ ⟨hq.1, hq.2.1, (hq.2.2.sift fun y hy => Or.inr (N y hy)).mono (by decide) (by decide)⟩⟩
theorem main_1_1 : Claimed_1_1 := comes_1 fun _ _ _ _ _ _ h hF => ⟨h.1, hF⟩
theorem main_1_2 : Claimed_1_2 := comes_1 fun _ _ _ _ _ _ h hF => ⟨h.2.1, hF⟩
end Jvm.Pilot.@@N@@
namespace Jvm.Pilot.@@N@@
open Jvm Jvm.ClassFile Sem Op Lib Jvm.Free Jvm.Stand Jvm.Pilot.@@N@@.Jvm.D
/-! MADE BY PROGRAM (witnessworld.py) out of the Statement's table words and the real class files: 33 classes; the members and pool entries that the words name. The judged class is class 1, her method 1. -/
namespace start1
open Jvm.ClassFile
def u (s : String) : CpInfo := .utf8 (stringToUtf16 s)
/-- a pool by its gaps: so many unusable entries, then the entry; so many at the end -/
def gap : Nat → List CpInfo → List CpInfo
  | 0, r => r
  | n + 1, r => .unusable :: gap n r
def poolList (es : List (Nat × CpInfo)) (last : Nat) : List CpInfo := es.foldr (fun e r => gap e.1 (e.2 :: r)) (gap last [])
def pool (es : List (Nat × CpInfo)) (last : Nat) : Array CpInfo := ⟨poolList es last⟩
def fileOf (pool : Array CpInfo) (this : Nat) (attrs : Array Attribute := #[]) (ms : Array MethodInfo := #[]) (fl : Nat := 33) (sup : Nat := 0) (ifs : Array Nat := #[]) (fds : Array FieldInfo := #[]) : ClassFile where
  minorVersion := 0
  majorVersion := 65
  constantPool := pool
  accessFlags := fl
  thisClass := this
  superClass := sup
  interfaces := ifs
  fields := fds
  methods := ms
  attributes := attrs
def plain (name : String) (sup : Option ClassId) : Class where
  name := name
  kind := .ordinary
  loader := none
  accessFlags := 33
  super := sup
  interfaces := #[]
  cf := none
  fields := #[]
  methods := #[]
  instanceTypes := #[]
  staticTypes := #[]
  resolved := #[]
  callSites := []
  init := .initialized
  statics := none
  mirror := none

def pool0 : Array CpInfo := pool [(5, u "<init>"), (0, u "()V"), (1, .class_ 10), (1, u "java/lang/Object"), (0, u "getClass"), (0, u "()Ljava/lang/Class;")] 111

def k0c0 : Code := { maxStack := 0, maxLocals := 1, code := object_method_1_code, exceptionTable := #[], attributes := #[] }
def k0m0 : Method := { name := "<init>", desc := "()V", sig := { parameters := [], returnType := none }, accessFlags := 1, code := some k0c0 }
def k0m1 : Method := { name := "getClass", desc := "()Ljava/lang/Class;", sig := { parameters := [], returnType := some (.object "java/lang/Class") }, accessFlags := 273, code := none }
/-- java/lang/Object -/
def k0 : Class := { plain "java/lang/Object" none with
  accessFlags := 33
  interfaces := #[]
  cf := some (fileOf pool0 8 #[] #[{ accessFlags := 1, nameIndex := 5, descriptorIndex := 6, attributes := #[] }, { accessFlags := 273, nameIndex := 11, descriptorIndex := 12, attributes := #[] }] 33 0 #[] #[])
  fields := #[]
  methods := #[k0m0, k0m1]
  instanceTypes := #[]
  staticTypes := #[]
  resolved := Array.replicate 124 none
  statics := none }

def pool1 : Array CpInfo := pool [(2, .class_ 4), (0, .nameAndType 5 6), (0, u "java/lang/Object"), (0, u "<init>"), (0, u "()V"), (0, .integer 2147483647), (0, .fieldref 9 10), (0, .class_ 11), (0, .nameAndType 12 13), (0, u "com/example/inquiry_into_concepts/inquiryintoconcepts/index/Representation"), (0, u "WORDS"), (0, u "Lcom/example/inquiry_into_concepts/inquiryintoconcepts/index/Representation;"), (0, .fieldref 9 15), (0, .nameAndType 16 13), (0, u "CONCEPTS"), (0, .fieldref 9 18), (0, .nameAndType 19 13), (0, u "BOTH"), (0, .methodref 21 22), (0, .class_ 23), (0, .nameAndType 24 25), (0, u "java/lang/String"), (0, u "valueOf"), (0, u "(C)Ljava/lang/String;"), (0, .class_ 27), (0, u "java/util/ArrayList"), (0, .methodref 26 3), (0, .methodref 26 30), (0, .nameAndType 31 32), (0, u "add"), (0, u "(Ljava/lang/Object;)Z"), (0, .methodref 9 34), (0, .nameAndType 35 36), (0, u "holdsConcepts"), (0, u "()Z"), (0, .methodref 9 38), (0, .nameAndType 39 40), (0, u "terms"), (0, u "(Ljava/util/List;Ljava/util/List;)Ljava/util/List;"), (0, .interfaceMethodref 42 43), (0, .class_ 44), (0, .nameAndType 45 46), (0, u "java/util/List"), (0, u "size"), (0, u "()I"), (0, .interfaceMethodref 42 48), (0, .nameAndType 49 50), (0, u "get"), (0, u "(I)Ljava/lang/Object;"), (0, .methodref 21 52), (0, .nameAndType 53 32), (0, u "equals"), (0, .class_ 55), (0, u "com/example/inquiry_into_concepts/inquiryintoconcepts/index/RepresentationHoldsConceptsPinLaw"), (2, u "law"), (0, u "(II)Z")] 3

def k1m0 : Method := { name := "<init>", desc := "()V", sig := { parameters := [], returnType := none }, accessFlags := 1, code := none }
def k1c1 : Code := { maxStack := 3, maxLocals := 11, code := code, exceptionTable := #[], attributes := #[] }
def k1m1 : Method := { name := "law", desc := "(II)Z", sig := { parameters := [.int, .int], returnType := some .boolean }, accessFlags := 9, code := some k1c1 }
/-- com/example/inquiry_into_concepts/inquiryintoconcepts/index/RepresentationHoldsConceptsPinLaw -/
def k1 : Class := { plain "com/example/inquiry_into_concepts/inquiryintoconcepts/index/RepresentationHoldsConceptsPinLaw" (some 0) with
  accessFlags := 49
  interfaces := #[]
  cf := some (fileOf pool1 54 #[] #[{ accessFlags := 1, nameIndex := 5, descriptorIndex := 6, attributes := #[] }, { accessFlags := 9, nameIndex := 58, descriptorIndex := 59, attributes := #[] }] 49 2 #[] #[])
  fields := #[]
  methods := #[k1m0, k1m1]
  instanceTypes := #[]
  staticTypes := #[]
  resolved := Array.replicate 63 none
  statics := none }

def pool2 : Array CpInfo := pool [(1, .class_ 2), (0, u "java/lang/constant/Constable"), (0, .class_ 4), (0, u "java/lang/Object")] 6

/-- java/lang/constant/Constable -/
def k2 : Class := { plain "java/lang/constant/Constable" (some 0) with
  accessFlags := 1537
  interfaces := #[]
  cf := some (fileOf pool2 1 #[] #[] 1537 3 #[] #[])
  fields := #[]
  methods := #[]
  instanceTypes := #[]
  staticTypes := #[]
  resolved := Array.replicate 11 none
  statics := none }

def pool3 : Array CpInfo := pool [(1, .class_ 2), (0, u "java/lang/Comparable"), (0, .class_ 4), (0, u "java/lang/Object")] 7

/-- java/lang/Comparable -/
def k3 : Class := { plain "java/lang/Comparable" (some 0) with
  accessFlags := 1537
  interfaces := #[]
  cf := some (fileOf pool3 1 #[] #[] 1537 3 #[] #[])
  fields := #[]
  methods := #[]
  instanceTypes := #[]
  staticTypes := #[]
  resolved := Array.replicate 12 none
  statics := none }

def pool4 : Array CpInfo := pool [(1, .class_ 2), (0, u "java/io/Serializable"), (0, .class_ 4), (0, u "java/lang/Object")] 2

/-- java/io/Serializable -/
def k4 : Class := { plain "java/io/Serializable" (some 0) with
  accessFlags := 1537
  interfaces := #[]
  cf := some (fileOf pool4 1 #[] #[] 1537 3 #[] #[])
  fields := #[]
  methods := #[]
  instanceTypes := #[]
  staticTypes := #[]
  resolved := Array.replicate 7 none
  statics := none }

def pool5 : Array CpInfo := pool [(2, .class_ 4), (1, u "java/lang/Enum"), (0, u "name"), (0, u "Ljava/lang/String;"), (0, .fieldref 2 8), (0, .nameAndType 9 10), (0, u "ordinal"), (0, u "I"), (1, .class_ 14), (1, u "java/lang/Object"), (4, u "hash"), (86, .class_ 108), (1, u "java/lang/Enum$EnumDesc"), (2, .class_ 112), (0, u "java/lang/constant/Constable"), (0, .class_ 114), (0, u "java/lang/Comparable"), (0, .class_ 116), (0, u "java/io/Serializable"), (9, u "()I")] 77

def k5c0 : Code := { maxStack := 1, maxLocals := 1, code := jdk_37_method_2_code, exceptionTable := #[], attributes := #[] }
def k5m0 : Method := { name := "ordinal", desc := "()I", sig := { parameters := [], returnType := some .int }, accessFlags := 17, code := some k5c0 }
/-- java/lang/Enum -/
def k5 : Class := { plain "java/lang/Enum" (some 0) with
  accessFlags := 1057
  interfaces := #[2, 3, 4]
  cf := some (fileOf pool5 2 #[.nestMembers #[106]] #[{ accessFlags := 17, nameIndex := 9, descriptorIndex := 126, attributes := #[] }] 1057 12 #[111, 113, 115] #[{ accessFlags := 18, nameIndex := 5, descriptorIndex := 6, attributes := #[] }, { accessFlags := 18, nameIndex := 9, descriptorIndex := 10, attributes := #[] }, { accessFlags := 2, nameIndex := 19, descriptorIndex := 10, attributes := #[] }])
  fields := #[{ name := "name", type := (.object "java/lang/String"), accessFlags := 18, slot := 0, constantValue := 0 }, { name := "ordinal", type := .int, accessFlags := 18, slot := 1, constantValue := 0 }, { name := "hash", type := .int, accessFlags := 2, slot := 2, constantValue := 0 }]
  methods := #[k5m0]
  instanceTypes := #[(.object "java/lang/String"), .int, .int]
  staticTypes := #[]
  resolved := Array.replicate 204 none
  statics := none }

def pool6 : Array CpInfo := pool [(9, .class_ 10), (0, u "com/example/inquiry_into_concepts/inquiryintoconcepts/choice/NamedChoice"), (38, .class_ 50), (0, u "java/lang/Object")] 25

/-- com/example/inquiry_into_concepts/inquiryintoconcepts/choice/NamedChoice -/
def k6 : Class := { plain "com/example/inquiry_into_concepts/inquiryintoconcepts/choice/NamedChoice" (some 0) with
  accessFlags := 1537
  interfaces := #[]
  cf := some (fileOf pool6 9 #[] #[] 1537 49 #[] #[])
  fields := #[]
  methods := #[]
  instanceTypes := #[]
  staticTypes := #[]
  resolved := Array.replicate 76 none
  statics := none }

def pool7 : Array CpInfo := pool [(1, .class_ 2), (0, u "com/example/inquiry_into_concepts/inquiryintoconcepts/index/Representation"), (0, .fieldref 1 4), (0, .nameAndType 5 6), (0, u "WORDS"), (0, u "Lcom/example/inquiry_into_concepts/inquiryintoconcepts/index/Representation;"), (2, u "CONCEPTS"), (2, u "BOTH"), (2, u "$VALUES"), (0, u "[Lcom/example/inquiry_into_concepts/inquiryintoconcepts/index/Representation;"), (6, .class_ 25), (1, u "java/lang/Enum"), (4, u "<init>"), (3, u "id"), (0, u "Ljava/lang/String;"), (3, .class_ 41), (1, u "com/example/inquiry_into_concepts/inquiryintoconcepts/choice/NamedChoice"), (6, .methodref 1 49), (0, .nameAndType 50 51), (0, u "ordinal"), (0, u "()I"), (5, .class_ 58), (0, u "java/util/ArrayList"), (0, .interfaceMethodref 60 61), (0, .class_ 62), (0, .nameAndType 63 51), (0, u "java/util/List"), (0, u "size"), (0, .methodref 57 65), (0, .nameAndType 30 66), (0, u "(I)V"), (0, .methodref 57 68), (0, .nameAndType 69 70), (0, u "addAll"), (0, u "(Ljava/util/Collection;)Z"), (24, u "holdsConcepts"), (0, u "()Z"), (1, u "terms"), (0, u "(Ljava/util/List;Ljava/util/List;)Ljava/util/List;")] 6

def k7c0 : Code := { maxStack := 2, maxLocals := 1, code := prog_17_method_7_code, exceptionTable := #[], attributes := #[] }
def k7m0 : Method := { name := "holdsConcepts", desc := "()Z", sig := { parameters := [], returnType := some .boolean }, accessFlags := 1, code := some k7c0 }
def k7c1 : Code := { maxStack := 4, maxLocals := 4, code := prog_17_method_8_code, exceptionTable := #[], attributes := #[] }
def k7m1 : Method := { name := "terms", desc := "(Ljava/util/List;Ljava/util/List;)Ljava/util/List;", sig := { parameters := [(.object "java/util/List"), (.object "java/util/List")], returnType := some (.object "java/util/List") }, accessFlags := 0, code := some k7c1 }
/-- com/example/inquiry_into_concepts/inquiryintoconcepts/index/Representation -/
def k7 : Class := { plain "com/example/inquiry_into_concepts/inquiryintoconcepts/index/Representation" (some 5) with
  accessFlags := 16433
  interfaces := #[6]
  cf := some (fileOf pool7 1 #[] #[{ accessFlags := 1, nameIndex := 95, descriptorIndex := 96, attributes := #[] }, { accessFlags := 0, nameIndex := 98, descriptorIndex := 99, attributes := #[] }] 16433 23 #[39] #[{ accessFlags := 16409, nameIndex := 5, descriptorIndex := 6, attributes := #[] }, { accessFlags := 16409, nameIndex := 9, descriptorIndex := 6, attributes := #[] }, { accessFlags := 16409, nameIndex := 12, descriptorIndex := 6, attributes := #[] }, { accessFlags := 18, nameIndex := 34, descriptorIndex := 35, attributes := #[] }, { accessFlags := 4122, nameIndex := 15, descriptorIndex := 16, attributes := #[] }])
  fields := #[{ name := "WORDS", type := (.object "com/example/inquiry_into_concepts/inquiryintoconcepts/index/Representation"), accessFlags := 16409, slot := 0, constantValue := 0 }, { name := "CONCEPTS", type := (.object "com/example/inquiry_into_concepts/inquiryintoconcepts/index/Representation"), accessFlags := 16409, slot := 1, constantValue := 0 }, { name := "BOTH", type := (.object "com/example/inquiry_into_concepts/inquiryintoconcepts/index/Representation"), accessFlags := 16409, slot := 2, constantValue := 0 }, { name := "id", type := (.object "java/lang/String"), accessFlags := 18, slot := 3, constantValue := 0 }, { name := "$VALUES", type := (.array (.object "com/example/inquiry_into_concepts/inquiryintoconcepts/index/Representation")), accessFlags := 4122, slot := 3, constantValue := 0 }]
  methods := #[k7m0, k7m1]
  instanceTypes := #[(.object "java/lang/String"), .int, .int, (.object "java/lang/String")]
  staticTypes := #[(.object "com/example/inquiry_into_concepts/inquiryintoconcepts/index/Representation"), (.object "com/example/inquiry_into_concepts/inquiryintoconcepts/index/Representation"), (.object "com/example/inquiry_into_concepts/inquiryintoconcepts/index/Representation"), (.array (.object "com/example/inquiry_into_concepts/inquiryintoconcepts/index/Representation"))]
  resolved := Array.replicate 106 none
  statics := some 0 }

def pool8 : Array CpInfo := pool [(2, .class_ 4), (1, u "java/lang/CharSequence"), (42, .class_ 48), (0, u "java/lang/CharSequence$1CodePointIterator"), (10, .class_ 60), (0, u "java/lang/CharSequence$1CharIterator"), (5, .class_ 67), (0, u "java/lang/Object")] 63

/-- java/lang/CharSequence -/
def k8 : Class := { plain "java/lang/CharSequence" (some 0) with
  accessFlags := 1537
  interfaces := #[]
  cf := some (fileOf pool8 2 #[.nestMembers #[47, 59]] #[] 1537 66 #[] #[])
  fields := #[]
  methods := #[]
  instanceTypes := #[]
  staticTypes := #[]
  resolved := Array.replicate 131 none
  statics := none }

def pool9 : Array CpInfo := pool [(1, .class_ 2), (0, u "java/lang/constant/ConstantDesc"), (0, .class_ 4), (0, u "java/lang/Object")] 32

/-- java/lang/constant/ConstantDesc -/
def k9 : Class := { plain "java/lang/constant/ConstantDesc" (some 0) with
  accessFlags := 1537
  interfaces := #[]
  cf := some (fileOf pool9 1 #[] #[] 1537 3 #[] #[])
  fields := #[]
  methods := #[]
  instanceTypes := #[]
  staticTypes := #[]
  resolved := Array.replicate 37 none
  statics := none }

def pool10 : Array CpInfo := pool [(1, .methodref 2 3), (0, .class_ 4), (0, .nameAndType 5 6), (0, u "java/lang/Object"), (0, u "<init>"), (0, u "()V"), (2, .fieldref 10 11), (0, .class_ 12), (0, .nameAndType 13 14), (0, u "java/lang/String"), (0, u "value"), (0, u "[B"), (0, .fieldref 10 16), (0, .nameAndType 17 18), (0, u "coder"), (0, u "B"), (2, u "hash"), (0, u "I"), (2, u "hashIsZero"), (0, u "Z"), (11, .fieldref 10 39), (0, .nameAndType 40 26), (0, u "COMPACT_STRINGS"), (12, u "toBytes"), (53, .class_ 109), (1, u "java/lang/StringLatin1"), (99, .methodref 10 210), (0, .nameAndType 5 211), (0, u "([BB)V"), (157, u "(C)Z"), (173, u "equals"), (29, u "(Ljava/lang/Object;)Z"), (1, .class_ 576), (0, u "java/lang/CharSequence"), (22, u "CASE_INSENSITIVE_ORDER"), (0, u "Ljava/util/Comparator;"), (181, u "valueOf"), (0, u "(C)Ljava/lang/String;"), (231, .methodref 107 1016), (0, .nameAndType 1017 369), (0, u "canEncode"), (0, .methodref 107 1019), (0, .nameAndType 53 1020), (0, u "(C)[B"), (80, u "serialPersistentFields"), (0, u "[Ljava/io/ObjectStreamField;"), (0, .class_ 1104), (0, u "java/lang/String$CaseInsensitiveComparator"), (1, .class_ 1107), (0, u "java/io/Serializable"), (0, .class_ 1109), (0, u "java/lang/Comparable"), (0, .class_ 1111), (0, u "java/lang/constant/Constable"), (0, .class_ 1113), (0, u "java/lang/constant/ConstantDesc"), (2, u "serialVersionUID"), (0, u "J"), (3, u "REPL"), (0, u "C"), (2, u "LATIN1"), (1, u "UTF16")] 323

def k10m0 : Method := { name := "<init>", desc := "()V", sig := { parameters := [], returnType := none }, accessFlags := 1, code := none }
def k10c1 : Code := { maxStack := 2, maxLocals := 3, code := jdk_42_method_66_code, exceptionTable := #[], attributes := #[] }
def k10m1 : Method := { name := "equals", desc := "(Ljava/lang/Object;)Z", sig := { parameters := [(.object "java/lang/Object")], returnType := some .boolean }, accessFlags := 1, code := some k10c1 }
def k10c2 : Code := { maxStack := 4, maxLocals := 1, code := jdk_42_method_139_code, exceptionTable := #[], attributes := #[] }
def k10m2 : Method := { name := "valueOf", desc := "(C)Ljava/lang/String;", sig := { parameters := [.char], returnType := some (.object "java/lang/String") }, accessFlags := 9, code := some k10c2 }
def k10c3 : Code := { maxStack := 2, maxLocals := 3, code := jdk_42_method_151_code, exceptionTable := #[], attributes := #[] }
def k10m3 : Method := { name := "<init>", desc := "([BB)V", sig := { parameters := [(.array .byte), .byte], returnType := none }, accessFlags := 0, code := some k10c3 }
/-- java/lang/String -/
def k10 : Class := { plain "java/lang/String" (some 0) with
  accessFlags := 49
  interfaces := #[4, 3, 8, 2, 9]
  cf := some (fileOf pool10 10 #[.nestMembers #[1103]] #[{ accessFlags := 1, nameIndex := 5, descriptorIndex := 6, attributes := #[] }, { accessFlags := 1, nameIndex := 543, descriptorIndex := 573, attributes := #[] }, { accessFlags := 9, nameIndex := 782, descriptorIndex := 783, attributes := #[] }, { accessFlags := 0, nameIndex := 5, descriptorIndex := 211, attributes := #[] }] 49 2 #[1106, 1108, 575, 1110, 1112] #[{ accessFlags := 18, nameIndex := 13, descriptorIndex := 14, attributes := #[] }, { accessFlags := 18, nameIndex := 17, descriptorIndex := 18, attributes := #[] }, { accessFlags := 2, nameIndex := 21, descriptorIndex := 22, attributes := #[] }, { accessFlags := 2, nameIndex := 25, descriptorIndex := 26, attributes := #[] }, { accessFlags := 26, nameIndex := 1116, descriptorIndex := 1117, attributes := #[] }, { accessFlags := 24, nameIndex := 40, descriptorIndex := 26, attributes := #[] }, { accessFlags := 26, nameIndex := 1101, descriptorIndex := 1102, attributes := #[] }, { accessFlags := 26, nameIndex := 1121, descriptorIndex := 1122, attributes := #[] }, { accessFlags := 25, nameIndex := 599, descriptorIndex := 600, attributes := #[] }, { accessFlags := 24, nameIndex := 1125, descriptorIndex := 18, attributes := #[] }, { accessFlags := 24, nameIndex := 1127, descriptorIndex := 18, attributes := #[] }])
  fields := #[{ name := "value", type := (.array .byte), accessFlags := 18, slot := 0, constantValue := 0 }, { name := "coder", type := .byte, accessFlags := 18, slot := 1, constantValue := 0 }, { name := "hash", type := .int, accessFlags := 2, slot := 2, constantValue := 0 }, { name := "hashIsZero", type := .boolean, accessFlags := 2, slot := 3, constantValue := 0 }, { name := "serialVersionUID", type := .long, accessFlags := 26, slot := 0, constantValue := 0 }, { name := "COMPACT_STRINGS", type := .boolean, accessFlags := 24, slot := 1, constantValue := 0 }, { name := "serialPersistentFields", type := (.array (.object "java/io/ObjectStreamField")), accessFlags := 26, slot := 2, constantValue := 0 }, { name := "REPL", type := .char, accessFlags := 26, slot := 3, constantValue := 0 }, { name := "CASE_INSENSITIVE_ORDER", type := (.object "java/util/Comparator"), accessFlags := 25, slot := 4, constantValue := 0 }, { name := "LATIN1", type := .byte, accessFlags := 24, slot := 5, constantValue := 0 }, { name := "UTF16", type := .byte, accessFlags := 24, slot := 6, constantValue := 0 }]
  methods := #[k10m0, k10m1, k10m2, k10m3]
  instanceTypes := #[(.array .byte), .byte, .int, .boolean]
  staticTypes := #[.long, .boolean, (.array (.object "java/io/ObjectStreamField")), .char, (.object "java/util/Comparator"), .byte, .byte]
  resolved := Array.replicate 1451 none
  statics := some 1 }

def pool11 : Array CpInfo := pool [(4, .class_ 6), (1, u "java/lang/Object"), (0, u "<init>"), (0, u "()V"), (5, .class_ 16), (1, u "java/lang/StringLatin1"), (73, u "canEncode"), (14, u "(C)Z"), (15, u "$assertionsDisabled"), (0, u "Z"), (98, .class_ 223), (1, u "java/lang/StringLatin1$LinesSpliterator"), (156, u "toBytes"), (1, u "(C)[B"), (7, .class_ 391), (0, u "java/lang/StringLatin1$CharsSpliterator")] 3

def k11m0 : Method := { name := "<init>", desc := "()V", sig := { parameters := [], returnType := none }, accessFlags := 0, code := none }
def k11c1 : Code := { maxStack := 2, maxLocals := 1, code := jdk_43_method_3_code, exceptionTable := #[], attributes := #[] }
def k11m1 : Method := { name := "canEncode", desc := "(C)Z", sig := { parameters := [.char], returnType := some .boolean }, accessFlags := 9, code := some k11c1 }
def k11c2 : Code := { maxStack := 4, maxLocals := 1, code := jdk_43_method_46_code, exceptionTable := #[], attributes := #[] }
def k11m2 : Method := { name := "toBytes", desc := "(C)[B", sig := { parameters := [.char], returnType := some (.array .byte) }, accessFlags := 9, code := some k11c2 }
/-- java/lang/StringLatin1 -/
def k11 : Class := { plain "java/lang/StringLatin1" (some 0) with
  accessFlags := 48
  interfaces := #[]
  cf := some (fileOf pool11 14 #[.nestMembers #[390, 221]] #[{ accessFlags := 0, nameIndex := 7, descriptorIndex := 8, attributes := #[] }, { accessFlags := 9, nameIndex := 90, descriptorIndex := 105, attributes := #[] }, { accessFlags := 9, nameIndex := 380, descriptorIndex := 382, attributes := #[] }] 48 4 #[] #[{ accessFlags := 4120, nameIndex := 121, descriptorIndex := 122, attributes := #[] }])
  fields := #[{ name := "$assertionsDisabled", type := .boolean, accessFlags := 4120, slot := 0, constantValue := 0 }]
  methods := #[k11m0, k11m1, k11m2]
  instanceTypes := #[]
  staticTypes := #[.boolean]
  resolved := Array.replicate 395 none
  statics := none }

def pool12 : Array CpInfo := pool [(8, .class_ 10), (1, u "java/lang/Iterable"), (24, .class_ 36), (0, u "java/lang/Object")] 25

/-- java/lang/Iterable -/
def k12 : Class := { plain "java/lang/Iterable" (some 0) with
  accessFlags := 1537
  interfaces := #[]
  cf := some (fileOf pool12 8 #[] #[] 1537 35 #[] #[])
  fields := #[]
  methods := #[]
  instanceTypes := #[]
  staticTypes := #[]
  resolved := Array.replicate 62 none
  statics := none }

def pool13 : Array CpInfo := pool [(10, .class_ 12), (1, u "java/util/Collection"), (0, u "toArray"), (46, .class_ 61), (0, u "java/lang/Object"), (0, .class_ 63), (0, u "java/lang/Iterable"), (6, u "()[Ljava/lang/Object;")] 44

def k13m0 : Method := { name := "toArray", desc := "()[Ljava/lang/Object;", sig := { parameters := [], returnType := some (.array (.object "java/lang/Object")) }, accessFlags := 1025, code := none }
/-- java/util/Collection -/
def k13 : Class := { plain "java/util/Collection" (some 0) with
  accessFlags := 1537
  interfaces := #[12]
  cf := some (fileOf pool13 10 #[] #[{ accessFlags := 1025, nameIndex := 13, descriptorIndex := 70, attributes := #[] }] 1537 60 #[62] #[])
  fields := #[]
  methods := #[k13m0]
  instanceTypes := #[]
  staticTypes := #[]
  resolved := Array.replicate 115 none
  statics := none }

def pool14 : Array CpInfo := pool [(1, .methodref 2 3), (0, .class_ 4), (0, .nameAndType 5 6), (0, u "java/lang/Object"), (0, u "<init>"), (0, u "()V"), (1, .class_ 10), (1, u "java/util/AbstractCollection"), (66, .class_ 78), (0, u "java/util/Collection")] 81

def k14c0 : Code := { maxStack := 1, maxLocals := 1, code := jdk_22_method_1_code, exceptionTable := #[], attributes := #[] }
def k14m0 : Method := { name := "<init>", desc := "()V", sig := { parameters := [], returnType := none }, accessFlags := 4, code := some k14c0 }
/-- java/util/AbstractCollection -/
def k14 : Class := { plain "java/util/AbstractCollection" (some 0) with
  accessFlags := 1057
  interfaces := #[13]
  cf := some (fileOf pool14 8 #[] #[{ accessFlags := 4, nameIndex := 5, descriptorIndex := 6, attributes := #[] }] 1057 2 #[77] #[])
  fields := #[]
  methods := #[k14m0]
  instanceTypes := #[]
  staticTypes := #[]
  resolved := Array.replicate 160 none
  statics := none }

def pool15 : Array CpInfo := pool [(8, .class_ 10), (1, u "java/util/SequencedCollection"), (15, .class_ 27), (0, u "java/lang/Object"), (0, .class_ 29), (0, u "java/util/Collection")] 27

/-- java/util/SequencedCollection -/
def k15 : Class := { plain "java/util/SequencedCollection" (some 0) with
  accessFlags := 1537
  interfaces := #[13]
  cf := some (fileOf pool15 8 #[] #[] 1537 26 #[28] #[])
  fields := #[]
  methods := #[]
  instanceTypes := #[]
  staticTypes := #[]
  resolved := Array.replicate 57 none
  statics := none }

def pool16 : Array CpInfo := pool [(8, .class_ 10), (1, u "java/util/List"), (64, u "get"), (0, u "(I)Ljava/lang/Object;"), (2, u "size"), (0, u "()I"), (22, .class_ 104), (0, u "java/lang/Object"), (15, .class_ 121), (0, u "java/util/SequencedCollection")] 129

def k16m0 : Method := { name := "size", desc := "()I", sig := { parameters := [], returnType := some .int }, accessFlags := 1025, code := none }
def k16m1 : Method := { name := "get", desc := "(I)Ljava/lang/Object;", sig := { parameters := [.int], returnType := some (.object "java/lang/Object") }, accessFlags := 1025, code := none }
/-- java/util/List -/
def k16 : Class := { plain "java/util/List" (some 0) with
  accessFlags := 1537
  interfaces := #[15]
  cf := some (fileOf pool16 8 #[] #[{ accessFlags := 1025, nameIndex := 79, descriptorIndex := 80, attributes := #[] }, { accessFlags := 1025, nameIndex := 75, descriptorIndex := 76, attributes := #[] }] 1537 103 #[120] #[])
  fields := #[]
  methods := #[k16m0, k16m1]
  instanceTypes := #[]
  staticTypes := #[]
  resolved := Array.replicate 251 none
  statics := none }

def pool17 : Array CpInfo := pool [(1, .methodref 2 3), (0, .class_ 4), (0, .nameAndType 5 6), (0, u "java/util/AbstractCollection"), (0, u "<init>"), (0, u "()V"), (0, .fieldref 8 9), (0, .class_ 10), (0, .nameAndType 11 12), (0, u "java/util/AbstractList"), (0, u "modCount"), (0, u "I"), (64, .class_ 78), (0, u "java/util/AbstractList$Itr"), (3, .class_ 83), (0, u "java/util/AbstractList$ListItr"), (9, .class_ 94), (0, u "java/util/AbstractList$RandomAccessSubList"), (3, .class_ 99), (0, u "java/util/AbstractList$SubList"), (33, .class_ 134), (0, u "java/util/List"), (73, .class_ 209), (0, u "java/util/AbstractList$SubList$1"), (0, .class_ 211), (0, u "java/util/AbstractList$RandomAccessSpliterator")] 6

def k17c0 : Code := { maxStack := 2, maxLocals := 1, code := jdk_39_method_1_code, exceptionTable := #[], attributes := #[] }
def k17m0 : Method := { name := "<init>", desc := "()V", sig := { parameters := [], returnType := none }, accessFlags := 4, code := some k17c0 }
/-- java/util/AbstractList -/
def k17 : Class := { plain "java/util/AbstractList" (some 14) with
  accessFlags := 1057
  interfaces := #[16]
  cf := some (fileOf pool17 8 #[.nestMembers #[93, 98, 208, 210, 82, 77]] #[{ accessFlags := 4, nameIndex := 5, descriptorIndex := 6, attributes := #[] }] 1057 2 #[133] #[{ accessFlags := 132, nameIndex := 11, descriptorIndex := 12, attributes := #[] }])
  fields := #[{ name := "modCount", type := .int, accessFlags := 132, slot := 0, constantValue := 0 }]
  methods := #[k17m0]
  instanceTypes := #[.int]
  staticTypes := #[]
  resolved := Array.replicate 218 none
  statics := none }

def pool18 : Array CpInfo := pool [(1, .class_ 2), (0, u "java/util/RandomAccess"), (0, .class_ 4), (0, u "java/lang/Object")] 2

/-- java/util/RandomAccess -/
def k18 : Class := { plain "java/util/RandomAccess" (some 0) with
  accessFlags := 1537
  interfaces := #[]
  cf := some (fileOf pool18 1 #[] #[] 1537 3 #[] #[])
  fields := #[]
  methods := #[]
  instanceTypes := #[]
  staticTypes := #[]
  resolved := Array.replicate 7 none
  statics := none }

def pool19 : Array CpInfo := pool [(1, .class_ 2), (0, u "java/lang/Cloneable"), (0, .class_ 4), (0, u "java/lang/Object")] 2

/-- java/lang/Cloneable -/
def k19 : Class := { plain "java/lang/Cloneable" (some 0) with
  accessFlags := 1537
  interfaces := #[]
  cf := some (fileOf pool19 1 #[] #[] 1537 3 #[] #[])
  fields := #[]
  methods := #[]
  instanceTypes := #[]
  staticTypes := #[]
  resolved := Array.replicate 7 none
  statics := none }

def pool20 : Array CpInfo := pool [(1, .methodref 2 3), (0, .class_ 4), (0, .nameAndType 5 6), (0, u "java/util/AbstractList"), (0, u "<init>"), (0, u "()V"), (0, .class_ 8), (0, u "java/lang/Object"), (0, .fieldref 10 11), (0, .class_ 12), (0, .nameAndType 13 14), (0, u "java/util/ArrayList"), (0, u "elementData"), (0, u "[Ljava/lang/Object;"), (2, u "EMPTY_ELEMENTDATA"), (21, .fieldref 10 40), (0, .nameAndType 41 14), (0, u "DEFAULTCAPACITY_EMPTY_ELEMENTDATA"), (0, .interfaceMethodref 43 44), (0, .class_ 45), (0, .nameAndType 46 47), (0, u "java/util/Collection"), (0, u "toArray"), (0, u "()[Ljava/lang/Object;"), (0, .fieldref 10 49), (0, .nameAndType 50 51), (0, u "size"), (0, u "I"), (6, .class_ 60), (1, u "java/util/Arrays"), (0, u "copyOf"), (1, .fieldref 10 64), (0, .nameAndType 65 51), (0, u "modCount"), (0, .methodref 58 67), (0, .nameAndType 61 68), (0, u "([Ljava/lang/Object;I)[Ljava/lang/Object;"), (0, .methodref 10 70), (0, .nameAndType 71 72), (0, u "grow"), (0, u "(I)[Ljava/lang/Object;"), (6, .methodref 80 81), (0, .class_ 82), (0, .nameAndType 83 84), (0, u "java/lang/Math"), (0, u "max"), (0, u "(II)I"), (11, u "(Ljava/lang/Object;)Z"), (15, .methodref 113 114), (0, .class_ 115), (0, .nameAndType 116 117), (0, u "java/lang/System"), (0, u "arraycopy"), (0, u "(Ljava/lang/Object;ILjava/lang/Object;II)V"), (0, .methodref 119 120), (0, .class_ 121), (0, .nameAndType 122 84), (0, u "java/util/Objects"), (0, u "checkIndex"), (0, .methodref 10 124), (0, .nameAndType 13 125), (0, u "(I)Ljava/lang/Object;"), (3, .methodref 10 130), (0, .nameAndType 71 47), (0, .methodref 10 132), (0, .nameAndType 133 134), (0, u "add"), (0, u "(Ljava/lang/Object;[Ljava/lang/Object;I)V"), (3, u "(I)V"), (9, .class_ 149), (0, u "java/util/List"), (36, u "()I"), (75, .class_ 263), (0, u "java/util/ArrayList$ListItr"), (3, .class_ 268), (0, u "java/util/ArrayList$Itr"), (7, .class_ 277), (0, u "java/util/ArrayList$SubList"), (12, .class_ 291), (0, u "java/util/ArrayList$ArrayListSpliterator"), (37, .class_ 330), (0, u "java/util/RandomAccess"), (0, .class_ 332), (0, u "java/lang/Cloneable"), (0, .class_ 334), (0, u "java/io/Serializable"), (0, u "serialVersionUID"), (0, u "J"), (3, u "DEFAULT_CAPACITY"), (40, u "get"), (38, u "addAll"), (0, u "(Ljava/util/Collection;)Z"), (78, .class_ 501), (0, u "java/util/ArrayList$SubList$2"), (0, .class_ 503), (0, u "java/util/ArrayList$SubList$1")] 5

def k20c0 : Code := { maxStack := 4, maxLocals := 2, code := jdk_38_method_1_code, exceptionTable := #[], attributes := #[] }
def k20m0 : Method := { name := "<init>", desc := "(I)V", sig := { parameters := [.int], returnType := none }, accessFlags := 1, code := some k20c0 }
def k20c1 : Code := { maxStack := 2, maxLocals := 1, code := jdk_38_method_2_code, exceptionTable := #[], attributes := #[] }
def k20m1 : Method := { name := "<init>", desc := "()V", sig := { parameters := [], returnType := none }, accessFlags := 1, code := some k20c1 }
def k20c2 : Code := { maxStack := 4, maxLocals := 4, code := jdk_38_method_6_code, exceptionTable := #[], attributes := #[] }
def k20m2 : Method := { name := "grow", desc := "(I)[Ljava/lang/Object;", sig := { parameters := [.int], returnType := some (.array (.object "java/lang/Object")) }, accessFlags := 2, code := some k20c2 }
def k20c3 : Code := { maxStack := 3, maxLocals := 1, code := jdk_38_method_7_code, exceptionTable := #[], attributes := #[] }
def k20m3 : Method := { name := "grow", desc := "()[Ljava/lang/Object;", sig := { parameters := [], returnType := some (.array (.object "java/lang/Object")) }, accessFlags := 2, code := some k20c3 }
def k20c4 : Code := { maxStack := 1, maxLocals := 1, code := jdk_38_method_8_code, exceptionTable := #[], attributes := #[] }
def k20m4 : Method := { name := "size", desc := "()I", sig := { parameters := [], returnType := some .int }, accessFlags := 1, code := some k20c4 }
def k20c5 : Code := { maxStack := 2, maxLocals := 1, code := jdk_38_method_16_code, exceptionTable := #[], attributes := #[] }
def k20m5 : Method := { name := "toArray", desc := "()[Ljava/lang/Object;", sig := { parameters := [], returnType := some (.array (.object "java/lang/Object")) }, accessFlags := 1, code := some k20c5 }
def k20c6 : Code := { maxStack := 2, maxLocals := 2, code := jdk_38_method_18_code, exceptionTable := #[], attributes := #[] }
def k20m6 : Method := { name := "elementData", desc := "(I)Ljava/lang/Object;", sig := { parameters := [.int], returnType := some (.object "java/lang/Object") }, accessFlags := 0, code := some k20c6 }
def k20c7 : Code := { maxStack := 2, maxLocals := 2, code := jdk_38_method_20_code, exceptionTable := #[], attributes := #[] }
def k20m7 : Method := { name := "get", desc := "(I)Ljava/lang/Object;", sig := { parameters := [.int], returnType := some (.object "java/lang/Object") }, accessFlags := 1, code := some k20c7 }
def k20c8 : Code := { maxStack := 3, maxLocals := 4, code := jdk_38_method_24_code, exceptionTable := #[], attributes := #[] }
def k20m8 : Method := { name := "add", desc := "(Ljava/lang/Object;[Ljava/lang/Object;I)V", sig := { parameters := [(.object "java/lang/Object"), (.array (.object "java/lang/Object")), .int], returnType := none }, accessFlags := 2, code := some k20c8 }
def k20c9 : Code := { maxStack := 4, maxLocals := 2, code := jdk_38_method_25_code, exceptionTable := #[], attributes := #[] }
def k20m9 : Method := { name := "add", desc := "(Ljava/lang/Object;)Z", sig := { parameters := [(.object "java/lang/Object")], returnType := some .boolean }, accessFlags := 1, code := some k20c9 }
def k20c10 : Code := { maxStack := 5, maxLocals := 6, code := jdk_38_method_41_code, exceptionTable := #[], attributes := #[] }
def k20m10 : Method := { name := "addAll", desc := "(Ljava/util/Collection;)Z", sig := { parameters := [(.object "java/util/Collection")], returnType := some .boolean }, accessFlags := 1, code := some k20c10 }
/-- java/util/ArrayList -/
def k20 : Class := { plain "java/util/ArrayList" (some 17) with
  accessFlags := 33
  interfaces := #[16, 18, 19, 4]
  cf := some (fileOf pool20 10 #[.nestMembers #[290, 276, 500, 502, 262, 267]] #[{ accessFlags := 1, nameIndex := 5, descriptorIndex := 138, attributes := #[] }, { accessFlags := 1, nameIndex := 5, descriptorIndex := 6, attributes := #[] }, { accessFlags := 2, nameIndex := 71, descriptorIndex := 72, attributes := #[] }, { accessFlags := 2, nameIndex := 71, descriptorIndex := 47, attributes := #[] }, { accessFlags := 1, nameIndex := 50, descriptorIndex := 186, attributes := #[] }, { accessFlags := 1, nameIndex := 46, descriptorIndex := 47, attributes := #[] }, { accessFlags := 0, nameIndex := 13, descriptorIndex := 125, attributes := #[] }, { accessFlags := 1, nameIndex := 381, descriptorIndex := 125, attributes := #[] }, { accessFlags := 2, nameIndex := 133, descriptorIndex := 134, attributes := #[] }, { accessFlags := 1, nameIndex := 133, descriptorIndex := 96, attributes := #[] }, { accessFlags := 1, nameIndex := 420, descriptorIndex := 421, attributes := #[] }] 33 2 #[148, 329, 331, 333] #[{ accessFlags := 26, nameIndex := 335, descriptorIndex := 336, attributes := #[] }, { accessFlags := 26, nameIndex := 340, descriptorIndex := 51, attributes := #[] }, { accessFlags := 26, nameIndex := 17, descriptorIndex := 14, attributes := #[] }, { accessFlags := 26, nameIndex := 41, descriptorIndex := 14, attributes := #[] }, { accessFlags := 128, nameIndex := 13, descriptorIndex := 14, attributes := #[] }, { accessFlags := 2, nameIndex := 50, descriptorIndex := 51, attributes := #[] }])
  fields := #[{ name := "serialVersionUID", type := .long, accessFlags := 26, slot := 0, constantValue := 0 }, { name := "DEFAULT_CAPACITY", type := .int, accessFlags := 26, slot := 1, constantValue := 0 }, { name := "EMPTY_ELEMENTDATA", type := (.array (.object "java/lang/Object")), accessFlags := 26, slot := 2, constantValue := 0 }, { name := "DEFAULTCAPACITY_EMPTY_ELEMENTDATA", type := (.array (.object "java/lang/Object")), accessFlags := 26, slot := 3, constantValue := 0 }, { name := "elementData", type := (.array (.object "java/lang/Object")), accessFlags := 128, slot := 1, constantValue := 0 }, { name := "size", type := .int, accessFlags := 2, slot := 2, constantValue := 0 }]
  methods := #[k20m0, k20m1, k20m2, k20m3, k20m4, k20m5, k20m6, k20m7, k20m8, k20m9, k20m10]
  instanceTypes := #[.int, (.array (.object "java/lang/Object")), .int]
  staticTypes := #[.long, .int, (.array (.object "java/lang/Object")), (.array (.object "java/lang/Object"))]
  resolved := Array.replicate 509 none
  statics := some 2 }

def pool21 : Array CpInfo := pool [(1, .class_ 2), (0, u "java/lang/Math"), (1, .class_ 6), (1, u "java/lang/Object"), (0, u "<init>"), (0, u "()V"), (89, .class_ 100), (1, u "java/lang/Math$RandomNumberGeneratorHolder"), (71, u "negativeZeroFloatBits"), (0, u "J"), (2, u "negativeZeroDoubleBits"), (21, u "max"), (2, u "min"), (43, u "$assertionsDisabled"), (0, u "Z"), (88, u "(II)I"), (2, u "twoToTheDoubleScaleDown"), (0, u "D"), (4, u "twoToTheDoubleScaleUp"), (9, u "E"), (3, u "PI"), (2, u "TAU"), (2, u "DEGREES_TO_RADIANS"), (0, u "RADIANS_TO_DEGREES")] 94

def k21m0 : Method := { name := "<init>", desc := "()V", sig := { parameters := [], returnType := none }, accessFlags := 2, code := none }
def k21c1 : Code := { maxStack := 2, maxLocals := 2, code := jdk_29_method_65_code, exceptionTable := #[], attributes := #[] }
def k21m1 : Method := { name := "max", desc := "(II)I", sig := { parameters := [.int, .int], returnType := some .int }, accessFlags := 9, code := some k21c1 }
def k21c2 : Code := { maxStack := 2, maxLocals := 2, code := jdk_29_method_69_code, exceptionTable := #[], attributes := #[] }
def k21m2 : Method := { name := "min", desc := "(II)I", sig := { parameters := [.int, .int], returnType := some .int }, accessFlags := 9, code := some k21c2 }
/-- java/lang/Math -/
def k21 : Class := { plain "java/lang/Math" (some 0) with
  accessFlags := 49
  interfaces := #[]
  cf := some (fileOf pool21 1 #[.nestMembers #[98]] #[{ accessFlags := 2, nameIndex := 7, descriptorIndex := 8, attributes := #[] }, { accessFlags := 9, nameIndex := 198, descriptorIndex := 335, attributes := #[] }, { accessFlags := 9, nameIndex := 201, descriptorIndex := 335, attributes := #[] }] 49 4 #[] #[{ accessFlags := 25, nameIndex := 354, descriptorIndex := 339, attributes := #[] }, { accessFlags := 25, nameIndex := 358, descriptorIndex := 339, attributes := #[] }, { accessFlags := 25, nameIndex := 361, descriptorIndex := 339, attributes := #[] }, { accessFlags := 26, nameIndex := 364, descriptorIndex := 339, attributes := #[] }, { accessFlags := 26, nameIndex := 365, descriptorIndex := 339, attributes := #[] }, { accessFlags := 26, nameIndex := 172, descriptorIndex := 173, attributes := #[] }, { accessFlags := 26, nameIndex := 176, descriptorIndex := 173, attributes := #[] }, { accessFlags := 8, nameIndex := 344, descriptorIndex := 339, attributes := #[] }, { accessFlags := 8, nameIndex := 338, descriptorIndex := 339, attributes := #[] }, { accessFlags := 4120, nameIndex := 245, descriptorIndex := 246, attributes := #[] }])
  fields := #[{ name := "E", type := .double, accessFlags := 25, slot := 0, constantValue := 0 }, { name := "PI", type := .double, accessFlags := 25, slot := 1, constantValue := 0 }, { name := "TAU", type := .double, accessFlags := 25, slot := 2, constantValue := 0 }, { name := "DEGREES_TO_RADIANS", type := .double, accessFlags := 26, slot := 3, constantValue := 0 }, { name := "RADIANS_TO_DEGREES", type := .double, accessFlags := 26, slot := 4, constantValue := 0 }, { name := "negativeZeroFloatBits", type := .long, accessFlags := 26, slot := 5, constantValue := 0 }, { name := "negativeZeroDoubleBits", type := .long, accessFlags := 26, slot := 6, constantValue := 0 }, { name := "twoToTheDoubleScaleUp", type := .double, accessFlags := 8, slot := 7, constantValue := 0 }, { name := "twoToTheDoubleScaleDown", type := .double, accessFlags := 8, slot := 8, constantValue := 0 }, { name := "$assertionsDisabled", type := .boolean, accessFlags := 4120, slot := 9, constantValue := 0 }]
  methods := #[k21m0, k21m1, k21m2]
  instanceTypes := #[]
  staticTypes := #[.double, .double, .double, .double, .double, .long, .long, .double, .double, .boolean]
  resolved := Array.replicate 460 none
  statics := none }

def pool22 : Array CpInfo := pool [(2, .class_ 4), (1, u "java/lang/Object"), (0, u "<init>"), (0, u "()V"), (7, .class_ 16), (1, u "java/util/Arrays"), (57, .class_ 76), (1, u "java/util/Arrays$NaturalOrder"), (9, .methodref 2 87), (0, .nameAndType 88 89), (0, u "getClass"), (0, u "()Ljava/lang/Class;"), (20, .class_ 111), (0, u "[Ljava/lang/Object;"), (1, .class_ 115), (1, u "java/util/Arrays$LegacyMergeSort"), (1, u "Z"), (32, .methodref 151 152), (0, .class_ 153), (0, .nameAndType 154 155), (0, u "java/lang/System"), (0, u "arraycopy"), (0, u "(Ljava/lang/Object;ILjava/lang/Object;II)V"), (144, .methodref 14 301), (0, .nameAndType 302 303), (0, u "copyOf"), (0, u "([Ljava/lang/Object;ILjava/lang/Class;)[Ljava/lang/Object;"), (0, .methodref 305 306), (0, .class_ 307), (0, .nameAndType 308 309), (0, u "java/lang/Math"), (0, u "min"), (0, u "(II)I"), (65, .class_ 376), (0, u "java/util/Arrays$ArrayList"), (68, u "$assertionsDisabled"), (269, u "MIN_ARRAY_SORT_GRAN"), (0, u "I"), (2, u "INSERTIONSORT_THRESHOLD"), (140, u "([Ljava/lang/Object;I)[Ljava/lang/Object;"), (114, .class_ 976), (0, u "java/util/Arrays$ArrayItr")] 52

def k22m0 : Method := { name := "<init>", desc := "()V", sig := { parameters := [], returnType := none }, accessFlags := 2, code := none }
def k22c1 : Code := { maxStack := 3, maxLocals := 2, code := jdk_65_method_119_code, exceptionTable := #[], attributes := #[] }
def k22m1 : Method := { name := "copyOf", desc := "([Ljava/lang/Object;I)[Ljava/lang/Object;", sig := { parameters := [(.array (.object "java/lang/Object")), .int], returnType := some (.array (.object "java/lang/Object")) }, accessFlags := 9, code := some k22c1 }
def k22c2 : Code := { maxStack := 6, maxLocals := 4, code := jdk_65_method_120_code, exceptionTable := #[], attributes := #[] }
def k22m2 : Method := { name := "copyOf", desc := "([Ljava/lang/Object;ILjava/lang/Class;)[Ljava/lang/Object;", sig := { parameters := [(.array (.object "java/lang/Object")), .int, (.object "java/lang/Class")], returnType := some (.array (.object "java/lang/Object")) }, accessFlags := 9, code := some k22c2 }
/-- java/util/Arrays -/
def k22 : Class := { plain "java/util/Arrays" (some 0) with
  accessFlags := 49
  interfaces := #[]
  cf := some (fileOf pool22 14 #[.nestMembers #[975, 375, 113, 74]] #[{ accessFlags := 2, nameIndex := 5, descriptorIndex := 6, attributes := #[] }, { accessFlags := 9, nameIndex := 302, descriptorIndex := 860, attributes := #[] }, { accessFlags := 9, nameIndex := 302, descriptorIndex := 303, attributes := #[] }] 49 2 #[] #[{ accessFlags := 26, nameIndex := 715, descriptorIndex := 716, attributes := #[] }, { accessFlags := 26, nameIndex := 719, descriptorIndex := 716, attributes := #[] }, { accessFlags := 4120, nameIndex := 445, descriptorIndex := 117, attributes := #[] }])
  fields := #[{ name := "MIN_ARRAY_SORT_GRAN", type := .int, accessFlags := 26, slot := 0, constantValue := 0 }, { name := "INSERTIONSORT_THRESHOLD", type := .int, accessFlags := 26, slot := 1, constantValue := 0 }, { name := "$assertionsDisabled", type := .boolean, accessFlags := 4120, slot := 2, constantValue := 0 }]
  methods := #[k22m0, k22m1, k22m2]
  instanceTypes := #[]
  staticTypes := #[.int, .int, .boolean]
  resolved := Array.replicate 1029 none
  statics := none }

def pool23 : Array CpInfo := pool [(2, .class_ 4), (1, u "java/lang/Object"), (0, u "<init>"), (0, u "()V"), (1, .class_ 10), (1, u "java/lang/System"), (0, u "allowSecurityManager"), (0, u "I"), (16, u "cons"), (0, u "Ljava/io/Console;"), (77, .class_ 110), (1, u "java/lang/System$CallersHolder"), (43, u "initialErrStream"), (0, u "Ljava/io/PrintStream;"), (19, u "security"), (0, u "Ljava/lang/SecurityManager;"), (31, .class_ 209), (0, u "java/lang/System$1"), (7, u "props"), (0, u "Ljava/util/Properties;"), (2, u "lineSeparator"), (0, u "Ljava/lang/String;"), (96, .class_ 321), (1, u "java/lang/System$LoggerFinder"), (5, .class_ 328), (0, u "java/lang/System$Logger"), (67, u "err"), (2, u "out"), (91, u "notSupportedJnuEncoding"), (15, u "in"), (17, u "initialIn"), (0, u "Ljava/io/InputStream;"), (35, u "bootLayer"), (0, u "Ljava/lang/ModuleLayer;"), (99, .class_ 664), (0, u "java/lang/System$2"), (9, u "NEVER"), (2, u "MAYBE"), (49, u "arraycopy"), (0, u "(Ljava/lang/Object;ILjava/lang/Object;II)V"), (72, .class_ 802), (0, u "java/lang/System$Logger$Level")] 31

def k23m0 : Method := { name := "<init>", desc := "()V", sig := { parameters := [], returnType := none }, accessFlags := 2, code := none }
def k23m1 : Method := { name := "arraycopy", desc := "(Ljava/lang/Object;ILjava/lang/Object;II)V", sig := { parameters := [(.object "java/lang/Object"), .int, (.object "java/lang/Object"), .int, .int], returnType := none }, accessFlags := 265, code := none }
/-- java/lang/System -/
def k23 : Class := { plain "java/lang/System" (some 0) with
  accessFlags := 49
  interfaces := #[]
  cf := some (fileOf pool23 8 #[.nestMembers #[319, 327, 801, 108, 663, 208]] #[{ accessFlags := 2, nameIndex := 5, descriptorIndex := 6, attributes := #[] }, { accessFlags := 265, nameIndex := 727, descriptorIndex := 728, attributes := #[] }] 49 2 #[] #[{ accessFlags := 25, nameIndex := 507, descriptorIndex := 526, attributes := #[] }, { accessFlags := 25, nameIndex := 399, descriptorIndex := 155, attributes := #[] }, { accessFlags := 25, nameIndex := 396, descriptorIndex := 155, attributes := #[] }, { accessFlags := 10, nameIndex := 525, descriptorIndex := 526, attributes := #[] }, { accessFlags := 26, nameIndex := 674, descriptorIndex := 12, attributes := #[] }, { accessFlags := 26, nameIndex := 677, descriptorIndex := 12, attributes := #[] }, { accessFlags := 10, nameIndex := 11, descriptorIndex := 12, attributes := #[] }, { accessFlags := 74, nameIndex := 175, descriptorIndex := 176, attributes := #[] }, { accessFlags := 10, nameIndex := 491, descriptorIndex := 222, attributes := #[] }, { accessFlags := 74, nameIndex := 29, descriptorIndex := 30, attributes := #[] }, { accessFlags := 74, nameIndex := 154, descriptorIndex := 155, attributes := #[] }, { accessFlags := 10, nameIndex := 217, descriptorIndex := 218, attributes := #[] }, { accessFlags := 10, nameIndex := 221, descriptorIndex := 222, attributes := #[] }, { accessFlags := 8, nameIndex := 562, descriptorIndex := 563, attributes := #[] }])
  fields := #[{ name := "in", type := (.object "java/io/InputStream"), accessFlags := 25, slot := 0, constantValue := 0 }, { name := "out", type := (.object "java/io/PrintStream"), accessFlags := 25, slot := 1, constantValue := 0 }, { name := "err", type := (.object "java/io/PrintStream"), accessFlags := 25, slot := 2, constantValue := 0 }, { name := "initialIn", type := (.object "java/io/InputStream"), accessFlags := 10, slot := 3, constantValue := 0 }, { name := "NEVER", type := .int, accessFlags := 26, slot := 4, constantValue := 0 }, { name := "MAYBE", type := .int, accessFlags := 26, slot := 5, constantValue := 0 }, { name := "allowSecurityManager", type := .int, accessFlags := 10, slot := 6, constantValue := 0 }, { name := "security", type := (.object "java/lang/SecurityManager"), accessFlags := 74, slot := 7, constantValue := 0 }, { name := "notSupportedJnuEncoding", type := (.object "java/lang/String"), accessFlags := 10, slot := 8, constantValue := 0 }, { name := "cons", type := (.object "java/io/Console"), accessFlags := 74, slot := 9, constantValue := 0 }, { name := "initialErrStream", type := (.object "java/io/PrintStream"), accessFlags := 74, slot := 10, constantValue := 0 }, { name := "props", type := (.object "java/util/Properties"), accessFlags := 10, slot := 11, constantValue := 0 }, { name := "lineSeparator", type := (.object "java/lang/String"), accessFlags := 10, slot := 12, constantValue := 0 }, { name := "bootLayer", type := (.object "java/lang/ModuleLayer"), accessFlags := 8, slot := 13, constantValue := 0 }]
  methods := #[k23m0, k23m1]
  instanceTypes := #[]
  staticTypes := #[(.object "java/io/InputStream"), (.object "java/io/PrintStream"), (.object "java/io/PrintStream"), (.object "java/io/InputStream"), .int, .int, .int, (.object "java/lang/SecurityManager"), (.object "java/lang/String"), (.object "java/io/Console"), (.object "java/io/PrintStream"), (.object "java/util/Properties"), (.object "java/lang/String"), (.object "java/lang/ModuleLayer")]
  resolved := Array.replicate 834 none
  statics := none }

def pool24 : Array CpInfo := pool [(2, .class_ 4), (1, u "java/lang/Object"), (0, u "<init>"), (0, u "()V"), (35, .class_ 44), (1, u "java/util/Objects"), (60, .methodref 106 107), (0, .class_ 108), (0, .nameAndType 109 110), (0, u "jdk/internal/util/Preconditions"), (0, u "checkIndex"), (0, u "(IILjava/util/function/BiFunction;)I"), (60, u "(II)I")] 12

def k24m0 : Method := { name := "<init>", desc := "()V", sig := { parameters := [], returnType := none }, accessFlags := 2, code := none }
def k24c1 : Code := { maxStack := 3, maxLocals := 2, code := jdk_31_method_17_code, exceptionTable := #[], attributes := #[] }
def k24m1 : Method := { name := "checkIndex", desc := "(II)I", sig := { parameters := [.int, .int], returnType := some .int }, accessFlags := 9, code := some k24c1 }
/-- java/util/Objects -/
def k24 : Class := { plain "java/util/Objects" (some 0) with
  accessFlags := 49
  interfaces := #[]
  cf := some (fileOf pool24 42 #[] #[{ accessFlags := 2, nameIndex := 5, descriptorIndex := 6, attributes := #[] }, { accessFlags := 9, nameIndex := 109, descriptorIndex := 171, attributes := #[] }] 49 2 #[] #[])
  fields := #[]
  methods := #[k24m0, k24m1]
  instanceTypes := #[]
  staticTypes := #[]
  resolved := Array.replicate 184 none
  statics := none }

def pool25 : Array CpInfo := pool [(2, .class_ 4), (1, u "java/lang/Object"), (0, u "<init>"), (0, u "()V"), (17, .class_ 26), (1, u "jdk/internal/util/Preconditions"), (6, u "checkIndex"), (21, .class_ 56), (0, u "jdk/internal/util/Preconditions$4"), (57, .class_ 115), (0, u "jdk/internal/util/Preconditions$1"), (7, u "SIOOBE_FORMATTER"), (0, u "Ljava/util/function/BiFunction;"), (0, .class_ 126), (0, u "jdk/internal/util/Preconditions$2"), (3, u "AIOOBE_FORMATTER"), (0, .class_ 132), (0, u "jdk/internal/util/Preconditions$3"), (3, u "IOOBE_FORMATTER"), (41, u "(IILjava/util/function/BiFunction;)I")] 15

def k25m0 : Method := { name := "<init>", desc := "()V", sig := { parameters := [], returnType := none }, accessFlags := 1, code := none }
def k25c1 : Code := { maxStack := 3, maxLocals := 3, code := jdk_41_method_11_code, exceptionTable := #[], attributes := #[] }
def k25m1 : Method := { name := "checkIndex", desc := "(IILjava/util/function/BiFunction;)I", sig := { parameters := [.int, .int, (.object "java/util/function/BiFunction")], returnType := some .int }, accessFlags := 9, code := some k25c1 }
/-- jdk/internal/util/Preconditions -/
def k25 : Class := { plain "jdk/internal/util/Preconditions" (some 0) with
  accessFlags := 33
  interfaces := #[]
  cf := some (fileOf pool25 24 #[.nestMembers #[55, 131, 125, 114]] #[{ accessFlags := 1, nameIndex := 5, descriptorIndex := 6, attributes := #[] }, { accessFlags := 9, nameIndex := 33, descriptorIndex := 178, attributes := #[] }] 33 2 #[] #[{ accessFlags := 25, nameIndex := 123, descriptorIndex := 124, attributes := #[] }, { accessFlags := 25, nameIndex := 130, descriptorIndex := 124, attributes := #[] }, { accessFlags := 25, nameIndex := 136, descriptorIndex := 124, attributes := #[] }])
  fields := #[{ name := "SIOOBE_FORMATTER", type := (.object "java/util/function/BiFunction"), accessFlags := 25, slot := 0, constantValue := 0 }, { name := "AIOOBE_FORMATTER", type := (.object "java/util/function/BiFunction"), accessFlags := 25, slot := 1, constantValue := 0 }, { name := "IOOBE_FORMATTER", type := (.object "java/util/function/BiFunction"), accessFlags := 25, slot := 2, constantValue := 0 }]
  methods := #[k25m0, k25m1]
  instanceTypes := #[]
  staticTypes := #[(.object "java/util/function/BiFunction"), (.object "java/util/function/BiFunction"), (.object "java/util/function/BiFunction")]
  resolved := Array.replicate 194 none
  statics := some 3 }

def pool26 : Array CpInfo := pool [(9, u "<init>"), (6, .class_ 18), (1, u "java/lang/Object"), (0, u "()V"), (1, .class_ 23), (1, u "jdk/internal/util/ArraysSupport"), (0, u "LOG2_ARRAY_LONG_INDEX_SCALE"), (0, u "I"), (2, u "U"), (0, u "Ljdk/internal/misc/Unsafe;"), (8, u "BIG_ENDIAN"), (0, u "Z"), (8, u "LOG2_BYTE_BIT_SIZE"), (4, u "LOG2_ARRAY_INT_INDEX_SCALE"), (54, u "JLA"), (0, u "Ljdk/internal/access/JavaLangAccess;"), (11, u "LOG2_ARRAY_BOOLEAN_INDEX_SCALE"), (9, u "LOG2_ARRAY_BYTE_INDEX_SCALE"), (5, u "LOG2_ARRAY_CHAR_INDEX_SCALE"), (5, u "LOG2_ARRAY_SHORT_INDEX_SCALE"), (18, u "LOG2_ARRAY_FLOAT_INDEX_SCALE"), (24, u "LOG2_ARRAY_DOUBLE_INDEX_SCALE"), (89, u "T_BOOLEAN"), (2, u "T_CHAR"), (1, u "T_FLOAT"), (1, u "T_DOUBLE"), (1, u "T_BYTE"), (1, u "T_SHORT"), (1, u "T_INT"), (1, u "T_LONG"), (1, u "SOFT_MAX_ARRAY_LENGTH")] 83

def k26m0 : Method := { name := "<init>", desc := "()V", sig := { parameters := [], returnType := none }, accessFlags := 2, code := none }
/-- jdk/internal/util/ArraysSupport -/
def k26 : Class := { plain "jdk/internal/util/ArraysSupport" (some 0) with
  accessFlags := 33
  interfaces := #[]
  cf := some (fileOf pool26 21 #[] #[{ accessFlags := 2, nameIndex := 9, descriptorIndex := 19, attributes := #[] }] 33 16 #[] #[{ accessFlags := 24, nameIndex := 28, descriptorIndex := 29, attributes := #[] }, { accessFlags := 26, nameIndex := 38, descriptorIndex := 39, attributes := #[] }, { accessFlags := 25, nameIndex := 121, descriptorIndex := 25, attributes := #[] }, { accessFlags := 25, nameIndex := 131, descriptorIndex := 25, attributes := #[] }, { accessFlags := 25, nameIndex := 137, descriptorIndex := 25, attributes := #[] }, { accessFlags := 25, nameIndex := 143, descriptorIndex := 25, attributes := #[] }, { accessFlags := 25, nameIndex := 53, descriptorIndex := 25, attributes := #[] }, { accessFlags := 25, nameIndex := 24, descriptorIndex := 25, attributes := #[] }, { accessFlags := 25, nameIndex := 162, descriptorIndex := 25, attributes := #[] }, { accessFlags := 25, nameIndex := 187, descriptorIndex := 25, attributes := #[] }, { accessFlags := 26, nameIndex := 48, descriptorIndex := 25, attributes := #[] }, { accessFlags := 25, nameIndex := 277, descriptorIndex := 25, attributes := #[] }, { accessFlags := 25, nameIndex := 280, descriptorIndex := 25, attributes := #[] }, { accessFlags := 25, nameIndex := 282, descriptorIndex := 25, attributes := #[] }, { accessFlags := 25, nameIndex := 284, descriptorIndex := 25, attributes := #[] }, { accessFlags := 25, nameIndex := 286, descriptorIndex := 25, attributes := #[] }, { accessFlags := 25, nameIndex := 288, descriptorIndex := 25, attributes := #[] }, { accessFlags := 25, nameIndex := 290, descriptorIndex := 25, attributes := #[] }, { accessFlags := 25, nameIndex := 292, descriptorIndex := 25, attributes := #[] }, { accessFlags := 26, nameIndex := 108, descriptorIndex := 109, attributes := #[] }, { accessFlags := 25, nameIndex := 294, descriptorIndex := 25, attributes := #[] }])
  fields := #[{ name := "U", type := (.object "jdk/internal/misc/Unsafe"), accessFlags := 24, slot := 0, constantValue := 0 }, { name := "BIG_ENDIAN", type := .boolean, accessFlags := 26, slot := 1, constantValue := 0 }, { name := "LOG2_ARRAY_BOOLEAN_INDEX_SCALE", type := .int, accessFlags := 25, slot := 2, constantValue := 0 }, { name := "LOG2_ARRAY_BYTE_INDEX_SCALE", type := .int, accessFlags := 25, slot := 3, constantValue := 0 }, { name := "LOG2_ARRAY_CHAR_INDEX_SCALE", type := .int, accessFlags := 25, slot := 4, constantValue := 0 }, { name := "LOG2_ARRAY_SHORT_INDEX_SCALE", type := .int, accessFlags := 25, slot := 5, constantValue := 0 }, { name := "LOG2_ARRAY_INT_INDEX_SCALE", type := .int, accessFlags := 25, slot := 6, constantValue := 0 }, { name := "LOG2_ARRAY_LONG_INDEX_SCALE", type := .int, accessFlags := 25, slot := 7, constantValue := 0 }, { name := "LOG2_ARRAY_FLOAT_INDEX_SCALE", type := .int, accessFlags := 25, slot := 8, constantValue := 0 }, { name := "LOG2_ARRAY_DOUBLE_INDEX_SCALE", type := .int, accessFlags := 25, slot := 9, constantValue := 0 }, { name := "LOG2_BYTE_BIT_SIZE", type := .int, accessFlags := 26, slot := 10, constantValue := 0 }, { name := "T_BOOLEAN", type := .int, accessFlags := 25, slot := 11, constantValue := 0 }, { name := "T_CHAR", type := .int, accessFlags := 25, slot := 12, constantValue := 0 }, { name := "T_FLOAT", type := .int, accessFlags := 25, slot := 13, constantValue := 0 }, { name := "T_DOUBLE", type := .int, accessFlags := 25, slot := 14, constantValue := 0 }, { name := "T_BYTE", type := .int, accessFlags := 25, slot := 15, constantValue := 0 }, { name := "T_SHORT", type := .int, accessFlags := 25, slot := 16, constantValue := 0 }, { name := "T_INT", type := .int, accessFlags := 25, slot := 17, constantValue := 0 }, { name := "T_LONG", type := .int, accessFlags := 25, slot := 18, constantValue := 0 }, { name := "JLA", type := (.object "jdk/internal/access/JavaLangAccess"), accessFlags := 26, slot := 19, constantValue := 0 }, { name := "SOFT_MAX_ARRAY_LENGTH", type := .int, accessFlags := 25, slot := 20, constantValue := 0 }]
  methods := #[k26m0]
  instanceTypes := #[]
  staticTypes := #[(.object "jdk/internal/misc/Unsafe"), .boolean, .int, .int, .int, .int, .int, .int, .int, .int, .int, .int, .int, .int, .int, .int, .int, .int, .int, (.object "jdk/internal/access/JavaLangAccess"), .int]
  resolved := Array.replicate 378 none
  statics := none }

def pool27 : Array CpInfo := pool [(1, u "java/lang/Class"), (0, .class_ 1), (0, u "java/lang/Object"), (0, .class_ 3)] 3

/-- java/lang/Class -/
def k27 : Class := { plain "java/lang/Class" (some 0) with
  accessFlags := 49
  interfaces := #[]
  cf := some (fileOf pool27 2 #[] #[] 49 4 #[] #[])
  fields := #[]
  methods := #[]
  instanceTypes := #[]
  staticTypes := #[]
  resolved := Array.replicate 8 none
  statics := none }

/-- the primitive byte -/
def k28 : Class := { plain "byte" none with kind := .primitive 'B', accessFlags := 0x411 }
/-- [B -/
def k29 : Class := { plain "[B" (some 0) with kind := .array 28 .byte, interfaces := #[19, 4], accessFlags := 1041 }

/-- the primitive int -/
def k30 : Class := { plain "int" none with kind := .primitive 'I', accessFlags := 0x411 }
/-- [I -/
def k31 : Class := { plain "[I" (some 0) with kind := .array 30 .int, interfaces := #[19, 4], accessFlags := 1041 }

/-- [Ljava/lang/Object; -/
def k32 : Class := { plain "[Ljava/lang/Object;" (some 0) with kind := .array 0 (.object "java/lang/Object"), interfaces := #[19, 4], accessFlags := 1041, mirror := some 4 }

def heap : Heap := #[{ cls := 7, slots := #[.ref 5, .ref 7, .ref 6, .null], vm := .statics 7 },
  { cls := 10, slots := #[.long 0, .int 1, .null, .int 0, .null, .int 0, .int 0], vm := .statics 10 },
  { cls := 20, slots := #[.long 0, .int 0, .ref 8, .ref 9], vm := .statics 20 },
  { cls := 25, slots := #[.null, .null, .null], vm := .statics 25 },
  { cls := 27, slots := #[], vm := .mirror 32 },
  { cls := 7, slots := #[.null, .int 0, .int 0, .null], vm := .none },
  { cls := 7, slots := #[.null, .int 2, .int 0, .null], vm := .none },
  { cls := 7, slots := #[.null, .int 1, .int 0, .null], vm := .none },
  { cls := 32, slots := #[], vm := .none },
  { cls := 32, slots := #[], vm := .none }]
def classes : Array Class := #[k0, k1, k2, k3, k4, k5, k6, k7, k8, k9, k10, k11, k12, k13, k14, k15, k16, k17, k18, k19, k20, k21, k22, k23, k24, k25, k26, k27, k28, k29, k30, k31, k32]
def interned : List (Array UInt16 × Addr) := []
def slotsUsed : Nat := 30
def theMethod : MethodId := ⟨1, 1⟩
def args0 : Array Value := #[.int 2, .int 65]
def aboutOver (below : List Frame) : State where
  vm := { classes := classes, interned := interned.toArray }
  heap := heap
  slotsUsed := slotsUsed
  threads := #[{ frames := .invoking theMethod args0 :: below }]
def below0 : List Frame := [.native { method := ⟨0, 0⟩, args := #[] }]
def about1 : State := aboutOver below0
def p0 : Program := .bare "" "" ""
def e0 : Env := launch0.env 0 0 0
theorem w_frames : about1.frames = Frame.invoking theMethod args0 :: below0 := rfl
set_option maxRecDepth 65536 in
theorem w_args : argsFit about1.vm theMethod args0 = true := by decide +kernel
set_option maxRecDepth 65536 in
theorem w_heap : heapFits about1 = true := by decide +kernel
set_option maxRecDepth 65536 in
theorem w_runnable : about1.curStatus? = some .runnable := by decide +kernel
set_option maxRecDepth 65536 in
theorem w_alone : about1.alone = true := by decide +kernel
set_option maxRecDepth 65536 in
theorem w_named : about1.methodNamed? x = some theMethod := by decide +kernel
set_option maxRecDepth 65536 in
theorem w_hears : about1.hears theMethod below0 = true := by decide +kernel
set_option maxRecDepth 65536 in
theorem w_ripe : about1.ripe theMethod args0 below0 = true := by decide +kernel
theorem w_running : about1.status = .running := rfl
set_option maxRecDepth 65536 in
theorem w_room : about1.hasRoom e0.platform room_1 = true :=
  launch0.hasRoom_least _ room_1 (by decide +kernel) (by decide +kernel) (by decide +kernel) (by decide +kernel) (by decide +kernel) (by decide +kernel)
theorem allAtoms_all (ts : List Jvm.Cond) (a : Array Jvm.Value) (st : Jvm.State) : (allAtoms ts).before a st = ts.all (fun c => c.before a st) := by
  induction ts with
  | nil => rfl
  | cons c t ih =>
    show (Jvm.Cond.and c (allAtoms t)).before a st = _
    rw [Jvm.Cond.before_and, ih, List.all_cons]
def words1 : List Jvm.Cond := Jvm.Cond.code x code maxLocals ret :: tables_1
/-- a 'code' word, met by the world's own term for the bytes: nothing is compared byte by byte -/
theorem code_word {y : MethodName} {bytes : ByteArray} {mx : Nat} {rt : Option FieldType} {a : Array Value} {s : State} {m : MethodId} {meth : Method} {c : Code} (h1 : s.methodNamed? y = some m) (h2 : s.vm.method? m = some meth) (h3 : meth.code = some c) (h4 : c.code = bytes)
    (h5 : (c.maxLocals == mx && c.exceptionTable.isEmpty && decide (c.maxStack ≤ mostOperands) && decide (meth.sig.returnType = rt) && !meth.locks && decide (parseMethodDescriptor y.desc = some meth.sig)) = true) : (Jvm.Cond.code y bytes mx rt).before a s = true := by
  simp only [Bool.and_eq_true, beq_iff_eq, Bool.not_eq_true', decide_eq_true_eq] at h5
  obtain ⟨⟨⟨⟨⟨g1, g2⟩, g3⟩, g4⟩, g5⟩, g6⟩ := h5
  simp [Cond.before, Cond.holds, Cond.value, h1, h2, h3, h4, g1, g2, g3, g4, g5, g6]
def isCode : Jvm.Cond → Bool
  | .code _ _ _ _ => true
  | _ => false
theorem all_split {L : List Jvm.Cond} {P : Jvm.Cond → Bool} (h1 : L.all (fun c => isCode c || P c) = true) (h2 : ∀ c ∈ L.filter isCode, P c = true) : L.all P = true := by
  refine List.all_eq_true.mpr fun c hc => ?_
  have h := List.all_eq_true.mp h1 c hc
  rcases Bool.eq_false_or_eq_true (isCode c) with hi | hi
  · exact h2 c (List.mem_filter.mpr ⟨hc, hi⟩)
  · simpa [hi] using h
set_option maxRecDepth 65536 in
theorem w_c0 : (Jvm.Cond.code x code maxLocals ret).before args0 about1 = true := code_word (m := ⟨1, 1⟩) (meth := k1m1) (c := k1c1) (by decide +kernel) rfl rfl rfl (by decide +kernel)
set_option maxRecDepth 65536 in
theorem w_c1 : (Jvm.Cond.code ({ cls := "java/lang/String", name := "valueOf", desc := "(C)Ljava/lang/String;" } : Jvm.MethodName) jdk_42_method_139_code (1 : Nat) (Option.some (Jvm.ClassFile.FieldType.object "java/lang/String"))).before args0 about1 = true := code_word (m := ⟨10, 2⟩) (meth := k10m2) (c := k10c2) (by decide +kernel) rfl rfl rfl (by decide +kernel)
set_option maxRecDepth 65536 in
theorem w_c2 : (Jvm.Cond.code ({ cls := "java/lang/StringLatin1", name := "canEncode", desc := "(C)Z" } : Jvm.MethodName) jdk_43_method_3_code (1 : Nat) (Option.some Jvm.ClassFile.FieldType.boolean)).before args0 about1 = true := code_word (m := ⟨11, 1⟩) (meth := k11m1) (c := k11c1) (by decide +kernel) rfl rfl rfl (by decide +kernel)
set_option maxRecDepth 65536 in
theorem w_c3 : (Jvm.Cond.code ({ cls := "java/lang/StringLatin1", name := "toBytes", desc := "(C)[B" } : Jvm.MethodName) jdk_43_method_46_code (1 : Nat) (Option.some (Jvm.ClassFile.FieldType.array Jvm.ClassFile.FieldType.byte))).before args0 about1 = true := code_word (m := ⟨11, 2⟩) (meth := k11m2) (c := k11c2) (by decide +kernel) rfl rfl rfl (by decide +kernel)
set_option maxRecDepth 65536 in
theorem w_c4 : (Jvm.Cond.code ({ cls := "java/lang/String", name := "<init>", desc := "([BB)V" } : Jvm.MethodName) jdk_42_method_151_code (3 : Nat) (Option.none : Option Jvm.ClassFile.FieldType)).before args0 about1 = true := code_word (m := ⟨10, 3⟩) (meth := k10m3) (c := k10c3) (by decide +kernel) rfl rfl rfl (by decide +kernel)
set_option maxRecDepth 65536 in
theorem w_c5 : (Jvm.Cond.code ({ cls := "java/lang/Object", name := "<init>", desc := "()V" } : Jvm.MethodName) object_method_1_code (1 : Nat) (Option.none : Option Jvm.ClassFile.FieldType)).before args0 about1 = true := code_word (m := ⟨0, 0⟩) (meth := k0m0) (c := k0c0) (by decide +kernel) rfl rfl rfl (by decide +kernel)
set_option maxRecDepth 65536 in
theorem w_c6 : (Jvm.Cond.code ({ cls := "java/util/ArrayList", name := "<init>", desc := "()V" } : Jvm.MethodName) jdk_38_method_2_code (1 : Nat) (Option.none : Option Jvm.ClassFile.FieldType)).before args0 about1 = true := code_word (m := ⟨20, 1⟩) (meth := k20m1) (c := k20c1) (by decide +kernel) rfl rfl rfl (by decide +kernel)
set_option maxRecDepth 65536 in
theorem w_c7 : (Jvm.Cond.code ({ cls := "java/util/AbstractList", name := "<init>", desc := "()V" } : Jvm.MethodName) jdk_39_method_1_code (1 : Nat) (Option.none : Option Jvm.ClassFile.FieldType)).before args0 about1 = true := code_word (m := ⟨17, 0⟩) (meth := k17m0) (c := k17c0) (by decide +kernel) rfl rfl rfl (by decide +kernel)
set_option maxRecDepth 65536 in
theorem w_c8 : (Jvm.Cond.code ({ cls := "java/util/AbstractCollection", name := "<init>", desc := "()V" } : Jvm.MethodName) jdk_22_method_1_code (1 : Nat) (Option.none : Option Jvm.ClassFile.FieldType)).before args0 about1 = true := code_word (m := ⟨14, 0⟩) (meth := k14m0) (c := k14c0) (by decide +kernel) rfl rfl rfl (by decide +kernel)
set_option maxRecDepth 65536 in
theorem w_c9 : (Jvm.Cond.code ({ cls := "java/util/ArrayList", name := "add", desc := "(Ljava/lang/Object;)Z" } : Jvm.MethodName) jdk_38_method_25_code (2 : Nat) (Option.some Jvm.ClassFile.FieldType.boolean)).before args0 about1 = true := code_word (m := ⟨20, 9⟩) (meth := k20m9) (c := k20c9) (by decide +kernel) rfl rfl rfl (by decide +kernel)
set_option maxRecDepth 65536 in
theorem w_c10 : (Jvm.Cond.code ({ cls := "java/util/ArrayList", name := "add", desc := "(Ljava/lang/Object;[Ljava/lang/Object;I)V" } : Jvm.MethodName) jdk_38_method_24_code (4 : Nat) (Option.none : Option Jvm.ClassFile.FieldType)).before args0 about1 = true := code_word (m := ⟨20, 8⟩) (meth := k20m8) (c := k20c8) (by decide +kernel) rfl rfl rfl (by decide +kernel)
set_option maxRecDepth 65536 in
theorem w_c11 : (Jvm.Cond.code ({ cls := "java/util/ArrayList", name := "grow", desc := "()[Ljava/lang/Object;" } : Jvm.MethodName) jdk_38_method_7_code (1 : Nat) (Option.some (Jvm.ClassFile.FieldType.array (Jvm.ClassFile.FieldType.object "java/lang/Object")))).before args0 about1 = true := code_word (m := ⟨20, 3⟩) (meth := k20m3) (c := k20c3) (by decide +kernel) rfl rfl rfl (by decide +kernel)
set_option maxRecDepth 65536 in
theorem w_c12 : (Jvm.Cond.code ({ cls := "java/util/ArrayList", name := "grow", desc := "(I)[Ljava/lang/Object;" } : Jvm.MethodName) jdk_38_method_6_code (4 : Nat) (Option.some (Jvm.ClassFile.FieldType.array (Jvm.ClassFile.FieldType.object "java/lang/Object")))).before args0 about1 = true := code_word (m := ⟨20, 2⟩) (meth := k20m2) (c := k20c2) (by decide +kernel) rfl rfl rfl (by decide +kernel)
set_option maxRecDepth 65536 in
theorem w_c13 : (Jvm.Cond.code ({ cls := "java/lang/Math", name := "max", desc := "(II)I" } : Jvm.MethodName) jdk_29_method_65_code (2 : Nat) (Option.some Jvm.ClassFile.FieldType.int)).before args0 about1 = true := code_word (m := ⟨21, 1⟩) (meth := k21m1) (c := k21c1) (by decide +kernel) rfl rfl rfl (by decide +kernel)
set_option maxRecDepth 65536 in
theorem w_c14 : (Jvm.Cond.code ({ cls := "com/example/inquiry_into_concepts/inquiryintoconcepts/index/Representation", name := "holdsConcepts", desc := "()Z" } : Jvm.MethodName) prog_17_method_7_code (1 : Nat) (Option.some Jvm.ClassFile.FieldType.boolean)).before args0 about1 = true := code_word (m := ⟨7, 0⟩) (meth := k7m0) (c := k7c0) (by decide +kernel) rfl rfl rfl (by decide +kernel)
set_option maxRecDepth 65536 in
theorem w_c15 : (Jvm.Cond.code ({ cls := "com/example/inquiry_into_concepts/inquiryintoconcepts/index/Representation", name := "terms", desc := "(Ljava/util/List;Ljava/util/List;)Ljava/util/List;" } : Jvm.MethodName) prog_17_method_8_code (4 : Nat) (Option.some (Jvm.ClassFile.FieldType.object "java/util/List"))).before args0 about1 = true := code_word (m := ⟨7, 1⟩) (meth := k7m1) (c := k7c1) (by decide +kernel) rfl rfl rfl (by decide +kernel)
set_option maxRecDepth 65536 in
theorem w_c16 : (Jvm.Cond.code ({ cls := "java/lang/Enum", name := "ordinal", desc := "()I" } : Jvm.MethodName) jdk_37_method_2_code (1 : Nat) (Option.some Jvm.ClassFile.FieldType.int)).before args0 about1 = true := code_word (m := ⟨5, 0⟩) (meth := k5m0) (c := k5c0) (by decide +kernel) rfl rfl rfl (by decide +kernel)
set_option maxRecDepth 65536 in
theorem w_c17 : (Jvm.Cond.code ({ cls := "java/util/ArrayList", name := "size", desc := "()I" } : Jvm.MethodName) jdk_38_method_8_code (1 : Nat) (Option.some Jvm.ClassFile.FieldType.int)).before args0 about1 = true := code_word (m := ⟨20, 4⟩) (meth := k20m4) (c := k20c4) (by decide +kernel) rfl rfl rfl (by decide +kernel)
set_option maxRecDepth 65536 in
theorem w_c18 : (Jvm.Cond.code ({ cls := "java/util/ArrayList", name := "<init>", desc := "(I)V" } : Jvm.MethodName) jdk_38_method_1_code (2 : Nat) (Option.none : Option Jvm.ClassFile.FieldType)).before args0 about1 = true := code_word (m := ⟨20, 0⟩) (meth := k20m0) (c := k20c0) (by decide +kernel) rfl rfl rfl (by decide +kernel)
set_option maxRecDepth 65536 in
theorem w_c19 : (Jvm.Cond.code ({ cls := "java/util/ArrayList", name := "addAll", desc := "(Ljava/util/Collection;)Z" } : Jvm.MethodName) jdk_38_method_41_code (6 : Nat) (Option.some Jvm.ClassFile.FieldType.boolean)).before args0 about1 = true := code_word (m := ⟨20, 10⟩) (meth := k20m10) (c := k20c10) (by decide +kernel) rfl rfl rfl (by decide +kernel)
set_option maxRecDepth 65536 in
theorem w_c20 : (Jvm.Cond.code ({ cls := "java/util/ArrayList", name := "toArray", desc := "()[Ljava/lang/Object;" } : Jvm.MethodName) jdk_38_method_16_code (1 : Nat) (Option.some (Jvm.ClassFile.FieldType.array (Jvm.ClassFile.FieldType.object "java/lang/Object")))).before args0 about1 = true := code_word (m := ⟨20, 5⟩) (meth := k20m5) (c := k20c5) (by decide +kernel) rfl rfl rfl (by decide +kernel)
set_option maxRecDepth 65536 in
theorem w_c21 : (Jvm.Cond.code ({ cls := "java/util/Arrays", name := "copyOf", desc := "([Ljava/lang/Object;I)[Ljava/lang/Object;" } : Jvm.MethodName) jdk_65_method_119_code (2 : Nat) (Option.some (Jvm.ClassFile.FieldType.array (Jvm.ClassFile.FieldType.object "java/lang/Object")))).before args0 about1 = true := code_word (m := ⟨22, 1⟩) (meth := k22m1) (c := k22c1) (by decide +kernel) rfl rfl rfl (by decide +kernel)
set_option maxRecDepth 65536 in
theorem w_c22 : (Jvm.Cond.code ({ cls := "java/util/Arrays", name := "copyOf", desc := "([Ljava/lang/Object;ILjava/lang/Class;)[Ljava/lang/Object;" } : Jvm.MethodName) jdk_65_method_120_code (4 : Nat) (Option.some (Jvm.ClassFile.FieldType.array (Jvm.ClassFile.FieldType.object "java/lang/Object")))).before args0 about1 = true := code_word (m := ⟨22, 2⟩) (meth := k22m2) (c := k22c2) (by decide +kernel) rfl rfl rfl (by decide +kernel)
set_option maxRecDepth 65536 in
theorem w_c23 : (Jvm.Cond.code ({ cls := "java/lang/Math", name := "min", desc := "(II)I" } : Jvm.MethodName) jdk_29_method_69_code (2 : Nat) (Option.some Jvm.ClassFile.FieldType.int)).before args0 about1 = true := code_word (m := ⟨21, 2⟩) (meth := k21m2) (c := k21c2) (by decide +kernel) rfl rfl rfl (by decide +kernel)
set_option maxRecDepth 65536 in
theorem w_c24 : (Jvm.Cond.code ({ cls := "java/util/ArrayList", name := "get", desc := "(I)Ljava/lang/Object;" } : Jvm.MethodName) jdk_38_method_20_code (2 : Nat) (Option.some (Jvm.ClassFile.FieldType.object "java/lang/Object"))).before args0 about1 = true := code_word (m := ⟨20, 7⟩) (meth := k20m7) (c := k20c7) (by decide +kernel) rfl rfl rfl (by decide +kernel)
set_option maxRecDepth 65536 in
theorem w_c25 : (Jvm.Cond.code ({ cls := "java/util/Objects", name := "checkIndex", desc := "(II)I" } : Jvm.MethodName) jdk_31_method_17_code (2 : Nat) (Option.some Jvm.ClassFile.FieldType.int)).before args0 about1 = true := code_word (m := ⟨24, 1⟩) (meth := k24m1) (c := k24c1) (by decide +kernel) rfl rfl rfl (by decide +kernel)
set_option maxRecDepth 65536 in
theorem w_c26 : (Jvm.Cond.code ({ cls := "jdk/internal/util/Preconditions", name := "checkIndex", desc := "(IILjava/util/function/BiFunction;)I" } : Jvm.MethodName) jdk_41_method_11_code (3 : Nat) (Option.some Jvm.ClassFile.FieldType.int)).before args0 about1 = true := code_word (m := ⟨25, 1⟩) (meth := k25m1) (c := k25c1) (by decide +kernel) rfl rfl rfl (by decide +kernel)
set_option maxRecDepth 65536 in
theorem w_c27 : (Jvm.Cond.code ({ cls := "java/util/ArrayList", name := "elementData", desc := "(I)Ljava/lang/Object;" } : Jvm.MethodName) jdk_38_method_18_code (2 : Nat) (Option.some (Jvm.ClassFile.FieldType.object "java/lang/Object"))).before args0 about1 = true := code_word (m := ⟨20, 6⟩) (meth := k20m6) (c := k20c6) (by decide +kernel) rfl rfl rfl (by decide +kernel)
set_option maxRecDepth 65536 in
theorem w_c28 : (Jvm.Cond.code ({ cls := "java/lang/String", name := "equals", desc := "(Ljava/lang/Object;)Z" } : Jvm.MethodName) jdk_42_method_66_code (3 : Nat) (Option.some Jvm.ClassFile.FieldType.boolean)).before args0 about1 = true := code_word (m := ⟨10, 1⟩) (meth := k10m1) (c := k10c1) (by decide +kernel) rfl rfl rfl (by decide +kernel)
def codes1 : List Jvm.Cond := [Jvm.Cond.code x code maxLocals ret, Jvm.Cond.code ({ cls := "java/lang/String", name := "valueOf", desc := "(C)Ljava/lang/String;" } : Jvm.MethodName) jdk_42_method_139_code (1 : Nat) (Option.some (Jvm.ClassFile.FieldType.object "java/lang/String")), Jvm.Cond.code ({ cls := "java/lang/StringLatin1", name := "canEncode", desc := "(C)Z" } : Jvm.MethodName) jdk_43_method_3_code (1 : Nat) (Option.some Jvm.ClassFile.FieldType.boolean), Jvm.Cond.code ({ cls := "java/lang/StringLatin1", name := "toBytes", desc := "(C)[B" } : Jvm.MethodName) jdk_43_method_46_code (1 : Nat) (Option.some (Jvm.ClassFile.FieldType.array Jvm.ClassFile.FieldType.byte)), Jvm.Cond.code ({ cls := "java/lang/String", name := "<init>", desc := "([BB)V" } : Jvm.MethodName) jdk_42_method_151_code (3 : Nat) (Option.none : Option Jvm.ClassFile.FieldType), Jvm.Cond.code ({ cls := "java/lang/Object", name := "<init>", desc := "()V" } : Jvm.MethodName) object_method_1_code (1 : Nat) (Option.none : Option Jvm.ClassFile.FieldType), Jvm.Cond.code ({ cls := "java/util/ArrayList", name := "<init>", desc := "()V" } : Jvm.MethodName) jdk_38_method_2_code (1 : Nat) (Option.none : Option Jvm.ClassFile.FieldType), Jvm.Cond.code ({ cls := "java/util/AbstractList", name := "<init>", desc := "()V" } : Jvm.MethodName) jdk_39_method_1_code (1 : Nat) (Option.none : Option Jvm.ClassFile.FieldType), Jvm.Cond.code ({ cls := "java/util/AbstractCollection", name := "<init>", desc := "()V" } : Jvm.MethodName) jdk_22_method_1_code (1 : Nat) (Option.none : Option Jvm.ClassFile.FieldType), Jvm.Cond.code ({ cls := "java/util/ArrayList", name := "add", desc := "(Ljava/lang/Object;)Z" } : Jvm.MethodName) jdk_38_method_25_code (2 : Nat) (Option.some Jvm.ClassFile.FieldType.boolean), Jvm.Cond.code ({ cls := "java/util/ArrayList", name := "add", desc := "(Ljava/lang/Object;[Ljava/lang/Object;I)V" } : Jvm.MethodName) jdk_38_method_24_code (4 : Nat) (Option.none : Option Jvm.ClassFile.FieldType), Jvm.Cond.code ({ cls := "java/util/ArrayList", name := "grow", desc := "()[Ljava/lang/Object;" } : Jvm.MethodName) jdk_38_method_7_code (1 : Nat) (Option.some (Jvm.ClassFile.FieldType.array (Jvm.ClassFile.FieldType.object "java/lang/Object"))), Jvm.Cond.code ({ cls := "java/util/ArrayList", name := "grow", desc := "(I)[Ljava/lang/Object;" } : Jvm.MethodName) jdk_38_method_6_code (4 : Nat) (Option.some (Jvm.ClassFile.FieldType.array (Jvm.ClassFile.FieldType.object "java/lang/Object"))), Jvm.Cond.code ({ cls := "java/lang/Math", name := "max", desc := "(II)I" } : Jvm.MethodName) jdk_29_method_65_code (2 : Nat) (Option.some Jvm.ClassFile.FieldType.int), Jvm.Cond.code ({ cls := "com/example/inquiry_into_concepts/inquiryintoconcepts/index/Representation", name := "holdsConcepts", desc := "()Z" } : Jvm.MethodName) prog_17_method_7_code (1 : Nat) (Option.some Jvm.ClassFile.FieldType.boolean), Jvm.Cond.code ({ cls := "com/example/inquiry_into_concepts/inquiryintoconcepts/index/Representation", name := "terms", desc := "(Ljava/util/List;Ljava/util/List;)Ljava/util/List;" } : Jvm.MethodName) prog_17_method_8_code (4 : Nat) (Option.some (Jvm.ClassFile.FieldType.object "java/util/List")), Jvm.Cond.code ({ cls := "java/lang/Enum", name := "ordinal", desc := "()I" } : Jvm.MethodName) jdk_37_method_2_code (1 : Nat) (Option.some Jvm.ClassFile.FieldType.int), Jvm.Cond.code ({ cls := "java/util/ArrayList", name := "size", desc := "()I" } : Jvm.MethodName) jdk_38_method_8_code (1 : Nat) (Option.some Jvm.ClassFile.FieldType.int), Jvm.Cond.code ({ cls := "java/util/ArrayList", name := "<init>", desc := "(I)V" } : Jvm.MethodName) jdk_38_method_1_code (2 : Nat) (Option.none : Option Jvm.ClassFile.FieldType), Jvm.Cond.code ({ cls := "java/util/ArrayList", name := "addAll", desc := "(Ljava/util/Collection;)Z" } : Jvm.MethodName) jdk_38_method_41_code (6 : Nat) (Option.some Jvm.ClassFile.FieldType.boolean), Jvm.Cond.code ({ cls := "java/util/ArrayList", name := "toArray", desc := "()[Ljava/lang/Object;" } : Jvm.MethodName) jdk_38_method_16_code (1 : Nat) (Option.some (Jvm.ClassFile.FieldType.array (Jvm.ClassFile.FieldType.object "java/lang/Object"))), Jvm.Cond.code ({ cls := "java/util/Arrays", name := "copyOf", desc := "([Ljava/lang/Object;I)[Ljava/lang/Object;" } : Jvm.MethodName) jdk_65_method_119_code (2 : Nat) (Option.some (Jvm.ClassFile.FieldType.array (Jvm.ClassFile.FieldType.object "java/lang/Object"))), Jvm.Cond.code ({ cls := "java/util/Arrays", name := "copyOf", desc := "([Ljava/lang/Object;ILjava/lang/Class;)[Ljava/lang/Object;" } : Jvm.MethodName) jdk_65_method_120_code (4 : Nat) (Option.some (Jvm.ClassFile.FieldType.array (Jvm.ClassFile.FieldType.object "java/lang/Object"))), Jvm.Cond.code ({ cls := "java/lang/Math", name := "min", desc := "(II)I" } : Jvm.MethodName) jdk_29_method_69_code (2 : Nat) (Option.some Jvm.ClassFile.FieldType.int), Jvm.Cond.code ({ cls := "java/util/ArrayList", name := "get", desc := "(I)Ljava/lang/Object;" } : Jvm.MethodName) jdk_38_method_20_code (2 : Nat) (Option.some (Jvm.ClassFile.FieldType.object "java/lang/Object")), Jvm.Cond.code ({ cls := "java/util/Objects", name := "checkIndex", desc := "(II)I" } : Jvm.MethodName) jdk_31_method_17_code (2 : Nat) (Option.some Jvm.ClassFile.FieldType.int), Jvm.Cond.code ({ cls := "jdk/internal/util/Preconditions", name := "checkIndex", desc := "(IILjava/util/function/BiFunction;)I" } : Jvm.MethodName) jdk_41_method_11_code (3 : Nat) (Option.some Jvm.ClassFile.FieldType.int), Jvm.Cond.code ({ cls := "java/util/ArrayList", name := "elementData", desc := "(I)Ljava/lang/Object;" } : Jvm.MethodName) jdk_38_method_18_code (2 : Nat) (Option.some (Jvm.ClassFile.FieldType.object "java/lang/Object")), Jvm.Cond.code ({ cls := "java/lang/String", name := "equals", desc := "(Ljava/lang/Object;)Z" } : Jvm.MethodName) jdk_42_method_66_code (3 : Nat) (Option.some Jvm.ClassFile.FieldType.boolean)]
set_option maxRecDepth 65536 in
theorem codes_eq : words1.filter isCode = codes1 := rfl
theorem w_codes : ∀ c ∈ words1.filter isCode, c.before args0 about1 = true := by
  rw [codes_eq]
  intro c hc
  simp only [codes1, List.mem_cons, List.not_mem_nil, or_false] at hc
  rcases hc with rfl | rfl | rfl | rfl | rfl | rfl | rfl | rfl | rfl | rfl | rfl | rfl | rfl | rfl | rfl | rfl | rfl | rfl | rfl | rfl | rfl | rfl | rfl | rfl | rfl | rfl | rfl | rfl | rfl
  · exact w_c0
  · exact w_c1
  · exact w_c2
  · exact w_c3
  · exact w_c4
  · exact w_c5
  · exact w_c6
  · exact w_c7
  · exact w_c8
  · exact w_c9
  · exact w_c10
  · exact w_c11
  · exact w_c12
  · exact w_c13
  · exact w_c14
  · exact w_c15
  · exact w_c16
  · exact w_c17
  · exact w_c18
  · exact w_c19
  · exact w_c20
  · exact w_c21
  · exact w_c22
  · exact w_c23
  · exact w_c24
  · exact w_c25
  · exact w_c26
  · exact w_c27
  · exact w_c28
set_option maxRecDepth 65536 in
theorem w_t1 : (words1.take 24).all (fun c => isCode c || c.before args0 about1) = true := by decide +kernel
set_option maxRecDepth 65536 in
theorem w_t2 : ((words1.drop 24).take 24).all (fun c => isCode c || c.before args0 about1) = true := by decide +kernel
set_option maxRecDepth 65536 in
theorem w_t3 : (((words1.drop 24).drop 24).take 24).all (fun c => isCode c || c.before args0 about1) = true := by decide +kernel
set_option maxRecDepth 65536 in
theorem w_t4 : ((((words1.drop 24).drop 24).drop 24).take 24).all (fun c => isCode c || c.before args0 about1) = true := by decide +kernel
set_option maxRecDepth 65536 in
theorem w_t5 : (((((words1.drop 24).drop 24).drop 24).drop 24).take 24).all (fun c => isCode c || c.before args0 about1) = true := by decide +kernel
set_option maxRecDepth 65536 in
theorem w_t6 : ((((((words1.drop 24).drop 24).drop 24).drop 24).drop 24).take 24).all (fun c => isCode c || c.before args0 about1) = true := by decide +kernel
set_option maxRecDepth 65536 in
theorem w_t7 : (((((((words1.drop 24).drop 24).drop 24).drop 24).drop 24).drop 24).take 24).all (fun c => isCode c || c.before args0 about1) = true := by decide +kernel
set_option maxRecDepth 65536 in
theorem w_t8 : (((((((words1.drop 24).drop 24).drop 24).drop 24).drop 24).drop 24).drop 24).all (fun c => isCode c || c.before args0 about1) = true := by decide +kernel
theorem w_tables : (allAtoms (Jvm.Cond.code x code maxLocals ret :: tables_1)).before args0 about1 = true := by
  rw [allAtoms_all]
  show words1.all (fun c => c.before args0 about1) = true
  refine all_split ?_ w_codes
  rw [← List.take_append_drop 24 words1, List.all_append, w_t1, ← List.take_append_drop 24 (words1.drop 24), List.all_append, w_t2, ← List.take_append_drop 24 ((words1.drop 24).drop 24), List.all_append, w_t3, ← List.take_append_drop 24 (((words1.drop 24).drop 24).drop 24), List.all_append, w_t4, ← List.take_append_drop 24 ((((words1.drop 24).drop 24).drop 24).drop 24), List.all_append, w_t5, ← List.take_append_drop 24 (((((words1.drop 24).drop 24).drop 24).drop 24).drop 24), List.all_append, w_t6, ← List.take_append_drop 24 ((((((words1.drop 24).drop 24).drop 24).drop 24).drop 24).drop 24), List.all_append, w_t7, w_t8]
  rfl
set_option maxRecDepth 65536 in
theorem w_rest : rest_1_c.before args0 about1 = true := by decide +kernel
set_option maxRecDepth 65536 in
theorem w_case : (Jvm.Cond.and given_1 narrow_1).before args0 about1 = true := by decide +kernel
theorem w_applies : (headSpec (Jvm.Cond.code x code maxLocals ret :: tables_1) room_1).applies x e0.platform about1 = true :=
  (Spec.applies_iff w_frames).mpr ⟨w_running, w_runnable, w_alone, w_named, w_hears, w_ripe, w_room, w_tables⟩
theorem atStart : AtStart classFile x code maxLocals ret World_1 tables_1 room_1 Calls_1 rest_1 Pre_1 launch0 p0 e0 about1 theMethod args0 below0 :=
  ⟨lists_1, trivial, launch0.admits_env _ _ _, launch0.least_env, fairChoices_fair.cas, fairChoices_fair.clock, w_frames, w_args, w_heap, w_applies, ⟨⟨32, k32, 4, by decide +kernel, rfl, rfl, _, rfl, rfl⟩, trivial⟩, w_rest, w_case⟩
end start1
theorem witness_1 : WitnessClaimed_1 := ⟨start1.p0, start1.e0, start1.about1, start1.theMethod, start1.args0, start1.below0, start1.atStart⟩
end Jvm.Pilot.@@N@@
