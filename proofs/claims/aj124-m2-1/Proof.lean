import JvmDerived
import JvmDerived.Pilot.@@N@@Statement
import JvmDerived.Pilot.@@N@@Code
set_option linter.unusedVariables false
set_option linter.unusedSimpArgs false
namespace Jvm.Pilot.@@N@@
open Jvm Jvm.ClassFile Sem Op Lib Jvm.Free Jvm.Stand Jvm.LawKit Jvm.RoadKit Bundle Jvm.Pilot.@@N@@.Jvm.D
def own_l (n : Nat) (f : Nat → Int32) : List Value := (List.range n).map fun i => .int (f i)
theorem own_l_len (n : Nat) (f : Nat → Int32) : (own_l n f).length = n := by simp [own_l]
theorem own_l_get (n : Nat) (f : Nat → Int32) (d : Value) {k : Nat} (h : k < n) : (own_l n f).getD k d = .int (f k) := by
  simp [own_l, List.getD_eq_getElem?_getD, List.getElem?_map, List.getElem?_range h]
theorem own_l_pad (n : Nat) : ∀ i, (own_l n (fun _ => (0 : Int32))).getD i (.int (0 : Int32)) = ([] : List Value).getD i (.int (0 : Int32)) := fun i => by
  by_cases h : i < n
  · rw [own_l_get _ _ _ h]; simp
  · rw [List.getD_eq_getElem?_getD, List.getElem?_eq_none (by rw [own_l_len]; omega)]; simp
theorem own_l_set (n : Nat) (f : Nat → Int32) (j : Nat) (v : Int32) : (own_l n f).set j (.int v) = own_l n (fun k => if k = j then v else f k) := by
  apply List.ext_getElem
  · simp [own_l]
  · intro i h1 h2
    simp only [own_l, List.getElem_set, List.getElem_map, List.getElem_range]
    by_cases q : j = i
    · subst q; simp
    · have q2 : ¬ (i = j) := fun z => q z.symm
      simp [q, q2]
theorem own_l_copy {n m sp : Nat} {f h : Nat → Int32} {d : Value} (hn : sp + m ≤ n) : (own_l m h).take 0 ++ ((List.range m).map fun i => (own_l n f).getD (sp + i) d) ++ (own_l m h).drop (0 + m) = own_l m (fun k => f (sp + k)) := by
  have e1 : (own_l m h).drop (0 + m) = [] := List.drop_eq_nil_of_le (by rw [own_l_len]; omega)
  rw [e1, List.append_nil, List.take_zero, List.nil_append]
  unfold own_l
  apply List.map_congr_left
  intro i hi
  exact own_l_get n f d (by have := List.mem_range.mp hi; omega)
theorem own_lt {c : Cell} {j z : Int32} (s : c.slots.size = z.toNatClampNeg) (hin : ¬ (j < 0 ∨ c.slots.size ≤ j.toNatClampNeg)) : j.toNatClampNeg < z.toNatClampNeg := by
  rw [← s]; exact Nat.lt_of_not_le fun q => hin (Or.inr q)
theorem own_and3 (x : Int32) : (x &&& (3 : Int32)) = (0 : Int32) ∨ (x &&& (3 : Int32)) = (1 : Int32) ∨ (x &&& (3 : Int32)) = (2 : Int32) ∨ (x &&& (3 : Int32)) = (3 : Int32) := by
  have h1 := c_mask x 3 2 (by decide) (by decide)
  have h3 : (x &&& (3 : Int32)).toInt = 0 ∨ (x &&& (3 : Int32)).toInt = 1 ∨ (x &&& (3 : Int32)).toInt = 2 ∨ (x &&& (3 : Int32)).toInt = 3 := by rw [h1]; omega
  rcases h3 with h | h | h | h
  · exact (Or.inl (Int32.toInt_inj.mp h))
  · exact (Or.inr (Or.inl (Int32.toInt_inj.mp h)))
  · exact (Or.inr (Or.inr (Or.inl (Int32.toInt_inj.mp h))))
  · exact (Or.inr (Or.inr (Or.inr (Int32.toInt_inj.mp h))))
theorem own_modr32 (x : Int32) : ¬ (((x &&& (2147483647 : Int32)) % (32 : Int32)) < (0 : Int32)) ∧ ((x &&& (2147483647 : Int32)) % (32 : Int32)) < (32 : Int32) := by
  have h1 := c_mask x 2147483647 31 (by decide) (by decide)
  have h2 := (c_irem (x &&& (2147483647 : Int32)) (32 : Int32) 32 rfl).1 (by rw [h1]; omega)
  rw [h1] at h2
  have h3 : (32 : Int32).toInt = 32 := rfl
  have h4 : (0 : Int32).toInt = 0 := rfl
  rw [Int32.lt_iff_toInt_lt, Int32.lt_iff_toInt_lt]
  omega
theorem own_modr33 (x : Int32) : ¬ (((x &&& (2147483647 : Int32)) % (33 : Int32)) < (0 : Int32)) ∧ ((x &&& (2147483647 : Int32)) % (33 : Int32)) < (33 : Int32) := by
  have h1 := c_mask x 2147483647 31 (by decide) (by decide)
  have h2 := (c_irem (x &&& (2147483647 : Int32)) (33 : Int32) 33 rfl).1 (by rw [h1]; omega)
  rw [h1] at h2
  have h3 : (33 : Int32).toInt = 33 := rfl
  have h4 : (0 : Int32).toInt = 0 := rfl
  rw [Int32.lt_iff_toInt_lt, Int32.lt_iff_toInt_lt]
  omega
theorem own_modr34 (x : Int32) : ¬ (((x &&& (2147483647 : Int32)) % (34 : Int32)) < (0 : Int32)) ∧ ((x &&& (2147483647 : Int32)) % (34 : Int32)) < (34 : Int32) := by
  have h1 := c_mask x 2147483647 31 (by decide) (by decide)
  have h2 := (c_irem (x &&& (2147483647 : Int32)) (34 : Int32) 34 rfl).1 (by rw [h1]; omega)
  rw [h1] at h2
  have h3 : (34 : Int32).toInt = 34 := rfl
  have h4 : (0 : Int32).toInt = 0 := rfl
  rw [Int32.lt_iff_toInt_lt, Int32.lt_iff_toInt_lt]
  omega
theorem own_modr35 (x : Int32) : ¬ (((x &&& (2147483647 : Int32)) % (35 : Int32)) < (0 : Int32)) ∧ ((x &&& (2147483647 : Int32)) % (35 : Int32)) < (35 : Int32) := by
  have h1 := c_mask x 2147483647 31 (by decide) (by decide)
  have h2 := (c_irem (x &&& (2147483647 : Int32)) (35 : Int32) 35 rfl).1 (by rw [h1]; omega)
  rw [h1] at h2
  have h3 : (35 : Int32).toInt = 35 := rfl
  have h4 : (0 : Int32).toInt = 0 := rfl
  rw [Int32.lt_iff_toInt_lt, Int32.lt_iff_toInt_lt]
  omega
theorem own_e0 (x : Int32) : ¬ (((0 : Int32) + (x &&& (31 : Int32))) < (0 : Int32)) ∧ ((0 : Int32) + (x &&& (31 : Int32))) < (32 : Int32) ∧ ((0 : Int32) + (x &&& (31 : Int32))).toNatClampNeg = 0 + (x &&& (31 : Int32)).toNatClampNeg := by
  have h1 := c_mask x 31 5 (by decide) (by decide)
  have h2 := c_iadd (0 : Int32) (x &&& (31 : Int32))
  have h3 := rng32 ((0 : Int32) + (x &&& (31 : Int32)))
  have h4 : (0 : Int32).toInt = 0 := rfl
  have h5 : (0 : Int32).toInt = 0 := rfl
  have h6 : (32 : Int32).toInt = 32 := rfl
  rw [Int32.lt_iff_toInt_lt, Int32.lt_iff_toInt_lt]
  simp only [Int32.toNatClampNeg]
  omega
theorem own_e1 (x : Int32) : ¬ (((1 : Int32) + (x &&& (31 : Int32))) < (0 : Int32)) ∧ ((1 : Int32) + (x &&& (31 : Int32))) < (33 : Int32) ∧ ((1 : Int32) + (x &&& (31 : Int32))).toNatClampNeg = 1 + (x &&& (31 : Int32)).toNatClampNeg := by
  have h1 := c_mask x 31 5 (by decide) (by decide)
  have h2 := c_iadd (1 : Int32) (x &&& (31 : Int32))
  have h3 := rng32 ((1 : Int32) + (x &&& (31 : Int32)))
  have h4 : (0 : Int32).toInt = 0 := rfl
  have h5 : (1 : Int32).toInt = 1 := rfl
  have h6 : (33 : Int32).toInt = 33 := rfl
  rw [Int32.lt_iff_toInt_lt, Int32.lt_iff_toInt_lt]
  simp only [Int32.toNatClampNeg]
  omega
theorem own_e2 (x : Int32) : ¬ (((2 : Int32) + (x &&& (31 : Int32))) < (0 : Int32)) ∧ ((2 : Int32) + (x &&& (31 : Int32))) < (34 : Int32) ∧ ((2 : Int32) + (x &&& (31 : Int32))).toNatClampNeg = 2 + (x &&& (31 : Int32)).toNatClampNeg := by
  have h1 := c_mask x 31 5 (by decide) (by decide)
  have h2 := c_iadd (2 : Int32) (x &&& (31 : Int32))
  have h3 := rng32 ((2 : Int32) + (x &&& (31 : Int32)))
  have h4 : (0 : Int32).toInt = 0 := rfl
  have h5 : (2 : Int32).toInt = 2 := rfl
  have h6 : (34 : Int32).toInt = 34 := rfl
  rw [Int32.lt_iff_toInt_lt, Int32.lt_iff_toInt_lt]
  simp only [Int32.toNatClampNeg]
  omega
theorem own_e3 (x : Int32) : ¬ (((3 : Int32) + (x &&& (31 : Int32))) < (0 : Int32)) ∧ ((3 : Int32) + (x &&& (31 : Int32))) < (35 : Int32) ∧ ((3 : Int32) + (x &&& (31 : Int32))).toNatClampNeg = 3 + (x &&& (31 : Int32)).toNatClampNeg := by
  have h1 := c_mask x 31 5 (by decide) (by decide)
  have h2 := c_iadd (3 : Int32) (x &&& (31 : Int32))
  have h3 := rng32 ((3 : Int32) + (x &&& (31 : Int32)))
  have h4 : (0 : Int32).toInt = 0 := rfl
  have h5 : (3 : Int32).toInt = 3 := rfl
  have h6 : (35 : Int32).toInt = 35 := rfl
  rw [Int32.lt_iff_toInt_lt, Int32.lt_iff_toInt_lt]
  simp only [Int32.toNatClampNeg]
  omega
theorem own_i (x : Int32) : ¬ ((x &&& (31 : Int32)) < (0 : Int32)) ∧ (x &&& (31 : Int32)) < (32 : Int32) ∧ True := by
  have h1 := c_mask x 31 5 (by decide) (by decide)
  have h4 : (0 : Int32).toInt = 0 := rfl
  have h6 : (32 : Int32).toInt = 32 := rfl
  rw [Int32.lt_iff_toInt_lt, Int32.lt_iff_toInt_lt]
  exact ⟨by omega, by omega, trivial⟩
theorem own_at (g : Nat → Int32) {e k j : Nat} (h : j = e + k) : (fun k => g (e + k)) k = g j := by rw [h]
theorem own_at0 (g : Nat → Int32) {k j : Nat} (h : j = 0 + k) : g k = g j := by rw [h, Nat.zero_add]
theorem d1_0 : decode prog_22_method_7_code 0 = .ok (.aload_n 0, 1) := by decide +kernel
theorem d1_1 : decode prog_22_method_7_code 1 = .ok (.aload_n 0, 1) := by decide +kernel
theorem d1_2 : decode prog_22_method_7_code 2 = .ok (.arraylength, 1) := by decide +kernel
theorem d1_3 : decode prog_22_method_7_code 3 = .ok (.bipush 32, 2) := by decide +kernel
theorem d1_5 : decode prog_22_method_7_code 5 = .ok (.isub, 1) := by decide +kernel
theorem d1_6 : decode prog_22_method_7_code 6 = .ok (.aload_n 0, 1) := by decide +kernel
theorem d1_7 : decode prog_22_method_7_code 7 = .ok (.arraylength, 1) := by decide +kernel
theorem d1_8 : decode prog_22_method_7_code 8 = .ok (.invokestatic 128, 3) := by decide +kernel
theorem d2_0 : decode jdk_65_method_132_code 0 = .ok (.iload_n 1, 1) := by decide +kernel
theorem d2_1 : decode jdk_65_method_132_code 1 = .ok (.ifCond .ne 9, 3) := by decide +kernel
theorem d2_4 : decode jdk_65_method_132_code 4 = .ok (.iload_n 2, 1) := by decide +kernel
theorem d2_5 : decode jdk_65_method_132_code 5 = .ok (.aload_n 0, 1) := by decide +kernel
theorem d2_6 : decode jdk_65_method_132_code 6 = .ok (.arraylength, 1) := by decide +kernel
theorem d2_7 : decode jdk_65_method_132_code 7 = .ok (.if_icmp .eq 10, 3) := by decide +kernel
theorem d2_17 : decode jdk_65_method_132_code 17 = .ok (.aload_n 0, 1) := by decide +kernel
theorem d2_18 : decode jdk_65_method_132_code 18 = .ok (.invokevirtual 310, 3) := by decide +kernel
theorem d2_21 : decode jdk_65_method_132_code 21 = .ok (.checkcast 311, 3) := by decide +kernel
theorem d2_24 : decode jdk_65_method_132_code 24 = .ok (.areturn, 1) := by decide +kernel
theorem pn_0 : plainName "java/util/Arrays" = true := by first | (simp [plainName, overriddenIn]; done) | decide +kernel
theorem efcopyOfRange2 (m : MethodId) (o0_ : Addr) : entryFrame m #[(.ref o0_), (.int (0 : Int32)), (.int (32 : Int32))] 3 = mkF m 0 #[.val (.ref o0_), .val (.int (0 : Int32)), .val (.int (32 : Int32))] [] := by first | (simp [entryFrame, mkF, argsToLocals, Value.category]; done) | rfl
def QcopyOfRange2 (Z : State) (o0_ : Addr) (ko0_ : ClassId) (fo0_ : Nat → Int32) (h0 : Heap) (n0 : Nat) (v : Option Value) (h : Heap) (L : List Loc) : Prop := ∃ nb2 : Addr, v = some (.ref nb2) ∧ Fr n0 L ∧ Keep h0 h [] ∧ h0.size ≤ nb2 ∧ Arv Z h nb2 ko0_ .byte (32 : Int32) (own_l 32 fo0_) (.int (0 : Int32)) ∧ Exa Z h nb2 "[B"
set_option maxRecDepth 65536 in
set_option maxHeartbeats 40000000 in
theorem rmcopyOfRange2 (l : Launch) (Z : State) (a0 : Array Value) (hw : ∀ d ∈ tables_1, d.before a0 Z = true) (ws : List Jvm.Cond) (o0_ : Addr) (ko0_ : ClassId) (fo0_ : Nat → Int32) (h0 : Heap) (n0 : Nat) (O0 : Old Z n0 h0) (P0 : Arv Z h0 o0_ ko0_ .byte (32 : Int32) (own_l 32 fo0_) (.int (0 : Int32))) (P1 : Exa Z h0 o0_ "[B") :
    MetFree l (⟨"java/util/Arrays", "copyOfRange", "([BII)[B"⟩ : MethodName) (head1 (Jvm.Cond.code (⟨"java/util/Arrays", "copyOfRange", "([BII)[B"⟩ : MethodName) jdk_65_method_132_code 3 (some (.array .byte)) :: ws) ({ frames := 1, cells := 1, slots := 32, locals := 14 } : Room)) (fun a U => a = #[(.ref o0_), (.int (0 : Int32)), (.int (32 : Int32))] ∧ Z.Warmed39 U.vm ∧ U.heap = h0) (fun _ _ _ _ _ => True) (fun _ U o U' => ∃ v L, o = .returned v ∧ QcopyOfRange2 Z o0_ ko0_ fo0_ h0 n0 v U'.heap L ∧ FrameEnd U o U' L ({ frames := 1, cells := 1, slots := 32, locals := 14 } : Room).cells ({ frames := 1, cells := 1, slots := 32, locals := 14 } : Room).slots) := by
  refine MetFree.of_bodySF (plainFor_of_name pn_0) hisR ?_
  intro p e s m args below meth c s₁ Bd hml0 hP hK
  obtain ⟨rfl, hZ, hh⟩ := hP
  have hx := Bd.exec
  have hby := Bd.bytes
  have hml : c.maxLocals = 3 := hml0
  have hown : s.vm.findClass "java/util/Arrays" = some m.cls := findClass_of_methodNamed Bd.named
  have hnm := (name_of_methodNamed Bd.named Bd.method).1
  have X0 : Stand p l e ({ frames := 1, cells := 1, slots := 32, locals := 14 } : Room) s m #[(.ref o0_), (.int (0 : Int32)), (.int (32 : Int32))] below meth c s₁ [] 0 0 := Stand.of_body Bd
  have e0 : s₁.heap = h0 := by rw [← hh, Bd.state]; rfl
  have N0 := Fr.nil n0
  have pre0 : ∀ t, Steps p.tables e below (s₁.setTop (mkF m 0 #[.val (.ref o0_), .val (.int (0 : Int32)), .val (.int (32 : Int32))] [])) t → Steps p.tables e below (s₁.setTop (entryFrame m #[(.ref o0_), (.int (0 : Int32)), (.int (32 : Int32))] 3)) t := fun t k => castTop (efcopyOfRange2 m o0_) k
  have K0 : Keep h0 h0 [] := Keep.refl _ _
  obtain ⟨c1, r1, q1, s1, z1, y1, G1⟩ := id P0
  obtain ⟨T2, h2, X2, e2, E2, A2, Z2, st2⟩ := cloneH X0 hx hZ hown (hw _ (List.mem_of_getElem? (i := 10) rfl)) (hw _ (List.mem_of_getElem? (i := 11) rfl)) (hw _ (List.mem_of_getElem? (i := 15) rfl)) (hw _ (List.mem_of_getElem? (i := 13) rfl)) (hw _ (List.mem_of_getElem? (i := 14) rfl)) (hw _ (List.mem_of_getElem? (i := 16) rfl)) e0 P0.arh P1 (g := (mkF m 18 #[.val (.ref o0_), .val (.int (0 : Int32)), .val (.int (32 : Int32))] [(.ref o0_)])) rfl (by rw [hml]; rfl) rfl (hb hby d2_18) (by decide) (W := 0) (cap := 32) (by show 2 * 0 + _ ≤ _; exact Nat.le_of_eq rfl) (by decide) (by decide) (by decide) (by decide)
  obtain ⟨b2, g2⟩ : ∃ z, z = h0.size := ⟨_, rfl⟩
  rw [← g2] at A2 Z2 st2
  have ge3 : n0 ≤ b2 := Nat.le_trans (Nat.le_trans (Nat.le_of_eq O0.1.symm) O0.2.1) (Nat.le_of_eq g2.symm)
  have sz4 : h0.size ≤ b2 := Nat.le_trans K0.1 (Nat.le_of_eq g2.symm)
  have f5 : Arv Z h2 b2 ko0_ .byte (32 : Int32) (own_l 32 fo0_) (.int (0 : Int32)) := A2
  obtain ⟨T6, X6, e6, st6⟩ := castY X2 hx hZ hown (hw _ (List.mem_of_getElem? (i := 17) rfl)) e2 (Ins.self Z2) (g := (mkF m 21 #[.val (.ref o0_), .val (.int (0 : Int32)), .val (.int (32 : Int32))] [(.ref b2)])) rfl rfl (hb hby d2_21)
  have pre7 : ∀ t, Steps p.tables e below (T6.setTop (mkF m 24 #[.val (.ref o0_), .val (.int (0 : Int32)), .val (.int (32 : Int32))] [(.ref b2)])) t → Steps p.tables e below (s₁.setTop (entryFrame m #[(.ref o0_), (.int (0 : Int32)), (.int (32 : Int32))] 3)) t := by
    intro t kt
    refine pre0 t ?_
    show Steps p.tables e below (s₁.setTop (mkF m 0 #[.val (.ref o0_), .val (.int (0 : Int32)), .val (.int (32 : Int32))] [])) _
    refine XS.iloadN X0.here hx rfl (hb hby d2_0) rfl ?_
    show Steps p.tables e below (s₁.setTop (mkF m 1 #[.val (.ref o0_), .val (.int (0 : Int32)), .val (.int (32 : Int32))] [(.int (0 : Int32))])) _
    refine XS.ifNo X0.here hx rfl (hb hby d2_1) rfl ((if0 _ _).trans (teq (by decide : (0 : Int32) = (0 : Int32))).2) ?_
    show Steps p.tables e below (s₁.setTop (mkF m 4 #[.val (.ref o0_), .val (.int (0 : Int32)), .val (.int (32 : Int32))] [])) _
    refine XS.iloadN X0.here hx rfl (hb hby d2_4) rfl ?_
    show Steps p.tables e below (s₁.setTop (mkF m 5 #[.val (.ref o0_), .val (.int (0 : Int32)), .val (.int (32 : Int32))] [(.int (32 : Int32))])) _
    refine XS.aloadN X0.here hx rfl (hb hby d2_5) rfl rfl ?_
    show Steps p.tables e below (s₁.setTop (mkF m 6 #[.val (.ref o0_), .val (.int (0 : Int32)), .val (.int (32 : Int32))] [(.ref o0_), (.int (32 : Int32))])) _
    refine X0.arraylength hx (by rw [e0]; exact r1.1) (State.isArrayOf_alike hZ.alike r1.2.1) (g := (mkF m 6 #[.val (.ref o0_), .val (.int (0 : Int32)), .val (.int (32 : Int32))] [(.ref o0_), (.int (32 : Int32))])) rfl rfl (hb hby d2_6) _ ?_
    rw [len_of s1 z1]
    show Steps p.tables e below (s₁.setTop (mkF m 7 #[.val (.ref o0_), .val (.int (0 : Int32)), .val (.int (32 : Int32))] [(.int (32 : Int32)), (.int (32 : Int32))])) _
    refine XS.icmpYes X0.here hx rfl (pc0 := 7) (pc' := 17) rfl (hb hby d2_7) rfl (teq (by decide : (32 : Int32) = (32 : Int32))).1 (by decide) (by decide) ?_
    show Steps p.tables e below (s₁.setTop (mkF m 17 #[.val (.ref o0_), .val (.int (0 : Int32)), .val (.int (32 : Int32))] [])) _
    refine XS.aloadN X0.here hx rfl (hb hby d2_17) rfl rfl ?_
    show Steps p.tables e below (s₁.setTop (mkF m 18 #[.val (.ref o0_), .val (.int (0 : Int32)), .val (.int (32 : Int32))] [(.ref o0_)])) _
    refine st2 _ ?_
    show Steps p.tables e below (T2.setTop (mkF m 21 #[.val (.ref o0_), .val (.int (0 : Int32)), .val (.int (32 : Int32))] [(.ref b2)])) _
    refine st6 _ ?_
    exact kt
  have f9 : Keep h0 h2 [] := K0.ext E2
  obtain ⟨fs, hr, hrun, hended, hW, hsame⟩ := X6.leave (v := some (.ref b2)) (fun h => by rw [Bd.returns] at h; cases h)
  refine ⟨_, _, pre7 _ (retOut X6 hx Bd.returns rfl (Or.inr (Or.inr (Or.inr (Or.inr ⟨rfl, rfl, rfl⟩)))) (hb hby d2_24) hr), hrun, hended, _, _, rfl, ?_, ⟨_, rfl⟩, hW, hsame.mono (by decide) (by decide)⟩
  show QcopyOfRange2 Z o0_ ko0_ fo0_ h0 n0 _ T6.heap _
  rw [e6]
  exact ⟨b2, rfl, N0, f9, sz4, f5, Z2⟩
theorem pd_0 : parseMethodDescriptor "([BII)[B" = some ⟨[(.array .byte), .int, .int], some (.array .byte)⟩ := by decide +kernel
theorem d1_11 : decode prog_22_method_7_code 11 = .ok (.areturn, 1) := by decide +kernel
theorem pn_1 : plainName "com/example/aeacus/aeacus/log/Chain" = true := by first | (simp [plainName, overriddenIn]; done) | decide +kernel
theorem efvalue1 (m : MethodId) (o0_ : Addr) : entryFrame m #[(.ref o0_)] 1 = mkF m 0 #[.val (.ref o0_)] [] := by first | (simp [entryFrame, mkF, argsToLocals, Value.category]; done) | rfl
def Qvalue1 (Z : State) (o0_ : Addr) (ko0_ : ClassId) (fo0_ : Nat → Int32) (h0 : Heap) (n0 : Nat) (v : Option Value) (h : Heap) (L : List Loc) : Prop := ∃ nnb2_3 : Addr, v = some (.ref nnb2_3) ∧ Fr n0 L ∧ Keep h0 h [] ∧ h0.size ≤ nnb2_3 ∧ Arv Z h nnb2_3 ko0_ .byte (32 : Int32) (own_l 32 fo0_) (.int (0 : Int32)) ∧ Exa Z h nnb2_3 "[B"
set_option maxRecDepth 65536 in
set_option maxHeartbeats 40000000 in
theorem rmvalue1 (l : Launch) (Z : State) (a0 : Array Value) (hw : ∀ d ∈ tables_1, d.before a0 Z = true) (ws : List Jvm.Cond) (o0_ : Addr) (ko0_ : ClassId) (fo0_ : Nat → Int32) (h0 : Heap) (n0 : Nat) (O0 : Old Z n0 h0) (P0 : Arv Z h0 o0_ ko0_ .byte (32 : Int32) (own_l 32 fo0_) (.int (0 : Int32))) (P1 : Exa Z h0 o0_ "[B") :
    MetFree l (⟨"com/example/aeacus/aeacus/log/Chain", "value", "([B)[B"⟩ : MethodName) (head1 (Jvm.Cond.code (⟨"com/example/aeacus/aeacus/log/Chain", "value", "([B)[B"⟩ : MethodName) prog_22_method_7_code 1 (some (.array .byte)) :: ws) ({ frames := 2, cells := 1, slots := 32, locals := 28 } : Room)) (fun a U => a = #[(.ref o0_)] ∧ Z.Warmed39 U.vm ∧ U.heap = h0) (fun _ _ _ _ _ => True) (fun _ U o U' => ∃ v L, o = .returned v ∧ Qvalue1 Z o0_ ko0_ fo0_ h0 n0 v U'.heap L ∧ FrameEnd U o U' L ({ frames := 2, cells := 1, slots := 32, locals := 28 } : Room).cells ({ frames := 2, cells := 1, slots := 32, locals := 28 } : Room).slots) := by
  refine MetFree.of_bodySF (plainFor_of_name pn_1) hisR ?_
  intro p e s m args below meth c s₁ Bd hml0 hP hK
  obtain ⟨rfl, hZ, hh⟩ := hP
  have hx := Bd.exec
  have hby := Bd.bytes
  have hml : c.maxLocals = 1 := hml0
  have hown : s.vm.findClass "com/example/aeacus/aeacus/log/Chain" = some m.cls := findClass_of_methodNamed Bd.named
  have hnm := (name_of_methodNamed Bd.named Bd.method).1
  have X0 : Stand p l e ({ frames := 2, cells := 1, slots := 32, locals := 28 } : Room) s m #[(.ref o0_)] below meth c s₁ [] 0 0 := Stand.of_body Bd
  have e0 : s₁.heap = h0 := by rw [← hh, Bd.state]; rfl
  have N0 := Fr.nil n0
  have pre0 : ∀ t, Steps p.tables e below (s₁.setTop (mkF m 0 #[.val (.ref o0_)] [])) t → Steps p.tables e below (s₁.setTop (entryFrame m #[(.ref o0_)] 1)) t := fun t k => castTop (efvalue1 m o0_) k
  have K0 : Keep h0 h0 [] := Keep.refl _ _
  obtain ⟨c1, r1, q1, s1, z1, y1, G1⟩ := id P0
  obtain ⟨c2, r2, q2, s2, z2, y2, G2⟩ := id P0
  obtain ⟨_, _, ⟨T3, L3, k3, n3⟩, -, X3, ⟨Lc3, hQ3, l3, y3, z3⟩, st3⟩ := Jvm.LawKit.callS X0 hx (y := (⟨"java/util/Arrays", "copyOfRange", "([BII)[B"⟩ : MethodName)) hown (mvT hZ (hw _ (List.mem_of_getElem? (i := 6) rfl))) (mvT hZ (hw _ (List.mem_of_getElem? (i := 7) rfl))) (mvT hZ (hw _ (List.mem_of_getElem? (i := 8) rfl))) (mvT hZ (hw _ (List.mem_of_getElem? (i := 9) rfl))) (by decide) (backOf (W := 0) (rmcopyOfRange2 l Z a0 hw [] o0_ ko0_ fo0_ h0 n0 O0 P0 P1) hZ (hw _ (List.mem_of_getElem? (i := 9) rfl)) (hw _ (List.mem_of_getElem? (i := 8) rfl)) (by decide) (by decide)) (g := (mkF m 8 #[.val (.ref o0_)] [(.int (32 : Int32)), (.int (0 : Int32)), (.ref o0_)])) rfl (by rw [hml]; rfl) (argsL := [(.ref o0_), (.int (0 : Int32)), (.int (32 : Int32))]) (rest := []) (lenOf pd_0 rfl) rfl (by show 2 * 0 + _ ≤ _; exact Nat.le_of_eq rfl) (hb hby d1_8) (fun _ _ => ⟨rfl, e0, (by decide : 0 + 1 ≤ _), (by decide : 0 + 32 ≤ _)⟩)
  dsimp only [Pt.U, Pt.locs, Pt.cells, Pt.slots] at X3 l3 y3 z3 st3 hQ3
  subst l3 y3 z3
  obtain ⟨h3, e3⟩ : ∃ z, T3.heap = z := ⟨_, rfl⟩
  rw [e3] at hQ3
  obtain ⟨nb2_3, rfl, N3q, K3, sznb2_3, g3_0, g3_1⟩ := hQ3
  have N4 := Fr.app N0 N3q
  have ge5 : n0 ≤ nb2_3 := Nat.le_trans (Nat.le_trans (Nat.le_of_eq O0.1.symm) O0.2.1) sznb2_3
  have sz6 : h0.size ≤ nb2_3 := Nat.le_trans K0.1 sznb2_3
  have pre7 : ∀ t, Steps p.tables e below (T3.setTop (mkF m 11 #[.val (.ref o0_)] [(.ref nb2_3)])) t → Steps p.tables e below (s₁.setTop (entryFrame m #[(.ref o0_)] 1)) t := by
    intro t kt
    refine pre0 t ?_
    show Steps p.tables e below (s₁.setTop (mkF m 0 #[.val (.ref o0_)] [])) _
    refine XS.aloadN X0.here hx rfl (hb hby d1_0) rfl rfl ?_
    show Steps p.tables e below (s₁.setTop (mkF m 1 #[.val (.ref o0_)] [(.ref o0_)])) _
    refine XS.aloadN X0.here hx rfl (hb hby d1_1) rfl rfl ?_
    show Steps p.tables e below (s₁.setTop (mkF m 2 #[.val (.ref o0_)] [(.ref o0_), (.ref o0_)])) _
    refine X0.arraylength hx (by rw [e0]; exact r1.1) (State.isArrayOf_alike hZ.alike r1.2.1) (g := (mkF m 2 #[.val (.ref o0_)] [(.ref o0_), (.ref o0_)])) rfl rfl (hb hby d1_2) _ ?_
    rw [len_of s1 z1]
    show Steps p.tables e below (s₁.setTop (mkF m 3 #[.val (.ref o0_)] [(.int (32 : Int32)), (.ref o0_)])) _
    refine XS.bipush X0.here hx rfl (hb hby d1_3) ?_
    show Steps p.tables e below (s₁.setTop (mkF m 5 #[.val (.ref o0_)] [(.int (32 : Int32)), (.int (32 : Int32)), (.ref o0_)])) _
    refine XS.isub X0.here hx rfl (hb hby d1_5) rfl ?_
    show Steps p.tables e below (s₁.setTop (mkF m 6 #[.val (.ref o0_)] [(.int (0 : Int32)), (.ref o0_)])) _
    refine XS.aloadN X0.here hx rfl (hb hby d1_6) rfl rfl ?_
    show Steps p.tables e below (s₁.setTop (mkF m 7 #[.val (.ref o0_)] [(.ref o0_), (.int (0 : Int32)), (.ref o0_)])) _
    refine X0.arraylength hx (by rw [e0]; exact r2.1) (State.isArrayOf_alike hZ.alike r2.2.1) (g := (mkF m 7 #[.val (.ref o0_)] [(.ref o0_), (.int (0 : Int32)), (.ref o0_)])) rfl rfl (hb hby d1_7) _ ?_
    rw [len_of s2 z2]
    show Steps p.tables e below (s₁.setTop (mkF m 8 #[.val (.ref o0_)] [(.int (32 : Int32)), (.int (0 : Int32)), (.ref o0_)])) _
    refine st3 _ ?_
    exact kt
  have f9 : Keep h0 h3 [] := K0.trans K3 all0
  obtain ⟨fs, hr, hrun, hended, hW, hsame⟩ := X3.leave (v := some (.ref nb2_3)) (fun h => by rw [Bd.returns] at h; cases h)
  refine ⟨_, _, pre7 _ (retOut X3 hx Bd.returns rfl (Or.inr (Or.inr (Or.inr (Or.inr ⟨rfl, rfl, rfl⟩)))) (hb hby d1_11) hr), hrun, hended, _, _, rfl, ?_, ⟨_, rfl⟩, hW, hsame.mono (by decide) (by decide)⟩
  show Qvalue1 Z o0_ ko0_ fo0_ h0 n0 _ T3.heap _
  rw [e3]
  exact ⟨nb2_3, rfl, N4, f9, sz6, g3_0, g3_1⟩
theorem pd_1 : parseMethodDescriptor "([B)[B" = some ⟨[(.array .byte)], some (.array .byte)⟩ := by decide +kernel
theorem d2_10 : decode jdk_65_method_132_code 10 = .ok (.aload_n 0, 1) := by decide +kernel
theorem d2_11 : decode jdk_65_method_132_code 11 = .ok (.iload_n 1, 1) := by decide +kernel
theorem d2_12 : decode jdk_65_method_132_code 12 = .ok (.iload_n 2, 1) := by decide +kernel
theorem d2_13 : decode jdk_65_method_132_code 13 = .ok (.invokestatic 339, 3) := by decide +kernel
theorem d3_0 : decode jdk_65_method_133_code 0 = .ok (.iload_n 1, 1) := by decide +kernel
theorem d3_1 : decode jdk_65_method_133_code 1 = .ok (.iload_n 2, 1) := by decide +kernel
theorem d3_2 : decode jdk_65_method_133_code 2 = .ok (.invokestatic 343, 3) := by decide +kernel
theorem d4_0 : decode jdk_65_method_131_code 0 = .ok (.iload_n 1, 1) := by decide +kernel
theorem d4_1 : decode jdk_65_method_131_code 1 = .ok (.iload_n 0, 1) := by decide +kernel
theorem d4_2 : decode jdk_65_method_131_code 2 = .ok (.if_icmp .ge 35, 3) := by decide +kernel
theorem d4_37 : decode jdk_65_method_131_code 37 = .ok (.return_, 1) := by decide +kernel
theorem efcheckLength6 (m : MethodId)  : entryFrame m #[(.int (1 : Int32)), (.int (33 : Int32))] 2 = mkF m 0 #[.val (.int (1 : Int32)), .val (.int (33 : Int32))] [] := by first | (simp [entryFrame, mkF, argsToLocals, Value.category]; done) | rfl
def QcheckLength6 (Z : State)  (h0 : Heap) (n0 : Nat) (v : Option Value) (h : Heap) (L : List Loc) : Prop := v = none ∧ Fr n0 L ∧ h = h0
set_option maxRecDepth 65536 in
set_option maxHeartbeats 40000000 in
theorem rmcheckLength6 (l : Launch) (Z : State) (a0 : Array Value) (hw : ∀ d ∈ tables_1, d.before a0 Z = true) (ws : List Jvm.Cond)  (h0 : Heap) (n0 : Nat) (O0 : Old Z n0 h0)  :
    MetFree l (⟨"java/util/Arrays", "checkLength", "(II)V"⟩ : MethodName) (head1 (Jvm.Cond.code (⟨"java/util/Arrays", "checkLength", "(II)V"⟩ : MethodName) jdk_65_method_131_code 2 none :: ws) ({ frames := 0, cells := 0, slots := 0, locals := 0 } : Room)) (fun a U => a = #[(.int (1 : Int32)), (.int (33 : Int32))] ∧ Z.Warmed39 U.vm ∧ U.heap = h0) (fun _ _ _ _ _ => True) (fun _ U o U' => ∃ v L, o = .returned v ∧ QcheckLength6 Z  h0 n0 v U'.heap L ∧ FrameEnd U o U' L ({ frames := 0, cells := 0, slots := 0, locals := 0 } : Room).cells ({ frames := 0, cells := 0, slots := 0, locals := 0 } : Room).slots) := by
  refine MetFree.of_bodySF (plainFor_of_name pn_0) hisR ?_
  intro p e s m args below meth c s₁ Bd hml0 hP hK
  obtain ⟨rfl, hZ, hh⟩ := hP
  have hx := Bd.exec
  have hby := Bd.bytes
  have hml : c.maxLocals = 2 := hml0
  have hown : s.vm.findClass "java/util/Arrays" = some m.cls := findClass_of_methodNamed Bd.named
  have hnm := (name_of_methodNamed Bd.named Bd.method).1
  have X0 : Stand p l e ({ frames := 0, cells := 0, slots := 0, locals := 0 } : Room) s m #[(.int (1 : Int32)), (.int (33 : Int32))] below meth c s₁ [] 0 0 := Stand.of_body Bd
  have e0 : s₁.heap = h0 := by rw [← hh, Bd.state]; rfl
  have N0 := Fr.nil n0
  have pre0 : ∀ t, Steps p.tables e below (s₁.setTop (mkF m 0 #[.val (.int (1 : Int32)), .val (.int (33 : Int32))] [])) t → Steps p.tables e below (s₁.setTop (entryFrame m #[(.int (1 : Int32)), (.int (33 : Int32))] 2)) t := fun t k => castTop (efcheckLength6 m ) k
  have K0 : Keep h0 h0 [] := Keep.refl _ _
  have pre1 : ∀ t, Steps p.tables e below (s₁.setTop (mkF m 37 #[.val (.int (1 : Int32)), .val (.int (33 : Int32))] [])) t → Steps p.tables e below (s₁.setTop (entryFrame m #[(.int (1 : Int32)), (.int (33 : Int32))] 2)) t := by
    intro t kt
    refine pre0 t ?_
    show Steps p.tables e below (s₁.setTop (mkF m 0 #[.val (.int (1 : Int32)), .val (.int (33 : Int32))] [])) _
    refine XS.iloadN X0.here hx rfl (hb hby d4_0) rfl ?_
    show Steps p.tables e below (s₁.setTop (mkF m 1 #[.val (.int (1 : Int32)), .val (.int (33 : Int32))] [(.int (33 : Int32))])) _
    refine XS.iloadN X0.here hx rfl (hb hby d4_1) rfl ?_
    show Steps p.tables e below (s₁.setTop (mkF m 2 #[.val (.int (1 : Int32)), .val (.int (33 : Int32))] [(.int (1 : Int32)), (.int (33 : Int32))])) _
    refine XS.icmpYes X0.here hx rfl (pc0 := 2) (pc' := 37) rfl (hb hby d4_2) rfl (flt (by decide : ¬ ((33 : Int32) < (1 : Int32)))).2.1 (by decide) (by decide) ?_
    exact kt
  obtain ⟨fs, hr, hrun, hended, hW, hsame⟩ := X0.leave (v := none) (fun _ => rfl)
  refine ⟨_, _, pre1 _ (X0.returnOut hx Bd.returns (hb hby d4_37) hr), hrun, hended, _, _, rfl, ?_, ⟨_, rfl⟩, hW, hsame.mono (by decide) (by decide)⟩
  show QcheckLength6 Z  h0 n0 _ s₁.heap _
  rw [e0]
  exact ⟨rfl, N0, rfl⟩
theorem pd_2 : parseMethodDescriptor "(II)V" = some ⟨[.int, .int], none⟩ := by decide +kernel
theorem d3_5 : decode jdk_65_method_133_code 5 = .ok (.iload_n 2, 1) := by decide +kernel
theorem d3_6 : decode jdk_65_method_133_code 6 = .ok (.iload_n 1, 1) := by decide +kernel
theorem d3_7 : decode jdk_65_method_133_code 7 = .ok (.isub, 1) := by decide +kernel
theorem d3_8 : decode jdk_65_method_133_code 8 = .ok (.istore_n 3, 1) := by decide +kernel
theorem d3_9 : decode jdk_65_method_133_code 9 = .ok (.iload_n 3, 1) := by decide +kernel
theorem d3_10 : decode jdk_65_method_133_code 10 = .ok (.newarray .byte, 2) := by decide +kernel
theorem d3_12 : decode jdk_65_method_133_code 12 = .ok (.astore 4, 2) := by decide +kernel
theorem d3_14 : decode jdk_65_method_133_code 14 = .ok (.aload_n 0, 1) := by decide +kernel
theorem d3_15 : decode jdk_65_method_133_code 15 = .ok (.iload_n 1, 1) := by decide +kernel
theorem d3_16 : decode jdk_65_method_133_code 16 = .ok (.aload 4, 2) := by decide +kernel
theorem d3_18 : decode jdk_65_method_133_code 18 = .ok (.iconst 0, 1) := by decide +kernel
theorem d3_19 : decode jdk_65_method_133_code 19 = .ok (.aload_n 0, 1) := by decide +kernel
theorem d3_20 : decode jdk_65_method_133_code 20 = .ok (.arraylength, 1) := by decide +kernel
theorem d3_21 : decode jdk_65_method_133_code 21 = .ok (.iload_n 1, 1) := by decide +kernel
theorem d3_22 : decode jdk_65_method_133_code 22 = .ok (.isub, 1) := by decide +kernel
theorem d3_23 : decode jdk_65_method_133_code 23 = .ok (.iload_n 3, 1) := by decide +kernel
theorem d3_24 : decode jdk_65_method_133_code 24 = .ok (.invokestatic 304, 3) := by decide +kernel
theorem d5_0 : decode jdk_29_method_69_code 0 = .ok (.iload_n 0, 1) := by decide +kernel
theorem d5_1 : decode jdk_29_method_69_code 1 = .ok (.iload_n 1, 1) := by decide +kernel
theorem d5_2 : decode jdk_29_method_69_code 2 = .ok (.if_icmp .gt 7, 3) := by decide +kernel
theorem d5_5 : decode jdk_29_method_69_code 5 = .ok (.iload_n 0, 1) := by decide +kernel
theorem d5_6 : decode jdk_29_method_69_code 6 = .ok (.goto 4, 3) := by decide +kernel
theorem d5_10 : decode jdk_29_method_69_code 10 = .ok (.ireturn, 1) := by decide +kernel
theorem efmin7 (m : MethodId)  : entryFrame m #[(.int (32 : Int32)), (.int (32 : Int32))] 2 = mkF m 0 #[.val (.int (32 : Int32)), .val (.int (32 : Int32))] [] := by first | (simp [entryFrame, mkF, argsToLocals, Value.category]; done) | rfl
def Qmin7 (Z : State)  (h0 : Heap) (n0 : Nat) (v : Option Value) (h : Heap) (L : List Loc) : Prop := v = some (.int (32 : Int32)) ∧ Fr n0 L ∧ h = h0
set_option maxRecDepth 65536 in
set_option maxHeartbeats 40000000 in
theorem rmmin7 (l : Launch) (Z : State) (a0 : Array Value) (hw : ∀ d ∈ tables_1, d.before a0 Z = true) (ws : List Jvm.Cond)  (h0 : Heap) (n0 : Nat) (O0 : Old Z n0 h0)  :
    MetFree l (⟨"java/lang/Math", "min", "(II)I"⟩ : MethodName) (head1 (Jvm.Cond.code (⟨"java/lang/Math", "min", "(II)I"⟩ : MethodName) jdk_29_method_69_code 2 (some .int) :: ws) ({ frames := 0, cells := 0, slots := 0, locals := 0 } : Room)) (fun a U => a = #[(.int (32 : Int32)), (.int (32 : Int32))] ∧ Z.Warmed39 U.vm ∧ U.heap = h0) (fun _ _ _ _ _ => True) (fun _ U o U' => ∃ v L, o = .returned v ∧ Qmin7 Z  h0 n0 v U'.heap L ∧ FrameEnd U o U' L ({ frames := 0, cells := 0, slots := 0, locals := 0 } : Room).cells ({ frames := 0, cells := 0, slots := 0, locals := 0 } : Room).slots) := by
  refine MetFree.of_bodySF (Jvm.Free.JP.mathPlain rfl (by decide +kernel)) hisR ?_
  intro p e s m args below meth c s₁ Bd hml0 hP hK
  obtain ⟨rfl, hZ, hh⟩ := hP
  have hx := Bd.exec
  have hby := Bd.bytes
  have hml : c.maxLocals = 2 := hml0
  have hown : s.vm.findClass "java/lang/Math" = some m.cls := findClass_of_methodNamed Bd.named
  have hnm := (name_of_methodNamed Bd.named Bd.method).1
  have X0 : Stand p l e ({ frames := 0, cells := 0, slots := 0, locals := 0 } : Room) s m #[(.int (32 : Int32)), (.int (32 : Int32))] below meth c s₁ [] 0 0 := Stand.of_body Bd
  have e0 : s₁.heap = h0 := by rw [← hh, Bd.state]; rfl
  have N0 := Fr.nil n0
  have pre0 : ∀ t, Steps p.tables e below (s₁.setTop (mkF m 0 #[.val (.int (32 : Int32)), .val (.int (32 : Int32))] [])) t → Steps p.tables e below (s₁.setTop (entryFrame m #[(.int (32 : Int32)), (.int (32 : Int32))] 2)) t := fun t k => castTop (efmin7 m ) k
  have K0 : Keep h0 h0 [] := Keep.refl _ _
  have pre1 : ∀ t, Steps p.tables e below (s₁.setTop (mkF m 10 #[.val (.int (32 : Int32)), .val (.int (32 : Int32))] [(.int (32 : Int32))])) t → Steps p.tables e below (s₁.setTop (entryFrame m #[(.int (32 : Int32)), (.int (32 : Int32))] 2)) t := by
    intro t kt
    refine pre0 t ?_
    show Steps p.tables e below (s₁.setTop (mkF m 0 #[.val (.int (32 : Int32)), .val (.int (32 : Int32))] [])) _
    refine XS.iloadN X0.here hx rfl (hb hby d5_0) rfl ?_
    show Steps p.tables e below (s₁.setTop (mkF m 1 #[.val (.int (32 : Int32)), .val (.int (32 : Int32))] [(.int (32 : Int32))])) _
    refine XS.iloadN X0.here hx rfl (hb hby d5_1) rfl ?_
    show Steps p.tables e below (s₁.setTop (mkF m 2 #[.val (.int (32 : Int32)), .val (.int (32 : Int32))] [(.int (32 : Int32)), (.int (32 : Int32))])) _
    refine XS.icmpNo X0.here hx rfl (hb hby d5_2) rfl (flt (by decide : ¬ ((32 : Int32) < (32 : Int32)))).2.2.1 ?_
    show Steps p.tables e below (s₁.setTop (mkF m 5 #[.val (.int (32 : Int32)), .val (.int (32 : Int32))] [])) _
    refine XS.iloadN X0.here hx rfl (hb hby d5_5) rfl ?_
    show Steps p.tables e below (s₁.setTop (mkF m 6 #[.val (.int (32 : Int32)), .val (.int (32 : Int32))] [(.int (32 : Int32))])) _
    refine XS.goto X0.here hx rfl (pc0 := 6) (pc' := 10) rfl (hb hby d5_6) (by decide) (by decide) ?_
    exact kt
  obtain ⟨fs, hr, hrun, hended, hW, hsame⟩ := X0.leave (v := some (.int (32 : Int32))) (fun h => by rw [Bd.returns] at h; cases h)
  refine ⟨_, _, pre1 _ (retOut X0 hx Bd.returns rfl (Or.inl ⟨rfl, Or.inl rfl, _, rfl⟩) (hb hby d5_10) hr), hrun, hended, _, _, rfl, ?_, ⟨_, rfl⟩, hW, hsame.mono (by decide) (by decide)⟩
  show Qmin7 Z  h0 n0 _ s₁.heap _
  rw [e0]
  exact ⟨rfl, N0, rfl⟩
theorem pd_3 : parseMethodDescriptor "(II)I" = some ⟨[.int, .int], some .int⟩ := by decide +kernel
theorem d3_27 : decode jdk_65_method_133_code 27 = .ok (.invokestatic 150, 3) := by decide +kernel
theorem d3_30 : decode jdk_65_method_133_code 30 = .ok (.aload 4, 2) := by decide +kernel
theorem d3_32 : decode jdk_65_method_133_code 32 = .ok (.areturn, 1) := by decide +kernel
theorem efcopyOfRangeByte5 (m : MethodId) (o0_ : Addr) : entryFrame m #[(.ref o0_), (.int (1 : Int32)), (.int (33 : Int32))] 5 = mkF m 0 #[.val (.ref o0_), .val (.int (1 : Int32)), .val (.int (33 : Int32)), .unset, .unset] [] := by first | (simp [entryFrame, mkF, argsToLocals, Value.category]; done) | rfl
def QcopyOfRangeByte5 (Z : State) (o0_ : Addr) (ko0_ : ClassId) (fo0_ : Nat → Int32) (h0 : Heap) (n0 : Nat) (v : Option Value) (h : Heap) (L : List Loc) : Prop := ∃ k3 : ClassId, ∃ nb3 : Addr, v = some (.ref nb3) ∧ Fr n0 L ∧ Keep h0 h [] ∧ h0.size ≤ nb3 ∧ Arv Z h nb3 k3 .byte (32 : Int32) (own_l 32 (fun k => fo0_ (1 + k))) (.int (0 : Int32)) ∧ Exa Z h nb3 "[B"
set_option maxRecDepth 65536 in
set_option maxHeartbeats 40000000 in
theorem rmcopyOfRangeByte5 (l : Launch) (Z : State) (a0 : Array Value) (hw : ∀ d ∈ tables_1, d.before a0 Z = true) (ws : List Jvm.Cond) (o0_ : Addr) (ko0_ : ClassId) (fo0_ : Nat → Int32) (h0 : Heap) (n0 : Nat) (O0 : Old Z n0 h0) (P0 : Arv Z h0 o0_ ko0_ .byte (33 : Int32) (own_l 33 fo0_) (.int (0 : Int32))) (P1 : Exa Z h0 o0_ "[B") :
    MetFree l (⟨"java/util/Arrays", "copyOfRangeByte", "([BII)[B"⟩ : MethodName) (head1 (Jvm.Cond.code (⟨"java/util/Arrays", "copyOfRangeByte", "([BII)[B"⟩ : MethodName) jdk_65_method_133_code 5 (some (.array .byte)) :: ws) ({ frames := 1, cells := 1, slots := 32, locals := 18 } : Room)) (fun a U => a = #[(.ref o0_), (.int (1 : Int32)), (.int (33 : Int32))] ∧ Z.Warmed39 U.vm ∧ U.heap = h0) (fun _ _ _ _ _ => True) (fun _ U o U' => ∃ v L, o = .returned v ∧ QcopyOfRangeByte5 Z o0_ ko0_ fo0_ h0 n0 v U'.heap L ∧ FrameEnd U o U' L ({ frames := 1, cells := 1, slots := 32, locals := 18 } : Room).cells ({ frames := 1, cells := 1, slots := 32, locals := 18 } : Room).slots) := by
  refine MetFree.of_bodySF (plainFor_of_name pn_0) hisR ?_
  intro p e s m args below meth c s₁ Bd hml0 hP hK
  obtain ⟨rfl, hZ, hh⟩ := hP
  have hx := Bd.exec
  have hby := Bd.bytes
  have hml : c.maxLocals = 5 := hml0
  have hown : s.vm.findClass "java/util/Arrays" = some m.cls := findClass_of_methodNamed Bd.named
  have hnm := (name_of_methodNamed Bd.named Bd.method).1
  have X0 : Stand p l e ({ frames := 1, cells := 1, slots := 32, locals := 18 } : Room) s m #[(.ref o0_), (.int (1 : Int32)), (.int (33 : Int32))] below meth c s₁ [] 0 0 := Stand.of_body Bd
  have e0 : s₁.heap = h0 := by rw [← hh, Bd.state]; rfl
  have N0 := Fr.nil n0
  have pre0 : ∀ t, Steps p.tables e below (s₁.setTop (mkF m 0 #[.val (.ref o0_), .val (.int (1 : Int32)), .val (.int (33 : Int32)), .unset, .unset] [])) t → Steps p.tables e below (s₁.setTop (entryFrame m #[(.ref o0_), (.int (1 : Int32)), (.int (33 : Int32))] 5)) t := fun t k => castTop (efcopyOfRangeByte5 m o0_) k
  have K0 : Keep h0 h0 [] := Keep.refl _ _
  obtain ⟨_, _, ⟨T1, L1, k1, n1⟩, -, X1, ⟨Lc1, hQ1, l1, y1, z1⟩, st1⟩ := Jvm.LawKit.callS X0 hx (y := (⟨"java/util/Arrays", "checkLength", "(II)V"⟩ : MethodName)) hown (mvT hZ (hw _ (List.mem_of_getElem? (i := 22) rfl))) (mvT hZ (hw _ (List.mem_of_getElem? (i := 23) rfl))) (mvT hZ (hw _ (List.mem_of_getElem? (i := 8) rfl))) (mvT hZ (hw _ (List.mem_of_getElem? (i := 24) rfl))) (by decide) (backOf (W := 0) (rmcheckLength6 l Z a0 hw []  h0 n0 O0 ) hZ (hw _ (List.mem_of_getElem? (i := 24) rfl)) (hw _ (List.mem_of_getElem? (i := 8) rfl)) (by decide) (by decide)) (g := (mkF m 2 #[.val (.ref o0_), .val (.int (1 : Int32)), .val (.int (33 : Int32)), .unset, .unset] [(.int (33 : Int32)), (.int (1 : Int32))])) rfl (by rw [hml]; rfl) (argsL := [(.int (1 : Int32)), (.int (33 : Int32))]) (rest := []) (lenOf pd_2 rfl) rfl (by show 2 * 0 + _ ≤ _; exact Nat.le_of_eq rfl) (hb hby d3_2) (fun _ _ => ⟨rfl, e0, (by decide : 0 + 0 ≤ _), (by decide : 0 + 0 ≤ _)⟩)
  dsimp only [Pt.U, Pt.locs, Pt.cells, Pt.slots] at X1 l1 y1 z1 st1 hQ1
  subst l1 y1 z1
  obtain ⟨h1, e1⟩ : ∃ z, T1.heap = z := ⟨_, rfl⟩
  rw [e1] at hQ1
  obtain ⟨rfl, N1q, hh1⟩ := hQ1
  have N2 := Fr.app N0 N1q
  have e1' : T1.heap = h0 := e1.trans hh1
  obtain ⟨T3, h3, k3, X3, e3, E3, A3, Z3, st3⟩ := newPE X1 hx hZ (hw _ (List.mem_of_getElem? (i := 0) rfl)) e1' (g := (mkF m 10 #[.val (.ref o0_), .val (.int (1 : Int32)), .val (.int (33 : Int32)), .val (.int (32 : Int32)), .unset] [(.int (32 : Int32))])) rfl (hb hby d3_10) rfl (by decide) (cap := 32) (by decide) (by decide) (by decide) (by decide) (ad := "[B") (by decide)
  obtain ⟨b3, g3⟩ : ∃ z, z = h0.size := ⟨_, rfl⟩
  rw [← g3] at A3 Z3 st3
  have ge4 : n0 ≤ b3 := Nat.le_trans (Nat.le_trans (Nat.le_of_eq O0.1.symm) O0.2.1) (Nat.le_of_eq g3.symm)
  have sz5 : h0.size ≤ b3 := Nat.le_trans K0.1 (Nat.le_of_eq g3.symm)
  have f6 : Arv Z h3 b3 k3 .byte (32 : Int32) (own_l 32 (fun _ => (0 : Int32))) (.int (0 : Int32)) := (Arv.new A3 (by decide)).pad (own_l_pad 32)
  have f8 : Arv Z h3 o0_ ko0_ .byte (33 : Int32) (own_l 33 fo0_) (.int (0 : Int32)) := P0.ext E3
  obtain ⟨c7, r7, q7, s7, z7, y7, G7⟩ := id f8
  have f10 : Old Z n0 h3 := O0.ext E3
  obtain ⟨_, _, ⟨T9, L9, k9, n9⟩, -, X9, ⟨Lc9, hQ9, l9, y9, z9⟩, st9⟩ := Jvm.LawKit.callS X3 hx (y := (⟨"java/lang/Math", "min", "(II)I"⟩ : MethodName)) hown (mvT hZ (hw _ (List.mem_of_getElem? (i := 25) rfl))) (mvT hZ (hw _ (List.mem_of_getElem? (i := 26) rfl))) (mvT hZ (hw _ (List.mem_of_getElem? (i := 27) rfl))) (mvT hZ (hw _ (List.mem_of_getElem? (i := 28) rfl))) (by decide) (backOf (W := 4) (rmmin7 l Z a0 hw []  h3 n0 f10 ) hZ (hw _ (List.mem_of_getElem? (i := 28) rfl)) (hw _ (List.mem_of_getElem? (i := 27) rfl)) (by decide) (by decide)) (g := (mkF m 24 #[.val (.ref o0_), .val (.int (1 : Int32)), .val (.int (33 : Int32)), .val (.int (32 : Int32)), .val (.ref b3)] [(.int (32 : Int32)), (.int (32 : Int32)), (.int (0 : Int32)), (.ref b3), (.int (1 : Int32)), (.ref o0_)])) rfl (by rw [hml]; rfl) (argsL := [(.int (32 : Int32)), (.int (32 : Int32))]) (rest := [(.int (0 : Int32)), (.ref b3), (.int (1 : Int32)), (.ref o0_)]) (lenOf pd_3 rfl) rfl (by show 2 * 0 + _ ≤ _; exact Nat.le_of_eq rfl) (hb hby d3_24) (fun _ _ => ⟨rfl, e3, (by decide : 1 + 0 ≤ _), (by decide : 32 + 0 ≤ _)⟩)
  dsimp only [Pt.U, Pt.locs, Pt.cells, Pt.slots] at X9 l9 y9 z9 st9 hQ9
  subst l9 y9 z9
  obtain ⟨h9, e9⟩ : ∃ z, T9.heap = z := ⟨_, rfl⟩
  rw [e9] at hQ9
  obtain ⟨rfl, N9q, hh9⟩ := hQ9
  have N11 := Fr.app N2 N9q
  have e9' : T9.heap = h3 := e9.trans hh9
  obtain ⟨T12, h12, L12, X12, e12, N12, K12, V12, st12⟩ := cpA X9 hx hZ hown (hw _ (List.mem_of_getElem? (i := 29) rfl)) (hw _ (List.mem_of_getElem? (i := 32) rfl)) (hw _ (List.mem_of_getElem? (i := 30) rfl)) (hw _ (List.mem_of_getElem? (i := 31) rfl)) e9' f8 f6 (Or.inl ⟨rfl, rfl⟩) (sp := (1 : Int32)) (dp := (0 : Int32)) (nn := (32 : Int32)) (by decide) (by decide) (by decide) (by decide) (by decide) rfl (by rw [own_l_len]; decide) N11 ge4 (g := (mkF m 27 #[.val (.ref o0_), .val (.int (1 : Int32)), .val (.int (33 : Int32)), .val (.int (32 : Int32)), .val (.ref b3)] [(.int (32 : Int32)), (.int (0 : Int32)), (.ref b3), (.int (1 : Int32)), (.ref o0_)])) rfl (by rw [hml]; rfl) rfl (hb hby d3_27) (by decide) (W := 0) (by show 2 * 0 + _ ≤ _; exact Nat.le_of_eq rfl) (by decide)
  have f13 : Arv Z h12 b3 k3 .byte (32 : Int32) (own_l 32 (fun k => fo0_ (1 + k))) (.int (0 : Int32)) := by
    have q := V12
    rw [show ((0 : Int32)).toNatClampNeg = 0 from rfl, show ((32 : Int32)).toNatClampNeg = 32 from rfl, show ((1 : Int32)).toNatClampNeg = 1 from rfl, own_l_copy (by decide)] at q
    exact q
  have pre14 : ∀ t, Steps p.tables e below (T12.setTop (mkF m 32 #[.val (.ref o0_), .val (.int (1 : Int32)), .val (.int (33 : Int32)), .val (.int (32 : Int32)), .val (.ref b3)] [(.ref b3)])) t → Steps p.tables e below (s₁.setTop (entryFrame m #[(.ref o0_), (.int (1 : Int32)), (.int (33 : Int32))] 5)) t := by
    intro t kt
    refine pre0 t ?_
    show Steps p.tables e below (s₁.setTop (mkF m 0 #[.val (.ref o0_), .val (.int (1 : Int32)), .val (.int (33 : Int32)), .unset, .unset] [])) _
    refine XS.iloadN X0.here hx rfl (hb hby d3_0) rfl ?_
    show Steps p.tables e below (s₁.setTop (mkF m 1 #[.val (.ref o0_), .val (.int (1 : Int32)), .val (.int (33 : Int32)), .unset, .unset] [(.int (1 : Int32))])) _
    refine XS.iloadN X0.here hx rfl (hb hby d3_1) rfl ?_
    show Steps p.tables e below (s₁.setTop (mkF m 2 #[.val (.ref o0_), .val (.int (1 : Int32)), .val (.int (33 : Int32)), .unset, .unset] [(.int (33 : Int32)), (.int (1 : Int32))])) _
    refine st1 _ ?_
    show Steps p.tables e below (T1.setTop (mkF m 5 #[.val (.ref o0_), .val (.int (1 : Int32)), .val (.int (33 : Int32)), .unset, .unset] [])) _
    refine XS.iloadN X1.here hx rfl (hb hby d3_5) rfl ?_
    show Steps p.tables e below (T1.setTop (mkF m 6 #[.val (.ref o0_), .val (.int (1 : Int32)), .val (.int (33 : Int32)), .unset, .unset] [(.int (33 : Int32))])) _
    refine XS.iloadN X1.here hx rfl (hb hby d3_6) rfl ?_
    show Steps p.tables e below (T1.setTop (mkF m 7 #[.val (.ref o0_), .val (.int (1 : Int32)), .val (.int (33 : Int32)), .unset, .unset] [(.int (1 : Int32)), (.int (33 : Int32))])) _
    refine XS.isub X1.here hx rfl (hb hby d3_7) rfl ?_
    show Steps p.tables e below (T1.setTop (mkF m 8 #[.val (.ref o0_), .val (.int (1 : Int32)), .val (.int (33 : Int32)), .unset, .unset] [(.int (32 : Int32))])) _
    refine XS.istoreN X1.here hx rfl (hb hby d3_8) rfl (l' := #[.val (.ref o0_), .val (.int (1 : Int32)), .val (.int (33 : Int32)), .val (.int (32 : Int32)), .unset]) rfl ?_
    show Steps p.tables e below (T1.setTop (mkF m 9 #[.val (.ref o0_), .val (.int (1 : Int32)), .val (.int (33 : Int32)), .val (.int (32 : Int32)), .unset] [])) _
    refine XS.iloadN X1.here hx rfl (hb hby d3_9) rfl ?_
    show Steps p.tables e below (T1.setTop (mkF m 10 #[.val (.ref o0_), .val (.int (1 : Int32)), .val (.int (33 : Int32)), .val (.int (32 : Int32)), .unset] [(.int (32 : Int32))])) _
    refine st3 _ ?_
    show Steps p.tables e below (T3.setTop (mkF m 12 #[.val (.ref o0_), .val (.int (1 : Int32)), .val (.int (33 : Int32)), .val (.int (32 : Int32)), .unset] [(.ref b3)])) _
    refine XS.astore X3.here hx rfl (hb hby d3_12) rfl rfl (l' := #[.val (.ref o0_), .val (.int (1 : Int32)), .val (.int (33 : Int32)), .val (.int (32 : Int32)), .val (.ref b3)]) rfl ?_
    show Steps p.tables e below (T3.setTop (mkF m 14 #[.val (.ref o0_), .val (.int (1 : Int32)), .val (.int (33 : Int32)), .val (.int (32 : Int32)), .val (.ref b3)] [])) _
    refine XS.aloadN X3.here hx rfl (hb hby d3_14) rfl rfl ?_
    show Steps p.tables e below (T3.setTop (mkF m 15 #[.val (.ref o0_), .val (.int (1 : Int32)), .val (.int (33 : Int32)), .val (.int (32 : Int32)), .val (.ref b3)] [(.ref o0_)])) _
    refine XS.iloadN X3.here hx rfl (hb hby d3_15) rfl ?_
    show Steps p.tables e below (T3.setTop (mkF m 16 #[.val (.ref o0_), .val (.int (1 : Int32)), .val (.int (33 : Int32)), .val (.int (32 : Int32)), .val (.ref b3)] [(.int (1 : Int32)), (.ref o0_)])) _
    refine XS.aload X3.here hx rfl (hb hby d3_16) rfl rfl ?_
    show Steps p.tables e below (T3.setTop (mkF m 18 #[.val (.ref o0_), .val (.int (1 : Int32)), .val (.int (33 : Int32)), .val (.int (32 : Int32)), .val (.ref b3)] [(.ref b3), (.int (1 : Int32)), (.ref o0_)])) _
    refine XS.iconst X3.here hx rfl (hb hby d3_18) ?_
    show Steps p.tables e below (T3.setTop (mkF m 19 #[.val (.ref o0_), .val (.int (1 : Int32)), .val (.int (33 : Int32)), .val (.int (32 : Int32)), .val (.ref b3)] [(.int (0 : Int32)), (.ref b3), (.int (1 : Int32)), (.ref o0_)])) _
    refine XS.aloadN X3.here hx rfl (hb hby d3_19) rfl rfl ?_
    show Steps p.tables e below (T3.setTop (mkF m 20 #[.val (.ref o0_), .val (.int (1 : Int32)), .val (.int (33 : Int32)), .val (.int (32 : Int32)), .val (.ref b3)] [(.ref o0_), (.int (0 : Int32)), (.ref b3), (.int (1 : Int32)), (.ref o0_)])) _
    refine X3.arraylength hx (by rw [e3]; exact r7.1) (State.isArrayOf_alike hZ.alike r7.2.1) (g := (mkF m 20 #[.val (.ref o0_), .val (.int (1 : Int32)), .val (.int (33 : Int32)), .val (.int (32 : Int32)), .val (.ref b3)] [(.ref o0_), (.int (0 : Int32)), (.ref b3), (.int (1 : Int32)), (.ref o0_)])) rfl rfl (hb hby d3_20) _ ?_
    rw [len_of s7 z7]
    show Steps p.tables e below (T3.setTop (mkF m 21 #[.val (.ref o0_), .val (.int (1 : Int32)), .val (.int (33 : Int32)), .val (.int (32 : Int32)), .val (.ref b3)] [(.int (33 : Int32)), (.int (0 : Int32)), (.ref b3), (.int (1 : Int32)), (.ref o0_)])) _
    refine XS.iloadN X3.here hx rfl (hb hby d3_21) rfl ?_
    show Steps p.tables e below (T3.setTop (mkF m 22 #[.val (.ref o0_), .val (.int (1 : Int32)), .val (.int (33 : Int32)), .val (.int (32 : Int32)), .val (.ref b3)] [(.int (1 : Int32)), (.int (33 : Int32)), (.int (0 : Int32)), (.ref b3), (.int (1 : Int32)), (.ref o0_)])) _
    refine XS.isub X3.here hx rfl (hb hby d3_22) rfl ?_
    show Steps p.tables e below (T3.setTop (mkF m 23 #[.val (.ref o0_), .val (.int (1 : Int32)), .val (.int (33 : Int32)), .val (.int (32 : Int32)), .val (.ref b3)] [(.int (32 : Int32)), (.int (0 : Int32)), (.ref b3), (.int (1 : Int32)), (.ref o0_)])) _
    refine XS.iloadN X3.here hx rfl (hb hby d3_23) rfl ?_
    show Steps p.tables e below (T3.setTop (mkF m 24 #[.val (.ref o0_), .val (.int (1 : Int32)), .val (.int (33 : Int32)), .val (.int (32 : Int32)), .val (.ref b3)] [(.int (32 : Int32)), (.int (32 : Int32)), (.int (0 : Int32)), (.ref b3), (.int (1 : Int32)), (.ref o0_)])) _
    refine st9 _ ?_
    show Steps p.tables e below (T9.setTop (mkF m 27 #[.val (.ref o0_), .val (.int (1 : Int32)), .val (.int (33 : Int32)), .val (.int (32 : Int32)), .val (.ref b3)] [(.int (32 : Int32)), (.int (0 : Int32)), (.ref b3), (.int (1 : Int32)), (.ref o0_)])) _
    refine st12 _ ?_
    show Steps p.tables e below (T12.setTop (mkF m 30 #[.val (.ref o0_), .val (.int (1 : Int32)), .val (.int (33 : Int32)), .val (.int (32 : Int32)), .val (.ref b3)] [])) _
    refine XS.aload X12.here hx rfl (hb hby d3_30) rfl rfl ?_
    exact kt
  have f16 : Keep h0 h3 [] := K0.ext E3
  have f17 : Keep h0 h12 [] := f16.trans K12 (allS (Or.inr sz5) all0)
  have f18 : Exa Z h12 b3 "[B" := Z3.keep K12
  obtain ⟨fs, hr, hrun, hended, hW, hsame⟩ := X12.leave (v := some (.ref b3)) (fun h => by rw [Bd.returns] at h; cases h)
  refine ⟨_, _, pre14 _ (retOut X12 hx Bd.returns rfl (Or.inr (Or.inr (Or.inr (Or.inr ⟨rfl, rfl, rfl⟩)))) (hb hby d3_32) hr), hrun, hended, _, _, rfl, ?_, ⟨_, rfl⟩, hW, hsame.mono (by decide) (by decide)⟩
  show QcopyOfRangeByte5 Z o0_ ko0_ fo0_ h0 n0 _ T12.heap _
  rw [e12]
  exact ⟨k3, b3, rfl, N12, f17, sz5, f13, f18⟩
theorem d2_16 : decode jdk_65_method_132_code 16 = .ok (.areturn, 1) := by decide +kernel
theorem efcopyOfRange4 (m : MethodId) (o0_ : Addr) : entryFrame m #[(.ref o0_), (.int (1 : Int32)), (.int (33 : Int32))] 3 = mkF m 0 #[.val (.ref o0_), .val (.int (1 : Int32)), .val (.int (33 : Int32))] [] := by first | (simp [entryFrame, mkF, argsToLocals, Value.category]; done) | rfl
def QcopyOfRange4 (Z : State) (o0_ : Addr) (ko0_ : ClassId) (fo0_ : Nat → Int32) (h0 : Heap) (n0 : Nat) (v : Option Value) (h : Heap) (L : List Loc) : Prop := ∃ k3_1 : ClassId, ∃ nnb3_1 : Addr, v = some (.ref nnb3_1) ∧ Fr n0 L ∧ Keep h0 h [] ∧ h0.size ≤ nnb3_1 ∧ Arv Z h nnb3_1 k3_1 .byte (32 : Int32) (own_l 32 (fun k => fo0_ (1 + k))) (.int (0 : Int32)) ∧ Exa Z h nnb3_1 "[B"
set_option maxRecDepth 65536 in
set_option maxHeartbeats 40000000 in
theorem rmcopyOfRange4 (l : Launch) (Z : State) (a0 : Array Value) (hw : ∀ d ∈ tables_1, d.before a0 Z = true) (ws : List Jvm.Cond) (o0_ : Addr) (ko0_ : ClassId) (fo0_ : Nat → Int32) (h0 : Heap) (n0 : Nat) (O0 : Old Z n0 h0) (P0 : Arv Z h0 o0_ ko0_ .byte (33 : Int32) (own_l 33 fo0_) (.int (0 : Int32))) (P1 : Exa Z h0 o0_ "[B") :
    MetFree l (⟨"java/util/Arrays", "copyOfRange", "([BII)[B"⟩ : MethodName) (head1 (Jvm.Cond.code (⟨"java/util/Arrays", "copyOfRange", "([BII)[B"⟩ : MethodName) jdk_65_method_132_code 3 (some (.array .byte)) :: ws) ({ frames := 2, cells := 1, slots := 32, locals := 34 } : Room)) (fun a U => a = #[(.ref o0_), (.int (1 : Int32)), (.int (33 : Int32))] ∧ Z.Warmed39 U.vm ∧ U.heap = h0) (fun _ _ _ _ _ => True) (fun _ U o U' => ∃ v L, o = .returned v ∧ QcopyOfRange4 Z o0_ ko0_ fo0_ h0 n0 v U'.heap L ∧ FrameEnd U o U' L ({ frames := 2, cells := 1, slots := 32, locals := 34 } : Room).cells ({ frames := 2, cells := 1, slots := 32, locals := 34 } : Room).slots) := by
  refine MetFree.of_bodySF (plainFor_of_name pn_0) hisR ?_
  intro p e s m args below meth c s₁ Bd hml0 hP hK
  obtain ⟨rfl, hZ, hh⟩ := hP
  have hx := Bd.exec
  have hby := Bd.bytes
  have hml : c.maxLocals = 3 := hml0
  have hown : s.vm.findClass "java/util/Arrays" = some m.cls := findClass_of_methodNamed Bd.named
  have hnm := (name_of_methodNamed Bd.named Bd.method).1
  have X0 : Stand p l e ({ frames := 2, cells := 1, slots := 32, locals := 34 } : Room) s m #[(.ref o0_), (.int (1 : Int32)), (.int (33 : Int32))] below meth c s₁ [] 0 0 := Stand.of_body Bd
  have e0 : s₁.heap = h0 := by rw [← hh, Bd.state]; rfl
  have N0 := Fr.nil n0
  have pre0 : ∀ t, Steps p.tables e below (s₁.setTop (mkF m 0 #[.val (.ref o0_), .val (.int (1 : Int32)), .val (.int (33 : Int32))] [])) t → Steps p.tables e below (s₁.setTop (entryFrame m #[(.ref o0_), (.int (1 : Int32)), (.int (33 : Int32))] 3)) t := fun t k => castTop (efcopyOfRange4 m o0_) k
  have K0 : Keep h0 h0 [] := Keep.refl _ _
  obtain ⟨_, _, ⟨T1, L1, k1, n1⟩, -, X1, ⟨Lc1, hQ1, l1, y1, z1⟩, st1⟩ := Jvm.LawKit.callS X0 hx (y := (⟨"java/util/Arrays", "copyOfRangeByte", "([BII)[B"⟩ : MethodName)) hown (mvT hZ (hw _ (List.mem_of_getElem? (i := 19) rfl))) (mvT hZ (hw _ (List.mem_of_getElem? (i := 20) rfl))) (mvT hZ (hw _ (List.mem_of_getElem? (i := 8) rfl))) (mvT hZ (hw _ (List.mem_of_getElem? (i := 21) rfl))) (by decide) (backOf (W := 0) (rmcopyOfRangeByte5 l Z a0 hw [] o0_ ko0_ fo0_ h0 n0 O0 P0 P1) hZ (hw _ (List.mem_of_getElem? (i := 21) rfl)) (hw _ (List.mem_of_getElem? (i := 8) rfl)) (by decide) (by decide)) (g := (mkF m 13 #[.val (.ref o0_), .val (.int (1 : Int32)), .val (.int (33 : Int32))] [(.int (33 : Int32)), (.int (1 : Int32)), (.ref o0_)])) rfl (by rw [hml]; rfl) (argsL := [(.ref o0_), (.int (1 : Int32)), (.int (33 : Int32))]) (rest := []) (lenOf pd_0 rfl) rfl (by show 2 * 0 + _ ≤ _; exact Nat.le_of_eq rfl) (hb hby d2_13) (fun _ _ => ⟨rfl, e0, (by decide : 0 + 1 ≤ _), (by decide : 0 + 32 ≤ _)⟩)
  dsimp only [Pt.U, Pt.locs, Pt.cells, Pt.slots] at X1 l1 y1 z1 st1 hQ1
  subst l1 y1 z1
  obtain ⟨h1, e1⟩ : ∃ z, T1.heap = z := ⟨_, rfl⟩
  rw [e1] at hQ1
  obtain ⟨k3_1, nb3_1, rfl, N1q, K1, sznb3_1, g1_0, g1_1⟩ := hQ1
  have N2 := Fr.app N0 N1q
  have ge3 : n0 ≤ nb3_1 := Nat.le_trans (Nat.le_trans (Nat.le_of_eq O0.1.symm) O0.2.1) sznb3_1
  have sz4 : h0.size ≤ nb3_1 := Nat.le_trans K0.1 sznb3_1
  have pre5 : ∀ t, Steps p.tables e below (T1.setTop (mkF m 16 #[.val (.ref o0_), .val (.int (1 : Int32)), .val (.int (33 : Int32))] [(.ref nb3_1)])) t → Steps p.tables e below (s₁.setTop (entryFrame m #[(.ref o0_), (.int (1 : Int32)), (.int (33 : Int32))] 3)) t := by
    intro t kt
    refine pre0 t ?_
    show Steps p.tables e below (s₁.setTop (mkF m 0 #[.val (.ref o0_), .val (.int (1 : Int32)), .val (.int (33 : Int32))] [])) _
    refine XS.iloadN X0.here hx rfl (hb hby d2_0) rfl ?_
    show Steps p.tables e below (s₁.setTop (mkF m 1 #[.val (.ref o0_), .val (.int (1 : Int32)), .val (.int (33 : Int32))] [(.int (1 : Int32))])) _
    refine XS.ifYes X0.here hx rfl (pc0 := 1) (pc' := 10) rfl (hb hby d2_1) rfl ((if0 _ _).trans (feq (by decide : ¬ ((1 : Int32) = (0 : Int32)))).2) (by decide) (by decide) ?_
    show Steps p.tables e below (s₁.setTop (mkF m 10 #[.val (.ref o0_), .val (.int (1 : Int32)), .val (.int (33 : Int32))] [])) _
    refine XS.aloadN X0.here hx rfl (hb hby d2_10) rfl rfl ?_
    show Steps p.tables e below (s₁.setTop (mkF m 11 #[.val (.ref o0_), .val (.int (1 : Int32)), .val (.int (33 : Int32))] [(.ref o0_)])) _
    refine XS.iloadN X0.here hx rfl (hb hby d2_11) rfl ?_
    show Steps p.tables e below (s₁.setTop (mkF m 12 #[.val (.ref o0_), .val (.int (1 : Int32)), .val (.int (33 : Int32))] [(.int (1 : Int32)), (.ref o0_)])) _
    refine XS.iloadN X0.here hx rfl (hb hby d2_12) rfl ?_
    show Steps p.tables e below (s₁.setTop (mkF m 13 #[.val (.ref o0_), .val (.int (1 : Int32)), .val (.int (33 : Int32))] [(.int (33 : Int32)), (.int (1 : Int32)), (.ref o0_)])) _
    refine st1 _ ?_
    exact kt
  have f7 : Keep h0 h1 [] := K0.trans K1 all0
  obtain ⟨fs, hr, hrun, hended, hW, hsame⟩ := X1.leave (v := some (.ref nb3_1)) (fun h => by rw [Bd.returns] at h; cases h)
  refine ⟨_, _, pre5 _ (retOut X1 hx Bd.returns rfl (Or.inr (Or.inr (Or.inr (Or.inr ⟨rfl, rfl, rfl⟩)))) (hb hby d2_16) hr), hrun, hended, _, _, rfl, ?_, ⟨_, rfl⟩, hW, hsame.mono (by decide) (by decide)⟩
  show QcopyOfRange4 Z o0_ ko0_ fo0_ h0 n0 _ T1.heap _
  rw [e1]
  exact ⟨k3_1, nb3_1, rfl, N2, f7, sz4, g1_0, g1_1⟩
theorem efvalue3 (m : MethodId) (o0_ : Addr) : entryFrame m #[(.ref o0_)] 1 = mkF m 0 #[.val (.ref o0_)] [] := by first | (simp [entryFrame, mkF, argsToLocals, Value.category]; done) | rfl
def Qvalue3 (Z : State) (o0_ : Addr) (ko0_ : ClassId) (fo0_ : Nat → Int32) (h0 : Heap) (n0 : Nat) (v : Option Value) (h : Heap) (L : List Loc) : Prop := ∃ k3_1_3 : ClassId, ∃ nnnb3_1_3 : Addr, v = some (.ref nnnb3_1_3) ∧ Fr n0 L ∧ Keep h0 h [] ∧ h0.size ≤ nnnb3_1_3 ∧ Arv Z h nnnb3_1_3 k3_1_3 .byte (32 : Int32) (own_l 32 (fun k => fo0_ (1 + k))) (.int (0 : Int32)) ∧ Exa Z h nnnb3_1_3 "[B"
set_option maxRecDepth 65536 in
set_option maxHeartbeats 40000000 in
theorem rmvalue3 (l : Launch) (Z : State) (a0 : Array Value) (hw : ∀ d ∈ tables_1, d.before a0 Z = true) (ws : List Jvm.Cond) (o0_ : Addr) (ko0_ : ClassId) (fo0_ : Nat → Int32) (h0 : Heap) (n0 : Nat) (O0 : Old Z n0 h0) (P0 : Arv Z h0 o0_ ko0_ .byte (33 : Int32) (own_l 33 fo0_) (.int (0 : Int32))) (P1 : Exa Z h0 o0_ "[B") :
    MetFree l (⟨"com/example/aeacus/aeacus/log/Chain", "value", "([B)[B"⟩ : MethodName) (head1 (Jvm.Cond.code (⟨"com/example/aeacus/aeacus/log/Chain", "value", "([B)[B"⟩ : MethodName) prog_22_method_7_code 1 (some (.array .byte)) :: ws) ({ frames := 3, cells := 1, slots := 32, locals := 48 } : Room)) (fun a U => a = #[(.ref o0_)] ∧ Z.Warmed39 U.vm ∧ U.heap = h0) (fun _ _ _ _ _ => True) (fun _ U o U' => ∃ v L, o = .returned v ∧ Qvalue3 Z o0_ ko0_ fo0_ h0 n0 v U'.heap L ∧ FrameEnd U o U' L ({ frames := 3, cells := 1, slots := 32, locals := 48 } : Room).cells ({ frames := 3, cells := 1, slots := 32, locals := 48 } : Room).slots) := by
  refine MetFree.of_bodySF (plainFor_of_name pn_1) hisR ?_
  intro p e s m args below meth c s₁ Bd hml0 hP hK
  obtain ⟨rfl, hZ, hh⟩ := hP
  have hx := Bd.exec
  have hby := Bd.bytes
  have hml : c.maxLocals = 1 := hml0
  have hown : s.vm.findClass "com/example/aeacus/aeacus/log/Chain" = some m.cls := findClass_of_methodNamed Bd.named
  have hnm := (name_of_methodNamed Bd.named Bd.method).1
  have X0 : Stand p l e ({ frames := 3, cells := 1, slots := 32, locals := 48 } : Room) s m #[(.ref o0_)] below meth c s₁ [] 0 0 := Stand.of_body Bd
  have e0 : s₁.heap = h0 := by rw [← hh, Bd.state]; rfl
  have N0 := Fr.nil n0
  have pre0 : ∀ t, Steps p.tables e below (s₁.setTop (mkF m 0 #[.val (.ref o0_)] [])) t → Steps p.tables e below (s₁.setTop (entryFrame m #[(.ref o0_)] 1)) t := fun t k => castTop (efvalue3 m o0_) k
  have K0 : Keep h0 h0 [] := Keep.refl _ _
  obtain ⟨c1, r1, q1, s1, z1, y1, G1⟩ := id P0
  obtain ⟨c2, r2, q2, s2, z2, y2, G2⟩ := id P0
  obtain ⟨_, _, ⟨T3, L3, k3, n3⟩, -, X3, ⟨Lc3, hQ3, l3, y3, z3⟩, st3⟩ := Jvm.LawKit.callS X0 hx (y := (⟨"java/util/Arrays", "copyOfRange", "([BII)[B"⟩ : MethodName)) hown (mvT hZ (hw _ (List.mem_of_getElem? (i := 6) rfl))) (mvT hZ (hw _ (List.mem_of_getElem? (i := 7) rfl))) (mvT hZ (hw _ (List.mem_of_getElem? (i := 8) rfl))) (mvT hZ (hw _ (List.mem_of_getElem? (i := 9) rfl))) (by decide) (backOf (W := 0) (rmcopyOfRange4 l Z a0 hw [] o0_ ko0_ fo0_ h0 n0 O0 P0 P1) hZ (hw _ (List.mem_of_getElem? (i := 9) rfl)) (hw _ (List.mem_of_getElem? (i := 8) rfl)) (by decide) (by decide)) (g := (mkF m 8 #[.val (.ref o0_)] [(.int (33 : Int32)), (.int (1 : Int32)), (.ref o0_)])) rfl (by rw [hml]; rfl) (argsL := [(.ref o0_), (.int (1 : Int32)), (.int (33 : Int32))]) (rest := []) (lenOf pd_0 rfl) rfl (by show 2 * 0 + _ ≤ _; exact Nat.le_of_eq rfl) (hb hby d1_8) (fun _ _ => ⟨rfl, e0, (by decide : 0 + 1 ≤ _), (by decide : 0 + 32 ≤ _)⟩)
  dsimp only [Pt.U, Pt.locs, Pt.cells, Pt.slots] at X3 l3 y3 z3 st3 hQ3
  subst l3 y3 z3
  obtain ⟨h3, e3⟩ : ∃ z, T3.heap = z := ⟨_, rfl⟩
  rw [e3] at hQ3
  obtain ⟨k3_1_3, nnb3_1_3, rfl, N3q, K3, sznnb3_1_3, g3_0, g3_1⟩ := hQ3
  have N4 := Fr.app N0 N3q
  have ge5 : n0 ≤ nnb3_1_3 := Nat.le_trans (Nat.le_trans (Nat.le_of_eq O0.1.symm) O0.2.1) sznnb3_1_3
  have sz6 : h0.size ≤ nnb3_1_3 := Nat.le_trans K0.1 sznnb3_1_3
  have pre7 : ∀ t, Steps p.tables e below (T3.setTop (mkF m 11 #[.val (.ref o0_)] [(.ref nnb3_1_3)])) t → Steps p.tables e below (s₁.setTop (entryFrame m #[(.ref o0_)] 1)) t := by
    intro t kt
    refine pre0 t ?_
    show Steps p.tables e below (s₁.setTop (mkF m 0 #[.val (.ref o0_)] [])) _
    refine XS.aloadN X0.here hx rfl (hb hby d1_0) rfl rfl ?_
    show Steps p.tables e below (s₁.setTop (mkF m 1 #[.val (.ref o0_)] [(.ref o0_)])) _
    refine XS.aloadN X0.here hx rfl (hb hby d1_1) rfl rfl ?_
    show Steps p.tables e below (s₁.setTop (mkF m 2 #[.val (.ref o0_)] [(.ref o0_), (.ref o0_)])) _
    refine X0.arraylength hx (by rw [e0]; exact r1.1) (State.isArrayOf_alike hZ.alike r1.2.1) (g := (mkF m 2 #[.val (.ref o0_)] [(.ref o0_), (.ref o0_)])) rfl rfl (hb hby d1_2) _ ?_
    rw [len_of s1 z1]
    show Steps p.tables e below (s₁.setTop (mkF m 3 #[.val (.ref o0_)] [(.int (33 : Int32)), (.ref o0_)])) _
    refine XS.bipush X0.here hx rfl (hb hby d1_3) ?_
    show Steps p.tables e below (s₁.setTop (mkF m 5 #[.val (.ref o0_)] [(.int (32 : Int32)), (.int (33 : Int32)), (.ref o0_)])) _
    refine XS.isub X0.here hx rfl (hb hby d1_5) rfl ?_
    show Steps p.tables e below (s₁.setTop (mkF m 6 #[.val (.ref o0_)] [(.int (1 : Int32)), (.ref o0_)])) _
    refine XS.aloadN X0.here hx rfl (hb hby d1_6) rfl rfl ?_
    show Steps p.tables e below (s₁.setTop (mkF m 7 #[.val (.ref o0_)] [(.ref o0_), (.int (1 : Int32)), (.ref o0_)])) _
    refine X0.arraylength hx (by rw [e0]; exact r2.1) (State.isArrayOf_alike hZ.alike r2.2.1) (g := (mkF m 7 #[.val (.ref o0_)] [(.ref o0_), (.int (1 : Int32)), (.ref o0_)])) rfl rfl (hb hby d1_7) _ ?_
    rw [len_of s2 z2]
    show Steps p.tables e below (s₁.setTop (mkF m 8 #[.val (.ref o0_)] [(.int (33 : Int32)), (.int (1 : Int32)), (.ref o0_)])) _
    refine st3 _ ?_
    exact kt
  have f9 : Keep h0 h3 [] := K0.trans K3 all0
  obtain ⟨fs, hr, hrun, hended, hW, hsame⟩ := X3.leave (v := some (.ref nnb3_1_3)) (fun h => by rw [Bd.returns] at h; cases h)
  refine ⟨_, _, pre7 _ (retOut X3 hx Bd.returns rfl (Or.inr (Or.inr (Or.inr (Or.inr ⟨rfl, rfl, rfl⟩)))) (hb hby d1_11) hr), hrun, hended, _, _, rfl, ?_, ⟨_, rfl⟩, hW, hsame.mono (by decide) (by decide)⟩
  show Qvalue3 Z o0_ ko0_ fo0_ h0 n0 _ T3.heap _
  rw [e3]
  exact ⟨k3_1_3, nnb3_1_3, rfl, N4, f9, sz6, g3_0, g3_1⟩
theorem efcheckLength11 (m : MethodId)  : entryFrame m #[(.int (2 : Int32)), (.int (34 : Int32))] 2 = mkF m 0 #[.val (.int (2 : Int32)), .val (.int (34 : Int32))] [] := by first | (simp [entryFrame, mkF, argsToLocals, Value.category]; done) | rfl
def QcheckLength11 (Z : State)  (h0 : Heap) (n0 : Nat) (v : Option Value) (h : Heap) (L : List Loc) : Prop := v = none ∧ Fr n0 L ∧ h = h0
set_option maxRecDepth 65536 in
set_option maxHeartbeats 40000000 in
theorem rmcheckLength11 (l : Launch) (Z : State) (a0 : Array Value) (hw : ∀ d ∈ tables_1, d.before a0 Z = true) (ws : List Jvm.Cond)  (h0 : Heap) (n0 : Nat) (O0 : Old Z n0 h0)  :
    MetFree l (⟨"java/util/Arrays", "checkLength", "(II)V"⟩ : MethodName) (head1 (Jvm.Cond.code (⟨"java/util/Arrays", "checkLength", "(II)V"⟩ : MethodName) jdk_65_method_131_code 2 none :: ws) ({ frames := 0, cells := 0, slots := 0, locals := 0 } : Room)) (fun a U => a = #[(.int (2 : Int32)), (.int (34 : Int32))] ∧ Z.Warmed39 U.vm ∧ U.heap = h0) (fun _ _ _ _ _ => True) (fun _ U o U' => ∃ v L, o = .returned v ∧ QcheckLength11 Z  h0 n0 v U'.heap L ∧ FrameEnd U o U' L ({ frames := 0, cells := 0, slots := 0, locals := 0 } : Room).cells ({ frames := 0, cells := 0, slots := 0, locals := 0 } : Room).slots) := by
  refine MetFree.of_bodySF (plainFor_of_name pn_0) hisR ?_
  intro p e s m args below meth c s₁ Bd hml0 hP hK
  obtain ⟨rfl, hZ, hh⟩ := hP
  have hx := Bd.exec
  have hby := Bd.bytes
  have hml : c.maxLocals = 2 := hml0
  have hown : s.vm.findClass "java/util/Arrays" = some m.cls := findClass_of_methodNamed Bd.named
  have hnm := (name_of_methodNamed Bd.named Bd.method).1
  have X0 : Stand p l e ({ frames := 0, cells := 0, slots := 0, locals := 0 } : Room) s m #[(.int (2 : Int32)), (.int (34 : Int32))] below meth c s₁ [] 0 0 := Stand.of_body Bd
  have e0 : s₁.heap = h0 := by rw [← hh, Bd.state]; rfl
  have N0 := Fr.nil n0
  have pre0 : ∀ t, Steps p.tables e below (s₁.setTop (mkF m 0 #[.val (.int (2 : Int32)), .val (.int (34 : Int32))] [])) t → Steps p.tables e below (s₁.setTop (entryFrame m #[(.int (2 : Int32)), (.int (34 : Int32))] 2)) t := fun t k => castTop (efcheckLength11 m ) k
  have K0 : Keep h0 h0 [] := Keep.refl _ _
  have pre1 : ∀ t, Steps p.tables e below (s₁.setTop (mkF m 37 #[.val (.int (2 : Int32)), .val (.int (34 : Int32))] [])) t → Steps p.tables e below (s₁.setTop (entryFrame m #[(.int (2 : Int32)), (.int (34 : Int32))] 2)) t := by
    intro t kt
    refine pre0 t ?_
    show Steps p.tables e below (s₁.setTop (mkF m 0 #[.val (.int (2 : Int32)), .val (.int (34 : Int32))] [])) _
    refine XS.iloadN X0.here hx rfl (hb hby d4_0) rfl ?_
    show Steps p.tables e below (s₁.setTop (mkF m 1 #[.val (.int (2 : Int32)), .val (.int (34 : Int32))] [(.int (34 : Int32))])) _
    refine XS.iloadN X0.here hx rfl (hb hby d4_1) rfl ?_
    show Steps p.tables e below (s₁.setTop (mkF m 2 #[.val (.int (2 : Int32)), .val (.int (34 : Int32))] [(.int (2 : Int32)), (.int (34 : Int32))])) _
    refine XS.icmpYes X0.here hx rfl (pc0 := 2) (pc' := 37) rfl (hb hby d4_2) rfl (flt (by decide : ¬ ((34 : Int32) < (2 : Int32)))).2.1 (by decide) (by decide) ?_
    exact kt
  obtain ⟨fs, hr, hrun, hended, hW, hsame⟩ := X0.leave (v := none) (fun _ => rfl)
  refine ⟨_, _, pre1 _ (X0.returnOut hx Bd.returns (hb hby d4_37) hr), hrun, hended, _, _, rfl, ?_, ⟨_, rfl⟩, hW, hsame.mono (by decide) (by decide)⟩
  show QcheckLength11 Z  h0 n0 _ s₁.heap _
  rw [e0]
  exact ⟨rfl, N0, rfl⟩
theorem efcopyOfRangeByte10 (m : MethodId) (o0_ : Addr) : entryFrame m #[(.ref o0_), (.int (2 : Int32)), (.int (34 : Int32))] 5 = mkF m 0 #[.val (.ref o0_), .val (.int (2 : Int32)), .val (.int (34 : Int32)), .unset, .unset] [] := by first | (simp [entryFrame, mkF, argsToLocals, Value.category]; done) | rfl
def QcopyOfRangeByte10 (Z : State) (o0_ : Addr) (ko0_ : ClassId) (fo0_ : Nat → Int32) (h0 : Heap) (n0 : Nat) (v : Option Value) (h : Heap) (L : List Loc) : Prop := ∃ k3 : ClassId, ∃ nb3 : Addr, v = some (.ref nb3) ∧ Fr n0 L ∧ Keep h0 h [] ∧ h0.size ≤ nb3 ∧ Arv Z h nb3 k3 .byte (32 : Int32) (own_l 32 (fun k => fo0_ (2 + k))) (.int (0 : Int32)) ∧ Exa Z h nb3 "[B"
set_option maxRecDepth 65536 in
set_option maxHeartbeats 40000000 in
theorem rmcopyOfRangeByte10 (l : Launch) (Z : State) (a0 : Array Value) (hw : ∀ d ∈ tables_1, d.before a0 Z = true) (ws : List Jvm.Cond) (o0_ : Addr) (ko0_ : ClassId) (fo0_ : Nat → Int32) (h0 : Heap) (n0 : Nat) (O0 : Old Z n0 h0) (P0 : Arv Z h0 o0_ ko0_ .byte (34 : Int32) (own_l 34 fo0_) (.int (0 : Int32))) (P1 : Exa Z h0 o0_ "[B") :
    MetFree l (⟨"java/util/Arrays", "copyOfRangeByte", "([BII)[B"⟩ : MethodName) (head1 (Jvm.Cond.code (⟨"java/util/Arrays", "copyOfRangeByte", "([BII)[B"⟩ : MethodName) jdk_65_method_133_code 5 (some (.array .byte)) :: ws) ({ frames := 1, cells := 1, slots := 32, locals := 18 } : Room)) (fun a U => a = #[(.ref o0_), (.int (2 : Int32)), (.int (34 : Int32))] ∧ Z.Warmed39 U.vm ∧ U.heap = h0) (fun _ _ _ _ _ => True) (fun _ U o U' => ∃ v L, o = .returned v ∧ QcopyOfRangeByte10 Z o0_ ko0_ fo0_ h0 n0 v U'.heap L ∧ FrameEnd U o U' L ({ frames := 1, cells := 1, slots := 32, locals := 18 } : Room).cells ({ frames := 1, cells := 1, slots := 32, locals := 18 } : Room).slots) := by
  refine MetFree.of_bodySF (plainFor_of_name pn_0) hisR ?_
  intro p e s m args below meth c s₁ Bd hml0 hP hK
  obtain ⟨rfl, hZ, hh⟩ := hP
  have hx := Bd.exec
  have hby := Bd.bytes
  have hml : c.maxLocals = 5 := hml0
  have hown : s.vm.findClass "java/util/Arrays" = some m.cls := findClass_of_methodNamed Bd.named
  have hnm := (name_of_methodNamed Bd.named Bd.method).1
  have X0 : Stand p l e ({ frames := 1, cells := 1, slots := 32, locals := 18 } : Room) s m #[(.ref o0_), (.int (2 : Int32)), (.int (34 : Int32))] below meth c s₁ [] 0 0 := Stand.of_body Bd
  have e0 : s₁.heap = h0 := by rw [← hh, Bd.state]; rfl
  have N0 := Fr.nil n0
  have pre0 : ∀ t, Steps p.tables e below (s₁.setTop (mkF m 0 #[.val (.ref o0_), .val (.int (2 : Int32)), .val (.int (34 : Int32)), .unset, .unset] [])) t → Steps p.tables e below (s₁.setTop (entryFrame m #[(.ref o0_), (.int (2 : Int32)), (.int (34 : Int32))] 5)) t := fun t k => castTop (efcopyOfRangeByte10 m o0_) k
  have K0 : Keep h0 h0 [] := Keep.refl _ _
  obtain ⟨_, _, ⟨T1, L1, k1, n1⟩, -, X1, ⟨Lc1, hQ1, l1, y1, z1⟩, st1⟩ := Jvm.LawKit.callS X0 hx (y := (⟨"java/util/Arrays", "checkLength", "(II)V"⟩ : MethodName)) hown (mvT hZ (hw _ (List.mem_of_getElem? (i := 22) rfl))) (mvT hZ (hw _ (List.mem_of_getElem? (i := 23) rfl))) (mvT hZ (hw _ (List.mem_of_getElem? (i := 8) rfl))) (mvT hZ (hw _ (List.mem_of_getElem? (i := 24) rfl))) (by decide) (backOf (W := 0) (rmcheckLength11 l Z a0 hw []  h0 n0 O0 ) hZ (hw _ (List.mem_of_getElem? (i := 24) rfl)) (hw _ (List.mem_of_getElem? (i := 8) rfl)) (by decide) (by decide)) (g := (mkF m 2 #[.val (.ref o0_), .val (.int (2 : Int32)), .val (.int (34 : Int32)), .unset, .unset] [(.int (34 : Int32)), (.int (2 : Int32))])) rfl (by rw [hml]; rfl) (argsL := [(.int (2 : Int32)), (.int (34 : Int32))]) (rest := []) (lenOf pd_2 rfl) rfl (by show 2 * 0 + _ ≤ _; exact Nat.le_of_eq rfl) (hb hby d3_2) (fun _ _ => ⟨rfl, e0, (by decide : 0 + 0 ≤ _), (by decide : 0 + 0 ≤ _)⟩)
  dsimp only [Pt.U, Pt.locs, Pt.cells, Pt.slots] at X1 l1 y1 z1 st1 hQ1
  subst l1 y1 z1
  obtain ⟨h1, e1⟩ : ∃ z, T1.heap = z := ⟨_, rfl⟩
  rw [e1] at hQ1
  obtain ⟨rfl, N1q, hh1⟩ := hQ1
  have N2 := Fr.app N0 N1q
  have e1' : T1.heap = h0 := e1.trans hh1
  obtain ⟨T3, h3, k3, X3, e3, E3, A3, Z3, st3⟩ := newPE X1 hx hZ (hw _ (List.mem_of_getElem? (i := 0) rfl)) e1' (g := (mkF m 10 #[.val (.ref o0_), .val (.int (2 : Int32)), .val (.int (34 : Int32)), .val (.int (32 : Int32)), .unset] [(.int (32 : Int32))])) rfl (hb hby d3_10) rfl (by decide) (cap := 32) (by decide) (by decide) (by decide) (by decide) (ad := "[B") (by decide)
  obtain ⟨b3, g3⟩ : ∃ z, z = h0.size := ⟨_, rfl⟩
  rw [← g3] at A3 Z3 st3
  have ge4 : n0 ≤ b3 := Nat.le_trans (Nat.le_trans (Nat.le_of_eq O0.1.symm) O0.2.1) (Nat.le_of_eq g3.symm)
  have sz5 : h0.size ≤ b3 := Nat.le_trans K0.1 (Nat.le_of_eq g3.symm)
  have f6 : Arv Z h3 b3 k3 .byte (32 : Int32) (own_l 32 (fun _ => (0 : Int32))) (.int (0 : Int32)) := (Arv.new A3 (by decide)).pad (own_l_pad 32)
  have f8 : Arv Z h3 o0_ ko0_ .byte (34 : Int32) (own_l 34 fo0_) (.int (0 : Int32)) := P0.ext E3
  obtain ⟨c7, r7, q7, s7, z7, y7, G7⟩ := id f8
  have f10 : Old Z n0 h3 := O0.ext E3
  obtain ⟨_, _, ⟨T9, L9, k9, n9⟩, -, X9, ⟨Lc9, hQ9, l9, y9, z9⟩, st9⟩ := Jvm.LawKit.callS X3 hx (y := (⟨"java/lang/Math", "min", "(II)I"⟩ : MethodName)) hown (mvT hZ (hw _ (List.mem_of_getElem? (i := 25) rfl))) (mvT hZ (hw _ (List.mem_of_getElem? (i := 26) rfl))) (mvT hZ (hw _ (List.mem_of_getElem? (i := 27) rfl))) (mvT hZ (hw _ (List.mem_of_getElem? (i := 28) rfl))) (by decide) (backOf (W := 4) (rmmin7 l Z a0 hw []  h3 n0 f10 ) hZ (hw _ (List.mem_of_getElem? (i := 28) rfl)) (hw _ (List.mem_of_getElem? (i := 27) rfl)) (by decide) (by decide)) (g := (mkF m 24 #[.val (.ref o0_), .val (.int (2 : Int32)), .val (.int (34 : Int32)), .val (.int (32 : Int32)), .val (.ref b3)] [(.int (32 : Int32)), (.int (32 : Int32)), (.int (0 : Int32)), (.ref b3), (.int (2 : Int32)), (.ref o0_)])) rfl (by rw [hml]; rfl) (argsL := [(.int (32 : Int32)), (.int (32 : Int32))]) (rest := [(.int (0 : Int32)), (.ref b3), (.int (2 : Int32)), (.ref o0_)]) (lenOf pd_3 rfl) rfl (by show 2 * 0 + _ ≤ _; exact Nat.le_of_eq rfl) (hb hby d3_24) (fun _ _ => ⟨rfl, e3, (by decide : 1 + 0 ≤ _), (by decide : 32 + 0 ≤ _)⟩)
  dsimp only [Pt.U, Pt.locs, Pt.cells, Pt.slots] at X9 l9 y9 z9 st9 hQ9
  subst l9 y9 z9
  obtain ⟨h9, e9⟩ : ∃ z, T9.heap = z := ⟨_, rfl⟩
  rw [e9] at hQ9
  obtain ⟨rfl, N9q, hh9⟩ := hQ9
  have N11 := Fr.app N2 N9q
  have e9' : T9.heap = h3 := e9.trans hh9
  obtain ⟨T12, h12, L12, X12, e12, N12, K12, V12, st12⟩ := cpA X9 hx hZ hown (hw _ (List.mem_of_getElem? (i := 29) rfl)) (hw _ (List.mem_of_getElem? (i := 32) rfl)) (hw _ (List.mem_of_getElem? (i := 30) rfl)) (hw _ (List.mem_of_getElem? (i := 31) rfl)) e9' f8 f6 (Or.inl ⟨rfl, rfl⟩) (sp := (2 : Int32)) (dp := (0 : Int32)) (nn := (32 : Int32)) (by decide) (by decide) (by decide) (by decide) (by decide) rfl (by rw [own_l_len]; decide) N11 ge4 (g := (mkF m 27 #[.val (.ref o0_), .val (.int (2 : Int32)), .val (.int (34 : Int32)), .val (.int (32 : Int32)), .val (.ref b3)] [(.int (32 : Int32)), (.int (0 : Int32)), (.ref b3), (.int (2 : Int32)), (.ref o0_)])) rfl (by rw [hml]; rfl) rfl (hb hby d3_27) (by decide) (W := 0) (by show 2 * 0 + _ ≤ _; exact Nat.le_of_eq rfl) (by decide)
  have f13 : Arv Z h12 b3 k3 .byte (32 : Int32) (own_l 32 (fun k => fo0_ (2 + k))) (.int (0 : Int32)) := by
    have q := V12
    rw [show ((0 : Int32)).toNatClampNeg = 0 from rfl, show ((32 : Int32)).toNatClampNeg = 32 from rfl, show ((2 : Int32)).toNatClampNeg = 2 from rfl, own_l_copy (by decide)] at q
    exact q
  have pre14 : ∀ t, Steps p.tables e below (T12.setTop (mkF m 32 #[.val (.ref o0_), .val (.int (2 : Int32)), .val (.int (34 : Int32)), .val (.int (32 : Int32)), .val (.ref b3)] [(.ref b3)])) t → Steps p.tables e below (s₁.setTop (entryFrame m #[(.ref o0_), (.int (2 : Int32)), (.int (34 : Int32))] 5)) t := by
    intro t kt
    refine pre0 t ?_
    show Steps p.tables e below (s₁.setTop (mkF m 0 #[.val (.ref o0_), .val (.int (2 : Int32)), .val (.int (34 : Int32)), .unset, .unset] [])) _
    refine XS.iloadN X0.here hx rfl (hb hby d3_0) rfl ?_
    show Steps p.tables e below (s₁.setTop (mkF m 1 #[.val (.ref o0_), .val (.int (2 : Int32)), .val (.int (34 : Int32)), .unset, .unset] [(.int (2 : Int32))])) _
    refine XS.iloadN X0.here hx rfl (hb hby d3_1) rfl ?_
    show Steps p.tables e below (s₁.setTop (mkF m 2 #[.val (.ref o0_), .val (.int (2 : Int32)), .val (.int (34 : Int32)), .unset, .unset] [(.int (34 : Int32)), (.int (2 : Int32))])) _
    refine st1 _ ?_
    show Steps p.tables e below (T1.setTop (mkF m 5 #[.val (.ref o0_), .val (.int (2 : Int32)), .val (.int (34 : Int32)), .unset, .unset] [])) _
    refine XS.iloadN X1.here hx rfl (hb hby d3_5) rfl ?_
    show Steps p.tables e below (T1.setTop (mkF m 6 #[.val (.ref o0_), .val (.int (2 : Int32)), .val (.int (34 : Int32)), .unset, .unset] [(.int (34 : Int32))])) _
    refine XS.iloadN X1.here hx rfl (hb hby d3_6) rfl ?_
    show Steps p.tables e below (T1.setTop (mkF m 7 #[.val (.ref o0_), .val (.int (2 : Int32)), .val (.int (34 : Int32)), .unset, .unset] [(.int (2 : Int32)), (.int (34 : Int32))])) _
    refine XS.isub X1.here hx rfl (hb hby d3_7) rfl ?_
    show Steps p.tables e below (T1.setTop (mkF m 8 #[.val (.ref o0_), .val (.int (2 : Int32)), .val (.int (34 : Int32)), .unset, .unset] [(.int (32 : Int32))])) _
    refine XS.istoreN X1.here hx rfl (hb hby d3_8) rfl (l' := #[.val (.ref o0_), .val (.int (2 : Int32)), .val (.int (34 : Int32)), .val (.int (32 : Int32)), .unset]) rfl ?_
    show Steps p.tables e below (T1.setTop (mkF m 9 #[.val (.ref o0_), .val (.int (2 : Int32)), .val (.int (34 : Int32)), .val (.int (32 : Int32)), .unset] [])) _
    refine XS.iloadN X1.here hx rfl (hb hby d3_9) rfl ?_
    show Steps p.tables e below (T1.setTop (mkF m 10 #[.val (.ref o0_), .val (.int (2 : Int32)), .val (.int (34 : Int32)), .val (.int (32 : Int32)), .unset] [(.int (32 : Int32))])) _
    refine st3 _ ?_
    show Steps p.tables e below (T3.setTop (mkF m 12 #[.val (.ref o0_), .val (.int (2 : Int32)), .val (.int (34 : Int32)), .val (.int (32 : Int32)), .unset] [(.ref b3)])) _
    refine XS.astore X3.here hx rfl (hb hby d3_12) rfl rfl (l' := #[.val (.ref o0_), .val (.int (2 : Int32)), .val (.int (34 : Int32)), .val (.int (32 : Int32)), .val (.ref b3)]) rfl ?_
    show Steps p.tables e below (T3.setTop (mkF m 14 #[.val (.ref o0_), .val (.int (2 : Int32)), .val (.int (34 : Int32)), .val (.int (32 : Int32)), .val (.ref b3)] [])) _
    refine XS.aloadN X3.here hx rfl (hb hby d3_14) rfl rfl ?_
    show Steps p.tables e below (T3.setTop (mkF m 15 #[.val (.ref o0_), .val (.int (2 : Int32)), .val (.int (34 : Int32)), .val (.int (32 : Int32)), .val (.ref b3)] [(.ref o0_)])) _
    refine XS.iloadN X3.here hx rfl (hb hby d3_15) rfl ?_
    show Steps p.tables e below (T3.setTop (mkF m 16 #[.val (.ref o0_), .val (.int (2 : Int32)), .val (.int (34 : Int32)), .val (.int (32 : Int32)), .val (.ref b3)] [(.int (2 : Int32)), (.ref o0_)])) _
    refine XS.aload X3.here hx rfl (hb hby d3_16) rfl rfl ?_
    show Steps p.tables e below (T3.setTop (mkF m 18 #[.val (.ref o0_), .val (.int (2 : Int32)), .val (.int (34 : Int32)), .val (.int (32 : Int32)), .val (.ref b3)] [(.ref b3), (.int (2 : Int32)), (.ref o0_)])) _
    refine XS.iconst X3.here hx rfl (hb hby d3_18) ?_
    show Steps p.tables e below (T3.setTop (mkF m 19 #[.val (.ref o0_), .val (.int (2 : Int32)), .val (.int (34 : Int32)), .val (.int (32 : Int32)), .val (.ref b3)] [(.int (0 : Int32)), (.ref b3), (.int (2 : Int32)), (.ref o0_)])) _
    refine XS.aloadN X3.here hx rfl (hb hby d3_19) rfl rfl ?_
    show Steps p.tables e below (T3.setTop (mkF m 20 #[.val (.ref o0_), .val (.int (2 : Int32)), .val (.int (34 : Int32)), .val (.int (32 : Int32)), .val (.ref b3)] [(.ref o0_), (.int (0 : Int32)), (.ref b3), (.int (2 : Int32)), (.ref o0_)])) _
    refine X3.arraylength hx (by rw [e3]; exact r7.1) (State.isArrayOf_alike hZ.alike r7.2.1) (g := (mkF m 20 #[.val (.ref o0_), .val (.int (2 : Int32)), .val (.int (34 : Int32)), .val (.int (32 : Int32)), .val (.ref b3)] [(.ref o0_), (.int (0 : Int32)), (.ref b3), (.int (2 : Int32)), (.ref o0_)])) rfl rfl (hb hby d3_20) _ ?_
    rw [len_of s7 z7]
    show Steps p.tables e below (T3.setTop (mkF m 21 #[.val (.ref o0_), .val (.int (2 : Int32)), .val (.int (34 : Int32)), .val (.int (32 : Int32)), .val (.ref b3)] [(.int (34 : Int32)), (.int (0 : Int32)), (.ref b3), (.int (2 : Int32)), (.ref o0_)])) _
    refine XS.iloadN X3.here hx rfl (hb hby d3_21) rfl ?_
    show Steps p.tables e below (T3.setTop (mkF m 22 #[.val (.ref o0_), .val (.int (2 : Int32)), .val (.int (34 : Int32)), .val (.int (32 : Int32)), .val (.ref b3)] [(.int (2 : Int32)), (.int (34 : Int32)), (.int (0 : Int32)), (.ref b3), (.int (2 : Int32)), (.ref o0_)])) _
    refine XS.isub X3.here hx rfl (hb hby d3_22) rfl ?_
    show Steps p.tables e below (T3.setTop (mkF m 23 #[.val (.ref o0_), .val (.int (2 : Int32)), .val (.int (34 : Int32)), .val (.int (32 : Int32)), .val (.ref b3)] [(.int (32 : Int32)), (.int (0 : Int32)), (.ref b3), (.int (2 : Int32)), (.ref o0_)])) _
    refine XS.iloadN X3.here hx rfl (hb hby d3_23) rfl ?_
    show Steps p.tables e below (T3.setTop (mkF m 24 #[.val (.ref o0_), .val (.int (2 : Int32)), .val (.int (34 : Int32)), .val (.int (32 : Int32)), .val (.ref b3)] [(.int (32 : Int32)), (.int (32 : Int32)), (.int (0 : Int32)), (.ref b3), (.int (2 : Int32)), (.ref o0_)])) _
    refine st9 _ ?_
    show Steps p.tables e below (T9.setTop (mkF m 27 #[.val (.ref o0_), .val (.int (2 : Int32)), .val (.int (34 : Int32)), .val (.int (32 : Int32)), .val (.ref b3)] [(.int (32 : Int32)), (.int (0 : Int32)), (.ref b3), (.int (2 : Int32)), (.ref o0_)])) _
    refine st12 _ ?_
    show Steps p.tables e below (T12.setTop (mkF m 30 #[.val (.ref o0_), .val (.int (2 : Int32)), .val (.int (34 : Int32)), .val (.int (32 : Int32)), .val (.ref b3)] [])) _
    refine XS.aload X12.here hx rfl (hb hby d3_30) rfl rfl ?_
    exact kt
  have f16 : Keep h0 h3 [] := K0.ext E3
  have f17 : Keep h0 h12 [] := f16.trans K12 (allS (Or.inr sz5) all0)
  have f18 : Exa Z h12 b3 "[B" := Z3.keep K12
  obtain ⟨fs, hr, hrun, hended, hW, hsame⟩ := X12.leave (v := some (.ref b3)) (fun h => by rw [Bd.returns] at h; cases h)
  refine ⟨_, _, pre14 _ (retOut X12 hx Bd.returns rfl (Or.inr (Or.inr (Or.inr (Or.inr ⟨rfl, rfl, rfl⟩)))) (hb hby d3_32) hr), hrun, hended, _, _, rfl, ?_, ⟨_, rfl⟩, hW, hsame.mono (by decide) (by decide)⟩
  show QcopyOfRangeByte10 Z o0_ ko0_ fo0_ h0 n0 _ T12.heap _
  rw [e12]
  exact ⟨k3, b3, rfl, N12, f17, sz5, f13, f18⟩
theorem efcopyOfRange9 (m : MethodId) (o0_ : Addr) : entryFrame m #[(.ref o0_), (.int (2 : Int32)), (.int (34 : Int32))] 3 = mkF m 0 #[.val (.ref o0_), .val (.int (2 : Int32)), .val (.int (34 : Int32))] [] := by first | (simp [entryFrame, mkF, argsToLocals, Value.category]; done) | rfl
def QcopyOfRange9 (Z : State) (o0_ : Addr) (ko0_ : ClassId) (fo0_ : Nat → Int32) (h0 : Heap) (n0 : Nat) (v : Option Value) (h : Heap) (L : List Loc) : Prop := ∃ k3_1 : ClassId, ∃ nnb3_1 : Addr, v = some (.ref nnb3_1) ∧ Fr n0 L ∧ Keep h0 h [] ∧ h0.size ≤ nnb3_1 ∧ Arv Z h nnb3_1 k3_1 .byte (32 : Int32) (own_l 32 (fun k => fo0_ (2 + k))) (.int (0 : Int32)) ∧ Exa Z h nnb3_1 "[B"
set_option maxRecDepth 65536 in
set_option maxHeartbeats 40000000 in
theorem rmcopyOfRange9 (l : Launch) (Z : State) (a0 : Array Value) (hw : ∀ d ∈ tables_1, d.before a0 Z = true) (ws : List Jvm.Cond) (o0_ : Addr) (ko0_ : ClassId) (fo0_ : Nat → Int32) (h0 : Heap) (n0 : Nat) (O0 : Old Z n0 h0) (P0 : Arv Z h0 o0_ ko0_ .byte (34 : Int32) (own_l 34 fo0_) (.int (0 : Int32))) (P1 : Exa Z h0 o0_ "[B") :
    MetFree l (⟨"java/util/Arrays", "copyOfRange", "([BII)[B"⟩ : MethodName) (head1 (Jvm.Cond.code (⟨"java/util/Arrays", "copyOfRange", "([BII)[B"⟩ : MethodName) jdk_65_method_132_code 3 (some (.array .byte)) :: ws) ({ frames := 2, cells := 1, slots := 32, locals := 34 } : Room)) (fun a U => a = #[(.ref o0_), (.int (2 : Int32)), (.int (34 : Int32))] ∧ Z.Warmed39 U.vm ∧ U.heap = h0) (fun _ _ _ _ _ => True) (fun _ U o U' => ∃ v L, o = .returned v ∧ QcopyOfRange9 Z o0_ ko0_ fo0_ h0 n0 v U'.heap L ∧ FrameEnd U o U' L ({ frames := 2, cells := 1, slots := 32, locals := 34 } : Room).cells ({ frames := 2, cells := 1, slots := 32, locals := 34 } : Room).slots) := by
  refine MetFree.of_bodySF (plainFor_of_name pn_0) hisR ?_
  intro p e s m args below meth c s₁ Bd hml0 hP hK
  obtain ⟨rfl, hZ, hh⟩ := hP
  have hx := Bd.exec
  have hby := Bd.bytes
  have hml : c.maxLocals = 3 := hml0
  have hown : s.vm.findClass "java/util/Arrays" = some m.cls := findClass_of_methodNamed Bd.named
  have hnm := (name_of_methodNamed Bd.named Bd.method).1
  have X0 : Stand p l e ({ frames := 2, cells := 1, slots := 32, locals := 34 } : Room) s m #[(.ref o0_), (.int (2 : Int32)), (.int (34 : Int32))] below meth c s₁ [] 0 0 := Stand.of_body Bd
  have e0 : s₁.heap = h0 := by rw [← hh, Bd.state]; rfl
  have N0 := Fr.nil n0
  have pre0 : ∀ t, Steps p.tables e below (s₁.setTop (mkF m 0 #[.val (.ref o0_), .val (.int (2 : Int32)), .val (.int (34 : Int32))] [])) t → Steps p.tables e below (s₁.setTop (entryFrame m #[(.ref o0_), (.int (2 : Int32)), (.int (34 : Int32))] 3)) t := fun t k => castTop (efcopyOfRange9 m o0_) k
  have K0 : Keep h0 h0 [] := Keep.refl _ _
  obtain ⟨_, _, ⟨T1, L1, k1, n1⟩, -, X1, ⟨Lc1, hQ1, l1, y1, z1⟩, st1⟩ := Jvm.LawKit.callS X0 hx (y := (⟨"java/util/Arrays", "copyOfRangeByte", "([BII)[B"⟩ : MethodName)) hown (mvT hZ (hw _ (List.mem_of_getElem? (i := 19) rfl))) (mvT hZ (hw _ (List.mem_of_getElem? (i := 20) rfl))) (mvT hZ (hw _ (List.mem_of_getElem? (i := 8) rfl))) (mvT hZ (hw _ (List.mem_of_getElem? (i := 21) rfl))) (by decide) (backOf (W := 0) (rmcopyOfRangeByte10 l Z a0 hw [] o0_ ko0_ fo0_ h0 n0 O0 P0 P1) hZ (hw _ (List.mem_of_getElem? (i := 21) rfl)) (hw _ (List.mem_of_getElem? (i := 8) rfl)) (by decide) (by decide)) (g := (mkF m 13 #[.val (.ref o0_), .val (.int (2 : Int32)), .val (.int (34 : Int32))] [(.int (34 : Int32)), (.int (2 : Int32)), (.ref o0_)])) rfl (by rw [hml]; rfl) (argsL := [(.ref o0_), (.int (2 : Int32)), (.int (34 : Int32))]) (rest := []) (lenOf pd_0 rfl) rfl (by show 2 * 0 + _ ≤ _; exact Nat.le_of_eq rfl) (hb hby d2_13) (fun _ _ => ⟨rfl, e0, (by decide : 0 + 1 ≤ _), (by decide : 0 + 32 ≤ _)⟩)
  dsimp only [Pt.U, Pt.locs, Pt.cells, Pt.slots] at X1 l1 y1 z1 st1 hQ1
  subst l1 y1 z1
  obtain ⟨h1, e1⟩ : ∃ z, T1.heap = z := ⟨_, rfl⟩
  rw [e1] at hQ1
  obtain ⟨k3_1, nb3_1, rfl, N1q, K1, sznb3_1, g1_0, g1_1⟩ := hQ1
  have N2 := Fr.app N0 N1q
  have ge3 : n0 ≤ nb3_1 := Nat.le_trans (Nat.le_trans (Nat.le_of_eq O0.1.symm) O0.2.1) sznb3_1
  have sz4 : h0.size ≤ nb3_1 := Nat.le_trans K0.1 sznb3_1
  have pre5 : ∀ t, Steps p.tables e below (T1.setTop (mkF m 16 #[.val (.ref o0_), .val (.int (2 : Int32)), .val (.int (34 : Int32))] [(.ref nb3_1)])) t → Steps p.tables e below (s₁.setTop (entryFrame m #[(.ref o0_), (.int (2 : Int32)), (.int (34 : Int32))] 3)) t := by
    intro t kt
    refine pre0 t ?_
    show Steps p.tables e below (s₁.setTop (mkF m 0 #[.val (.ref o0_), .val (.int (2 : Int32)), .val (.int (34 : Int32))] [])) _
    refine XS.iloadN X0.here hx rfl (hb hby d2_0) rfl ?_
    show Steps p.tables e below (s₁.setTop (mkF m 1 #[.val (.ref o0_), .val (.int (2 : Int32)), .val (.int (34 : Int32))] [(.int (2 : Int32))])) _
    refine XS.ifYes X0.here hx rfl (pc0 := 1) (pc' := 10) rfl (hb hby d2_1) rfl ((if0 _ _).trans (feq (by decide : ¬ ((2 : Int32) = (0 : Int32)))).2) (by decide) (by decide) ?_
    show Steps p.tables e below (s₁.setTop (mkF m 10 #[.val (.ref o0_), .val (.int (2 : Int32)), .val (.int (34 : Int32))] [])) _
    refine XS.aloadN X0.here hx rfl (hb hby d2_10) rfl rfl ?_
    show Steps p.tables e below (s₁.setTop (mkF m 11 #[.val (.ref o0_), .val (.int (2 : Int32)), .val (.int (34 : Int32))] [(.ref o0_)])) _
    refine XS.iloadN X0.here hx rfl (hb hby d2_11) rfl ?_
    show Steps p.tables e below (s₁.setTop (mkF m 12 #[.val (.ref o0_), .val (.int (2 : Int32)), .val (.int (34 : Int32))] [(.int (2 : Int32)), (.ref o0_)])) _
    refine XS.iloadN X0.here hx rfl (hb hby d2_12) rfl ?_
    show Steps p.tables e below (s₁.setTop (mkF m 13 #[.val (.ref o0_), .val (.int (2 : Int32)), .val (.int (34 : Int32))] [(.int (34 : Int32)), (.int (2 : Int32)), (.ref o0_)])) _
    refine st1 _ ?_
    exact kt
  have f7 : Keep h0 h1 [] := K0.trans K1 all0
  obtain ⟨fs, hr, hrun, hended, hW, hsame⟩ := X1.leave (v := some (.ref nb3_1)) (fun h => by rw [Bd.returns] at h; cases h)
  refine ⟨_, _, pre5 _ (retOut X1 hx Bd.returns rfl (Or.inr (Or.inr (Or.inr (Or.inr ⟨rfl, rfl, rfl⟩)))) (hb hby d2_16) hr), hrun, hended, _, _, rfl, ?_, ⟨_, rfl⟩, hW, hsame.mono (by decide) (by decide)⟩
  show QcopyOfRange9 Z o0_ ko0_ fo0_ h0 n0 _ T1.heap _
  rw [e1]
  exact ⟨k3_1, nb3_1, rfl, N2, f7, sz4, g1_0, g1_1⟩
theorem efvalue8 (m : MethodId) (o0_ : Addr) : entryFrame m #[(.ref o0_)] 1 = mkF m 0 #[.val (.ref o0_)] [] := by first | (simp [entryFrame, mkF, argsToLocals, Value.category]; done) | rfl
def Qvalue8 (Z : State) (o0_ : Addr) (ko0_ : ClassId) (fo0_ : Nat → Int32) (h0 : Heap) (n0 : Nat) (v : Option Value) (h : Heap) (L : List Loc) : Prop := ∃ k3_1_3 : ClassId, ∃ nnnb3_1_3 : Addr, v = some (.ref nnnb3_1_3) ∧ Fr n0 L ∧ Keep h0 h [] ∧ h0.size ≤ nnnb3_1_3 ∧ Arv Z h nnnb3_1_3 k3_1_3 .byte (32 : Int32) (own_l 32 (fun k => fo0_ (2 + k))) (.int (0 : Int32)) ∧ Exa Z h nnnb3_1_3 "[B"
set_option maxRecDepth 65536 in
set_option maxHeartbeats 40000000 in
theorem rmvalue8 (l : Launch) (Z : State) (a0 : Array Value) (hw : ∀ d ∈ tables_1, d.before a0 Z = true) (ws : List Jvm.Cond) (o0_ : Addr) (ko0_ : ClassId) (fo0_ : Nat → Int32) (h0 : Heap) (n0 : Nat) (O0 : Old Z n0 h0) (P0 : Arv Z h0 o0_ ko0_ .byte (34 : Int32) (own_l 34 fo0_) (.int (0 : Int32))) (P1 : Exa Z h0 o0_ "[B") :
    MetFree l (⟨"com/example/aeacus/aeacus/log/Chain", "value", "([B)[B"⟩ : MethodName) (head1 (Jvm.Cond.code (⟨"com/example/aeacus/aeacus/log/Chain", "value", "([B)[B"⟩ : MethodName) prog_22_method_7_code 1 (some (.array .byte)) :: ws) ({ frames := 3, cells := 1, slots := 32, locals := 48 } : Room)) (fun a U => a = #[(.ref o0_)] ∧ Z.Warmed39 U.vm ∧ U.heap = h0) (fun _ _ _ _ _ => True) (fun _ U o U' => ∃ v L, o = .returned v ∧ Qvalue8 Z o0_ ko0_ fo0_ h0 n0 v U'.heap L ∧ FrameEnd U o U' L ({ frames := 3, cells := 1, slots := 32, locals := 48 } : Room).cells ({ frames := 3, cells := 1, slots := 32, locals := 48 } : Room).slots) := by
  refine MetFree.of_bodySF (plainFor_of_name pn_1) hisR ?_
  intro p e s m args below meth c s₁ Bd hml0 hP hK
  obtain ⟨rfl, hZ, hh⟩ := hP
  have hx := Bd.exec
  have hby := Bd.bytes
  have hml : c.maxLocals = 1 := hml0
  have hown : s.vm.findClass "com/example/aeacus/aeacus/log/Chain" = some m.cls := findClass_of_methodNamed Bd.named
  have hnm := (name_of_methodNamed Bd.named Bd.method).1
  have X0 : Stand p l e ({ frames := 3, cells := 1, slots := 32, locals := 48 } : Room) s m #[(.ref o0_)] below meth c s₁ [] 0 0 := Stand.of_body Bd
  have e0 : s₁.heap = h0 := by rw [← hh, Bd.state]; rfl
  have N0 := Fr.nil n0
  have pre0 : ∀ t, Steps p.tables e below (s₁.setTop (mkF m 0 #[.val (.ref o0_)] [])) t → Steps p.tables e below (s₁.setTop (entryFrame m #[(.ref o0_)] 1)) t := fun t k => castTop (efvalue8 m o0_) k
  have K0 : Keep h0 h0 [] := Keep.refl _ _
  obtain ⟨c1, r1, q1, s1, z1, y1, G1⟩ := id P0
  obtain ⟨c2, r2, q2, s2, z2, y2, G2⟩ := id P0
  obtain ⟨_, _, ⟨T3, L3, k3, n3⟩, -, X3, ⟨Lc3, hQ3, l3, y3, z3⟩, st3⟩ := Jvm.LawKit.callS X0 hx (y := (⟨"java/util/Arrays", "copyOfRange", "([BII)[B"⟩ : MethodName)) hown (mvT hZ (hw _ (List.mem_of_getElem? (i := 6) rfl))) (mvT hZ (hw _ (List.mem_of_getElem? (i := 7) rfl))) (mvT hZ (hw _ (List.mem_of_getElem? (i := 8) rfl))) (mvT hZ (hw _ (List.mem_of_getElem? (i := 9) rfl))) (by decide) (backOf (W := 0) (rmcopyOfRange9 l Z a0 hw [] o0_ ko0_ fo0_ h0 n0 O0 P0 P1) hZ (hw _ (List.mem_of_getElem? (i := 9) rfl)) (hw _ (List.mem_of_getElem? (i := 8) rfl)) (by decide) (by decide)) (g := (mkF m 8 #[.val (.ref o0_)] [(.int (34 : Int32)), (.int (2 : Int32)), (.ref o0_)])) rfl (by rw [hml]; rfl) (argsL := [(.ref o0_), (.int (2 : Int32)), (.int (34 : Int32))]) (rest := []) (lenOf pd_0 rfl) rfl (by show 2 * 0 + _ ≤ _; exact Nat.le_of_eq rfl) (hb hby d1_8) (fun _ _ => ⟨rfl, e0, (by decide : 0 + 1 ≤ _), (by decide : 0 + 32 ≤ _)⟩)
  dsimp only [Pt.U, Pt.locs, Pt.cells, Pt.slots] at X3 l3 y3 z3 st3 hQ3
  subst l3 y3 z3
  obtain ⟨h3, e3⟩ : ∃ z, T3.heap = z := ⟨_, rfl⟩
  rw [e3] at hQ3
  obtain ⟨k3_1_3, nnb3_1_3, rfl, N3q, K3, sznnb3_1_3, g3_0, g3_1⟩ := hQ3
  have N4 := Fr.app N0 N3q
  have ge5 : n0 ≤ nnb3_1_3 := Nat.le_trans (Nat.le_trans (Nat.le_of_eq O0.1.symm) O0.2.1) sznnb3_1_3
  have sz6 : h0.size ≤ nnb3_1_3 := Nat.le_trans K0.1 sznnb3_1_3
  have pre7 : ∀ t, Steps p.tables e below (T3.setTop (mkF m 11 #[.val (.ref o0_)] [(.ref nnb3_1_3)])) t → Steps p.tables e below (s₁.setTop (entryFrame m #[(.ref o0_)] 1)) t := by
    intro t kt
    refine pre0 t ?_
    show Steps p.tables e below (s₁.setTop (mkF m 0 #[.val (.ref o0_)] [])) _
    refine XS.aloadN X0.here hx rfl (hb hby d1_0) rfl rfl ?_
    show Steps p.tables e below (s₁.setTop (mkF m 1 #[.val (.ref o0_)] [(.ref o0_)])) _
    refine XS.aloadN X0.here hx rfl (hb hby d1_1) rfl rfl ?_
    show Steps p.tables e below (s₁.setTop (mkF m 2 #[.val (.ref o0_)] [(.ref o0_), (.ref o0_)])) _
    refine X0.arraylength hx (by rw [e0]; exact r1.1) (State.isArrayOf_alike hZ.alike r1.2.1) (g := (mkF m 2 #[.val (.ref o0_)] [(.ref o0_), (.ref o0_)])) rfl rfl (hb hby d1_2) _ ?_
    rw [len_of s1 z1]
    show Steps p.tables e below (s₁.setTop (mkF m 3 #[.val (.ref o0_)] [(.int (34 : Int32)), (.ref o0_)])) _
    refine XS.bipush X0.here hx rfl (hb hby d1_3) ?_
    show Steps p.tables e below (s₁.setTop (mkF m 5 #[.val (.ref o0_)] [(.int (32 : Int32)), (.int (34 : Int32)), (.ref o0_)])) _
    refine XS.isub X0.here hx rfl (hb hby d1_5) rfl ?_
    show Steps p.tables e below (s₁.setTop (mkF m 6 #[.val (.ref o0_)] [(.int (2 : Int32)), (.ref o0_)])) _
    refine XS.aloadN X0.here hx rfl (hb hby d1_6) rfl rfl ?_
    show Steps p.tables e below (s₁.setTop (mkF m 7 #[.val (.ref o0_)] [(.ref o0_), (.int (2 : Int32)), (.ref o0_)])) _
    refine X0.arraylength hx (by rw [e0]; exact r2.1) (State.isArrayOf_alike hZ.alike r2.2.1) (g := (mkF m 7 #[.val (.ref o0_)] [(.ref o0_), (.int (2 : Int32)), (.ref o0_)])) rfl rfl (hb hby d1_7) _ ?_
    rw [len_of s2 z2]
    show Steps p.tables e below (s₁.setTop (mkF m 8 #[.val (.ref o0_)] [(.int (34 : Int32)), (.int (2 : Int32)), (.ref o0_)])) _
    refine st3 _ ?_
    exact kt
  have f9 : Keep h0 h3 [] := K0.trans K3 all0
  obtain ⟨fs, hr, hrun, hended, hW, hsame⟩ := X3.leave (v := some (.ref nnb3_1_3)) (fun h => by rw [Bd.returns] at h; cases h)
  refine ⟨_, _, pre7 _ (retOut X3 hx Bd.returns rfl (Or.inr (Or.inr (Or.inr (Or.inr ⟨rfl, rfl, rfl⟩)))) (hb hby d1_11) hr), hrun, hended, _, _, rfl, ?_, ⟨_, rfl⟩, hW, hsame.mono (by decide) (by decide)⟩
  show Qvalue8 Z o0_ ko0_ fo0_ h0 n0 _ T3.heap _
  rw [e3]
  exact ⟨k3_1_3, nnb3_1_3, rfl, N4, f9, sz6, g3_0, g3_1⟩
theorem efcheckLength15 (m : MethodId)  : entryFrame m #[(.int (3 : Int32)), (.int (35 : Int32))] 2 = mkF m 0 #[.val (.int (3 : Int32)), .val (.int (35 : Int32))] [] := by first | (simp [entryFrame, mkF, argsToLocals, Value.category]; done) | rfl
def QcheckLength15 (Z : State)  (h0 : Heap) (n0 : Nat) (v : Option Value) (h : Heap) (L : List Loc) : Prop := v = none ∧ Fr n0 L ∧ h = h0
set_option maxRecDepth 65536 in
set_option maxHeartbeats 40000000 in
theorem rmcheckLength15 (l : Launch) (Z : State) (a0 : Array Value) (hw : ∀ d ∈ tables_1, d.before a0 Z = true) (ws : List Jvm.Cond)  (h0 : Heap) (n0 : Nat) (O0 : Old Z n0 h0)  :
    MetFree l (⟨"java/util/Arrays", "checkLength", "(II)V"⟩ : MethodName) (head1 (Jvm.Cond.code (⟨"java/util/Arrays", "checkLength", "(II)V"⟩ : MethodName) jdk_65_method_131_code 2 none :: ws) ({ frames := 0, cells := 0, slots := 0, locals := 0 } : Room)) (fun a U => a = #[(.int (3 : Int32)), (.int (35 : Int32))] ∧ Z.Warmed39 U.vm ∧ U.heap = h0) (fun _ _ _ _ _ => True) (fun _ U o U' => ∃ v L, o = .returned v ∧ QcheckLength15 Z  h0 n0 v U'.heap L ∧ FrameEnd U o U' L ({ frames := 0, cells := 0, slots := 0, locals := 0 } : Room).cells ({ frames := 0, cells := 0, slots := 0, locals := 0 } : Room).slots) := by
  refine MetFree.of_bodySF (plainFor_of_name pn_0) hisR ?_
  intro p e s m args below meth c s₁ Bd hml0 hP hK
  obtain ⟨rfl, hZ, hh⟩ := hP
  have hx := Bd.exec
  have hby := Bd.bytes
  have hml : c.maxLocals = 2 := hml0
  have hown : s.vm.findClass "java/util/Arrays" = some m.cls := findClass_of_methodNamed Bd.named
  have hnm := (name_of_methodNamed Bd.named Bd.method).1
  have X0 : Stand p l e ({ frames := 0, cells := 0, slots := 0, locals := 0 } : Room) s m #[(.int (3 : Int32)), (.int (35 : Int32))] below meth c s₁ [] 0 0 := Stand.of_body Bd
  have e0 : s₁.heap = h0 := by rw [← hh, Bd.state]; rfl
  have N0 := Fr.nil n0
  have pre0 : ∀ t, Steps p.tables e below (s₁.setTop (mkF m 0 #[.val (.int (3 : Int32)), .val (.int (35 : Int32))] [])) t → Steps p.tables e below (s₁.setTop (entryFrame m #[(.int (3 : Int32)), (.int (35 : Int32))] 2)) t := fun t k => castTop (efcheckLength15 m ) k
  have K0 : Keep h0 h0 [] := Keep.refl _ _
  have pre1 : ∀ t, Steps p.tables e below (s₁.setTop (mkF m 37 #[.val (.int (3 : Int32)), .val (.int (35 : Int32))] [])) t → Steps p.tables e below (s₁.setTop (entryFrame m #[(.int (3 : Int32)), (.int (35 : Int32))] 2)) t := by
    intro t kt
    refine pre0 t ?_
    show Steps p.tables e below (s₁.setTop (mkF m 0 #[.val (.int (3 : Int32)), .val (.int (35 : Int32))] [])) _
    refine XS.iloadN X0.here hx rfl (hb hby d4_0) rfl ?_
    show Steps p.tables e below (s₁.setTop (mkF m 1 #[.val (.int (3 : Int32)), .val (.int (35 : Int32))] [(.int (35 : Int32))])) _
    refine XS.iloadN X0.here hx rfl (hb hby d4_1) rfl ?_
    show Steps p.tables e below (s₁.setTop (mkF m 2 #[.val (.int (3 : Int32)), .val (.int (35 : Int32))] [(.int (3 : Int32)), (.int (35 : Int32))])) _
    refine XS.icmpYes X0.here hx rfl (pc0 := 2) (pc' := 37) rfl (hb hby d4_2) rfl (flt (by decide : ¬ ((35 : Int32) < (3 : Int32)))).2.1 (by decide) (by decide) ?_
    exact kt
  obtain ⟨fs, hr, hrun, hended, hW, hsame⟩ := X0.leave (v := none) (fun _ => rfl)
  refine ⟨_, _, pre1 _ (X0.returnOut hx Bd.returns (hb hby d4_37) hr), hrun, hended, _, _, rfl, ?_, ⟨_, rfl⟩, hW, hsame.mono (by decide) (by decide)⟩
  show QcheckLength15 Z  h0 n0 _ s₁.heap _
  rw [e0]
  exact ⟨rfl, N0, rfl⟩
theorem efcopyOfRangeByte14 (m : MethodId) (o0_ : Addr) : entryFrame m #[(.ref o0_), (.int (3 : Int32)), (.int (35 : Int32))] 5 = mkF m 0 #[.val (.ref o0_), .val (.int (3 : Int32)), .val (.int (35 : Int32)), .unset, .unset] [] := by first | (simp [entryFrame, mkF, argsToLocals, Value.category]; done) | rfl
def QcopyOfRangeByte14 (Z : State) (o0_ : Addr) (ko0_ : ClassId) (fo0_ : Nat → Int32) (h0 : Heap) (n0 : Nat) (v : Option Value) (h : Heap) (L : List Loc) : Prop := ∃ k3 : ClassId, ∃ nb3 : Addr, v = some (.ref nb3) ∧ Fr n0 L ∧ Keep h0 h [] ∧ h0.size ≤ nb3 ∧ Arv Z h nb3 k3 .byte (32 : Int32) (own_l 32 (fun k => fo0_ (3 + k))) (.int (0 : Int32)) ∧ Exa Z h nb3 "[B"
set_option maxRecDepth 65536 in
set_option maxHeartbeats 40000000 in
theorem rmcopyOfRangeByte14 (l : Launch) (Z : State) (a0 : Array Value) (hw : ∀ d ∈ tables_1, d.before a0 Z = true) (ws : List Jvm.Cond) (o0_ : Addr) (ko0_ : ClassId) (fo0_ : Nat → Int32) (h0 : Heap) (n0 : Nat) (O0 : Old Z n0 h0) (P0 : Arv Z h0 o0_ ko0_ .byte (35 : Int32) (own_l 35 fo0_) (.int (0 : Int32))) (P1 : Exa Z h0 o0_ "[B") :
    MetFree l (⟨"java/util/Arrays", "copyOfRangeByte", "([BII)[B"⟩ : MethodName) (head1 (Jvm.Cond.code (⟨"java/util/Arrays", "copyOfRangeByte", "([BII)[B"⟩ : MethodName) jdk_65_method_133_code 5 (some (.array .byte)) :: ws) ({ frames := 1, cells := 1, slots := 32, locals := 18 } : Room)) (fun a U => a = #[(.ref o0_), (.int (3 : Int32)), (.int (35 : Int32))] ∧ Z.Warmed39 U.vm ∧ U.heap = h0) (fun _ _ _ _ _ => True) (fun _ U o U' => ∃ v L, o = .returned v ∧ QcopyOfRangeByte14 Z o0_ ko0_ fo0_ h0 n0 v U'.heap L ∧ FrameEnd U o U' L ({ frames := 1, cells := 1, slots := 32, locals := 18 } : Room).cells ({ frames := 1, cells := 1, slots := 32, locals := 18 } : Room).slots) := by
  refine MetFree.of_bodySF (plainFor_of_name pn_0) hisR ?_
  intro p e s m args below meth c s₁ Bd hml0 hP hK
  obtain ⟨rfl, hZ, hh⟩ := hP
  have hx := Bd.exec
  have hby := Bd.bytes
  have hml : c.maxLocals = 5 := hml0
  have hown : s.vm.findClass "java/util/Arrays" = some m.cls := findClass_of_methodNamed Bd.named
  have hnm := (name_of_methodNamed Bd.named Bd.method).1
  have X0 : Stand p l e ({ frames := 1, cells := 1, slots := 32, locals := 18 } : Room) s m #[(.ref o0_), (.int (3 : Int32)), (.int (35 : Int32))] below meth c s₁ [] 0 0 := Stand.of_body Bd
  have e0 : s₁.heap = h0 := by rw [← hh, Bd.state]; rfl
  have N0 := Fr.nil n0
  have pre0 : ∀ t, Steps p.tables e below (s₁.setTop (mkF m 0 #[.val (.ref o0_), .val (.int (3 : Int32)), .val (.int (35 : Int32)), .unset, .unset] [])) t → Steps p.tables e below (s₁.setTop (entryFrame m #[(.ref o0_), (.int (3 : Int32)), (.int (35 : Int32))] 5)) t := fun t k => castTop (efcopyOfRangeByte14 m o0_) k
  have K0 : Keep h0 h0 [] := Keep.refl _ _
  obtain ⟨_, _, ⟨T1, L1, k1, n1⟩, -, X1, ⟨Lc1, hQ1, l1, y1, z1⟩, st1⟩ := Jvm.LawKit.callS X0 hx (y := (⟨"java/util/Arrays", "checkLength", "(II)V"⟩ : MethodName)) hown (mvT hZ (hw _ (List.mem_of_getElem? (i := 22) rfl))) (mvT hZ (hw _ (List.mem_of_getElem? (i := 23) rfl))) (mvT hZ (hw _ (List.mem_of_getElem? (i := 8) rfl))) (mvT hZ (hw _ (List.mem_of_getElem? (i := 24) rfl))) (by decide) (backOf (W := 0) (rmcheckLength15 l Z a0 hw []  h0 n0 O0 ) hZ (hw _ (List.mem_of_getElem? (i := 24) rfl)) (hw _ (List.mem_of_getElem? (i := 8) rfl)) (by decide) (by decide)) (g := (mkF m 2 #[.val (.ref o0_), .val (.int (3 : Int32)), .val (.int (35 : Int32)), .unset, .unset] [(.int (35 : Int32)), (.int (3 : Int32))])) rfl (by rw [hml]; rfl) (argsL := [(.int (3 : Int32)), (.int (35 : Int32))]) (rest := []) (lenOf pd_2 rfl) rfl (by show 2 * 0 + _ ≤ _; exact Nat.le_of_eq rfl) (hb hby d3_2) (fun _ _ => ⟨rfl, e0, (by decide : 0 + 0 ≤ _), (by decide : 0 + 0 ≤ _)⟩)
  dsimp only [Pt.U, Pt.locs, Pt.cells, Pt.slots] at X1 l1 y1 z1 st1 hQ1
  subst l1 y1 z1
  obtain ⟨h1, e1⟩ : ∃ z, T1.heap = z := ⟨_, rfl⟩
  rw [e1] at hQ1
  obtain ⟨rfl, N1q, hh1⟩ := hQ1
  have N2 := Fr.app N0 N1q
  have e1' : T1.heap = h0 := e1.trans hh1
  obtain ⟨T3, h3, k3, X3, e3, E3, A3, Z3, st3⟩ := newPE X1 hx hZ (hw _ (List.mem_of_getElem? (i := 0) rfl)) e1' (g := (mkF m 10 #[.val (.ref o0_), .val (.int (3 : Int32)), .val (.int (35 : Int32)), .val (.int (32 : Int32)), .unset] [(.int (32 : Int32))])) rfl (hb hby d3_10) rfl (by decide) (cap := 32) (by decide) (by decide) (by decide) (by decide) (ad := "[B") (by decide)
  obtain ⟨b3, g3⟩ : ∃ z, z = h0.size := ⟨_, rfl⟩
  rw [← g3] at A3 Z3 st3
  have ge4 : n0 ≤ b3 := Nat.le_trans (Nat.le_trans (Nat.le_of_eq O0.1.symm) O0.2.1) (Nat.le_of_eq g3.symm)
  have sz5 : h0.size ≤ b3 := Nat.le_trans K0.1 (Nat.le_of_eq g3.symm)
  have f6 : Arv Z h3 b3 k3 .byte (32 : Int32) (own_l 32 (fun _ => (0 : Int32))) (.int (0 : Int32)) := (Arv.new A3 (by decide)).pad (own_l_pad 32)
  have f8 : Arv Z h3 o0_ ko0_ .byte (35 : Int32) (own_l 35 fo0_) (.int (0 : Int32)) := P0.ext E3
  obtain ⟨c7, r7, q7, s7, z7, y7, G7⟩ := id f8
  have f10 : Old Z n0 h3 := O0.ext E3
  obtain ⟨_, _, ⟨T9, L9, k9, n9⟩, -, X9, ⟨Lc9, hQ9, l9, y9, z9⟩, st9⟩ := Jvm.LawKit.callS X3 hx (y := (⟨"java/lang/Math", "min", "(II)I"⟩ : MethodName)) hown (mvT hZ (hw _ (List.mem_of_getElem? (i := 25) rfl))) (mvT hZ (hw _ (List.mem_of_getElem? (i := 26) rfl))) (mvT hZ (hw _ (List.mem_of_getElem? (i := 27) rfl))) (mvT hZ (hw _ (List.mem_of_getElem? (i := 28) rfl))) (by decide) (backOf (W := 4) (rmmin7 l Z a0 hw []  h3 n0 f10 ) hZ (hw _ (List.mem_of_getElem? (i := 28) rfl)) (hw _ (List.mem_of_getElem? (i := 27) rfl)) (by decide) (by decide)) (g := (mkF m 24 #[.val (.ref o0_), .val (.int (3 : Int32)), .val (.int (35 : Int32)), .val (.int (32 : Int32)), .val (.ref b3)] [(.int (32 : Int32)), (.int (32 : Int32)), (.int (0 : Int32)), (.ref b3), (.int (3 : Int32)), (.ref o0_)])) rfl (by rw [hml]; rfl) (argsL := [(.int (32 : Int32)), (.int (32 : Int32))]) (rest := [(.int (0 : Int32)), (.ref b3), (.int (3 : Int32)), (.ref o0_)]) (lenOf pd_3 rfl) rfl (by show 2 * 0 + _ ≤ _; exact Nat.le_of_eq rfl) (hb hby d3_24) (fun _ _ => ⟨rfl, e3, (by decide : 1 + 0 ≤ _), (by decide : 32 + 0 ≤ _)⟩)
  dsimp only [Pt.U, Pt.locs, Pt.cells, Pt.slots] at X9 l9 y9 z9 st9 hQ9
  subst l9 y9 z9
  obtain ⟨h9, e9⟩ : ∃ z, T9.heap = z := ⟨_, rfl⟩
  rw [e9] at hQ9
  obtain ⟨rfl, N9q, hh9⟩ := hQ9
  have N11 := Fr.app N2 N9q
  have e9' : T9.heap = h3 := e9.trans hh9
  obtain ⟨T12, h12, L12, X12, e12, N12, K12, V12, st12⟩ := cpA X9 hx hZ hown (hw _ (List.mem_of_getElem? (i := 29) rfl)) (hw _ (List.mem_of_getElem? (i := 32) rfl)) (hw _ (List.mem_of_getElem? (i := 30) rfl)) (hw _ (List.mem_of_getElem? (i := 31) rfl)) e9' f8 f6 (Or.inl ⟨rfl, rfl⟩) (sp := (3 : Int32)) (dp := (0 : Int32)) (nn := (32 : Int32)) (by decide) (by decide) (by decide) (by decide) (by decide) rfl (by rw [own_l_len]; decide) N11 ge4 (g := (mkF m 27 #[.val (.ref o0_), .val (.int (3 : Int32)), .val (.int (35 : Int32)), .val (.int (32 : Int32)), .val (.ref b3)] [(.int (32 : Int32)), (.int (0 : Int32)), (.ref b3), (.int (3 : Int32)), (.ref o0_)])) rfl (by rw [hml]; rfl) rfl (hb hby d3_27) (by decide) (W := 0) (by show 2 * 0 + _ ≤ _; exact Nat.le_of_eq rfl) (by decide)
  have f13 : Arv Z h12 b3 k3 .byte (32 : Int32) (own_l 32 (fun k => fo0_ (3 + k))) (.int (0 : Int32)) := by
    have q := V12
    rw [show ((0 : Int32)).toNatClampNeg = 0 from rfl, show ((32 : Int32)).toNatClampNeg = 32 from rfl, show ((3 : Int32)).toNatClampNeg = 3 from rfl, own_l_copy (by decide)] at q
    exact q
  have pre14 : ∀ t, Steps p.tables e below (T12.setTop (mkF m 32 #[.val (.ref o0_), .val (.int (3 : Int32)), .val (.int (35 : Int32)), .val (.int (32 : Int32)), .val (.ref b3)] [(.ref b3)])) t → Steps p.tables e below (s₁.setTop (entryFrame m #[(.ref o0_), (.int (3 : Int32)), (.int (35 : Int32))] 5)) t := by
    intro t kt
    refine pre0 t ?_
    show Steps p.tables e below (s₁.setTop (mkF m 0 #[.val (.ref o0_), .val (.int (3 : Int32)), .val (.int (35 : Int32)), .unset, .unset] [])) _
    refine XS.iloadN X0.here hx rfl (hb hby d3_0) rfl ?_
    show Steps p.tables e below (s₁.setTop (mkF m 1 #[.val (.ref o0_), .val (.int (3 : Int32)), .val (.int (35 : Int32)), .unset, .unset] [(.int (3 : Int32))])) _
    refine XS.iloadN X0.here hx rfl (hb hby d3_1) rfl ?_
    show Steps p.tables e below (s₁.setTop (mkF m 2 #[.val (.ref o0_), .val (.int (3 : Int32)), .val (.int (35 : Int32)), .unset, .unset] [(.int (35 : Int32)), (.int (3 : Int32))])) _
    refine st1 _ ?_
    show Steps p.tables e below (T1.setTop (mkF m 5 #[.val (.ref o0_), .val (.int (3 : Int32)), .val (.int (35 : Int32)), .unset, .unset] [])) _
    refine XS.iloadN X1.here hx rfl (hb hby d3_5) rfl ?_
    show Steps p.tables e below (T1.setTop (mkF m 6 #[.val (.ref o0_), .val (.int (3 : Int32)), .val (.int (35 : Int32)), .unset, .unset] [(.int (35 : Int32))])) _
    refine XS.iloadN X1.here hx rfl (hb hby d3_6) rfl ?_
    show Steps p.tables e below (T1.setTop (mkF m 7 #[.val (.ref o0_), .val (.int (3 : Int32)), .val (.int (35 : Int32)), .unset, .unset] [(.int (3 : Int32)), (.int (35 : Int32))])) _
    refine XS.isub X1.here hx rfl (hb hby d3_7) rfl ?_
    show Steps p.tables e below (T1.setTop (mkF m 8 #[.val (.ref o0_), .val (.int (3 : Int32)), .val (.int (35 : Int32)), .unset, .unset] [(.int (32 : Int32))])) _
    refine XS.istoreN X1.here hx rfl (hb hby d3_8) rfl (l' := #[.val (.ref o0_), .val (.int (3 : Int32)), .val (.int (35 : Int32)), .val (.int (32 : Int32)), .unset]) rfl ?_
    show Steps p.tables e below (T1.setTop (mkF m 9 #[.val (.ref o0_), .val (.int (3 : Int32)), .val (.int (35 : Int32)), .val (.int (32 : Int32)), .unset] [])) _
    refine XS.iloadN X1.here hx rfl (hb hby d3_9) rfl ?_
    show Steps p.tables e below (T1.setTop (mkF m 10 #[.val (.ref o0_), .val (.int (3 : Int32)), .val (.int (35 : Int32)), .val (.int (32 : Int32)), .unset] [(.int (32 : Int32))])) _
    refine st3 _ ?_
    show Steps p.tables e below (T3.setTop (mkF m 12 #[.val (.ref o0_), .val (.int (3 : Int32)), .val (.int (35 : Int32)), .val (.int (32 : Int32)), .unset] [(.ref b3)])) _
    refine XS.astore X3.here hx rfl (hb hby d3_12) rfl rfl (l' := #[.val (.ref o0_), .val (.int (3 : Int32)), .val (.int (35 : Int32)), .val (.int (32 : Int32)), .val (.ref b3)]) rfl ?_
    show Steps p.tables e below (T3.setTop (mkF m 14 #[.val (.ref o0_), .val (.int (3 : Int32)), .val (.int (35 : Int32)), .val (.int (32 : Int32)), .val (.ref b3)] [])) _
    refine XS.aloadN X3.here hx rfl (hb hby d3_14) rfl rfl ?_
    show Steps p.tables e below (T3.setTop (mkF m 15 #[.val (.ref o0_), .val (.int (3 : Int32)), .val (.int (35 : Int32)), .val (.int (32 : Int32)), .val (.ref b3)] [(.ref o0_)])) _
    refine XS.iloadN X3.here hx rfl (hb hby d3_15) rfl ?_
    show Steps p.tables e below (T3.setTop (mkF m 16 #[.val (.ref o0_), .val (.int (3 : Int32)), .val (.int (35 : Int32)), .val (.int (32 : Int32)), .val (.ref b3)] [(.int (3 : Int32)), (.ref o0_)])) _
    refine XS.aload X3.here hx rfl (hb hby d3_16) rfl rfl ?_
    show Steps p.tables e below (T3.setTop (mkF m 18 #[.val (.ref o0_), .val (.int (3 : Int32)), .val (.int (35 : Int32)), .val (.int (32 : Int32)), .val (.ref b3)] [(.ref b3), (.int (3 : Int32)), (.ref o0_)])) _
    refine XS.iconst X3.here hx rfl (hb hby d3_18) ?_
    show Steps p.tables e below (T3.setTop (mkF m 19 #[.val (.ref o0_), .val (.int (3 : Int32)), .val (.int (35 : Int32)), .val (.int (32 : Int32)), .val (.ref b3)] [(.int (0 : Int32)), (.ref b3), (.int (3 : Int32)), (.ref o0_)])) _
    refine XS.aloadN X3.here hx rfl (hb hby d3_19) rfl rfl ?_
    show Steps p.tables e below (T3.setTop (mkF m 20 #[.val (.ref o0_), .val (.int (3 : Int32)), .val (.int (35 : Int32)), .val (.int (32 : Int32)), .val (.ref b3)] [(.ref o0_), (.int (0 : Int32)), (.ref b3), (.int (3 : Int32)), (.ref o0_)])) _
    refine X3.arraylength hx (by rw [e3]; exact r7.1) (State.isArrayOf_alike hZ.alike r7.2.1) (g := (mkF m 20 #[.val (.ref o0_), .val (.int (3 : Int32)), .val (.int (35 : Int32)), .val (.int (32 : Int32)), .val (.ref b3)] [(.ref o0_), (.int (0 : Int32)), (.ref b3), (.int (3 : Int32)), (.ref o0_)])) rfl rfl (hb hby d3_20) _ ?_
    rw [len_of s7 z7]
    show Steps p.tables e below (T3.setTop (mkF m 21 #[.val (.ref o0_), .val (.int (3 : Int32)), .val (.int (35 : Int32)), .val (.int (32 : Int32)), .val (.ref b3)] [(.int (35 : Int32)), (.int (0 : Int32)), (.ref b3), (.int (3 : Int32)), (.ref o0_)])) _
    refine XS.iloadN X3.here hx rfl (hb hby d3_21) rfl ?_
    show Steps p.tables e below (T3.setTop (mkF m 22 #[.val (.ref o0_), .val (.int (3 : Int32)), .val (.int (35 : Int32)), .val (.int (32 : Int32)), .val (.ref b3)] [(.int (3 : Int32)), (.int (35 : Int32)), (.int (0 : Int32)), (.ref b3), (.int (3 : Int32)), (.ref o0_)])) _
    refine XS.isub X3.here hx rfl (hb hby d3_22) rfl ?_
    show Steps p.tables e below (T3.setTop (mkF m 23 #[.val (.ref o0_), .val (.int (3 : Int32)), .val (.int (35 : Int32)), .val (.int (32 : Int32)), .val (.ref b3)] [(.int (32 : Int32)), (.int (0 : Int32)), (.ref b3), (.int (3 : Int32)), (.ref o0_)])) _
    refine XS.iloadN X3.here hx rfl (hb hby d3_23) rfl ?_
    show Steps p.tables e below (T3.setTop (mkF m 24 #[.val (.ref o0_), .val (.int (3 : Int32)), .val (.int (35 : Int32)), .val (.int (32 : Int32)), .val (.ref b3)] [(.int (32 : Int32)), (.int (32 : Int32)), (.int (0 : Int32)), (.ref b3), (.int (3 : Int32)), (.ref o0_)])) _
    refine st9 _ ?_
    show Steps p.tables e below (T9.setTop (mkF m 27 #[.val (.ref o0_), .val (.int (3 : Int32)), .val (.int (35 : Int32)), .val (.int (32 : Int32)), .val (.ref b3)] [(.int (32 : Int32)), (.int (0 : Int32)), (.ref b3), (.int (3 : Int32)), (.ref o0_)])) _
    refine st12 _ ?_
    show Steps p.tables e below (T12.setTop (mkF m 30 #[.val (.ref o0_), .val (.int (3 : Int32)), .val (.int (35 : Int32)), .val (.int (32 : Int32)), .val (.ref b3)] [])) _
    refine XS.aload X12.here hx rfl (hb hby d3_30) rfl rfl ?_
    exact kt
  have f16 : Keep h0 h3 [] := K0.ext E3
  have f17 : Keep h0 h12 [] := f16.trans K12 (allS (Or.inr sz5) all0)
  have f18 : Exa Z h12 b3 "[B" := Z3.keep K12
  obtain ⟨fs, hr, hrun, hended, hW, hsame⟩ := X12.leave (v := some (.ref b3)) (fun h => by rw [Bd.returns] at h; cases h)
  refine ⟨_, _, pre14 _ (retOut X12 hx Bd.returns rfl (Or.inr (Or.inr (Or.inr (Or.inr ⟨rfl, rfl, rfl⟩)))) (hb hby d3_32) hr), hrun, hended, _, _, rfl, ?_, ⟨_, rfl⟩, hW, hsame.mono (by decide) (by decide)⟩
  show QcopyOfRangeByte14 Z o0_ ko0_ fo0_ h0 n0 _ T12.heap _
  rw [e12]
  exact ⟨k3, b3, rfl, N12, f17, sz5, f13, f18⟩
theorem efcopyOfRange13 (m : MethodId) (o0_ : Addr) : entryFrame m #[(.ref o0_), (.int (3 : Int32)), (.int (35 : Int32))] 3 = mkF m 0 #[.val (.ref o0_), .val (.int (3 : Int32)), .val (.int (35 : Int32))] [] := by first | (simp [entryFrame, mkF, argsToLocals, Value.category]; done) | rfl
def QcopyOfRange13 (Z : State) (o0_ : Addr) (ko0_ : ClassId) (fo0_ : Nat → Int32) (h0 : Heap) (n0 : Nat) (v : Option Value) (h : Heap) (L : List Loc) : Prop := ∃ k3_1 : ClassId, ∃ nnb3_1 : Addr, v = some (.ref nnb3_1) ∧ Fr n0 L ∧ Keep h0 h [] ∧ h0.size ≤ nnb3_1 ∧ Arv Z h nnb3_1 k3_1 .byte (32 : Int32) (own_l 32 (fun k => fo0_ (3 + k))) (.int (0 : Int32)) ∧ Exa Z h nnb3_1 "[B"
set_option maxRecDepth 65536 in
set_option maxHeartbeats 40000000 in
theorem rmcopyOfRange13 (l : Launch) (Z : State) (a0 : Array Value) (hw : ∀ d ∈ tables_1, d.before a0 Z = true) (ws : List Jvm.Cond) (o0_ : Addr) (ko0_ : ClassId) (fo0_ : Nat → Int32) (h0 : Heap) (n0 : Nat) (O0 : Old Z n0 h0) (P0 : Arv Z h0 o0_ ko0_ .byte (35 : Int32) (own_l 35 fo0_) (.int (0 : Int32))) (P1 : Exa Z h0 o0_ "[B") :
    MetFree l (⟨"java/util/Arrays", "copyOfRange", "([BII)[B"⟩ : MethodName) (head1 (Jvm.Cond.code (⟨"java/util/Arrays", "copyOfRange", "([BII)[B"⟩ : MethodName) jdk_65_method_132_code 3 (some (.array .byte)) :: ws) ({ frames := 2, cells := 1, slots := 32, locals := 34 } : Room)) (fun a U => a = #[(.ref o0_), (.int (3 : Int32)), (.int (35 : Int32))] ∧ Z.Warmed39 U.vm ∧ U.heap = h0) (fun _ _ _ _ _ => True) (fun _ U o U' => ∃ v L, o = .returned v ∧ QcopyOfRange13 Z o0_ ko0_ fo0_ h0 n0 v U'.heap L ∧ FrameEnd U o U' L ({ frames := 2, cells := 1, slots := 32, locals := 34 } : Room).cells ({ frames := 2, cells := 1, slots := 32, locals := 34 } : Room).slots) := by
  refine MetFree.of_bodySF (plainFor_of_name pn_0) hisR ?_
  intro p e s m args below meth c s₁ Bd hml0 hP hK
  obtain ⟨rfl, hZ, hh⟩ := hP
  have hx := Bd.exec
  have hby := Bd.bytes
  have hml : c.maxLocals = 3 := hml0
  have hown : s.vm.findClass "java/util/Arrays" = some m.cls := findClass_of_methodNamed Bd.named
  have hnm := (name_of_methodNamed Bd.named Bd.method).1
  have X0 : Stand p l e ({ frames := 2, cells := 1, slots := 32, locals := 34 } : Room) s m #[(.ref o0_), (.int (3 : Int32)), (.int (35 : Int32))] below meth c s₁ [] 0 0 := Stand.of_body Bd
  have e0 : s₁.heap = h0 := by rw [← hh, Bd.state]; rfl
  have N0 := Fr.nil n0
  have pre0 : ∀ t, Steps p.tables e below (s₁.setTop (mkF m 0 #[.val (.ref o0_), .val (.int (3 : Int32)), .val (.int (35 : Int32))] [])) t → Steps p.tables e below (s₁.setTop (entryFrame m #[(.ref o0_), (.int (3 : Int32)), (.int (35 : Int32))] 3)) t := fun t k => castTop (efcopyOfRange13 m o0_) k
  have K0 : Keep h0 h0 [] := Keep.refl _ _
  obtain ⟨_, _, ⟨T1, L1, k1, n1⟩, -, X1, ⟨Lc1, hQ1, l1, y1, z1⟩, st1⟩ := Jvm.LawKit.callS X0 hx (y := (⟨"java/util/Arrays", "copyOfRangeByte", "([BII)[B"⟩ : MethodName)) hown (mvT hZ (hw _ (List.mem_of_getElem? (i := 19) rfl))) (mvT hZ (hw _ (List.mem_of_getElem? (i := 20) rfl))) (mvT hZ (hw _ (List.mem_of_getElem? (i := 8) rfl))) (mvT hZ (hw _ (List.mem_of_getElem? (i := 21) rfl))) (by decide) (backOf (W := 0) (rmcopyOfRangeByte14 l Z a0 hw [] o0_ ko0_ fo0_ h0 n0 O0 P0 P1) hZ (hw _ (List.mem_of_getElem? (i := 21) rfl)) (hw _ (List.mem_of_getElem? (i := 8) rfl)) (by decide) (by decide)) (g := (mkF m 13 #[.val (.ref o0_), .val (.int (3 : Int32)), .val (.int (35 : Int32))] [(.int (35 : Int32)), (.int (3 : Int32)), (.ref o0_)])) rfl (by rw [hml]; rfl) (argsL := [(.ref o0_), (.int (3 : Int32)), (.int (35 : Int32))]) (rest := []) (lenOf pd_0 rfl) rfl (by show 2 * 0 + _ ≤ _; exact Nat.le_of_eq rfl) (hb hby d2_13) (fun _ _ => ⟨rfl, e0, (by decide : 0 + 1 ≤ _), (by decide : 0 + 32 ≤ _)⟩)
  dsimp only [Pt.U, Pt.locs, Pt.cells, Pt.slots] at X1 l1 y1 z1 st1 hQ1
  subst l1 y1 z1
  obtain ⟨h1, e1⟩ : ∃ z, T1.heap = z := ⟨_, rfl⟩
  rw [e1] at hQ1
  obtain ⟨k3_1, nb3_1, rfl, N1q, K1, sznb3_1, g1_0, g1_1⟩ := hQ1
  have N2 := Fr.app N0 N1q
  have ge3 : n0 ≤ nb3_1 := Nat.le_trans (Nat.le_trans (Nat.le_of_eq O0.1.symm) O0.2.1) sznb3_1
  have sz4 : h0.size ≤ nb3_1 := Nat.le_trans K0.1 sznb3_1
  have pre5 : ∀ t, Steps p.tables e below (T1.setTop (mkF m 16 #[.val (.ref o0_), .val (.int (3 : Int32)), .val (.int (35 : Int32))] [(.ref nb3_1)])) t → Steps p.tables e below (s₁.setTop (entryFrame m #[(.ref o0_), (.int (3 : Int32)), (.int (35 : Int32))] 3)) t := by
    intro t kt
    refine pre0 t ?_
    show Steps p.tables e below (s₁.setTop (mkF m 0 #[.val (.ref o0_), .val (.int (3 : Int32)), .val (.int (35 : Int32))] [])) _
    refine XS.iloadN X0.here hx rfl (hb hby d2_0) rfl ?_
    show Steps p.tables e below (s₁.setTop (mkF m 1 #[.val (.ref o0_), .val (.int (3 : Int32)), .val (.int (35 : Int32))] [(.int (3 : Int32))])) _
    refine XS.ifYes X0.here hx rfl (pc0 := 1) (pc' := 10) rfl (hb hby d2_1) rfl ((if0 _ _).trans (feq (by decide : ¬ ((3 : Int32) = (0 : Int32)))).2) (by decide) (by decide) ?_
    show Steps p.tables e below (s₁.setTop (mkF m 10 #[.val (.ref o0_), .val (.int (3 : Int32)), .val (.int (35 : Int32))] [])) _
    refine XS.aloadN X0.here hx rfl (hb hby d2_10) rfl rfl ?_
    show Steps p.tables e below (s₁.setTop (mkF m 11 #[.val (.ref o0_), .val (.int (3 : Int32)), .val (.int (35 : Int32))] [(.ref o0_)])) _
    refine XS.iloadN X0.here hx rfl (hb hby d2_11) rfl ?_
    show Steps p.tables e below (s₁.setTop (mkF m 12 #[.val (.ref o0_), .val (.int (3 : Int32)), .val (.int (35 : Int32))] [(.int (3 : Int32)), (.ref o0_)])) _
    refine XS.iloadN X0.here hx rfl (hb hby d2_12) rfl ?_
    show Steps p.tables e below (s₁.setTop (mkF m 13 #[.val (.ref o0_), .val (.int (3 : Int32)), .val (.int (35 : Int32))] [(.int (35 : Int32)), (.int (3 : Int32)), (.ref o0_)])) _
    refine st1 _ ?_
    exact kt
  have f7 : Keep h0 h1 [] := K0.trans K1 all0
  obtain ⟨fs, hr, hrun, hended, hW, hsame⟩ := X1.leave (v := some (.ref nb3_1)) (fun h => by rw [Bd.returns] at h; cases h)
  refine ⟨_, _, pre5 _ (retOut X1 hx Bd.returns rfl (Or.inr (Or.inr (Or.inr (Or.inr ⟨rfl, rfl, rfl⟩)))) (hb hby d2_16) hr), hrun, hended, _, _, rfl, ?_, ⟨_, rfl⟩, hW, hsame.mono (by decide) (by decide)⟩
  show QcopyOfRange13 Z o0_ ko0_ fo0_ h0 n0 _ T1.heap _
  rw [e1]
  exact ⟨k3_1, nb3_1, rfl, N2, f7, sz4, g1_0, g1_1⟩
theorem efvalue12 (m : MethodId) (o0_ : Addr) : entryFrame m #[(.ref o0_)] 1 = mkF m 0 #[.val (.ref o0_)] [] := by first | (simp [entryFrame, mkF, argsToLocals, Value.category]; done) | rfl
def Qvalue12 (Z : State) (o0_ : Addr) (ko0_ : ClassId) (fo0_ : Nat → Int32) (h0 : Heap) (n0 : Nat) (v : Option Value) (h : Heap) (L : List Loc) : Prop := ∃ k3_1_3 : ClassId, ∃ nnnb3_1_3 : Addr, v = some (.ref nnnb3_1_3) ∧ Fr n0 L ∧ Keep h0 h [] ∧ h0.size ≤ nnnb3_1_3 ∧ Arv Z h nnnb3_1_3 k3_1_3 .byte (32 : Int32) (own_l 32 (fun k => fo0_ (3 + k))) (.int (0 : Int32)) ∧ Exa Z h nnnb3_1_3 "[B"
set_option maxRecDepth 65536 in
set_option maxHeartbeats 40000000 in
theorem rmvalue12 (l : Launch) (Z : State) (a0 : Array Value) (hw : ∀ d ∈ tables_1, d.before a0 Z = true) (ws : List Jvm.Cond) (o0_ : Addr) (ko0_ : ClassId) (fo0_ : Nat → Int32) (h0 : Heap) (n0 : Nat) (O0 : Old Z n0 h0) (P0 : Arv Z h0 o0_ ko0_ .byte (35 : Int32) (own_l 35 fo0_) (.int (0 : Int32))) (P1 : Exa Z h0 o0_ "[B") :
    MetFree l (⟨"com/example/aeacus/aeacus/log/Chain", "value", "([B)[B"⟩ : MethodName) (head1 (Jvm.Cond.code (⟨"com/example/aeacus/aeacus/log/Chain", "value", "([B)[B"⟩ : MethodName) prog_22_method_7_code 1 (some (.array .byte)) :: ws) ({ frames := 3, cells := 1, slots := 32, locals := 48 } : Room)) (fun a U => a = #[(.ref o0_)] ∧ Z.Warmed39 U.vm ∧ U.heap = h0) (fun _ _ _ _ _ => True) (fun _ U o U' => ∃ v L, o = .returned v ∧ Qvalue12 Z o0_ ko0_ fo0_ h0 n0 v U'.heap L ∧ FrameEnd U o U' L ({ frames := 3, cells := 1, slots := 32, locals := 48 } : Room).cells ({ frames := 3, cells := 1, slots := 32, locals := 48 } : Room).slots) := by
  refine MetFree.of_bodySF (plainFor_of_name pn_1) hisR ?_
  intro p e s m args below meth c s₁ Bd hml0 hP hK
  obtain ⟨rfl, hZ, hh⟩ := hP
  have hx := Bd.exec
  have hby := Bd.bytes
  have hml : c.maxLocals = 1 := hml0
  have hown : s.vm.findClass "com/example/aeacus/aeacus/log/Chain" = some m.cls := findClass_of_methodNamed Bd.named
  have hnm := (name_of_methodNamed Bd.named Bd.method).1
  have X0 : Stand p l e ({ frames := 3, cells := 1, slots := 32, locals := 48 } : Room) s m #[(.ref o0_)] below meth c s₁ [] 0 0 := Stand.of_body Bd
  have e0 : s₁.heap = h0 := by rw [← hh, Bd.state]; rfl
  have N0 := Fr.nil n0
  have pre0 : ∀ t, Steps p.tables e below (s₁.setTop (mkF m 0 #[.val (.ref o0_)] [])) t → Steps p.tables e below (s₁.setTop (entryFrame m #[(.ref o0_)] 1)) t := fun t k => castTop (efvalue12 m o0_) k
  have K0 : Keep h0 h0 [] := Keep.refl _ _
  obtain ⟨c1, r1, q1, s1, z1, y1, G1⟩ := id P0
  obtain ⟨c2, r2, q2, s2, z2, y2, G2⟩ := id P0
  obtain ⟨_, _, ⟨T3, L3, k3, n3⟩, -, X3, ⟨Lc3, hQ3, l3, y3, z3⟩, st3⟩ := Jvm.LawKit.callS X0 hx (y := (⟨"java/util/Arrays", "copyOfRange", "([BII)[B"⟩ : MethodName)) hown (mvT hZ (hw _ (List.mem_of_getElem? (i := 6) rfl))) (mvT hZ (hw _ (List.mem_of_getElem? (i := 7) rfl))) (mvT hZ (hw _ (List.mem_of_getElem? (i := 8) rfl))) (mvT hZ (hw _ (List.mem_of_getElem? (i := 9) rfl))) (by decide) (backOf (W := 0) (rmcopyOfRange13 l Z a0 hw [] o0_ ko0_ fo0_ h0 n0 O0 P0 P1) hZ (hw _ (List.mem_of_getElem? (i := 9) rfl)) (hw _ (List.mem_of_getElem? (i := 8) rfl)) (by decide) (by decide)) (g := (mkF m 8 #[.val (.ref o0_)] [(.int (35 : Int32)), (.int (3 : Int32)), (.ref o0_)])) rfl (by rw [hml]; rfl) (argsL := [(.ref o0_), (.int (3 : Int32)), (.int (35 : Int32))]) (rest := []) (lenOf pd_0 rfl) rfl (by show 2 * 0 + _ ≤ _; exact Nat.le_of_eq rfl) (hb hby d1_8) (fun _ _ => ⟨rfl, e0, (by decide : 0 + 1 ≤ _), (by decide : 0 + 32 ≤ _)⟩)
  dsimp only [Pt.U, Pt.locs, Pt.cells, Pt.slots] at X3 l3 y3 z3 st3 hQ3
  subst l3 y3 z3
  obtain ⟨h3, e3⟩ : ∃ z, T3.heap = z := ⟨_, rfl⟩
  rw [e3] at hQ3
  obtain ⟨k3_1_3, nnb3_1_3, rfl, N3q, K3, sznnb3_1_3, g3_0, g3_1⟩ := hQ3
  have N4 := Fr.app N0 N3q
  have ge5 : n0 ≤ nnb3_1_3 := Nat.le_trans (Nat.le_trans (Nat.le_of_eq O0.1.symm) O0.2.1) sznnb3_1_3
  have sz6 : h0.size ≤ nnb3_1_3 := Nat.le_trans K0.1 sznnb3_1_3
  have pre7 : ∀ t, Steps p.tables e below (T3.setTop (mkF m 11 #[.val (.ref o0_)] [(.ref nnb3_1_3)])) t → Steps p.tables e below (s₁.setTop (entryFrame m #[(.ref o0_)] 1)) t := by
    intro t kt
    refine pre0 t ?_
    show Steps p.tables e below (s₁.setTop (mkF m 0 #[.val (.ref o0_)] [])) _
    refine XS.aloadN X0.here hx rfl (hb hby d1_0) rfl rfl ?_
    show Steps p.tables e below (s₁.setTop (mkF m 1 #[.val (.ref o0_)] [(.ref o0_)])) _
    refine XS.aloadN X0.here hx rfl (hb hby d1_1) rfl rfl ?_
    show Steps p.tables e below (s₁.setTop (mkF m 2 #[.val (.ref o0_)] [(.ref o0_), (.ref o0_)])) _
    refine X0.arraylength hx (by rw [e0]; exact r1.1) (State.isArrayOf_alike hZ.alike r1.2.1) (g := (mkF m 2 #[.val (.ref o0_)] [(.ref o0_), (.ref o0_)])) rfl rfl (hb hby d1_2) _ ?_
    rw [len_of s1 z1]
    show Steps p.tables e below (s₁.setTop (mkF m 3 #[.val (.ref o0_)] [(.int (35 : Int32)), (.ref o0_)])) _
    refine XS.bipush X0.here hx rfl (hb hby d1_3) ?_
    show Steps p.tables e below (s₁.setTop (mkF m 5 #[.val (.ref o0_)] [(.int (32 : Int32)), (.int (35 : Int32)), (.ref o0_)])) _
    refine XS.isub X0.here hx rfl (hb hby d1_5) rfl ?_
    show Steps p.tables e below (s₁.setTop (mkF m 6 #[.val (.ref o0_)] [(.int (3 : Int32)), (.ref o0_)])) _
    refine XS.aloadN X0.here hx rfl (hb hby d1_6) rfl rfl ?_
    show Steps p.tables e below (s₁.setTop (mkF m 7 #[.val (.ref o0_)] [(.ref o0_), (.int (3 : Int32)), (.ref o0_)])) _
    refine X0.arraylength hx (by rw [e0]; exact r2.1) (State.isArrayOf_alike hZ.alike r2.2.1) (g := (mkF m 7 #[.val (.ref o0_)] [(.ref o0_), (.int (3 : Int32)), (.ref o0_)])) rfl rfl (hb hby d1_7) _ ?_
    rw [len_of s2 z2]
    show Steps p.tables e below (s₁.setTop (mkF m 8 #[.val (.ref o0_)] [(.int (35 : Int32)), (.int (3 : Int32)), (.ref o0_)])) _
    refine st3 _ ?_
    exact kt
  have f9 : Keep h0 h3 [] := K0.trans K3 all0
  obtain ⟨fs, hr, hrun, hended, hW, hsame⟩ := X3.leave (v := some (.ref nnb3_1_3)) (fun h => by rw [Bd.returns] at h; cases h)
  refine ⟨_, _, pre7 _ (retOut X3 hx Bd.returns rfl (Or.inr (Or.inr (Or.inr (Or.inr ⟨rfl, rfl, rfl⟩)))) (hb hby d1_11) hr), hrun, hended, _, _, rfl, ?_, ⟨_, rfl⟩, hW, hsame.mono (by decide) (by decide)⟩
  show Qvalue12 Z o0_ ko0_ fo0_ h0 n0 _ T3.heap _
  rw [e3]
  exact ⟨k3_1_3, nnb3_1_3, rfl, N4, f9, sz6, g3_0, g3_1⟩
theorem pn_2 : plainName "com/example/aeacus/aeacus/log/ChainValuePinLaw" = true := by first | (simp [plainName, overriddenIn]; done) | decide +kernel
theorem efLaw (m : MethodId) (p0_ : Int32) (p1_ : Int32) (p2_ : Int32) (p3_ : Int32) (p4_ : Int32) (p5_ : Int32) : entryFrame m #[(.int p0_), (.int p1_), (.int p2_), (.int p3_), (.int p4_), (.int p5_)] maxLocals = mkF m 0 #[.val (.int p0_), .val (.int p1_), .val (.int p2_), .val (.int p3_), .val (.int p4_), .val (.int p5_), .unset, .unset, .unset, .unset, .unset, .unset] [] := by first | (simp [entryFrame, mkF, argsToLocals, Value.category, maxLocals]; done) | rfl
def QLaw (Z : State) (p0_ : Int32) (p1_ : Int32) (p2_ : Int32) (p3_ : Int32) (p4_ : Int32) (p5_ : Int32) (h0 : Heap) (n0 : Nat) (v : Option Value) (h : Heap) (L : List Loc) : Prop := v = some (.int (1 : Int32)) ∧ Fr n0 L
set_option maxRecDepth 65536 in
set_option maxHeartbeats 40000000 in
theorem rmLaw (l : Launch) (Z : State) (a0 : Array Value) (hw : ∀ d ∈ tables_1, d.before a0 Z = true) (ws : List Jvm.Cond) (p0_ : Int32) (p1_ : Int32) (p2_ : Int32) (p3_ : Int32) (p4_ : Int32) (p5_ : Int32) (h0 : Heap) (n0 : Nat) (O0 : Old Z n0 h0)  :
    MetFree l x (head1 (Jvm.Cond.code x code maxLocals ret :: ws) room_1) (fun a U => a = #[(.int p0_), (.int p1_), (.int p2_), (.int p3_), (.int p4_), (.int p5_)] ∧ Z.Warmed39 U.vm ∧ U.heap = h0) (fun _ _ _ _ _ => True) (fun _ U o U' => ∃ v L, o = .returned v ∧ QLaw Z p0_ p1_ p2_ p3_ p4_ p5_ h0 n0 v U'.heap L ∧ FrameEnd U o U' L room_1.cells room_1.slots) := by
  refine MetFree.of_bodySF (plainFor_of_name pn_2) hisR ?_
  intro p e s m args below meth c s₁ Bd hml0 hP hK
  obtain ⟨rfl, hZ, hh⟩ := hP
  have hx := Bd.exec
  have hby := Bd.bytes
  have hml : c.maxLocals = 12 := hml0
  have hown : s.vm.findClass "com/example/aeacus/aeacus/log/ChainValuePinLaw" = some m.cls := findClass_of_methodNamed Bd.named
  have hnm := (name_of_methodNamed Bd.named Bd.method).1
  have X0 : Stand p l e room_1 s m #[(.int p0_), (.int p1_), (.int p2_), (.int p3_), (.int p4_), (.int p5_)] below meth c s₁ [] 0 0 := Stand.of_body Bd
  have e0 : s₁.heap = h0 := by rw [← hh, Bd.state]; rfl
  have N0 := Fr.nil n0
  have pre0 : ∀ t, Steps p.tables e below (s₁.setTop (mkF m 0 #[.val (.int p0_), .val (.int p1_), .val (.int p2_), .val (.int p3_), .val (.int p4_), .val (.int p5_), .unset, .unset, .unset, .unset, .unset, .unset] [])) t → Steps p.tables e below (s₁.setTop (entryFrame m #[(.int p0_), (.int p1_), (.int p2_), (.int p3_), (.int p4_), (.int p5_)] maxLocals)) t := fun t k => castTop (efLaw m p0_ p1_ p2_ p3_ p4_ p5_) k
  have K0 : Keep h0 h0 [] := Keep.refl _ _
  have pre1 : ∀ t, Steps p.tables e below (s₁.setTop (mkF m 3 #[.val (.int p0_), .val (.int p1_), .val (.int p2_), .val (.int p3_), .val (.int p4_), .val (.int p5_), .unset, .unset, .unset, .unset, .unset, .unset] [(.int (p0_ &&& (3 : Int32)))])) t → Steps p.tables e below (s₁.setTop (entryFrame m #[(.int p0_), (.int p1_), (.int p2_), (.int p3_), (.int p4_), (.int p5_)] maxLocals)) t := by
    intro t kt
    refine pre0 t ?_
    show Steps p.tables e below (s₁.setTop (mkF m 0 #[.val (.int p0_), .val (.int p1_), .val (.int p2_), .val (.int p3_), .val (.int p4_), .val (.int p5_), .unset, .unset, .unset, .unset, .unset, .unset] [])) _
    refine XS.iloadN X0.here hx rfl (hb hby at_0) rfl ?_
    show Steps p.tables e below (s₁.setTop (mkF m 1 #[.val (.int p0_), .val (.int p1_), .val (.int p2_), .val (.int p3_), .val (.int p4_), .val (.int p5_), .unset, .unset, .unset, .unset, .unset, .unset] [(.int p0_)])) _
    refine XS.iconst X0.here hx rfl (hb hby at_1) ?_
    show Steps p.tables e below (s₁.setTop (mkF m 2 #[.val (.int p0_), .val (.int p1_), .val (.int p2_), .val (.int p3_), .val (.int p4_), .val (.int p5_), .unset, .unset, .unset, .unset, .unset, .unset] [(.int (3 : Int32)), (.int p0_)])) _
    refine XS.iand X0.here hx rfl (hb hby at_2) rfl ?_
    exact kt
  have hv2 : (p0_ &&& (3 : Int32)) = (0 : Int32) ∨ (p0_ &&& (3 : Int32)) = (1 : Int32) ∨ (p0_ &&& (3 : Int32)) = (2 : Int32) ∨ (p0_ &&& (3 : Int32)) = (3 : Int32) := own_and3 _
  rcases hv2 with hv3 | hv3 | hv3 | hv3
  · have pre4 : ∀ t, Steps p.tables e below (s₁.setTop (mkF m 3 #[.val (.int p0_), .val (.int p1_), .val (.int p2_), .val (.int p3_), .val (.int p4_), .val (.int p5_), .unset, .unset, .unset, .unset, .unset, .unset] [(.int (0 : Int32))])) t → Steps p.tables e below (s₁.setTop (entryFrame m #[(.int p0_), (.int p1_), (.int p2_), (.int p3_), (.int p4_), (.int p5_)] maxLocals)) t := fun t kt => pre1 t (by rw [hv3]; exact kt)
    obtain ⟨T5, h5, k5, X5, e5, E5, A5, Z5, st5⟩ := newPE X0 hx hZ (hw _ (List.mem_of_getElem? (i := 0) rfl)) e0 (g := (mkF m 14 #[.val (.int p0_), .val (.int p1_), .val (.int p2_), .val (.int p3_), .val (.int p4_), .val (.int p5_), .val (.int (0 : Int32)), .val (.int (32 : Int32)), .unset, .unset, .unset, .unset] [(.int (32 : Int32))])) rfl (hb hby at_14) rfl (by decide) (cap := 32) (by decide) (by decide) (by decide) (by decide) (ad := "[B") (by decide)
    obtain ⟨b5, g5⟩ : ∃ z, z = h0.size := ⟨_, rfl⟩
    rw [← g5] at A5 Z5 st5
    have ge6 : n0 ≤ b5 := Nat.le_trans (Nat.le_trans (Nat.le_of_eq O0.1.symm) O0.2.1) (Nat.le_of_eq g5.symm)
    have sz7 : h0.size ≤ b5 := Nat.le_trans K0.1 (Nat.le_of_eq g5.symm)
    have f8 : Arv Z h5 b5 k5 .byte (32 : Int32) (own_l 32 (fun _ => (0 : Int32))) (.int (0 : Int32)) := (Arv.new A5 (by decide)).pad (own_l_pad 32)
    have hn9 : ¬ (((p1_ &&& (2147483647 : Int32)) % (32 : Int32)) < (0 : Int32)) := (own_modr32 _).1
    have hn10 : ((p1_ &&& (2147483647 : Int32)) % (32 : Int32)) < (32 : Int32) := (own_modr32 _).2
    obtain ⟨c11, r11, q11, s11, z11, y11, G11⟩ := id f8
    have hin11 : ¬ (((p1_ &&& (2147483647 : Int32)) % (32 : Int32)) < 0 ∨ c11.slots.size ≤ (((p1_ &&& (2147483647 : Int32)) % (32 : Int32))).toNatClampNeg) := inb_of s11 ⟨hn9, hn10⟩
    obtain ⟨T11, h11, X11, e11, W11, st11⟩ := stB X5 hx hZ e5 r11 (j := ((p1_ &&& (2147483647 : Int32)) % (32 : Int32))) hin11 (g := (mkF m 29 #[.val (.int p0_), .val (.int p1_), .val (.int p2_), .val (.int p3_), .val (.int p4_), .val (.int p5_), .val (.int (0 : Int32)), .val (.int (32 : Int32)), .val (.ref b5), .unset, .unset, .unset] [(.int (p2_.toInt8.toInt32)), (.int ((p1_ &&& (2147483647 : Int32)) % (32 : Int32))), (.ref b5)])) rfl rfl (hb hby at_29)
    have N12 := Fr.snoc X11 N0 ge6
    have lt11 : (((p1_ &&& (2147483647 : Int32)) % (32 : Int32))).toNatClampNeg < 32 := own_lt s11 hin11
    obtain ⟨g11, hg11_⟩ : ∃ g : Nat → Int32, g = (fun k => if k = (((p1_ &&& (2147483647 : Int32)) % (32 : Int32))).toNatClampNeg then ((p2_.toInt8.toInt32).toInt8.toInt32) else (fun _ => (0 : Int32)) k) := ⟨_, rfl⟩
    have f13 : Arv Z h11 b5 k5 .byte (32 : Int32) (own_l 32 g11) (.int (0 : Int32)) := by
      have q : Arv Z h11 b5 k5 .byte (32 : Int32) (List.set (own_l 32 (fun _ => (0 : Int32))) (((p1_ &&& (2147483647 : Int32)) % (32 : Int32))).toNatClampNeg (.int ((p2_.toInt8.toInt32).toInt8.toInt32))) (.int (0 : Int32)) := Arv.set r11 q11 s11 z11 y11 G11 (fits_nar_byte _) W11 (((p1_ &&& (2147483647 : Int32)) % (32 : Int32))).toNatClampNeg rfl (by rw [own_l_len]; exact lt11)
      rw [own_l_set, ← hg11_] at q
      exact q
    have hn14 : ¬ (((p3_ &&& (2147483647 : Int32)) % (32 : Int32)) < (0 : Int32)) := (own_modr32 _).1
    have hn15 : ((p3_ &&& (2147483647 : Int32)) % (32 : Int32)) < (32 : Int32) := (own_modr32 _).2
    obtain ⟨c16, r16, q16, s16, z16, y16, G16⟩ := id f13
    have hin16 : ¬ (((p3_ &&& (2147483647 : Int32)) % (32 : Int32)) < 0 ∨ c16.slots.size ≤ (((p3_ &&& (2147483647 : Int32)) % (32 : Int32))).toNatClampNeg) := inb_of s16 ⟨hn14, hn15⟩
    obtain ⟨T16, h16, X16, e16, W16, st16⟩ := stB X11 hx hZ e11 r16 (j := ((p3_ &&& (2147483647 : Int32)) % (32 : Int32))) hin16 (g := (mkF m 42 #[.val (.int p0_), .val (.int p1_), .val (.int p2_), .val (.int p3_), .val (.int p4_), .val (.int p5_), .val (.int (0 : Int32)), .val (.int (32 : Int32)), .val (.ref b5), .unset, .unset, .unset] [(.int (p4_.toInt8.toInt32)), (.int ((p3_ &&& (2147483647 : Int32)) % (32 : Int32))), (.ref b5)])) rfl rfl (hb hby at_42)
    have N17 := Fr.snoc X16 N12 ge6
    have lt16 : (((p3_ &&& (2147483647 : Int32)) % (32 : Int32))).toNatClampNeg < 32 := own_lt s16 hin16
    obtain ⟨g16, hg16_⟩ : ∃ g : Nat → Int32, g = (fun k => if k = (((p3_ &&& (2147483647 : Int32)) % (32 : Int32))).toNatClampNeg then ((p4_.toInt8.toInt32).toInt8.toInt32) else g11 k) := ⟨_, rfl⟩
    have f18 : Arv Z h16 b5 k5 .byte (32 : Int32) (own_l 32 g16) (.int (0 : Int32)) := by
      have q : Arv Z h16 b5 k5 .byte (32 : Int32) (List.set (own_l 32 g11) (((p3_ &&& (2147483647 : Int32)) % (32 : Int32))).toNatClampNeg (.int ((p4_.toInt8.toInt32).toInt8.toInt32))) (.int (0 : Int32)) := Arv.set r16 q16 s16 z16 y16 G16 (fits_nar_byte _) W16 (((p3_ &&& (2147483647 : Int32)) % (32 : Int32))).toNatClampNeg rfl (by rw [own_l_len]; exact lt16)
      rw [own_l_set, ← hg16_] at q
      exact q
    have hn19 : ¬ ((p5_ &&& (31 : Int32)) < (0 : Int32)) := (own_i _).1
    have hn20 : (p5_ &&& (31 : Int32)) < (32 : Int32) := (own_i _).2.1
    have hn21 : ¬ (((0 : Int32) + (p5_ &&& (31 : Int32))) < (0 : Int32)) := (own_e0 _).1
    have hn22 : ((0 : Int32) + (p5_ &&& (31 : Int32))) < (32 : Int32) := (own_e0 _).2.1
    obtain ⟨c23, r23, q23, s23, z23, y23, G23⟩ := id f18
    have hin23 : ¬ (((0 : Int32) + (p5_ &&& (31 : Int32))) < 0 ∨ c23.slots.size ≤ (((0 : Int32) + (p5_ &&& (31 : Int32)))).toNatClampNeg) := inb_of s23 ⟨hn21, hn22⟩
    have hat23 : c23.slots[(((0 : Int32) + (p5_ &&& (31 : Int32)))).toNatClampNeg]? = some (.int (g16 (((0 : Int32) + (p5_ &&& (31 : Int32)))).toNatClampNeg)) := Has.at y23 hin23 (own_l_get _ _ _ (show _ < 32 from own_lt s23 hin23))
    have f25 : Exa Z h11 b5 "[B" := Z5.wr W11
    have f26 : Exa Z h16 b5 "[B" := f25.wr W16
    have f27 : Old Z n0 h5 := O0.ext E5
    have f28 : Old Z n0 h11 := f27.wr W11 ge6
    have f29 : Old Z n0 h16 := f28.wr W16 ge6
    obtain ⟨_, _, ⟨T24, L24, k24, n24⟩, -, X24, ⟨Lc24, hQ24, l24, y24, z24⟩, st24⟩ := Jvm.LawKit.callS X16 hx (y := (⟨"com/example/aeacus/aeacus/log/Chain", "value", "([B)[B"⟩ : MethodName)) hown (mvT hZ (hw _ (List.mem_of_getElem? (i := 2) rfl))) (mvT hZ (hw _ (List.mem_of_getElem? (i := 3) rfl))) (mvT hZ (hw _ (List.mem_of_getElem? (i := 4) rfl))) (mvT hZ (hw _ (List.mem_of_getElem? (i := 5) rfl))) (by decide) (backOf (W := 0) (rmvalue1 l Z a0 hw [] b5 k5 g16 h16 n0 f29 f18 f26) hZ (hw _ (List.mem_of_getElem? (i := 5) rfl)) (hw _ (List.mem_of_getElem? (i := 4) rfl)) (by decide) (by decide)) (g := (mkF m 62 #[.val (.int p0_), .val (.int p1_), .val (.int p2_), .val (.int p3_), .val (.int p4_), .val (.int p5_), .val (.int (0 : Int32)), .val (.int (32 : Int32)), .val (.ref b5), .val (.int (p5_ &&& (31 : Int32))), .val (.int (g16 (((0 : Int32) + (p5_ &&& (31 : Int32)))).toNatClampNeg)), .unset] [(.ref b5)])) rfl (by rw [hml]; rfl) (argsL := [(.ref b5)]) (rest := []) (lenOf pd_1 rfl) rfl (by show 2 * 0 + _ ≤ _; exact Nat.le_of_eq rfl) (hb hby at_62) (fun _ _ => ⟨rfl, e16, (by decide : 1 + 1 ≤ _), (by decide : 32 + 32 ≤ _)⟩)
    dsimp only [Pt.U, Pt.locs, Pt.cells, Pt.slots] at X24 l24 y24 z24 st24 hQ24
    subst l24 y24 z24
    obtain ⟨h24, e24⟩ : ∃ z, T24.heap = z := ⟨_, rfl⟩
    rw [e24] at hQ24
    obtain ⟨nnb2_3_24, rfl, N24q, K24, sznnb2_3_24, g24_0, g24_1⟩ := hQ24
    have N30 := Fr.app N17 N24q
    have ge31 : n0 ≤ nnb2_3_24 := Nat.le_trans (Nat.le_trans (Nat.le_of_eq f29.1.symm) f29.2.1) sznnb2_3_24
    have f32 : Keep h0 h5 [] := K0.ext E5
    have f33 : Keep h0 h11 [] := f32.wr W11 (Or.inr sz7)
    have f34 : Keep h0 h16 [] := f33.wr W16 (Or.inr sz7)
    have sz35 : h0.size ≤ nnb2_3_24 := Nat.le_trans f34.1 sznnb2_3_24
    obtain ⟨c36, r36, q36, s36, z36, y36, G36⟩ := id g24_0
    obtain ⟨c37, r37, q37, s37, z37, y37, G37⟩ := id g24_0
    have hin37 : ¬ ((p5_ &&& (31 : Int32)) < 0 ∨ c37.slots.size ≤ ((p5_ &&& (31 : Int32))).toNatClampNeg) := inb_of s37 ⟨hn19, hn20⟩
    have hat37 : c37.slots[((p5_ &&& (31 : Int32))).toNatClampNeg]? = some (.int (g16 ((p5_ &&& (31 : Int32))).toNatClampNeg)) := Has.at y37 hin37 (own_l_get _ _ _ (show _ < 32 from own_lt s37 hin37))
    obtain ⟨c38, r38, q38, s38, z38, y38, G38⟩ := id g24_0
    have hin38 : ¬ ((p5_ &&& (31 : Int32)) < 0 ∨ c38.slots.size ≤ ((p5_ &&& (31 : Int32))).toNatClampNeg) := inb_of s38 ⟨hn19, hn20⟩
    have hat38 : c38.slots[((p5_ &&& (31 : Int32))).toNatClampNeg]? = some (.int (g16 ((p5_ &&& (31 : Int32))).toNatClampNeg)) := Has.at y38 hin38 (own_l_get _ _ _ (show _ < 32 from own_lt s38 hin38))
    obtain ⟨c39, r39, q39, s39, z39, y39, G39⟩ := id g24_0
    have hin39 : ¬ ((p5_ &&& (31 : Int32)) < 0 ∨ c39.slots.size ≤ ((p5_ &&& (31 : Int32))).toNatClampNeg) := inb_of s39 ⟨hn19, hn20⟩
    obtain ⟨T39, h39, X39, e39, W39, st39⟩ := stB X24 hx hZ e24 r39 (j := (p5_ &&& (31 : Int32))) hin39 (g := (mkF m 106 #[.val (.int p0_), .val (.int p1_), .val (.int p2_), .val (.int p3_), .val (.int p4_), .val (.int p5_), .val (.int (0 : Int32)), .val (.int (32 : Int32)), .val (.ref b5), .val (.int (p5_ &&& (31 : Int32))), .val (.int (g16 (((0 : Int32) + (p5_ &&& (31 : Int32)))).toNatClampNeg)), .val (.ref nnb2_3_24)] [(.int (((g16 ((p5_ &&& (31 : Int32))).toNatClampNeg) ^^^ (1 : Int32)).toInt8.toInt32)), (.int (p5_ &&& (31 : Int32))), (.ref nnb2_3_24)])) rfl rfl (hb hby at_106)
    have N40 := Fr.snoc X39 N30 ge31
    have lt39 : ((p5_ &&& (31 : Int32))).toNatClampNeg < 32 := own_lt s39 hin39
    obtain ⟨g39, hg39_⟩ : ∃ g : Nat → Int32, g = (fun k => if k = ((p5_ &&& (31 : Int32))).toNatClampNeg then ((((g16 ((p5_ &&& (31 : Int32))).toNatClampNeg) ^^^ (1 : Int32)).toInt8.toInt32).toInt8.toInt32) else g16 k) := ⟨_, rfl⟩
    have f41 : Arv Z h39 nnb2_3_24 k5 .byte (32 : Int32) (own_l 32 g39) (.int (0 : Int32)) := by
      have q : Arv Z h39 nnb2_3_24 k5 .byte (32 : Int32) (List.set (own_l 32 g16) ((p5_ &&& (31 : Int32))).toNatClampNeg (.int ((((g16 ((p5_ &&& (31 : Int32))).toNatClampNeg) ^^^ (1 : Int32)).toInt8.toInt32).toInt8.toInt32))) (.int (0 : Int32)) := Arv.set r39 q39 s39 z39 y39 G39 (fits_nar_byte _) W39 ((p5_ &&& (31 : Int32))).toNatClampNeg rfl (by rw [own_l_len]; exact lt39)
      rw [own_l_set, ← hg39_] at q
      exact q
    have f42 : Arv Z h24 b5 k5 .byte (32 : Int32) (own_l 32 g16) (.int (0 : Int32)) := f18.keep K24 nin0
    have ne44 : b5 ≠ nnb2_3_24 := Nat.ne_of_lt (Nat.lt_of_lt_of_le f18.lt sznnb2_3_24)
    have f43 : Arv Z h39 b5 k5 .byte (32 : Int32) (own_l 32 g16) (.int (0 : Int32)) := f42.other W39 ne44
    obtain ⟨c45, r45, q45, s45, z45, y45, G45⟩ := id f43
    have hin45 : ¬ (((0 : Int32) + (p5_ &&& (31 : Int32))) < 0 ∨ c45.slots.size ≤ (((0 : Int32) + (p5_ &&& (31 : Int32)))).toNatClampNeg) := inb_of s45 ⟨hn21, hn22⟩
    have hat45 : c45.slots[(((0 : Int32) + (p5_ &&& (31 : Int32)))).toNatClampNeg]? = some (.int (g16 (((0 : Int32) + (p5_ &&& (31 : Int32)))).toNatClampNeg)) := Has.at y45 hin45 (own_l_get _ _ _ (show _ < 32 from own_lt s45 hin45))
    have pre46 : ∀ t, Steps p.tables e below (T39.setTop (mkF m 125 #[.val (.int p0_), .val (.int p1_), .val (.int p2_), .val (.int p3_), .val (.int p4_), .val (.int p5_), .val (.int (0 : Int32)), .val (.int (32 : Int32)), .val (.ref b5), .val (.int (p5_ &&& (31 : Int32))), .val (.int (g16 (((0 : Int32) + (p5_ &&& (31 : Int32)))).toNatClampNeg)), .val (.ref nnb2_3_24)] [(.int (1 : Int32))])) t → Steps p.tables e below (s₁.setTop (entryFrame m #[(.int p0_), (.int p1_), (.int p2_), (.int p3_), (.int p4_), (.int p5_)] maxLocals)) t := by
      intro t kt
      refine pre4 t ?_
      show Steps p.tables e below (s₁.setTop (mkF m 3 #[.val (.int p0_), .val (.int p1_), .val (.int p2_), .val (.int p3_), .val (.int p4_), .val (.int p5_), .unset, .unset, .unset, .unset, .unset, .unset] [(.int (0 : Int32))])) _
      refine XS.istore X0.here hx rfl (hb hby at_3) rfl (l' := #[.val (.int p0_), .val (.int p1_), .val (.int p2_), .val (.int p3_), .val (.int p4_), .val (.int p5_), .val (.int (0 : Int32)), .unset, .unset, .unset, .unset, .unset]) rfl ?_
      show Steps p.tables e below (s₁.setTop (mkF m 5 #[.val (.int p0_), .val (.int p1_), .val (.int p2_), .val (.int p3_), .val (.int p4_), .val (.int p5_), .val (.int (0 : Int32)), .unset, .unset, .unset, .unset, .unset] [])) _
      refine XS.bipush X0.here hx rfl (hb hby at_5) ?_
      show Steps p.tables e below (s₁.setTop (mkF m 7 #[.val (.int p0_), .val (.int p1_), .val (.int p2_), .val (.int p3_), .val (.int p4_), .val (.int p5_), .val (.int (0 : Int32)), .unset, .unset, .unset, .unset, .unset] [(.int (32 : Int32))])) _
      refine XS.iload X0.here hx rfl (hb hby at_7) rfl ?_
      show Steps p.tables e below (s₁.setTop (mkF m 9 #[.val (.int p0_), .val (.int p1_), .val (.int p2_), .val (.int p3_), .val (.int p4_), .val (.int p5_), .val (.int (0 : Int32)), .unset, .unset, .unset, .unset, .unset] [(.int (0 : Int32)), (.int (32 : Int32))])) _
      refine XS.iadd X0.here hx rfl (hb hby at_9) rfl ?_
      show Steps p.tables e below (s₁.setTop (mkF m 10 #[.val (.int p0_), .val (.int p1_), .val (.int p2_), .val (.int p3_), .val (.int p4_), .val (.int p5_), .val (.int (0 : Int32)), .unset, .unset, .unset, .unset, .unset] [(.int (32 : Int32))])) _
      refine XS.istore X0.here hx rfl (hb hby at_10) rfl (l' := #[.val (.int p0_), .val (.int p1_), .val (.int p2_), .val (.int p3_), .val (.int p4_), .val (.int p5_), .val (.int (0 : Int32)), .val (.int (32 : Int32)), .unset, .unset, .unset, .unset]) rfl ?_
      show Steps p.tables e below (s₁.setTop (mkF m 12 #[.val (.int p0_), .val (.int p1_), .val (.int p2_), .val (.int p3_), .val (.int p4_), .val (.int p5_), .val (.int (0 : Int32)), .val (.int (32 : Int32)), .unset, .unset, .unset, .unset] [])) _
      refine XS.iload X0.here hx rfl (hb hby at_12) rfl ?_
      show Steps p.tables e below (s₁.setTop (mkF m 14 #[.val (.int p0_), .val (.int p1_), .val (.int p2_), .val (.int p3_), .val (.int p4_), .val (.int p5_), .val (.int (0 : Int32)), .val (.int (32 : Int32)), .unset, .unset, .unset, .unset] [(.int (32 : Int32))])) _
      refine st5 _ ?_
      show Steps p.tables e below (T5.setTop (mkF m 16 #[.val (.int p0_), .val (.int p1_), .val (.int p2_), .val (.int p3_), .val (.int p4_), .val (.int p5_), .val (.int (0 : Int32)), .val (.int (32 : Int32)), .unset, .unset, .unset, .unset] [(.ref b5)])) _
      refine XS.astore X5.here hx rfl (hb hby at_16) rfl rfl (l' := #[.val (.int p0_), .val (.int p1_), .val (.int p2_), .val (.int p3_), .val (.int p4_), .val (.int p5_), .val (.int (0 : Int32)), .val (.int (32 : Int32)), .val (.ref b5), .unset, .unset, .unset]) rfl ?_
      show Steps p.tables e below (T5.setTop (mkF m 18 #[.val (.int p0_), .val (.int p1_), .val (.int p2_), .val (.int p3_), .val (.int p4_), .val (.int p5_), .val (.int (0 : Int32)), .val (.int (32 : Int32)), .val (.ref b5), .unset, .unset, .unset] [])) _
      refine XS.aload X5.here hx rfl (hb hby at_18) rfl rfl ?_
      show Steps p.tables e below (T5.setTop (mkF m 20 #[.val (.int p0_), .val (.int p1_), .val (.int p2_), .val (.int p3_), .val (.int p4_), .val (.int p5_), .val (.int (0 : Int32)), .val (.int (32 : Int32)), .val (.ref b5), .unset, .unset, .unset] [(.ref b5)])) _
      refine XS.iloadN X5.here hx rfl (hb hby at_20) rfl ?_
      show Steps p.tables e below (T5.setTop (mkF m 21 #[.val (.int p0_), .val (.int p1_), .val (.int p2_), .val (.int p3_), .val (.int p4_), .val (.int p5_), .val (.int (0 : Int32)), .val (.int (32 : Int32)), .val (.ref b5), .unset, .unset, .unset] [(.int p1_), (.ref b5)])) _
      refine X5.ldcInt hx hown (mvT hZ (hw _ (List.mem_of_getElem? (i := 1) rfl))) (g := (mkF m 21 #[.val (.int p0_), .val (.int p1_), .val (.int p2_), .val (.int p3_), .val (.int p4_), .val (.int p5_), .val (.int (0 : Int32)), .val (.int (32 : Int32)), .val (.ref b5), .unset, .unset, .unset] [(.int p1_), (.ref b5)])) rfl (hb hby at_21) _ ?_
      show Steps p.tables e below (T5.setTop (mkF m 23 #[.val (.int p0_), .val (.int p1_), .val (.int p2_), .val (.int p3_), .val (.int p4_), .val (.int p5_), .val (.int (0 : Int32)), .val (.int (32 : Int32)), .val (.ref b5), .unset, .unset, .unset] [(.int (2147483647 : Int32)), (.int p1_), (.ref b5)])) _
      refine XS.iand X5.here hx rfl (hb hby at_23) rfl ?_
      show Steps p.tables e below (T5.setTop (mkF m 24 #[.val (.int p0_), .val (.int p1_), .val (.int p2_), .val (.int p3_), .val (.int p4_), .val (.int p5_), .val (.int (0 : Int32)), .val (.int (32 : Int32)), .val (.ref b5), .unset, .unset, .unset] [(.int (p1_ &&& (2147483647 : Int32))), (.ref b5)])) _
      refine XS.iload X5.here hx rfl (hb hby at_24) rfl ?_
      show Steps p.tables e below (T5.setTop (mkF m 26 #[.val (.int p0_), .val (.int p1_), .val (.int p2_), .val (.int p3_), .val (.int p4_), .val (.int p5_), .val (.int (0 : Int32)), .val (.int (32 : Int32)), .val (.ref b5), .unset, .unset, .unset] [(.int (32 : Int32)), (.int (p1_ &&& (2147483647 : Int32))), (.ref b5)])) _
      refine iremM (g := (mkF m 26 #[.val (.int p0_), .val (.int p1_), .val (.int p2_), .val (.int p3_), .val (.int p4_), .val (.int p5_), .val (.int (0 : Int32)), .val (.int (32 : Int32)), .val (.ref b5), .unset, .unset, .unset] [(.int (32 : Int32)), (.int (p1_ &&& (2147483647 : Int32))), (.ref b5)])) X5 hx rfl (hb hby at_26) rfl (by decide) ?_
      show Steps p.tables e below (T5.setTop (mkF m 27 #[.val (.int p0_), .val (.int p1_), .val (.int p2_), .val (.int p3_), .val (.int p4_), .val (.int p5_), .val (.int (0 : Int32)), .val (.int (32 : Int32)), .val (.ref b5), .unset, .unset, .unset] [(.int ((p1_ &&& (2147483647 : Int32)) % (32 : Int32))), (.ref b5)])) _
      refine XS.iloadN X5.here hx rfl (hb hby at_27) rfl ?_
      show Steps p.tables e below (T5.setTop (mkF m 28 #[.val (.int p0_), .val (.int p1_), .val (.int p2_), .val (.int p3_), .val (.int p4_), .val (.int p5_), .val (.int (0 : Int32)), .val (.int (32 : Int32)), .val (.ref b5), .unset, .unset, .unset] [(.int p2_), (.int ((p1_ &&& (2147483647 : Int32)) % (32 : Int32))), (.ref b5)])) _
      refine XS.i2b X5.here hx rfl (hb hby at_28) rfl ?_
      show Steps p.tables e below (T5.setTop (mkF m 29 #[.val (.int p0_), .val (.int p1_), .val (.int p2_), .val (.int p3_), .val (.int p4_), .val (.int p5_), .val (.int (0 : Int32)), .val (.int (32 : Int32)), .val (.ref b5), .unset, .unset, .unset] [(.int (p2_.toInt8.toInt32)), (.int ((p1_ &&& (2147483647 : Int32)) % (32 : Int32))), (.ref b5)])) _
      refine st11 _ ?_
      show Steps p.tables e below (T11.setTop (mkF m 30 #[.val (.int p0_), .val (.int p1_), .val (.int p2_), .val (.int p3_), .val (.int p4_), .val (.int p5_), .val (.int (0 : Int32)), .val (.int (32 : Int32)), .val (.ref b5), .unset, .unset, .unset] [])) _
      refine XS.aload X11.here hx rfl (hb hby at_30) rfl rfl ?_
      show Steps p.tables e below (T11.setTop (mkF m 32 #[.val (.int p0_), .val (.int p1_), .val (.int p2_), .val (.int p3_), .val (.int p4_), .val (.int p5_), .val (.int (0 : Int32)), .val (.int (32 : Int32)), .val (.ref b5), .unset, .unset, .unset] [(.ref b5)])) _
      refine XS.iloadN X11.here hx rfl (hb hby at_32) rfl ?_
      show Steps p.tables e below (T11.setTop (mkF m 33 #[.val (.int p0_), .val (.int p1_), .val (.int p2_), .val (.int p3_), .val (.int p4_), .val (.int p5_), .val (.int (0 : Int32)), .val (.int (32 : Int32)), .val (.ref b5), .unset, .unset, .unset] [(.int p3_), (.ref b5)])) _
      refine X11.ldcInt hx hown (mvT hZ (hw _ (List.mem_of_getElem? (i := 1) rfl))) (g := (mkF m 33 #[.val (.int p0_), .val (.int p1_), .val (.int p2_), .val (.int p3_), .val (.int p4_), .val (.int p5_), .val (.int (0 : Int32)), .val (.int (32 : Int32)), .val (.ref b5), .unset, .unset, .unset] [(.int p3_), (.ref b5)])) rfl (hb hby at_33) _ ?_
      show Steps p.tables e below (T11.setTop (mkF m 35 #[.val (.int p0_), .val (.int p1_), .val (.int p2_), .val (.int p3_), .val (.int p4_), .val (.int p5_), .val (.int (0 : Int32)), .val (.int (32 : Int32)), .val (.ref b5), .unset, .unset, .unset] [(.int (2147483647 : Int32)), (.int p3_), (.ref b5)])) _
      refine XS.iand X11.here hx rfl (hb hby at_35) rfl ?_
      show Steps p.tables e below (T11.setTop (mkF m 36 #[.val (.int p0_), .val (.int p1_), .val (.int p2_), .val (.int p3_), .val (.int p4_), .val (.int p5_), .val (.int (0 : Int32)), .val (.int (32 : Int32)), .val (.ref b5), .unset, .unset, .unset] [(.int (p3_ &&& (2147483647 : Int32))), (.ref b5)])) _
      refine XS.iload X11.here hx rfl (hb hby at_36) rfl ?_
      show Steps p.tables e below (T11.setTop (mkF m 38 #[.val (.int p0_), .val (.int p1_), .val (.int p2_), .val (.int p3_), .val (.int p4_), .val (.int p5_), .val (.int (0 : Int32)), .val (.int (32 : Int32)), .val (.ref b5), .unset, .unset, .unset] [(.int (32 : Int32)), (.int (p3_ &&& (2147483647 : Int32))), (.ref b5)])) _
      refine iremM (g := (mkF m 38 #[.val (.int p0_), .val (.int p1_), .val (.int p2_), .val (.int p3_), .val (.int p4_), .val (.int p5_), .val (.int (0 : Int32)), .val (.int (32 : Int32)), .val (.ref b5), .unset, .unset, .unset] [(.int (32 : Int32)), (.int (p3_ &&& (2147483647 : Int32))), (.ref b5)])) X11 hx rfl (hb hby at_38) rfl (by decide) ?_
      show Steps p.tables e below (T11.setTop (mkF m 39 #[.val (.int p0_), .val (.int p1_), .val (.int p2_), .val (.int p3_), .val (.int p4_), .val (.int p5_), .val (.int (0 : Int32)), .val (.int (32 : Int32)), .val (.ref b5), .unset, .unset, .unset] [(.int ((p3_ &&& (2147483647 : Int32)) % (32 : Int32))), (.ref b5)])) _
      refine XS.iload X11.here hx rfl (hb hby at_39) rfl ?_
      show Steps p.tables e below (T11.setTop (mkF m 41 #[.val (.int p0_), .val (.int p1_), .val (.int p2_), .val (.int p3_), .val (.int p4_), .val (.int p5_), .val (.int (0 : Int32)), .val (.int (32 : Int32)), .val (.ref b5), .unset, .unset, .unset] [(.int p4_), (.int ((p3_ &&& (2147483647 : Int32)) % (32 : Int32))), (.ref b5)])) _
      refine XS.i2b X11.here hx rfl (hb hby at_41) rfl ?_
      show Steps p.tables e below (T11.setTop (mkF m 42 #[.val (.int p0_), .val (.int p1_), .val (.int p2_), .val (.int p3_), .val (.int p4_), .val (.int p5_), .val (.int (0 : Int32)), .val (.int (32 : Int32)), .val (.ref b5), .unset, .unset, .unset] [(.int (p4_.toInt8.toInt32)), (.int ((p3_ &&& (2147483647 : Int32)) % (32 : Int32))), (.ref b5)])) _
      refine st16 _ ?_
      show Steps p.tables e below (T16.setTop (mkF m 43 #[.val (.int p0_), .val (.int p1_), .val (.int p2_), .val (.int p3_), .val (.int p4_), .val (.int p5_), .val (.int (0 : Int32)), .val (.int (32 : Int32)), .val (.ref b5), .unset, .unset, .unset] [])) _
      refine XS.iload X16.here hx rfl (hb hby at_43) rfl ?_
      show Steps p.tables e below (T16.setTop (mkF m 45 #[.val (.int p0_), .val (.int p1_), .val (.int p2_), .val (.int p3_), .val (.int p4_), .val (.int p5_), .val (.int (0 : Int32)), .val (.int (32 : Int32)), .val (.ref b5), .unset, .unset, .unset] [(.int p5_)])) _
      refine XS.bipush X16.here hx rfl (hb hby at_45) ?_
      show Steps p.tables e below (T16.setTop (mkF m 47 #[.val (.int p0_), .val (.int p1_), .val (.int p2_), .val (.int p3_), .val (.int p4_), .val (.int p5_), .val (.int (0 : Int32)), .val (.int (32 : Int32)), .val (.ref b5), .unset, .unset, .unset] [(.int (31 : Int32)), (.int p5_)])) _
      refine XS.iand X16.here hx rfl (hb hby at_47) rfl ?_
      show Steps p.tables e below (T16.setTop (mkF m 48 #[.val (.int p0_), .val (.int p1_), .val (.int p2_), .val (.int p3_), .val (.int p4_), .val (.int p5_), .val (.int (0 : Int32)), .val (.int (32 : Int32)), .val (.ref b5), .unset, .unset, .unset] [(.int (p5_ &&& (31 : Int32)))])) _
      refine XS.istore X16.here hx rfl (hb hby at_48) rfl (l' := #[.val (.int p0_), .val (.int p1_), .val (.int p2_), .val (.int p3_), .val (.int p4_), .val (.int p5_), .val (.int (0 : Int32)), .val (.int (32 : Int32)), .val (.ref b5), .val (.int (p5_ &&& (31 : Int32))), .unset, .unset]) rfl ?_
      show Steps p.tables e below (T16.setTop (mkF m 50 #[.val (.int p0_), .val (.int p1_), .val (.int p2_), .val (.int p3_), .val (.int p4_), .val (.int p5_), .val (.int (0 : Int32)), .val (.int (32 : Int32)), .val (.ref b5), .val (.int (p5_ &&& (31 : Int32))), .unset, .unset] [])) _
      refine XS.aload X16.here hx rfl (hb hby at_50) rfl rfl ?_
      show Steps p.tables e below (T16.setTop (mkF m 52 #[.val (.int p0_), .val (.int p1_), .val (.int p2_), .val (.int p3_), .val (.int p4_), .val (.int p5_), .val (.int (0 : Int32)), .val (.int (32 : Int32)), .val (.ref b5), .val (.int (p5_ &&& (31 : Int32))), .unset, .unset] [(.ref b5)])) _
      refine XS.iload X16.here hx rfl (hb hby at_52) rfl ?_
      show Steps p.tables e below (T16.setTop (mkF m 54 #[.val (.int p0_), .val (.int p1_), .val (.int p2_), .val (.int p3_), .val (.int p4_), .val (.int p5_), .val (.int (0 : Int32)), .val (.int (32 : Int32)), .val (.ref b5), .val (.int (p5_ &&& (31 : Int32))), .unset, .unset] [(.int (0 : Int32)), (.ref b5)])) _
      refine XS.iload X16.here hx rfl (hb hby at_54) rfl ?_
      show Steps p.tables e below (T16.setTop (mkF m 56 #[.val (.int p0_), .val (.int p1_), .val (.int p2_), .val (.int p3_), .val (.int p4_), .val (.int p5_), .val (.int (0 : Int32)), .val (.int (32 : Int32)), .val (.ref b5), .val (.int (p5_ &&& (31 : Int32))), .unset, .unset] [(.int (p5_ &&& (31 : Int32))), (.int (0 : Int32)), (.ref b5)])) _
      refine XS.iadd X16.here hx rfl (hb hby at_56) rfl ?_
      show Steps p.tables e below (T16.setTop (mkF m 57 #[.val (.int p0_), .val (.int p1_), .val (.int p2_), .val (.int p3_), .val (.int p4_), .val (.int p5_), .val (.int (0 : Int32)), .val (.int (32 : Int32)), .val (.ref b5), .val (.int (p5_ &&& (31 : Int32))), .unset, .unset] [(.int ((0 : Int32) + (p5_ &&& (31 : Int32)))), (.ref b5)])) _
      refine X16.baloadBytes hx (j := ((0 : Int32) + (p5_ &&& (31 : Int32)))) (v := (.int (g16 (((0 : Int32) + (p5_ &&& (31 : Int32)))).toNatClampNeg))) (by rw [e16]; exact r23.1) (State.isArrayOf_alike hZ.alike r23.2.1) r23.2.2 hin23 hat23 (g := (mkF m 57 #[.val (.int p0_), .val (.int p1_), .val (.int p2_), .val (.int p3_), .val (.int p4_), .val (.int p5_), .val (.int (0 : Int32)), .val (.int (32 : Int32)), .val (.ref b5), .val (.int (p5_ &&& (31 : Int32))), .unset, .unset] [(.int ((0 : Int32) + (p5_ &&& (31 : Int32)))), (.ref b5)])) rfl rfl (hb hby at_57) _ ?_
      show Steps p.tables e below (T16.setTop (mkF m 58 #[.val (.int p0_), .val (.int p1_), .val (.int p2_), .val (.int p3_), .val (.int p4_), .val (.int p5_), .val (.int (0 : Int32)), .val (.int (32 : Int32)), .val (.ref b5), .val (.int (p5_ &&& (31 : Int32))), .unset, .unset] [(.int (g16 (((0 : Int32) + (p5_ &&& (31 : Int32)))).toNatClampNeg))])) _
      refine XS.istore X16.here hx rfl (hb hby at_58) rfl (l' := #[.val (.int p0_), .val (.int p1_), .val (.int p2_), .val (.int p3_), .val (.int p4_), .val (.int p5_), .val (.int (0 : Int32)), .val (.int (32 : Int32)), .val (.ref b5), .val (.int (p5_ &&& (31 : Int32))), .val (.int (g16 (((0 : Int32) + (p5_ &&& (31 : Int32)))).toNatClampNeg)), .unset]) rfl ?_
      show Steps p.tables e below (T16.setTop (mkF m 60 #[.val (.int p0_), .val (.int p1_), .val (.int p2_), .val (.int p3_), .val (.int p4_), .val (.int p5_), .val (.int (0 : Int32)), .val (.int (32 : Int32)), .val (.ref b5), .val (.int (p5_ &&& (31 : Int32))), .val (.int (g16 (((0 : Int32) + (p5_ &&& (31 : Int32)))).toNatClampNeg)), .unset] [])) _
      refine XS.aload X16.here hx rfl (hb hby at_60) rfl rfl ?_
      show Steps p.tables e below (T16.setTop (mkF m 62 #[.val (.int p0_), .val (.int p1_), .val (.int p2_), .val (.int p3_), .val (.int p4_), .val (.int p5_), .val (.int (0 : Int32)), .val (.int (32 : Int32)), .val (.ref b5), .val (.int (p5_ &&& (31 : Int32))), .val (.int (g16 (((0 : Int32) + (p5_ &&& (31 : Int32)))).toNatClampNeg)), .unset] [(.ref b5)])) _
      refine st24 _ ?_
      show Steps p.tables e below (T24.setTop (mkF m 65 #[.val (.int p0_), .val (.int p1_), .val (.int p2_), .val (.int p3_), .val (.int p4_), .val (.int p5_), .val (.int (0 : Int32)), .val (.int (32 : Int32)), .val (.ref b5), .val (.int (p5_ &&& (31 : Int32))), .val (.int (g16 (((0 : Int32) + (p5_ &&& (31 : Int32)))).toNatClampNeg)), .unset] [(.ref nnb2_3_24)])) _
      refine XS.astore X24.here hx rfl (hb hby at_65) rfl rfl (l' := #[.val (.int p0_), .val (.int p1_), .val (.int p2_), .val (.int p3_), .val (.int p4_), .val (.int p5_), .val (.int (0 : Int32)), .val (.int (32 : Int32)), .val (.ref b5), .val (.int (p5_ &&& (31 : Int32))), .val (.int (g16 (((0 : Int32) + (p5_ &&& (31 : Int32)))).toNatClampNeg)), .val (.ref nnb2_3_24)]) rfl ?_
      show Steps p.tables e below (T24.setTop (mkF m 67 #[.val (.int p0_), .val (.int p1_), .val (.int p2_), .val (.int p3_), .val (.int p4_), .val (.int p5_), .val (.int (0 : Int32)), .val (.int (32 : Int32)), .val (.ref b5), .val (.int (p5_ &&& (31 : Int32))), .val (.int (g16 (((0 : Int32) + (p5_ &&& (31 : Int32)))).toNatClampNeg)), .val (.ref nnb2_3_24)] [])) _
      refine XS.aload X24.here hx rfl (hb hby at_67) rfl rfl ?_
      show Steps p.tables e below (T24.setTop (mkF m 69 #[.val (.int p0_), .val (.int p1_), .val (.int p2_), .val (.int p3_), .val (.int p4_), .val (.int p5_), .val (.int (0 : Int32)), .val (.int (32 : Int32)), .val (.ref b5), .val (.int (p5_ &&& (31 : Int32))), .val (.int (g16 (((0 : Int32) + (p5_ &&& (31 : Int32)))).toNatClampNeg)), .val (.ref nnb2_3_24)] [(.ref nnb2_3_24)])) _
      refine XS.ifnullNo X24.here hx rfl (hb hby at_69) rfl ?_
      show Steps p.tables e below (T24.setTop (mkF m 72 #[.val (.int p0_), .val (.int p1_), .val (.int p2_), .val (.int p3_), .val (.int p4_), .val (.int p5_), .val (.int (0 : Int32)), .val (.int (32 : Int32)), .val (.ref b5), .val (.int (p5_ &&& (31 : Int32))), .val (.int (g16 (((0 : Int32) + (p5_ &&& (31 : Int32)))).toNatClampNeg)), .val (.ref nnb2_3_24)] [])) _
      refine XS.aload X24.here hx rfl (hb hby at_72) rfl rfl ?_
      show Steps p.tables e below (T24.setTop (mkF m 74 #[.val (.int p0_), .val (.int p1_), .val (.int p2_), .val (.int p3_), .val (.int p4_), .val (.int p5_), .val (.int (0 : Int32)), .val (.int (32 : Int32)), .val (.ref b5), .val (.int (p5_ &&& (31 : Int32))), .val (.int (g16 (((0 : Int32) + (p5_ &&& (31 : Int32)))).toNatClampNeg)), .val (.ref nnb2_3_24)] [(.ref nnb2_3_24)])) _
      refine X24.arraylength hx (by rw [e24]; exact r36.1) (State.isArrayOf_alike hZ.alike r36.2.1) (g := (mkF m 74 #[.val (.int p0_), .val (.int p1_), .val (.int p2_), .val (.int p3_), .val (.int p4_), .val (.int p5_), .val (.int (0 : Int32)), .val (.int (32 : Int32)), .val (.ref b5), .val (.int (p5_ &&& (31 : Int32))), .val (.int (g16 (((0 : Int32) + (p5_ &&& (31 : Int32)))).toNatClampNeg)), .val (.ref nnb2_3_24)] [(.ref nnb2_3_24)])) rfl rfl (hb hby at_74) _ ?_
      rw [len_of s36 z36]
      show Steps p.tables e below (T24.setTop (mkF m 75 #[.val (.int p0_), .val (.int p1_), .val (.int p2_), .val (.int p3_), .val (.int p4_), .val (.int p5_), .val (.int (0 : Int32)), .val (.int (32 : Int32)), .val (.ref b5), .val (.int (p5_ &&& (31 : Int32))), .val (.int (g16 (((0 : Int32) + (p5_ &&& (31 : Int32)))).toNatClampNeg)), .val (.ref nnb2_3_24)] [(.int (32 : Int32))])) _
      refine XS.bipush X24.here hx rfl (hb hby at_75) ?_
      show Steps p.tables e below (T24.setTop (mkF m 77 #[.val (.int p0_), .val (.int p1_), .val (.int p2_), .val (.int p3_), .val (.int p4_), .val (.int p5_), .val (.int (0 : Int32)), .val (.int (32 : Int32)), .val (.ref b5), .val (.int (p5_ &&& (31 : Int32))), .val (.int (g16 (((0 : Int32) + (p5_ &&& (31 : Int32)))).toNatClampNeg)), .val (.ref nnb2_3_24)] [(.int (32 : Int32)), (.int (32 : Int32))])) _
      refine XS.icmpYes X24.here hx rfl (pc0 := 77) (pc' := 82) rfl (hb hby at_77) rfl (teq (by decide : (32 : Int32) = (32 : Int32))).1 (by decide) (by decide) ?_
      show Steps p.tables e below (T24.setTop (mkF m 82 #[.val (.int p0_), .val (.int p1_), .val (.int p2_), .val (.int p3_), .val (.int p4_), .val (.int p5_), .val (.int (0 : Int32)), .val (.int (32 : Int32)), .val (.ref b5), .val (.int (p5_ &&& (31 : Int32))), .val (.int (g16 (((0 : Int32) + (p5_ &&& (31 : Int32)))).toNatClampNeg)), .val (.ref nnb2_3_24)] [])) _
      refine XS.aload X24.here hx rfl (hb hby at_82) rfl rfl ?_
      show Steps p.tables e below (T24.setTop (mkF m 84 #[.val (.int p0_), .val (.int p1_), .val (.int p2_), .val (.int p3_), .val (.int p4_), .val (.int p5_), .val (.int (0 : Int32)), .val (.int (32 : Int32)), .val (.ref b5), .val (.int (p5_ &&& (31 : Int32))), .val (.int (g16 (((0 : Int32) + (p5_ &&& (31 : Int32)))).toNatClampNeg)), .val (.ref nnb2_3_24)] [(.ref nnb2_3_24)])) _
      refine XS.iload X24.here hx rfl (hb hby at_84) rfl ?_
      show Steps p.tables e below (T24.setTop (mkF m 86 #[.val (.int p0_), .val (.int p1_), .val (.int p2_), .val (.int p3_), .val (.int p4_), .val (.int p5_), .val (.int (0 : Int32)), .val (.int (32 : Int32)), .val (.ref b5), .val (.int (p5_ &&& (31 : Int32))), .val (.int (g16 (((0 : Int32) + (p5_ &&& (31 : Int32)))).toNatClampNeg)), .val (.ref nnb2_3_24)] [(.int (p5_ &&& (31 : Int32))), (.ref nnb2_3_24)])) _
      refine X24.baloadBytes hx (j := (p5_ &&& (31 : Int32))) (v := (.int (g16 ((p5_ &&& (31 : Int32))).toNatClampNeg))) (by rw [e24]; exact r37.1) (State.isArrayOf_alike hZ.alike r37.2.1) r37.2.2 hin37 hat37 (g := (mkF m 86 #[.val (.int p0_), .val (.int p1_), .val (.int p2_), .val (.int p3_), .val (.int p4_), .val (.int p5_), .val (.int (0 : Int32)), .val (.int (32 : Int32)), .val (.ref b5), .val (.int (p5_ &&& (31 : Int32))), .val (.int (g16 (((0 : Int32) + (p5_ &&& (31 : Int32)))).toNatClampNeg)), .val (.ref nnb2_3_24)] [(.int (p5_ &&& (31 : Int32))), (.ref nnb2_3_24)])) rfl rfl (hb hby at_86) _ ?_
      show Steps p.tables e below (T24.setTop (mkF m 87 #[.val (.int p0_), .val (.int p1_), .val (.int p2_), .val (.int p3_), .val (.int p4_), .val (.int p5_), .val (.int (0 : Int32)), .val (.int (32 : Int32)), .val (.ref b5), .val (.int (p5_ &&& (31 : Int32))), .val (.int (g16 (((0 : Int32) + (p5_ &&& (31 : Int32)))).toNatClampNeg)), .val (.ref nnb2_3_24)] [(.int (g16 ((p5_ &&& (31 : Int32))).toNatClampNeg))])) _
      refine XS.iload X24.here hx rfl (hb hby at_87) rfl ?_
      show Steps p.tables e below (T24.setTop (mkF m 89 #[.val (.int p0_), .val (.int p1_), .val (.int p2_), .val (.int p3_), .val (.int p4_), .val (.int p5_), .val (.int (0 : Int32)), .val (.int (32 : Int32)), .val (.ref b5), .val (.int (p5_ &&& (31 : Int32))), .val (.int (g16 (((0 : Int32) + (p5_ &&& (31 : Int32)))).toNatClampNeg)), .val (.ref nnb2_3_24)] [(.int (g16 (((0 : Int32) + (p5_ &&& (31 : Int32)))).toNatClampNeg)), (.int (g16 ((p5_ &&& (31 : Int32))).toNatClampNeg))])) _
      refine XS.icmpYes X24.here hx rfl (pc0 := 89) (pc' := 94) rfl (hb hby at_89) rfl (teq (own_at0 g16 (own_e0 _).2.2)).1 (by decide) (by decide) ?_
      show Steps p.tables e below (T24.setTop (mkF m 94 #[.val (.int p0_), .val (.int p1_), .val (.int p2_), .val (.int p3_), .val (.int p4_), .val (.int p5_), .val (.int (0 : Int32)), .val (.int (32 : Int32)), .val (.ref b5), .val (.int (p5_ &&& (31 : Int32))), .val (.int (g16 (((0 : Int32) + (p5_ &&& (31 : Int32)))).toNatClampNeg)), .val (.ref nnb2_3_24)] [])) _
      refine XS.aload X24.here hx rfl (hb hby at_94) rfl rfl ?_
      show Steps p.tables e below (T24.setTop (mkF m 96 #[.val (.int p0_), .val (.int p1_), .val (.int p2_), .val (.int p3_), .val (.int p4_), .val (.int p5_), .val (.int (0 : Int32)), .val (.int (32 : Int32)), .val (.ref b5), .val (.int (p5_ &&& (31 : Int32))), .val (.int (g16 (((0 : Int32) + (p5_ &&& (31 : Int32)))).toNatClampNeg)), .val (.ref nnb2_3_24)] [(.ref nnb2_3_24)])) _
      refine XS.iload X24.here hx rfl (hb hby at_96) rfl ?_
      show Steps p.tables e below (T24.setTop (mkF m 98 #[.val (.int p0_), .val (.int p1_), .val (.int p2_), .val (.int p3_), .val (.int p4_), .val (.int p5_), .val (.int (0 : Int32)), .val (.int (32 : Int32)), .val (.ref b5), .val (.int (p5_ &&& (31 : Int32))), .val (.int (g16 (((0 : Int32) + (p5_ &&& (31 : Int32)))).toNatClampNeg)), .val (.ref nnb2_3_24)] [(.int (p5_ &&& (31 : Int32))), (.ref nnb2_3_24)])) _
      refine XS.aload X24.here hx rfl (hb hby at_98) rfl rfl ?_
      show Steps p.tables e below (T24.setTop (mkF m 100 #[.val (.int p0_), .val (.int p1_), .val (.int p2_), .val (.int p3_), .val (.int p4_), .val (.int p5_), .val (.int (0 : Int32)), .val (.int (32 : Int32)), .val (.ref b5), .val (.int (p5_ &&& (31 : Int32))), .val (.int (g16 (((0 : Int32) + (p5_ &&& (31 : Int32)))).toNatClampNeg)), .val (.ref nnb2_3_24)] [(.ref nnb2_3_24), (.int (p5_ &&& (31 : Int32))), (.ref nnb2_3_24)])) _
      refine XS.iload X24.here hx rfl (hb hby at_100) rfl ?_
      show Steps p.tables e below (T24.setTop (mkF m 102 #[.val (.int p0_), .val (.int p1_), .val (.int p2_), .val (.int p3_), .val (.int p4_), .val (.int p5_), .val (.int (0 : Int32)), .val (.int (32 : Int32)), .val (.ref b5), .val (.int (p5_ &&& (31 : Int32))), .val (.int (g16 (((0 : Int32) + (p5_ &&& (31 : Int32)))).toNatClampNeg)), .val (.ref nnb2_3_24)] [(.int (p5_ &&& (31 : Int32))), (.ref nnb2_3_24), (.int (p5_ &&& (31 : Int32))), (.ref nnb2_3_24)])) _
      refine X24.baloadBytes hx (j := (p5_ &&& (31 : Int32))) (v := (.int (g16 ((p5_ &&& (31 : Int32))).toNatClampNeg))) (by rw [e24]; exact r38.1) (State.isArrayOf_alike hZ.alike r38.2.1) r38.2.2 hin38 hat38 (g := (mkF m 102 #[.val (.int p0_), .val (.int p1_), .val (.int p2_), .val (.int p3_), .val (.int p4_), .val (.int p5_), .val (.int (0 : Int32)), .val (.int (32 : Int32)), .val (.ref b5), .val (.int (p5_ &&& (31 : Int32))), .val (.int (g16 (((0 : Int32) + (p5_ &&& (31 : Int32)))).toNatClampNeg)), .val (.ref nnb2_3_24)] [(.int (p5_ &&& (31 : Int32))), (.ref nnb2_3_24), (.int (p5_ &&& (31 : Int32))), (.ref nnb2_3_24)])) rfl rfl (hb hby at_102) _ ?_
      show Steps p.tables e below (T24.setTop (mkF m 103 #[.val (.int p0_), .val (.int p1_), .val (.int p2_), .val (.int p3_), .val (.int p4_), .val (.int p5_), .val (.int (0 : Int32)), .val (.int (32 : Int32)), .val (.ref b5), .val (.int (p5_ &&& (31 : Int32))), .val (.int (g16 (((0 : Int32) + (p5_ &&& (31 : Int32)))).toNatClampNeg)), .val (.ref nnb2_3_24)] [(.int (g16 ((p5_ &&& (31 : Int32))).toNatClampNeg)), (.int (p5_ &&& (31 : Int32))), (.ref nnb2_3_24)])) _
      refine XS.iconst X24.here hx rfl (hb hby at_103) ?_
      show Steps p.tables e below (T24.setTop (mkF m 104 #[.val (.int p0_), .val (.int p1_), .val (.int p2_), .val (.int p3_), .val (.int p4_), .val (.int p5_), .val (.int (0 : Int32)), .val (.int (32 : Int32)), .val (.ref b5), .val (.int (p5_ &&& (31 : Int32))), .val (.int (g16 (((0 : Int32) + (p5_ &&& (31 : Int32)))).toNatClampNeg)), .val (.ref nnb2_3_24)] [(.int (1 : Int32)), (.int (g16 ((p5_ &&& (31 : Int32))).toNatClampNeg)), (.int (p5_ &&& (31 : Int32))), (.ref nnb2_3_24)])) _
      refine XS.ixor X24.here hx rfl (hb hby at_104) rfl ?_
      show Steps p.tables e below (T24.setTop (mkF m 105 #[.val (.int p0_), .val (.int p1_), .val (.int p2_), .val (.int p3_), .val (.int p4_), .val (.int p5_), .val (.int (0 : Int32)), .val (.int (32 : Int32)), .val (.ref b5), .val (.int (p5_ &&& (31 : Int32))), .val (.int (g16 (((0 : Int32) + (p5_ &&& (31 : Int32)))).toNatClampNeg)), .val (.ref nnb2_3_24)] [(.int ((g16 ((p5_ &&& (31 : Int32))).toNatClampNeg) ^^^ (1 : Int32))), (.int (p5_ &&& (31 : Int32))), (.ref nnb2_3_24)])) _
      refine XS.i2b X24.here hx rfl (hb hby at_105) rfl ?_
      show Steps p.tables e below (T24.setTop (mkF m 106 #[.val (.int p0_), .val (.int p1_), .val (.int p2_), .val (.int p3_), .val (.int p4_), .val (.int p5_), .val (.int (0 : Int32)), .val (.int (32 : Int32)), .val (.ref b5), .val (.int (p5_ &&& (31 : Int32))), .val (.int (g16 (((0 : Int32) + (p5_ &&& (31 : Int32)))).toNatClampNeg)), .val (.ref nnb2_3_24)] [(.int (((g16 ((p5_ &&& (31 : Int32))).toNatClampNeg) ^^^ (1 : Int32)).toInt8.toInt32)), (.int (p5_ &&& (31 : Int32))), (.ref nnb2_3_24)])) _
      refine st39 _ ?_
      show Steps p.tables e below (T39.setTop (mkF m 107 #[.val (.int p0_), .val (.int p1_), .val (.int p2_), .val (.int p3_), .val (.int p4_), .val (.int p5_), .val (.int (0 : Int32)), .val (.int (32 : Int32)), .val (.ref b5), .val (.int (p5_ &&& (31 : Int32))), .val (.int (g16 (((0 : Int32) + (p5_ &&& (31 : Int32)))).toNatClampNeg)), .val (.ref nnb2_3_24)] [])) _
      refine XS.aload X39.here hx rfl (hb hby at_107) rfl rfl ?_
      show Steps p.tables e below (T39.setTop (mkF m 109 #[.val (.int p0_), .val (.int p1_), .val (.int p2_), .val (.int p3_), .val (.int p4_), .val (.int p5_), .val (.int (0 : Int32)), .val (.int (32 : Int32)), .val (.ref b5), .val (.int (p5_ &&& (31 : Int32))), .val (.int (g16 (((0 : Int32) + (p5_ &&& (31 : Int32)))).toNatClampNeg)), .val (.ref nnb2_3_24)] [(.ref b5)])) _
      refine XS.iload X39.here hx rfl (hb hby at_109) rfl ?_
      show Steps p.tables e below (T39.setTop (mkF m 111 #[.val (.int p0_), .val (.int p1_), .val (.int p2_), .val (.int p3_), .val (.int p4_), .val (.int p5_), .val (.int (0 : Int32)), .val (.int (32 : Int32)), .val (.ref b5), .val (.int (p5_ &&& (31 : Int32))), .val (.int (g16 (((0 : Int32) + (p5_ &&& (31 : Int32)))).toNatClampNeg)), .val (.ref nnb2_3_24)] [(.int (0 : Int32)), (.ref b5)])) _
      refine XS.iload X39.here hx rfl (hb hby at_111) rfl ?_
      show Steps p.tables e below (T39.setTop (mkF m 113 #[.val (.int p0_), .val (.int p1_), .val (.int p2_), .val (.int p3_), .val (.int p4_), .val (.int p5_), .val (.int (0 : Int32)), .val (.int (32 : Int32)), .val (.ref b5), .val (.int (p5_ &&& (31 : Int32))), .val (.int (g16 (((0 : Int32) + (p5_ &&& (31 : Int32)))).toNatClampNeg)), .val (.ref nnb2_3_24)] [(.int (p5_ &&& (31 : Int32))), (.int (0 : Int32)), (.ref b5)])) _
      refine XS.iadd X39.here hx rfl (hb hby at_113) rfl ?_
      show Steps p.tables e below (T39.setTop (mkF m 114 #[.val (.int p0_), .val (.int p1_), .val (.int p2_), .val (.int p3_), .val (.int p4_), .val (.int p5_), .val (.int (0 : Int32)), .val (.int (32 : Int32)), .val (.ref b5), .val (.int (p5_ &&& (31 : Int32))), .val (.int (g16 (((0 : Int32) + (p5_ &&& (31 : Int32)))).toNatClampNeg)), .val (.ref nnb2_3_24)] [(.int ((0 : Int32) + (p5_ &&& (31 : Int32)))), (.ref b5)])) _
      refine X39.baloadBytes hx (j := ((0 : Int32) + (p5_ &&& (31 : Int32)))) (v := (.int (g16 (((0 : Int32) + (p5_ &&& (31 : Int32)))).toNatClampNeg))) (by rw [e39]; exact r45.1) (State.isArrayOf_alike hZ.alike r45.2.1) r45.2.2 hin45 hat45 (g := (mkF m 114 #[.val (.int p0_), .val (.int p1_), .val (.int p2_), .val (.int p3_), .val (.int p4_), .val (.int p5_), .val (.int (0 : Int32)), .val (.int (32 : Int32)), .val (.ref b5), .val (.int (p5_ &&& (31 : Int32))), .val (.int (g16 (((0 : Int32) + (p5_ &&& (31 : Int32)))).toNatClampNeg)), .val (.ref nnb2_3_24)] [(.int ((0 : Int32) + (p5_ &&& (31 : Int32)))), (.ref b5)])) rfl rfl (hb hby at_114) _ ?_
      show Steps p.tables e below (T39.setTop (mkF m 115 #[.val (.int p0_), .val (.int p1_), .val (.int p2_), .val (.int p3_), .val (.int p4_), .val (.int p5_), .val (.int (0 : Int32)), .val (.int (32 : Int32)), .val (.ref b5), .val (.int (p5_ &&& (31 : Int32))), .val (.int (g16 (((0 : Int32) + (p5_ &&& (31 : Int32)))).toNatClampNeg)), .val (.ref nnb2_3_24)] [(.int (g16 (((0 : Int32) + (p5_ &&& (31 : Int32)))).toNatClampNeg))])) _
      refine XS.iload X39.here hx rfl (hb hby at_115) rfl ?_
      show Steps p.tables e below (T39.setTop (mkF m 117 #[.val (.int p0_), .val (.int p1_), .val (.int p2_), .val (.int p3_), .val (.int p4_), .val (.int p5_), .val (.int (0 : Int32)), .val (.int (32 : Int32)), .val (.ref b5), .val (.int (p5_ &&& (31 : Int32))), .val (.int (g16 (((0 : Int32) + (p5_ &&& (31 : Int32)))).toNatClampNeg)), .val (.ref nnb2_3_24)] [(.int (g16 (((0 : Int32) + (p5_ &&& (31 : Int32)))).toNatClampNeg)), (.int (g16 (((0 : Int32) + (p5_ &&& (31 : Int32)))).toNatClampNeg))])) _
      refine XS.icmpNo X39.here hx rfl (hb hby at_117) rfl (teq (rfl : (g16 (((0 : Int32) + (p5_ &&& (31 : Int32)))).toNatClampNeg) = (g16 (((0 : Int32) + (p5_ &&& (31 : Int32)))).toNatClampNeg))).2 ?_
      show Steps p.tables e below (T39.setTop (mkF m 120 #[.val (.int p0_), .val (.int p1_), .val (.int p2_), .val (.int p3_), .val (.int p4_), .val (.int p5_), .val (.int (0 : Int32)), .val (.int (32 : Int32)), .val (.ref b5), .val (.int (p5_ &&& (31 : Int32))), .val (.int (g16 (((0 : Int32) + (p5_ &&& (31 : Int32)))).toNatClampNeg)), .val (.ref nnb2_3_24)] [])) _
      refine XS.iconst X39.here hx rfl (hb hby at_120) ?_
      show Steps p.tables e below (T39.setTop (mkF m 121 #[.val (.int p0_), .val (.int p1_), .val (.int p2_), .val (.int p3_), .val (.int p4_), .val (.int p5_), .val (.int (0 : Int32)), .val (.int (32 : Int32)), .val (.ref b5), .val (.int (p5_ &&& (31 : Int32))), .val (.int (g16 (((0 : Int32) + (p5_ &&& (31 : Int32)))).toNatClampNeg)), .val (.ref nnb2_3_24)] [(.int (1 : Int32))])) _
      refine XS.goto X39.here hx rfl (pc0 := 121) (pc' := 125) rfl (hb hby at_121) (by decide) (by decide) ?_
      exact kt
    obtain ⟨fs, hr, hrun, hended, hW, hsame⟩ := X39.leave (v := some (.int (1 : Int32))) (fun h => by rw [Bd.returns] at h; cases h)
    refine ⟨_, _, pre46 _ (retN X39 hx (t := .boolean) Bd.returns (by simp) (hb hby at_125) hr), hrun, hended, _, _, rfl, ?_, ⟨_, rfl⟩, hW, hsame.mono (by decide) (by decide)⟩
    show QLaw Z p0_ p1_ p2_ p3_ p4_ p5_ h0 n0 _ T39.heap _
    rw [e39]
    exact ⟨rfl, N40⟩
  · have pre48 : ∀ t, Steps p.tables e below (s₁.setTop (mkF m 3 #[.val (.int p0_), .val (.int p1_), .val (.int p2_), .val (.int p3_), .val (.int p4_), .val (.int p5_), .unset, .unset, .unset, .unset, .unset, .unset] [(.int (1 : Int32))])) t → Steps p.tables e below (s₁.setTop (entryFrame m #[(.int p0_), (.int p1_), (.int p2_), (.int p3_), (.int p4_), (.int p5_)] maxLocals)) t := fun t kt => pre1 t (by rw [hv3]; exact kt)
    obtain ⟨T49, h49, k49, X49, e49, E49, A49, Z49, st49⟩ := newPE X0 hx hZ (hw _ (List.mem_of_getElem? (i := 0) rfl)) e0 (g := (mkF m 14 #[.val (.int p0_), .val (.int p1_), .val (.int p2_), .val (.int p3_), .val (.int p4_), .val (.int p5_), .val (.int (1 : Int32)), .val (.int (33 : Int32)), .unset, .unset, .unset, .unset] [(.int (33 : Int32))])) rfl (hb hby at_14) rfl (by decide) (cap := 33) (by decide) (by decide) (by decide) (by decide) (ad := "[B") (by decide)
    obtain ⟨b49, g49⟩ : ∃ z, z = h0.size := ⟨_, rfl⟩
    rw [← g49] at A49 Z49 st49
    have ge50 : n0 ≤ b49 := Nat.le_trans (Nat.le_trans (Nat.le_of_eq O0.1.symm) O0.2.1) (Nat.le_of_eq g49.symm)
    have sz51 : h0.size ≤ b49 := Nat.le_trans K0.1 (Nat.le_of_eq g49.symm)
    have f52 : Arv Z h49 b49 k49 .byte (33 : Int32) (own_l 33 (fun _ => (0 : Int32))) (.int (0 : Int32)) := (Arv.new A49 (by decide)).pad (own_l_pad 33)
    have hn53 : ¬ (((p1_ &&& (2147483647 : Int32)) % (33 : Int32)) < (0 : Int32)) := (own_modr33 _).1
    have hn54 : ((p1_ &&& (2147483647 : Int32)) % (33 : Int32)) < (33 : Int32) := (own_modr33 _).2
    obtain ⟨c55, r55, q55, s55, z55, y55, G55⟩ := id f52
    have hin55 : ¬ (((p1_ &&& (2147483647 : Int32)) % (33 : Int32)) < 0 ∨ c55.slots.size ≤ (((p1_ &&& (2147483647 : Int32)) % (33 : Int32))).toNatClampNeg) := inb_of s55 ⟨hn53, hn54⟩
    obtain ⟨T55, h55, X55, e55, W55, st55⟩ := stB X49 hx hZ e49 r55 (j := ((p1_ &&& (2147483647 : Int32)) % (33 : Int32))) hin55 (g := (mkF m 29 #[.val (.int p0_), .val (.int p1_), .val (.int p2_), .val (.int p3_), .val (.int p4_), .val (.int p5_), .val (.int (1 : Int32)), .val (.int (33 : Int32)), .val (.ref b49), .unset, .unset, .unset] [(.int (p2_.toInt8.toInt32)), (.int ((p1_ &&& (2147483647 : Int32)) % (33 : Int32))), (.ref b49)])) rfl rfl (hb hby at_29)
    have N56 := Fr.snoc X55 N0 ge50
    have lt55 : (((p1_ &&& (2147483647 : Int32)) % (33 : Int32))).toNatClampNeg < 33 := own_lt s55 hin55
    obtain ⟨g55, hg55_⟩ : ∃ g : Nat → Int32, g = (fun k => if k = (((p1_ &&& (2147483647 : Int32)) % (33 : Int32))).toNatClampNeg then ((p2_.toInt8.toInt32).toInt8.toInt32) else (fun _ => (0 : Int32)) k) := ⟨_, rfl⟩
    have f57 : Arv Z h55 b49 k49 .byte (33 : Int32) (own_l 33 g55) (.int (0 : Int32)) := by
      have q : Arv Z h55 b49 k49 .byte (33 : Int32) (List.set (own_l 33 (fun _ => (0 : Int32))) (((p1_ &&& (2147483647 : Int32)) % (33 : Int32))).toNatClampNeg (.int ((p2_.toInt8.toInt32).toInt8.toInt32))) (.int (0 : Int32)) := Arv.set r55 q55 s55 z55 y55 G55 (fits_nar_byte _) W55 (((p1_ &&& (2147483647 : Int32)) % (33 : Int32))).toNatClampNeg rfl (by rw [own_l_len]; exact lt55)
      rw [own_l_set, ← hg55_] at q
      exact q
    have hn58 : ¬ (((p3_ &&& (2147483647 : Int32)) % (33 : Int32)) < (0 : Int32)) := (own_modr33 _).1
    have hn59 : ((p3_ &&& (2147483647 : Int32)) % (33 : Int32)) < (33 : Int32) := (own_modr33 _).2
    obtain ⟨c60, r60, q60, s60, z60, y60, G60⟩ := id f57
    have hin60 : ¬ (((p3_ &&& (2147483647 : Int32)) % (33 : Int32)) < 0 ∨ c60.slots.size ≤ (((p3_ &&& (2147483647 : Int32)) % (33 : Int32))).toNatClampNeg) := inb_of s60 ⟨hn58, hn59⟩
    obtain ⟨T60, h60, X60, e60, W60, st60⟩ := stB X55 hx hZ e55 r60 (j := ((p3_ &&& (2147483647 : Int32)) % (33 : Int32))) hin60 (g := (mkF m 42 #[.val (.int p0_), .val (.int p1_), .val (.int p2_), .val (.int p3_), .val (.int p4_), .val (.int p5_), .val (.int (1 : Int32)), .val (.int (33 : Int32)), .val (.ref b49), .unset, .unset, .unset] [(.int (p4_.toInt8.toInt32)), (.int ((p3_ &&& (2147483647 : Int32)) % (33 : Int32))), (.ref b49)])) rfl rfl (hb hby at_42)
    have N61 := Fr.snoc X60 N56 ge50
    have lt60 : (((p3_ &&& (2147483647 : Int32)) % (33 : Int32))).toNatClampNeg < 33 := own_lt s60 hin60
    obtain ⟨g60, hg60_⟩ : ∃ g : Nat → Int32, g = (fun k => if k = (((p3_ &&& (2147483647 : Int32)) % (33 : Int32))).toNatClampNeg then ((p4_.toInt8.toInt32).toInt8.toInt32) else g55 k) := ⟨_, rfl⟩
    have f62 : Arv Z h60 b49 k49 .byte (33 : Int32) (own_l 33 g60) (.int (0 : Int32)) := by
      have q : Arv Z h60 b49 k49 .byte (33 : Int32) (List.set (own_l 33 g55) (((p3_ &&& (2147483647 : Int32)) % (33 : Int32))).toNatClampNeg (.int ((p4_.toInt8.toInt32).toInt8.toInt32))) (.int (0 : Int32)) := Arv.set r60 q60 s60 z60 y60 G60 (fits_nar_byte _) W60 (((p3_ &&& (2147483647 : Int32)) % (33 : Int32))).toNatClampNeg rfl (by rw [own_l_len]; exact lt60)
      rw [own_l_set, ← hg60_] at q
      exact q
    have hn63 : ¬ ((p5_ &&& (31 : Int32)) < (0 : Int32)) := (own_i _).1
    have hn64 : (p5_ &&& (31 : Int32)) < (32 : Int32) := (own_i _).2.1
    have hn65 : ¬ (((1 : Int32) + (p5_ &&& (31 : Int32))) < (0 : Int32)) := (own_e1 _).1
    have hn66 : ((1 : Int32) + (p5_ &&& (31 : Int32))) < (33 : Int32) := (own_e1 _).2.1
    obtain ⟨c67, r67, q67, s67, z67, y67, G67⟩ := id f62
    have hin67 : ¬ (((1 : Int32) + (p5_ &&& (31 : Int32))) < 0 ∨ c67.slots.size ≤ (((1 : Int32) + (p5_ &&& (31 : Int32)))).toNatClampNeg) := inb_of s67 ⟨hn65, hn66⟩
    have hat67 : c67.slots[(((1 : Int32) + (p5_ &&& (31 : Int32)))).toNatClampNeg]? = some (.int (g60 (((1 : Int32) + (p5_ &&& (31 : Int32)))).toNatClampNeg)) := Has.at y67 hin67 (own_l_get _ _ _ (show _ < 33 from own_lt s67 hin67))
    have f69 : Exa Z h55 b49 "[B" := Z49.wr W55
    have f70 : Exa Z h60 b49 "[B" := f69.wr W60
    have f71 : Old Z n0 h49 := O0.ext E49
    have f72 : Old Z n0 h55 := f71.wr W55 ge50
    have f73 : Old Z n0 h60 := f72.wr W60 ge50
    obtain ⟨_, _, ⟨T68, L68, k68, n68⟩, -, X68, ⟨Lc68, hQ68, l68, y68, z68⟩, st68⟩ := Jvm.LawKit.callS X60 hx (y := (⟨"com/example/aeacus/aeacus/log/Chain", "value", "([B)[B"⟩ : MethodName)) hown (mvT hZ (hw _ (List.mem_of_getElem? (i := 2) rfl))) (mvT hZ (hw _ (List.mem_of_getElem? (i := 3) rfl))) (mvT hZ (hw _ (List.mem_of_getElem? (i := 4) rfl))) (mvT hZ (hw _ (List.mem_of_getElem? (i := 5) rfl))) (by decide) (backOf (W := 0) (rmvalue3 l Z a0 hw [] b49 k49 g60 h60 n0 f73 f62 f70) hZ (hw _ (List.mem_of_getElem? (i := 5) rfl)) (hw _ (List.mem_of_getElem? (i := 4) rfl)) (by decide) (by decide)) (g := (mkF m 62 #[.val (.int p0_), .val (.int p1_), .val (.int p2_), .val (.int p3_), .val (.int p4_), .val (.int p5_), .val (.int (1 : Int32)), .val (.int (33 : Int32)), .val (.ref b49), .val (.int (p5_ &&& (31 : Int32))), .val (.int (g60 (((1 : Int32) + (p5_ &&& (31 : Int32)))).toNatClampNeg)), .unset] [(.ref b49)])) rfl (by rw [hml]; rfl) (argsL := [(.ref b49)]) (rest := []) (lenOf pd_1 rfl) rfl (by show 2 * 0 + _ ≤ _; exact Nat.le_of_eq rfl) (hb hby at_62) (fun _ _ => ⟨rfl, e60, (by decide : 1 + 1 ≤ _), (by decide : 33 + 32 ≤ _)⟩)
    dsimp only [Pt.U, Pt.locs, Pt.cells, Pt.slots] at X68 l68 y68 z68 st68 hQ68
    subst l68 y68 z68
    obtain ⟨h68, e68⟩ : ∃ z, T68.heap = z := ⟨_, rfl⟩
    rw [e68] at hQ68
    obtain ⟨k3_1_3_68, nnnb3_1_3_68, rfl, N68q, K68, sznnnb3_1_3_68, g68_0, g68_1⟩ := hQ68
    have N74 := Fr.app N61 N68q
    have ge75 : n0 ≤ nnnb3_1_3_68 := Nat.le_trans (Nat.le_trans (Nat.le_of_eq f73.1.symm) f73.2.1) sznnnb3_1_3_68
    have f76 : Keep h0 h49 [] := K0.ext E49
    have f77 : Keep h0 h55 [] := f76.wr W55 (Or.inr sz51)
    have f78 : Keep h0 h60 [] := f77.wr W60 (Or.inr sz51)
    have sz79 : h0.size ≤ nnnb3_1_3_68 := Nat.le_trans f78.1 sznnnb3_1_3_68
    obtain ⟨c80, r80, q80, s80, z80, y80, G80⟩ := id g68_0
    obtain ⟨c81, r81, q81, s81, z81, y81, G81⟩ := id g68_0
    have hin81 : ¬ ((p5_ &&& (31 : Int32)) < 0 ∨ c81.slots.size ≤ ((p5_ &&& (31 : Int32))).toNatClampNeg) := inb_of s81 ⟨hn63, hn64⟩
    have hat81 : c81.slots[((p5_ &&& (31 : Int32))).toNatClampNeg]? = some (.int ((fun k => g60 (1 + k)) ((p5_ &&& (31 : Int32))).toNatClampNeg)) := Has.at y81 hin81 (own_l_get _ _ _ (show _ < 32 from own_lt s81 hin81))
    obtain ⟨c82, r82, q82, s82, z82, y82, G82⟩ := id g68_0
    have hin82 : ¬ ((p5_ &&& (31 : Int32)) < 0 ∨ c82.slots.size ≤ ((p5_ &&& (31 : Int32))).toNatClampNeg) := inb_of s82 ⟨hn63, hn64⟩
    have hat82 : c82.slots[((p5_ &&& (31 : Int32))).toNatClampNeg]? = some (.int ((fun k => g60 (1 + k)) ((p5_ &&& (31 : Int32))).toNatClampNeg)) := Has.at y82 hin82 (own_l_get _ _ _ (show _ < 32 from own_lt s82 hin82))
    obtain ⟨c83, r83, q83, s83, z83, y83, G83⟩ := id g68_0
    have hin83 : ¬ ((p5_ &&& (31 : Int32)) < 0 ∨ c83.slots.size ≤ ((p5_ &&& (31 : Int32))).toNatClampNeg) := inb_of s83 ⟨hn63, hn64⟩
    obtain ⟨T83, h83, X83, e83, W83, st83⟩ := stB X68 hx hZ e68 r83 (j := (p5_ &&& (31 : Int32))) hin83 (g := (mkF m 106 #[.val (.int p0_), .val (.int p1_), .val (.int p2_), .val (.int p3_), .val (.int p4_), .val (.int p5_), .val (.int (1 : Int32)), .val (.int (33 : Int32)), .val (.ref b49), .val (.int (p5_ &&& (31 : Int32))), .val (.int (g60 (((1 : Int32) + (p5_ &&& (31 : Int32)))).toNatClampNeg)), .val (.ref nnnb3_1_3_68)] [(.int ((((fun k => g60 (1 + k)) ((p5_ &&& (31 : Int32))).toNatClampNeg) ^^^ (1 : Int32)).toInt8.toInt32)), (.int (p5_ &&& (31 : Int32))), (.ref nnnb3_1_3_68)])) rfl rfl (hb hby at_106)
    have N84 := Fr.snoc X83 N74 ge75
    have lt83 : ((p5_ &&& (31 : Int32))).toNatClampNeg < 32 := own_lt s83 hin83
    obtain ⟨g83, hg83_⟩ : ∃ g : Nat → Int32, g = (fun k => if k = ((p5_ &&& (31 : Int32))).toNatClampNeg then (((((fun k => g60 (1 + k)) ((p5_ &&& (31 : Int32))).toNatClampNeg) ^^^ (1 : Int32)).toInt8.toInt32).toInt8.toInt32) else (fun k => g60 (1 + k)) k) := ⟨_, rfl⟩
    have f85 : Arv Z h83 nnnb3_1_3_68 k3_1_3_68 .byte (32 : Int32) (own_l 32 g83) (.int (0 : Int32)) := by
      have q : Arv Z h83 nnnb3_1_3_68 k3_1_3_68 .byte (32 : Int32) (List.set (own_l 32 (fun k => g60 (1 + k))) ((p5_ &&& (31 : Int32))).toNatClampNeg (.int (((((fun k => g60 (1 + k)) ((p5_ &&& (31 : Int32))).toNatClampNeg) ^^^ (1 : Int32)).toInt8.toInt32).toInt8.toInt32))) (.int (0 : Int32)) := Arv.set r83 q83 s83 z83 y83 G83 (fits_nar_byte _) W83 ((p5_ &&& (31 : Int32))).toNatClampNeg rfl (by rw [own_l_len]; exact lt83)
      rw [own_l_set, ← hg83_] at q
      exact q
    have f86 : Arv Z h68 b49 k49 .byte (33 : Int32) (own_l 33 g60) (.int (0 : Int32)) := f62.keep K68 nin0
    have ne88 : b49 ≠ nnnb3_1_3_68 := Nat.ne_of_lt (Nat.lt_of_lt_of_le f62.lt sznnnb3_1_3_68)
    have f87 : Arv Z h83 b49 k49 .byte (33 : Int32) (own_l 33 g60) (.int (0 : Int32)) := f86.other W83 ne88
    obtain ⟨c89, r89, q89, s89, z89, y89, G89⟩ := id f87
    have hin89 : ¬ (((1 : Int32) + (p5_ &&& (31 : Int32))) < 0 ∨ c89.slots.size ≤ (((1 : Int32) + (p5_ &&& (31 : Int32)))).toNatClampNeg) := inb_of s89 ⟨hn65, hn66⟩
    have hat89 : c89.slots[(((1 : Int32) + (p5_ &&& (31 : Int32)))).toNatClampNeg]? = some (.int (g60 (((1 : Int32) + (p5_ &&& (31 : Int32)))).toNatClampNeg)) := Has.at y89 hin89 (own_l_get _ _ _ (show _ < 33 from own_lt s89 hin89))
    have pre90 : ∀ t, Steps p.tables e below (T83.setTop (mkF m 125 #[.val (.int p0_), .val (.int p1_), .val (.int p2_), .val (.int p3_), .val (.int p4_), .val (.int p5_), .val (.int (1 : Int32)), .val (.int (33 : Int32)), .val (.ref b49), .val (.int (p5_ &&& (31 : Int32))), .val (.int (g60 (((1 : Int32) + (p5_ &&& (31 : Int32)))).toNatClampNeg)), .val (.ref nnnb3_1_3_68)] [(.int (1 : Int32))])) t → Steps p.tables e below (s₁.setTop (entryFrame m #[(.int p0_), (.int p1_), (.int p2_), (.int p3_), (.int p4_), (.int p5_)] maxLocals)) t := by
      intro t kt
      refine pre48 t ?_
      show Steps p.tables e below (s₁.setTop (mkF m 3 #[.val (.int p0_), .val (.int p1_), .val (.int p2_), .val (.int p3_), .val (.int p4_), .val (.int p5_), .unset, .unset, .unset, .unset, .unset, .unset] [(.int (1 : Int32))])) _
      refine XS.istore X0.here hx rfl (hb hby at_3) rfl (l' := #[.val (.int p0_), .val (.int p1_), .val (.int p2_), .val (.int p3_), .val (.int p4_), .val (.int p5_), .val (.int (1 : Int32)), .unset, .unset, .unset, .unset, .unset]) rfl ?_
      show Steps p.tables e below (s₁.setTop (mkF m 5 #[.val (.int p0_), .val (.int p1_), .val (.int p2_), .val (.int p3_), .val (.int p4_), .val (.int p5_), .val (.int (1 : Int32)), .unset, .unset, .unset, .unset, .unset] [])) _
      refine XS.bipush X0.here hx rfl (hb hby at_5) ?_
      show Steps p.tables e below (s₁.setTop (mkF m 7 #[.val (.int p0_), .val (.int p1_), .val (.int p2_), .val (.int p3_), .val (.int p4_), .val (.int p5_), .val (.int (1 : Int32)), .unset, .unset, .unset, .unset, .unset] [(.int (32 : Int32))])) _
      refine XS.iload X0.here hx rfl (hb hby at_7) rfl ?_
      show Steps p.tables e below (s₁.setTop (mkF m 9 #[.val (.int p0_), .val (.int p1_), .val (.int p2_), .val (.int p3_), .val (.int p4_), .val (.int p5_), .val (.int (1 : Int32)), .unset, .unset, .unset, .unset, .unset] [(.int (1 : Int32)), (.int (32 : Int32))])) _
      refine XS.iadd X0.here hx rfl (hb hby at_9) rfl ?_
      show Steps p.tables e below (s₁.setTop (mkF m 10 #[.val (.int p0_), .val (.int p1_), .val (.int p2_), .val (.int p3_), .val (.int p4_), .val (.int p5_), .val (.int (1 : Int32)), .unset, .unset, .unset, .unset, .unset] [(.int (33 : Int32))])) _
      refine XS.istore X0.here hx rfl (hb hby at_10) rfl (l' := #[.val (.int p0_), .val (.int p1_), .val (.int p2_), .val (.int p3_), .val (.int p4_), .val (.int p5_), .val (.int (1 : Int32)), .val (.int (33 : Int32)), .unset, .unset, .unset, .unset]) rfl ?_
      show Steps p.tables e below (s₁.setTop (mkF m 12 #[.val (.int p0_), .val (.int p1_), .val (.int p2_), .val (.int p3_), .val (.int p4_), .val (.int p5_), .val (.int (1 : Int32)), .val (.int (33 : Int32)), .unset, .unset, .unset, .unset] [])) _
      refine XS.iload X0.here hx rfl (hb hby at_12) rfl ?_
      show Steps p.tables e below (s₁.setTop (mkF m 14 #[.val (.int p0_), .val (.int p1_), .val (.int p2_), .val (.int p3_), .val (.int p4_), .val (.int p5_), .val (.int (1 : Int32)), .val (.int (33 : Int32)), .unset, .unset, .unset, .unset] [(.int (33 : Int32))])) _
      refine st49 _ ?_
      show Steps p.tables e below (T49.setTop (mkF m 16 #[.val (.int p0_), .val (.int p1_), .val (.int p2_), .val (.int p3_), .val (.int p4_), .val (.int p5_), .val (.int (1 : Int32)), .val (.int (33 : Int32)), .unset, .unset, .unset, .unset] [(.ref b49)])) _
      refine XS.astore X49.here hx rfl (hb hby at_16) rfl rfl (l' := #[.val (.int p0_), .val (.int p1_), .val (.int p2_), .val (.int p3_), .val (.int p4_), .val (.int p5_), .val (.int (1 : Int32)), .val (.int (33 : Int32)), .val (.ref b49), .unset, .unset, .unset]) rfl ?_
      show Steps p.tables e below (T49.setTop (mkF m 18 #[.val (.int p0_), .val (.int p1_), .val (.int p2_), .val (.int p3_), .val (.int p4_), .val (.int p5_), .val (.int (1 : Int32)), .val (.int (33 : Int32)), .val (.ref b49), .unset, .unset, .unset] [])) _
      refine XS.aload X49.here hx rfl (hb hby at_18) rfl rfl ?_
      show Steps p.tables e below (T49.setTop (mkF m 20 #[.val (.int p0_), .val (.int p1_), .val (.int p2_), .val (.int p3_), .val (.int p4_), .val (.int p5_), .val (.int (1 : Int32)), .val (.int (33 : Int32)), .val (.ref b49), .unset, .unset, .unset] [(.ref b49)])) _
      refine XS.iloadN X49.here hx rfl (hb hby at_20) rfl ?_
      show Steps p.tables e below (T49.setTop (mkF m 21 #[.val (.int p0_), .val (.int p1_), .val (.int p2_), .val (.int p3_), .val (.int p4_), .val (.int p5_), .val (.int (1 : Int32)), .val (.int (33 : Int32)), .val (.ref b49), .unset, .unset, .unset] [(.int p1_), (.ref b49)])) _
      refine X49.ldcInt hx hown (mvT hZ (hw _ (List.mem_of_getElem? (i := 1) rfl))) (g := (mkF m 21 #[.val (.int p0_), .val (.int p1_), .val (.int p2_), .val (.int p3_), .val (.int p4_), .val (.int p5_), .val (.int (1 : Int32)), .val (.int (33 : Int32)), .val (.ref b49), .unset, .unset, .unset] [(.int p1_), (.ref b49)])) rfl (hb hby at_21) _ ?_
      show Steps p.tables e below (T49.setTop (mkF m 23 #[.val (.int p0_), .val (.int p1_), .val (.int p2_), .val (.int p3_), .val (.int p4_), .val (.int p5_), .val (.int (1 : Int32)), .val (.int (33 : Int32)), .val (.ref b49), .unset, .unset, .unset] [(.int (2147483647 : Int32)), (.int p1_), (.ref b49)])) _
      refine XS.iand X49.here hx rfl (hb hby at_23) rfl ?_
      show Steps p.tables e below (T49.setTop (mkF m 24 #[.val (.int p0_), .val (.int p1_), .val (.int p2_), .val (.int p3_), .val (.int p4_), .val (.int p5_), .val (.int (1 : Int32)), .val (.int (33 : Int32)), .val (.ref b49), .unset, .unset, .unset] [(.int (p1_ &&& (2147483647 : Int32))), (.ref b49)])) _
      refine XS.iload X49.here hx rfl (hb hby at_24) rfl ?_
      show Steps p.tables e below (T49.setTop (mkF m 26 #[.val (.int p0_), .val (.int p1_), .val (.int p2_), .val (.int p3_), .val (.int p4_), .val (.int p5_), .val (.int (1 : Int32)), .val (.int (33 : Int32)), .val (.ref b49), .unset, .unset, .unset] [(.int (33 : Int32)), (.int (p1_ &&& (2147483647 : Int32))), (.ref b49)])) _
      refine iremM (g := (mkF m 26 #[.val (.int p0_), .val (.int p1_), .val (.int p2_), .val (.int p3_), .val (.int p4_), .val (.int p5_), .val (.int (1 : Int32)), .val (.int (33 : Int32)), .val (.ref b49), .unset, .unset, .unset] [(.int (33 : Int32)), (.int (p1_ &&& (2147483647 : Int32))), (.ref b49)])) X49 hx rfl (hb hby at_26) rfl (by decide) ?_
      show Steps p.tables e below (T49.setTop (mkF m 27 #[.val (.int p0_), .val (.int p1_), .val (.int p2_), .val (.int p3_), .val (.int p4_), .val (.int p5_), .val (.int (1 : Int32)), .val (.int (33 : Int32)), .val (.ref b49), .unset, .unset, .unset] [(.int ((p1_ &&& (2147483647 : Int32)) % (33 : Int32))), (.ref b49)])) _
      refine XS.iloadN X49.here hx rfl (hb hby at_27) rfl ?_
      show Steps p.tables e below (T49.setTop (mkF m 28 #[.val (.int p0_), .val (.int p1_), .val (.int p2_), .val (.int p3_), .val (.int p4_), .val (.int p5_), .val (.int (1 : Int32)), .val (.int (33 : Int32)), .val (.ref b49), .unset, .unset, .unset] [(.int p2_), (.int ((p1_ &&& (2147483647 : Int32)) % (33 : Int32))), (.ref b49)])) _
      refine XS.i2b X49.here hx rfl (hb hby at_28) rfl ?_
      show Steps p.tables e below (T49.setTop (mkF m 29 #[.val (.int p0_), .val (.int p1_), .val (.int p2_), .val (.int p3_), .val (.int p4_), .val (.int p5_), .val (.int (1 : Int32)), .val (.int (33 : Int32)), .val (.ref b49), .unset, .unset, .unset] [(.int (p2_.toInt8.toInt32)), (.int ((p1_ &&& (2147483647 : Int32)) % (33 : Int32))), (.ref b49)])) _
      refine st55 _ ?_
      show Steps p.tables e below (T55.setTop (mkF m 30 #[.val (.int p0_), .val (.int p1_), .val (.int p2_), .val (.int p3_), .val (.int p4_), .val (.int p5_), .val (.int (1 : Int32)), .val (.int (33 : Int32)), .val (.ref b49), .unset, .unset, .unset] [])) _
      refine XS.aload X55.here hx rfl (hb hby at_30) rfl rfl ?_
      show Steps p.tables e below (T55.setTop (mkF m 32 #[.val (.int p0_), .val (.int p1_), .val (.int p2_), .val (.int p3_), .val (.int p4_), .val (.int p5_), .val (.int (1 : Int32)), .val (.int (33 : Int32)), .val (.ref b49), .unset, .unset, .unset] [(.ref b49)])) _
      refine XS.iloadN X55.here hx rfl (hb hby at_32) rfl ?_
      show Steps p.tables e below (T55.setTop (mkF m 33 #[.val (.int p0_), .val (.int p1_), .val (.int p2_), .val (.int p3_), .val (.int p4_), .val (.int p5_), .val (.int (1 : Int32)), .val (.int (33 : Int32)), .val (.ref b49), .unset, .unset, .unset] [(.int p3_), (.ref b49)])) _
      refine X55.ldcInt hx hown (mvT hZ (hw _ (List.mem_of_getElem? (i := 1) rfl))) (g := (mkF m 33 #[.val (.int p0_), .val (.int p1_), .val (.int p2_), .val (.int p3_), .val (.int p4_), .val (.int p5_), .val (.int (1 : Int32)), .val (.int (33 : Int32)), .val (.ref b49), .unset, .unset, .unset] [(.int p3_), (.ref b49)])) rfl (hb hby at_33) _ ?_
      show Steps p.tables e below (T55.setTop (mkF m 35 #[.val (.int p0_), .val (.int p1_), .val (.int p2_), .val (.int p3_), .val (.int p4_), .val (.int p5_), .val (.int (1 : Int32)), .val (.int (33 : Int32)), .val (.ref b49), .unset, .unset, .unset] [(.int (2147483647 : Int32)), (.int p3_), (.ref b49)])) _
      refine XS.iand X55.here hx rfl (hb hby at_35) rfl ?_
      show Steps p.tables e below (T55.setTop (mkF m 36 #[.val (.int p0_), .val (.int p1_), .val (.int p2_), .val (.int p3_), .val (.int p4_), .val (.int p5_), .val (.int (1 : Int32)), .val (.int (33 : Int32)), .val (.ref b49), .unset, .unset, .unset] [(.int (p3_ &&& (2147483647 : Int32))), (.ref b49)])) _
      refine XS.iload X55.here hx rfl (hb hby at_36) rfl ?_
      show Steps p.tables e below (T55.setTop (mkF m 38 #[.val (.int p0_), .val (.int p1_), .val (.int p2_), .val (.int p3_), .val (.int p4_), .val (.int p5_), .val (.int (1 : Int32)), .val (.int (33 : Int32)), .val (.ref b49), .unset, .unset, .unset] [(.int (33 : Int32)), (.int (p3_ &&& (2147483647 : Int32))), (.ref b49)])) _
      refine iremM (g := (mkF m 38 #[.val (.int p0_), .val (.int p1_), .val (.int p2_), .val (.int p3_), .val (.int p4_), .val (.int p5_), .val (.int (1 : Int32)), .val (.int (33 : Int32)), .val (.ref b49), .unset, .unset, .unset] [(.int (33 : Int32)), (.int (p3_ &&& (2147483647 : Int32))), (.ref b49)])) X55 hx rfl (hb hby at_38) rfl (by decide) ?_
      show Steps p.tables e below (T55.setTop (mkF m 39 #[.val (.int p0_), .val (.int p1_), .val (.int p2_), .val (.int p3_), .val (.int p4_), .val (.int p5_), .val (.int (1 : Int32)), .val (.int (33 : Int32)), .val (.ref b49), .unset, .unset, .unset] [(.int ((p3_ &&& (2147483647 : Int32)) % (33 : Int32))), (.ref b49)])) _
      refine XS.iload X55.here hx rfl (hb hby at_39) rfl ?_
      show Steps p.tables e below (T55.setTop (mkF m 41 #[.val (.int p0_), .val (.int p1_), .val (.int p2_), .val (.int p3_), .val (.int p4_), .val (.int p5_), .val (.int (1 : Int32)), .val (.int (33 : Int32)), .val (.ref b49), .unset, .unset, .unset] [(.int p4_), (.int ((p3_ &&& (2147483647 : Int32)) % (33 : Int32))), (.ref b49)])) _
      refine XS.i2b X55.here hx rfl (hb hby at_41) rfl ?_
      show Steps p.tables e below (T55.setTop (mkF m 42 #[.val (.int p0_), .val (.int p1_), .val (.int p2_), .val (.int p3_), .val (.int p4_), .val (.int p5_), .val (.int (1 : Int32)), .val (.int (33 : Int32)), .val (.ref b49), .unset, .unset, .unset] [(.int (p4_.toInt8.toInt32)), (.int ((p3_ &&& (2147483647 : Int32)) % (33 : Int32))), (.ref b49)])) _
      refine st60 _ ?_
      show Steps p.tables e below (T60.setTop (mkF m 43 #[.val (.int p0_), .val (.int p1_), .val (.int p2_), .val (.int p3_), .val (.int p4_), .val (.int p5_), .val (.int (1 : Int32)), .val (.int (33 : Int32)), .val (.ref b49), .unset, .unset, .unset] [])) _
      refine XS.iload X60.here hx rfl (hb hby at_43) rfl ?_
      show Steps p.tables e below (T60.setTop (mkF m 45 #[.val (.int p0_), .val (.int p1_), .val (.int p2_), .val (.int p3_), .val (.int p4_), .val (.int p5_), .val (.int (1 : Int32)), .val (.int (33 : Int32)), .val (.ref b49), .unset, .unset, .unset] [(.int p5_)])) _
      refine XS.bipush X60.here hx rfl (hb hby at_45) ?_
      show Steps p.tables e below (T60.setTop (mkF m 47 #[.val (.int p0_), .val (.int p1_), .val (.int p2_), .val (.int p3_), .val (.int p4_), .val (.int p5_), .val (.int (1 : Int32)), .val (.int (33 : Int32)), .val (.ref b49), .unset, .unset, .unset] [(.int (31 : Int32)), (.int p5_)])) _
      refine XS.iand X60.here hx rfl (hb hby at_47) rfl ?_
      show Steps p.tables e below (T60.setTop (mkF m 48 #[.val (.int p0_), .val (.int p1_), .val (.int p2_), .val (.int p3_), .val (.int p4_), .val (.int p5_), .val (.int (1 : Int32)), .val (.int (33 : Int32)), .val (.ref b49), .unset, .unset, .unset] [(.int (p5_ &&& (31 : Int32)))])) _
      refine XS.istore X60.here hx rfl (hb hby at_48) rfl (l' := #[.val (.int p0_), .val (.int p1_), .val (.int p2_), .val (.int p3_), .val (.int p4_), .val (.int p5_), .val (.int (1 : Int32)), .val (.int (33 : Int32)), .val (.ref b49), .val (.int (p5_ &&& (31 : Int32))), .unset, .unset]) rfl ?_
      show Steps p.tables e below (T60.setTop (mkF m 50 #[.val (.int p0_), .val (.int p1_), .val (.int p2_), .val (.int p3_), .val (.int p4_), .val (.int p5_), .val (.int (1 : Int32)), .val (.int (33 : Int32)), .val (.ref b49), .val (.int (p5_ &&& (31 : Int32))), .unset, .unset] [])) _
      refine XS.aload X60.here hx rfl (hb hby at_50) rfl rfl ?_
      show Steps p.tables e below (T60.setTop (mkF m 52 #[.val (.int p0_), .val (.int p1_), .val (.int p2_), .val (.int p3_), .val (.int p4_), .val (.int p5_), .val (.int (1 : Int32)), .val (.int (33 : Int32)), .val (.ref b49), .val (.int (p5_ &&& (31 : Int32))), .unset, .unset] [(.ref b49)])) _
      refine XS.iload X60.here hx rfl (hb hby at_52) rfl ?_
      show Steps p.tables e below (T60.setTop (mkF m 54 #[.val (.int p0_), .val (.int p1_), .val (.int p2_), .val (.int p3_), .val (.int p4_), .val (.int p5_), .val (.int (1 : Int32)), .val (.int (33 : Int32)), .val (.ref b49), .val (.int (p5_ &&& (31 : Int32))), .unset, .unset] [(.int (1 : Int32)), (.ref b49)])) _
      refine XS.iload X60.here hx rfl (hb hby at_54) rfl ?_
      show Steps p.tables e below (T60.setTop (mkF m 56 #[.val (.int p0_), .val (.int p1_), .val (.int p2_), .val (.int p3_), .val (.int p4_), .val (.int p5_), .val (.int (1 : Int32)), .val (.int (33 : Int32)), .val (.ref b49), .val (.int (p5_ &&& (31 : Int32))), .unset, .unset] [(.int (p5_ &&& (31 : Int32))), (.int (1 : Int32)), (.ref b49)])) _
      refine XS.iadd X60.here hx rfl (hb hby at_56) rfl ?_
      show Steps p.tables e below (T60.setTop (mkF m 57 #[.val (.int p0_), .val (.int p1_), .val (.int p2_), .val (.int p3_), .val (.int p4_), .val (.int p5_), .val (.int (1 : Int32)), .val (.int (33 : Int32)), .val (.ref b49), .val (.int (p5_ &&& (31 : Int32))), .unset, .unset] [(.int ((1 : Int32) + (p5_ &&& (31 : Int32)))), (.ref b49)])) _
      refine X60.baloadBytes hx (j := ((1 : Int32) + (p5_ &&& (31 : Int32)))) (v := (.int (g60 (((1 : Int32) + (p5_ &&& (31 : Int32)))).toNatClampNeg))) (by rw [e60]; exact r67.1) (State.isArrayOf_alike hZ.alike r67.2.1) r67.2.2 hin67 hat67 (g := (mkF m 57 #[.val (.int p0_), .val (.int p1_), .val (.int p2_), .val (.int p3_), .val (.int p4_), .val (.int p5_), .val (.int (1 : Int32)), .val (.int (33 : Int32)), .val (.ref b49), .val (.int (p5_ &&& (31 : Int32))), .unset, .unset] [(.int ((1 : Int32) + (p5_ &&& (31 : Int32)))), (.ref b49)])) rfl rfl (hb hby at_57) _ ?_
      show Steps p.tables e below (T60.setTop (mkF m 58 #[.val (.int p0_), .val (.int p1_), .val (.int p2_), .val (.int p3_), .val (.int p4_), .val (.int p5_), .val (.int (1 : Int32)), .val (.int (33 : Int32)), .val (.ref b49), .val (.int (p5_ &&& (31 : Int32))), .unset, .unset] [(.int (g60 (((1 : Int32) + (p5_ &&& (31 : Int32)))).toNatClampNeg))])) _
      refine XS.istore X60.here hx rfl (hb hby at_58) rfl (l' := #[.val (.int p0_), .val (.int p1_), .val (.int p2_), .val (.int p3_), .val (.int p4_), .val (.int p5_), .val (.int (1 : Int32)), .val (.int (33 : Int32)), .val (.ref b49), .val (.int (p5_ &&& (31 : Int32))), .val (.int (g60 (((1 : Int32) + (p5_ &&& (31 : Int32)))).toNatClampNeg)), .unset]) rfl ?_
      show Steps p.tables e below (T60.setTop (mkF m 60 #[.val (.int p0_), .val (.int p1_), .val (.int p2_), .val (.int p3_), .val (.int p4_), .val (.int p5_), .val (.int (1 : Int32)), .val (.int (33 : Int32)), .val (.ref b49), .val (.int (p5_ &&& (31 : Int32))), .val (.int (g60 (((1 : Int32) + (p5_ &&& (31 : Int32)))).toNatClampNeg)), .unset] [])) _
      refine XS.aload X60.here hx rfl (hb hby at_60) rfl rfl ?_
      show Steps p.tables e below (T60.setTop (mkF m 62 #[.val (.int p0_), .val (.int p1_), .val (.int p2_), .val (.int p3_), .val (.int p4_), .val (.int p5_), .val (.int (1 : Int32)), .val (.int (33 : Int32)), .val (.ref b49), .val (.int (p5_ &&& (31 : Int32))), .val (.int (g60 (((1 : Int32) + (p5_ &&& (31 : Int32)))).toNatClampNeg)), .unset] [(.ref b49)])) _
      refine st68 _ ?_
      show Steps p.tables e below (T68.setTop (mkF m 65 #[.val (.int p0_), .val (.int p1_), .val (.int p2_), .val (.int p3_), .val (.int p4_), .val (.int p5_), .val (.int (1 : Int32)), .val (.int (33 : Int32)), .val (.ref b49), .val (.int (p5_ &&& (31 : Int32))), .val (.int (g60 (((1 : Int32) + (p5_ &&& (31 : Int32)))).toNatClampNeg)), .unset] [(.ref nnnb3_1_3_68)])) _
      refine XS.astore X68.here hx rfl (hb hby at_65) rfl rfl (l' := #[.val (.int p0_), .val (.int p1_), .val (.int p2_), .val (.int p3_), .val (.int p4_), .val (.int p5_), .val (.int (1 : Int32)), .val (.int (33 : Int32)), .val (.ref b49), .val (.int (p5_ &&& (31 : Int32))), .val (.int (g60 (((1 : Int32) + (p5_ &&& (31 : Int32)))).toNatClampNeg)), .val (.ref nnnb3_1_3_68)]) rfl ?_
      show Steps p.tables e below (T68.setTop (mkF m 67 #[.val (.int p0_), .val (.int p1_), .val (.int p2_), .val (.int p3_), .val (.int p4_), .val (.int p5_), .val (.int (1 : Int32)), .val (.int (33 : Int32)), .val (.ref b49), .val (.int (p5_ &&& (31 : Int32))), .val (.int (g60 (((1 : Int32) + (p5_ &&& (31 : Int32)))).toNatClampNeg)), .val (.ref nnnb3_1_3_68)] [])) _
      refine XS.aload X68.here hx rfl (hb hby at_67) rfl rfl ?_
      show Steps p.tables e below (T68.setTop (mkF m 69 #[.val (.int p0_), .val (.int p1_), .val (.int p2_), .val (.int p3_), .val (.int p4_), .val (.int p5_), .val (.int (1 : Int32)), .val (.int (33 : Int32)), .val (.ref b49), .val (.int (p5_ &&& (31 : Int32))), .val (.int (g60 (((1 : Int32) + (p5_ &&& (31 : Int32)))).toNatClampNeg)), .val (.ref nnnb3_1_3_68)] [(.ref nnnb3_1_3_68)])) _
      refine XS.ifnullNo X68.here hx rfl (hb hby at_69) rfl ?_
      show Steps p.tables e below (T68.setTop (mkF m 72 #[.val (.int p0_), .val (.int p1_), .val (.int p2_), .val (.int p3_), .val (.int p4_), .val (.int p5_), .val (.int (1 : Int32)), .val (.int (33 : Int32)), .val (.ref b49), .val (.int (p5_ &&& (31 : Int32))), .val (.int (g60 (((1 : Int32) + (p5_ &&& (31 : Int32)))).toNatClampNeg)), .val (.ref nnnb3_1_3_68)] [])) _
      refine XS.aload X68.here hx rfl (hb hby at_72) rfl rfl ?_
      show Steps p.tables e below (T68.setTop (mkF m 74 #[.val (.int p0_), .val (.int p1_), .val (.int p2_), .val (.int p3_), .val (.int p4_), .val (.int p5_), .val (.int (1 : Int32)), .val (.int (33 : Int32)), .val (.ref b49), .val (.int (p5_ &&& (31 : Int32))), .val (.int (g60 (((1 : Int32) + (p5_ &&& (31 : Int32)))).toNatClampNeg)), .val (.ref nnnb3_1_3_68)] [(.ref nnnb3_1_3_68)])) _
      refine X68.arraylength hx (by rw [e68]; exact r80.1) (State.isArrayOf_alike hZ.alike r80.2.1) (g := (mkF m 74 #[.val (.int p0_), .val (.int p1_), .val (.int p2_), .val (.int p3_), .val (.int p4_), .val (.int p5_), .val (.int (1 : Int32)), .val (.int (33 : Int32)), .val (.ref b49), .val (.int (p5_ &&& (31 : Int32))), .val (.int (g60 (((1 : Int32) + (p5_ &&& (31 : Int32)))).toNatClampNeg)), .val (.ref nnnb3_1_3_68)] [(.ref nnnb3_1_3_68)])) rfl rfl (hb hby at_74) _ ?_
      rw [len_of s80 z80]
      show Steps p.tables e below (T68.setTop (mkF m 75 #[.val (.int p0_), .val (.int p1_), .val (.int p2_), .val (.int p3_), .val (.int p4_), .val (.int p5_), .val (.int (1 : Int32)), .val (.int (33 : Int32)), .val (.ref b49), .val (.int (p5_ &&& (31 : Int32))), .val (.int (g60 (((1 : Int32) + (p5_ &&& (31 : Int32)))).toNatClampNeg)), .val (.ref nnnb3_1_3_68)] [(.int (32 : Int32))])) _
      refine XS.bipush X68.here hx rfl (hb hby at_75) ?_
      show Steps p.tables e below (T68.setTop (mkF m 77 #[.val (.int p0_), .val (.int p1_), .val (.int p2_), .val (.int p3_), .val (.int p4_), .val (.int p5_), .val (.int (1 : Int32)), .val (.int (33 : Int32)), .val (.ref b49), .val (.int (p5_ &&& (31 : Int32))), .val (.int (g60 (((1 : Int32) + (p5_ &&& (31 : Int32)))).toNatClampNeg)), .val (.ref nnnb3_1_3_68)] [(.int (32 : Int32)), (.int (32 : Int32))])) _
      refine XS.icmpYes X68.here hx rfl (pc0 := 77) (pc' := 82) rfl (hb hby at_77) rfl (teq (by decide : (32 : Int32) = (32 : Int32))).1 (by decide) (by decide) ?_
      show Steps p.tables e below (T68.setTop (mkF m 82 #[.val (.int p0_), .val (.int p1_), .val (.int p2_), .val (.int p3_), .val (.int p4_), .val (.int p5_), .val (.int (1 : Int32)), .val (.int (33 : Int32)), .val (.ref b49), .val (.int (p5_ &&& (31 : Int32))), .val (.int (g60 (((1 : Int32) + (p5_ &&& (31 : Int32)))).toNatClampNeg)), .val (.ref nnnb3_1_3_68)] [])) _
      refine XS.aload X68.here hx rfl (hb hby at_82) rfl rfl ?_
      show Steps p.tables e below (T68.setTop (mkF m 84 #[.val (.int p0_), .val (.int p1_), .val (.int p2_), .val (.int p3_), .val (.int p4_), .val (.int p5_), .val (.int (1 : Int32)), .val (.int (33 : Int32)), .val (.ref b49), .val (.int (p5_ &&& (31 : Int32))), .val (.int (g60 (((1 : Int32) + (p5_ &&& (31 : Int32)))).toNatClampNeg)), .val (.ref nnnb3_1_3_68)] [(.ref nnnb3_1_3_68)])) _
      refine XS.iload X68.here hx rfl (hb hby at_84) rfl ?_
      show Steps p.tables e below (T68.setTop (mkF m 86 #[.val (.int p0_), .val (.int p1_), .val (.int p2_), .val (.int p3_), .val (.int p4_), .val (.int p5_), .val (.int (1 : Int32)), .val (.int (33 : Int32)), .val (.ref b49), .val (.int (p5_ &&& (31 : Int32))), .val (.int (g60 (((1 : Int32) + (p5_ &&& (31 : Int32)))).toNatClampNeg)), .val (.ref nnnb3_1_3_68)] [(.int (p5_ &&& (31 : Int32))), (.ref nnnb3_1_3_68)])) _
      refine X68.baloadBytes hx (j := (p5_ &&& (31 : Int32))) (v := (.int ((fun k => g60 (1 + k)) ((p5_ &&& (31 : Int32))).toNatClampNeg))) (by rw [e68]; exact r81.1) (State.isArrayOf_alike hZ.alike r81.2.1) r81.2.2 hin81 hat81 (g := (mkF m 86 #[.val (.int p0_), .val (.int p1_), .val (.int p2_), .val (.int p3_), .val (.int p4_), .val (.int p5_), .val (.int (1 : Int32)), .val (.int (33 : Int32)), .val (.ref b49), .val (.int (p5_ &&& (31 : Int32))), .val (.int (g60 (((1 : Int32) + (p5_ &&& (31 : Int32)))).toNatClampNeg)), .val (.ref nnnb3_1_3_68)] [(.int (p5_ &&& (31 : Int32))), (.ref nnnb3_1_3_68)])) rfl rfl (hb hby at_86) _ ?_
      show Steps p.tables e below (T68.setTop (mkF m 87 #[.val (.int p0_), .val (.int p1_), .val (.int p2_), .val (.int p3_), .val (.int p4_), .val (.int p5_), .val (.int (1 : Int32)), .val (.int (33 : Int32)), .val (.ref b49), .val (.int (p5_ &&& (31 : Int32))), .val (.int (g60 (((1 : Int32) + (p5_ &&& (31 : Int32)))).toNatClampNeg)), .val (.ref nnnb3_1_3_68)] [(.int ((fun k => g60 (1 + k)) ((p5_ &&& (31 : Int32))).toNatClampNeg))])) _
      refine XS.iload X68.here hx rfl (hb hby at_87) rfl ?_
      show Steps p.tables e below (T68.setTop (mkF m 89 #[.val (.int p0_), .val (.int p1_), .val (.int p2_), .val (.int p3_), .val (.int p4_), .val (.int p5_), .val (.int (1 : Int32)), .val (.int (33 : Int32)), .val (.ref b49), .val (.int (p5_ &&& (31 : Int32))), .val (.int (g60 (((1 : Int32) + (p5_ &&& (31 : Int32)))).toNatClampNeg)), .val (.ref nnnb3_1_3_68)] [(.int (g60 (((1 : Int32) + (p5_ &&& (31 : Int32)))).toNatClampNeg)), (.int ((fun k => g60 (1 + k)) ((p5_ &&& (31 : Int32))).toNatClampNeg))])) _
      refine XS.icmpYes X68.here hx rfl (pc0 := 89) (pc' := 94) rfl (hb hby at_89) rfl (teq (own_at g60 (own_e1 _).2.2)).1 (by decide) (by decide) ?_
      show Steps p.tables e below (T68.setTop (mkF m 94 #[.val (.int p0_), .val (.int p1_), .val (.int p2_), .val (.int p3_), .val (.int p4_), .val (.int p5_), .val (.int (1 : Int32)), .val (.int (33 : Int32)), .val (.ref b49), .val (.int (p5_ &&& (31 : Int32))), .val (.int (g60 (((1 : Int32) + (p5_ &&& (31 : Int32)))).toNatClampNeg)), .val (.ref nnnb3_1_3_68)] [])) _
      refine XS.aload X68.here hx rfl (hb hby at_94) rfl rfl ?_
      show Steps p.tables e below (T68.setTop (mkF m 96 #[.val (.int p0_), .val (.int p1_), .val (.int p2_), .val (.int p3_), .val (.int p4_), .val (.int p5_), .val (.int (1 : Int32)), .val (.int (33 : Int32)), .val (.ref b49), .val (.int (p5_ &&& (31 : Int32))), .val (.int (g60 (((1 : Int32) + (p5_ &&& (31 : Int32)))).toNatClampNeg)), .val (.ref nnnb3_1_3_68)] [(.ref nnnb3_1_3_68)])) _
      refine XS.iload X68.here hx rfl (hb hby at_96) rfl ?_
      show Steps p.tables e below (T68.setTop (mkF m 98 #[.val (.int p0_), .val (.int p1_), .val (.int p2_), .val (.int p3_), .val (.int p4_), .val (.int p5_), .val (.int (1 : Int32)), .val (.int (33 : Int32)), .val (.ref b49), .val (.int (p5_ &&& (31 : Int32))), .val (.int (g60 (((1 : Int32) + (p5_ &&& (31 : Int32)))).toNatClampNeg)), .val (.ref nnnb3_1_3_68)] [(.int (p5_ &&& (31 : Int32))), (.ref nnnb3_1_3_68)])) _
      refine XS.aload X68.here hx rfl (hb hby at_98) rfl rfl ?_
      show Steps p.tables e below (T68.setTop (mkF m 100 #[.val (.int p0_), .val (.int p1_), .val (.int p2_), .val (.int p3_), .val (.int p4_), .val (.int p5_), .val (.int (1 : Int32)), .val (.int (33 : Int32)), .val (.ref b49), .val (.int (p5_ &&& (31 : Int32))), .val (.int (g60 (((1 : Int32) + (p5_ &&& (31 : Int32)))).toNatClampNeg)), .val (.ref nnnb3_1_3_68)] [(.ref nnnb3_1_3_68), (.int (p5_ &&& (31 : Int32))), (.ref nnnb3_1_3_68)])) _
      refine XS.iload X68.here hx rfl (hb hby at_100) rfl ?_
      show Steps p.tables e below (T68.setTop (mkF m 102 #[.val (.int p0_), .val (.int p1_), .val (.int p2_), .val (.int p3_), .val (.int p4_), .val (.int p5_), .val (.int (1 : Int32)), .val (.int (33 : Int32)), .val (.ref b49), .val (.int (p5_ &&& (31 : Int32))), .val (.int (g60 (((1 : Int32) + (p5_ &&& (31 : Int32)))).toNatClampNeg)), .val (.ref nnnb3_1_3_68)] [(.int (p5_ &&& (31 : Int32))), (.ref nnnb3_1_3_68), (.int (p5_ &&& (31 : Int32))), (.ref nnnb3_1_3_68)])) _
      refine X68.baloadBytes hx (j := (p5_ &&& (31 : Int32))) (v := (.int ((fun k => g60 (1 + k)) ((p5_ &&& (31 : Int32))).toNatClampNeg))) (by rw [e68]; exact r82.1) (State.isArrayOf_alike hZ.alike r82.2.1) r82.2.2 hin82 hat82 (g := (mkF m 102 #[.val (.int p0_), .val (.int p1_), .val (.int p2_), .val (.int p3_), .val (.int p4_), .val (.int p5_), .val (.int (1 : Int32)), .val (.int (33 : Int32)), .val (.ref b49), .val (.int (p5_ &&& (31 : Int32))), .val (.int (g60 (((1 : Int32) + (p5_ &&& (31 : Int32)))).toNatClampNeg)), .val (.ref nnnb3_1_3_68)] [(.int (p5_ &&& (31 : Int32))), (.ref nnnb3_1_3_68), (.int (p5_ &&& (31 : Int32))), (.ref nnnb3_1_3_68)])) rfl rfl (hb hby at_102) _ ?_
      show Steps p.tables e below (T68.setTop (mkF m 103 #[.val (.int p0_), .val (.int p1_), .val (.int p2_), .val (.int p3_), .val (.int p4_), .val (.int p5_), .val (.int (1 : Int32)), .val (.int (33 : Int32)), .val (.ref b49), .val (.int (p5_ &&& (31 : Int32))), .val (.int (g60 (((1 : Int32) + (p5_ &&& (31 : Int32)))).toNatClampNeg)), .val (.ref nnnb3_1_3_68)] [(.int ((fun k => g60 (1 + k)) ((p5_ &&& (31 : Int32))).toNatClampNeg)), (.int (p5_ &&& (31 : Int32))), (.ref nnnb3_1_3_68)])) _
      refine XS.iconst X68.here hx rfl (hb hby at_103) ?_
      show Steps p.tables e below (T68.setTop (mkF m 104 #[.val (.int p0_), .val (.int p1_), .val (.int p2_), .val (.int p3_), .val (.int p4_), .val (.int p5_), .val (.int (1 : Int32)), .val (.int (33 : Int32)), .val (.ref b49), .val (.int (p5_ &&& (31 : Int32))), .val (.int (g60 (((1 : Int32) + (p5_ &&& (31 : Int32)))).toNatClampNeg)), .val (.ref nnnb3_1_3_68)] [(.int (1 : Int32)), (.int ((fun k => g60 (1 + k)) ((p5_ &&& (31 : Int32))).toNatClampNeg)), (.int (p5_ &&& (31 : Int32))), (.ref nnnb3_1_3_68)])) _
      refine XS.ixor X68.here hx rfl (hb hby at_104) rfl ?_
      show Steps p.tables e below (T68.setTop (mkF m 105 #[.val (.int p0_), .val (.int p1_), .val (.int p2_), .val (.int p3_), .val (.int p4_), .val (.int p5_), .val (.int (1 : Int32)), .val (.int (33 : Int32)), .val (.ref b49), .val (.int (p5_ &&& (31 : Int32))), .val (.int (g60 (((1 : Int32) + (p5_ &&& (31 : Int32)))).toNatClampNeg)), .val (.ref nnnb3_1_3_68)] [(.int (((fun k => g60 (1 + k)) ((p5_ &&& (31 : Int32))).toNatClampNeg) ^^^ (1 : Int32))), (.int (p5_ &&& (31 : Int32))), (.ref nnnb3_1_3_68)])) _
      refine XS.i2b X68.here hx rfl (hb hby at_105) rfl ?_
      show Steps p.tables e below (T68.setTop (mkF m 106 #[.val (.int p0_), .val (.int p1_), .val (.int p2_), .val (.int p3_), .val (.int p4_), .val (.int p5_), .val (.int (1 : Int32)), .val (.int (33 : Int32)), .val (.ref b49), .val (.int (p5_ &&& (31 : Int32))), .val (.int (g60 (((1 : Int32) + (p5_ &&& (31 : Int32)))).toNatClampNeg)), .val (.ref nnnb3_1_3_68)] [(.int ((((fun k => g60 (1 + k)) ((p5_ &&& (31 : Int32))).toNatClampNeg) ^^^ (1 : Int32)).toInt8.toInt32)), (.int (p5_ &&& (31 : Int32))), (.ref nnnb3_1_3_68)])) _
      refine st83 _ ?_
      show Steps p.tables e below (T83.setTop (mkF m 107 #[.val (.int p0_), .val (.int p1_), .val (.int p2_), .val (.int p3_), .val (.int p4_), .val (.int p5_), .val (.int (1 : Int32)), .val (.int (33 : Int32)), .val (.ref b49), .val (.int (p5_ &&& (31 : Int32))), .val (.int (g60 (((1 : Int32) + (p5_ &&& (31 : Int32)))).toNatClampNeg)), .val (.ref nnnb3_1_3_68)] [])) _
      refine XS.aload X83.here hx rfl (hb hby at_107) rfl rfl ?_
      show Steps p.tables e below (T83.setTop (mkF m 109 #[.val (.int p0_), .val (.int p1_), .val (.int p2_), .val (.int p3_), .val (.int p4_), .val (.int p5_), .val (.int (1 : Int32)), .val (.int (33 : Int32)), .val (.ref b49), .val (.int (p5_ &&& (31 : Int32))), .val (.int (g60 (((1 : Int32) + (p5_ &&& (31 : Int32)))).toNatClampNeg)), .val (.ref nnnb3_1_3_68)] [(.ref b49)])) _
      refine XS.iload X83.here hx rfl (hb hby at_109) rfl ?_
      show Steps p.tables e below (T83.setTop (mkF m 111 #[.val (.int p0_), .val (.int p1_), .val (.int p2_), .val (.int p3_), .val (.int p4_), .val (.int p5_), .val (.int (1 : Int32)), .val (.int (33 : Int32)), .val (.ref b49), .val (.int (p5_ &&& (31 : Int32))), .val (.int (g60 (((1 : Int32) + (p5_ &&& (31 : Int32)))).toNatClampNeg)), .val (.ref nnnb3_1_3_68)] [(.int (1 : Int32)), (.ref b49)])) _
      refine XS.iload X83.here hx rfl (hb hby at_111) rfl ?_
      show Steps p.tables e below (T83.setTop (mkF m 113 #[.val (.int p0_), .val (.int p1_), .val (.int p2_), .val (.int p3_), .val (.int p4_), .val (.int p5_), .val (.int (1 : Int32)), .val (.int (33 : Int32)), .val (.ref b49), .val (.int (p5_ &&& (31 : Int32))), .val (.int (g60 (((1 : Int32) + (p5_ &&& (31 : Int32)))).toNatClampNeg)), .val (.ref nnnb3_1_3_68)] [(.int (p5_ &&& (31 : Int32))), (.int (1 : Int32)), (.ref b49)])) _
      refine XS.iadd X83.here hx rfl (hb hby at_113) rfl ?_
      show Steps p.tables e below (T83.setTop (mkF m 114 #[.val (.int p0_), .val (.int p1_), .val (.int p2_), .val (.int p3_), .val (.int p4_), .val (.int p5_), .val (.int (1 : Int32)), .val (.int (33 : Int32)), .val (.ref b49), .val (.int (p5_ &&& (31 : Int32))), .val (.int (g60 (((1 : Int32) + (p5_ &&& (31 : Int32)))).toNatClampNeg)), .val (.ref nnnb3_1_3_68)] [(.int ((1 : Int32) + (p5_ &&& (31 : Int32)))), (.ref b49)])) _
      refine X83.baloadBytes hx (j := ((1 : Int32) + (p5_ &&& (31 : Int32)))) (v := (.int (g60 (((1 : Int32) + (p5_ &&& (31 : Int32)))).toNatClampNeg))) (by rw [e83]; exact r89.1) (State.isArrayOf_alike hZ.alike r89.2.1) r89.2.2 hin89 hat89 (g := (mkF m 114 #[.val (.int p0_), .val (.int p1_), .val (.int p2_), .val (.int p3_), .val (.int p4_), .val (.int p5_), .val (.int (1 : Int32)), .val (.int (33 : Int32)), .val (.ref b49), .val (.int (p5_ &&& (31 : Int32))), .val (.int (g60 (((1 : Int32) + (p5_ &&& (31 : Int32)))).toNatClampNeg)), .val (.ref nnnb3_1_3_68)] [(.int ((1 : Int32) + (p5_ &&& (31 : Int32)))), (.ref b49)])) rfl rfl (hb hby at_114) _ ?_
      show Steps p.tables e below (T83.setTop (mkF m 115 #[.val (.int p0_), .val (.int p1_), .val (.int p2_), .val (.int p3_), .val (.int p4_), .val (.int p5_), .val (.int (1 : Int32)), .val (.int (33 : Int32)), .val (.ref b49), .val (.int (p5_ &&& (31 : Int32))), .val (.int (g60 (((1 : Int32) + (p5_ &&& (31 : Int32)))).toNatClampNeg)), .val (.ref nnnb3_1_3_68)] [(.int (g60 (((1 : Int32) + (p5_ &&& (31 : Int32)))).toNatClampNeg))])) _
      refine XS.iload X83.here hx rfl (hb hby at_115) rfl ?_
      show Steps p.tables e below (T83.setTop (mkF m 117 #[.val (.int p0_), .val (.int p1_), .val (.int p2_), .val (.int p3_), .val (.int p4_), .val (.int p5_), .val (.int (1 : Int32)), .val (.int (33 : Int32)), .val (.ref b49), .val (.int (p5_ &&& (31 : Int32))), .val (.int (g60 (((1 : Int32) + (p5_ &&& (31 : Int32)))).toNatClampNeg)), .val (.ref nnnb3_1_3_68)] [(.int (g60 (((1 : Int32) + (p5_ &&& (31 : Int32)))).toNatClampNeg)), (.int (g60 (((1 : Int32) + (p5_ &&& (31 : Int32)))).toNatClampNeg))])) _
      refine XS.icmpNo X83.here hx rfl (hb hby at_117) rfl (teq (rfl : (g60 (((1 : Int32) + (p5_ &&& (31 : Int32)))).toNatClampNeg) = (g60 (((1 : Int32) + (p5_ &&& (31 : Int32)))).toNatClampNeg))).2 ?_
      show Steps p.tables e below (T83.setTop (mkF m 120 #[.val (.int p0_), .val (.int p1_), .val (.int p2_), .val (.int p3_), .val (.int p4_), .val (.int p5_), .val (.int (1 : Int32)), .val (.int (33 : Int32)), .val (.ref b49), .val (.int (p5_ &&& (31 : Int32))), .val (.int (g60 (((1 : Int32) + (p5_ &&& (31 : Int32)))).toNatClampNeg)), .val (.ref nnnb3_1_3_68)] [])) _
      refine XS.iconst X83.here hx rfl (hb hby at_120) ?_
      show Steps p.tables e below (T83.setTop (mkF m 121 #[.val (.int p0_), .val (.int p1_), .val (.int p2_), .val (.int p3_), .val (.int p4_), .val (.int p5_), .val (.int (1 : Int32)), .val (.int (33 : Int32)), .val (.ref b49), .val (.int (p5_ &&& (31 : Int32))), .val (.int (g60 (((1 : Int32) + (p5_ &&& (31 : Int32)))).toNatClampNeg)), .val (.ref nnnb3_1_3_68)] [(.int (1 : Int32))])) _
      refine XS.goto X83.here hx rfl (pc0 := 121) (pc' := 125) rfl (hb hby at_121) (by decide) (by decide) ?_
      exact kt
    obtain ⟨fs, hr, hrun, hended, hW, hsame⟩ := X83.leave (v := some (.int (1 : Int32))) (fun h => by rw [Bd.returns] at h; cases h)
    refine ⟨_, _, pre90 _ (retN X83 hx (t := .boolean) Bd.returns (by simp) (hb hby at_125) hr), hrun, hended, _, _, rfl, ?_, ⟨_, rfl⟩, hW, hsame.mono (by decide) (by decide)⟩
    show QLaw Z p0_ p1_ p2_ p3_ p4_ p5_ h0 n0 _ T83.heap _
    rw [e83]
    exact ⟨rfl, N84⟩
  · have pre92 : ∀ t, Steps p.tables e below (s₁.setTop (mkF m 3 #[.val (.int p0_), .val (.int p1_), .val (.int p2_), .val (.int p3_), .val (.int p4_), .val (.int p5_), .unset, .unset, .unset, .unset, .unset, .unset] [(.int (2 : Int32))])) t → Steps p.tables e below (s₁.setTop (entryFrame m #[(.int p0_), (.int p1_), (.int p2_), (.int p3_), (.int p4_), (.int p5_)] maxLocals)) t := fun t kt => pre1 t (by rw [hv3]; exact kt)
    obtain ⟨T93, h93, k93, X93, e93, E93, A93, Z93, st93⟩ := newPE X0 hx hZ (hw _ (List.mem_of_getElem? (i := 0) rfl)) e0 (g := (mkF m 14 #[.val (.int p0_), .val (.int p1_), .val (.int p2_), .val (.int p3_), .val (.int p4_), .val (.int p5_), .val (.int (2 : Int32)), .val (.int (34 : Int32)), .unset, .unset, .unset, .unset] [(.int (34 : Int32))])) rfl (hb hby at_14) rfl (by decide) (cap := 34) (by decide) (by decide) (by decide) (by decide) (ad := "[B") (by decide)
    obtain ⟨b93, g93⟩ : ∃ z, z = h0.size := ⟨_, rfl⟩
    rw [← g93] at A93 Z93 st93
    have ge94 : n0 ≤ b93 := Nat.le_trans (Nat.le_trans (Nat.le_of_eq O0.1.symm) O0.2.1) (Nat.le_of_eq g93.symm)
    have sz95 : h0.size ≤ b93 := Nat.le_trans K0.1 (Nat.le_of_eq g93.symm)
    have f96 : Arv Z h93 b93 k93 .byte (34 : Int32) (own_l 34 (fun _ => (0 : Int32))) (.int (0 : Int32)) := (Arv.new A93 (by decide)).pad (own_l_pad 34)
    have hn97 : ¬ (((p1_ &&& (2147483647 : Int32)) % (34 : Int32)) < (0 : Int32)) := (own_modr34 _).1
    have hn98 : ((p1_ &&& (2147483647 : Int32)) % (34 : Int32)) < (34 : Int32) := (own_modr34 _).2
    obtain ⟨c99, r99, q99, s99, z99, y99, G99⟩ := id f96
    have hin99 : ¬ (((p1_ &&& (2147483647 : Int32)) % (34 : Int32)) < 0 ∨ c99.slots.size ≤ (((p1_ &&& (2147483647 : Int32)) % (34 : Int32))).toNatClampNeg) := inb_of s99 ⟨hn97, hn98⟩
    obtain ⟨T99, h99, X99, e99, W99, st99⟩ := stB X93 hx hZ e93 r99 (j := ((p1_ &&& (2147483647 : Int32)) % (34 : Int32))) hin99 (g := (mkF m 29 #[.val (.int p0_), .val (.int p1_), .val (.int p2_), .val (.int p3_), .val (.int p4_), .val (.int p5_), .val (.int (2 : Int32)), .val (.int (34 : Int32)), .val (.ref b93), .unset, .unset, .unset] [(.int (p2_.toInt8.toInt32)), (.int ((p1_ &&& (2147483647 : Int32)) % (34 : Int32))), (.ref b93)])) rfl rfl (hb hby at_29)
    have N100 := Fr.snoc X99 N0 ge94
    have lt99 : (((p1_ &&& (2147483647 : Int32)) % (34 : Int32))).toNatClampNeg < 34 := own_lt s99 hin99
    obtain ⟨g99, hg99_⟩ : ∃ g : Nat → Int32, g = (fun k => if k = (((p1_ &&& (2147483647 : Int32)) % (34 : Int32))).toNatClampNeg then ((p2_.toInt8.toInt32).toInt8.toInt32) else (fun _ => (0 : Int32)) k) := ⟨_, rfl⟩
    have f101 : Arv Z h99 b93 k93 .byte (34 : Int32) (own_l 34 g99) (.int (0 : Int32)) := by
      have q : Arv Z h99 b93 k93 .byte (34 : Int32) (List.set (own_l 34 (fun _ => (0 : Int32))) (((p1_ &&& (2147483647 : Int32)) % (34 : Int32))).toNatClampNeg (.int ((p2_.toInt8.toInt32).toInt8.toInt32))) (.int (0 : Int32)) := Arv.set r99 q99 s99 z99 y99 G99 (fits_nar_byte _) W99 (((p1_ &&& (2147483647 : Int32)) % (34 : Int32))).toNatClampNeg rfl (by rw [own_l_len]; exact lt99)
      rw [own_l_set, ← hg99_] at q
      exact q
    have hn102 : ¬ (((p3_ &&& (2147483647 : Int32)) % (34 : Int32)) < (0 : Int32)) := (own_modr34 _).1
    have hn103 : ((p3_ &&& (2147483647 : Int32)) % (34 : Int32)) < (34 : Int32) := (own_modr34 _).2
    obtain ⟨c104, r104, q104, s104, z104, y104, G104⟩ := id f101
    have hin104 : ¬ (((p3_ &&& (2147483647 : Int32)) % (34 : Int32)) < 0 ∨ c104.slots.size ≤ (((p3_ &&& (2147483647 : Int32)) % (34 : Int32))).toNatClampNeg) := inb_of s104 ⟨hn102, hn103⟩
    obtain ⟨T104, h104, X104, e104, W104, st104⟩ := stB X99 hx hZ e99 r104 (j := ((p3_ &&& (2147483647 : Int32)) % (34 : Int32))) hin104 (g := (mkF m 42 #[.val (.int p0_), .val (.int p1_), .val (.int p2_), .val (.int p3_), .val (.int p4_), .val (.int p5_), .val (.int (2 : Int32)), .val (.int (34 : Int32)), .val (.ref b93), .unset, .unset, .unset] [(.int (p4_.toInt8.toInt32)), (.int ((p3_ &&& (2147483647 : Int32)) % (34 : Int32))), (.ref b93)])) rfl rfl (hb hby at_42)
    have N105 := Fr.snoc X104 N100 ge94
    have lt104 : (((p3_ &&& (2147483647 : Int32)) % (34 : Int32))).toNatClampNeg < 34 := own_lt s104 hin104
    obtain ⟨g104, hg104_⟩ : ∃ g : Nat → Int32, g = (fun k => if k = (((p3_ &&& (2147483647 : Int32)) % (34 : Int32))).toNatClampNeg then ((p4_.toInt8.toInt32).toInt8.toInt32) else g99 k) := ⟨_, rfl⟩
    have f106 : Arv Z h104 b93 k93 .byte (34 : Int32) (own_l 34 g104) (.int (0 : Int32)) := by
      have q : Arv Z h104 b93 k93 .byte (34 : Int32) (List.set (own_l 34 g99) (((p3_ &&& (2147483647 : Int32)) % (34 : Int32))).toNatClampNeg (.int ((p4_.toInt8.toInt32).toInt8.toInt32))) (.int (0 : Int32)) := Arv.set r104 q104 s104 z104 y104 G104 (fits_nar_byte _) W104 (((p3_ &&& (2147483647 : Int32)) % (34 : Int32))).toNatClampNeg rfl (by rw [own_l_len]; exact lt104)
      rw [own_l_set, ← hg104_] at q
      exact q
    have hn107 : ¬ ((p5_ &&& (31 : Int32)) < (0 : Int32)) := (own_i _).1
    have hn108 : (p5_ &&& (31 : Int32)) < (32 : Int32) := (own_i _).2.1
    have hn109 : ¬ (((2 : Int32) + (p5_ &&& (31 : Int32))) < (0 : Int32)) := (own_e2 _).1
    have hn110 : ((2 : Int32) + (p5_ &&& (31 : Int32))) < (34 : Int32) := (own_e2 _).2.1
    obtain ⟨c111, r111, q111, s111, z111, y111, G111⟩ := id f106
    have hin111 : ¬ (((2 : Int32) + (p5_ &&& (31 : Int32))) < 0 ∨ c111.slots.size ≤ (((2 : Int32) + (p5_ &&& (31 : Int32)))).toNatClampNeg) := inb_of s111 ⟨hn109, hn110⟩
    have hat111 : c111.slots[(((2 : Int32) + (p5_ &&& (31 : Int32)))).toNatClampNeg]? = some (.int (g104 (((2 : Int32) + (p5_ &&& (31 : Int32)))).toNatClampNeg)) := Has.at y111 hin111 (own_l_get _ _ _ (show _ < 34 from own_lt s111 hin111))
    have f113 : Exa Z h99 b93 "[B" := Z93.wr W99
    have f114 : Exa Z h104 b93 "[B" := f113.wr W104
    have f115 : Old Z n0 h93 := O0.ext E93
    have f116 : Old Z n0 h99 := f115.wr W99 ge94
    have f117 : Old Z n0 h104 := f116.wr W104 ge94
    obtain ⟨_, _, ⟨T112, L112, k112, n112⟩, -, X112, ⟨Lc112, hQ112, l112, y112, z112⟩, st112⟩ := Jvm.LawKit.callS X104 hx (y := (⟨"com/example/aeacus/aeacus/log/Chain", "value", "([B)[B"⟩ : MethodName)) hown (mvT hZ (hw _ (List.mem_of_getElem? (i := 2) rfl))) (mvT hZ (hw _ (List.mem_of_getElem? (i := 3) rfl))) (mvT hZ (hw _ (List.mem_of_getElem? (i := 4) rfl))) (mvT hZ (hw _ (List.mem_of_getElem? (i := 5) rfl))) (by decide) (backOf (W := 0) (rmvalue8 l Z a0 hw [] b93 k93 g104 h104 n0 f117 f106 f114) hZ (hw _ (List.mem_of_getElem? (i := 5) rfl)) (hw _ (List.mem_of_getElem? (i := 4) rfl)) (by decide) (by decide)) (g := (mkF m 62 #[.val (.int p0_), .val (.int p1_), .val (.int p2_), .val (.int p3_), .val (.int p4_), .val (.int p5_), .val (.int (2 : Int32)), .val (.int (34 : Int32)), .val (.ref b93), .val (.int (p5_ &&& (31 : Int32))), .val (.int (g104 (((2 : Int32) + (p5_ &&& (31 : Int32)))).toNatClampNeg)), .unset] [(.ref b93)])) rfl (by rw [hml]; rfl) (argsL := [(.ref b93)]) (rest := []) (lenOf pd_1 rfl) rfl (by show 2 * 0 + _ ≤ _; exact Nat.le_of_eq rfl) (hb hby at_62) (fun _ _ => ⟨rfl, e104, (by decide : 1 + 1 ≤ _), (by decide : 34 + 32 ≤ _)⟩)
    dsimp only [Pt.U, Pt.locs, Pt.cells, Pt.slots] at X112 l112 y112 z112 st112 hQ112
    subst l112 y112 z112
    obtain ⟨h112, e112⟩ : ∃ z, T112.heap = z := ⟨_, rfl⟩
    rw [e112] at hQ112
    obtain ⟨k3_1_3_112, nnnb3_1_3_112, rfl, N112q, K112, sznnnb3_1_3_112, g112_0, g112_1⟩ := hQ112
    have N118 := Fr.app N105 N112q
    have ge119 : n0 ≤ nnnb3_1_3_112 := Nat.le_trans (Nat.le_trans (Nat.le_of_eq f117.1.symm) f117.2.1) sznnnb3_1_3_112
    have f120 : Keep h0 h93 [] := K0.ext E93
    have f121 : Keep h0 h99 [] := f120.wr W99 (Or.inr sz95)
    have f122 : Keep h0 h104 [] := f121.wr W104 (Or.inr sz95)
    have sz123 : h0.size ≤ nnnb3_1_3_112 := Nat.le_trans f122.1 sznnnb3_1_3_112
    obtain ⟨c124, r124, q124, s124, z124, y124, G124⟩ := id g112_0
    obtain ⟨c125, r125, q125, s125, z125, y125, G125⟩ := id g112_0
    have hin125 : ¬ ((p5_ &&& (31 : Int32)) < 0 ∨ c125.slots.size ≤ ((p5_ &&& (31 : Int32))).toNatClampNeg) := inb_of s125 ⟨hn107, hn108⟩
    have hat125 : c125.slots[((p5_ &&& (31 : Int32))).toNatClampNeg]? = some (.int ((fun k => g104 (2 + k)) ((p5_ &&& (31 : Int32))).toNatClampNeg)) := Has.at y125 hin125 (own_l_get _ _ _ (show _ < 32 from own_lt s125 hin125))
    obtain ⟨c126, r126, q126, s126, z126, y126, G126⟩ := id g112_0
    have hin126 : ¬ ((p5_ &&& (31 : Int32)) < 0 ∨ c126.slots.size ≤ ((p5_ &&& (31 : Int32))).toNatClampNeg) := inb_of s126 ⟨hn107, hn108⟩
    have hat126 : c126.slots[((p5_ &&& (31 : Int32))).toNatClampNeg]? = some (.int ((fun k => g104 (2 + k)) ((p5_ &&& (31 : Int32))).toNatClampNeg)) := Has.at y126 hin126 (own_l_get _ _ _ (show _ < 32 from own_lt s126 hin126))
    obtain ⟨c127, r127, q127, s127, z127, y127, G127⟩ := id g112_0
    have hin127 : ¬ ((p5_ &&& (31 : Int32)) < 0 ∨ c127.slots.size ≤ ((p5_ &&& (31 : Int32))).toNatClampNeg) := inb_of s127 ⟨hn107, hn108⟩
    obtain ⟨T127, h127, X127, e127, W127, st127⟩ := stB X112 hx hZ e112 r127 (j := (p5_ &&& (31 : Int32))) hin127 (g := (mkF m 106 #[.val (.int p0_), .val (.int p1_), .val (.int p2_), .val (.int p3_), .val (.int p4_), .val (.int p5_), .val (.int (2 : Int32)), .val (.int (34 : Int32)), .val (.ref b93), .val (.int (p5_ &&& (31 : Int32))), .val (.int (g104 (((2 : Int32) + (p5_ &&& (31 : Int32)))).toNatClampNeg)), .val (.ref nnnb3_1_3_112)] [(.int ((((fun k => g104 (2 + k)) ((p5_ &&& (31 : Int32))).toNatClampNeg) ^^^ (1 : Int32)).toInt8.toInt32)), (.int (p5_ &&& (31 : Int32))), (.ref nnnb3_1_3_112)])) rfl rfl (hb hby at_106)
    have N128 := Fr.snoc X127 N118 ge119
    have lt127 : ((p5_ &&& (31 : Int32))).toNatClampNeg < 32 := own_lt s127 hin127
    obtain ⟨g127, hg127_⟩ : ∃ g : Nat → Int32, g = (fun k => if k = ((p5_ &&& (31 : Int32))).toNatClampNeg then (((((fun k => g104 (2 + k)) ((p5_ &&& (31 : Int32))).toNatClampNeg) ^^^ (1 : Int32)).toInt8.toInt32).toInt8.toInt32) else (fun k => g104 (2 + k)) k) := ⟨_, rfl⟩
    have f129 : Arv Z h127 nnnb3_1_3_112 k3_1_3_112 .byte (32 : Int32) (own_l 32 g127) (.int (0 : Int32)) := by
      have q : Arv Z h127 nnnb3_1_3_112 k3_1_3_112 .byte (32 : Int32) (List.set (own_l 32 (fun k => g104 (2 + k))) ((p5_ &&& (31 : Int32))).toNatClampNeg (.int (((((fun k => g104 (2 + k)) ((p5_ &&& (31 : Int32))).toNatClampNeg) ^^^ (1 : Int32)).toInt8.toInt32).toInt8.toInt32))) (.int (0 : Int32)) := Arv.set r127 q127 s127 z127 y127 G127 (fits_nar_byte _) W127 ((p5_ &&& (31 : Int32))).toNatClampNeg rfl (by rw [own_l_len]; exact lt127)
      rw [own_l_set, ← hg127_] at q
      exact q
    have f130 : Arv Z h112 b93 k93 .byte (34 : Int32) (own_l 34 g104) (.int (0 : Int32)) := f106.keep K112 nin0
    have ne132 : b93 ≠ nnnb3_1_3_112 := Nat.ne_of_lt (Nat.lt_of_lt_of_le f106.lt sznnnb3_1_3_112)
    have f131 : Arv Z h127 b93 k93 .byte (34 : Int32) (own_l 34 g104) (.int (0 : Int32)) := f130.other W127 ne132
    obtain ⟨c133, r133, q133, s133, z133, y133, G133⟩ := id f131
    have hin133 : ¬ (((2 : Int32) + (p5_ &&& (31 : Int32))) < 0 ∨ c133.slots.size ≤ (((2 : Int32) + (p5_ &&& (31 : Int32)))).toNatClampNeg) := inb_of s133 ⟨hn109, hn110⟩
    have hat133 : c133.slots[(((2 : Int32) + (p5_ &&& (31 : Int32)))).toNatClampNeg]? = some (.int (g104 (((2 : Int32) + (p5_ &&& (31 : Int32)))).toNatClampNeg)) := Has.at y133 hin133 (own_l_get _ _ _ (show _ < 34 from own_lt s133 hin133))
    have pre134 : ∀ t, Steps p.tables e below (T127.setTop (mkF m 125 #[.val (.int p0_), .val (.int p1_), .val (.int p2_), .val (.int p3_), .val (.int p4_), .val (.int p5_), .val (.int (2 : Int32)), .val (.int (34 : Int32)), .val (.ref b93), .val (.int (p5_ &&& (31 : Int32))), .val (.int (g104 (((2 : Int32) + (p5_ &&& (31 : Int32)))).toNatClampNeg)), .val (.ref nnnb3_1_3_112)] [(.int (1 : Int32))])) t → Steps p.tables e below (s₁.setTop (entryFrame m #[(.int p0_), (.int p1_), (.int p2_), (.int p3_), (.int p4_), (.int p5_)] maxLocals)) t := by
      intro t kt
      refine pre92 t ?_
      show Steps p.tables e below (s₁.setTop (mkF m 3 #[.val (.int p0_), .val (.int p1_), .val (.int p2_), .val (.int p3_), .val (.int p4_), .val (.int p5_), .unset, .unset, .unset, .unset, .unset, .unset] [(.int (2 : Int32))])) _
      refine XS.istore X0.here hx rfl (hb hby at_3) rfl (l' := #[.val (.int p0_), .val (.int p1_), .val (.int p2_), .val (.int p3_), .val (.int p4_), .val (.int p5_), .val (.int (2 : Int32)), .unset, .unset, .unset, .unset, .unset]) rfl ?_
      show Steps p.tables e below (s₁.setTop (mkF m 5 #[.val (.int p0_), .val (.int p1_), .val (.int p2_), .val (.int p3_), .val (.int p4_), .val (.int p5_), .val (.int (2 : Int32)), .unset, .unset, .unset, .unset, .unset] [])) _
      refine XS.bipush X0.here hx rfl (hb hby at_5) ?_
      show Steps p.tables e below (s₁.setTop (mkF m 7 #[.val (.int p0_), .val (.int p1_), .val (.int p2_), .val (.int p3_), .val (.int p4_), .val (.int p5_), .val (.int (2 : Int32)), .unset, .unset, .unset, .unset, .unset] [(.int (32 : Int32))])) _
      refine XS.iload X0.here hx rfl (hb hby at_7) rfl ?_
      show Steps p.tables e below (s₁.setTop (mkF m 9 #[.val (.int p0_), .val (.int p1_), .val (.int p2_), .val (.int p3_), .val (.int p4_), .val (.int p5_), .val (.int (2 : Int32)), .unset, .unset, .unset, .unset, .unset] [(.int (2 : Int32)), (.int (32 : Int32))])) _
      refine XS.iadd X0.here hx rfl (hb hby at_9) rfl ?_
      show Steps p.tables e below (s₁.setTop (mkF m 10 #[.val (.int p0_), .val (.int p1_), .val (.int p2_), .val (.int p3_), .val (.int p4_), .val (.int p5_), .val (.int (2 : Int32)), .unset, .unset, .unset, .unset, .unset] [(.int (34 : Int32))])) _
      refine XS.istore X0.here hx rfl (hb hby at_10) rfl (l' := #[.val (.int p0_), .val (.int p1_), .val (.int p2_), .val (.int p3_), .val (.int p4_), .val (.int p5_), .val (.int (2 : Int32)), .val (.int (34 : Int32)), .unset, .unset, .unset, .unset]) rfl ?_
      show Steps p.tables e below (s₁.setTop (mkF m 12 #[.val (.int p0_), .val (.int p1_), .val (.int p2_), .val (.int p3_), .val (.int p4_), .val (.int p5_), .val (.int (2 : Int32)), .val (.int (34 : Int32)), .unset, .unset, .unset, .unset] [])) _
      refine XS.iload X0.here hx rfl (hb hby at_12) rfl ?_
      show Steps p.tables e below (s₁.setTop (mkF m 14 #[.val (.int p0_), .val (.int p1_), .val (.int p2_), .val (.int p3_), .val (.int p4_), .val (.int p5_), .val (.int (2 : Int32)), .val (.int (34 : Int32)), .unset, .unset, .unset, .unset] [(.int (34 : Int32))])) _
      refine st93 _ ?_
      show Steps p.tables e below (T93.setTop (mkF m 16 #[.val (.int p0_), .val (.int p1_), .val (.int p2_), .val (.int p3_), .val (.int p4_), .val (.int p5_), .val (.int (2 : Int32)), .val (.int (34 : Int32)), .unset, .unset, .unset, .unset] [(.ref b93)])) _
      refine XS.astore X93.here hx rfl (hb hby at_16) rfl rfl (l' := #[.val (.int p0_), .val (.int p1_), .val (.int p2_), .val (.int p3_), .val (.int p4_), .val (.int p5_), .val (.int (2 : Int32)), .val (.int (34 : Int32)), .val (.ref b93), .unset, .unset, .unset]) rfl ?_
      show Steps p.tables e below (T93.setTop (mkF m 18 #[.val (.int p0_), .val (.int p1_), .val (.int p2_), .val (.int p3_), .val (.int p4_), .val (.int p5_), .val (.int (2 : Int32)), .val (.int (34 : Int32)), .val (.ref b93), .unset, .unset, .unset] [])) _
      refine XS.aload X93.here hx rfl (hb hby at_18) rfl rfl ?_
      show Steps p.tables e below (T93.setTop (mkF m 20 #[.val (.int p0_), .val (.int p1_), .val (.int p2_), .val (.int p3_), .val (.int p4_), .val (.int p5_), .val (.int (2 : Int32)), .val (.int (34 : Int32)), .val (.ref b93), .unset, .unset, .unset] [(.ref b93)])) _
      refine XS.iloadN X93.here hx rfl (hb hby at_20) rfl ?_
      show Steps p.tables e below (T93.setTop (mkF m 21 #[.val (.int p0_), .val (.int p1_), .val (.int p2_), .val (.int p3_), .val (.int p4_), .val (.int p5_), .val (.int (2 : Int32)), .val (.int (34 : Int32)), .val (.ref b93), .unset, .unset, .unset] [(.int p1_), (.ref b93)])) _
      refine X93.ldcInt hx hown (mvT hZ (hw _ (List.mem_of_getElem? (i := 1) rfl))) (g := (mkF m 21 #[.val (.int p0_), .val (.int p1_), .val (.int p2_), .val (.int p3_), .val (.int p4_), .val (.int p5_), .val (.int (2 : Int32)), .val (.int (34 : Int32)), .val (.ref b93), .unset, .unset, .unset] [(.int p1_), (.ref b93)])) rfl (hb hby at_21) _ ?_
      show Steps p.tables e below (T93.setTop (mkF m 23 #[.val (.int p0_), .val (.int p1_), .val (.int p2_), .val (.int p3_), .val (.int p4_), .val (.int p5_), .val (.int (2 : Int32)), .val (.int (34 : Int32)), .val (.ref b93), .unset, .unset, .unset] [(.int (2147483647 : Int32)), (.int p1_), (.ref b93)])) _
      refine XS.iand X93.here hx rfl (hb hby at_23) rfl ?_
      show Steps p.tables e below (T93.setTop (mkF m 24 #[.val (.int p0_), .val (.int p1_), .val (.int p2_), .val (.int p3_), .val (.int p4_), .val (.int p5_), .val (.int (2 : Int32)), .val (.int (34 : Int32)), .val (.ref b93), .unset, .unset, .unset] [(.int (p1_ &&& (2147483647 : Int32))), (.ref b93)])) _
      refine XS.iload X93.here hx rfl (hb hby at_24) rfl ?_
      show Steps p.tables e below (T93.setTop (mkF m 26 #[.val (.int p0_), .val (.int p1_), .val (.int p2_), .val (.int p3_), .val (.int p4_), .val (.int p5_), .val (.int (2 : Int32)), .val (.int (34 : Int32)), .val (.ref b93), .unset, .unset, .unset] [(.int (34 : Int32)), (.int (p1_ &&& (2147483647 : Int32))), (.ref b93)])) _
      refine iremM (g := (mkF m 26 #[.val (.int p0_), .val (.int p1_), .val (.int p2_), .val (.int p3_), .val (.int p4_), .val (.int p5_), .val (.int (2 : Int32)), .val (.int (34 : Int32)), .val (.ref b93), .unset, .unset, .unset] [(.int (34 : Int32)), (.int (p1_ &&& (2147483647 : Int32))), (.ref b93)])) X93 hx rfl (hb hby at_26) rfl (by decide) ?_
      show Steps p.tables e below (T93.setTop (mkF m 27 #[.val (.int p0_), .val (.int p1_), .val (.int p2_), .val (.int p3_), .val (.int p4_), .val (.int p5_), .val (.int (2 : Int32)), .val (.int (34 : Int32)), .val (.ref b93), .unset, .unset, .unset] [(.int ((p1_ &&& (2147483647 : Int32)) % (34 : Int32))), (.ref b93)])) _
      refine XS.iloadN X93.here hx rfl (hb hby at_27) rfl ?_
      show Steps p.tables e below (T93.setTop (mkF m 28 #[.val (.int p0_), .val (.int p1_), .val (.int p2_), .val (.int p3_), .val (.int p4_), .val (.int p5_), .val (.int (2 : Int32)), .val (.int (34 : Int32)), .val (.ref b93), .unset, .unset, .unset] [(.int p2_), (.int ((p1_ &&& (2147483647 : Int32)) % (34 : Int32))), (.ref b93)])) _
      refine XS.i2b X93.here hx rfl (hb hby at_28) rfl ?_
      show Steps p.tables e below (T93.setTop (mkF m 29 #[.val (.int p0_), .val (.int p1_), .val (.int p2_), .val (.int p3_), .val (.int p4_), .val (.int p5_), .val (.int (2 : Int32)), .val (.int (34 : Int32)), .val (.ref b93), .unset, .unset, .unset] [(.int (p2_.toInt8.toInt32)), (.int ((p1_ &&& (2147483647 : Int32)) % (34 : Int32))), (.ref b93)])) _
      refine st99 _ ?_
      show Steps p.tables e below (T99.setTop (mkF m 30 #[.val (.int p0_), .val (.int p1_), .val (.int p2_), .val (.int p3_), .val (.int p4_), .val (.int p5_), .val (.int (2 : Int32)), .val (.int (34 : Int32)), .val (.ref b93), .unset, .unset, .unset] [])) _
      refine XS.aload X99.here hx rfl (hb hby at_30) rfl rfl ?_
      show Steps p.tables e below (T99.setTop (mkF m 32 #[.val (.int p0_), .val (.int p1_), .val (.int p2_), .val (.int p3_), .val (.int p4_), .val (.int p5_), .val (.int (2 : Int32)), .val (.int (34 : Int32)), .val (.ref b93), .unset, .unset, .unset] [(.ref b93)])) _
      refine XS.iloadN X99.here hx rfl (hb hby at_32) rfl ?_
      show Steps p.tables e below (T99.setTop (mkF m 33 #[.val (.int p0_), .val (.int p1_), .val (.int p2_), .val (.int p3_), .val (.int p4_), .val (.int p5_), .val (.int (2 : Int32)), .val (.int (34 : Int32)), .val (.ref b93), .unset, .unset, .unset] [(.int p3_), (.ref b93)])) _
      refine X99.ldcInt hx hown (mvT hZ (hw _ (List.mem_of_getElem? (i := 1) rfl))) (g := (mkF m 33 #[.val (.int p0_), .val (.int p1_), .val (.int p2_), .val (.int p3_), .val (.int p4_), .val (.int p5_), .val (.int (2 : Int32)), .val (.int (34 : Int32)), .val (.ref b93), .unset, .unset, .unset] [(.int p3_), (.ref b93)])) rfl (hb hby at_33) _ ?_
      show Steps p.tables e below (T99.setTop (mkF m 35 #[.val (.int p0_), .val (.int p1_), .val (.int p2_), .val (.int p3_), .val (.int p4_), .val (.int p5_), .val (.int (2 : Int32)), .val (.int (34 : Int32)), .val (.ref b93), .unset, .unset, .unset] [(.int (2147483647 : Int32)), (.int p3_), (.ref b93)])) _
      refine XS.iand X99.here hx rfl (hb hby at_35) rfl ?_
      show Steps p.tables e below (T99.setTop (mkF m 36 #[.val (.int p0_), .val (.int p1_), .val (.int p2_), .val (.int p3_), .val (.int p4_), .val (.int p5_), .val (.int (2 : Int32)), .val (.int (34 : Int32)), .val (.ref b93), .unset, .unset, .unset] [(.int (p3_ &&& (2147483647 : Int32))), (.ref b93)])) _
      refine XS.iload X99.here hx rfl (hb hby at_36) rfl ?_
      show Steps p.tables e below (T99.setTop (mkF m 38 #[.val (.int p0_), .val (.int p1_), .val (.int p2_), .val (.int p3_), .val (.int p4_), .val (.int p5_), .val (.int (2 : Int32)), .val (.int (34 : Int32)), .val (.ref b93), .unset, .unset, .unset] [(.int (34 : Int32)), (.int (p3_ &&& (2147483647 : Int32))), (.ref b93)])) _
      refine iremM (g := (mkF m 38 #[.val (.int p0_), .val (.int p1_), .val (.int p2_), .val (.int p3_), .val (.int p4_), .val (.int p5_), .val (.int (2 : Int32)), .val (.int (34 : Int32)), .val (.ref b93), .unset, .unset, .unset] [(.int (34 : Int32)), (.int (p3_ &&& (2147483647 : Int32))), (.ref b93)])) X99 hx rfl (hb hby at_38) rfl (by decide) ?_
      show Steps p.tables e below (T99.setTop (mkF m 39 #[.val (.int p0_), .val (.int p1_), .val (.int p2_), .val (.int p3_), .val (.int p4_), .val (.int p5_), .val (.int (2 : Int32)), .val (.int (34 : Int32)), .val (.ref b93), .unset, .unset, .unset] [(.int ((p3_ &&& (2147483647 : Int32)) % (34 : Int32))), (.ref b93)])) _
      refine XS.iload X99.here hx rfl (hb hby at_39) rfl ?_
      show Steps p.tables e below (T99.setTop (mkF m 41 #[.val (.int p0_), .val (.int p1_), .val (.int p2_), .val (.int p3_), .val (.int p4_), .val (.int p5_), .val (.int (2 : Int32)), .val (.int (34 : Int32)), .val (.ref b93), .unset, .unset, .unset] [(.int p4_), (.int ((p3_ &&& (2147483647 : Int32)) % (34 : Int32))), (.ref b93)])) _
      refine XS.i2b X99.here hx rfl (hb hby at_41) rfl ?_
      show Steps p.tables e below (T99.setTop (mkF m 42 #[.val (.int p0_), .val (.int p1_), .val (.int p2_), .val (.int p3_), .val (.int p4_), .val (.int p5_), .val (.int (2 : Int32)), .val (.int (34 : Int32)), .val (.ref b93), .unset, .unset, .unset] [(.int (p4_.toInt8.toInt32)), (.int ((p3_ &&& (2147483647 : Int32)) % (34 : Int32))), (.ref b93)])) _
      refine st104 _ ?_
      show Steps p.tables e below (T104.setTop (mkF m 43 #[.val (.int p0_), .val (.int p1_), .val (.int p2_), .val (.int p3_), .val (.int p4_), .val (.int p5_), .val (.int (2 : Int32)), .val (.int (34 : Int32)), .val (.ref b93), .unset, .unset, .unset] [])) _
      refine XS.iload X104.here hx rfl (hb hby at_43) rfl ?_
      show Steps p.tables e below (T104.setTop (mkF m 45 #[.val (.int p0_), .val (.int p1_), .val (.int p2_), .val (.int p3_), .val (.int p4_), .val (.int p5_), .val (.int (2 : Int32)), .val (.int (34 : Int32)), .val (.ref b93), .unset, .unset, .unset] [(.int p5_)])) _
      refine XS.bipush X104.here hx rfl (hb hby at_45) ?_
      show Steps p.tables e below (T104.setTop (mkF m 47 #[.val (.int p0_), .val (.int p1_), .val (.int p2_), .val (.int p3_), .val (.int p4_), .val (.int p5_), .val (.int (2 : Int32)), .val (.int (34 : Int32)), .val (.ref b93), .unset, .unset, .unset] [(.int (31 : Int32)), (.int p5_)])) _
      refine XS.iand X104.here hx rfl (hb hby at_47) rfl ?_
      show Steps p.tables e below (T104.setTop (mkF m 48 #[.val (.int p0_), .val (.int p1_), .val (.int p2_), .val (.int p3_), .val (.int p4_), .val (.int p5_), .val (.int (2 : Int32)), .val (.int (34 : Int32)), .val (.ref b93), .unset, .unset, .unset] [(.int (p5_ &&& (31 : Int32)))])) _
      refine XS.istore X104.here hx rfl (hb hby at_48) rfl (l' := #[.val (.int p0_), .val (.int p1_), .val (.int p2_), .val (.int p3_), .val (.int p4_), .val (.int p5_), .val (.int (2 : Int32)), .val (.int (34 : Int32)), .val (.ref b93), .val (.int (p5_ &&& (31 : Int32))), .unset, .unset]) rfl ?_
      show Steps p.tables e below (T104.setTop (mkF m 50 #[.val (.int p0_), .val (.int p1_), .val (.int p2_), .val (.int p3_), .val (.int p4_), .val (.int p5_), .val (.int (2 : Int32)), .val (.int (34 : Int32)), .val (.ref b93), .val (.int (p5_ &&& (31 : Int32))), .unset, .unset] [])) _
      refine XS.aload X104.here hx rfl (hb hby at_50) rfl rfl ?_
      show Steps p.tables e below (T104.setTop (mkF m 52 #[.val (.int p0_), .val (.int p1_), .val (.int p2_), .val (.int p3_), .val (.int p4_), .val (.int p5_), .val (.int (2 : Int32)), .val (.int (34 : Int32)), .val (.ref b93), .val (.int (p5_ &&& (31 : Int32))), .unset, .unset] [(.ref b93)])) _
      refine XS.iload X104.here hx rfl (hb hby at_52) rfl ?_
      show Steps p.tables e below (T104.setTop (mkF m 54 #[.val (.int p0_), .val (.int p1_), .val (.int p2_), .val (.int p3_), .val (.int p4_), .val (.int p5_), .val (.int (2 : Int32)), .val (.int (34 : Int32)), .val (.ref b93), .val (.int (p5_ &&& (31 : Int32))), .unset, .unset] [(.int (2 : Int32)), (.ref b93)])) _
      refine XS.iload X104.here hx rfl (hb hby at_54) rfl ?_
      show Steps p.tables e below (T104.setTop (mkF m 56 #[.val (.int p0_), .val (.int p1_), .val (.int p2_), .val (.int p3_), .val (.int p4_), .val (.int p5_), .val (.int (2 : Int32)), .val (.int (34 : Int32)), .val (.ref b93), .val (.int (p5_ &&& (31 : Int32))), .unset, .unset] [(.int (p5_ &&& (31 : Int32))), (.int (2 : Int32)), (.ref b93)])) _
      refine XS.iadd X104.here hx rfl (hb hby at_56) rfl ?_
      show Steps p.tables e below (T104.setTop (mkF m 57 #[.val (.int p0_), .val (.int p1_), .val (.int p2_), .val (.int p3_), .val (.int p4_), .val (.int p5_), .val (.int (2 : Int32)), .val (.int (34 : Int32)), .val (.ref b93), .val (.int (p5_ &&& (31 : Int32))), .unset, .unset] [(.int ((2 : Int32) + (p5_ &&& (31 : Int32)))), (.ref b93)])) _
      refine X104.baloadBytes hx (j := ((2 : Int32) + (p5_ &&& (31 : Int32)))) (v := (.int (g104 (((2 : Int32) + (p5_ &&& (31 : Int32)))).toNatClampNeg))) (by rw [e104]; exact r111.1) (State.isArrayOf_alike hZ.alike r111.2.1) r111.2.2 hin111 hat111 (g := (mkF m 57 #[.val (.int p0_), .val (.int p1_), .val (.int p2_), .val (.int p3_), .val (.int p4_), .val (.int p5_), .val (.int (2 : Int32)), .val (.int (34 : Int32)), .val (.ref b93), .val (.int (p5_ &&& (31 : Int32))), .unset, .unset] [(.int ((2 : Int32) + (p5_ &&& (31 : Int32)))), (.ref b93)])) rfl rfl (hb hby at_57) _ ?_
      show Steps p.tables e below (T104.setTop (mkF m 58 #[.val (.int p0_), .val (.int p1_), .val (.int p2_), .val (.int p3_), .val (.int p4_), .val (.int p5_), .val (.int (2 : Int32)), .val (.int (34 : Int32)), .val (.ref b93), .val (.int (p5_ &&& (31 : Int32))), .unset, .unset] [(.int (g104 (((2 : Int32) + (p5_ &&& (31 : Int32)))).toNatClampNeg))])) _
      refine XS.istore X104.here hx rfl (hb hby at_58) rfl (l' := #[.val (.int p0_), .val (.int p1_), .val (.int p2_), .val (.int p3_), .val (.int p4_), .val (.int p5_), .val (.int (2 : Int32)), .val (.int (34 : Int32)), .val (.ref b93), .val (.int (p5_ &&& (31 : Int32))), .val (.int (g104 (((2 : Int32) + (p5_ &&& (31 : Int32)))).toNatClampNeg)), .unset]) rfl ?_
      show Steps p.tables e below (T104.setTop (mkF m 60 #[.val (.int p0_), .val (.int p1_), .val (.int p2_), .val (.int p3_), .val (.int p4_), .val (.int p5_), .val (.int (2 : Int32)), .val (.int (34 : Int32)), .val (.ref b93), .val (.int (p5_ &&& (31 : Int32))), .val (.int (g104 (((2 : Int32) + (p5_ &&& (31 : Int32)))).toNatClampNeg)), .unset] [])) _
      refine XS.aload X104.here hx rfl (hb hby at_60) rfl rfl ?_
      show Steps p.tables e below (T104.setTop (mkF m 62 #[.val (.int p0_), .val (.int p1_), .val (.int p2_), .val (.int p3_), .val (.int p4_), .val (.int p5_), .val (.int (2 : Int32)), .val (.int (34 : Int32)), .val (.ref b93), .val (.int (p5_ &&& (31 : Int32))), .val (.int (g104 (((2 : Int32) + (p5_ &&& (31 : Int32)))).toNatClampNeg)), .unset] [(.ref b93)])) _
      refine st112 _ ?_
      show Steps p.tables e below (T112.setTop (mkF m 65 #[.val (.int p0_), .val (.int p1_), .val (.int p2_), .val (.int p3_), .val (.int p4_), .val (.int p5_), .val (.int (2 : Int32)), .val (.int (34 : Int32)), .val (.ref b93), .val (.int (p5_ &&& (31 : Int32))), .val (.int (g104 (((2 : Int32) + (p5_ &&& (31 : Int32)))).toNatClampNeg)), .unset] [(.ref nnnb3_1_3_112)])) _
      refine XS.astore X112.here hx rfl (hb hby at_65) rfl rfl (l' := #[.val (.int p0_), .val (.int p1_), .val (.int p2_), .val (.int p3_), .val (.int p4_), .val (.int p5_), .val (.int (2 : Int32)), .val (.int (34 : Int32)), .val (.ref b93), .val (.int (p5_ &&& (31 : Int32))), .val (.int (g104 (((2 : Int32) + (p5_ &&& (31 : Int32)))).toNatClampNeg)), .val (.ref nnnb3_1_3_112)]) rfl ?_
      show Steps p.tables e below (T112.setTop (mkF m 67 #[.val (.int p0_), .val (.int p1_), .val (.int p2_), .val (.int p3_), .val (.int p4_), .val (.int p5_), .val (.int (2 : Int32)), .val (.int (34 : Int32)), .val (.ref b93), .val (.int (p5_ &&& (31 : Int32))), .val (.int (g104 (((2 : Int32) + (p5_ &&& (31 : Int32)))).toNatClampNeg)), .val (.ref nnnb3_1_3_112)] [])) _
      refine XS.aload X112.here hx rfl (hb hby at_67) rfl rfl ?_
      show Steps p.tables e below (T112.setTop (mkF m 69 #[.val (.int p0_), .val (.int p1_), .val (.int p2_), .val (.int p3_), .val (.int p4_), .val (.int p5_), .val (.int (2 : Int32)), .val (.int (34 : Int32)), .val (.ref b93), .val (.int (p5_ &&& (31 : Int32))), .val (.int (g104 (((2 : Int32) + (p5_ &&& (31 : Int32)))).toNatClampNeg)), .val (.ref nnnb3_1_3_112)] [(.ref nnnb3_1_3_112)])) _
      refine XS.ifnullNo X112.here hx rfl (hb hby at_69) rfl ?_
      show Steps p.tables e below (T112.setTop (mkF m 72 #[.val (.int p0_), .val (.int p1_), .val (.int p2_), .val (.int p3_), .val (.int p4_), .val (.int p5_), .val (.int (2 : Int32)), .val (.int (34 : Int32)), .val (.ref b93), .val (.int (p5_ &&& (31 : Int32))), .val (.int (g104 (((2 : Int32) + (p5_ &&& (31 : Int32)))).toNatClampNeg)), .val (.ref nnnb3_1_3_112)] [])) _
      refine XS.aload X112.here hx rfl (hb hby at_72) rfl rfl ?_
      show Steps p.tables e below (T112.setTop (mkF m 74 #[.val (.int p0_), .val (.int p1_), .val (.int p2_), .val (.int p3_), .val (.int p4_), .val (.int p5_), .val (.int (2 : Int32)), .val (.int (34 : Int32)), .val (.ref b93), .val (.int (p5_ &&& (31 : Int32))), .val (.int (g104 (((2 : Int32) + (p5_ &&& (31 : Int32)))).toNatClampNeg)), .val (.ref nnnb3_1_3_112)] [(.ref nnnb3_1_3_112)])) _
      refine X112.arraylength hx (by rw [e112]; exact r124.1) (State.isArrayOf_alike hZ.alike r124.2.1) (g := (mkF m 74 #[.val (.int p0_), .val (.int p1_), .val (.int p2_), .val (.int p3_), .val (.int p4_), .val (.int p5_), .val (.int (2 : Int32)), .val (.int (34 : Int32)), .val (.ref b93), .val (.int (p5_ &&& (31 : Int32))), .val (.int (g104 (((2 : Int32) + (p5_ &&& (31 : Int32)))).toNatClampNeg)), .val (.ref nnnb3_1_3_112)] [(.ref nnnb3_1_3_112)])) rfl rfl (hb hby at_74) _ ?_
      rw [len_of s124 z124]
      show Steps p.tables e below (T112.setTop (mkF m 75 #[.val (.int p0_), .val (.int p1_), .val (.int p2_), .val (.int p3_), .val (.int p4_), .val (.int p5_), .val (.int (2 : Int32)), .val (.int (34 : Int32)), .val (.ref b93), .val (.int (p5_ &&& (31 : Int32))), .val (.int (g104 (((2 : Int32) + (p5_ &&& (31 : Int32)))).toNatClampNeg)), .val (.ref nnnb3_1_3_112)] [(.int (32 : Int32))])) _
      refine XS.bipush X112.here hx rfl (hb hby at_75) ?_
      show Steps p.tables e below (T112.setTop (mkF m 77 #[.val (.int p0_), .val (.int p1_), .val (.int p2_), .val (.int p3_), .val (.int p4_), .val (.int p5_), .val (.int (2 : Int32)), .val (.int (34 : Int32)), .val (.ref b93), .val (.int (p5_ &&& (31 : Int32))), .val (.int (g104 (((2 : Int32) + (p5_ &&& (31 : Int32)))).toNatClampNeg)), .val (.ref nnnb3_1_3_112)] [(.int (32 : Int32)), (.int (32 : Int32))])) _
      refine XS.icmpYes X112.here hx rfl (pc0 := 77) (pc' := 82) rfl (hb hby at_77) rfl (teq (by decide : (32 : Int32) = (32 : Int32))).1 (by decide) (by decide) ?_
      show Steps p.tables e below (T112.setTop (mkF m 82 #[.val (.int p0_), .val (.int p1_), .val (.int p2_), .val (.int p3_), .val (.int p4_), .val (.int p5_), .val (.int (2 : Int32)), .val (.int (34 : Int32)), .val (.ref b93), .val (.int (p5_ &&& (31 : Int32))), .val (.int (g104 (((2 : Int32) + (p5_ &&& (31 : Int32)))).toNatClampNeg)), .val (.ref nnnb3_1_3_112)] [])) _
      refine XS.aload X112.here hx rfl (hb hby at_82) rfl rfl ?_
      show Steps p.tables e below (T112.setTop (mkF m 84 #[.val (.int p0_), .val (.int p1_), .val (.int p2_), .val (.int p3_), .val (.int p4_), .val (.int p5_), .val (.int (2 : Int32)), .val (.int (34 : Int32)), .val (.ref b93), .val (.int (p5_ &&& (31 : Int32))), .val (.int (g104 (((2 : Int32) + (p5_ &&& (31 : Int32)))).toNatClampNeg)), .val (.ref nnnb3_1_3_112)] [(.ref nnnb3_1_3_112)])) _
      refine XS.iload X112.here hx rfl (hb hby at_84) rfl ?_
      show Steps p.tables e below (T112.setTop (mkF m 86 #[.val (.int p0_), .val (.int p1_), .val (.int p2_), .val (.int p3_), .val (.int p4_), .val (.int p5_), .val (.int (2 : Int32)), .val (.int (34 : Int32)), .val (.ref b93), .val (.int (p5_ &&& (31 : Int32))), .val (.int (g104 (((2 : Int32) + (p5_ &&& (31 : Int32)))).toNatClampNeg)), .val (.ref nnnb3_1_3_112)] [(.int (p5_ &&& (31 : Int32))), (.ref nnnb3_1_3_112)])) _
      refine X112.baloadBytes hx (j := (p5_ &&& (31 : Int32))) (v := (.int ((fun k => g104 (2 + k)) ((p5_ &&& (31 : Int32))).toNatClampNeg))) (by rw [e112]; exact r125.1) (State.isArrayOf_alike hZ.alike r125.2.1) r125.2.2 hin125 hat125 (g := (mkF m 86 #[.val (.int p0_), .val (.int p1_), .val (.int p2_), .val (.int p3_), .val (.int p4_), .val (.int p5_), .val (.int (2 : Int32)), .val (.int (34 : Int32)), .val (.ref b93), .val (.int (p5_ &&& (31 : Int32))), .val (.int (g104 (((2 : Int32) + (p5_ &&& (31 : Int32)))).toNatClampNeg)), .val (.ref nnnb3_1_3_112)] [(.int (p5_ &&& (31 : Int32))), (.ref nnnb3_1_3_112)])) rfl rfl (hb hby at_86) _ ?_
      show Steps p.tables e below (T112.setTop (mkF m 87 #[.val (.int p0_), .val (.int p1_), .val (.int p2_), .val (.int p3_), .val (.int p4_), .val (.int p5_), .val (.int (2 : Int32)), .val (.int (34 : Int32)), .val (.ref b93), .val (.int (p5_ &&& (31 : Int32))), .val (.int (g104 (((2 : Int32) + (p5_ &&& (31 : Int32)))).toNatClampNeg)), .val (.ref nnnb3_1_3_112)] [(.int ((fun k => g104 (2 + k)) ((p5_ &&& (31 : Int32))).toNatClampNeg))])) _
      refine XS.iload X112.here hx rfl (hb hby at_87) rfl ?_
      show Steps p.tables e below (T112.setTop (mkF m 89 #[.val (.int p0_), .val (.int p1_), .val (.int p2_), .val (.int p3_), .val (.int p4_), .val (.int p5_), .val (.int (2 : Int32)), .val (.int (34 : Int32)), .val (.ref b93), .val (.int (p5_ &&& (31 : Int32))), .val (.int (g104 (((2 : Int32) + (p5_ &&& (31 : Int32)))).toNatClampNeg)), .val (.ref nnnb3_1_3_112)] [(.int (g104 (((2 : Int32) + (p5_ &&& (31 : Int32)))).toNatClampNeg)), (.int ((fun k => g104 (2 + k)) ((p5_ &&& (31 : Int32))).toNatClampNeg))])) _
      refine XS.icmpYes X112.here hx rfl (pc0 := 89) (pc' := 94) rfl (hb hby at_89) rfl (teq (own_at g104 (own_e2 _).2.2)).1 (by decide) (by decide) ?_
      show Steps p.tables e below (T112.setTop (mkF m 94 #[.val (.int p0_), .val (.int p1_), .val (.int p2_), .val (.int p3_), .val (.int p4_), .val (.int p5_), .val (.int (2 : Int32)), .val (.int (34 : Int32)), .val (.ref b93), .val (.int (p5_ &&& (31 : Int32))), .val (.int (g104 (((2 : Int32) + (p5_ &&& (31 : Int32)))).toNatClampNeg)), .val (.ref nnnb3_1_3_112)] [])) _
      refine XS.aload X112.here hx rfl (hb hby at_94) rfl rfl ?_
      show Steps p.tables e below (T112.setTop (mkF m 96 #[.val (.int p0_), .val (.int p1_), .val (.int p2_), .val (.int p3_), .val (.int p4_), .val (.int p5_), .val (.int (2 : Int32)), .val (.int (34 : Int32)), .val (.ref b93), .val (.int (p5_ &&& (31 : Int32))), .val (.int (g104 (((2 : Int32) + (p5_ &&& (31 : Int32)))).toNatClampNeg)), .val (.ref nnnb3_1_3_112)] [(.ref nnnb3_1_3_112)])) _
      refine XS.iload X112.here hx rfl (hb hby at_96) rfl ?_
      show Steps p.tables e below (T112.setTop (mkF m 98 #[.val (.int p0_), .val (.int p1_), .val (.int p2_), .val (.int p3_), .val (.int p4_), .val (.int p5_), .val (.int (2 : Int32)), .val (.int (34 : Int32)), .val (.ref b93), .val (.int (p5_ &&& (31 : Int32))), .val (.int (g104 (((2 : Int32) + (p5_ &&& (31 : Int32)))).toNatClampNeg)), .val (.ref nnnb3_1_3_112)] [(.int (p5_ &&& (31 : Int32))), (.ref nnnb3_1_3_112)])) _
      refine XS.aload X112.here hx rfl (hb hby at_98) rfl rfl ?_
      show Steps p.tables e below (T112.setTop (mkF m 100 #[.val (.int p0_), .val (.int p1_), .val (.int p2_), .val (.int p3_), .val (.int p4_), .val (.int p5_), .val (.int (2 : Int32)), .val (.int (34 : Int32)), .val (.ref b93), .val (.int (p5_ &&& (31 : Int32))), .val (.int (g104 (((2 : Int32) + (p5_ &&& (31 : Int32)))).toNatClampNeg)), .val (.ref nnnb3_1_3_112)] [(.ref nnnb3_1_3_112), (.int (p5_ &&& (31 : Int32))), (.ref nnnb3_1_3_112)])) _
      refine XS.iload X112.here hx rfl (hb hby at_100) rfl ?_
      show Steps p.tables e below (T112.setTop (mkF m 102 #[.val (.int p0_), .val (.int p1_), .val (.int p2_), .val (.int p3_), .val (.int p4_), .val (.int p5_), .val (.int (2 : Int32)), .val (.int (34 : Int32)), .val (.ref b93), .val (.int (p5_ &&& (31 : Int32))), .val (.int (g104 (((2 : Int32) + (p5_ &&& (31 : Int32)))).toNatClampNeg)), .val (.ref nnnb3_1_3_112)] [(.int (p5_ &&& (31 : Int32))), (.ref nnnb3_1_3_112), (.int (p5_ &&& (31 : Int32))), (.ref nnnb3_1_3_112)])) _
      refine X112.baloadBytes hx (j := (p5_ &&& (31 : Int32))) (v := (.int ((fun k => g104 (2 + k)) ((p5_ &&& (31 : Int32))).toNatClampNeg))) (by rw [e112]; exact r126.1) (State.isArrayOf_alike hZ.alike r126.2.1) r126.2.2 hin126 hat126 (g := (mkF m 102 #[.val (.int p0_), .val (.int p1_), .val (.int p2_), .val (.int p3_), .val (.int p4_), .val (.int p5_), .val (.int (2 : Int32)), .val (.int (34 : Int32)), .val (.ref b93), .val (.int (p5_ &&& (31 : Int32))), .val (.int (g104 (((2 : Int32) + (p5_ &&& (31 : Int32)))).toNatClampNeg)), .val (.ref nnnb3_1_3_112)] [(.int (p5_ &&& (31 : Int32))), (.ref nnnb3_1_3_112), (.int (p5_ &&& (31 : Int32))), (.ref nnnb3_1_3_112)])) rfl rfl (hb hby at_102) _ ?_
      show Steps p.tables e below (T112.setTop (mkF m 103 #[.val (.int p0_), .val (.int p1_), .val (.int p2_), .val (.int p3_), .val (.int p4_), .val (.int p5_), .val (.int (2 : Int32)), .val (.int (34 : Int32)), .val (.ref b93), .val (.int (p5_ &&& (31 : Int32))), .val (.int (g104 (((2 : Int32) + (p5_ &&& (31 : Int32)))).toNatClampNeg)), .val (.ref nnnb3_1_3_112)] [(.int ((fun k => g104 (2 + k)) ((p5_ &&& (31 : Int32))).toNatClampNeg)), (.int (p5_ &&& (31 : Int32))), (.ref nnnb3_1_3_112)])) _
      refine XS.iconst X112.here hx rfl (hb hby at_103) ?_
      show Steps p.tables e below (T112.setTop (mkF m 104 #[.val (.int p0_), .val (.int p1_), .val (.int p2_), .val (.int p3_), .val (.int p4_), .val (.int p5_), .val (.int (2 : Int32)), .val (.int (34 : Int32)), .val (.ref b93), .val (.int (p5_ &&& (31 : Int32))), .val (.int (g104 (((2 : Int32) + (p5_ &&& (31 : Int32)))).toNatClampNeg)), .val (.ref nnnb3_1_3_112)] [(.int (1 : Int32)), (.int ((fun k => g104 (2 + k)) ((p5_ &&& (31 : Int32))).toNatClampNeg)), (.int (p5_ &&& (31 : Int32))), (.ref nnnb3_1_3_112)])) _
      refine XS.ixor X112.here hx rfl (hb hby at_104) rfl ?_
      show Steps p.tables e below (T112.setTop (mkF m 105 #[.val (.int p0_), .val (.int p1_), .val (.int p2_), .val (.int p3_), .val (.int p4_), .val (.int p5_), .val (.int (2 : Int32)), .val (.int (34 : Int32)), .val (.ref b93), .val (.int (p5_ &&& (31 : Int32))), .val (.int (g104 (((2 : Int32) + (p5_ &&& (31 : Int32)))).toNatClampNeg)), .val (.ref nnnb3_1_3_112)] [(.int (((fun k => g104 (2 + k)) ((p5_ &&& (31 : Int32))).toNatClampNeg) ^^^ (1 : Int32))), (.int (p5_ &&& (31 : Int32))), (.ref nnnb3_1_3_112)])) _
      refine XS.i2b X112.here hx rfl (hb hby at_105) rfl ?_
      show Steps p.tables e below (T112.setTop (mkF m 106 #[.val (.int p0_), .val (.int p1_), .val (.int p2_), .val (.int p3_), .val (.int p4_), .val (.int p5_), .val (.int (2 : Int32)), .val (.int (34 : Int32)), .val (.ref b93), .val (.int (p5_ &&& (31 : Int32))), .val (.int (g104 (((2 : Int32) + (p5_ &&& (31 : Int32)))).toNatClampNeg)), .val (.ref nnnb3_1_3_112)] [(.int ((((fun k => g104 (2 + k)) ((p5_ &&& (31 : Int32))).toNatClampNeg) ^^^ (1 : Int32)).toInt8.toInt32)), (.int (p5_ &&& (31 : Int32))), (.ref nnnb3_1_3_112)])) _
      refine st127 _ ?_
      show Steps p.tables e below (T127.setTop (mkF m 107 #[.val (.int p0_), .val (.int p1_), .val (.int p2_), .val (.int p3_), .val (.int p4_), .val (.int p5_), .val (.int (2 : Int32)), .val (.int (34 : Int32)), .val (.ref b93), .val (.int (p5_ &&& (31 : Int32))), .val (.int (g104 (((2 : Int32) + (p5_ &&& (31 : Int32)))).toNatClampNeg)), .val (.ref nnnb3_1_3_112)] [])) _
      refine XS.aload X127.here hx rfl (hb hby at_107) rfl rfl ?_
      show Steps p.tables e below (T127.setTop (mkF m 109 #[.val (.int p0_), .val (.int p1_), .val (.int p2_), .val (.int p3_), .val (.int p4_), .val (.int p5_), .val (.int (2 : Int32)), .val (.int (34 : Int32)), .val (.ref b93), .val (.int (p5_ &&& (31 : Int32))), .val (.int (g104 (((2 : Int32) + (p5_ &&& (31 : Int32)))).toNatClampNeg)), .val (.ref nnnb3_1_3_112)] [(.ref b93)])) _
      refine XS.iload X127.here hx rfl (hb hby at_109) rfl ?_
      show Steps p.tables e below (T127.setTop (mkF m 111 #[.val (.int p0_), .val (.int p1_), .val (.int p2_), .val (.int p3_), .val (.int p4_), .val (.int p5_), .val (.int (2 : Int32)), .val (.int (34 : Int32)), .val (.ref b93), .val (.int (p5_ &&& (31 : Int32))), .val (.int (g104 (((2 : Int32) + (p5_ &&& (31 : Int32)))).toNatClampNeg)), .val (.ref nnnb3_1_3_112)] [(.int (2 : Int32)), (.ref b93)])) _
      refine XS.iload X127.here hx rfl (hb hby at_111) rfl ?_
      show Steps p.tables e below (T127.setTop (mkF m 113 #[.val (.int p0_), .val (.int p1_), .val (.int p2_), .val (.int p3_), .val (.int p4_), .val (.int p5_), .val (.int (2 : Int32)), .val (.int (34 : Int32)), .val (.ref b93), .val (.int (p5_ &&& (31 : Int32))), .val (.int (g104 (((2 : Int32) + (p5_ &&& (31 : Int32)))).toNatClampNeg)), .val (.ref nnnb3_1_3_112)] [(.int (p5_ &&& (31 : Int32))), (.int (2 : Int32)), (.ref b93)])) _
      refine XS.iadd X127.here hx rfl (hb hby at_113) rfl ?_
      show Steps p.tables e below (T127.setTop (mkF m 114 #[.val (.int p0_), .val (.int p1_), .val (.int p2_), .val (.int p3_), .val (.int p4_), .val (.int p5_), .val (.int (2 : Int32)), .val (.int (34 : Int32)), .val (.ref b93), .val (.int (p5_ &&& (31 : Int32))), .val (.int (g104 (((2 : Int32) + (p5_ &&& (31 : Int32)))).toNatClampNeg)), .val (.ref nnnb3_1_3_112)] [(.int ((2 : Int32) + (p5_ &&& (31 : Int32)))), (.ref b93)])) _
      refine X127.baloadBytes hx (j := ((2 : Int32) + (p5_ &&& (31 : Int32)))) (v := (.int (g104 (((2 : Int32) + (p5_ &&& (31 : Int32)))).toNatClampNeg))) (by rw [e127]; exact r133.1) (State.isArrayOf_alike hZ.alike r133.2.1) r133.2.2 hin133 hat133 (g := (mkF m 114 #[.val (.int p0_), .val (.int p1_), .val (.int p2_), .val (.int p3_), .val (.int p4_), .val (.int p5_), .val (.int (2 : Int32)), .val (.int (34 : Int32)), .val (.ref b93), .val (.int (p5_ &&& (31 : Int32))), .val (.int (g104 (((2 : Int32) + (p5_ &&& (31 : Int32)))).toNatClampNeg)), .val (.ref nnnb3_1_3_112)] [(.int ((2 : Int32) + (p5_ &&& (31 : Int32)))), (.ref b93)])) rfl rfl (hb hby at_114) _ ?_
      show Steps p.tables e below (T127.setTop (mkF m 115 #[.val (.int p0_), .val (.int p1_), .val (.int p2_), .val (.int p3_), .val (.int p4_), .val (.int p5_), .val (.int (2 : Int32)), .val (.int (34 : Int32)), .val (.ref b93), .val (.int (p5_ &&& (31 : Int32))), .val (.int (g104 (((2 : Int32) + (p5_ &&& (31 : Int32)))).toNatClampNeg)), .val (.ref nnnb3_1_3_112)] [(.int (g104 (((2 : Int32) + (p5_ &&& (31 : Int32)))).toNatClampNeg))])) _
      refine XS.iload X127.here hx rfl (hb hby at_115) rfl ?_
      show Steps p.tables e below (T127.setTop (mkF m 117 #[.val (.int p0_), .val (.int p1_), .val (.int p2_), .val (.int p3_), .val (.int p4_), .val (.int p5_), .val (.int (2 : Int32)), .val (.int (34 : Int32)), .val (.ref b93), .val (.int (p5_ &&& (31 : Int32))), .val (.int (g104 (((2 : Int32) + (p5_ &&& (31 : Int32)))).toNatClampNeg)), .val (.ref nnnb3_1_3_112)] [(.int (g104 (((2 : Int32) + (p5_ &&& (31 : Int32)))).toNatClampNeg)), (.int (g104 (((2 : Int32) + (p5_ &&& (31 : Int32)))).toNatClampNeg))])) _
      refine XS.icmpNo X127.here hx rfl (hb hby at_117) rfl (teq (rfl : (g104 (((2 : Int32) + (p5_ &&& (31 : Int32)))).toNatClampNeg) = (g104 (((2 : Int32) + (p5_ &&& (31 : Int32)))).toNatClampNeg))).2 ?_
      show Steps p.tables e below (T127.setTop (mkF m 120 #[.val (.int p0_), .val (.int p1_), .val (.int p2_), .val (.int p3_), .val (.int p4_), .val (.int p5_), .val (.int (2 : Int32)), .val (.int (34 : Int32)), .val (.ref b93), .val (.int (p5_ &&& (31 : Int32))), .val (.int (g104 (((2 : Int32) + (p5_ &&& (31 : Int32)))).toNatClampNeg)), .val (.ref nnnb3_1_3_112)] [])) _
      refine XS.iconst X127.here hx rfl (hb hby at_120) ?_
      show Steps p.tables e below (T127.setTop (mkF m 121 #[.val (.int p0_), .val (.int p1_), .val (.int p2_), .val (.int p3_), .val (.int p4_), .val (.int p5_), .val (.int (2 : Int32)), .val (.int (34 : Int32)), .val (.ref b93), .val (.int (p5_ &&& (31 : Int32))), .val (.int (g104 (((2 : Int32) + (p5_ &&& (31 : Int32)))).toNatClampNeg)), .val (.ref nnnb3_1_3_112)] [(.int (1 : Int32))])) _
      refine XS.goto X127.here hx rfl (pc0 := 121) (pc' := 125) rfl (hb hby at_121) (by decide) (by decide) ?_
      exact kt
    obtain ⟨fs, hr, hrun, hended, hW, hsame⟩ := X127.leave (v := some (.int (1 : Int32))) (fun h => by rw [Bd.returns] at h; cases h)
    refine ⟨_, _, pre134 _ (retN X127 hx (t := .boolean) Bd.returns (by simp) (hb hby at_125) hr), hrun, hended, _, _, rfl, ?_, ⟨_, rfl⟩, hW, hsame.mono (by decide) (by decide)⟩
    show QLaw Z p0_ p1_ p2_ p3_ p4_ p5_ h0 n0 _ T127.heap _
    rw [e127]
    exact ⟨rfl, N128⟩
  · have pre136 : ∀ t, Steps p.tables e below (s₁.setTop (mkF m 3 #[.val (.int p0_), .val (.int p1_), .val (.int p2_), .val (.int p3_), .val (.int p4_), .val (.int p5_), .unset, .unset, .unset, .unset, .unset, .unset] [(.int (3 : Int32))])) t → Steps p.tables e below (s₁.setTop (entryFrame m #[(.int p0_), (.int p1_), (.int p2_), (.int p3_), (.int p4_), (.int p5_)] maxLocals)) t := fun t kt => pre1 t (by rw [hv3]; exact kt)
    obtain ⟨T137, h137, k137, X137, e137, E137, A137, Z137, st137⟩ := newPE X0 hx hZ (hw _ (List.mem_of_getElem? (i := 0) rfl)) e0 (g := (mkF m 14 #[.val (.int p0_), .val (.int p1_), .val (.int p2_), .val (.int p3_), .val (.int p4_), .val (.int p5_), .val (.int (3 : Int32)), .val (.int (35 : Int32)), .unset, .unset, .unset, .unset] [(.int (35 : Int32))])) rfl (hb hby at_14) rfl (by decide) (cap := 35) (by decide) (by decide) (by decide) (by decide) (ad := "[B") (by decide)
    obtain ⟨b137, g137⟩ : ∃ z, z = h0.size := ⟨_, rfl⟩
    rw [← g137] at A137 Z137 st137
    have ge138 : n0 ≤ b137 := Nat.le_trans (Nat.le_trans (Nat.le_of_eq O0.1.symm) O0.2.1) (Nat.le_of_eq g137.symm)
    have sz139 : h0.size ≤ b137 := Nat.le_trans K0.1 (Nat.le_of_eq g137.symm)
    have f140 : Arv Z h137 b137 k137 .byte (35 : Int32) (own_l 35 (fun _ => (0 : Int32))) (.int (0 : Int32)) := (Arv.new A137 (by decide)).pad (own_l_pad 35)
    have hn141 : ¬ (((p1_ &&& (2147483647 : Int32)) % (35 : Int32)) < (0 : Int32)) := (own_modr35 _).1
    have hn142 : ((p1_ &&& (2147483647 : Int32)) % (35 : Int32)) < (35 : Int32) := (own_modr35 _).2
    obtain ⟨c143, r143, q143, s143, z143, y143, G143⟩ := id f140
    have hin143 : ¬ (((p1_ &&& (2147483647 : Int32)) % (35 : Int32)) < 0 ∨ c143.slots.size ≤ (((p1_ &&& (2147483647 : Int32)) % (35 : Int32))).toNatClampNeg) := inb_of s143 ⟨hn141, hn142⟩
    obtain ⟨T143, h143, X143, e143, W143, st143⟩ := stB X137 hx hZ e137 r143 (j := ((p1_ &&& (2147483647 : Int32)) % (35 : Int32))) hin143 (g := (mkF m 29 #[.val (.int p0_), .val (.int p1_), .val (.int p2_), .val (.int p3_), .val (.int p4_), .val (.int p5_), .val (.int (3 : Int32)), .val (.int (35 : Int32)), .val (.ref b137), .unset, .unset, .unset] [(.int (p2_.toInt8.toInt32)), (.int ((p1_ &&& (2147483647 : Int32)) % (35 : Int32))), (.ref b137)])) rfl rfl (hb hby at_29)
    have N144 := Fr.snoc X143 N0 ge138
    have lt143 : (((p1_ &&& (2147483647 : Int32)) % (35 : Int32))).toNatClampNeg < 35 := own_lt s143 hin143
    obtain ⟨g143, hg143_⟩ : ∃ g : Nat → Int32, g = (fun k => if k = (((p1_ &&& (2147483647 : Int32)) % (35 : Int32))).toNatClampNeg then ((p2_.toInt8.toInt32).toInt8.toInt32) else (fun _ => (0 : Int32)) k) := ⟨_, rfl⟩
    have f145 : Arv Z h143 b137 k137 .byte (35 : Int32) (own_l 35 g143) (.int (0 : Int32)) := by
      have q : Arv Z h143 b137 k137 .byte (35 : Int32) (List.set (own_l 35 (fun _ => (0 : Int32))) (((p1_ &&& (2147483647 : Int32)) % (35 : Int32))).toNatClampNeg (.int ((p2_.toInt8.toInt32).toInt8.toInt32))) (.int (0 : Int32)) := Arv.set r143 q143 s143 z143 y143 G143 (fits_nar_byte _) W143 (((p1_ &&& (2147483647 : Int32)) % (35 : Int32))).toNatClampNeg rfl (by rw [own_l_len]; exact lt143)
      rw [own_l_set, ← hg143_] at q
      exact q
    have hn146 : ¬ (((p3_ &&& (2147483647 : Int32)) % (35 : Int32)) < (0 : Int32)) := (own_modr35 _).1
    have hn147 : ((p3_ &&& (2147483647 : Int32)) % (35 : Int32)) < (35 : Int32) := (own_modr35 _).2
    obtain ⟨c148, r148, q148, s148, z148, y148, G148⟩ := id f145
    have hin148 : ¬ (((p3_ &&& (2147483647 : Int32)) % (35 : Int32)) < 0 ∨ c148.slots.size ≤ (((p3_ &&& (2147483647 : Int32)) % (35 : Int32))).toNatClampNeg) := inb_of s148 ⟨hn146, hn147⟩
    obtain ⟨T148, h148, X148, e148, W148, st148⟩ := stB X143 hx hZ e143 r148 (j := ((p3_ &&& (2147483647 : Int32)) % (35 : Int32))) hin148 (g := (mkF m 42 #[.val (.int p0_), .val (.int p1_), .val (.int p2_), .val (.int p3_), .val (.int p4_), .val (.int p5_), .val (.int (3 : Int32)), .val (.int (35 : Int32)), .val (.ref b137), .unset, .unset, .unset] [(.int (p4_.toInt8.toInt32)), (.int ((p3_ &&& (2147483647 : Int32)) % (35 : Int32))), (.ref b137)])) rfl rfl (hb hby at_42)
    have N149 := Fr.snoc X148 N144 ge138
    have lt148 : (((p3_ &&& (2147483647 : Int32)) % (35 : Int32))).toNatClampNeg < 35 := own_lt s148 hin148
    obtain ⟨g148, hg148_⟩ : ∃ g : Nat → Int32, g = (fun k => if k = (((p3_ &&& (2147483647 : Int32)) % (35 : Int32))).toNatClampNeg then ((p4_.toInt8.toInt32).toInt8.toInt32) else g143 k) := ⟨_, rfl⟩
    have f150 : Arv Z h148 b137 k137 .byte (35 : Int32) (own_l 35 g148) (.int (0 : Int32)) := by
      have q : Arv Z h148 b137 k137 .byte (35 : Int32) (List.set (own_l 35 g143) (((p3_ &&& (2147483647 : Int32)) % (35 : Int32))).toNatClampNeg (.int ((p4_.toInt8.toInt32).toInt8.toInt32))) (.int (0 : Int32)) := Arv.set r148 q148 s148 z148 y148 G148 (fits_nar_byte _) W148 (((p3_ &&& (2147483647 : Int32)) % (35 : Int32))).toNatClampNeg rfl (by rw [own_l_len]; exact lt148)
      rw [own_l_set, ← hg148_] at q
      exact q
    have hn151 : ¬ ((p5_ &&& (31 : Int32)) < (0 : Int32)) := (own_i _).1
    have hn152 : (p5_ &&& (31 : Int32)) < (32 : Int32) := (own_i _).2.1
    have hn153 : ¬ (((3 : Int32) + (p5_ &&& (31 : Int32))) < (0 : Int32)) := (own_e3 _).1
    have hn154 : ((3 : Int32) + (p5_ &&& (31 : Int32))) < (35 : Int32) := (own_e3 _).2.1
    obtain ⟨c155, r155, q155, s155, z155, y155, G155⟩ := id f150
    have hin155 : ¬ (((3 : Int32) + (p5_ &&& (31 : Int32))) < 0 ∨ c155.slots.size ≤ (((3 : Int32) + (p5_ &&& (31 : Int32)))).toNatClampNeg) := inb_of s155 ⟨hn153, hn154⟩
    have hat155 : c155.slots[(((3 : Int32) + (p5_ &&& (31 : Int32)))).toNatClampNeg]? = some (.int (g148 (((3 : Int32) + (p5_ &&& (31 : Int32)))).toNatClampNeg)) := Has.at y155 hin155 (own_l_get _ _ _ (show _ < 35 from own_lt s155 hin155))
    have f157 : Exa Z h143 b137 "[B" := Z137.wr W143
    have f158 : Exa Z h148 b137 "[B" := f157.wr W148
    have f159 : Old Z n0 h137 := O0.ext E137
    have f160 : Old Z n0 h143 := f159.wr W143 ge138
    have f161 : Old Z n0 h148 := f160.wr W148 ge138
    obtain ⟨_, _, ⟨T156, L156, k156, n156⟩, -, X156, ⟨Lc156, hQ156, l156, y156, z156⟩, st156⟩ := Jvm.LawKit.callS X148 hx (y := (⟨"com/example/aeacus/aeacus/log/Chain", "value", "([B)[B"⟩ : MethodName)) hown (mvT hZ (hw _ (List.mem_of_getElem? (i := 2) rfl))) (mvT hZ (hw _ (List.mem_of_getElem? (i := 3) rfl))) (mvT hZ (hw _ (List.mem_of_getElem? (i := 4) rfl))) (mvT hZ (hw _ (List.mem_of_getElem? (i := 5) rfl))) (by decide) (backOf (W := 0) (rmvalue12 l Z a0 hw [] b137 k137 g148 h148 n0 f161 f150 f158) hZ (hw _ (List.mem_of_getElem? (i := 5) rfl)) (hw _ (List.mem_of_getElem? (i := 4) rfl)) (by decide) (by decide)) (g := (mkF m 62 #[.val (.int p0_), .val (.int p1_), .val (.int p2_), .val (.int p3_), .val (.int p4_), .val (.int p5_), .val (.int (3 : Int32)), .val (.int (35 : Int32)), .val (.ref b137), .val (.int (p5_ &&& (31 : Int32))), .val (.int (g148 (((3 : Int32) + (p5_ &&& (31 : Int32)))).toNatClampNeg)), .unset] [(.ref b137)])) rfl (by rw [hml]; rfl) (argsL := [(.ref b137)]) (rest := []) (lenOf pd_1 rfl) rfl (by show 2 * 0 + _ ≤ _; exact Nat.le_of_eq rfl) (hb hby at_62) (fun _ _ => ⟨rfl, e148, (by decide : 1 + 1 ≤ _), (by decide : 35 + 32 ≤ _)⟩)
    dsimp only [Pt.U, Pt.locs, Pt.cells, Pt.slots] at X156 l156 y156 z156 st156 hQ156
    subst l156 y156 z156
    obtain ⟨h156, e156⟩ : ∃ z, T156.heap = z := ⟨_, rfl⟩
    rw [e156] at hQ156
    obtain ⟨k3_1_3_156, nnnb3_1_3_156, rfl, N156q, K156, sznnnb3_1_3_156, g156_0, g156_1⟩ := hQ156
    have N162 := Fr.app N149 N156q
    have ge163 : n0 ≤ nnnb3_1_3_156 := Nat.le_trans (Nat.le_trans (Nat.le_of_eq f161.1.symm) f161.2.1) sznnnb3_1_3_156
    have f164 : Keep h0 h137 [] := K0.ext E137
    have f165 : Keep h0 h143 [] := f164.wr W143 (Or.inr sz139)
    have f166 : Keep h0 h148 [] := f165.wr W148 (Or.inr sz139)
    have sz167 : h0.size ≤ nnnb3_1_3_156 := Nat.le_trans f166.1 sznnnb3_1_3_156
    obtain ⟨c168, r168, q168, s168, z168, y168, G168⟩ := id g156_0
    obtain ⟨c169, r169, q169, s169, z169, y169, G169⟩ := id g156_0
    have hin169 : ¬ ((p5_ &&& (31 : Int32)) < 0 ∨ c169.slots.size ≤ ((p5_ &&& (31 : Int32))).toNatClampNeg) := inb_of s169 ⟨hn151, hn152⟩
    have hat169 : c169.slots[((p5_ &&& (31 : Int32))).toNatClampNeg]? = some (.int ((fun k => g148 (3 + k)) ((p5_ &&& (31 : Int32))).toNatClampNeg)) := Has.at y169 hin169 (own_l_get _ _ _ (show _ < 32 from own_lt s169 hin169))
    obtain ⟨c170, r170, q170, s170, z170, y170, G170⟩ := id g156_0
    have hin170 : ¬ ((p5_ &&& (31 : Int32)) < 0 ∨ c170.slots.size ≤ ((p5_ &&& (31 : Int32))).toNatClampNeg) := inb_of s170 ⟨hn151, hn152⟩
    have hat170 : c170.slots[((p5_ &&& (31 : Int32))).toNatClampNeg]? = some (.int ((fun k => g148 (3 + k)) ((p5_ &&& (31 : Int32))).toNatClampNeg)) := Has.at y170 hin170 (own_l_get _ _ _ (show _ < 32 from own_lt s170 hin170))
    obtain ⟨c171, r171, q171, s171, z171, y171, G171⟩ := id g156_0
    have hin171 : ¬ ((p5_ &&& (31 : Int32)) < 0 ∨ c171.slots.size ≤ ((p5_ &&& (31 : Int32))).toNatClampNeg) := inb_of s171 ⟨hn151, hn152⟩
    obtain ⟨T171, h171, X171, e171, W171, st171⟩ := stB X156 hx hZ e156 r171 (j := (p5_ &&& (31 : Int32))) hin171 (g := (mkF m 106 #[.val (.int p0_), .val (.int p1_), .val (.int p2_), .val (.int p3_), .val (.int p4_), .val (.int p5_), .val (.int (3 : Int32)), .val (.int (35 : Int32)), .val (.ref b137), .val (.int (p5_ &&& (31 : Int32))), .val (.int (g148 (((3 : Int32) + (p5_ &&& (31 : Int32)))).toNatClampNeg)), .val (.ref nnnb3_1_3_156)] [(.int ((((fun k => g148 (3 + k)) ((p5_ &&& (31 : Int32))).toNatClampNeg) ^^^ (1 : Int32)).toInt8.toInt32)), (.int (p5_ &&& (31 : Int32))), (.ref nnnb3_1_3_156)])) rfl rfl (hb hby at_106)
    have N172 := Fr.snoc X171 N162 ge163
    have lt171 : ((p5_ &&& (31 : Int32))).toNatClampNeg < 32 := own_lt s171 hin171
    obtain ⟨g171, hg171_⟩ : ∃ g : Nat → Int32, g = (fun k => if k = ((p5_ &&& (31 : Int32))).toNatClampNeg then (((((fun k => g148 (3 + k)) ((p5_ &&& (31 : Int32))).toNatClampNeg) ^^^ (1 : Int32)).toInt8.toInt32).toInt8.toInt32) else (fun k => g148 (3 + k)) k) := ⟨_, rfl⟩
    have f173 : Arv Z h171 nnnb3_1_3_156 k3_1_3_156 .byte (32 : Int32) (own_l 32 g171) (.int (0 : Int32)) := by
      have q : Arv Z h171 nnnb3_1_3_156 k3_1_3_156 .byte (32 : Int32) (List.set (own_l 32 (fun k => g148 (3 + k))) ((p5_ &&& (31 : Int32))).toNatClampNeg (.int (((((fun k => g148 (3 + k)) ((p5_ &&& (31 : Int32))).toNatClampNeg) ^^^ (1 : Int32)).toInt8.toInt32).toInt8.toInt32))) (.int (0 : Int32)) := Arv.set r171 q171 s171 z171 y171 G171 (fits_nar_byte _) W171 ((p5_ &&& (31 : Int32))).toNatClampNeg rfl (by rw [own_l_len]; exact lt171)
      rw [own_l_set, ← hg171_] at q
      exact q
    have f174 : Arv Z h156 b137 k137 .byte (35 : Int32) (own_l 35 g148) (.int (0 : Int32)) := f150.keep K156 nin0
    have ne176 : b137 ≠ nnnb3_1_3_156 := Nat.ne_of_lt (Nat.lt_of_lt_of_le f150.lt sznnnb3_1_3_156)
    have f175 : Arv Z h171 b137 k137 .byte (35 : Int32) (own_l 35 g148) (.int (0 : Int32)) := f174.other W171 ne176
    obtain ⟨c177, r177, q177, s177, z177, y177, G177⟩ := id f175
    have hin177 : ¬ (((3 : Int32) + (p5_ &&& (31 : Int32))) < 0 ∨ c177.slots.size ≤ (((3 : Int32) + (p5_ &&& (31 : Int32)))).toNatClampNeg) := inb_of s177 ⟨hn153, hn154⟩
    have hat177 : c177.slots[(((3 : Int32) + (p5_ &&& (31 : Int32)))).toNatClampNeg]? = some (.int (g148 (((3 : Int32) + (p5_ &&& (31 : Int32)))).toNatClampNeg)) := Has.at y177 hin177 (own_l_get _ _ _ (show _ < 35 from own_lt s177 hin177))
    have pre178 : ∀ t, Steps p.tables e below (T171.setTop (mkF m 125 #[.val (.int p0_), .val (.int p1_), .val (.int p2_), .val (.int p3_), .val (.int p4_), .val (.int p5_), .val (.int (3 : Int32)), .val (.int (35 : Int32)), .val (.ref b137), .val (.int (p5_ &&& (31 : Int32))), .val (.int (g148 (((3 : Int32) + (p5_ &&& (31 : Int32)))).toNatClampNeg)), .val (.ref nnnb3_1_3_156)] [(.int (1 : Int32))])) t → Steps p.tables e below (s₁.setTop (entryFrame m #[(.int p0_), (.int p1_), (.int p2_), (.int p3_), (.int p4_), (.int p5_)] maxLocals)) t := by
      intro t kt
      refine pre136 t ?_
      show Steps p.tables e below (s₁.setTop (mkF m 3 #[.val (.int p0_), .val (.int p1_), .val (.int p2_), .val (.int p3_), .val (.int p4_), .val (.int p5_), .unset, .unset, .unset, .unset, .unset, .unset] [(.int (3 : Int32))])) _
      refine XS.istore X0.here hx rfl (hb hby at_3) rfl (l' := #[.val (.int p0_), .val (.int p1_), .val (.int p2_), .val (.int p3_), .val (.int p4_), .val (.int p5_), .val (.int (3 : Int32)), .unset, .unset, .unset, .unset, .unset]) rfl ?_
      show Steps p.tables e below (s₁.setTop (mkF m 5 #[.val (.int p0_), .val (.int p1_), .val (.int p2_), .val (.int p3_), .val (.int p4_), .val (.int p5_), .val (.int (3 : Int32)), .unset, .unset, .unset, .unset, .unset] [])) _
      refine XS.bipush X0.here hx rfl (hb hby at_5) ?_
      show Steps p.tables e below (s₁.setTop (mkF m 7 #[.val (.int p0_), .val (.int p1_), .val (.int p2_), .val (.int p3_), .val (.int p4_), .val (.int p5_), .val (.int (3 : Int32)), .unset, .unset, .unset, .unset, .unset] [(.int (32 : Int32))])) _
      refine XS.iload X0.here hx rfl (hb hby at_7) rfl ?_
      show Steps p.tables e below (s₁.setTop (mkF m 9 #[.val (.int p0_), .val (.int p1_), .val (.int p2_), .val (.int p3_), .val (.int p4_), .val (.int p5_), .val (.int (3 : Int32)), .unset, .unset, .unset, .unset, .unset] [(.int (3 : Int32)), (.int (32 : Int32))])) _
      refine XS.iadd X0.here hx rfl (hb hby at_9) rfl ?_
      show Steps p.tables e below (s₁.setTop (mkF m 10 #[.val (.int p0_), .val (.int p1_), .val (.int p2_), .val (.int p3_), .val (.int p4_), .val (.int p5_), .val (.int (3 : Int32)), .unset, .unset, .unset, .unset, .unset] [(.int (35 : Int32))])) _
      refine XS.istore X0.here hx rfl (hb hby at_10) rfl (l' := #[.val (.int p0_), .val (.int p1_), .val (.int p2_), .val (.int p3_), .val (.int p4_), .val (.int p5_), .val (.int (3 : Int32)), .val (.int (35 : Int32)), .unset, .unset, .unset, .unset]) rfl ?_
      show Steps p.tables e below (s₁.setTop (mkF m 12 #[.val (.int p0_), .val (.int p1_), .val (.int p2_), .val (.int p3_), .val (.int p4_), .val (.int p5_), .val (.int (3 : Int32)), .val (.int (35 : Int32)), .unset, .unset, .unset, .unset] [])) _
      refine XS.iload X0.here hx rfl (hb hby at_12) rfl ?_
      show Steps p.tables e below (s₁.setTop (mkF m 14 #[.val (.int p0_), .val (.int p1_), .val (.int p2_), .val (.int p3_), .val (.int p4_), .val (.int p5_), .val (.int (3 : Int32)), .val (.int (35 : Int32)), .unset, .unset, .unset, .unset] [(.int (35 : Int32))])) _
      refine st137 _ ?_
      show Steps p.tables e below (T137.setTop (mkF m 16 #[.val (.int p0_), .val (.int p1_), .val (.int p2_), .val (.int p3_), .val (.int p4_), .val (.int p5_), .val (.int (3 : Int32)), .val (.int (35 : Int32)), .unset, .unset, .unset, .unset] [(.ref b137)])) _
      refine XS.astore X137.here hx rfl (hb hby at_16) rfl rfl (l' := #[.val (.int p0_), .val (.int p1_), .val (.int p2_), .val (.int p3_), .val (.int p4_), .val (.int p5_), .val (.int (3 : Int32)), .val (.int (35 : Int32)), .val (.ref b137), .unset, .unset, .unset]) rfl ?_
      show Steps p.tables e below (T137.setTop (mkF m 18 #[.val (.int p0_), .val (.int p1_), .val (.int p2_), .val (.int p3_), .val (.int p4_), .val (.int p5_), .val (.int (3 : Int32)), .val (.int (35 : Int32)), .val (.ref b137), .unset, .unset, .unset] [])) _
      refine XS.aload X137.here hx rfl (hb hby at_18) rfl rfl ?_
      show Steps p.tables e below (T137.setTop (mkF m 20 #[.val (.int p0_), .val (.int p1_), .val (.int p2_), .val (.int p3_), .val (.int p4_), .val (.int p5_), .val (.int (3 : Int32)), .val (.int (35 : Int32)), .val (.ref b137), .unset, .unset, .unset] [(.ref b137)])) _
      refine XS.iloadN X137.here hx rfl (hb hby at_20) rfl ?_
      show Steps p.tables e below (T137.setTop (mkF m 21 #[.val (.int p0_), .val (.int p1_), .val (.int p2_), .val (.int p3_), .val (.int p4_), .val (.int p5_), .val (.int (3 : Int32)), .val (.int (35 : Int32)), .val (.ref b137), .unset, .unset, .unset] [(.int p1_), (.ref b137)])) _
      refine X137.ldcInt hx hown (mvT hZ (hw _ (List.mem_of_getElem? (i := 1) rfl))) (g := (mkF m 21 #[.val (.int p0_), .val (.int p1_), .val (.int p2_), .val (.int p3_), .val (.int p4_), .val (.int p5_), .val (.int (3 : Int32)), .val (.int (35 : Int32)), .val (.ref b137), .unset, .unset, .unset] [(.int p1_), (.ref b137)])) rfl (hb hby at_21) _ ?_
      show Steps p.tables e below (T137.setTop (mkF m 23 #[.val (.int p0_), .val (.int p1_), .val (.int p2_), .val (.int p3_), .val (.int p4_), .val (.int p5_), .val (.int (3 : Int32)), .val (.int (35 : Int32)), .val (.ref b137), .unset, .unset, .unset] [(.int (2147483647 : Int32)), (.int p1_), (.ref b137)])) _
      refine XS.iand X137.here hx rfl (hb hby at_23) rfl ?_
      show Steps p.tables e below (T137.setTop (mkF m 24 #[.val (.int p0_), .val (.int p1_), .val (.int p2_), .val (.int p3_), .val (.int p4_), .val (.int p5_), .val (.int (3 : Int32)), .val (.int (35 : Int32)), .val (.ref b137), .unset, .unset, .unset] [(.int (p1_ &&& (2147483647 : Int32))), (.ref b137)])) _
      refine XS.iload X137.here hx rfl (hb hby at_24) rfl ?_
      show Steps p.tables e below (T137.setTop (mkF m 26 #[.val (.int p0_), .val (.int p1_), .val (.int p2_), .val (.int p3_), .val (.int p4_), .val (.int p5_), .val (.int (3 : Int32)), .val (.int (35 : Int32)), .val (.ref b137), .unset, .unset, .unset] [(.int (35 : Int32)), (.int (p1_ &&& (2147483647 : Int32))), (.ref b137)])) _
      refine iremM (g := (mkF m 26 #[.val (.int p0_), .val (.int p1_), .val (.int p2_), .val (.int p3_), .val (.int p4_), .val (.int p5_), .val (.int (3 : Int32)), .val (.int (35 : Int32)), .val (.ref b137), .unset, .unset, .unset] [(.int (35 : Int32)), (.int (p1_ &&& (2147483647 : Int32))), (.ref b137)])) X137 hx rfl (hb hby at_26) rfl (by decide) ?_
      show Steps p.tables e below (T137.setTop (mkF m 27 #[.val (.int p0_), .val (.int p1_), .val (.int p2_), .val (.int p3_), .val (.int p4_), .val (.int p5_), .val (.int (3 : Int32)), .val (.int (35 : Int32)), .val (.ref b137), .unset, .unset, .unset] [(.int ((p1_ &&& (2147483647 : Int32)) % (35 : Int32))), (.ref b137)])) _
      refine XS.iloadN X137.here hx rfl (hb hby at_27) rfl ?_
      show Steps p.tables e below (T137.setTop (mkF m 28 #[.val (.int p0_), .val (.int p1_), .val (.int p2_), .val (.int p3_), .val (.int p4_), .val (.int p5_), .val (.int (3 : Int32)), .val (.int (35 : Int32)), .val (.ref b137), .unset, .unset, .unset] [(.int p2_), (.int ((p1_ &&& (2147483647 : Int32)) % (35 : Int32))), (.ref b137)])) _
      refine XS.i2b X137.here hx rfl (hb hby at_28) rfl ?_
      show Steps p.tables e below (T137.setTop (mkF m 29 #[.val (.int p0_), .val (.int p1_), .val (.int p2_), .val (.int p3_), .val (.int p4_), .val (.int p5_), .val (.int (3 : Int32)), .val (.int (35 : Int32)), .val (.ref b137), .unset, .unset, .unset] [(.int (p2_.toInt8.toInt32)), (.int ((p1_ &&& (2147483647 : Int32)) % (35 : Int32))), (.ref b137)])) _
      refine st143 _ ?_
      show Steps p.tables e below (T143.setTop (mkF m 30 #[.val (.int p0_), .val (.int p1_), .val (.int p2_), .val (.int p3_), .val (.int p4_), .val (.int p5_), .val (.int (3 : Int32)), .val (.int (35 : Int32)), .val (.ref b137), .unset, .unset, .unset] [])) _
      refine XS.aload X143.here hx rfl (hb hby at_30) rfl rfl ?_
      show Steps p.tables e below (T143.setTop (mkF m 32 #[.val (.int p0_), .val (.int p1_), .val (.int p2_), .val (.int p3_), .val (.int p4_), .val (.int p5_), .val (.int (3 : Int32)), .val (.int (35 : Int32)), .val (.ref b137), .unset, .unset, .unset] [(.ref b137)])) _
      refine XS.iloadN X143.here hx rfl (hb hby at_32) rfl ?_
      show Steps p.tables e below (T143.setTop (mkF m 33 #[.val (.int p0_), .val (.int p1_), .val (.int p2_), .val (.int p3_), .val (.int p4_), .val (.int p5_), .val (.int (3 : Int32)), .val (.int (35 : Int32)), .val (.ref b137), .unset, .unset, .unset] [(.int p3_), (.ref b137)])) _
      refine X143.ldcInt hx hown (mvT hZ (hw _ (List.mem_of_getElem? (i := 1) rfl))) (g := (mkF m 33 #[.val (.int p0_), .val (.int p1_), .val (.int p2_), .val (.int p3_), .val (.int p4_), .val (.int p5_), .val (.int (3 : Int32)), .val (.int (35 : Int32)), .val (.ref b137), .unset, .unset, .unset] [(.int p3_), (.ref b137)])) rfl (hb hby at_33) _ ?_
      show Steps p.tables e below (T143.setTop (mkF m 35 #[.val (.int p0_), .val (.int p1_), .val (.int p2_), .val (.int p3_), .val (.int p4_), .val (.int p5_), .val (.int (3 : Int32)), .val (.int (35 : Int32)), .val (.ref b137), .unset, .unset, .unset] [(.int (2147483647 : Int32)), (.int p3_), (.ref b137)])) _
      refine XS.iand X143.here hx rfl (hb hby at_35) rfl ?_
      show Steps p.tables e below (T143.setTop (mkF m 36 #[.val (.int p0_), .val (.int p1_), .val (.int p2_), .val (.int p3_), .val (.int p4_), .val (.int p5_), .val (.int (3 : Int32)), .val (.int (35 : Int32)), .val (.ref b137), .unset, .unset, .unset] [(.int (p3_ &&& (2147483647 : Int32))), (.ref b137)])) _
      refine XS.iload X143.here hx rfl (hb hby at_36) rfl ?_
      show Steps p.tables e below (T143.setTop (mkF m 38 #[.val (.int p0_), .val (.int p1_), .val (.int p2_), .val (.int p3_), .val (.int p4_), .val (.int p5_), .val (.int (3 : Int32)), .val (.int (35 : Int32)), .val (.ref b137), .unset, .unset, .unset] [(.int (35 : Int32)), (.int (p3_ &&& (2147483647 : Int32))), (.ref b137)])) _
      refine iremM (g := (mkF m 38 #[.val (.int p0_), .val (.int p1_), .val (.int p2_), .val (.int p3_), .val (.int p4_), .val (.int p5_), .val (.int (3 : Int32)), .val (.int (35 : Int32)), .val (.ref b137), .unset, .unset, .unset] [(.int (35 : Int32)), (.int (p3_ &&& (2147483647 : Int32))), (.ref b137)])) X143 hx rfl (hb hby at_38) rfl (by decide) ?_
      show Steps p.tables e below (T143.setTop (mkF m 39 #[.val (.int p0_), .val (.int p1_), .val (.int p2_), .val (.int p3_), .val (.int p4_), .val (.int p5_), .val (.int (3 : Int32)), .val (.int (35 : Int32)), .val (.ref b137), .unset, .unset, .unset] [(.int ((p3_ &&& (2147483647 : Int32)) % (35 : Int32))), (.ref b137)])) _
      refine XS.iload X143.here hx rfl (hb hby at_39) rfl ?_
      show Steps p.tables e below (T143.setTop (mkF m 41 #[.val (.int p0_), .val (.int p1_), .val (.int p2_), .val (.int p3_), .val (.int p4_), .val (.int p5_), .val (.int (3 : Int32)), .val (.int (35 : Int32)), .val (.ref b137), .unset, .unset, .unset] [(.int p4_), (.int ((p3_ &&& (2147483647 : Int32)) % (35 : Int32))), (.ref b137)])) _
      refine XS.i2b X143.here hx rfl (hb hby at_41) rfl ?_
      show Steps p.tables e below (T143.setTop (mkF m 42 #[.val (.int p0_), .val (.int p1_), .val (.int p2_), .val (.int p3_), .val (.int p4_), .val (.int p5_), .val (.int (3 : Int32)), .val (.int (35 : Int32)), .val (.ref b137), .unset, .unset, .unset] [(.int (p4_.toInt8.toInt32)), (.int ((p3_ &&& (2147483647 : Int32)) % (35 : Int32))), (.ref b137)])) _
      refine st148 _ ?_
      show Steps p.tables e below (T148.setTop (mkF m 43 #[.val (.int p0_), .val (.int p1_), .val (.int p2_), .val (.int p3_), .val (.int p4_), .val (.int p5_), .val (.int (3 : Int32)), .val (.int (35 : Int32)), .val (.ref b137), .unset, .unset, .unset] [])) _
      refine XS.iload X148.here hx rfl (hb hby at_43) rfl ?_
      show Steps p.tables e below (T148.setTop (mkF m 45 #[.val (.int p0_), .val (.int p1_), .val (.int p2_), .val (.int p3_), .val (.int p4_), .val (.int p5_), .val (.int (3 : Int32)), .val (.int (35 : Int32)), .val (.ref b137), .unset, .unset, .unset] [(.int p5_)])) _
      refine XS.bipush X148.here hx rfl (hb hby at_45) ?_
      show Steps p.tables e below (T148.setTop (mkF m 47 #[.val (.int p0_), .val (.int p1_), .val (.int p2_), .val (.int p3_), .val (.int p4_), .val (.int p5_), .val (.int (3 : Int32)), .val (.int (35 : Int32)), .val (.ref b137), .unset, .unset, .unset] [(.int (31 : Int32)), (.int p5_)])) _
      refine XS.iand X148.here hx rfl (hb hby at_47) rfl ?_
      show Steps p.tables e below (T148.setTop (mkF m 48 #[.val (.int p0_), .val (.int p1_), .val (.int p2_), .val (.int p3_), .val (.int p4_), .val (.int p5_), .val (.int (3 : Int32)), .val (.int (35 : Int32)), .val (.ref b137), .unset, .unset, .unset] [(.int (p5_ &&& (31 : Int32)))])) _
      refine XS.istore X148.here hx rfl (hb hby at_48) rfl (l' := #[.val (.int p0_), .val (.int p1_), .val (.int p2_), .val (.int p3_), .val (.int p4_), .val (.int p5_), .val (.int (3 : Int32)), .val (.int (35 : Int32)), .val (.ref b137), .val (.int (p5_ &&& (31 : Int32))), .unset, .unset]) rfl ?_
      show Steps p.tables e below (T148.setTop (mkF m 50 #[.val (.int p0_), .val (.int p1_), .val (.int p2_), .val (.int p3_), .val (.int p4_), .val (.int p5_), .val (.int (3 : Int32)), .val (.int (35 : Int32)), .val (.ref b137), .val (.int (p5_ &&& (31 : Int32))), .unset, .unset] [])) _
      refine XS.aload X148.here hx rfl (hb hby at_50) rfl rfl ?_
      show Steps p.tables e below (T148.setTop (mkF m 52 #[.val (.int p0_), .val (.int p1_), .val (.int p2_), .val (.int p3_), .val (.int p4_), .val (.int p5_), .val (.int (3 : Int32)), .val (.int (35 : Int32)), .val (.ref b137), .val (.int (p5_ &&& (31 : Int32))), .unset, .unset] [(.ref b137)])) _
      refine XS.iload X148.here hx rfl (hb hby at_52) rfl ?_
      show Steps p.tables e below (T148.setTop (mkF m 54 #[.val (.int p0_), .val (.int p1_), .val (.int p2_), .val (.int p3_), .val (.int p4_), .val (.int p5_), .val (.int (3 : Int32)), .val (.int (35 : Int32)), .val (.ref b137), .val (.int (p5_ &&& (31 : Int32))), .unset, .unset] [(.int (3 : Int32)), (.ref b137)])) _
      refine XS.iload X148.here hx rfl (hb hby at_54) rfl ?_
      show Steps p.tables e below (T148.setTop (mkF m 56 #[.val (.int p0_), .val (.int p1_), .val (.int p2_), .val (.int p3_), .val (.int p4_), .val (.int p5_), .val (.int (3 : Int32)), .val (.int (35 : Int32)), .val (.ref b137), .val (.int (p5_ &&& (31 : Int32))), .unset, .unset] [(.int (p5_ &&& (31 : Int32))), (.int (3 : Int32)), (.ref b137)])) _
      refine XS.iadd X148.here hx rfl (hb hby at_56) rfl ?_
      show Steps p.tables e below (T148.setTop (mkF m 57 #[.val (.int p0_), .val (.int p1_), .val (.int p2_), .val (.int p3_), .val (.int p4_), .val (.int p5_), .val (.int (3 : Int32)), .val (.int (35 : Int32)), .val (.ref b137), .val (.int (p5_ &&& (31 : Int32))), .unset, .unset] [(.int ((3 : Int32) + (p5_ &&& (31 : Int32)))), (.ref b137)])) _
      refine X148.baloadBytes hx (j := ((3 : Int32) + (p5_ &&& (31 : Int32)))) (v := (.int (g148 (((3 : Int32) + (p5_ &&& (31 : Int32)))).toNatClampNeg))) (by rw [e148]; exact r155.1) (State.isArrayOf_alike hZ.alike r155.2.1) r155.2.2 hin155 hat155 (g := (mkF m 57 #[.val (.int p0_), .val (.int p1_), .val (.int p2_), .val (.int p3_), .val (.int p4_), .val (.int p5_), .val (.int (3 : Int32)), .val (.int (35 : Int32)), .val (.ref b137), .val (.int (p5_ &&& (31 : Int32))), .unset, .unset] [(.int ((3 : Int32) + (p5_ &&& (31 : Int32)))), (.ref b137)])) rfl rfl (hb hby at_57) _ ?_
      show Steps p.tables e below (T148.setTop (mkF m 58 #[.val (.int p0_), .val (.int p1_), .val (.int p2_), .val (.int p3_), .val (.int p4_), .val (.int p5_), .val (.int (3 : Int32)), .val (.int (35 : Int32)), .val (.ref b137), .val (.int (p5_ &&& (31 : Int32))), .unset, .unset] [(.int (g148 (((3 : Int32) + (p5_ &&& (31 : Int32)))).toNatClampNeg))])) _
      refine XS.istore X148.here hx rfl (hb hby at_58) rfl (l' := #[.val (.int p0_), .val (.int p1_), .val (.int p2_), .val (.int p3_), .val (.int p4_), .val (.int p5_), .val (.int (3 : Int32)), .val (.int (35 : Int32)), .val (.ref b137), .val (.int (p5_ &&& (31 : Int32))), .val (.int (g148 (((3 : Int32) + (p5_ &&& (31 : Int32)))).toNatClampNeg)), .unset]) rfl ?_
      show Steps p.tables e below (T148.setTop (mkF m 60 #[.val (.int p0_), .val (.int p1_), .val (.int p2_), .val (.int p3_), .val (.int p4_), .val (.int p5_), .val (.int (3 : Int32)), .val (.int (35 : Int32)), .val (.ref b137), .val (.int (p5_ &&& (31 : Int32))), .val (.int (g148 (((3 : Int32) + (p5_ &&& (31 : Int32)))).toNatClampNeg)), .unset] [])) _
      refine XS.aload X148.here hx rfl (hb hby at_60) rfl rfl ?_
      show Steps p.tables e below (T148.setTop (mkF m 62 #[.val (.int p0_), .val (.int p1_), .val (.int p2_), .val (.int p3_), .val (.int p4_), .val (.int p5_), .val (.int (3 : Int32)), .val (.int (35 : Int32)), .val (.ref b137), .val (.int (p5_ &&& (31 : Int32))), .val (.int (g148 (((3 : Int32) + (p5_ &&& (31 : Int32)))).toNatClampNeg)), .unset] [(.ref b137)])) _
      refine st156 _ ?_
      show Steps p.tables e below (T156.setTop (mkF m 65 #[.val (.int p0_), .val (.int p1_), .val (.int p2_), .val (.int p3_), .val (.int p4_), .val (.int p5_), .val (.int (3 : Int32)), .val (.int (35 : Int32)), .val (.ref b137), .val (.int (p5_ &&& (31 : Int32))), .val (.int (g148 (((3 : Int32) + (p5_ &&& (31 : Int32)))).toNatClampNeg)), .unset] [(.ref nnnb3_1_3_156)])) _
      refine XS.astore X156.here hx rfl (hb hby at_65) rfl rfl (l' := #[.val (.int p0_), .val (.int p1_), .val (.int p2_), .val (.int p3_), .val (.int p4_), .val (.int p5_), .val (.int (3 : Int32)), .val (.int (35 : Int32)), .val (.ref b137), .val (.int (p5_ &&& (31 : Int32))), .val (.int (g148 (((3 : Int32) + (p5_ &&& (31 : Int32)))).toNatClampNeg)), .val (.ref nnnb3_1_3_156)]) rfl ?_
      show Steps p.tables e below (T156.setTop (mkF m 67 #[.val (.int p0_), .val (.int p1_), .val (.int p2_), .val (.int p3_), .val (.int p4_), .val (.int p5_), .val (.int (3 : Int32)), .val (.int (35 : Int32)), .val (.ref b137), .val (.int (p5_ &&& (31 : Int32))), .val (.int (g148 (((3 : Int32) + (p5_ &&& (31 : Int32)))).toNatClampNeg)), .val (.ref nnnb3_1_3_156)] [])) _
      refine XS.aload X156.here hx rfl (hb hby at_67) rfl rfl ?_
      show Steps p.tables e below (T156.setTop (mkF m 69 #[.val (.int p0_), .val (.int p1_), .val (.int p2_), .val (.int p3_), .val (.int p4_), .val (.int p5_), .val (.int (3 : Int32)), .val (.int (35 : Int32)), .val (.ref b137), .val (.int (p5_ &&& (31 : Int32))), .val (.int (g148 (((3 : Int32) + (p5_ &&& (31 : Int32)))).toNatClampNeg)), .val (.ref nnnb3_1_3_156)] [(.ref nnnb3_1_3_156)])) _
      refine XS.ifnullNo X156.here hx rfl (hb hby at_69) rfl ?_
      show Steps p.tables e below (T156.setTop (mkF m 72 #[.val (.int p0_), .val (.int p1_), .val (.int p2_), .val (.int p3_), .val (.int p4_), .val (.int p5_), .val (.int (3 : Int32)), .val (.int (35 : Int32)), .val (.ref b137), .val (.int (p5_ &&& (31 : Int32))), .val (.int (g148 (((3 : Int32) + (p5_ &&& (31 : Int32)))).toNatClampNeg)), .val (.ref nnnb3_1_3_156)] [])) _
      refine XS.aload X156.here hx rfl (hb hby at_72) rfl rfl ?_
      show Steps p.tables e below (T156.setTop (mkF m 74 #[.val (.int p0_), .val (.int p1_), .val (.int p2_), .val (.int p3_), .val (.int p4_), .val (.int p5_), .val (.int (3 : Int32)), .val (.int (35 : Int32)), .val (.ref b137), .val (.int (p5_ &&& (31 : Int32))), .val (.int (g148 (((3 : Int32) + (p5_ &&& (31 : Int32)))).toNatClampNeg)), .val (.ref nnnb3_1_3_156)] [(.ref nnnb3_1_3_156)])) _
      refine X156.arraylength hx (by rw [e156]; exact r168.1) (State.isArrayOf_alike hZ.alike r168.2.1) (g := (mkF m 74 #[.val (.int p0_), .val (.int p1_), .val (.int p2_), .val (.int p3_), .val (.int p4_), .val (.int p5_), .val (.int (3 : Int32)), .val (.int (35 : Int32)), .val (.ref b137), .val (.int (p5_ &&& (31 : Int32))), .val (.int (g148 (((3 : Int32) + (p5_ &&& (31 : Int32)))).toNatClampNeg)), .val (.ref nnnb3_1_3_156)] [(.ref nnnb3_1_3_156)])) rfl rfl (hb hby at_74) _ ?_
      rw [len_of s168 z168]
      show Steps p.tables e below (T156.setTop (mkF m 75 #[.val (.int p0_), .val (.int p1_), .val (.int p2_), .val (.int p3_), .val (.int p4_), .val (.int p5_), .val (.int (3 : Int32)), .val (.int (35 : Int32)), .val (.ref b137), .val (.int (p5_ &&& (31 : Int32))), .val (.int (g148 (((3 : Int32) + (p5_ &&& (31 : Int32)))).toNatClampNeg)), .val (.ref nnnb3_1_3_156)] [(.int (32 : Int32))])) _
      refine XS.bipush X156.here hx rfl (hb hby at_75) ?_
      show Steps p.tables e below (T156.setTop (mkF m 77 #[.val (.int p0_), .val (.int p1_), .val (.int p2_), .val (.int p3_), .val (.int p4_), .val (.int p5_), .val (.int (3 : Int32)), .val (.int (35 : Int32)), .val (.ref b137), .val (.int (p5_ &&& (31 : Int32))), .val (.int (g148 (((3 : Int32) + (p5_ &&& (31 : Int32)))).toNatClampNeg)), .val (.ref nnnb3_1_3_156)] [(.int (32 : Int32)), (.int (32 : Int32))])) _
      refine XS.icmpYes X156.here hx rfl (pc0 := 77) (pc' := 82) rfl (hb hby at_77) rfl (teq (by decide : (32 : Int32) = (32 : Int32))).1 (by decide) (by decide) ?_
      show Steps p.tables e below (T156.setTop (mkF m 82 #[.val (.int p0_), .val (.int p1_), .val (.int p2_), .val (.int p3_), .val (.int p4_), .val (.int p5_), .val (.int (3 : Int32)), .val (.int (35 : Int32)), .val (.ref b137), .val (.int (p5_ &&& (31 : Int32))), .val (.int (g148 (((3 : Int32) + (p5_ &&& (31 : Int32)))).toNatClampNeg)), .val (.ref nnnb3_1_3_156)] [])) _
      refine XS.aload X156.here hx rfl (hb hby at_82) rfl rfl ?_
      show Steps p.tables e below (T156.setTop (mkF m 84 #[.val (.int p0_), .val (.int p1_), .val (.int p2_), .val (.int p3_), .val (.int p4_), .val (.int p5_), .val (.int (3 : Int32)), .val (.int (35 : Int32)), .val (.ref b137), .val (.int (p5_ &&& (31 : Int32))), .val (.int (g148 (((3 : Int32) + (p5_ &&& (31 : Int32)))).toNatClampNeg)), .val (.ref nnnb3_1_3_156)] [(.ref nnnb3_1_3_156)])) _
      refine XS.iload X156.here hx rfl (hb hby at_84) rfl ?_
      show Steps p.tables e below (T156.setTop (mkF m 86 #[.val (.int p0_), .val (.int p1_), .val (.int p2_), .val (.int p3_), .val (.int p4_), .val (.int p5_), .val (.int (3 : Int32)), .val (.int (35 : Int32)), .val (.ref b137), .val (.int (p5_ &&& (31 : Int32))), .val (.int (g148 (((3 : Int32) + (p5_ &&& (31 : Int32)))).toNatClampNeg)), .val (.ref nnnb3_1_3_156)] [(.int (p5_ &&& (31 : Int32))), (.ref nnnb3_1_3_156)])) _
      refine X156.baloadBytes hx (j := (p5_ &&& (31 : Int32))) (v := (.int ((fun k => g148 (3 + k)) ((p5_ &&& (31 : Int32))).toNatClampNeg))) (by rw [e156]; exact r169.1) (State.isArrayOf_alike hZ.alike r169.2.1) r169.2.2 hin169 hat169 (g := (mkF m 86 #[.val (.int p0_), .val (.int p1_), .val (.int p2_), .val (.int p3_), .val (.int p4_), .val (.int p5_), .val (.int (3 : Int32)), .val (.int (35 : Int32)), .val (.ref b137), .val (.int (p5_ &&& (31 : Int32))), .val (.int (g148 (((3 : Int32) + (p5_ &&& (31 : Int32)))).toNatClampNeg)), .val (.ref nnnb3_1_3_156)] [(.int (p5_ &&& (31 : Int32))), (.ref nnnb3_1_3_156)])) rfl rfl (hb hby at_86) _ ?_
      show Steps p.tables e below (T156.setTop (mkF m 87 #[.val (.int p0_), .val (.int p1_), .val (.int p2_), .val (.int p3_), .val (.int p4_), .val (.int p5_), .val (.int (3 : Int32)), .val (.int (35 : Int32)), .val (.ref b137), .val (.int (p5_ &&& (31 : Int32))), .val (.int (g148 (((3 : Int32) + (p5_ &&& (31 : Int32)))).toNatClampNeg)), .val (.ref nnnb3_1_3_156)] [(.int ((fun k => g148 (3 + k)) ((p5_ &&& (31 : Int32))).toNatClampNeg))])) _
      refine XS.iload X156.here hx rfl (hb hby at_87) rfl ?_
      show Steps p.tables e below (T156.setTop (mkF m 89 #[.val (.int p0_), .val (.int p1_), .val (.int p2_), .val (.int p3_), .val (.int p4_), .val (.int p5_), .val (.int (3 : Int32)), .val (.int (35 : Int32)), .val (.ref b137), .val (.int (p5_ &&& (31 : Int32))), .val (.int (g148 (((3 : Int32) + (p5_ &&& (31 : Int32)))).toNatClampNeg)), .val (.ref nnnb3_1_3_156)] [(.int (g148 (((3 : Int32) + (p5_ &&& (31 : Int32)))).toNatClampNeg)), (.int ((fun k => g148 (3 + k)) ((p5_ &&& (31 : Int32))).toNatClampNeg))])) _
      refine XS.icmpYes X156.here hx rfl (pc0 := 89) (pc' := 94) rfl (hb hby at_89) rfl (teq (own_at g148 (own_e3 _).2.2)).1 (by decide) (by decide) ?_
      show Steps p.tables e below (T156.setTop (mkF m 94 #[.val (.int p0_), .val (.int p1_), .val (.int p2_), .val (.int p3_), .val (.int p4_), .val (.int p5_), .val (.int (3 : Int32)), .val (.int (35 : Int32)), .val (.ref b137), .val (.int (p5_ &&& (31 : Int32))), .val (.int (g148 (((3 : Int32) + (p5_ &&& (31 : Int32)))).toNatClampNeg)), .val (.ref nnnb3_1_3_156)] [])) _
      refine XS.aload X156.here hx rfl (hb hby at_94) rfl rfl ?_
      show Steps p.tables e below (T156.setTop (mkF m 96 #[.val (.int p0_), .val (.int p1_), .val (.int p2_), .val (.int p3_), .val (.int p4_), .val (.int p5_), .val (.int (3 : Int32)), .val (.int (35 : Int32)), .val (.ref b137), .val (.int (p5_ &&& (31 : Int32))), .val (.int (g148 (((3 : Int32) + (p5_ &&& (31 : Int32)))).toNatClampNeg)), .val (.ref nnnb3_1_3_156)] [(.ref nnnb3_1_3_156)])) _
      refine XS.iload X156.here hx rfl (hb hby at_96) rfl ?_
      show Steps p.tables e below (T156.setTop (mkF m 98 #[.val (.int p0_), .val (.int p1_), .val (.int p2_), .val (.int p3_), .val (.int p4_), .val (.int p5_), .val (.int (3 : Int32)), .val (.int (35 : Int32)), .val (.ref b137), .val (.int (p5_ &&& (31 : Int32))), .val (.int (g148 (((3 : Int32) + (p5_ &&& (31 : Int32)))).toNatClampNeg)), .val (.ref nnnb3_1_3_156)] [(.int (p5_ &&& (31 : Int32))), (.ref nnnb3_1_3_156)])) _
      refine XS.aload X156.here hx rfl (hb hby at_98) rfl rfl ?_
      show Steps p.tables e below (T156.setTop (mkF m 100 #[.val (.int p0_), .val (.int p1_), .val (.int p2_), .val (.int p3_), .val (.int p4_), .val (.int p5_), .val (.int (3 : Int32)), .val (.int (35 : Int32)), .val (.ref b137), .val (.int (p5_ &&& (31 : Int32))), .val (.int (g148 (((3 : Int32) + (p5_ &&& (31 : Int32)))).toNatClampNeg)), .val (.ref nnnb3_1_3_156)] [(.ref nnnb3_1_3_156), (.int (p5_ &&& (31 : Int32))), (.ref nnnb3_1_3_156)])) _
      refine XS.iload X156.here hx rfl (hb hby at_100) rfl ?_
      show Steps p.tables e below (T156.setTop (mkF m 102 #[.val (.int p0_), .val (.int p1_), .val (.int p2_), .val (.int p3_), .val (.int p4_), .val (.int p5_), .val (.int (3 : Int32)), .val (.int (35 : Int32)), .val (.ref b137), .val (.int (p5_ &&& (31 : Int32))), .val (.int (g148 (((3 : Int32) + (p5_ &&& (31 : Int32)))).toNatClampNeg)), .val (.ref nnnb3_1_3_156)] [(.int (p5_ &&& (31 : Int32))), (.ref nnnb3_1_3_156), (.int (p5_ &&& (31 : Int32))), (.ref nnnb3_1_3_156)])) _
      refine X156.baloadBytes hx (j := (p5_ &&& (31 : Int32))) (v := (.int ((fun k => g148 (3 + k)) ((p5_ &&& (31 : Int32))).toNatClampNeg))) (by rw [e156]; exact r170.1) (State.isArrayOf_alike hZ.alike r170.2.1) r170.2.2 hin170 hat170 (g := (mkF m 102 #[.val (.int p0_), .val (.int p1_), .val (.int p2_), .val (.int p3_), .val (.int p4_), .val (.int p5_), .val (.int (3 : Int32)), .val (.int (35 : Int32)), .val (.ref b137), .val (.int (p5_ &&& (31 : Int32))), .val (.int (g148 (((3 : Int32) + (p5_ &&& (31 : Int32)))).toNatClampNeg)), .val (.ref nnnb3_1_3_156)] [(.int (p5_ &&& (31 : Int32))), (.ref nnnb3_1_3_156), (.int (p5_ &&& (31 : Int32))), (.ref nnnb3_1_3_156)])) rfl rfl (hb hby at_102) _ ?_
      show Steps p.tables e below (T156.setTop (mkF m 103 #[.val (.int p0_), .val (.int p1_), .val (.int p2_), .val (.int p3_), .val (.int p4_), .val (.int p5_), .val (.int (3 : Int32)), .val (.int (35 : Int32)), .val (.ref b137), .val (.int (p5_ &&& (31 : Int32))), .val (.int (g148 (((3 : Int32) + (p5_ &&& (31 : Int32)))).toNatClampNeg)), .val (.ref nnnb3_1_3_156)] [(.int ((fun k => g148 (3 + k)) ((p5_ &&& (31 : Int32))).toNatClampNeg)), (.int (p5_ &&& (31 : Int32))), (.ref nnnb3_1_3_156)])) _
      refine XS.iconst X156.here hx rfl (hb hby at_103) ?_
      show Steps p.tables e below (T156.setTop (mkF m 104 #[.val (.int p0_), .val (.int p1_), .val (.int p2_), .val (.int p3_), .val (.int p4_), .val (.int p5_), .val (.int (3 : Int32)), .val (.int (35 : Int32)), .val (.ref b137), .val (.int (p5_ &&& (31 : Int32))), .val (.int (g148 (((3 : Int32) + (p5_ &&& (31 : Int32)))).toNatClampNeg)), .val (.ref nnnb3_1_3_156)] [(.int (1 : Int32)), (.int ((fun k => g148 (3 + k)) ((p5_ &&& (31 : Int32))).toNatClampNeg)), (.int (p5_ &&& (31 : Int32))), (.ref nnnb3_1_3_156)])) _
      refine XS.ixor X156.here hx rfl (hb hby at_104) rfl ?_
      show Steps p.tables e below (T156.setTop (mkF m 105 #[.val (.int p0_), .val (.int p1_), .val (.int p2_), .val (.int p3_), .val (.int p4_), .val (.int p5_), .val (.int (3 : Int32)), .val (.int (35 : Int32)), .val (.ref b137), .val (.int (p5_ &&& (31 : Int32))), .val (.int (g148 (((3 : Int32) + (p5_ &&& (31 : Int32)))).toNatClampNeg)), .val (.ref nnnb3_1_3_156)] [(.int (((fun k => g148 (3 + k)) ((p5_ &&& (31 : Int32))).toNatClampNeg) ^^^ (1 : Int32))), (.int (p5_ &&& (31 : Int32))), (.ref nnnb3_1_3_156)])) _
      refine XS.i2b X156.here hx rfl (hb hby at_105) rfl ?_
      show Steps p.tables e below (T156.setTop (mkF m 106 #[.val (.int p0_), .val (.int p1_), .val (.int p2_), .val (.int p3_), .val (.int p4_), .val (.int p5_), .val (.int (3 : Int32)), .val (.int (35 : Int32)), .val (.ref b137), .val (.int (p5_ &&& (31 : Int32))), .val (.int (g148 (((3 : Int32) + (p5_ &&& (31 : Int32)))).toNatClampNeg)), .val (.ref nnnb3_1_3_156)] [(.int ((((fun k => g148 (3 + k)) ((p5_ &&& (31 : Int32))).toNatClampNeg) ^^^ (1 : Int32)).toInt8.toInt32)), (.int (p5_ &&& (31 : Int32))), (.ref nnnb3_1_3_156)])) _
      refine st171 _ ?_
      show Steps p.tables e below (T171.setTop (mkF m 107 #[.val (.int p0_), .val (.int p1_), .val (.int p2_), .val (.int p3_), .val (.int p4_), .val (.int p5_), .val (.int (3 : Int32)), .val (.int (35 : Int32)), .val (.ref b137), .val (.int (p5_ &&& (31 : Int32))), .val (.int (g148 (((3 : Int32) + (p5_ &&& (31 : Int32)))).toNatClampNeg)), .val (.ref nnnb3_1_3_156)] [])) _
      refine XS.aload X171.here hx rfl (hb hby at_107) rfl rfl ?_
      show Steps p.tables e below (T171.setTop (mkF m 109 #[.val (.int p0_), .val (.int p1_), .val (.int p2_), .val (.int p3_), .val (.int p4_), .val (.int p5_), .val (.int (3 : Int32)), .val (.int (35 : Int32)), .val (.ref b137), .val (.int (p5_ &&& (31 : Int32))), .val (.int (g148 (((3 : Int32) + (p5_ &&& (31 : Int32)))).toNatClampNeg)), .val (.ref nnnb3_1_3_156)] [(.ref b137)])) _
      refine XS.iload X171.here hx rfl (hb hby at_109) rfl ?_
      show Steps p.tables e below (T171.setTop (mkF m 111 #[.val (.int p0_), .val (.int p1_), .val (.int p2_), .val (.int p3_), .val (.int p4_), .val (.int p5_), .val (.int (3 : Int32)), .val (.int (35 : Int32)), .val (.ref b137), .val (.int (p5_ &&& (31 : Int32))), .val (.int (g148 (((3 : Int32) + (p5_ &&& (31 : Int32)))).toNatClampNeg)), .val (.ref nnnb3_1_3_156)] [(.int (3 : Int32)), (.ref b137)])) _
      refine XS.iload X171.here hx rfl (hb hby at_111) rfl ?_
      show Steps p.tables e below (T171.setTop (mkF m 113 #[.val (.int p0_), .val (.int p1_), .val (.int p2_), .val (.int p3_), .val (.int p4_), .val (.int p5_), .val (.int (3 : Int32)), .val (.int (35 : Int32)), .val (.ref b137), .val (.int (p5_ &&& (31 : Int32))), .val (.int (g148 (((3 : Int32) + (p5_ &&& (31 : Int32)))).toNatClampNeg)), .val (.ref nnnb3_1_3_156)] [(.int (p5_ &&& (31 : Int32))), (.int (3 : Int32)), (.ref b137)])) _
      refine XS.iadd X171.here hx rfl (hb hby at_113) rfl ?_
      show Steps p.tables e below (T171.setTop (mkF m 114 #[.val (.int p0_), .val (.int p1_), .val (.int p2_), .val (.int p3_), .val (.int p4_), .val (.int p5_), .val (.int (3 : Int32)), .val (.int (35 : Int32)), .val (.ref b137), .val (.int (p5_ &&& (31 : Int32))), .val (.int (g148 (((3 : Int32) + (p5_ &&& (31 : Int32)))).toNatClampNeg)), .val (.ref nnnb3_1_3_156)] [(.int ((3 : Int32) + (p5_ &&& (31 : Int32)))), (.ref b137)])) _
      refine X171.baloadBytes hx (j := ((3 : Int32) + (p5_ &&& (31 : Int32)))) (v := (.int (g148 (((3 : Int32) + (p5_ &&& (31 : Int32)))).toNatClampNeg))) (by rw [e171]; exact r177.1) (State.isArrayOf_alike hZ.alike r177.2.1) r177.2.2 hin177 hat177 (g := (mkF m 114 #[.val (.int p0_), .val (.int p1_), .val (.int p2_), .val (.int p3_), .val (.int p4_), .val (.int p5_), .val (.int (3 : Int32)), .val (.int (35 : Int32)), .val (.ref b137), .val (.int (p5_ &&& (31 : Int32))), .val (.int (g148 (((3 : Int32) + (p5_ &&& (31 : Int32)))).toNatClampNeg)), .val (.ref nnnb3_1_3_156)] [(.int ((3 : Int32) + (p5_ &&& (31 : Int32)))), (.ref b137)])) rfl rfl (hb hby at_114) _ ?_
      show Steps p.tables e below (T171.setTop (mkF m 115 #[.val (.int p0_), .val (.int p1_), .val (.int p2_), .val (.int p3_), .val (.int p4_), .val (.int p5_), .val (.int (3 : Int32)), .val (.int (35 : Int32)), .val (.ref b137), .val (.int (p5_ &&& (31 : Int32))), .val (.int (g148 (((3 : Int32) + (p5_ &&& (31 : Int32)))).toNatClampNeg)), .val (.ref nnnb3_1_3_156)] [(.int (g148 (((3 : Int32) + (p5_ &&& (31 : Int32)))).toNatClampNeg))])) _
      refine XS.iload X171.here hx rfl (hb hby at_115) rfl ?_
      show Steps p.tables e below (T171.setTop (mkF m 117 #[.val (.int p0_), .val (.int p1_), .val (.int p2_), .val (.int p3_), .val (.int p4_), .val (.int p5_), .val (.int (3 : Int32)), .val (.int (35 : Int32)), .val (.ref b137), .val (.int (p5_ &&& (31 : Int32))), .val (.int (g148 (((3 : Int32) + (p5_ &&& (31 : Int32)))).toNatClampNeg)), .val (.ref nnnb3_1_3_156)] [(.int (g148 (((3 : Int32) + (p5_ &&& (31 : Int32)))).toNatClampNeg)), (.int (g148 (((3 : Int32) + (p5_ &&& (31 : Int32)))).toNatClampNeg))])) _
      refine XS.icmpNo X171.here hx rfl (hb hby at_117) rfl (teq (rfl : (g148 (((3 : Int32) + (p5_ &&& (31 : Int32)))).toNatClampNeg) = (g148 (((3 : Int32) + (p5_ &&& (31 : Int32)))).toNatClampNeg))).2 ?_
      show Steps p.tables e below (T171.setTop (mkF m 120 #[.val (.int p0_), .val (.int p1_), .val (.int p2_), .val (.int p3_), .val (.int p4_), .val (.int p5_), .val (.int (3 : Int32)), .val (.int (35 : Int32)), .val (.ref b137), .val (.int (p5_ &&& (31 : Int32))), .val (.int (g148 (((3 : Int32) + (p5_ &&& (31 : Int32)))).toNatClampNeg)), .val (.ref nnnb3_1_3_156)] [])) _
      refine XS.iconst X171.here hx rfl (hb hby at_120) ?_
      show Steps p.tables e below (T171.setTop (mkF m 121 #[.val (.int p0_), .val (.int p1_), .val (.int p2_), .val (.int p3_), .val (.int p4_), .val (.int p5_), .val (.int (3 : Int32)), .val (.int (35 : Int32)), .val (.ref b137), .val (.int (p5_ &&& (31 : Int32))), .val (.int (g148 (((3 : Int32) + (p5_ &&& (31 : Int32)))).toNatClampNeg)), .val (.ref nnnb3_1_3_156)] [(.int (1 : Int32))])) _
      refine XS.goto X171.here hx rfl (pc0 := 121) (pc' := 125) rfl (hb hby at_121) (by decide) (by decide) ?_
      exact kt
    obtain ⟨fs, hr, hrun, hended, hW, hsame⟩ := X171.leave (v := some (.int (1 : Int32))) (fun h => by rw [Bd.returns] at h; cases h)
    refine ⟨_, _, pre178 _ (retN X171 hx (t := .boolean) Bd.returns (by simp) (hb hby at_125) hr), hrun, hended, _, _, rfl, ?_, ⟨_, rfl⟩, hW, hsame.mono (by decide) (by decide)⟩
    show QLaw Z p0_ p1_ p2_ p3_ p4_ p5_ h0 n0 _ T171.heap _
    rw [e171]
    exact ⟨rfl, N172⟩
set_option maxRecDepth 65536 in
set_option maxHeartbeats 40000000 in
theorem comes_1 {Post : Tables → Env → Array Value → State → Outcome → State → Prop} (hpost : ∀ tb e args s v u, (limb_1_1.after args s (.returned v) u = true ∧ limb_1_2.after args s (.returned v) u = true ∧ True) → FrameEnd s (.returned v) u (Jvm.fieldLocs frame_1_writes args s ++ Jvm.arrayLocs frame_1_arrays args s ++ Jvm.staticLocs frame_1_statics s) 16 256 → Post tb e args s (.returned v) u) :
    ArmFor flags0 classFile x code maxLocals ret World_1 tables_1 room_1 Calls_1 rest_1 Pre_1 Post := by
  intro l hfl _ _ p e ha hc hk s m args below hf hA hF happ hP
  obtain ⟨hcalls, hrest, hpre⟩ := hP
  obtain ⟨-, -, -, hnamed, -, -, -, hat⟩ := (Spec.applies_iff hf).mp happ
  obtain ⟨hg, hn⟩ := and_e (Cond.before_iff.mp (show (Jvm.Cond.and given_1 narrow_1).before args s = true from hpre))
  obtain ⟨g1, g2⟩ := and_e hg
  obtain ⟨g3, g4⟩ := and_e g2
  obtain ⟨g5, g6⟩ := and_e g4
  obtain ⟨g7, g8⟩ := and_e g6
  obtain ⟨g9, g10⟩ := and_e g8
  obtain ⟨g11, g12⟩ := and_e g10
  obtain ⟨w0, w1, w2, w3, w4, w5, rfl⟩ : ∃ w0 w1 w2 w3 w4 w5 : Value, args = #[w0, w1, w2, w3, w4, w5] := by
    have hs : args.size = 6 := by simpa [Cond.value, given_1] using g1
    obtain ⟨L⟩ := args
    match L, hs with
    | [w0, w1, w2, w3, w4, w5], _ => exact ⟨w0, w1, w2, w3, w4, w5, rfl⟩
  have hw := fun d (hd : d ∈ tables_1) => atoms_spec (ws := Jvm.Cond.code x code maxLocals ret :: tables_1) hat d (List.mem_cons_of_mem _ hd)
  have hfit : Fit s := fun {y c} hc i hi => by
    obtain ⟨ha, rfl⟩ := Array.getElem?_eq_some_iff.mp hc
    have q := List.all_eq_true.mp ((Array.all_eq_true_iff_forall_mem.mp hF) _ (Array.getElem_mem ha)) i (List.mem_range.mpr hi)
    simpa [Array.getElem?_eq_getElem hi] using q
  obtain ⟨i0, ei0⟩ := is_v g3
  obtain rfl : w0 = (.int i0) := Option.some.inj ei0
  obtain ⟨i1, ei1⟩ := is_v g5
  obtain rfl : w1 = (.int i1) := Option.some.inj ei1
  obtain ⟨i2, ei2⟩ := is_v g7
  obtain rfl : w2 = (.int i2) := Option.some.inj ei2
  obtain ⟨i3, ei3⟩ := is_v g9
  obtain rfl : w3 = (.int i3) := Option.some.inj ei3
  obtain ⟨i4, ei4⟩ := is_v g11
  obtain rfl : w4 = (.int i4) := Option.some.inj ei4
  obtain ⟨i5, ei5⟩ := is_v g12
  obtain rfl : w5 = (.int i5) := Option.some.inj ei5
  obtain ⟨n, o, h1, h2, h3, _, L, rfl, ⟨rfl, N⟩, hq⟩ := rmLaw l s _ hw tables_1 i0 i1 i2 i3 i4 i5 s.heap s.heap.size (Old.start s)  p e ha hc hk s m _ below hf ((Spec.applies_iff_loose hf).mp happ).1 ⟨rfl, State.Warmed39.refl s, rfl⟩ trivial
  refine ⟨n, _, h1, h2, h3, hpost _ _ _ _ _ _ ⟨Cond.after_iff.mpr rfl, Cond.after_iff.mpr (eq_i res_at (Term.int_eval (1)) rfl), trivial⟩ ⟨hq.1, hq.2.1, (hq.2.2.sift fun y hy => Or.inr (N y hy)).mono (by decide) (by decide)⟩⟩
theorem main_1_1 : Claimed_1_1 := comes_1 fun _ _ _ _ _ _ h hF => ⟨h.1, hF⟩
theorem main_1_2 : Claimed_1_2 := comes_1 fun _ _ _ _ _ _ h hF => ⟨h.2.1, hF⟩
end Jvm.Pilot.@@N@@
namespace Jvm.Pilot.@@N@@
open Jvm Jvm.ClassFile Sem Op Lib Jvm.Free Jvm.Stand Jvm.Pilot.@@N@@.Jvm.D
/-! MADE BY PROGRAM (witnessworld.py) out of the Statement's table words and the real class files: 12 classes; the members and pool entries that the words name. The judged class is class 1, her method 1. -/
namespace start1
open Jvm.ClassFile
def u (s : String) : CpInfo := .utf8 (stringToUtf16 s)
/-- a pool by its gaps: so many unusable entries, then the entry; so many at the end -/
def gap : Nat → List CpInfo → List CpInfo
  | 0, r => r
  | n + 1, r => .unusable :: gap n r
def poolList (es : List (Nat × CpInfo)) (last : Nat) : List CpInfo := es.foldr (fun e r => gap e.1 (e.2 :: r)) (gap last [])
def pool (es : List (Nat × CpInfo)) (last : Nat) : Array CpInfo := ⟨poolList es last⟩
def fileOf (pool : Array CpInfo) (this : Nat) (attrs : Array Attribute := #[]) (ms : Array MethodInfo := #[]) (fl : Nat := 33) (sup : Nat := 0) (ifs : Array Nat := #[]) (fds : Array FieldInfo := #[]) : ClassFile where
  minorVersion := 0
  majorVersion := 65
  constantPool := pool
  accessFlags := fl
  thisClass := this
  superClass := sup
  interfaces := ifs
  fields := fds
  methods := ms
  attributes := attrs
def plain (name : String) (sup : Option ClassId) : Class where
  name := name
  kind := .ordinary
  loader := none
  accessFlags := 33
  super := sup
  interfaces := #[]
  cf := none
  fields := #[]
  methods := #[]
  instanceTypes := #[]
  staticTypes := #[]
  resolved := #[]
  callSites := []
  init := .initialized
  statics := none
  mirror := none

def pool0 : Array CpInfo := pool [(5, u "<init>"), (0, u "()V"), (1, .class_ 10), (1, u "java/lang/Object"), (85, u "clone"), (0, u "()Ljava/lang/Object;")] 26

def k0m0 : Method := { name := "<init>", desc := "()V", sig := { parameters := [], returnType := none }, accessFlags := 1, code := none }
def k0m1 : Method := { name := "clone", desc := "()Ljava/lang/Object;", sig := { parameters := [], returnType := some (.object "java/lang/Object") }, accessFlags := 260, code := none }
/-- java/lang/Object -/
def k0 : Class := { plain "java/lang/Object" none with
  accessFlags := 33
  interfaces := #[]
  cf := some (fileOf pool0 8 #[] #[{ accessFlags := 1, nameIndex := 5, descriptorIndex := 6, attributes := #[] }, { accessFlags := 260, nameIndex := 96, descriptorIndex := 97, attributes := #[] }] 33 0 #[] #[])
  fields := #[]
  methods := #[k0m0, k0m1]
  instanceTypes := #[]
  staticTypes := #[]
  resolved := Array.replicate 124 none
  statics := none }

def pool1 : Array CpInfo := pool [(2, .class_ 4), (1, u "java/lang/Object"), (0, u "<init>"), (0, u "()V"), (0, .integer 2147483647), (0, .methodref 9 10), (0, .class_ 11), (0, .nameAndType 12 13), (0, u "com/example/aeacus/aeacus/log/Chain"), (0, u "value"), (0, u "([B)[B"), (0, .class_ 15), (0, u "com/example/aeacus/aeacus/log/ChainValuePinLaw"), (2, u "law"), (0, u "(IIIIII)Z")] 5

def k1m0 : Method := { name := "<init>", desc := "()V", sig := { parameters := [], returnType := none }, accessFlags := 2, code := none }
def k1c1 : Code := { maxStack := 4, maxLocals := 12, code := code, exceptionTable := #[], attributes := #[] }
def k1m1 : Method := { name := "law", desc := "(IIIIII)Z", sig := { parameters := [.int, .int, .int, .int, .int, .int], returnType := some .boolean }, accessFlags := 9, code := some k1c1 }
/-- com/example/aeacus/aeacus/log/ChainValuePinLaw -/
def k1 : Class := { plain "com/example/aeacus/aeacus/log/ChainValuePinLaw" (some 0) with
  accessFlags := 49
  interfaces := #[]
  cf := some (fileOf pool1 14 #[] #[{ accessFlags := 2, nameIndex := 5, descriptorIndex := 6, attributes := #[] }, { accessFlags := 9, nameIndex := 18, descriptorIndex := 19, attributes := #[] }] 49 2 #[] #[])
  fields := #[]
  methods := #[k1m0, k1m1]
  instanceTypes := #[]
  staticTypes := #[]
  resolved := Array.replicate 25 none
  statics := none }

def pool2 : Array CpInfo := pool [(2, .class_ 4), (1, u "java/lang/Object"), (0, u "<init>"), (0, u "()V"), (1, .class_ 10), (1, u "com/example/aeacus/aeacus/log/Chain"), (0, u "SHA256"), (0, u "Ljava/lang/ThreadLocal;"), (15, u "([B)[B"), (26, u "value"), (19, .class_ 77), (1, u "com/example/aeacus/aeacus/log/Chain$Undo"), (34, u "END_CONTEXT"), (0, u "[B"), (14, .methodref 129 130), (0, .class_ 131), (0, .nameAndType 132 133), (0, u "java/util/Arrays"), (0, u "copyOfRange"), (0, u "([BII)[B"), (2, u "END"), (21, u "VALUE_BYTES"), (0, u "I"), (2, u "FRAME_BYTES"), (1, u "MAX_BODY_BYTES")] 52

def k2m0 : Method := { name := "<init>", desc := "()V", sig := { parameters := [], returnType := none }, accessFlags := 2, code := none }
def k2c1 : Code := { maxStack := 3, maxLocals := 1, code := prog_22_method_7_code, exceptionTable := #[], attributes := #[] }
def k2m1 : Method := { name := "value", desc := "([B)[B", sig := { parameters := [(.array .byte)], returnType := some (.array .byte) }, accessFlags := 8, code := some k2c1 }
/-- com/example/aeacus/aeacus/log/Chain -/
def k2 : Class := { plain "com/example/aeacus/aeacus/log/Chain" (some 0) with
  accessFlags := 33
  interfaces := #[]
  cf := some (fileOf pool2 8 #[.nestMembers #[75]] #[{ accessFlags := 2, nameIndex := 5, descriptorIndex := 6, attributes := #[] }, { accessFlags := 8, nameIndex := 55, descriptorIndex := 28, attributes := #[] }] 33 2 #[] #[{ accessFlags := 25, nameIndex := 158, descriptorIndex := 159, attributes := #[] }, { accessFlags := 24, nameIndex := 162, descriptorIndex := 159, attributes := #[] }, { accessFlags := 24, nameIndex := 164, descriptorIndex := 159, attributes := #[] }, { accessFlags := 24, nameIndex := 136, descriptorIndex := 113, attributes := #[] }, { accessFlags := 26, nameIndex := 112, descriptorIndex := 113, attributes := #[] }, { accessFlags := 26, nameIndex := 11, descriptorIndex := 12, attributes := #[] }])
  fields := #[{ name := "VALUE_BYTES", type := .int, accessFlags := 25, slot := 0, constantValue := 0 }, { name := "FRAME_BYTES", type := .int, accessFlags := 24, slot := 1, constantValue := 0 }, { name := "MAX_BODY_BYTES", type := .int, accessFlags := 24, slot := 2, constantValue := 0 }, { name := "END", type := (.array .byte), accessFlags := 24, slot := 3, constantValue := 0 }, { name := "END_CONTEXT", type := (.array .byte), accessFlags := 26, slot := 4, constantValue := 0 }, { name := "SHA256", type := (.object "java/lang/ThreadLocal"), accessFlags := 26, slot := 5, constantValue := 0 }]
  methods := #[k2m0, k2m1]
  instanceTypes := #[]
  staticTypes := #[.int, .int, .int, (.array .byte), (.array .byte), (.object "java/lang/ThreadLocal")]
  resolved := Array.replicate 217 none
  statics := none }

def pool3 : Array CpInfo := pool [(2, .class_ 4), (1, u "java/lang/Object"), (0, u "<init>"), (0, u "()V"), (7, .class_ 16), (1, u "java/util/Arrays"), (57, .class_ 76), (1, u "java/util/Arrays$NaturalOrder"), (32, u "()Ljava/lang/Object;"), (3, .class_ 115), (1, u "java/util/Arrays$LegacyMergeSort"), (1, u "Z"), (10, .nameAndType 129 109), (0, u "clone"), (9, u "copyOfRange"), (10, .methodref 151 152), (0, .class_ 153), (0, .nameAndType 154 155), (0, u "java/lang/System"), (0, u "arraycopy"), (0, u "(Ljava/lang/Object;ILjava/lang/Object;II)V"), (148, .methodref 305 306), (0, .class_ 307), (0, .nameAndType 308 309), (0, u "java/lang/Math"), (0, u "min"), (0, u "(II)I"), (0, .methodref 311 128), (0, .class_ 312), (0, u "[B"), (26, .methodref 14 340), (0, .nameAndType 341 342), (0, u "copyOfRangeByte"), (0, u "([BII)[B"), (0, .methodref 14 344), (0, .nameAndType 345 346), (0, u "checkLength"), (0, u "(II)V"), (28, .class_ 376), (0, u "java/util/Arrays$ArrayList"), (68, u "$assertionsDisabled"), (269, u "MIN_ARRAY_SORT_GRAN"), (0, u "I"), (2, u "INSERTIONSORT_THRESHOLD"), (255, .class_ 976), (0, u "java/util/Arrays$ArrayItr")] 52

def k3m0 : Method := { name := "<init>", desc := "()V", sig := { parameters := [], returnType := none }, accessFlags := 2, code := none }
def k3c1 : Code := { maxStack := 4, maxLocals := 2, code := jdk_65_method_131_code, exceptionTable := #[], attributes := #[] }
def k3m1 : Method := { name := "checkLength", desc := "(II)V", sig := { parameters := [.int, .int], returnType := none }, accessFlags := 10, code := some k3c1 }
def k3c2 : Code := { maxStack := 3, maxLocals := 3, code := jdk_65_method_132_code, exceptionTable := #[], attributes := #[] }
def k3m2 : Method := { name := "copyOfRange", desc := "([BII)[B", sig := { parameters := [(.array .byte), .int, .int], returnType := some (.array .byte) }, accessFlags := 9, code := some k3c2 }
def k3c3 : Code := { maxStack := 6, maxLocals := 5, code := jdk_65_method_133_code, exceptionTable := #[], attributes := #[] }
def k3m3 : Method := { name := "copyOfRangeByte", desc := "([BII)[B", sig := { parameters := [(.array .byte), .int, .int], returnType := some (.array .byte) }, accessFlags := 10, code := some k3c3 }
/-- java/util/Arrays -/
def k3 : Class := { plain "java/util/Arrays" (some 0) with
  accessFlags := 49
  interfaces := #[]
  cf := some (fileOf pool3 14 #[.nestMembers #[975, 375, 113, 74]] #[{ accessFlags := 2, nameIndex := 5, descriptorIndex := 6, attributes := #[] }, { accessFlags := 10, nameIndex := 345, descriptorIndex := 346, attributes := #[] }, { accessFlags := 9, nameIndex := 139, descriptorIndex := 342, attributes := #[] }, { accessFlags := 10, nameIndex := 341, descriptorIndex := 342, attributes := #[] }] 49 2 #[] #[{ accessFlags := 26, nameIndex := 715, descriptorIndex := 716, attributes := #[] }, { accessFlags := 26, nameIndex := 719, descriptorIndex := 716, attributes := #[] }, { accessFlags := 4120, nameIndex := 445, descriptorIndex := 117, attributes := #[] }])
  fields := #[{ name := "MIN_ARRAY_SORT_GRAN", type := .int, accessFlags := 26, slot := 0, constantValue := 0 }, { name := "INSERTIONSORT_THRESHOLD", type := .int, accessFlags := 26, slot := 1, constantValue := 0 }, { name := "$assertionsDisabled", type := .boolean, accessFlags := 4120, slot := 2, constantValue := 0 }]
  methods := #[k3m0, k3m1, k3m2, k3m3]
  instanceTypes := #[]
  staticTypes := #[.int, .int, .boolean]
  resolved := Array.replicate 1029 none
  statics := none }

def pool4 : Array CpInfo := pool [(1, .class_ 2), (0, u "java/lang/Cloneable"), (0, .class_ 4), (0, u "java/lang/Object")] 2

/-- java/lang/Cloneable -/
def k4 : Class := { plain "java/lang/Cloneable" (some 0) with
  accessFlags := 1537
  interfaces := #[]
  cf := some (fileOf pool4 1 #[] #[] 1537 3 #[] #[])
  fields := #[]
  methods := #[]
  instanceTypes := #[]
  staticTypes := #[]
  resolved := Array.replicate 7 none
  statics := none }

def pool5 : Array CpInfo := pool [(1, .class_ 2), (0, u "java/lang/Math"), (1, .class_ 6), (1, u "java/lang/Object"), (0, u "<init>"), (0, u "()V"), (89, .class_ 100), (1, u "java/lang/Math$RandomNumberGeneratorHolder"), (71, u "negativeZeroFloatBits"), (0, u "J"), (2, u "negativeZeroDoubleBits"), (24, u "min"), (43, u "$assertionsDisabled"), (0, u "Z"), (88, u "(II)I"), (2, u "twoToTheDoubleScaleDown"), (0, u "D"), (4, u "twoToTheDoubleScaleUp"), (9, u "E"), (3, u "PI"), (2, u "TAU"), (2, u "DEGREES_TO_RADIANS"), (0, u "RADIANS_TO_DEGREES")] 94

def k5m0 : Method := { name := "<init>", desc := "()V", sig := { parameters := [], returnType := none }, accessFlags := 2, code := none }
def k5c1 : Code := { maxStack := 2, maxLocals := 2, code := jdk_29_method_69_code, exceptionTable := #[], attributes := #[] }
def k5m1 : Method := { name := "min", desc := "(II)I", sig := { parameters := [.int, .int], returnType := some .int }, accessFlags := 9, code := some k5c1 }
/-- java/lang/Math -/
def k5 : Class := { plain "java/lang/Math" (some 0) with
  accessFlags := 49
  interfaces := #[]
  cf := some (fileOf pool5 1 #[.nestMembers #[98]] #[{ accessFlags := 2, nameIndex := 7, descriptorIndex := 8, attributes := #[] }, { accessFlags := 9, nameIndex := 201, descriptorIndex := 335, attributes := #[] }] 49 4 #[] #[{ accessFlags := 25, nameIndex := 354, descriptorIndex := 339, attributes := #[] }, { accessFlags := 25, nameIndex := 358, descriptorIndex := 339, attributes := #[] }, { accessFlags := 25, nameIndex := 361, descriptorIndex := 339, attributes := #[] }, { accessFlags := 26, nameIndex := 364, descriptorIndex := 339, attributes := #[] }, { accessFlags := 26, nameIndex := 365, descriptorIndex := 339, attributes := #[] }, { accessFlags := 26, nameIndex := 172, descriptorIndex := 173, attributes := #[] }, { accessFlags := 26, nameIndex := 176, descriptorIndex := 173, attributes := #[] }, { accessFlags := 8, nameIndex := 344, descriptorIndex := 339, attributes := #[] }, { accessFlags := 8, nameIndex := 338, descriptorIndex := 339, attributes := #[] }, { accessFlags := 4120, nameIndex := 245, descriptorIndex := 246, attributes := #[] }])
  fields := #[{ name := "E", type := .double, accessFlags := 25, slot := 0, constantValue := 0 }, { name := "PI", type := .double, accessFlags := 25, slot := 1, constantValue := 0 }, { name := "TAU", type := .double, accessFlags := 25, slot := 2, constantValue := 0 }, { name := "DEGREES_TO_RADIANS", type := .double, accessFlags := 26, slot := 3, constantValue := 0 }, { name := "RADIANS_TO_DEGREES", type := .double, accessFlags := 26, slot := 4, constantValue := 0 }, { name := "negativeZeroFloatBits", type := .long, accessFlags := 26, slot := 5, constantValue := 0 }, { name := "negativeZeroDoubleBits", type := .long, accessFlags := 26, slot := 6, constantValue := 0 }, { name := "twoToTheDoubleScaleUp", type := .double, accessFlags := 8, slot := 7, constantValue := 0 }, { name := "twoToTheDoubleScaleDown", type := .double, accessFlags := 8, slot := 8, constantValue := 0 }, { name := "$assertionsDisabled", type := .boolean, accessFlags := 4120, slot := 9, constantValue := 0 }]
  methods := #[k5m0, k5m1]
  instanceTypes := #[]
  staticTypes := #[.double, .double, .double, .double, .double, .long, .long, .double, .double, .boolean]
  resolved := Array.replicate 460 none
  statics := none }

def pool6 : Array CpInfo := pool [(2, .class_ 4), (1, u "java/lang/Object"), (0, u "<init>"), (0, u "()V"), (1, .class_ 10), (1, u "java/lang/System"), (0, u "allowSecurityManager"), (0, u "I"), (16, u "cons"), (0, u "Ljava/io/Console;"), (77, .class_ 110), (1, u "java/lang/System$CallersHolder"), (43, u "initialErrStream"), (0, u "Ljava/io/PrintStream;"), (19, u "security"), (0, u "Ljava/lang/SecurityManager;"), (31, .class_ 209), (0, u "java/lang/System$1"), (7, u "props"), (0, u "Ljava/util/Properties;"), (2, u "lineSeparator"), (0, u "Ljava/lang/String;"), (96, .class_ 321), (1, u "java/lang/System$LoggerFinder"), (5, .class_ 328), (0, u "java/lang/System$Logger"), (67, u "err"), (2, u "out"), (91, u "notSupportedJnuEncoding"), (15, u "in"), (17, u "initialIn"), (0, u "Ljava/io/InputStream;"), (35, u "bootLayer"), (0, u "Ljava/lang/ModuleLayer;"), (99, .class_ 664), (0, u "java/lang/System$2"), (9, u "NEVER"), (2, u "MAYBE"), (49, u "arraycopy"), (0, u "(Ljava/lang/Object;ILjava/lang/Object;II)V"), (72, .class_ 802), (0, u "java/lang/System$Logger$Level")] 31

def k6m0 : Method := { name := "<init>", desc := "()V", sig := { parameters := [], returnType := none }, accessFlags := 2, code := none }
def k6m1 : Method := { name := "arraycopy", desc := "(Ljava/lang/Object;ILjava/lang/Object;II)V", sig := { parameters := [(.object "java/lang/Object"), .int, (.object "java/lang/Object"), .int, .int], returnType := none }, accessFlags := 265, code := none }
/-- java/lang/System -/
def k6 : Class := { plain "java/lang/System" (some 0) with
  accessFlags := 49
  interfaces := #[]
  cf := some (fileOf pool6 8 #[.nestMembers #[319, 327, 801, 108, 663, 208]] #[{ accessFlags := 2, nameIndex := 5, descriptorIndex := 6, attributes := #[] }, { accessFlags := 265, nameIndex := 727, descriptorIndex := 728, attributes := #[] }] 49 2 #[] #[{ accessFlags := 25, nameIndex := 507, descriptorIndex := 526, attributes := #[] }, { accessFlags := 25, nameIndex := 399, descriptorIndex := 155, attributes := #[] }, { accessFlags := 25, nameIndex := 396, descriptorIndex := 155, attributes := #[] }, { accessFlags := 10, nameIndex := 525, descriptorIndex := 526, attributes := #[] }, { accessFlags := 26, nameIndex := 674, descriptorIndex := 12, attributes := #[] }, { accessFlags := 26, nameIndex := 677, descriptorIndex := 12, attributes := #[] }, { accessFlags := 10, nameIndex := 11, descriptorIndex := 12, attributes := #[] }, { accessFlags := 74, nameIndex := 175, descriptorIndex := 176, attributes := #[] }, { accessFlags := 10, nameIndex := 491, descriptorIndex := 222, attributes := #[] }, { accessFlags := 74, nameIndex := 29, descriptorIndex := 30, attributes := #[] }, { accessFlags := 74, nameIndex := 154, descriptorIndex := 155, attributes := #[] }, { accessFlags := 10, nameIndex := 217, descriptorIndex := 218, attributes := #[] }, { accessFlags := 10, nameIndex := 221, descriptorIndex := 222, attributes := #[] }, { accessFlags := 8, nameIndex := 562, descriptorIndex := 563, attributes := #[] }])
  fields := #[{ name := "in", type := (.object "java/io/InputStream"), accessFlags := 25, slot := 0, constantValue := 0 }, { name := "out", type := (.object "java/io/PrintStream"), accessFlags := 25, slot := 1, constantValue := 0 }, { name := "err", type := (.object "java/io/PrintStream"), accessFlags := 25, slot := 2, constantValue := 0 }, { name := "initialIn", type := (.object "java/io/InputStream"), accessFlags := 10, slot := 3, constantValue := 0 }, { name := "NEVER", type := .int, accessFlags := 26, slot := 4, constantValue := 0 }, { name := "MAYBE", type := .int, accessFlags := 26, slot := 5, constantValue := 0 }, { name := "allowSecurityManager", type := .int, accessFlags := 10, slot := 6, constantValue := 0 }, { name := "security", type := (.object "java/lang/SecurityManager"), accessFlags := 74, slot := 7, constantValue := 0 }, { name := "notSupportedJnuEncoding", type := (.object "java/lang/String"), accessFlags := 10, slot := 8, constantValue := 0 }, { name := "cons", type := (.object "java/io/Console"), accessFlags := 74, slot := 9, constantValue := 0 }, { name := "initialErrStream", type := (.object "java/io/PrintStream"), accessFlags := 74, slot := 10, constantValue := 0 }, { name := "props", type := (.object "java/util/Properties"), accessFlags := 10, slot := 11, constantValue := 0 }, { name := "lineSeparator", type := (.object "java/lang/String"), accessFlags := 10, slot := 12, constantValue := 0 }, { name := "bootLayer", type := (.object "java/lang/ModuleLayer"), accessFlags := 8, slot := 13, constantValue := 0 }]
  methods := #[k6m0, k6m1]
  instanceTypes := #[]
  staticTypes := #[(.object "java/io/InputStream"), (.object "java/io/PrintStream"), (.object "java/io/PrintStream"), (.object "java/io/InputStream"), .int, .int, .int, (.object "java/lang/SecurityManager"), (.object "java/lang/String"), (.object "java/io/Console"), (.object "java/io/PrintStream"), (.object "java/util/Properties"), (.object "java/lang/String"), (.object "java/lang/ModuleLayer")]
  resolved := Array.replicate 834 none
  statics := none }

def pool7 : Array CpInfo := pool [(1, u "java/io/Serializable"), (0, .class_ 1), (0, u "java/lang/Object"), (0, .class_ 3)] 3

/-- java/io/Serializable -/
def k7 : Class := { plain "java/io/Serializable" (some 0) with
  accessFlags := 1537
  interfaces := #[]
  cf := some (fileOf pool7 2 #[] #[] 1537 4 #[] #[])
  fields := #[]
  methods := #[]
  instanceTypes := #[]
  staticTypes := #[]
  resolved := Array.replicate 8 none
  statics := none }

/-- the primitive byte -/
def k8 : Class := { plain "byte" none with kind := .primitive 'B', accessFlags := 0x411 }
/-- [B -/
def k9 : Class := { plain "[B" (some 0) with kind := .array 8 .byte, interfaces := #[4, 7], accessFlags := 1041 }

/-- the primitive int -/
def k10 : Class := { plain "int" none with kind := .primitive 'I', accessFlags := 0x411 }
/-- [I -/
def k11 : Class := { plain "[I" (some 0) with kind := .array 10 .int, interfaces := #[4, 7], accessFlags := 1041 }

def heap : Heap := #[]
def classes : Array Class := #[k0, k1, k2, k3, k4, k5, k6, k7, k8, k9, k10, k11]
def interned : List (Array UInt16 × Addr) := []
def slotsUsed : Nat := 0
def theMethod : MethodId := ⟨1, 1⟩
def args0 : Array Value := #[.int 3, .int 5, .int 7, .int 9, .int 11, .int 13]
def aboutOver (below : List Frame) : State where
  vm := { classes := classes, interned := interned.toArray }
  heap := heap
  slotsUsed := slotsUsed
  threads := #[{ frames := .invoking theMethod args0 :: below }]
def below0 : List Frame := [.native { method := ⟨0, 0⟩, args := #[] }]
def about1 : State := aboutOver below0
def p0 : Program := .bare "" "" ""
def e0 : Env := launch0.env 0 0 0
theorem w_frames : about1.frames = Frame.invoking theMethod args0 :: below0 := rfl
set_option maxRecDepth 65536 in
theorem w_args : argsFit about1.vm theMethod args0 = true := by decide +kernel
set_option maxRecDepth 65536 in
theorem w_heap : heapFits about1 = true := by decide +kernel
set_option maxRecDepth 65536 in
theorem w_runnable : about1.curStatus? = some .runnable := by decide +kernel
set_option maxRecDepth 65536 in
theorem w_alone : about1.alone = true := by decide +kernel
set_option maxRecDepth 65536 in
theorem w_named : about1.methodNamed? x = some theMethod := by decide +kernel
set_option maxRecDepth 65536 in
theorem w_hears : about1.hears theMethod below0 = true := by decide +kernel
set_option maxRecDepth 65536 in
theorem w_ripe : about1.ripe theMethod args0 below0 = true := by decide +kernel
theorem w_running : about1.status = .running := rfl
set_option maxRecDepth 65536 in
theorem w_room : about1.hasRoom e0.platform room_1 = true :=
  launch0.hasRoom_least _ room_1 (by decide +kernel) (by decide +kernel) (by decide +kernel) (by decide +kernel) (by decide +kernel) (by decide +kernel)
theorem allAtoms_all (ts : List Jvm.Cond) (a : Array Jvm.Value) (st : Jvm.State) : (allAtoms ts).before a st = ts.all (fun c => c.before a st) := by
  induction ts with
  | nil => rfl
  | cons c t ih =>
    show (Jvm.Cond.and c (allAtoms t)).before a st = _
    rw [Jvm.Cond.before_and, ih, List.all_cons]
def words1 : List Jvm.Cond := Jvm.Cond.code x code maxLocals ret :: tables_1
/-- a 'code' word, met by the world's own term for the bytes: nothing is compared byte by byte -/
theorem code_word {y : MethodName} {bytes : ByteArray} {mx : Nat} {rt : Option FieldType} {a : Array Value} {s : State} {m : MethodId} {meth : Method} {c : Code} (h1 : s.methodNamed? y = some m) (h2 : s.vm.method? m = some meth) (h3 : meth.code = some c) (h4 : c.code = bytes)
    (h5 : (c.maxLocals == mx && c.exceptionTable.isEmpty && decide (c.maxStack ≤ mostOperands) && decide (meth.sig.returnType = rt) && !meth.locks && decide (parseMethodDescriptor y.desc = some meth.sig)) = true) : (Jvm.Cond.code y bytes mx rt).before a s = true := by
  simp only [Bool.and_eq_true, beq_iff_eq, Bool.not_eq_true', decide_eq_true_eq] at h5
  obtain ⟨⟨⟨⟨⟨g1, g2⟩, g3⟩, g4⟩, g5⟩, g6⟩ := h5
  simp [Cond.before, Cond.holds, Cond.value, h1, h2, h3, h4, g1, g2, g3, g4, g5, g6]
def isCode : Jvm.Cond → Bool
  | .code _ _ _ _ => true
  | _ => false
theorem all_split {L : List Jvm.Cond} {P : Jvm.Cond → Bool} (h1 : L.all (fun c => isCode c || P c) = true) (h2 : ∀ c ∈ L.filter isCode, P c = true) : L.all P = true := by
  refine List.all_eq_true.mpr fun c hc => ?_
  have h := List.all_eq_true.mp h1 c hc
  rcases Bool.eq_false_or_eq_true (isCode c) with hi | hi
  · exact h2 c (List.mem_filter.mpr ⟨hc, hi⟩)
  · simpa [hi] using h
set_option maxRecDepth 65536 in
theorem w_c0 : (Jvm.Cond.code x code maxLocals ret).before args0 about1 = true := code_word (m := ⟨1, 1⟩) (meth := k1m1) (c := k1c1) (by decide +kernel) rfl rfl rfl (by decide +kernel)
set_option maxRecDepth 65536 in
theorem w_c1 : (Jvm.Cond.code ({ cls := "com/example/aeacus/aeacus/log/Chain", name := "value", desc := "([B)[B" } : Jvm.MethodName) prog_22_method_7_code (1 : Nat) (Option.some (Jvm.ClassFile.FieldType.array Jvm.ClassFile.FieldType.byte))).before args0 about1 = true := code_word (m := ⟨2, 1⟩) (meth := k2m1) (c := k2c1) (by decide +kernel) rfl rfl rfl (by decide +kernel)
set_option maxRecDepth 65536 in
theorem w_c2 : (Jvm.Cond.code ({ cls := "java/util/Arrays", name := "copyOfRange", desc := "([BII)[B" } : Jvm.MethodName) jdk_65_method_132_code (3 : Nat) (Option.some (Jvm.ClassFile.FieldType.array Jvm.ClassFile.FieldType.byte))).before args0 about1 = true := code_word (m := ⟨3, 2⟩) (meth := k3m2) (c := k3c2) (by decide +kernel) rfl rfl rfl (by decide +kernel)
set_option maxRecDepth 65536 in
theorem w_c3 : (Jvm.Cond.code ({ cls := "java/util/Arrays", name := "copyOfRangeByte", desc := "([BII)[B" } : Jvm.MethodName) jdk_65_method_133_code (5 : Nat) (Option.some (Jvm.ClassFile.FieldType.array Jvm.ClassFile.FieldType.byte))).before args0 about1 = true := code_word (m := ⟨3, 3⟩) (meth := k3m3) (c := k3c3) (by decide +kernel) rfl rfl rfl (by decide +kernel)
set_option maxRecDepth 65536 in
theorem w_c4 : (Jvm.Cond.code ({ cls := "java/util/Arrays", name := "checkLength", desc := "(II)V" } : Jvm.MethodName) jdk_65_method_131_code (2 : Nat) (Option.none : Option Jvm.ClassFile.FieldType)).before args0 about1 = true := code_word (m := ⟨3, 1⟩) (meth := k3m1) (c := k3c1) (by decide +kernel) rfl rfl rfl (by decide +kernel)
set_option maxRecDepth 65536 in
theorem w_c5 : (Jvm.Cond.code ({ cls := "java/lang/Math", name := "min", desc := "(II)I" } : Jvm.MethodName) jdk_29_method_69_code (2 : Nat) (Option.some Jvm.ClassFile.FieldType.int)).before args0 about1 = true := code_word (m := ⟨5, 1⟩) (meth := k5m1) (c := k5c1) (by decide +kernel) rfl rfl rfl (by decide +kernel)
def codes1 : List Jvm.Cond := [Jvm.Cond.code x code maxLocals ret, Jvm.Cond.code ({ cls := "com/example/aeacus/aeacus/log/Chain", name := "value", desc := "([B)[B" } : Jvm.MethodName) prog_22_method_7_code (1 : Nat) (Option.some (Jvm.ClassFile.FieldType.array Jvm.ClassFile.FieldType.byte)), Jvm.Cond.code ({ cls := "java/util/Arrays", name := "copyOfRange", desc := "([BII)[B" } : Jvm.MethodName) jdk_65_method_132_code (3 : Nat) (Option.some (Jvm.ClassFile.FieldType.array Jvm.ClassFile.FieldType.byte)), Jvm.Cond.code ({ cls := "java/util/Arrays", name := "copyOfRangeByte", desc := "([BII)[B" } : Jvm.MethodName) jdk_65_method_133_code (5 : Nat) (Option.some (Jvm.ClassFile.FieldType.array Jvm.ClassFile.FieldType.byte)), Jvm.Cond.code ({ cls := "java/util/Arrays", name := "checkLength", desc := "(II)V" } : Jvm.MethodName) jdk_65_method_131_code (2 : Nat) (Option.none : Option Jvm.ClassFile.FieldType), Jvm.Cond.code ({ cls := "java/lang/Math", name := "min", desc := "(II)I" } : Jvm.MethodName) jdk_29_method_69_code (2 : Nat) (Option.some Jvm.ClassFile.FieldType.int)]
set_option maxRecDepth 65536 in
theorem codes_eq : words1.filter isCode = codes1 := rfl
theorem w_codes : ∀ c ∈ words1.filter isCode, c.before args0 about1 = true := by
  rw [codes_eq]
  intro c hc
  simp only [codes1, List.mem_cons, List.not_mem_nil, or_false] at hc
  rcases hc with rfl | rfl | rfl | rfl | rfl | rfl
  · exact w_c0
  · exact w_c1
  · exact w_c2
  · exact w_c3
  · exact w_c4
  · exact w_c5
set_option maxRecDepth 65536 in
theorem w_t1 : (words1.take 24).all (fun c => isCode c || c.before args0 about1) = true := by decide +kernel
set_option maxRecDepth 65536 in
theorem w_t2 : (words1.drop 24).all (fun c => isCode c || c.before args0 about1) = true := by decide +kernel
theorem w_tables : (allAtoms (Jvm.Cond.code x code maxLocals ret :: tables_1)).before args0 about1 = true := by
  rw [allAtoms_all]
  show words1.all (fun c => c.before args0 about1) = true
  refine all_split ?_ w_codes
  rw [← List.take_append_drop 24 words1, List.all_append, w_t1, w_t2]
  rfl
set_option maxRecDepth 65536 in
theorem w_case : (Jvm.Cond.and given_1 narrow_1).before args0 about1 = true := by decide +kernel
theorem w_applies : (headSpec (Jvm.Cond.code x code maxLocals ret :: tables_1) room_1).applies x e0.platform about1 = true :=
  (Spec.applies_iff w_frames).mpr ⟨w_running, w_runnable, w_alone, w_named, w_hears, w_ripe, w_room, w_tables⟩
theorem atStart : AtStart classFile x code maxLocals ret World_1 tables_1 room_1 Calls_1 rest_1 Pre_1 launch0 p0 e0 about1 theMethod args0 below0 :=
  ⟨lists_1, trivial, launch0.admits_env _ _ _, launch0.least_env, fairChoices_fair.cas, fairChoices_fair.clock, w_frames, w_args, w_heap, w_applies, trivial, trivial, w_case⟩
end start1
theorem witness_1 : WitnessClaimed_1 := ⟨start1.p0, start1.e0, start1.about1, start1.theMethod, start1.args0, start1.below0, start1.atStart⟩
end Jvm.Pilot.@@N@@
