import JvmDerived
import JvmDerived.Pilot.@@N@@Statement
import JvmDerived.Pilot.@@N@@Code
set_option linter.unusedVariables false
set_option linter.unusedSimpArgs false
namespace Jvm.Pilot.@@N@@
open Jvm Jvm.ClassFile Sem Op Lib Jvm.Free Jvm.Stand Jvm.LawKit Jvm.RoadKit Bundle Jvm.Pilot.@@N@@.Jvm.D
theorem own_eqi {args : Array Value} {s : State} {t : Term} {k : Int32} (h : (Jvm.Cond.eq t (.int k)).value args s none s [] = some true) : t.eval args s none [] s = some (.int k) := by
  simp only [Cond.value, Term.eval] at h
  cases ht : t.eval args s none [] s with
  | none => simp [ht] at h
  | some x => cases x <;> simp [ht] at h ⊢ <;> exact h
theorem own_eqr {args : Array Value} {s : State} {t u : Term} {a : Addr} (h : (Jvm.Cond.eq t u).value args s none s [] = some true) (hu : u.eval args s none [] s = some (.ref a)) : t.eval args s none [] s = some (.ref a) := by
  simp only [Cond.value, hu] at h
  cases ht : t.eval args s none [] s with
  | none => simp [ht] at h
  | some x => cases x <;> simp [ht] at h ⊢ <;> exact h
theorem own_len {args : Array Value} {s : State} {t : Term} {a : Addr} {cl : Cell} {ty : FieldType} {n : Int32} (h : (Jvm.Cond.eq (.length t) (.int n)).value args s none s [] = some true) (ht : t.eval args s none [] s = some (.ref a)) (A : Arr s s.heap a cl ty) : cl.slots.size < 2 ^ 31 ∧ cl.slots.size.toInt32 = n := by
  have e := own_eqi h
  have q := A.fin (Vm.Alike.refl _)
  simp only [Term.eval, ht, q, Option.bind_eq_bind, Option.bind_some] at e
  split at e
  · rename_i q'
    exact ⟨q', Value.int.inj (Option.some.inj e)⟩
  · cases e
theorem d1_0 : decode prog_7_method_1_code 0 = .ok (.getstatic 46, 3) := by decide +kernel
theorem d1_3 : decode prog_7_method_1_code 3 = .ok (.invokevirtual 50, 3) := by decide +kernel
theorem d1_6 : decode prog_7_method_1_code 6 = .ok (.checkcast 51, 3) := by decide +kernel
theorem d1_9 : decode prog_7_method_1_code 9 = .ok (.areturn, 1) := by decide +kernel
theorem pn_0 : plainName "com/example/aeacus/aeacus/audit/Syscall" = true := by first | (simp [plainName, overriddenIn]; done) | decide +kernel
theorem efVal (m : MethodId)  : entryFrame m #[] 0 = mkF m 0 #[] [] := by first | (simp [entryFrame, mkF, argsToLocals, Value.category]; done) | rfl
def QVal (Z : State) (w_OPEN : Addr) (w_CREAT : Addr) (w_OPENAT : Addr) (w_RENAME : Addr) (w_RENAMEAT : Addr) (w_RENAMEAT2 : Addr) (w_UNLINK : Addr) (w_UNLINKAT : Addr) (w_RMDIR : Addr) (w_CHMOD : Addr) (w_FCHMOD : Addr) (w_FCHMODAT : Addr) (w_CHOWN : Addr) (w_FCHOWNAT : Addr) (w__VALUES : Addr) (k_ : ClassId) (h0 : Heap) (n0 : Nat) (v : Option Value) (h : Heap) (L : List Loc) : Prop := ∃ nb2 : Addr, v = some (.ref nb2) ∧ Fr n0 L ∧ Keep h0 h [] ∧ h0.size ≤ nb2 ∧ Arv Z h nb2 k_ (.object "com/example/aeacus/aeacus/audit/Syscall") (14 : Int32) [(.ref w_OPEN), (.ref w_CREAT), (.ref w_OPENAT), (.ref w_RENAME), (.ref w_RENAMEAT), (.ref w_RENAMEAT2), (.ref w_UNLINK), (.ref w_UNLINKAT), (.ref w_RMDIR), (.ref w_CHMOD), (.ref w_FCHMOD), (.ref w_FCHMODAT), (.ref w_CHOWN), (.ref w_FCHOWNAT)] .null ∧ Exa Z h nb2 "[Lcom/example/aeacus/aeacus/audit/Syscall;"
set_option maxRecDepth 65536 in
set_option maxHeartbeats 40000000 in
theorem rmVal (l : Launch) (Z : State) (a0 : Array Value) (hw : ∀ d ∈ tables_1, d.before a0 Z = true) (ws : List Jvm.Cond) (w_OPEN : Addr) (w_CREAT : Addr) (w_OPENAT : Addr) (w_RENAME : Addr) (w_RENAMEAT : Addr) (w_RENAMEAT2 : Addr) (w_UNLINK : Addr) (w_UNLINKAT : Addr) (w_RMDIR : Addr) (w_CHMOD : Addr) (w_FCHMOD : Addr) (w_FCHMODAT : Addr) (w_CHOWN : Addr) (w_FCHOWNAT : Addr) (w__VALUES : Addr) (k_ : ClassId) (h0 : Heap) (n0 : Nat) (O0 : Old Z n0 h0) (P0 : Sta Z Z.heap "com/example/aeacus/aeacus/audit/Syscall" "OPEN" "Lcom/example/aeacus/aeacus/audit/Syscall;" (.ref w_OPEN)) (P1 : Exa Z Z.heap w_OPEN "com/example/aeacus/aeacus/audit/Syscall") (P2 : Fld Z Z.heap w_OPEN "com/example/aeacus/aeacus/audit/Syscall" "number" "I" (.int (2 : Int32))) (P3 : Sta Z Z.heap "com/example/aeacus/aeacus/audit/Syscall" "CREAT" "Lcom/example/aeacus/aeacus/audit/Syscall;" (.ref w_CREAT)) (P4 : Exa Z Z.heap w_CREAT "com/example/aeacus/aeacus/audit/Syscall") (P5 : Fld Z Z.heap w_CREAT "com/example/aeacus/aeacus/audit/Syscall" "number" "I" (.int (85 : Int32))) (P6 : Sta Z Z.heap "com/example/aeacus/aeacus/audit/Syscall" "OPENAT" "Lcom/example/aeacus/aeacus/audit/Syscall;" (.ref w_OPENAT)) (P7 : Exa Z Z.heap w_OPENAT "com/example/aeacus/aeacus/audit/Syscall") (P8 : Fld Z Z.heap w_OPENAT "com/example/aeacus/aeacus/audit/Syscall" "number" "I" (.int (257 : Int32))) (P9 : Sta Z Z.heap "com/example/aeacus/aeacus/audit/Syscall" "RENAME" "Lcom/example/aeacus/aeacus/audit/Syscall;" (.ref w_RENAME)) (P10 : Exa Z Z.heap w_RENAME "com/example/aeacus/aeacus/audit/Syscall") (P11 : Fld Z Z.heap w_RENAME "com/example/aeacus/aeacus/audit/Syscall" "number" "I" (.int (82 : Int32))) (P12 : Sta Z Z.heap "com/example/aeacus/aeacus/audit/Syscall" "RENAMEAT" "Lcom/example/aeacus/aeacus/audit/Syscall;" (.ref w_RENAMEAT)) (P13 : Exa Z Z.heap w_RENAMEAT "com/example/aeacus/aeacus/audit/Syscall") (P14 : Fld Z Z.heap w_RENAMEAT "com/example/aeacus/aeacus/audit/Syscall" "number" "I" (.int (264 : Int32))) (P15 : Sta Z Z.heap "com/example/aeacus/aeacus/audit/Syscall" "RENAMEAT2" "Lcom/example/aeacus/aeacus/audit/Syscall;" (.ref w_RENAMEAT2)) (P16 : Exa Z Z.heap w_RENAMEAT2 "com/example/aeacus/aeacus/audit/Syscall") (P17 : Fld Z Z.heap w_RENAMEAT2 "com/example/aeacus/aeacus/audit/Syscall" "number" "I" (.int (316 : Int32))) (P18 : Sta Z Z.heap "com/example/aeacus/aeacus/audit/Syscall" "UNLINK" "Lcom/example/aeacus/aeacus/audit/Syscall;" (.ref w_UNLINK)) (P19 : Exa Z Z.heap w_UNLINK "com/example/aeacus/aeacus/audit/Syscall") (P20 : Fld Z Z.heap w_UNLINK "com/example/aeacus/aeacus/audit/Syscall" "number" "I" (.int (87 : Int32))) (P21 : Sta Z Z.heap "com/example/aeacus/aeacus/audit/Syscall" "UNLINKAT" "Lcom/example/aeacus/aeacus/audit/Syscall;" (.ref w_UNLINKAT)) (P22 : Exa Z Z.heap w_UNLINKAT "com/example/aeacus/aeacus/audit/Syscall") (P23 : Fld Z Z.heap w_UNLINKAT "com/example/aeacus/aeacus/audit/Syscall" "number" "I" (.int (263 : Int32))) (P24 : Sta Z Z.heap "com/example/aeacus/aeacus/audit/Syscall" "RMDIR" "Lcom/example/aeacus/aeacus/audit/Syscall;" (.ref w_RMDIR)) (P25 : Exa Z Z.heap w_RMDIR "com/example/aeacus/aeacus/audit/Syscall") (P26 : Fld Z Z.heap w_RMDIR "com/example/aeacus/aeacus/audit/Syscall" "number" "I" (.int (84 : Int32))) (P27 : Sta Z Z.heap "com/example/aeacus/aeacus/audit/Syscall" "CHMOD" "Lcom/example/aeacus/aeacus/audit/Syscall;" (.ref w_CHMOD)) (P28 : Exa Z Z.heap w_CHMOD "com/example/aeacus/aeacus/audit/Syscall") (P29 : Fld Z Z.heap w_CHMOD "com/example/aeacus/aeacus/audit/Syscall" "number" "I" (.int (90 : Int32))) (P30 : Sta Z Z.heap "com/example/aeacus/aeacus/audit/Syscall" "FCHMOD" "Lcom/example/aeacus/aeacus/audit/Syscall;" (.ref w_FCHMOD)) (P31 : Exa Z Z.heap w_FCHMOD "com/example/aeacus/aeacus/audit/Syscall") (P32 : Fld Z Z.heap w_FCHMOD "com/example/aeacus/aeacus/audit/Syscall" "number" "I" (.int (91 : Int32))) (P33 : Sta Z Z.heap "com/example/aeacus/aeacus/audit/Syscall" "FCHMODAT" "Lcom/example/aeacus/aeacus/audit/Syscall;" (.ref w_FCHMODAT)) (P34 : Exa Z Z.heap w_FCHMODAT "com/example/aeacus/aeacus/audit/Syscall") (P35 : Fld Z Z.heap w_FCHMODAT "com/example/aeacus/aeacus/audit/Syscall" "number" "I" (.int (268 : Int32))) (P36 : Sta Z Z.heap "com/example/aeacus/aeacus/audit/Syscall" "CHOWN" "Lcom/example/aeacus/aeacus/audit/Syscall;" (.ref w_CHOWN)) (P37 : Exa Z Z.heap w_CHOWN "com/example/aeacus/aeacus/audit/Syscall") (P38 : Fld Z Z.heap w_CHOWN "com/example/aeacus/aeacus/audit/Syscall" "number" "I" (.int (92 : Int32))) (P39 : Sta Z Z.heap "com/example/aeacus/aeacus/audit/Syscall" "FCHOWNAT" "Lcom/example/aeacus/aeacus/audit/Syscall;" (.ref w_FCHOWNAT)) (P40 : Exa Z Z.heap w_FCHOWNAT "com/example/aeacus/aeacus/audit/Syscall") (P41 : Fld Z Z.heap w_FCHOWNAT "com/example/aeacus/aeacus/audit/Syscall" "number" "I" (.int (260 : Int32))) (P42 : Sta Z Z.heap "com/example/aeacus/aeacus/audit/Syscall" "$VALUES" "[Lcom/example/aeacus/aeacus/audit/Syscall;" (.ref w__VALUES)) (P43 : Exa Z Z.heap w__VALUES "[Lcom/example/aeacus/aeacus/audit/Syscall;") (P44 : Arv Z Z.heap w__VALUES k_ (.object "com/example/aeacus/aeacus/audit/Syscall") (14 : Int32) [(.ref w_OPEN), (.ref w_CREAT), (.ref w_OPENAT), (.ref w_RENAME), (.ref w_RENAMEAT), (.ref w_RENAMEAT2), (.ref w_UNLINK), (.ref w_UNLINKAT), (.ref w_RMDIR), (.ref w_CHMOD), (.ref w_FCHMOD), (.ref w_FCHMODAT), (.ref w_CHOWN), (.ref w_FCHOWNAT)] .null) :
    MetFree l (⟨"com/example/aeacus/aeacus/audit/Syscall", "values", "()[Lcom/example/aeacus/aeacus/audit/Syscall;"⟩ : MethodName) (head1 (Jvm.Cond.code (⟨"com/example/aeacus/aeacus/audit/Syscall", "values", "()[Lcom/example/aeacus/aeacus/audit/Syscall;"⟩ : MethodName) prog_7_method_1_code 0 (some (.array (.object "com/example/aeacus/aeacus/audit/Syscall"))) :: ws) ({ frames := 1, cells := 1, slots := 14, locals := 14 } : Room)) (fun a U => a = #[] ∧ Z.Warmed39 U.vm ∧ U.heap = h0) (fun _ _ _ _ _ => True) (fun _ U o U' => ∃ v L, o = .returned v ∧ QVal Z w_OPEN w_CREAT w_OPENAT w_RENAME w_RENAMEAT w_RENAMEAT2 w_UNLINK w_UNLINKAT w_RMDIR w_CHMOD w_FCHMOD w_FCHMODAT w_CHOWN w_FCHOWNAT w__VALUES k_ h0 n0 v U'.heap L ∧ FrameEnd U o U' L ({ frames := 1, cells := 1, slots := 14, locals := 14 } : Room).cells ({ frames := 1, cells := 1, slots := 14, locals := 14 } : Room).slots) := by
  refine MetFree.of_bodySF (plainFor_of_name pn_0) hisR ?_
  intro p e s m args below meth c s₁ Bd hml0 hP hK
  obtain ⟨rfl, hZ, hh⟩ := hP
  have hx := Bd.exec
  have hby := Bd.bytes
  have hml : c.maxLocals = 0 := hml0
  have hown : s.vm.findClass "com/example/aeacus/aeacus/audit/Syscall" = some m.cls := findClass_of_methodNamed Bd.named
  have hnm := (name_of_methodNamed Bd.named Bd.method).1
  have X0 : Stand p l e ({ frames := 1, cells := 1, slots := 14, locals := 14 } : Room) s m #[] below meth c s₁ [] 0 0 := Stand.of_body Bd
  have e0 : s₁.heap = h0 := by rw [← hh, Bd.state]; rfl
  have N0 := Fr.nil n0
  have pre0 : ∀ t, Steps p.tables e below (s₁.setTop (mkF m 0 #[] [])) t → Steps p.tables e below (s₁.setTop (entryFrame m #[] 0)) t := fun t k => castTop (efVal m ) k
  have K0 : Keep h0 h0 [] := Keep.refl _ _
  obtain ⟨T1, X1, e1, st1⟩ := getS2 X0 hx hZ hown (host := "") (Or.inl (hw _ (List.mem_of_getElem? (i := 12) rfl))) Via.refl e0 (P42.ext O0.2) (g := (mkF m 0 #[] [])) rfl (hb hby d1_0)
  have f3 : Arv Z h0 w__VALUES k_ (.object "com/example/aeacus/aeacus/audit/Syscall") (14 : Int32) [(.ref w_OPEN), (.ref w_CREAT), (.ref w_OPENAT), (.ref w_RENAME), (.ref w_RENAMEAT), (.ref w_RENAMEAT2), (.ref w_UNLINK), (.ref w_UNLINKAT), (.ref w_RMDIR), (.ref w_CHMOD), (.ref w_FCHMOD), (.ref w_FCHMODAT), (.ref w_CHOWN), (.ref w_FCHOWNAT)] .null := P44.ext O0.2
  have f4 : Exa Z h0 w__VALUES "[Lcom/example/aeacus/aeacus/audit/Syscall;" := P43.ext O0.2
  obtain ⟨T2, h2, X2, e2, E2, A2, Z2, st2⟩ := cloneH X1 hx hZ hown (hw _ (List.mem_of_getElem? (i := 14) rfl)) (hw _ (List.mem_of_getElem? (i := 15) rfl)) (hw _ (List.mem_of_getElem? (i := 19) rfl)) (hw _ (List.mem_of_getElem? (i := 17) rfl)) (hw _ (List.mem_of_getElem? (i := 18) rfl)) (hw _ (List.mem_of_getElem? (i := 20) rfl)) e1 f3.arh f4 (g := (mkF m 3 #[] [(.ref w__VALUES)])) rfl (by rw [hml]; rfl) rfl (hb hby d1_3) (by decide) (W := 0) (cap := 14) (by show 2 * 0 + _ ≤ _; exact Nat.le_of_eq rfl) (by decide) (by decide) (by decide) (by decide)
  obtain ⟨b2, g2⟩ : ∃ z, z = h0.size := ⟨_, rfl⟩
  rw [← g2] at A2 Z2 st2
  have ge5 : n0 ≤ b2 := Nat.le_trans (Nat.le_trans (Nat.le_of_eq O0.1.symm) O0.2.1) (Nat.le_of_eq g2.symm)
  have sz6 : h0.size ≤ b2 := Nat.le_trans K0.1 (Nat.le_of_eq g2.symm)
  have f7 : Arv Z h2 b2 k_ (.object "com/example/aeacus/aeacus/audit/Syscall") (14 : Int32) [(.ref w_OPEN), (.ref w_CREAT), (.ref w_OPENAT), (.ref w_RENAME), (.ref w_RENAMEAT), (.ref w_RENAMEAT2), (.ref w_UNLINK), (.ref w_UNLINKAT), (.ref w_RMDIR), (.ref w_CHMOD), (.ref w_FCHMOD), (.ref w_FCHMODAT), (.ref w_CHOWN), (.ref w_FCHOWNAT)] .null := A2
  obtain ⟨T8, X8, e8, st8⟩ := castY X2 hx hZ hown (hw _ (List.mem_of_getElem? (i := 36) rfl)) e2 (Ins.self Z2) (g := (mkF m 6 #[] [(.ref b2)])) rfl rfl (hb hby d1_6)
  have pre9 : ∀ t, Steps p.tables e below (T8.setTop (mkF m 9 #[] [(.ref b2)])) t → Steps p.tables e below (s₁.setTop (entryFrame m #[] 0)) t := by
    intro t kt
    refine pre0 t ?_
    show Steps p.tables e below (s₁.setTop (mkF m 0 #[] [])) _
    refine st1 _ ?_
    show Steps p.tables e below (T1.setTop (mkF m 3 #[] [(.ref w__VALUES)])) _
    refine st2 _ ?_
    show Steps p.tables e below (T2.setTop (mkF m 6 #[] [(.ref b2)])) _
    refine st8 _ ?_
    exact kt
  have f11 : Keep h0 h2 [] := K0.ext E2
  obtain ⟨fs, hr, hrun, hended, hW, hsame⟩ := X8.leave (v := some (.ref b2)) (fun h => by rw [Bd.returns] at h; cases h)
  refine ⟨_, _, pre9 _ (retOut X8 hx Bd.returns rfl (Or.inr (Or.inr (Or.inr (Or.inr ⟨rfl, rfl, rfl⟩)))) (hb hby d1_9) hr), hrun, hended, _, _, rfl, ?_, ⟨_, rfl⟩, hW, hsame.mono (by decide) (by decide)⟩
  show QVal Z w_OPEN w_CREAT w_OPENAT w_RENAME w_RENAMEAT w_RENAMEAT2 w_UNLINK w_UNLINKAT w_RMDIR w_CHMOD w_FCHMOD w_FCHMODAT w_CHOWN w_FCHOWNAT w__VALUES k_ h0 n0 _ T8.heap _
  rw [e8]
  exact ⟨b2, rfl, N0, f11, sz6, f7, Z2⟩
theorem d2_0 : decode method_3_code 0 = .ok (.iload_n 0, 1) := by decide +kernel
theorem d2_1 : decode method_3_code 1 = .ok (.ifCond .ne 7, 3) := by decide +kernel
theorem d2_4 : decode method_3_code 4 = .ok (.ldc2_w 22, 3) := by decide +kernel
theorem d2_7 : decode method_3_code 7 = .ok (.lreturn, 1) := by decide +kernel
theorem d2_8 : decode method_3_code 8 = .ok (.iload_n 0, 1) := by decide +kernel
theorem d2_9 : decode method_3_code 9 = .ok (.iconst 1, 1) := by decide +kernel
theorem d2_10 : decode method_3_code 10 = .ok (.if_icmp .ne 7, 3) := by decide +kernel
theorem d2_13 : decode method_3_code 13 = .ok (.ldc2_w 24, 3) := by decide +kernel
theorem d2_16 : decode method_3_code 16 = .ok (.lreturn, 1) := by decide +kernel
theorem d2_17 : decode method_3_code 17 = .ok (.iload_n 0, 1) := by decide +kernel
theorem d2_18 : decode method_3_code 18 = .ok (.iconst 2, 1) := by decide +kernel
theorem d2_19 : decode method_3_code 19 = .ok (.if_icmp .ne 7, 3) := by decide +kernel
theorem d2_22 : decode method_3_code 22 = .ok (.ldc2_w 26, 3) := by decide +kernel
theorem d2_25 : decode method_3_code 25 = .ok (.lreturn, 1) := by decide +kernel
theorem d2_26 : decode method_3_code 26 = .ok (.iload_n 0, 1) := by decide +kernel
theorem d2_27 : decode method_3_code 27 = .ok (.iconst 3, 1) := by decide +kernel
theorem d2_28 : decode method_3_code 28 = .ok (.if_icmp .ne 7, 3) := by decide +kernel
theorem d2_31 : decode method_3_code 31 = .ok (.ldc2_w 28, 3) := by decide +kernel
theorem d2_34 : decode method_3_code 34 = .ok (.lreturn, 1) := by decide +kernel
theorem d2_35 : decode method_3_code 35 = .ok (.iload_n 0, 1) := by decide +kernel
theorem d2_36 : decode method_3_code 36 = .ok (.iconst 4, 1) := by decide +kernel
theorem d2_37 : decode method_3_code 37 = .ok (.if_icmp .ne 7, 3) := by decide +kernel
theorem d2_40 : decode method_3_code 40 = .ok (.ldc2_w 30, 3) := by decide +kernel
theorem d2_43 : decode method_3_code 43 = .ok (.lreturn, 1) := by decide +kernel
theorem d2_44 : decode method_3_code 44 = .ok (.iload_n 0, 1) := by decide +kernel
theorem d2_45 : decode method_3_code 45 = .ok (.iconst 5, 1) := by decide +kernel
theorem d2_46 : decode method_3_code 46 = .ok (.if_icmp .ne 7, 3) := by decide +kernel
theorem d2_49 : decode method_3_code 49 = .ok (.ldc2_w 32, 3) := by decide +kernel
theorem d2_52 : decode method_3_code 52 = .ok (.lreturn, 1) := by decide +kernel
theorem d2_53 : decode method_3_code 53 = .ok (.iload_n 0, 1) := by decide +kernel
theorem d2_54 : decode method_3_code 54 = .ok (.bipush 6, 2) := by decide +kernel
theorem d2_56 : decode method_3_code 56 = .ok (.if_icmp .ne 7, 3) := by decide +kernel
theorem d2_59 : decode method_3_code 59 = .ok (.ldc2_w 34, 3) := by decide +kernel
theorem d2_62 : decode method_3_code 62 = .ok (.lreturn, 1) := by decide +kernel
theorem d2_63 : decode method_3_code 63 = .ok (.iload_n 0, 1) := by decide +kernel
theorem d2_64 : decode method_3_code 64 = .ok (.bipush 7, 2) := by decide +kernel
theorem d2_66 : decode method_3_code 66 = .ok (.if_icmp .ne 7, 3) := by decide +kernel
theorem d2_69 : decode method_3_code 69 = .ok (.ldc2_w 36, 3) := by decide +kernel
theorem d2_72 : decode method_3_code 72 = .ok (.lreturn, 1) := by decide +kernel
theorem d2_73 : decode method_3_code 73 = .ok (.iload_n 0, 1) := by decide +kernel
theorem d2_74 : decode method_3_code 74 = .ok (.bipush 8, 2) := by decide +kernel
theorem d2_76 : decode method_3_code 76 = .ok (.if_icmp .ne 7, 3) := by decide +kernel
theorem d2_79 : decode method_3_code 79 = .ok (.ldc2_w 38, 3) := by decide +kernel
theorem d2_82 : decode method_3_code 82 = .ok (.lreturn, 1) := by decide +kernel
theorem d2_83 : decode method_3_code 83 = .ok (.iload_n 0, 1) := by decide +kernel
theorem d2_84 : decode method_3_code 84 = .ok (.bipush 9, 2) := by decide +kernel
theorem d2_86 : decode method_3_code 86 = .ok (.if_icmp .ne 7, 3) := by decide +kernel
theorem d2_89 : decode method_3_code 89 = .ok (.ldc2_w 40, 3) := by decide +kernel
theorem d2_92 : decode method_3_code 92 = .ok (.lreturn, 1) := by decide +kernel
theorem d2_93 : decode method_3_code 93 = .ok (.iload_n 0, 1) := by decide +kernel
theorem d2_94 : decode method_3_code 94 = .ok (.bipush 10, 2) := by decide +kernel
theorem d2_96 : decode method_3_code 96 = .ok (.if_icmp .ne 7, 3) := by decide +kernel
theorem d2_99 : decode method_3_code 99 = .ok (.ldc2_w 42, 3) := by decide +kernel
theorem d2_102 : decode method_3_code 102 = .ok (.lreturn, 1) := by decide +kernel
theorem d2_103 : decode method_3_code 103 = .ok (.iload_n 0, 1) := by decide +kernel
theorem d2_104 : decode method_3_code 104 = .ok (.bipush 11, 2) := by decide +kernel
theorem d2_106 : decode method_3_code 106 = .ok (.if_icmp .ne 7, 3) := by decide +kernel
theorem d2_109 : decode method_3_code 109 = .ok (.ldc2_w 44, 3) := by decide +kernel
theorem d2_112 : decode method_3_code 112 = .ok (.lreturn, 1) := by decide +kernel
theorem d2_113 : decode method_3_code 113 = .ok (.iload_n 0, 1) := by decide +kernel
theorem d2_114 : decode method_3_code 114 = .ok (.bipush 12, 2) := by decide +kernel
theorem d2_116 : decode method_3_code 116 = .ok (.if_icmp .ne 7, 3) := by decide +kernel
theorem d2_119 : decode method_3_code 119 = .ok (.ldc2_w 46, 3) := by decide +kernel
theorem d2_122 : decode method_3_code 122 = .ok (.lreturn, 1) := by decide +kernel
theorem d2_123 : decode method_3_code 123 = .ok (.ldc2_w 48, 3) := by decide +kernel
theorem d2_126 : decode method_3_code 126 = .ok (.lreturn, 1) := by decide +kernel
theorem pn_1 : plainName "com/example/aeacus/aeacus/audit/SyscallOfPinLaw" = true := by first | (simp [plainName, overriddenIn]; done) | decide +kernel
theorem efNum (m : MethodId) (p0_ : Int32) : entryFrame m #[(.int p0_)] 1 = mkF m 0 #[.val (.int p0_)] [] := by first | (simp [entryFrame, mkF, argsToLocals, Value.category]; done) | rfl
def QNum (Z : State) (p0_ : Int32) (h0 : Heap) (n0 : Nat) (v : Option Value) (h : Heap) (L : List Loc) : Prop := ∃ r_ : Int64, v = some (.long r_) ∧ (((2 : Int64) = r_ ∧ (p0_ = (0 : Int32))) ∨ ((85 : Int64) = r_ ∧ (¬ (p0_ = (0 : Int32))) ∧ (p0_ = (1 : Int32))) ∨ ((257 : Int64) = r_ ∧ (¬ (p0_ = (0 : Int32))) ∧ (¬ (p0_ = (1 : Int32))) ∧ (p0_ = (2 : Int32))) ∨ ((82 : Int64) = r_ ∧ (¬ (p0_ = (0 : Int32))) ∧ (¬ (p0_ = (1 : Int32))) ∧ (¬ (p0_ = (2 : Int32))) ∧ (p0_ = (3 : Int32))) ∨ ((264 : Int64) = r_ ∧ (¬ (p0_ = (0 : Int32))) ∧ (¬ (p0_ = (1 : Int32))) ∧ (¬ (p0_ = (2 : Int32))) ∧ (¬ (p0_ = (3 : Int32))) ∧ (p0_ = (4 : Int32))) ∨ ((316 : Int64) = r_ ∧ (¬ (p0_ = (0 : Int32))) ∧ (¬ (p0_ = (1 : Int32))) ∧ (¬ (p0_ = (2 : Int32))) ∧ (¬ (p0_ = (3 : Int32))) ∧ (¬ (p0_ = (4 : Int32))) ∧ (p0_ = (5 : Int32))) ∨ ((87 : Int64) = r_ ∧ (¬ (p0_ = (0 : Int32))) ∧ (¬ (p0_ = (1 : Int32))) ∧ (¬ (p0_ = (2 : Int32))) ∧ (¬ (p0_ = (3 : Int32))) ∧ (¬ (p0_ = (4 : Int32))) ∧ (¬ (p0_ = (5 : Int32))) ∧ (p0_ = (6 : Int32))) ∨ ((263 : Int64) = r_ ∧ (¬ (p0_ = (0 : Int32))) ∧ (¬ (p0_ = (1 : Int32))) ∧ (¬ (p0_ = (2 : Int32))) ∧ (¬ (p0_ = (3 : Int32))) ∧ (¬ (p0_ = (4 : Int32))) ∧ (¬ (p0_ = (5 : Int32))) ∧ (¬ (p0_ = (6 : Int32))) ∧ (p0_ = (7 : Int32))) ∨ ((84 : Int64) = r_ ∧ (¬ (p0_ = (0 : Int32))) ∧ (¬ (p0_ = (1 : Int32))) ∧ (¬ (p0_ = (2 : Int32))) ∧ (¬ (p0_ = (3 : Int32))) ∧ (¬ (p0_ = (4 : Int32))) ∧ (¬ (p0_ = (5 : Int32))) ∧ (¬ (p0_ = (6 : Int32))) ∧ (¬ (p0_ = (7 : Int32))) ∧ (p0_ = (8 : Int32))) ∨ ((90 : Int64) = r_ ∧ (¬ (p0_ = (0 : Int32))) ∧ (¬ (p0_ = (1 : Int32))) ∧ (¬ (p0_ = (2 : Int32))) ∧ (¬ (p0_ = (3 : Int32))) ∧ (¬ (p0_ = (4 : Int32))) ∧ (¬ (p0_ = (5 : Int32))) ∧ (¬ (p0_ = (6 : Int32))) ∧ (¬ (p0_ = (7 : Int32))) ∧ (¬ (p0_ = (8 : Int32))) ∧ (p0_ = (9 : Int32))) ∨ ((91 : Int64) = r_ ∧ (¬ (p0_ = (0 : Int32))) ∧ (¬ (p0_ = (1 : Int32))) ∧ (¬ (p0_ = (2 : Int32))) ∧ (¬ (p0_ = (3 : Int32))) ∧ (¬ (p0_ = (4 : Int32))) ∧ (¬ (p0_ = (5 : Int32))) ∧ (¬ (p0_ = (6 : Int32))) ∧ (¬ (p0_ = (7 : Int32))) ∧ (¬ (p0_ = (8 : Int32))) ∧ (¬ (p0_ = (9 : Int32))) ∧ (p0_ = (10 : Int32))) ∨ ((268 : Int64) = r_ ∧ (¬ (p0_ = (0 : Int32))) ∧ (¬ (p0_ = (1 : Int32))) ∧ (¬ (p0_ = (2 : Int32))) ∧ (¬ (p0_ = (3 : Int32))) ∧ (¬ (p0_ = (4 : Int32))) ∧ (¬ (p0_ = (5 : Int32))) ∧ (¬ (p0_ = (6 : Int32))) ∧ (¬ (p0_ = (7 : Int32))) ∧ (¬ (p0_ = (8 : Int32))) ∧ (¬ (p0_ = (9 : Int32))) ∧ (¬ (p0_ = (10 : Int32))) ∧ (p0_ = (11 : Int32))) ∨ ((92 : Int64) = r_ ∧ (¬ (p0_ = (0 : Int32))) ∧ (¬ (p0_ = (1 : Int32))) ∧ (¬ (p0_ = (2 : Int32))) ∧ (¬ (p0_ = (3 : Int32))) ∧ (¬ (p0_ = (4 : Int32))) ∧ (¬ (p0_ = (5 : Int32))) ∧ (¬ (p0_ = (6 : Int32))) ∧ (¬ (p0_ = (7 : Int32))) ∧ (¬ (p0_ = (8 : Int32))) ∧ (¬ (p0_ = (9 : Int32))) ∧ (¬ (p0_ = (10 : Int32))) ∧ (¬ (p0_ = (11 : Int32))) ∧ (p0_ = (12 : Int32))) ∨ ((260 : Int64) = r_ ∧ (¬ (p0_ = (0 : Int32))) ∧ (¬ (p0_ = (1 : Int32))) ∧ (¬ (p0_ = (2 : Int32))) ∧ (¬ (p0_ = (3 : Int32))) ∧ (¬ (p0_ = (4 : Int32))) ∧ (¬ (p0_ = (5 : Int32))) ∧ (¬ (p0_ = (6 : Int32))) ∧ (¬ (p0_ = (7 : Int32))) ∧ (¬ (p0_ = (8 : Int32))) ∧ (¬ (p0_ = (9 : Int32))) ∧ (¬ (p0_ = (10 : Int32))) ∧ (¬ (p0_ = (11 : Int32))) ∧ (¬ (p0_ = (12 : Int32))))) ∧ Fr n0 L ∧ h = h0
set_option maxRecDepth 65536 in
set_option maxHeartbeats 40000000 in
theorem rmNum (l : Launch) (Z : State) (a0 : Array Value) (hw : ∀ d ∈ tables_1, d.before a0 Z = true) (ws : List Jvm.Cond) (p0_ : Int32) (h0 : Heap) (n0 : Nat) (O0 : Old Z n0 h0)  :
    MetFree l (⟨"com/example/aeacus/aeacus/audit/SyscallOfPinLaw", "number", "(I)J"⟩ : MethodName) (head1 (Jvm.Cond.code (⟨"com/example/aeacus/aeacus/audit/SyscallOfPinLaw", "number", "(I)J"⟩ : MethodName) method_3_code 1 (some .long) :: ws) ({ frames := 0, cells := 0, slots := 0, locals := 0 } : Room)) (fun a U => a = #[(.int p0_)] ∧ Z.Warmed39 U.vm ∧ U.heap = h0) (fun _ _ _ _ _ => True) (fun _ U o U' => ∃ v L, o = .returned v ∧ QNum Z p0_ h0 n0 v U'.heap L ∧ FrameEnd U o U' L ({ frames := 0, cells := 0, slots := 0, locals := 0 } : Room).cells ({ frames := 0, cells := 0, slots := 0, locals := 0 } : Room).slots) := by
  refine MetFree.of_bodySF (plainFor_of_name pn_1) hisR ?_
  intro p e s m args below meth c s₁ Bd hml0 hP hK
  obtain ⟨rfl, hZ, hh⟩ := hP
  have hx := Bd.exec
  have hby := Bd.bytes
  have hml : c.maxLocals = 1 := hml0
  have hown : s.vm.findClass "com/example/aeacus/aeacus/audit/SyscallOfPinLaw" = some m.cls := findClass_of_methodNamed Bd.named
  have hnm := (name_of_methodNamed Bd.named Bd.method).1
  have X0 : Stand p l e ({ frames := 0, cells := 0, slots := 0, locals := 0 } : Room) s m #[(.int p0_)] below meth c s₁ [] 0 0 := Stand.of_body Bd
  have e0 : s₁.heap = h0 := by rw [← hh, Bd.state]; rfl
  have N0 := Fr.nil n0
  have pre0 : ∀ t, Steps p.tables e below (s₁.setTop (mkF m 0 #[.val (.int p0_)] [])) t → Steps p.tables e below (s₁.setTop (entryFrame m #[(.int p0_)] 1)) t := fun t k => castTop (efNum m p0_) k
  have K0 : Keep h0 h0 [] := Keep.refl _ _
  have pre1 : ∀ t, Steps p.tables e below (s₁.setTop (mkF m 1 #[.val (.int p0_)] [(.int p0_)])) t → Steps p.tables e below (s₁.setTop (entryFrame m #[(.int p0_)] 1)) t := by
    intro t kt
    refine pre0 t ?_
    show Steps p.tables e below (s₁.setTop (mkF m 0 #[.val (.int p0_)] [])) _
    refine XS.iloadN X0.here hx rfl (hb hby d2_0) rfl ?_
    exact kt
  by_cases hc2 : p0_ = (0 : Int32)
  · have pre3 : ∀ t, Steps p.tables e below (s₁.setTop (mkF m 7 #[.val (.int p0_)] [(.long (2 : Int64))])) t → Steps p.tables e below (s₁.setTop (entryFrame m #[(.int p0_)] 1)) t := by
      intro t kt
      refine pre1 t ?_
      show Steps p.tables e below (s₁.setTop (mkF m 1 #[.val (.int p0_)] [(.int p0_)])) _
      refine XS.ifNo X0.here hx rfl (hb hby d2_1) rfl ((if0 _ _).trans (teq hc2).2) ?_
      show Steps p.tables e below (s₁.setTop (mkF m 4 #[.val (.int p0_)] [])) _
      refine X0.ldc2Long hx hown (mvT hZ (hw _ (List.mem_of_getElem? (i := 43) rfl))) (g := (mkF m 4 #[.val (.int p0_)] [])) rfl (hb hby d2_4) _ ?_
      exact kt
    obtain ⟨fs, hr, hrun, hended, hW, hsame⟩ := X0.leave (v := some (.long (2 : Int64))) (fun h => by rw [Bd.returns] at h; cases h)
    refine ⟨_, _, pre3 _ (retOut X0 hx Bd.returns rfl (Or.inr (Or.inl ⟨rfl, rfl, _, rfl⟩)) (hb hby d2_7) hr), hrun, hended, _, _, rfl, ?_, ⟨_, rfl⟩, hW, hsame.mono (by decide) (by decide)⟩
    show QNum Z p0_ h0 n0 _ s₁.heap _
    rw [e0]
    exact ⟨(2 : Int64), rfl, (Or.inl ⟨rfl, hc2⟩), N0, rfl⟩
  · have pre5 : ∀ t, Steps p.tables e below (s₁.setTop (mkF m 10 #[.val (.int p0_)] [(.int (1 : Int32)), (.int p0_)])) t → Steps p.tables e below (s₁.setTop (entryFrame m #[(.int p0_)] 1)) t := by
      intro t kt
      refine pre1 t ?_
      show Steps p.tables e below (s₁.setTop (mkF m 1 #[.val (.int p0_)] [(.int p0_)])) _
      refine XS.ifYes X0.here hx rfl (pc0 := 1) (pc' := 8) rfl (hb hby d2_1) rfl ((if0 _ _).trans (feq hc2).2) (by decide) (by decide) ?_
      show Steps p.tables e below (s₁.setTop (mkF m 8 #[.val (.int p0_)] [])) _
      refine XS.iloadN X0.here hx rfl (hb hby d2_8) rfl ?_
      show Steps p.tables e below (s₁.setTop (mkF m 9 #[.val (.int p0_)] [(.int p0_)])) _
      refine XS.iconst X0.here hx rfl (hb hby d2_9) ?_
      exact kt
    by_cases hc6 : p0_ = (1 : Int32)
    · have pre7 : ∀ t, Steps p.tables e below (s₁.setTop (mkF m 16 #[.val (.int p0_)] [(.long (85 : Int64))])) t → Steps p.tables e below (s₁.setTop (entryFrame m #[(.int p0_)] 1)) t := by
        intro t kt
        refine pre5 t ?_
        show Steps p.tables e below (s₁.setTop (mkF m 10 #[.val (.int p0_)] [(.int (1 : Int32)), (.int p0_)])) _
        refine XS.icmpNo X0.here hx rfl (hb hby d2_10) rfl (teq hc6).2 ?_
        show Steps p.tables e below (s₁.setTop (mkF m 13 #[.val (.int p0_)] [])) _
        refine X0.ldc2Long hx hown (mvT hZ (hw _ (List.mem_of_getElem? (i := 44) rfl))) (g := (mkF m 13 #[.val (.int p0_)] [])) rfl (hb hby d2_13) _ ?_
        exact kt
      obtain ⟨fs, hr, hrun, hended, hW, hsame⟩ := X0.leave (v := some (.long (85 : Int64))) (fun h => by rw [Bd.returns] at h; cases h)
      refine ⟨_, _, pre7 _ (retOut X0 hx Bd.returns rfl (Or.inr (Or.inl ⟨rfl, rfl, _, rfl⟩)) (hb hby d2_16) hr), hrun, hended, _, _, rfl, ?_, ⟨_, rfl⟩, hW, hsame.mono (by decide) (by decide)⟩
      show QNum Z p0_ h0 n0 _ s₁.heap _
      rw [e0]
      exact ⟨(85 : Int64), rfl, (Or.inr (Or.inl ⟨rfl, hc2, hc6⟩)), N0, rfl⟩
    · have pre9 : ∀ t, Steps p.tables e below (s₁.setTop (mkF m 19 #[.val (.int p0_)] [(.int (2 : Int32)), (.int p0_)])) t → Steps p.tables e below (s₁.setTop (entryFrame m #[(.int p0_)] 1)) t := by
        intro t kt
        refine pre5 t ?_
        show Steps p.tables e below (s₁.setTop (mkF m 10 #[.val (.int p0_)] [(.int (1 : Int32)), (.int p0_)])) _
        refine XS.icmpYes X0.here hx rfl (pc0 := 10) (pc' := 17) rfl (hb hby d2_10) rfl (feq hc6).2 (by decide) (by decide) ?_
        show Steps p.tables e below (s₁.setTop (mkF m 17 #[.val (.int p0_)] [])) _
        refine XS.iloadN X0.here hx rfl (hb hby d2_17) rfl ?_
        show Steps p.tables e below (s₁.setTop (mkF m 18 #[.val (.int p0_)] [(.int p0_)])) _
        refine XS.iconst X0.here hx rfl (hb hby d2_18) ?_
        exact kt
      by_cases hc10 : p0_ = (2 : Int32)
      · have pre11 : ∀ t, Steps p.tables e below (s₁.setTop (mkF m 25 #[.val (.int p0_)] [(.long (257 : Int64))])) t → Steps p.tables e below (s₁.setTop (entryFrame m #[(.int p0_)] 1)) t := by
          intro t kt
          refine pre9 t ?_
          show Steps p.tables e below (s₁.setTop (mkF m 19 #[.val (.int p0_)] [(.int (2 : Int32)), (.int p0_)])) _
          refine XS.icmpNo X0.here hx rfl (hb hby d2_19) rfl (teq hc10).2 ?_
          show Steps p.tables e below (s₁.setTop (mkF m 22 #[.val (.int p0_)] [])) _
          refine X0.ldc2Long hx hown (mvT hZ (hw _ (List.mem_of_getElem? (i := 4) rfl))) (g := (mkF m 22 #[.val (.int p0_)] [])) rfl (hb hby d2_22) _ ?_
          exact kt
        obtain ⟨fs, hr, hrun, hended, hW, hsame⟩ := X0.leave (v := some (.long (257 : Int64))) (fun h => by rw [Bd.returns] at h; cases h)
        refine ⟨_, _, pre11 _ (retOut X0 hx Bd.returns rfl (Or.inr (Or.inl ⟨rfl, rfl, _, rfl⟩)) (hb hby d2_25) hr), hrun, hended, _, _, rfl, ?_, ⟨_, rfl⟩, hW, hsame.mono (by decide) (by decide)⟩
        show QNum Z p0_ h0 n0 _ s₁.heap _
        rw [e0]
        exact ⟨(257 : Int64), rfl, (Or.inr (Or.inr (Or.inl ⟨rfl, hc2, hc6, hc10⟩))), N0, rfl⟩
      · have pre13 : ∀ t, Steps p.tables e below (s₁.setTop (mkF m 28 #[.val (.int p0_)] [(.int (3 : Int32)), (.int p0_)])) t → Steps p.tables e below (s₁.setTop (entryFrame m #[(.int p0_)] 1)) t := by
          intro t kt
          refine pre9 t ?_
          show Steps p.tables e below (s₁.setTop (mkF m 19 #[.val (.int p0_)] [(.int (2 : Int32)), (.int p0_)])) _
          refine XS.icmpYes X0.here hx rfl (pc0 := 19) (pc' := 26) rfl (hb hby d2_19) rfl (feq hc10).2 (by decide) (by decide) ?_
          show Steps p.tables e below (s₁.setTop (mkF m 26 #[.val (.int p0_)] [])) _
          refine XS.iloadN X0.here hx rfl (hb hby d2_26) rfl ?_
          show Steps p.tables e below (s₁.setTop (mkF m 27 #[.val (.int p0_)] [(.int p0_)])) _
          refine XS.iconst X0.here hx rfl (hb hby d2_27) ?_
          exact kt
        by_cases hc14 : p0_ = (3 : Int32)
        · have pre15 : ∀ t, Steps p.tables e below (s₁.setTop (mkF m 34 #[.val (.int p0_)] [(.long (82 : Int64))])) t → Steps p.tables e below (s₁.setTop (entryFrame m #[(.int p0_)] 1)) t := by
            intro t kt
            refine pre13 t ?_
            show Steps p.tables e below (s₁.setTop (mkF m 28 #[.val (.int p0_)] [(.int (3 : Int32)), (.int p0_)])) _
            refine XS.icmpNo X0.here hx rfl (hb hby d2_28) rfl (teq hc14).2 ?_
            show Steps p.tables e below (s₁.setTop (mkF m 31 #[.val (.int p0_)] [])) _
            refine X0.ldc2Long hx hown (mvT hZ (hw _ (List.mem_of_getElem? (i := 47) rfl))) (g := (mkF m 31 #[.val (.int p0_)] [])) rfl (hb hby d2_31) _ ?_
            exact kt
          obtain ⟨fs, hr, hrun, hended, hW, hsame⟩ := X0.leave (v := some (.long (82 : Int64))) (fun h => by rw [Bd.returns] at h; cases h)
          refine ⟨_, _, pre15 _ (retOut X0 hx Bd.returns rfl (Or.inr (Or.inl ⟨rfl, rfl, _, rfl⟩)) (hb hby d2_34) hr), hrun, hended, _, _, rfl, ?_, ⟨_, rfl⟩, hW, hsame.mono (by decide) (by decide)⟩
          show QNum Z p0_ h0 n0 _ s₁.heap _
          rw [e0]
          exact ⟨(82 : Int64), rfl, (Or.inr (Or.inr (Or.inr (Or.inl ⟨rfl, hc2, hc6, hc10, hc14⟩)))), N0, rfl⟩
        · have pre17 : ∀ t, Steps p.tables e below (s₁.setTop (mkF m 37 #[.val (.int p0_)] [(.int (4 : Int32)), (.int p0_)])) t → Steps p.tables e below (s₁.setTop (entryFrame m #[(.int p0_)] 1)) t := by
            intro t kt
            refine pre13 t ?_
            show Steps p.tables e below (s₁.setTop (mkF m 28 #[.val (.int p0_)] [(.int (3 : Int32)), (.int p0_)])) _
            refine XS.icmpYes X0.here hx rfl (pc0 := 28) (pc' := 35) rfl (hb hby d2_28) rfl (feq hc14).2 (by decide) (by decide) ?_
            show Steps p.tables e below (s₁.setTop (mkF m 35 #[.val (.int p0_)] [])) _
            refine XS.iloadN X0.here hx rfl (hb hby d2_35) rfl ?_
            show Steps p.tables e below (s₁.setTop (mkF m 36 #[.val (.int p0_)] [(.int p0_)])) _
            refine XS.iconst X0.here hx rfl (hb hby d2_36) ?_
            exact kt
          by_cases hc18 : p0_ = (4 : Int32)
          · have pre19 : ∀ t, Steps p.tables e below (s₁.setTop (mkF m 43 #[.val (.int p0_)] [(.long (264 : Int64))])) t → Steps p.tables e below (s₁.setTop (entryFrame m #[(.int p0_)] 1)) t := by
              intro t kt
              refine pre17 t ?_
              show Steps p.tables e below (s₁.setTop (mkF m 37 #[.val (.int p0_)] [(.int (4 : Int32)), (.int p0_)])) _
              refine XS.icmpNo X0.here hx rfl (hb hby d2_37) rfl (teq hc18).2 ?_
              show Steps p.tables e below (s₁.setTop (mkF m 40 #[.val (.int p0_)] [])) _
              refine X0.ldc2Long hx hown (mvT hZ (hw _ (List.mem_of_getElem? (i := 46) rfl))) (g := (mkF m 40 #[.val (.int p0_)] [])) rfl (hb hby d2_40) _ ?_
              exact kt
            obtain ⟨fs, hr, hrun, hended, hW, hsame⟩ := X0.leave (v := some (.long (264 : Int64))) (fun h => by rw [Bd.returns] at h; cases h)
            refine ⟨_, _, pre19 _ (retOut X0 hx Bd.returns rfl (Or.inr (Or.inl ⟨rfl, rfl, _, rfl⟩)) (hb hby d2_43) hr), hrun, hended, _, _, rfl, ?_, ⟨_, rfl⟩, hW, hsame.mono (by decide) (by decide)⟩
            show QNum Z p0_ h0 n0 _ s₁.heap _
            rw [e0]
            exact ⟨(264 : Int64), rfl, (Or.inr (Or.inr (Or.inr (Or.inr (Or.inl ⟨rfl, hc2, hc6, hc10, hc14, hc18⟩))))), N0, rfl⟩
          · have pre21 : ∀ t, Steps p.tables e below (s₁.setTop (mkF m 46 #[.val (.int p0_)] [(.int (5 : Int32)), (.int p0_)])) t → Steps p.tables e below (s₁.setTop (entryFrame m #[(.int p0_)] 1)) t := by
              intro t kt
              refine pre17 t ?_
              show Steps p.tables e below (s₁.setTop (mkF m 37 #[.val (.int p0_)] [(.int (4 : Int32)), (.int p0_)])) _
              refine XS.icmpYes X0.here hx rfl (pc0 := 37) (pc' := 44) rfl (hb hby d2_37) rfl (feq hc18).2 (by decide) (by decide) ?_
              show Steps p.tables e below (s₁.setTop (mkF m 44 #[.val (.int p0_)] [])) _
              refine XS.iloadN X0.here hx rfl (hb hby d2_44) rfl ?_
              show Steps p.tables e below (s₁.setTop (mkF m 45 #[.val (.int p0_)] [(.int p0_)])) _
              refine XS.iconst X0.here hx rfl (hb hby d2_45) ?_
              exact kt
            by_cases hc22 : p0_ = (5 : Int32)
            · have pre23 : ∀ t, Steps p.tables e below (s₁.setTop (mkF m 52 #[.val (.int p0_)] [(.long (316 : Int64))])) t → Steps p.tables e below (s₁.setTop (entryFrame m #[(.int p0_)] 1)) t := by
                intro t kt
                refine pre21 t ?_
                show Steps p.tables e below (s₁.setTop (mkF m 46 #[.val (.int p0_)] [(.int (5 : Int32)), (.int p0_)])) _
                refine XS.icmpNo X0.here hx rfl (hb hby d2_46) rfl (teq hc22).2 ?_
                show Steps p.tables e below (s₁.setTop (mkF m 49 #[.val (.int p0_)] [])) _
                refine X0.ldc2Long hx hown (mvT hZ (hw _ (List.mem_of_getElem? (i := 50) rfl))) (g := (mkF m 49 #[.val (.int p0_)] [])) rfl (hb hby d2_49) _ ?_
                exact kt
              obtain ⟨fs, hr, hrun, hended, hW, hsame⟩ := X0.leave (v := some (.long (316 : Int64))) (fun h => by rw [Bd.returns] at h; cases h)
              refine ⟨_, _, pre23 _ (retOut X0 hx Bd.returns rfl (Or.inr (Or.inl ⟨rfl, rfl, _, rfl⟩)) (hb hby d2_52) hr), hrun, hended, _, _, rfl, ?_, ⟨_, rfl⟩, hW, hsame.mono (by decide) (by decide)⟩
              show QNum Z p0_ h0 n0 _ s₁.heap _
              rw [e0]
              exact ⟨(316 : Int64), rfl, (Or.inr (Or.inr (Or.inr (Or.inr (Or.inr (Or.inl ⟨rfl, hc2, hc6, hc10, hc14, hc18, hc22⟩)))))), N0, rfl⟩
            · have pre25 : ∀ t, Steps p.tables e below (s₁.setTop (mkF m 56 #[.val (.int p0_)] [(.int (6 : Int32)), (.int p0_)])) t → Steps p.tables e below (s₁.setTop (entryFrame m #[(.int p0_)] 1)) t := by
                intro t kt
                refine pre21 t ?_
                show Steps p.tables e below (s₁.setTop (mkF m 46 #[.val (.int p0_)] [(.int (5 : Int32)), (.int p0_)])) _
                refine XS.icmpYes X0.here hx rfl (pc0 := 46) (pc' := 53) rfl (hb hby d2_46) rfl (feq hc22).2 (by decide) (by decide) ?_
                show Steps p.tables e below (s₁.setTop (mkF m 53 #[.val (.int p0_)] [])) _
                refine XS.iloadN X0.here hx rfl (hb hby d2_53) rfl ?_
                show Steps p.tables e below (s₁.setTop (mkF m 54 #[.val (.int p0_)] [(.int p0_)])) _
                refine XS.bipush X0.here hx rfl (hb hby d2_54) ?_
                exact kt
              by_cases hc26 : p0_ = (6 : Int32)
              · have pre27 : ∀ t, Steps p.tables e below (s₁.setTop (mkF m 62 #[.val (.int p0_)] [(.long (87 : Int64))])) t → Steps p.tables e below (s₁.setTop (entryFrame m #[(.int p0_)] 1)) t := by
                  intro t kt
                  refine pre25 t ?_
                  show Steps p.tables e below (s₁.setTop (mkF m 56 #[.val (.int p0_)] [(.int (6 : Int32)), (.int p0_)])) _
                  refine XS.icmpNo X0.here hx rfl (hb hby d2_56) rfl (teq hc26).2 ?_
                  show Steps p.tables e below (s₁.setTop (mkF m 59 #[.val (.int p0_)] [])) _
                  refine X0.ldc2Long hx hown (mvT hZ (hw _ (List.mem_of_getElem? (i := 51) rfl))) (g := (mkF m 59 #[.val (.int p0_)] [])) rfl (hb hby d2_59) _ ?_
                  exact kt
                obtain ⟨fs, hr, hrun, hended, hW, hsame⟩ := X0.leave (v := some (.long (87 : Int64))) (fun h => by rw [Bd.returns] at h; cases h)
                refine ⟨_, _, pre27 _ (retOut X0 hx Bd.returns rfl (Or.inr (Or.inl ⟨rfl, rfl, _, rfl⟩)) (hb hby d2_62) hr), hrun, hended, _, _, rfl, ?_, ⟨_, rfl⟩, hW, hsame.mono (by decide) (by decide)⟩
                show QNum Z p0_ h0 n0 _ s₁.heap _
                rw [e0]
                exact ⟨(87 : Int64), rfl, (Or.inr (Or.inr (Or.inr (Or.inr (Or.inr (Or.inr (Or.inl ⟨rfl, hc2, hc6, hc10, hc14, hc18, hc22, hc26⟩))))))), N0, rfl⟩
              · have pre29 : ∀ t, Steps p.tables e below (s₁.setTop (mkF m 66 #[.val (.int p0_)] [(.int (7 : Int32)), (.int p0_)])) t → Steps p.tables e below (s₁.setTop (entryFrame m #[(.int p0_)] 1)) t := by
                  intro t kt
                  refine pre25 t ?_
                  show Steps p.tables e below (s₁.setTop (mkF m 56 #[.val (.int p0_)] [(.int (6 : Int32)), (.int p0_)])) _
                  refine XS.icmpYes X0.here hx rfl (pc0 := 56) (pc' := 63) rfl (hb hby d2_56) rfl (feq hc26).2 (by decide) (by decide) ?_
                  show Steps p.tables e below (s₁.setTop (mkF m 63 #[.val (.int p0_)] [])) _
                  refine XS.iloadN X0.here hx rfl (hb hby d2_63) rfl ?_
                  show Steps p.tables e below (s₁.setTop (mkF m 64 #[.val (.int p0_)] [(.int p0_)])) _
                  refine XS.bipush X0.here hx rfl (hb hby d2_64) ?_
                  exact kt
                by_cases hc30 : p0_ = (7 : Int32)
                · have pre31 : ∀ t, Steps p.tables e below (s₁.setTop (mkF m 72 #[.val (.int p0_)] [(.long (263 : Int64))])) t → Steps p.tables e below (s₁.setTop (entryFrame m #[(.int p0_)] 1)) t := by
                    intro t kt
                    refine pre29 t ?_
                    show Steps p.tables e below (s₁.setTop (mkF m 66 #[.val (.int p0_)] [(.int (7 : Int32)), (.int p0_)])) _
                    refine XS.icmpNo X0.here hx rfl (hb hby d2_66) rfl (teq hc30).2 ?_
                    show Steps p.tables e below (s₁.setTop (mkF m 69 #[.val (.int p0_)] [])) _
                    refine X0.ldc2Long hx hown (mvT hZ (hw _ (List.mem_of_getElem? (i := 49) rfl))) (g := (mkF m 69 #[.val (.int p0_)] [])) rfl (hb hby d2_69) _ ?_
                    exact kt
                  obtain ⟨fs, hr, hrun, hended, hW, hsame⟩ := X0.leave (v := some (.long (263 : Int64))) (fun h => by rw [Bd.returns] at h; cases h)
                  refine ⟨_, _, pre31 _ (retOut X0 hx Bd.returns rfl (Or.inr (Or.inl ⟨rfl, rfl, _, rfl⟩)) (hb hby d2_72) hr), hrun, hended, _, _, rfl, ?_, ⟨_, rfl⟩, hW, hsame.mono (by decide) (by decide)⟩
                  show QNum Z p0_ h0 n0 _ s₁.heap _
                  rw [e0]
                  exact ⟨(263 : Int64), rfl, (Or.inr (Or.inr (Or.inr (Or.inr (Or.inr (Or.inr (Or.inr (Or.inl ⟨rfl, hc2, hc6, hc10, hc14, hc18, hc22, hc26, hc30⟩)))))))), N0, rfl⟩
                · have pre33 : ∀ t, Steps p.tables e below (s₁.setTop (mkF m 76 #[.val (.int p0_)] [(.int (8 : Int32)), (.int p0_)])) t → Steps p.tables e below (s₁.setTop (entryFrame m #[(.int p0_)] 1)) t := by
                    intro t kt
                    refine pre29 t ?_
                    show Steps p.tables e below (s₁.setTop (mkF m 66 #[.val (.int p0_)] [(.int (7 : Int32)), (.int p0_)])) _
                    refine XS.icmpYes X0.here hx rfl (pc0 := 66) (pc' := 73) rfl (hb hby d2_66) rfl (feq hc30).2 (by decide) (by decide) ?_
                    show Steps p.tables e below (s₁.setTop (mkF m 73 #[.val (.int p0_)] [])) _
                    refine XS.iloadN X0.here hx rfl (hb hby d2_73) rfl ?_
                    show Steps p.tables e below (s₁.setTop (mkF m 74 #[.val (.int p0_)] [(.int p0_)])) _
                    refine XS.bipush X0.here hx rfl (hb hby d2_74) ?_
                    exact kt
                  by_cases hc34 : p0_ = (8 : Int32)
                  · have pre35 : ∀ t, Steps p.tables e below (s₁.setTop (mkF m 82 #[.val (.int p0_)] [(.long (84 : Int64))])) t → Steps p.tables e below (s₁.setTop (entryFrame m #[(.int p0_)] 1)) t := by
                      intro t kt
                      refine pre33 t ?_
                      show Steps p.tables e below (s₁.setTop (mkF m 76 #[.val (.int p0_)] [(.int (8 : Int32)), (.int p0_)])) _
                      refine XS.icmpNo X0.here hx rfl (hb hby d2_76) rfl (teq hc34).2 ?_
                      show Steps p.tables e below (s₁.setTop (mkF m 79 #[.val (.int p0_)] [])) _
                      refine X0.ldc2Long hx hown (mvT hZ (hw _ (List.mem_of_getElem? (i := 53) rfl))) (g := (mkF m 79 #[.val (.int p0_)] [])) rfl (hb hby d2_79) _ ?_
                      exact kt
                    obtain ⟨fs, hr, hrun, hended, hW, hsame⟩ := X0.leave (v := some (.long (84 : Int64))) (fun h => by rw [Bd.returns] at h; cases h)
                    refine ⟨_, _, pre35 _ (retOut X0 hx Bd.returns rfl (Or.inr (Or.inl ⟨rfl, rfl, _, rfl⟩)) (hb hby d2_82) hr), hrun, hended, _, _, rfl, ?_, ⟨_, rfl⟩, hW, hsame.mono (by decide) (by decide)⟩
                    show QNum Z p0_ h0 n0 _ s₁.heap _
                    rw [e0]
                    exact ⟨(84 : Int64), rfl, (Or.inr (Or.inr (Or.inr (Or.inr (Or.inr (Or.inr (Or.inr (Or.inr (Or.inl ⟨rfl, hc2, hc6, hc10, hc14, hc18, hc22, hc26, hc30, hc34⟩))))))))), N0, rfl⟩
                  · have pre37 : ∀ t, Steps p.tables e below (s₁.setTop (mkF m 86 #[.val (.int p0_)] [(.int (9 : Int32)), (.int p0_)])) t → Steps p.tables e below (s₁.setTop (entryFrame m #[(.int p0_)] 1)) t := by
                      intro t kt
                      refine pre33 t ?_
                      show Steps p.tables e below (s₁.setTop (mkF m 76 #[.val (.int p0_)] [(.int (8 : Int32)), (.int p0_)])) _
                      refine XS.icmpYes X0.here hx rfl (pc0 := 76) (pc' := 83) rfl (hb hby d2_76) rfl (feq hc34).2 (by decide) (by decide) ?_
                      show Steps p.tables e below (s₁.setTop (mkF m 83 #[.val (.int p0_)] [])) _
                      refine XS.iloadN X0.here hx rfl (hb hby d2_83) rfl ?_
                      show Steps p.tables e below (s₁.setTop (mkF m 84 #[.val (.int p0_)] [(.int p0_)])) _
                      refine XS.bipush X0.here hx rfl (hb hby d2_84) ?_
                      exact kt
                    by_cases hc38 : p0_ = (9 : Int32)
                    · have pre39 : ∀ t, Steps p.tables e below (s₁.setTop (mkF m 92 #[.val (.int p0_)] [(.long (90 : Int64))])) t → Steps p.tables e below (s₁.setTop (entryFrame m #[(.int p0_)] 1)) t := by
                        intro t kt
                        refine pre37 t ?_
                        show Steps p.tables e below (s₁.setTop (mkF m 86 #[.val (.int p0_)] [(.int (9 : Int32)), (.int p0_)])) _
                        refine XS.icmpNo X0.here hx rfl (hb hby d2_86) rfl (teq hc38).2 ?_
                        show Steps p.tables e below (s₁.setTop (mkF m 89 #[.val (.int p0_)] [])) _
                        refine X0.ldc2Long hx hown (mvT hZ (hw _ (List.mem_of_getElem? (i := 54) rfl))) (g := (mkF m 89 #[.val (.int p0_)] [])) rfl (hb hby d2_89) _ ?_
                        exact kt
                      obtain ⟨fs, hr, hrun, hended, hW, hsame⟩ := X0.leave (v := some (.long (90 : Int64))) (fun h => by rw [Bd.returns] at h; cases h)
                      refine ⟨_, _, pre39 _ (retOut X0 hx Bd.returns rfl (Or.inr (Or.inl ⟨rfl, rfl, _, rfl⟩)) (hb hby d2_92) hr), hrun, hended, _, _, rfl, ?_, ⟨_, rfl⟩, hW, hsame.mono (by decide) (by decide)⟩
                      show QNum Z p0_ h0 n0 _ s₁.heap _
                      rw [e0]
                      exact ⟨(90 : Int64), rfl, (Or.inr (Or.inr (Or.inr (Or.inr (Or.inr (Or.inr (Or.inr (Or.inr (Or.inr (Or.inl ⟨rfl, hc2, hc6, hc10, hc14, hc18, hc22, hc26, hc30, hc34, hc38⟩)))))))))), N0, rfl⟩
                    · have pre41 : ∀ t, Steps p.tables e below (s₁.setTop (mkF m 96 #[.val (.int p0_)] [(.int (10 : Int32)), (.int p0_)])) t → Steps p.tables e below (s₁.setTop (entryFrame m #[(.int p0_)] 1)) t := by
                        intro t kt
                        refine pre37 t ?_
                        show Steps p.tables e below (s₁.setTop (mkF m 86 #[.val (.int p0_)] [(.int (9 : Int32)), (.int p0_)])) _
                        refine XS.icmpYes X0.here hx rfl (pc0 := 86) (pc' := 93) rfl (hb hby d2_86) rfl (feq hc38).2 (by decide) (by decide) ?_
                        show Steps p.tables e below (s₁.setTop (mkF m 93 #[.val (.int p0_)] [])) _
                        refine XS.iloadN X0.here hx rfl (hb hby d2_93) rfl ?_
                        show Steps p.tables e below (s₁.setTop (mkF m 94 #[.val (.int p0_)] [(.int p0_)])) _
                        refine XS.bipush X0.here hx rfl (hb hby d2_94) ?_
                        exact kt
                      by_cases hc42 : p0_ = (10 : Int32)
                      · have pre43 : ∀ t, Steps p.tables e below (s₁.setTop (mkF m 102 #[.val (.int p0_)] [(.long (91 : Int64))])) t → Steps p.tables e below (s₁.setTop (entryFrame m #[(.int p0_)] 1)) t := by
                          intro t kt
                          refine pre41 t ?_
                          show Steps p.tables e below (s₁.setTop (mkF m 96 #[.val (.int p0_)] [(.int (10 : Int32)), (.int p0_)])) _
                          refine XS.icmpNo X0.here hx rfl (hb hby d2_96) rfl (teq hc42).2 ?_
                          show Steps p.tables e below (s₁.setTop (mkF m 99 #[.val (.int p0_)] [])) _
                          refine X0.ldc2Long hx hown (mvT hZ (hw _ (List.mem_of_getElem? (i := 55) rfl))) (g := (mkF m 99 #[.val (.int p0_)] [])) rfl (hb hby d2_99) _ ?_
                          exact kt
                        obtain ⟨fs, hr, hrun, hended, hW, hsame⟩ := X0.leave (v := some (.long (91 : Int64))) (fun h => by rw [Bd.returns] at h; cases h)
                        refine ⟨_, _, pre43 _ (retOut X0 hx Bd.returns rfl (Or.inr (Or.inl ⟨rfl, rfl, _, rfl⟩)) (hb hby d2_102) hr), hrun, hended, _, _, rfl, ?_, ⟨_, rfl⟩, hW, hsame.mono (by decide) (by decide)⟩
                        show QNum Z p0_ h0 n0 _ s₁.heap _
                        rw [e0]
                        exact ⟨(91 : Int64), rfl, (Or.inr (Or.inr (Or.inr (Or.inr (Or.inr (Or.inr (Or.inr (Or.inr (Or.inr (Or.inr (Or.inl ⟨rfl, hc2, hc6, hc10, hc14, hc18, hc22, hc26, hc30, hc34, hc38, hc42⟩))))))))))), N0, rfl⟩
                      · have pre45 : ∀ t, Steps p.tables e below (s₁.setTop (mkF m 106 #[.val (.int p0_)] [(.int (11 : Int32)), (.int p0_)])) t → Steps p.tables e below (s₁.setTop (entryFrame m #[(.int p0_)] 1)) t := by
                          intro t kt
                          refine pre41 t ?_
                          show Steps p.tables e below (s₁.setTop (mkF m 96 #[.val (.int p0_)] [(.int (10 : Int32)), (.int p0_)])) _
                          refine XS.icmpYes X0.here hx rfl (pc0 := 96) (pc' := 103) rfl (hb hby d2_96) rfl (feq hc42).2 (by decide) (by decide) ?_
                          show Steps p.tables e below (s₁.setTop (mkF m 103 #[.val (.int p0_)] [])) _
                          refine XS.iloadN X0.here hx rfl (hb hby d2_103) rfl ?_
                          show Steps p.tables e below (s₁.setTop (mkF m 104 #[.val (.int p0_)] [(.int p0_)])) _
                          refine XS.bipush X0.here hx rfl (hb hby d2_104) ?_
                          exact kt
                        by_cases hc46 : p0_ = (11 : Int32)
                        · have pre47 : ∀ t, Steps p.tables e below (s₁.setTop (mkF m 112 #[.val (.int p0_)] [(.long (268 : Int64))])) t → Steps p.tables e below (s₁.setTop (entryFrame m #[(.int p0_)] 1)) t := by
                            intro t kt
                            refine pre45 t ?_
                            show Steps p.tables e below (s₁.setTop (mkF m 106 #[.val (.int p0_)] [(.int (11 : Int32)), (.int p0_)])) _
                            refine XS.icmpNo X0.here hx rfl (hb hby d2_106) rfl (teq hc46).2 ?_
                            show Steps p.tables e below (s₁.setTop (mkF m 109 #[.val (.int p0_)] [])) _
                            refine X0.ldc2Long hx hown (mvT hZ (hw _ (List.mem_of_getElem? (i := 56) rfl))) (g := (mkF m 109 #[.val (.int p0_)] [])) rfl (hb hby d2_109) _ ?_
                            exact kt
                          obtain ⟨fs, hr, hrun, hended, hW, hsame⟩ := X0.leave (v := some (.long (268 : Int64))) (fun h => by rw [Bd.returns] at h; cases h)
                          refine ⟨_, _, pre47 _ (retOut X0 hx Bd.returns rfl (Or.inr (Or.inl ⟨rfl, rfl, _, rfl⟩)) (hb hby d2_112) hr), hrun, hended, _, _, rfl, ?_, ⟨_, rfl⟩, hW, hsame.mono (by decide) (by decide)⟩
                          show QNum Z p0_ h0 n0 _ s₁.heap _
                          rw [e0]
                          exact ⟨(268 : Int64), rfl, (Or.inr (Or.inr (Or.inr (Or.inr (Or.inr (Or.inr (Or.inr (Or.inr (Or.inr (Or.inr (Or.inr (Or.inl ⟨rfl, hc2, hc6, hc10, hc14, hc18, hc22, hc26, hc30, hc34, hc38, hc42, hc46⟩)))))))))))), N0, rfl⟩
                        · have pre49 : ∀ t, Steps p.tables e below (s₁.setTop (mkF m 116 #[.val (.int p0_)] [(.int (12 : Int32)), (.int p0_)])) t → Steps p.tables e below (s₁.setTop (entryFrame m #[(.int p0_)] 1)) t := by
                            intro t kt
                            refine pre45 t ?_
                            show Steps p.tables e below (s₁.setTop (mkF m 106 #[.val (.int p0_)] [(.int (11 : Int32)), (.int p0_)])) _
                            refine XS.icmpYes X0.here hx rfl (pc0 := 106) (pc' := 113) rfl (hb hby d2_106) rfl (feq hc46).2 (by decide) (by decide) ?_
                            show Steps p.tables e below (s₁.setTop (mkF m 113 #[.val (.int p0_)] [])) _
                            refine XS.iloadN X0.here hx rfl (hb hby d2_113) rfl ?_
                            show Steps p.tables e below (s₁.setTop (mkF m 114 #[.val (.int p0_)] [(.int p0_)])) _
                            refine XS.bipush X0.here hx rfl (hb hby d2_114) ?_
                            exact kt
                          by_cases hc50 : p0_ = (12 : Int32)
                          · have pre51 : ∀ t, Steps p.tables e below (s₁.setTop (mkF m 122 #[.val (.int p0_)] [(.long (92 : Int64))])) t → Steps p.tables e below (s₁.setTop (entryFrame m #[(.int p0_)] 1)) t := by
                              intro t kt
                              refine pre49 t ?_
                              show Steps p.tables e below (s₁.setTop (mkF m 116 #[.val (.int p0_)] [(.int (12 : Int32)), (.int p0_)])) _
                              refine XS.icmpNo X0.here hx rfl (hb hby d2_116) rfl (teq hc50).2 ?_
                              show Steps p.tables e below (s₁.setTop (mkF m 119 #[.val (.int p0_)] [])) _
                              refine X0.ldc2Long hx hown (mvT hZ (hw _ (List.mem_of_getElem? (i := 57) rfl))) (g := (mkF m 119 #[.val (.int p0_)] [])) rfl (hb hby d2_119) _ ?_
                              exact kt
                            obtain ⟨fs, hr, hrun, hended, hW, hsame⟩ := X0.leave (v := some (.long (92 : Int64))) (fun h => by rw [Bd.returns] at h; cases h)
                            refine ⟨_, _, pre51 _ (retOut X0 hx Bd.returns rfl (Or.inr (Or.inl ⟨rfl, rfl, _, rfl⟩)) (hb hby d2_122) hr), hrun, hended, _, _, rfl, ?_, ⟨_, rfl⟩, hW, hsame.mono (by decide) (by decide)⟩
                            show QNum Z p0_ h0 n0 _ s₁.heap _
                            rw [e0]
                            exact ⟨(92 : Int64), rfl, (Or.inr (Or.inr (Or.inr (Or.inr (Or.inr (Or.inr (Or.inr (Or.inr (Or.inr (Or.inr (Or.inr (Or.inr (Or.inl ⟨rfl, hc2, hc6, hc10, hc14, hc18, hc22, hc26, hc30, hc34, hc38, hc42, hc46, hc50⟩))))))))))))), N0, rfl⟩
                          · have pre53 : ∀ t, Steps p.tables e below (s₁.setTop (mkF m 126 #[.val (.int p0_)] [(.long (260 : Int64))])) t → Steps p.tables e below (s₁.setTop (entryFrame m #[(.int p0_)] 1)) t := by
                              intro t kt
                              refine pre49 t ?_
                              show Steps p.tables e below (s₁.setTop (mkF m 116 #[.val (.int p0_)] [(.int (12 : Int32)), (.int p0_)])) _
                              refine XS.icmpYes X0.here hx rfl (pc0 := 116) (pc' := 123) rfl (hb hby d2_116) rfl (feq hc50).2 (by decide) (by decide) ?_
                              show Steps p.tables e below (s₁.setTop (mkF m 123 #[.val (.int p0_)] [])) _
                              refine X0.ldc2Long hx hown (mvT hZ (hw _ (List.mem_of_getElem? (i := 58) rfl))) (g := (mkF m 123 #[.val (.int p0_)] [])) rfl (hb hby d2_123) _ ?_
                              exact kt
                            obtain ⟨fs, hr, hrun, hended, hW, hsame⟩ := X0.leave (v := some (.long (260 : Int64))) (fun h => by rw [Bd.returns] at h; cases h)
                            refine ⟨_, _, pre53 _ (retOut X0 hx Bd.returns rfl (Or.inr (Or.inl ⟨rfl, rfl, _, rfl⟩)) (hb hby d2_126) hr), hrun, hended, _, _, rfl, ?_, ⟨_, rfl⟩, hW, hsame.mono (by decide) (by decide)⟩
                            show QNum Z p0_ h0 n0 _ s₁.heap _
                            rw [e0]
                            exact ⟨(260 : Int64), rfl, (Or.inr (Or.inr (Or.inr (Or.inr (Or.inr (Or.inr (Or.inr (Or.inr (Or.inr (Or.inr (Or.inr (Or.inr (Or.inr ⟨rfl, hc2, hc6, hc10, hc14, hc18, hc22, hc26, hc30, hc34, hc38, hc42, hc46, hc50⟩))))))))))))), N0, rfl⟩
theorem d3_0 : decode method_4_code 0 = .ok (.lload_n 0, 1) := by decide +kernel
theorem d3_1 : decode method_4_code 1 = .ok (.ldc2_w 22, 3) := by decide +kernel
theorem d3_4 : decode method_4_code 4 = .ok (.lcmp, 1) := by decide +kernel
theorem d3_5 : decode method_4_code 5 = .ok (.ifCond .ne 7, 3) := by decide +kernel
theorem d3_8 : decode method_4_code 8 = .ok (.getstatic 50, 3) := by decide +kernel
theorem d3_11 : decode method_4_code 11 = .ok (.areturn, 1) := by decide +kernel
theorem d3_12 : decode method_4_code 12 = .ok (.lload_n 0, 1) := by decide +kernel
theorem d3_13 : decode method_4_code 13 = .ok (.ldc2_w 24, 3) := by decide +kernel
theorem d3_16 : decode method_4_code 16 = .ok (.lcmp, 1) := by decide +kernel
theorem d3_17 : decode method_4_code 17 = .ok (.ifCond .ne 7, 3) := by decide +kernel
theorem d3_20 : decode method_4_code 20 = .ok (.getstatic 54, 3) := by decide +kernel
theorem d3_23 : decode method_4_code 23 = .ok (.areturn, 1) := by decide +kernel
theorem d3_24 : decode method_4_code 24 = .ok (.lload_n 0, 1) := by decide +kernel
theorem d3_25 : decode method_4_code 25 = .ok (.ldc2_w 26, 3) := by decide +kernel
theorem d3_28 : decode method_4_code 28 = .ok (.lcmp, 1) := by decide +kernel
theorem d3_29 : decode method_4_code 29 = .ok (.ifCond .ne 7, 3) := by decide +kernel
theorem d3_32 : decode method_4_code 32 = .ok (.getstatic 57, 3) := by decide +kernel
theorem d3_35 : decode method_4_code 35 = .ok (.areturn, 1) := by decide +kernel
theorem d3_36 : decode method_4_code 36 = .ok (.lload_n 0, 1) := by decide +kernel
theorem d3_37 : decode method_4_code 37 = .ok (.ldc2_w 28, 3) := by decide +kernel
theorem d3_40 : decode method_4_code 40 = .ok (.lcmp, 1) := by decide +kernel
theorem d3_41 : decode method_4_code 41 = .ok (.ifCond .ne 7, 3) := by decide +kernel
theorem d3_44 : decode method_4_code 44 = .ok (.getstatic 60, 3) := by decide +kernel
theorem d3_47 : decode method_4_code 47 = .ok (.areturn, 1) := by decide +kernel
theorem d3_48 : decode method_4_code 48 = .ok (.lload_n 0, 1) := by decide +kernel
theorem d3_49 : decode method_4_code 49 = .ok (.ldc2_w 30, 3) := by decide +kernel
theorem d3_52 : decode method_4_code 52 = .ok (.lcmp, 1) := by decide +kernel
theorem d3_53 : decode method_4_code 53 = .ok (.ifCond .ne 7, 3) := by decide +kernel
theorem d3_56 : decode method_4_code 56 = .ok (.getstatic 63, 3) := by decide +kernel
theorem d3_59 : decode method_4_code 59 = .ok (.areturn, 1) := by decide +kernel
theorem d3_60 : decode method_4_code 60 = .ok (.lload_n 0, 1) := by decide +kernel
theorem d3_61 : decode method_4_code 61 = .ok (.ldc2_w 32, 3) := by decide +kernel
theorem d3_64 : decode method_4_code 64 = .ok (.lcmp, 1) := by decide +kernel
theorem d3_65 : decode method_4_code 65 = .ok (.ifCond .ne 7, 3) := by decide +kernel
theorem d3_68 : decode method_4_code 68 = .ok (.getstatic 66, 3) := by decide +kernel
theorem d3_71 : decode method_4_code 71 = .ok (.areturn, 1) := by decide +kernel
theorem d3_72 : decode method_4_code 72 = .ok (.lload_n 0, 1) := by decide +kernel
theorem d3_73 : decode method_4_code 73 = .ok (.ldc2_w 34, 3) := by decide +kernel
theorem d3_76 : decode method_4_code 76 = .ok (.lcmp, 1) := by decide +kernel
theorem d3_77 : decode method_4_code 77 = .ok (.ifCond .ne 7, 3) := by decide +kernel
theorem d3_80 : decode method_4_code 80 = .ok (.getstatic 69, 3) := by decide +kernel
theorem d3_83 : decode method_4_code 83 = .ok (.areturn, 1) := by decide +kernel
theorem d3_84 : decode method_4_code 84 = .ok (.lload_n 0, 1) := by decide +kernel
theorem d3_85 : decode method_4_code 85 = .ok (.ldc2_w 36, 3) := by decide +kernel
theorem d3_88 : decode method_4_code 88 = .ok (.lcmp, 1) := by decide +kernel
theorem d3_89 : decode method_4_code 89 = .ok (.ifCond .ne 7, 3) := by decide +kernel
theorem d3_92 : decode method_4_code 92 = .ok (.getstatic 72, 3) := by decide +kernel
theorem d3_95 : decode method_4_code 95 = .ok (.areturn, 1) := by decide +kernel
theorem d3_96 : decode method_4_code 96 = .ok (.lload_n 0, 1) := by decide +kernel
theorem d3_97 : decode method_4_code 97 = .ok (.ldc2_w 38, 3) := by decide +kernel
theorem d3_100 : decode method_4_code 100 = .ok (.lcmp, 1) := by decide +kernel
theorem d3_101 : decode method_4_code 101 = .ok (.ifCond .ne 7, 3) := by decide +kernel
theorem d3_104 : decode method_4_code 104 = .ok (.getstatic 75, 3) := by decide +kernel
theorem d3_107 : decode method_4_code 107 = .ok (.areturn, 1) := by decide +kernel
theorem d3_108 : decode method_4_code 108 = .ok (.lload_n 0, 1) := by decide +kernel
theorem d3_109 : decode method_4_code 109 = .ok (.ldc2_w 40, 3) := by decide +kernel
theorem d3_112 : decode method_4_code 112 = .ok (.lcmp, 1) := by decide +kernel
theorem d3_113 : decode method_4_code 113 = .ok (.ifCond .ne 7, 3) := by decide +kernel
theorem d3_116 : decode method_4_code 116 = .ok (.getstatic 78, 3) := by decide +kernel
theorem d3_119 : decode method_4_code 119 = .ok (.areturn, 1) := by decide +kernel
theorem d3_120 : decode method_4_code 120 = .ok (.lload_n 0, 1) := by decide +kernel
theorem d3_121 : decode method_4_code 121 = .ok (.ldc2_w 42, 3) := by decide +kernel
theorem d3_124 : decode method_4_code 124 = .ok (.lcmp, 1) := by decide +kernel
theorem d3_125 : decode method_4_code 125 = .ok (.ifCond .ne 7, 3) := by decide +kernel
theorem d3_128 : decode method_4_code 128 = .ok (.getstatic 81, 3) := by decide +kernel
theorem d3_131 : decode method_4_code 131 = .ok (.areturn, 1) := by decide +kernel
theorem d3_132 : decode method_4_code 132 = .ok (.lload_n 0, 1) := by decide +kernel
theorem d3_133 : decode method_4_code 133 = .ok (.ldc2_w 44, 3) := by decide +kernel
theorem d3_136 : decode method_4_code 136 = .ok (.lcmp, 1) := by decide +kernel
theorem d3_137 : decode method_4_code 137 = .ok (.ifCond .ne 7, 3) := by decide +kernel
theorem d3_140 : decode method_4_code 140 = .ok (.getstatic 84, 3) := by decide +kernel
theorem d3_143 : decode method_4_code 143 = .ok (.areturn, 1) := by decide +kernel
theorem d3_144 : decode method_4_code 144 = .ok (.lload_n 0, 1) := by decide +kernel
theorem d3_145 : decode method_4_code 145 = .ok (.ldc2_w 46, 3) := by decide +kernel
theorem d3_148 : decode method_4_code 148 = .ok (.lcmp, 1) := by decide +kernel
theorem d3_149 : decode method_4_code 149 = .ok (.ifCond .ne 7, 3) := by decide +kernel
theorem d3_152 : decode method_4_code 152 = .ok (.getstatic 87, 3) := by decide +kernel
theorem d3_155 : decode method_4_code 155 = .ok (.areturn, 1) := by decide +kernel
theorem d3_156 : decode method_4_code 156 = .ok (.lload_n 0, 1) := by decide +kernel
theorem d3_157 : decode method_4_code 157 = .ok (.ldc2_w 48, 3) := by decide +kernel
theorem d3_160 : decode method_4_code 160 = .ok (.lcmp, 1) := by decide +kernel
theorem d3_161 : decode method_4_code 161 = .ok (.ifCond .ne 7, 3) := by decide +kernel
theorem d3_164 : decode method_4_code 164 = .ok (.getstatic 90, 3) := by decide +kernel
theorem d3_167 : decode method_4_code 167 = .ok (.areturn, 1) := by decide +kernel
theorem d3_168 : decode method_4_code 168 = .ok (.aconst_null, 1) := by decide +kernel
theorem d3_169 : decode method_4_code 169 = .ok (.areturn, 1) := by decide +kernel
theorem efExp (m : MethodId) (q0_ : Int64) : entryFrame m #[(.long q0_)] 2 = mkF m 0 #[.val (.long q0_), .second] [] := by first | (simp [entryFrame, mkF, argsToLocals, Value.category]; done) | rfl
def QExp (Z : State) (q0_ : Int64) (w_OPEN : Addr) (w_CREAT : Addr) (w_OPENAT : Addr) (w_RENAME : Addr) (w_RENAMEAT : Addr) (w_RENAMEAT2 : Addr) (w_UNLINK : Addr) (w_UNLINKAT : Addr) (w_RMDIR : Addr) (w_CHMOD : Addr) (w_FCHMOD : Addr) (w_FCHMODAT : Addr) (w_CHOWN : Addr) (w_FCHOWNAT : Addr) (w__VALUES : Addr) (k_ : ClassId) (h0 : Heap) (n0 : Nat) (v : Option Value) (h : Heap) (L : List Loc) : Prop := ∃ r_ : Value, v = some r_ ∧ ((((.ref w_OPEN) : Value) = r_ ∧ (q0_ = (2 : Int64))) ∨ (((.ref w_CREAT) : Value) = r_ ∧ (¬ (q0_ = (2 : Int64))) ∧ (q0_ = (85 : Int64))) ∨ (((.ref w_OPENAT) : Value) = r_ ∧ (¬ (q0_ = (2 : Int64))) ∧ (¬ (q0_ = (85 : Int64))) ∧ (q0_ = (257 : Int64))) ∨ (((.ref w_RENAME) : Value) = r_ ∧ (¬ (q0_ = (2 : Int64))) ∧ (¬ (q0_ = (85 : Int64))) ∧ (¬ (q0_ = (257 : Int64))) ∧ (q0_ = (82 : Int64))) ∨ (((.ref w_RENAMEAT) : Value) = r_ ∧ (¬ (q0_ = (2 : Int64))) ∧ (¬ (q0_ = (85 : Int64))) ∧ (¬ (q0_ = (257 : Int64))) ∧ (¬ (q0_ = (82 : Int64))) ∧ (q0_ = (264 : Int64))) ∨ (((.ref w_RENAMEAT2) : Value) = r_ ∧ (¬ (q0_ = (2 : Int64))) ∧ (¬ (q0_ = (85 : Int64))) ∧ (¬ (q0_ = (257 : Int64))) ∧ (¬ (q0_ = (82 : Int64))) ∧ (¬ (q0_ = (264 : Int64))) ∧ (q0_ = (316 : Int64))) ∨ (((.ref w_UNLINK) : Value) = r_ ∧ (¬ (q0_ = (2 : Int64))) ∧ (¬ (q0_ = (85 : Int64))) ∧ (¬ (q0_ = (257 : Int64))) ∧ (¬ (q0_ = (82 : Int64))) ∧ (¬ (q0_ = (264 : Int64))) ∧ (¬ (q0_ = (316 : Int64))) ∧ (q0_ = (87 : Int64))) ∨ (((.ref w_UNLINKAT) : Value) = r_ ∧ (¬ (q0_ = (2 : Int64))) ∧ (¬ (q0_ = (85 : Int64))) ∧ (¬ (q0_ = (257 : Int64))) ∧ (¬ (q0_ = (82 : Int64))) ∧ (¬ (q0_ = (264 : Int64))) ∧ (¬ (q0_ = (316 : Int64))) ∧ (¬ (q0_ = (87 : Int64))) ∧ (q0_ = (263 : Int64))) ∨ (((.ref w_RMDIR) : Value) = r_ ∧ (¬ (q0_ = (2 : Int64))) ∧ (¬ (q0_ = (85 : Int64))) ∧ (¬ (q0_ = (257 : Int64))) ∧ (¬ (q0_ = (82 : Int64))) ∧ (¬ (q0_ = (264 : Int64))) ∧ (¬ (q0_ = (316 : Int64))) ∧ (¬ (q0_ = (87 : Int64))) ∧ (¬ (q0_ = (263 : Int64))) ∧ (q0_ = (84 : Int64))) ∨ (((.ref w_CHMOD) : Value) = r_ ∧ (¬ (q0_ = (2 : Int64))) ∧ (¬ (q0_ = (85 : Int64))) ∧ (¬ (q0_ = (257 : Int64))) ∧ (¬ (q0_ = (82 : Int64))) ∧ (¬ (q0_ = (264 : Int64))) ∧ (¬ (q0_ = (316 : Int64))) ∧ (¬ (q0_ = (87 : Int64))) ∧ (¬ (q0_ = (263 : Int64))) ∧ (¬ (q0_ = (84 : Int64))) ∧ (q0_ = (90 : Int64))) ∨ (((.ref w_FCHMOD) : Value) = r_ ∧ (¬ (q0_ = (2 : Int64))) ∧ (¬ (q0_ = (85 : Int64))) ∧ (¬ (q0_ = (257 : Int64))) ∧ (¬ (q0_ = (82 : Int64))) ∧ (¬ (q0_ = (264 : Int64))) ∧ (¬ (q0_ = (316 : Int64))) ∧ (¬ (q0_ = (87 : Int64))) ∧ (¬ (q0_ = (263 : Int64))) ∧ (¬ (q0_ = (84 : Int64))) ∧ (¬ (q0_ = (90 : Int64))) ∧ (q0_ = (91 : Int64))) ∨ (((.ref w_FCHMODAT) : Value) = r_ ∧ (¬ (q0_ = (2 : Int64))) ∧ (¬ (q0_ = (85 : Int64))) ∧ (¬ (q0_ = (257 : Int64))) ∧ (¬ (q0_ = (82 : Int64))) ∧ (¬ (q0_ = (264 : Int64))) ∧ (¬ (q0_ = (316 : Int64))) ∧ (¬ (q0_ = (87 : Int64))) ∧ (¬ (q0_ = (263 : Int64))) ∧ (¬ (q0_ = (84 : Int64))) ∧ (¬ (q0_ = (90 : Int64))) ∧ (¬ (q0_ = (91 : Int64))) ∧ (q0_ = (268 : Int64))) ∨ (((.ref w_CHOWN) : Value) = r_ ∧ (¬ (q0_ = (2 : Int64))) ∧ (¬ (q0_ = (85 : Int64))) ∧ (¬ (q0_ = (257 : Int64))) ∧ (¬ (q0_ = (82 : Int64))) ∧ (¬ (q0_ = (264 : Int64))) ∧ (¬ (q0_ = (316 : Int64))) ∧ (¬ (q0_ = (87 : Int64))) ∧ (¬ (q0_ = (263 : Int64))) ∧ (¬ (q0_ = (84 : Int64))) ∧ (¬ (q0_ = (90 : Int64))) ∧ (¬ (q0_ = (91 : Int64))) ∧ (¬ (q0_ = (268 : Int64))) ∧ (q0_ = (92 : Int64))) ∨ (((.ref w_FCHOWNAT) : Value) = r_ ∧ (¬ (q0_ = (2 : Int64))) ∧ (¬ (q0_ = (85 : Int64))) ∧ (¬ (q0_ = (257 : Int64))) ∧ (¬ (q0_ = (82 : Int64))) ∧ (¬ (q0_ = (264 : Int64))) ∧ (¬ (q0_ = (316 : Int64))) ∧ (¬ (q0_ = (87 : Int64))) ∧ (¬ (q0_ = (263 : Int64))) ∧ (¬ (q0_ = (84 : Int64))) ∧ (¬ (q0_ = (90 : Int64))) ∧ (¬ (q0_ = (91 : Int64))) ∧ (¬ (q0_ = (268 : Int64))) ∧ (¬ (q0_ = (92 : Int64))) ∧ (q0_ = (260 : Int64))) ∨ ((.null : Value) = r_ ∧ (¬ (q0_ = (2 : Int64))) ∧ (¬ (q0_ = (85 : Int64))) ∧ (¬ (q0_ = (257 : Int64))) ∧ (¬ (q0_ = (82 : Int64))) ∧ (¬ (q0_ = (264 : Int64))) ∧ (¬ (q0_ = (316 : Int64))) ∧ (¬ (q0_ = (87 : Int64))) ∧ (¬ (q0_ = (263 : Int64))) ∧ (¬ (q0_ = (84 : Int64))) ∧ (¬ (q0_ = (90 : Int64))) ∧ (¬ (q0_ = (91 : Int64))) ∧ (¬ (q0_ = (268 : Int64))) ∧ (¬ (q0_ = (92 : Int64))) ∧ (¬ (q0_ = (260 : Int64))))) ∧ Fr n0 L ∧ h = h0
set_option maxRecDepth 65536 in
set_option maxHeartbeats 40000000 in
theorem rmExp (l : Launch) (Z : State) (a0 : Array Value) (hw : ∀ d ∈ tables_1, d.before a0 Z = true) (ws : List Jvm.Cond) (q0_ : Int64) (w_OPEN : Addr) (w_CREAT : Addr) (w_OPENAT : Addr) (w_RENAME : Addr) (w_RENAMEAT : Addr) (w_RENAMEAT2 : Addr) (w_UNLINK : Addr) (w_UNLINKAT : Addr) (w_RMDIR : Addr) (w_CHMOD : Addr) (w_FCHMOD : Addr) (w_FCHMODAT : Addr) (w_CHOWN : Addr) (w_FCHOWNAT : Addr) (w__VALUES : Addr) (k_ : ClassId) (h0 : Heap) (n0 : Nat) (O0 : Old Z n0 h0) (P0 : Sta Z Z.heap "com/example/aeacus/aeacus/audit/Syscall" "OPEN" "Lcom/example/aeacus/aeacus/audit/Syscall;" (.ref w_OPEN)) (P1 : Exa Z Z.heap w_OPEN "com/example/aeacus/aeacus/audit/Syscall") (P2 : Fld Z Z.heap w_OPEN "com/example/aeacus/aeacus/audit/Syscall" "number" "I" (.int (2 : Int32))) (P3 : Sta Z Z.heap "com/example/aeacus/aeacus/audit/Syscall" "CREAT" "Lcom/example/aeacus/aeacus/audit/Syscall;" (.ref w_CREAT)) (P4 : Exa Z Z.heap w_CREAT "com/example/aeacus/aeacus/audit/Syscall") (P5 : Fld Z Z.heap w_CREAT "com/example/aeacus/aeacus/audit/Syscall" "number" "I" (.int (85 : Int32))) (P6 : Sta Z Z.heap "com/example/aeacus/aeacus/audit/Syscall" "OPENAT" "Lcom/example/aeacus/aeacus/audit/Syscall;" (.ref w_OPENAT)) (P7 : Exa Z Z.heap w_OPENAT "com/example/aeacus/aeacus/audit/Syscall") (P8 : Fld Z Z.heap w_OPENAT "com/example/aeacus/aeacus/audit/Syscall" "number" "I" (.int (257 : Int32))) (P9 : Sta Z Z.heap "com/example/aeacus/aeacus/audit/Syscall" "RENAME" "Lcom/example/aeacus/aeacus/audit/Syscall;" (.ref w_RENAME)) (P10 : Exa Z Z.heap w_RENAME "com/example/aeacus/aeacus/audit/Syscall") (P11 : Fld Z Z.heap w_RENAME "com/example/aeacus/aeacus/audit/Syscall" "number" "I" (.int (82 : Int32))) (P12 : Sta Z Z.heap "com/example/aeacus/aeacus/audit/Syscall" "RENAMEAT" "Lcom/example/aeacus/aeacus/audit/Syscall;" (.ref w_RENAMEAT)) (P13 : Exa Z Z.heap w_RENAMEAT "com/example/aeacus/aeacus/audit/Syscall") (P14 : Fld Z Z.heap w_RENAMEAT "com/example/aeacus/aeacus/audit/Syscall" "number" "I" (.int (264 : Int32))) (P15 : Sta Z Z.heap "com/example/aeacus/aeacus/audit/Syscall" "RENAMEAT2" "Lcom/example/aeacus/aeacus/audit/Syscall;" (.ref w_RENAMEAT2)) (P16 : Exa Z Z.heap w_RENAMEAT2 "com/example/aeacus/aeacus/audit/Syscall") (P17 : Fld Z Z.heap w_RENAMEAT2 "com/example/aeacus/aeacus/audit/Syscall" "number" "I" (.int (316 : Int32))) (P18 : Sta Z Z.heap "com/example/aeacus/aeacus/audit/Syscall" "UNLINK" "Lcom/example/aeacus/aeacus/audit/Syscall;" (.ref w_UNLINK)) (P19 : Exa Z Z.heap w_UNLINK "com/example/aeacus/aeacus/audit/Syscall") (P20 : Fld Z Z.heap w_UNLINK "com/example/aeacus/aeacus/audit/Syscall" "number" "I" (.int (87 : Int32))) (P21 : Sta Z Z.heap "com/example/aeacus/aeacus/audit/Syscall" "UNLINKAT" "Lcom/example/aeacus/aeacus/audit/Syscall;" (.ref w_UNLINKAT)) (P22 : Exa Z Z.heap w_UNLINKAT "com/example/aeacus/aeacus/audit/Syscall") (P23 : Fld Z Z.heap w_UNLINKAT "com/example/aeacus/aeacus/audit/Syscall" "number" "I" (.int (263 : Int32))) (P24 : Sta Z Z.heap "com/example/aeacus/aeacus/audit/Syscall" "RMDIR" "Lcom/example/aeacus/aeacus/audit/Syscall;" (.ref w_RMDIR)) (P25 : Exa Z Z.heap w_RMDIR "com/example/aeacus/aeacus/audit/Syscall") (P26 : Fld Z Z.heap w_RMDIR "com/example/aeacus/aeacus/audit/Syscall" "number" "I" (.int (84 : Int32))) (P27 : Sta Z Z.heap "com/example/aeacus/aeacus/audit/Syscall" "CHMOD" "Lcom/example/aeacus/aeacus/audit/Syscall;" (.ref w_CHMOD)) (P28 : Exa Z Z.heap w_CHMOD "com/example/aeacus/aeacus/audit/Syscall") (P29 : Fld Z Z.heap w_CHMOD "com/example/aeacus/aeacus/audit/Syscall" "number" "I" (.int (90 : Int32))) (P30 : Sta Z Z.heap "com/example/aeacus/aeacus/audit/Syscall" "FCHMOD" "Lcom/example/aeacus/aeacus/audit/Syscall;" (.ref w_FCHMOD)) (P31 : Exa Z Z.heap w_FCHMOD "com/example/aeacus/aeacus/audit/Syscall") (P32 : Fld Z Z.heap w_FCHMOD "com/example/aeacus/aeacus/audit/Syscall" "number" "I" (.int (91 : Int32))) (P33 : Sta Z Z.heap "com/example/aeacus/aeacus/audit/Syscall" "FCHMODAT" "Lcom/example/aeacus/aeacus/audit/Syscall;" (.ref w_FCHMODAT)) (P34 : Exa Z Z.heap w_FCHMODAT "com/example/aeacus/aeacus/audit/Syscall") (P35 : Fld Z Z.heap w_FCHMODAT "com/example/aeacus/aeacus/audit/Syscall" "number" "I" (.int (268 : Int32))) (P36 : Sta Z Z.heap "com/example/aeacus/aeacus/audit/Syscall" "CHOWN" "Lcom/example/aeacus/aeacus/audit/Syscall;" (.ref w_CHOWN)) (P37 : Exa Z Z.heap w_CHOWN "com/example/aeacus/aeacus/audit/Syscall") (P38 : Fld Z Z.heap w_CHOWN "com/example/aeacus/aeacus/audit/Syscall" "number" "I" (.int (92 : Int32))) (P39 : Sta Z Z.heap "com/example/aeacus/aeacus/audit/Syscall" "FCHOWNAT" "Lcom/example/aeacus/aeacus/audit/Syscall;" (.ref w_FCHOWNAT)) (P40 : Exa Z Z.heap w_FCHOWNAT "com/example/aeacus/aeacus/audit/Syscall") (P41 : Fld Z Z.heap w_FCHOWNAT "com/example/aeacus/aeacus/audit/Syscall" "number" "I" (.int (260 : Int32))) (P42 : Sta Z Z.heap "com/example/aeacus/aeacus/audit/Syscall" "$VALUES" "[Lcom/example/aeacus/aeacus/audit/Syscall;" (.ref w__VALUES)) (P43 : Exa Z Z.heap w__VALUES "[Lcom/example/aeacus/aeacus/audit/Syscall;") (P44 : Arv Z Z.heap w__VALUES k_ (.object "com/example/aeacus/aeacus/audit/Syscall") (14 : Int32) [(.ref w_OPEN), (.ref w_CREAT), (.ref w_OPENAT), (.ref w_RENAME), (.ref w_RENAMEAT), (.ref w_RENAMEAT2), (.ref w_UNLINK), (.ref w_UNLINKAT), (.ref w_RMDIR), (.ref w_CHMOD), (.ref w_FCHMOD), (.ref w_FCHMODAT), (.ref w_CHOWN), (.ref w_FCHOWNAT)] .null) :
    MetFree l (⟨"com/example/aeacus/aeacus/audit/SyscallOfPinLaw", "expected", "(J)Lcom/example/aeacus/aeacus/audit/Syscall;"⟩ : MethodName) (head1 (Jvm.Cond.code (⟨"com/example/aeacus/aeacus/audit/SyscallOfPinLaw", "expected", "(J)Lcom/example/aeacus/aeacus/audit/Syscall;"⟩ : MethodName) method_4_code 2 (some (.object "com/example/aeacus/aeacus/audit/Syscall")) :: ws) ({ frames := 0, cells := 0, slots := 0, locals := 0 } : Room)) (fun a U => a = #[(.long q0_)] ∧ Z.Warmed39 U.vm ∧ U.heap = h0) (fun _ _ _ _ _ => True) (fun _ U o U' => ∃ v L, o = .returned v ∧ QExp Z q0_ w_OPEN w_CREAT w_OPENAT w_RENAME w_RENAMEAT w_RENAMEAT2 w_UNLINK w_UNLINKAT w_RMDIR w_CHMOD w_FCHMOD w_FCHMODAT w_CHOWN w_FCHOWNAT w__VALUES k_ h0 n0 v U'.heap L ∧ FrameEnd U o U' L ({ frames := 0, cells := 0, slots := 0, locals := 0 } : Room).cells ({ frames := 0, cells := 0, slots := 0, locals := 0 } : Room).slots) := by
  refine MetFree.of_bodySF (plainFor_of_name pn_1) hisR ?_
  intro p e s m args below meth c s₁ Bd hml0 hP hK
  obtain ⟨rfl, hZ, hh⟩ := hP
  have hx := Bd.exec
  have hby := Bd.bytes
  have hml : c.maxLocals = 2 := hml0
  have hown : s.vm.findClass "com/example/aeacus/aeacus/audit/SyscallOfPinLaw" = some m.cls := findClass_of_methodNamed Bd.named
  have hnm := (name_of_methodNamed Bd.named Bd.method).1
  have X0 : Stand p l e ({ frames := 0, cells := 0, slots := 0, locals := 0 } : Room) s m #[(.long q0_)] below meth c s₁ [] 0 0 := Stand.of_body Bd
  have e0 : s₁.heap = h0 := by rw [← hh, Bd.state]; rfl
  have N0 := Fr.nil n0
  have pre0 : ∀ t, Steps p.tables e below (s₁.setTop (mkF m 0 #[.val (.long q0_), .second] [])) t → Steps p.tables e below (s₁.setTop (entryFrame m #[(.long q0_)] 2)) t := fun t k => castTop (efExp m q0_) k
  have K0 : Keep h0 h0 [] := Keep.refl _ _
  have pre1 : ∀ t, Steps p.tables e below (s₁.setTop (mkF m 5 #[.val (.long q0_), .second] [(.int (lcmpW q0_ (2 : Int64)))])) t → Steps p.tables e below (s₁.setTop (entryFrame m #[(.long q0_)] 2)) t := by
    intro t kt
    refine pre0 t ?_
    show Steps p.tables e below (s₁.setTop (mkF m 0 #[.val (.long q0_), .second] [])) _
    refine XS.lloadN X0.here hx rfl (hb hby d3_0) rfl ?_
    show Steps p.tables e below (s₁.setTop (mkF m 1 #[.val (.long q0_), .second] [(.long q0_)])) _
    refine X0.ldc2Long hx hown (mvT hZ (hw _ (List.mem_of_getElem? (i := 43) rfl))) (g := (mkF m 1 #[.val (.long q0_), .second] [(.long q0_)])) rfl (hb hby d3_1) _ ?_
    show Steps p.tables e below (s₁.setTop (mkF m 4 #[.val (.long q0_), .second] [(.long (2 : Int64)), (.long q0_)])) _
    refine XS.lcmp X0.here hx rfl (hb hby d3_4) rfl ?_
    exact kt
  by_cases hc2 : q0_ = (2 : Int64)
  · obtain ⟨T3, X3, e3, st3⟩ := getS2 X0 hx hZ hown (host := "") (Or.inl (hw _ (List.mem_of_getElem? (i := 62) rfl))) Via.refl e0 (P0.ext O0.2) (g := (mkF m 8 #[.val (.long q0_), .second] [])) rfl (hb hby d3_8)
    have pre4 : ∀ t, Steps p.tables e below (T3.setTop (mkF m 11 #[.val (.long q0_), .second] [(.ref w_OPEN)])) t → Steps p.tables e below (s₁.setTop (entryFrame m #[(.long q0_)] 2)) t := by
      intro t kt
      refine pre1 t ?_
      show Steps p.tables e below (s₁.setTop (mkF m 5 #[.val (.long q0_), .second] [(.int (lcmpW q0_ (2 : Int64)))])) _
      refine XS.ifNo X0.here hx rfl (hb hby d3_5) rfl ((if0 _ _).trans (teq ((lw_eq _ _).mpr hc2)).2) ?_
      show Steps p.tables e below (s₁.setTop (mkF m 8 #[.val (.long q0_), .second] [])) _
      refine st3 _ ?_
      exact kt
    obtain ⟨fs, hr, hrun, hended, hW, hsame⟩ := X3.leave (v := some (.ref w_OPEN)) (fun h => by rw [Bd.returns] at h; cases h)
    refine ⟨_, _, pre4 _ (retOut X3 hx Bd.returns rfl (Or.inr (Or.inr (Or.inr (Or.inr ⟨rfl, rfl, rfl⟩)))) (hb hby d3_11) hr), hrun, hended, _, _, rfl, ?_, ⟨_, rfl⟩, hW, hsame.mono (by decide) (by decide)⟩
    show QExp Z q0_ w_OPEN w_CREAT w_OPENAT w_RENAME w_RENAMEAT w_RENAMEAT2 w_UNLINK w_UNLINKAT w_RMDIR w_CHMOD w_FCHMOD w_FCHMODAT w_CHOWN w_FCHOWNAT w__VALUES k_ h0 n0 _ T3.heap _
    rw [e3]
    exact ⟨(.ref w_OPEN), rfl, (Or.inl ⟨rfl, hc2⟩), N0, rfl⟩
  · have pre6 : ∀ t, Steps p.tables e below (s₁.setTop (mkF m 17 #[.val (.long q0_), .second] [(.int (lcmpW q0_ (85 : Int64)))])) t → Steps p.tables e below (s₁.setTop (entryFrame m #[(.long q0_)] 2)) t := by
      intro t kt
      refine pre1 t ?_
      show Steps p.tables e below (s₁.setTop (mkF m 5 #[.val (.long q0_), .second] [(.int (lcmpW q0_ (2 : Int64)))])) _
      refine XS.ifYes X0.here hx rfl (pc0 := 5) (pc' := 12) rfl (hb hby d3_5) rfl ((if0 _ _).trans (feq (fun z => hc2 ((lw_eq _ _).mp z))).2) (by decide) (by decide) ?_
      show Steps p.tables e below (s₁.setTop (mkF m 12 #[.val (.long q0_), .second] [])) _
      refine XS.lloadN X0.here hx rfl (hb hby d3_12) rfl ?_
      show Steps p.tables e below (s₁.setTop (mkF m 13 #[.val (.long q0_), .second] [(.long q0_)])) _
      refine X0.ldc2Long hx hown (mvT hZ (hw _ (List.mem_of_getElem? (i := 44) rfl))) (g := (mkF m 13 #[.val (.long q0_), .second] [(.long q0_)])) rfl (hb hby d3_13) _ ?_
      show Steps p.tables e below (s₁.setTop (mkF m 16 #[.val (.long q0_), .second] [(.long (85 : Int64)), (.long q0_)])) _
      refine XS.lcmp X0.here hx rfl (hb hby d3_16) rfl ?_
      exact kt
    by_cases hc7 : q0_ = (85 : Int64)
    · obtain ⟨T8, X8, e8, st8⟩ := getS2 X0 hx hZ hown (host := "") (Or.inl (hw _ (List.mem_of_getElem? (i := 63) rfl))) Via.refl e0 (P3.ext O0.2) (g := (mkF m 20 #[.val (.long q0_), .second] [])) rfl (hb hby d3_20)
      have pre9 : ∀ t, Steps p.tables e below (T8.setTop (mkF m 23 #[.val (.long q0_), .second] [(.ref w_CREAT)])) t → Steps p.tables e below (s₁.setTop (entryFrame m #[(.long q0_)] 2)) t := by
        intro t kt
        refine pre6 t ?_
        show Steps p.tables e below (s₁.setTop (mkF m 17 #[.val (.long q0_), .second] [(.int (lcmpW q0_ (85 : Int64)))])) _
        refine XS.ifNo X0.here hx rfl (hb hby d3_17) rfl ((if0 _ _).trans (teq ((lw_eq _ _).mpr hc7)).2) ?_
        show Steps p.tables e below (s₁.setTop (mkF m 20 #[.val (.long q0_), .second] [])) _
        refine st8 _ ?_
        exact kt
      obtain ⟨fs, hr, hrun, hended, hW, hsame⟩ := X8.leave (v := some (.ref w_CREAT)) (fun h => by rw [Bd.returns] at h; cases h)
      refine ⟨_, _, pre9 _ (retOut X8 hx Bd.returns rfl (Or.inr (Or.inr (Or.inr (Or.inr ⟨rfl, rfl, rfl⟩)))) (hb hby d3_23) hr), hrun, hended, _, _, rfl, ?_, ⟨_, rfl⟩, hW, hsame.mono (by decide) (by decide)⟩
      show QExp Z q0_ w_OPEN w_CREAT w_OPENAT w_RENAME w_RENAMEAT w_RENAMEAT2 w_UNLINK w_UNLINKAT w_RMDIR w_CHMOD w_FCHMOD w_FCHMODAT w_CHOWN w_FCHOWNAT w__VALUES k_ h0 n0 _ T8.heap _
      rw [e8]
      exact ⟨(.ref w_CREAT), rfl, (Or.inr (Or.inl ⟨rfl, hc2, hc7⟩)), N0, rfl⟩
    · have pre11 : ∀ t, Steps p.tables e below (s₁.setTop (mkF m 29 #[.val (.long q0_), .second] [(.int (lcmpW q0_ (257 : Int64)))])) t → Steps p.tables e below (s₁.setTop (entryFrame m #[(.long q0_)] 2)) t := by
        intro t kt
        refine pre6 t ?_
        show Steps p.tables e below (s₁.setTop (mkF m 17 #[.val (.long q0_), .second] [(.int (lcmpW q0_ (85 : Int64)))])) _
        refine XS.ifYes X0.here hx rfl (pc0 := 17) (pc' := 24) rfl (hb hby d3_17) rfl ((if0 _ _).trans (feq (fun z => hc7 ((lw_eq _ _).mp z))).2) (by decide) (by decide) ?_
        show Steps p.tables e below (s₁.setTop (mkF m 24 #[.val (.long q0_), .second] [])) _
        refine XS.lloadN X0.here hx rfl (hb hby d3_24) rfl ?_
        show Steps p.tables e below (s₁.setTop (mkF m 25 #[.val (.long q0_), .second] [(.long q0_)])) _
        refine X0.ldc2Long hx hown (mvT hZ (hw _ (List.mem_of_getElem? (i := 4) rfl))) (g := (mkF m 25 #[.val (.long q0_), .second] [(.long q0_)])) rfl (hb hby d3_25) _ ?_
        show Steps p.tables e below (s₁.setTop (mkF m 28 #[.val (.long q0_), .second] [(.long (257 : Int64)), (.long q0_)])) _
        refine XS.lcmp X0.here hx rfl (hb hby d3_28) rfl ?_
        exact kt
      by_cases hc12 : q0_ = (257 : Int64)
      · obtain ⟨T13, X13, e13, st13⟩ := getS2 X0 hx hZ hown (host := "") (Or.inl (hw _ (List.mem_of_getElem? (i := 45) rfl))) Via.refl e0 (P6.ext O0.2) (g := (mkF m 32 #[.val (.long q0_), .second] [])) rfl (hb hby d3_32)
        have pre14 : ∀ t, Steps p.tables e below (T13.setTop (mkF m 35 #[.val (.long q0_), .second] [(.ref w_OPENAT)])) t → Steps p.tables e below (s₁.setTop (entryFrame m #[(.long q0_)] 2)) t := by
          intro t kt
          refine pre11 t ?_
          show Steps p.tables e below (s₁.setTop (mkF m 29 #[.val (.long q0_), .second] [(.int (lcmpW q0_ (257 : Int64)))])) _
          refine XS.ifNo X0.here hx rfl (hb hby d3_29) rfl ((if0 _ _).trans (teq ((lw_eq _ _).mpr hc12)).2) ?_
          show Steps p.tables e below (s₁.setTop (mkF m 32 #[.val (.long q0_), .second] [])) _
          refine st13 _ ?_
          exact kt
        obtain ⟨fs, hr, hrun, hended, hW, hsame⟩ := X13.leave (v := some (.ref w_OPENAT)) (fun h => by rw [Bd.returns] at h; cases h)
        refine ⟨_, _, pre14 _ (retOut X13 hx Bd.returns rfl (Or.inr (Or.inr (Or.inr (Or.inr ⟨rfl, rfl, rfl⟩)))) (hb hby d3_35) hr), hrun, hended, _, _, rfl, ?_, ⟨_, rfl⟩, hW, hsame.mono (by decide) (by decide)⟩
        show QExp Z q0_ w_OPEN w_CREAT w_OPENAT w_RENAME w_RENAMEAT w_RENAMEAT2 w_UNLINK w_UNLINKAT w_RMDIR w_CHMOD w_FCHMOD w_FCHMODAT w_CHOWN w_FCHOWNAT w__VALUES k_ h0 n0 _ T13.heap _
        rw [e13]
        exact ⟨(.ref w_OPENAT), rfl, (Or.inr (Or.inr (Or.inl ⟨rfl, hc2, hc7, hc12⟩))), N0, rfl⟩
      · have pre16 : ∀ t, Steps p.tables e below (s₁.setTop (mkF m 41 #[.val (.long q0_), .second] [(.int (lcmpW q0_ (82 : Int64)))])) t → Steps p.tables e below (s₁.setTop (entryFrame m #[(.long q0_)] 2)) t := by
          intro t kt
          refine pre11 t ?_
          show Steps p.tables e below (s₁.setTop (mkF m 29 #[.val (.long q0_), .second] [(.int (lcmpW q0_ (257 : Int64)))])) _
          refine XS.ifYes X0.here hx rfl (pc0 := 29) (pc' := 36) rfl (hb hby d3_29) rfl ((if0 _ _).trans (feq (fun z => hc12 ((lw_eq _ _).mp z))).2) (by decide) (by decide) ?_
          show Steps p.tables e below (s₁.setTop (mkF m 36 #[.val (.long q0_), .second] [])) _
          refine XS.lloadN X0.here hx rfl (hb hby d3_36) rfl ?_
          show Steps p.tables e below (s₁.setTop (mkF m 37 #[.val (.long q0_), .second] [(.long q0_)])) _
          refine X0.ldc2Long hx hown (mvT hZ (hw _ (List.mem_of_getElem? (i := 47) rfl))) (g := (mkF m 37 #[.val (.long q0_), .second] [(.long q0_)])) rfl (hb hby d3_37) _ ?_
          show Steps p.tables e below (s₁.setTop (mkF m 40 #[.val (.long q0_), .second] [(.long (82 : Int64)), (.long q0_)])) _
          refine XS.lcmp X0.here hx rfl (hb hby d3_40) rfl ?_
          exact kt
        by_cases hc17 : q0_ = (82 : Int64)
        · obtain ⟨T18, X18, e18, st18⟩ := getS2 X0 hx hZ hown (host := "") (Or.inl (hw _ (List.mem_of_getElem? (i := 61) rfl))) Via.refl e0 (P9.ext O0.2) (g := (mkF m 44 #[.val (.long q0_), .second] [])) rfl (hb hby d3_44)
          have pre19 : ∀ t, Steps p.tables e below (T18.setTop (mkF m 47 #[.val (.long q0_), .second] [(.ref w_RENAME)])) t → Steps p.tables e below (s₁.setTop (entryFrame m #[(.long q0_)] 2)) t := by
            intro t kt
            refine pre16 t ?_
            show Steps p.tables e below (s₁.setTop (mkF m 41 #[.val (.long q0_), .second] [(.int (lcmpW q0_ (82 : Int64)))])) _
            refine XS.ifNo X0.here hx rfl (hb hby d3_41) rfl ((if0 _ _).trans (teq ((lw_eq _ _).mpr hc17)).2) ?_
            show Steps p.tables e below (s₁.setTop (mkF m 44 #[.val (.long q0_), .second] [])) _
            refine st18 _ ?_
            exact kt
          obtain ⟨fs, hr, hrun, hended, hW, hsame⟩ := X18.leave (v := some (.ref w_RENAME)) (fun h => by rw [Bd.returns] at h; cases h)
          refine ⟨_, _, pre19 _ (retOut X18 hx Bd.returns rfl (Or.inr (Or.inr (Or.inr (Or.inr ⟨rfl, rfl, rfl⟩)))) (hb hby d3_47) hr), hrun, hended, _, _, rfl, ?_, ⟨_, rfl⟩, hW, hsame.mono (by decide) (by decide)⟩
          show QExp Z q0_ w_OPEN w_CREAT w_OPENAT w_RENAME w_RENAMEAT w_RENAMEAT2 w_UNLINK w_UNLINKAT w_RMDIR w_CHMOD w_FCHMOD w_FCHMODAT w_CHOWN w_FCHOWNAT w__VALUES k_ h0 n0 _ T18.heap _
          rw [e18]
          exact ⟨(.ref w_RENAME), rfl, (Or.inr (Or.inr (Or.inr (Or.inl ⟨rfl, hc2, hc7, hc12, hc17⟩)))), N0, rfl⟩
        · have pre21 : ∀ t, Steps p.tables e below (s₁.setTop (mkF m 53 #[.val (.long q0_), .second] [(.int (lcmpW q0_ (264 : Int64)))])) t → Steps p.tables e below (s₁.setTop (entryFrame m #[(.long q0_)] 2)) t := by
            intro t kt
            refine pre16 t ?_
            show Steps p.tables e below (s₁.setTop (mkF m 41 #[.val (.long q0_), .second] [(.int (lcmpW q0_ (82 : Int64)))])) _
            refine XS.ifYes X0.here hx rfl (pc0 := 41) (pc' := 48) rfl (hb hby d3_41) rfl ((if0 _ _).trans (feq (fun z => hc17 ((lw_eq _ _).mp z))).2) (by decide) (by decide) ?_
            show Steps p.tables e below (s₁.setTop (mkF m 48 #[.val (.long q0_), .second] [])) _
            refine XS.lloadN X0.here hx rfl (hb hby d3_48) rfl ?_
            show Steps p.tables e below (s₁.setTop (mkF m 49 #[.val (.long q0_), .second] [(.long q0_)])) _
            refine X0.ldc2Long hx hown (mvT hZ (hw _ (List.mem_of_getElem? (i := 46) rfl))) (g := (mkF m 49 #[.val (.long q0_), .second] [(.long q0_)])) rfl (hb hby d3_49) _ ?_
            show Steps p.tables e below (s₁.setTop (mkF m 52 #[.val (.long q0_), .second] [(.long (264 : Int64)), (.long q0_)])) _
            refine XS.lcmp X0.here hx rfl (hb hby d3_52) rfl ?_
            exact kt
          by_cases hc22 : q0_ = (264 : Int64)
          · obtain ⟨T23, X23, e23, st23⟩ := getS2 X0 hx hZ hown (host := "") (Or.inl (hw _ (List.mem_of_getElem? (i := 48) rfl))) Via.refl e0 (P12.ext O0.2) (g := (mkF m 56 #[.val (.long q0_), .second] [])) rfl (hb hby d3_56)
            have pre24 : ∀ t, Steps p.tables e below (T23.setTop (mkF m 59 #[.val (.long q0_), .second] [(.ref w_RENAMEAT)])) t → Steps p.tables e below (s₁.setTop (entryFrame m #[(.long q0_)] 2)) t := by
              intro t kt
              refine pre21 t ?_
              show Steps p.tables e below (s₁.setTop (mkF m 53 #[.val (.long q0_), .second] [(.int (lcmpW q0_ (264 : Int64)))])) _
              refine XS.ifNo X0.here hx rfl (hb hby d3_53) rfl ((if0 _ _).trans (teq ((lw_eq _ _).mpr hc22)).2) ?_
              show Steps p.tables e below (s₁.setTop (mkF m 56 #[.val (.long q0_), .second] [])) _
              refine st23 _ ?_
              exact kt
            obtain ⟨fs, hr, hrun, hended, hW, hsame⟩ := X23.leave (v := some (.ref w_RENAMEAT)) (fun h => by rw [Bd.returns] at h; cases h)
            refine ⟨_, _, pre24 _ (retOut X23 hx Bd.returns rfl (Or.inr (Or.inr (Or.inr (Or.inr ⟨rfl, rfl, rfl⟩)))) (hb hby d3_59) hr), hrun, hended, _, _, rfl, ?_, ⟨_, rfl⟩, hW, hsame.mono (by decide) (by decide)⟩
            show QExp Z q0_ w_OPEN w_CREAT w_OPENAT w_RENAME w_RENAMEAT w_RENAMEAT2 w_UNLINK w_UNLINKAT w_RMDIR w_CHMOD w_FCHMOD w_FCHMODAT w_CHOWN w_FCHOWNAT w__VALUES k_ h0 n0 _ T23.heap _
            rw [e23]
            exact ⟨(.ref w_RENAMEAT), rfl, (Or.inr (Or.inr (Or.inr (Or.inr (Or.inl ⟨rfl, hc2, hc7, hc12, hc17, hc22⟩))))), N0, rfl⟩
          · have pre26 : ∀ t, Steps p.tables e below (s₁.setTop (mkF m 65 #[.val (.long q0_), .second] [(.int (lcmpW q0_ (316 : Int64)))])) t → Steps p.tables e below (s₁.setTop (entryFrame m #[(.long q0_)] 2)) t := by
              intro t kt
              refine pre21 t ?_
              show Steps p.tables e below (s₁.setTop (mkF m 53 #[.val (.long q0_), .second] [(.int (lcmpW q0_ (264 : Int64)))])) _
              refine XS.ifYes X0.here hx rfl (pc0 := 53) (pc' := 60) rfl (hb hby d3_53) rfl ((if0 _ _).trans (feq (fun z => hc22 ((lw_eq _ _).mp z))).2) (by decide) (by decide) ?_
              show Steps p.tables e below (s₁.setTop (mkF m 60 #[.val (.long q0_), .second] [])) _
              refine XS.lloadN X0.here hx rfl (hb hby d3_60) rfl ?_
              show Steps p.tables e below (s₁.setTop (mkF m 61 #[.val (.long q0_), .second] [(.long q0_)])) _
              refine X0.ldc2Long hx hown (mvT hZ (hw _ (List.mem_of_getElem? (i := 50) rfl))) (g := (mkF m 61 #[.val (.long q0_), .second] [(.long q0_)])) rfl (hb hby d3_61) _ ?_
              show Steps p.tables e below (s₁.setTop (mkF m 64 #[.val (.long q0_), .second] [(.long (316 : Int64)), (.long q0_)])) _
              refine XS.lcmp X0.here hx rfl (hb hby d3_64) rfl ?_
              exact kt
            by_cases hc27 : q0_ = (316 : Int64)
            · obtain ⟨T28, X28, e28, st28⟩ := getS2 X0 hx hZ hown (host := "") (Or.inl (hw _ (List.mem_of_getElem? (i := 66) rfl))) Via.refl e0 (P15.ext O0.2) (g := (mkF m 68 #[.val (.long q0_), .second] [])) rfl (hb hby d3_68)
              have pre29 : ∀ t, Steps p.tables e below (T28.setTop (mkF m 71 #[.val (.long q0_), .second] [(.ref w_RENAMEAT2)])) t → Steps p.tables e below (s₁.setTop (entryFrame m #[(.long q0_)] 2)) t := by
                intro t kt
                refine pre26 t ?_
                show Steps p.tables e below (s₁.setTop (mkF m 65 #[.val (.long q0_), .second] [(.int (lcmpW q0_ (316 : Int64)))])) _
                refine XS.ifNo X0.here hx rfl (hb hby d3_65) rfl ((if0 _ _).trans (teq ((lw_eq _ _).mpr hc27)).2) ?_
                show Steps p.tables e below (s₁.setTop (mkF m 68 #[.val (.long q0_), .second] [])) _
                refine st28 _ ?_
                exact kt
              obtain ⟨fs, hr, hrun, hended, hW, hsame⟩ := X28.leave (v := some (.ref w_RENAMEAT2)) (fun h => by rw [Bd.returns] at h; cases h)
              refine ⟨_, _, pre29 _ (retOut X28 hx Bd.returns rfl (Or.inr (Or.inr (Or.inr (Or.inr ⟨rfl, rfl, rfl⟩)))) (hb hby d3_71) hr), hrun, hended, _, _, rfl, ?_, ⟨_, rfl⟩, hW, hsame.mono (by decide) (by decide)⟩
              show QExp Z q0_ w_OPEN w_CREAT w_OPENAT w_RENAME w_RENAMEAT w_RENAMEAT2 w_UNLINK w_UNLINKAT w_RMDIR w_CHMOD w_FCHMOD w_FCHMODAT w_CHOWN w_FCHOWNAT w__VALUES k_ h0 n0 _ T28.heap _
              rw [e28]
              exact ⟨(.ref w_RENAMEAT2), rfl, (Or.inr (Or.inr (Or.inr (Or.inr (Or.inr (Or.inl ⟨rfl, hc2, hc7, hc12, hc17, hc22, hc27⟩)))))), N0, rfl⟩
            · have pre31 : ∀ t, Steps p.tables e below (s₁.setTop (mkF m 77 #[.val (.long q0_), .second] [(.int (lcmpW q0_ (87 : Int64)))])) t → Steps p.tables e below (s₁.setTop (entryFrame m #[(.long q0_)] 2)) t := by
                intro t kt
                refine pre26 t ?_
                show Steps p.tables e below (s₁.setTop (mkF m 65 #[.val (.long q0_), .second] [(.int (lcmpW q0_ (316 : Int64)))])) _
                refine XS.ifYes X0.here hx rfl (pc0 := 65) (pc' := 72) rfl (hb hby d3_65) rfl ((if0 _ _).trans (feq (fun z => hc27 ((lw_eq _ _).mp z))).2) (by decide) (by decide) ?_
                show Steps p.tables e below (s₁.setTop (mkF m 72 #[.val (.long q0_), .second] [])) _
                refine XS.lloadN X0.here hx rfl (hb hby d3_72) rfl ?_
                show Steps p.tables e below (s₁.setTop (mkF m 73 #[.val (.long q0_), .second] [(.long q0_)])) _
                refine X0.ldc2Long hx hown (mvT hZ (hw _ (List.mem_of_getElem? (i := 51) rfl))) (g := (mkF m 73 #[.val (.long q0_), .second] [(.long q0_)])) rfl (hb hby d3_73) _ ?_
                show Steps p.tables e below (s₁.setTop (mkF m 76 #[.val (.long q0_), .second] [(.long (87 : Int64)), (.long q0_)])) _
                refine XS.lcmp X0.here hx rfl (hb hby d3_76) rfl ?_
                exact kt
              by_cases hc32 : q0_ = (87 : Int64)
              · obtain ⟨T33, X33, e33, st33⟩ := getS2 X0 hx hZ hown (host := "") (Or.inl (hw _ (List.mem_of_getElem? (i := 67) rfl))) Via.refl e0 (P18.ext O0.2) (g := (mkF m 80 #[.val (.long q0_), .second] [])) rfl (hb hby d3_80)
                have pre34 : ∀ t, Steps p.tables e below (T33.setTop (mkF m 83 #[.val (.long q0_), .second] [(.ref w_UNLINK)])) t → Steps p.tables e below (s₁.setTop (entryFrame m #[(.long q0_)] 2)) t := by
                  intro t kt
                  refine pre31 t ?_
                  show Steps p.tables e below (s₁.setTop (mkF m 77 #[.val (.long q0_), .second] [(.int (lcmpW q0_ (87 : Int64)))])) _
                  refine XS.ifNo X0.here hx rfl (hb hby d3_77) rfl ((if0 _ _).trans (teq ((lw_eq _ _).mpr hc32)).2) ?_
                  show Steps p.tables e below (s₁.setTop (mkF m 80 #[.val (.long q0_), .second] [])) _
                  refine st33 _ ?_
                  exact kt
                obtain ⟨fs, hr, hrun, hended, hW, hsame⟩ := X33.leave (v := some (.ref w_UNLINK)) (fun h => by rw [Bd.returns] at h; cases h)
                refine ⟨_, _, pre34 _ (retOut X33 hx Bd.returns rfl (Or.inr (Or.inr (Or.inr (Or.inr ⟨rfl, rfl, rfl⟩)))) (hb hby d3_83) hr), hrun, hended, _, _, rfl, ?_, ⟨_, rfl⟩, hW, hsame.mono (by decide) (by decide)⟩
                show QExp Z q0_ w_OPEN w_CREAT w_OPENAT w_RENAME w_RENAMEAT w_RENAMEAT2 w_UNLINK w_UNLINKAT w_RMDIR w_CHMOD w_FCHMOD w_FCHMODAT w_CHOWN w_FCHOWNAT w__VALUES k_ h0 n0 _ T33.heap _
                rw [e33]
                exact ⟨(.ref w_UNLINK), rfl, (Or.inr (Or.inr (Or.inr (Or.inr (Or.inr (Or.inr (Or.inl ⟨rfl, hc2, hc7, hc12, hc17, hc22, hc27, hc32⟩))))))), N0, rfl⟩
              · have pre36 : ∀ t, Steps p.tables e below (s₁.setTop (mkF m 89 #[.val (.long q0_), .second] [(.int (lcmpW q0_ (263 : Int64)))])) t → Steps p.tables e below (s₁.setTop (entryFrame m #[(.long q0_)] 2)) t := by
                  intro t kt
                  refine pre31 t ?_
                  show Steps p.tables e below (s₁.setTop (mkF m 77 #[.val (.long q0_), .second] [(.int (lcmpW q0_ (87 : Int64)))])) _
                  refine XS.ifYes X0.here hx rfl (pc0 := 77) (pc' := 84) rfl (hb hby d3_77) rfl ((if0 _ _).trans (feq (fun z => hc32 ((lw_eq _ _).mp z))).2) (by decide) (by decide) ?_
                  show Steps p.tables e below (s₁.setTop (mkF m 84 #[.val (.long q0_), .second] [])) _
                  refine XS.lloadN X0.here hx rfl (hb hby d3_84) rfl ?_
                  show Steps p.tables e below (s₁.setTop (mkF m 85 #[.val (.long q0_), .second] [(.long q0_)])) _
                  refine X0.ldc2Long hx hown (mvT hZ (hw _ (List.mem_of_getElem? (i := 49) rfl))) (g := (mkF m 85 #[.val (.long q0_), .second] [(.long q0_)])) rfl (hb hby d3_85) _ ?_
                  show Steps p.tables e below (s₁.setTop (mkF m 88 #[.val (.long q0_), .second] [(.long (263 : Int64)), (.long q0_)])) _
                  refine XS.lcmp X0.here hx rfl (hb hby d3_88) rfl ?_
                  exact kt
                by_cases hc37 : q0_ = (263 : Int64)
                · obtain ⟨T38, X38, e38, st38⟩ := getS2 X0 hx hZ hown (host := "") (Or.inl (hw _ (List.mem_of_getElem? (i := 52) rfl))) Via.refl e0 (P21.ext O0.2) (g := (mkF m 92 #[.val (.long q0_), .second] [])) rfl (hb hby d3_92)
                  have pre39 : ∀ t, Steps p.tables e below (T38.setTop (mkF m 95 #[.val (.long q0_), .second] [(.ref w_UNLINKAT)])) t → Steps p.tables e below (s₁.setTop (entryFrame m #[(.long q0_)] 2)) t := by
                    intro t kt
                    refine pre36 t ?_
                    show Steps p.tables e below (s₁.setTop (mkF m 89 #[.val (.long q0_), .second] [(.int (lcmpW q0_ (263 : Int64)))])) _
                    refine XS.ifNo X0.here hx rfl (hb hby d3_89) rfl ((if0 _ _).trans (teq ((lw_eq _ _).mpr hc37)).2) ?_
                    show Steps p.tables e below (s₁.setTop (mkF m 92 #[.val (.long q0_), .second] [])) _
                    refine st38 _ ?_
                    exact kt
                  obtain ⟨fs, hr, hrun, hended, hW, hsame⟩ := X38.leave (v := some (.ref w_UNLINKAT)) (fun h => by rw [Bd.returns] at h; cases h)
                  refine ⟨_, _, pre39 _ (retOut X38 hx Bd.returns rfl (Or.inr (Or.inr (Or.inr (Or.inr ⟨rfl, rfl, rfl⟩)))) (hb hby d3_95) hr), hrun, hended, _, _, rfl, ?_, ⟨_, rfl⟩, hW, hsame.mono (by decide) (by decide)⟩
                  show QExp Z q0_ w_OPEN w_CREAT w_OPENAT w_RENAME w_RENAMEAT w_RENAMEAT2 w_UNLINK w_UNLINKAT w_RMDIR w_CHMOD w_FCHMOD w_FCHMODAT w_CHOWN w_FCHOWNAT w__VALUES k_ h0 n0 _ T38.heap _
                  rw [e38]
                  exact ⟨(.ref w_UNLINKAT), rfl, (Or.inr (Or.inr (Or.inr (Or.inr (Or.inr (Or.inr (Or.inr (Or.inl ⟨rfl, hc2, hc7, hc12, hc17, hc22, hc27, hc32, hc37⟩)))))))), N0, rfl⟩
                · have pre41 : ∀ t, Steps p.tables e below (s₁.setTop (mkF m 101 #[.val (.long q0_), .second] [(.int (lcmpW q0_ (84 : Int64)))])) t → Steps p.tables e below (s₁.setTop (entryFrame m #[(.long q0_)] 2)) t := by
                    intro t kt
                    refine pre36 t ?_
                    show Steps p.tables e below (s₁.setTop (mkF m 89 #[.val (.long q0_), .second] [(.int (lcmpW q0_ (263 : Int64)))])) _
                    refine XS.ifYes X0.here hx rfl (pc0 := 89) (pc' := 96) rfl (hb hby d3_89) rfl ((if0 _ _).trans (feq (fun z => hc37 ((lw_eq _ _).mp z))).2) (by decide) (by decide) ?_
                    show Steps p.tables e below (s₁.setTop (mkF m 96 #[.val (.long q0_), .second] [])) _
                    refine XS.lloadN X0.here hx rfl (hb hby d3_96) rfl ?_
                    show Steps p.tables e below (s₁.setTop (mkF m 97 #[.val (.long q0_), .second] [(.long q0_)])) _
                    refine X0.ldc2Long hx hown (mvT hZ (hw _ (List.mem_of_getElem? (i := 53) rfl))) (g := (mkF m 97 #[.val (.long q0_), .second] [(.long q0_)])) rfl (hb hby d3_97) _ ?_
                    show Steps p.tables e below (s₁.setTop (mkF m 100 #[.val (.long q0_), .second] [(.long (84 : Int64)), (.long q0_)])) _
                    refine XS.lcmp X0.here hx rfl (hb hby d3_100) rfl ?_
                    exact kt
                  by_cases hc42 : q0_ = (84 : Int64)
                  · obtain ⟨T43, X43, e43, st43⟩ := getS2 X0 hx hZ hown (host := "") (Or.inl (hw _ (List.mem_of_getElem? (i := 59) rfl))) Via.refl e0 (P24.ext O0.2) (g := (mkF m 104 #[.val (.long q0_), .second] [])) rfl (hb hby d3_104)
                    have pre44 : ∀ t, Steps p.tables e below (T43.setTop (mkF m 107 #[.val (.long q0_), .second] [(.ref w_RMDIR)])) t → Steps p.tables e below (s₁.setTop (entryFrame m #[(.long q0_)] 2)) t := by
                      intro t kt
                      refine pre41 t ?_
                      show Steps p.tables e below (s₁.setTop (mkF m 101 #[.val (.long q0_), .second] [(.int (lcmpW q0_ (84 : Int64)))])) _
                      refine XS.ifNo X0.here hx rfl (hb hby d3_101) rfl ((if0 _ _).trans (teq ((lw_eq _ _).mpr hc42)).2) ?_
                      show Steps p.tables e below (s₁.setTop (mkF m 104 #[.val (.long q0_), .second] [])) _
                      refine st43 _ ?_
                      exact kt
                    obtain ⟨fs, hr, hrun, hended, hW, hsame⟩ := X43.leave (v := some (.ref w_RMDIR)) (fun h => by rw [Bd.returns] at h; cases h)
                    refine ⟨_, _, pre44 _ (retOut X43 hx Bd.returns rfl (Or.inr (Or.inr (Or.inr (Or.inr ⟨rfl, rfl, rfl⟩)))) (hb hby d3_107) hr), hrun, hended, _, _, rfl, ?_, ⟨_, rfl⟩, hW, hsame.mono (by decide) (by decide)⟩
                    show QExp Z q0_ w_OPEN w_CREAT w_OPENAT w_RENAME w_RENAMEAT w_RENAMEAT2 w_UNLINK w_UNLINKAT w_RMDIR w_CHMOD w_FCHMOD w_FCHMODAT w_CHOWN w_FCHOWNAT w__VALUES k_ h0 n0 _ T43.heap _
                    rw [e43]
                    exact ⟨(.ref w_RMDIR), rfl, (Or.inr (Or.inr (Or.inr (Or.inr (Or.inr (Or.inr (Or.inr (Or.inr (Or.inl ⟨rfl, hc2, hc7, hc12, hc17, hc22, hc27, hc32, hc37, hc42⟩))))))))), N0, rfl⟩
                  · have pre46 : ∀ t, Steps p.tables e below (s₁.setTop (mkF m 113 #[.val (.long q0_), .second] [(.int (lcmpW q0_ (90 : Int64)))])) t → Steps p.tables e below (s₁.setTop (entryFrame m #[(.long q0_)] 2)) t := by
                      intro t kt
                      refine pre41 t ?_
                      show Steps p.tables e below (s₁.setTop (mkF m 101 #[.val (.long q0_), .second] [(.int (lcmpW q0_ (84 : Int64)))])) _
                      refine XS.ifYes X0.here hx rfl (pc0 := 101) (pc' := 108) rfl (hb hby d3_101) rfl ((if0 _ _).trans (feq (fun z => hc42 ((lw_eq _ _).mp z))).2) (by decide) (by decide) ?_
                      show Steps p.tables e below (s₁.setTop (mkF m 108 #[.val (.long q0_), .second] [])) _
                      refine XS.lloadN X0.here hx rfl (hb hby d3_108) rfl ?_
                      show Steps p.tables e below (s₁.setTop (mkF m 109 #[.val (.long q0_), .second] [(.long q0_)])) _
                      refine X0.ldc2Long hx hown (mvT hZ (hw _ (List.mem_of_getElem? (i := 54) rfl))) (g := (mkF m 109 #[.val (.long q0_), .second] [(.long q0_)])) rfl (hb hby d3_109) _ ?_
                      show Steps p.tables e below (s₁.setTop (mkF m 112 #[.val (.long q0_), .second] [(.long (90 : Int64)), (.long q0_)])) _
                      refine XS.lcmp X0.here hx rfl (hb hby d3_112) rfl ?_
                      exact kt
                    by_cases hc47 : q0_ = (90 : Int64)
                    · obtain ⟨T48, X48, e48, st48⟩ := getS2 X0 hx hZ hown (host := "") (Or.inl (hw _ (List.mem_of_getElem? (i := 69) rfl))) Via.refl e0 (P27.ext O0.2) (g := (mkF m 116 #[.val (.long q0_), .second] [])) rfl (hb hby d3_116)
                      have pre49 : ∀ t, Steps p.tables e below (T48.setTop (mkF m 119 #[.val (.long q0_), .second] [(.ref w_CHMOD)])) t → Steps p.tables e below (s₁.setTop (entryFrame m #[(.long q0_)] 2)) t := by
                        intro t kt
                        refine pre46 t ?_
                        show Steps p.tables e below (s₁.setTop (mkF m 113 #[.val (.long q0_), .second] [(.int (lcmpW q0_ (90 : Int64)))])) _
                        refine XS.ifNo X0.here hx rfl (hb hby d3_113) rfl ((if0 _ _).trans (teq ((lw_eq _ _).mpr hc47)).2) ?_
                        show Steps p.tables e below (s₁.setTop (mkF m 116 #[.val (.long q0_), .second] [])) _
                        refine st48 _ ?_
                        exact kt
                      obtain ⟨fs, hr, hrun, hended, hW, hsame⟩ := X48.leave (v := some (.ref w_CHMOD)) (fun h => by rw [Bd.returns] at h; cases h)
                      refine ⟨_, _, pre49 _ (retOut X48 hx Bd.returns rfl (Or.inr (Or.inr (Or.inr (Or.inr ⟨rfl, rfl, rfl⟩)))) (hb hby d3_119) hr), hrun, hended, _, _, rfl, ?_, ⟨_, rfl⟩, hW, hsame.mono (by decide) (by decide)⟩
                      show QExp Z q0_ w_OPEN w_CREAT w_OPENAT w_RENAME w_RENAMEAT w_RENAMEAT2 w_UNLINK w_UNLINKAT w_RMDIR w_CHMOD w_FCHMOD w_FCHMODAT w_CHOWN w_FCHOWNAT w__VALUES k_ h0 n0 _ T48.heap _
                      rw [e48]
                      exact ⟨(.ref w_CHMOD), rfl, (Or.inr (Or.inr (Or.inr (Or.inr (Or.inr (Or.inr (Or.inr (Or.inr (Or.inr (Or.inl ⟨rfl, hc2, hc7, hc12, hc17, hc22, hc27, hc32, hc37, hc42, hc47⟩)))))))))), N0, rfl⟩
                    · have pre51 : ∀ t, Steps p.tables e below (s₁.setTop (mkF m 125 #[.val (.long q0_), .second] [(.int (lcmpW q0_ (91 : Int64)))])) t → Steps p.tables e below (s₁.setTop (entryFrame m #[(.long q0_)] 2)) t := by
                        intro t kt
                        refine pre46 t ?_
                        show Steps p.tables e below (s₁.setTop (mkF m 113 #[.val (.long q0_), .second] [(.int (lcmpW q0_ (90 : Int64)))])) _
                        refine XS.ifYes X0.here hx rfl (pc0 := 113) (pc' := 120) rfl (hb hby d3_113) rfl ((if0 _ _).trans (feq (fun z => hc47 ((lw_eq _ _).mp z))).2) (by decide) (by decide) ?_
                        show Steps p.tables e below (s₁.setTop (mkF m 120 #[.val (.long q0_), .second] [])) _
                        refine XS.lloadN X0.here hx rfl (hb hby d3_120) rfl ?_
                        show Steps p.tables e below (s₁.setTop (mkF m 121 #[.val (.long q0_), .second] [(.long q0_)])) _
                        refine X0.ldc2Long hx hown (mvT hZ (hw _ (List.mem_of_getElem? (i := 55) rfl))) (g := (mkF m 121 #[.val (.long q0_), .second] [(.long q0_)])) rfl (hb hby d3_121) _ ?_
                        show Steps p.tables e below (s₁.setTop (mkF m 124 #[.val (.long q0_), .second] [(.long (91 : Int64)), (.long q0_)])) _
                        refine XS.lcmp X0.here hx rfl (hb hby d3_124) rfl ?_
                        exact kt
                      by_cases hc52 : q0_ = (91 : Int64)
                      · obtain ⟨T53, X53, e53, st53⟩ := getS2 X0 hx hZ hown (host := "") (Or.inl (hw _ (List.mem_of_getElem? (i := 65) rfl))) Via.refl e0 (P30.ext O0.2) (g := (mkF m 128 #[.val (.long q0_), .second] [])) rfl (hb hby d3_128)
                        have pre54 : ∀ t, Steps p.tables e below (T53.setTop (mkF m 131 #[.val (.long q0_), .second] [(.ref w_FCHMOD)])) t → Steps p.tables e below (s₁.setTop (entryFrame m #[(.long q0_)] 2)) t := by
                          intro t kt
                          refine pre51 t ?_
                          show Steps p.tables e below (s₁.setTop (mkF m 125 #[.val (.long q0_), .second] [(.int (lcmpW q0_ (91 : Int64)))])) _
                          refine XS.ifNo X0.here hx rfl (hb hby d3_125) rfl ((if0 _ _).trans (teq ((lw_eq _ _).mpr hc52)).2) ?_
                          show Steps p.tables e below (s₁.setTop (mkF m 128 #[.val (.long q0_), .second] [])) _
                          refine st53 _ ?_
                          exact kt
                        obtain ⟨fs, hr, hrun, hended, hW, hsame⟩ := X53.leave (v := some (.ref w_FCHMOD)) (fun h => by rw [Bd.returns] at h; cases h)
                        refine ⟨_, _, pre54 _ (retOut X53 hx Bd.returns rfl (Or.inr (Or.inr (Or.inr (Or.inr ⟨rfl, rfl, rfl⟩)))) (hb hby d3_131) hr), hrun, hended, _, _, rfl, ?_, ⟨_, rfl⟩, hW, hsame.mono (by decide) (by decide)⟩
                        show QExp Z q0_ w_OPEN w_CREAT w_OPENAT w_RENAME w_RENAMEAT w_RENAMEAT2 w_UNLINK w_UNLINKAT w_RMDIR w_CHMOD w_FCHMOD w_FCHMODAT w_CHOWN w_FCHOWNAT w__VALUES k_ h0 n0 _ T53.heap _
                        rw [e53]
                        exact ⟨(.ref w_FCHMOD), rfl, (Or.inr (Or.inr (Or.inr (Or.inr (Or.inr (Or.inr (Or.inr (Or.inr (Or.inr (Or.inr (Or.inl ⟨rfl, hc2, hc7, hc12, hc17, hc22, hc27, hc32, hc37, hc42, hc47, hc52⟩))))))))))), N0, rfl⟩
                      · have pre56 : ∀ t, Steps p.tables e below (s₁.setTop (mkF m 137 #[.val (.long q0_), .second] [(.int (lcmpW q0_ (268 : Int64)))])) t → Steps p.tables e below (s₁.setTop (entryFrame m #[(.long q0_)] 2)) t := by
                          intro t kt
                          refine pre51 t ?_
                          show Steps p.tables e below (s₁.setTop (mkF m 125 #[.val (.long q0_), .second] [(.int (lcmpW q0_ (91 : Int64)))])) _
                          refine XS.ifYes X0.here hx rfl (pc0 := 125) (pc' := 132) rfl (hb hby d3_125) rfl ((if0 _ _).trans (feq (fun z => hc52 ((lw_eq _ _).mp z))).2) (by decide) (by decide) ?_
                          show Steps p.tables e below (s₁.setTop (mkF m 132 #[.val (.long q0_), .second] [])) _
                          refine XS.lloadN X0.here hx rfl (hb hby d3_132) rfl ?_
                          show Steps p.tables e below (s₁.setTop (mkF m 133 #[.val (.long q0_), .second] [(.long q0_)])) _
                          refine X0.ldc2Long hx hown (mvT hZ (hw _ (List.mem_of_getElem? (i := 56) rfl))) (g := (mkF m 133 #[.val (.long q0_), .second] [(.long q0_)])) rfl (hb hby d3_133) _ ?_
                          show Steps p.tables e below (s₁.setTop (mkF m 136 #[.val (.long q0_), .second] [(.long (268 : Int64)), (.long q0_)])) _
                          refine XS.lcmp X0.here hx rfl (hb hby d3_136) rfl ?_
                          exact kt
                        by_cases hc57 : q0_ = (268 : Int64)
                        · obtain ⟨T58, X58, e58, st58⟩ := getS2 X0 hx hZ hown (host := "") (Or.inl (hw _ (List.mem_of_getElem? (i := 64) rfl))) Via.refl e0 (P33.ext O0.2) (g := (mkF m 140 #[.val (.long q0_), .second] [])) rfl (hb hby d3_140)
                          have pre59 : ∀ t, Steps p.tables e below (T58.setTop (mkF m 143 #[.val (.long q0_), .second] [(.ref w_FCHMODAT)])) t → Steps p.tables e below (s₁.setTop (entryFrame m #[(.long q0_)] 2)) t := by
                            intro t kt
                            refine pre56 t ?_
                            show Steps p.tables e below (s₁.setTop (mkF m 137 #[.val (.long q0_), .second] [(.int (lcmpW q0_ (268 : Int64)))])) _
                            refine XS.ifNo X0.here hx rfl (hb hby d3_137) rfl ((if0 _ _).trans (teq ((lw_eq _ _).mpr hc57)).2) ?_
                            show Steps p.tables e below (s₁.setTop (mkF m 140 #[.val (.long q0_), .second] [])) _
                            refine st58 _ ?_
                            exact kt
                          obtain ⟨fs, hr, hrun, hended, hW, hsame⟩ := X58.leave (v := some (.ref w_FCHMODAT)) (fun h => by rw [Bd.returns] at h; cases h)
                          refine ⟨_, _, pre59 _ (retOut X58 hx Bd.returns rfl (Or.inr (Or.inr (Or.inr (Or.inr ⟨rfl, rfl, rfl⟩)))) (hb hby d3_143) hr), hrun, hended, _, _, rfl, ?_, ⟨_, rfl⟩, hW, hsame.mono (by decide) (by decide)⟩
                          show QExp Z q0_ w_OPEN w_CREAT w_OPENAT w_RENAME w_RENAMEAT w_RENAMEAT2 w_UNLINK w_UNLINKAT w_RMDIR w_CHMOD w_FCHMOD w_FCHMODAT w_CHOWN w_FCHOWNAT w__VALUES k_ h0 n0 _ T58.heap _
                          rw [e58]
                          exact ⟨(.ref w_FCHMODAT), rfl, (Or.inr (Or.inr (Or.inr (Or.inr (Or.inr (Or.inr (Or.inr (Or.inr (Or.inr (Or.inr (Or.inr (Or.inl ⟨rfl, hc2, hc7, hc12, hc17, hc22, hc27, hc32, hc37, hc42, hc47, hc52, hc57⟩)))))))))))), N0, rfl⟩
                        · have pre61 : ∀ t, Steps p.tables e below (s₁.setTop (mkF m 149 #[.val (.long q0_), .second] [(.int (lcmpW q0_ (92 : Int64)))])) t → Steps p.tables e below (s₁.setTop (entryFrame m #[(.long q0_)] 2)) t := by
                            intro t kt
                            refine pre56 t ?_
                            show Steps p.tables e below (s₁.setTop (mkF m 137 #[.val (.long q0_), .second] [(.int (lcmpW q0_ (268 : Int64)))])) _
                            refine XS.ifYes X0.here hx rfl (pc0 := 137) (pc' := 144) rfl (hb hby d3_137) rfl ((if0 _ _).trans (feq (fun z => hc57 ((lw_eq _ _).mp z))).2) (by decide) (by decide) ?_
                            show Steps p.tables e below (s₁.setTop (mkF m 144 #[.val (.long q0_), .second] [])) _
                            refine XS.lloadN X0.here hx rfl (hb hby d3_144) rfl ?_
                            show Steps p.tables e below (s₁.setTop (mkF m 145 #[.val (.long q0_), .second] [(.long q0_)])) _
                            refine X0.ldc2Long hx hown (mvT hZ (hw _ (List.mem_of_getElem? (i := 57) rfl))) (g := (mkF m 145 #[.val (.long q0_), .second] [(.long q0_)])) rfl (hb hby d3_145) _ ?_
                            show Steps p.tables e below (s₁.setTop (mkF m 148 #[.val (.long q0_), .second] [(.long (92 : Int64)), (.long q0_)])) _
                            refine XS.lcmp X0.here hx rfl (hb hby d3_148) rfl ?_
                            exact kt
                          by_cases hc62 : q0_ = (92 : Int64)
                          · obtain ⟨T63, X63, e63, st63⟩ := getS2 X0 hx hZ hown (host := "") (Or.inl (hw _ (List.mem_of_getElem? (i := 60) rfl))) Via.refl e0 (P36.ext O0.2) (g := (mkF m 152 #[.val (.long q0_), .second] [])) rfl (hb hby d3_152)
                            have pre64 : ∀ t, Steps p.tables e below (T63.setTop (mkF m 155 #[.val (.long q0_), .second] [(.ref w_CHOWN)])) t → Steps p.tables e below (s₁.setTop (entryFrame m #[(.long q0_)] 2)) t := by
                              intro t kt
                              refine pre61 t ?_
                              show Steps p.tables e below (s₁.setTop (mkF m 149 #[.val (.long q0_), .second] [(.int (lcmpW q0_ (92 : Int64)))])) _
                              refine XS.ifNo X0.here hx rfl (hb hby d3_149) rfl ((if0 _ _).trans (teq ((lw_eq _ _).mpr hc62)).2) ?_
                              show Steps p.tables e below (s₁.setTop (mkF m 152 #[.val (.long q0_), .second] [])) _
                              refine st63 _ ?_
                              exact kt
                            obtain ⟨fs, hr, hrun, hended, hW, hsame⟩ := X63.leave (v := some (.ref w_CHOWN)) (fun h => by rw [Bd.returns] at h; cases h)
                            refine ⟨_, _, pre64 _ (retOut X63 hx Bd.returns rfl (Or.inr (Or.inr (Or.inr (Or.inr ⟨rfl, rfl, rfl⟩)))) (hb hby d3_155) hr), hrun, hended, _, _, rfl, ?_, ⟨_, rfl⟩, hW, hsame.mono (by decide) (by decide)⟩
                            show QExp Z q0_ w_OPEN w_CREAT w_OPENAT w_RENAME w_RENAMEAT w_RENAMEAT2 w_UNLINK w_UNLINKAT w_RMDIR w_CHMOD w_FCHMOD w_FCHMODAT w_CHOWN w_FCHOWNAT w__VALUES k_ h0 n0 _ T63.heap _
                            rw [e63]
                            exact ⟨(.ref w_CHOWN), rfl, (Or.inr (Or.inr (Or.inr (Or.inr (Or.inr (Or.inr (Or.inr (Or.inr (Or.inr (Or.inr (Or.inr (Or.inr (Or.inl ⟨rfl, hc2, hc7, hc12, hc17, hc22, hc27, hc32, hc37, hc42, hc47, hc52, hc57, hc62⟩))))))))))))), N0, rfl⟩
                          · have pre66 : ∀ t, Steps p.tables e below (s₁.setTop (mkF m 161 #[.val (.long q0_), .second] [(.int (lcmpW q0_ (260 : Int64)))])) t → Steps p.tables e below (s₁.setTop (entryFrame m #[(.long q0_)] 2)) t := by
                              intro t kt
                              refine pre61 t ?_
                              show Steps p.tables e below (s₁.setTop (mkF m 149 #[.val (.long q0_), .second] [(.int (lcmpW q0_ (92 : Int64)))])) _
                              refine XS.ifYes X0.here hx rfl (pc0 := 149) (pc' := 156) rfl (hb hby d3_149) rfl ((if0 _ _).trans (feq (fun z => hc62 ((lw_eq _ _).mp z))).2) (by decide) (by decide) ?_
                              show Steps p.tables e below (s₁.setTop (mkF m 156 #[.val (.long q0_), .second] [])) _
                              refine XS.lloadN X0.here hx rfl (hb hby d3_156) rfl ?_
                              show Steps p.tables e below (s₁.setTop (mkF m 157 #[.val (.long q0_), .second] [(.long q0_)])) _
                              refine X0.ldc2Long hx hown (mvT hZ (hw _ (List.mem_of_getElem? (i := 58) rfl))) (g := (mkF m 157 #[.val (.long q0_), .second] [(.long q0_)])) rfl (hb hby d3_157) _ ?_
                              show Steps p.tables e below (s₁.setTop (mkF m 160 #[.val (.long q0_), .second] [(.long (260 : Int64)), (.long q0_)])) _
                              refine XS.lcmp X0.here hx rfl (hb hby d3_160) rfl ?_
                              exact kt
                            by_cases hc67 : q0_ = (260 : Int64)
                            · obtain ⟨T68, X68, e68, st68⟩ := getS2 X0 hx hZ hown (host := "") (Or.inl (hw _ (List.mem_of_getElem? (i := 68) rfl))) Via.refl e0 (P39.ext O0.2) (g := (mkF m 164 #[.val (.long q0_), .second] [])) rfl (hb hby d3_164)
                              have pre69 : ∀ t, Steps p.tables e below (T68.setTop (mkF m 167 #[.val (.long q0_), .second] [(.ref w_FCHOWNAT)])) t → Steps p.tables e below (s₁.setTop (entryFrame m #[(.long q0_)] 2)) t := by
                                intro t kt
                                refine pre66 t ?_
                                show Steps p.tables e below (s₁.setTop (mkF m 161 #[.val (.long q0_), .second] [(.int (lcmpW q0_ (260 : Int64)))])) _
                                refine XS.ifNo X0.here hx rfl (hb hby d3_161) rfl ((if0 _ _).trans (teq ((lw_eq _ _).mpr hc67)).2) ?_
                                show Steps p.tables e below (s₁.setTop (mkF m 164 #[.val (.long q0_), .second] [])) _
                                refine st68 _ ?_
                                exact kt
                              obtain ⟨fs, hr, hrun, hended, hW, hsame⟩ := X68.leave (v := some (.ref w_FCHOWNAT)) (fun h => by rw [Bd.returns] at h; cases h)
                              refine ⟨_, _, pre69 _ (retOut X68 hx Bd.returns rfl (Or.inr (Or.inr (Or.inr (Or.inr ⟨rfl, rfl, rfl⟩)))) (hb hby d3_167) hr), hrun, hended, _, _, rfl, ?_, ⟨_, rfl⟩, hW, hsame.mono (by decide) (by decide)⟩
                              show QExp Z q0_ w_OPEN w_CREAT w_OPENAT w_RENAME w_RENAMEAT w_RENAMEAT2 w_UNLINK w_UNLINKAT w_RMDIR w_CHMOD w_FCHMOD w_FCHMODAT w_CHOWN w_FCHOWNAT w__VALUES k_ h0 n0 _ T68.heap _
                              rw [e68]
                              exact ⟨(.ref w_FCHOWNAT), rfl, (Or.inr (Or.inr (Or.inr (Or.inr (Or.inr (Or.inr (Or.inr (Or.inr (Or.inr (Or.inr (Or.inr (Or.inr (Or.inr (Or.inl ⟨rfl, hc2, hc7, hc12, hc17, hc22, hc27, hc32, hc37, hc42, hc47, hc52, hc57, hc62, hc67⟩)))))))))))))), N0, rfl⟩
                            · have pre71 : ∀ t, Steps p.tables e below (s₁.setTop (mkF m 169 #[.val (.long q0_), .second] [.null])) t → Steps p.tables e below (s₁.setTop (entryFrame m #[(.long q0_)] 2)) t := by
                                intro t kt
                                refine pre66 t ?_
                                show Steps p.tables e below (s₁.setTop (mkF m 161 #[.val (.long q0_), .second] [(.int (lcmpW q0_ (260 : Int64)))])) _
                                refine XS.ifYes X0.here hx rfl (pc0 := 161) (pc' := 168) rfl (hb hby d3_161) rfl ((if0 _ _).trans (feq (fun z => hc67 ((lw_eq _ _).mp z))).2) (by decide) (by decide) ?_
                                show Steps p.tables e below (s₁.setTop (mkF m 168 #[.val (.long q0_), .second] [])) _
                                refine XS.aconstNull X0.here hx rfl (hb hby d3_168) ?_
                                exact kt
                              obtain ⟨fs, hr, hrun, hended, hW, hsame⟩ := X0.leave (v := some .null) (fun h => by rw [Bd.returns] at h; cases h)
                              refine ⟨_, _, pre71 _ (retOut X0 hx Bd.returns rfl (Or.inr (Or.inr (Or.inr (Or.inr ⟨rfl, rfl, rfl⟩)))) (hb hby d3_169) hr), hrun, hended, _, _, rfl, ?_, ⟨_, rfl⟩, hW, hsame.mono (by decide) (by decide)⟩
                              show QExp Z q0_ w_OPEN w_CREAT w_OPENAT w_RENAME w_RENAMEAT w_RENAMEAT2 w_UNLINK w_UNLINKAT w_RMDIR w_CHMOD w_FCHMOD w_FCHMODAT w_CHOWN w_FCHOWNAT w__VALUES k_ h0 n0 _ s₁.heap _
                              rw [e0]
                              exact ⟨.null, rfl, (Or.inr (Or.inr (Or.inr (Or.inr (Or.inr (Or.inr (Or.inr (Or.inr (Or.inr (Or.inr (Or.inr (Or.inr (Or.inr (Or.inr ⟨rfl, hc2, hc7, hc12, hc17, hc22, hc27, hc32, hc37, hc42, hc47, hc52, hc57, hc62, hc67⟩)))))))))))))), N0, rfl⟩
theorem d4_0 : decode prog_7_method_4_code 0 = .ok (.invokestatic 77, 3) := by decide +kernel
theorem pd_0 : parseMethodDescriptor "()[Lcom/example/aeacus/aeacus/audit/Syscall;" = some ⟨[], some (.array (.object "com/example/aeacus/aeacus/audit/Syscall"))⟩ := by decide +kernel
theorem d4_3 : decode prog_7_method_4_code 3 = .ok (.astore_n 2, 1) := by decide +kernel
theorem d4_4 : decode prog_7_method_4_code 4 = .ok (.aload_n 2, 1) := by decide +kernel
theorem d4_5 : decode prog_7_method_4_code 5 = .ok (.arraylength, 1) := by decide +kernel
theorem d4_6 : decode prog_7_method_4_code 6 = .ok (.istore_n 3, 1) := by decide +kernel
theorem d4_7 : decode prog_7_method_4_code 7 = .ok (.iconst 0, 1) := by decide +kernel
theorem d4_8 : decode prog_7_method_4_code 8 = .ok (.istore 4, 2) := by decide +kernel
theorem d4_10 : decode prog_7_method_4_code 10 = .ok (.iload 4, 2) := by decide +kernel
theorem d4_12 : decode prog_7_method_4_code 12 = .ok (.iload_n 3, 1) := by decide +kernel
theorem d4_13 : decode prog_7_method_4_code 13 = .ok (.if_icmp .ge 29, 3) := by decide +kernel
theorem d4_16 : decode prog_7_method_4_code 16 = .ok (.aload_n 2, 1) := by decide +kernel
theorem d4_17 : decode prog_7_method_4_code 17 = .ok (.iload 4, 2) := by decide +kernel
theorem d4_19 : decode prog_7_method_4_code 19 = .ok (.aaload, 1) := by decide +kernel
theorem d4_20 : decode prog_7_method_4_code 20 = .ok (.astore 5, 2) := by decide +kernel
theorem d4_22 : decode prog_7_method_4_code 22 = .ok (.aload 5, 2) := by decide +kernel
theorem d4_24 : decode prog_7_method_4_code 24 = .ok (.getfield 65, 3) := by decide +kernel
theorem d4_27 : decode prog_7_method_4_code 27 = .ok (.i2l, 1) := by decide +kernel
theorem d4_28 : decode prog_7_method_4_code 28 = .ok (.lload_n 0, 1) := by decide +kernel
theorem d4_29 : decode prog_7_method_4_code 29 = .ok (.lcmp, 1) := by decide +kernel
theorem d4_30 : decode prog_7_method_4_code 30 = .ok (.ifCond .ne 6, 3) := by decide +kernel
theorem d4_33 : decode prog_7_method_4_code 33 = .ok (.aload 5, 2) := by decide +kernel
theorem d4_35 : decode prog_7_method_4_code 35 = .ok (.areturn, 1) := by decide +kernel
theorem d4_36 : decode prog_7_method_4_code 36 = .ok (.iinc 4 1, 3) := by decide +kernel
theorem d4_39 : decode prog_7_method_4_code 39 = .ok (.goto (-29), 3) := by decide +kernel
theorem d4_42 : decode prog_7_method_4_code 42 = .ok (.aconst_null, 1) := by decide +kernel
theorem d4_43 : decode prog_7_method_4_code 43 = .ok (.areturn, 1) := by decide +kernel
theorem efOf (m : MethodId) (q0_ : Int64) : entryFrame m #[(.long q0_)] 6 = mkF m 0 #[.val (.long q0_), .second, .unset, .unset, .unset, .unset] [] := by first | (simp [entryFrame, mkF, argsToLocals, Value.category]; done) | rfl
def QOf (Z : State) (q0_ : Int64) (w_OPEN : Addr) (w_CREAT : Addr) (w_OPENAT : Addr) (w_RENAME : Addr) (w_RENAMEAT : Addr) (w_RENAMEAT2 : Addr) (w_UNLINK : Addr) (w_UNLINKAT : Addr) (w_RMDIR : Addr) (w_CHMOD : Addr) (w_FCHMOD : Addr) (w_FCHMODAT : Addr) (w_CHOWN : Addr) (w_FCHOWNAT : Addr) (w__VALUES : Addr) (k_ : ClassId) (h0 : Heap) (n0 : Nat) (v : Option Value) (h : Heap) (L : List Loc) : Prop := ∃ r_ : Value, v = some r_ ∧ ((((.ref w_OPEN) : Value) = r_ ∧ ((2 : Int64) = q0_)) ∨ (((.ref w_CREAT) : Value) = r_ ∧ (¬ ((2 : Int64) = q0_)) ∧ ((85 : Int64) = q0_)) ∨ (((.ref w_OPENAT) : Value) = r_ ∧ (¬ ((2 : Int64) = q0_)) ∧ (¬ ((85 : Int64) = q0_)) ∧ ((257 : Int64) = q0_)) ∨ (((.ref w_RENAME) : Value) = r_ ∧ (¬ ((2 : Int64) = q0_)) ∧ (¬ ((85 : Int64) = q0_)) ∧ (¬ ((257 : Int64) = q0_)) ∧ ((82 : Int64) = q0_)) ∨ (((.ref w_RENAMEAT) : Value) = r_ ∧ (¬ ((2 : Int64) = q0_)) ∧ (¬ ((85 : Int64) = q0_)) ∧ (¬ ((257 : Int64) = q0_)) ∧ (¬ ((82 : Int64) = q0_)) ∧ ((264 : Int64) = q0_)) ∨ (((.ref w_RENAMEAT2) : Value) = r_ ∧ (¬ ((2 : Int64) = q0_)) ∧ (¬ ((85 : Int64) = q0_)) ∧ (¬ ((257 : Int64) = q0_)) ∧ (¬ ((82 : Int64) = q0_)) ∧ (¬ ((264 : Int64) = q0_)) ∧ ((316 : Int64) = q0_)) ∨ (((.ref w_UNLINK) : Value) = r_ ∧ (¬ ((2 : Int64) = q0_)) ∧ (¬ ((85 : Int64) = q0_)) ∧ (¬ ((257 : Int64) = q0_)) ∧ (¬ ((82 : Int64) = q0_)) ∧ (¬ ((264 : Int64) = q0_)) ∧ (¬ ((316 : Int64) = q0_)) ∧ ((87 : Int64) = q0_)) ∨ (((.ref w_UNLINKAT) : Value) = r_ ∧ (¬ ((2 : Int64) = q0_)) ∧ (¬ ((85 : Int64) = q0_)) ∧ (¬ ((257 : Int64) = q0_)) ∧ (¬ ((82 : Int64) = q0_)) ∧ (¬ ((264 : Int64) = q0_)) ∧ (¬ ((316 : Int64) = q0_)) ∧ (¬ ((87 : Int64) = q0_)) ∧ ((263 : Int64) = q0_)) ∨ (((.ref w_RMDIR) : Value) = r_ ∧ (¬ ((2 : Int64) = q0_)) ∧ (¬ ((85 : Int64) = q0_)) ∧ (¬ ((257 : Int64) = q0_)) ∧ (¬ ((82 : Int64) = q0_)) ∧ (¬ ((264 : Int64) = q0_)) ∧ (¬ ((316 : Int64) = q0_)) ∧ (¬ ((87 : Int64) = q0_)) ∧ (¬ ((263 : Int64) = q0_)) ∧ ((84 : Int64) = q0_)) ∨ (((.ref w_CHMOD) : Value) = r_ ∧ (¬ ((2 : Int64) = q0_)) ∧ (¬ ((85 : Int64) = q0_)) ∧ (¬ ((257 : Int64) = q0_)) ∧ (¬ ((82 : Int64) = q0_)) ∧ (¬ ((264 : Int64) = q0_)) ∧ (¬ ((316 : Int64) = q0_)) ∧ (¬ ((87 : Int64) = q0_)) ∧ (¬ ((263 : Int64) = q0_)) ∧ (¬ ((84 : Int64) = q0_)) ∧ ((90 : Int64) = q0_)) ∨ (((.ref w_FCHMOD) : Value) = r_ ∧ (¬ ((2 : Int64) = q0_)) ∧ (¬ ((85 : Int64) = q0_)) ∧ (¬ ((257 : Int64) = q0_)) ∧ (¬ ((82 : Int64) = q0_)) ∧ (¬ ((264 : Int64) = q0_)) ∧ (¬ ((316 : Int64) = q0_)) ∧ (¬ ((87 : Int64) = q0_)) ∧ (¬ ((263 : Int64) = q0_)) ∧ (¬ ((84 : Int64) = q0_)) ∧ (¬ ((90 : Int64) = q0_)) ∧ ((91 : Int64) = q0_)) ∨ (((.ref w_FCHMODAT) : Value) = r_ ∧ (¬ ((2 : Int64) = q0_)) ∧ (¬ ((85 : Int64) = q0_)) ∧ (¬ ((257 : Int64) = q0_)) ∧ (¬ ((82 : Int64) = q0_)) ∧ (¬ ((264 : Int64) = q0_)) ∧ (¬ ((316 : Int64) = q0_)) ∧ (¬ ((87 : Int64) = q0_)) ∧ (¬ ((263 : Int64) = q0_)) ∧ (¬ ((84 : Int64) = q0_)) ∧ (¬ ((90 : Int64) = q0_)) ∧ (¬ ((91 : Int64) = q0_)) ∧ ((268 : Int64) = q0_)) ∨ (((.ref w_CHOWN) : Value) = r_ ∧ (¬ ((2 : Int64) = q0_)) ∧ (¬ ((85 : Int64) = q0_)) ∧ (¬ ((257 : Int64) = q0_)) ∧ (¬ ((82 : Int64) = q0_)) ∧ (¬ ((264 : Int64) = q0_)) ∧ (¬ ((316 : Int64) = q0_)) ∧ (¬ ((87 : Int64) = q0_)) ∧ (¬ ((263 : Int64) = q0_)) ∧ (¬ ((84 : Int64) = q0_)) ∧ (¬ ((90 : Int64) = q0_)) ∧ (¬ ((91 : Int64) = q0_)) ∧ (¬ ((268 : Int64) = q0_)) ∧ ((92 : Int64) = q0_)) ∨ (((.ref w_FCHOWNAT) : Value) = r_ ∧ (¬ ((2 : Int64) = q0_)) ∧ (¬ ((85 : Int64) = q0_)) ∧ (¬ ((257 : Int64) = q0_)) ∧ (¬ ((82 : Int64) = q0_)) ∧ (¬ ((264 : Int64) = q0_)) ∧ (¬ ((316 : Int64) = q0_)) ∧ (¬ ((87 : Int64) = q0_)) ∧ (¬ ((263 : Int64) = q0_)) ∧ (¬ ((84 : Int64) = q0_)) ∧ (¬ ((90 : Int64) = q0_)) ∧ (¬ ((91 : Int64) = q0_)) ∧ (¬ ((268 : Int64) = q0_)) ∧ (¬ ((92 : Int64) = q0_)) ∧ ((260 : Int64) = q0_)) ∨ ((.null : Value) = r_ ∧ (¬ ((2 : Int64) = q0_)) ∧ (¬ ((85 : Int64) = q0_)) ∧ (¬ ((257 : Int64) = q0_)) ∧ (¬ ((82 : Int64) = q0_)) ∧ (¬ ((264 : Int64) = q0_)) ∧ (¬ ((316 : Int64) = q0_)) ∧ (¬ ((87 : Int64) = q0_)) ∧ (¬ ((263 : Int64) = q0_)) ∧ (¬ ((84 : Int64) = q0_)) ∧ (¬ ((90 : Int64) = q0_)) ∧ (¬ ((91 : Int64) = q0_)) ∧ (¬ ((268 : Int64) = q0_)) ∧ (¬ ((92 : Int64) = q0_)) ∧ (¬ ((260 : Int64) = q0_)))) ∧ Fr n0 L ∧ Keep h0 h []
set_option maxRecDepth 65536 in
set_option maxHeartbeats 40000000 in
theorem rmOf (l : Launch) (Z : State) (a0 : Array Value) (hw : ∀ d ∈ tables_1, d.before a0 Z = true) (ws : List Jvm.Cond) (q0_ : Int64) (w_OPEN : Addr) (w_CREAT : Addr) (w_OPENAT : Addr) (w_RENAME : Addr) (w_RENAMEAT : Addr) (w_RENAMEAT2 : Addr) (w_UNLINK : Addr) (w_UNLINKAT : Addr) (w_RMDIR : Addr) (w_CHMOD : Addr) (w_FCHMOD : Addr) (w_FCHMODAT : Addr) (w_CHOWN : Addr) (w_FCHOWNAT : Addr) (w__VALUES : Addr) (k_ : ClassId) (h0 : Heap) (n0 : Nat) (O0 : Old Z n0 h0) (P0 : Sta Z Z.heap "com/example/aeacus/aeacus/audit/Syscall" "OPEN" "Lcom/example/aeacus/aeacus/audit/Syscall;" (.ref w_OPEN)) (P1 : Exa Z Z.heap w_OPEN "com/example/aeacus/aeacus/audit/Syscall") (P2 : Fld Z Z.heap w_OPEN "com/example/aeacus/aeacus/audit/Syscall" "number" "I" (.int (2 : Int32))) (P3 : Sta Z Z.heap "com/example/aeacus/aeacus/audit/Syscall" "CREAT" "Lcom/example/aeacus/aeacus/audit/Syscall;" (.ref w_CREAT)) (P4 : Exa Z Z.heap w_CREAT "com/example/aeacus/aeacus/audit/Syscall") (P5 : Fld Z Z.heap w_CREAT "com/example/aeacus/aeacus/audit/Syscall" "number" "I" (.int (85 : Int32))) (P6 : Sta Z Z.heap "com/example/aeacus/aeacus/audit/Syscall" "OPENAT" "Lcom/example/aeacus/aeacus/audit/Syscall;" (.ref w_OPENAT)) (P7 : Exa Z Z.heap w_OPENAT "com/example/aeacus/aeacus/audit/Syscall") (P8 : Fld Z Z.heap w_OPENAT "com/example/aeacus/aeacus/audit/Syscall" "number" "I" (.int (257 : Int32))) (P9 : Sta Z Z.heap "com/example/aeacus/aeacus/audit/Syscall" "RENAME" "Lcom/example/aeacus/aeacus/audit/Syscall;" (.ref w_RENAME)) (P10 : Exa Z Z.heap w_RENAME "com/example/aeacus/aeacus/audit/Syscall") (P11 : Fld Z Z.heap w_RENAME "com/example/aeacus/aeacus/audit/Syscall" "number" "I" (.int (82 : Int32))) (P12 : Sta Z Z.heap "com/example/aeacus/aeacus/audit/Syscall" "RENAMEAT" "Lcom/example/aeacus/aeacus/audit/Syscall;" (.ref w_RENAMEAT)) (P13 : Exa Z Z.heap w_RENAMEAT "com/example/aeacus/aeacus/audit/Syscall") (P14 : Fld Z Z.heap w_RENAMEAT "com/example/aeacus/aeacus/audit/Syscall" "number" "I" (.int (264 : Int32))) (P15 : Sta Z Z.heap "com/example/aeacus/aeacus/audit/Syscall" "RENAMEAT2" "Lcom/example/aeacus/aeacus/audit/Syscall;" (.ref w_RENAMEAT2)) (P16 : Exa Z Z.heap w_RENAMEAT2 "com/example/aeacus/aeacus/audit/Syscall") (P17 : Fld Z Z.heap w_RENAMEAT2 "com/example/aeacus/aeacus/audit/Syscall" "number" "I" (.int (316 : Int32))) (P18 : Sta Z Z.heap "com/example/aeacus/aeacus/audit/Syscall" "UNLINK" "Lcom/example/aeacus/aeacus/audit/Syscall;" (.ref w_UNLINK)) (P19 : Exa Z Z.heap w_UNLINK "com/example/aeacus/aeacus/audit/Syscall") (P20 : Fld Z Z.heap w_UNLINK "com/example/aeacus/aeacus/audit/Syscall" "number" "I" (.int (87 : Int32))) (P21 : Sta Z Z.heap "com/example/aeacus/aeacus/audit/Syscall" "UNLINKAT" "Lcom/example/aeacus/aeacus/audit/Syscall;" (.ref w_UNLINKAT)) (P22 : Exa Z Z.heap w_UNLINKAT "com/example/aeacus/aeacus/audit/Syscall") (P23 : Fld Z Z.heap w_UNLINKAT "com/example/aeacus/aeacus/audit/Syscall" "number" "I" (.int (263 : Int32))) (P24 : Sta Z Z.heap "com/example/aeacus/aeacus/audit/Syscall" "RMDIR" "Lcom/example/aeacus/aeacus/audit/Syscall;" (.ref w_RMDIR)) (P25 : Exa Z Z.heap w_RMDIR "com/example/aeacus/aeacus/audit/Syscall") (P26 : Fld Z Z.heap w_RMDIR "com/example/aeacus/aeacus/audit/Syscall" "number" "I" (.int (84 : Int32))) (P27 : Sta Z Z.heap "com/example/aeacus/aeacus/audit/Syscall" "CHMOD" "Lcom/example/aeacus/aeacus/audit/Syscall;" (.ref w_CHMOD)) (P28 : Exa Z Z.heap w_CHMOD "com/example/aeacus/aeacus/audit/Syscall") (P29 : Fld Z Z.heap w_CHMOD "com/example/aeacus/aeacus/audit/Syscall" "number" "I" (.int (90 : Int32))) (P30 : Sta Z Z.heap "com/example/aeacus/aeacus/audit/Syscall" "FCHMOD" "Lcom/example/aeacus/aeacus/audit/Syscall;" (.ref w_FCHMOD)) (P31 : Exa Z Z.heap w_FCHMOD "com/example/aeacus/aeacus/audit/Syscall") (P32 : Fld Z Z.heap w_FCHMOD "com/example/aeacus/aeacus/audit/Syscall" "number" "I" (.int (91 : Int32))) (P33 : Sta Z Z.heap "com/example/aeacus/aeacus/audit/Syscall" "FCHMODAT" "Lcom/example/aeacus/aeacus/audit/Syscall;" (.ref w_FCHMODAT)) (P34 : Exa Z Z.heap w_FCHMODAT "com/example/aeacus/aeacus/audit/Syscall") (P35 : Fld Z Z.heap w_FCHMODAT "com/example/aeacus/aeacus/audit/Syscall" "number" "I" (.int (268 : Int32))) (P36 : Sta Z Z.heap "com/example/aeacus/aeacus/audit/Syscall" "CHOWN" "Lcom/example/aeacus/aeacus/audit/Syscall;" (.ref w_CHOWN)) (P37 : Exa Z Z.heap w_CHOWN "com/example/aeacus/aeacus/audit/Syscall") (P38 : Fld Z Z.heap w_CHOWN "com/example/aeacus/aeacus/audit/Syscall" "number" "I" (.int (92 : Int32))) (P39 : Sta Z Z.heap "com/example/aeacus/aeacus/audit/Syscall" "FCHOWNAT" "Lcom/example/aeacus/aeacus/audit/Syscall;" (.ref w_FCHOWNAT)) (P40 : Exa Z Z.heap w_FCHOWNAT "com/example/aeacus/aeacus/audit/Syscall") (P41 : Fld Z Z.heap w_FCHOWNAT "com/example/aeacus/aeacus/audit/Syscall" "number" "I" (.int (260 : Int32))) (P42 : Sta Z Z.heap "com/example/aeacus/aeacus/audit/Syscall" "$VALUES" "[Lcom/example/aeacus/aeacus/audit/Syscall;" (.ref w__VALUES)) (P43 : Exa Z Z.heap w__VALUES "[Lcom/example/aeacus/aeacus/audit/Syscall;") (P44 : Arv Z Z.heap w__VALUES k_ (.object "com/example/aeacus/aeacus/audit/Syscall") (14 : Int32) [(.ref w_OPEN), (.ref w_CREAT), (.ref w_OPENAT), (.ref w_RENAME), (.ref w_RENAMEAT), (.ref w_RENAMEAT2), (.ref w_UNLINK), (.ref w_UNLINKAT), (.ref w_RMDIR), (.ref w_CHMOD), (.ref w_FCHMOD), (.ref w_FCHMODAT), (.ref w_CHOWN), (.ref w_FCHOWNAT)] .null) :
    MetFree l (⟨"com/example/aeacus/aeacus/audit/Syscall", "of", "(J)Lcom/example/aeacus/aeacus/audit/Syscall;"⟩ : MethodName) (head1 (Jvm.Cond.code (⟨"com/example/aeacus/aeacus/audit/Syscall", "of", "(J)Lcom/example/aeacus/aeacus/audit/Syscall;"⟩ : MethodName) prog_7_method_4_code 6 (some (.object "com/example/aeacus/aeacus/audit/Syscall")) :: ws) ({ frames := 2, cells := 1, slots := 14, locals := 25 } : Room)) (fun a U => a = #[(.long q0_)] ∧ Z.Warmed39 U.vm ∧ U.heap = h0) (fun _ _ _ _ _ => True) (fun _ U o U' => ∃ v L, o = .returned v ∧ QOf Z q0_ w_OPEN w_CREAT w_OPENAT w_RENAME w_RENAMEAT w_RENAMEAT2 w_UNLINK w_UNLINKAT w_RMDIR w_CHMOD w_FCHMOD w_FCHMODAT w_CHOWN w_FCHOWNAT w__VALUES k_ h0 n0 v U'.heap L ∧ FrameEnd U o U' L ({ frames := 2, cells := 1, slots := 14, locals := 25 } : Room).cells ({ frames := 2, cells := 1, slots := 14, locals := 25 } : Room).slots) := by
  refine MetFree.of_bodySF (plainFor_of_name pn_0) hisR ?_
  intro p e s m args below meth c s₁ Bd hml0 hP hK
  obtain ⟨rfl, hZ, hh⟩ := hP
  have hx := Bd.exec
  have hby := Bd.bytes
  have hml : c.maxLocals = 6 := hml0
  have hown : s.vm.findClass "com/example/aeacus/aeacus/audit/Syscall" = some m.cls := findClass_of_methodNamed Bd.named
  have hnm := (name_of_methodNamed Bd.named Bd.method).1
  have X0 : Stand p l e ({ frames := 2, cells := 1, slots := 14, locals := 25 } : Room) s m #[(.long q0_)] below meth c s₁ [] 0 0 := Stand.of_body Bd
  have e0 : s₁.heap = h0 := by rw [← hh, Bd.state]; rfl
  have N0 := Fr.nil n0
  have pre0 : ∀ t, Steps p.tables e below (s₁.setTop (mkF m 0 #[.val (.long q0_), .second, .unset, .unset, .unset, .unset] [])) t → Steps p.tables e below (s₁.setTop (entryFrame m #[(.long q0_)] 6)) t := fun t k => castTop (efOf m q0_) k
  have K0 : Keep h0 h0 [] := Keep.refl _ _
  obtain ⟨_, _, ⟨T1, L1, k1, n1⟩, -, X1, ⟨Lc1, hQ1, l1, y1, z1⟩, st1⟩ := Jvm.LawKit.callS X0 hx (y := (⟨"com/example/aeacus/aeacus/audit/Syscall", "values", "()[Lcom/example/aeacus/aeacus/audit/Syscall;"⟩ : MethodName)) hown (mvT hZ (hw _ (List.mem_of_getElem? (i := 9) rfl))) (mvT hZ (hw _ (List.mem_of_getElem? (i := 10) rfl))) (mvT hZ (hw _ (List.mem_of_getElem? (i := 7) rfl))) (mvT hZ (hw _ (List.mem_of_getElem? (i := 11) rfl))) (by decide) (backOf (W := 0) (rmVal l Z a0 hw [] w_OPEN w_CREAT w_OPENAT w_RENAME w_RENAMEAT w_RENAMEAT2 w_UNLINK w_UNLINKAT w_RMDIR w_CHMOD w_FCHMOD w_FCHMODAT w_CHOWN w_FCHOWNAT w__VALUES k_ h0 n0 O0 P0 P1 P2 P3 P4 P5 P6 P7 P8 P9 P10 P11 P12 P13 P14 P15 P16 P17 P18 P19 P20 P21 P22 P23 P24 P25 P26 P27 P28 P29 P30 P31 P32 P33 P34 P35 P36 P37 P38 P39 P40 P41 P42 P43 P44) hZ (hw _ (List.mem_of_getElem? (i := 11) rfl)) (hw _ (List.mem_of_getElem? (i := 7) rfl)) (by decide) (by decide)) (g := (mkF m 0 #[.val (.long q0_), .second, .unset, .unset, .unset, .unset] [])) rfl (by rw [hml]; rfl) (argsL := []) (rest := []) (lenOf pd_0 rfl) rfl (by show 2 * 0 + _ ≤ _; exact Nat.le_of_eq rfl) (hb hby d4_0) (fun _ _ => ⟨rfl, e0, (by decide : 0 + 1 ≤ _), (by decide : 0 + 14 ≤ _)⟩)
  dsimp only [Pt.U, Pt.locs, Pt.cells, Pt.slots] at X1 l1 y1 z1 st1 hQ1
  subst l1 y1 z1
  obtain ⟨h1, e1⟩ : ∃ z, T1.heap = z := ⟨_, rfl⟩
  rw [e1] at hQ1
  obtain ⟨nb2_1, rfl, N1q, K1, sznb2_1, g1_0, g1_1⟩ := hQ1
  have N2 := Fr.app N0 N1q
  have ge3 : n0 ≤ nb2_1 := Nat.le_trans (Nat.le_trans (Nat.le_of_eq O0.1.symm) O0.2.1) sznb2_1
  have sz4 : h0.size ≤ nb2_1 := Nat.le_trans K0.1 sznb2_1
  obtain ⟨c5, r5, q5, s5, z5, y5, G5⟩ := id g1_0
  obtain ⟨c6, r6, q6, s6, z6, y6, G6⟩ := id g1_0
  have hin6 : ¬ ((0 : Int32) < 0 ∨ c6.slots.size ≤ ((0 : Int32)).toNatClampNeg) := inb_of s6 ⟨by decide, by decide⟩
  have hat6 : c6.slots[((0 : Int32)).toNatClampNeg]? = some (.ref w_OPEN) := Has.at y6 hin6 rfl
  have f7 : Old Z n0 h1 := O0.keep K1 all0
  have f8 : Fld Z h1 w_OPEN "com/example/aeacus/aeacus/audit/Syscall" "number" "I" (.int (2 : Int32)) := P2.ext f7.2
  obtain ⟨T9, X9, e9, st9⟩ := getF X1 hx hZ hown (host := "") (Or.inl (hw _ (List.mem_of_getElem? (i := 38) rfl))) Via.refl e1 f8 (g := (mkF m 24 #[.val (.long q0_), .second, .val (.ref nb2_1), .val (.int (14 : Int32)), .val (.int (0 : Int32)), .val (.ref w_OPEN)] [(.ref w_OPEN)])) rfl rfl (hb hby d4_24)
  have pre10 : ∀ t, Steps p.tables e below (T9.setTop (mkF m 30 #[.val (.long q0_), .second, .val (.ref nb2_1), .val (.int (14 : Int32)), .val (.int (0 : Int32)), .val (.ref w_OPEN)] [(.int (lcmpW (2 : Int64) q0_))])) t → Steps p.tables e below (s₁.setTop (entryFrame m #[(.long q0_)] 6)) t := by
    intro t kt
    refine pre0 t ?_
    show Steps p.tables e below (s₁.setTop (mkF m 0 #[.val (.long q0_), .second, .unset, .unset, .unset, .unset] [])) _
    refine st1 _ ?_
    show Steps p.tables e below (T1.setTop (mkF m 3 #[.val (.long q0_), .second, .unset, .unset, .unset, .unset] [(.ref nb2_1)])) _
    refine XS.astoreN X1.here hx rfl (hb hby d4_3) rfl rfl (l' := #[.val (.long q0_), .second, .val (.ref nb2_1), .unset, .unset, .unset]) rfl ?_
    show Steps p.tables e below (T1.setTop (mkF m 4 #[.val (.long q0_), .second, .val (.ref nb2_1), .unset, .unset, .unset] [])) _
    refine XS.aloadN X1.here hx rfl (hb hby d4_4) rfl rfl ?_
    show Steps p.tables e below (T1.setTop (mkF m 5 #[.val (.long q0_), .second, .val (.ref nb2_1), .unset, .unset, .unset] [(.ref nb2_1)])) _
    refine X1.arraylength hx (by rw [e1]; exact r5.1) (State.isArrayOf_alike hZ.alike r5.2.1) (g := (mkF m 5 #[.val (.long q0_), .second, .val (.ref nb2_1), .unset, .unset, .unset] [(.ref nb2_1)])) rfl rfl (hb hby d4_5) _ ?_
    rw [len_of s5 z5]
    show Steps p.tables e below (T1.setTop (mkF m 6 #[.val (.long q0_), .second, .val (.ref nb2_1), .unset, .unset, .unset] [(.int (14 : Int32))])) _
    refine XS.istoreN X1.here hx rfl (hb hby d4_6) rfl (l' := #[.val (.long q0_), .second, .val (.ref nb2_1), .val (.int (14 : Int32)), .unset, .unset]) rfl ?_
    show Steps p.tables e below (T1.setTop (mkF m 7 #[.val (.long q0_), .second, .val (.ref nb2_1), .val (.int (14 : Int32)), .unset, .unset] [])) _
    refine XS.iconst X1.here hx rfl (hb hby d4_7) ?_
    show Steps p.tables e below (T1.setTop (mkF m 8 #[.val (.long q0_), .second, .val (.ref nb2_1), .val (.int (14 : Int32)), .unset, .unset] [(.int (0 : Int32))])) _
    refine XS.istore X1.here hx rfl (hb hby d4_8) rfl (l' := #[.val (.long q0_), .second, .val (.ref nb2_1), .val (.int (14 : Int32)), .val (.int (0 : Int32)), .unset]) rfl ?_
    show Steps p.tables e below (T1.setTop (mkF m 10 #[.val (.long q0_), .second, .val (.ref nb2_1), .val (.int (14 : Int32)), .val (.int (0 : Int32)), .unset] [])) _
    refine XS.iload X1.here hx rfl (hb hby d4_10) rfl ?_
    show Steps p.tables e below (T1.setTop (mkF m 12 #[.val (.long q0_), .second, .val (.ref nb2_1), .val (.int (14 : Int32)), .val (.int (0 : Int32)), .unset] [(.int (0 : Int32))])) _
    refine XS.iloadN X1.here hx rfl (hb hby d4_12) rfl ?_
    show Steps p.tables e below (T1.setTop (mkF m 13 #[.val (.long q0_), .second, .val (.ref nb2_1), .val (.int (14 : Int32)), .val (.int (0 : Int32)), .unset] [(.int (14 : Int32)), (.int (0 : Int32))])) _
    refine XS.icmpNo X1.here hx rfl (hb hby d4_13) rfl (tlt (by decide : (0 : Int32) < (14 : Int32))).2.1 ?_
    show Steps p.tables e below (T1.setTop (mkF m 16 #[.val (.long q0_), .second, .val (.ref nb2_1), .val (.int (14 : Int32)), .val (.int (0 : Int32)), .unset] [])) _
    refine XS.aloadN X1.here hx rfl (hb hby d4_16) rfl rfl ?_
    show Steps p.tables e below (T1.setTop (mkF m 17 #[.val (.long q0_), .second, .val (.ref nb2_1), .val (.int (14 : Int32)), .val (.int (0 : Int32)), .unset] [(.ref nb2_1)])) _
    refine XS.iload X1.here hx rfl (hb hby d4_17) rfl ?_
    show Steps p.tables e below (T1.setTop (mkF m 19 #[.val (.long q0_), .second, .val (.ref nb2_1), .val (.int (14 : Int32)), .val (.int (0 : Int32)), .unset] [(.int (0 : Int32)), (.ref nb2_1)])) _
    refine X1.aaload hx (j := (0 : Int32)) (v := (.ref w_OPEN)) (by rw [e1]; exact r6.1) (State.isArrayOf_alike hZ.alike r6.2.1) rfl r6.2.2 hin6 hat6 (g := (mkF m 19 #[.val (.long q0_), .second, .val (.ref nb2_1), .val (.int (14 : Int32)), .val (.int (0 : Int32)), .unset] [(.int (0 : Int32)), (.ref nb2_1)])) rfl rfl (hb hby d4_19) _ ?_
    show Steps p.tables e below (T1.setTop (mkF m 20 #[.val (.long q0_), .second, .val (.ref nb2_1), .val (.int (14 : Int32)), .val (.int (0 : Int32)), .unset] [(.ref w_OPEN)])) _
    refine XS.astore X1.here hx rfl (hb hby d4_20) rfl rfl (l' := #[.val (.long q0_), .second, .val (.ref nb2_1), .val (.int (14 : Int32)), .val (.int (0 : Int32)), .val (.ref w_OPEN)]) rfl ?_
    show Steps p.tables e below (T1.setTop (mkF m 22 #[.val (.long q0_), .second, .val (.ref nb2_1), .val (.int (14 : Int32)), .val (.int (0 : Int32)), .val (.ref w_OPEN)] [])) _
    refine XS.aload X1.here hx rfl (hb hby d4_22) rfl rfl ?_
    show Steps p.tables e below (T1.setTop (mkF m 24 #[.val (.long q0_), .second, .val (.ref nb2_1), .val (.int (14 : Int32)), .val (.int (0 : Int32)), .val (.ref w_OPEN)] [(.ref w_OPEN)])) _
    refine st9 _ ?_
    show Steps p.tables e below (T9.setTop (mkF m 27 #[.val (.long q0_), .second, .val (.ref nb2_1), .val (.int (14 : Int32)), .val (.int (0 : Int32)), .val (.ref w_OPEN)] [(.int (2 : Int32))])) _
    refine XS.i2l X9.here hx rfl (hb hby d4_27) rfl ?_
    show Steps p.tables e below (T9.setTop (mkF m 28 #[.val (.long q0_), .second, .val (.ref nb2_1), .val (.int (14 : Int32)), .val (.int (0 : Int32)), .val (.ref w_OPEN)] [(.long (2 : Int64))])) _
    refine XS.lloadN X9.here hx rfl (hb hby d4_28) rfl ?_
    show Steps p.tables e below (T9.setTop (mkF m 29 #[.val (.long q0_), .second, .val (.ref nb2_1), .val (.int (14 : Int32)), .val (.int (0 : Int32)), .val (.ref w_OPEN)] [(.long q0_), (.long (2 : Int64))])) _
    refine XS.lcmp X9.here hx rfl (hb hby d4_29) rfl ?_
    exact kt
  by_cases hc11 : (2 : Int64) = q0_
  · have pre12 : ∀ t, Steps p.tables e below (T9.setTop (mkF m 35 #[.val (.long q0_), .second, .val (.ref nb2_1), .val (.int (14 : Int32)), .val (.int (0 : Int32)), .val (.ref w_OPEN)] [(.ref w_OPEN)])) t → Steps p.tables e below (s₁.setTop (entryFrame m #[(.long q0_)] 6)) t := by
      intro t kt
      refine pre10 t ?_
      show Steps p.tables e below (T9.setTop (mkF m 30 #[.val (.long q0_), .second, .val (.ref nb2_1), .val (.int (14 : Int32)), .val (.int (0 : Int32)), .val (.ref w_OPEN)] [(.int (lcmpW (2 : Int64) q0_))])) _
      refine XS.ifNo X9.here hx rfl (hb hby d4_30) rfl ((if0 _ _).trans (teq ((lw_eq _ _).mpr hc11)).2) ?_
      show Steps p.tables e below (T9.setTop (mkF m 33 #[.val (.long q0_), .second, .val (.ref nb2_1), .val (.int (14 : Int32)), .val (.int (0 : Int32)), .val (.ref w_OPEN)] [])) _
      refine XS.aload X9.here hx rfl (hb hby d4_33) rfl rfl ?_
      exact kt
    have f14 : Keep h0 h1 [] := K0.trans K1 all0
    obtain ⟨fs, hr, hrun, hended, hW, hsame⟩ := X9.leave (v := some (.ref w_OPEN)) (fun h => by rw [Bd.returns] at h; cases h)
    refine ⟨_, _, pre12 _ (retOut X9 hx Bd.returns rfl (Or.inr (Or.inr (Or.inr (Or.inr ⟨rfl, rfl, rfl⟩)))) (hb hby d4_35) hr), hrun, hended, _, _, rfl, ?_, ⟨_, rfl⟩, hW, hsame.mono (by decide) (by decide)⟩
    show QOf Z q0_ w_OPEN w_CREAT w_OPENAT w_RENAME w_RENAMEAT w_RENAMEAT2 w_UNLINK w_UNLINKAT w_RMDIR w_CHMOD w_FCHMOD w_FCHMODAT w_CHOWN w_FCHOWNAT w__VALUES k_ h0 n0 _ T9.heap _
    rw [e9]
    exact ⟨(.ref w_OPEN), rfl, (Or.inl ⟨rfl, hc11⟩), N2, f14⟩
  · obtain ⟨c15, r15, q15, s15, z15, y15, G15⟩ := id g1_0
    have hin15 : ¬ ((1 : Int32) < 0 ∨ c15.slots.size ≤ ((1 : Int32)).toNatClampNeg) := inb_of s15 ⟨by decide, by decide⟩
    have hat15 : c15.slots[((1 : Int32)).toNatClampNeg]? = some (.ref w_CREAT) := Has.at y15 hin15 rfl
    have f16 : Fld Z h1 w_CREAT "com/example/aeacus/aeacus/audit/Syscall" "number" "I" (.int (85 : Int32)) := P5.ext f7.2
    obtain ⟨T17, X17, e17, st17⟩ := getF X9 hx hZ hown (host := "") (Or.inl (hw _ (List.mem_of_getElem? (i := 38) rfl))) Via.refl e9 f16 (g := (mkF m 24 #[.val (.long q0_), .second, .val (.ref nb2_1), .val (.int (14 : Int32)), .val (.int (1 : Int32)), .val (.ref w_CREAT)] [(.ref w_CREAT)])) rfl rfl (hb hby d4_24)
    have pre18 : ∀ t, Steps p.tables e below (T17.setTop (mkF m 30 #[.val (.long q0_), .second, .val (.ref nb2_1), .val (.int (14 : Int32)), .val (.int (1 : Int32)), .val (.ref w_CREAT)] [(.int (lcmpW (85 : Int64) q0_))])) t → Steps p.tables e below (s₁.setTop (entryFrame m #[(.long q0_)] 6)) t := by
      intro t kt
      refine pre10 t ?_
      show Steps p.tables e below (T9.setTop (mkF m 30 #[.val (.long q0_), .second, .val (.ref nb2_1), .val (.int (14 : Int32)), .val (.int (0 : Int32)), .val (.ref w_OPEN)] [(.int (lcmpW (2 : Int64) q0_))])) _
      refine XS.ifYes X9.here hx rfl (pc0 := 30) (pc' := 36) rfl (hb hby d4_30) rfl ((if0 _ _).trans (feq (fun z => hc11 ((lw_eq _ _).mp z))).2) (by decide) (by decide) ?_
      show Steps p.tables e below (T9.setTop (mkF m 36 #[.val (.long q0_), .second, .val (.ref nb2_1), .val (.int (14 : Int32)), .val (.int (0 : Int32)), .val (.ref w_OPEN)] [])) _
      refine XS.iinc X9.here hx rfl (hb hby d4_36) rfl (l' := #[.val (.long q0_), .second, .val (.ref nb2_1), .val (.int (14 : Int32)), .val (.int (1 : Int32)), .val (.ref w_OPEN)]) rfl ?_
      show Steps p.tables e below (T9.setTop (mkF m 39 #[.val (.long q0_), .second, .val (.ref nb2_1), .val (.int (14 : Int32)), .val (.int (1 : Int32)), .val (.ref w_OPEN)] [])) _
      refine XS.goto X9.here hx rfl (pc0 := 39) (pc' := 10) rfl (hb hby d4_39) (by decide) (by decide) ?_
      show Steps p.tables e below (T9.setTop (mkF m 10 #[.val (.long q0_), .second, .val (.ref nb2_1), .val (.int (14 : Int32)), .val (.int (1 : Int32)), .val (.ref w_OPEN)] [])) _
      refine XS.iload X9.here hx rfl (hb hby d4_10) rfl ?_
      show Steps p.tables e below (T9.setTop (mkF m 12 #[.val (.long q0_), .second, .val (.ref nb2_1), .val (.int (14 : Int32)), .val (.int (1 : Int32)), .val (.ref w_OPEN)] [(.int (1 : Int32))])) _
      refine XS.iloadN X9.here hx rfl (hb hby d4_12) rfl ?_
      show Steps p.tables e below (T9.setTop (mkF m 13 #[.val (.long q0_), .second, .val (.ref nb2_1), .val (.int (14 : Int32)), .val (.int (1 : Int32)), .val (.ref w_OPEN)] [(.int (14 : Int32)), (.int (1 : Int32))])) _
      refine XS.icmpNo X9.here hx rfl (hb hby d4_13) rfl (tlt (by decide : (1 : Int32) < (14 : Int32))).2.1 ?_
      show Steps p.tables e below (T9.setTop (mkF m 16 #[.val (.long q0_), .second, .val (.ref nb2_1), .val (.int (14 : Int32)), .val (.int (1 : Int32)), .val (.ref w_OPEN)] [])) _
      refine XS.aloadN X9.here hx rfl (hb hby d4_16) rfl rfl ?_
      show Steps p.tables e below (T9.setTop (mkF m 17 #[.val (.long q0_), .second, .val (.ref nb2_1), .val (.int (14 : Int32)), .val (.int (1 : Int32)), .val (.ref w_OPEN)] [(.ref nb2_1)])) _
      refine XS.iload X9.here hx rfl (hb hby d4_17) rfl ?_
      show Steps p.tables e below (T9.setTop (mkF m 19 #[.val (.long q0_), .second, .val (.ref nb2_1), .val (.int (14 : Int32)), .val (.int (1 : Int32)), .val (.ref w_OPEN)] [(.int (1 : Int32)), (.ref nb2_1)])) _
      refine X9.aaload hx (j := (1 : Int32)) (v := (.ref w_CREAT)) (by rw [e9]; exact r15.1) (State.isArrayOf_alike hZ.alike r15.2.1) rfl r15.2.2 hin15 hat15 (g := (mkF m 19 #[.val (.long q0_), .second, .val (.ref nb2_1), .val (.int (14 : Int32)), .val (.int (1 : Int32)), .val (.ref w_OPEN)] [(.int (1 : Int32)), (.ref nb2_1)])) rfl rfl (hb hby d4_19) _ ?_
      show Steps p.tables e below (T9.setTop (mkF m 20 #[.val (.long q0_), .second, .val (.ref nb2_1), .val (.int (14 : Int32)), .val (.int (1 : Int32)), .val (.ref w_OPEN)] [(.ref w_CREAT)])) _
      refine XS.astore X9.here hx rfl (hb hby d4_20) rfl rfl (l' := #[.val (.long q0_), .second, .val (.ref nb2_1), .val (.int (14 : Int32)), .val (.int (1 : Int32)), .val (.ref w_CREAT)]) rfl ?_
      show Steps p.tables e below (T9.setTop (mkF m 22 #[.val (.long q0_), .second, .val (.ref nb2_1), .val (.int (14 : Int32)), .val (.int (1 : Int32)), .val (.ref w_CREAT)] [])) _
      refine XS.aload X9.here hx rfl (hb hby d4_22) rfl rfl ?_
      show Steps p.tables e below (T9.setTop (mkF m 24 #[.val (.long q0_), .second, .val (.ref nb2_1), .val (.int (14 : Int32)), .val (.int (1 : Int32)), .val (.ref w_CREAT)] [(.ref w_CREAT)])) _
      refine st17 _ ?_
      show Steps p.tables e below (T17.setTop (mkF m 27 #[.val (.long q0_), .second, .val (.ref nb2_1), .val (.int (14 : Int32)), .val (.int (1 : Int32)), .val (.ref w_CREAT)] [(.int (85 : Int32))])) _
      refine XS.i2l X17.here hx rfl (hb hby d4_27) rfl ?_
      show Steps p.tables e below (T17.setTop (mkF m 28 #[.val (.long q0_), .second, .val (.ref nb2_1), .val (.int (14 : Int32)), .val (.int (1 : Int32)), .val (.ref w_CREAT)] [(.long (85 : Int64))])) _
      refine XS.lloadN X17.here hx rfl (hb hby d4_28) rfl ?_
      show Steps p.tables e below (T17.setTop (mkF m 29 #[.val (.long q0_), .second, .val (.ref nb2_1), .val (.int (14 : Int32)), .val (.int (1 : Int32)), .val (.ref w_CREAT)] [(.long q0_), (.long (85 : Int64))])) _
      refine XS.lcmp X17.here hx rfl (hb hby d4_29) rfl ?_
      exact kt
    by_cases hc19 : (85 : Int64) = q0_
    · have pre20 : ∀ t, Steps p.tables e below (T17.setTop (mkF m 35 #[.val (.long q0_), .second, .val (.ref nb2_1), .val (.int (14 : Int32)), .val (.int (1 : Int32)), .val (.ref w_CREAT)] [(.ref w_CREAT)])) t → Steps p.tables e below (s₁.setTop (entryFrame m #[(.long q0_)] 6)) t := by
        intro t kt
        refine pre18 t ?_
        show Steps p.tables e below (T17.setTop (mkF m 30 #[.val (.long q0_), .second, .val (.ref nb2_1), .val (.int (14 : Int32)), .val (.int (1 : Int32)), .val (.ref w_CREAT)] [(.int (lcmpW (85 : Int64) q0_))])) _
        refine XS.ifNo X17.here hx rfl (hb hby d4_30) rfl ((if0 _ _).trans (teq ((lw_eq _ _).mpr hc19)).2) ?_
        show Steps p.tables e below (T17.setTop (mkF m 33 #[.val (.long q0_), .second, .val (.ref nb2_1), .val (.int (14 : Int32)), .val (.int (1 : Int32)), .val (.ref w_CREAT)] [])) _
        refine XS.aload X17.here hx rfl (hb hby d4_33) rfl rfl ?_
        exact kt
      have f22 : Keep h0 h1 [] := K0.trans K1 all0
      obtain ⟨fs, hr, hrun, hended, hW, hsame⟩ := X17.leave (v := some (.ref w_CREAT)) (fun h => by rw [Bd.returns] at h; cases h)
      refine ⟨_, _, pre20 _ (retOut X17 hx Bd.returns rfl (Or.inr (Or.inr (Or.inr (Or.inr ⟨rfl, rfl, rfl⟩)))) (hb hby d4_35) hr), hrun, hended, _, _, rfl, ?_, ⟨_, rfl⟩, hW, hsame.mono (by decide) (by decide)⟩
      show QOf Z q0_ w_OPEN w_CREAT w_OPENAT w_RENAME w_RENAMEAT w_RENAMEAT2 w_UNLINK w_UNLINKAT w_RMDIR w_CHMOD w_FCHMOD w_FCHMODAT w_CHOWN w_FCHOWNAT w__VALUES k_ h0 n0 _ T17.heap _
      rw [e17]
      exact ⟨(.ref w_CREAT), rfl, (Or.inr (Or.inl ⟨rfl, hc11, hc19⟩)), N2, f22⟩
    · obtain ⟨c23, r23, q23, s23, z23, y23, G23⟩ := id g1_0
      have hin23 : ¬ ((2 : Int32) < 0 ∨ c23.slots.size ≤ ((2 : Int32)).toNatClampNeg) := inb_of s23 ⟨by decide, by decide⟩
      have hat23 : c23.slots[((2 : Int32)).toNatClampNeg]? = some (.ref w_OPENAT) := Has.at y23 hin23 rfl
      have f24 : Fld Z h1 w_OPENAT "com/example/aeacus/aeacus/audit/Syscall" "number" "I" (.int (257 : Int32)) := P8.ext f7.2
      obtain ⟨T25, X25, e25, st25⟩ := getF X17 hx hZ hown (host := "") (Or.inl (hw _ (List.mem_of_getElem? (i := 38) rfl))) Via.refl e17 f24 (g := (mkF m 24 #[.val (.long q0_), .second, .val (.ref nb2_1), .val (.int (14 : Int32)), .val (.int (2 : Int32)), .val (.ref w_OPENAT)] [(.ref w_OPENAT)])) rfl rfl (hb hby d4_24)
      have pre26 : ∀ t, Steps p.tables e below (T25.setTop (mkF m 30 #[.val (.long q0_), .second, .val (.ref nb2_1), .val (.int (14 : Int32)), .val (.int (2 : Int32)), .val (.ref w_OPENAT)] [(.int (lcmpW (257 : Int64) q0_))])) t → Steps p.tables e below (s₁.setTop (entryFrame m #[(.long q0_)] 6)) t := by
        intro t kt
        refine pre18 t ?_
        show Steps p.tables e below (T17.setTop (mkF m 30 #[.val (.long q0_), .second, .val (.ref nb2_1), .val (.int (14 : Int32)), .val (.int (1 : Int32)), .val (.ref w_CREAT)] [(.int (lcmpW (85 : Int64) q0_))])) _
        refine XS.ifYes X17.here hx rfl (pc0 := 30) (pc' := 36) rfl (hb hby d4_30) rfl ((if0 _ _).trans (feq (fun z => hc19 ((lw_eq _ _).mp z))).2) (by decide) (by decide) ?_
        show Steps p.tables e below (T17.setTop (mkF m 36 #[.val (.long q0_), .second, .val (.ref nb2_1), .val (.int (14 : Int32)), .val (.int (1 : Int32)), .val (.ref w_CREAT)] [])) _
        refine XS.iinc X17.here hx rfl (hb hby d4_36) rfl (l' := #[.val (.long q0_), .second, .val (.ref nb2_1), .val (.int (14 : Int32)), .val (.int (2 : Int32)), .val (.ref w_CREAT)]) rfl ?_
        show Steps p.tables e below (T17.setTop (mkF m 39 #[.val (.long q0_), .second, .val (.ref nb2_1), .val (.int (14 : Int32)), .val (.int (2 : Int32)), .val (.ref w_CREAT)] [])) _
        refine XS.goto X17.here hx rfl (pc0 := 39) (pc' := 10) rfl (hb hby d4_39) (by decide) (by decide) ?_
        show Steps p.tables e below (T17.setTop (mkF m 10 #[.val (.long q0_), .second, .val (.ref nb2_1), .val (.int (14 : Int32)), .val (.int (2 : Int32)), .val (.ref w_CREAT)] [])) _
        refine XS.iload X17.here hx rfl (hb hby d4_10) rfl ?_
        show Steps p.tables e below (T17.setTop (mkF m 12 #[.val (.long q0_), .second, .val (.ref nb2_1), .val (.int (14 : Int32)), .val (.int (2 : Int32)), .val (.ref w_CREAT)] [(.int (2 : Int32))])) _
        refine XS.iloadN X17.here hx rfl (hb hby d4_12) rfl ?_
        show Steps p.tables e below (T17.setTop (mkF m 13 #[.val (.long q0_), .second, .val (.ref nb2_1), .val (.int (14 : Int32)), .val (.int (2 : Int32)), .val (.ref w_CREAT)] [(.int (14 : Int32)), (.int (2 : Int32))])) _
        refine XS.icmpNo X17.here hx rfl (hb hby d4_13) rfl (tlt (by decide : (2 : Int32) < (14 : Int32))).2.1 ?_
        show Steps p.tables e below (T17.setTop (mkF m 16 #[.val (.long q0_), .second, .val (.ref nb2_1), .val (.int (14 : Int32)), .val (.int (2 : Int32)), .val (.ref w_CREAT)] [])) _
        refine XS.aloadN X17.here hx rfl (hb hby d4_16) rfl rfl ?_
        show Steps p.tables e below (T17.setTop (mkF m 17 #[.val (.long q0_), .second, .val (.ref nb2_1), .val (.int (14 : Int32)), .val (.int (2 : Int32)), .val (.ref w_CREAT)] [(.ref nb2_1)])) _
        refine XS.iload X17.here hx rfl (hb hby d4_17) rfl ?_
        show Steps p.tables e below (T17.setTop (mkF m 19 #[.val (.long q0_), .second, .val (.ref nb2_1), .val (.int (14 : Int32)), .val (.int (2 : Int32)), .val (.ref w_CREAT)] [(.int (2 : Int32)), (.ref nb2_1)])) _
        refine X17.aaload hx (j := (2 : Int32)) (v := (.ref w_OPENAT)) (by rw [e17]; exact r23.1) (State.isArrayOf_alike hZ.alike r23.2.1) rfl r23.2.2 hin23 hat23 (g := (mkF m 19 #[.val (.long q0_), .second, .val (.ref nb2_1), .val (.int (14 : Int32)), .val (.int (2 : Int32)), .val (.ref w_CREAT)] [(.int (2 : Int32)), (.ref nb2_1)])) rfl rfl (hb hby d4_19) _ ?_
        show Steps p.tables e below (T17.setTop (mkF m 20 #[.val (.long q0_), .second, .val (.ref nb2_1), .val (.int (14 : Int32)), .val (.int (2 : Int32)), .val (.ref w_CREAT)] [(.ref w_OPENAT)])) _
        refine XS.astore X17.here hx rfl (hb hby d4_20) rfl rfl (l' := #[.val (.long q0_), .second, .val (.ref nb2_1), .val (.int (14 : Int32)), .val (.int (2 : Int32)), .val (.ref w_OPENAT)]) rfl ?_
        show Steps p.tables e below (T17.setTop (mkF m 22 #[.val (.long q0_), .second, .val (.ref nb2_1), .val (.int (14 : Int32)), .val (.int (2 : Int32)), .val (.ref w_OPENAT)] [])) _
        refine XS.aload X17.here hx rfl (hb hby d4_22) rfl rfl ?_
        show Steps p.tables e below (T17.setTop (mkF m 24 #[.val (.long q0_), .second, .val (.ref nb2_1), .val (.int (14 : Int32)), .val (.int (2 : Int32)), .val (.ref w_OPENAT)] [(.ref w_OPENAT)])) _
        refine st25 _ ?_
        show Steps p.tables e below (T25.setTop (mkF m 27 #[.val (.long q0_), .second, .val (.ref nb2_1), .val (.int (14 : Int32)), .val (.int (2 : Int32)), .val (.ref w_OPENAT)] [(.int (257 : Int32))])) _
        refine XS.i2l X25.here hx rfl (hb hby d4_27) rfl ?_
        show Steps p.tables e below (T25.setTop (mkF m 28 #[.val (.long q0_), .second, .val (.ref nb2_1), .val (.int (14 : Int32)), .val (.int (2 : Int32)), .val (.ref w_OPENAT)] [(.long (257 : Int64))])) _
        refine XS.lloadN X25.here hx rfl (hb hby d4_28) rfl ?_
        show Steps p.tables e below (T25.setTop (mkF m 29 #[.val (.long q0_), .second, .val (.ref nb2_1), .val (.int (14 : Int32)), .val (.int (2 : Int32)), .val (.ref w_OPENAT)] [(.long q0_), (.long (257 : Int64))])) _
        refine XS.lcmp X25.here hx rfl (hb hby d4_29) rfl ?_
        exact kt
      by_cases hc27 : (257 : Int64) = q0_
      · have pre28 : ∀ t, Steps p.tables e below (T25.setTop (mkF m 35 #[.val (.long q0_), .second, .val (.ref nb2_1), .val (.int (14 : Int32)), .val (.int (2 : Int32)), .val (.ref w_OPENAT)] [(.ref w_OPENAT)])) t → Steps p.tables e below (s₁.setTop (entryFrame m #[(.long q0_)] 6)) t := by
          intro t kt
          refine pre26 t ?_
          show Steps p.tables e below (T25.setTop (mkF m 30 #[.val (.long q0_), .second, .val (.ref nb2_1), .val (.int (14 : Int32)), .val (.int (2 : Int32)), .val (.ref w_OPENAT)] [(.int (lcmpW (257 : Int64) q0_))])) _
          refine XS.ifNo X25.here hx rfl (hb hby d4_30) rfl ((if0 _ _).trans (teq ((lw_eq _ _).mpr hc27)).2) ?_
          show Steps p.tables e below (T25.setTop (mkF m 33 #[.val (.long q0_), .second, .val (.ref nb2_1), .val (.int (14 : Int32)), .val (.int (2 : Int32)), .val (.ref w_OPENAT)] [])) _
          refine XS.aload X25.here hx rfl (hb hby d4_33) rfl rfl ?_
          exact kt
        have f30 : Keep h0 h1 [] := K0.trans K1 all0
        obtain ⟨fs, hr, hrun, hended, hW, hsame⟩ := X25.leave (v := some (.ref w_OPENAT)) (fun h => by rw [Bd.returns] at h; cases h)
        refine ⟨_, _, pre28 _ (retOut X25 hx Bd.returns rfl (Or.inr (Or.inr (Or.inr (Or.inr ⟨rfl, rfl, rfl⟩)))) (hb hby d4_35) hr), hrun, hended, _, _, rfl, ?_, ⟨_, rfl⟩, hW, hsame.mono (by decide) (by decide)⟩
        show QOf Z q0_ w_OPEN w_CREAT w_OPENAT w_RENAME w_RENAMEAT w_RENAMEAT2 w_UNLINK w_UNLINKAT w_RMDIR w_CHMOD w_FCHMOD w_FCHMODAT w_CHOWN w_FCHOWNAT w__VALUES k_ h0 n0 _ T25.heap _
        rw [e25]
        exact ⟨(.ref w_OPENAT), rfl, (Or.inr (Or.inr (Or.inl ⟨rfl, hc11, hc19, hc27⟩))), N2, f30⟩
      · obtain ⟨c31, r31, q31, s31, z31, y31, G31⟩ := id g1_0
        have hin31 : ¬ ((3 : Int32) < 0 ∨ c31.slots.size ≤ ((3 : Int32)).toNatClampNeg) := inb_of s31 ⟨by decide, by decide⟩
        have hat31 : c31.slots[((3 : Int32)).toNatClampNeg]? = some (.ref w_RENAME) := Has.at y31 hin31 rfl
        have f32 : Fld Z h1 w_RENAME "com/example/aeacus/aeacus/audit/Syscall" "number" "I" (.int (82 : Int32)) := P11.ext f7.2
        obtain ⟨T33, X33, e33, st33⟩ := getF X25 hx hZ hown (host := "") (Or.inl (hw _ (List.mem_of_getElem? (i := 38) rfl))) Via.refl e25 f32 (g := (mkF m 24 #[.val (.long q0_), .second, .val (.ref nb2_1), .val (.int (14 : Int32)), .val (.int (3 : Int32)), .val (.ref w_RENAME)] [(.ref w_RENAME)])) rfl rfl (hb hby d4_24)
        have pre34 : ∀ t, Steps p.tables e below (T33.setTop (mkF m 30 #[.val (.long q0_), .second, .val (.ref nb2_1), .val (.int (14 : Int32)), .val (.int (3 : Int32)), .val (.ref w_RENAME)] [(.int (lcmpW (82 : Int64) q0_))])) t → Steps p.tables e below (s₁.setTop (entryFrame m #[(.long q0_)] 6)) t := by
          intro t kt
          refine pre26 t ?_
          show Steps p.tables e below (T25.setTop (mkF m 30 #[.val (.long q0_), .second, .val (.ref nb2_1), .val (.int (14 : Int32)), .val (.int (2 : Int32)), .val (.ref w_OPENAT)] [(.int (lcmpW (257 : Int64) q0_))])) _
          refine XS.ifYes X25.here hx rfl (pc0 := 30) (pc' := 36) rfl (hb hby d4_30) rfl ((if0 _ _).trans (feq (fun z => hc27 ((lw_eq _ _).mp z))).2) (by decide) (by decide) ?_
          show Steps p.tables e below (T25.setTop (mkF m 36 #[.val (.long q0_), .second, .val (.ref nb2_1), .val (.int (14 : Int32)), .val (.int (2 : Int32)), .val (.ref w_OPENAT)] [])) _
          refine XS.iinc X25.here hx rfl (hb hby d4_36) rfl (l' := #[.val (.long q0_), .second, .val (.ref nb2_1), .val (.int (14 : Int32)), .val (.int (3 : Int32)), .val (.ref w_OPENAT)]) rfl ?_
          show Steps p.tables e below (T25.setTop (mkF m 39 #[.val (.long q0_), .second, .val (.ref nb2_1), .val (.int (14 : Int32)), .val (.int (3 : Int32)), .val (.ref w_OPENAT)] [])) _
          refine XS.goto X25.here hx rfl (pc0 := 39) (pc' := 10) rfl (hb hby d4_39) (by decide) (by decide) ?_
          show Steps p.tables e below (T25.setTop (mkF m 10 #[.val (.long q0_), .second, .val (.ref nb2_1), .val (.int (14 : Int32)), .val (.int (3 : Int32)), .val (.ref w_OPENAT)] [])) _
          refine XS.iload X25.here hx rfl (hb hby d4_10) rfl ?_
          show Steps p.tables e below (T25.setTop (mkF m 12 #[.val (.long q0_), .second, .val (.ref nb2_1), .val (.int (14 : Int32)), .val (.int (3 : Int32)), .val (.ref w_OPENAT)] [(.int (3 : Int32))])) _
          refine XS.iloadN X25.here hx rfl (hb hby d4_12) rfl ?_
          show Steps p.tables e below (T25.setTop (mkF m 13 #[.val (.long q0_), .second, .val (.ref nb2_1), .val (.int (14 : Int32)), .val (.int (3 : Int32)), .val (.ref w_OPENAT)] [(.int (14 : Int32)), (.int (3 : Int32))])) _
          refine XS.icmpNo X25.here hx rfl (hb hby d4_13) rfl (tlt (by decide : (3 : Int32) < (14 : Int32))).2.1 ?_
          show Steps p.tables e below (T25.setTop (mkF m 16 #[.val (.long q0_), .second, .val (.ref nb2_1), .val (.int (14 : Int32)), .val (.int (3 : Int32)), .val (.ref w_OPENAT)] [])) _
          refine XS.aloadN X25.here hx rfl (hb hby d4_16) rfl rfl ?_
          show Steps p.tables e below (T25.setTop (mkF m 17 #[.val (.long q0_), .second, .val (.ref nb2_1), .val (.int (14 : Int32)), .val (.int (3 : Int32)), .val (.ref w_OPENAT)] [(.ref nb2_1)])) _
          refine XS.iload X25.here hx rfl (hb hby d4_17) rfl ?_
          show Steps p.tables e below (T25.setTop (mkF m 19 #[.val (.long q0_), .second, .val (.ref nb2_1), .val (.int (14 : Int32)), .val (.int (3 : Int32)), .val (.ref w_OPENAT)] [(.int (3 : Int32)), (.ref nb2_1)])) _
          refine X25.aaload hx (j := (3 : Int32)) (v := (.ref w_RENAME)) (by rw [e25]; exact r31.1) (State.isArrayOf_alike hZ.alike r31.2.1) rfl r31.2.2 hin31 hat31 (g := (mkF m 19 #[.val (.long q0_), .second, .val (.ref nb2_1), .val (.int (14 : Int32)), .val (.int (3 : Int32)), .val (.ref w_OPENAT)] [(.int (3 : Int32)), (.ref nb2_1)])) rfl rfl (hb hby d4_19) _ ?_
          show Steps p.tables e below (T25.setTop (mkF m 20 #[.val (.long q0_), .second, .val (.ref nb2_1), .val (.int (14 : Int32)), .val (.int (3 : Int32)), .val (.ref w_OPENAT)] [(.ref w_RENAME)])) _
          refine XS.astore X25.here hx rfl (hb hby d4_20) rfl rfl (l' := #[.val (.long q0_), .second, .val (.ref nb2_1), .val (.int (14 : Int32)), .val (.int (3 : Int32)), .val (.ref w_RENAME)]) rfl ?_
          show Steps p.tables e below (T25.setTop (mkF m 22 #[.val (.long q0_), .second, .val (.ref nb2_1), .val (.int (14 : Int32)), .val (.int (3 : Int32)), .val (.ref w_RENAME)] [])) _
          refine XS.aload X25.here hx rfl (hb hby d4_22) rfl rfl ?_
          show Steps p.tables e below (T25.setTop (mkF m 24 #[.val (.long q0_), .second, .val (.ref nb2_1), .val (.int (14 : Int32)), .val (.int (3 : Int32)), .val (.ref w_RENAME)] [(.ref w_RENAME)])) _
          refine st33 _ ?_
          show Steps p.tables e below (T33.setTop (mkF m 27 #[.val (.long q0_), .second, .val (.ref nb2_1), .val (.int (14 : Int32)), .val (.int (3 : Int32)), .val (.ref w_RENAME)] [(.int (82 : Int32))])) _
          refine XS.i2l X33.here hx rfl (hb hby d4_27) rfl ?_
          show Steps p.tables e below (T33.setTop (mkF m 28 #[.val (.long q0_), .second, .val (.ref nb2_1), .val (.int (14 : Int32)), .val (.int (3 : Int32)), .val (.ref w_RENAME)] [(.long (82 : Int64))])) _
          refine XS.lloadN X33.here hx rfl (hb hby d4_28) rfl ?_
          show Steps p.tables e below (T33.setTop (mkF m 29 #[.val (.long q0_), .second, .val (.ref nb2_1), .val (.int (14 : Int32)), .val (.int (3 : Int32)), .val (.ref w_RENAME)] [(.long q0_), (.long (82 : Int64))])) _
          refine XS.lcmp X33.here hx rfl (hb hby d4_29) rfl ?_
          exact kt
        by_cases hc35 : (82 : Int64) = q0_
        · have pre36 : ∀ t, Steps p.tables e below (T33.setTop (mkF m 35 #[.val (.long q0_), .second, .val (.ref nb2_1), .val (.int (14 : Int32)), .val (.int (3 : Int32)), .val (.ref w_RENAME)] [(.ref w_RENAME)])) t → Steps p.tables e below (s₁.setTop (entryFrame m #[(.long q0_)] 6)) t := by
            intro t kt
            refine pre34 t ?_
            show Steps p.tables e below (T33.setTop (mkF m 30 #[.val (.long q0_), .second, .val (.ref nb2_1), .val (.int (14 : Int32)), .val (.int (3 : Int32)), .val (.ref w_RENAME)] [(.int (lcmpW (82 : Int64) q0_))])) _
            refine XS.ifNo X33.here hx rfl (hb hby d4_30) rfl ((if0 _ _).trans (teq ((lw_eq _ _).mpr hc35)).2) ?_
            show Steps p.tables e below (T33.setTop (mkF m 33 #[.val (.long q0_), .second, .val (.ref nb2_1), .val (.int (14 : Int32)), .val (.int (3 : Int32)), .val (.ref w_RENAME)] [])) _
            refine XS.aload X33.here hx rfl (hb hby d4_33) rfl rfl ?_
            exact kt
          have f38 : Keep h0 h1 [] := K0.trans K1 all0
          obtain ⟨fs, hr, hrun, hended, hW, hsame⟩ := X33.leave (v := some (.ref w_RENAME)) (fun h => by rw [Bd.returns] at h; cases h)
          refine ⟨_, _, pre36 _ (retOut X33 hx Bd.returns rfl (Or.inr (Or.inr (Or.inr (Or.inr ⟨rfl, rfl, rfl⟩)))) (hb hby d4_35) hr), hrun, hended, _, _, rfl, ?_, ⟨_, rfl⟩, hW, hsame.mono (by decide) (by decide)⟩
          show QOf Z q0_ w_OPEN w_CREAT w_OPENAT w_RENAME w_RENAMEAT w_RENAMEAT2 w_UNLINK w_UNLINKAT w_RMDIR w_CHMOD w_FCHMOD w_FCHMODAT w_CHOWN w_FCHOWNAT w__VALUES k_ h0 n0 _ T33.heap _
          rw [e33]
          exact ⟨(.ref w_RENAME), rfl, (Or.inr (Or.inr (Or.inr (Or.inl ⟨rfl, hc11, hc19, hc27, hc35⟩)))), N2, f38⟩
        · obtain ⟨c39, r39, q39, s39, z39, y39, G39⟩ := id g1_0
          have hin39 : ¬ ((4 : Int32) < 0 ∨ c39.slots.size ≤ ((4 : Int32)).toNatClampNeg) := inb_of s39 ⟨by decide, by decide⟩
          have hat39 : c39.slots[((4 : Int32)).toNatClampNeg]? = some (.ref w_RENAMEAT) := Has.at y39 hin39 rfl
          have f40 : Fld Z h1 w_RENAMEAT "com/example/aeacus/aeacus/audit/Syscall" "number" "I" (.int (264 : Int32)) := P14.ext f7.2
          obtain ⟨T41, X41, e41, st41⟩ := getF X33 hx hZ hown (host := "") (Or.inl (hw _ (List.mem_of_getElem? (i := 38) rfl))) Via.refl e33 f40 (g := (mkF m 24 #[.val (.long q0_), .second, .val (.ref nb2_1), .val (.int (14 : Int32)), .val (.int (4 : Int32)), .val (.ref w_RENAMEAT)] [(.ref w_RENAMEAT)])) rfl rfl (hb hby d4_24)
          have pre42 : ∀ t, Steps p.tables e below (T41.setTop (mkF m 30 #[.val (.long q0_), .second, .val (.ref nb2_1), .val (.int (14 : Int32)), .val (.int (4 : Int32)), .val (.ref w_RENAMEAT)] [(.int (lcmpW (264 : Int64) q0_))])) t → Steps p.tables e below (s₁.setTop (entryFrame m #[(.long q0_)] 6)) t := by
            intro t kt
            refine pre34 t ?_
            show Steps p.tables e below (T33.setTop (mkF m 30 #[.val (.long q0_), .second, .val (.ref nb2_1), .val (.int (14 : Int32)), .val (.int (3 : Int32)), .val (.ref w_RENAME)] [(.int (lcmpW (82 : Int64) q0_))])) _
            refine XS.ifYes X33.here hx rfl (pc0 := 30) (pc' := 36) rfl (hb hby d4_30) rfl ((if0 _ _).trans (feq (fun z => hc35 ((lw_eq _ _).mp z))).2) (by decide) (by decide) ?_
            show Steps p.tables e below (T33.setTop (mkF m 36 #[.val (.long q0_), .second, .val (.ref nb2_1), .val (.int (14 : Int32)), .val (.int (3 : Int32)), .val (.ref w_RENAME)] [])) _
            refine XS.iinc X33.here hx rfl (hb hby d4_36) rfl (l' := #[.val (.long q0_), .second, .val (.ref nb2_1), .val (.int (14 : Int32)), .val (.int (4 : Int32)), .val (.ref w_RENAME)]) rfl ?_
            show Steps p.tables e below (T33.setTop (mkF m 39 #[.val (.long q0_), .second, .val (.ref nb2_1), .val (.int (14 : Int32)), .val (.int (4 : Int32)), .val (.ref w_RENAME)] [])) _
            refine XS.goto X33.here hx rfl (pc0 := 39) (pc' := 10) rfl (hb hby d4_39) (by decide) (by decide) ?_
            show Steps p.tables e below (T33.setTop (mkF m 10 #[.val (.long q0_), .second, .val (.ref nb2_1), .val (.int (14 : Int32)), .val (.int (4 : Int32)), .val (.ref w_RENAME)] [])) _
            refine XS.iload X33.here hx rfl (hb hby d4_10) rfl ?_
            show Steps p.tables e below (T33.setTop (mkF m 12 #[.val (.long q0_), .second, .val (.ref nb2_1), .val (.int (14 : Int32)), .val (.int (4 : Int32)), .val (.ref w_RENAME)] [(.int (4 : Int32))])) _
            refine XS.iloadN X33.here hx rfl (hb hby d4_12) rfl ?_
            show Steps p.tables e below (T33.setTop (mkF m 13 #[.val (.long q0_), .second, .val (.ref nb2_1), .val (.int (14 : Int32)), .val (.int (4 : Int32)), .val (.ref w_RENAME)] [(.int (14 : Int32)), (.int (4 : Int32))])) _
            refine XS.icmpNo X33.here hx rfl (hb hby d4_13) rfl (tlt (by decide : (4 : Int32) < (14 : Int32))).2.1 ?_
            show Steps p.tables e below (T33.setTop (mkF m 16 #[.val (.long q0_), .second, .val (.ref nb2_1), .val (.int (14 : Int32)), .val (.int (4 : Int32)), .val (.ref w_RENAME)] [])) _
            refine XS.aloadN X33.here hx rfl (hb hby d4_16) rfl rfl ?_
            show Steps p.tables e below (T33.setTop (mkF m 17 #[.val (.long q0_), .second, .val (.ref nb2_1), .val (.int (14 : Int32)), .val (.int (4 : Int32)), .val (.ref w_RENAME)] [(.ref nb2_1)])) _
            refine XS.iload X33.here hx rfl (hb hby d4_17) rfl ?_
            show Steps p.tables e below (T33.setTop (mkF m 19 #[.val (.long q0_), .second, .val (.ref nb2_1), .val (.int (14 : Int32)), .val (.int (4 : Int32)), .val (.ref w_RENAME)] [(.int (4 : Int32)), (.ref nb2_1)])) _
            refine X33.aaload hx (j := (4 : Int32)) (v := (.ref w_RENAMEAT)) (by rw [e33]; exact r39.1) (State.isArrayOf_alike hZ.alike r39.2.1) rfl r39.2.2 hin39 hat39 (g := (mkF m 19 #[.val (.long q0_), .second, .val (.ref nb2_1), .val (.int (14 : Int32)), .val (.int (4 : Int32)), .val (.ref w_RENAME)] [(.int (4 : Int32)), (.ref nb2_1)])) rfl rfl (hb hby d4_19) _ ?_
            show Steps p.tables e below (T33.setTop (mkF m 20 #[.val (.long q0_), .second, .val (.ref nb2_1), .val (.int (14 : Int32)), .val (.int (4 : Int32)), .val (.ref w_RENAME)] [(.ref w_RENAMEAT)])) _
            refine XS.astore X33.here hx rfl (hb hby d4_20) rfl rfl (l' := #[.val (.long q0_), .second, .val (.ref nb2_1), .val (.int (14 : Int32)), .val (.int (4 : Int32)), .val (.ref w_RENAMEAT)]) rfl ?_
            show Steps p.tables e below (T33.setTop (mkF m 22 #[.val (.long q0_), .second, .val (.ref nb2_1), .val (.int (14 : Int32)), .val (.int (4 : Int32)), .val (.ref w_RENAMEAT)] [])) _
            refine XS.aload X33.here hx rfl (hb hby d4_22) rfl rfl ?_
            show Steps p.tables e below (T33.setTop (mkF m 24 #[.val (.long q0_), .second, .val (.ref nb2_1), .val (.int (14 : Int32)), .val (.int (4 : Int32)), .val (.ref w_RENAMEAT)] [(.ref w_RENAMEAT)])) _
            refine st41 _ ?_
            show Steps p.tables e below (T41.setTop (mkF m 27 #[.val (.long q0_), .second, .val (.ref nb2_1), .val (.int (14 : Int32)), .val (.int (4 : Int32)), .val (.ref w_RENAMEAT)] [(.int (264 : Int32))])) _
            refine XS.i2l X41.here hx rfl (hb hby d4_27) rfl ?_
            show Steps p.tables e below (T41.setTop (mkF m 28 #[.val (.long q0_), .second, .val (.ref nb2_1), .val (.int (14 : Int32)), .val (.int (4 : Int32)), .val (.ref w_RENAMEAT)] [(.long (264 : Int64))])) _
            refine XS.lloadN X41.here hx rfl (hb hby d4_28) rfl ?_
            show Steps p.tables e below (T41.setTop (mkF m 29 #[.val (.long q0_), .second, .val (.ref nb2_1), .val (.int (14 : Int32)), .val (.int (4 : Int32)), .val (.ref w_RENAMEAT)] [(.long q0_), (.long (264 : Int64))])) _
            refine XS.lcmp X41.here hx rfl (hb hby d4_29) rfl ?_
            exact kt
          by_cases hc43 : (264 : Int64) = q0_
          · have pre44 : ∀ t, Steps p.tables e below (T41.setTop (mkF m 35 #[.val (.long q0_), .second, .val (.ref nb2_1), .val (.int (14 : Int32)), .val (.int (4 : Int32)), .val (.ref w_RENAMEAT)] [(.ref w_RENAMEAT)])) t → Steps p.tables e below (s₁.setTop (entryFrame m #[(.long q0_)] 6)) t := by
              intro t kt
              refine pre42 t ?_
              show Steps p.tables e below (T41.setTop (mkF m 30 #[.val (.long q0_), .second, .val (.ref nb2_1), .val (.int (14 : Int32)), .val (.int (4 : Int32)), .val (.ref w_RENAMEAT)] [(.int (lcmpW (264 : Int64) q0_))])) _
              refine XS.ifNo X41.here hx rfl (hb hby d4_30) rfl ((if0 _ _).trans (teq ((lw_eq _ _).mpr hc43)).2) ?_
              show Steps p.tables e below (T41.setTop (mkF m 33 #[.val (.long q0_), .second, .val (.ref nb2_1), .val (.int (14 : Int32)), .val (.int (4 : Int32)), .val (.ref w_RENAMEAT)] [])) _
              refine XS.aload X41.here hx rfl (hb hby d4_33) rfl rfl ?_
              exact kt
            have f46 : Keep h0 h1 [] := K0.trans K1 all0
            obtain ⟨fs, hr, hrun, hended, hW, hsame⟩ := X41.leave (v := some (.ref w_RENAMEAT)) (fun h => by rw [Bd.returns] at h; cases h)
            refine ⟨_, _, pre44 _ (retOut X41 hx Bd.returns rfl (Or.inr (Or.inr (Or.inr (Or.inr ⟨rfl, rfl, rfl⟩)))) (hb hby d4_35) hr), hrun, hended, _, _, rfl, ?_, ⟨_, rfl⟩, hW, hsame.mono (by decide) (by decide)⟩
            show QOf Z q0_ w_OPEN w_CREAT w_OPENAT w_RENAME w_RENAMEAT w_RENAMEAT2 w_UNLINK w_UNLINKAT w_RMDIR w_CHMOD w_FCHMOD w_FCHMODAT w_CHOWN w_FCHOWNAT w__VALUES k_ h0 n0 _ T41.heap _
            rw [e41]
            exact ⟨(.ref w_RENAMEAT), rfl, (Or.inr (Or.inr (Or.inr (Or.inr (Or.inl ⟨rfl, hc11, hc19, hc27, hc35, hc43⟩))))), N2, f46⟩
          · obtain ⟨c47, r47, q47, s47, z47, y47, G47⟩ := id g1_0
            have hin47 : ¬ ((5 : Int32) < 0 ∨ c47.slots.size ≤ ((5 : Int32)).toNatClampNeg) := inb_of s47 ⟨by decide, by decide⟩
            have hat47 : c47.slots[((5 : Int32)).toNatClampNeg]? = some (.ref w_RENAMEAT2) := Has.at y47 hin47 rfl
            have f48 : Fld Z h1 w_RENAMEAT2 "com/example/aeacus/aeacus/audit/Syscall" "number" "I" (.int (316 : Int32)) := P17.ext f7.2
            obtain ⟨T49, X49, e49, st49⟩ := getF X41 hx hZ hown (host := "") (Or.inl (hw _ (List.mem_of_getElem? (i := 38) rfl))) Via.refl e41 f48 (g := (mkF m 24 #[.val (.long q0_), .second, .val (.ref nb2_1), .val (.int (14 : Int32)), .val (.int (5 : Int32)), .val (.ref w_RENAMEAT2)] [(.ref w_RENAMEAT2)])) rfl rfl (hb hby d4_24)
            have pre50 : ∀ t, Steps p.tables e below (T49.setTop (mkF m 30 #[.val (.long q0_), .second, .val (.ref nb2_1), .val (.int (14 : Int32)), .val (.int (5 : Int32)), .val (.ref w_RENAMEAT2)] [(.int (lcmpW (316 : Int64) q0_))])) t → Steps p.tables e below (s₁.setTop (entryFrame m #[(.long q0_)] 6)) t := by
              intro t kt
              refine pre42 t ?_
              show Steps p.tables e below (T41.setTop (mkF m 30 #[.val (.long q0_), .second, .val (.ref nb2_1), .val (.int (14 : Int32)), .val (.int (4 : Int32)), .val (.ref w_RENAMEAT)] [(.int (lcmpW (264 : Int64) q0_))])) _
              refine XS.ifYes X41.here hx rfl (pc0 := 30) (pc' := 36) rfl (hb hby d4_30) rfl ((if0 _ _).trans (feq (fun z => hc43 ((lw_eq _ _).mp z))).2) (by decide) (by decide) ?_
              show Steps p.tables e below (T41.setTop (mkF m 36 #[.val (.long q0_), .second, .val (.ref nb2_1), .val (.int (14 : Int32)), .val (.int (4 : Int32)), .val (.ref w_RENAMEAT)] [])) _
              refine XS.iinc X41.here hx rfl (hb hby d4_36) rfl (l' := #[.val (.long q0_), .second, .val (.ref nb2_1), .val (.int (14 : Int32)), .val (.int (5 : Int32)), .val (.ref w_RENAMEAT)]) rfl ?_
              show Steps p.tables e below (T41.setTop (mkF m 39 #[.val (.long q0_), .second, .val (.ref nb2_1), .val (.int (14 : Int32)), .val (.int (5 : Int32)), .val (.ref w_RENAMEAT)] [])) _
              refine XS.goto X41.here hx rfl (pc0 := 39) (pc' := 10) rfl (hb hby d4_39) (by decide) (by decide) ?_
              show Steps p.tables e below (T41.setTop (mkF m 10 #[.val (.long q0_), .second, .val (.ref nb2_1), .val (.int (14 : Int32)), .val (.int (5 : Int32)), .val (.ref w_RENAMEAT)] [])) _
              refine XS.iload X41.here hx rfl (hb hby d4_10) rfl ?_
              show Steps p.tables e below (T41.setTop (mkF m 12 #[.val (.long q0_), .second, .val (.ref nb2_1), .val (.int (14 : Int32)), .val (.int (5 : Int32)), .val (.ref w_RENAMEAT)] [(.int (5 : Int32))])) _
              refine XS.iloadN X41.here hx rfl (hb hby d4_12) rfl ?_
              show Steps p.tables e below (T41.setTop (mkF m 13 #[.val (.long q0_), .second, .val (.ref nb2_1), .val (.int (14 : Int32)), .val (.int (5 : Int32)), .val (.ref w_RENAMEAT)] [(.int (14 : Int32)), (.int (5 : Int32))])) _
              refine XS.icmpNo X41.here hx rfl (hb hby d4_13) rfl (tlt (by decide : (5 : Int32) < (14 : Int32))).2.1 ?_
              show Steps p.tables e below (T41.setTop (mkF m 16 #[.val (.long q0_), .second, .val (.ref nb2_1), .val (.int (14 : Int32)), .val (.int (5 : Int32)), .val (.ref w_RENAMEAT)] [])) _
              refine XS.aloadN X41.here hx rfl (hb hby d4_16) rfl rfl ?_
              show Steps p.tables e below (T41.setTop (mkF m 17 #[.val (.long q0_), .second, .val (.ref nb2_1), .val (.int (14 : Int32)), .val (.int (5 : Int32)), .val (.ref w_RENAMEAT)] [(.ref nb2_1)])) _
              refine XS.iload X41.here hx rfl (hb hby d4_17) rfl ?_
              show Steps p.tables e below (T41.setTop (mkF m 19 #[.val (.long q0_), .second, .val (.ref nb2_1), .val (.int (14 : Int32)), .val (.int (5 : Int32)), .val (.ref w_RENAMEAT)] [(.int (5 : Int32)), (.ref nb2_1)])) _
              refine X41.aaload hx (j := (5 : Int32)) (v := (.ref w_RENAMEAT2)) (by rw [e41]; exact r47.1) (State.isArrayOf_alike hZ.alike r47.2.1) rfl r47.2.2 hin47 hat47 (g := (mkF m 19 #[.val (.long q0_), .second, .val (.ref nb2_1), .val (.int (14 : Int32)), .val (.int (5 : Int32)), .val (.ref w_RENAMEAT)] [(.int (5 : Int32)), (.ref nb2_1)])) rfl rfl (hb hby d4_19) _ ?_
              show Steps p.tables e below (T41.setTop (mkF m 20 #[.val (.long q0_), .second, .val (.ref nb2_1), .val (.int (14 : Int32)), .val (.int (5 : Int32)), .val (.ref w_RENAMEAT)] [(.ref w_RENAMEAT2)])) _
              refine XS.astore X41.here hx rfl (hb hby d4_20) rfl rfl (l' := #[.val (.long q0_), .second, .val (.ref nb2_1), .val (.int (14 : Int32)), .val (.int (5 : Int32)), .val (.ref w_RENAMEAT2)]) rfl ?_
              show Steps p.tables e below (T41.setTop (mkF m 22 #[.val (.long q0_), .second, .val (.ref nb2_1), .val (.int (14 : Int32)), .val (.int (5 : Int32)), .val (.ref w_RENAMEAT2)] [])) _
              refine XS.aload X41.here hx rfl (hb hby d4_22) rfl rfl ?_
              show Steps p.tables e below (T41.setTop (mkF m 24 #[.val (.long q0_), .second, .val (.ref nb2_1), .val (.int (14 : Int32)), .val (.int (5 : Int32)), .val (.ref w_RENAMEAT2)] [(.ref w_RENAMEAT2)])) _
              refine st49 _ ?_
              show Steps p.tables e below (T49.setTop (mkF m 27 #[.val (.long q0_), .second, .val (.ref nb2_1), .val (.int (14 : Int32)), .val (.int (5 : Int32)), .val (.ref w_RENAMEAT2)] [(.int (316 : Int32))])) _
              refine XS.i2l X49.here hx rfl (hb hby d4_27) rfl ?_
              show Steps p.tables e below (T49.setTop (mkF m 28 #[.val (.long q0_), .second, .val (.ref nb2_1), .val (.int (14 : Int32)), .val (.int (5 : Int32)), .val (.ref w_RENAMEAT2)] [(.long (316 : Int64))])) _
              refine XS.lloadN X49.here hx rfl (hb hby d4_28) rfl ?_
              show Steps p.tables e below (T49.setTop (mkF m 29 #[.val (.long q0_), .second, .val (.ref nb2_1), .val (.int (14 : Int32)), .val (.int (5 : Int32)), .val (.ref w_RENAMEAT2)] [(.long q0_), (.long (316 : Int64))])) _
              refine XS.lcmp X49.here hx rfl (hb hby d4_29) rfl ?_
              exact kt
            by_cases hc51 : (316 : Int64) = q0_
            · have pre52 : ∀ t, Steps p.tables e below (T49.setTop (mkF m 35 #[.val (.long q0_), .second, .val (.ref nb2_1), .val (.int (14 : Int32)), .val (.int (5 : Int32)), .val (.ref w_RENAMEAT2)] [(.ref w_RENAMEAT2)])) t → Steps p.tables e below (s₁.setTop (entryFrame m #[(.long q0_)] 6)) t := by
                intro t kt
                refine pre50 t ?_
                show Steps p.tables e below (T49.setTop (mkF m 30 #[.val (.long q0_), .second, .val (.ref nb2_1), .val (.int (14 : Int32)), .val (.int (5 : Int32)), .val (.ref w_RENAMEAT2)] [(.int (lcmpW (316 : Int64) q0_))])) _
                refine XS.ifNo X49.here hx rfl (hb hby d4_30) rfl ((if0 _ _).trans (teq ((lw_eq _ _).mpr hc51)).2) ?_
                show Steps p.tables e below (T49.setTop (mkF m 33 #[.val (.long q0_), .second, .val (.ref nb2_1), .val (.int (14 : Int32)), .val (.int (5 : Int32)), .val (.ref w_RENAMEAT2)] [])) _
                refine XS.aload X49.here hx rfl (hb hby d4_33) rfl rfl ?_
                exact kt
              have f54 : Keep h0 h1 [] := K0.trans K1 all0
              obtain ⟨fs, hr, hrun, hended, hW, hsame⟩ := X49.leave (v := some (.ref w_RENAMEAT2)) (fun h => by rw [Bd.returns] at h; cases h)
              refine ⟨_, _, pre52 _ (retOut X49 hx Bd.returns rfl (Or.inr (Or.inr (Or.inr (Or.inr ⟨rfl, rfl, rfl⟩)))) (hb hby d4_35) hr), hrun, hended, _, _, rfl, ?_, ⟨_, rfl⟩, hW, hsame.mono (by decide) (by decide)⟩
              show QOf Z q0_ w_OPEN w_CREAT w_OPENAT w_RENAME w_RENAMEAT w_RENAMEAT2 w_UNLINK w_UNLINKAT w_RMDIR w_CHMOD w_FCHMOD w_FCHMODAT w_CHOWN w_FCHOWNAT w__VALUES k_ h0 n0 _ T49.heap _
              rw [e49]
              exact ⟨(.ref w_RENAMEAT2), rfl, (Or.inr (Or.inr (Or.inr (Or.inr (Or.inr (Or.inl ⟨rfl, hc11, hc19, hc27, hc35, hc43, hc51⟩)))))), N2, f54⟩
            · obtain ⟨c55, r55, q55, s55, z55, y55, G55⟩ := id g1_0
              have hin55 : ¬ ((6 : Int32) < 0 ∨ c55.slots.size ≤ ((6 : Int32)).toNatClampNeg) := inb_of s55 ⟨by decide, by decide⟩
              have hat55 : c55.slots[((6 : Int32)).toNatClampNeg]? = some (.ref w_UNLINK) := Has.at y55 hin55 rfl
              have f56 : Fld Z h1 w_UNLINK "com/example/aeacus/aeacus/audit/Syscall" "number" "I" (.int (87 : Int32)) := P20.ext f7.2
              obtain ⟨T57, X57, e57, st57⟩ := getF X49 hx hZ hown (host := "") (Or.inl (hw _ (List.mem_of_getElem? (i := 38) rfl))) Via.refl e49 f56 (g := (mkF m 24 #[.val (.long q0_), .second, .val (.ref nb2_1), .val (.int (14 : Int32)), .val (.int (6 : Int32)), .val (.ref w_UNLINK)] [(.ref w_UNLINK)])) rfl rfl (hb hby d4_24)
              have pre58 : ∀ t, Steps p.tables e below (T57.setTop (mkF m 30 #[.val (.long q0_), .second, .val (.ref nb2_1), .val (.int (14 : Int32)), .val (.int (6 : Int32)), .val (.ref w_UNLINK)] [(.int (lcmpW (87 : Int64) q0_))])) t → Steps p.tables e below (s₁.setTop (entryFrame m #[(.long q0_)] 6)) t := by
                intro t kt
                refine pre50 t ?_
                show Steps p.tables e below (T49.setTop (mkF m 30 #[.val (.long q0_), .second, .val (.ref nb2_1), .val (.int (14 : Int32)), .val (.int (5 : Int32)), .val (.ref w_RENAMEAT2)] [(.int (lcmpW (316 : Int64) q0_))])) _
                refine XS.ifYes X49.here hx rfl (pc0 := 30) (pc' := 36) rfl (hb hby d4_30) rfl ((if0 _ _).trans (feq (fun z => hc51 ((lw_eq _ _).mp z))).2) (by decide) (by decide) ?_
                show Steps p.tables e below (T49.setTop (mkF m 36 #[.val (.long q0_), .second, .val (.ref nb2_1), .val (.int (14 : Int32)), .val (.int (5 : Int32)), .val (.ref w_RENAMEAT2)] [])) _
                refine XS.iinc X49.here hx rfl (hb hby d4_36) rfl (l' := #[.val (.long q0_), .second, .val (.ref nb2_1), .val (.int (14 : Int32)), .val (.int (6 : Int32)), .val (.ref w_RENAMEAT2)]) rfl ?_
                show Steps p.tables e below (T49.setTop (mkF m 39 #[.val (.long q0_), .second, .val (.ref nb2_1), .val (.int (14 : Int32)), .val (.int (6 : Int32)), .val (.ref w_RENAMEAT2)] [])) _
                refine XS.goto X49.here hx rfl (pc0 := 39) (pc' := 10) rfl (hb hby d4_39) (by decide) (by decide) ?_
                show Steps p.tables e below (T49.setTop (mkF m 10 #[.val (.long q0_), .second, .val (.ref nb2_1), .val (.int (14 : Int32)), .val (.int (6 : Int32)), .val (.ref w_RENAMEAT2)] [])) _
                refine XS.iload X49.here hx rfl (hb hby d4_10) rfl ?_
                show Steps p.tables e below (T49.setTop (mkF m 12 #[.val (.long q0_), .second, .val (.ref nb2_1), .val (.int (14 : Int32)), .val (.int (6 : Int32)), .val (.ref w_RENAMEAT2)] [(.int (6 : Int32))])) _
                refine XS.iloadN X49.here hx rfl (hb hby d4_12) rfl ?_
                show Steps p.tables e below (T49.setTop (mkF m 13 #[.val (.long q0_), .second, .val (.ref nb2_1), .val (.int (14 : Int32)), .val (.int (6 : Int32)), .val (.ref w_RENAMEAT2)] [(.int (14 : Int32)), (.int (6 : Int32))])) _
                refine XS.icmpNo X49.here hx rfl (hb hby d4_13) rfl (tlt (by decide : (6 : Int32) < (14 : Int32))).2.1 ?_
                show Steps p.tables e below (T49.setTop (mkF m 16 #[.val (.long q0_), .second, .val (.ref nb2_1), .val (.int (14 : Int32)), .val (.int (6 : Int32)), .val (.ref w_RENAMEAT2)] [])) _
                refine XS.aloadN X49.here hx rfl (hb hby d4_16) rfl rfl ?_
                show Steps p.tables e below (T49.setTop (mkF m 17 #[.val (.long q0_), .second, .val (.ref nb2_1), .val (.int (14 : Int32)), .val (.int (6 : Int32)), .val (.ref w_RENAMEAT2)] [(.ref nb2_1)])) _
                refine XS.iload X49.here hx rfl (hb hby d4_17) rfl ?_
                show Steps p.tables e below (T49.setTop (mkF m 19 #[.val (.long q0_), .second, .val (.ref nb2_1), .val (.int (14 : Int32)), .val (.int (6 : Int32)), .val (.ref w_RENAMEAT2)] [(.int (6 : Int32)), (.ref nb2_1)])) _
                refine X49.aaload hx (j := (6 : Int32)) (v := (.ref w_UNLINK)) (by rw [e49]; exact r55.1) (State.isArrayOf_alike hZ.alike r55.2.1) rfl r55.2.2 hin55 hat55 (g := (mkF m 19 #[.val (.long q0_), .second, .val (.ref nb2_1), .val (.int (14 : Int32)), .val (.int (6 : Int32)), .val (.ref w_RENAMEAT2)] [(.int (6 : Int32)), (.ref nb2_1)])) rfl rfl (hb hby d4_19) _ ?_
                show Steps p.tables e below (T49.setTop (mkF m 20 #[.val (.long q0_), .second, .val (.ref nb2_1), .val (.int (14 : Int32)), .val (.int (6 : Int32)), .val (.ref w_RENAMEAT2)] [(.ref w_UNLINK)])) _
                refine XS.astore X49.here hx rfl (hb hby d4_20) rfl rfl (l' := #[.val (.long q0_), .second, .val (.ref nb2_1), .val (.int (14 : Int32)), .val (.int (6 : Int32)), .val (.ref w_UNLINK)]) rfl ?_
                show Steps p.tables e below (T49.setTop (mkF m 22 #[.val (.long q0_), .second, .val (.ref nb2_1), .val (.int (14 : Int32)), .val (.int (6 : Int32)), .val (.ref w_UNLINK)] [])) _
                refine XS.aload X49.here hx rfl (hb hby d4_22) rfl rfl ?_
                show Steps p.tables e below (T49.setTop (mkF m 24 #[.val (.long q0_), .second, .val (.ref nb2_1), .val (.int (14 : Int32)), .val (.int (6 : Int32)), .val (.ref w_UNLINK)] [(.ref w_UNLINK)])) _
                refine st57 _ ?_
                show Steps p.tables e below (T57.setTop (mkF m 27 #[.val (.long q0_), .second, .val (.ref nb2_1), .val (.int (14 : Int32)), .val (.int (6 : Int32)), .val (.ref w_UNLINK)] [(.int (87 : Int32))])) _
                refine XS.i2l X57.here hx rfl (hb hby d4_27) rfl ?_
                show Steps p.tables e below (T57.setTop (mkF m 28 #[.val (.long q0_), .second, .val (.ref nb2_1), .val (.int (14 : Int32)), .val (.int (6 : Int32)), .val (.ref w_UNLINK)] [(.long (87 : Int64))])) _
                refine XS.lloadN X57.here hx rfl (hb hby d4_28) rfl ?_
                show Steps p.tables e below (T57.setTop (mkF m 29 #[.val (.long q0_), .second, .val (.ref nb2_1), .val (.int (14 : Int32)), .val (.int (6 : Int32)), .val (.ref w_UNLINK)] [(.long q0_), (.long (87 : Int64))])) _
                refine XS.lcmp X57.here hx rfl (hb hby d4_29) rfl ?_
                exact kt
              by_cases hc59 : (87 : Int64) = q0_
              · have pre60 : ∀ t, Steps p.tables e below (T57.setTop (mkF m 35 #[.val (.long q0_), .second, .val (.ref nb2_1), .val (.int (14 : Int32)), .val (.int (6 : Int32)), .val (.ref w_UNLINK)] [(.ref w_UNLINK)])) t → Steps p.tables e below (s₁.setTop (entryFrame m #[(.long q0_)] 6)) t := by
                  intro t kt
                  refine pre58 t ?_
                  show Steps p.tables e below (T57.setTop (mkF m 30 #[.val (.long q0_), .second, .val (.ref nb2_1), .val (.int (14 : Int32)), .val (.int (6 : Int32)), .val (.ref w_UNLINK)] [(.int (lcmpW (87 : Int64) q0_))])) _
                  refine XS.ifNo X57.here hx rfl (hb hby d4_30) rfl ((if0 _ _).trans (teq ((lw_eq _ _).mpr hc59)).2) ?_
                  show Steps p.tables e below (T57.setTop (mkF m 33 #[.val (.long q0_), .second, .val (.ref nb2_1), .val (.int (14 : Int32)), .val (.int (6 : Int32)), .val (.ref w_UNLINK)] [])) _
                  refine XS.aload X57.here hx rfl (hb hby d4_33) rfl rfl ?_
                  exact kt
                have f62 : Keep h0 h1 [] := K0.trans K1 all0
                obtain ⟨fs, hr, hrun, hended, hW, hsame⟩ := X57.leave (v := some (.ref w_UNLINK)) (fun h => by rw [Bd.returns] at h; cases h)
                refine ⟨_, _, pre60 _ (retOut X57 hx Bd.returns rfl (Or.inr (Or.inr (Or.inr (Or.inr ⟨rfl, rfl, rfl⟩)))) (hb hby d4_35) hr), hrun, hended, _, _, rfl, ?_, ⟨_, rfl⟩, hW, hsame.mono (by decide) (by decide)⟩
                show QOf Z q0_ w_OPEN w_CREAT w_OPENAT w_RENAME w_RENAMEAT w_RENAMEAT2 w_UNLINK w_UNLINKAT w_RMDIR w_CHMOD w_FCHMOD w_FCHMODAT w_CHOWN w_FCHOWNAT w__VALUES k_ h0 n0 _ T57.heap _
                rw [e57]
                exact ⟨(.ref w_UNLINK), rfl, (Or.inr (Or.inr (Or.inr (Or.inr (Or.inr (Or.inr (Or.inl ⟨rfl, hc11, hc19, hc27, hc35, hc43, hc51, hc59⟩))))))), N2, f62⟩
              · obtain ⟨c63, r63, q63, s63, z63, y63, G63⟩ := id g1_0
                have hin63 : ¬ ((7 : Int32) < 0 ∨ c63.slots.size ≤ ((7 : Int32)).toNatClampNeg) := inb_of s63 ⟨by decide, by decide⟩
                have hat63 : c63.slots[((7 : Int32)).toNatClampNeg]? = some (.ref w_UNLINKAT) := Has.at y63 hin63 rfl
                have f64 : Fld Z h1 w_UNLINKAT "com/example/aeacus/aeacus/audit/Syscall" "number" "I" (.int (263 : Int32)) := P23.ext f7.2
                obtain ⟨T65, X65, e65, st65⟩ := getF X57 hx hZ hown (host := "") (Or.inl (hw _ (List.mem_of_getElem? (i := 38) rfl))) Via.refl e57 f64 (g := (mkF m 24 #[.val (.long q0_), .second, .val (.ref nb2_1), .val (.int (14 : Int32)), .val (.int (7 : Int32)), .val (.ref w_UNLINKAT)] [(.ref w_UNLINKAT)])) rfl rfl (hb hby d4_24)
                have pre66 : ∀ t, Steps p.tables e below (T65.setTop (mkF m 30 #[.val (.long q0_), .second, .val (.ref nb2_1), .val (.int (14 : Int32)), .val (.int (7 : Int32)), .val (.ref w_UNLINKAT)] [(.int (lcmpW (263 : Int64) q0_))])) t → Steps p.tables e below (s₁.setTop (entryFrame m #[(.long q0_)] 6)) t := by
                  intro t kt
                  refine pre58 t ?_
                  show Steps p.tables e below (T57.setTop (mkF m 30 #[.val (.long q0_), .second, .val (.ref nb2_1), .val (.int (14 : Int32)), .val (.int (6 : Int32)), .val (.ref w_UNLINK)] [(.int (lcmpW (87 : Int64) q0_))])) _
                  refine XS.ifYes X57.here hx rfl (pc0 := 30) (pc' := 36) rfl (hb hby d4_30) rfl ((if0 _ _).trans (feq (fun z => hc59 ((lw_eq _ _).mp z))).2) (by decide) (by decide) ?_
                  show Steps p.tables e below (T57.setTop (mkF m 36 #[.val (.long q0_), .second, .val (.ref nb2_1), .val (.int (14 : Int32)), .val (.int (6 : Int32)), .val (.ref w_UNLINK)] [])) _
                  refine XS.iinc X57.here hx rfl (hb hby d4_36) rfl (l' := #[.val (.long q0_), .second, .val (.ref nb2_1), .val (.int (14 : Int32)), .val (.int (7 : Int32)), .val (.ref w_UNLINK)]) rfl ?_
                  show Steps p.tables e below (T57.setTop (mkF m 39 #[.val (.long q0_), .second, .val (.ref nb2_1), .val (.int (14 : Int32)), .val (.int (7 : Int32)), .val (.ref w_UNLINK)] [])) _
                  refine XS.goto X57.here hx rfl (pc0 := 39) (pc' := 10) rfl (hb hby d4_39) (by decide) (by decide) ?_
                  show Steps p.tables e below (T57.setTop (mkF m 10 #[.val (.long q0_), .second, .val (.ref nb2_1), .val (.int (14 : Int32)), .val (.int (7 : Int32)), .val (.ref w_UNLINK)] [])) _
                  refine XS.iload X57.here hx rfl (hb hby d4_10) rfl ?_
                  show Steps p.tables e below (T57.setTop (mkF m 12 #[.val (.long q0_), .second, .val (.ref nb2_1), .val (.int (14 : Int32)), .val (.int (7 : Int32)), .val (.ref w_UNLINK)] [(.int (7 : Int32))])) _
                  refine XS.iloadN X57.here hx rfl (hb hby d4_12) rfl ?_
                  show Steps p.tables e below (T57.setTop (mkF m 13 #[.val (.long q0_), .second, .val (.ref nb2_1), .val (.int (14 : Int32)), .val (.int (7 : Int32)), .val (.ref w_UNLINK)] [(.int (14 : Int32)), (.int (7 : Int32))])) _
                  refine XS.icmpNo X57.here hx rfl (hb hby d4_13) rfl (tlt (by decide : (7 : Int32) < (14 : Int32))).2.1 ?_
                  show Steps p.tables e below (T57.setTop (mkF m 16 #[.val (.long q0_), .second, .val (.ref nb2_1), .val (.int (14 : Int32)), .val (.int (7 : Int32)), .val (.ref w_UNLINK)] [])) _
                  refine XS.aloadN X57.here hx rfl (hb hby d4_16) rfl rfl ?_
                  show Steps p.tables e below (T57.setTop (mkF m 17 #[.val (.long q0_), .second, .val (.ref nb2_1), .val (.int (14 : Int32)), .val (.int (7 : Int32)), .val (.ref w_UNLINK)] [(.ref nb2_1)])) _
                  refine XS.iload X57.here hx rfl (hb hby d4_17) rfl ?_
                  show Steps p.tables e below (T57.setTop (mkF m 19 #[.val (.long q0_), .second, .val (.ref nb2_1), .val (.int (14 : Int32)), .val (.int (7 : Int32)), .val (.ref w_UNLINK)] [(.int (7 : Int32)), (.ref nb2_1)])) _
                  refine X57.aaload hx (j := (7 : Int32)) (v := (.ref w_UNLINKAT)) (by rw [e57]; exact r63.1) (State.isArrayOf_alike hZ.alike r63.2.1) rfl r63.2.2 hin63 hat63 (g := (mkF m 19 #[.val (.long q0_), .second, .val (.ref nb2_1), .val (.int (14 : Int32)), .val (.int (7 : Int32)), .val (.ref w_UNLINK)] [(.int (7 : Int32)), (.ref nb2_1)])) rfl rfl (hb hby d4_19) _ ?_
                  show Steps p.tables e below (T57.setTop (mkF m 20 #[.val (.long q0_), .second, .val (.ref nb2_1), .val (.int (14 : Int32)), .val (.int (7 : Int32)), .val (.ref w_UNLINK)] [(.ref w_UNLINKAT)])) _
                  refine XS.astore X57.here hx rfl (hb hby d4_20) rfl rfl (l' := #[.val (.long q0_), .second, .val (.ref nb2_1), .val (.int (14 : Int32)), .val (.int (7 : Int32)), .val (.ref w_UNLINKAT)]) rfl ?_
                  show Steps p.tables e below (T57.setTop (mkF m 22 #[.val (.long q0_), .second, .val (.ref nb2_1), .val (.int (14 : Int32)), .val (.int (7 : Int32)), .val (.ref w_UNLINKAT)] [])) _
                  refine XS.aload X57.here hx rfl (hb hby d4_22) rfl rfl ?_
                  show Steps p.tables e below (T57.setTop (mkF m 24 #[.val (.long q0_), .second, .val (.ref nb2_1), .val (.int (14 : Int32)), .val (.int (7 : Int32)), .val (.ref w_UNLINKAT)] [(.ref w_UNLINKAT)])) _
                  refine st65 _ ?_
                  show Steps p.tables e below (T65.setTop (mkF m 27 #[.val (.long q0_), .second, .val (.ref nb2_1), .val (.int (14 : Int32)), .val (.int (7 : Int32)), .val (.ref w_UNLINKAT)] [(.int (263 : Int32))])) _
                  refine XS.i2l X65.here hx rfl (hb hby d4_27) rfl ?_
                  show Steps p.tables e below (T65.setTop (mkF m 28 #[.val (.long q0_), .second, .val (.ref nb2_1), .val (.int (14 : Int32)), .val (.int (7 : Int32)), .val (.ref w_UNLINKAT)] [(.long (263 : Int64))])) _
                  refine XS.lloadN X65.here hx rfl (hb hby d4_28) rfl ?_
                  show Steps p.tables e below (T65.setTop (mkF m 29 #[.val (.long q0_), .second, .val (.ref nb2_1), .val (.int (14 : Int32)), .val (.int (7 : Int32)), .val (.ref w_UNLINKAT)] [(.long q0_), (.long (263 : Int64))])) _
                  refine XS.lcmp X65.here hx rfl (hb hby d4_29) rfl ?_
                  exact kt
                by_cases hc67 : (263 : Int64) = q0_
                · have pre68 : ∀ t, Steps p.tables e below (T65.setTop (mkF m 35 #[.val (.long q0_), .second, .val (.ref nb2_1), .val (.int (14 : Int32)), .val (.int (7 : Int32)), .val (.ref w_UNLINKAT)] [(.ref w_UNLINKAT)])) t → Steps p.tables e below (s₁.setTop (entryFrame m #[(.long q0_)] 6)) t := by
                    intro t kt
                    refine pre66 t ?_
                    show Steps p.tables e below (T65.setTop (mkF m 30 #[.val (.long q0_), .second, .val (.ref nb2_1), .val (.int (14 : Int32)), .val (.int (7 : Int32)), .val (.ref w_UNLINKAT)] [(.int (lcmpW (263 : Int64) q0_))])) _
                    refine XS.ifNo X65.here hx rfl (hb hby d4_30) rfl ((if0 _ _).trans (teq ((lw_eq _ _).mpr hc67)).2) ?_
                    show Steps p.tables e below (T65.setTop (mkF m 33 #[.val (.long q0_), .second, .val (.ref nb2_1), .val (.int (14 : Int32)), .val (.int (7 : Int32)), .val (.ref w_UNLINKAT)] [])) _
                    refine XS.aload X65.here hx rfl (hb hby d4_33) rfl rfl ?_
                    exact kt
                  have f70 : Keep h0 h1 [] := K0.trans K1 all0
                  obtain ⟨fs, hr, hrun, hended, hW, hsame⟩ := X65.leave (v := some (.ref w_UNLINKAT)) (fun h => by rw [Bd.returns] at h; cases h)
                  refine ⟨_, _, pre68 _ (retOut X65 hx Bd.returns rfl (Or.inr (Or.inr (Or.inr (Or.inr ⟨rfl, rfl, rfl⟩)))) (hb hby d4_35) hr), hrun, hended, _, _, rfl, ?_, ⟨_, rfl⟩, hW, hsame.mono (by decide) (by decide)⟩
                  show QOf Z q0_ w_OPEN w_CREAT w_OPENAT w_RENAME w_RENAMEAT w_RENAMEAT2 w_UNLINK w_UNLINKAT w_RMDIR w_CHMOD w_FCHMOD w_FCHMODAT w_CHOWN w_FCHOWNAT w__VALUES k_ h0 n0 _ T65.heap _
                  rw [e65]
                  exact ⟨(.ref w_UNLINKAT), rfl, (Or.inr (Or.inr (Or.inr (Or.inr (Or.inr (Or.inr (Or.inr (Or.inl ⟨rfl, hc11, hc19, hc27, hc35, hc43, hc51, hc59, hc67⟩)))))))), N2, f70⟩
                · obtain ⟨c71, r71, q71, s71, z71, y71, G71⟩ := id g1_0
                  have hin71 : ¬ ((8 : Int32) < 0 ∨ c71.slots.size ≤ ((8 : Int32)).toNatClampNeg) := inb_of s71 ⟨by decide, by decide⟩
                  have hat71 : c71.slots[((8 : Int32)).toNatClampNeg]? = some (.ref w_RMDIR) := Has.at y71 hin71 rfl
                  have f72 : Fld Z h1 w_RMDIR "com/example/aeacus/aeacus/audit/Syscall" "number" "I" (.int (84 : Int32)) := P26.ext f7.2
                  obtain ⟨T73, X73, e73, st73⟩ := getF X65 hx hZ hown (host := "") (Or.inl (hw _ (List.mem_of_getElem? (i := 38) rfl))) Via.refl e65 f72 (g := (mkF m 24 #[.val (.long q0_), .second, .val (.ref nb2_1), .val (.int (14 : Int32)), .val (.int (8 : Int32)), .val (.ref w_RMDIR)] [(.ref w_RMDIR)])) rfl rfl (hb hby d4_24)
                  have pre74 : ∀ t, Steps p.tables e below (T73.setTop (mkF m 30 #[.val (.long q0_), .second, .val (.ref nb2_1), .val (.int (14 : Int32)), .val (.int (8 : Int32)), .val (.ref w_RMDIR)] [(.int (lcmpW (84 : Int64) q0_))])) t → Steps p.tables e below (s₁.setTop (entryFrame m #[(.long q0_)] 6)) t := by
                    intro t kt
                    refine pre66 t ?_
                    show Steps p.tables e below (T65.setTop (mkF m 30 #[.val (.long q0_), .second, .val (.ref nb2_1), .val (.int (14 : Int32)), .val (.int (7 : Int32)), .val (.ref w_UNLINKAT)] [(.int (lcmpW (263 : Int64) q0_))])) _
                    refine XS.ifYes X65.here hx rfl (pc0 := 30) (pc' := 36) rfl (hb hby d4_30) rfl ((if0 _ _).trans (feq (fun z => hc67 ((lw_eq _ _).mp z))).2) (by decide) (by decide) ?_
                    show Steps p.tables e below (T65.setTop (mkF m 36 #[.val (.long q0_), .second, .val (.ref nb2_1), .val (.int (14 : Int32)), .val (.int (7 : Int32)), .val (.ref w_UNLINKAT)] [])) _
                    refine XS.iinc X65.here hx rfl (hb hby d4_36) rfl (l' := #[.val (.long q0_), .second, .val (.ref nb2_1), .val (.int (14 : Int32)), .val (.int (8 : Int32)), .val (.ref w_UNLINKAT)]) rfl ?_
                    show Steps p.tables e below (T65.setTop (mkF m 39 #[.val (.long q0_), .second, .val (.ref nb2_1), .val (.int (14 : Int32)), .val (.int (8 : Int32)), .val (.ref w_UNLINKAT)] [])) _
                    refine XS.goto X65.here hx rfl (pc0 := 39) (pc' := 10) rfl (hb hby d4_39) (by decide) (by decide) ?_
                    show Steps p.tables e below (T65.setTop (mkF m 10 #[.val (.long q0_), .second, .val (.ref nb2_1), .val (.int (14 : Int32)), .val (.int (8 : Int32)), .val (.ref w_UNLINKAT)] [])) _
                    refine XS.iload X65.here hx rfl (hb hby d4_10) rfl ?_
                    show Steps p.tables e below (T65.setTop (mkF m 12 #[.val (.long q0_), .second, .val (.ref nb2_1), .val (.int (14 : Int32)), .val (.int (8 : Int32)), .val (.ref w_UNLINKAT)] [(.int (8 : Int32))])) _
                    refine XS.iloadN X65.here hx rfl (hb hby d4_12) rfl ?_
                    show Steps p.tables e below (T65.setTop (mkF m 13 #[.val (.long q0_), .second, .val (.ref nb2_1), .val (.int (14 : Int32)), .val (.int (8 : Int32)), .val (.ref w_UNLINKAT)] [(.int (14 : Int32)), (.int (8 : Int32))])) _
                    refine XS.icmpNo X65.here hx rfl (hb hby d4_13) rfl (tlt (by decide : (8 : Int32) < (14 : Int32))).2.1 ?_
                    show Steps p.tables e below (T65.setTop (mkF m 16 #[.val (.long q0_), .second, .val (.ref nb2_1), .val (.int (14 : Int32)), .val (.int (8 : Int32)), .val (.ref w_UNLINKAT)] [])) _
                    refine XS.aloadN X65.here hx rfl (hb hby d4_16) rfl rfl ?_
                    show Steps p.tables e below (T65.setTop (mkF m 17 #[.val (.long q0_), .second, .val (.ref nb2_1), .val (.int (14 : Int32)), .val (.int (8 : Int32)), .val (.ref w_UNLINKAT)] [(.ref nb2_1)])) _
                    refine XS.iload X65.here hx rfl (hb hby d4_17) rfl ?_
                    show Steps p.tables e below (T65.setTop (mkF m 19 #[.val (.long q0_), .second, .val (.ref nb2_1), .val (.int (14 : Int32)), .val (.int (8 : Int32)), .val (.ref w_UNLINKAT)] [(.int (8 : Int32)), (.ref nb2_1)])) _
                    refine X65.aaload hx (j := (8 : Int32)) (v := (.ref w_RMDIR)) (by rw [e65]; exact r71.1) (State.isArrayOf_alike hZ.alike r71.2.1) rfl r71.2.2 hin71 hat71 (g := (mkF m 19 #[.val (.long q0_), .second, .val (.ref nb2_1), .val (.int (14 : Int32)), .val (.int (8 : Int32)), .val (.ref w_UNLINKAT)] [(.int (8 : Int32)), (.ref nb2_1)])) rfl rfl (hb hby d4_19) _ ?_
                    show Steps p.tables e below (T65.setTop (mkF m 20 #[.val (.long q0_), .second, .val (.ref nb2_1), .val (.int (14 : Int32)), .val (.int (8 : Int32)), .val (.ref w_UNLINKAT)] [(.ref w_RMDIR)])) _
                    refine XS.astore X65.here hx rfl (hb hby d4_20) rfl rfl (l' := #[.val (.long q0_), .second, .val (.ref nb2_1), .val (.int (14 : Int32)), .val (.int (8 : Int32)), .val (.ref w_RMDIR)]) rfl ?_
                    show Steps p.tables e below (T65.setTop (mkF m 22 #[.val (.long q0_), .second, .val (.ref nb2_1), .val (.int (14 : Int32)), .val (.int (8 : Int32)), .val (.ref w_RMDIR)] [])) _
                    refine XS.aload X65.here hx rfl (hb hby d4_22) rfl rfl ?_
                    show Steps p.tables e below (T65.setTop (mkF m 24 #[.val (.long q0_), .second, .val (.ref nb2_1), .val (.int (14 : Int32)), .val (.int (8 : Int32)), .val (.ref w_RMDIR)] [(.ref w_RMDIR)])) _
                    refine st73 _ ?_
                    show Steps p.tables e below (T73.setTop (mkF m 27 #[.val (.long q0_), .second, .val (.ref nb2_1), .val (.int (14 : Int32)), .val (.int (8 : Int32)), .val (.ref w_RMDIR)] [(.int (84 : Int32))])) _
                    refine XS.i2l X73.here hx rfl (hb hby d4_27) rfl ?_
                    show Steps p.tables e below (T73.setTop (mkF m 28 #[.val (.long q0_), .second, .val (.ref nb2_1), .val (.int (14 : Int32)), .val (.int (8 : Int32)), .val (.ref w_RMDIR)] [(.long (84 : Int64))])) _
                    refine XS.lloadN X73.here hx rfl (hb hby d4_28) rfl ?_
                    show Steps p.tables e below (T73.setTop (mkF m 29 #[.val (.long q0_), .second, .val (.ref nb2_1), .val (.int (14 : Int32)), .val (.int (8 : Int32)), .val (.ref w_RMDIR)] [(.long q0_), (.long (84 : Int64))])) _
                    refine XS.lcmp X73.here hx rfl (hb hby d4_29) rfl ?_
                    exact kt
                  by_cases hc75 : (84 : Int64) = q0_
                  · have pre76 : ∀ t, Steps p.tables e below (T73.setTop (mkF m 35 #[.val (.long q0_), .second, .val (.ref nb2_1), .val (.int (14 : Int32)), .val (.int (8 : Int32)), .val (.ref w_RMDIR)] [(.ref w_RMDIR)])) t → Steps p.tables e below (s₁.setTop (entryFrame m #[(.long q0_)] 6)) t := by
                      intro t kt
                      refine pre74 t ?_
                      show Steps p.tables e below (T73.setTop (mkF m 30 #[.val (.long q0_), .second, .val (.ref nb2_1), .val (.int (14 : Int32)), .val (.int (8 : Int32)), .val (.ref w_RMDIR)] [(.int (lcmpW (84 : Int64) q0_))])) _
                      refine XS.ifNo X73.here hx rfl (hb hby d4_30) rfl ((if0 _ _).trans (teq ((lw_eq _ _).mpr hc75)).2) ?_
                      show Steps p.tables e below (T73.setTop (mkF m 33 #[.val (.long q0_), .second, .val (.ref nb2_1), .val (.int (14 : Int32)), .val (.int (8 : Int32)), .val (.ref w_RMDIR)] [])) _
                      refine XS.aload X73.here hx rfl (hb hby d4_33) rfl rfl ?_
                      exact kt
                    have f78 : Keep h0 h1 [] := K0.trans K1 all0
                    obtain ⟨fs, hr, hrun, hended, hW, hsame⟩ := X73.leave (v := some (.ref w_RMDIR)) (fun h => by rw [Bd.returns] at h; cases h)
                    refine ⟨_, _, pre76 _ (retOut X73 hx Bd.returns rfl (Or.inr (Or.inr (Or.inr (Or.inr ⟨rfl, rfl, rfl⟩)))) (hb hby d4_35) hr), hrun, hended, _, _, rfl, ?_, ⟨_, rfl⟩, hW, hsame.mono (by decide) (by decide)⟩
                    show QOf Z q0_ w_OPEN w_CREAT w_OPENAT w_RENAME w_RENAMEAT w_RENAMEAT2 w_UNLINK w_UNLINKAT w_RMDIR w_CHMOD w_FCHMOD w_FCHMODAT w_CHOWN w_FCHOWNAT w__VALUES k_ h0 n0 _ T73.heap _
                    rw [e73]
                    exact ⟨(.ref w_RMDIR), rfl, (Or.inr (Or.inr (Or.inr (Or.inr (Or.inr (Or.inr (Or.inr (Or.inr (Or.inl ⟨rfl, hc11, hc19, hc27, hc35, hc43, hc51, hc59, hc67, hc75⟩))))))))), N2, f78⟩
                  · obtain ⟨c79, r79, q79, s79, z79, y79, G79⟩ := id g1_0
                    have hin79 : ¬ ((9 : Int32) < 0 ∨ c79.slots.size ≤ ((9 : Int32)).toNatClampNeg) := inb_of s79 ⟨by decide, by decide⟩
                    have hat79 : c79.slots[((9 : Int32)).toNatClampNeg]? = some (.ref w_CHMOD) := Has.at y79 hin79 rfl
                    have f80 : Fld Z h1 w_CHMOD "com/example/aeacus/aeacus/audit/Syscall" "number" "I" (.int (90 : Int32)) := P29.ext f7.2
                    obtain ⟨T81, X81, e81, st81⟩ := getF X73 hx hZ hown (host := "") (Or.inl (hw _ (List.mem_of_getElem? (i := 38) rfl))) Via.refl e73 f80 (g := (mkF m 24 #[.val (.long q0_), .second, .val (.ref nb2_1), .val (.int (14 : Int32)), .val (.int (9 : Int32)), .val (.ref w_CHMOD)] [(.ref w_CHMOD)])) rfl rfl (hb hby d4_24)
                    have pre82 : ∀ t, Steps p.tables e below (T81.setTop (mkF m 30 #[.val (.long q0_), .second, .val (.ref nb2_1), .val (.int (14 : Int32)), .val (.int (9 : Int32)), .val (.ref w_CHMOD)] [(.int (lcmpW (90 : Int64) q0_))])) t → Steps p.tables e below (s₁.setTop (entryFrame m #[(.long q0_)] 6)) t := by
                      intro t kt
                      refine pre74 t ?_
                      show Steps p.tables e below (T73.setTop (mkF m 30 #[.val (.long q0_), .second, .val (.ref nb2_1), .val (.int (14 : Int32)), .val (.int (8 : Int32)), .val (.ref w_RMDIR)] [(.int (lcmpW (84 : Int64) q0_))])) _
                      refine XS.ifYes X73.here hx rfl (pc0 := 30) (pc' := 36) rfl (hb hby d4_30) rfl ((if0 _ _).trans (feq (fun z => hc75 ((lw_eq _ _).mp z))).2) (by decide) (by decide) ?_
                      show Steps p.tables e below (T73.setTop (mkF m 36 #[.val (.long q0_), .second, .val (.ref nb2_1), .val (.int (14 : Int32)), .val (.int (8 : Int32)), .val (.ref w_RMDIR)] [])) _
                      refine XS.iinc X73.here hx rfl (hb hby d4_36) rfl (l' := #[.val (.long q0_), .second, .val (.ref nb2_1), .val (.int (14 : Int32)), .val (.int (9 : Int32)), .val (.ref w_RMDIR)]) rfl ?_
                      show Steps p.tables e below (T73.setTop (mkF m 39 #[.val (.long q0_), .second, .val (.ref nb2_1), .val (.int (14 : Int32)), .val (.int (9 : Int32)), .val (.ref w_RMDIR)] [])) _
                      refine XS.goto X73.here hx rfl (pc0 := 39) (pc' := 10) rfl (hb hby d4_39) (by decide) (by decide) ?_
                      show Steps p.tables e below (T73.setTop (mkF m 10 #[.val (.long q0_), .second, .val (.ref nb2_1), .val (.int (14 : Int32)), .val (.int (9 : Int32)), .val (.ref w_RMDIR)] [])) _
                      refine XS.iload X73.here hx rfl (hb hby d4_10) rfl ?_
                      show Steps p.tables e below (T73.setTop (mkF m 12 #[.val (.long q0_), .second, .val (.ref nb2_1), .val (.int (14 : Int32)), .val (.int (9 : Int32)), .val (.ref w_RMDIR)] [(.int (9 : Int32))])) _
                      refine XS.iloadN X73.here hx rfl (hb hby d4_12) rfl ?_
                      show Steps p.tables e below (T73.setTop (mkF m 13 #[.val (.long q0_), .second, .val (.ref nb2_1), .val (.int (14 : Int32)), .val (.int (9 : Int32)), .val (.ref w_RMDIR)] [(.int (14 : Int32)), (.int (9 : Int32))])) _
                      refine XS.icmpNo X73.here hx rfl (hb hby d4_13) rfl (tlt (by decide : (9 : Int32) < (14 : Int32))).2.1 ?_
                      show Steps p.tables e below (T73.setTop (mkF m 16 #[.val (.long q0_), .second, .val (.ref nb2_1), .val (.int (14 : Int32)), .val (.int (9 : Int32)), .val (.ref w_RMDIR)] [])) _
                      refine XS.aloadN X73.here hx rfl (hb hby d4_16) rfl rfl ?_
                      show Steps p.tables e below (T73.setTop (mkF m 17 #[.val (.long q0_), .second, .val (.ref nb2_1), .val (.int (14 : Int32)), .val (.int (9 : Int32)), .val (.ref w_RMDIR)] [(.ref nb2_1)])) _
                      refine XS.iload X73.here hx rfl (hb hby d4_17) rfl ?_
                      show Steps p.tables e below (T73.setTop (mkF m 19 #[.val (.long q0_), .second, .val (.ref nb2_1), .val (.int (14 : Int32)), .val (.int (9 : Int32)), .val (.ref w_RMDIR)] [(.int (9 : Int32)), (.ref nb2_1)])) _
                      refine X73.aaload hx (j := (9 : Int32)) (v := (.ref w_CHMOD)) (by rw [e73]; exact r79.1) (State.isArrayOf_alike hZ.alike r79.2.1) rfl r79.2.2 hin79 hat79 (g := (mkF m 19 #[.val (.long q0_), .second, .val (.ref nb2_1), .val (.int (14 : Int32)), .val (.int (9 : Int32)), .val (.ref w_RMDIR)] [(.int (9 : Int32)), (.ref nb2_1)])) rfl rfl (hb hby d4_19) _ ?_
                      show Steps p.tables e below (T73.setTop (mkF m 20 #[.val (.long q0_), .second, .val (.ref nb2_1), .val (.int (14 : Int32)), .val (.int (9 : Int32)), .val (.ref w_RMDIR)] [(.ref w_CHMOD)])) _
                      refine XS.astore X73.here hx rfl (hb hby d4_20) rfl rfl (l' := #[.val (.long q0_), .second, .val (.ref nb2_1), .val (.int (14 : Int32)), .val (.int (9 : Int32)), .val (.ref w_CHMOD)]) rfl ?_
                      show Steps p.tables e below (T73.setTop (mkF m 22 #[.val (.long q0_), .second, .val (.ref nb2_1), .val (.int (14 : Int32)), .val (.int (9 : Int32)), .val (.ref w_CHMOD)] [])) _
                      refine XS.aload X73.here hx rfl (hb hby d4_22) rfl rfl ?_
                      show Steps p.tables e below (T73.setTop (mkF m 24 #[.val (.long q0_), .second, .val (.ref nb2_1), .val (.int (14 : Int32)), .val (.int (9 : Int32)), .val (.ref w_CHMOD)] [(.ref w_CHMOD)])) _
                      refine st81 _ ?_
                      show Steps p.tables e below (T81.setTop (mkF m 27 #[.val (.long q0_), .second, .val (.ref nb2_1), .val (.int (14 : Int32)), .val (.int (9 : Int32)), .val (.ref w_CHMOD)] [(.int (90 : Int32))])) _
                      refine XS.i2l X81.here hx rfl (hb hby d4_27) rfl ?_
                      show Steps p.tables e below (T81.setTop (mkF m 28 #[.val (.long q0_), .second, .val (.ref nb2_1), .val (.int (14 : Int32)), .val (.int (9 : Int32)), .val (.ref w_CHMOD)] [(.long (90 : Int64))])) _
                      refine XS.lloadN X81.here hx rfl (hb hby d4_28) rfl ?_
                      show Steps p.tables e below (T81.setTop (mkF m 29 #[.val (.long q0_), .second, .val (.ref nb2_1), .val (.int (14 : Int32)), .val (.int (9 : Int32)), .val (.ref w_CHMOD)] [(.long q0_), (.long (90 : Int64))])) _
                      refine XS.lcmp X81.here hx rfl (hb hby d4_29) rfl ?_
                      exact kt
                    by_cases hc83 : (90 : Int64) = q0_
                    · have pre84 : ∀ t, Steps p.tables e below (T81.setTop (mkF m 35 #[.val (.long q0_), .second, .val (.ref nb2_1), .val (.int (14 : Int32)), .val (.int (9 : Int32)), .val (.ref w_CHMOD)] [(.ref w_CHMOD)])) t → Steps p.tables e below (s₁.setTop (entryFrame m #[(.long q0_)] 6)) t := by
                        intro t kt
                        refine pre82 t ?_
                        show Steps p.tables e below (T81.setTop (mkF m 30 #[.val (.long q0_), .second, .val (.ref nb2_1), .val (.int (14 : Int32)), .val (.int (9 : Int32)), .val (.ref w_CHMOD)] [(.int (lcmpW (90 : Int64) q0_))])) _
                        refine XS.ifNo X81.here hx rfl (hb hby d4_30) rfl ((if0 _ _).trans (teq ((lw_eq _ _).mpr hc83)).2) ?_
                        show Steps p.tables e below (T81.setTop (mkF m 33 #[.val (.long q0_), .second, .val (.ref nb2_1), .val (.int (14 : Int32)), .val (.int (9 : Int32)), .val (.ref w_CHMOD)] [])) _
                        refine XS.aload X81.here hx rfl (hb hby d4_33) rfl rfl ?_
                        exact kt
                      have f86 : Keep h0 h1 [] := K0.trans K1 all0
                      obtain ⟨fs, hr, hrun, hended, hW, hsame⟩ := X81.leave (v := some (.ref w_CHMOD)) (fun h => by rw [Bd.returns] at h; cases h)
                      refine ⟨_, _, pre84 _ (retOut X81 hx Bd.returns rfl (Or.inr (Or.inr (Or.inr (Or.inr ⟨rfl, rfl, rfl⟩)))) (hb hby d4_35) hr), hrun, hended, _, _, rfl, ?_, ⟨_, rfl⟩, hW, hsame.mono (by decide) (by decide)⟩
                      show QOf Z q0_ w_OPEN w_CREAT w_OPENAT w_RENAME w_RENAMEAT w_RENAMEAT2 w_UNLINK w_UNLINKAT w_RMDIR w_CHMOD w_FCHMOD w_FCHMODAT w_CHOWN w_FCHOWNAT w__VALUES k_ h0 n0 _ T81.heap _
                      rw [e81]
                      exact ⟨(.ref w_CHMOD), rfl, (Or.inr (Or.inr (Or.inr (Or.inr (Or.inr (Or.inr (Or.inr (Or.inr (Or.inr (Or.inl ⟨rfl, hc11, hc19, hc27, hc35, hc43, hc51, hc59, hc67, hc75, hc83⟩)))))))))), N2, f86⟩
                    · obtain ⟨c87, r87, q87, s87, z87, y87, G87⟩ := id g1_0
                      have hin87 : ¬ ((10 : Int32) < 0 ∨ c87.slots.size ≤ ((10 : Int32)).toNatClampNeg) := inb_of s87 ⟨by decide, by decide⟩
                      have hat87 : c87.slots[((10 : Int32)).toNatClampNeg]? = some (.ref w_FCHMOD) := Has.at y87 hin87 rfl
                      have f88 : Fld Z h1 w_FCHMOD "com/example/aeacus/aeacus/audit/Syscall" "number" "I" (.int (91 : Int32)) := P32.ext f7.2
                      obtain ⟨T89, X89, e89, st89⟩ := getF X81 hx hZ hown (host := "") (Or.inl (hw _ (List.mem_of_getElem? (i := 38) rfl))) Via.refl e81 f88 (g := (mkF m 24 #[.val (.long q0_), .second, .val (.ref nb2_1), .val (.int (14 : Int32)), .val (.int (10 : Int32)), .val (.ref w_FCHMOD)] [(.ref w_FCHMOD)])) rfl rfl (hb hby d4_24)
                      have pre90 : ∀ t, Steps p.tables e below (T89.setTop (mkF m 30 #[.val (.long q0_), .second, .val (.ref nb2_1), .val (.int (14 : Int32)), .val (.int (10 : Int32)), .val (.ref w_FCHMOD)] [(.int (lcmpW (91 : Int64) q0_))])) t → Steps p.tables e below (s₁.setTop (entryFrame m #[(.long q0_)] 6)) t := by
                        intro t kt
                        refine pre82 t ?_
                        show Steps p.tables e below (T81.setTop (mkF m 30 #[.val (.long q0_), .second, .val (.ref nb2_1), .val (.int (14 : Int32)), .val (.int (9 : Int32)), .val (.ref w_CHMOD)] [(.int (lcmpW (90 : Int64) q0_))])) _
                        refine XS.ifYes X81.here hx rfl (pc0 := 30) (pc' := 36) rfl (hb hby d4_30) rfl ((if0 _ _).trans (feq (fun z => hc83 ((lw_eq _ _).mp z))).2) (by decide) (by decide) ?_
                        show Steps p.tables e below (T81.setTop (mkF m 36 #[.val (.long q0_), .second, .val (.ref nb2_1), .val (.int (14 : Int32)), .val (.int (9 : Int32)), .val (.ref w_CHMOD)] [])) _
                        refine XS.iinc X81.here hx rfl (hb hby d4_36) rfl (l' := #[.val (.long q0_), .second, .val (.ref nb2_1), .val (.int (14 : Int32)), .val (.int (10 : Int32)), .val (.ref w_CHMOD)]) rfl ?_
                        show Steps p.tables e below (T81.setTop (mkF m 39 #[.val (.long q0_), .second, .val (.ref nb2_1), .val (.int (14 : Int32)), .val (.int (10 : Int32)), .val (.ref w_CHMOD)] [])) _
                        refine XS.goto X81.here hx rfl (pc0 := 39) (pc' := 10) rfl (hb hby d4_39) (by decide) (by decide) ?_
                        show Steps p.tables e below (T81.setTop (mkF m 10 #[.val (.long q0_), .second, .val (.ref nb2_1), .val (.int (14 : Int32)), .val (.int (10 : Int32)), .val (.ref w_CHMOD)] [])) _
                        refine XS.iload X81.here hx rfl (hb hby d4_10) rfl ?_
                        show Steps p.tables e below (T81.setTop (mkF m 12 #[.val (.long q0_), .second, .val (.ref nb2_1), .val (.int (14 : Int32)), .val (.int (10 : Int32)), .val (.ref w_CHMOD)] [(.int (10 : Int32))])) _
                        refine XS.iloadN X81.here hx rfl (hb hby d4_12) rfl ?_
                        show Steps p.tables e below (T81.setTop (mkF m 13 #[.val (.long q0_), .second, .val (.ref nb2_1), .val (.int (14 : Int32)), .val (.int (10 : Int32)), .val (.ref w_CHMOD)] [(.int (14 : Int32)), (.int (10 : Int32))])) _
                        refine XS.icmpNo X81.here hx rfl (hb hby d4_13) rfl (tlt (by decide : (10 : Int32) < (14 : Int32))).2.1 ?_
                        show Steps p.tables e below (T81.setTop (mkF m 16 #[.val (.long q0_), .second, .val (.ref nb2_1), .val (.int (14 : Int32)), .val (.int (10 : Int32)), .val (.ref w_CHMOD)] [])) _
                        refine XS.aloadN X81.here hx rfl (hb hby d4_16) rfl rfl ?_
                        show Steps p.tables e below (T81.setTop (mkF m 17 #[.val (.long q0_), .second, .val (.ref nb2_1), .val (.int (14 : Int32)), .val (.int (10 : Int32)), .val (.ref w_CHMOD)] [(.ref nb2_1)])) _
                        refine XS.iload X81.here hx rfl (hb hby d4_17) rfl ?_
                        show Steps p.tables e below (T81.setTop (mkF m 19 #[.val (.long q0_), .second, .val (.ref nb2_1), .val (.int (14 : Int32)), .val (.int (10 : Int32)), .val (.ref w_CHMOD)] [(.int (10 : Int32)), (.ref nb2_1)])) _
                        refine X81.aaload hx (j := (10 : Int32)) (v := (.ref w_FCHMOD)) (by rw [e81]; exact r87.1) (State.isArrayOf_alike hZ.alike r87.2.1) rfl r87.2.2 hin87 hat87 (g := (mkF m 19 #[.val (.long q0_), .second, .val (.ref nb2_1), .val (.int (14 : Int32)), .val (.int (10 : Int32)), .val (.ref w_CHMOD)] [(.int (10 : Int32)), (.ref nb2_1)])) rfl rfl (hb hby d4_19) _ ?_
                        show Steps p.tables e below (T81.setTop (mkF m 20 #[.val (.long q0_), .second, .val (.ref nb2_1), .val (.int (14 : Int32)), .val (.int (10 : Int32)), .val (.ref w_CHMOD)] [(.ref w_FCHMOD)])) _
                        refine XS.astore X81.here hx rfl (hb hby d4_20) rfl rfl (l' := #[.val (.long q0_), .second, .val (.ref nb2_1), .val (.int (14 : Int32)), .val (.int (10 : Int32)), .val (.ref w_FCHMOD)]) rfl ?_
                        show Steps p.tables e below (T81.setTop (mkF m 22 #[.val (.long q0_), .second, .val (.ref nb2_1), .val (.int (14 : Int32)), .val (.int (10 : Int32)), .val (.ref w_FCHMOD)] [])) _
                        refine XS.aload X81.here hx rfl (hb hby d4_22) rfl rfl ?_
                        show Steps p.tables e below (T81.setTop (mkF m 24 #[.val (.long q0_), .second, .val (.ref nb2_1), .val (.int (14 : Int32)), .val (.int (10 : Int32)), .val (.ref w_FCHMOD)] [(.ref w_FCHMOD)])) _
                        refine st89 _ ?_
                        show Steps p.tables e below (T89.setTop (mkF m 27 #[.val (.long q0_), .second, .val (.ref nb2_1), .val (.int (14 : Int32)), .val (.int (10 : Int32)), .val (.ref w_FCHMOD)] [(.int (91 : Int32))])) _
                        refine XS.i2l X89.here hx rfl (hb hby d4_27) rfl ?_
                        show Steps p.tables e below (T89.setTop (mkF m 28 #[.val (.long q0_), .second, .val (.ref nb2_1), .val (.int (14 : Int32)), .val (.int (10 : Int32)), .val (.ref w_FCHMOD)] [(.long (91 : Int64))])) _
                        refine XS.lloadN X89.here hx rfl (hb hby d4_28) rfl ?_
                        show Steps p.tables e below (T89.setTop (mkF m 29 #[.val (.long q0_), .second, .val (.ref nb2_1), .val (.int (14 : Int32)), .val (.int (10 : Int32)), .val (.ref w_FCHMOD)] [(.long q0_), (.long (91 : Int64))])) _
                        refine XS.lcmp X89.here hx rfl (hb hby d4_29) rfl ?_
                        exact kt
                      by_cases hc91 : (91 : Int64) = q0_
                      · have pre92 : ∀ t, Steps p.tables e below (T89.setTop (mkF m 35 #[.val (.long q0_), .second, .val (.ref nb2_1), .val (.int (14 : Int32)), .val (.int (10 : Int32)), .val (.ref w_FCHMOD)] [(.ref w_FCHMOD)])) t → Steps p.tables e below (s₁.setTop (entryFrame m #[(.long q0_)] 6)) t := by
                          intro t kt
                          refine pre90 t ?_
                          show Steps p.tables e below (T89.setTop (mkF m 30 #[.val (.long q0_), .second, .val (.ref nb2_1), .val (.int (14 : Int32)), .val (.int (10 : Int32)), .val (.ref w_FCHMOD)] [(.int (lcmpW (91 : Int64) q0_))])) _
                          refine XS.ifNo X89.here hx rfl (hb hby d4_30) rfl ((if0 _ _).trans (teq ((lw_eq _ _).mpr hc91)).2) ?_
                          show Steps p.tables e below (T89.setTop (mkF m 33 #[.val (.long q0_), .second, .val (.ref nb2_1), .val (.int (14 : Int32)), .val (.int (10 : Int32)), .val (.ref w_FCHMOD)] [])) _
                          refine XS.aload X89.here hx rfl (hb hby d4_33) rfl rfl ?_
                          exact kt
                        have f94 : Keep h0 h1 [] := K0.trans K1 all0
                        obtain ⟨fs, hr, hrun, hended, hW, hsame⟩ := X89.leave (v := some (.ref w_FCHMOD)) (fun h => by rw [Bd.returns] at h; cases h)
                        refine ⟨_, _, pre92 _ (retOut X89 hx Bd.returns rfl (Or.inr (Or.inr (Or.inr (Or.inr ⟨rfl, rfl, rfl⟩)))) (hb hby d4_35) hr), hrun, hended, _, _, rfl, ?_, ⟨_, rfl⟩, hW, hsame.mono (by decide) (by decide)⟩
                        show QOf Z q0_ w_OPEN w_CREAT w_OPENAT w_RENAME w_RENAMEAT w_RENAMEAT2 w_UNLINK w_UNLINKAT w_RMDIR w_CHMOD w_FCHMOD w_FCHMODAT w_CHOWN w_FCHOWNAT w__VALUES k_ h0 n0 _ T89.heap _
                        rw [e89]
                        exact ⟨(.ref w_FCHMOD), rfl, (Or.inr (Or.inr (Or.inr (Or.inr (Or.inr (Or.inr (Or.inr (Or.inr (Or.inr (Or.inr (Or.inl ⟨rfl, hc11, hc19, hc27, hc35, hc43, hc51, hc59, hc67, hc75, hc83, hc91⟩))))))))))), N2, f94⟩
                      · obtain ⟨c95, r95, q95, s95, z95, y95, G95⟩ := id g1_0
                        have hin95 : ¬ ((11 : Int32) < 0 ∨ c95.slots.size ≤ ((11 : Int32)).toNatClampNeg) := inb_of s95 ⟨by decide, by decide⟩
                        have hat95 : c95.slots[((11 : Int32)).toNatClampNeg]? = some (.ref w_FCHMODAT) := Has.at y95 hin95 rfl
                        have f96 : Fld Z h1 w_FCHMODAT "com/example/aeacus/aeacus/audit/Syscall" "number" "I" (.int (268 : Int32)) := P35.ext f7.2
                        obtain ⟨T97, X97, e97, st97⟩ := getF X89 hx hZ hown (host := "") (Or.inl (hw _ (List.mem_of_getElem? (i := 38) rfl))) Via.refl e89 f96 (g := (mkF m 24 #[.val (.long q0_), .second, .val (.ref nb2_1), .val (.int (14 : Int32)), .val (.int (11 : Int32)), .val (.ref w_FCHMODAT)] [(.ref w_FCHMODAT)])) rfl rfl (hb hby d4_24)
                        have pre98 : ∀ t, Steps p.tables e below (T97.setTop (mkF m 30 #[.val (.long q0_), .second, .val (.ref nb2_1), .val (.int (14 : Int32)), .val (.int (11 : Int32)), .val (.ref w_FCHMODAT)] [(.int (lcmpW (268 : Int64) q0_))])) t → Steps p.tables e below (s₁.setTop (entryFrame m #[(.long q0_)] 6)) t := by
                          intro t kt
                          refine pre90 t ?_
                          show Steps p.tables e below (T89.setTop (mkF m 30 #[.val (.long q0_), .second, .val (.ref nb2_1), .val (.int (14 : Int32)), .val (.int (10 : Int32)), .val (.ref w_FCHMOD)] [(.int (lcmpW (91 : Int64) q0_))])) _
                          refine XS.ifYes X89.here hx rfl (pc0 := 30) (pc' := 36) rfl (hb hby d4_30) rfl ((if0 _ _).trans (feq (fun z => hc91 ((lw_eq _ _).mp z))).2) (by decide) (by decide) ?_
                          show Steps p.tables e below (T89.setTop (mkF m 36 #[.val (.long q0_), .second, .val (.ref nb2_1), .val (.int (14 : Int32)), .val (.int (10 : Int32)), .val (.ref w_FCHMOD)] [])) _
                          refine XS.iinc X89.here hx rfl (hb hby d4_36) rfl (l' := #[.val (.long q0_), .second, .val (.ref nb2_1), .val (.int (14 : Int32)), .val (.int (11 : Int32)), .val (.ref w_FCHMOD)]) rfl ?_
                          show Steps p.tables e below (T89.setTop (mkF m 39 #[.val (.long q0_), .second, .val (.ref nb2_1), .val (.int (14 : Int32)), .val (.int (11 : Int32)), .val (.ref w_FCHMOD)] [])) _
                          refine XS.goto X89.here hx rfl (pc0 := 39) (pc' := 10) rfl (hb hby d4_39) (by decide) (by decide) ?_
                          show Steps p.tables e below (T89.setTop (mkF m 10 #[.val (.long q0_), .second, .val (.ref nb2_1), .val (.int (14 : Int32)), .val (.int (11 : Int32)), .val (.ref w_FCHMOD)] [])) _
                          refine XS.iload X89.here hx rfl (hb hby d4_10) rfl ?_
                          show Steps p.tables e below (T89.setTop (mkF m 12 #[.val (.long q0_), .second, .val (.ref nb2_1), .val (.int (14 : Int32)), .val (.int (11 : Int32)), .val (.ref w_FCHMOD)] [(.int (11 : Int32))])) _
                          refine XS.iloadN X89.here hx rfl (hb hby d4_12) rfl ?_
                          show Steps p.tables e below (T89.setTop (mkF m 13 #[.val (.long q0_), .second, .val (.ref nb2_1), .val (.int (14 : Int32)), .val (.int (11 : Int32)), .val (.ref w_FCHMOD)] [(.int (14 : Int32)), (.int (11 : Int32))])) _
                          refine XS.icmpNo X89.here hx rfl (hb hby d4_13) rfl (tlt (by decide : (11 : Int32) < (14 : Int32))).2.1 ?_
                          show Steps p.tables e below (T89.setTop (mkF m 16 #[.val (.long q0_), .second, .val (.ref nb2_1), .val (.int (14 : Int32)), .val (.int (11 : Int32)), .val (.ref w_FCHMOD)] [])) _
                          refine XS.aloadN X89.here hx rfl (hb hby d4_16) rfl rfl ?_
                          show Steps p.tables e below (T89.setTop (mkF m 17 #[.val (.long q0_), .second, .val (.ref nb2_1), .val (.int (14 : Int32)), .val (.int (11 : Int32)), .val (.ref w_FCHMOD)] [(.ref nb2_1)])) _
                          refine XS.iload X89.here hx rfl (hb hby d4_17) rfl ?_
                          show Steps p.tables e below (T89.setTop (mkF m 19 #[.val (.long q0_), .second, .val (.ref nb2_1), .val (.int (14 : Int32)), .val (.int (11 : Int32)), .val (.ref w_FCHMOD)] [(.int (11 : Int32)), (.ref nb2_1)])) _
                          refine X89.aaload hx (j := (11 : Int32)) (v := (.ref w_FCHMODAT)) (by rw [e89]; exact r95.1) (State.isArrayOf_alike hZ.alike r95.2.1) rfl r95.2.2 hin95 hat95 (g := (mkF m 19 #[.val (.long q0_), .second, .val (.ref nb2_1), .val (.int (14 : Int32)), .val (.int (11 : Int32)), .val (.ref w_FCHMOD)] [(.int (11 : Int32)), (.ref nb2_1)])) rfl rfl (hb hby d4_19) _ ?_
                          show Steps p.tables e below (T89.setTop (mkF m 20 #[.val (.long q0_), .second, .val (.ref nb2_1), .val (.int (14 : Int32)), .val (.int (11 : Int32)), .val (.ref w_FCHMOD)] [(.ref w_FCHMODAT)])) _
                          refine XS.astore X89.here hx rfl (hb hby d4_20) rfl rfl (l' := #[.val (.long q0_), .second, .val (.ref nb2_1), .val (.int (14 : Int32)), .val (.int (11 : Int32)), .val (.ref w_FCHMODAT)]) rfl ?_
                          show Steps p.tables e below (T89.setTop (mkF m 22 #[.val (.long q0_), .second, .val (.ref nb2_1), .val (.int (14 : Int32)), .val (.int (11 : Int32)), .val (.ref w_FCHMODAT)] [])) _
                          refine XS.aload X89.here hx rfl (hb hby d4_22) rfl rfl ?_
                          show Steps p.tables e below (T89.setTop (mkF m 24 #[.val (.long q0_), .second, .val (.ref nb2_1), .val (.int (14 : Int32)), .val (.int (11 : Int32)), .val (.ref w_FCHMODAT)] [(.ref w_FCHMODAT)])) _
                          refine st97 _ ?_
                          show Steps p.tables e below (T97.setTop (mkF m 27 #[.val (.long q0_), .second, .val (.ref nb2_1), .val (.int (14 : Int32)), .val (.int (11 : Int32)), .val (.ref w_FCHMODAT)] [(.int (268 : Int32))])) _
                          refine XS.i2l X97.here hx rfl (hb hby d4_27) rfl ?_
                          show Steps p.tables e below (T97.setTop (mkF m 28 #[.val (.long q0_), .second, .val (.ref nb2_1), .val (.int (14 : Int32)), .val (.int (11 : Int32)), .val (.ref w_FCHMODAT)] [(.long (268 : Int64))])) _
                          refine XS.lloadN X97.here hx rfl (hb hby d4_28) rfl ?_
                          show Steps p.tables e below (T97.setTop (mkF m 29 #[.val (.long q0_), .second, .val (.ref nb2_1), .val (.int (14 : Int32)), .val (.int (11 : Int32)), .val (.ref w_FCHMODAT)] [(.long q0_), (.long (268 : Int64))])) _
                          refine XS.lcmp X97.here hx rfl (hb hby d4_29) rfl ?_
                          exact kt
                        by_cases hc99 : (268 : Int64) = q0_
                        · have pre100 : ∀ t, Steps p.tables e below (T97.setTop (mkF m 35 #[.val (.long q0_), .second, .val (.ref nb2_1), .val (.int (14 : Int32)), .val (.int (11 : Int32)), .val (.ref w_FCHMODAT)] [(.ref w_FCHMODAT)])) t → Steps p.tables e below (s₁.setTop (entryFrame m #[(.long q0_)] 6)) t := by
                            intro t kt
                            refine pre98 t ?_
                            show Steps p.tables e below (T97.setTop (mkF m 30 #[.val (.long q0_), .second, .val (.ref nb2_1), .val (.int (14 : Int32)), .val (.int (11 : Int32)), .val (.ref w_FCHMODAT)] [(.int (lcmpW (268 : Int64) q0_))])) _
                            refine XS.ifNo X97.here hx rfl (hb hby d4_30) rfl ((if0 _ _).trans (teq ((lw_eq _ _).mpr hc99)).2) ?_
                            show Steps p.tables e below (T97.setTop (mkF m 33 #[.val (.long q0_), .second, .val (.ref nb2_1), .val (.int (14 : Int32)), .val (.int (11 : Int32)), .val (.ref w_FCHMODAT)] [])) _
                            refine XS.aload X97.here hx rfl (hb hby d4_33) rfl rfl ?_
                            exact kt
                          have f102 : Keep h0 h1 [] := K0.trans K1 all0
                          obtain ⟨fs, hr, hrun, hended, hW, hsame⟩ := X97.leave (v := some (.ref w_FCHMODAT)) (fun h => by rw [Bd.returns] at h; cases h)
                          refine ⟨_, _, pre100 _ (retOut X97 hx Bd.returns rfl (Or.inr (Or.inr (Or.inr (Or.inr ⟨rfl, rfl, rfl⟩)))) (hb hby d4_35) hr), hrun, hended, _, _, rfl, ?_, ⟨_, rfl⟩, hW, hsame.mono (by decide) (by decide)⟩
                          show QOf Z q0_ w_OPEN w_CREAT w_OPENAT w_RENAME w_RENAMEAT w_RENAMEAT2 w_UNLINK w_UNLINKAT w_RMDIR w_CHMOD w_FCHMOD w_FCHMODAT w_CHOWN w_FCHOWNAT w__VALUES k_ h0 n0 _ T97.heap _
                          rw [e97]
                          exact ⟨(.ref w_FCHMODAT), rfl, (Or.inr (Or.inr (Or.inr (Or.inr (Or.inr (Or.inr (Or.inr (Or.inr (Or.inr (Or.inr (Or.inr (Or.inl ⟨rfl, hc11, hc19, hc27, hc35, hc43, hc51, hc59, hc67, hc75, hc83, hc91, hc99⟩)))))))))))), N2, f102⟩
                        · obtain ⟨c103, r103, q103, s103, z103, y103, G103⟩ := id g1_0
                          have hin103 : ¬ ((12 : Int32) < 0 ∨ c103.slots.size ≤ ((12 : Int32)).toNatClampNeg) := inb_of s103 ⟨by decide, by decide⟩
                          have hat103 : c103.slots[((12 : Int32)).toNatClampNeg]? = some (.ref w_CHOWN) := Has.at y103 hin103 rfl
                          have f104 : Fld Z h1 w_CHOWN "com/example/aeacus/aeacus/audit/Syscall" "number" "I" (.int (92 : Int32)) := P38.ext f7.2
                          obtain ⟨T105, X105, e105, st105⟩ := getF X97 hx hZ hown (host := "") (Or.inl (hw _ (List.mem_of_getElem? (i := 38) rfl))) Via.refl e97 f104 (g := (mkF m 24 #[.val (.long q0_), .second, .val (.ref nb2_1), .val (.int (14 : Int32)), .val (.int (12 : Int32)), .val (.ref w_CHOWN)] [(.ref w_CHOWN)])) rfl rfl (hb hby d4_24)
                          have pre106 : ∀ t, Steps p.tables e below (T105.setTop (mkF m 30 #[.val (.long q0_), .second, .val (.ref nb2_1), .val (.int (14 : Int32)), .val (.int (12 : Int32)), .val (.ref w_CHOWN)] [(.int (lcmpW (92 : Int64) q0_))])) t → Steps p.tables e below (s₁.setTop (entryFrame m #[(.long q0_)] 6)) t := by
                            intro t kt
                            refine pre98 t ?_
                            show Steps p.tables e below (T97.setTop (mkF m 30 #[.val (.long q0_), .second, .val (.ref nb2_1), .val (.int (14 : Int32)), .val (.int (11 : Int32)), .val (.ref w_FCHMODAT)] [(.int (lcmpW (268 : Int64) q0_))])) _
                            refine XS.ifYes X97.here hx rfl (pc0 := 30) (pc' := 36) rfl (hb hby d4_30) rfl ((if0 _ _).trans (feq (fun z => hc99 ((lw_eq _ _).mp z))).2) (by decide) (by decide) ?_
                            show Steps p.tables e below (T97.setTop (mkF m 36 #[.val (.long q0_), .second, .val (.ref nb2_1), .val (.int (14 : Int32)), .val (.int (11 : Int32)), .val (.ref w_FCHMODAT)] [])) _
                            refine XS.iinc X97.here hx rfl (hb hby d4_36) rfl (l' := #[.val (.long q0_), .second, .val (.ref nb2_1), .val (.int (14 : Int32)), .val (.int (12 : Int32)), .val (.ref w_FCHMODAT)]) rfl ?_
                            show Steps p.tables e below (T97.setTop (mkF m 39 #[.val (.long q0_), .second, .val (.ref nb2_1), .val (.int (14 : Int32)), .val (.int (12 : Int32)), .val (.ref w_FCHMODAT)] [])) _
                            refine XS.goto X97.here hx rfl (pc0 := 39) (pc' := 10) rfl (hb hby d4_39) (by decide) (by decide) ?_
                            show Steps p.tables e below (T97.setTop (mkF m 10 #[.val (.long q0_), .second, .val (.ref nb2_1), .val (.int (14 : Int32)), .val (.int (12 : Int32)), .val (.ref w_FCHMODAT)] [])) _
                            refine XS.iload X97.here hx rfl (hb hby d4_10) rfl ?_
                            show Steps p.tables e below (T97.setTop (mkF m 12 #[.val (.long q0_), .second, .val (.ref nb2_1), .val (.int (14 : Int32)), .val (.int (12 : Int32)), .val (.ref w_FCHMODAT)] [(.int (12 : Int32))])) _
                            refine XS.iloadN X97.here hx rfl (hb hby d4_12) rfl ?_
                            show Steps p.tables e below (T97.setTop (mkF m 13 #[.val (.long q0_), .second, .val (.ref nb2_1), .val (.int (14 : Int32)), .val (.int (12 : Int32)), .val (.ref w_FCHMODAT)] [(.int (14 : Int32)), (.int (12 : Int32))])) _
                            refine XS.icmpNo X97.here hx rfl (hb hby d4_13) rfl (tlt (by decide : (12 : Int32) < (14 : Int32))).2.1 ?_
                            show Steps p.tables e below (T97.setTop (mkF m 16 #[.val (.long q0_), .second, .val (.ref nb2_1), .val (.int (14 : Int32)), .val (.int (12 : Int32)), .val (.ref w_FCHMODAT)] [])) _
                            refine XS.aloadN X97.here hx rfl (hb hby d4_16) rfl rfl ?_
                            show Steps p.tables e below (T97.setTop (mkF m 17 #[.val (.long q0_), .second, .val (.ref nb2_1), .val (.int (14 : Int32)), .val (.int (12 : Int32)), .val (.ref w_FCHMODAT)] [(.ref nb2_1)])) _
                            refine XS.iload X97.here hx rfl (hb hby d4_17) rfl ?_
                            show Steps p.tables e below (T97.setTop (mkF m 19 #[.val (.long q0_), .second, .val (.ref nb2_1), .val (.int (14 : Int32)), .val (.int (12 : Int32)), .val (.ref w_FCHMODAT)] [(.int (12 : Int32)), (.ref nb2_1)])) _
                            refine X97.aaload hx (j := (12 : Int32)) (v := (.ref w_CHOWN)) (by rw [e97]; exact r103.1) (State.isArrayOf_alike hZ.alike r103.2.1) rfl r103.2.2 hin103 hat103 (g := (mkF m 19 #[.val (.long q0_), .second, .val (.ref nb2_1), .val (.int (14 : Int32)), .val (.int (12 : Int32)), .val (.ref w_FCHMODAT)] [(.int (12 : Int32)), (.ref nb2_1)])) rfl rfl (hb hby d4_19) _ ?_
                            show Steps p.tables e below (T97.setTop (mkF m 20 #[.val (.long q0_), .second, .val (.ref nb2_1), .val (.int (14 : Int32)), .val (.int (12 : Int32)), .val (.ref w_FCHMODAT)] [(.ref w_CHOWN)])) _
                            refine XS.astore X97.here hx rfl (hb hby d4_20) rfl rfl (l' := #[.val (.long q0_), .second, .val (.ref nb2_1), .val (.int (14 : Int32)), .val (.int (12 : Int32)), .val (.ref w_CHOWN)]) rfl ?_
                            show Steps p.tables e below (T97.setTop (mkF m 22 #[.val (.long q0_), .second, .val (.ref nb2_1), .val (.int (14 : Int32)), .val (.int (12 : Int32)), .val (.ref w_CHOWN)] [])) _
                            refine XS.aload X97.here hx rfl (hb hby d4_22) rfl rfl ?_
                            show Steps p.tables e below (T97.setTop (mkF m 24 #[.val (.long q0_), .second, .val (.ref nb2_1), .val (.int (14 : Int32)), .val (.int (12 : Int32)), .val (.ref w_CHOWN)] [(.ref w_CHOWN)])) _
                            refine st105 _ ?_
                            show Steps p.tables e below (T105.setTop (mkF m 27 #[.val (.long q0_), .second, .val (.ref nb2_1), .val (.int (14 : Int32)), .val (.int (12 : Int32)), .val (.ref w_CHOWN)] [(.int (92 : Int32))])) _
                            refine XS.i2l X105.here hx rfl (hb hby d4_27) rfl ?_
                            show Steps p.tables e below (T105.setTop (mkF m 28 #[.val (.long q0_), .second, .val (.ref nb2_1), .val (.int (14 : Int32)), .val (.int (12 : Int32)), .val (.ref w_CHOWN)] [(.long (92 : Int64))])) _
                            refine XS.lloadN X105.here hx rfl (hb hby d4_28) rfl ?_
                            show Steps p.tables e below (T105.setTop (mkF m 29 #[.val (.long q0_), .second, .val (.ref nb2_1), .val (.int (14 : Int32)), .val (.int (12 : Int32)), .val (.ref w_CHOWN)] [(.long q0_), (.long (92 : Int64))])) _
                            refine XS.lcmp X105.here hx rfl (hb hby d4_29) rfl ?_
                            exact kt
                          by_cases hc107 : (92 : Int64) = q0_
                          · have pre108 : ∀ t, Steps p.tables e below (T105.setTop (mkF m 35 #[.val (.long q0_), .second, .val (.ref nb2_1), .val (.int (14 : Int32)), .val (.int (12 : Int32)), .val (.ref w_CHOWN)] [(.ref w_CHOWN)])) t → Steps p.tables e below (s₁.setTop (entryFrame m #[(.long q0_)] 6)) t := by
                              intro t kt
                              refine pre106 t ?_
                              show Steps p.tables e below (T105.setTop (mkF m 30 #[.val (.long q0_), .second, .val (.ref nb2_1), .val (.int (14 : Int32)), .val (.int (12 : Int32)), .val (.ref w_CHOWN)] [(.int (lcmpW (92 : Int64) q0_))])) _
                              refine XS.ifNo X105.here hx rfl (hb hby d4_30) rfl ((if0 _ _).trans (teq ((lw_eq _ _).mpr hc107)).2) ?_
                              show Steps p.tables e below (T105.setTop (mkF m 33 #[.val (.long q0_), .second, .val (.ref nb2_1), .val (.int (14 : Int32)), .val (.int (12 : Int32)), .val (.ref w_CHOWN)] [])) _
                              refine XS.aload X105.here hx rfl (hb hby d4_33) rfl rfl ?_
                              exact kt
                            have f110 : Keep h0 h1 [] := K0.trans K1 all0
                            obtain ⟨fs, hr, hrun, hended, hW, hsame⟩ := X105.leave (v := some (.ref w_CHOWN)) (fun h => by rw [Bd.returns] at h; cases h)
                            refine ⟨_, _, pre108 _ (retOut X105 hx Bd.returns rfl (Or.inr (Or.inr (Or.inr (Or.inr ⟨rfl, rfl, rfl⟩)))) (hb hby d4_35) hr), hrun, hended, _, _, rfl, ?_, ⟨_, rfl⟩, hW, hsame.mono (by decide) (by decide)⟩
                            show QOf Z q0_ w_OPEN w_CREAT w_OPENAT w_RENAME w_RENAMEAT w_RENAMEAT2 w_UNLINK w_UNLINKAT w_RMDIR w_CHMOD w_FCHMOD w_FCHMODAT w_CHOWN w_FCHOWNAT w__VALUES k_ h0 n0 _ T105.heap _
                            rw [e105]
                            exact ⟨(.ref w_CHOWN), rfl, (Or.inr (Or.inr (Or.inr (Or.inr (Or.inr (Or.inr (Or.inr (Or.inr (Or.inr (Or.inr (Or.inr (Or.inr (Or.inl ⟨rfl, hc11, hc19, hc27, hc35, hc43, hc51, hc59, hc67, hc75, hc83, hc91, hc99, hc107⟩))))))))))))), N2, f110⟩
                          · obtain ⟨c111, r111, q111, s111, z111, y111, G111⟩ := id g1_0
                            have hin111 : ¬ ((13 : Int32) < 0 ∨ c111.slots.size ≤ ((13 : Int32)).toNatClampNeg) := inb_of s111 ⟨by decide, by decide⟩
                            have hat111 : c111.slots[((13 : Int32)).toNatClampNeg]? = some (.ref w_FCHOWNAT) := Has.at y111 hin111 rfl
                            have f112 : Fld Z h1 w_FCHOWNAT "com/example/aeacus/aeacus/audit/Syscall" "number" "I" (.int (260 : Int32)) := P41.ext f7.2
                            obtain ⟨T113, X113, e113, st113⟩ := getF X105 hx hZ hown (host := "") (Or.inl (hw _ (List.mem_of_getElem? (i := 38) rfl))) Via.refl e105 f112 (g := (mkF m 24 #[.val (.long q0_), .second, .val (.ref nb2_1), .val (.int (14 : Int32)), .val (.int (13 : Int32)), .val (.ref w_FCHOWNAT)] [(.ref w_FCHOWNAT)])) rfl rfl (hb hby d4_24)
                            have pre114 : ∀ t, Steps p.tables e below (T113.setTop (mkF m 30 #[.val (.long q0_), .second, .val (.ref nb2_1), .val (.int (14 : Int32)), .val (.int (13 : Int32)), .val (.ref w_FCHOWNAT)] [(.int (lcmpW (260 : Int64) q0_))])) t → Steps p.tables e below (s₁.setTop (entryFrame m #[(.long q0_)] 6)) t := by
                              intro t kt
                              refine pre106 t ?_
                              show Steps p.tables e below (T105.setTop (mkF m 30 #[.val (.long q0_), .second, .val (.ref nb2_1), .val (.int (14 : Int32)), .val (.int (12 : Int32)), .val (.ref w_CHOWN)] [(.int (lcmpW (92 : Int64) q0_))])) _
                              refine XS.ifYes X105.here hx rfl (pc0 := 30) (pc' := 36) rfl (hb hby d4_30) rfl ((if0 _ _).trans (feq (fun z => hc107 ((lw_eq _ _).mp z))).2) (by decide) (by decide) ?_
                              show Steps p.tables e below (T105.setTop (mkF m 36 #[.val (.long q0_), .second, .val (.ref nb2_1), .val (.int (14 : Int32)), .val (.int (12 : Int32)), .val (.ref w_CHOWN)] [])) _
                              refine XS.iinc X105.here hx rfl (hb hby d4_36) rfl (l' := #[.val (.long q0_), .second, .val (.ref nb2_1), .val (.int (14 : Int32)), .val (.int (13 : Int32)), .val (.ref w_CHOWN)]) rfl ?_
                              show Steps p.tables e below (T105.setTop (mkF m 39 #[.val (.long q0_), .second, .val (.ref nb2_1), .val (.int (14 : Int32)), .val (.int (13 : Int32)), .val (.ref w_CHOWN)] [])) _
                              refine XS.goto X105.here hx rfl (pc0 := 39) (pc' := 10) rfl (hb hby d4_39) (by decide) (by decide) ?_
                              show Steps p.tables e below (T105.setTop (mkF m 10 #[.val (.long q0_), .second, .val (.ref nb2_1), .val (.int (14 : Int32)), .val (.int (13 : Int32)), .val (.ref w_CHOWN)] [])) _
                              refine XS.iload X105.here hx rfl (hb hby d4_10) rfl ?_
                              show Steps p.tables e below (T105.setTop (mkF m 12 #[.val (.long q0_), .second, .val (.ref nb2_1), .val (.int (14 : Int32)), .val (.int (13 : Int32)), .val (.ref w_CHOWN)] [(.int (13 : Int32))])) _
                              refine XS.iloadN X105.here hx rfl (hb hby d4_12) rfl ?_
                              show Steps p.tables e below (T105.setTop (mkF m 13 #[.val (.long q0_), .second, .val (.ref nb2_1), .val (.int (14 : Int32)), .val (.int (13 : Int32)), .val (.ref w_CHOWN)] [(.int (14 : Int32)), (.int (13 : Int32))])) _
                              refine XS.icmpNo X105.here hx rfl (hb hby d4_13) rfl (tlt (by decide : (13 : Int32) < (14 : Int32))).2.1 ?_
                              show Steps p.tables e below (T105.setTop (mkF m 16 #[.val (.long q0_), .second, .val (.ref nb2_1), .val (.int (14 : Int32)), .val (.int (13 : Int32)), .val (.ref w_CHOWN)] [])) _
                              refine XS.aloadN X105.here hx rfl (hb hby d4_16) rfl rfl ?_
                              show Steps p.tables e below (T105.setTop (mkF m 17 #[.val (.long q0_), .second, .val (.ref nb2_1), .val (.int (14 : Int32)), .val (.int (13 : Int32)), .val (.ref w_CHOWN)] [(.ref nb2_1)])) _
                              refine XS.iload X105.here hx rfl (hb hby d4_17) rfl ?_
                              show Steps p.tables e below (T105.setTop (mkF m 19 #[.val (.long q0_), .second, .val (.ref nb2_1), .val (.int (14 : Int32)), .val (.int (13 : Int32)), .val (.ref w_CHOWN)] [(.int (13 : Int32)), (.ref nb2_1)])) _
                              refine X105.aaload hx (j := (13 : Int32)) (v := (.ref w_FCHOWNAT)) (by rw [e105]; exact r111.1) (State.isArrayOf_alike hZ.alike r111.2.1) rfl r111.2.2 hin111 hat111 (g := (mkF m 19 #[.val (.long q0_), .second, .val (.ref nb2_1), .val (.int (14 : Int32)), .val (.int (13 : Int32)), .val (.ref w_CHOWN)] [(.int (13 : Int32)), (.ref nb2_1)])) rfl rfl (hb hby d4_19) _ ?_
                              show Steps p.tables e below (T105.setTop (mkF m 20 #[.val (.long q0_), .second, .val (.ref nb2_1), .val (.int (14 : Int32)), .val (.int (13 : Int32)), .val (.ref w_CHOWN)] [(.ref w_FCHOWNAT)])) _
                              refine XS.astore X105.here hx rfl (hb hby d4_20) rfl rfl (l' := #[.val (.long q0_), .second, .val (.ref nb2_1), .val (.int (14 : Int32)), .val (.int (13 : Int32)), .val (.ref w_FCHOWNAT)]) rfl ?_
                              show Steps p.tables e below (T105.setTop (mkF m 22 #[.val (.long q0_), .second, .val (.ref nb2_1), .val (.int (14 : Int32)), .val (.int (13 : Int32)), .val (.ref w_FCHOWNAT)] [])) _
                              refine XS.aload X105.here hx rfl (hb hby d4_22) rfl rfl ?_
                              show Steps p.tables e below (T105.setTop (mkF m 24 #[.val (.long q0_), .second, .val (.ref nb2_1), .val (.int (14 : Int32)), .val (.int (13 : Int32)), .val (.ref w_FCHOWNAT)] [(.ref w_FCHOWNAT)])) _
                              refine st113 _ ?_
                              show Steps p.tables e below (T113.setTop (mkF m 27 #[.val (.long q0_), .second, .val (.ref nb2_1), .val (.int (14 : Int32)), .val (.int (13 : Int32)), .val (.ref w_FCHOWNAT)] [(.int (260 : Int32))])) _
                              refine XS.i2l X113.here hx rfl (hb hby d4_27) rfl ?_
                              show Steps p.tables e below (T113.setTop (mkF m 28 #[.val (.long q0_), .second, .val (.ref nb2_1), .val (.int (14 : Int32)), .val (.int (13 : Int32)), .val (.ref w_FCHOWNAT)] [(.long (260 : Int64))])) _
                              refine XS.lloadN X113.here hx rfl (hb hby d4_28) rfl ?_
                              show Steps p.tables e below (T113.setTop (mkF m 29 #[.val (.long q0_), .second, .val (.ref nb2_1), .val (.int (14 : Int32)), .val (.int (13 : Int32)), .val (.ref w_FCHOWNAT)] [(.long q0_), (.long (260 : Int64))])) _
                              refine XS.lcmp X113.here hx rfl (hb hby d4_29) rfl ?_
                              exact kt
                            by_cases hc115 : (260 : Int64) = q0_
                            · have pre116 : ∀ t, Steps p.tables e below (T113.setTop (mkF m 35 #[.val (.long q0_), .second, .val (.ref nb2_1), .val (.int (14 : Int32)), .val (.int (13 : Int32)), .val (.ref w_FCHOWNAT)] [(.ref w_FCHOWNAT)])) t → Steps p.tables e below (s₁.setTop (entryFrame m #[(.long q0_)] 6)) t := by
                                intro t kt
                                refine pre114 t ?_
                                show Steps p.tables e below (T113.setTop (mkF m 30 #[.val (.long q0_), .second, .val (.ref nb2_1), .val (.int (14 : Int32)), .val (.int (13 : Int32)), .val (.ref w_FCHOWNAT)] [(.int (lcmpW (260 : Int64) q0_))])) _
                                refine XS.ifNo X113.here hx rfl (hb hby d4_30) rfl ((if0 _ _).trans (teq ((lw_eq _ _).mpr hc115)).2) ?_
                                show Steps p.tables e below (T113.setTop (mkF m 33 #[.val (.long q0_), .second, .val (.ref nb2_1), .val (.int (14 : Int32)), .val (.int (13 : Int32)), .val (.ref w_FCHOWNAT)] [])) _
                                refine XS.aload X113.here hx rfl (hb hby d4_33) rfl rfl ?_
                                exact kt
                              have f118 : Keep h0 h1 [] := K0.trans K1 all0
                              obtain ⟨fs, hr, hrun, hended, hW, hsame⟩ := X113.leave (v := some (.ref w_FCHOWNAT)) (fun h => by rw [Bd.returns] at h; cases h)
                              refine ⟨_, _, pre116 _ (retOut X113 hx Bd.returns rfl (Or.inr (Or.inr (Or.inr (Or.inr ⟨rfl, rfl, rfl⟩)))) (hb hby d4_35) hr), hrun, hended, _, _, rfl, ?_, ⟨_, rfl⟩, hW, hsame.mono (by decide) (by decide)⟩
                              show QOf Z q0_ w_OPEN w_CREAT w_OPENAT w_RENAME w_RENAMEAT w_RENAMEAT2 w_UNLINK w_UNLINKAT w_RMDIR w_CHMOD w_FCHMOD w_FCHMODAT w_CHOWN w_FCHOWNAT w__VALUES k_ h0 n0 _ T113.heap _
                              rw [e113]
                              exact ⟨(.ref w_FCHOWNAT), rfl, (Or.inr (Or.inr (Or.inr (Or.inr (Or.inr (Or.inr (Or.inr (Or.inr (Or.inr (Or.inr (Or.inr (Or.inr (Or.inr (Or.inl ⟨rfl, hc11, hc19, hc27, hc35, hc43, hc51, hc59, hc67, hc75, hc83, hc91, hc99, hc107, hc115⟩)))))))))))))), N2, f118⟩
                            · have pre119 : ∀ t, Steps p.tables e below (T113.setTop (mkF m 43 #[.val (.long q0_), .second, .val (.ref nb2_1), .val (.int (14 : Int32)), .val (.int (14 : Int32)), .val (.ref w_FCHOWNAT)] [.null])) t → Steps p.tables e below (s₁.setTop (entryFrame m #[(.long q0_)] 6)) t := by
                                intro t kt
                                refine pre114 t ?_
                                show Steps p.tables e below (T113.setTop (mkF m 30 #[.val (.long q0_), .second, .val (.ref nb2_1), .val (.int (14 : Int32)), .val (.int (13 : Int32)), .val (.ref w_FCHOWNAT)] [(.int (lcmpW (260 : Int64) q0_))])) _
                                refine XS.ifYes X113.here hx rfl (pc0 := 30) (pc' := 36) rfl (hb hby d4_30) rfl ((if0 _ _).trans (feq (fun z => hc115 ((lw_eq _ _).mp z))).2) (by decide) (by decide) ?_
                                show Steps p.tables e below (T113.setTop (mkF m 36 #[.val (.long q0_), .second, .val (.ref nb2_1), .val (.int (14 : Int32)), .val (.int (13 : Int32)), .val (.ref w_FCHOWNAT)] [])) _
                                refine XS.iinc X113.here hx rfl (hb hby d4_36) rfl (l' := #[.val (.long q0_), .second, .val (.ref nb2_1), .val (.int (14 : Int32)), .val (.int (14 : Int32)), .val (.ref w_FCHOWNAT)]) rfl ?_
                                show Steps p.tables e below (T113.setTop (mkF m 39 #[.val (.long q0_), .second, .val (.ref nb2_1), .val (.int (14 : Int32)), .val (.int (14 : Int32)), .val (.ref w_FCHOWNAT)] [])) _
                                refine XS.goto X113.here hx rfl (pc0 := 39) (pc' := 10) rfl (hb hby d4_39) (by decide) (by decide) ?_
                                show Steps p.tables e below (T113.setTop (mkF m 10 #[.val (.long q0_), .second, .val (.ref nb2_1), .val (.int (14 : Int32)), .val (.int (14 : Int32)), .val (.ref w_FCHOWNAT)] [])) _
                                refine XS.iload X113.here hx rfl (hb hby d4_10) rfl ?_
                                show Steps p.tables e below (T113.setTop (mkF m 12 #[.val (.long q0_), .second, .val (.ref nb2_1), .val (.int (14 : Int32)), .val (.int (14 : Int32)), .val (.ref w_FCHOWNAT)] [(.int (14 : Int32))])) _
                                refine XS.iloadN X113.here hx rfl (hb hby d4_12) rfl ?_
                                show Steps p.tables e below (T113.setTop (mkF m 13 #[.val (.long q0_), .second, .val (.ref nb2_1), .val (.int (14 : Int32)), .val (.int (14 : Int32)), .val (.ref w_FCHOWNAT)] [(.int (14 : Int32)), (.int (14 : Int32))])) _
                                refine XS.icmpYes X113.here hx rfl (pc0 := 13) (pc' := 42) rfl (hb hby d4_13) rfl (flt (by decide : ¬ ((14 : Int32) < (14 : Int32)))).2.1 (by decide) (by decide) ?_
                                show Steps p.tables e below (T113.setTop (mkF m 42 #[.val (.long q0_), .second, .val (.ref nb2_1), .val (.int (14 : Int32)), .val (.int (14 : Int32)), .val (.ref w_FCHOWNAT)] [])) _
                                refine XS.aconstNull X113.here hx rfl (hb hby d4_42) ?_
                                exact kt
                              have f121 : Keep h0 h1 [] := K0.trans K1 all0
                              obtain ⟨fs, hr, hrun, hended, hW, hsame⟩ := X113.leave (v := some .null) (fun h => by rw [Bd.returns] at h; cases h)
                              refine ⟨_, _, pre119 _ (retOut X113 hx Bd.returns rfl (Or.inr (Or.inr (Or.inr (Or.inr ⟨rfl, rfl, rfl⟩)))) (hb hby d4_43) hr), hrun, hended, _, _, rfl, ?_, ⟨_, rfl⟩, hW, hsame.mono (by decide) (by decide)⟩
                              show QOf Z q0_ w_OPEN w_CREAT w_OPENAT w_RENAME w_RENAMEAT w_RENAMEAT2 w_UNLINK w_UNLINKAT w_RMDIR w_CHMOD w_FCHMOD w_FCHMODAT w_CHOWN w_FCHOWNAT w__VALUES k_ h0 n0 _ T113.heap _
                              rw [e113]
                              exact ⟨.null, rfl, (Or.inr (Or.inr (Or.inr (Or.inr (Or.inr (Or.inr (Or.inr (Or.inr (Or.inr (Or.inr (Or.inr (Or.inr (Or.inr (Or.inr ⟨rfl, hc11, hc19, hc27, hc35, hc43, hc51, hc59, hc67, hc75, hc83, hc91, hc99, hc107, hc115⟩)))))))))))))), N2, f121⟩
theorem pd_1 : parseMethodDescriptor "(I)J" = some ⟨[.int], some .long⟩ := by decide +kernel
theorem pd_2 : parseMethodDescriptor "(J)Lcom/example/aeacus/aeacus/audit/Syscall;" = some ⟨[.long], some (.object "com/example/aeacus/aeacus/audit/Syscall")⟩ := by decide +kernel
theorem efLaw (m : MethodId) (q0_ : Int64) (p1_ : Int32) : entryFrame m #[(.long q0_), (.int p1_)] maxLocals = mkF m 0 #[.val (.long q0_), .second, .val (.int p1_), .unset, .unset, .unset] [] := by first | (simp [entryFrame, mkF, argsToLocals, Value.category, maxLocals]; done) | rfl
def QLaw (Z : State) (q0_ : Int64) (p1_ : Int32) (w_OPEN : Addr) (w_CREAT : Addr) (w_OPENAT : Addr) (w_RENAME : Addr) (w_RENAMEAT : Addr) (w_RENAMEAT2 : Addr) (w_UNLINK : Addr) (w_UNLINKAT : Addr) (w_RMDIR : Addr) (w_CHMOD : Addr) (w_FCHMOD : Addr) (w_FCHMODAT : Addr) (w_CHOWN : Addr) (w_FCHOWNAT : Addr) (w__VALUES : Addr) (k_ : ClassId) (h0 : Heap) (n0 : Nat) (v : Option Value) (h : Heap) (L : List Loc) : Prop := v = some (.int (1 : Int32)) ∧ Fr n0 L
set_option maxRecDepth 65536 in
set_option maxHeartbeats 40000000 in
theorem rmLaw (l : Launch) (Z : State) (a0 : Array Value) (hw : ∀ d ∈ tables_1, d.before a0 Z = true) (ws : List Jvm.Cond) (q0_ : Int64) (p1_ : Int32) (w_OPEN : Addr) (w_CREAT : Addr) (w_OPENAT : Addr) (w_RENAME : Addr) (w_RENAMEAT : Addr) (w_RENAMEAT2 : Addr) (w_UNLINK : Addr) (w_UNLINKAT : Addr) (w_RMDIR : Addr) (w_CHMOD : Addr) (w_FCHMOD : Addr) (w_FCHMODAT : Addr) (w_CHOWN : Addr) (w_FCHOWNAT : Addr) (w__VALUES : Addr) (k_ : ClassId) (h0 : Heap) (n0 : Nat) (O0 : Old Z n0 h0) (P0 : Sta Z Z.heap "com/example/aeacus/aeacus/audit/Syscall" "OPEN" "Lcom/example/aeacus/aeacus/audit/Syscall;" (.ref w_OPEN)) (P1 : Exa Z Z.heap w_OPEN "com/example/aeacus/aeacus/audit/Syscall") (P2 : Fld Z Z.heap w_OPEN "com/example/aeacus/aeacus/audit/Syscall" "number" "I" (.int (2 : Int32))) (P3 : Sta Z Z.heap "com/example/aeacus/aeacus/audit/Syscall" "CREAT" "Lcom/example/aeacus/aeacus/audit/Syscall;" (.ref w_CREAT)) (P4 : Exa Z Z.heap w_CREAT "com/example/aeacus/aeacus/audit/Syscall") (P5 : Fld Z Z.heap w_CREAT "com/example/aeacus/aeacus/audit/Syscall" "number" "I" (.int (85 : Int32))) (P6 : Sta Z Z.heap "com/example/aeacus/aeacus/audit/Syscall" "OPENAT" "Lcom/example/aeacus/aeacus/audit/Syscall;" (.ref w_OPENAT)) (P7 : Exa Z Z.heap w_OPENAT "com/example/aeacus/aeacus/audit/Syscall") (P8 : Fld Z Z.heap w_OPENAT "com/example/aeacus/aeacus/audit/Syscall" "number" "I" (.int (257 : Int32))) (P9 : Sta Z Z.heap "com/example/aeacus/aeacus/audit/Syscall" "RENAME" "Lcom/example/aeacus/aeacus/audit/Syscall;" (.ref w_RENAME)) (P10 : Exa Z Z.heap w_RENAME "com/example/aeacus/aeacus/audit/Syscall") (P11 : Fld Z Z.heap w_RENAME "com/example/aeacus/aeacus/audit/Syscall" "number" "I" (.int (82 : Int32))) (P12 : Sta Z Z.heap "com/example/aeacus/aeacus/audit/Syscall" "RENAMEAT" "Lcom/example/aeacus/aeacus/audit/Syscall;" (.ref w_RENAMEAT)) (P13 : Exa Z Z.heap w_RENAMEAT "com/example/aeacus/aeacus/audit/Syscall") (P14 : Fld Z Z.heap w_RENAMEAT "com/example/aeacus/aeacus/audit/Syscall" "number" "I" (.int (264 : Int32))) (P15 : Sta Z Z.heap "com/example/aeacus/aeacus/audit/Syscall" "RENAMEAT2" "Lcom/example/aeacus/aeacus/audit/Syscall;" (.ref w_RENAMEAT2)) (P16 : Exa Z Z.heap w_RENAMEAT2 "com/example/aeacus/aeacus/audit/Syscall") (P17 : Fld Z Z.heap w_RENAMEAT2 "com/example/aeacus/aeacus/audit/Syscall" "number" "I" (.int (316 : Int32))) (P18 : Sta Z Z.heap "com/example/aeacus/aeacus/audit/Syscall" "UNLINK" "Lcom/example/aeacus/aeacus/audit/Syscall;" (.ref w_UNLINK)) (P19 : Exa Z Z.heap w_UNLINK "com/example/aeacus/aeacus/audit/Syscall") (P20 : Fld Z Z.heap w_UNLINK "com/example/aeacus/aeacus/audit/Syscall" "number" "I" (.int (87 : Int32))) (P21 : Sta Z Z.heap "com/example/aeacus/aeacus/audit/Syscall" "UNLINKAT" "Lcom/example/aeacus/aeacus/audit/Syscall;" (.ref w_UNLINKAT)) (P22 : Exa Z Z.heap w_UNLINKAT "com/example/aeacus/aeacus/audit/Syscall") (P23 : Fld Z Z.heap w_UNLINKAT "com/example/aeacus/aeacus/audit/Syscall" "number" "I" (.int (263 : Int32))) (P24 : Sta Z Z.heap "com/example/aeacus/aeacus/audit/Syscall" "RMDIR" "Lcom/example/aeacus/aeacus/audit/Syscall;" (.ref w_RMDIR)) (P25 : Exa Z Z.heap w_RMDIR "com/example/aeacus/aeacus/audit/Syscall") (P26 : Fld Z Z.heap w_RMDIR "com/example/aeacus/aeacus/audit/Syscall" "number" "I" (.int (84 : Int32))) (P27 : Sta Z Z.heap "com/example/aeacus/aeacus/audit/Syscall" "CHMOD" "Lcom/example/aeacus/aeacus/audit/Syscall;" (.ref w_CHMOD)) (P28 : Exa Z Z.heap w_CHMOD "com/example/aeacus/aeacus/audit/Syscall") (P29 : Fld Z Z.heap w_CHMOD "com/example/aeacus/aeacus/audit/Syscall" "number" "I" (.int (90 : Int32))) (P30 : Sta Z Z.heap "com/example/aeacus/aeacus/audit/Syscall" "FCHMOD" "Lcom/example/aeacus/aeacus/audit/Syscall;" (.ref w_FCHMOD)) (P31 : Exa Z Z.heap w_FCHMOD "com/example/aeacus/aeacus/audit/Syscall") (P32 : Fld Z Z.heap w_FCHMOD "com/example/aeacus/aeacus/audit/Syscall" "number" "I" (.int (91 : Int32))) (P33 : Sta Z Z.heap "com/example/aeacus/aeacus/audit/Syscall" "FCHMODAT" "Lcom/example/aeacus/aeacus/audit/Syscall;" (.ref w_FCHMODAT)) (P34 : Exa Z Z.heap w_FCHMODAT "com/example/aeacus/aeacus/audit/Syscall") (P35 : Fld Z Z.heap w_FCHMODAT "com/example/aeacus/aeacus/audit/Syscall" "number" "I" (.int (268 : Int32))) (P36 : Sta Z Z.heap "com/example/aeacus/aeacus/audit/Syscall" "CHOWN" "Lcom/example/aeacus/aeacus/audit/Syscall;" (.ref w_CHOWN)) (P37 : Exa Z Z.heap w_CHOWN "com/example/aeacus/aeacus/audit/Syscall") (P38 : Fld Z Z.heap w_CHOWN "com/example/aeacus/aeacus/audit/Syscall" "number" "I" (.int (92 : Int32))) (P39 : Sta Z Z.heap "com/example/aeacus/aeacus/audit/Syscall" "FCHOWNAT" "Lcom/example/aeacus/aeacus/audit/Syscall;" (.ref w_FCHOWNAT)) (P40 : Exa Z Z.heap w_FCHOWNAT "com/example/aeacus/aeacus/audit/Syscall") (P41 : Fld Z Z.heap w_FCHOWNAT "com/example/aeacus/aeacus/audit/Syscall" "number" "I" (.int (260 : Int32))) (P42 : Sta Z Z.heap "com/example/aeacus/aeacus/audit/Syscall" "$VALUES" "[Lcom/example/aeacus/aeacus/audit/Syscall;" (.ref w__VALUES)) (P43 : Exa Z Z.heap w__VALUES "[Lcom/example/aeacus/aeacus/audit/Syscall;") (P44 : Arv Z Z.heap w__VALUES k_ (.object "com/example/aeacus/aeacus/audit/Syscall") (14 : Int32) [(.ref w_OPEN), (.ref w_CREAT), (.ref w_OPENAT), (.ref w_RENAME), (.ref w_RENAMEAT), (.ref w_RENAMEAT2), (.ref w_UNLINK), (.ref w_UNLINKAT), (.ref w_RMDIR), (.ref w_CHMOD), (.ref w_FCHMOD), (.ref w_FCHMODAT), (.ref w_CHOWN), (.ref w_FCHOWNAT)] .null) :
    MetFree l x (head1 (Jvm.Cond.code x code maxLocals ret :: ws) room_1) (fun a U => a = #[(.long q0_), (.int p1_)] ∧ Z.Warmed39 U.vm ∧ U.heap = h0) (fun _ _ _ _ _ => True) (fun _ U o U' => ∃ v L, o = .returned v ∧ QLaw Z q0_ p1_ w_OPEN w_CREAT w_OPENAT w_RENAME w_RENAMEAT w_RENAMEAT2 w_UNLINK w_UNLINKAT w_RMDIR w_CHMOD w_FCHMOD w_FCHMODAT w_CHOWN w_FCHOWNAT w__VALUES k_ h0 n0 v U'.heap L ∧ FrameEnd U o U' L room_1.cells room_1.slots) := by
  refine MetFree.of_bodySF (plainFor_of_name pn_1) hisR ?_
  intro p e s m args below meth c s₁ Bd hml0 hP hK
  obtain ⟨rfl, hZ, hh⟩ := hP
  have hx := Bd.exec
  have hby := Bd.bytes
  have hml : c.maxLocals = 6 := hml0
  have hown : s.vm.findClass "com/example/aeacus/aeacus/audit/SyscallOfPinLaw" = some m.cls := findClass_of_methodNamed Bd.named
  have hnm := (name_of_methodNamed Bd.named Bd.method).1
  have X0 : Stand p l e room_1 s m #[(.long q0_), (.int p1_)] below meth c s₁ [] 0 0 := Stand.of_body Bd
  have e0 : s₁.heap = h0 := by rw [← hh, Bd.state]; rfl
  have N0 := Fr.nil n0
  have pre0 : ∀ t, Steps p.tables e below (s₁.setTop (mkF m 0 #[.val (.long q0_), .second, .val (.int p1_), .unset, .unset, .unset] [])) t → Steps p.tables e below (s₁.setTop (entryFrame m #[(.long q0_), (.int p1_)] maxLocals)) t := fun t k => castTop (efLaw m q0_ p1_) k
  have K0 : Keep h0 h0 [] := Keep.refl _ _
  have pre1 : ∀ t, Steps p.tables e below (s₁.setTop (mkF m 8 #[.val (.long q0_), .second, .val (.int p1_), .val (.int (p1_ &&& (31 : Int32))), .unset, .unset] [(.int (14 : Int32)), (.int (p1_ &&& (31 : Int32)))])) t → Steps p.tables e below (s₁.setTop (entryFrame m #[(.long q0_), (.int p1_)] maxLocals)) t := by
    intro t kt
    refine pre0 t ?_
    show Steps p.tables e below (s₁.setTop (mkF m 0 #[.val (.long q0_), .second, .val (.int p1_), .unset, .unset, .unset] [])) _
    refine XS.iloadN X0.here hx rfl (hb hby at_0) rfl ?_
    show Steps p.tables e below (s₁.setTop (mkF m 1 #[.val (.long q0_), .second, .val (.int p1_), .unset, .unset, .unset] [(.int p1_)])) _
    refine XS.bipush X0.here hx rfl (hb hby at_1) ?_
    show Steps p.tables e below (s₁.setTop (mkF m 3 #[.val (.long q0_), .second, .val (.int p1_), .unset, .unset, .unset] [(.int (31 : Int32)), (.int p1_)])) _
    refine XS.iand X0.here hx rfl (hb hby at_3) rfl ?_
    show Steps p.tables e below (s₁.setTop (mkF m 4 #[.val (.long q0_), .second, .val (.int p1_), .unset, .unset, .unset] [(.int (p1_ &&& (31 : Int32)))])) _
    refine XS.istoreN X0.here hx rfl (hb hby at_4) rfl (l' := #[.val (.long q0_), .second, .val (.int p1_), .val (.int (p1_ &&& (31 : Int32))), .unset, .unset]) rfl ?_
    show Steps p.tables e below (s₁.setTop (mkF m 5 #[.val (.long q0_), .second, .val (.int p1_), .val (.int (p1_ &&& (31 : Int32))), .unset, .unset] [])) _
    refine XS.iloadN X0.here hx rfl (hb hby at_5) rfl ?_
    show Steps p.tables e below (s₁.setTop (mkF m 6 #[.val (.long q0_), .second, .val (.int p1_), .val (.int (p1_ &&& (31 : Int32))), .unset, .unset] [(.int (p1_ &&& (31 : Int32)))])) _
    refine XS.bipush X0.here hx rfl (hb hby at_6) ?_
    exact kt
  by_cases hc2 : (p1_ &&& (31 : Int32)) < (14 : Int32)
  · obtain ⟨_, _, ⟨T3, L3, k3, n3⟩, -, X3, ⟨Lc3, hQ3, l3, y3, z3⟩, st3⟩ := Jvm.LawKit.callS X0 hx (y := (⟨"com/example/aeacus/aeacus/audit/SyscallOfPinLaw", "number", "(I)J"⟩ : MethodName)) hown (mvT hZ (hw _ (List.mem_of_getElem? (i := 0) rfl))) (mvT hZ (hw _ (List.mem_of_getElem? (i := 1) rfl))) (mvT hZ (hw _ (List.mem_of_getElem? (i := 2) rfl))) (mvT hZ (hw _ (List.mem_of_getElem? (i := 3) rfl))) (by decide) (backOf (W := 0) (rmNum l Z a0 hw [] (p1_ &&& (31 : Int32)) h0 n0 O0 ) hZ (hw _ (List.mem_of_getElem? (i := 3) rfl)) (hw _ (List.mem_of_getElem? (i := 2) rfl)) (by decide) (by decide)) (g := (mkF m 12 #[.val (.long q0_), .second, .val (.int p1_), .val (.int (p1_ &&& (31 : Int32))), .unset, .unset] [(.int (p1_ &&& (31 : Int32)))])) rfl (by rw [hml]; rfl) (argsL := [(.int (p1_ &&& (31 : Int32)))]) (rest := []) (lenOf pd_1 rfl) rfl (by show 2 * 0 + _ ≤ _; exact Nat.le_of_eq rfl) (hb hby at_12) (fun _ _ => ⟨rfl, e0, (by decide : 0 + 0 ≤ _), (by decide : 0 + 0 ≤ _)⟩)
    dsimp only [Pt.U, Pt.locs, Pt.cells, Pt.slots] at X3 l3 y3 z3 st3 hQ3
    subst l3 y3 z3
    obtain ⟨h3, e3⟩ : ∃ z, T3.heap = z := ⟨_, rfl⟩
    rw [e3] at hQ3
    obtain ⟨rr3, rfl, hs3, N3q, hh3⟩ := hQ3
    have N4 := Fr.app N0 N3q
    have e3' : T3.heap = h0 := e3.trans hh3
    rcases hs3 with ⟨rfl, hq3_0_0⟩ | ⟨rfl, hq3_1_0, hq3_1_1⟩ | ⟨rfl, hq3_2_0, hq3_2_1, hq3_2_2⟩ | ⟨rfl, hq3_3_0, hq3_3_1, hq3_3_2, hq3_3_3⟩ | ⟨rfl, hq3_4_0, hq3_4_1, hq3_4_2, hq3_4_3, hq3_4_4⟩ | ⟨rfl, hq3_5_0, hq3_5_1, hq3_5_2, hq3_5_3, hq3_5_4, hq3_5_5⟩ | ⟨rfl, hq3_6_0, hq3_6_1, hq3_6_2, hq3_6_3, hq3_6_4, hq3_6_5, hq3_6_6⟩ | ⟨rfl, hq3_7_0, hq3_7_1, hq3_7_2, hq3_7_3, hq3_7_4, hq3_7_5, hq3_7_6, hq3_7_7⟩ | ⟨rfl, hq3_8_0, hq3_8_1, hq3_8_2, hq3_8_3, hq3_8_4, hq3_8_5, hq3_8_6, hq3_8_7, hq3_8_8⟩ | ⟨rfl, hq3_9_0, hq3_9_1, hq3_9_2, hq3_9_3, hq3_9_4, hq3_9_5, hq3_9_6, hq3_9_7, hq3_9_8, hq3_9_9⟩ | ⟨rfl, hq3_10_0, hq3_10_1, hq3_10_2, hq3_10_3, hq3_10_4, hq3_10_5, hq3_10_6, hq3_10_7, hq3_10_8, hq3_10_9, hq3_10_10⟩ | ⟨rfl, hq3_11_0, hq3_11_1, hq3_11_2, hq3_11_3, hq3_11_4, hq3_11_5, hq3_11_6, hq3_11_7, hq3_11_8, hq3_11_9, hq3_11_10, hq3_11_11⟩ | ⟨rfl, hq3_12_0, hq3_12_1, hq3_12_2, hq3_12_3, hq3_12_4, hq3_12_5, hq3_12_6, hq3_12_7, hq3_12_8, hq3_12_9, hq3_12_10, hq3_12_11, hq3_12_12⟩ | ⟨rfl, hq3_13_0, hq3_13_1, hq3_13_2, hq3_13_3, hq3_13_4, hq3_13_5, hq3_13_6, hq3_13_7, hq3_13_8, hq3_13_9, hq3_13_10, hq3_13_11, hq3_13_12⟩
    · obtain ⟨_, _, ⟨T5, L5, k5, n5⟩, -, X5, ⟨Lc5, hQ5, l5, y5, z5⟩, st5⟩ := Jvm.LawKit.callS X3 hx (y := (⟨"com/example/aeacus/aeacus/audit/Syscall", "of", "(J)Lcom/example/aeacus/aeacus/audit/Syscall;"⟩ : MethodName)) hown (mvT hZ (hw _ (List.mem_of_getElem? (i := 5) rfl))) (mvT hZ (hw _ (List.mem_of_getElem? (i := 6) rfl))) (mvT hZ (hw _ (List.mem_of_getElem? (i := 7) rfl))) (mvT hZ (hw _ (List.mem_of_getElem? (i := 8) rfl))) (by decide) (backOf (W := 0) (rmOf l Z a0 hw [] (2 : Int64) w_OPEN w_CREAT w_OPENAT w_RENAME w_RENAMEAT w_RENAMEAT2 w_UNLINK w_UNLINKAT w_RMDIR w_CHMOD w_FCHMOD w_FCHMODAT w_CHOWN w_FCHOWNAT w__VALUES k_ h0 n0 O0 P0 P1 P2 P3 P4 P5 P6 P7 P8 P9 P10 P11 P12 P13 P14 P15 P16 P17 P18 P19 P20 P21 P22 P23 P24 P25 P26 P27 P28 P29 P30 P31 P32 P33 P34 P35 P36 P37 P38 P39 P40 P41 P42 P43 P44) hZ (hw _ (List.mem_of_getElem? (i := 8) rfl)) (hw _ (List.mem_of_getElem? (i := 7) rfl)) (by decide) (by decide)) (g := (mkF m 23 #[.val (.long q0_), .second, .val (.int p1_), .val (.int (p1_ &&& (31 : Int32))), .val (.long (2 : Int64)), .second] [(.long (2 : Int64))])) rfl (by rw [hml]; rfl) (argsL := [(.long (2 : Int64))]) (rest := []) (lenOf pd_2 rfl) rfl (by show 2 * 0 + _ ≤ _; exact Nat.le_of_eq rfl) (hb hby at_23) (fun _ _ => ⟨rfl, e3', (by decide : 0 + 1 ≤ _), (by decide : 0 + 14 ≤ _)⟩)
      dsimp only [Pt.U, Pt.locs, Pt.cells, Pt.slots] at X5 l5 y5 z5 st5 hQ5
      subst l5 y5 z5
      obtain ⟨h5, e5⟩ : ∃ z, T5.heap = z := ⟨_, rfl⟩
      rw [e5] at hQ5
      obtain ⟨rr5, rfl, hs5, N5q, K5⟩ := hQ5
      have N6 := Fr.app N4 N5q
      rcases hs5 with ⟨rfl, hq5_0_0⟩ | ⟨rfl, hq5_1_0, hq5_1_1⟩ | ⟨rfl, hq5_2_0, hq5_2_1, hq5_2_2⟩ | ⟨rfl, hq5_3_0, hq5_3_1, hq5_3_2, hq5_3_3⟩ | ⟨rfl, hq5_4_0, hq5_4_1, hq5_4_2, hq5_4_3, hq5_4_4⟩ | ⟨rfl, hq5_5_0, hq5_5_1, hq5_5_2, hq5_5_3, hq5_5_4, hq5_5_5⟩ | ⟨rfl, hq5_6_0, hq5_6_1, hq5_6_2, hq5_6_3, hq5_6_4, hq5_6_5, hq5_6_6⟩ | ⟨rfl, hq5_7_0, hq5_7_1, hq5_7_2, hq5_7_3, hq5_7_4, hq5_7_5, hq5_7_6, hq5_7_7⟩ | ⟨rfl, hq5_8_0, hq5_8_1, hq5_8_2, hq5_8_3, hq5_8_4, hq5_8_5, hq5_8_6, hq5_8_7, hq5_8_8⟩ | ⟨rfl, hq5_9_0, hq5_9_1, hq5_9_2, hq5_9_3, hq5_9_4, hq5_9_5, hq5_9_6, hq5_9_7, hq5_9_8, hq5_9_9⟩ | ⟨rfl, hq5_10_0, hq5_10_1, hq5_10_2, hq5_10_3, hq5_10_4, hq5_10_5, hq5_10_6, hq5_10_7, hq5_10_8, hq5_10_9, hq5_10_10⟩ | ⟨rfl, hq5_11_0, hq5_11_1, hq5_11_2, hq5_11_3, hq5_11_4, hq5_11_5, hq5_11_6, hq5_11_7, hq5_11_8, hq5_11_9, hq5_11_10, hq5_11_11⟩ | ⟨rfl, hq5_12_0, hq5_12_1, hq5_12_2, hq5_12_3, hq5_12_4, hq5_12_5, hq5_12_6, hq5_12_7, hq5_12_8, hq5_12_9, hq5_12_10, hq5_12_11, hq5_12_12⟩ | ⟨rfl, hq5_13_0, hq5_13_1, hq5_13_2, hq5_13_3, hq5_13_4, hq5_13_5, hq5_13_6, hq5_13_7, hq5_13_8, hq5_13_9, hq5_13_10, hq5_13_11, hq5_13_12, hq5_13_13⟩ | ⟨rfl, hq5_14_0, hq5_14_1, hq5_14_2, hq5_14_3, hq5_14_4, hq5_14_5, hq5_14_6, hq5_14_7, hq5_14_8, hq5_14_9, hq5_14_10, hq5_14_11, hq5_14_12, hq5_14_13⟩
      · have f8 : Old Z n0 h5 := O0.keep K5 all0
        obtain ⟨_, _, ⟨T7, L7, k7, n7⟩, -, X7, ⟨Lc7, hQ7, l7, y7, z7⟩, st7⟩ := Jvm.LawKit.callS X5 hx (y := (⟨"com/example/aeacus/aeacus/audit/SyscallOfPinLaw", "expected", "(J)Lcom/example/aeacus/aeacus/audit/Syscall;"⟩ : MethodName)) hown (mvT hZ (hw _ (List.mem_of_getElem? (i := 40) rfl))) (mvT hZ (hw _ (List.mem_of_getElem? (i := 41) rfl))) (mvT hZ (hw _ (List.mem_of_getElem? (i := 2) rfl))) (mvT hZ (hw _ (List.mem_of_getElem? (i := 42) rfl))) (by decide) (backOf (W := 1) (rmExp l Z a0 hw [] (2 : Int64) w_OPEN w_CREAT w_OPENAT w_RENAME w_RENAMEAT w_RENAMEAT2 w_UNLINK w_UNLINKAT w_RMDIR w_CHMOD w_FCHMOD w_FCHMODAT w_CHOWN w_FCHOWNAT w__VALUES k_ h5 n0 f8 P0 P1 P2 P3 P4 P5 P6 P7 P8 P9 P10 P11 P12 P13 P14 P15 P16 P17 P18 P19 P20 P21 P22 P23 P24 P25 P26 P27 P28 P29 P30 P31 P32 P33 P34 P35 P36 P37 P38 P39 P40 P41 P42 P43 P44) hZ (hw _ (List.mem_of_getElem? (i := 42) rfl)) (hw _ (List.mem_of_getElem? (i := 2) rfl)) (by decide) (by decide)) (g := (mkF m 28 #[.val (.long q0_), .second, .val (.int p1_), .val (.int (p1_ &&& (31 : Int32))), .val (.long (2 : Int64)), .second] [(.long (2 : Int64)), (.ref w_OPEN)])) rfl (by rw [hml]; rfl) (argsL := [(.long (2 : Int64))]) (rest := [(.ref w_OPEN)]) (lenOf pd_2 rfl) rfl (by show 2 * 0 + _ ≤ _; exact Nat.le_of_eq rfl) (hb hby at_28) (fun _ _ => ⟨rfl, e5, (by decide : 1 + 0 ≤ _), (by decide : 14 + 0 ≤ _)⟩)
        dsimp only [Pt.U, Pt.locs, Pt.cells, Pt.slots] at X7 l7 y7 z7 st7 hQ7
        subst l7 y7 z7
        obtain ⟨h7, e7⟩ : ∃ z, T7.heap = z := ⟨_, rfl⟩
        rw [e7] at hQ7
        obtain ⟨rr7, rfl, hs7, N7q, hh7⟩ := hQ7
        have N9 := Fr.app N6 N7q
        have e7' : T7.heap = h5 := e7.trans hh7
        rcases hs7 with ⟨rfl, hq7_0_0⟩ | ⟨rfl, hq7_1_0, hq7_1_1⟩ | ⟨rfl, hq7_2_0, hq7_2_1, hq7_2_2⟩ | ⟨rfl, hq7_3_0, hq7_3_1, hq7_3_2, hq7_3_3⟩ | ⟨rfl, hq7_4_0, hq7_4_1, hq7_4_2, hq7_4_3, hq7_4_4⟩ | ⟨rfl, hq7_5_0, hq7_5_1, hq7_5_2, hq7_5_3, hq7_5_4, hq7_5_5⟩ | ⟨rfl, hq7_6_0, hq7_6_1, hq7_6_2, hq7_6_3, hq7_6_4, hq7_6_5, hq7_6_6⟩ | ⟨rfl, hq7_7_0, hq7_7_1, hq7_7_2, hq7_7_3, hq7_7_4, hq7_7_5, hq7_7_6, hq7_7_7⟩ | ⟨rfl, hq7_8_0, hq7_8_1, hq7_8_2, hq7_8_3, hq7_8_4, hq7_8_5, hq7_8_6, hq7_8_7, hq7_8_8⟩ | ⟨rfl, hq7_9_0, hq7_9_1, hq7_9_2, hq7_9_3, hq7_9_4, hq7_9_5, hq7_9_6, hq7_9_7, hq7_9_8, hq7_9_9⟩ | ⟨rfl, hq7_10_0, hq7_10_1, hq7_10_2, hq7_10_3, hq7_10_4, hq7_10_5, hq7_10_6, hq7_10_7, hq7_10_8, hq7_10_9, hq7_10_10⟩ | ⟨rfl, hq7_11_0, hq7_11_1, hq7_11_2, hq7_11_3, hq7_11_4, hq7_11_5, hq7_11_6, hq7_11_7, hq7_11_8, hq7_11_9, hq7_11_10, hq7_11_11⟩ | ⟨rfl, hq7_12_0, hq7_12_1, hq7_12_2, hq7_12_3, hq7_12_4, hq7_12_5, hq7_12_6, hq7_12_7, hq7_12_8, hq7_12_9, hq7_12_10, hq7_12_11, hq7_12_12⟩ | ⟨rfl, hq7_13_0, hq7_13_1, hq7_13_2, hq7_13_3, hq7_13_4, hq7_13_5, hq7_13_6, hq7_13_7, hq7_13_8, hq7_13_9, hq7_13_10, hq7_13_11, hq7_13_12, hq7_13_13⟩ | ⟨rfl, hq7_14_0, hq7_14_1, hq7_14_2, hq7_14_3, hq7_14_4, hq7_14_5, hq7_14_6, hq7_14_7, hq7_14_8, hq7_14_9, hq7_14_10, hq7_14_11, hq7_14_12, hq7_14_13⟩
        · have pre10 : ∀ t, Steps p.tables e below (T7.setTop (mkF m 39 #[.val (.long q0_), .second, .val (.int p1_), .val (.int (p1_ &&& (31 : Int32))), .val (.long (2 : Int64)), .second] [(.int (1 : Int32))])) t → Steps p.tables e below (s₁.setTop (entryFrame m #[(.long q0_), (.int p1_)] maxLocals)) t := by
            intro t kt
            refine pre1 t ?_
            show Steps p.tables e below (s₁.setTop (mkF m 8 #[.val (.long q0_), .second, .val (.int p1_), .val (.int (p1_ &&& (31 : Int32))), .unset, .unset] [(.int (14 : Int32)), (.int (p1_ &&& (31 : Int32)))])) _
            refine XS.icmpNo X0.here hx rfl (hb hby at_8) rfl (tlt hc2).2.1 ?_
            show Steps p.tables e below (s₁.setTop (mkF m 11 #[.val (.long q0_), .second, .val (.int p1_), .val (.int (p1_ &&& (31 : Int32))), .unset, .unset] [])) _
            refine XS.iloadN X0.here hx rfl (hb hby at_11) rfl ?_
            show Steps p.tables e below (s₁.setTop (mkF m 12 #[.val (.long q0_), .second, .val (.int p1_), .val (.int (p1_ &&& (31 : Int32))), .unset, .unset] [(.int (p1_ &&& (31 : Int32)))])) _
            refine st3 _ ?_
            show Steps p.tables e below (T3.setTop (mkF m 15 #[.val (.long q0_), .second, .val (.int p1_), .val (.int (p1_ &&& (31 : Int32))), .unset, .unset] [(.long (2 : Int64))])) _
            refine XS.goto X3.here hx rfl (pc0 := 15) (pc' := 19) rfl (hb hby at_15) (by decide) (by decide) ?_
            show Steps p.tables e below (T3.setTop (mkF m 19 #[.val (.long q0_), .second, .val (.int p1_), .val (.int (p1_ &&& (31 : Int32))), .unset, .unset] [(.long (2 : Int64))])) _
            refine XS.lstore X3.here hx rfl (hb hby at_19) rfl (l' := #[.val (.long q0_), .second, .val (.int p1_), .val (.int (p1_ &&& (31 : Int32))), .val (.long (2 : Int64)), .second]) rfl ?_
            show Steps p.tables e below (T3.setTop (mkF m 21 #[.val (.long q0_), .second, .val (.int p1_), .val (.int (p1_ &&& (31 : Int32))), .val (.long (2 : Int64)), .second] [])) _
            refine XS.lload X3.here hx rfl (hb hby at_21) rfl ?_
            show Steps p.tables e below (T3.setTop (mkF m 23 #[.val (.long q0_), .second, .val (.int p1_), .val (.int (p1_ &&& (31 : Int32))), .val (.long (2 : Int64)), .second] [(.long (2 : Int64))])) _
            refine st5 _ ?_
            show Steps p.tables e below (T5.setTop (mkF m 26 #[.val (.long q0_), .second, .val (.int p1_), .val (.int (p1_ &&& (31 : Int32))), .val (.long (2 : Int64)), .second] [(.ref w_OPEN)])) _
            refine XS.lload X5.here hx rfl (hb hby at_26) rfl ?_
            show Steps p.tables e below (T5.setTop (mkF m 28 #[.val (.long q0_), .second, .val (.int p1_), .val (.int (p1_ &&& (31 : Int32))), .val (.long (2 : Int64)), .second] [(.long (2 : Int64)), (.ref w_OPEN)])) _
            refine st7 _ ?_
            show Steps p.tables e below (T7.setTop (mkF m 31 #[.val (.long q0_), .second, .val (.int p1_), .val (.int (p1_ &&& (31 : Int32))), .val (.long (2 : Int64)), .second] [(.ref w_OPEN), (.ref w_OPEN)])) _
            refine Jvm.RoadKit.acmp (g := (mkF m 31 #[.val (.long q0_), .second, .val (.int p1_), .val (.int (p1_ &&& (31 : Int32))), .val (.long (2 : Int64)), .second] [(.ref w_OPEN), (.ref w_OPEN)])) X7 hx rfl rfl rfl (pc0 := 31) (pc' := 34) (same := true) rfl (hb hby at_31) rfl (decide_eq_true rfl) (by decide) (by decide) ?_
            show Steps p.tables e below (T7.setTop (mkF m 34 #[.val (.long q0_), .second, .val (.int p1_), .val (.int (p1_ &&& (31 : Int32))), .val (.long (2 : Int64)), .second] [])) _
            refine XS.iconst X7.here hx rfl (hb hby at_34) ?_
            show Steps p.tables e below (T7.setTop (mkF m 35 #[.val (.long q0_), .second, .val (.int p1_), .val (.int (p1_ &&& (31 : Int32))), .val (.long (2 : Int64)), .second] [(.int (1 : Int32))])) _
            refine XS.goto X7.here hx rfl (pc0 := 35) (pc' := 39) rfl (hb hby at_35) (by decide) (by decide) ?_
            exact kt
          obtain ⟨fs, hr, hrun, hended, hW, hsame⟩ := X7.leave (v := some (.int (1 : Int32))) (fun h => by rw [Bd.returns] at h; cases h)
          refine ⟨_, _, pre10 _ (retN X7 hx (t := .boolean) Bd.returns (by simp) (hb hby at_39) hr), hrun, hended, _, _, rfl, ?_, ⟨_, rfl⟩, hW, hsame.mono (by decide) (by decide)⟩
          show QLaw Z q0_ p1_ w_OPEN w_CREAT w_OPENAT w_RENAME w_RENAMEAT w_RENAMEAT2 w_UNLINK w_UNLINKAT w_RMDIR w_CHMOD w_FCHMOD w_FCHMODAT w_CHOWN w_FCHOWNAT w__VALUES k_ h0 n0 _ T7.heap _
          rw [e7']
          exact ⟨rfl, N9⟩
        · exact absurd hq7_1_1 (by decide : ¬ ((2 : Int64) = (85 : Int64)))
        · exact absurd hq7_2_2 (by decide : ¬ ((2 : Int64) = (257 : Int64)))
        · exact absurd hq7_3_3 (by decide : ¬ ((2 : Int64) = (82 : Int64)))
        · exact absurd hq7_4_4 (by decide : ¬ ((2 : Int64) = (264 : Int64)))
        · exact absurd hq7_5_5 (by decide : ¬ ((2 : Int64) = (316 : Int64)))
        · exact absurd hq7_6_6 (by decide : ¬ ((2 : Int64) = (87 : Int64)))
        · exact absurd hq7_7_7 (by decide : ¬ ((2 : Int64) = (263 : Int64)))
        · exact absurd hq7_8_8 (by decide : ¬ ((2 : Int64) = (84 : Int64)))
        · exact absurd hq7_9_9 (by decide : ¬ ((2 : Int64) = (90 : Int64)))
        · exact absurd hq7_10_10 (by decide : ¬ ((2 : Int64) = (91 : Int64)))
        · exact absurd hq7_11_11 (by decide : ¬ ((2 : Int64) = (268 : Int64)))
        · exact absurd hq7_12_12 (by decide : ¬ ((2 : Int64) = (92 : Int64)))
        · exact absurd hq7_13_13 (by decide : ¬ ((2 : Int64) = (260 : Int64)))
        · exact absurd (by decide : (2 : Int64) = (2 : Int64)) hq7_14_0
      · exact absurd hq5_1_1 (by decide : ¬ ((85 : Int64) = (2 : Int64)))
      · exact absurd hq5_2_2 (by decide : ¬ ((257 : Int64) = (2 : Int64)))
      · exact absurd hq5_3_3 (by decide : ¬ ((82 : Int64) = (2 : Int64)))
      · exact absurd hq5_4_4 (by decide : ¬ ((264 : Int64) = (2 : Int64)))
      · exact absurd hq5_5_5 (by decide : ¬ ((316 : Int64) = (2 : Int64)))
      · exact absurd hq5_6_6 (by decide : ¬ ((87 : Int64) = (2 : Int64)))
      · exact absurd hq5_7_7 (by decide : ¬ ((263 : Int64) = (2 : Int64)))
      · exact absurd hq5_8_8 (by decide : ¬ ((84 : Int64) = (2 : Int64)))
      · exact absurd hq5_9_9 (by decide : ¬ ((90 : Int64) = (2 : Int64)))
      · exact absurd hq5_10_10 (by decide : ¬ ((91 : Int64) = (2 : Int64)))
      · exact absurd hq5_11_11 (by decide : ¬ ((268 : Int64) = (2 : Int64)))
      · exact absurd hq5_12_12 (by decide : ¬ ((92 : Int64) = (2 : Int64)))
      · exact absurd hq5_13_13 (by decide : ¬ ((260 : Int64) = (2 : Int64)))
      · exact absurd (by decide : (2 : Int64) = (2 : Int64)) hq5_14_0
    · obtain ⟨_, _, ⟨T12, L12, k12, n12⟩, -, X12, ⟨Lc12, hQ12, l12, y12, z12⟩, st12⟩ := Jvm.LawKit.callS X3 hx (y := (⟨"com/example/aeacus/aeacus/audit/Syscall", "of", "(J)Lcom/example/aeacus/aeacus/audit/Syscall;"⟩ : MethodName)) hown (mvT hZ (hw _ (List.mem_of_getElem? (i := 5) rfl))) (mvT hZ (hw _ (List.mem_of_getElem? (i := 6) rfl))) (mvT hZ (hw _ (List.mem_of_getElem? (i := 7) rfl))) (mvT hZ (hw _ (List.mem_of_getElem? (i := 8) rfl))) (by decide) (backOf (W := 0) (rmOf l Z a0 hw [] (85 : Int64) w_OPEN w_CREAT w_OPENAT w_RENAME w_RENAMEAT w_RENAMEAT2 w_UNLINK w_UNLINKAT w_RMDIR w_CHMOD w_FCHMOD w_FCHMODAT w_CHOWN w_FCHOWNAT w__VALUES k_ h0 n0 O0 P0 P1 P2 P3 P4 P5 P6 P7 P8 P9 P10 P11 P12 P13 P14 P15 P16 P17 P18 P19 P20 P21 P22 P23 P24 P25 P26 P27 P28 P29 P30 P31 P32 P33 P34 P35 P36 P37 P38 P39 P40 P41 P42 P43 P44) hZ (hw _ (List.mem_of_getElem? (i := 8) rfl)) (hw _ (List.mem_of_getElem? (i := 7) rfl)) (by decide) (by decide)) (g := (mkF m 23 #[.val (.long q0_), .second, .val (.int p1_), .val (.int (p1_ &&& (31 : Int32))), .val (.long (85 : Int64)), .second] [(.long (85 : Int64))])) rfl (by rw [hml]; rfl) (argsL := [(.long (85 : Int64))]) (rest := []) (lenOf pd_2 rfl) rfl (by show 2 * 0 + _ ≤ _; exact Nat.le_of_eq rfl) (hb hby at_23) (fun _ _ => ⟨rfl, e3', (by decide : 0 + 1 ≤ _), (by decide : 0 + 14 ≤ _)⟩)
      dsimp only [Pt.U, Pt.locs, Pt.cells, Pt.slots] at X12 l12 y12 z12 st12 hQ12
      subst l12 y12 z12
      obtain ⟨h12, e12⟩ : ∃ z, T12.heap = z := ⟨_, rfl⟩
      rw [e12] at hQ12
      obtain ⟨rr12, rfl, hs12, N12q, K12⟩ := hQ12
      have N13 := Fr.app N4 N12q
      rcases hs12 with ⟨rfl, hq12_0_0⟩ | ⟨rfl, hq12_1_0, hq12_1_1⟩ | ⟨rfl, hq12_2_0, hq12_2_1, hq12_2_2⟩ | ⟨rfl, hq12_3_0, hq12_3_1, hq12_3_2, hq12_3_3⟩ | ⟨rfl, hq12_4_0, hq12_4_1, hq12_4_2, hq12_4_3, hq12_4_4⟩ | ⟨rfl, hq12_5_0, hq12_5_1, hq12_5_2, hq12_5_3, hq12_5_4, hq12_5_5⟩ | ⟨rfl, hq12_6_0, hq12_6_1, hq12_6_2, hq12_6_3, hq12_6_4, hq12_6_5, hq12_6_6⟩ | ⟨rfl, hq12_7_0, hq12_7_1, hq12_7_2, hq12_7_3, hq12_7_4, hq12_7_5, hq12_7_6, hq12_7_7⟩ | ⟨rfl, hq12_8_0, hq12_8_1, hq12_8_2, hq12_8_3, hq12_8_4, hq12_8_5, hq12_8_6, hq12_8_7, hq12_8_8⟩ | ⟨rfl, hq12_9_0, hq12_9_1, hq12_9_2, hq12_9_3, hq12_9_4, hq12_9_5, hq12_9_6, hq12_9_7, hq12_9_8, hq12_9_9⟩ | ⟨rfl, hq12_10_0, hq12_10_1, hq12_10_2, hq12_10_3, hq12_10_4, hq12_10_5, hq12_10_6, hq12_10_7, hq12_10_8, hq12_10_9, hq12_10_10⟩ | ⟨rfl, hq12_11_0, hq12_11_1, hq12_11_2, hq12_11_3, hq12_11_4, hq12_11_5, hq12_11_6, hq12_11_7, hq12_11_8, hq12_11_9, hq12_11_10, hq12_11_11⟩ | ⟨rfl, hq12_12_0, hq12_12_1, hq12_12_2, hq12_12_3, hq12_12_4, hq12_12_5, hq12_12_6, hq12_12_7, hq12_12_8, hq12_12_9, hq12_12_10, hq12_12_11, hq12_12_12⟩ | ⟨rfl, hq12_13_0, hq12_13_1, hq12_13_2, hq12_13_3, hq12_13_4, hq12_13_5, hq12_13_6, hq12_13_7, hq12_13_8, hq12_13_9, hq12_13_10, hq12_13_11, hq12_13_12, hq12_13_13⟩ | ⟨rfl, hq12_14_0, hq12_14_1, hq12_14_2, hq12_14_3, hq12_14_4, hq12_14_5, hq12_14_6, hq12_14_7, hq12_14_8, hq12_14_9, hq12_14_10, hq12_14_11, hq12_14_12, hq12_14_13⟩
      · exact absurd hq12_0_0 (by decide : ¬ ((2 : Int64) = (85 : Int64)))
      · have f15 : Old Z n0 h12 := O0.keep K12 all0
        obtain ⟨_, _, ⟨T14, L14, k14, n14⟩, -, X14, ⟨Lc14, hQ14, l14, y14, z14⟩, st14⟩ := Jvm.LawKit.callS X12 hx (y := (⟨"com/example/aeacus/aeacus/audit/SyscallOfPinLaw", "expected", "(J)Lcom/example/aeacus/aeacus/audit/Syscall;"⟩ : MethodName)) hown (mvT hZ (hw _ (List.mem_of_getElem? (i := 40) rfl))) (mvT hZ (hw _ (List.mem_of_getElem? (i := 41) rfl))) (mvT hZ (hw _ (List.mem_of_getElem? (i := 2) rfl))) (mvT hZ (hw _ (List.mem_of_getElem? (i := 42) rfl))) (by decide) (backOf (W := 1) (rmExp l Z a0 hw [] (85 : Int64) w_OPEN w_CREAT w_OPENAT w_RENAME w_RENAMEAT w_RENAMEAT2 w_UNLINK w_UNLINKAT w_RMDIR w_CHMOD w_FCHMOD w_FCHMODAT w_CHOWN w_FCHOWNAT w__VALUES k_ h12 n0 f15 P0 P1 P2 P3 P4 P5 P6 P7 P8 P9 P10 P11 P12 P13 P14 P15 P16 P17 P18 P19 P20 P21 P22 P23 P24 P25 P26 P27 P28 P29 P30 P31 P32 P33 P34 P35 P36 P37 P38 P39 P40 P41 P42 P43 P44) hZ (hw _ (List.mem_of_getElem? (i := 42) rfl)) (hw _ (List.mem_of_getElem? (i := 2) rfl)) (by decide) (by decide)) (g := (mkF m 28 #[.val (.long q0_), .second, .val (.int p1_), .val (.int (p1_ &&& (31 : Int32))), .val (.long (85 : Int64)), .second] [(.long (85 : Int64)), (.ref w_CREAT)])) rfl (by rw [hml]; rfl) (argsL := [(.long (85 : Int64))]) (rest := [(.ref w_CREAT)]) (lenOf pd_2 rfl) rfl (by show 2 * 0 + _ ≤ _; exact Nat.le_of_eq rfl) (hb hby at_28) (fun _ _ => ⟨rfl, e12, (by decide : 1 + 0 ≤ _), (by decide : 14 + 0 ≤ _)⟩)
        dsimp only [Pt.U, Pt.locs, Pt.cells, Pt.slots] at X14 l14 y14 z14 st14 hQ14
        subst l14 y14 z14
        obtain ⟨h14, e14⟩ : ∃ z, T14.heap = z := ⟨_, rfl⟩
        rw [e14] at hQ14
        obtain ⟨rr14, rfl, hs14, N14q, hh14⟩ := hQ14
        have N16 := Fr.app N13 N14q
        have e14' : T14.heap = h12 := e14.trans hh14
        rcases hs14 with ⟨rfl, hq14_0_0⟩ | ⟨rfl, hq14_1_0, hq14_1_1⟩ | ⟨rfl, hq14_2_0, hq14_2_1, hq14_2_2⟩ | ⟨rfl, hq14_3_0, hq14_3_1, hq14_3_2, hq14_3_3⟩ | ⟨rfl, hq14_4_0, hq14_4_1, hq14_4_2, hq14_4_3, hq14_4_4⟩ | ⟨rfl, hq14_5_0, hq14_5_1, hq14_5_2, hq14_5_3, hq14_5_4, hq14_5_5⟩ | ⟨rfl, hq14_6_0, hq14_6_1, hq14_6_2, hq14_6_3, hq14_6_4, hq14_6_5, hq14_6_6⟩ | ⟨rfl, hq14_7_0, hq14_7_1, hq14_7_2, hq14_7_3, hq14_7_4, hq14_7_5, hq14_7_6, hq14_7_7⟩ | ⟨rfl, hq14_8_0, hq14_8_1, hq14_8_2, hq14_8_3, hq14_8_4, hq14_8_5, hq14_8_6, hq14_8_7, hq14_8_8⟩ | ⟨rfl, hq14_9_0, hq14_9_1, hq14_9_2, hq14_9_3, hq14_9_4, hq14_9_5, hq14_9_6, hq14_9_7, hq14_9_8, hq14_9_9⟩ | ⟨rfl, hq14_10_0, hq14_10_1, hq14_10_2, hq14_10_3, hq14_10_4, hq14_10_5, hq14_10_6, hq14_10_7, hq14_10_8, hq14_10_9, hq14_10_10⟩ | ⟨rfl, hq14_11_0, hq14_11_1, hq14_11_2, hq14_11_3, hq14_11_4, hq14_11_5, hq14_11_6, hq14_11_7, hq14_11_8, hq14_11_9, hq14_11_10, hq14_11_11⟩ | ⟨rfl, hq14_12_0, hq14_12_1, hq14_12_2, hq14_12_3, hq14_12_4, hq14_12_5, hq14_12_6, hq14_12_7, hq14_12_8, hq14_12_9, hq14_12_10, hq14_12_11, hq14_12_12⟩ | ⟨rfl, hq14_13_0, hq14_13_1, hq14_13_2, hq14_13_3, hq14_13_4, hq14_13_5, hq14_13_6, hq14_13_7, hq14_13_8, hq14_13_9, hq14_13_10, hq14_13_11, hq14_13_12, hq14_13_13⟩ | ⟨rfl, hq14_14_0, hq14_14_1, hq14_14_2, hq14_14_3, hq14_14_4, hq14_14_5, hq14_14_6, hq14_14_7, hq14_14_8, hq14_14_9, hq14_14_10, hq14_14_11, hq14_14_12, hq14_14_13⟩
        · exact absurd hq14_0_0 (by decide : ¬ ((85 : Int64) = (2 : Int64)))
        · have pre17 : ∀ t, Steps p.tables e below (T14.setTop (mkF m 39 #[.val (.long q0_), .second, .val (.int p1_), .val (.int (p1_ &&& (31 : Int32))), .val (.long (85 : Int64)), .second] [(.int (1 : Int32))])) t → Steps p.tables e below (s₁.setTop (entryFrame m #[(.long q0_), (.int p1_)] maxLocals)) t := by
            intro t kt
            refine pre1 t ?_
            show Steps p.tables e below (s₁.setTop (mkF m 8 #[.val (.long q0_), .second, .val (.int p1_), .val (.int (p1_ &&& (31 : Int32))), .unset, .unset] [(.int (14 : Int32)), (.int (p1_ &&& (31 : Int32)))])) _
            refine XS.icmpNo X0.here hx rfl (hb hby at_8) rfl (tlt hc2).2.1 ?_
            show Steps p.tables e below (s₁.setTop (mkF m 11 #[.val (.long q0_), .second, .val (.int p1_), .val (.int (p1_ &&& (31 : Int32))), .unset, .unset] [])) _
            refine XS.iloadN X0.here hx rfl (hb hby at_11) rfl ?_
            show Steps p.tables e below (s₁.setTop (mkF m 12 #[.val (.long q0_), .second, .val (.int p1_), .val (.int (p1_ &&& (31 : Int32))), .unset, .unset] [(.int (p1_ &&& (31 : Int32)))])) _
            refine st3 _ ?_
            show Steps p.tables e below (T3.setTop (mkF m 15 #[.val (.long q0_), .second, .val (.int p1_), .val (.int (p1_ &&& (31 : Int32))), .unset, .unset] [(.long (85 : Int64))])) _
            refine XS.goto X3.here hx rfl (pc0 := 15) (pc' := 19) rfl (hb hby at_15) (by decide) (by decide) ?_
            show Steps p.tables e below (T3.setTop (mkF m 19 #[.val (.long q0_), .second, .val (.int p1_), .val (.int (p1_ &&& (31 : Int32))), .unset, .unset] [(.long (85 : Int64))])) _
            refine XS.lstore X3.here hx rfl (hb hby at_19) rfl (l' := #[.val (.long q0_), .second, .val (.int p1_), .val (.int (p1_ &&& (31 : Int32))), .val (.long (85 : Int64)), .second]) rfl ?_
            show Steps p.tables e below (T3.setTop (mkF m 21 #[.val (.long q0_), .second, .val (.int p1_), .val (.int (p1_ &&& (31 : Int32))), .val (.long (85 : Int64)), .second] [])) _
            refine XS.lload X3.here hx rfl (hb hby at_21) rfl ?_
            show Steps p.tables e below (T3.setTop (mkF m 23 #[.val (.long q0_), .second, .val (.int p1_), .val (.int (p1_ &&& (31 : Int32))), .val (.long (85 : Int64)), .second] [(.long (85 : Int64))])) _
            refine st12 _ ?_
            show Steps p.tables e below (T12.setTop (mkF m 26 #[.val (.long q0_), .second, .val (.int p1_), .val (.int (p1_ &&& (31 : Int32))), .val (.long (85 : Int64)), .second] [(.ref w_CREAT)])) _
            refine XS.lload X12.here hx rfl (hb hby at_26) rfl ?_
            show Steps p.tables e below (T12.setTop (mkF m 28 #[.val (.long q0_), .second, .val (.int p1_), .val (.int (p1_ &&& (31 : Int32))), .val (.long (85 : Int64)), .second] [(.long (85 : Int64)), (.ref w_CREAT)])) _
            refine st14 _ ?_
            show Steps p.tables e below (T14.setTop (mkF m 31 #[.val (.long q0_), .second, .val (.int p1_), .val (.int (p1_ &&& (31 : Int32))), .val (.long (85 : Int64)), .second] [(.ref w_CREAT), (.ref w_CREAT)])) _
            refine Jvm.RoadKit.acmp (g := (mkF m 31 #[.val (.long q0_), .second, .val (.int p1_), .val (.int (p1_ &&& (31 : Int32))), .val (.long (85 : Int64)), .second] [(.ref w_CREAT), (.ref w_CREAT)])) X14 hx rfl rfl rfl (pc0 := 31) (pc' := 34) (same := true) rfl (hb hby at_31) rfl (decide_eq_true rfl) (by decide) (by decide) ?_
            show Steps p.tables e below (T14.setTop (mkF m 34 #[.val (.long q0_), .second, .val (.int p1_), .val (.int (p1_ &&& (31 : Int32))), .val (.long (85 : Int64)), .second] [])) _
            refine XS.iconst X14.here hx rfl (hb hby at_34) ?_
            show Steps p.tables e below (T14.setTop (mkF m 35 #[.val (.long q0_), .second, .val (.int p1_), .val (.int (p1_ &&& (31 : Int32))), .val (.long (85 : Int64)), .second] [(.int (1 : Int32))])) _
            refine XS.goto X14.here hx rfl (pc0 := 35) (pc' := 39) rfl (hb hby at_35) (by decide) (by decide) ?_
            exact kt
          obtain ⟨fs, hr, hrun, hended, hW, hsame⟩ := X14.leave (v := some (.int (1 : Int32))) (fun h => by rw [Bd.returns] at h; cases h)
          refine ⟨_, _, pre17 _ (retN X14 hx (t := .boolean) Bd.returns (by simp) (hb hby at_39) hr), hrun, hended, _, _, rfl, ?_, ⟨_, rfl⟩, hW, hsame.mono (by decide) (by decide)⟩
          show QLaw Z q0_ p1_ w_OPEN w_CREAT w_OPENAT w_RENAME w_RENAMEAT w_RENAMEAT2 w_UNLINK w_UNLINKAT w_RMDIR w_CHMOD w_FCHMOD w_FCHMODAT w_CHOWN w_FCHOWNAT w__VALUES k_ h0 n0 _ T14.heap _
          rw [e14']
          exact ⟨rfl, N16⟩
        · exact absurd hq14_2_2 (by decide : ¬ ((85 : Int64) = (257 : Int64)))
        · exact absurd hq14_3_3 (by decide : ¬ ((85 : Int64) = (82 : Int64)))
        · exact absurd hq14_4_4 (by decide : ¬ ((85 : Int64) = (264 : Int64)))
        · exact absurd hq14_5_5 (by decide : ¬ ((85 : Int64) = (316 : Int64)))
        · exact absurd hq14_6_6 (by decide : ¬ ((85 : Int64) = (87 : Int64)))
        · exact absurd hq14_7_7 (by decide : ¬ ((85 : Int64) = (263 : Int64)))
        · exact absurd hq14_8_8 (by decide : ¬ ((85 : Int64) = (84 : Int64)))
        · exact absurd hq14_9_9 (by decide : ¬ ((85 : Int64) = (90 : Int64)))
        · exact absurd hq14_10_10 (by decide : ¬ ((85 : Int64) = (91 : Int64)))
        · exact absurd hq14_11_11 (by decide : ¬ ((85 : Int64) = (268 : Int64)))
        · exact absurd hq14_12_12 (by decide : ¬ ((85 : Int64) = (92 : Int64)))
        · exact absurd hq14_13_13 (by decide : ¬ ((85 : Int64) = (260 : Int64)))
        · exact absurd (by decide : (85 : Int64) = (85 : Int64)) hq14_14_1
      · exact absurd hq12_2_2 (by decide : ¬ ((257 : Int64) = (85 : Int64)))
      · exact absurd hq12_3_3 (by decide : ¬ ((82 : Int64) = (85 : Int64)))
      · exact absurd hq12_4_4 (by decide : ¬ ((264 : Int64) = (85 : Int64)))
      · exact absurd hq12_5_5 (by decide : ¬ ((316 : Int64) = (85 : Int64)))
      · exact absurd hq12_6_6 (by decide : ¬ ((87 : Int64) = (85 : Int64)))
      · exact absurd hq12_7_7 (by decide : ¬ ((263 : Int64) = (85 : Int64)))
      · exact absurd hq12_8_8 (by decide : ¬ ((84 : Int64) = (85 : Int64)))
      · exact absurd hq12_9_9 (by decide : ¬ ((90 : Int64) = (85 : Int64)))
      · exact absurd hq12_10_10 (by decide : ¬ ((91 : Int64) = (85 : Int64)))
      · exact absurd hq12_11_11 (by decide : ¬ ((268 : Int64) = (85 : Int64)))
      · exact absurd hq12_12_12 (by decide : ¬ ((92 : Int64) = (85 : Int64)))
      · exact absurd hq12_13_13 (by decide : ¬ ((260 : Int64) = (85 : Int64)))
      · exact absurd (by decide : (85 : Int64) = (85 : Int64)) hq12_14_1
    · obtain ⟨_, _, ⟨T19, L19, k19, n19⟩, -, X19, ⟨Lc19, hQ19, l19, y19, z19⟩, st19⟩ := Jvm.LawKit.callS X3 hx (y := (⟨"com/example/aeacus/aeacus/audit/Syscall", "of", "(J)Lcom/example/aeacus/aeacus/audit/Syscall;"⟩ : MethodName)) hown (mvT hZ (hw _ (List.mem_of_getElem? (i := 5) rfl))) (mvT hZ (hw _ (List.mem_of_getElem? (i := 6) rfl))) (mvT hZ (hw _ (List.mem_of_getElem? (i := 7) rfl))) (mvT hZ (hw _ (List.mem_of_getElem? (i := 8) rfl))) (by decide) (backOf (W := 0) (rmOf l Z a0 hw [] (257 : Int64) w_OPEN w_CREAT w_OPENAT w_RENAME w_RENAMEAT w_RENAMEAT2 w_UNLINK w_UNLINKAT w_RMDIR w_CHMOD w_FCHMOD w_FCHMODAT w_CHOWN w_FCHOWNAT w__VALUES k_ h0 n0 O0 P0 P1 P2 P3 P4 P5 P6 P7 P8 P9 P10 P11 P12 P13 P14 P15 P16 P17 P18 P19 P20 P21 P22 P23 P24 P25 P26 P27 P28 P29 P30 P31 P32 P33 P34 P35 P36 P37 P38 P39 P40 P41 P42 P43 P44) hZ (hw _ (List.mem_of_getElem? (i := 8) rfl)) (hw _ (List.mem_of_getElem? (i := 7) rfl)) (by decide) (by decide)) (g := (mkF m 23 #[.val (.long q0_), .second, .val (.int p1_), .val (.int (p1_ &&& (31 : Int32))), .val (.long (257 : Int64)), .second] [(.long (257 : Int64))])) rfl (by rw [hml]; rfl) (argsL := [(.long (257 : Int64))]) (rest := []) (lenOf pd_2 rfl) rfl (by show 2 * 0 + _ ≤ _; exact Nat.le_of_eq rfl) (hb hby at_23) (fun _ _ => ⟨rfl, e3', (by decide : 0 + 1 ≤ _), (by decide : 0 + 14 ≤ _)⟩)
      dsimp only [Pt.U, Pt.locs, Pt.cells, Pt.slots] at X19 l19 y19 z19 st19 hQ19
      subst l19 y19 z19
      obtain ⟨h19, e19⟩ : ∃ z, T19.heap = z := ⟨_, rfl⟩
      rw [e19] at hQ19
      obtain ⟨rr19, rfl, hs19, N19q, K19⟩ := hQ19
      have N20 := Fr.app N4 N19q
      rcases hs19 with ⟨rfl, hq19_0_0⟩ | ⟨rfl, hq19_1_0, hq19_1_1⟩ | ⟨rfl, hq19_2_0, hq19_2_1, hq19_2_2⟩ | ⟨rfl, hq19_3_0, hq19_3_1, hq19_3_2, hq19_3_3⟩ | ⟨rfl, hq19_4_0, hq19_4_1, hq19_4_2, hq19_4_3, hq19_4_4⟩ | ⟨rfl, hq19_5_0, hq19_5_1, hq19_5_2, hq19_5_3, hq19_5_4, hq19_5_5⟩ | ⟨rfl, hq19_6_0, hq19_6_1, hq19_6_2, hq19_6_3, hq19_6_4, hq19_6_5, hq19_6_6⟩ | ⟨rfl, hq19_7_0, hq19_7_1, hq19_7_2, hq19_7_3, hq19_7_4, hq19_7_5, hq19_7_6, hq19_7_7⟩ | ⟨rfl, hq19_8_0, hq19_8_1, hq19_8_2, hq19_8_3, hq19_8_4, hq19_8_5, hq19_8_6, hq19_8_7, hq19_8_8⟩ | ⟨rfl, hq19_9_0, hq19_9_1, hq19_9_2, hq19_9_3, hq19_9_4, hq19_9_5, hq19_9_6, hq19_9_7, hq19_9_8, hq19_9_9⟩ | ⟨rfl, hq19_10_0, hq19_10_1, hq19_10_2, hq19_10_3, hq19_10_4, hq19_10_5, hq19_10_6, hq19_10_7, hq19_10_8, hq19_10_9, hq19_10_10⟩ | ⟨rfl, hq19_11_0, hq19_11_1, hq19_11_2, hq19_11_3, hq19_11_4, hq19_11_5, hq19_11_6, hq19_11_7, hq19_11_8, hq19_11_9, hq19_11_10, hq19_11_11⟩ | ⟨rfl, hq19_12_0, hq19_12_1, hq19_12_2, hq19_12_3, hq19_12_4, hq19_12_5, hq19_12_6, hq19_12_7, hq19_12_8, hq19_12_9, hq19_12_10, hq19_12_11, hq19_12_12⟩ | ⟨rfl, hq19_13_0, hq19_13_1, hq19_13_2, hq19_13_3, hq19_13_4, hq19_13_5, hq19_13_6, hq19_13_7, hq19_13_8, hq19_13_9, hq19_13_10, hq19_13_11, hq19_13_12, hq19_13_13⟩ | ⟨rfl, hq19_14_0, hq19_14_1, hq19_14_2, hq19_14_3, hq19_14_4, hq19_14_5, hq19_14_6, hq19_14_7, hq19_14_8, hq19_14_9, hq19_14_10, hq19_14_11, hq19_14_12, hq19_14_13⟩
      · exact absurd hq19_0_0 (by decide : ¬ ((2 : Int64) = (257 : Int64)))
      · exact absurd hq19_1_1 (by decide : ¬ ((85 : Int64) = (257 : Int64)))
      · have f22 : Old Z n0 h19 := O0.keep K19 all0
        obtain ⟨_, _, ⟨T21, L21, k21, n21⟩, -, X21, ⟨Lc21, hQ21, l21, y21, z21⟩, st21⟩ := Jvm.LawKit.callS X19 hx (y := (⟨"com/example/aeacus/aeacus/audit/SyscallOfPinLaw", "expected", "(J)Lcom/example/aeacus/aeacus/audit/Syscall;"⟩ : MethodName)) hown (mvT hZ (hw _ (List.mem_of_getElem? (i := 40) rfl))) (mvT hZ (hw _ (List.mem_of_getElem? (i := 41) rfl))) (mvT hZ (hw _ (List.mem_of_getElem? (i := 2) rfl))) (mvT hZ (hw _ (List.mem_of_getElem? (i := 42) rfl))) (by decide) (backOf (W := 1) (rmExp l Z a0 hw [] (257 : Int64) w_OPEN w_CREAT w_OPENAT w_RENAME w_RENAMEAT w_RENAMEAT2 w_UNLINK w_UNLINKAT w_RMDIR w_CHMOD w_FCHMOD w_FCHMODAT w_CHOWN w_FCHOWNAT w__VALUES k_ h19 n0 f22 P0 P1 P2 P3 P4 P5 P6 P7 P8 P9 P10 P11 P12 P13 P14 P15 P16 P17 P18 P19 P20 P21 P22 P23 P24 P25 P26 P27 P28 P29 P30 P31 P32 P33 P34 P35 P36 P37 P38 P39 P40 P41 P42 P43 P44) hZ (hw _ (List.mem_of_getElem? (i := 42) rfl)) (hw _ (List.mem_of_getElem? (i := 2) rfl)) (by decide) (by decide)) (g := (mkF m 28 #[.val (.long q0_), .second, .val (.int p1_), .val (.int (p1_ &&& (31 : Int32))), .val (.long (257 : Int64)), .second] [(.long (257 : Int64)), (.ref w_OPENAT)])) rfl (by rw [hml]; rfl) (argsL := [(.long (257 : Int64))]) (rest := [(.ref w_OPENAT)]) (lenOf pd_2 rfl) rfl (by show 2 * 0 + _ ≤ _; exact Nat.le_of_eq rfl) (hb hby at_28) (fun _ _ => ⟨rfl, e19, (by decide : 1 + 0 ≤ _), (by decide : 14 + 0 ≤ _)⟩)
        dsimp only [Pt.U, Pt.locs, Pt.cells, Pt.slots] at X21 l21 y21 z21 st21 hQ21
        subst l21 y21 z21
        obtain ⟨h21, e21⟩ : ∃ z, T21.heap = z := ⟨_, rfl⟩
        rw [e21] at hQ21
        obtain ⟨rr21, rfl, hs21, N21q, hh21⟩ := hQ21
        have N23 := Fr.app N20 N21q
        have e21' : T21.heap = h19 := e21.trans hh21
        rcases hs21 with ⟨rfl, hq21_0_0⟩ | ⟨rfl, hq21_1_0, hq21_1_1⟩ | ⟨rfl, hq21_2_0, hq21_2_1, hq21_2_2⟩ | ⟨rfl, hq21_3_0, hq21_3_1, hq21_3_2, hq21_3_3⟩ | ⟨rfl, hq21_4_0, hq21_4_1, hq21_4_2, hq21_4_3, hq21_4_4⟩ | ⟨rfl, hq21_5_0, hq21_5_1, hq21_5_2, hq21_5_3, hq21_5_4, hq21_5_5⟩ | ⟨rfl, hq21_6_0, hq21_6_1, hq21_6_2, hq21_6_3, hq21_6_4, hq21_6_5, hq21_6_6⟩ | ⟨rfl, hq21_7_0, hq21_7_1, hq21_7_2, hq21_7_3, hq21_7_4, hq21_7_5, hq21_7_6, hq21_7_7⟩ | ⟨rfl, hq21_8_0, hq21_8_1, hq21_8_2, hq21_8_3, hq21_8_4, hq21_8_5, hq21_8_6, hq21_8_7, hq21_8_8⟩ | ⟨rfl, hq21_9_0, hq21_9_1, hq21_9_2, hq21_9_3, hq21_9_4, hq21_9_5, hq21_9_6, hq21_9_7, hq21_9_8, hq21_9_9⟩ | ⟨rfl, hq21_10_0, hq21_10_1, hq21_10_2, hq21_10_3, hq21_10_4, hq21_10_5, hq21_10_6, hq21_10_7, hq21_10_8, hq21_10_9, hq21_10_10⟩ | ⟨rfl, hq21_11_0, hq21_11_1, hq21_11_2, hq21_11_3, hq21_11_4, hq21_11_5, hq21_11_6, hq21_11_7, hq21_11_8, hq21_11_9, hq21_11_10, hq21_11_11⟩ | ⟨rfl, hq21_12_0, hq21_12_1, hq21_12_2, hq21_12_3, hq21_12_4, hq21_12_5, hq21_12_6, hq21_12_7, hq21_12_8, hq21_12_9, hq21_12_10, hq21_12_11, hq21_12_12⟩ | ⟨rfl, hq21_13_0, hq21_13_1, hq21_13_2, hq21_13_3, hq21_13_4, hq21_13_5, hq21_13_6, hq21_13_7, hq21_13_8, hq21_13_9, hq21_13_10, hq21_13_11, hq21_13_12, hq21_13_13⟩ | ⟨rfl, hq21_14_0, hq21_14_1, hq21_14_2, hq21_14_3, hq21_14_4, hq21_14_5, hq21_14_6, hq21_14_7, hq21_14_8, hq21_14_9, hq21_14_10, hq21_14_11, hq21_14_12, hq21_14_13⟩
        · exact absurd hq21_0_0 (by decide : ¬ ((257 : Int64) = (2 : Int64)))
        · exact absurd hq21_1_1 (by decide : ¬ ((257 : Int64) = (85 : Int64)))
        · have pre24 : ∀ t, Steps p.tables e below (T21.setTop (mkF m 39 #[.val (.long q0_), .second, .val (.int p1_), .val (.int (p1_ &&& (31 : Int32))), .val (.long (257 : Int64)), .second] [(.int (1 : Int32))])) t → Steps p.tables e below (s₁.setTop (entryFrame m #[(.long q0_), (.int p1_)] maxLocals)) t := by
            intro t kt
            refine pre1 t ?_
            show Steps p.tables e below (s₁.setTop (mkF m 8 #[.val (.long q0_), .second, .val (.int p1_), .val (.int (p1_ &&& (31 : Int32))), .unset, .unset] [(.int (14 : Int32)), (.int (p1_ &&& (31 : Int32)))])) _
            refine XS.icmpNo X0.here hx rfl (hb hby at_8) rfl (tlt hc2).2.1 ?_
            show Steps p.tables e below (s₁.setTop (mkF m 11 #[.val (.long q0_), .second, .val (.int p1_), .val (.int (p1_ &&& (31 : Int32))), .unset, .unset] [])) _
            refine XS.iloadN X0.here hx rfl (hb hby at_11) rfl ?_
            show Steps p.tables e below (s₁.setTop (mkF m 12 #[.val (.long q0_), .second, .val (.int p1_), .val (.int (p1_ &&& (31 : Int32))), .unset, .unset] [(.int (p1_ &&& (31 : Int32)))])) _
            refine st3 _ ?_
            show Steps p.tables e below (T3.setTop (mkF m 15 #[.val (.long q0_), .second, .val (.int p1_), .val (.int (p1_ &&& (31 : Int32))), .unset, .unset] [(.long (257 : Int64))])) _
            refine XS.goto X3.here hx rfl (pc0 := 15) (pc' := 19) rfl (hb hby at_15) (by decide) (by decide) ?_
            show Steps p.tables e below (T3.setTop (mkF m 19 #[.val (.long q0_), .second, .val (.int p1_), .val (.int (p1_ &&& (31 : Int32))), .unset, .unset] [(.long (257 : Int64))])) _
            refine XS.lstore X3.here hx rfl (hb hby at_19) rfl (l' := #[.val (.long q0_), .second, .val (.int p1_), .val (.int (p1_ &&& (31 : Int32))), .val (.long (257 : Int64)), .second]) rfl ?_
            show Steps p.tables e below (T3.setTop (mkF m 21 #[.val (.long q0_), .second, .val (.int p1_), .val (.int (p1_ &&& (31 : Int32))), .val (.long (257 : Int64)), .second] [])) _
            refine XS.lload X3.here hx rfl (hb hby at_21) rfl ?_
            show Steps p.tables e below (T3.setTop (mkF m 23 #[.val (.long q0_), .second, .val (.int p1_), .val (.int (p1_ &&& (31 : Int32))), .val (.long (257 : Int64)), .second] [(.long (257 : Int64))])) _
            refine st19 _ ?_
            show Steps p.tables e below (T19.setTop (mkF m 26 #[.val (.long q0_), .second, .val (.int p1_), .val (.int (p1_ &&& (31 : Int32))), .val (.long (257 : Int64)), .second] [(.ref w_OPENAT)])) _
            refine XS.lload X19.here hx rfl (hb hby at_26) rfl ?_
            show Steps p.tables e below (T19.setTop (mkF m 28 #[.val (.long q0_), .second, .val (.int p1_), .val (.int (p1_ &&& (31 : Int32))), .val (.long (257 : Int64)), .second] [(.long (257 : Int64)), (.ref w_OPENAT)])) _
            refine st21 _ ?_
            show Steps p.tables e below (T21.setTop (mkF m 31 #[.val (.long q0_), .second, .val (.int p1_), .val (.int (p1_ &&& (31 : Int32))), .val (.long (257 : Int64)), .second] [(.ref w_OPENAT), (.ref w_OPENAT)])) _
            refine Jvm.RoadKit.acmp (g := (mkF m 31 #[.val (.long q0_), .second, .val (.int p1_), .val (.int (p1_ &&& (31 : Int32))), .val (.long (257 : Int64)), .second] [(.ref w_OPENAT), (.ref w_OPENAT)])) X21 hx rfl rfl rfl (pc0 := 31) (pc' := 34) (same := true) rfl (hb hby at_31) rfl (decide_eq_true rfl) (by decide) (by decide) ?_
            show Steps p.tables e below (T21.setTop (mkF m 34 #[.val (.long q0_), .second, .val (.int p1_), .val (.int (p1_ &&& (31 : Int32))), .val (.long (257 : Int64)), .second] [])) _
            refine XS.iconst X21.here hx rfl (hb hby at_34) ?_
            show Steps p.tables e below (T21.setTop (mkF m 35 #[.val (.long q0_), .second, .val (.int p1_), .val (.int (p1_ &&& (31 : Int32))), .val (.long (257 : Int64)), .second] [(.int (1 : Int32))])) _
            refine XS.goto X21.here hx rfl (pc0 := 35) (pc' := 39) rfl (hb hby at_35) (by decide) (by decide) ?_
            exact kt
          obtain ⟨fs, hr, hrun, hended, hW, hsame⟩ := X21.leave (v := some (.int (1 : Int32))) (fun h => by rw [Bd.returns] at h; cases h)
          refine ⟨_, _, pre24 _ (retN X21 hx (t := .boolean) Bd.returns (by simp) (hb hby at_39) hr), hrun, hended, _, _, rfl, ?_, ⟨_, rfl⟩, hW, hsame.mono (by decide) (by decide)⟩
          show QLaw Z q0_ p1_ w_OPEN w_CREAT w_OPENAT w_RENAME w_RENAMEAT w_RENAMEAT2 w_UNLINK w_UNLINKAT w_RMDIR w_CHMOD w_FCHMOD w_FCHMODAT w_CHOWN w_FCHOWNAT w__VALUES k_ h0 n0 _ T21.heap _
          rw [e21']
          exact ⟨rfl, N23⟩
        · exact absurd hq21_3_3 (by decide : ¬ ((257 : Int64) = (82 : Int64)))
        · exact absurd hq21_4_4 (by decide : ¬ ((257 : Int64) = (264 : Int64)))
        · exact absurd hq21_5_5 (by decide : ¬ ((257 : Int64) = (316 : Int64)))
        · exact absurd hq21_6_6 (by decide : ¬ ((257 : Int64) = (87 : Int64)))
        · exact absurd hq21_7_7 (by decide : ¬ ((257 : Int64) = (263 : Int64)))
        · exact absurd hq21_8_8 (by decide : ¬ ((257 : Int64) = (84 : Int64)))
        · exact absurd hq21_9_9 (by decide : ¬ ((257 : Int64) = (90 : Int64)))
        · exact absurd hq21_10_10 (by decide : ¬ ((257 : Int64) = (91 : Int64)))
        · exact absurd hq21_11_11 (by decide : ¬ ((257 : Int64) = (268 : Int64)))
        · exact absurd hq21_12_12 (by decide : ¬ ((257 : Int64) = (92 : Int64)))
        · exact absurd hq21_13_13 (by decide : ¬ ((257 : Int64) = (260 : Int64)))
        · exact absurd (by decide : (257 : Int64) = (257 : Int64)) hq21_14_2
      · exact absurd hq19_3_3 (by decide : ¬ ((82 : Int64) = (257 : Int64)))
      · exact absurd hq19_4_4 (by decide : ¬ ((264 : Int64) = (257 : Int64)))
      · exact absurd hq19_5_5 (by decide : ¬ ((316 : Int64) = (257 : Int64)))
      · exact absurd hq19_6_6 (by decide : ¬ ((87 : Int64) = (257 : Int64)))
      · exact absurd hq19_7_7 (by decide : ¬ ((263 : Int64) = (257 : Int64)))
      · exact absurd hq19_8_8 (by decide : ¬ ((84 : Int64) = (257 : Int64)))
      · exact absurd hq19_9_9 (by decide : ¬ ((90 : Int64) = (257 : Int64)))
      · exact absurd hq19_10_10 (by decide : ¬ ((91 : Int64) = (257 : Int64)))
      · exact absurd hq19_11_11 (by decide : ¬ ((268 : Int64) = (257 : Int64)))
      · exact absurd hq19_12_12 (by decide : ¬ ((92 : Int64) = (257 : Int64)))
      · exact absurd hq19_13_13 (by decide : ¬ ((260 : Int64) = (257 : Int64)))
      · exact absurd (by decide : (257 : Int64) = (257 : Int64)) hq19_14_2
    · obtain ⟨_, _, ⟨T26, L26, k26, n26⟩, -, X26, ⟨Lc26, hQ26, l26, y26, z26⟩, st26⟩ := Jvm.LawKit.callS X3 hx (y := (⟨"com/example/aeacus/aeacus/audit/Syscall", "of", "(J)Lcom/example/aeacus/aeacus/audit/Syscall;"⟩ : MethodName)) hown (mvT hZ (hw _ (List.mem_of_getElem? (i := 5) rfl))) (mvT hZ (hw _ (List.mem_of_getElem? (i := 6) rfl))) (mvT hZ (hw _ (List.mem_of_getElem? (i := 7) rfl))) (mvT hZ (hw _ (List.mem_of_getElem? (i := 8) rfl))) (by decide) (backOf (W := 0) (rmOf l Z a0 hw [] (82 : Int64) w_OPEN w_CREAT w_OPENAT w_RENAME w_RENAMEAT w_RENAMEAT2 w_UNLINK w_UNLINKAT w_RMDIR w_CHMOD w_FCHMOD w_FCHMODAT w_CHOWN w_FCHOWNAT w__VALUES k_ h0 n0 O0 P0 P1 P2 P3 P4 P5 P6 P7 P8 P9 P10 P11 P12 P13 P14 P15 P16 P17 P18 P19 P20 P21 P22 P23 P24 P25 P26 P27 P28 P29 P30 P31 P32 P33 P34 P35 P36 P37 P38 P39 P40 P41 P42 P43 P44) hZ (hw _ (List.mem_of_getElem? (i := 8) rfl)) (hw _ (List.mem_of_getElem? (i := 7) rfl)) (by decide) (by decide)) (g := (mkF m 23 #[.val (.long q0_), .second, .val (.int p1_), .val (.int (p1_ &&& (31 : Int32))), .val (.long (82 : Int64)), .second] [(.long (82 : Int64))])) rfl (by rw [hml]; rfl) (argsL := [(.long (82 : Int64))]) (rest := []) (lenOf pd_2 rfl) rfl (by show 2 * 0 + _ ≤ _; exact Nat.le_of_eq rfl) (hb hby at_23) (fun _ _ => ⟨rfl, e3', (by decide : 0 + 1 ≤ _), (by decide : 0 + 14 ≤ _)⟩)
      dsimp only [Pt.U, Pt.locs, Pt.cells, Pt.slots] at X26 l26 y26 z26 st26 hQ26
      subst l26 y26 z26
      obtain ⟨h26, e26⟩ : ∃ z, T26.heap = z := ⟨_, rfl⟩
      rw [e26] at hQ26
      obtain ⟨rr26, rfl, hs26, N26q, K26⟩ := hQ26
      have N27 := Fr.app N4 N26q
      rcases hs26 with ⟨rfl, hq26_0_0⟩ | ⟨rfl, hq26_1_0, hq26_1_1⟩ | ⟨rfl, hq26_2_0, hq26_2_1, hq26_2_2⟩ | ⟨rfl, hq26_3_0, hq26_3_1, hq26_3_2, hq26_3_3⟩ | ⟨rfl, hq26_4_0, hq26_4_1, hq26_4_2, hq26_4_3, hq26_4_4⟩ | ⟨rfl, hq26_5_0, hq26_5_1, hq26_5_2, hq26_5_3, hq26_5_4, hq26_5_5⟩ | ⟨rfl, hq26_6_0, hq26_6_1, hq26_6_2, hq26_6_3, hq26_6_4, hq26_6_5, hq26_6_6⟩ | ⟨rfl, hq26_7_0, hq26_7_1, hq26_7_2, hq26_7_3, hq26_7_4, hq26_7_5, hq26_7_6, hq26_7_7⟩ | ⟨rfl, hq26_8_0, hq26_8_1, hq26_8_2, hq26_8_3, hq26_8_4, hq26_8_5, hq26_8_6, hq26_8_7, hq26_8_8⟩ | ⟨rfl, hq26_9_0, hq26_9_1, hq26_9_2, hq26_9_3, hq26_9_4, hq26_9_5, hq26_9_6, hq26_9_7, hq26_9_8, hq26_9_9⟩ | ⟨rfl, hq26_10_0, hq26_10_1, hq26_10_2, hq26_10_3, hq26_10_4, hq26_10_5, hq26_10_6, hq26_10_7, hq26_10_8, hq26_10_9, hq26_10_10⟩ | ⟨rfl, hq26_11_0, hq26_11_1, hq26_11_2, hq26_11_3, hq26_11_4, hq26_11_5, hq26_11_6, hq26_11_7, hq26_11_8, hq26_11_9, hq26_11_10, hq26_11_11⟩ | ⟨rfl, hq26_12_0, hq26_12_1, hq26_12_2, hq26_12_3, hq26_12_4, hq26_12_5, hq26_12_6, hq26_12_7, hq26_12_8, hq26_12_9, hq26_12_10, hq26_12_11, hq26_12_12⟩ | ⟨rfl, hq26_13_0, hq26_13_1, hq26_13_2, hq26_13_3, hq26_13_4, hq26_13_5, hq26_13_6, hq26_13_7, hq26_13_8, hq26_13_9, hq26_13_10, hq26_13_11, hq26_13_12, hq26_13_13⟩ | ⟨rfl, hq26_14_0, hq26_14_1, hq26_14_2, hq26_14_3, hq26_14_4, hq26_14_5, hq26_14_6, hq26_14_7, hq26_14_8, hq26_14_9, hq26_14_10, hq26_14_11, hq26_14_12, hq26_14_13⟩
      · exact absurd hq26_0_0 (by decide : ¬ ((2 : Int64) = (82 : Int64)))
      · exact absurd hq26_1_1 (by decide : ¬ ((85 : Int64) = (82 : Int64)))
      · exact absurd hq26_2_2 (by decide : ¬ ((257 : Int64) = (82 : Int64)))
      · have f29 : Old Z n0 h26 := O0.keep K26 all0
        obtain ⟨_, _, ⟨T28, L28, k28, n28⟩, -, X28, ⟨Lc28, hQ28, l28, y28, z28⟩, st28⟩ := Jvm.LawKit.callS X26 hx (y := (⟨"com/example/aeacus/aeacus/audit/SyscallOfPinLaw", "expected", "(J)Lcom/example/aeacus/aeacus/audit/Syscall;"⟩ : MethodName)) hown (mvT hZ (hw _ (List.mem_of_getElem? (i := 40) rfl))) (mvT hZ (hw _ (List.mem_of_getElem? (i := 41) rfl))) (mvT hZ (hw _ (List.mem_of_getElem? (i := 2) rfl))) (mvT hZ (hw _ (List.mem_of_getElem? (i := 42) rfl))) (by decide) (backOf (W := 1) (rmExp l Z a0 hw [] (82 : Int64) w_OPEN w_CREAT w_OPENAT w_RENAME w_RENAMEAT w_RENAMEAT2 w_UNLINK w_UNLINKAT w_RMDIR w_CHMOD w_FCHMOD w_FCHMODAT w_CHOWN w_FCHOWNAT w__VALUES k_ h26 n0 f29 P0 P1 P2 P3 P4 P5 P6 P7 P8 P9 P10 P11 P12 P13 P14 P15 P16 P17 P18 P19 P20 P21 P22 P23 P24 P25 P26 P27 P28 P29 P30 P31 P32 P33 P34 P35 P36 P37 P38 P39 P40 P41 P42 P43 P44) hZ (hw _ (List.mem_of_getElem? (i := 42) rfl)) (hw _ (List.mem_of_getElem? (i := 2) rfl)) (by decide) (by decide)) (g := (mkF m 28 #[.val (.long q0_), .second, .val (.int p1_), .val (.int (p1_ &&& (31 : Int32))), .val (.long (82 : Int64)), .second] [(.long (82 : Int64)), (.ref w_RENAME)])) rfl (by rw [hml]; rfl) (argsL := [(.long (82 : Int64))]) (rest := [(.ref w_RENAME)]) (lenOf pd_2 rfl) rfl (by show 2 * 0 + _ ≤ _; exact Nat.le_of_eq rfl) (hb hby at_28) (fun _ _ => ⟨rfl, e26, (by decide : 1 + 0 ≤ _), (by decide : 14 + 0 ≤ _)⟩)
        dsimp only [Pt.U, Pt.locs, Pt.cells, Pt.slots] at X28 l28 y28 z28 st28 hQ28
        subst l28 y28 z28
        obtain ⟨h28, e28⟩ : ∃ z, T28.heap = z := ⟨_, rfl⟩
        rw [e28] at hQ28
        obtain ⟨rr28, rfl, hs28, N28q, hh28⟩ := hQ28
        have N30 := Fr.app N27 N28q
        have e28' : T28.heap = h26 := e28.trans hh28
        rcases hs28 with ⟨rfl, hq28_0_0⟩ | ⟨rfl, hq28_1_0, hq28_1_1⟩ | ⟨rfl, hq28_2_0, hq28_2_1, hq28_2_2⟩ | ⟨rfl, hq28_3_0, hq28_3_1, hq28_3_2, hq28_3_3⟩ | ⟨rfl, hq28_4_0, hq28_4_1, hq28_4_2, hq28_4_3, hq28_4_4⟩ | ⟨rfl, hq28_5_0, hq28_5_1, hq28_5_2, hq28_5_3, hq28_5_4, hq28_5_5⟩ | ⟨rfl, hq28_6_0, hq28_6_1, hq28_6_2, hq28_6_3, hq28_6_4, hq28_6_5, hq28_6_6⟩ | ⟨rfl, hq28_7_0, hq28_7_1, hq28_7_2, hq28_7_3, hq28_7_4, hq28_7_5, hq28_7_6, hq28_7_7⟩ | ⟨rfl, hq28_8_0, hq28_8_1, hq28_8_2, hq28_8_3, hq28_8_4, hq28_8_5, hq28_8_6, hq28_8_7, hq28_8_8⟩ | ⟨rfl, hq28_9_0, hq28_9_1, hq28_9_2, hq28_9_3, hq28_9_4, hq28_9_5, hq28_9_6, hq28_9_7, hq28_9_8, hq28_9_9⟩ | ⟨rfl, hq28_10_0, hq28_10_1, hq28_10_2, hq28_10_3, hq28_10_4, hq28_10_5, hq28_10_6, hq28_10_7, hq28_10_8, hq28_10_9, hq28_10_10⟩ | ⟨rfl, hq28_11_0, hq28_11_1, hq28_11_2, hq28_11_3, hq28_11_4, hq28_11_5, hq28_11_6, hq28_11_7, hq28_11_8, hq28_11_9, hq28_11_10, hq28_11_11⟩ | ⟨rfl, hq28_12_0, hq28_12_1, hq28_12_2, hq28_12_3, hq28_12_4, hq28_12_5, hq28_12_6, hq28_12_7, hq28_12_8, hq28_12_9, hq28_12_10, hq28_12_11, hq28_12_12⟩ | ⟨rfl, hq28_13_0, hq28_13_1, hq28_13_2, hq28_13_3, hq28_13_4, hq28_13_5, hq28_13_6, hq28_13_7, hq28_13_8, hq28_13_9, hq28_13_10, hq28_13_11, hq28_13_12, hq28_13_13⟩ | ⟨rfl, hq28_14_0, hq28_14_1, hq28_14_2, hq28_14_3, hq28_14_4, hq28_14_5, hq28_14_6, hq28_14_7, hq28_14_8, hq28_14_9, hq28_14_10, hq28_14_11, hq28_14_12, hq28_14_13⟩
        · exact absurd hq28_0_0 (by decide : ¬ ((82 : Int64) = (2 : Int64)))
        · exact absurd hq28_1_1 (by decide : ¬ ((82 : Int64) = (85 : Int64)))
        · exact absurd hq28_2_2 (by decide : ¬ ((82 : Int64) = (257 : Int64)))
        · have pre31 : ∀ t, Steps p.tables e below (T28.setTop (mkF m 39 #[.val (.long q0_), .second, .val (.int p1_), .val (.int (p1_ &&& (31 : Int32))), .val (.long (82 : Int64)), .second] [(.int (1 : Int32))])) t → Steps p.tables e below (s₁.setTop (entryFrame m #[(.long q0_), (.int p1_)] maxLocals)) t := by
            intro t kt
            refine pre1 t ?_
            show Steps p.tables e below (s₁.setTop (mkF m 8 #[.val (.long q0_), .second, .val (.int p1_), .val (.int (p1_ &&& (31 : Int32))), .unset, .unset] [(.int (14 : Int32)), (.int (p1_ &&& (31 : Int32)))])) _
            refine XS.icmpNo X0.here hx rfl (hb hby at_8) rfl (tlt hc2).2.1 ?_
            show Steps p.tables e below (s₁.setTop (mkF m 11 #[.val (.long q0_), .second, .val (.int p1_), .val (.int (p1_ &&& (31 : Int32))), .unset, .unset] [])) _
            refine XS.iloadN X0.here hx rfl (hb hby at_11) rfl ?_
            show Steps p.tables e below (s₁.setTop (mkF m 12 #[.val (.long q0_), .second, .val (.int p1_), .val (.int (p1_ &&& (31 : Int32))), .unset, .unset] [(.int (p1_ &&& (31 : Int32)))])) _
            refine st3 _ ?_
            show Steps p.tables e below (T3.setTop (mkF m 15 #[.val (.long q0_), .second, .val (.int p1_), .val (.int (p1_ &&& (31 : Int32))), .unset, .unset] [(.long (82 : Int64))])) _
            refine XS.goto X3.here hx rfl (pc0 := 15) (pc' := 19) rfl (hb hby at_15) (by decide) (by decide) ?_
            show Steps p.tables e below (T3.setTop (mkF m 19 #[.val (.long q0_), .second, .val (.int p1_), .val (.int (p1_ &&& (31 : Int32))), .unset, .unset] [(.long (82 : Int64))])) _
            refine XS.lstore X3.here hx rfl (hb hby at_19) rfl (l' := #[.val (.long q0_), .second, .val (.int p1_), .val (.int (p1_ &&& (31 : Int32))), .val (.long (82 : Int64)), .second]) rfl ?_
            show Steps p.tables e below (T3.setTop (mkF m 21 #[.val (.long q0_), .second, .val (.int p1_), .val (.int (p1_ &&& (31 : Int32))), .val (.long (82 : Int64)), .second] [])) _
            refine XS.lload X3.here hx rfl (hb hby at_21) rfl ?_
            show Steps p.tables e below (T3.setTop (mkF m 23 #[.val (.long q0_), .second, .val (.int p1_), .val (.int (p1_ &&& (31 : Int32))), .val (.long (82 : Int64)), .second] [(.long (82 : Int64))])) _
            refine st26 _ ?_
            show Steps p.tables e below (T26.setTop (mkF m 26 #[.val (.long q0_), .second, .val (.int p1_), .val (.int (p1_ &&& (31 : Int32))), .val (.long (82 : Int64)), .second] [(.ref w_RENAME)])) _
            refine XS.lload X26.here hx rfl (hb hby at_26) rfl ?_
            show Steps p.tables e below (T26.setTop (mkF m 28 #[.val (.long q0_), .second, .val (.int p1_), .val (.int (p1_ &&& (31 : Int32))), .val (.long (82 : Int64)), .second] [(.long (82 : Int64)), (.ref w_RENAME)])) _
            refine st28 _ ?_
            show Steps p.tables e below (T28.setTop (mkF m 31 #[.val (.long q0_), .second, .val (.int p1_), .val (.int (p1_ &&& (31 : Int32))), .val (.long (82 : Int64)), .second] [(.ref w_RENAME), (.ref w_RENAME)])) _
            refine Jvm.RoadKit.acmp (g := (mkF m 31 #[.val (.long q0_), .second, .val (.int p1_), .val (.int (p1_ &&& (31 : Int32))), .val (.long (82 : Int64)), .second] [(.ref w_RENAME), (.ref w_RENAME)])) X28 hx rfl rfl rfl (pc0 := 31) (pc' := 34) (same := true) rfl (hb hby at_31) rfl (decide_eq_true rfl) (by decide) (by decide) ?_
            show Steps p.tables e below (T28.setTop (mkF m 34 #[.val (.long q0_), .second, .val (.int p1_), .val (.int (p1_ &&& (31 : Int32))), .val (.long (82 : Int64)), .second] [])) _
            refine XS.iconst X28.here hx rfl (hb hby at_34) ?_
            show Steps p.tables e below (T28.setTop (mkF m 35 #[.val (.long q0_), .second, .val (.int p1_), .val (.int (p1_ &&& (31 : Int32))), .val (.long (82 : Int64)), .second] [(.int (1 : Int32))])) _
            refine XS.goto X28.here hx rfl (pc0 := 35) (pc' := 39) rfl (hb hby at_35) (by decide) (by decide) ?_
            exact kt
          obtain ⟨fs, hr, hrun, hended, hW, hsame⟩ := X28.leave (v := some (.int (1 : Int32))) (fun h => by rw [Bd.returns] at h; cases h)
          refine ⟨_, _, pre31 _ (retN X28 hx (t := .boolean) Bd.returns (by simp) (hb hby at_39) hr), hrun, hended, _, _, rfl, ?_, ⟨_, rfl⟩, hW, hsame.mono (by decide) (by decide)⟩
          show QLaw Z q0_ p1_ w_OPEN w_CREAT w_OPENAT w_RENAME w_RENAMEAT w_RENAMEAT2 w_UNLINK w_UNLINKAT w_RMDIR w_CHMOD w_FCHMOD w_FCHMODAT w_CHOWN w_FCHOWNAT w__VALUES k_ h0 n0 _ T28.heap _
          rw [e28']
          exact ⟨rfl, N30⟩
        · exact absurd hq28_4_4 (by decide : ¬ ((82 : Int64) = (264 : Int64)))
        · exact absurd hq28_5_5 (by decide : ¬ ((82 : Int64) = (316 : Int64)))
        · exact absurd hq28_6_6 (by decide : ¬ ((82 : Int64) = (87 : Int64)))
        · exact absurd hq28_7_7 (by decide : ¬ ((82 : Int64) = (263 : Int64)))
        · exact absurd hq28_8_8 (by decide : ¬ ((82 : Int64) = (84 : Int64)))
        · exact absurd hq28_9_9 (by decide : ¬ ((82 : Int64) = (90 : Int64)))
        · exact absurd hq28_10_10 (by decide : ¬ ((82 : Int64) = (91 : Int64)))
        · exact absurd hq28_11_11 (by decide : ¬ ((82 : Int64) = (268 : Int64)))
        · exact absurd hq28_12_12 (by decide : ¬ ((82 : Int64) = (92 : Int64)))
        · exact absurd hq28_13_13 (by decide : ¬ ((82 : Int64) = (260 : Int64)))
        · exact absurd (by decide : (82 : Int64) = (82 : Int64)) hq28_14_3
      · exact absurd hq26_4_4 (by decide : ¬ ((264 : Int64) = (82 : Int64)))
      · exact absurd hq26_5_5 (by decide : ¬ ((316 : Int64) = (82 : Int64)))
      · exact absurd hq26_6_6 (by decide : ¬ ((87 : Int64) = (82 : Int64)))
      · exact absurd hq26_7_7 (by decide : ¬ ((263 : Int64) = (82 : Int64)))
      · exact absurd hq26_8_8 (by decide : ¬ ((84 : Int64) = (82 : Int64)))
      · exact absurd hq26_9_9 (by decide : ¬ ((90 : Int64) = (82 : Int64)))
      · exact absurd hq26_10_10 (by decide : ¬ ((91 : Int64) = (82 : Int64)))
      · exact absurd hq26_11_11 (by decide : ¬ ((268 : Int64) = (82 : Int64)))
      · exact absurd hq26_12_12 (by decide : ¬ ((92 : Int64) = (82 : Int64)))
      · exact absurd hq26_13_13 (by decide : ¬ ((260 : Int64) = (82 : Int64)))
      · exact absurd (by decide : (82 : Int64) = (82 : Int64)) hq26_14_3
    · obtain ⟨_, _, ⟨T33, L33, k33, n33⟩, -, X33, ⟨Lc33, hQ33, l33, y33, z33⟩, st33⟩ := Jvm.LawKit.callS X3 hx (y := (⟨"com/example/aeacus/aeacus/audit/Syscall", "of", "(J)Lcom/example/aeacus/aeacus/audit/Syscall;"⟩ : MethodName)) hown (mvT hZ (hw _ (List.mem_of_getElem? (i := 5) rfl))) (mvT hZ (hw _ (List.mem_of_getElem? (i := 6) rfl))) (mvT hZ (hw _ (List.mem_of_getElem? (i := 7) rfl))) (mvT hZ (hw _ (List.mem_of_getElem? (i := 8) rfl))) (by decide) (backOf (W := 0) (rmOf l Z a0 hw [] (264 : Int64) w_OPEN w_CREAT w_OPENAT w_RENAME w_RENAMEAT w_RENAMEAT2 w_UNLINK w_UNLINKAT w_RMDIR w_CHMOD w_FCHMOD w_FCHMODAT w_CHOWN w_FCHOWNAT w__VALUES k_ h0 n0 O0 P0 P1 P2 P3 P4 P5 P6 P7 P8 P9 P10 P11 P12 P13 P14 P15 P16 P17 P18 P19 P20 P21 P22 P23 P24 P25 P26 P27 P28 P29 P30 P31 P32 P33 P34 P35 P36 P37 P38 P39 P40 P41 P42 P43 P44) hZ (hw _ (List.mem_of_getElem? (i := 8) rfl)) (hw _ (List.mem_of_getElem? (i := 7) rfl)) (by decide) (by decide)) (g := (mkF m 23 #[.val (.long q0_), .second, .val (.int p1_), .val (.int (p1_ &&& (31 : Int32))), .val (.long (264 : Int64)), .second] [(.long (264 : Int64))])) rfl (by rw [hml]; rfl) (argsL := [(.long (264 : Int64))]) (rest := []) (lenOf pd_2 rfl) rfl (by show 2 * 0 + _ ≤ _; exact Nat.le_of_eq rfl) (hb hby at_23) (fun _ _ => ⟨rfl, e3', (by decide : 0 + 1 ≤ _), (by decide : 0 + 14 ≤ _)⟩)
      dsimp only [Pt.U, Pt.locs, Pt.cells, Pt.slots] at X33 l33 y33 z33 st33 hQ33
      subst l33 y33 z33
      obtain ⟨h33, e33⟩ : ∃ z, T33.heap = z := ⟨_, rfl⟩
      rw [e33] at hQ33
      obtain ⟨rr33, rfl, hs33, N33q, K33⟩ := hQ33
      have N34 := Fr.app N4 N33q
      rcases hs33 with ⟨rfl, hq33_0_0⟩ | ⟨rfl, hq33_1_0, hq33_1_1⟩ | ⟨rfl, hq33_2_0, hq33_2_1, hq33_2_2⟩ | ⟨rfl, hq33_3_0, hq33_3_1, hq33_3_2, hq33_3_3⟩ | ⟨rfl, hq33_4_0, hq33_4_1, hq33_4_2, hq33_4_3, hq33_4_4⟩ | ⟨rfl, hq33_5_0, hq33_5_1, hq33_5_2, hq33_5_3, hq33_5_4, hq33_5_5⟩ | ⟨rfl, hq33_6_0, hq33_6_1, hq33_6_2, hq33_6_3, hq33_6_4, hq33_6_5, hq33_6_6⟩ | ⟨rfl, hq33_7_0, hq33_7_1, hq33_7_2, hq33_7_3, hq33_7_4, hq33_7_5, hq33_7_6, hq33_7_7⟩ | ⟨rfl, hq33_8_0, hq33_8_1, hq33_8_2, hq33_8_3, hq33_8_4, hq33_8_5, hq33_8_6, hq33_8_7, hq33_8_8⟩ | ⟨rfl, hq33_9_0, hq33_9_1, hq33_9_2, hq33_9_3, hq33_9_4, hq33_9_5, hq33_9_6, hq33_9_7, hq33_9_8, hq33_9_9⟩ | ⟨rfl, hq33_10_0, hq33_10_1, hq33_10_2, hq33_10_3, hq33_10_4, hq33_10_5, hq33_10_6, hq33_10_7, hq33_10_8, hq33_10_9, hq33_10_10⟩ | ⟨rfl, hq33_11_0, hq33_11_1, hq33_11_2, hq33_11_3, hq33_11_4, hq33_11_5, hq33_11_6, hq33_11_7, hq33_11_8, hq33_11_9, hq33_11_10, hq33_11_11⟩ | ⟨rfl, hq33_12_0, hq33_12_1, hq33_12_2, hq33_12_3, hq33_12_4, hq33_12_5, hq33_12_6, hq33_12_7, hq33_12_8, hq33_12_9, hq33_12_10, hq33_12_11, hq33_12_12⟩ | ⟨rfl, hq33_13_0, hq33_13_1, hq33_13_2, hq33_13_3, hq33_13_4, hq33_13_5, hq33_13_6, hq33_13_7, hq33_13_8, hq33_13_9, hq33_13_10, hq33_13_11, hq33_13_12, hq33_13_13⟩ | ⟨rfl, hq33_14_0, hq33_14_1, hq33_14_2, hq33_14_3, hq33_14_4, hq33_14_5, hq33_14_6, hq33_14_7, hq33_14_8, hq33_14_9, hq33_14_10, hq33_14_11, hq33_14_12, hq33_14_13⟩
      · exact absurd hq33_0_0 (by decide : ¬ ((2 : Int64) = (264 : Int64)))
      · exact absurd hq33_1_1 (by decide : ¬ ((85 : Int64) = (264 : Int64)))
      · exact absurd hq33_2_2 (by decide : ¬ ((257 : Int64) = (264 : Int64)))
      · exact absurd hq33_3_3 (by decide : ¬ ((82 : Int64) = (264 : Int64)))
      · have f36 : Old Z n0 h33 := O0.keep K33 all0
        obtain ⟨_, _, ⟨T35, L35, k35, n35⟩, -, X35, ⟨Lc35, hQ35, l35, y35, z35⟩, st35⟩ := Jvm.LawKit.callS X33 hx (y := (⟨"com/example/aeacus/aeacus/audit/SyscallOfPinLaw", "expected", "(J)Lcom/example/aeacus/aeacus/audit/Syscall;"⟩ : MethodName)) hown (mvT hZ (hw _ (List.mem_of_getElem? (i := 40) rfl))) (mvT hZ (hw _ (List.mem_of_getElem? (i := 41) rfl))) (mvT hZ (hw _ (List.mem_of_getElem? (i := 2) rfl))) (mvT hZ (hw _ (List.mem_of_getElem? (i := 42) rfl))) (by decide) (backOf (W := 1) (rmExp l Z a0 hw [] (264 : Int64) w_OPEN w_CREAT w_OPENAT w_RENAME w_RENAMEAT w_RENAMEAT2 w_UNLINK w_UNLINKAT w_RMDIR w_CHMOD w_FCHMOD w_FCHMODAT w_CHOWN w_FCHOWNAT w__VALUES k_ h33 n0 f36 P0 P1 P2 P3 P4 P5 P6 P7 P8 P9 P10 P11 P12 P13 P14 P15 P16 P17 P18 P19 P20 P21 P22 P23 P24 P25 P26 P27 P28 P29 P30 P31 P32 P33 P34 P35 P36 P37 P38 P39 P40 P41 P42 P43 P44) hZ (hw _ (List.mem_of_getElem? (i := 42) rfl)) (hw _ (List.mem_of_getElem? (i := 2) rfl)) (by decide) (by decide)) (g := (mkF m 28 #[.val (.long q0_), .second, .val (.int p1_), .val (.int (p1_ &&& (31 : Int32))), .val (.long (264 : Int64)), .second] [(.long (264 : Int64)), (.ref w_RENAMEAT)])) rfl (by rw [hml]; rfl) (argsL := [(.long (264 : Int64))]) (rest := [(.ref w_RENAMEAT)]) (lenOf pd_2 rfl) rfl (by show 2 * 0 + _ ≤ _; exact Nat.le_of_eq rfl) (hb hby at_28) (fun _ _ => ⟨rfl, e33, (by decide : 1 + 0 ≤ _), (by decide : 14 + 0 ≤ _)⟩)
        dsimp only [Pt.U, Pt.locs, Pt.cells, Pt.slots] at X35 l35 y35 z35 st35 hQ35
        subst l35 y35 z35
        obtain ⟨h35, e35⟩ : ∃ z, T35.heap = z := ⟨_, rfl⟩
        rw [e35] at hQ35
        obtain ⟨rr35, rfl, hs35, N35q, hh35⟩ := hQ35
        have N37 := Fr.app N34 N35q
        have e35' : T35.heap = h33 := e35.trans hh35
        rcases hs35 with ⟨rfl, hq35_0_0⟩ | ⟨rfl, hq35_1_0, hq35_1_1⟩ | ⟨rfl, hq35_2_0, hq35_2_1, hq35_2_2⟩ | ⟨rfl, hq35_3_0, hq35_3_1, hq35_3_2, hq35_3_3⟩ | ⟨rfl, hq35_4_0, hq35_4_1, hq35_4_2, hq35_4_3, hq35_4_4⟩ | ⟨rfl, hq35_5_0, hq35_5_1, hq35_5_2, hq35_5_3, hq35_5_4, hq35_5_5⟩ | ⟨rfl, hq35_6_0, hq35_6_1, hq35_6_2, hq35_6_3, hq35_6_4, hq35_6_5, hq35_6_6⟩ | ⟨rfl, hq35_7_0, hq35_7_1, hq35_7_2, hq35_7_3, hq35_7_4, hq35_7_5, hq35_7_6, hq35_7_7⟩ | ⟨rfl, hq35_8_0, hq35_8_1, hq35_8_2, hq35_8_3, hq35_8_4, hq35_8_5, hq35_8_6, hq35_8_7, hq35_8_8⟩ | ⟨rfl, hq35_9_0, hq35_9_1, hq35_9_2, hq35_9_3, hq35_9_4, hq35_9_5, hq35_9_6, hq35_9_7, hq35_9_8, hq35_9_9⟩ | ⟨rfl, hq35_10_0, hq35_10_1, hq35_10_2, hq35_10_3, hq35_10_4, hq35_10_5, hq35_10_6, hq35_10_7, hq35_10_8, hq35_10_9, hq35_10_10⟩ | ⟨rfl, hq35_11_0, hq35_11_1, hq35_11_2, hq35_11_3, hq35_11_4, hq35_11_5, hq35_11_6, hq35_11_7, hq35_11_8, hq35_11_9, hq35_11_10, hq35_11_11⟩ | ⟨rfl, hq35_12_0, hq35_12_1, hq35_12_2, hq35_12_3, hq35_12_4, hq35_12_5, hq35_12_6, hq35_12_7, hq35_12_8, hq35_12_9, hq35_12_10, hq35_12_11, hq35_12_12⟩ | ⟨rfl, hq35_13_0, hq35_13_1, hq35_13_2, hq35_13_3, hq35_13_4, hq35_13_5, hq35_13_6, hq35_13_7, hq35_13_8, hq35_13_9, hq35_13_10, hq35_13_11, hq35_13_12, hq35_13_13⟩ | ⟨rfl, hq35_14_0, hq35_14_1, hq35_14_2, hq35_14_3, hq35_14_4, hq35_14_5, hq35_14_6, hq35_14_7, hq35_14_8, hq35_14_9, hq35_14_10, hq35_14_11, hq35_14_12, hq35_14_13⟩
        · exact absurd hq35_0_0 (by decide : ¬ ((264 : Int64) = (2 : Int64)))
        · exact absurd hq35_1_1 (by decide : ¬ ((264 : Int64) = (85 : Int64)))
        · exact absurd hq35_2_2 (by decide : ¬ ((264 : Int64) = (257 : Int64)))
        · exact absurd hq35_3_3 (by decide : ¬ ((264 : Int64) = (82 : Int64)))
        · have pre38 : ∀ t, Steps p.tables e below (T35.setTop (mkF m 39 #[.val (.long q0_), .second, .val (.int p1_), .val (.int (p1_ &&& (31 : Int32))), .val (.long (264 : Int64)), .second] [(.int (1 : Int32))])) t → Steps p.tables e below (s₁.setTop (entryFrame m #[(.long q0_), (.int p1_)] maxLocals)) t := by
            intro t kt
            refine pre1 t ?_
            show Steps p.tables e below (s₁.setTop (mkF m 8 #[.val (.long q0_), .second, .val (.int p1_), .val (.int (p1_ &&& (31 : Int32))), .unset, .unset] [(.int (14 : Int32)), (.int (p1_ &&& (31 : Int32)))])) _
            refine XS.icmpNo X0.here hx rfl (hb hby at_8) rfl (tlt hc2).2.1 ?_
            show Steps p.tables e below (s₁.setTop (mkF m 11 #[.val (.long q0_), .second, .val (.int p1_), .val (.int (p1_ &&& (31 : Int32))), .unset, .unset] [])) _
            refine XS.iloadN X0.here hx rfl (hb hby at_11) rfl ?_
            show Steps p.tables e below (s₁.setTop (mkF m 12 #[.val (.long q0_), .second, .val (.int p1_), .val (.int (p1_ &&& (31 : Int32))), .unset, .unset] [(.int (p1_ &&& (31 : Int32)))])) _
            refine st3 _ ?_
            show Steps p.tables e below (T3.setTop (mkF m 15 #[.val (.long q0_), .second, .val (.int p1_), .val (.int (p1_ &&& (31 : Int32))), .unset, .unset] [(.long (264 : Int64))])) _
            refine XS.goto X3.here hx rfl (pc0 := 15) (pc' := 19) rfl (hb hby at_15) (by decide) (by decide) ?_
            show Steps p.tables e below (T3.setTop (mkF m 19 #[.val (.long q0_), .second, .val (.int p1_), .val (.int (p1_ &&& (31 : Int32))), .unset, .unset] [(.long (264 : Int64))])) _
            refine XS.lstore X3.here hx rfl (hb hby at_19) rfl (l' := #[.val (.long q0_), .second, .val (.int p1_), .val (.int (p1_ &&& (31 : Int32))), .val (.long (264 : Int64)), .second]) rfl ?_
            show Steps p.tables e below (T3.setTop (mkF m 21 #[.val (.long q0_), .second, .val (.int p1_), .val (.int (p1_ &&& (31 : Int32))), .val (.long (264 : Int64)), .second] [])) _
            refine XS.lload X3.here hx rfl (hb hby at_21) rfl ?_
            show Steps p.tables e below (T3.setTop (mkF m 23 #[.val (.long q0_), .second, .val (.int p1_), .val (.int (p1_ &&& (31 : Int32))), .val (.long (264 : Int64)), .second] [(.long (264 : Int64))])) _
            refine st33 _ ?_
            show Steps p.tables e below (T33.setTop (mkF m 26 #[.val (.long q0_), .second, .val (.int p1_), .val (.int (p1_ &&& (31 : Int32))), .val (.long (264 : Int64)), .second] [(.ref w_RENAMEAT)])) _
            refine XS.lload X33.here hx rfl (hb hby at_26) rfl ?_
            show Steps p.tables e below (T33.setTop (mkF m 28 #[.val (.long q0_), .second, .val (.int p1_), .val (.int (p1_ &&& (31 : Int32))), .val (.long (264 : Int64)), .second] [(.long (264 : Int64)), (.ref w_RENAMEAT)])) _
            refine st35 _ ?_
            show Steps p.tables e below (T35.setTop (mkF m 31 #[.val (.long q0_), .second, .val (.int p1_), .val (.int (p1_ &&& (31 : Int32))), .val (.long (264 : Int64)), .second] [(.ref w_RENAMEAT), (.ref w_RENAMEAT)])) _
            refine Jvm.RoadKit.acmp (g := (mkF m 31 #[.val (.long q0_), .second, .val (.int p1_), .val (.int (p1_ &&& (31 : Int32))), .val (.long (264 : Int64)), .second] [(.ref w_RENAMEAT), (.ref w_RENAMEAT)])) X35 hx rfl rfl rfl (pc0 := 31) (pc' := 34) (same := true) rfl (hb hby at_31) rfl (decide_eq_true rfl) (by decide) (by decide) ?_
            show Steps p.tables e below (T35.setTop (mkF m 34 #[.val (.long q0_), .second, .val (.int p1_), .val (.int (p1_ &&& (31 : Int32))), .val (.long (264 : Int64)), .second] [])) _
            refine XS.iconst X35.here hx rfl (hb hby at_34) ?_
            show Steps p.tables e below (T35.setTop (mkF m 35 #[.val (.long q0_), .second, .val (.int p1_), .val (.int (p1_ &&& (31 : Int32))), .val (.long (264 : Int64)), .second] [(.int (1 : Int32))])) _
            refine XS.goto X35.here hx rfl (pc0 := 35) (pc' := 39) rfl (hb hby at_35) (by decide) (by decide) ?_
            exact kt
          obtain ⟨fs, hr, hrun, hended, hW, hsame⟩ := X35.leave (v := some (.int (1 : Int32))) (fun h => by rw [Bd.returns] at h; cases h)
          refine ⟨_, _, pre38 _ (retN X35 hx (t := .boolean) Bd.returns (by simp) (hb hby at_39) hr), hrun, hended, _, _, rfl, ?_, ⟨_, rfl⟩, hW, hsame.mono (by decide) (by decide)⟩
          show QLaw Z q0_ p1_ w_OPEN w_CREAT w_OPENAT w_RENAME w_RENAMEAT w_RENAMEAT2 w_UNLINK w_UNLINKAT w_RMDIR w_CHMOD w_FCHMOD w_FCHMODAT w_CHOWN w_FCHOWNAT w__VALUES k_ h0 n0 _ T35.heap _
          rw [e35']
          exact ⟨rfl, N37⟩
        · exact absurd hq35_5_5 (by decide : ¬ ((264 : Int64) = (316 : Int64)))
        · exact absurd hq35_6_6 (by decide : ¬ ((264 : Int64) = (87 : Int64)))
        · exact absurd hq35_7_7 (by decide : ¬ ((264 : Int64) = (263 : Int64)))
        · exact absurd hq35_8_8 (by decide : ¬ ((264 : Int64) = (84 : Int64)))
        · exact absurd hq35_9_9 (by decide : ¬ ((264 : Int64) = (90 : Int64)))
        · exact absurd hq35_10_10 (by decide : ¬ ((264 : Int64) = (91 : Int64)))
        · exact absurd hq35_11_11 (by decide : ¬ ((264 : Int64) = (268 : Int64)))
        · exact absurd hq35_12_12 (by decide : ¬ ((264 : Int64) = (92 : Int64)))
        · exact absurd hq35_13_13 (by decide : ¬ ((264 : Int64) = (260 : Int64)))
        · exact absurd (by decide : (264 : Int64) = (264 : Int64)) hq35_14_4
      · exact absurd hq33_5_5 (by decide : ¬ ((316 : Int64) = (264 : Int64)))
      · exact absurd hq33_6_6 (by decide : ¬ ((87 : Int64) = (264 : Int64)))
      · exact absurd hq33_7_7 (by decide : ¬ ((263 : Int64) = (264 : Int64)))
      · exact absurd hq33_8_8 (by decide : ¬ ((84 : Int64) = (264 : Int64)))
      · exact absurd hq33_9_9 (by decide : ¬ ((90 : Int64) = (264 : Int64)))
      · exact absurd hq33_10_10 (by decide : ¬ ((91 : Int64) = (264 : Int64)))
      · exact absurd hq33_11_11 (by decide : ¬ ((268 : Int64) = (264 : Int64)))
      · exact absurd hq33_12_12 (by decide : ¬ ((92 : Int64) = (264 : Int64)))
      · exact absurd hq33_13_13 (by decide : ¬ ((260 : Int64) = (264 : Int64)))
      · exact absurd (by decide : (264 : Int64) = (264 : Int64)) hq33_14_4
    · obtain ⟨_, _, ⟨T40, L40, k40, n40⟩, -, X40, ⟨Lc40, hQ40, l40, y40, z40⟩, st40⟩ := Jvm.LawKit.callS X3 hx (y := (⟨"com/example/aeacus/aeacus/audit/Syscall", "of", "(J)Lcom/example/aeacus/aeacus/audit/Syscall;"⟩ : MethodName)) hown (mvT hZ (hw _ (List.mem_of_getElem? (i := 5) rfl))) (mvT hZ (hw _ (List.mem_of_getElem? (i := 6) rfl))) (mvT hZ (hw _ (List.mem_of_getElem? (i := 7) rfl))) (mvT hZ (hw _ (List.mem_of_getElem? (i := 8) rfl))) (by decide) (backOf (W := 0) (rmOf l Z a0 hw [] (316 : Int64) w_OPEN w_CREAT w_OPENAT w_RENAME w_RENAMEAT w_RENAMEAT2 w_UNLINK w_UNLINKAT w_RMDIR w_CHMOD w_FCHMOD w_FCHMODAT w_CHOWN w_FCHOWNAT w__VALUES k_ h0 n0 O0 P0 P1 P2 P3 P4 P5 P6 P7 P8 P9 P10 P11 P12 P13 P14 P15 P16 P17 P18 P19 P20 P21 P22 P23 P24 P25 P26 P27 P28 P29 P30 P31 P32 P33 P34 P35 P36 P37 P38 P39 P40 P41 P42 P43 P44) hZ (hw _ (List.mem_of_getElem? (i := 8) rfl)) (hw _ (List.mem_of_getElem? (i := 7) rfl)) (by decide) (by decide)) (g := (mkF m 23 #[.val (.long q0_), .second, .val (.int p1_), .val (.int (p1_ &&& (31 : Int32))), .val (.long (316 : Int64)), .second] [(.long (316 : Int64))])) rfl (by rw [hml]; rfl) (argsL := [(.long (316 : Int64))]) (rest := []) (lenOf pd_2 rfl) rfl (by show 2 * 0 + _ ≤ _; exact Nat.le_of_eq rfl) (hb hby at_23) (fun _ _ => ⟨rfl, e3', (by decide : 0 + 1 ≤ _), (by decide : 0 + 14 ≤ _)⟩)
      dsimp only [Pt.U, Pt.locs, Pt.cells, Pt.slots] at X40 l40 y40 z40 st40 hQ40
      subst l40 y40 z40
      obtain ⟨h40, e40⟩ : ∃ z, T40.heap = z := ⟨_, rfl⟩
      rw [e40] at hQ40
      obtain ⟨rr40, rfl, hs40, N40q, K40⟩ := hQ40
      have N41 := Fr.app N4 N40q
      rcases hs40 with ⟨rfl, hq40_0_0⟩ | ⟨rfl, hq40_1_0, hq40_1_1⟩ | ⟨rfl, hq40_2_0, hq40_2_1, hq40_2_2⟩ | ⟨rfl, hq40_3_0, hq40_3_1, hq40_3_2, hq40_3_3⟩ | ⟨rfl, hq40_4_0, hq40_4_1, hq40_4_2, hq40_4_3, hq40_4_4⟩ | ⟨rfl, hq40_5_0, hq40_5_1, hq40_5_2, hq40_5_3, hq40_5_4, hq40_5_5⟩ | ⟨rfl, hq40_6_0, hq40_6_1, hq40_6_2, hq40_6_3, hq40_6_4, hq40_6_5, hq40_6_6⟩ | ⟨rfl, hq40_7_0, hq40_7_1, hq40_7_2, hq40_7_3, hq40_7_4, hq40_7_5, hq40_7_6, hq40_7_7⟩ | ⟨rfl, hq40_8_0, hq40_8_1, hq40_8_2, hq40_8_3, hq40_8_4, hq40_8_5, hq40_8_6, hq40_8_7, hq40_8_8⟩ | ⟨rfl, hq40_9_0, hq40_9_1, hq40_9_2, hq40_9_3, hq40_9_4, hq40_9_5, hq40_9_6, hq40_9_7, hq40_9_8, hq40_9_9⟩ | ⟨rfl, hq40_10_0, hq40_10_1, hq40_10_2, hq40_10_3, hq40_10_4, hq40_10_5, hq40_10_6, hq40_10_7, hq40_10_8, hq40_10_9, hq40_10_10⟩ | ⟨rfl, hq40_11_0, hq40_11_1, hq40_11_2, hq40_11_3, hq40_11_4, hq40_11_5, hq40_11_6, hq40_11_7, hq40_11_8, hq40_11_9, hq40_11_10, hq40_11_11⟩ | ⟨rfl, hq40_12_0, hq40_12_1, hq40_12_2, hq40_12_3, hq40_12_4, hq40_12_5, hq40_12_6, hq40_12_7, hq40_12_8, hq40_12_9, hq40_12_10, hq40_12_11, hq40_12_12⟩ | ⟨rfl, hq40_13_0, hq40_13_1, hq40_13_2, hq40_13_3, hq40_13_4, hq40_13_5, hq40_13_6, hq40_13_7, hq40_13_8, hq40_13_9, hq40_13_10, hq40_13_11, hq40_13_12, hq40_13_13⟩ | ⟨rfl, hq40_14_0, hq40_14_1, hq40_14_2, hq40_14_3, hq40_14_4, hq40_14_5, hq40_14_6, hq40_14_7, hq40_14_8, hq40_14_9, hq40_14_10, hq40_14_11, hq40_14_12, hq40_14_13⟩
      · exact absurd hq40_0_0 (by decide : ¬ ((2 : Int64) = (316 : Int64)))
      · exact absurd hq40_1_1 (by decide : ¬ ((85 : Int64) = (316 : Int64)))
      · exact absurd hq40_2_2 (by decide : ¬ ((257 : Int64) = (316 : Int64)))
      · exact absurd hq40_3_3 (by decide : ¬ ((82 : Int64) = (316 : Int64)))
      · exact absurd hq40_4_4 (by decide : ¬ ((264 : Int64) = (316 : Int64)))
      · have f43 : Old Z n0 h40 := O0.keep K40 all0
        obtain ⟨_, _, ⟨T42, L42, k42, n42⟩, -, X42, ⟨Lc42, hQ42, l42, y42, z42⟩, st42⟩ := Jvm.LawKit.callS X40 hx (y := (⟨"com/example/aeacus/aeacus/audit/SyscallOfPinLaw", "expected", "(J)Lcom/example/aeacus/aeacus/audit/Syscall;"⟩ : MethodName)) hown (mvT hZ (hw _ (List.mem_of_getElem? (i := 40) rfl))) (mvT hZ (hw _ (List.mem_of_getElem? (i := 41) rfl))) (mvT hZ (hw _ (List.mem_of_getElem? (i := 2) rfl))) (mvT hZ (hw _ (List.mem_of_getElem? (i := 42) rfl))) (by decide) (backOf (W := 1) (rmExp l Z a0 hw [] (316 : Int64) w_OPEN w_CREAT w_OPENAT w_RENAME w_RENAMEAT w_RENAMEAT2 w_UNLINK w_UNLINKAT w_RMDIR w_CHMOD w_FCHMOD w_FCHMODAT w_CHOWN w_FCHOWNAT w__VALUES k_ h40 n0 f43 P0 P1 P2 P3 P4 P5 P6 P7 P8 P9 P10 P11 P12 P13 P14 P15 P16 P17 P18 P19 P20 P21 P22 P23 P24 P25 P26 P27 P28 P29 P30 P31 P32 P33 P34 P35 P36 P37 P38 P39 P40 P41 P42 P43 P44) hZ (hw _ (List.mem_of_getElem? (i := 42) rfl)) (hw _ (List.mem_of_getElem? (i := 2) rfl)) (by decide) (by decide)) (g := (mkF m 28 #[.val (.long q0_), .second, .val (.int p1_), .val (.int (p1_ &&& (31 : Int32))), .val (.long (316 : Int64)), .second] [(.long (316 : Int64)), (.ref w_RENAMEAT2)])) rfl (by rw [hml]; rfl) (argsL := [(.long (316 : Int64))]) (rest := [(.ref w_RENAMEAT2)]) (lenOf pd_2 rfl) rfl (by show 2 * 0 + _ ≤ _; exact Nat.le_of_eq rfl) (hb hby at_28) (fun _ _ => ⟨rfl, e40, (by decide : 1 + 0 ≤ _), (by decide : 14 + 0 ≤ _)⟩)
        dsimp only [Pt.U, Pt.locs, Pt.cells, Pt.slots] at X42 l42 y42 z42 st42 hQ42
        subst l42 y42 z42
        obtain ⟨h42, e42⟩ : ∃ z, T42.heap = z := ⟨_, rfl⟩
        rw [e42] at hQ42
        obtain ⟨rr42, rfl, hs42, N42q, hh42⟩ := hQ42
        have N44 := Fr.app N41 N42q
        have e42' : T42.heap = h40 := e42.trans hh42
        rcases hs42 with ⟨rfl, hq42_0_0⟩ | ⟨rfl, hq42_1_0, hq42_1_1⟩ | ⟨rfl, hq42_2_0, hq42_2_1, hq42_2_2⟩ | ⟨rfl, hq42_3_0, hq42_3_1, hq42_3_2, hq42_3_3⟩ | ⟨rfl, hq42_4_0, hq42_4_1, hq42_4_2, hq42_4_3, hq42_4_4⟩ | ⟨rfl, hq42_5_0, hq42_5_1, hq42_5_2, hq42_5_3, hq42_5_4, hq42_5_5⟩ | ⟨rfl, hq42_6_0, hq42_6_1, hq42_6_2, hq42_6_3, hq42_6_4, hq42_6_5, hq42_6_6⟩ | ⟨rfl, hq42_7_0, hq42_7_1, hq42_7_2, hq42_7_3, hq42_7_4, hq42_7_5, hq42_7_6, hq42_7_7⟩ | ⟨rfl, hq42_8_0, hq42_8_1, hq42_8_2, hq42_8_3, hq42_8_4, hq42_8_5, hq42_8_6, hq42_8_7, hq42_8_8⟩ | ⟨rfl, hq42_9_0, hq42_9_1, hq42_9_2, hq42_9_3, hq42_9_4, hq42_9_5, hq42_9_6, hq42_9_7, hq42_9_8, hq42_9_9⟩ | ⟨rfl, hq42_10_0, hq42_10_1, hq42_10_2, hq42_10_3, hq42_10_4, hq42_10_5, hq42_10_6, hq42_10_7, hq42_10_8, hq42_10_9, hq42_10_10⟩ | ⟨rfl, hq42_11_0, hq42_11_1, hq42_11_2, hq42_11_3, hq42_11_4, hq42_11_5, hq42_11_6, hq42_11_7, hq42_11_8, hq42_11_9, hq42_11_10, hq42_11_11⟩ | ⟨rfl, hq42_12_0, hq42_12_1, hq42_12_2, hq42_12_3, hq42_12_4, hq42_12_5, hq42_12_6, hq42_12_7, hq42_12_8, hq42_12_9, hq42_12_10, hq42_12_11, hq42_12_12⟩ | ⟨rfl, hq42_13_0, hq42_13_1, hq42_13_2, hq42_13_3, hq42_13_4, hq42_13_5, hq42_13_6, hq42_13_7, hq42_13_8, hq42_13_9, hq42_13_10, hq42_13_11, hq42_13_12, hq42_13_13⟩ | ⟨rfl, hq42_14_0, hq42_14_1, hq42_14_2, hq42_14_3, hq42_14_4, hq42_14_5, hq42_14_6, hq42_14_7, hq42_14_8, hq42_14_9, hq42_14_10, hq42_14_11, hq42_14_12, hq42_14_13⟩
        · exact absurd hq42_0_0 (by decide : ¬ ((316 : Int64) = (2 : Int64)))
        · exact absurd hq42_1_1 (by decide : ¬ ((316 : Int64) = (85 : Int64)))
        · exact absurd hq42_2_2 (by decide : ¬ ((316 : Int64) = (257 : Int64)))
        · exact absurd hq42_3_3 (by decide : ¬ ((316 : Int64) = (82 : Int64)))
        · exact absurd hq42_4_4 (by decide : ¬ ((316 : Int64) = (264 : Int64)))
        · have pre45 : ∀ t, Steps p.tables e below (T42.setTop (mkF m 39 #[.val (.long q0_), .second, .val (.int p1_), .val (.int (p1_ &&& (31 : Int32))), .val (.long (316 : Int64)), .second] [(.int (1 : Int32))])) t → Steps p.tables e below (s₁.setTop (entryFrame m #[(.long q0_), (.int p1_)] maxLocals)) t := by
            intro t kt
            refine pre1 t ?_
            show Steps p.tables e below (s₁.setTop (mkF m 8 #[.val (.long q0_), .second, .val (.int p1_), .val (.int (p1_ &&& (31 : Int32))), .unset, .unset] [(.int (14 : Int32)), (.int (p1_ &&& (31 : Int32)))])) _
            refine XS.icmpNo X0.here hx rfl (hb hby at_8) rfl (tlt hc2).2.1 ?_
            show Steps p.tables e below (s₁.setTop (mkF m 11 #[.val (.long q0_), .second, .val (.int p1_), .val (.int (p1_ &&& (31 : Int32))), .unset, .unset] [])) _
            refine XS.iloadN X0.here hx rfl (hb hby at_11) rfl ?_
            show Steps p.tables e below (s₁.setTop (mkF m 12 #[.val (.long q0_), .second, .val (.int p1_), .val (.int (p1_ &&& (31 : Int32))), .unset, .unset] [(.int (p1_ &&& (31 : Int32)))])) _
            refine st3 _ ?_
            show Steps p.tables e below (T3.setTop (mkF m 15 #[.val (.long q0_), .second, .val (.int p1_), .val (.int (p1_ &&& (31 : Int32))), .unset, .unset] [(.long (316 : Int64))])) _
            refine XS.goto X3.here hx rfl (pc0 := 15) (pc' := 19) rfl (hb hby at_15) (by decide) (by decide) ?_
            show Steps p.tables e below (T3.setTop (mkF m 19 #[.val (.long q0_), .second, .val (.int p1_), .val (.int (p1_ &&& (31 : Int32))), .unset, .unset] [(.long (316 : Int64))])) _
            refine XS.lstore X3.here hx rfl (hb hby at_19) rfl (l' := #[.val (.long q0_), .second, .val (.int p1_), .val (.int (p1_ &&& (31 : Int32))), .val (.long (316 : Int64)), .second]) rfl ?_
            show Steps p.tables e below (T3.setTop (mkF m 21 #[.val (.long q0_), .second, .val (.int p1_), .val (.int (p1_ &&& (31 : Int32))), .val (.long (316 : Int64)), .second] [])) _
            refine XS.lload X3.here hx rfl (hb hby at_21) rfl ?_
            show Steps p.tables e below (T3.setTop (mkF m 23 #[.val (.long q0_), .second, .val (.int p1_), .val (.int (p1_ &&& (31 : Int32))), .val (.long (316 : Int64)), .second] [(.long (316 : Int64))])) _
            refine st40 _ ?_
            show Steps p.tables e below (T40.setTop (mkF m 26 #[.val (.long q0_), .second, .val (.int p1_), .val (.int (p1_ &&& (31 : Int32))), .val (.long (316 : Int64)), .second] [(.ref w_RENAMEAT2)])) _
            refine XS.lload X40.here hx rfl (hb hby at_26) rfl ?_
            show Steps p.tables e below (T40.setTop (mkF m 28 #[.val (.long q0_), .second, .val (.int p1_), .val (.int (p1_ &&& (31 : Int32))), .val (.long (316 : Int64)), .second] [(.long (316 : Int64)), (.ref w_RENAMEAT2)])) _
            refine st42 _ ?_
            show Steps p.tables e below (T42.setTop (mkF m 31 #[.val (.long q0_), .second, .val (.int p1_), .val (.int (p1_ &&& (31 : Int32))), .val (.long (316 : Int64)), .second] [(.ref w_RENAMEAT2), (.ref w_RENAMEAT2)])) _
            refine Jvm.RoadKit.acmp (g := (mkF m 31 #[.val (.long q0_), .second, .val (.int p1_), .val (.int (p1_ &&& (31 : Int32))), .val (.long (316 : Int64)), .second] [(.ref w_RENAMEAT2), (.ref w_RENAMEAT2)])) X42 hx rfl rfl rfl (pc0 := 31) (pc' := 34) (same := true) rfl (hb hby at_31) rfl (decide_eq_true rfl) (by decide) (by decide) ?_
            show Steps p.tables e below (T42.setTop (mkF m 34 #[.val (.long q0_), .second, .val (.int p1_), .val (.int (p1_ &&& (31 : Int32))), .val (.long (316 : Int64)), .second] [])) _
            refine XS.iconst X42.here hx rfl (hb hby at_34) ?_
            show Steps p.tables e below (T42.setTop (mkF m 35 #[.val (.long q0_), .second, .val (.int p1_), .val (.int (p1_ &&& (31 : Int32))), .val (.long (316 : Int64)), .second] [(.int (1 : Int32))])) _
            refine XS.goto X42.here hx rfl (pc0 := 35) (pc' := 39) rfl (hb hby at_35) (by decide) (by decide) ?_
            exact kt
          obtain ⟨fs, hr, hrun, hended, hW, hsame⟩ := X42.leave (v := some (.int (1 : Int32))) (fun h => by rw [Bd.returns] at h; cases h)
          refine ⟨_, _, pre45 _ (retN X42 hx (t := .boolean) Bd.returns (by simp) (hb hby at_39) hr), hrun, hended, _, _, rfl, ?_, ⟨_, rfl⟩, hW, hsame.mono (by decide) (by decide)⟩
          show QLaw Z q0_ p1_ w_OPEN w_CREAT w_OPENAT w_RENAME w_RENAMEAT w_RENAMEAT2 w_UNLINK w_UNLINKAT w_RMDIR w_CHMOD w_FCHMOD w_FCHMODAT w_CHOWN w_FCHOWNAT w__VALUES k_ h0 n0 _ T42.heap _
          rw [e42']
          exact ⟨rfl, N44⟩
        · exact absurd hq42_6_6 (by decide : ¬ ((316 : Int64) = (87 : Int64)))
        · exact absurd hq42_7_7 (by decide : ¬ ((316 : Int64) = (263 : Int64)))
        · exact absurd hq42_8_8 (by decide : ¬ ((316 : Int64) = (84 : Int64)))
        · exact absurd hq42_9_9 (by decide : ¬ ((316 : Int64) = (90 : Int64)))
        · exact absurd hq42_10_10 (by decide : ¬ ((316 : Int64) = (91 : Int64)))
        · exact absurd hq42_11_11 (by decide : ¬ ((316 : Int64) = (268 : Int64)))
        · exact absurd hq42_12_12 (by decide : ¬ ((316 : Int64) = (92 : Int64)))
        · exact absurd hq42_13_13 (by decide : ¬ ((316 : Int64) = (260 : Int64)))
        · exact absurd (by decide : (316 : Int64) = (316 : Int64)) hq42_14_5
      · exact absurd hq40_6_6 (by decide : ¬ ((87 : Int64) = (316 : Int64)))
      · exact absurd hq40_7_7 (by decide : ¬ ((263 : Int64) = (316 : Int64)))
      · exact absurd hq40_8_8 (by decide : ¬ ((84 : Int64) = (316 : Int64)))
      · exact absurd hq40_9_9 (by decide : ¬ ((90 : Int64) = (316 : Int64)))
      · exact absurd hq40_10_10 (by decide : ¬ ((91 : Int64) = (316 : Int64)))
      · exact absurd hq40_11_11 (by decide : ¬ ((268 : Int64) = (316 : Int64)))
      · exact absurd hq40_12_12 (by decide : ¬ ((92 : Int64) = (316 : Int64)))
      · exact absurd hq40_13_13 (by decide : ¬ ((260 : Int64) = (316 : Int64)))
      · exact absurd (by decide : (316 : Int64) = (316 : Int64)) hq40_14_5
    · obtain ⟨_, _, ⟨T47, L47, k47, n47⟩, -, X47, ⟨Lc47, hQ47, l47, y47, z47⟩, st47⟩ := Jvm.LawKit.callS X3 hx (y := (⟨"com/example/aeacus/aeacus/audit/Syscall", "of", "(J)Lcom/example/aeacus/aeacus/audit/Syscall;"⟩ : MethodName)) hown (mvT hZ (hw _ (List.mem_of_getElem? (i := 5) rfl))) (mvT hZ (hw _ (List.mem_of_getElem? (i := 6) rfl))) (mvT hZ (hw _ (List.mem_of_getElem? (i := 7) rfl))) (mvT hZ (hw _ (List.mem_of_getElem? (i := 8) rfl))) (by decide) (backOf (W := 0) (rmOf l Z a0 hw [] (87 : Int64) w_OPEN w_CREAT w_OPENAT w_RENAME w_RENAMEAT w_RENAMEAT2 w_UNLINK w_UNLINKAT w_RMDIR w_CHMOD w_FCHMOD w_FCHMODAT w_CHOWN w_FCHOWNAT w__VALUES k_ h0 n0 O0 P0 P1 P2 P3 P4 P5 P6 P7 P8 P9 P10 P11 P12 P13 P14 P15 P16 P17 P18 P19 P20 P21 P22 P23 P24 P25 P26 P27 P28 P29 P30 P31 P32 P33 P34 P35 P36 P37 P38 P39 P40 P41 P42 P43 P44) hZ (hw _ (List.mem_of_getElem? (i := 8) rfl)) (hw _ (List.mem_of_getElem? (i := 7) rfl)) (by decide) (by decide)) (g := (mkF m 23 #[.val (.long q0_), .second, .val (.int p1_), .val (.int (p1_ &&& (31 : Int32))), .val (.long (87 : Int64)), .second] [(.long (87 : Int64))])) rfl (by rw [hml]; rfl) (argsL := [(.long (87 : Int64))]) (rest := []) (lenOf pd_2 rfl) rfl (by show 2 * 0 + _ ≤ _; exact Nat.le_of_eq rfl) (hb hby at_23) (fun _ _ => ⟨rfl, e3', (by decide : 0 + 1 ≤ _), (by decide : 0 + 14 ≤ _)⟩)
      dsimp only [Pt.U, Pt.locs, Pt.cells, Pt.slots] at X47 l47 y47 z47 st47 hQ47
      subst l47 y47 z47
      obtain ⟨h47, e47⟩ : ∃ z, T47.heap = z := ⟨_, rfl⟩
      rw [e47] at hQ47
      obtain ⟨rr47, rfl, hs47, N47q, K47⟩ := hQ47
      have N48 := Fr.app N4 N47q
      rcases hs47 with ⟨rfl, hq47_0_0⟩ | ⟨rfl, hq47_1_0, hq47_1_1⟩ | ⟨rfl, hq47_2_0, hq47_2_1, hq47_2_2⟩ | ⟨rfl, hq47_3_0, hq47_3_1, hq47_3_2, hq47_3_3⟩ | ⟨rfl, hq47_4_0, hq47_4_1, hq47_4_2, hq47_4_3, hq47_4_4⟩ | ⟨rfl, hq47_5_0, hq47_5_1, hq47_5_2, hq47_5_3, hq47_5_4, hq47_5_5⟩ | ⟨rfl, hq47_6_0, hq47_6_1, hq47_6_2, hq47_6_3, hq47_6_4, hq47_6_5, hq47_6_6⟩ | ⟨rfl, hq47_7_0, hq47_7_1, hq47_7_2, hq47_7_3, hq47_7_4, hq47_7_5, hq47_7_6, hq47_7_7⟩ | ⟨rfl, hq47_8_0, hq47_8_1, hq47_8_2, hq47_8_3, hq47_8_4, hq47_8_5, hq47_8_6, hq47_8_7, hq47_8_8⟩ | ⟨rfl, hq47_9_0, hq47_9_1, hq47_9_2, hq47_9_3, hq47_9_4, hq47_9_5, hq47_9_6, hq47_9_7, hq47_9_8, hq47_9_9⟩ | ⟨rfl, hq47_10_0, hq47_10_1, hq47_10_2, hq47_10_3, hq47_10_4, hq47_10_5, hq47_10_6, hq47_10_7, hq47_10_8, hq47_10_9, hq47_10_10⟩ | ⟨rfl, hq47_11_0, hq47_11_1, hq47_11_2, hq47_11_3, hq47_11_4, hq47_11_5, hq47_11_6, hq47_11_7, hq47_11_8, hq47_11_9, hq47_11_10, hq47_11_11⟩ | ⟨rfl, hq47_12_0, hq47_12_1, hq47_12_2, hq47_12_3, hq47_12_4, hq47_12_5, hq47_12_6, hq47_12_7, hq47_12_8, hq47_12_9, hq47_12_10, hq47_12_11, hq47_12_12⟩ | ⟨rfl, hq47_13_0, hq47_13_1, hq47_13_2, hq47_13_3, hq47_13_4, hq47_13_5, hq47_13_6, hq47_13_7, hq47_13_8, hq47_13_9, hq47_13_10, hq47_13_11, hq47_13_12, hq47_13_13⟩ | ⟨rfl, hq47_14_0, hq47_14_1, hq47_14_2, hq47_14_3, hq47_14_4, hq47_14_5, hq47_14_6, hq47_14_7, hq47_14_8, hq47_14_9, hq47_14_10, hq47_14_11, hq47_14_12, hq47_14_13⟩
      · exact absurd hq47_0_0 (by decide : ¬ ((2 : Int64) = (87 : Int64)))
      · exact absurd hq47_1_1 (by decide : ¬ ((85 : Int64) = (87 : Int64)))
      · exact absurd hq47_2_2 (by decide : ¬ ((257 : Int64) = (87 : Int64)))
      · exact absurd hq47_3_3 (by decide : ¬ ((82 : Int64) = (87 : Int64)))
      · exact absurd hq47_4_4 (by decide : ¬ ((264 : Int64) = (87 : Int64)))
      · exact absurd hq47_5_5 (by decide : ¬ ((316 : Int64) = (87 : Int64)))
      · have f50 : Old Z n0 h47 := O0.keep K47 all0
        obtain ⟨_, _, ⟨T49, L49, k49, n49⟩, -, X49, ⟨Lc49, hQ49, l49, y49, z49⟩, st49⟩ := Jvm.LawKit.callS X47 hx (y := (⟨"com/example/aeacus/aeacus/audit/SyscallOfPinLaw", "expected", "(J)Lcom/example/aeacus/aeacus/audit/Syscall;"⟩ : MethodName)) hown (mvT hZ (hw _ (List.mem_of_getElem? (i := 40) rfl))) (mvT hZ (hw _ (List.mem_of_getElem? (i := 41) rfl))) (mvT hZ (hw _ (List.mem_of_getElem? (i := 2) rfl))) (mvT hZ (hw _ (List.mem_of_getElem? (i := 42) rfl))) (by decide) (backOf (W := 1) (rmExp l Z a0 hw [] (87 : Int64) w_OPEN w_CREAT w_OPENAT w_RENAME w_RENAMEAT w_RENAMEAT2 w_UNLINK w_UNLINKAT w_RMDIR w_CHMOD w_FCHMOD w_FCHMODAT w_CHOWN w_FCHOWNAT w__VALUES k_ h47 n0 f50 P0 P1 P2 P3 P4 P5 P6 P7 P8 P9 P10 P11 P12 P13 P14 P15 P16 P17 P18 P19 P20 P21 P22 P23 P24 P25 P26 P27 P28 P29 P30 P31 P32 P33 P34 P35 P36 P37 P38 P39 P40 P41 P42 P43 P44) hZ (hw _ (List.mem_of_getElem? (i := 42) rfl)) (hw _ (List.mem_of_getElem? (i := 2) rfl)) (by decide) (by decide)) (g := (mkF m 28 #[.val (.long q0_), .second, .val (.int p1_), .val (.int (p1_ &&& (31 : Int32))), .val (.long (87 : Int64)), .second] [(.long (87 : Int64)), (.ref w_UNLINK)])) rfl (by rw [hml]; rfl) (argsL := [(.long (87 : Int64))]) (rest := [(.ref w_UNLINK)]) (lenOf pd_2 rfl) rfl (by show 2 * 0 + _ ≤ _; exact Nat.le_of_eq rfl) (hb hby at_28) (fun _ _ => ⟨rfl, e47, (by decide : 1 + 0 ≤ _), (by decide : 14 + 0 ≤ _)⟩)
        dsimp only [Pt.U, Pt.locs, Pt.cells, Pt.slots] at X49 l49 y49 z49 st49 hQ49
        subst l49 y49 z49
        obtain ⟨h49, e49⟩ : ∃ z, T49.heap = z := ⟨_, rfl⟩
        rw [e49] at hQ49
        obtain ⟨rr49, rfl, hs49, N49q, hh49⟩ := hQ49
        have N51 := Fr.app N48 N49q
        have e49' : T49.heap = h47 := e49.trans hh49
        rcases hs49 with ⟨rfl, hq49_0_0⟩ | ⟨rfl, hq49_1_0, hq49_1_1⟩ | ⟨rfl, hq49_2_0, hq49_2_1, hq49_2_2⟩ | ⟨rfl, hq49_3_0, hq49_3_1, hq49_3_2, hq49_3_3⟩ | ⟨rfl, hq49_4_0, hq49_4_1, hq49_4_2, hq49_4_3, hq49_4_4⟩ | ⟨rfl, hq49_5_0, hq49_5_1, hq49_5_2, hq49_5_3, hq49_5_4, hq49_5_5⟩ | ⟨rfl, hq49_6_0, hq49_6_1, hq49_6_2, hq49_6_3, hq49_6_4, hq49_6_5, hq49_6_6⟩ | ⟨rfl, hq49_7_0, hq49_7_1, hq49_7_2, hq49_7_3, hq49_7_4, hq49_7_5, hq49_7_6, hq49_7_7⟩ | ⟨rfl, hq49_8_0, hq49_8_1, hq49_8_2, hq49_8_3, hq49_8_4, hq49_8_5, hq49_8_6, hq49_8_7, hq49_8_8⟩ | ⟨rfl, hq49_9_0, hq49_9_1, hq49_9_2, hq49_9_3, hq49_9_4, hq49_9_5, hq49_9_6, hq49_9_7, hq49_9_8, hq49_9_9⟩ | ⟨rfl, hq49_10_0, hq49_10_1, hq49_10_2, hq49_10_3, hq49_10_4, hq49_10_5, hq49_10_6, hq49_10_7, hq49_10_8, hq49_10_9, hq49_10_10⟩ | ⟨rfl, hq49_11_0, hq49_11_1, hq49_11_2, hq49_11_3, hq49_11_4, hq49_11_5, hq49_11_6, hq49_11_7, hq49_11_8, hq49_11_9, hq49_11_10, hq49_11_11⟩ | ⟨rfl, hq49_12_0, hq49_12_1, hq49_12_2, hq49_12_3, hq49_12_4, hq49_12_5, hq49_12_6, hq49_12_7, hq49_12_8, hq49_12_9, hq49_12_10, hq49_12_11, hq49_12_12⟩ | ⟨rfl, hq49_13_0, hq49_13_1, hq49_13_2, hq49_13_3, hq49_13_4, hq49_13_5, hq49_13_6, hq49_13_7, hq49_13_8, hq49_13_9, hq49_13_10, hq49_13_11, hq49_13_12, hq49_13_13⟩ | ⟨rfl, hq49_14_0, hq49_14_1, hq49_14_2, hq49_14_3, hq49_14_4, hq49_14_5, hq49_14_6, hq49_14_7, hq49_14_8, hq49_14_9, hq49_14_10, hq49_14_11, hq49_14_12, hq49_14_13⟩
        · exact absurd hq49_0_0 (by decide : ¬ ((87 : Int64) = (2 : Int64)))
        · exact absurd hq49_1_1 (by decide : ¬ ((87 : Int64) = (85 : Int64)))
        · exact absurd hq49_2_2 (by decide : ¬ ((87 : Int64) = (257 : Int64)))
        · exact absurd hq49_3_3 (by decide : ¬ ((87 : Int64) = (82 : Int64)))
        · exact absurd hq49_4_4 (by decide : ¬ ((87 : Int64) = (264 : Int64)))
        · exact absurd hq49_5_5 (by decide : ¬ ((87 : Int64) = (316 : Int64)))
        · have pre52 : ∀ t, Steps p.tables e below (T49.setTop (mkF m 39 #[.val (.long q0_), .second, .val (.int p1_), .val (.int (p1_ &&& (31 : Int32))), .val (.long (87 : Int64)), .second] [(.int (1 : Int32))])) t → Steps p.tables e below (s₁.setTop (entryFrame m #[(.long q0_), (.int p1_)] maxLocals)) t := by
            intro t kt
            refine pre1 t ?_
            show Steps p.tables e below (s₁.setTop (mkF m 8 #[.val (.long q0_), .second, .val (.int p1_), .val (.int (p1_ &&& (31 : Int32))), .unset, .unset] [(.int (14 : Int32)), (.int (p1_ &&& (31 : Int32)))])) _
            refine XS.icmpNo X0.here hx rfl (hb hby at_8) rfl (tlt hc2).2.1 ?_
            show Steps p.tables e below (s₁.setTop (mkF m 11 #[.val (.long q0_), .second, .val (.int p1_), .val (.int (p1_ &&& (31 : Int32))), .unset, .unset] [])) _
            refine XS.iloadN X0.here hx rfl (hb hby at_11) rfl ?_
            show Steps p.tables e below (s₁.setTop (mkF m 12 #[.val (.long q0_), .second, .val (.int p1_), .val (.int (p1_ &&& (31 : Int32))), .unset, .unset] [(.int (p1_ &&& (31 : Int32)))])) _
            refine st3 _ ?_
            show Steps p.tables e below (T3.setTop (mkF m 15 #[.val (.long q0_), .second, .val (.int p1_), .val (.int (p1_ &&& (31 : Int32))), .unset, .unset] [(.long (87 : Int64))])) _
            refine XS.goto X3.here hx rfl (pc0 := 15) (pc' := 19) rfl (hb hby at_15) (by decide) (by decide) ?_
            show Steps p.tables e below (T3.setTop (mkF m 19 #[.val (.long q0_), .second, .val (.int p1_), .val (.int (p1_ &&& (31 : Int32))), .unset, .unset] [(.long (87 : Int64))])) _
            refine XS.lstore X3.here hx rfl (hb hby at_19) rfl (l' := #[.val (.long q0_), .second, .val (.int p1_), .val (.int (p1_ &&& (31 : Int32))), .val (.long (87 : Int64)), .second]) rfl ?_
            show Steps p.tables e below (T3.setTop (mkF m 21 #[.val (.long q0_), .second, .val (.int p1_), .val (.int (p1_ &&& (31 : Int32))), .val (.long (87 : Int64)), .second] [])) _
            refine XS.lload X3.here hx rfl (hb hby at_21) rfl ?_
            show Steps p.tables e below (T3.setTop (mkF m 23 #[.val (.long q0_), .second, .val (.int p1_), .val (.int (p1_ &&& (31 : Int32))), .val (.long (87 : Int64)), .second] [(.long (87 : Int64))])) _
            refine st47 _ ?_
            show Steps p.tables e below (T47.setTop (mkF m 26 #[.val (.long q0_), .second, .val (.int p1_), .val (.int (p1_ &&& (31 : Int32))), .val (.long (87 : Int64)), .second] [(.ref w_UNLINK)])) _
            refine XS.lload X47.here hx rfl (hb hby at_26) rfl ?_
            show Steps p.tables e below (T47.setTop (mkF m 28 #[.val (.long q0_), .second, .val (.int p1_), .val (.int (p1_ &&& (31 : Int32))), .val (.long (87 : Int64)), .second] [(.long (87 : Int64)), (.ref w_UNLINK)])) _
            refine st49 _ ?_
            show Steps p.tables e below (T49.setTop (mkF m 31 #[.val (.long q0_), .second, .val (.int p1_), .val (.int (p1_ &&& (31 : Int32))), .val (.long (87 : Int64)), .second] [(.ref w_UNLINK), (.ref w_UNLINK)])) _
            refine Jvm.RoadKit.acmp (g := (mkF m 31 #[.val (.long q0_), .second, .val (.int p1_), .val (.int (p1_ &&& (31 : Int32))), .val (.long (87 : Int64)), .second] [(.ref w_UNLINK), (.ref w_UNLINK)])) X49 hx rfl rfl rfl (pc0 := 31) (pc' := 34) (same := true) rfl (hb hby at_31) rfl (decide_eq_true rfl) (by decide) (by decide) ?_
            show Steps p.tables e below (T49.setTop (mkF m 34 #[.val (.long q0_), .second, .val (.int p1_), .val (.int (p1_ &&& (31 : Int32))), .val (.long (87 : Int64)), .second] [])) _
            refine XS.iconst X49.here hx rfl (hb hby at_34) ?_
            show Steps p.tables e below (T49.setTop (mkF m 35 #[.val (.long q0_), .second, .val (.int p1_), .val (.int (p1_ &&& (31 : Int32))), .val (.long (87 : Int64)), .second] [(.int (1 : Int32))])) _
            refine XS.goto X49.here hx rfl (pc0 := 35) (pc' := 39) rfl (hb hby at_35) (by decide) (by decide) ?_
            exact kt
          obtain ⟨fs, hr, hrun, hended, hW, hsame⟩ := X49.leave (v := some (.int (1 : Int32))) (fun h => by rw [Bd.returns] at h; cases h)
          refine ⟨_, _, pre52 _ (retN X49 hx (t := .boolean) Bd.returns (by simp) (hb hby at_39) hr), hrun, hended, _, _, rfl, ?_, ⟨_, rfl⟩, hW, hsame.mono (by decide) (by decide)⟩
          show QLaw Z q0_ p1_ w_OPEN w_CREAT w_OPENAT w_RENAME w_RENAMEAT w_RENAMEAT2 w_UNLINK w_UNLINKAT w_RMDIR w_CHMOD w_FCHMOD w_FCHMODAT w_CHOWN w_FCHOWNAT w__VALUES k_ h0 n0 _ T49.heap _
          rw [e49']
          exact ⟨rfl, N51⟩
        · exact absurd hq49_7_7 (by decide : ¬ ((87 : Int64) = (263 : Int64)))
        · exact absurd hq49_8_8 (by decide : ¬ ((87 : Int64) = (84 : Int64)))
        · exact absurd hq49_9_9 (by decide : ¬ ((87 : Int64) = (90 : Int64)))
        · exact absurd hq49_10_10 (by decide : ¬ ((87 : Int64) = (91 : Int64)))
        · exact absurd hq49_11_11 (by decide : ¬ ((87 : Int64) = (268 : Int64)))
        · exact absurd hq49_12_12 (by decide : ¬ ((87 : Int64) = (92 : Int64)))
        · exact absurd hq49_13_13 (by decide : ¬ ((87 : Int64) = (260 : Int64)))
        · exact absurd (by decide : (87 : Int64) = (87 : Int64)) hq49_14_6
      · exact absurd hq47_7_7 (by decide : ¬ ((263 : Int64) = (87 : Int64)))
      · exact absurd hq47_8_8 (by decide : ¬ ((84 : Int64) = (87 : Int64)))
      · exact absurd hq47_9_9 (by decide : ¬ ((90 : Int64) = (87 : Int64)))
      · exact absurd hq47_10_10 (by decide : ¬ ((91 : Int64) = (87 : Int64)))
      · exact absurd hq47_11_11 (by decide : ¬ ((268 : Int64) = (87 : Int64)))
      · exact absurd hq47_12_12 (by decide : ¬ ((92 : Int64) = (87 : Int64)))
      · exact absurd hq47_13_13 (by decide : ¬ ((260 : Int64) = (87 : Int64)))
      · exact absurd (by decide : (87 : Int64) = (87 : Int64)) hq47_14_6
    · obtain ⟨_, _, ⟨T54, L54, k54, n54⟩, -, X54, ⟨Lc54, hQ54, l54, y54, z54⟩, st54⟩ := Jvm.LawKit.callS X3 hx (y := (⟨"com/example/aeacus/aeacus/audit/Syscall", "of", "(J)Lcom/example/aeacus/aeacus/audit/Syscall;"⟩ : MethodName)) hown (mvT hZ (hw _ (List.mem_of_getElem? (i := 5) rfl))) (mvT hZ (hw _ (List.mem_of_getElem? (i := 6) rfl))) (mvT hZ (hw _ (List.mem_of_getElem? (i := 7) rfl))) (mvT hZ (hw _ (List.mem_of_getElem? (i := 8) rfl))) (by decide) (backOf (W := 0) (rmOf l Z a0 hw [] (263 : Int64) w_OPEN w_CREAT w_OPENAT w_RENAME w_RENAMEAT w_RENAMEAT2 w_UNLINK w_UNLINKAT w_RMDIR w_CHMOD w_FCHMOD w_FCHMODAT w_CHOWN w_FCHOWNAT w__VALUES k_ h0 n0 O0 P0 P1 P2 P3 P4 P5 P6 P7 P8 P9 P10 P11 P12 P13 P14 P15 P16 P17 P18 P19 P20 P21 P22 P23 P24 P25 P26 P27 P28 P29 P30 P31 P32 P33 P34 P35 P36 P37 P38 P39 P40 P41 P42 P43 P44) hZ (hw _ (List.mem_of_getElem? (i := 8) rfl)) (hw _ (List.mem_of_getElem? (i := 7) rfl)) (by decide) (by decide)) (g := (mkF m 23 #[.val (.long q0_), .second, .val (.int p1_), .val (.int (p1_ &&& (31 : Int32))), .val (.long (263 : Int64)), .second] [(.long (263 : Int64))])) rfl (by rw [hml]; rfl) (argsL := [(.long (263 : Int64))]) (rest := []) (lenOf pd_2 rfl) rfl (by show 2 * 0 + _ ≤ _; exact Nat.le_of_eq rfl) (hb hby at_23) (fun _ _ => ⟨rfl, e3', (by decide : 0 + 1 ≤ _), (by decide : 0 + 14 ≤ _)⟩)
      dsimp only [Pt.U, Pt.locs, Pt.cells, Pt.slots] at X54 l54 y54 z54 st54 hQ54
      subst l54 y54 z54
      obtain ⟨h54, e54⟩ : ∃ z, T54.heap = z := ⟨_, rfl⟩
      rw [e54] at hQ54
      obtain ⟨rr54, rfl, hs54, N54q, K54⟩ := hQ54
      have N55 := Fr.app N4 N54q
      rcases hs54 with ⟨rfl, hq54_0_0⟩ | ⟨rfl, hq54_1_0, hq54_1_1⟩ | ⟨rfl, hq54_2_0, hq54_2_1, hq54_2_2⟩ | ⟨rfl, hq54_3_0, hq54_3_1, hq54_3_2, hq54_3_3⟩ | ⟨rfl, hq54_4_0, hq54_4_1, hq54_4_2, hq54_4_3, hq54_4_4⟩ | ⟨rfl, hq54_5_0, hq54_5_1, hq54_5_2, hq54_5_3, hq54_5_4, hq54_5_5⟩ | ⟨rfl, hq54_6_0, hq54_6_1, hq54_6_2, hq54_6_3, hq54_6_4, hq54_6_5, hq54_6_6⟩ | ⟨rfl, hq54_7_0, hq54_7_1, hq54_7_2, hq54_7_3, hq54_7_4, hq54_7_5, hq54_7_6, hq54_7_7⟩ | ⟨rfl, hq54_8_0, hq54_8_1, hq54_8_2, hq54_8_3, hq54_8_4, hq54_8_5, hq54_8_6, hq54_8_7, hq54_8_8⟩ | ⟨rfl, hq54_9_0, hq54_9_1, hq54_9_2, hq54_9_3, hq54_9_4, hq54_9_5, hq54_9_6, hq54_9_7, hq54_9_8, hq54_9_9⟩ | ⟨rfl, hq54_10_0, hq54_10_1, hq54_10_2, hq54_10_3, hq54_10_4, hq54_10_5, hq54_10_6, hq54_10_7, hq54_10_8, hq54_10_9, hq54_10_10⟩ | ⟨rfl, hq54_11_0, hq54_11_1, hq54_11_2, hq54_11_3, hq54_11_4, hq54_11_5, hq54_11_6, hq54_11_7, hq54_11_8, hq54_11_9, hq54_11_10, hq54_11_11⟩ | ⟨rfl, hq54_12_0, hq54_12_1, hq54_12_2, hq54_12_3, hq54_12_4, hq54_12_5, hq54_12_6, hq54_12_7, hq54_12_8, hq54_12_9, hq54_12_10, hq54_12_11, hq54_12_12⟩ | ⟨rfl, hq54_13_0, hq54_13_1, hq54_13_2, hq54_13_3, hq54_13_4, hq54_13_5, hq54_13_6, hq54_13_7, hq54_13_8, hq54_13_9, hq54_13_10, hq54_13_11, hq54_13_12, hq54_13_13⟩ | ⟨rfl, hq54_14_0, hq54_14_1, hq54_14_2, hq54_14_3, hq54_14_4, hq54_14_5, hq54_14_6, hq54_14_7, hq54_14_8, hq54_14_9, hq54_14_10, hq54_14_11, hq54_14_12, hq54_14_13⟩
      · exact absurd hq54_0_0 (by decide : ¬ ((2 : Int64) = (263 : Int64)))
      · exact absurd hq54_1_1 (by decide : ¬ ((85 : Int64) = (263 : Int64)))
      · exact absurd hq54_2_2 (by decide : ¬ ((257 : Int64) = (263 : Int64)))
      · exact absurd hq54_3_3 (by decide : ¬ ((82 : Int64) = (263 : Int64)))
      · exact absurd hq54_4_4 (by decide : ¬ ((264 : Int64) = (263 : Int64)))
      · exact absurd hq54_5_5 (by decide : ¬ ((316 : Int64) = (263 : Int64)))
      · exact absurd hq54_6_6 (by decide : ¬ ((87 : Int64) = (263 : Int64)))
      · have f57 : Old Z n0 h54 := O0.keep K54 all0
        obtain ⟨_, _, ⟨T56, L56, k56, n56⟩, -, X56, ⟨Lc56, hQ56, l56, y56, z56⟩, st56⟩ := Jvm.LawKit.callS X54 hx (y := (⟨"com/example/aeacus/aeacus/audit/SyscallOfPinLaw", "expected", "(J)Lcom/example/aeacus/aeacus/audit/Syscall;"⟩ : MethodName)) hown (mvT hZ (hw _ (List.mem_of_getElem? (i := 40) rfl))) (mvT hZ (hw _ (List.mem_of_getElem? (i := 41) rfl))) (mvT hZ (hw _ (List.mem_of_getElem? (i := 2) rfl))) (mvT hZ (hw _ (List.mem_of_getElem? (i := 42) rfl))) (by decide) (backOf (W := 1) (rmExp l Z a0 hw [] (263 : Int64) w_OPEN w_CREAT w_OPENAT w_RENAME w_RENAMEAT w_RENAMEAT2 w_UNLINK w_UNLINKAT w_RMDIR w_CHMOD w_FCHMOD w_FCHMODAT w_CHOWN w_FCHOWNAT w__VALUES k_ h54 n0 f57 P0 P1 P2 P3 P4 P5 P6 P7 P8 P9 P10 P11 P12 P13 P14 P15 P16 P17 P18 P19 P20 P21 P22 P23 P24 P25 P26 P27 P28 P29 P30 P31 P32 P33 P34 P35 P36 P37 P38 P39 P40 P41 P42 P43 P44) hZ (hw _ (List.mem_of_getElem? (i := 42) rfl)) (hw _ (List.mem_of_getElem? (i := 2) rfl)) (by decide) (by decide)) (g := (mkF m 28 #[.val (.long q0_), .second, .val (.int p1_), .val (.int (p1_ &&& (31 : Int32))), .val (.long (263 : Int64)), .second] [(.long (263 : Int64)), (.ref w_UNLINKAT)])) rfl (by rw [hml]; rfl) (argsL := [(.long (263 : Int64))]) (rest := [(.ref w_UNLINKAT)]) (lenOf pd_2 rfl) rfl (by show 2 * 0 + _ ≤ _; exact Nat.le_of_eq rfl) (hb hby at_28) (fun _ _ => ⟨rfl, e54, (by decide : 1 + 0 ≤ _), (by decide : 14 + 0 ≤ _)⟩)
        dsimp only [Pt.U, Pt.locs, Pt.cells, Pt.slots] at X56 l56 y56 z56 st56 hQ56
        subst l56 y56 z56
        obtain ⟨h56, e56⟩ : ∃ z, T56.heap = z := ⟨_, rfl⟩
        rw [e56] at hQ56
        obtain ⟨rr56, rfl, hs56, N56q, hh56⟩ := hQ56
        have N58 := Fr.app N55 N56q
        have e56' : T56.heap = h54 := e56.trans hh56
        rcases hs56 with ⟨rfl, hq56_0_0⟩ | ⟨rfl, hq56_1_0, hq56_1_1⟩ | ⟨rfl, hq56_2_0, hq56_2_1, hq56_2_2⟩ | ⟨rfl, hq56_3_0, hq56_3_1, hq56_3_2, hq56_3_3⟩ | ⟨rfl, hq56_4_0, hq56_4_1, hq56_4_2, hq56_4_3, hq56_4_4⟩ | ⟨rfl, hq56_5_0, hq56_5_1, hq56_5_2, hq56_5_3, hq56_5_4, hq56_5_5⟩ | ⟨rfl, hq56_6_0, hq56_6_1, hq56_6_2, hq56_6_3, hq56_6_4, hq56_6_5, hq56_6_6⟩ | ⟨rfl, hq56_7_0, hq56_7_1, hq56_7_2, hq56_7_3, hq56_7_4, hq56_7_5, hq56_7_6, hq56_7_7⟩ | ⟨rfl, hq56_8_0, hq56_8_1, hq56_8_2, hq56_8_3, hq56_8_4, hq56_8_5, hq56_8_6, hq56_8_7, hq56_8_8⟩ | ⟨rfl, hq56_9_0, hq56_9_1, hq56_9_2, hq56_9_3, hq56_9_4, hq56_9_5, hq56_9_6, hq56_9_7, hq56_9_8, hq56_9_9⟩ | ⟨rfl, hq56_10_0, hq56_10_1, hq56_10_2, hq56_10_3, hq56_10_4, hq56_10_5, hq56_10_6, hq56_10_7, hq56_10_8, hq56_10_9, hq56_10_10⟩ | ⟨rfl, hq56_11_0, hq56_11_1, hq56_11_2, hq56_11_3, hq56_11_4, hq56_11_5, hq56_11_6, hq56_11_7, hq56_11_8, hq56_11_9, hq56_11_10, hq56_11_11⟩ | ⟨rfl, hq56_12_0, hq56_12_1, hq56_12_2, hq56_12_3, hq56_12_4, hq56_12_5, hq56_12_6, hq56_12_7, hq56_12_8, hq56_12_9, hq56_12_10, hq56_12_11, hq56_12_12⟩ | ⟨rfl, hq56_13_0, hq56_13_1, hq56_13_2, hq56_13_3, hq56_13_4, hq56_13_5, hq56_13_6, hq56_13_7, hq56_13_8, hq56_13_9, hq56_13_10, hq56_13_11, hq56_13_12, hq56_13_13⟩ | ⟨rfl, hq56_14_0, hq56_14_1, hq56_14_2, hq56_14_3, hq56_14_4, hq56_14_5, hq56_14_6, hq56_14_7, hq56_14_8, hq56_14_9, hq56_14_10, hq56_14_11, hq56_14_12, hq56_14_13⟩
        · exact absurd hq56_0_0 (by decide : ¬ ((263 : Int64) = (2 : Int64)))
        · exact absurd hq56_1_1 (by decide : ¬ ((263 : Int64) = (85 : Int64)))
        · exact absurd hq56_2_2 (by decide : ¬ ((263 : Int64) = (257 : Int64)))
        · exact absurd hq56_3_3 (by decide : ¬ ((263 : Int64) = (82 : Int64)))
        · exact absurd hq56_4_4 (by decide : ¬ ((263 : Int64) = (264 : Int64)))
        · exact absurd hq56_5_5 (by decide : ¬ ((263 : Int64) = (316 : Int64)))
        · exact absurd hq56_6_6 (by decide : ¬ ((263 : Int64) = (87 : Int64)))
        · have pre59 : ∀ t, Steps p.tables e below (T56.setTop (mkF m 39 #[.val (.long q0_), .second, .val (.int p1_), .val (.int (p1_ &&& (31 : Int32))), .val (.long (263 : Int64)), .second] [(.int (1 : Int32))])) t → Steps p.tables e below (s₁.setTop (entryFrame m #[(.long q0_), (.int p1_)] maxLocals)) t := by
            intro t kt
            refine pre1 t ?_
            show Steps p.tables e below (s₁.setTop (mkF m 8 #[.val (.long q0_), .second, .val (.int p1_), .val (.int (p1_ &&& (31 : Int32))), .unset, .unset] [(.int (14 : Int32)), (.int (p1_ &&& (31 : Int32)))])) _
            refine XS.icmpNo X0.here hx rfl (hb hby at_8) rfl (tlt hc2).2.1 ?_
            show Steps p.tables e below (s₁.setTop (mkF m 11 #[.val (.long q0_), .second, .val (.int p1_), .val (.int (p1_ &&& (31 : Int32))), .unset, .unset] [])) _
            refine XS.iloadN X0.here hx rfl (hb hby at_11) rfl ?_
            show Steps p.tables e below (s₁.setTop (mkF m 12 #[.val (.long q0_), .second, .val (.int p1_), .val (.int (p1_ &&& (31 : Int32))), .unset, .unset] [(.int (p1_ &&& (31 : Int32)))])) _
            refine st3 _ ?_
            show Steps p.tables e below (T3.setTop (mkF m 15 #[.val (.long q0_), .second, .val (.int p1_), .val (.int (p1_ &&& (31 : Int32))), .unset, .unset] [(.long (263 : Int64))])) _
            refine XS.goto X3.here hx rfl (pc0 := 15) (pc' := 19) rfl (hb hby at_15) (by decide) (by decide) ?_
            show Steps p.tables e below (T3.setTop (mkF m 19 #[.val (.long q0_), .second, .val (.int p1_), .val (.int (p1_ &&& (31 : Int32))), .unset, .unset] [(.long (263 : Int64))])) _
            refine XS.lstore X3.here hx rfl (hb hby at_19) rfl (l' := #[.val (.long q0_), .second, .val (.int p1_), .val (.int (p1_ &&& (31 : Int32))), .val (.long (263 : Int64)), .second]) rfl ?_
            show Steps p.tables e below (T3.setTop (mkF m 21 #[.val (.long q0_), .second, .val (.int p1_), .val (.int (p1_ &&& (31 : Int32))), .val (.long (263 : Int64)), .second] [])) _
            refine XS.lload X3.here hx rfl (hb hby at_21) rfl ?_
            show Steps p.tables e below (T3.setTop (mkF m 23 #[.val (.long q0_), .second, .val (.int p1_), .val (.int (p1_ &&& (31 : Int32))), .val (.long (263 : Int64)), .second] [(.long (263 : Int64))])) _
            refine st54 _ ?_
            show Steps p.tables e below (T54.setTop (mkF m 26 #[.val (.long q0_), .second, .val (.int p1_), .val (.int (p1_ &&& (31 : Int32))), .val (.long (263 : Int64)), .second] [(.ref w_UNLINKAT)])) _
            refine XS.lload X54.here hx rfl (hb hby at_26) rfl ?_
            show Steps p.tables e below (T54.setTop (mkF m 28 #[.val (.long q0_), .second, .val (.int p1_), .val (.int (p1_ &&& (31 : Int32))), .val (.long (263 : Int64)), .second] [(.long (263 : Int64)), (.ref w_UNLINKAT)])) _
            refine st56 _ ?_
            show Steps p.tables e below (T56.setTop (mkF m 31 #[.val (.long q0_), .second, .val (.int p1_), .val (.int (p1_ &&& (31 : Int32))), .val (.long (263 : Int64)), .second] [(.ref w_UNLINKAT), (.ref w_UNLINKAT)])) _
            refine Jvm.RoadKit.acmp (g := (mkF m 31 #[.val (.long q0_), .second, .val (.int p1_), .val (.int (p1_ &&& (31 : Int32))), .val (.long (263 : Int64)), .second] [(.ref w_UNLINKAT), (.ref w_UNLINKAT)])) X56 hx rfl rfl rfl (pc0 := 31) (pc' := 34) (same := true) rfl (hb hby at_31) rfl (decide_eq_true rfl) (by decide) (by decide) ?_
            show Steps p.tables e below (T56.setTop (mkF m 34 #[.val (.long q0_), .second, .val (.int p1_), .val (.int (p1_ &&& (31 : Int32))), .val (.long (263 : Int64)), .second] [])) _
            refine XS.iconst X56.here hx rfl (hb hby at_34) ?_
            show Steps p.tables e below (T56.setTop (mkF m 35 #[.val (.long q0_), .second, .val (.int p1_), .val (.int (p1_ &&& (31 : Int32))), .val (.long (263 : Int64)), .second] [(.int (1 : Int32))])) _
            refine XS.goto X56.here hx rfl (pc0 := 35) (pc' := 39) rfl (hb hby at_35) (by decide) (by decide) ?_
            exact kt
          obtain ⟨fs, hr, hrun, hended, hW, hsame⟩ := X56.leave (v := some (.int (1 : Int32))) (fun h => by rw [Bd.returns] at h; cases h)
          refine ⟨_, _, pre59 _ (retN X56 hx (t := .boolean) Bd.returns (by simp) (hb hby at_39) hr), hrun, hended, _, _, rfl, ?_, ⟨_, rfl⟩, hW, hsame.mono (by decide) (by decide)⟩
          show QLaw Z q0_ p1_ w_OPEN w_CREAT w_OPENAT w_RENAME w_RENAMEAT w_RENAMEAT2 w_UNLINK w_UNLINKAT w_RMDIR w_CHMOD w_FCHMOD w_FCHMODAT w_CHOWN w_FCHOWNAT w__VALUES k_ h0 n0 _ T56.heap _
          rw [e56']
          exact ⟨rfl, N58⟩
        · exact absurd hq56_8_8 (by decide : ¬ ((263 : Int64) = (84 : Int64)))
        · exact absurd hq56_9_9 (by decide : ¬ ((263 : Int64) = (90 : Int64)))
        · exact absurd hq56_10_10 (by decide : ¬ ((263 : Int64) = (91 : Int64)))
        · exact absurd hq56_11_11 (by decide : ¬ ((263 : Int64) = (268 : Int64)))
        · exact absurd hq56_12_12 (by decide : ¬ ((263 : Int64) = (92 : Int64)))
        · exact absurd hq56_13_13 (by decide : ¬ ((263 : Int64) = (260 : Int64)))
        · exact absurd (by decide : (263 : Int64) = (263 : Int64)) hq56_14_7
      · exact absurd hq54_8_8 (by decide : ¬ ((84 : Int64) = (263 : Int64)))
      · exact absurd hq54_9_9 (by decide : ¬ ((90 : Int64) = (263 : Int64)))
      · exact absurd hq54_10_10 (by decide : ¬ ((91 : Int64) = (263 : Int64)))
      · exact absurd hq54_11_11 (by decide : ¬ ((268 : Int64) = (263 : Int64)))
      · exact absurd hq54_12_12 (by decide : ¬ ((92 : Int64) = (263 : Int64)))
      · exact absurd hq54_13_13 (by decide : ¬ ((260 : Int64) = (263 : Int64)))
      · exact absurd (by decide : (263 : Int64) = (263 : Int64)) hq54_14_7
    · obtain ⟨_, _, ⟨T61, L61, k61, n61⟩, -, X61, ⟨Lc61, hQ61, l61, y61, z61⟩, st61⟩ := Jvm.LawKit.callS X3 hx (y := (⟨"com/example/aeacus/aeacus/audit/Syscall", "of", "(J)Lcom/example/aeacus/aeacus/audit/Syscall;"⟩ : MethodName)) hown (mvT hZ (hw _ (List.mem_of_getElem? (i := 5) rfl))) (mvT hZ (hw _ (List.mem_of_getElem? (i := 6) rfl))) (mvT hZ (hw _ (List.mem_of_getElem? (i := 7) rfl))) (mvT hZ (hw _ (List.mem_of_getElem? (i := 8) rfl))) (by decide) (backOf (W := 0) (rmOf l Z a0 hw [] (84 : Int64) w_OPEN w_CREAT w_OPENAT w_RENAME w_RENAMEAT w_RENAMEAT2 w_UNLINK w_UNLINKAT w_RMDIR w_CHMOD w_FCHMOD w_FCHMODAT w_CHOWN w_FCHOWNAT w__VALUES k_ h0 n0 O0 P0 P1 P2 P3 P4 P5 P6 P7 P8 P9 P10 P11 P12 P13 P14 P15 P16 P17 P18 P19 P20 P21 P22 P23 P24 P25 P26 P27 P28 P29 P30 P31 P32 P33 P34 P35 P36 P37 P38 P39 P40 P41 P42 P43 P44) hZ (hw _ (List.mem_of_getElem? (i := 8) rfl)) (hw _ (List.mem_of_getElem? (i := 7) rfl)) (by decide) (by decide)) (g := (mkF m 23 #[.val (.long q0_), .second, .val (.int p1_), .val (.int (p1_ &&& (31 : Int32))), .val (.long (84 : Int64)), .second] [(.long (84 : Int64))])) rfl (by rw [hml]; rfl) (argsL := [(.long (84 : Int64))]) (rest := []) (lenOf pd_2 rfl) rfl (by show 2 * 0 + _ ≤ _; exact Nat.le_of_eq rfl) (hb hby at_23) (fun _ _ => ⟨rfl, e3', (by decide : 0 + 1 ≤ _), (by decide : 0 + 14 ≤ _)⟩)
      dsimp only [Pt.U, Pt.locs, Pt.cells, Pt.slots] at X61 l61 y61 z61 st61 hQ61
      subst l61 y61 z61
      obtain ⟨h61, e61⟩ : ∃ z, T61.heap = z := ⟨_, rfl⟩
      rw [e61] at hQ61
      obtain ⟨rr61, rfl, hs61, N61q, K61⟩ := hQ61
      have N62 := Fr.app N4 N61q
      rcases hs61 with ⟨rfl, hq61_0_0⟩ | ⟨rfl, hq61_1_0, hq61_1_1⟩ | ⟨rfl, hq61_2_0, hq61_2_1, hq61_2_2⟩ | ⟨rfl, hq61_3_0, hq61_3_1, hq61_3_2, hq61_3_3⟩ | ⟨rfl, hq61_4_0, hq61_4_1, hq61_4_2, hq61_4_3, hq61_4_4⟩ | ⟨rfl, hq61_5_0, hq61_5_1, hq61_5_2, hq61_5_3, hq61_5_4, hq61_5_5⟩ | ⟨rfl, hq61_6_0, hq61_6_1, hq61_6_2, hq61_6_3, hq61_6_4, hq61_6_5, hq61_6_6⟩ | ⟨rfl, hq61_7_0, hq61_7_1, hq61_7_2, hq61_7_3, hq61_7_4, hq61_7_5, hq61_7_6, hq61_7_7⟩ | ⟨rfl, hq61_8_0, hq61_8_1, hq61_8_2, hq61_8_3, hq61_8_4, hq61_8_5, hq61_8_6, hq61_8_7, hq61_8_8⟩ | ⟨rfl, hq61_9_0, hq61_9_1, hq61_9_2, hq61_9_3, hq61_9_4, hq61_9_5, hq61_9_6, hq61_9_7, hq61_9_8, hq61_9_9⟩ | ⟨rfl, hq61_10_0, hq61_10_1, hq61_10_2, hq61_10_3, hq61_10_4, hq61_10_5, hq61_10_6, hq61_10_7, hq61_10_8, hq61_10_9, hq61_10_10⟩ | ⟨rfl, hq61_11_0, hq61_11_1, hq61_11_2, hq61_11_3, hq61_11_4, hq61_11_5, hq61_11_6, hq61_11_7, hq61_11_8, hq61_11_9, hq61_11_10, hq61_11_11⟩ | ⟨rfl, hq61_12_0, hq61_12_1, hq61_12_2, hq61_12_3, hq61_12_4, hq61_12_5, hq61_12_6, hq61_12_7, hq61_12_8, hq61_12_9, hq61_12_10, hq61_12_11, hq61_12_12⟩ | ⟨rfl, hq61_13_0, hq61_13_1, hq61_13_2, hq61_13_3, hq61_13_4, hq61_13_5, hq61_13_6, hq61_13_7, hq61_13_8, hq61_13_9, hq61_13_10, hq61_13_11, hq61_13_12, hq61_13_13⟩ | ⟨rfl, hq61_14_0, hq61_14_1, hq61_14_2, hq61_14_3, hq61_14_4, hq61_14_5, hq61_14_6, hq61_14_7, hq61_14_8, hq61_14_9, hq61_14_10, hq61_14_11, hq61_14_12, hq61_14_13⟩
      · exact absurd hq61_0_0 (by decide : ¬ ((2 : Int64) = (84 : Int64)))
      · exact absurd hq61_1_1 (by decide : ¬ ((85 : Int64) = (84 : Int64)))
      · exact absurd hq61_2_2 (by decide : ¬ ((257 : Int64) = (84 : Int64)))
      · exact absurd hq61_3_3 (by decide : ¬ ((82 : Int64) = (84 : Int64)))
      · exact absurd hq61_4_4 (by decide : ¬ ((264 : Int64) = (84 : Int64)))
      · exact absurd hq61_5_5 (by decide : ¬ ((316 : Int64) = (84 : Int64)))
      · exact absurd hq61_6_6 (by decide : ¬ ((87 : Int64) = (84 : Int64)))
      · exact absurd hq61_7_7 (by decide : ¬ ((263 : Int64) = (84 : Int64)))
      · have f64 : Old Z n0 h61 := O0.keep K61 all0
        obtain ⟨_, _, ⟨T63, L63, k63, n63⟩, -, X63, ⟨Lc63, hQ63, l63, y63, z63⟩, st63⟩ := Jvm.LawKit.callS X61 hx (y := (⟨"com/example/aeacus/aeacus/audit/SyscallOfPinLaw", "expected", "(J)Lcom/example/aeacus/aeacus/audit/Syscall;"⟩ : MethodName)) hown (mvT hZ (hw _ (List.mem_of_getElem? (i := 40) rfl))) (mvT hZ (hw _ (List.mem_of_getElem? (i := 41) rfl))) (mvT hZ (hw _ (List.mem_of_getElem? (i := 2) rfl))) (mvT hZ (hw _ (List.mem_of_getElem? (i := 42) rfl))) (by decide) (backOf (W := 1) (rmExp l Z a0 hw [] (84 : Int64) w_OPEN w_CREAT w_OPENAT w_RENAME w_RENAMEAT w_RENAMEAT2 w_UNLINK w_UNLINKAT w_RMDIR w_CHMOD w_FCHMOD w_FCHMODAT w_CHOWN w_FCHOWNAT w__VALUES k_ h61 n0 f64 P0 P1 P2 P3 P4 P5 P6 P7 P8 P9 P10 P11 P12 P13 P14 P15 P16 P17 P18 P19 P20 P21 P22 P23 P24 P25 P26 P27 P28 P29 P30 P31 P32 P33 P34 P35 P36 P37 P38 P39 P40 P41 P42 P43 P44) hZ (hw _ (List.mem_of_getElem? (i := 42) rfl)) (hw _ (List.mem_of_getElem? (i := 2) rfl)) (by decide) (by decide)) (g := (mkF m 28 #[.val (.long q0_), .second, .val (.int p1_), .val (.int (p1_ &&& (31 : Int32))), .val (.long (84 : Int64)), .second] [(.long (84 : Int64)), (.ref w_RMDIR)])) rfl (by rw [hml]; rfl) (argsL := [(.long (84 : Int64))]) (rest := [(.ref w_RMDIR)]) (lenOf pd_2 rfl) rfl (by show 2 * 0 + _ ≤ _; exact Nat.le_of_eq rfl) (hb hby at_28) (fun _ _ => ⟨rfl, e61, (by decide : 1 + 0 ≤ _), (by decide : 14 + 0 ≤ _)⟩)
        dsimp only [Pt.U, Pt.locs, Pt.cells, Pt.slots] at X63 l63 y63 z63 st63 hQ63
        subst l63 y63 z63
        obtain ⟨h63, e63⟩ : ∃ z, T63.heap = z := ⟨_, rfl⟩
        rw [e63] at hQ63
        obtain ⟨rr63, rfl, hs63, N63q, hh63⟩ := hQ63
        have N65 := Fr.app N62 N63q
        have e63' : T63.heap = h61 := e63.trans hh63
        rcases hs63 with ⟨rfl, hq63_0_0⟩ | ⟨rfl, hq63_1_0, hq63_1_1⟩ | ⟨rfl, hq63_2_0, hq63_2_1, hq63_2_2⟩ | ⟨rfl, hq63_3_0, hq63_3_1, hq63_3_2, hq63_3_3⟩ | ⟨rfl, hq63_4_0, hq63_4_1, hq63_4_2, hq63_4_3, hq63_4_4⟩ | ⟨rfl, hq63_5_0, hq63_5_1, hq63_5_2, hq63_5_3, hq63_5_4, hq63_5_5⟩ | ⟨rfl, hq63_6_0, hq63_6_1, hq63_6_2, hq63_6_3, hq63_6_4, hq63_6_5, hq63_6_6⟩ | ⟨rfl, hq63_7_0, hq63_7_1, hq63_7_2, hq63_7_3, hq63_7_4, hq63_7_5, hq63_7_6, hq63_7_7⟩ | ⟨rfl, hq63_8_0, hq63_8_1, hq63_8_2, hq63_8_3, hq63_8_4, hq63_8_5, hq63_8_6, hq63_8_7, hq63_8_8⟩ | ⟨rfl, hq63_9_0, hq63_9_1, hq63_9_2, hq63_9_3, hq63_9_4, hq63_9_5, hq63_9_6, hq63_9_7, hq63_9_8, hq63_9_9⟩ | ⟨rfl, hq63_10_0, hq63_10_1, hq63_10_2, hq63_10_3, hq63_10_4, hq63_10_5, hq63_10_6, hq63_10_7, hq63_10_8, hq63_10_9, hq63_10_10⟩ | ⟨rfl, hq63_11_0, hq63_11_1, hq63_11_2, hq63_11_3, hq63_11_4, hq63_11_5, hq63_11_6, hq63_11_7, hq63_11_8, hq63_11_9, hq63_11_10, hq63_11_11⟩ | ⟨rfl, hq63_12_0, hq63_12_1, hq63_12_2, hq63_12_3, hq63_12_4, hq63_12_5, hq63_12_6, hq63_12_7, hq63_12_8, hq63_12_9, hq63_12_10, hq63_12_11, hq63_12_12⟩ | ⟨rfl, hq63_13_0, hq63_13_1, hq63_13_2, hq63_13_3, hq63_13_4, hq63_13_5, hq63_13_6, hq63_13_7, hq63_13_8, hq63_13_9, hq63_13_10, hq63_13_11, hq63_13_12, hq63_13_13⟩ | ⟨rfl, hq63_14_0, hq63_14_1, hq63_14_2, hq63_14_3, hq63_14_4, hq63_14_5, hq63_14_6, hq63_14_7, hq63_14_8, hq63_14_9, hq63_14_10, hq63_14_11, hq63_14_12, hq63_14_13⟩
        · exact absurd hq63_0_0 (by decide : ¬ ((84 : Int64) = (2 : Int64)))
        · exact absurd hq63_1_1 (by decide : ¬ ((84 : Int64) = (85 : Int64)))
        · exact absurd hq63_2_2 (by decide : ¬ ((84 : Int64) = (257 : Int64)))
        · exact absurd hq63_3_3 (by decide : ¬ ((84 : Int64) = (82 : Int64)))
        · exact absurd hq63_4_4 (by decide : ¬ ((84 : Int64) = (264 : Int64)))
        · exact absurd hq63_5_5 (by decide : ¬ ((84 : Int64) = (316 : Int64)))
        · exact absurd hq63_6_6 (by decide : ¬ ((84 : Int64) = (87 : Int64)))
        · exact absurd hq63_7_7 (by decide : ¬ ((84 : Int64) = (263 : Int64)))
        · have pre66 : ∀ t, Steps p.tables e below (T63.setTop (mkF m 39 #[.val (.long q0_), .second, .val (.int p1_), .val (.int (p1_ &&& (31 : Int32))), .val (.long (84 : Int64)), .second] [(.int (1 : Int32))])) t → Steps p.tables e below (s₁.setTop (entryFrame m #[(.long q0_), (.int p1_)] maxLocals)) t := by
            intro t kt
            refine pre1 t ?_
            show Steps p.tables e below (s₁.setTop (mkF m 8 #[.val (.long q0_), .second, .val (.int p1_), .val (.int (p1_ &&& (31 : Int32))), .unset, .unset] [(.int (14 : Int32)), (.int (p1_ &&& (31 : Int32)))])) _
            refine XS.icmpNo X0.here hx rfl (hb hby at_8) rfl (tlt hc2).2.1 ?_
            show Steps p.tables e below (s₁.setTop (mkF m 11 #[.val (.long q0_), .second, .val (.int p1_), .val (.int (p1_ &&& (31 : Int32))), .unset, .unset] [])) _
            refine XS.iloadN X0.here hx rfl (hb hby at_11) rfl ?_
            show Steps p.tables e below (s₁.setTop (mkF m 12 #[.val (.long q0_), .second, .val (.int p1_), .val (.int (p1_ &&& (31 : Int32))), .unset, .unset] [(.int (p1_ &&& (31 : Int32)))])) _
            refine st3 _ ?_
            show Steps p.tables e below (T3.setTop (mkF m 15 #[.val (.long q0_), .second, .val (.int p1_), .val (.int (p1_ &&& (31 : Int32))), .unset, .unset] [(.long (84 : Int64))])) _
            refine XS.goto X3.here hx rfl (pc0 := 15) (pc' := 19) rfl (hb hby at_15) (by decide) (by decide) ?_
            show Steps p.tables e below (T3.setTop (mkF m 19 #[.val (.long q0_), .second, .val (.int p1_), .val (.int (p1_ &&& (31 : Int32))), .unset, .unset] [(.long (84 : Int64))])) _
            refine XS.lstore X3.here hx rfl (hb hby at_19) rfl (l' := #[.val (.long q0_), .second, .val (.int p1_), .val (.int (p1_ &&& (31 : Int32))), .val (.long (84 : Int64)), .second]) rfl ?_
            show Steps p.tables e below (T3.setTop (mkF m 21 #[.val (.long q0_), .second, .val (.int p1_), .val (.int (p1_ &&& (31 : Int32))), .val (.long (84 : Int64)), .second] [])) _
            refine XS.lload X3.here hx rfl (hb hby at_21) rfl ?_
            show Steps p.tables e below (T3.setTop (mkF m 23 #[.val (.long q0_), .second, .val (.int p1_), .val (.int (p1_ &&& (31 : Int32))), .val (.long (84 : Int64)), .second] [(.long (84 : Int64))])) _
            refine st61 _ ?_
            show Steps p.tables e below (T61.setTop (mkF m 26 #[.val (.long q0_), .second, .val (.int p1_), .val (.int (p1_ &&& (31 : Int32))), .val (.long (84 : Int64)), .second] [(.ref w_RMDIR)])) _
            refine XS.lload X61.here hx rfl (hb hby at_26) rfl ?_
            show Steps p.tables e below (T61.setTop (mkF m 28 #[.val (.long q0_), .second, .val (.int p1_), .val (.int (p1_ &&& (31 : Int32))), .val (.long (84 : Int64)), .second] [(.long (84 : Int64)), (.ref w_RMDIR)])) _
            refine st63 _ ?_
            show Steps p.tables e below (T63.setTop (mkF m 31 #[.val (.long q0_), .second, .val (.int p1_), .val (.int (p1_ &&& (31 : Int32))), .val (.long (84 : Int64)), .second] [(.ref w_RMDIR), (.ref w_RMDIR)])) _
            refine Jvm.RoadKit.acmp (g := (mkF m 31 #[.val (.long q0_), .second, .val (.int p1_), .val (.int (p1_ &&& (31 : Int32))), .val (.long (84 : Int64)), .second] [(.ref w_RMDIR), (.ref w_RMDIR)])) X63 hx rfl rfl rfl (pc0 := 31) (pc' := 34) (same := true) rfl (hb hby at_31) rfl (decide_eq_true rfl) (by decide) (by decide) ?_
            show Steps p.tables e below (T63.setTop (mkF m 34 #[.val (.long q0_), .second, .val (.int p1_), .val (.int (p1_ &&& (31 : Int32))), .val (.long (84 : Int64)), .second] [])) _
            refine XS.iconst X63.here hx rfl (hb hby at_34) ?_
            show Steps p.tables e below (T63.setTop (mkF m 35 #[.val (.long q0_), .second, .val (.int p1_), .val (.int (p1_ &&& (31 : Int32))), .val (.long (84 : Int64)), .second] [(.int (1 : Int32))])) _
            refine XS.goto X63.here hx rfl (pc0 := 35) (pc' := 39) rfl (hb hby at_35) (by decide) (by decide) ?_
            exact kt
          obtain ⟨fs, hr, hrun, hended, hW, hsame⟩ := X63.leave (v := some (.int (1 : Int32))) (fun h => by rw [Bd.returns] at h; cases h)
          refine ⟨_, _, pre66 _ (retN X63 hx (t := .boolean) Bd.returns (by simp) (hb hby at_39) hr), hrun, hended, _, _, rfl, ?_, ⟨_, rfl⟩, hW, hsame.mono (by decide) (by decide)⟩
          show QLaw Z q0_ p1_ w_OPEN w_CREAT w_OPENAT w_RENAME w_RENAMEAT w_RENAMEAT2 w_UNLINK w_UNLINKAT w_RMDIR w_CHMOD w_FCHMOD w_FCHMODAT w_CHOWN w_FCHOWNAT w__VALUES k_ h0 n0 _ T63.heap _
          rw [e63']
          exact ⟨rfl, N65⟩
        · exact absurd hq63_9_9 (by decide : ¬ ((84 : Int64) = (90 : Int64)))
        · exact absurd hq63_10_10 (by decide : ¬ ((84 : Int64) = (91 : Int64)))
        · exact absurd hq63_11_11 (by decide : ¬ ((84 : Int64) = (268 : Int64)))
        · exact absurd hq63_12_12 (by decide : ¬ ((84 : Int64) = (92 : Int64)))
        · exact absurd hq63_13_13 (by decide : ¬ ((84 : Int64) = (260 : Int64)))
        · exact absurd (by decide : (84 : Int64) = (84 : Int64)) hq63_14_8
      · exact absurd hq61_9_9 (by decide : ¬ ((90 : Int64) = (84 : Int64)))
      · exact absurd hq61_10_10 (by decide : ¬ ((91 : Int64) = (84 : Int64)))
      · exact absurd hq61_11_11 (by decide : ¬ ((268 : Int64) = (84 : Int64)))
      · exact absurd hq61_12_12 (by decide : ¬ ((92 : Int64) = (84 : Int64)))
      · exact absurd hq61_13_13 (by decide : ¬ ((260 : Int64) = (84 : Int64)))
      · exact absurd (by decide : (84 : Int64) = (84 : Int64)) hq61_14_8
    · obtain ⟨_, _, ⟨T68, L68, k68, n68⟩, -, X68, ⟨Lc68, hQ68, l68, y68, z68⟩, st68⟩ := Jvm.LawKit.callS X3 hx (y := (⟨"com/example/aeacus/aeacus/audit/Syscall", "of", "(J)Lcom/example/aeacus/aeacus/audit/Syscall;"⟩ : MethodName)) hown (mvT hZ (hw _ (List.mem_of_getElem? (i := 5) rfl))) (mvT hZ (hw _ (List.mem_of_getElem? (i := 6) rfl))) (mvT hZ (hw _ (List.mem_of_getElem? (i := 7) rfl))) (mvT hZ (hw _ (List.mem_of_getElem? (i := 8) rfl))) (by decide) (backOf (W := 0) (rmOf l Z a0 hw [] (90 : Int64) w_OPEN w_CREAT w_OPENAT w_RENAME w_RENAMEAT w_RENAMEAT2 w_UNLINK w_UNLINKAT w_RMDIR w_CHMOD w_FCHMOD w_FCHMODAT w_CHOWN w_FCHOWNAT w__VALUES k_ h0 n0 O0 P0 P1 P2 P3 P4 P5 P6 P7 P8 P9 P10 P11 P12 P13 P14 P15 P16 P17 P18 P19 P20 P21 P22 P23 P24 P25 P26 P27 P28 P29 P30 P31 P32 P33 P34 P35 P36 P37 P38 P39 P40 P41 P42 P43 P44) hZ (hw _ (List.mem_of_getElem? (i := 8) rfl)) (hw _ (List.mem_of_getElem? (i := 7) rfl)) (by decide) (by decide)) (g := (mkF m 23 #[.val (.long q0_), .second, .val (.int p1_), .val (.int (p1_ &&& (31 : Int32))), .val (.long (90 : Int64)), .second] [(.long (90 : Int64))])) rfl (by rw [hml]; rfl) (argsL := [(.long (90 : Int64))]) (rest := []) (lenOf pd_2 rfl) rfl (by show 2 * 0 + _ ≤ _; exact Nat.le_of_eq rfl) (hb hby at_23) (fun _ _ => ⟨rfl, e3', (by decide : 0 + 1 ≤ _), (by decide : 0 + 14 ≤ _)⟩)
      dsimp only [Pt.U, Pt.locs, Pt.cells, Pt.slots] at X68 l68 y68 z68 st68 hQ68
      subst l68 y68 z68
      obtain ⟨h68, e68⟩ : ∃ z, T68.heap = z := ⟨_, rfl⟩
      rw [e68] at hQ68
      obtain ⟨rr68, rfl, hs68, N68q, K68⟩ := hQ68
      have N69 := Fr.app N4 N68q
      rcases hs68 with ⟨rfl, hq68_0_0⟩ | ⟨rfl, hq68_1_0, hq68_1_1⟩ | ⟨rfl, hq68_2_0, hq68_2_1, hq68_2_2⟩ | ⟨rfl, hq68_3_0, hq68_3_1, hq68_3_2, hq68_3_3⟩ | ⟨rfl, hq68_4_0, hq68_4_1, hq68_4_2, hq68_4_3, hq68_4_4⟩ | ⟨rfl, hq68_5_0, hq68_5_1, hq68_5_2, hq68_5_3, hq68_5_4, hq68_5_5⟩ | ⟨rfl, hq68_6_0, hq68_6_1, hq68_6_2, hq68_6_3, hq68_6_4, hq68_6_5, hq68_6_6⟩ | ⟨rfl, hq68_7_0, hq68_7_1, hq68_7_2, hq68_7_3, hq68_7_4, hq68_7_5, hq68_7_6, hq68_7_7⟩ | ⟨rfl, hq68_8_0, hq68_8_1, hq68_8_2, hq68_8_3, hq68_8_4, hq68_8_5, hq68_8_6, hq68_8_7, hq68_8_8⟩ | ⟨rfl, hq68_9_0, hq68_9_1, hq68_9_2, hq68_9_3, hq68_9_4, hq68_9_5, hq68_9_6, hq68_9_7, hq68_9_8, hq68_9_9⟩ | ⟨rfl, hq68_10_0, hq68_10_1, hq68_10_2, hq68_10_3, hq68_10_4, hq68_10_5, hq68_10_6, hq68_10_7, hq68_10_8, hq68_10_9, hq68_10_10⟩ | ⟨rfl, hq68_11_0, hq68_11_1, hq68_11_2, hq68_11_3, hq68_11_4, hq68_11_5, hq68_11_6, hq68_11_7, hq68_11_8, hq68_11_9, hq68_11_10, hq68_11_11⟩ | ⟨rfl, hq68_12_0, hq68_12_1, hq68_12_2, hq68_12_3, hq68_12_4, hq68_12_5, hq68_12_6, hq68_12_7, hq68_12_8, hq68_12_9, hq68_12_10, hq68_12_11, hq68_12_12⟩ | ⟨rfl, hq68_13_0, hq68_13_1, hq68_13_2, hq68_13_3, hq68_13_4, hq68_13_5, hq68_13_6, hq68_13_7, hq68_13_8, hq68_13_9, hq68_13_10, hq68_13_11, hq68_13_12, hq68_13_13⟩ | ⟨rfl, hq68_14_0, hq68_14_1, hq68_14_2, hq68_14_3, hq68_14_4, hq68_14_5, hq68_14_6, hq68_14_7, hq68_14_8, hq68_14_9, hq68_14_10, hq68_14_11, hq68_14_12, hq68_14_13⟩
      · exact absurd hq68_0_0 (by decide : ¬ ((2 : Int64) = (90 : Int64)))
      · exact absurd hq68_1_1 (by decide : ¬ ((85 : Int64) = (90 : Int64)))
      · exact absurd hq68_2_2 (by decide : ¬ ((257 : Int64) = (90 : Int64)))
      · exact absurd hq68_3_3 (by decide : ¬ ((82 : Int64) = (90 : Int64)))
      · exact absurd hq68_4_4 (by decide : ¬ ((264 : Int64) = (90 : Int64)))
      · exact absurd hq68_5_5 (by decide : ¬ ((316 : Int64) = (90 : Int64)))
      · exact absurd hq68_6_6 (by decide : ¬ ((87 : Int64) = (90 : Int64)))
      · exact absurd hq68_7_7 (by decide : ¬ ((263 : Int64) = (90 : Int64)))
      · exact absurd hq68_8_8 (by decide : ¬ ((84 : Int64) = (90 : Int64)))
      · have f71 : Old Z n0 h68 := O0.keep K68 all0
        obtain ⟨_, _, ⟨T70, L70, k70, n70⟩, -, X70, ⟨Lc70, hQ70, l70, y70, z70⟩, st70⟩ := Jvm.LawKit.callS X68 hx (y := (⟨"com/example/aeacus/aeacus/audit/SyscallOfPinLaw", "expected", "(J)Lcom/example/aeacus/aeacus/audit/Syscall;"⟩ : MethodName)) hown (mvT hZ (hw _ (List.mem_of_getElem? (i := 40) rfl))) (mvT hZ (hw _ (List.mem_of_getElem? (i := 41) rfl))) (mvT hZ (hw _ (List.mem_of_getElem? (i := 2) rfl))) (mvT hZ (hw _ (List.mem_of_getElem? (i := 42) rfl))) (by decide) (backOf (W := 1) (rmExp l Z a0 hw [] (90 : Int64) w_OPEN w_CREAT w_OPENAT w_RENAME w_RENAMEAT w_RENAMEAT2 w_UNLINK w_UNLINKAT w_RMDIR w_CHMOD w_FCHMOD w_FCHMODAT w_CHOWN w_FCHOWNAT w__VALUES k_ h68 n0 f71 P0 P1 P2 P3 P4 P5 P6 P7 P8 P9 P10 P11 P12 P13 P14 P15 P16 P17 P18 P19 P20 P21 P22 P23 P24 P25 P26 P27 P28 P29 P30 P31 P32 P33 P34 P35 P36 P37 P38 P39 P40 P41 P42 P43 P44) hZ (hw _ (List.mem_of_getElem? (i := 42) rfl)) (hw _ (List.mem_of_getElem? (i := 2) rfl)) (by decide) (by decide)) (g := (mkF m 28 #[.val (.long q0_), .second, .val (.int p1_), .val (.int (p1_ &&& (31 : Int32))), .val (.long (90 : Int64)), .second] [(.long (90 : Int64)), (.ref w_CHMOD)])) rfl (by rw [hml]; rfl) (argsL := [(.long (90 : Int64))]) (rest := [(.ref w_CHMOD)]) (lenOf pd_2 rfl) rfl (by show 2 * 0 + _ ≤ _; exact Nat.le_of_eq rfl) (hb hby at_28) (fun _ _ => ⟨rfl, e68, (by decide : 1 + 0 ≤ _), (by decide : 14 + 0 ≤ _)⟩)
        dsimp only [Pt.U, Pt.locs, Pt.cells, Pt.slots] at X70 l70 y70 z70 st70 hQ70
        subst l70 y70 z70
        obtain ⟨h70, e70⟩ : ∃ z, T70.heap = z := ⟨_, rfl⟩
        rw [e70] at hQ70
        obtain ⟨rr70, rfl, hs70, N70q, hh70⟩ := hQ70
        have N72 := Fr.app N69 N70q
        have e70' : T70.heap = h68 := e70.trans hh70
        rcases hs70 with ⟨rfl, hq70_0_0⟩ | ⟨rfl, hq70_1_0, hq70_1_1⟩ | ⟨rfl, hq70_2_0, hq70_2_1, hq70_2_2⟩ | ⟨rfl, hq70_3_0, hq70_3_1, hq70_3_2, hq70_3_3⟩ | ⟨rfl, hq70_4_0, hq70_4_1, hq70_4_2, hq70_4_3, hq70_4_4⟩ | ⟨rfl, hq70_5_0, hq70_5_1, hq70_5_2, hq70_5_3, hq70_5_4, hq70_5_5⟩ | ⟨rfl, hq70_6_0, hq70_6_1, hq70_6_2, hq70_6_3, hq70_6_4, hq70_6_5, hq70_6_6⟩ | ⟨rfl, hq70_7_0, hq70_7_1, hq70_7_2, hq70_7_3, hq70_7_4, hq70_7_5, hq70_7_6, hq70_7_7⟩ | ⟨rfl, hq70_8_0, hq70_8_1, hq70_8_2, hq70_8_3, hq70_8_4, hq70_8_5, hq70_8_6, hq70_8_7, hq70_8_8⟩ | ⟨rfl, hq70_9_0, hq70_9_1, hq70_9_2, hq70_9_3, hq70_9_4, hq70_9_5, hq70_9_6, hq70_9_7, hq70_9_8, hq70_9_9⟩ | ⟨rfl, hq70_10_0, hq70_10_1, hq70_10_2, hq70_10_3, hq70_10_4, hq70_10_5, hq70_10_6, hq70_10_7, hq70_10_8, hq70_10_9, hq70_10_10⟩ | ⟨rfl, hq70_11_0, hq70_11_1, hq70_11_2, hq70_11_3, hq70_11_4, hq70_11_5, hq70_11_6, hq70_11_7, hq70_11_8, hq70_11_9, hq70_11_10, hq70_11_11⟩ | ⟨rfl, hq70_12_0, hq70_12_1, hq70_12_2, hq70_12_3, hq70_12_4, hq70_12_5, hq70_12_6, hq70_12_7, hq70_12_8, hq70_12_9, hq70_12_10, hq70_12_11, hq70_12_12⟩ | ⟨rfl, hq70_13_0, hq70_13_1, hq70_13_2, hq70_13_3, hq70_13_4, hq70_13_5, hq70_13_6, hq70_13_7, hq70_13_8, hq70_13_9, hq70_13_10, hq70_13_11, hq70_13_12, hq70_13_13⟩ | ⟨rfl, hq70_14_0, hq70_14_1, hq70_14_2, hq70_14_3, hq70_14_4, hq70_14_5, hq70_14_6, hq70_14_7, hq70_14_8, hq70_14_9, hq70_14_10, hq70_14_11, hq70_14_12, hq70_14_13⟩
        · exact absurd hq70_0_0 (by decide : ¬ ((90 : Int64) = (2 : Int64)))
        · exact absurd hq70_1_1 (by decide : ¬ ((90 : Int64) = (85 : Int64)))
        · exact absurd hq70_2_2 (by decide : ¬ ((90 : Int64) = (257 : Int64)))
        · exact absurd hq70_3_3 (by decide : ¬ ((90 : Int64) = (82 : Int64)))
        · exact absurd hq70_4_4 (by decide : ¬ ((90 : Int64) = (264 : Int64)))
        · exact absurd hq70_5_5 (by decide : ¬ ((90 : Int64) = (316 : Int64)))
        · exact absurd hq70_6_6 (by decide : ¬ ((90 : Int64) = (87 : Int64)))
        · exact absurd hq70_7_7 (by decide : ¬ ((90 : Int64) = (263 : Int64)))
        · exact absurd hq70_8_8 (by decide : ¬ ((90 : Int64) = (84 : Int64)))
        · have pre73 : ∀ t, Steps p.tables e below (T70.setTop (mkF m 39 #[.val (.long q0_), .second, .val (.int p1_), .val (.int (p1_ &&& (31 : Int32))), .val (.long (90 : Int64)), .second] [(.int (1 : Int32))])) t → Steps p.tables e below (s₁.setTop (entryFrame m #[(.long q0_), (.int p1_)] maxLocals)) t := by
            intro t kt
            refine pre1 t ?_
            show Steps p.tables e below (s₁.setTop (mkF m 8 #[.val (.long q0_), .second, .val (.int p1_), .val (.int (p1_ &&& (31 : Int32))), .unset, .unset] [(.int (14 : Int32)), (.int (p1_ &&& (31 : Int32)))])) _
            refine XS.icmpNo X0.here hx rfl (hb hby at_8) rfl (tlt hc2).2.1 ?_
            show Steps p.tables e below (s₁.setTop (mkF m 11 #[.val (.long q0_), .second, .val (.int p1_), .val (.int (p1_ &&& (31 : Int32))), .unset, .unset] [])) _
            refine XS.iloadN X0.here hx rfl (hb hby at_11) rfl ?_
            show Steps p.tables e below (s₁.setTop (mkF m 12 #[.val (.long q0_), .second, .val (.int p1_), .val (.int (p1_ &&& (31 : Int32))), .unset, .unset] [(.int (p1_ &&& (31 : Int32)))])) _
            refine st3 _ ?_
            show Steps p.tables e below (T3.setTop (mkF m 15 #[.val (.long q0_), .second, .val (.int p1_), .val (.int (p1_ &&& (31 : Int32))), .unset, .unset] [(.long (90 : Int64))])) _
            refine XS.goto X3.here hx rfl (pc0 := 15) (pc' := 19) rfl (hb hby at_15) (by decide) (by decide) ?_
            show Steps p.tables e below (T3.setTop (mkF m 19 #[.val (.long q0_), .second, .val (.int p1_), .val (.int (p1_ &&& (31 : Int32))), .unset, .unset] [(.long (90 : Int64))])) _
            refine XS.lstore X3.here hx rfl (hb hby at_19) rfl (l' := #[.val (.long q0_), .second, .val (.int p1_), .val (.int (p1_ &&& (31 : Int32))), .val (.long (90 : Int64)), .second]) rfl ?_
            show Steps p.tables e below (T3.setTop (mkF m 21 #[.val (.long q0_), .second, .val (.int p1_), .val (.int (p1_ &&& (31 : Int32))), .val (.long (90 : Int64)), .second] [])) _
            refine XS.lload X3.here hx rfl (hb hby at_21) rfl ?_
            show Steps p.tables e below (T3.setTop (mkF m 23 #[.val (.long q0_), .second, .val (.int p1_), .val (.int (p1_ &&& (31 : Int32))), .val (.long (90 : Int64)), .second] [(.long (90 : Int64))])) _
            refine st68 _ ?_
            show Steps p.tables e below (T68.setTop (mkF m 26 #[.val (.long q0_), .second, .val (.int p1_), .val (.int (p1_ &&& (31 : Int32))), .val (.long (90 : Int64)), .second] [(.ref w_CHMOD)])) _
            refine XS.lload X68.here hx rfl (hb hby at_26) rfl ?_
            show Steps p.tables e below (T68.setTop (mkF m 28 #[.val (.long q0_), .second, .val (.int p1_), .val (.int (p1_ &&& (31 : Int32))), .val (.long (90 : Int64)), .second] [(.long (90 : Int64)), (.ref w_CHMOD)])) _
            refine st70 _ ?_
            show Steps p.tables e below (T70.setTop (mkF m 31 #[.val (.long q0_), .second, .val (.int p1_), .val (.int (p1_ &&& (31 : Int32))), .val (.long (90 : Int64)), .second] [(.ref w_CHMOD), (.ref w_CHMOD)])) _
            refine Jvm.RoadKit.acmp (g := (mkF m 31 #[.val (.long q0_), .second, .val (.int p1_), .val (.int (p1_ &&& (31 : Int32))), .val (.long (90 : Int64)), .second] [(.ref w_CHMOD), (.ref w_CHMOD)])) X70 hx rfl rfl rfl (pc0 := 31) (pc' := 34) (same := true) rfl (hb hby at_31) rfl (decide_eq_true rfl) (by decide) (by decide) ?_
            show Steps p.tables e below (T70.setTop (mkF m 34 #[.val (.long q0_), .second, .val (.int p1_), .val (.int (p1_ &&& (31 : Int32))), .val (.long (90 : Int64)), .second] [])) _
            refine XS.iconst X70.here hx rfl (hb hby at_34) ?_
            show Steps p.tables e below (T70.setTop (mkF m 35 #[.val (.long q0_), .second, .val (.int p1_), .val (.int (p1_ &&& (31 : Int32))), .val (.long (90 : Int64)), .second] [(.int (1 : Int32))])) _
            refine XS.goto X70.here hx rfl (pc0 := 35) (pc' := 39) rfl (hb hby at_35) (by decide) (by decide) ?_
            exact kt
          obtain ⟨fs, hr, hrun, hended, hW, hsame⟩ := X70.leave (v := some (.int (1 : Int32))) (fun h => by rw [Bd.returns] at h; cases h)
          refine ⟨_, _, pre73 _ (retN X70 hx (t := .boolean) Bd.returns (by simp) (hb hby at_39) hr), hrun, hended, _, _, rfl, ?_, ⟨_, rfl⟩, hW, hsame.mono (by decide) (by decide)⟩
          show QLaw Z q0_ p1_ w_OPEN w_CREAT w_OPENAT w_RENAME w_RENAMEAT w_RENAMEAT2 w_UNLINK w_UNLINKAT w_RMDIR w_CHMOD w_FCHMOD w_FCHMODAT w_CHOWN w_FCHOWNAT w__VALUES k_ h0 n0 _ T70.heap _
          rw [e70']
          exact ⟨rfl, N72⟩
        · exact absurd hq70_10_10 (by decide : ¬ ((90 : Int64) = (91 : Int64)))
        · exact absurd hq70_11_11 (by decide : ¬ ((90 : Int64) = (268 : Int64)))
        · exact absurd hq70_12_12 (by decide : ¬ ((90 : Int64) = (92 : Int64)))
        · exact absurd hq70_13_13 (by decide : ¬ ((90 : Int64) = (260 : Int64)))
        · exact absurd (by decide : (90 : Int64) = (90 : Int64)) hq70_14_9
      · exact absurd hq68_10_10 (by decide : ¬ ((91 : Int64) = (90 : Int64)))
      · exact absurd hq68_11_11 (by decide : ¬ ((268 : Int64) = (90 : Int64)))
      · exact absurd hq68_12_12 (by decide : ¬ ((92 : Int64) = (90 : Int64)))
      · exact absurd hq68_13_13 (by decide : ¬ ((260 : Int64) = (90 : Int64)))
      · exact absurd (by decide : (90 : Int64) = (90 : Int64)) hq68_14_9
    · obtain ⟨_, _, ⟨T75, L75, k75, n75⟩, -, X75, ⟨Lc75, hQ75, l75, y75, z75⟩, st75⟩ := Jvm.LawKit.callS X3 hx (y := (⟨"com/example/aeacus/aeacus/audit/Syscall", "of", "(J)Lcom/example/aeacus/aeacus/audit/Syscall;"⟩ : MethodName)) hown (mvT hZ (hw _ (List.mem_of_getElem? (i := 5) rfl))) (mvT hZ (hw _ (List.mem_of_getElem? (i := 6) rfl))) (mvT hZ (hw _ (List.mem_of_getElem? (i := 7) rfl))) (mvT hZ (hw _ (List.mem_of_getElem? (i := 8) rfl))) (by decide) (backOf (W := 0) (rmOf l Z a0 hw [] (91 : Int64) w_OPEN w_CREAT w_OPENAT w_RENAME w_RENAMEAT w_RENAMEAT2 w_UNLINK w_UNLINKAT w_RMDIR w_CHMOD w_FCHMOD w_FCHMODAT w_CHOWN w_FCHOWNAT w__VALUES k_ h0 n0 O0 P0 P1 P2 P3 P4 P5 P6 P7 P8 P9 P10 P11 P12 P13 P14 P15 P16 P17 P18 P19 P20 P21 P22 P23 P24 P25 P26 P27 P28 P29 P30 P31 P32 P33 P34 P35 P36 P37 P38 P39 P40 P41 P42 P43 P44) hZ (hw _ (List.mem_of_getElem? (i := 8) rfl)) (hw _ (List.mem_of_getElem? (i := 7) rfl)) (by decide) (by decide)) (g := (mkF m 23 #[.val (.long q0_), .second, .val (.int p1_), .val (.int (p1_ &&& (31 : Int32))), .val (.long (91 : Int64)), .second] [(.long (91 : Int64))])) rfl (by rw [hml]; rfl) (argsL := [(.long (91 : Int64))]) (rest := []) (lenOf pd_2 rfl) rfl (by show 2 * 0 + _ ≤ _; exact Nat.le_of_eq rfl) (hb hby at_23) (fun _ _ => ⟨rfl, e3', (by decide : 0 + 1 ≤ _), (by decide : 0 + 14 ≤ _)⟩)
      dsimp only [Pt.U, Pt.locs, Pt.cells, Pt.slots] at X75 l75 y75 z75 st75 hQ75
      subst l75 y75 z75
      obtain ⟨h75, e75⟩ : ∃ z, T75.heap = z := ⟨_, rfl⟩
      rw [e75] at hQ75
      obtain ⟨rr75, rfl, hs75, N75q, K75⟩ := hQ75
      have N76 := Fr.app N4 N75q
      rcases hs75 with ⟨rfl, hq75_0_0⟩ | ⟨rfl, hq75_1_0, hq75_1_1⟩ | ⟨rfl, hq75_2_0, hq75_2_1, hq75_2_2⟩ | ⟨rfl, hq75_3_0, hq75_3_1, hq75_3_2, hq75_3_3⟩ | ⟨rfl, hq75_4_0, hq75_4_1, hq75_4_2, hq75_4_3, hq75_4_4⟩ | ⟨rfl, hq75_5_0, hq75_5_1, hq75_5_2, hq75_5_3, hq75_5_4, hq75_5_5⟩ | ⟨rfl, hq75_6_0, hq75_6_1, hq75_6_2, hq75_6_3, hq75_6_4, hq75_6_5, hq75_6_6⟩ | ⟨rfl, hq75_7_0, hq75_7_1, hq75_7_2, hq75_7_3, hq75_7_4, hq75_7_5, hq75_7_6, hq75_7_7⟩ | ⟨rfl, hq75_8_0, hq75_8_1, hq75_8_2, hq75_8_3, hq75_8_4, hq75_8_5, hq75_8_6, hq75_8_7, hq75_8_8⟩ | ⟨rfl, hq75_9_0, hq75_9_1, hq75_9_2, hq75_9_3, hq75_9_4, hq75_9_5, hq75_9_6, hq75_9_7, hq75_9_8, hq75_9_9⟩ | ⟨rfl, hq75_10_0, hq75_10_1, hq75_10_2, hq75_10_3, hq75_10_4, hq75_10_5, hq75_10_6, hq75_10_7, hq75_10_8, hq75_10_9, hq75_10_10⟩ | ⟨rfl, hq75_11_0, hq75_11_1, hq75_11_2, hq75_11_3, hq75_11_4, hq75_11_5, hq75_11_6, hq75_11_7, hq75_11_8, hq75_11_9, hq75_11_10, hq75_11_11⟩ | ⟨rfl, hq75_12_0, hq75_12_1, hq75_12_2, hq75_12_3, hq75_12_4, hq75_12_5, hq75_12_6, hq75_12_7, hq75_12_8, hq75_12_9, hq75_12_10, hq75_12_11, hq75_12_12⟩ | ⟨rfl, hq75_13_0, hq75_13_1, hq75_13_2, hq75_13_3, hq75_13_4, hq75_13_5, hq75_13_6, hq75_13_7, hq75_13_8, hq75_13_9, hq75_13_10, hq75_13_11, hq75_13_12, hq75_13_13⟩ | ⟨rfl, hq75_14_0, hq75_14_1, hq75_14_2, hq75_14_3, hq75_14_4, hq75_14_5, hq75_14_6, hq75_14_7, hq75_14_8, hq75_14_9, hq75_14_10, hq75_14_11, hq75_14_12, hq75_14_13⟩
      · exact absurd hq75_0_0 (by decide : ¬ ((2 : Int64) = (91 : Int64)))
      · exact absurd hq75_1_1 (by decide : ¬ ((85 : Int64) = (91 : Int64)))
      · exact absurd hq75_2_2 (by decide : ¬ ((257 : Int64) = (91 : Int64)))
      · exact absurd hq75_3_3 (by decide : ¬ ((82 : Int64) = (91 : Int64)))
      · exact absurd hq75_4_4 (by decide : ¬ ((264 : Int64) = (91 : Int64)))
      · exact absurd hq75_5_5 (by decide : ¬ ((316 : Int64) = (91 : Int64)))
      · exact absurd hq75_6_6 (by decide : ¬ ((87 : Int64) = (91 : Int64)))
      · exact absurd hq75_7_7 (by decide : ¬ ((263 : Int64) = (91 : Int64)))
      · exact absurd hq75_8_8 (by decide : ¬ ((84 : Int64) = (91 : Int64)))
      · exact absurd hq75_9_9 (by decide : ¬ ((90 : Int64) = (91 : Int64)))
      · have f78 : Old Z n0 h75 := O0.keep K75 all0
        obtain ⟨_, _, ⟨T77, L77, k77, n77⟩, -, X77, ⟨Lc77, hQ77, l77, y77, z77⟩, st77⟩ := Jvm.LawKit.callS X75 hx (y := (⟨"com/example/aeacus/aeacus/audit/SyscallOfPinLaw", "expected", "(J)Lcom/example/aeacus/aeacus/audit/Syscall;"⟩ : MethodName)) hown (mvT hZ (hw _ (List.mem_of_getElem? (i := 40) rfl))) (mvT hZ (hw _ (List.mem_of_getElem? (i := 41) rfl))) (mvT hZ (hw _ (List.mem_of_getElem? (i := 2) rfl))) (mvT hZ (hw _ (List.mem_of_getElem? (i := 42) rfl))) (by decide) (backOf (W := 1) (rmExp l Z a0 hw [] (91 : Int64) w_OPEN w_CREAT w_OPENAT w_RENAME w_RENAMEAT w_RENAMEAT2 w_UNLINK w_UNLINKAT w_RMDIR w_CHMOD w_FCHMOD w_FCHMODAT w_CHOWN w_FCHOWNAT w__VALUES k_ h75 n0 f78 P0 P1 P2 P3 P4 P5 P6 P7 P8 P9 P10 P11 P12 P13 P14 P15 P16 P17 P18 P19 P20 P21 P22 P23 P24 P25 P26 P27 P28 P29 P30 P31 P32 P33 P34 P35 P36 P37 P38 P39 P40 P41 P42 P43 P44) hZ (hw _ (List.mem_of_getElem? (i := 42) rfl)) (hw _ (List.mem_of_getElem? (i := 2) rfl)) (by decide) (by decide)) (g := (mkF m 28 #[.val (.long q0_), .second, .val (.int p1_), .val (.int (p1_ &&& (31 : Int32))), .val (.long (91 : Int64)), .second] [(.long (91 : Int64)), (.ref w_FCHMOD)])) rfl (by rw [hml]; rfl) (argsL := [(.long (91 : Int64))]) (rest := [(.ref w_FCHMOD)]) (lenOf pd_2 rfl) rfl (by show 2 * 0 + _ ≤ _; exact Nat.le_of_eq rfl) (hb hby at_28) (fun _ _ => ⟨rfl, e75, (by decide : 1 + 0 ≤ _), (by decide : 14 + 0 ≤ _)⟩)
        dsimp only [Pt.U, Pt.locs, Pt.cells, Pt.slots] at X77 l77 y77 z77 st77 hQ77
        subst l77 y77 z77
        obtain ⟨h77, e77⟩ : ∃ z, T77.heap = z := ⟨_, rfl⟩
        rw [e77] at hQ77
        obtain ⟨rr77, rfl, hs77, N77q, hh77⟩ := hQ77
        have N79 := Fr.app N76 N77q
        have e77' : T77.heap = h75 := e77.trans hh77
        rcases hs77 with ⟨rfl, hq77_0_0⟩ | ⟨rfl, hq77_1_0, hq77_1_1⟩ | ⟨rfl, hq77_2_0, hq77_2_1, hq77_2_2⟩ | ⟨rfl, hq77_3_0, hq77_3_1, hq77_3_2, hq77_3_3⟩ | ⟨rfl, hq77_4_0, hq77_4_1, hq77_4_2, hq77_4_3, hq77_4_4⟩ | ⟨rfl, hq77_5_0, hq77_5_1, hq77_5_2, hq77_5_3, hq77_5_4, hq77_5_5⟩ | ⟨rfl, hq77_6_0, hq77_6_1, hq77_6_2, hq77_6_3, hq77_6_4, hq77_6_5, hq77_6_6⟩ | ⟨rfl, hq77_7_0, hq77_7_1, hq77_7_2, hq77_7_3, hq77_7_4, hq77_7_5, hq77_7_6, hq77_7_7⟩ | ⟨rfl, hq77_8_0, hq77_8_1, hq77_8_2, hq77_8_3, hq77_8_4, hq77_8_5, hq77_8_6, hq77_8_7, hq77_8_8⟩ | ⟨rfl, hq77_9_0, hq77_9_1, hq77_9_2, hq77_9_3, hq77_9_4, hq77_9_5, hq77_9_6, hq77_9_7, hq77_9_8, hq77_9_9⟩ | ⟨rfl, hq77_10_0, hq77_10_1, hq77_10_2, hq77_10_3, hq77_10_4, hq77_10_5, hq77_10_6, hq77_10_7, hq77_10_8, hq77_10_9, hq77_10_10⟩ | ⟨rfl, hq77_11_0, hq77_11_1, hq77_11_2, hq77_11_3, hq77_11_4, hq77_11_5, hq77_11_6, hq77_11_7, hq77_11_8, hq77_11_9, hq77_11_10, hq77_11_11⟩ | ⟨rfl, hq77_12_0, hq77_12_1, hq77_12_2, hq77_12_3, hq77_12_4, hq77_12_5, hq77_12_6, hq77_12_7, hq77_12_8, hq77_12_9, hq77_12_10, hq77_12_11, hq77_12_12⟩ | ⟨rfl, hq77_13_0, hq77_13_1, hq77_13_2, hq77_13_3, hq77_13_4, hq77_13_5, hq77_13_6, hq77_13_7, hq77_13_8, hq77_13_9, hq77_13_10, hq77_13_11, hq77_13_12, hq77_13_13⟩ | ⟨rfl, hq77_14_0, hq77_14_1, hq77_14_2, hq77_14_3, hq77_14_4, hq77_14_5, hq77_14_6, hq77_14_7, hq77_14_8, hq77_14_9, hq77_14_10, hq77_14_11, hq77_14_12, hq77_14_13⟩
        · exact absurd hq77_0_0 (by decide : ¬ ((91 : Int64) = (2 : Int64)))
        · exact absurd hq77_1_1 (by decide : ¬ ((91 : Int64) = (85 : Int64)))
        · exact absurd hq77_2_2 (by decide : ¬ ((91 : Int64) = (257 : Int64)))
        · exact absurd hq77_3_3 (by decide : ¬ ((91 : Int64) = (82 : Int64)))
        · exact absurd hq77_4_4 (by decide : ¬ ((91 : Int64) = (264 : Int64)))
        · exact absurd hq77_5_5 (by decide : ¬ ((91 : Int64) = (316 : Int64)))
        · exact absurd hq77_6_6 (by decide : ¬ ((91 : Int64) = (87 : Int64)))
        · exact absurd hq77_7_7 (by decide : ¬ ((91 : Int64) = (263 : Int64)))
        · exact absurd hq77_8_8 (by decide : ¬ ((91 : Int64) = (84 : Int64)))
        · exact absurd hq77_9_9 (by decide : ¬ ((91 : Int64) = (90 : Int64)))
        · have pre80 : ∀ t, Steps p.tables e below (T77.setTop (mkF m 39 #[.val (.long q0_), .second, .val (.int p1_), .val (.int (p1_ &&& (31 : Int32))), .val (.long (91 : Int64)), .second] [(.int (1 : Int32))])) t → Steps p.tables e below (s₁.setTop (entryFrame m #[(.long q0_), (.int p1_)] maxLocals)) t := by
            intro t kt
            refine pre1 t ?_
            show Steps p.tables e below (s₁.setTop (mkF m 8 #[.val (.long q0_), .second, .val (.int p1_), .val (.int (p1_ &&& (31 : Int32))), .unset, .unset] [(.int (14 : Int32)), (.int (p1_ &&& (31 : Int32)))])) _
            refine XS.icmpNo X0.here hx rfl (hb hby at_8) rfl (tlt hc2).2.1 ?_
            show Steps p.tables e below (s₁.setTop (mkF m 11 #[.val (.long q0_), .second, .val (.int p1_), .val (.int (p1_ &&& (31 : Int32))), .unset, .unset] [])) _
            refine XS.iloadN X0.here hx rfl (hb hby at_11) rfl ?_
            show Steps p.tables e below (s₁.setTop (mkF m 12 #[.val (.long q0_), .second, .val (.int p1_), .val (.int (p1_ &&& (31 : Int32))), .unset, .unset] [(.int (p1_ &&& (31 : Int32)))])) _
            refine st3 _ ?_
            show Steps p.tables e below (T3.setTop (mkF m 15 #[.val (.long q0_), .second, .val (.int p1_), .val (.int (p1_ &&& (31 : Int32))), .unset, .unset] [(.long (91 : Int64))])) _
            refine XS.goto X3.here hx rfl (pc0 := 15) (pc' := 19) rfl (hb hby at_15) (by decide) (by decide) ?_
            show Steps p.tables e below (T3.setTop (mkF m 19 #[.val (.long q0_), .second, .val (.int p1_), .val (.int (p1_ &&& (31 : Int32))), .unset, .unset] [(.long (91 : Int64))])) _
            refine XS.lstore X3.here hx rfl (hb hby at_19) rfl (l' := #[.val (.long q0_), .second, .val (.int p1_), .val (.int (p1_ &&& (31 : Int32))), .val (.long (91 : Int64)), .second]) rfl ?_
            show Steps p.tables e below (T3.setTop (mkF m 21 #[.val (.long q0_), .second, .val (.int p1_), .val (.int (p1_ &&& (31 : Int32))), .val (.long (91 : Int64)), .second] [])) _
            refine XS.lload X3.here hx rfl (hb hby at_21) rfl ?_
            show Steps p.tables e below (T3.setTop (mkF m 23 #[.val (.long q0_), .second, .val (.int p1_), .val (.int (p1_ &&& (31 : Int32))), .val (.long (91 : Int64)), .second] [(.long (91 : Int64))])) _
            refine st75 _ ?_
            show Steps p.tables e below (T75.setTop (mkF m 26 #[.val (.long q0_), .second, .val (.int p1_), .val (.int (p1_ &&& (31 : Int32))), .val (.long (91 : Int64)), .second] [(.ref w_FCHMOD)])) _
            refine XS.lload X75.here hx rfl (hb hby at_26) rfl ?_
            show Steps p.tables e below (T75.setTop (mkF m 28 #[.val (.long q0_), .second, .val (.int p1_), .val (.int (p1_ &&& (31 : Int32))), .val (.long (91 : Int64)), .second] [(.long (91 : Int64)), (.ref w_FCHMOD)])) _
            refine st77 _ ?_
            show Steps p.tables e below (T77.setTop (mkF m 31 #[.val (.long q0_), .second, .val (.int p1_), .val (.int (p1_ &&& (31 : Int32))), .val (.long (91 : Int64)), .second] [(.ref w_FCHMOD), (.ref w_FCHMOD)])) _
            refine Jvm.RoadKit.acmp (g := (mkF m 31 #[.val (.long q0_), .second, .val (.int p1_), .val (.int (p1_ &&& (31 : Int32))), .val (.long (91 : Int64)), .second] [(.ref w_FCHMOD), (.ref w_FCHMOD)])) X77 hx rfl rfl rfl (pc0 := 31) (pc' := 34) (same := true) rfl (hb hby at_31) rfl (decide_eq_true rfl) (by decide) (by decide) ?_
            show Steps p.tables e below (T77.setTop (mkF m 34 #[.val (.long q0_), .second, .val (.int p1_), .val (.int (p1_ &&& (31 : Int32))), .val (.long (91 : Int64)), .second] [])) _
            refine XS.iconst X77.here hx rfl (hb hby at_34) ?_
            show Steps p.tables e below (T77.setTop (mkF m 35 #[.val (.long q0_), .second, .val (.int p1_), .val (.int (p1_ &&& (31 : Int32))), .val (.long (91 : Int64)), .second] [(.int (1 : Int32))])) _
            refine XS.goto X77.here hx rfl (pc0 := 35) (pc' := 39) rfl (hb hby at_35) (by decide) (by decide) ?_
            exact kt
          obtain ⟨fs, hr, hrun, hended, hW, hsame⟩ := X77.leave (v := some (.int (1 : Int32))) (fun h => by rw [Bd.returns] at h; cases h)
          refine ⟨_, _, pre80 _ (retN X77 hx (t := .boolean) Bd.returns (by simp) (hb hby at_39) hr), hrun, hended, _, _, rfl, ?_, ⟨_, rfl⟩, hW, hsame.mono (by decide) (by decide)⟩
          show QLaw Z q0_ p1_ w_OPEN w_CREAT w_OPENAT w_RENAME w_RENAMEAT w_RENAMEAT2 w_UNLINK w_UNLINKAT w_RMDIR w_CHMOD w_FCHMOD w_FCHMODAT w_CHOWN w_FCHOWNAT w__VALUES k_ h0 n0 _ T77.heap _
          rw [e77']
          exact ⟨rfl, N79⟩
        · exact absurd hq77_11_11 (by decide : ¬ ((91 : Int64) = (268 : Int64)))
        · exact absurd hq77_12_12 (by decide : ¬ ((91 : Int64) = (92 : Int64)))
        · exact absurd hq77_13_13 (by decide : ¬ ((91 : Int64) = (260 : Int64)))
        · exact absurd (by decide : (91 : Int64) = (91 : Int64)) hq77_14_10
      · exact absurd hq75_11_11 (by decide : ¬ ((268 : Int64) = (91 : Int64)))
      · exact absurd hq75_12_12 (by decide : ¬ ((92 : Int64) = (91 : Int64)))
      · exact absurd hq75_13_13 (by decide : ¬ ((260 : Int64) = (91 : Int64)))
      · exact absurd (by decide : (91 : Int64) = (91 : Int64)) hq75_14_10
    · obtain ⟨_, _, ⟨T82, L82, k82, n82⟩, -, X82, ⟨Lc82, hQ82, l82, y82, z82⟩, st82⟩ := Jvm.LawKit.callS X3 hx (y := (⟨"com/example/aeacus/aeacus/audit/Syscall", "of", "(J)Lcom/example/aeacus/aeacus/audit/Syscall;"⟩ : MethodName)) hown (mvT hZ (hw _ (List.mem_of_getElem? (i := 5) rfl))) (mvT hZ (hw _ (List.mem_of_getElem? (i := 6) rfl))) (mvT hZ (hw _ (List.mem_of_getElem? (i := 7) rfl))) (mvT hZ (hw _ (List.mem_of_getElem? (i := 8) rfl))) (by decide) (backOf (W := 0) (rmOf l Z a0 hw [] (268 : Int64) w_OPEN w_CREAT w_OPENAT w_RENAME w_RENAMEAT w_RENAMEAT2 w_UNLINK w_UNLINKAT w_RMDIR w_CHMOD w_FCHMOD w_FCHMODAT w_CHOWN w_FCHOWNAT w__VALUES k_ h0 n0 O0 P0 P1 P2 P3 P4 P5 P6 P7 P8 P9 P10 P11 P12 P13 P14 P15 P16 P17 P18 P19 P20 P21 P22 P23 P24 P25 P26 P27 P28 P29 P30 P31 P32 P33 P34 P35 P36 P37 P38 P39 P40 P41 P42 P43 P44) hZ (hw _ (List.mem_of_getElem? (i := 8) rfl)) (hw _ (List.mem_of_getElem? (i := 7) rfl)) (by decide) (by decide)) (g := (mkF m 23 #[.val (.long q0_), .second, .val (.int p1_), .val (.int (p1_ &&& (31 : Int32))), .val (.long (268 : Int64)), .second] [(.long (268 : Int64))])) rfl (by rw [hml]; rfl) (argsL := [(.long (268 : Int64))]) (rest := []) (lenOf pd_2 rfl) rfl (by show 2 * 0 + _ ≤ _; exact Nat.le_of_eq rfl) (hb hby at_23) (fun _ _ => ⟨rfl, e3', (by decide : 0 + 1 ≤ _), (by decide : 0 + 14 ≤ _)⟩)
      dsimp only [Pt.U, Pt.locs, Pt.cells, Pt.slots] at X82 l82 y82 z82 st82 hQ82
      subst l82 y82 z82
      obtain ⟨h82, e82⟩ : ∃ z, T82.heap = z := ⟨_, rfl⟩
      rw [e82] at hQ82
      obtain ⟨rr82, rfl, hs82, N82q, K82⟩ := hQ82
      have N83 := Fr.app N4 N82q
      rcases hs82 with ⟨rfl, hq82_0_0⟩ | ⟨rfl, hq82_1_0, hq82_1_1⟩ | ⟨rfl, hq82_2_0, hq82_2_1, hq82_2_2⟩ | ⟨rfl, hq82_3_0, hq82_3_1, hq82_3_2, hq82_3_3⟩ | ⟨rfl, hq82_4_0, hq82_4_1, hq82_4_2, hq82_4_3, hq82_4_4⟩ | ⟨rfl, hq82_5_0, hq82_5_1, hq82_5_2, hq82_5_3, hq82_5_4, hq82_5_5⟩ | ⟨rfl, hq82_6_0, hq82_6_1, hq82_6_2, hq82_6_3, hq82_6_4, hq82_6_5, hq82_6_6⟩ | ⟨rfl, hq82_7_0, hq82_7_1, hq82_7_2, hq82_7_3, hq82_7_4, hq82_7_5, hq82_7_6, hq82_7_7⟩ | ⟨rfl, hq82_8_0, hq82_8_1, hq82_8_2, hq82_8_3, hq82_8_4, hq82_8_5, hq82_8_6, hq82_8_7, hq82_8_8⟩ | ⟨rfl, hq82_9_0, hq82_9_1, hq82_9_2, hq82_9_3, hq82_9_4, hq82_9_5, hq82_9_6, hq82_9_7, hq82_9_8, hq82_9_9⟩ | ⟨rfl, hq82_10_0, hq82_10_1, hq82_10_2, hq82_10_3, hq82_10_4, hq82_10_5, hq82_10_6, hq82_10_7, hq82_10_8, hq82_10_9, hq82_10_10⟩ | ⟨rfl, hq82_11_0, hq82_11_1, hq82_11_2, hq82_11_3, hq82_11_4, hq82_11_5, hq82_11_6, hq82_11_7, hq82_11_8, hq82_11_9, hq82_11_10, hq82_11_11⟩ | ⟨rfl, hq82_12_0, hq82_12_1, hq82_12_2, hq82_12_3, hq82_12_4, hq82_12_5, hq82_12_6, hq82_12_7, hq82_12_8, hq82_12_9, hq82_12_10, hq82_12_11, hq82_12_12⟩ | ⟨rfl, hq82_13_0, hq82_13_1, hq82_13_2, hq82_13_3, hq82_13_4, hq82_13_5, hq82_13_6, hq82_13_7, hq82_13_8, hq82_13_9, hq82_13_10, hq82_13_11, hq82_13_12, hq82_13_13⟩ | ⟨rfl, hq82_14_0, hq82_14_1, hq82_14_2, hq82_14_3, hq82_14_4, hq82_14_5, hq82_14_6, hq82_14_7, hq82_14_8, hq82_14_9, hq82_14_10, hq82_14_11, hq82_14_12, hq82_14_13⟩
      · exact absurd hq82_0_0 (by decide : ¬ ((2 : Int64) = (268 : Int64)))
      · exact absurd hq82_1_1 (by decide : ¬ ((85 : Int64) = (268 : Int64)))
      · exact absurd hq82_2_2 (by decide : ¬ ((257 : Int64) = (268 : Int64)))
      · exact absurd hq82_3_3 (by decide : ¬ ((82 : Int64) = (268 : Int64)))
      · exact absurd hq82_4_4 (by decide : ¬ ((264 : Int64) = (268 : Int64)))
      · exact absurd hq82_5_5 (by decide : ¬ ((316 : Int64) = (268 : Int64)))
      · exact absurd hq82_6_6 (by decide : ¬ ((87 : Int64) = (268 : Int64)))
      · exact absurd hq82_7_7 (by decide : ¬ ((263 : Int64) = (268 : Int64)))
      · exact absurd hq82_8_8 (by decide : ¬ ((84 : Int64) = (268 : Int64)))
      · exact absurd hq82_9_9 (by decide : ¬ ((90 : Int64) = (268 : Int64)))
      · exact absurd hq82_10_10 (by decide : ¬ ((91 : Int64) = (268 : Int64)))
      · have f85 : Old Z n0 h82 := O0.keep K82 all0
        obtain ⟨_, _, ⟨T84, L84, k84, n84⟩, -, X84, ⟨Lc84, hQ84, l84, y84, z84⟩, st84⟩ := Jvm.LawKit.callS X82 hx (y := (⟨"com/example/aeacus/aeacus/audit/SyscallOfPinLaw", "expected", "(J)Lcom/example/aeacus/aeacus/audit/Syscall;"⟩ : MethodName)) hown (mvT hZ (hw _ (List.mem_of_getElem? (i := 40) rfl))) (mvT hZ (hw _ (List.mem_of_getElem? (i := 41) rfl))) (mvT hZ (hw _ (List.mem_of_getElem? (i := 2) rfl))) (mvT hZ (hw _ (List.mem_of_getElem? (i := 42) rfl))) (by decide) (backOf (W := 1) (rmExp l Z a0 hw [] (268 : Int64) w_OPEN w_CREAT w_OPENAT w_RENAME w_RENAMEAT w_RENAMEAT2 w_UNLINK w_UNLINKAT w_RMDIR w_CHMOD w_FCHMOD w_FCHMODAT w_CHOWN w_FCHOWNAT w__VALUES k_ h82 n0 f85 P0 P1 P2 P3 P4 P5 P6 P7 P8 P9 P10 P11 P12 P13 P14 P15 P16 P17 P18 P19 P20 P21 P22 P23 P24 P25 P26 P27 P28 P29 P30 P31 P32 P33 P34 P35 P36 P37 P38 P39 P40 P41 P42 P43 P44) hZ (hw _ (List.mem_of_getElem? (i := 42) rfl)) (hw _ (List.mem_of_getElem? (i := 2) rfl)) (by decide) (by decide)) (g := (mkF m 28 #[.val (.long q0_), .second, .val (.int p1_), .val (.int (p1_ &&& (31 : Int32))), .val (.long (268 : Int64)), .second] [(.long (268 : Int64)), (.ref w_FCHMODAT)])) rfl (by rw [hml]; rfl) (argsL := [(.long (268 : Int64))]) (rest := [(.ref w_FCHMODAT)]) (lenOf pd_2 rfl) rfl (by show 2 * 0 + _ ≤ _; exact Nat.le_of_eq rfl) (hb hby at_28) (fun _ _ => ⟨rfl, e82, (by decide : 1 + 0 ≤ _), (by decide : 14 + 0 ≤ _)⟩)
        dsimp only [Pt.U, Pt.locs, Pt.cells, Pt.slots] at X84 l84 y84 z84 st84 hQ84
        subst l84 y84 z84
        obtain ⟨h84, e84⟩ : ∃ z, T84.heap = z := ⟨_, rfl⟩
        rw [e84] at hQ84
        obtain ⟨rr84, rfl, hs84, N84q, hh84⟩ := hQ84
        have N86 := Fr.app N83 N84q
        have e84' : T84.heap = h82 := e84.trans hh84
        rcases hs84 with ⟨rfl, hq84_0_0⟩ | ⟨rfl, hq84_1_0, hq84_1_1⟩ | ⟨rfl, hq84_2_0, hq84_2_1, hq84_2_2⟩ | ⟨rfl, hq84_3_0, hq84_3_1, hq84_3_2, hq84_3_3⟩ | ⟨rfl, hq84_4_0, hq84_4_1, hq84_4_2, hq84_4_3, hq84_4_4⟩ | ⟨rfl, hq84_5_0, hq84_5_1, hq84_5_2, hq84_5_3, hq84_5_4, hq84_5_5⟩ | ⟨rfl, hq84_6_0, hq84_6_1, hq84_6_2, hq84_6_3, hq84_6_4, hq84_6_5, hq84_6_6⟩ | ⟨rfl, hq84_7_0, hq84_7_1, hq84_7_2, hq84_7_3, hq84_7_4, hq84_7_5, hq84_7_6, hq84_7_7⟩ | ⟨rfl, hq84_8_0, hq84_8_1, hq84_8_2, hq84_8_3, hq84_8_4, hq84_8_5, hq84_8_6, hq84_8_7, hq84_8_8⟩ | ⟨rfl, hq84_9_0, hq84_9_1, hq84_9_2, hq84_9_3, hq84_9_4, hq84_9_5, hq84_9_6, hq84_9_7, hq84_9_8, hq84_9_9⟩ | ⟨rfl, hq84_10_0, hq84_10_1, hq84_10_2, hq84_10_3, hq84_10_4, hq84_10_5, hq84_10_6, hq84_10_7, hq84_10_8, hq84_10_9, hq84_10_10⟩ | ⟨rfl, hq84_11_0, hq84_11_1, hq84_11_2, hq84_11_3, hq84_11_4, hq84_11_5, hq84_11_6, hq84_11_7, hq84_11_8, hq84_11_9, hq84_11_10, hq84_11_11⟩ | ⟨rfl, hq84_12_0, hq84_12_1, hq84_12_2, hq84_12_3, hq84_12_4, hq84_12_5, hq84_12_6, hq84_12_7, hq84_12_8, hq84_12_9, hq84_12_10, hq84_12_11, hq84_12_12⟩ | ⟨rfl, hq84_13_0, hq84_13_1, hq84_13_2, hq84_13_3, hq84_13_4, hq84_13_5, hq84_13_6, hq84_13_7, hq84_13_8, hq84_13_9, hq84_13_10, hq84_13_11, hq84_13_12, hq84_13_13⟩ | ⟨rfl, hq84_14_0, hq84_14_1, hq84_14_2, hq84_14_3, hq84_14_4, hq84_14_5, hq84_14_6, hq84_14_7, hq84_14_8, hq84_14_9, hq84_14_10, hq84_14_11, hq84_14_12, hq84_14_13⟩
        · exact absurd hq84_0_0 (by decide : ¬ ((268 : Int64) = (2 : Int64)))
        · exact absurd hq84_1_1 (by decide : ¬ ((268 : Int64) = (85 : Int64)))
        · exact absurd hq84_2_2 (by decide : ¬ ((268 : Int64) = (257 : Int64)))
        · exact absurd hq84_3_3 (by decide : ¬ ((268 : Int64) = (82 : Int64)))
        · exact absurd hq84_4_4 (by decide : ¬ ((268 : Int64) = (264 : Int64)))
        · exact absurd hq84_5_5 (by decide : ¬ ((268 : Int64) = (316 : Int64)))
        · exact absurd hq84_6_6 (by decide : ¬ ((268 : Int64) = (87 : Int64)))
        · exact absurd hq84_7_7 (by decide : ¬ ((268 : Int64) = (263 : Int64)))
        · exact absurd hq84_8_8 (by decide : ¬ ((268 : Int64) = (84 : Int64)))
        · exact absurd hq84_9_9 (by decide : ¬ ((268 : Int64) = (90 : Int64)))
        · exact absurd hq84_10_10 (by decide : ¬ ((268 : Int64) = (91 : Int64)))
        · have pre87 : ∀ t, Steps p.tables e below (T84.setTop (mkF m 39 #[.val (.long q0_), .second, .val (.int p1_), .val (.int (p1_ &&& (31 : Int32))), .val (.long (268 : Int64)), .second] [(.int (1 : Int32))])) t → Steps p.tables e below (s₁.setTop (entryFrame m #[(.long q0_), (.int p1_)] maxLocals)) t := by
            intro t kt
            refine pre1 t ?_
            show Steps p.tables e below (s₁.setTop (mkF m 8 #[.val (.long q0_), .second, .val (.int p1_), .val (.int (p1_ &&& (31 : Int32))), .unset, .unset] [(.int (14 : Int32)), (.int (p1_ &&& (31 : Int32)))])) _
            refine XS.icmpNo X0.here hx rfl (hb hby at_8) rfl (tlt hc2).2.1 ?_
            show Steps p.tables e below (s₁.setTop (mkF m 11 #[.val (.long q0_), .second, .val (.int p1_), .val (.int (p1_ &&& (31 : Int32))), .unset, .unset] [])) _
            refine XS.iloadN X0.here hx rfl (hb hby at_11) rfl ?_
            show Steps p.tables e below (s₁.setTop (mkF m 12 #[.val (.long q0_), .second, .val (.int p1_), .val (.int (p1_ &&& (31 : Int32))), .unset, .unset] [(.int (p1_ &&& (31 : Int32)))])) _
            refine st3 _ ?_
            show Steps p.tables e below (T3.setTop (mkF m 15 #[.val (.long q0_), .second, .val (.int p1_), .val (.int (p1_ &&& (31 : Int32))), .unset, .unset] [(.long (268 : Int64))])) _
            refine XS.goto X3.here hx rfl (pc0 := 15) (pc' := 19) rfl (hb hby at_15) (by decide) (by decide) ?_
            show Steps p.tables e below (T3.setTop (mkF m 19 #[.val (.long q0_), .second, .val (.int p1_), .val (.int (p1_ &&& (31 : Int32))), .unset, .unset] [(.long (268 : Int64))])) _
            refine XS.lstore X3.here hx rfl (hb hby at_19) rfl (l' := #[.val (.long q0_), .second, .val (.int p1_), .val (.int (p1_ &&& (31 : Int32))), .val (.long (268 : Int64)), .second]) rfl ?_
            show Steps p.tables e below (T3.setTop (mkF m 21 #[.val (.long q0_), .second, .val (.int p1_), .val (.int (p1_ &&& (31 : Int32))), .val (.long (268 : Int64)), .second] [])) _
            refine XS.lload X3.here hx rfl (hb hby at_21) rfl ?_
            show Steps p.tables e below (T3.setTop (mkF m 23 #[.val (.long q0_), .second, .val (.int p1_), .val (.int (p1_ &&& (31 : Int32))), .val (.long (268 : Int64)), .second] [(.long (268 : Int64))])) _
            refine st82 _ ?_
            show Steps p.tables e below (T82.setTop (mkF m 26 #[.val (.long q0_), .second, .val (.int p1_), .val (.int (p1_ &&& (31 : Int32))), .val (.long (268 : Int64)), .second] [(.ref w_FCHMODAT)])) _
            refine XS.lload X82.here hx rfl (hb hby at_26) rfl ?_
            show Steps p.tables e below (T82.setTop (mkF m 28 #[.val (.long q0_), .second, .val (.int p1_), .val (.int (p1_ &&& (31 : Int32))), .val (.long (268 : Int64)), .second] [(.long (268 : Int64)), (.ref w_FCHMODAT)])) _
            refine st84 _ ?_
            show Steps p.tables e below (T84.setTop (mkF m 31 #[.val (.long q0_), .second, .val (.int p1_), .val (.int (p1_ &&& (31 : Int32))), .val (.long (268 : Int64)), .second] [(.ref w_FCHMODAT), (.ref w_FCHMODAT)])) _
            refine Jvm.RoadKit.acmp (g := (mkF m 31 #[.val (.long q0_), .second, .val (.int p1_), .val (.int (p1_ &&& (31 : Int32))), .val (.long (268 : Int64)), .second] [(.ref w_FCHMODAT), (.ref w_FCHMODAT)])) X84 hx rfl rfl rfl (pc0 := 31) (pc' := 34) (same := true) rfl (hb hby at_31) rfl (decide_eq_true rfl) (by decide) (by decide) ?_
            show Steps p.tables e below (T84.setTop (mkF m 34 #[.val (.long q0_), .second, .val (.int p1_), .val (.int (p1_ &&& (31 : Int32))), .val (.long (268 : Int64)), .second] [])) _
            refine XS.iconst X84.here hx rfl (hb hby at_34) ?_
            show Steps p.tables e below (T84.setTop (mkF m 35 #[.val (.long q0_), .second, .val (.int p1_), .val (.int (p1_ &&& (31 : Int32))), .val (.long (268 : Int64)), .second] [(.int (1 : Int32))])) _
            refine XS.goto X84.here hx rfl (pc0 := 35) (pc' := 39) rfl (hb hby at_35) (by decide) (by decide) ?_
            exact kt
          obtain ⟨fs, hr, hrun, hended, hW, hsame⟩ := X84.leave (v := some (.int (1 : Int32))) (fun h => by rw [Bd.returns] at h; cases h)
          refine ⟨_, _, pre87 _ (retN X84 hx (t := .boolean) Bd.returns (by simp) (hb hby at_39) hr), hrun, hended, _, _, rfl, ?_, ⟨_, rfl⟩, hW, hsame.mono (by decide) (by decide)⟩
          show QLaw Z q0_ p1_ w_OPEN w_CREAT w_OPENAT w_RENAME w_RENAMEAT w_RENAMEAT2 w_UNLINK w_UNLINKAT w_RMDIR w_CHMOD w_FCHMOD w_FCHMODAT w_CHOWN w_FCHOWNAT w__VALUES k_ h0 n0 _ T84.heap _
          rw [e84']
          exact ⟨rfl, N86⟩
        · exact absurd hq84_12_12 (by decide : ¬ ((268 : Int64) = (92 : Int64)))
        · exact absurd hq84_13_13 (by decide : ¬ ((268 : Int64) = (260 : Int64)))
        · exact absurd (by decide : (268 : Int64) = (268 : Int64)) hq84_14_11
      · exact absurd hq82_12_12 (by decide : ¬ ((92 : Int64) = (268 : Int64)))
      · exact absurd hq82_13_13 (by decide : ¬ ((260 : Int64) = (268 : Int64)))
      · exact absurd (by decide : (268 : Int64) = (268 : Int64)) hq82_14_11
    · obtain ⟨_, _, ⟨T89, L89, k89, n89⟩, -, X89, ⟨Lc89, hQ89, l89, y89, z89⟩, st89⟩ := Jvm.LawKit.callS X3 hx (y := (⟨"com/example/aeacus/aeacus/audit/Syscall", "of", "(J)Lcom/example/aeacus/aeacus/audit/Syscall;"⟩ : MethodName)) hown (mvT hZ (hw _ (List.mem_of_getElem? (i := 5) rfl))) (mvT hZ (hw _ (List.mem_of_getElem? (i := 6) rfl))) (mvT hZ (hw _ (List.mem_of_getElem? (i := 7) rfl))) (mvT hZ (hw _ (List.mem_of_getElem? (i := 8) rfl))) (by decide) (backOf (W := 0) (rmOf l Z a0 hw [] (92 : Int64) w_OPEN w_CREAT w_OPENAT w_RENAME w_RENAMEAT w_RENAMEAT2 w_UNLINK w_UNLINKAT w_RMDIR w_CHMOD w_FCHMOD w_FCHMODAT w_CHOWN w_FCHOWNAT w__VALUES k_ h0 n0 O0 P0 P1 P2 P3 P4 P5 P6 P7 P8 P9 P10 P11 P12 P13 P14 P15 P16 P17 P18 P19 P20 P21 P22 P23 P24 P25 P26 P27 P28 P29 P30 P31 P32 P33 P34 P35 P36 P37 P38 P39 P40 P41 P42 P43 P44) hZ (hw _ (List.mem_of_getElem? (i := 8) rfl)) (hw _ (List.mem_of_getElem? (i := 7) rfl)) (by decide) (by decide)) (g := (mkF m 23 #[.val (.long q0_), .second, .val (.int p1_), .val (.int (p1_ &&& (31 : Int32))), .val (.long (92 : Int64)), .second] [(.long (92 : Int64))])) rfl (by rw [hml]; rfl) (argsL := [(.long (92 : Int64))]) (rest := []) (lenOf pd_2 rfl) rfl (by show 2 * 0 + _ ≤ _; exact Nat.le_of_eq rfl) (hb hby at_23) (fun _ _ => ⟨rfl, e3', (by decide : 0 + 1 ≤ _), (by decide : 0 + 14 ≤ _)⟩)
      dsimp only [Pt.U, Pt.locs, Pt.cells, Pt.slots] at X89 l89 y89 z89 st89 hQ89
      subst l89 y89 z89
      obtain ⟨h89, e89⟩ : ∃ z, T89.heap = z := ⟨_, rfl⟩
      rw [e89] at hQ89
      obtain ⟨rr89, rfl, hs89, N89q, K89⟩ := hQ89
      have N90 := Fr.app N4 N89q
      rcases hs89 with ⟨rfl, hq89_0_0⟩ | ⟨rfl, hq89_1_0, hq89_1_1⟩ | ⟨rfl, hq89_2_0, hq89_2_1, hq89_2_2⟩ | ⟨rfl, hq89_3_0, hq89_3_1, hq89_3_2, hq89_3_3⟩ | ⟨rfl, hq89_4_0, hq89_4_1, hq89_4_2, hq89_4_3, hq89_4_4⟩ | ⟨rfl, hq89_5_0, hq89_5_1, hq89_5_2, hq89_5_3, hq89_5_4, hq89_5_5⟩ | ⟨rfl, hq89_6_0, hq89_6_1, hq89_6_2, hq89_6_3, hq89_6_4, hq89_6_5, hq89_6_6⟩ | ⟨rfl, hq89_7_0, hq89_7_1, hq89_7_2, hq89_7_3, hq89_7_4, hq89_7_5, hq89_7_6, hq89_7_7⟩ | ⟨rfl, hq89_8_0, hq89_8_1, hq89_8_2, hq89_8_3, hq89_8_4, hq89_8_5, hq89_8_6, hq89_8_7, hq89_8_8⟩ | ⟨rfl, hq89_9_0, hq89_9_1, hq89_9_2, hq89_9_3, hq89_9_4, hq89_9_5, hq89_9_6, hq89_9_7, hq89_9_8, hq89_9_9⟩ | ⟨rfl, hq89_10_0, hq89_10_1, hq89_10_2, hq89_10_3, hq89_10_4, hq89_10_5, hq89_10_6, hq89_10_7, hq89_10_8, hq89_10_9, hq89_10_10⟩ | ⟨rfl, hq89_11_0, hq89_11_1, hq89_11_2, hq89_11_3, hq89_11_4, hq89_11_5, hq89_11_6, hq89_11_7, hq89_11_8, hq89_11_9, hq89_11_10, hq89_11_11⟩ | ⟨rfl, hq89_12_0, hq89_12_1, hq89_12_2, hq89_12_3, hq89_12_4, hq89_12_5, hq89_12_6, hq89_12_7, hq89_12_8, hq89_12_9, hq89_12_10, hq89_12_11, hq89_12_12⟩ | ⟨rfl, hq89_13_0, hq89_13_1, hq89_13_2, hq89_13_3, hq89_13_4, hq89_13_5, hq89_13_6, hq89_13_7, hq89_13_8, hq89_13_9, hq89_13_10, hq89_13_11, hq89_13_12, hq89_13_13⟩ | ⟨rfl, hq89_14_0, hq89_14_1, hq89_14_2, hq89_14_3, hq89_14_4, hq89_14_5, hq89_14_6, hq89_14_7, hq89_14_8, hq89_14_9, hq89_14_10, hq89_14_11, hq89_14_12, hq89_14_13⟩
      · exact absurd hq89_0_0 (by decide : ¬ ((2 : Int64) = (92 : Int64)))
      · exact absurd hq89_1_1 (by decide : ¬ ((85 : Int64) = (92 : Int64)))
      · exact absurd hq89_2_2 (by decide : ¬ ((257 : Int64) = (92 : Int64)))
      · exact absurd hq89_3_3 (by decide : ¬ ((82 : Int64) = (92 : Int64)))
      · exact absurd hq89_4_4 (by decide : ¬ ((264 : Int64) = (92 : Int64)))
      · exact absurd hq89_5_5 (by decide : ¬ ((316 : Int64) = (92 : Int64)))
      · exact absurd hq89_6_6 (by decide : ¬ ((87 : Int64) = (92 : Int64)))
      · exact absurd hq89_7_7 (by decide : ¬ ((263 : Int64) = (92 : Int64)))
      · exact absurd hq89_8_8 (by decide : ¬ ((84 : Int64) = (92 : Int64)))
      · exact absurd hq89_9_9 (by decide : ¬ ((90 : Int64) = (92 : Int64)))
      · exact absurd hq89_10_10 (by decide : ¬ ((91 : Int64) = (92 : Int64)))
      · exact absurd hq89_11_11 (by decide : ¬ ((268 : Int64) = (92 : Int64)))
      · have f92 : Old Z n0 h89 := O0.keep K89 all0
        obtain ⟨_, _, ⟨T91, L91, k91, n91⟩, -, X91, ⟨Lc91, hQ91, l91, y91, z91⟩, st91⟩ := Jvm.LawKit.callS X89 hx (y := (⟨"com/example/aeacus/aeacus/audit/SyscallOfPinLaw", "expected", "(J)Lcom/example/aeacus/aeacus/audit/Syscall;"⟩ : MethodName)) hown (mvT hZ (hw _ (List.mem_of_getElem? (i := 40) rfl))) (mvT hZ (hw _ (List.mem_of_getElem? (i := 41) rfl))) (mvT hZ (hw _ (List.mem_of_getElem? (i := 2) rfl))) (mvT hZ (hw _ (List.mem_of_getElem? (i := 42) rfl))) (by decide) (backOf (W := 1) (rmExp l Z a0 hw [] (92 : Int64) w_OPEN w_CREAT w_OPENAT w_RENAME w_RENAMEAT w_RENAMEAT2 w_UNLINK w_UNLINKAT w_RMDIR w_CHMOD w_FCHMOD w_FCHMODAT w_CHOWN w_FCHOWNAT w__VALUES k_ h89 n0 f92 P0 P1 P2 P3 P4 P5 P6 P7 P8 P9 P10 P11 P12 P13 P14 P15 P16 P17 P18 P19 P20 P21 P22 P23 P24 P25 P26 P27 P28 P29 P30 P31 P32 P33 P34 P35 P36 P37 P38 P39 P40 P41 P42 P43 P44) hZ (hw _ (List.mem_of_getElem? (i := 42) rfl)) (hw _ (List.mem_of_getElem? (i := 2) rfl)) (by decide) (by decide)) (g := (mkF m 28 #[.val (.long q0_), .second, .val (.int p1_), .val (.int (p1_ &&& (31 : Int32))), .val (.long (92 : Int64)), .second] [(.long (92 : Int64)), (.ref w_CHOWN)])) rfl (by rw [hml]; rfl) (argsL := [(.long (92 : Int64))]) (rest := [(.ref w_CHOWN)]) (lenOf pd_2 rfl) rfl (by show 2 * 0 + _ ≤ _; exact Nat.le_of_eq rfl) (hb hby at_28) (fun _ _ => ⟨rfl, e89, (by decide : 1 + 0 ≤ _), (by decide : 14 + 0 ≤ _)⟩)
        dsimp only [Pt.U, Pt.locs, Pt.cells, Pt.slots] at X91 l91 y91 z91 st91 hQ91
        subst l91 y91 z91
        obtain ⟨h91, e91⟩ : ∃ z, T91.heap = z := ⟨_, rfl⟩
        rw [e91] at hQ91
        obtain ⟨rr91, rfl, hs91, N91q, hh91⟩ := hQ91
        have N93 := Fr.app N90 N91q
        have e91' : T91.heap = h89 := e91.trans hh91
        rcases hs91 with ⟨rfl, hq91_0_0⟩ | ⟨rfl, hq91_1_0, hq91_1_1⟩ | ⟨rfl, hq91_2_0, hq91_2_1, hq91_2_2⟩ | ⟨rfl, hq91_3_0, hq91_3_1, hq91_3_2, hq91_3_3⟩ | ⟨rfl, hq91_4_0, hq91_4_1, hq91_4_2, hq91_4_3, hq91_4_4⟩ | ⟨rfl, hq91_5_0, hq91_5_1, hq91_5_2, hq91_5_3, hq91_5_4, hq91_5_5⟩ | ⟨rfl, hq91_6_0, hq91_6_1, hq91_6_2, hq91_6_3, hq91_6_4, hq91_6_5, hq91_6_6⟩ | ⟨rfl, hq91_7_0, hq91_7_1, hq91_7_2, hq91_7_3, hq91_7_4, hq91_7_5, hq91_7_6, hq91_7_7⟩ | ⟨rfl, hq91_8_0, hq91_8_1, hq91_8_2, hq91_8_3, hq91_8_4, hq91_8_5, hq91_8_6, hq91_8_7, hq91_8_8⟩ | ⟨rfl, hq91_9_0, hq91_9_1, hq91_9_2, hq91_9_3, hq91_9_4, hq91_9_5, hq91_9_6, hq91_9_7, hq91_9_8, hq91_9_9⟩ | ⟨rfl, hq91_10_0, hq91_10_1, hq91_10_2, hq91_10_3, hq91_10_4, hq91_10_5, hq91_10_6, hq91_10_7, hq91_10_8, hq91_10_9, hq91_10_10⟩ | ⟨rfl, hq91_11_0, hq91_11_1, hq91_11_2, hq91_11_3, hq91_11_4, hq91_11_5, hq91_11_6, hq91_11_7, hq91_11_8, hq91_11_9, hq91_11_10, hq91_11_11⟩ | ⟨rfl, hq91_12_0, hq91_12_1, hq91_12_2, hq91_12_3, hq91_12_4, hq91_12_5, hq91_12_6, hq91_12_7, hq91_12_8, hq91_12_9, hq91_12_10, hq91_12_11, hq91_12_12⟩ | ⟨rfl, hq91_13_0, hq91_13_1, hq91_13_2, hq91_13_3, hq91_13_4, hq91_13_5, hq91_13_6, hq91_13_7, hq91_13_8, hq91_13_9, hq91_13_10, hq91_13_11, hq91_13_12, hq91_13_13⟩ | ⟨rfl, hq91_14_0, hq91_14_1, hq91_14_2, hq91_14_3, hq91_14_4, hq91_14_5, hq91_14_6, hq91_14_7, hq91_14_8, hq91_14_9, hq91_14_10, hq91_14_11, hq91_14_12, hq91_14_13⟩
        · exact absurd hq91_0_0 (by decide : ¬ ((92 : Int64) = (2 : Int64)))
        · exact absurd hq91_1_1 (by decide : ¬ ((92 : Int64) = (85 : Int64)))
        · exact absurd hq91_2_2 (by decide : ¬ ((92 : Int64) = (257 : Int64)))
        · exact absurd hq91_3_3 (by decide : ¬ ((92 : Int64) = (82 : Int64)))
        · exact absurd hq91_4_4 (by decide : ¬ ((92 : Int64) = (264 : Int64)))
        · exact absurd hq91_5_5 (by decide : ¬ ((92 : Int64) = (316 : Int64)))
        · exact absurd hq91_6_6 (by decide : ¬ ((92 : Int64) = (87 : Int64)))
        · exact absurd hq91_7_7 (by decide : ¬ ((92 : Int64) = (263 : Int64)))
        · exact absurd hq91_8_8 (by decide : ¬ ((92 : Int64) = (84 : Int64)))
        · exact absurd hq91_9_9 (by decide : ¬ ((92 : Int64) = (90 : Int64)))
        · exact absurd hq91_10_10 (by decide : ¬ ((92 : Int64) = (91 : Int64)))
        · exact absurd hq91_11_11 (by decide : ¬ ((92 : Int64) = (268 : Int64)))
        · have pre94 : ∀ t, Steps p.tables e below (T91.setTop (mkF m 39 #[.val (.long q0_), .second, .val (.int p1_), .val (.int (p1_ &&& (31 : Int32))), .val (.long (92 : Int64)), .second] [(.int (1 : Int32))])) t → Steps p.tables e below (s₁.setTop (entryFrame m #[(.long q0_), (.int p1_)] maxLocals)) t := by
            intro t kt
            refine pre1 t ?_
            show Steps p.tables e below (s₁.setTop (mkF m 8 #[.val (.long q0_), .second, .val (.int p1_), .val (.int (p1_ &&& (31 : Int32))), .unset, .unset] [(.int (14 : Int32)), (.int (p1_ &&& (31 : Int32)))])) _
            refine XS.icmpNo X0.here hx rfl (hb hby at_8) rfl (tlt hc2).2.1 ?_
            show Steps p.tables e below (s₁.setTop (mkF m 11 #[.val (.long q0_), .second, .val (.int p1_), .val (.int (p1_ &&& (31 : Int32))), .unset, .unset] [])) _
            refine XS.iloadN X0.here hx rfl (hb hby at_11) rfl ?_
            show Steps p.tables e below (s₁.setTop (mkF m 12 #[.val (.long q0_), .second, .val (.int p1_), .val (.int (p1_ &&& (31 : Int32))), .unset, .unset] [(.int (p1_ &&& (31 : Int32)))])) _
            refine st3 _ ?_
            show Steps p.tables e below (T3.setTop (mkF m 15 #[.val (.long q0_), .second, .val (.int p1_), .val (.int (p1_ &&& (31 : Int32))), .unset, .unset] [(.long (92 : Int64))])) _
            refine XS.goto X3.here hx rfl (pc0 := 15) (pc' := 19) rfl (hb hby at_15) (by decide) (by decide) ?_
            show Steps p.tables e below (T3.setTop (mkF m 19 #[.val (.long q0_), .second, .val (.int p1_), .val (.int (p1_ &&& (31 : Int32))), .unset, .unset] [(.long (92 : Int64))])) _
            refine XS.lstore X3.here hx rfl (hb hby at_19) rfl (l' := #[.val (.long q0_), .second, .val (.int p1_), .val (.int (p1_ &&& (31 : Int32))), .val (.long (92 : Int64)), .second]) rfl ?_
            show Steps p.tables e below (T3.setTop (mkF m 21 #[.val (.long q0_), .second, .val (.int p1_), .val (.int (p1_ &&& (31 : Int32))), .val (.long (92 : Int64)), .second] [])) _
            refine XS.lload X3.here hx rfl (hb hby at_21) rfl ?_
            show Steps p.tables e below (T3.setTop (mkF m 23 #[.val (.long q0_), .second, .val (.int p1_), .val (.int (p1_ &&& (31 : Int32))), .val (.long (92 : Int64)), .second] [(.long (92 : Int64))])) _
            refine st89 _ ?_
            show Steps p.tables e below (T89.setTop (mkF m 26 #[.val (.long q0_), .second, .val (.int p1_), .val (.int (p1_ &&& (31 : Int32))), .val (.long (92 : Int64)), .second] [(.ref w_CHOWN)])) _
            refine XS.lload X89.here hx rfl (hb hby at_26) rfl ?_
            show Steps p.tables e below (T89.setTop (mkF m 28 #[.val (.long q0_), .second, .val (.int p1_), .val (.int (p1_ &&& (31 : Int32))), .val (.long (92 : Int64)), .second] [(.long (92 : Int64)), (.ref w_CHOWN)])) _
            refine st91 _ ?_
            show Steps p.tables e below (T91.setTop (mkF m 31 #[.val (.long q0_), .second, .val (.int p1_), .val (.int (p1_ &&& (31 : Int32))), .val (.long (92 : Int64)), .second] [(.ref w_CHOWN), (.ref w_CHOWN)])) _
            refine Jvm.RoadKit.acmp (g := (mkF m 31 #[.val (.long q0_), .second, .val (.int p1_), .val (.int (p1_ &&& (31 : Int32))), .val (.long (92 : Int64)), .second] [(.ref w_CHOWN), (.ref w_CHOWN)])) X91 hx rfl rfl rfl (pc0 := 31) (pc' := 34) (same := true) rfl (hb hby at_31) rfl (decide_eq_true rfl) (by decide) (by decide) ?_
            show Steps p.tables e below (T91.setTop (mkF m 34 #[.val (.long q0_), .second, .val (.int p1_), .val (.int (p1_ &&& (31 : Int32))), .val (.long (92 : Int64)), .second] [])) _
            refine XS.iconst X91.here hx rfl (hb hby at_34) ?_
            show Steps p.tables e below (T91.setTop (mkF m 35 #[.val (.long q0_), .second, .val (.int p1_), .val (.int (p1_ &&& (31 : Int32))), .val (.long (92 : Int64)), .second] [(.int (1 : Int32))])) _
            refine XS.goto X91.here hx rfl (pc0 := 35) (pc' := 39) rfl (hb hby at_35) (by decide) (by decide) ?_
            exact kt
          obtain ⟨fs, hr, hrun, hended, hW, hsame⟩ := X91.leave (v := some (.int (1 : Int32))) (fun h => by rw [Bd.returns] at h; cases h)
          refine ⟨_, _, pre94 _ (retN X91 hx (t := .boolean) Bd.returns (by simp) (hb hby at_39) hr), hrun, hended, _, _, rfl, ?_, ⟨_, rfl⟩, hW, hsame.mono (by decide) (by decide)⟩
          show QLaw Z q0_ p1_ w_OPEN w_CREAT w_OPENAT w_RENAME w_RENAMEAT w_RENAMEAT2 w_UNLINK w_UNLINKAT w_RMDIR w_CHMOD w_FCHMOD w_FCHMODAT w_CHOWN w_FCHOWNAT w__VALUES k_ h0 n0 _ T91.heap _
          rw [e91']
          exact ⟨rfl, N93⟩
        · exact absurd hq91_13_13 (by decide : ¬ ((92 : Int64) = (260 : Int64)))
        · exact absurd (by decide : (92 : Int64) = (92 : Int64)) hq91_14_12
      · exact absurd hq89_13_13 (by decide : ¬ ((260 : Int64) = (92 : Int64)))
      · exact absurd (by decide : (92 : Int64) = (92 : Int64)) hq89_14_12
    · obtain ⟨_, _, ⟨T96, L96, k96, n96⟩, -, X96, ⟨Lc96, hQ96, l96, y96, z96⟩, st96⟩ := Jvm.LawKit.callS X3 hx (y := (⟨"com/example/aeacus/aeacus/audit/Syscall", "of", "(J)Lcom/example/aeacus/aeacus/audit/Syscall;"⟩ : MethodName)) hown (mvT hZ (hw _ (List.mem_of_getElem? (i := 5) rfl))) (mvT hZ (hw _ (List.mem_of_getElem? (i := 6) rfl))) (mvT hZ (hw _ (List.mem_of_getElem? (i := 7) rfl))) (mvT hZ (hw _ (List.mem_of_getElem? (i := 8) rfl))) (by decide) (backOf (W := 0) (rmOf l Z a0 hw [] (260 : Int64) w_OPEN w_CREAT w_OPENAT w_RENAME w_RENAMEAT w_RENAMEAT2 w_UNLINK w_UNLINKAT w_RMDIR w_CHMOD w_FCHMOD w_FCHMODAT w_CHOWN w_FCHOWNAT w__VALUES k_ h0 n0 O0 P0 P1 P2 P3 P4 P5 P6 P7 P8 P9 P10 P11 P12 P13 P14 P15 P16 P17 P18 P19 P20 P21 P22 P23 P24 P25 P26 P27 P28 P29 P30 P31 P32 P33 P34 P35 P36 P37 P38 P39 P40 P41 P42 P43 P44) hZ (hw _ (List.mem_of_getElem? (i := 8) rfl)) (hw _ (List.mem_of_getElem? (i := 7) rfl)) (by decide) (by decide)) (g := (mkF m 23 #[.val (.long q0_), .second, .val (.int p1_), .val (.int (p1_ &&& (31 : Int32))), .val (.long (260 : Int64)), .second] [(.long (260 : Int64))])) rfl (by rw [hml]; rfl) (argsL := [(.long (260 : Int64))]) (rest := []) (lenOf pd_2 rfl) rfl (by show 2 * 0 + _ ≤ _; exact Nat.le_of_eq rfl) (hb hby at_23) (fun _ _ => ⟨rfl, e3', (by decide : 0 + 1 ≤ _), (by decide : 0 + 14 ≤ _)⟩)
      dsimp only [Pt.U, Pt.locs, Pt.cells, Pt.slots] at X96 l96 y96 z96 st96 hQ96
      subst l96 y96 z96
      obtain ⟨h96, e96⟩ : ∃ z, T96.heap = z := ⟨_, rfl⟩
      rw [e96] at hQ96
      obtain ⟨rr96, rfl, hs96, N96q, K96⟩ := hQ96
      have N97 := Fr.app N4 N96q
      rcases hs96 with ⟨rfl, hq96_0_0⟩ | ⟨rfl, hq96_1_0, hq96_1_1⟩ | ⟨rfl, hq96_2_0, hq96_2_1, hq96_2_2⟩ | ⟨rfl, hq96_3_0, hq96_3_1, hq96_3_2, hq96_3_3⟩ | ⟨rfl, hq96_4_0, hq96_4_1, hq96_4_2, hq96_4_3, hq96_4_4⟩ | ⟨rfl, hq96_5_0, hq96_5_1, hq96_5_2, hq96_5_3, hq96_5_4, hq96_5_5⟩ | ⟨rfl, hq96_6_0, hq96_6_1, hq96_6_2, hq96_6_3, hq96_6_4, hq96_6_5, hq96_6_6⟩ | ⟨rfl, hq96_7_0, hq96_7_1, hq96_7_2, hq96_7_3, hq96_7_4, hq96_7_5, hq96_7_6, hq96_7_7⟩ | ⟨rfl, hq96_8_0, hq96_8_1, hq96_8_2, hq96_8_3, hq96_8_4, hq96_8_5, hq96_8_6, hq96_8_7, hq96_8_8⟩ | ⟨rfl, hq96_9_0, hq96_9_1, hq96_9_2, hq96_9_3, hq96_9_4, hq96_9_5, hq96_9_6, hq96_9_7, hq96_9_8, hq96_9_9⟩ | ⟨rfl, hq96_10_0, hq96_10_1, hq96_10_2, hq96_10_3, hq96_10_4, hq96_10_5, hq96_10_6, hq96_10_7, hq96_10_8, hq96_10_9, hq96_10_10⟩ | ⟨rfl, hq96_11_0, hq96_11_1, hq96_11_2, hq96_11_3, hq96_11_4, hq96_11_5, hq96_11_6, hq96_11_7, hq96_11_8, hq96_11_9, hq96_11_10, hq96_11_11⟩ | ⟨rfl, hq96_12_0, hq96_12_1, hq96_12_2, hq96_12_3, hq96_12_4, hq96_12_5, hq96_12_6, hq96_12_7, hq96_12_8, hq96_12_9, hq96_12_10, hq96_12_11, hq96_12_12⟩ | ⟨rfl, hq96_13_0, hq96_13_1, hq96_13_2, hq96_13_3, hq96_13_4, hq96_13_5, hq96_13_6, hq96_13_7, hq96_13_8, hq96_13_9, hq96_13_10, hq96_13_11, hq96_13_12, hq96_13_13⟩ | ⟨rfl, hq96_14_0, hq96_14_1, hq96_14_2, hq96_14_3, hq96_14_4, hq96_14_5, hq96_14_6, hq96_14_7, hq96_14_8, hq96_14_9, hq96_14_10, hq96_14_11, hq96_14_12, hq96_14_13⟩
      · exact absurd hq96_0_0 (by decide : ¬ ((2 : Int64) = (260 : Int64)))
      · exact absurd hq96_1_1 (by decide : ¬ ((85 : Int64) = (260 : Int64)))
      · exact absurd hq96_2_2 (by decide : ¬ ((257 : Int64) = (260 : Int64)))
      · exact absurd hq96_3_3 (by decide : ¬ ((82 : Int64) = (260 : Int64)))
      · exact absurd hq96_4_4 (by decide : ¬ ((264 : Int64) = (260 : Int64)))
      · exact absurd hq96_5_5 (by decide : ¬ ((316 : Int64) = (260 : Int64)))
      · exact absurd hq96_6_6 (by decide : ¬ ((87 : Int64) = (260 : Int64)))
      · exact absurd hq96_7_7 (by decide : ¬ ((263 : Int64) = (260 : Int64)))
      · exact absurd hq96_8_8 (by decide : ¬ ((84 : Int64) = (260 : Int64)))
      · exact absurd hq96_9_9 (by decide : ¬ ((90 : Int64) = (260 : Int64)))
      · exact absurd hq96_10_10 (by decide : ¬ ((91 : Int64) = (260 : Int64)))
      · exact absurd hq96_11_11 (by decide : ¬ ((268 : Int64) = (260 : Int64)))
      · exact absurd hq96_12_12 (by decide : ¬ ((92 : Int64) = (260 : Int64)))
      · have f99 : Old Z n0 h96 := O0.keep K96 all0
        obtain ⟨_, _, ⟨T98, L98, k98, n98⟩, -, X98, ⟨Lc98, hQ98, l98, y98, z98⟩, st98⟩ := Jvm.LawKit.callS X96 hx (y := (⟨"com/example/aeacus/aeacus/audit/SyscallOfPinLaw", "expected", "(J)Lcom/example/aeacus/aeacus/audit/Syscall;"⟩ : MethodName)) hown (mvT hZ (hw _ (List.mem_of_getElem? (i := 40) rfl))) (mvT hZ (hw _ (List.mem_of_getElem? (i := 41) rfl))) (mvT hZ (hw _ (List.mem_of_getElem? (i := 2) rfl))) (mvT hZ (hw _ (List.mem_of_getElem? (i := 42) rfl))) (by decide) (backOf (W := 1) (rmExp l Z a0 hw [] (260 : Int64) w_OPEN w_CREAT w_OPENAT w_RENAME w_RENAMEAT w_RENAMEAT2 w_UNLINK w_UNLINKAT w_RMDIR w_CHMOD w_FCHMOD w_FCHMODAT w_CHOWN w_FCHOWNAT w__VALUES k_ h96 n0 f99 P0 P1 P2 P3 P4 P5 P6 P7 P8 P9 P10 P11 P12 P13 P14 P15 P16 P17 P18 P19 P20 P21 P22 P23 P24 P25 P26 P27 P28 P29 P30 P31 P32 P33 P34 P35 P36 P37 P38 P39 P40 P41 P42 P43 P44) hZ (hw _ (List.mem_of_getElem? (i := 42) rfl)) (hw _ (List.mem_of_getElem? (i := 2) rfl)) (by decide) (by decide)) (g := (mkF m 28 #[.val (.long q0_), .second, .val (.int p1_), .val (.int (p1_ &&& (31 : Int32))), .val (.long (260 : Int64)), .second] [(.long (260 : Int64)), (.ref w_FCHOWNAT)])) rfl (by rw [hml]; rfl) (argsL := [(.long (260 : Int64))]) (rest := [(.ref w_FCHOWNAT)]) (lenOf pd_2 rfl) rfl (by show 2 * 0 + _ ≤ _; exact Nat.le_of_eq rfl) (hb hby at_28) (fun _ _ => ⟨rfl, e96, (by decide : 1 + 0 ≤ _), (by decide : 14 + 0 ≤ _)⟩)
        dsimp only [Pt.U, Pt.locs, Pt.cells, Pt.slots] at X98 l98 y98 z98 st98 hQ98
        subst l98 y98 z98
        obtain ⟨h98, e98⟩ : ∃ z, T98.heap = z := ⟨_, rfl⟩
        rw [e98] at hQ98
        obtain ⟨rr98, rfl, hs98, N98q, hh98⟩ := hQ98
        have N100 := Fr.app N97 N98q
        have e98' : T98.heap = h96 := e98.trans hh98
        rcases hs98 with ⟨rfl, hq98_0_0⟩ | ⟨rfl, hq98_1_0, hq98_1_1⟩ | ⟨rfl, hq98_2_0, hq98_2_1, hq98_2_2⟩ | ⟨rfl, hq98_3_0, hq98_3_1, hq98_3_2, hq98_3_3⟩ | ⟨rfl, hq98_4_0, hq98_4_1, hq98_4_2, hq98_4_3, hq98_4_4⟩ | ⟨rfl, hq98_5_0, hq98_5_1, hq98_5_2, hq98_5_3, hq98_5_4, hq98_5_5⟩ | ⟨rfl, hq98_6_0, hq98_6_1, hq98_6_2, hq98_6_3, hq98_6_4, hq98_6_5, hq98_6_6⟩ | ⟨rfl, hq98_7_0, hq98_7_1, hq98_7_2, hq98_7_3, hq98_7_4, hq98_7_5, hq98_7_6, hq98_7_7⟩ | ⟨rfl, hq98_8_0, hq98_8_1, hq98_8_2, hq98_8_3, hq98_8_4, hq98_8_5, hq98_8_6, hq98_8_7, hq98_8_8⟩ | ⟨rfl, hq98_9_0, hq98_9_1, hq98_9_2, hq98_9_3, hq98_9_4, hq98_9_5, hq98_9_6, hq98_9_7, hq98_9_8, hq98_9_9⟩ | ⟨rfl, hq98_10_0, hq98_10_1, hq98_10_2, hq98_10_3, hq98_10_4, hq98_10_5, hq98_10_6, hq98_10_7, hq98_10_8, hq98_10_9, hq98_10_10⟩ | ⟨rfl, hq98_11_0, hq98_11_1, hq98_11_2, hq98_11_3, hq98_11_4, hq98_11_5, hq98_11_6, hq98_11_7, hq98_11_8, hq98_11_9, hq98_11_10, hq98_11_11⟩ | ⟨rfl, hq98_12_0, hq98_12_1, hq98_12_2, hq98_12_3, hq98_12_4, hq98_12_5, hq98_12_6, hq98_12_7, hq98_12_8, hq98_12_9, hq98_12_10, hq98_12_11, hq98_12_12⟩ | ⟨rfl, hq98_13_0, hq98_13_1, hq98_13_2, hq98_13_3, hq98_13_4, hq98_13_5, hq98_13_6, hq98_13_7, hq98_13_8, hq98_13_9, hq98_13_10, hq98_13_11, hq98_13_12, hq98_13_13⟩ | ⟨rfl, hq98_14_0, hq98_14_1, hq98_14_2, hq98_14_3, hq98_14_4, hq98_14_5, hq98_14_6, hq98_14_7, hq98_14_8, hq98_14_9, hq98_14_10, hq98_14_11, hq98_14_12, hq98_14_13⟩
        · exact absurd hq98_0_0 (by decide : ¬ ((260 : Int64) = (2 : Int64)))
        · exact absurd hq98_1_1 (by decide : ¬ ((260 : Int64) = (85 : Int64)))
        · exact absurd hq98_2_2 (by decide : ¬ ((260 : Int64) = (257 : Int64)))
        · exact absurd hq98_3_3 (by decide : ¬ ((260 : Int64) = (82 : Int64)))
        · exact absurd hq98_4_4 (by decide : ¬ ((260 : Int64) = (264 : Int64)))
        · exact absurd hq98_5_5 (by decide : ¬ ((260 : Int64) = (316 : Int64)))
        · exact absurd hq98_6_6 (by decide : ¬ ((260 : Int64) = (87 : Int64)))
        · exact absurd hq98_7_7 (by decide : ¬ ((260 : Int64) = (263 : Int64)))
        · exact absurd hq98_8_8 (by decide : ¬ ((260 : Int64) = (84 : Int64)))
        · exact absurd hq98_9_9 (by decide : ¬ ((260 : Int64) = (90 : Int64)))
        · exact absurd hq98_10_10 (by decide : ¬ ((260 : Int64) = (91 : Int64)))
        · exact absurd hq98_11_11 (by decide : ¬ ((260 : Int64) = (268 : Int64)))
        · exact absurd hq98_12_12 (by decide : ¬ ((260 : Int64) = (92 : Int64)))
        · have pre101 : ∀ t, Steps p.tables e below (T98.setTop (mkF m 39 #[.val (.long q0_), .second, .val (.int p1_), .val (.int (p1_ &&& (31 : Int32))), .val (.long (260 : Int64)), .second] [(.int (1 : Int32))])) t → Steps p.tables e below (s₁.setTop (entryFrame m #[(.long q0_), (.int p1_)] maxLocals)) t := by
            intro t kt
            refine pre1 t ?_
            show Steps p.tables e below (s₁.setTop (mkF m 8 #[.val (.long q0_), .second, .val (.int p1_), .val (.int (p1_ &&& (31 : Int32))), .unset, .unset] [(.int (14 : Int32)), (.int (p1_ &&& (31 : Int32)))])) _
            refine XS.icmpNo X0.here hx rfl (hb hby at_8) rfl (tlt hc2).2.1 ?_
            show Steps p.tables e below (s₁.setTop (mkF m 11 #[.val (.long q0_), .second, .val (.int p1_), .val (.int (p1_ &&& (31 : Int32))), .unset, .unset] [])) _
            refine XS.iloadN X0.here hx rfl (hb hby at_11) rfl ?_
            show Steps p.tables e below (s₁.setTop (mkF m 12 #[.val (.long q0_), .second, .val (.int p1_), .val (.int (p1_ &&& (31 : Int32))), .unset, .unset] [(.int (p1_ &&& (31 : Int32)))])) _
            refine st3 _ ?_
            show Steps p.tables e below (T3.setTop (mkF m 15 #[.val (.long q0_), .second, .val (.int p1_), .val (.int (p1_ &&& (31 : Int32))), .unset, .unset] [(.long (260 : Int64))])) _
            refine XS.goto X3.here hx rfl (pc0 := 15) (pc' := 19) rfl (hb hby at_15) (by decide) (by decide) ?_
            show Steps p.tables e below (T3.setTop (mkF m 19 #[.val (.long q0_), .second, .val (.int p1_), .val (.int (p1_ &&& (31 : Int32))), .unset, .unset] [(.long (260 : Int64))])) _
            refine XS.lstore X3.here hx rfl (hb hby at_19) rfl (l' := #[.val (.long q0_), .second, .val (.int p1_), .val (.int (p1_ &&& (31 : Int32))), .val (.long (260 : Int64)), .second]) rfl ?_
            show Steps p.tables e below (T3.setTop (mkF m 21 #[.val (.long q0_), .second, .val (.int p1_), .val (.int (p1_ &&& (31 : Int32))), .val (.long (260 : Int64)), .second] [])) _
            refine XS.lload X3.here hx rfl (hb hby at_21) rfl ?_
            show Steps p.tables e below (T3.setTop (mkF m 23 #[.val (.long q0_), .second, .val (.int p1_), .val (.int (p1_ &&& (31 : Int32))), .val (.long (260 : Int64)), .second] [(.long (260 : Int64))])) _
            refine st96 _ ?_
            show Steps p.tables e below (T96.setTop (mkF m 26 #[.val (.long q0_), .second, .val (.int p1_), .val (.int (p1_ &&& (31 : Int32))), .val (.long (260 : Int64)), .second] [(.ref w_FCHOWNAT)])) _
            refine XS.lload X96.here hx rfl (hb hby at_26) rfl ?_
            show Steps p.tables e below (T96.setTop (mkF m 28 #[.val (.long q0_), .second, .val (.int p1_), .val (.int (p1_ &&& (31 : Int32))), .val (.long (260 : Int64)), .second] [(.long (260 : Int64)), (.ref w_FCHOWNAT)])) _
            refine st98 _ ?_
            show Steps p.tables e below (T98.setTop (mkF m 31 #[.val (.long q0_), .second, .val (.int p1_), .val (.int (p1_ &&& (31 : Int32))), .val (.long (260 : Int64)), .second] [(.ref w_FCHOWNAT), (.ref w_FCHOWNAT)])) _
            refine Jvm.RoadKit.acmp (g := (mkF m 31 #[.val (.long q0_), .second, .val (.int p1_), .val (.int (p1_ &&& (31 : Int32))), .val (.long (260 : Int64)), .second] [(.ref w_FCHOWNAT), (.ref w_FCHOWNAT)])) X98 hx rfl rfl rfl (pc0 := 31) (pc' := 34) (same := true) rfl (hb hby at_31) rfl (decide_eq_true rfl) (by decide) (by decide) ?_
            show Steps p.tables e below (T98.setTop (mkF m 34 #[.val (.long q0_), .second, .val (.int p1_), .val (.int (p1_ &&& (31 : Int32))), .val (.long (260 : Int64)), .second] [])) _
            refine XS.iconst X98.here hx rfl (hb hby at_34) ?_
            show Steps p.tables e below (T98.setTop (mkF m 35 #[.val (.long q0_), .second, .val (.int p1_), .val (.int (p1_ &&& (31 : Int32))), .val (.long (260 : Int64)), .second] [(.int (1 : Int32))])) _
            refine XS.goto X98.here hx rfl (pc0 := 35) (pc' := 39) rfl (hb hby at_35) (by decide) (by decide) ?_
            exact kt
          obtain ⟨fs, hr, hrun, hended, hW, hsame⟩ := X98.leave (v := some (.int (1 : Int32))) (fun h => by rw [Bd.returns] at h; cases h)
          refine ⟨_, _, pre101 _ (retN X98 hx (t := .boolean) Bd.returns (by simp) (hb hby at_39) hr), hrun, hended, _, _, rfl, ?_, ⟨_, rfl⟩, hW, hsame.mono (by decide) (by decide)⟩
          show QLaw Z q0_ p1_ w_OPEN w_CREAT w_OPENAT w_RENAME w_RENAMEAT w_RENAMEAT2 w_UNLINK w_UNLINKAT w_RMDIR w_CHMOD w_FCHMOD w_FCHMODAT w_CHOWN w_FCHOWNAT w__VALUES k_ h0 n0 _ T98.heap _
          rw [e98']
          exact ⟨rfl, N100⟩
        · exact absurd (by decide : (260 : Int64) = (260 : Int64)) hq98_14_13
      · exact absurd (by decide : (260 : Int64) = (260 : Int64)) hq96_14_13
  · obtain ⟨_, _, ⟨T103, L103, k103, n103⟩, -, X103, ⟨Lc103, hQ103, l103, y103, z103⟩, st103⟩ := Jvm.LawKit.callS X0 hx (y := (⟨"com/example/aeacus/aeacus/audit/Syscall", "of", "(J)Lcom/example/aeacus/aeacus/audit/Syscall;"⟩ : MethodName)) hown (mvT hZ (hw _ (List.mem_of_getElem? (i := 5) rfl))) (mvT hZ (hw _ (List.mem_of_getElem? (i := 6) rfl))) (mvT hZ (hw _ (List.mem_of_getElem? (i := 7) rfl))) (mvT hZ (hw _ (List.mem_of_getElem? (i := 8) rfl))) (by decide) (backOf (W := 0) (rmOf l Z a0 hw [] q0_ w_OPEN w_CREAT w_OPENAT w_RENAME w_RENAMEAT w_RENAMEAT2 w_UNLINK w_UNLINKAT w_RMDIR w_CHMOD w_FCHMOD w_FCHMODAT w_CHOWN w_FCHOWNAT w__VALUES k_ h0 n0 O0 P0 P1 P2 P3 P4 P5 P6 P7 P8 P9 P10 P11 P12 P13 P14 P15 P16 P17 P18 P19 P20 P21 P22 P23 P24 P25 P26 P27 P28 P29 P30 P31 P32 P33 P34 P35 P36 P37 P38 P39 P40 P41 P42 P43 P44) hZ (hw _ (List.mem_of_getElem? (i := 8) rfl)) (hw _ (List.mem_of_getElem? (i := 7) rfl)) (by decide) (by decide)) (g := (mkF m 23 #[.val (.long q0_), .second, .val (.int p1_), .val (.int (p1_ &&& (31 : Int32))), .val (.long q0_), .second] [(.long q0_)])) rfl (by rw [hml]; rfl) (argsL := [(.long q0_)]) (rest := []) (lenOf pd_2 rfl) rfl (by show 2 * 0 + _ ≤ _; exact Nat.le_of_eq rfl) (hb hby at_23) (fun _ _ => ⟨rfl, e0, (by decide : 0 + 1 ≤ _), (by decide : 0 + 14 ≤ _)⟩)
    dsimp only [Pt.U, Pt.locs, Pt.cells, Pt.slots] at X103 l103 y103 z103 st103 hQ103
    subst l103 y103 z103
    obtain ⟨h103, e103⟩ : ∃ z, T103.heap = z := ⟨_, rfl⟩
    rw [e103] at hQ103
    obtain ⟨rr103, rfl, hs103, N103q, K103⟩ := hQ103
    have N104 := Fr.app N0 N103q
    rcases hs103 with ⟨rfl, hq103_0_0⟩ | ⟨rfl, hq103_1_0, hq103_1_1⟩ | ⟨rfl, hq103_2_0, hq103_2_1, hq103_2_2⟩ | ⟨rfl, hq103_3_0, hq103_3_1, hq103_3_2, hq103_3_3⟩ | ⟨rfl, hq103_4_0, hq103_4_1, hq103_4_2, hq103_4_3, hq103_4_4⟩ | ⟨rfl, hq103_5_0, hq103_5_1, hq103_5_2, hq103_5_3, hq103_5_4, hq103_5_5⟩ | ⟨rfl, hq103_6_0, hq103_6_1, hq103_6_2, hq103_6_3, hq103_6_4, hq103_6_5, hq103_6_6⟩ | ⟨rfl, hq103_7_0, hq103_7_1, hq103_7_2, hq103_7_3, hq103_7_4, hq103_7_5, hq103_7_6, hq103_7_7⟩ | ⟨rfl, hq103_8_0, hq103_8_1, hq103_8_2, hq103_8_3, hq103_8_4, hq103_8_5, hq103_8_6, hq103_8_7, hq103_8_8⟩ | ⟨rfl, hq103_9_0, hq103_9_1, hq103_9_2, hq103_9_3, hq103_9_4, hq103_9_5, hq103_9_6, hq103_9_7, hq103_9_8, hq103_9_9⟩ | ⟨rfl, hq103_10_0, hq103_10_1, hq103_10_2, hq103_10_3, hq103_10_4, hq103_10_5, hq103_10_6, hq103_10_7, hq103_10_8, hq103_10_9, hq103_10_10⟩ | ⟨rfl, hq103_11_0, hq103_11_1, hq103_11_2, hq103_11_3, hq103_11_4, hq103_11_5, hq103_11_6, hq103_11_7, hq103_11_8, hq103_11_9, hq103_11_10, hq103_11_11⟩ | ⟨rfl, hq103_12_0, hq103_12_1, hq103_12_2, hq103_12_3, hq103_12_4, hq103_12_5, hq103_12_6, hq103_12_7, hq103_12_8, hq103_12_9, hq103_12_10, hq103_12_11, hq103_12_12⟩ | ⟨rfl, hq103_13_0, hq103_13_1, hq103_13_2, hq103_13_3, hq103_13_4, hq103_13_5, hq103_13_6, hq103_13_7, hq103_13_8, hq103_13_9, hq103_13_10, hq103_13_11, hq103_13_12, hq103_13_13⟩ | ⟨rfl, hq103_14_0, hq103_14_1, hq103_14_2, hq103_14_3, hq103_14_4, hq103_14_5, hq103_14_6, hq103_14_7, hq103_14_8, hq103_14_9, hq103_14_10, hq103_14_11, hq103_14_12, hq103_14_13⟩
    · have f106 : Old Z n0 h103 := O0.keep K103 all0
      obtain ⟨_, _, ⟨T105, L105, k105, n105⟩, -, X105, ⟨Lc105, hQ105, l105, y105, z105⟩, st105⟩ := Jvm.LawKit.callS X103 hx (y := (⟨"com/example/aeacus/aeacus/audit/SyscallOfPinLaw", "expected", "(J)Lcom/example/aeacus/aeacus/audit/Syscall;"⟩ : MethodName)) hown (mvT hZ (hw _ (List.mem_of_getElem? (i := 40) rfl))) (mvT hZ (hw _ (List.mem_of_getElem? (i := 41) rfl))) (mvT hZ (hw _ (List.mem_of_getElem? (i := 2) rfl))) (mvT hZ (hw _ (List.mem_of_getElem? (i := 42) rfl))) (by decide) (backOf (W := 1) (rmExp l Z a0 hw [] q0_ w_OPEN w_CREAT w_OPENAT w_RENAME w_RENAMEAT w_RENAMEAT2 w_UNLINK w_UNLINKAT w_RMDIR w_CHMOD w_FCHMOD w_FCHMODAT w_CHOWN w_FCHOWNAT w__VALUES k_ h103 n0 f106 P0 P1 P2 P3 P4 P5 P6 P7 P8 P9 P10 P11 P12 P13 P14 P15 P16 P17 P18 P19 P20 P21 P22 P23 P24 P25 P26 P27 P28 P29 P30 P31 P32 P33 P34 P35 P36 P37 P38 P39 P40 P41 P42 P43 P44) hZ (hw _ (List.mem_of_getElem? (i := 42) rfl)) (hw _ (List.mem_of_getElem? (i := 2) rfl)) (by decide) (by decide)) (g := (mkF m 28 #[.val (.long q0_), .second, .val (.int p1_), .val (.int (p1_ &&& (31 : Int32))), .val (.long q0_), .second] [(.long q0_), (.ref w_OPEN)])) rfl (by rw [hml]; rfl) (argsL := [(.long q0_)]) (rest := [(.ref w_OPEN)]) (lenOf pd_2 rfl) rfl (by show 2 * 0 + _ ≤ _; exact Nat.le_of_eq rfl) (hb hby at_28) (fun _ _ => ⟨rfl, e103, (by decide : 1 + 0 ≤ _), (by decide : 14 + 0 ≤ _)⟩)
      dsimp only [Pt.U, Pt.locs, Pt.cells, Pt.slots] at X105 l105 y105 z105 st105 hQ105
      subst l105 y105 z105
      obtain ⟨h105, e105⟩ : ∃ z, T105.heap = z := ⟨_, rfl⟩
      rw [e105] at hQ105
      obtain ⟨rr105, rfl, hs105, N105q, hh105⟩ := hQ105
      have N107 := Fr.app N104 N105q
      have e105' : T105.heap = h103 := e105.trans hh105
      rcases hs105 with ⟨rfl, hq105_0_0⟩ | ⟨rfl, hq105_1_0, hq105_1_1⟩ | ⟨rfl, hq105_2_0, hq105_2_1, hq105_2_2⟩ | ⟨rfl, hq105_3_0, hq105_3_1, hq105_3_2, hq105_3_3⟩ | ⟨rfl, hq105_4_0, hq105_4_1, hq105_4_2, hq105_4_3, hq105_4_4⟩ | ⟨rfl, hq105_5_0, hq105_5_1, hq105_5_2, hq105_5_3, hq105_5_4, hq105_5_5⟩ | ⟨rfl, hq105_6_0, hq105_6_1, hq105_6_2, hq105_6_3, hq105_6_4, hq105_6_5, hq105_6_6⟩ | ⟨rfl, hq105_7_0, hq105_7_1, hq105_7_2, hq105_7_3, hq105_7_4, hq105_7_5, hq105_7_6, hq105_7_7⟩ | ⟨rfl, hq105_8_0, hq105_8_1, hq105_8_2, hq105_8_3, hq105_8_4, hq105_8_5, hq105_8_6, hq105_8_7, hq105_8_8⟩ | ⟨rfl, hq105_9_0, hq105_9_1, hq105_9_2, hq105_9_3, hq105_9_4, hq105_9_5, hq105_9_6, hq105_9_7, hq105_9_8, hq105_9_9⟩ | ⟨rfl, hq105_10_0, hq105_10_1, hq105_10_2, hq105_10_3, hq105_10_4, hq105_10_5, hq105_10_6, hq105_10_7, hq105_10_8, hq105_10_9, hq105_10_10⟩ | ⟨rfl, hq105_11_0, hq105_11_1, hq105_11_2, hq105_11_3, hq105_11_4, hq105_11_5, hq105_11_6, hq105_11_7, hq105_11_8, hq105_11_9, hq105_11_10, hq105_11_11⟩ | ⟨rfl, hq105_12_0, hq105_12_1, hq105_12_2, hq105_12_3, hq105_12_4, hq105_12_5, hq105_12_6, hq105_12_7, hq105_12_8, hq105_12_9, hq105_12_10, hq105_12_11, hq105_12_12⟩ | ⟨rfl, hq105_13_0, hq105_13_1, hq105_13_2, hq105_13_3, hq105_13_4, hq105_13_5, hq105_13_6, hq105_13_7, hq105_13_8, hq105_13_9, hq105_13_10, hq105_13_11, hq105_13_12, hq105_13_13⟩ | ⟨rfl, hq105_14_0, hq105_14_1, hq105_14_2, hq105_14_3, hq105_14_4, hq105_14_5, hq105_14_6, hq105_14_7, hq105_14_8, hq105_14_9, hq105_14_10, hq105_14_11, hq105_14_12, hq105_14_13⟩
      · have pre108 : ∀ t, Steps p.tables e below (T105.setTop (mkF m 39 #[.val (.long q0_), .second, .val (.int p1_), .val (.int (p1_ &&& (31 : Int32))), .val (.long q0_), .second] [(.int (1 : Int32))])) t → Steps p.tables e below (s₁.setTop (entryFrame m #[(.long q0_), (.int p1_)] maxLocals)) t := by
          intro t kt
          refine pre1 t ?_
          show Steps p.tables e below (s₁.setTop (mkF m 8 #[.val (.long q0_), .second, .val (.int p1_), .val (.int (p1_ &&& (31 : Int32))), .unset, .unset] [(.int (14 : Int32)), (.int (p1_ &&& (31 : Int32)))])) _
          refine XS.icmpYes X0.here hx rfl (pc0 := 8) (pc' := 18) rfl (hb hby at_8) rfl (flt hc2).2.1 (by decide) (by decide) ?_
          show Steps p.tables e below (s₁.setTop (mkF m 18 #[.val (.long q0_), .second, .val (.int p1_), .val (.int (p1_ &&& (31 : Int32))), .unset, .unset] [])) _
          refine XS.lloadN X0.here hx rfl (hb hby at_18) rfl ?_
          show Steps p.tables e below (s₁.setTop (mkF m 19 #[.val (.long q0_), .second, .val (.int p1_), .val (.int (p1_ &&& (31 : Int32))), .unset, .unset] [(.long q0_)])) _
          refine XS.lstore X0.here hx rfl (hb hby at_19) rfl (l' := #[.val (.long q0_), .second, .val (.int p1_), .val (.int (p1_ &&& (31 : Int32))), .val (.long q0_), .second]) rfl ?_
          show Steps p.tables e below (s₁.setTop (mkF m 21 #[.val (.long q0_), .second, .val (.int p1_), .val (.int (p1_ &&& (31 : Int32))), .val (.long q0_), .second] [])) _
          refine XS.lload X0.here hx rfl (hb hby at_21) rfl ?_
          show Steps p.tables e below (s₁.setTop (mkF m 23 #[.val (.long q0_), .second, .val (.int p1_), .val (.int (p1_ &&& (31 : Int32))), .val (.long q0_), .second] [(.long q0_)])) _
          refine st103 _ ?_
          show Steps p.tables e below (T103.setTop (mkF m 26 #[.val (.long q0_), .second, .val (.int p1_), .val (.int (p1_ &&& (31 : Int32))), .val (.long q0_), .second] [(.ref w_OPEN)])) _
          refine XS.lload X103.here hx rfl (hb hby at_26) rfl ?_
          show Steps p.tables e below (T103.setTop (mkF m 28 #[.val (.long q0_), .second, .val (.int p1_), .val (.int (p1_ &&& (31 : Int32))), .val (.long q0_), .second] [(.long q0_), (.ref w_OPEN)])) _
          refine st105 _ ?_
          show Steps p.tables e below (T105.setTop (mkF m 31 #[.val (.long q0_), .second, .val (.int p1_), .val (.int (p1_ &&& (31 : Int32))), .val (.long q0_), .second] [(.ref w_OPEN), (.ref w_OPEN)])) _
          refine Jvm.RoadKit.acmp (g := (mkF m 31 #[.val (.long q0_), .second, .val (.int p1_), .val (.int (p1_ &&& (31 : Int32))), .val (.long q0_), .second] [(.ref w_OPEN), (.ref w_OPEN)])) X105 hx rfl rfl rfl (pc0 := 31) (pc' := 34) (same := true) rfl (hb hby at_31) rfl (decide_eq_true rfl) (by decide) (by decide) ?_
          show Steps p.tables e below (T105.setTop (mkF m 34 #[.val (.long q0_), .second, .val (.int p1_), .val (.int (p1_ &&& (31 : Int32))), .val (.long q0_), .second] [])) _
          refine XS.iconst X105.here hx rfl (hb hby at_34) ?_
          show Steps p.tables e below (T105.setTop (mkF m 35 #[.val (.long q0_), .second, .val (.int p1_), .val (.int (p1_ &&& (31 : Int32))), .val (.long q0_), .second] [(.int (1 : Int32))])) _
          refine XS.goto X105.here hx rfl (pc0 := 35) (pc' := 39) rfl (hb hby at_35) (by decide) (by decide) ?_
          exact kt
        obtain ⟨fs, hr, hrun, hended, hW, hsame⟩ := X105.leave (v := some (.int (1 : Int32))) (fun h => by rw [Bd.returns] at h; cases h)
        refine ⟨_, _, pre108 _ (retN X105 hx (t := .boolean) Bd.returns (by simp) (hb hby at_39) hr), hrun, hended, _, _, rfl, ?_, ⟨_, rfl⟩, hW, hsame.mono (by decide) (by decide)⟩
        show QLaw Z q0_ p1_ w_OPEN w_CREAT w_OPENAT w_RENAME w_RENAMEAT w_RENAMEAT2 w_UNLINK w_UNLINKAT w_RMDIR w_CHMOD w_FCHMOD w_FCHMODAT w_CHOWN w_FCHOWNAT w__VALUES k_ h0 n0 _ T105.heap _
        rw [e105']
        exact ⟨rfl, N107⟩
      · exact absurd hq105_1_1 (by intro hz; have lt_0 : ((2 : Int64)).toInt = 2 := rfl; have lt_1 : ((85 : Int64)).toInt = 85 := rfl; simp only [Int32.lt_iff_toInt_lt, Int64.lt_iff_toInt_lt, ← Int32.toInt_inj, ← Int64.toInt_inj] at hz hq103_0_0 hq105_1_0; omega)
      · exact absurd hq105_2_2 (by intro hz; have lt_0 : ((2 : Int64)).toInt = 2 := rfl; have lt_1 : ((257 : Int64)).toInt = 257 := rfl; have lt_2 : ((85 : Int64)).toInt = 85 := rfl; simp only [Int32.lt_iff_toInt_lt, Int64.lt_iff_toInt_lt, ← Int32.toInt_inj, ← Int64.toInt_inj] at hz hq103_0_0 hq105_2_0 hq105_2_1; omega)
      · exact absurd hq105_3_3 (by intro hz; have lt_0 : ((2 : Int64)).toInt = 2 := rfl; have lt_1 : ((257 : Int64)).toInt = 257 := rfl; have lt_2 : ((82 : Int64)).toInt = 82 := rfl; have lt_3 : ((85 : Int64)).toInt = 85 := rfl; simp only [Int32.lt_iff_toInt_lt, Int64.lt_iff_toInt_lt, ← Int32.toInt_inj, ← Int64.toInt_inj] at hz hq103_0_0 hq105_3_0 hq105_3_1 hq105_3_2; omega)
      · exact absurd hq105_4_4 (by intro hz; have lt_0 : ((2 : Int64)).toInt = 2 := rfl; have lt_1 : ((257 : Int64)).toInt = 257 := rfl; have lt_2 : ((264 : Int64)).toInt = 264 := rfl; have lt_3 : ((82 : Int64)).toInt = 82 := rfl; have lt_4 : ((85 : Int64)).toInt = 85 := rfl; simp only [Int32.lt_iff_toInt_lt, Int64.lt_iff_toInt_lt, ← Int32.toInt_inj, ← Int64.toInt_inj] at hz hq103_0_0 hq105_4_0 hq105_4_1 hq105_4_2 hq105_4_3; omega)
      · exact absurd hq105_5_5 (by intro hz; have lt_0 : ((2 : Int64)).toInt = 2 := rfl; have lt_1 : ((257 : Int64)).toInt = 257 := rfl; have lt_2 : ((264 : Int64)).toInt = 264 := rfl; have lt_3 : ((316 : Int64)).toInt = 316 := rfl; have lt_4 : ((82 : Int64)).toInt = 82 := rfl; have lt_5 : ((85 : Int64)).toInt = 85 := rfl; simp only [Int32.lt_iff_toInt_lt, Int64.lt_iff_toInt_lt, ← Int32.toInt_inj, ← Int64.toInt_inj] at hz hq103_0_0 hq105_5_0 hq105_5_1 hq105_5_2 hq105_5_3 hq105_5_4; omega)
      · exact absurd hq105_6_6 (by intro hz; have lt_0 : ((2 : Int64)).toInt = 2 := rfl; have lt_1 : ((257 : Int64)).toInt = 257 := rfl; have lt_2 : ((264 : Int64)).toInt = 264 := rfl; have lt_3 : ((316 : Int64)).toInt = 316 := rfl; have lt_4 : ((82 : Int64)).toInt = 82 := rfl; have lt_5 : ((85 : Int64)).toInt = 85 := rfl; have lt_6 : ((87 : Int64)).toInt = 87 := rfl; simp only [Int32.lt_iff_toInt_lt, Int64.lt_iff_toInt_lt, ← Int32.toInt_inj, ← Int64.toInt_inj] at hz hq103_0_0 hq105_6_0 hq105_6_1 hq105_6_2 hq105_6_3 hq105_6_4 hq105_6_5; omega)
      · exact absurd hq105_7_7 (by intro hz; have lt_0 : ((2 : Int64)).toInt = 2 := rfl; have lt_1 : ((257 : Int64)).toInt = 257 := rfl; have lt_2 : ((263 : Int64)).toInt = 263 := rfl; have lt_3 : ((264 : Int64)).toInt = 264 := rfl; have lt_4 : ((316 : Int64)).toInt = 316 := rfl; have lt_5 : ((82 : Int64)).toInt = 82 := rfl; have lt_6 : ((85 : Int64)).toInt = 85 := rfl; have lt_7 : ((87 : Int64)).toInt = 87 := rfl; simp only [Int32.lt_iff_toInt_lt, Int64.lt_iff_toInt_lt, ← Int32.toInt_inj, ← Int64.toInt_inj] at hz hq103_0_0 hq105_7_0 hq105_7_1 hq105_7_2 hq105_7_3 hq105_7_4 hq105_7_5 hq105_7_6; omega)
      · exact absurd hq105_8_8 (by intro hz; have lt_0 : ((2 : Int64)).toInt = 2 := rfl; have lt_1 : ((257 : Int64)).toInt = 257 := rfl; have lt_2 : ((263 : Int64)).toInt = 263 := rfl; have lt_3 : ((264 : Int64)).toInt = 264 := rfl; have lt_4 : ((316 : Int64)).toInt = 316 := rfl; have lt_5 : ((82 : Int64)).toInt = 82 := rfl; have lt_6 : ((84 : Int64)).toInt = 84 := rfl; have lt_7 : ((85 : Int64)).toInt = 85 := rfl; have lt_8 : ((87 : Int64)).toInt = 87 := rfl; simp only [Int32.lt_iff_toInt_lt, Int64.lt_iff_toInt_lt, ← Int32.toInt_inj, ← Int64.toInt_inj] at hz hq103_0_0 hq105_8_0 hq105_8_1 hq105_8_2 hq105_8_3 hq105_8_4 hq105_8_5 hq105_8_6 hq105_8_7; omega)
      · exact absurd hq105_9_9 (by intro hz; have lt_0 : ((2 : Int64)).toInt = 2 := rfl; have lt_1 : ((257 : Int64)).toInt = 257 := rfl; have lt_2 : ((263 : Int64)).toInt = 263 := rfl; have lt_3 : ((264 : Int64)).toInt = 264 := rfl; have lt_4 : ((316 : Int64)).toInt = 316 := rfl; have lt_5 : ((82 : Int64)).toInt = 82 := rfl; have lt_6 : ((84 : Int64)).toInt = 84 := rfl; have lt_7 : ((85 : Int64)).toInt = 85 := rfl; have lt_8 : ((87 : Int64)).toInt = 87 := rfl; have lt_9 : ((90 : Int64)).toInt = 90 := rfl; simp only [Int32.lt_iff_toInt_lt, Int64.lt_iff_toInt_lt, ← Int32.toInt_inj, ← Int64.toInt_inj] at hz hq103_0_0 hq105_9_0 hq105_9_1 hq105_9_2 hq105_9_3 hq105_9_4 hq105_9_5 hq105_9_6 hq105_9_7 hq105_9_8; omega)
      · exact absurd hq105_10_10 (by intro hz; have lt_0 : ((2 : Int64)).toInt = 2 := rfl; have lt_1 : ((257 : Int64)).toInt = 257 := rfl; have lt_2 : ((263 : Int64)).toInt = 263 := rfl; have lt_3 : ((264 : Int64)).toInt = 264 := rfl; have lt_4 : ((316 : Int64)).toInt = 316 := rfl; have lt_5 : ((82 : Int64)).toInt = 82 := rfl; have lt_6 : ((84 : Int64)).toInt = 84 := rfl; have lt_7 : ((85 : Int64)).toInt = 85 := rfl; have lt_8 : ((87 : Int64)).toInt = 87 := rfl; have lt_9 : ((90 : Int64)).toInt = 90 := rfl; have lt_10 : ((91 : Int64)).toInt = 91 := rfl; simp only [Int32.lt_iff_toInt_lt, Int64.lt_iff_toInt_lt, ← Int32.toInt_inj, ← Int64.toInt_inj] at hz hq103_0_0 hq105_10_0 hq105_10_1 hq105_10_2 hq105_10_3 hq105_10_4 hq105_10_5 hq105_10_6 hq105_10_7 hq105_10_8 hq105_10_9; omega)
      · exact absurd hq105_11_11 (by intro hz; have lt_0 : ((2 : Int64)).toInt = 2 := rfl; have lt_1 : ((257 : Int64)).toInt = 257 := rfl; have lt_2 : ((263 : Int64)).toInt = 263 := rfl; have lt_3 : ((264 : Int64)).toInt = 264 := rfl; have lt_4 : ((268 : Int64)).toInt = 268 := rfl; have lt_5 : ((316 : Int64)).toInt = 316 := rfl; have lt_6 : ((82 : Int64)).toInt = 82 := rfl; have lt_7 : ((84 : Int64)).toInt = 84 := rfl; have lt_8 : ((85 : Int64)).toInt = 85 := rfl; have lt_9 : ((87 : Int64)).toInt = 87 := rfl; have lt_10 : ((90 : Int64)).toInt = 90 := rfl; have lt_11 : ((91 : Int64)).toInt = 91 := rfl; simp only [Int32.lt_iff_toInt_lt, Int64.lt_iff_toInt_lt, ← Int32.toInt_inj, ← Int64.toInt_inj] at hz hq103_0_0 hq105_11_0 hq105_11_1 hq105_11_2 hq105_11_3 hq105_11_4 hq105_11_5 hq105_11_6 hq105_11_7 hq105_11_8 hq105_11_9 hq105_11_10; omega)
      · exact absurd hq105_12_12 (by intro hz; have lt_0 : ((2 : Int64)).toInt = 2 := rfl; have lt_1 : ((257 : Int64)).toInt = 257 := rfl; have lt_2 : ((263 : Int64)).toInt = 263 := rfl; have lt_3 : ((264 : Int64)).toInt = 264 := rfl; have lt_4 : ((268 : Int64)).toInt = 268 := rfl; have lt_5 : ((316 : Int64)).toInt = 316 := rfl; have lt_6 : ((82 : Int64)).toInt = 82 := rfl; have lt_7 : ((84 : Int64)).toInt = 84 := rfl; have lt_8 : ((85 : Int64)).toInt = 85 := rfl; have lt_9 : ((87 : Int64)).toInt = 87 := rfl; have lt_10 : ((90 : Int64)).toInt = 90 := rfl; have lt_11 : ((91 : Int64)).toInt = 91 := rfl; have lt_12 : ((92 : Int64)).toInt = 92 := rfl; simp only [Int32.lt_iff_toInt_lt, Int64.lt_iff_toInt_lt, ← Int32.toInt_inj, ← Int64.toInt_inj] at hz hq103_0_0 hq105_12_0 hq105_12_1 hq105_12_2 hq105_12_3 hq105_12_4 hq105_12_5 hq105_12_6 hq105_12_7 hq105_12_8 hq105_12_9 hq105_12_10 hq105_12_11; omega)
      · exact absurd hq105_13_13 (by intro hz; have lt_0 : ((2 : Int64)).toInt = 2 := rfl; have lt_1 : ((257 : Int64)).toInt = 257 := rfl; have lt_2 : ((260 : Int64)).toInt = 260 := rfl; have lt_3 : ((263 : Int64)).toInt = 263 := rfl; have lt_4 : ((264 : Int64)).toInt = 264 := rfl; have lt_5 : ((268 : Int64)).toInt = 268 := rfl; have lt_6 : ((316 : Int64)).toInt = 316 := rfl; have lt_7 : ((82 : Int64)).toInt = 82 := rfl; have lt_8 : ((84 : Int64)).toInt = 84 := rfl; have lt_9 : ((85 : Int64)).toInt = 85 := rfl; have lt_10 : ((87 : Int64)).toInt = 87 := rfl; have lt_11 : ((90 : Int64)).toInt = 90 := rfl; have lt_12 : ((91 : Int64)).toInt = 91 := rfl; have lt_13 : ((92 : Int64)).toInt = 92 := rfl; simp only [Int32.lt_iff_toInt_lt, Int64.lt_iff_toInt_lt, ← Int32.toInt_inj, ← Int64.toInt_inj] at hz hq103_0_0 hq105_13_0 hq105_13_1 hq105_13_2 hq105_13_3 hq105_13_4 hq105_13_5 hq105_13_6 hq105_13_7 hq105_13_8 hq105_13_9 hq105_13_10 hq105_13_11 hq105_13_12; omega)
      · exact absurd (by apply Decidable.by_contra; intro hz; have lt_0 : ((2 : Int64)).toInt = 2 := rfl; simp only [Int32.lt_iff_toInt_lt, Int64.lt_iff_toInt_lt, ← Int32.toInt_inj, ← Int64.toInt_inj] at hz hq103_0_0; omega) hq105_14_0
    · have f111 : Old Z n0 h103 := O0.keep K103 all0
      obtain ⟨_, _, ⟨T110, L110, k110, n110⟩, -, X110, ⟨Lc110, hQ110, l110, y110, z110⟩, st110⟩ := Jvm.LawKit.callS X103 hx (y := (⟨"com/example/aeacus/aeacus/audit/SyscallOfPinLaw", "expected", "(J)Lcom/example/aeacus/aeacus/audit/Syscall;"⟩ : MethodName)) hown (mvT hZ (hw _ (List.mem_of_getElem? (i := 40) rfl))) (mvT hZ (hw _ (List.mem_of_getElem? (i := 41) rfl))) (mvT hZ (hw _ (List.mem_of_getElem? (i := 2) rfl))) (mvT hZ (hw _ (List.mem_of_getElem? (i := 42) rfl))) (by decide) (backOf (W := 1) (rmExp l Z a0 hw [] q0_ w_OPEN w_CREAT w_OPENAT w_RENAME w_RENAMEAT w_RENAMEAT2 w_UNLINK w_UNLINKAT w_RMDIR w_CHMOD w_FCHMOD w_FCHMODAT w_CHOWN w_FCHOWNAT w__VALUES k_ h103 n0 f111 P0 P1 P2 P3 P4 P5 P6 P7 P8 P9 P10 P11 P12 P13 P14 P15 P16 P17 P18 P19 P20 P21 P22 P23 P24 P25 P26 P27 P28 P29 P30 P31 P32 P33 P34 P35 P36 P37 P38 P39 P40 P41 P42 P43 P44) hZ (hw _ (List.mem_of_getElem? (i := 42) rfl)) (hw _ (List.mem_of_getElem? (i := 2) rfl)) (by decide) (by decide)) (g := (mkF m 28 #[.val (.long q0_), .second, .val (.int p1_), .val (.int (p1_ &&& (31 : Int32))), .val (.long q0_), .second] [(.long q0_), (.ref w_CREAT)])) rfl (by rw [hml]; rfl) (argsL := [(.long q0_)]) (rest := [(.ref w_CREAT)]) (lenOf pd_2 rfl) rfl (by show 2 * 0 + _ ≤ _; exact Nat.le_of_eq rfl) (hb hby at_28) (fun _ _ => ⟨rfl, e103, (by decide : 1 + 0 ≤ _), (by decide : 14 + 0 ≤ _)⟩)
      dsimp only [Pt.U, Pt.locs, Pt.cells, Pt.slots] at X110 l110 y110 z110 st110 hQ110
      subst l110 y110 z110
      obtain ⟨h110, e110⟩ : ∃ z, T110.heap = z := ⟨_, rfl⟩
      rw [e110] at hQ110
      obtain ⟨rr110, rfl, hs110, N110q, hh110⟩ := hQ110
      have N112 := Fr.app N104 N110q
      have e110' : T110.heap = h103 := e110.trans hh110
      rcases hs110 with ⟨rfl, hq110_0_0⟩ | ⟨rfl, hq110_1_0, hq110_1_1⟩ | ⟨rfl, hq110_2_0, hq110_2_1, hq110_2_2⟩ | ⟨rfl, hq110_3_0, hq110_3_1, hq110_3_2, hq110_3_3⟩ | ⟨rfl, hq110_4_0, hq110_4_1, hq110_4_2, hq110_4_3, hq110_4_4⟩ | ⟨rfl, hq110_5_0, hq110_5_1, hq110_5_2, hq110_5_3, hq110_5_4, hq110_5_5⟩ | ⟨rfl, hq110_6_0, hq110_6_1, hq110_6_2, hq110_6_3, hq110_6_4, hq110_6_5, hq110_6_6⟩ | ⟨rfl, hq110_7_0, hq110_7_1, hq110_7_2, hq110_7_3, hq110_7_4, hq110_7_5, hq110_7_6, hq110_7_7⟩ | ⟨rfl, hq110_8_0, hq110_8_1, hq110_8_2, hq110_8_3, hq110_8_4, hq110_8_5, hq110_8_6, hq110_8_7, hq110_8_8⟩ | ⟨rfl, hq110_9_0, hq110_9_1, hq110_9_2, hq110_9_3, hq110_9_4, hq110_9_5, hq110_9_6, hq110_9_7, hq110_9_8, hq110_9_9⟩ | ⟨rfl, hq110_10_0, hq110_10_1, hq110_10_2, hq110_10_3, hq110_10_4, hq110_10_5, hq110_10_6, hq110_10_7, hq110_10_8, hq110_10_9, hq110_10_10⟩ | ⟨rfl, hq110_11_0, hq110_11_1, hq110_11_2, hq110_11_3, hq110_11_4, hq110_11_5, hq110_11_6, hq110_11_7, hq110_11_8, hq110_11_9, hq110_11_10, hq110_11_11⟩ | ⟨rfl, hq110_12_0, hq110_12_1, hq110_12_2, hq110_12_3, hq110_12_4, hq110_12_5, hq110_12_6, hq110_12_7, hq110_12_8, hq110_12_9, hq110_12_10, hq110_12_11, hq110_12_12⟩ | ⟨rfl, hq110_13_0, hq110_13_1, hq110_13_2, hq110_13_3, hq110_13_4, hq110_13_5, hq110_13_6, hq110_13_7, hq110_13_8, hq110_13_9, hq110_13_10, hq110_13_11, hq110_13_12, hq110_13_13⟩ | ⟨rfl, hq110_14_0, hq110_14_1, hq110_14_2, hq110_14_3, hq110_14_4, hq110_14_5, hq110_14_6, hq110_14_7, hq110_14_8, hq110_14_9, hq110_14_10, hq110_14_11, hq110_14_12, hq110_14_13⟩
      · exact absurd hq110_0_0 (by intro hz; have lt_0 : ((2 : Int64)).toInt = 2 := rfl; have lt_1 : ((85 : Int64)).toInt = 85 := rfl; simp only [Int32.lt_iff_toInt_lt, Int64.lt_iff_toInt_lt, ← Int32.toInt_inj, ← Int64.toInt_inj] at hz hq103_1_0 hq103_1_1; omega)
      · have pre113 : ∀ t, Steps p.tables e below (T110.setTop (mkF m 39 #[.val (.long q0_), .second, .val (.int p1_), .val (.int (p1_ &&& (31 : Int32))), .val (.long q0_), .second] [(.int (1 : Int32))])) t → Steps p.tables e below (s₁.setTop (entryFrame m #[(.long q0_), (.int p1_)] maxLocals)) t := by
          intro t kt
          refine pre1 t ?_
          show Steps p.tables e below (s₁.setTop (mkF m 8 #[.val (.long q0_), .second, .val (.int p1_), .val (.int (p1_ &&& (31 : Int32))), .unset, .unset] [(.int (14 : Int32)), (.int (p1_ &&& (31 : Int32)))])) _
          refine XS.icmpYes X0.here hx rfl (pc0 := 8) (pc' := 18) rfl (hb hby at_8) rfl (flt hc2).2.1 (by decide) (by decide) ?_
          show Steps p.tables e below (s₁.setTop (mkF m 18 #[.val (.long q0_), .second, .val (.int p1_), .val (.int (p1_ &&& (31 : Int32))), .unset, .unset] [])) _
          refine XS.lloadN X0.here hx rfl (hb hby at_18) rfl ?_
          show Steps p.tables e below (s₁.setTop (mkF m 19 #[.val (.long q0_), .second, .val (.int p1_), .val (.int (p1_ &&& (31 : Int32))), .unset, .unset] [(.long q0_)])) _
          refine XS.lstore X0.here hx rfl (hb hby at_19) rfl (l' := #[.val (.long q0_), .second, .val (.int p1_), .val (.int (p1_ &&& (31 : Int32))), .val (.long q0_), .second]) rfl ?_
          show Steps p.tables e below (s₁.setTop (mkF m 21 #[.val (.long q0_), .second, .val (.int p1_), .val (.int (p1_ &&& (31 : Int32))), .val (.long q0_), .second] [])) _
          refine XS.lload X0.here hx rfl (hb hby at_21) rfl ?_
          show Steps p.tables e below (s₁.setTop (mkF m 23 #[.val (.long q0_), .second, .val (.int p1_), .val (.int (p1_ &&& (31 : Int32))), .val (.long q0_), .second] [(.long q0_)])) _
          refine st103 _ ?_
          show Steps p.tables e below (T103.setTop (mkF m 26 #[.val (.long q0_), .second, .val (.int p1_), .val (.int (p1_ &&& (31 : Int32))), .val (.long q0_), .second] [(.ref w_CREAT)])) _
          refine XS.lload X103.here hx rfl (hb hby at_26) rfl ?_
          show Steps p.tables e below (T103.setTop (mkF m 28 #[.val (.long q0_), .second, .val (.int p1_), .val (.int (p1_ &&& (31 : Int32))), .val (.long q0_), .second] [(.long q0_), (.ref w_CREAT)])) _
          refine st110 _ ?_
          show Steps p.tables e below (T110.setTop (mkF m 31 #[.val (.long q0_), .second, .val (.int p1_), .val (.int (p1_ &&& (31 : Int32))), .val (.long q0_), .second] [(.ref w_CREAT), (.ref w_CREAT)])) _
          refine Jvm.RoadKit.acmp (g := (mkF m 31 #[.val (.long q0_), .second, .val (.int p1_), .val (.int (p1_ &&& (31 : Int32))), .val (.long q0_), .second] [(.ref w_CREAT), (.ref w_CREAT)])) X110 hx rfl rfl rfl (pc0 := 31) (pc' := 34) (same := true) rfl (hb hby at_31) rfl (decide_eq_true rfl) (by decide) (by decide) ?_
          show Steps p.tables e below (T110.setTop (mkF m 34 #[.val (.long q0_), .second, .val (.int p1_), .val (.int (p1_ &&& (31 : Int32))), .val (.long q0_), .second] [])) _
          refine XS.iconst X110.here hx rfl (hb hby at_34) ?_
          show Steps p.tables e below (T110.setTop (mkF m 35 #[.val (.long q0_), .second, .val (.int p1_), .val (.int (p1_ &&& (31 : Int32))), .val (.long q0_), .second] [(.int (1 : Int32))])) _
          refine XS.goto X110.here hx rfl (pc0 := 35) (pc' := 39) rfl (hb hby at_35) (by decide) (by decide) ?_
          exact kt
        obtain ⟨fs, hr, hrun, hended, hW, hsame⟩ := X110.leave (v := some (.int (1 : Int32))) (fun h => by rw [Bd.returns] at h; cases h)
        refine ⟨_, _, pre113 _ (retN X110 hx (t := .boolean) Bd.returns (by simp) (hb hby at_39) hr), hrun, hended, _, _, rfl, ?_, ⟨_, rfl⟩, hW, hsame.mono (by decide) (by decide)⟩
        show QLaw Z q0_ p1_ w_OPEN w_CREAT w_OPENAT w_RENAME w_RENAMEAT w_RENAMEAT2 w_UNLINK w_UNLINKAT w_RMDIR w_CHMOD w_FCHMOD w_FCHMODAT w_CHOWN w_FCHOWNAT w__VALUES k_ h0 n0 _ T110.heap _
        rw [e110']
        exact ⟨rfl, N112⟩
      · exact absurd hq110_2_2 (by intro hz; have lt_0 : ((2 : Int64)).toInt = 2 := rfl; have lt_1 : ((257 : Int64)).toInt = 257 := rfl; have lt_2 : ((85 : Int64)).toInt = 85 := rfl; simp only [Int32.lt_iff_toInt_lt, Int64.lt_iff_toInt_lt, ← Int32.toInt_inj, ← Int64.toInt_inj] at hz hq103_1_0 hq103_1_1 hq110_2_0 hq110_2_1; omega)
      · exact absurd hq110_3_3 (by intro hz; have lt_0 : ((2 : Int64)).toInt = 2 := rfl; have lt_1 : ((257 : Int64)).toInt = 257 := rfl; have lt_2 : ((82 : Int64)).toInt = 82 := rfl; have lt_3 : ((85 : Int64)).toInt = 85 := rfl; simp only [Int32.lt_iff_toInt_lt, Int64.lt_iff_toInt_lt, ← Int32.toInt_inj, ← Int64.toInt_inj] at hz hq103_1_0 hq103_1_1 hq110_3_0 hq110_3_1 hq110_3_2; omega)
      · exact absurd hq110_4_4 (by intro hz; have lt_0 : ((2 : Int64)).toInt = 2 := rfl; have lt_1 : ((257 : Int64)).toInt = 257 := rfl; have lt_2 : ((264 : Int64)).toInt = 264 := rfl; have lt_3 : ((82 : Int64)).toInt = 82 := rfl; have lt_4 : ((85 : Int64)).toInt = 85 := rfl; simp only [Int32.lt_iff_toInt_lt, Int64.lt_iff_toInt_lt, ← Int32.toInt_inj, ← Int64.toInt_inj] at hz hq103_1_0 hq103_1_1 hq110_4_0 hq110_4_1 hq110_4_2 hq110_4_3; omega)
      · exact absurd hq110_5_5 (by intro hz; have lt_0 : ((2 : Int64)).toInt = 2 := rfl; have lt_1 : ((257 : Int64)).toInt = 257 := rfl; have lt_2 : ((264 : Int64)).toInt = 264 := rfl; have lt_3 : ((316 : Int64)).toInt = 316 := rfl; have lt_4 : ((82 : Int64)).toInt = 82 := rfl; have lt_5 : ((85 : Int64)).toInt = 85 := rfl; simp only [Int32.lt_iff_toInt_lt, Int64.lt_iff_toInt_lt, ← Int32.toInt_inj, ← Int64.toInt_inj] at hz hq103_1_0 hq103_1_1 hq110_5_0 hq110_5_1 hq110_5_2 hq110_5_3 hq110_5_4; omega)
      · exact absurd hq110_6_6 (by intro hz; have lt_0 : ((2 : Int64)).toInt = 2 := rfl; have lt_1 : ((257 : Int64)).toInt = 257 := rfl; have lt_2 : ((264 : Int64)).toInt = 264 := rfl; have lt_3 : ((316 : Int64)).toInt = 316 := rfl; have lt_4 : ((82 : Int64)).toInt = 82 := rfl; have lt_5 : ((85 : Int64)).toInt = 85 := rfl; have lt_6 : ((87 : Int64)).toInt = 87 := rfl; simp only [Int32.lt_iff_toInt_lt, Int64.lt_iff_toInt_lt, ← Int32.toInt_inj, ← Int64.toInt_inj] at hz hq103_1_0 hq103_1_1 hq110_6_0 hq110_6_1 hq110_6_2 hq110_6_3 hq110_6_4 hq110_6_5; omega)
      · exact absurd hq110_7_7 (by intro hz; have lt_0 : ((2 : Int64)).toInt = 2 := rfl; have lt_1 : ((257 : Int64)).toInt = 257 := rfl; have lt_2 : ((263 : Int64)).toInt = 263 := rfl; have lt_3 : ((264 : Int64)).toInt = 264 := rfl; have lt_4 : ((316 : Int64)).toInt = 316 := rfl; have lt_5 : ((82 : Int64)).toInt = 82 := rfl; have lt_6 : ((85 : Int64)).toInt = 85 := rfl; have lt_7 : ((87 : Int64)).toInt = 87 := rfl; simp only [Int32.lt_iff_toInt_lt, Int64.lt_iff_toInt_lt, ← Int32.toInt_inj, ← Int64.toInt_inj] at hz hq103_1_0 hq103_1_1 hq110_7_0 hq110_7_1 hq110_7_2 hq110_7_3 hq110_7_4 hq110_7_5 hq110_7_6; omega)
      · exact absurd hq110_8_8 (by intro hz; have lt_0 : ((2 : Int64)).toInt = 2 := rfl; have lt_1 : ((257 : Int64)).toInt = 257 := rfl; have lt_2 : ((263 : Int64)).toInt = 263 := rfl; have lt_3 : ((264 : Int64)).toInt = 264 := rfl; have lt_4 : ((316 : Int64)).toInt = 316 := rfl; have lt_5 : ((82 : Int64)).toInt = 82 := rfl; have lt_6 : ((84 : Int64)).toInt = 84 := rfl; have lt_7 : ((85 : Int64)).toInt = 85 := rfl; have lt_8 : ((87 : Int64)).toInt = 87 := rfl; simp only [Int32.lt_iff_toInt_lt, Int64.lt_iff_toInt_lt, ← Int32.toInt_inj, ← Int64.toInt_inj] at hz hq103_1_0 hq103_1_1 hq110_8_0 hq110_8_1 hq110_8_2 hq110_8_3 hq110_8_4 hq110_8_5 hq110_8_6 hq110_8_7; omega)
      · exact absurd hq110_9_9 (by intro hz; have lt_0 : ((2 : Int64)).toInt = 2 := rfl; have lt_1 : ((257 : Int64)).toInt = 257 := rfl; have lt_2 : ((263 : Int64)).toInt = 263 := rfl; have lt_3 : ((264 : Int64)).toInt = 264 := rfl; have lt_4 : ((316 : Int64)).toInt = 316 := rfl; have lt_5 : ((82 : Int64)).toInt = 82 := rfl; have lt_6 : ((84 : Int64)).toInt = 84 := rfl; have lt_7 : ((85 : Int64)).toInt = 85 := rfl; have lt_8 : ((87 : Int64)).toInt = 87 := rfl; have lt_9 : ((90 : Int64)).toInt = 90 := rfl; simp only [Int32.lt_iff_toInt_lt, Int64.lt_iff_toInt_lt, ← Int32.toInt_inj, ← Int64.toInt_inj] at hz hq103_1_0 hq103_1_1 hq110_9_0 hq110_9_1 hq110_9_2 hq110_9_3 hq110_9_4 hq110_9_5 hq110_9_6 hq110_9_7 hq110_9_8; omega)
      · exact absurd hq110_10_10 (by intro hz; have lt_0 : ((2 : Int64)).toInt = 2 := rfl; have lt_1 : ((257 : Int64)).toInt = 257 := rfl; have lt_2 : ((263 : Int64)).toInt = 263 := rfl; have lt_3 : ((264 : Int64)).toInt = 264 := rfl; have lt_4 : ((316 : Int64)).toInt = 316 := rfl; have lt_5 : ((82 : Int64)).toInt = 82 := rfl; have lt_6 : ((84 : Int64)).toInt = 84 := rfl; have lt_7 : ((85 : Int64)).toInt = 85 := rfl; have lt_8 : ((87 : Int64)).toInt = 87 := rfl; have lt_9 : ((90 : Int64)).toInt = 90 := rfl; have lt_10 : ((91 : Int64)).toInt = 91 := rfl; simp only [Int32.lt_iff_toInt_lt, Int64.lt_iff_toInt_lt, ← Int32.toInt_inj, ← Int64.toInt_inj] at hz hq103_1_0 hq103_1_1 hq110_10_0 hq110_10_1 hq110_10_2 hq110_10_3 hq110_10_4 hq110_10_5 hq110_10_6 hq110_10_7 hq110_10_8 hq110_10_9; omega)
      · exact absurd hq110_11_11 (by intro hz; have lt_0 : ((2 : Int64)).toInt = 2 := rfl; have lt_1 : ((257 : Int64)).toInt = 257 := rfl; have lt_2 : ((263 : Int64)).toInt = 263 := rfl; have lt_3 : ((264 : Int64)).toInt = 264 := rfl; have lt_4 : ((268 : Int64)).toInt = 268 := rfl; have lt_5 : ((316 : Int64)).toInt = 316 := rfl; have lt_6 : ((82 : Int64)).toInt = 82 := rfl; have lt_7 : ((84 : Int64)).toInt = 84 := rfl; have lt_8 : ((85 : Int64)).toInt = 85 := rfl; have lt_9 : ((87 : Int64)).toInt = 87 := rfl; have lt_10 : ((90 : Int64)).toInt = 90 := rfl; have lt_11 : ((91 : Int64)).toInt = 91 := rfl; simp only [Int32.lt_iff_toInt_lt, Int64.lt_iff_toInt_lt, ← Int32.toInt_inj, ← Int64.toInt_inj] at hz hq103_1_0 hq103_1_1 hq110_11_0 hq110_11_1 hq110_11_2 hq110_11_3 hq110_11_4 hq110_11_5 hq110_11_6 hq110_11_7 hq110_11_8 hq110_11_9 hq110_11_10; omega)
      · exact absurd hq110_12_12 (by intro hz; have lt_0 : ((2 : Int64)).toInt = 2 := rfl; have lt_1 : ((257 : Int64)).toInt = 257 := rfl; have lt_2 : ((263 : Int64)).toInt = 263 := rfl; have lt_3 : ((264 : Int64)).toInt = 264 := rfl; have lt_4 : ((268 : Int64)).toInt = 268 := rfl; have lt_5 : ((316 : Int64)).toInt = 316 := rfl; have lt_6 : ((82 : Int64)).toInt = 82 := rfl; have lt_7 : ((84 : Int64)).toInt = 84 := rfl; have lt_8 : ((85 : Int64)).toInt = 85 := rfl; have lt_9 : ((87 : Int64)).toInt = 87 := rfl; have lt_10 : ((90 : Int64)).toInt = 90 := rfl; have lt_11 : ((91 : Int64)).toInt = 91 := rfl; have lt_12 : ((92 : Int64)).toInt = 92 := rfl; simp only [Int32.lt_iff_toInt_lt, Int64.lt_iff_toInt_lt, ← Int32.toInt_inj, ← Int64.toInt_inj] at hz hq103_1_0 hq103_1_1 hq110_12_0 hq110_12_1 hq110_12_2 hq110_12_3 hq110_12_4 hq110_12_5 hq110_12_6 hq110_12_7 hq110_12_8 hq110_12_9 hq110_12_10 hq110_12_11; omega)
      · exact absurd hq110_13_13 (by intro hz; have lt_0 : ((2 : Int64)).toInt = 2 := rfl; have lt_1 : ((257 : Int64)).toInt = 257 := rfl; have lt_2 : ((260 : Int64)).toInt = 260 := rfl; have lt_3 : ((263 : Int64)).toInt = 263 := rfl; have lt_4 : ((264 : Int64)).toInt = 264 := rfl; have lt_5 : ((268 : Int64)).toInt = 268 := rfl; have lt_6 : ((316 : Int64)).toInt = 316 := rfl; have lt_7 : ((82 : Int64)).toInt = 82 := rfl; have lt_8 : ((84 : Int64)).toInt = 84 := rfl; have lt_9 : ((85 : Int64)).toInt = 85 := rfl; have lt_10 : ((87 : Int64)).toInt = 87 := rfl; have lt_11 : ((90 : Int64)).toInt = 90 := rfl; have lt_12 : ((91 : Int64)).toInt = 91 := rfl; have lt_13 : ((92 : Int64)).toInt = 92 := rfl; simp only [Int32.lt_iff_toInt_lt, Int64.lt_iff_toInt_lt, ← Int32.toInt_inj, ← Int64.toInt_inj] at hz hq103_1_0 hq103_1_1 hq110_13_0 hq110_13_1 hq110_13_2 hq110_13_3 hq110_13_4 hq110_13_5 hq110_13_6 hq110_13_7 hq110_13_8 hq110_13_9 hq110_13_10 hq110_13_11 hq110_13_12; omega)
      · exact absurd (by apply Decidable.by_contra; intro hz; have lt_0 : ((2 : Int64)).toInt = 2 := rfl; have lt_1 : ((85 : Int64)).toInt = 85 := rfl; simp only [Int32.lt_iff_toInt_lt, Int64.lt_iff_toInt_lt, ← Int32.toInt_inj, ← Int64.toInt_inj] at hz hq103_1_0 hq103_1_1 hq110_14_0; omega) hq110_14_1
    · have f116 : Old Z n0 h103 := O0.keep K103 all0
      obtain ⟨_, _, ⟨T115, L115, k115, n115⟩, -, X115, ⟨Lc115, hQ115, l115, y115, z115⟩, st115⟩ := Jvm.LawKit.callS X103 hx (y := (⟨"com/example/aeacus/aeacus/audit/SyscallOfPinLaw", "expected", "(J)Lcom/example/aeacus/aeacus/audit/Syscall;"⟩ : MethodName)) hown (mvT hZ (hw _ (List.mem_of_getElem? (i := 40) rfl))) (mvT hZ (hw _ (List.mem_of_getElem? (i := 41) rfl))) (mvT hZ (hw _ (List.mem_of_getElem? (i := 2) rfl))) (mvT hZ (hw _ (List.mem_of_getElem? (i := 42) rfl))) (by decide) (backOf (W := 1) (rmExp l Z a0 hw [] q0_ w_OPEN w_CREAT w_OPENAT w_RENAME w_RENAMEAT w_RENAMEAT2 w_UNLINK w_UNLINKAT w_RMDIR w_CHMOD w_FCHMOD w_FCHMODAT w_CHOWN w_FCHOWNAT w__VALUES k_ h103 n0 f116 P0 P1 P2 P3 P4 P5 P6 P7 P8 P9 P10 P11 P12 P13 P14 P15 P16 P17 P18 P19 P20 P21 P22 P23 P24 P25 P26 P27 P28 P29 P30 P31 P32 P33 P34 P35 P36 P37 P38 P39 P40 P41 P42 P43 P44) hZ (hw _ (List.mem_of_getElem? (i := 42) rfl)) (hw _ (List.mem_of_getElem? (i := 2) rfl)) (by decide) (by decide)) (g := (mkF m 28 #[.val (.long q0_), .second, .val (.int p1_), .val (.int (p1_ &&& (31 : Int32))), .val (.long q0_), .second] [(.long q0_), (.ref w_OPENAT)])) rfl (by rw [hml]; rfl) (argsL := [(.long q0_)]) (rest := [(.ref w_OPENAT)]) (lenOf pd_2 rfl) rfl (by show 2 * 0 + _ ≤ _; exact Nat.le_of_eq rfl) (hb hby at_28) (fun _ _ => ⟨rfl, e103, (by decide : 1 + 0 ≤ _), (by decide : 14 + 0 ≤ _)⟩)
      dsimp only [Pt.U, Pt.locs, Pt.cells, Pt.slots] at X115 l115 y115 z115 st115 hQ115
      subst l115 y115 z115
      obtain ⟨h115, e115⟩ : ∃ z, T115.heap = z := ⟨_, rfl⟩
      rw [e115] at hQ115
      obtain ⟨rr115, rfl, hs115, N115q, hh115⟩ := hQ115
      have N117 := Fr.app N104 N115q
      have e115' : T115.heap = h103 := e115.trans hh115
      rcases hs115 with ⟨rfl, hq115_0_0⟩ | ⟨rfl, hq115_1_0, hq115_1_1⟩ | ⟨rfl, hq115_2_0, hq115_2_1, hq115_2_2⟩ | ⟨rfl, hq115_3_0, hq115_3_1, hq115_3_2, hq115_3_3⟩ | ⟨rfl, hq115_4_0, hq115_4_1, hq115_4_2, hq115_4_3, hq115_4_4⟩ | ⟨rfl, hq115_5_0, hq115_5_1, hq115_5_2, hq115_5_3, hq115_5_4, hq115_5_5⟩ | ⟨rfl, hq115_6_0, hq115_6_1, hq115_6_2, hq115_6_3, hq115_6_4, hq115_6_5, hq115_6_6⟩ | ⟨rfl, hq115_7_0, hq115_7_1, hq115_7_2, hq115_7_3, hq115_7_4, hq115_7_5, hq115_7_6, hq115_7_7⟩ | ⟨rfl, hq115_8_0, hq115_8_1, hq115_8_2, hq115_8_3, hq115_8_4, hq115_8_5, hq115_8_6, hq115_8_7, hq115_8_8⟩ | ⟨rfl, hq115_9_0, hq115_9_1, hq115_9_2, hq115_9_3, hq115_9_4, hq115_9_5, hq115_9_6, hq115_9_7, hq115_9_8, hq115_9_9⟩ | ⟨rfl, hq115_10_0, hq115_10_1, hq115_10_2, hq115_10_3, hq115_10_4, hq115_10_5, hq115_10_6, hq115_10_7, hq115_10_8, hq115_10_9, hq115_10_10⟩ | ⟨rfl, hq115_11_0, hq115_11_1, hq115_11_2, hq115_11_3, hq115_11_4, hq115_11_5, hq115_11_6, hq115_11_7, hq115_11_8, hq115_11_9, hq115_11_10, hq115_11_11⟩ | ⟨rfl, hq115_12_0, hq115_12_1, hq115_12_2, hq115_12_3, hq115_12_4, hq115_12_5, hq115_12_6, hq115_12_7, hq115_12_8, hq115_12_9, hq115_12_10, hq115_12_11, hq115_12_12⟩ | ⟨rfl, hq115_13_0, hq115_13_1, hq115_13_2, hq115_13_3, hq115_13_4, hq115_13_5, hq115_13_6, hq115_13_7, hq115_13_8, hq115_13_9, hq115_13_10, hq115_13_11, hq115_13_12, hq115_13_13⟩ | ⟨rfl, hq115_14_0, hq115_14_1, hq115_14_2, hq115_14_3, hq115_14_4, hq115_14_5, hq115_14_6, hq115_14_7, hq115_14_8, hq115_14_9, hq115_14_10, hq115_14_11, hq115_14_12, hq115_14_13⟩
      · exact absurd hq115_0_0 (by intro hz; have lt_0 : ((2 : Int64)).toInt = 2 := rfl; have lt_1 : ((257 : Int64)).toInt = 257 := rfl; have lt_2 : ((85 : Int64)).toInt = 85 := rfl; simp only [Int32.lt_iff_toInt_lt, Int64.lt_iff_toInt_lt, ← Int32.toInt_inj, ← Int64.toInt_inj] at hz hq103_2_0 hq103_2_1 hq103_2_2; omega)
      · exact absurd hq115_1_1 (by intro hz; have lt_0 : ((2 : Int64)).toInt = 2 := rfl; have lt_1 : ((257 : Int64)).toInt = 257 := rfl; have lt_2 : ((85 : Int64)).toInt = 85 := rfl; simp only [Int32.lt_iff_toInt_lt, Int64.lt_iff_toInt_lt, ← Int32.toInt_inj, ← Int64.toInt_inj] at hz hq103_2_0 hq103_2_1 hq103_2_2 hq115_1_0; omega)
      · have pre118 : ∀ t, Steps p.tables e below (T115.setTop (mkF m 39 #[.val (.long q0_), .second, .val (.int p1_), .val (.int (p1_ &&& (31 : Int32))), .val (.long q0_), .second] [(.int (1 : Int32))])) t → Steps p.tables e below (s₁.setTop (entryFrame m #[(.long q0_), (.int p1_)] maxLocals)) t := by
          intro t kt
          refine pre1 t ?_
          show Steps p.tables e below (s₁.setTop (mkF m 8 #[.val (.long q0_), .second, .val (.int p1_), .val (.int (p1_ &&& (31 : Int32))), .unset, .unset] [(.int (14 : Int32)), (.int (p1_ &&& (31 : Int32)))])) _
          refine XS.icmpYes X0.here hx rfl (pc0 := 8) (pc' := 18) rfl (hb hby at_8) rfl (flt hc2).2.1 (by decide) (by decide) ?_
          show Steps p.tables e below (s₁.setTop (mkF m 18 #[.val (.long q0_), .second, .val (.int p1_), .val (.int (p1_ &&& (31 : Int32))), .unset, .unset] [])) _
          refine XS.lloadN X0.here hx rfl (hb hby at_18) rfl ?_
          show Steps p.tables e below (s₁.setTop (mkF m 19 #[.val (.long q0_), .second, .val (.int p1_), .val (.int (p1_ &&& (31 : Int32))), .unset, .unset] [(.long q0_)])) _
          refine XS.lstore X0.here hx rfl (hb hby at_19) rfl (l' := #[.val (.long q0_), .second, .val (.int p1_), .val (.int (p1_ &&& (31 : Int32))), .val (.long q0_), .second]) rfl ?_
          show Steps p.tables e below (s₁.setTop (mkF m 21 #[.val (.long q0_), .second, .val (.int p1_), .val (.int (p1_ &&& (31 : Int32))), .val (.long q0_), .second] [])) _
          refine XS.lload X0.here hx rfl (hb hby at_21) rfl ?_
          show Steps p.tables e below (s₁.setTop (mkF m 23 #[.val (.long q0_), .second, .val (.int p1_), .val (.int (p1_ &&& (31 : Int32))), .val (.long q0_), .second] [(.long q0_)])) _
          refine st103 _ ?_
          show Steps p.tables e below (T103.setTop (mkF m 26 #[.val (.long q0_), .second, .val (.int p1_), .val (.int (p1_ &&& (31 : Int32))), .val (.long q0_), .second] [(.ref w_OPENAT)])) _
          refine XS.lload X103.here hx rfl (hb hby at_26) rfl ?_
          show Steps p.tables e below (T103.setTop (mkF m 28 #[.val (.long q0_), .second, .val (.int p1_), .val (.int (p1_ &&& (31 : Int32))), .val (.long q0_), .second] [(.long q0_), (.ref w_OPENAT)])) _
          refine st115 _ ?_
          show Steps p.tables e below (T115.setTop (mkF m 31 #[.val (.long q0_), .second, .val (.int p1_), .val (.int (p1_ &&& (31 : Int32))), .val (.long q0_), .second] [(.ref w_OPENAT), (.ref w_OPENAT)])) _
          refine Jvm.RoadKit.acmp (g := (mkF m 31 #[.val (.long q0_), .second, .val (.int p1_), .val (.int (p1_ &&& (31 : Int32))), .val (.long q0_), .second] [(.ref w_OPENAT), (.ref w_OPENAT)])) X115 hx rfl rfl rfl (pc0 := 31) (pc' := 34) (same := true) rfl (hb hby at_31) rfl (decide_eq_true rfl) (by decide) (by decide) ?_
          show Steps p.tables e below (T115.setTop (mkF m 34 #[.val (.long q0_), .second, .val (.int p1_), .val (.int (p1_ &&& (31 : Int32))), .val (.long q0_), .second] [])) _
          refine XS.iconst X115.here hx rfl (hb hby at_34) ?_
          show Steps p.tables e below (T115.setTop (mkF m 35 #[.val (.long q0_), .second, .val (.int p1_), .val (.int (p1_ &&& (31 : Int32))), .val (.long q0_), .second] [(.int (1 : Int32))])) _
          refine XS.goto X115.here hx rfl (pc0 := 35) (pc' := 39) rfl (hb hby at_35) (by decide) (by decide) ?_
          exact kt
        obtain ⟨fs, hr, hrun, hended, hW, hsame⟩ := X115.leave (v := some (.int (1 : Int32))) (fun h => by rw [Bd.returns] at h; cases h)
        refine ⟨_, _, pre118 _ (retN X115 hx (t := .boolean) Bd.returns (by simp) (hb hby at_39) hr), hrun, hended, _, _, rfl, ?_, ⟨_, rfl⟩, hW, hsame.mono (by decide) (by decide)⟩
        show QLaw Z q0_ p1_ w_OPEN w_CREAT w_OPENAT w_RENAME w_RENAMEAT w_RENAMEAT2 w_UNLINK w_UNLINKAT w_RMDIR w_CHMOD w_FCHMOD w_FCHMODAT w_CHOWN w_FCHOWNAT w__VALUES k_ h0 n0 _ T115.heap _
        rw [e115']
        exact ⟨rfl, N117⟩
      · exact absurd hq115_3_3 (by intro hz; have lt_0 : ((2 : Int64)).toInt = 2 := rfl; have lt_1 : ((257 : Int64)).toInt = 257 := rfl; have lt_2 : ((82 : Int64)).toInt = 82 := rfl; have lt_3 : ((85 : Int64)).toInt = 85 := rfl; simp only [Int32.lt_iff_toInt_lt, Int64.lt_iff_toInt_lt, ← Int32.toInt_inj, ← Int64.toInt_inj] at hz hq103_2_0 hq103_2_1 hq103_2_2 hq115_3_0 hq115_3_1 hq115_3_2; omega)
      · exact absurd hq115_4_4 (by intro hz; have lt_0 : ((2 : Int64)).toInt = 2 := rfl; have lt_1 : ((257 : Int64)).toInt = 257 := rfl; have lt_2 : ((264 : Int64)).toInt = 264 := rfl; have lt_3 : ((82 : Int64)).toInt = 82 := rfl; have lt_4 : ((85 : Int64)).toInt = 85 := rfl; simp only [Int32.lt_iff_toInt_lt, Int64.lt_iff_toInt_lt, ← Int32.toInt_inj, ← Int64.toInt_inj] at hz hq103_2_0 hq103_2_1 hq103_2_2 hq115_4_0 hq115_4_1 hq115_4_2 hq115_4_3; omega)
      · exact absurd hq115_5_5 (by intro hz; have lt_0 : ((2 : Int64)).toInt = 2 := rfl; have lt_1 : ((257 : Int64)).toInt = 257 := rfl; have lt_2 : ((264 : Int64)).toInt = 264 := rfl; have lt_3 : ((316 : Int64)).toInt = 316 := rfl; have lt_4 : ((82 : Int64)).toInt = 82 := rfl; have lt_5 : ((85 : Int64)).toInt = 85 := rfl; simp only [Int32.lt_iff_toInt_lt, Int64.lt_iff_toInt_lt, ← Int32.toInt_inj, ← Int64.toInt_inj] at hz hq103_2_0 hq103_2_1 hq103_2_2 hq115_5_0 hq115_5_1 hq115_5_2 hq115_5_3 hq115_5_4; omega)
      · exact absurd hq115_6_6 (by intro hz; have lt_0 : ((2 : Int64)).toInt = 2 := rfl; have lt_1 : ((257 : Int64)).toInt = 257 := rfl; have lt_2 : ((264 : Int64)).toInt = 264 := rfl; have lt_3 : ((316 : Int64)).toInt = 316 := rfl; have lt_4 : ((82 : Int64)).toInt = 82 := rfl; have lt_5 : ((85 : Int64)).toInt = 85 := rfl; have lt_6 : ((87 : Int64)).toInt = 87 := rfl; simp only [Int32.lt_iff_toInt_lt, Int64.lt_iff_toInt_lt, ← Int32.toInt_inj, ← Int64.toInt_inj] at hz hq103_2_0 hq103_2_1 hq103_2_2 hq115_6_0 hq115_6_1 hq115_6_2 hq115_6_3 hq115_6_4 hq115_6_5; omega)
      · exact absurd hq115_7_7 (by intro hz; have lt_0 : ((2 : Int64)).toInt = 2 := rfl; have lt_1 : ((257 : Int64)).toInt = 257 := rfl; have lt_2 : ((263 : Int64)).toInt = 263 := rfl; have lt_3 : ((264 : Int64)).toInt = 264 := rfl; have lt_4 : ((316 : Int64)).toInt = 316 := rfl; have lt_5 : ((82 : Int64)).toInt = 82 := rfl; have lt_6 : ((85 : Int64)).toInt = 85 := rfl; have lt_7 : ((87 : Int64)).toInt = 87 := rfl; simp only [Int32.lt_iff_toInt_lt, Int64.lt_iff_toInt_lt, ← Int32.toInt_inj, ← Int64.toInt_inj] at hz hq103_2_0 hq103_2_1 hq103_2_2 hq115_7_0 hq115_7_1 hq115_7_2 hq115_7_3 hq115_7_4 hq115_7_5 hq115_7_6; omega)
      · exact absurd hq115_8_8 (by intro hz; have lt_0 : ((2 : Int64)).toInt = 2 := rfl; have lt_1 : ((257 : Int64)).toInt = 257 := rfl; have lt_2 : ((263 : Int64)).toInt = 263 := rfl; have lt_3 : ((264 : Int64)).toInt = 264 := rfl; have lt_4 : ((316 : Int64)).toInt = 316 := rfl; have lt_5 : ((82 : Int64)).toInt = 82 := rfl; have lt_6 : ((84 : Int64)).toInt = 84 := rfl; have lt_7 : ((85 : Int64)).toInt = 85 := rfl; have lt_8 : ((87 : Int64)).toInt = 87 := rfl; simp only [Int32.lt_iff_toInt_lt, Int64.lt_iff_toInt_lt, ← Int32.toInt_inj, ← Int64.toInt_inj] at hz hq103_2_0 hq103_2_1 hq103_2_2 hq115_8_0 hq115_8_1 hq115_8_2 hq115_8_3 hq115_8_4 hq115_8_5 hq115_8_6 hq115_8_7; omega)
      · exact absurd hq115_9_9 (by intro hz; have lt_0 : ((2 : Int64)).toInt = 2 := rfl; have lt_1 : ((257 : Int64)).toInt = 257 := rfl; have lt_2 : ((263 : Int64)).toInt = 263 := rfl; have lt_3 : ((264 : Int64)).toInt = 264 := rfl; have lt_4 : ((316 : Int64)).toInt = 316 := rfl; have lt_5 : ((82 : Int64)).toInt = 82 := rfl; have lt_6 : ((84 : Int64)).toInt = 84 := rfl; have lt_7 : ((85 : Int64)).toInt = 85 := rfl; have lt_8 : ((87 : Int64)).toInt = 87 := rfl; have lt_9 : ((90 : Int64)).toInt = 90 := rfl; simp only [Int32.lt_iff_toInt_lt, Int64.lt_iff_toInt_lt, ← Int32.toInt_inj, ← Int64.toInt_inj] at hz hq103_2_0 hq103_2_1 hq103_2_2 hq115_9_0 hq115_9_1 hq115_9_2 hq115_9_3 hq115_9_4 hq115_9_5 hq115_9_6 hq115_9_7 hq115_9_8; omega)
      · exact absurd hq115_10_10 (by intro hz; have lt_0 : ((2 : Int64)).toInt = 2 := rfl; have lt_1 : ((257 : Int64)).toInt = 257 := rfl; have lt_2 : ((263 : Int64)).toInt = 263 := rfl; have lt_3 : ((264 : Int64)).toInt = 264 := rfl; have lt_4 : ((316 : Int64)).toInt = 316 := rfl; have lt_5 : ((82 : Int64)).toInt = 82 := rfl; have lt_6 : ((84 : Int64)).toInt = 84 := rfl; have lt_7 : ((85 : Int64)).toInt = 85 := rfl; have lt_8 : ((87 : Int64)).toInt = 87 := rfl; have lt_9 : ((90 : Int64)).toInt = 90 := rfl; have lt_10 : ((91 : Int64)).toInt = 91 := rfl; simp only [Int32.lt_iff_toInt_lt, Int64.lt_iff_toInt_lt, ← Int32.toInt_inj, ← Int64.toInt_inj] at hz hq103_2_0 hq103_2_1 hq103_2_2 hq115_10_0 hq115_10_1 hq115_10_2 hq115_10_3 hq115_10_4 hq115_10_5 hq115_10_6 hq115_10_7 hq115_10_8 hq115_10_9; omega)
      · exact absurd hq115_11_11 (by intro hz; have lt_0 : ((2 : Int64)).toInt = 2 := rfl; have lt_1 : ((257 : Int64)).toInt = 257 := rfl; have lt_2 : ((263 : Int64)).toInt = 263 := rfl; have lt_3 : ((264 : Int64)).toInt = 264 := rfl; have lt_4 : ((268 : Int64)).toInt = 268 := rfl; have lt_5 : ((316 : Int64)).toInt = 316 := rfl; have lt_6 : ((82 : Int64)).toInt = 82 := rfl; have lt_7 : ((84 : Int64)).toInt = 84 := rfl; have lt_8 : ((85 : Int64)).toInt = 85 := rfl; have lt_9 : ((87 : Int64)).toInt = 87 := rfl; have lt_10 : ((90 : Int64)).toInt = 90 := rfl; have lt_11 : ((91 : Int64)).toInt = 91 := rfl; simp only [Int32.lt_iff_toInt_lt, Int64.lt_iff_toInt_lt, ← Int32.toInt_inj, ← Int64.toInt_inj] at hz hq103_2_0 hq103_2_1 hq103_2_2 hq115_11_0 hq115_11_1 hq115_11_2 hq115_11_3 hq115_11_4 hq115_11_5 hq115_11_6 hq115_11_7 hq115_11_8 hq115_11_9 hq115_11_10; omega)
      · exact absurd hq115_12_12 (by intro hz; have lt_0 : ((2 : Int64)).toInt = 2 := rfl; have lt_1 : ((257 : Int64)).toInt = 257 := rfl; have lt_2 : ((263 : Int64)).toInt = 263 := rfl; have lt_3 : ((264 : Int64)).toInt = 264 := rfl; have lt_4 : ((268 : Int64)).toInt = 268 := rfl; have lt_5 : ((316 : Int64)).toInt = 316 := rfl; have lt_6 : ((82 : Int64)).toInt = 82 := rfl; have lt_7 : ((84 : Int64)).toInt = 84 := rfl; have lt_8 : ((85 : Int64)).toInt = 85 := rfl; have lt_9 : ((87 : Int64)).toInt = 87 := rfl; have lt_10 : ((90 : Int64)).toInt = 90 := rfl; have lt_11 : ((91 : Int64)).toInt = 91 := rfl; have lt_12 : ((92 : Int64)).toInt = 92 := rfl; simp only [Int32.lt_iff_toInt_lt, Int64.lt_iff_toInt_lt, ← Int32.toInt_inj, ← Int64.toInt_inj] at hz hq103_2_0 hq103_2_1 hq103_2_2 hq115_12_0 hq115_12_1 hq115_12_2 hq115_12_3 hq115_12_4 hq115_12_5 hq115_12_6 hq115_12_7 hq115_12_8 hq115_12_9 hq115_12_10 hq115_12_11; omega)
      · exact absurd hq115_13_13 (by intro hz; have lt_0 : ((2 : Int64)).toInt = 2 := rfl; have lt_1 : ((257 : Int64)).toInt = 257 := rfl; have lt_2 : ((260 : Int64)).toInt = 260 := rfl; have lt_3 : ((263 : Int64)).toInt = 263 := rfl; have lt_4 : ((264 : Int64)).toInt = 264 := rfl; have lt_5 : ((268 : Int64)).toInt = 268 := rfl; have lt_6 : ((316 : Int64)).toInt = 316 := rfl; have lt_7 : ((82 : Int64)).toInt = 82 := rfl; have lt_8 : ((84 : Int64)).toInt = 84 := rfl; have lt_9 : ((85 : Int64)).toInt = 85 := rfl; have lt_10 : ((87 : Int64)).toInt = 87 := rfl; have lt_11 : ((90 : Int64)).toInt = 90 := rfl; have lt_12 : ((91 : Int64)).toInt = 91 := rfl; have lt_13 : ((92 : Int64)).toInt = 92 := rfl; simp only [Int32.lt_iff_toInt_lt, Int64.lt_iff_toInt_lt, ← Int32.toInt_inj, ← Int64.toInt_inj] at hz hq103_2_0 hq103_2_1 hq103_2_2 hq115_13_0 hq115_13_1 hq115_13_2 hq115_13_3 hq115_13_4 hq115_13_5 hq115_13_6 hq115_13_7 hq115_13_8 hq115_13_9 hq115_13_10 hq115_13_11 hq115_13_12; omega)
      · exact absurd (by apply Decidable.by_contra; intro hz; have lt_0 : ((2 : Int64)).toInt = 2 := rfl; have lt_1 : ((257 : Int64)).toInt = 257 := rfl; have lt_2 : ((85 : Int64)).toInt = 85 := rfl; simp only [Int32.lt_iff_toInt_lt, Int64.lt_iff_toInt_lt, ← Int32.toInt_inj, ← Int64.toInt_inj] at hz hq103_2_0 hq103_2_1 hq103_2_2 hq115_14_0 hq115_14_1; omega) hq115_14_2
    · have f121 : Old Z n0 h103 := O0.keep K103 all0
      obtain ⟨_, _, ⟨T120, L120, k120, n120⟩, -, X120, ⟨Lc120, hQ120, l120, y120, z120⟩, st120⟩ := Jvm.LawKit.callS X103 hx (y := (⟨"com/example/aeacus/aeacus/audit/SyscallOfPinLaw", "expected", "(J)Lcom/example/aeacus/aeacus/audit/Syscall;"⟩ : MethodName)) hown (mvT hZ (hw _ (List.mem_of_getElem? (i := 40) rfl))) (mvT hZ (hw _ (List.mem_of_getElem? (i := 41) rfl))) (mvT hZ (hw _ (List.mem_of_getElem? (i := 2) rfl))) (mvT hZ (hw _ (List.mem_of_getElem? (i := 42) rfl))) (by decide) (backOf (W := 1) (rmExp l Z a0 hw [] q0_ w_OPEN w_CREAT w_OPENAT w_RENAME w_RENAMEAT w_RENAMEAT2 w_UNLINK w_UNLINKAT w_RMDIR w_CHMOD w_FCHMOD w_FCHMODAT w_CHOWN w_FCHOWNAT w__VALUES k_ h103 n0 f121 P0 P1 P2 P3 P4 P5 P6 P7 P8 P9 P10 P11 P12 P13 P14 P15 P16 P17 P18 P19 P20 P21 P22 P23 P24 P25 P26 P27 P28 P29 P30 P31 P32 P33 P34 P35 P36 P37 P38 P39 P40 P41 P42 P43 P44) hZ (hw _ (List.mem_of_getElem? (i := 42) rfl)) (hw _ (List.mem_of_getElem? (i := 2) rfl)) (by decide) (by decide)) (g := (mkF m 28 #[.val (.long q0_), .second, .val (.int p1_), .val (.int (p1_ &&& (31 : Int32))), .val (.long q0_), .second] [(.long q0_), (.ref w_RENAME)])) rfl (by rw [hml]; rfl) (argsL := [(.long q0_)]) (rest := [(.ref w_RENAME)]) (lenOf pd_2 rfl) rfl (by show 2 * 0 + _ ≤ _; exact Nat.le_of_eq rfl) (hb hby at_28) (fun _ _ => ⟨rfl, e103, (by decide : 1 + 0 ≤ _), (by decide : 14 + 0 ≤ _)⟩)
      dsimp only [Pt.U, Pt.locs, Pt.cells, Pt.slots] at X120 l120 y120 z120 st120 hQ120
      subst l120 y120 z120
      obtain ⟨h120, e120⟩ : ∃ z, T120.heap = z := ⟨_, rfl⟩
      rw [e120] at hQ120
      obtain ⟨rr120, rfl, hs120, N120q, hh120⟩ := hQ120
      have N122 := Fr.app N104 N120q
      have e120' : T120.heap = h103 := e120.trans hh120
      rcases hs120 with ⟨rfl, hq120_0_0⟩ | ⟨rfl, hq120_1_0, hq120_1_1⟩ | ⟨rfl, hq120_2_0, hq120_2_1, hq120_2_2⟩ | ⟨rfl, hq120_3_0, hq120_3_1, hq120_3_2, hq120_3_3⟩ | ⟨rfl, hq120_4_0, hq120_4_1, hq120_4_2, hq120_4_3, hq120_4_4⟩ | ⟨rfl, hq120_5_0, hq120_5_1, hq120_5_2, hq120_5_3, hq120_5_4, hq120_5_5⟩ | ⟨rfl, hq120_6_0, hq120_6_1, hq120_6_2, hq120_6_3, hq120_6_4, hq120_6_5, hq120_6_6⟩ | ⟨rfl, hq120_7_0, hq120_7_1, hq120_7_2, hq120_7_3, hq120_7_4, hq120_7_5, hq120_7_6, hq120_7_7⟩ | ⟨rfl, hq120_8_0, hq120_8_1, hq120_8_2, hq120_8_3, hq120_8_4, hq120_8_5, hq120_8_6, hq120_8_7, hq120_8_8⟩ | ⟨rfl, hq120_9_0, hq120_9_1, hq120_9_2, hq120_9_3, hq120_9_4, hq120_9_5, hq120_9_6, hq120_9_7, hq120_9_8, hq120_9_9⟩ | ⟨rfl, hq120_10_0, hq120_10_1, hq120_10_2, hq120_10_3, hq120_10_4, hq120_10_5, hq120_10_6, hq120_10_7, hq120_10_8, hq120_10_9, hq120_10_10⟩ | ⟨rfl, hq120_11_0, hq120_11_1, hq120_11_2, hq120_11_3, hq120_11_4, hq120_11_5, hq120_11_6, hq120_11_7, hq120_11_8, hq120_11_9, hq120_11_10, hq120_11_11⟩ | ⟨rfl, hq120_12_0, hq120_12_1, hq120_12_2, hq120_12_3, hq120_12_4, hq120_12_5, hq120_12_6, hq120_12_7, hq120_12_8, hq120_12_9, hq120_12_10, hq120_12_11, hq120_12_12⟩ | ⟨rfl, hq120_13_0, hq120_13_1, hq120_13_2, hq120_13_3, hq120_13_4, hq120_13_5, hq120_13_6, hq120_13_7, hq120_13_8, hq120_13_9, hq120_13_10, hq120_13_11, hq120_13_12, hq120_13_13⟩ | ⟨rfl, hq120_14_0, hq120_14_1, hq120_14_2, hq120_14_3, hq120_14_4, hq120_14_5, hq120_14_6, hq120_14_7, hq120_14_8, hq120_14_9, hq120_14_10, hq120_14_11, hq120_14_12, hq120_14_13⟩
      · exact absurd hq120_0_0 (by intro hz; have lt_0 : ((2 : Int64)).toInt = 2 := rfl; have lt_1 : ((257 : Int64)).toInt = 257 := rfl; have lt_2 : ((82 : Int64)).toInt = 82 := rfl; have lt_3 : ((85 : Int64)).toInt = 85 := rfl; simp only [Int32.lt_iff_toInt_lt, Int64.lt_iff_toInt_lt, ← Int32.toInt_inj, ← Int64.toInt_inj] at hz hq103_3_0 hq103_3_1 hq103_3_2 hq103_3_3; omega)
      · exact absurd hq120_1_1 (by intro hz; have lt_0 : ((2 : Int64)).toInt = 2 := rfl; have lt_1 : ((257 : Int64)).toInt = 257 := rfl; have lt_2 : ((82 : Int64)).toInt = 82 := rfl; have lt_3 : ((85 : Int64)).toInt = 85 := rfl; simp only [Int32.lt_iff_toInt_lt, Int64.lt_iff_toInt_lt, ← Int32.toInt_inj, ← Int64.toInt_inj] at hz hq103_3_0 hq103_3_1 hq103_3_2 hq103_3_3 hq120_1_0; omega)
      · exact absurd hq120_2_2 (by intro hz; have lt_0 : ((2 : Int64)).toInt = 2 := rfl; have lt_1 : ((257 : Int64)).toInt = 257 := rfl; have lt_2 : ((82 : Int64)).toInt = 82 := rfl; have lt_3 : ((85 : Int64)).toInt = 85 := rfl; simp only [Int32.lt_iff_toInt_lt, Int64.lt_iff_toInt_lt, ← Int32.toInt_inj, ← Int64.toInt_inj] at hz hq103_3_0 hq103_3_1 hq103_3_2 hq103_3_3 hq120_2_0 hq120_2_1; omega)
      · have pre123 : ∀ t, Steps p.tables e below (T120.setTop (mkF m 39 #[.val (.long q0_), .second, .val (.int p1_), .val (.int (p1_ &&& (31 : Int32))), .val (.long q0_), .second] [(.int (1 : Int32))])) t → Steps p.tables e below (s₁.setTop (entryFrame m #[(.long q0_), (.int p1_)] maxLocals)) t := by
          intro t kt
          refine pre1 t ?_
          show Steps p.tables e below (s₁.setTop (mkF m 8 #[.val (.long q0_), .second, .val (.int p1_), .val (.int (p1_ &&& (31 : Int32))), .unset, .unset] [(.int (14 : Int32)), (.int (p1_ &&& (31 : Int32)))])) _
          refine XS.icmpYes X0.here hx rfl (pc0 := 8) (pc' := 18) rfl (hb hby at_8) rfl (flt hc2).2.1 (by decide) (by decide) ?_
          show Steps p.tables e below (s₁.setTop (mkF m 18 #[.val (.long q0_), .second, .val (.int p1_), .val (.int (p1_ &&& (31 : Int32))), .unset, .unset] [])) _
          refine XS.lloadN X0.here hx rfl (hb hby at_18) rfl ?_
          show Steps p.tables e below (s₁.setTop (mkF m 19 #[.val (.long q0_), .second, .val (.int p1_), .val (.int (p1_ &&& (31 : Int32))), .unset, .unset] [(.long q0_)])) _
          refine XS.lstore X0.here hx rfl (hb hby at_19) rfl (l' := #[.val (.long q0_), .second, .val (.int p1_), .val (.int (p1_ &&& (31 : Int32))), .val (.long q0_), .second]) rfl ?_
          show Steps p.tables e below (s₁.setTop (mkF m 21 #[.val (.long q0_), .second, .val (.int p1_), .val (.int (p1_ &&& (31 : Int32))), .val (.long q0_), .second] [])) _
          refine XS.lload X0.here hx rfl (hb hby at_21) rfl ?_
          show Steps p.tables e below (s₁.setTop (mkF m 23 #[.val (.long q0_), .second, .val (.int p1_), .val (.int (p1_ &&& (31 : Int32))), .val (.long q0_), .second] [(.long q0_)])) _
          refine st103 _ ?_
          show Steps p.tables e below (T103.setTop (mkF m 26 #[.val (.long q0_), .second, .val (.int p1_), .val (.int (p1_ &&& (31 : Int32))), .val (.long q0_), .second] [(.ref w_RENAME)])) _
          refine XS.lload X103.here hx rfl (hb hby at_26) rfl ?_
          show Steps p.tables e below (T103.setTop (mkF m 28 #[.val (.long q0_), .second, .val (.int p1_), .val (.int (p1_ &&& (31 : Int32))), .val (.long q0_), .second] [(.long q0_), (.ref w_RENAME)])) _
          refine st120 _ ?_
          show Steps p.tables e below (T120.setTop (mkF m 31 #[.val (.long q0_), .second, .val (.int p1_), .val (.int (p1_ &&& (31 : Int32))), .val (.long q0_), .second] [(.ref w_RENAME), (.ref w_RENAME)])) _
          refine Jvm.RoadKit.acmp (g := (mkF m 31 #[.val (.long q0_), .second, .val (.int p1_), .val (.int (p1_ &&& (31 : Int32))), .val (.long q0_), .second] [(.ref w_RENAME), (.ref w_RENAME)])) X120 hx rfl rfl rfl (pc0 := 31) (pc' := 34) (same := true) rfl (hb hby at_31) rfl (decide_eq_true rfl) (by decide) (by decide) ?_
          show Steps p.tables e below (T120.setTop (mkF m 34 #[.val (.long q0_), .second, .val (.int p1_), .val (.int (p1_ &&& (31 : Int32))), .val (.long q0_), .second] [])) _
          refine XS.iconst X120.here hx rfl (hb hby at_34) ?_
          show Steps p.tables e below (T120.setTop (mkF m 35 #[.val (.long q0_), .second, .val (.int p1_), .val (.int (p1_ &&& (31 : Int32))), .val (.long q0_), .second] [(.int (1 : Int32))])) _
          refine XS.goto X120.here hx rfl (pc0 := 35) (pc' := 39) rfl (hb hby at_35) (by decide) (by decide) ?_
          exact kt
        obtain ⟨fs, hr, hrun, hended, hW, hsame⟩ := X120.leave (v := some (.int (1 : Int32))) (fun h => by rw [Bd.returns] at h; cases h)
        refine ⟨_, _, pre123 _ (retN X120 hx (t := .boolean) Bd.returns (by simp) (hb hby at_39) hr), hrun, hended, _, _, rfl, ?_, ⟨_, rfl⟩, hW, hsame.mono (by decide) (by decide)⟩
        show QLaw Z q0_ p1_ w_OPEN w_CREAT w_OPENAT w_RENAME w_RENAMEAT w_RENAMEAT2 w_UNLINK w_UNLINKAT w_RMDIR w_CHMOD w_FCHMOD w_FCHMODAT w_CHOWN w_FCHOWNAT w__VALUES k_ h0 n0 _ T120.heap _
        rw [e120']
        exact ⟨rfl, N122⟩
      · exact absurd hq120_4_4 (by intro hz; have lt_0 : ((2 : Int64)).toInt = 2 := rfl; have lt_1 : ((257 : Int64)).toInt = 257 := rfl; have lt_2 : ((264 : Int64)).toInt = 264 := rfl; have lt_3 : ((82 : Int64)).toInt = 82 := rfl; have lt_4 : ((85 : Int64)).toInt = 85 := rfl; simp only [Int32.lt_iff_toInt_lt, Int64.lt_iff_toInt_lt, ← Int32.toInt_inj, ← Int64.toInt_inj] at hz hq103_3_0 hq103_3_1 hq103_3_2 hq103_3_3 hq120_4_0 hq120_4_1 hq120_4_2 hq120_4_3; omega)
      · exact absurd hq120_5_5 (by intro hz; have lt_0 : ((2 : Int64)).toInt = 2 := rfl; have lt_1 : ((257 : Int64)).toInt = 257 := rfl; have lt_2 : ((264 : Int64)).toInt = 264 := rfl; have lt_3 : ((316 : Int64)).toInt = 316 := rfl; have lt_4 : ((82 : Int64)).toInt = 82 := rfl; have lt_5 : ((85 : Int64)).toInt = 85 := rfl; simp only [Int32.lt_iff_toInt_lt, Int64.lt_iff_toInt_lt, ← Int32.toInt_inj, ← Int64.toInt_inj] at hz hq103_3_0 hq103_3_1 hq103_3_2 hq103_3_3 hq120_5_0 hq120_5_1 hq120_5_2 hq120_5_3 hq120_5_4; omega)
      · exact absurd hq120_6_6 (by intro hz; have lt_0 : ((2 : Int64)).toInt = 2 := rfl; have lt_1 : ((257 : Int64)).toInt = 257 := rfl; have lt_2 : ((264 : Int64)).toInt = 264 := rfl; have lt_3 : ((316 : Int64)).toInt = 316 := rfl; have lt_4 : ((82 : Int64)).toInt = 82 := rfl; have lt_5 : ((85 : Int64)).toInt = 85 := rfl; have lt_6 : ((87 : Int64)).toInt = 87 := rfl; simp only [Int32.lt_iff_toInt_lt, Int64.lt_iff_toInt_lt, ← Int32.toInt_inj, ← Int64.toInt_inj] at hz hq103_3_0 hq103_3_1 hq103_3_2 hq103_3_3 hq120_6_0 hq120_6_1 hq120_6_2 hq120_6_3 hq120_6_4 hq120_6_5; omega)
      · exact absurd hq120_7_7 (by intro hz; have lt_0 : ((2 : Int64)).toInt = 2 := rfl; have lt_1 : ((257 : Int64)).toInt = 257 := rfl; have lt_2 : ((263 : Int64)).toInt = 263 := rfl; have lt_3 : ((264 : Int64)).toInt = 264 := rfl; have lt_4 : ((316 : Int64)).toInt = 316 := rfl; have lt_5 : ((82 : Int64)).toInt = 82 := rfl; have lt_6 : ((85 : Int64)).toInt = 85 := rfl; have lt_7 : ((87 : Int64)).toInt = 87 := rfl; simp only [Int32.lt_iff_toInt_lt, Int64.lt_iff_toInt_lt, ← Int32.toInt_inj, ← Int64.toInt_inj] at hz hq103_3_0 hq103_3_1 hq103_3_2 hq103_3_3 hq120_7_0 hq120_7_1 hq120_7_2 hq120_7_3 hq120_7_4 hq120_7_5 hq120_7_6; omega)
      · exact absurd hq120_8_8 (by intro hz; have lt_0 : ((2 : Int64)).toInt = 2 := rfl; have lt_1 : ((257 : Int64)).toInt = 257 := rfl; have lt_2 : ((263 : Int64)).toInt = 263 := rfl; have lt_3 : ((264 : Int64)).toInt = 264 := rfl; have lt_4 : ((316 : Int64)).toInt = 316 := rfl; have lt_5 : ((82 : Int64)).toInt = 82 := rfl; have lt_6 : ((84 : Int64)).toInt = 84 := rfl; have lt_7 : ((85 : Int64)).toInt = 85 := rfl; have lt_8 : ((87 : Int64)).toInt = 87 := rfl; simp only [Int32.lt_iff_toInt_lt, Int64.lt_iff_toInt_lt, ← Int32.toInt_inj, ← Int64.toInt_inj] at hz hq103_3_0 hq103_3_1 hq103_3_2 hq103_3_3 hq120_8_0 hq120_8_1 hq120_8_2 hq120_8_3 hq120_8_4 hq120_8_5 hq120_8_6 hq120_8_7; omega)
      · exact absurd hq120_9_9 (by intro hz; have lt_0 : ((2 : Int64)).toInt = 2 := rfl; have lt_1 : ((257 : Int64)).toInt = 257 := rfl; have lt_2 : ((263 : Int64)).toInt = 263 := rfl; have lt_3 : ((264 : Int64)).toInt = 264 := rfl; have lt_4 : ((316 : Int64)).toInt = 316 := rfl; have lt_5 : ((82 : Int64)).toInt = 82 := rfl; have lt_6 : ((84 : Int64)).toInt = 84 := rfl; have lt_7 : ((85 : Int64)).toInt = 85 := rfl; have lt_8 : ((87 : Int64)).toInt = 87 := rfl; have lt_9 : ((90 : Int64)).toInt = 90 := rfl; simp only [Int32.lt_iff_toInt_lt, Int64.lt_iff_toInt_lt, ← Int32.toInt_inj, ← Int64.toInt_inj] at hz hq103_3_0 hq103_3_1 hq103_3_2 hq103_3_3 hq120_9_0 hq120_9_1 hq120_9_2 hq120_9_3 hq120_9_4 hq120_9_5 hq120_9_6 hq120_9_7 hq120_9_8; omega)
      · exact absurd hq120_10_10 (by intro hz; have lt_0 : ((2 : Int64)).toInt = 2 := rfl; have lt_1 : ((257 : Int64)).toInt = 257 := rfl; have lt_2 : ((263 : Int64)).toInt = 263 := rfl; have lt_3 : ((264 : Int64)).toInt = 264 := rfl; have lt_4 : ((316 : Int64)).toInt = 316 := rfl; have lt_5 : ((82 : Int64)).toInt = 82 := rfl; have lt_6 : ((84 : Int64)).toInt = 84 := rfl; have lt_7 : ((85 : Int64)).toInt = 85 := rfl; have lt_8 : ((87 : Int64)).toInt = 87 := rfl; have lt_9 : ((90 : Int64)).toInt = 90 := rfl; have lt_10 : ((91 : Int64)).toInt = 91 := rfl; simp only [Int32.lt_iff_toInt_lt, Int64.lt_iff_toInt_lt, ← Int32.toInt_inj, ← Int64.toInt_inj] at hz hq103_3_0 hq103_3_1 hq103_3_2 hq103_3_3 hq120_10_0 hq120_10_1 hq120_10_2 hq120_10_3 hq120_10_4 hq120_10_5 hq120_10_6 hq120_10_7 hq120_10_8 hq120_10_9; omega)
      · exact absurd hq120_11_11 (by intro hz; have lt_0 : ((2 : Int64)).toInt = 2 := rfl; have lt_1 : ((257 : Int64)).toInt = 257 := rfl; have lt_2 : ((263 : Int64)).toInt = 263 := rfl; have lt_3 : ((264 : Int64)).toInt = 264 := rfl; have lt_4 : ((268 : Int64)).toInt = 268 := rfl; have lt_5 : ((316 : Int64)).toInt = 316 := rfl; have lt_6 : ((82 : Int64)).toInt = 82 := rfl; have lt_7 : ((84 : Int64)).toInt = 84 := rfl; have lt_8 : ((85 : Int64)).toInt = 85 := rfl; have lt_9 : ((87 : Int64)).toInt = 87 := rfl; have lt_10 : ((90 : Int64)).toInt = 90 := rfl; have lt_11 : ((91 : Int64)).toInt = 91 := rfl; simp only [Int32.lt_iff_toInt_lt, Int64.lt_iff_toInt_lt, ← Int32.toInt_inj, ← Int64.toInt_inj] at hz hq103_3_0 hq103_3_1 hq103_3_2 hq103_3_3 hq120_11_0 hq120_11_1 hq120_11_2 hq120_11_3 hq120_11_4 hq120_11_5 hq120_11_6 hq120_11_7 hq120_11_8 hq120_11_9 hq120_11_10; omega)
      · exact absurd hq120_12_12 (by intro hz; have lt_0 : ((2 : Int64)).toInt = 2 := rfl; have lt_1 : ((257 : Int64)).toInt = 257 := rfl; have lt_2 : ((263 : Int64)).toInt = 263 := rfl; have lt_3 : ((264 : Int64)).toInt = 264 := rfl; have lt_4 : ((268 : Int64)).toInt = 268 := rfl; have lt_5 : ((316 : Int64)).toInt = 316 := rfl; have lt_6 : ((82 : Int64)).toInt = 82 := rfl; have lt_7 : ((84 : Int64)).toInt = 84 := rfl; have lt_8 : ((85 : Int64)).toInt = 85 := rfl; have lt_9 : ((87 : Int64)).toInt = 87 := rfl; have lt_10 : ((90 : Int64)).toInt = 90 := rfl; have lt_11 : ((91 : Int64)).toInt = 91 := rfl; have lt_12 : ((92 : Int64)).toInt = 92 := rfl; simp only [Int32.lt_iff_toInt_lt, Int64.lt_iff_toInt_lt, ← Int32.toInt_inj, ← Int64.toInt_inj] at hz hq103_3_0 hq103_3_1 hq103_3_2 hq103_3_3 hq120_12_0 hq120_12_1 hq120_12_2 hq120_12_3 hq120_12_4 hq120_12_5 hq120_12_6 hq120_12_7 hq120_12_8 hq120_12_9 hq120_12_10 hq120_12_11; omega)
      · exact absurd hq120_13_13 (by intro hz; have lt_0 : ((2 : Int64)).toInt = 2 := rfl; have lt_1 : ((257 : Int64)).toInt = 257 := rfl; have lt_2 : ((260 : Int64)).toInt = 260 := rfl; have lt_3 : ((263 : Int64)).toInt = 263 := rfl; have lt_4 : ((264 : Int64)).toInt = 264 := rfl; have lt_5 : ((268 : Int64)).toInt = 268 := rfl; have lt_6 : ((316 : Int64)).toInt = 316 := rfl; have lt_7 : ((82 : Int64)).toInt = 82 := rfl; have lt_8 : ((84 : Int64)).toInt = 84 := rfl; have lt_9 : ((85 : Int64)).toInt = 85 := rfl; have lt_10 : ((87 : Int64)).toInt = 87 := rfl; have lt_11 : ((90 : Int64)).toInt = 90 := rfl; have lt_12 : ((91 : Int64)).toInt = 91 := rfl; have lt_13 : ((92 : Int64)).toInt = 92 := rfl; simp only [Int32.lt_iff_toInt_lt, Int64.lt_iff_toInt_lt, ← Int32.toInt_inj, ← Int64.toInt_inj] at hz hq103_3_0 hq103_3_1 hq103_3_2 hq103_3_3 hq120_13_0 hq120_13_1 hq120_13_2 hq120_13_3 hq120_13_4 hq120_13_5 hq120_13_6 hq120_13_7 hq120_13_8 hq120_13_9 hq120_13_10 hq120_13_11 hq120_13_12; omega)
      · exact absurd (by apply Decidable.by_contra; intro hz; have lt_0 : ((2 : Int64)).toInt = 2 := rfl; have lt_1 : ((257 : Int64)).toInt = 257 := rfl; have lt_2 : ((82 : Int64)).toInt = 82 := rfl; have lt_3 : ((85 : Int64)).toInt = 85 := rfl; simp only [Int32.lt_iff_toInt_lt, Int64.lt_iff_toInt_lt, ← Int32.toInt_inj, ← Int64.toInt_inj] at hz hq103_3_0 hq103_3_1 hq103_3_2 hq103_3_3 hq120_14_0 hq120_14_1 hq120_14_2; omega) hq120_14_3
    · have f126 : Old Z n0 h103 := O0.keep K103 all0
      obtain ⟨_, _, ⟨T125, L125, k125, n125⟩, -, X125, ⟨Lc125, hQ125, l125, y125, z125⟩, st125⟩ := Jvm.LawKit.callS X103 hx (y := (⟨"com/example/aeacus/aeacus/audit/SyscallOfPinLaw", "expected", "(J)Lcom/example/aeacus/aeacus/audit/Syscall;"⟩ : MethodName)) hown (mvT hZ (hw _ (List.mem_of_getElem? (i := 40) rfl))) (mvT hZ (hw _ (List.mem_of_getElem? (i := 41) rfl))) (mvT hZ (hw _ (List.mem_of_getElem? (i := 2) rfl))) (mvT hZ (hw _ (List.mem_of_getElem? (i := 42) rfl))) (by decide) (backOf (W := 1) (rmExp l Z a0 hw [] q0_ w_OPEN w_CREAT w_OPENAT w_RENAME w_RENAMEAT w_RENAMEAT2 w_UNLINK w_UNLINKAT w_RMDIR w_CHMOD w_FCHMOD w_FCHMODAT w_CHOWN w_FCHOWNAT w__VALUES k_ h103 n0 f126 P0 P1 P2 P3 P4 P5 P6 P7 P8 P9 P10 P11 P12 P13 P14 P15 P16 P17 P18 P19 P20 P21 P22 P23 P24 P25 P26 P27 P28 P29 P30 P31 P32 P33 P34 P35 P36 P37 P38 P39 P40 P41 P42 P43 P44) hZ (hw _ (List.mem_of_getElem? (i := 42) rfl)) (hw _ (List.mem_of_getElem? (i := 2) rfl)) (by decide) (by decide)) (g := (mkF m 28 #[.val (.long q0_), .second, .val (.int p1_), .val (.int (p1_ &&& (31 : Int32))), .val (.long q0_), .second] [(.long q0_), (.ref w_RENAMEAT)])) rfl (by rw [hml]; rfl) (argsL := [(.long q0_)]) (rest := [(.ref w_RENAMEAT)]) (lenOf pd_2 rfl) rfl (by show 2 * 0 + _ ≤ _; exact Nat.le_of_eq rfl) (hb hby at_28) (fun _ _ => ⟨rfl, e103, (by decide : 1 + 0 ≤ _), (by decide : 14 + 0 ≤ _)⟩)
      dsimp only [Pt.U, Pt.locs, Pt.cells, Pt.slots] at X125 l125 y125 z125 st125 hQ125
      subst l125 y125 z125
      obtain ⟨h125, e125⟩ : ∃ z, T125.heap = z := ⟨_, rfl⟩
      rw [e125] at hQ125
      obtain ⟨rr125, rfl, hs125, N125q, hh125⟩ := hQ125
      have N127 := Fr.app N104 N125q
      have e125' : T125.heap = h103 := e125.trans hh125
      rcases hs125 with ⟨rfl, hq125_0_0⟩ | ⟨rfl, hq125_1_0, hq125_1_1⟩ | ⟨rfl, hq125_2_0, hq125_2_1, hq125_2_2⟩ | ⟨rfl, hq125_3_0, hq125_3_1, hq125_3_2, hq125_3_3⟩ | ⟨rfl, hq125_4_0, hq125_4_1, hq125_4_2, hq125_4_3, hq125_4_4⟩ | ⟨rfl, hq125_5_0, hq125_5_1, hq125_5_2, hq125_5_3, hq125_5_4, hq125_5_5⟩ | ⟨rfl, hq125_6_0, hq125_6_1, hq125_6_2, hq125_6_3, hq125_6_4, hq125_6_5, hq125_6_6⟩ | ⟨rfl, hq125_7_0, hq125_7_1, hq125_7_2, hq125_7_3, hq125_7_4, hq125_7_5, hq125_7_6, hq125_7_7⟩ | ⟨rfl, hq125_8_0, hq125_8_1, hq125_8_2, hq125_8_3, hq125_8_4, hq125_8_5, hq125_8_6, hq125_8_7, hq125_8_8⟩ | ⟨rfl, hq125_9_0, hq125_9_1, hq125_9_2, hq125_9_3, hq125_9_4, hq125_9_5, hq125_9_6, hq125_9_7, hq125_9_8, hq125_9_9⟩ | ⟨rfl, hq125_10_0, hq125_10_1, hq125_10_2, hq125_10_3, hq125_10_4, hq125_10_5, hq125_10_6, hq125_10_7, hq125_10_8, hq125_10_9, hq125_10_10⟩ | ⟨rfl, hq125_11_0, hq125_11_1, hq125_11_2, hq125_11_3, hq125_11_4, hq125_11_5, hq125_11_6, hq125_11_7, hq125_11_8, hq125_11_9, hq125_11_10, hq125_11_11⟩ | ⟨rfl, hq125_12_0, hq125_12_1, hq125_12_2, hq125_12_3, hq125_12_4, hq125_12_5, hq125_12_6, hq125_12_7, hq125_12_8, hq125_12_9, hq125_12_10, hq125_12_11, hq125_12_12⟩ | ⟨rfl, hq125_13_0, hq125_13_1, hq125_13_2, hq125_13_3, hq125_13_4, hq125_13_5, hq125_13_6, hq125_13_7, hq125_13_8, hq125_13_9, hq125_13_10, hq125_13_11, hq125_13_12, hq125_13_13⟩ | ⟨rfl, hq125_14_0, hq125_14_1, hq125_14_2, hq125_14_3, hq125_14_4, hq125_14_5, hq125_14_6, hq125_14_7, hq125_14_8, hq125_14_9, hq125_14_10, hq125_14_11, hq125_14_12, hq125_14_13⟩
      · exact absurd hq125_0_0 (by intro hz; have lt_0 : ((2 : Int64)).toInt = 2 := rfl; have lt_1 : ((257 : Int64)).toInt = 257 := rfl; have lt_2 : ((264 : Int64)).toInt = 264 := rfl; have lt_3 : ((82 : Int64)).toInt = 82 := rfl; have lt_4 : ((85 : Int64)).toInt = 85 := rfl; simp only [Int32.lt_iff_toInt_lt, Int64.lt_iff_toInt_lt, ← Int32.toInt_inj, ← Int64.toInt_inj] at hz hq103_4_0 hq103_4_1 hq103_4_2 hq103_4_3 hq103_4_4; omega)
      · exact absurd hq125_1_1 (by intro hz; have lt_0 : ((2 : Int64)).toInt = 2 := rfl; have lt_1 : ((257 : Int64)).toInt = 257 := rfl; have lt_2 : ((264 : Int64)).toInt = 264 := rfl; have lt_3 : ((82 : Int64)).toInt = 82 := rfl; have lt_4 : ((85 : Int64)).toInt = 85 := rfl; simp only [Int32.lt_iff_toInt_lt, Int64.lt_iff_toInt_lt, ← Int32.toInt_inj, ← Int64.toInt_inj] at hz hq103_4_0 hq103_4_1 hq103_4_2 hq103_4_3 hq103_4_4 hq125_1_0; omega)
      · exact absurd hq125_2_2 (by intro hz; have lt_0 : ((2 : Int64)).toInt = 2 := rfl; have lt_1 : ((257 : Int64)).toInt = 257 := rfl; have lt_2 : ((264 : Int64)).toInt = 264 := rfl; have lt_3 : ((82 : Int64)).toInt = 82 := rfl; have lt_4 : ((85 : Int64)).toInt = 85 := rfl; simp only [Int32.lt_iff_toInt_lt, Int64.lt_iff_toInt_lt, ← Int32.toInt_inj, ← Int64.toInt_inj] at hz hq103_4_0 hq103_4_1 hq103_4_2 hq103_4_3 hq103_4_4 hq125_2_0 hq125_2_1; omega)
      · exact absurd hq125_3_3 (by intro hz; have lt_0 : ((2 : Int64)).toInt = 2 := rfl; have lt_1 : ((257 : Int64)).toInt = 257 := rfl; have lt_2 : ((264 : Int64)).toInt = 264 := rfl; have lt_3 : ((82 : Int64)).toInt = 82 := rfl; have lt_4 : ((85 : Int64)).toInt = 85 := rfl; simp only [Int32.lt_iff_toInt_lt, Int64.lt_iff_toInt_lt, ← Int32.toInt_inj, ← Int64.toInt_inj] at hz hq103_4_0 hq103_4_1 hq103_4_2 hq103_4_3 hq103_4_4 hq125_3_0 hq125_3_1 hq125_3_2; omega)
      · have pre128 : ∀ t, Steps p.tables e below (T125.setTop (mkF m 39 #[.val (.long q0_), .second, .val (.int p1_), .val (.int (p1_ &&& (31 : Int32))), .val (.long q0_), .second] [(.int (1 : Int32))])) t → Steps p.tables e below (s₁.setTop (entryFrame m #[(.long q0_), (.int p1_)] maxLocals)) t := by
          intro t kt
          refine pre1 t ?_
          show Steps p.tables e below (s₁.setTop (mkF m 8 #[.val (.long q0_), .second, .val (.int p1_), .val (.int (p1_ &&& (31 : Int32))), .unset, .unset] [(.int (14 : Int32)), (.int (p1_ &&& (31 : Int32)))])) _
          refine XS.icmpYes X0.here hx rfl (pc0 := 8) (pc' := 18) rfl (hb hby at_8) rfl (flt hc2).2.1 (by decide) (by decide) ?_
          show Steps p.tables e below (s₁.setTop (mkF m 18 #[.val (.long q0_), .second, .val (.int p1_), .val (.int (p1_ &&& (31 : Int32))), .unset, .unset] [])) _
          refine XS.lloadN X0.here hx rfl (hb hby at_18) rfl ?_
          show Steps p.tables e below (s₁.setTop (mkF m 19 #[.val (.long q0_), .second, .val (.int p1_), .val (.int (p1_ &&& (31 : Int32))), .unset, .unset] [(.long q0_)])) _
          refine XS.lstore X0.here hx rfl (hb hby at_19) rfl (l' := #[.val (.long q0_), .second, .val (.int p1_), .val (.int (p1_ &&& (31 : Int32))), .val (.long q0_), .second]) rfl ?_
          show Steps p.tables e below (s₁.setTop (mkF m 21 #[.val (.long q0_), .second, .val (.int p1_), .val (.int (p1_ &&& (31 : Int32))), .val (.long q0_), .second] [])) _
          refine XS.lload X0.here hx rfl (hb hby at_21) rfl ?_
          show Steps p.tables e below (s₁.setTop (mkF m 23 #[.val (.long q0_), .second, .val (.int p1_), .val (.int (p1_ &&& (31 : Int32))), .val (.long q0_), .second] [(.long q0_)])) _
          refine st103 _ ?_
          show Steps p.tables e below (T103.setTop (mkF m 26 #[.val (.long q0_), .second, .val (.int p1_), .val (.int (p1_ &&& (31 : Int32))), .val (.long q0_), .second] [(.ref w_RENAMEAT)])) _
          refine XS.lload X103.here hx rfl (hb hby at_26) rfl ?_
          show Steps p.tables e below (T103.setTop (mkF m 28 #[.val (.long q0_), .second, .val (.int p1_), .val (.int (p1_ &&& (31 : Int32))), .val (.long q0_), .second] [(.long q0_), (.ref w_RENAMEAT)])) _
          refine st125 _ ?_
          show Steps p.tables e below (T125.setTop (mkF m 31 #[.val (.long q0_), .second, .val (.int p1_), .val (.int (p1_ &&& (31 : Int32))), .val (.long q0_), .second] [(.ref w_RENAMEAT), (.ref w_RENAMEAT)])) _
          refine Jvm.RoadKit.acmp (g := (mkF m 31 #[.val (.long q0_), .second, .val (.int p1_), .val (.int (p1_ &&& (31 : Int32))), .val (.long q0_), .second] [(.ref w_RENAMEAT), (.ref w_RENAMEAT)])) X125 hx rfl rfl rfl (pc0 := 31) (pc' := 34) (same := true) rfl (hb hby at_31) rfl (decide_eq_true rfl) (by decide) (by decide) ?_
          show Steps p.tables e below (T125.setTop (mkF m 34 #[.val (.long q0_), .second, .val (.int p1_), .val (.int (p1_ &&& (31 : Int32))), .val (.long q0_), .second] [])) _
          refine XS.iconst X125.here hx rfl (hb hby at_34) ?_
          show Steps p.tables e below (T125.setTop (mkF m 35 #[.val (.long q0_), .second, .val (.int p1_), .val (.int (p1_ &&& (31 : Int32))), .val (.long q0_), .second] [(.int (1 : Int32))])) _
          refine XS.goto X125.here hx rfl (pc0 := 35) (pc' := 39) rfl (hb hby at_35) (by decide) (by decide) ?_
          exact kt
        obtain ⟨fs, hr, hrun, hended, hW, hsame⟩ := X125.leave (v := some (.int (1 : Int32))) (fun h => by rw [Bd.returns] at h; cases h)
        refine ⟨_, _, pre128 _ (retN X125 hx (t := .boolean) Bd.returns (by simp) (hb hby at_39) hr), hrun, hended, _, _, rfl, ?_, ⟨_, rfl⟩, hW, hsame.mono (by decide) (by decide)⟩
        show QLaw Z q0_ p1_ w_OPEN w_CREAT w_OPENAT w_RENAME w_RENAMEAT w_RENAMEAT2 w_UNLINK w_UNLINKAT w_RMDIR w_CHMOD w_FCHMOD w_FCHMODAT w_CHOWN w_FCHOWNAT w__VALUES k_ h0 n0 _ T125.heap _
        rw [e125']
        exact ⟨rfl, N127⟩
      · exact absurd hq125_5_5 (by intro hz; have lt_0 : ((2 : Int64)).toInt = 2 := rfl; have lt_1 : ((257 : Int64)).toInt = 257 := rfl; have lt_2 : ((264 : Int64)).toInt = 264 := rfl; have lt_3 : ((316 : Int64)).toInt = 316 := rfl; have lt_4 : ((82 : Int64)).toInt = 82 := rfl; have lt_5 : ((85 : Int64)).toInt = 85 := rfl; simp only [Int32.lt_iff_toInt_lt, Int64.lt_iff_toInt_lt, ← Int32.toInt_inj, ← Int64.toInt_inj] at hz hq103_4_0 hq103_4_1 hq103_4_2 hq103_4_3 hq103_4_4 hq125_5_0 hq125_5_1 hq125_5_2 hq125_5_3 hq125_5_4; omega)
      · exact absurd hq125_6_6 (by intro hz; have lt_0 : ((2 : Int64)).toInt = 2 := rfl; have lt_1 : ((257 : Int64)).toInt = 257 := rfl; have lt_2 : ((264 : Int64)).toInt = 264 := rfl; have lt_3 : ((316 : Int64)).toInt = 316 := rfl; have lt_4 : ((82 : Int64)).toInt = 82 := rfl; have lt_5 : ((85 : Int64)).toInt = 85 := rfl; have lt_6 : ((87 : Int64)).toInt = 87 := rfl; simp only [Int32.lt_iff_toInt_lt, Int64.lt_iff_toInt_lt, ← Int32.toInt_inj, ← Int64.toInt_inj] at hz hq103_4_0 hq103_4_1 hq103_4_2 hq103_4_3 hq103_4_4 hq125_6_0 hq125_6_1 hq125_6_2 hq125_6_3 hq125_6_4 hq125_6_5; omega)
      · exact absurd hq125_7_7 (by intro hz; have lt_0 : ((2 : Int64)).toInt = 2 := rfl; have lt_1 : ((257 : Int64)).toInt = 257 := rfl; have lt_2 : ((263 : Int64)).toInt = 263 := rfl; have lt_3 : ((264 : Int64)).toInt = 264 := rfl; have lt_4 : ((316 : Int64)).toInt = 316 := rfl; have lt_5 : ((82 : Int64)).toInt = 82 := rfl; have lt_6 : ((85 : Int64)).toInt = 85 := rfl; have lt_7 : ((87 : Int64)).toInt = 87 := rfl; simp only [Int32.lt_iff_toInt_lt, Int64.lt_iff_toInt_lt, ← Int32.toInt_inj, ← Int64.toInt_inj] at hz hq103_4_0 hq103_4_1 hq103_4_2 hq103_4_3 hq103_4_4 hq125_7_0 hq125_7_1 hq125_7_2 hq125_7_3 hq125_7_4 hq125_7_5 hq125_7_6; omega)
      · exact absurd hq125_8_8 (by intro hz; have lt_0 : ((2 : Int64)).toInt = 2 := rfl; have lt_1 : ((257 : Int64)).toInt = 257 := rfl; have lt_2 : ((263 : Int64)).toInt = 263 := rfl; have lt_3 : ((264 : Int64)).toInt = 264 := rfl; have lt_4 : ((316 : Int64)).toInt = 316 := rfl; have lt_5 : ((82 : Int64)).toInt = 82 := rfl; have lt_6 : ((84 : Int64)).toInt = 84 := rfl; have lt_7 : ((85 : Int64)).toInt = 85 := rfl; have lt_8 : ((87 : Int64)).toInt = 87 := rfl; simp only [Int32.lt_iff_toInt_lt, Int64.lt_iff_toInt_lt, ← Int32.toInt_inj, ← Int64.toInt_inj] at hz hq103_4_0 hq103_4_1 hq103_4_2 hq103_4_3 hq103_4_4 hq125_8_0 hq125_8_1 hq125_8_2 hq125_8_3 hq125_8_4 hq125_8_5 hq125_8_6 hq125_8_7; omega)
      · exact absurd hq125_9_9 (by intro hz; have lt_0 : ((2 : Int64)).toInt = 2 := rfl; have lt_1 : ((257 : Int64)).toInt = 257 := rfl; have lt_2 : ((263 : Int64)).toInt = 263 := rfl; have lt_3 : ((264 : Int64)).toInt = 264 := rfl; have lt_4 : ((316 : Int64)).toInt = 316 := rfl; have lt_5 : ((82 : Int64)).toInt = 82 := rfl; have lt_6 : ((84 : Int64)).toInt = 84 := rfl; have lt_7 : ((85 : Int64)).toInt = 85 := rfl; have lt_8 : ((87 : Int64)).toInt = 87 := rfl; have lt_9 : ((90 : Int64)).toInt = 90 := rfl; simp only [Int32.lt_iff_toInt_lt, Int64.lt_iff_toInt_lt, ← Int32.toInt_inj, ← Int64.toInt_inj] at hz hq103_4_0 hq103_4_1 hq103_4_2 hq103_4_3 hq103_4_4 hq125_9_0 hq125_9_1 hq125_9_2 hq125_9_3 hq125_9_4 hq125_9_5 hq125_9_6 hq125_9_7 hq125_9_8; omega)
      · exact absurd hq125_10_10 (by intro hz; have lt_0 : ((2 : Int64)).toInt = 2 := rfl; have lt_1 : ((257 : Int64)).toInt = 257 := rfl; have lt_2 : ((263 : Int64)).toInt = 263 := rfl; have lt_3 : ((264 : Int64)).toInt = 264 := rfl; have lt_4 : ((316 : Int64)).toInt = 316 := rfl; have lt_5 : ((82 : Int64)).toInt = 82 := rfl; have lt_6 : ((84 : Int64)).toInt = 84 := rfl; have lt_7 : ((85 : Int64)).toInt = 85 := rfl; have lt_8 : ((87 : Int64)).toInt = 87 := rfl; have lt_9 : ((90 : Int64)).toInt = 90 := rfl; have lt_10 : ((91 : Int64)).toInt = 91 := rfl; simp only [Int32.lt_iff_toInt_lt, Int64.lt_iff_toInt_lt, ← Int32.toInt_inj, ← Int64.toInt_inj] at hz hq103_4_0 hq103_4_1 hq103_4_2 hq103_4_3 hq103_4_4 hq125_10_0 hq125_10_1 hq125_10_2 hq125_10_3 hq125_10_4 hq125_10_5 hq125_10_6 hq125_10_7 hq125_10_8 hq125_10_9; omega)
      · exact absurd hq125_11_11 (by intro hz; have lt_0 : ((2 : Int64)).toInt = 2 := rfl; have lt_1 : ((257 : Int64)).toInt = 257 := rfl; have lt_2 : ((263 : Int64)).toInt = 263 := rfl; have lt_3 : ((264 : Int64)).toInt = 264 := rfl; have lt_4 : ((268 : Int64)).toInt = 268 := rfl; have lt_5 : ((316 : Int64)).toInt = 316 := rfl; have lt_6 : ((82 : Int64)).toInt = 82 := rfl; have lt_7 : ((84 : Int64)).toInt = 84 := rfl; have lt_8 : ((85 : Int64)).toInt = 85 := rfl; have lt_9 : ((87 : Int64)).toInt = 87 := rfl; have lt_10 : ((90 : Int64)).toInt = 90 := rfl; have lt_11 : ((91 : Int64)).toInt = 91 := rfl; simp only [Int32.lt_iff_toInt_lt, Int64.lt_iff_toInt_lt, ← Int32.toInt_inj, ← Int64.toInt_inj] at hz hq103_4_0 hq103_4_1 hq103_4_2 hq103_4_3 hq103_4_4 hq125_11_0 hq125_11_1 hq125_11_2 hq125_11_3 hq125_11_4 hq125_11_5 hq125_11_6 hq125_11_7 hq125_11_8 hq125_11_9 hq125_11_10; omega)
      · exact absurd hq125_12_12 (by intro hz; have lt_0 : ((2 : Int64)).toInt = 2 := rfl; have lt_1 : ((257 : Int64)).toInt = 257 := rfl; have lt_2 : ((263 : Int64)).toInt = 263 := rfl; have lt_3 : ((264 : Int64)).toInt = 264 := rfl; have lt_4 : ((268 : Int64)).toInt = 268 := rfl; have lt_5 : ((316 : Int64)).toInt = 316 := rfl; have lt_6 : ((82 : Int64)).toInt = 82 := rfl; have lt_7 : ((84 : Int64)).toInt = 84 := rfl; have lt_8 : ((85 : Int64)).toInt = 85 := rfl; have lt_9 : ((87 : Int64)).toInt = 87 := rfl; have lt_10 : ((90 : Int64)).toInt = 90 := rfl; have lt_11 : ((91 : Int64)).toInt = 91 := rfl; have lt_12 : ((92 : Int64)).toInt = 92 := rfl; simp only [Int32.lt_iff_toInt_lt, Int64.lt_iff_toInt_lt, ← Int32.toInt_inj, ← Int64.toInt_inj] at hz hq103_4_0 hq103_4_1 hq103_4_2 hq103_4_3 hq103_4_4 hq125_12_0 hq125_12_1 hq125_12_2 hq125_12_3 hq125_12_4 hq125_12_5 hq125_12_6 hq125_12_7 hq125_12_8 hq125_12_9 hq125_12_10 hq125_12_11; omega)
      · exact absurd hq125_13_13 (by intro hz; have lt_0 : ((2 : Int64)).toInt = 2 := rfl; have lt_1 : ((257 : Int64)).toInt = 257 := rfl; have lt_2 : ((260 : Int64)).toInt = 260 := rfl; have lt_3 : ((263 : Int64)).toInt = 263 := rfl; have lt_4 : ((264 : Int64)).toInt = 264 := rfl; have lt_5 : ((268 : Int64)).toInt = 268 := rfl; have lt_6 : ((316 : Int64)).toInt = 316 := rfl; have lt_7 : ((82 : Int64)).toInt = 82 := rfl; have lt_8 : ((84 : Int64)).toInt = 84 := rfl; have lt_9 : ((85 : Int64)).toInt = 85 := rfl; have lt_10 : ((87 : Int64)).toInt = 87 := rfl; have lt_11 : ((90 : Int64)).toInt = 90 := rfl; have lt_12 : ((91 : Int64)).toInt = 91 := rfl; have lt_13 : ((92 : Int64)).toInt = 92 := rfl; simp only [Int32.lt_iff_toInt_lt, Int64.lt_iff_toInt_lt, ← Int32.toInt_inj, ← Int64.toInt_inj] at hz hq103_4_0 hq103_4_1 hq103_4_2 hq103_4_3 hq103_4_4 hq125_13_0 hq125_13_1 hq125_13_2 hq125_13_3 hq125_13_4 hq125_13_5 hq125_13_6 hq125_13_7 hq125_13_8 hq125_13_9 hq125_13_10 hq125_13_11 hq125_13_12; omega)
      · exact absurd (by apply Decidable.by_contra; intro hz; have lt_0 : ((2 : Int64)).toInt = 2 := rfl; have lt_1 : ((257 : Int64)).toInt = 257 := rfl; have lt_2 : ((264 : Int64)).toInt = 264 := rfl; have lt_3 : ((82 : Int64)).toInt = 82 := rfl; have lt_4 : ((85 : Int64)).toInt = 85 := rfl; simp only [Int32.lt_iff_toInt_lt, Int64.lt_iff_toInt_lt, ← Int32.toInt_inj, ← Int64.toInt_inj] at hz hq103_4_0 hq103_4_1 hq103_4_2 hq103_4_3 hq103_4_4 hq125_14_0 hq125_14_1 hq125_14_2 hq125_14_3; omega) hq125_14_4
    · have f131 : Old Z n0 h103 := O0.keep K103 all0
      obtain ⟨_, _, ⟨T130, L130, k130, n130⟩, -, X130, ⟨Lc130, hQ130, l130, y130, z130⟩, st130⟩ := Jvm.LawKit.callS X103 hx (y := (⟨"com/example/aeacus/aeacus/audit/SyscallOfPinLaw", "expected", "(J)Lcom/example/aeacus/aeacus/audit/Syscall;"⟩ : MethodName)) hown (mvT hZ (hw _ (List.mem_of_getElem? (i := 40) rfl))) (mvT hZ (hw _ (List.mem_of_getElem? (i := 41) rfl))) (mvT hZ (hw _ (List.mem_of_getElem? (i := 2) rfl))) (mvT hZ (hw _ (List.mem_of_getElem? (i := 42) rfl))) (by decide) (backOf (W := 1) (rmExp l Z a0 hw [] q0_ w_OPEN w_CREAT w_OPENAT w_RENAME w_RENAMEAT w_RENAMEAT2 w_UNLINK w_UNLINKAT w_RMDIR w_CHMOD w_FCHMOD w_FCHMODAT w_CHOWN w_FCHOWNAT w__VALUES k_ h103 n0 f131 P0 P1 P2 P3 P4 P5 P6 P7 P8 P9 P10 P11 P12 P13 P14 P15 P16 P17 P18 P19 P20 P21 P22 P23 P24 P25 P26 P27 P28 P29 P30 P31 P32 P33 P34 P35 P36 P37 P38 P39 P40 P41 P42 P43 P44) hZ (hw _ (List.mem_of_getElem? (i := 42) rfl)) (hw _ (List.mem_of_getElem? (i := 2) rfl)) (by decide) (by decide)) (g := (mkF m 28 #[.val (.long q0_), .second, .val (.int p1_), .val (.int (p1_ &&& (31 : Int32))), .val (.long q0_), .second] [(.long q0_), (.ref w_RENAMEAT2)])) rfl (by rw [hml]; rfl) (argsL := [(.long q0_)]) (rest := [(.ref w_RENAMEAT2)]) (lenOf pd_2 rfl) rfl (by show 2 * 0 + _ ≤ _; exact Nat.le_of_eq rfl) (hb hby at_28) (fun _ _ => ⟨rfl, e103, (by decide : 1 + 0 ≤ _), (by decide : 14 + 0 ≤ _)⟩)
      dsimp only [Pt.U, Pt.locs, Pt.cells, Pt.slots] at X130 l130 y130 z130 st130 hQ130
      subst l130 y130 z130
      obtain ⟨h130, e130⟩ : ∃ z, T130.heap = z := ⟨_, rfl⟩
      rw [e130] at hQ130
      obtain ⟨rr130, rfl, hs130, N130q, hh130⟩ := hQ130
      have N132 := Fr.app N104 N130q
      have e130' : T130.heap = h103 := e130.trans hh130
      rcases hs130 with ⟨rfl, hq130_0_0⟩ | ⟨rfl, hq130_1_0, hq130_1_1⟩ | ⟨rfl, hq130_2_0, hq130_2_1, hq130_2_2⟩ | ⟨rfl, hq130_3_0, hq130_3_1, hq130_3_2, hq130_3_3⟩ | ⟨rfl, hq130_4_0, hq130_4_1, hq130_4_2, hq130_4_3, hq130_4_4⟩ | ⟨rfl, hq130_5_0, hq130_5_1, hq130_5_2, hq130_5_3, hq130_5_4, hq130_5_5⟩ | ⟨rfl, hq130_6_0, hq130_6_1, hq130_6_2, hq130_6_3, hq130_6_4, hq130_6_5, hq130_6_6⟩ | ⟨rfl, hq130_7_0, hq130_7_1, hq130_7_2, hq130_7_3, hq130_7_4, hq130_7_5, hq130_7_6, hq130_7_7⟩ | ⟨rfl, hq130_8_0, hq130_8_1, hq130_8_2, hq130_8_3, hq130_8_4, hq130_8_5, hq130_8_6, hq130_8_7, hq130_8_8⟩ | ⟨rfl, hq130_9_0, hq130_9_1, hq130_9_2, hq130_9_3, hq130_9_4, hq130_9_5, hq130_9_6, hq130_9_7, hq130_9_8, hq130_9_9⟩ | ⟨rfl, hq130_10_0, hq130_10_1, hq130_10_2, hq130_10_3, hq130_10_4, hq130_10_5, hq130_10_6, hq130_10_7, hq130_10_8, hq130_10_9, hq130_10_10⟩ | ⟨rfl, hq130_11_0, hq130_11_1, hq130_11_2, hq130_11_3, hq130_11_4, hq130_11_5, hq130_11_6, hq130_11_7, hq130_11_8, hq130_11_9, hq130_11_10, hq130_11_11⟩ | ⟨rfl, hq130_12_0, hq130_12_1, hq130_12_2, hq130_12_3, hq130_12_4, hq130_12_5, hq130_12_6, hq130_12_7, hq130_12_8, hq130_12_9, hq130_12_10, hq130_12_11, hq130_12_12⟩ | ⟨rfl, hq130_13_0, hq130_13_1, hq130_13_2, hq130_13_3, hq130_13_4, hq130_13_5, hq130_13_6, hq130_13_7, hq130_13_8, hq130_13_9, hq130_13_10, hq130_13_11, hq130_13_12, hq130_13_13⟩ | ⟨rfl, hq130_14_0, hq130_14_1, hq130_14_2, hq130_14_3, hq130_14_4, hq130_14_5, hq130_14_6, hq130_14_7, hq130_14_8, hq130_14_9, hq130_14_10, hq130_14_11, hq130_14_12, hq130_14_13⟩
      · exact absurd hq130_0_0 (by intro hz; have lt_0 : ((2 : Int64)).toInt = 2 := rfl; have lt_1 : ((257 : Int64)).toInt = 257 := rfl; have lt_2 : ((264 : Int64)).toInt = 264 := rfl; have lt_3 : ((316 : Int64)).toInt = 316 := rfl; have lt_4 : ((82 : Int64)).toInt = 82 := rfl; have lt_5 : ((85 : Int64)).toInt = 85 := rfl; simp only [Int32.lt_iff_toInt_lt, Int64.lt_iff_toInt_lt, ← Int32.toInt_inj, ← Int64.toInt_inj] at hz hq103_5_0 hq103_5_1 hq103_5_2 hq103_5_3 hq103_5_4 hq103_5_5; omega)
      · exact absurd hq130_1_1 (by intro hz; have lt_0 : ((2 : Int64)).toInt = 2 := rfl; have lt_1 : ((257 : Int64)).toInt = 257 := rfl; have lt_2 : ((264 : Int64)).toInt = 264 := rfl; have lt_3 : ((316 : Int64)).toInt = 316 := rfl; have lt_4 : ((82 : Int64)).toInt = 82 := rfl; have lt_5 : ((85 : Int64)).toInt = 85 := rfl; simp only [Int32.lt_iff_toInt_lt, Int64.lt_iff_toInt_lt, ← Int32.toInt_inj, ← Int64.toInt_inj] at hz hq103_5_0 hq103_5_1 hq103_5_2 hq103_5_3 hq103_5_4 hq103_5_5 hq130_1_0; omega)
      · exact absurd hq130_2_2 (by intro hz; have lt_0 : ((2 : Int64)).toInt = 2 := rfl; have lt_1 : ((257 : Int64)).toInt = 257 := rfl; have lt_2 : ((264 : Int64)).toInt = 264 := rfl; have lt_3 : ((316 : Int64)).toInt = 316 := rfl; have lt_4 : ((82 : Int64)).toInt = 82 := rfl; have lt_5 : ((85 : Int64)).toInt = 85 := rfl; simp only [Int32.lt_iff_toInt_lt, Int64.lt_iff_toInt_lt, ← Int32.toInt_inj, ← Int64.toInt_inj] at hz hq103_5_0 hq103_5_1 hq103_5_2 hq103_5_3 hq103_5_4 hq103_5_5 hq130_2_0 hq130_2_1; omega)
      · exact absurd hq130_3_3 (by intro hz; have lt_0 : ((2 : Int64)).toInt = 2 := rfl; have lt_1 : ((257 : Int64)).toInt = 257 := rfl; have lt_2 : ((264 : Int64)).toInt = 264 := rfl; have lt_3 : ((316 : Int64)).toInt = 316 := rfl; have lt_4 : ((82 : Int64)).toInt = 82 := rfl; have lt_5 : ((85 : Int64)).toInt = 85 := rfl; simp only [Int32.lt_iff_toInt_lt, Int64.lt_iff_toInt_lt, ← Int32.toInt_inj, ← Int64.toInt_inj] at hz hq103_5_0 hq103_5_1 hq103_5_2 hq103_5_3 hq103_5_4 hq103_5_5 hq130_3_0 hq130_3_1 hq130_3_2; omega)
      · exact absurd hq130_4_4 (by intro hz; have lt_0 : ((2 : Int64)).toInt = 2 := rfl; have lt_1 : ((257 : Int64)).toInt = 257 := rfl; have lt_2 : ((264 : Int64)).toInt = 264 := rfl; have lt_3 : ((316 : Int64)).toInt = 316 := rfl; have lt_4 : ((82 : Int64)).toInt = 82 := rfl; have lt_5 : ((85 : Int64)).toInt = 85 := rfl; simp only [Int32.lt_iff_toInt_lt, Int64.lt_iff_toInt_lt, ← Int32.toInt_inj, ← Int64.toInt_inj] at hz hq103_5_0 hq103_5_1 hq103_5_2 hq103_5_3 hq103_5_4 hq103_5_5 hq130_4_0 hq130_4_1 hq130_4_2 hq130_4_3; omega)
      · have pre133 : ∀ t, Steps p.tables e below (T130.setTop (mkF m 39 #[.val (.long q0_), .second, .val (.int p1_), .val (.int (p1_ &&& (31 : Int32))), .val (.long q0_), .second] [(.int (1 : Int32))])) t → Steps p.tables e below (s₁.setTop (entryFrame m #[(.long q0_), (.int p1_)] maxLocals)) t := by
          intro t kt
          refine pre1 t ?_
          show Steps p.tables e below (s₁.setTop (mkF m 8 #[.val (.long q0_), .second, .val (.int p1_), .val (.int (p1_ &&& (31 : Int32))), .unset, .unset] [(.int (14 : Int32)), (.int (p1_ &&& (31 : Int32)))])) _
          refine XS.icmpYes X0.here hx rfl (pc0 := 8) (pc' := 18) rfl (hb hby at_8) rfl (flt hc2).2.1 (by decide) (by decide) ?_
          show Steps p.tables e below (s₁.setTop (mkF m 18 #[.val (.long q0_), .second, .val (.int p1_), .val (.int (p1_ &&& (31 : Int32))), .unset, .unset] [])) _
          refine XS.lloadN X0.here hx rfl (hb hby at_18) rfl ?_
          show Steps p.tables e below (s₁.setTop (mkF m 19 #[.val (.long q0_), .second, .val (.int p1_), .val (.int (p1_ &&& (31 : Int32))), .unset, .unset] [(.long q0_)])) _
          refine XS.lstore X0.here hx rfl (hb hby at_19) rfl (l' := #[.val (.long q0_), .second, .val (.int p1_), .val (.int (p1_ &&& (31 : Int32))), .val (.long q0_), .second]) rfl ?_
          show Steps p.tables e below (s₁.setTop (mkF m 21 #[.val (.long q0_), .second, .val (.int p1_), .val (.int (p1_ &&& (31 : Int32))), .val (.long q0_), .second] [])) _
          refine XS.lload X0.here hx rfl (hb hby at_21) rfl ?_
          show Steps p.tables e below (s₁.setTop (mkF m 23 #[.val (.long q0_), .second, .val (.int p1_), .val (.int (p1_ &&& (31 : Int32))), .val (.long q0_), .second] [(.long q0_)])) _
          refine st103 _ ?_
          show Steps p.tables e below (T103.setTop (mkF m 26 #[.val (.long q0_), .second, .val (.int p1_), .val (.int (p1_ &&& (31 : Int32))), .val (.long q0_), .second] [(.ref w_RENAMEAT2)])) _
          refine XS.lload X103.here hx rfl (hb hby at_26) rfl ?_
          show Steps p.tables e below (T103.setTop (mkF m 28 #[.val (.long q0_), .second, .val (.int p1_), .val (.int (p1_ &&& (31 : Int32))), .val (.long q0_), .second] [(.long q0_), (.ref w_RENAMEAT2)])) _
          refine st130 _ ?_
          show Steps p.tables e below (T130.setTop (mkF m 31 #[.val (.long q0_), .second, .val (.int p1_), .val (.int (p1_ &&& (31 : Int32))), .val (.long q0_), .second] [(.ref w_RENAMEAT2), (.ref w_RENAMEAT2)])) _
          refine Jvm.RoadKit.acmp (g := (mkF m 31 #[.val (.long q0_), .second, .val (.int p1_), .val (.int (p1_ &&& (31 : Int32))), .val (.long q0_), .second] [(.ref w_RENAMEAT2), (.ref w_RENAMEAT2)])) X130 hx rfl rfl rfl (pc0 := 31) (pc' := 34) (same := true) rfl (hb hby at_31) rfl (decide_eq_true rfl) (by decide) (by decide) ?_
          show Steps p.tables e below (T130.setTop (mkF m 34 #[.val (.long q0_), .second, .val (.int p1_), .val (.int (p1_ &&& (31 : Int32))), .val (.long q0_), .second] [])) _
          refine XS.iconst X130.here hx rfl (hb hby at_34) ?_
          show Steps p.tables e below (T130.setTop (mkF m 35 #[.val (.long q0_), .second, .val (.int p1_), .val (.int (p1_ &&& (31 : Int32))), .val (.long q0_), .second] [(.int (1 : Int32))])) _
          refine XS.goto X130.here hx rfl (pc0 := 35) (pc' := 39) rfl (hb hby at_35) (by decide) (by decide) ?_
          exact kt
        obtain ⟨fs, hr, hrun, hended, hW, hsame⟩ := X130.leave (v := some (.int (1 : Int32))) (fun h => by rw [Bd.returns] at h; cases h)
        refine ⟨_, _, pre133 _ (retN X130 hx (t := .boolean) Bd.returns (by simp) (hb hby at_39) hr), hrun, hended, _, _, rfl, ?_, ⟨_, rfl⟩, hW, hsame.mono (by decide) (by decide)⟩
        show QLaw Z q0_ p1_ w_OPEN w_CREAT w_OPENAT w_RENAME w_RENAMEAT w_RENAMEAT2 w_UNLINK w_UNLINKAT w_RMDIR w_CHMOD w_FCHMOD w_FCHMODAT w_CHOWN w_FCHOWNAT w__VALUES k_ h0 n0 _ T130.heap _
        rw [e130']
        exact ⟨rfl, N132⟩
      · exact absurd hq130_6_6 (by intro hz; have lt_0 : ((2 : Int64)).toInt = 2 := rfl; have lt_1 : ((257 : Int64)).toInt = 257 := rfl; have lt_2 : ((264 : Int64)).toInt = 264 := rfl; have lt_3 : ((316 : Int64)).toInt = 316 := rfl; have lt_4 : ((82 : Int64)).toInt = 82 := rfl; have lt_5 : ((85 : Int64)).toInt = 85 := rfl; have lt_6 : ((87 : Int64)).toInt = 87 := rfl; simp only [Int32.lt_iff_toInt_lt, Int64.lt_iff_toInt_lt, ← Int32.toInt_inj, ← Int64.toInt_inj] at hz hq103_5_0 hq103_5_1 hq103_5_2 hq103_5_3 hq103_5_4 hq103_5_5 hq130_6_0 hq130_6_1 hq130_6_2 hq130_6_3 hq130_6_4 hq130_6_5; omega)
      · exact absurd hq130_7_7 (by intro hz; have lt_0 : ((2 : Int64)).toInt = 2 := rfl; have lt_1 : ((257 : Int64)).toInt = 257 := rfl; have lt_2 : ((263 : Int64)).toInt = 263 := rfl; have lt_3 : ((264 : Int64)).toInt = 264 := rfl; have lt_4 : ((316 : Int64)).toInt = 316 := rfl; have lt_5 : ((82 : Int64)).toInt = 82 := rfl; have lt_6 : ((85 : Int64)).toInt = 85 := rfl; have lt_7 : ((87 : Int64)).toInt = 87 := rfl; simp only [Int32.lt_iff_toInt_lt, Int64.lt_iff_toInt_lt, ← Int32.toInt_inj, ← Int64.toInt_inj] at hz hq103_5_0 hq103_5_1 hq103_5_2 hq103_5_3 hq103_5_4 hq103_5_5 hq130_7_0 hq130_7_1 hq130_7_2 hq130_7_3 hq130_7_4 hq130_7_5 hq130_7_6; omega)
      · exact absurd hq130_8_8 (by intro hz; have lt_0 : ((2 : Int64)).toInt = 2 := rfl; have lt_1 : ((257 : Int64)).toInt = 257 := rfl; have lt_2 : ((263 : Int64)).toInt = 263 := rfl; have lt_3 : ((264 : Int64)).toInt = 264 := rfl; have lt_4 : ((316 : Int64)).toInt = 316 := rfl; have lt_5 : ((82 : Int64)).toInt = 82 := rfl; have lt_6 : ((84 : Int64)).toInt = 84 := rfl; have lt_7 : ((85 : Int64)).toInt = 85 := rfl; have lt_8 : ((87 : Int64)).toInt = 87 := rfl; simp only [Int32.lt_iff_toInt_lt, Int64.lt_iff_toInt_lt, ← Int32.toInt_inj, ← Int64.toInt_inj] at hz hq103_5_0 hq103_5_1 hq103_5_2 hq103_5_3 hq103_5_4 hq103_5_5 hq130_8_0 hq130_8_1 hq130_8_2 hq130_8_3 hq130_8_4 hq130_8_5 hq130_8_6 hq130_8_7; omega)
      · exact absurd hq130_9_9 (by intro hz; have lt_0 : ((2 : Int64)).toInt = 2 := rfl; have lt_1 : ((257 : Int64)).toInt = 257 := rfl; have lt_2 : ((263 : Int64)).toInt = 263 := rfl; have lt_3 : ((264 : Int64)).toInt = 264 := rfl; have lt_4 : ((316 : Int64)).toInt = 316 := rfl; have lt_5 : ((82 : Int64)).toInt = 82 := rfl; have lt_6 : ((84 : Int64)).toInt = 84 := rfl; have lt_7 : ((85 : Int64)).toInt = 85 := rfl; have lt_8 : ((87 : Int64)).toInt = 87 := rfl; have lt_9 : ((90 : Int64)).toInt = 90 := rfl; simp only [Int32.lt_iff_toInt_lt, Int64.lt_iff_toInt_lt, ← Int32.toInt_inj, ← Int64.toInt_inj] at hz hq103_5_0 hq103_5_1 hq103_5_2 hq103_5_3 hq103_5_4 hq103_5_5 hq130_9_0 hq130_9_1 hq130_9_2 hq130_9_3 hq130_9_4 hq130_9_5 hq130_9_6 hq130_9_7 hq130_9_8; omega)
      · exact absurd hq130_10_10 (by intro hz; have lt_0 : ((2 : Int64)).toInt = 2 := rfl; have lt_1 : ((257 : Int64)).toInt = 257 := rfl; have lt_2 : ((263 : Int64)).toInt = 263 := rfl; have lt_3 : ((264 : Int64)).toInt = 264 := rfl; have lt_4 : ((316 : Int64)).toInt = 316 := rfl; have lt_5 : ((82 : Int64)).toInt = 82 := rfl; have lt_6 : ((84 : Int64)).toInt = 84 := rfl; have lt_7 : ((85 : Int64)).toInt = 85 := rfl; have lt_8 : ((87 : Int64)).toInt = 87 := rfl; have lt_9 : ((90 : Int64)).toInt = 90 := rfl; have lt_10 : ((91 : Int64)).toInt = 91 := rfl; simp only [Int32.lt_iff_toInt_lt, Int64.lt_iff_toInt_lt, ← Int32.toInt_inj, ← Int64.toInt_inj] at hz hq103_5_0 hq103_5_1 hq103_5_2 hq103_5_3 hq103_5_4 hq103_5_5 hq130_10_0 hq130_10_1 hq130_10_2 hq130_10_3 hq130_10_4 hq130_10_5 hq130_10_6 hq130_10_7 hq130_10_8 hq130_10_9; omega)
      · exact absurd hq130_11_11 (by intro hz; have lt_0 : ((2 : Int64)).toInt = 2 := rfl; have lt_1 : ((257 : Int64)).toInt = 257 := rfl; have lt_2 : ((263 : Int64)).toInt = 263 := rfl; have lt_3 : ((264 : Int64)).toInt = 264 := rfl; have lt_4 : ((268 : Int64)).toInt = 268 := rfl; have lt_5 : ((316 : Int64)).toInt = 316 := rfl; have lt_6 : ((82 : Int64)).toInt = 82 := rfl; have lt_7 : ((84 : Int64)).toInt = 84 := rfl; have lt_8 : ((85 : Int64)).toInt = 85 := rfl; have lt_9 : ((87 : Int64)).toInt = 87 := rfl; have lt_10 : ((90 : Int64)).toInt = 90 := rfl; have lt_11 : ((91 : Int64)).toInt = 91 := rfl; simp only [Int32.lt_iff_toInt_lt, Int64.lt_iff_toInt_lt, ← Int32.toInt_inj, ← Int64.toInt_inj] at hz hq103_5_0 hq103_5_1 hq103_5_2 hq103_5_3 hq103_5_4 hq103_5_5 hq130_11_0 hq130_11_1 hq130_11_2 hq130_11_3 hq130_11_4 hq130_11_5 hq130_11_6 hq130_11_7 hq130_11_8 hq130_11_9 hq130_11_10; omega)
      · exact absurd hq130_12_12 (by intro hz; have lt_0 : ((2 : Int64)).toInt = 2 := rfl; have lt_1 : ((257 : Int64)).toInt = 257 := rfl; have lt_2 : ((263 : Int64)).toInt = 263 := rfl; have lt_3 : ((264 : Int64)).toInt = 264 := rfl; have lt_4 : ((268 : Int64)).toInt = 268 := rfl; have lt_5 : ((316 : Int64)).toInt = 316 := rfl; have lt_6 : ((82 : Int64)).toInt = 82 := rfl; have lt_7 : ((84 : Int64)).toInt = 84 := rfl; have lt_8 : ((85 : Int64)).toInt = 85 := rfl; have lt_9 : ((87 : Int64)).toInt = 87 := rfl; have lt_10 : ((90 : Int64)).toInt = 90 := rfl; have lt_11 : ((91 : Int64)).toInt = 91 := rfl; have lt_12 : ((92 : Int64)).toInt = 92 := rfl; simp only [Int32.lt_iff_toInt_lt, Int64.lt_iff_toInt_lt, ← Int32.toInt_inj, ← Int64.toInt_inj] at hz hq103_5_0 hq103_5_1 hq103_5_2 hq103_5_3 hq103_5_4 hq103_5_5 hq130_12_0 hq130_12_1 hq130_12_2 hq130_12_3 hq130_12_4 hq130_12_5 hq130_12_6 hq130_12_7 hq130_12_8 hq130_12_9 hq130_12_10 hq130_12_11; omega)
      · exact absurd hq130_13_13 (by intro hz; have lt_0 : ((2 : Int64)).toInt = 2 := rfl; have lt_1 : ((257 : Int64)).toInt = 257 := rfl; have lt_2 : ((260 : Int64)).toInt = 260 := rfl; have lt_3 : ((263 : Int64)).toInt = 263 := rfl; have lt_4 : ((264 : Int64)).toInt = 264 := rfl; have lt_5 : ((268 : Int64)).toInt = 268 := rfl; have lt_6 : ((316 : Int64)).toInt = 316 := rfl; have lt_7 : ((82 : Int64)).toInt = 82 := rfl; have lt_8 : ((84 : Int64)).toInt = 84 := rfl; have lt_9 : ((85 : Int64)).toInt = 85 := rfl; have lt_10 : ((87 : Int64)).toInt = 87 := rfl; have lt_11 : ((90 : Int64)).toInt = 90 := rfl; have lt_12 : ((91 : Int64)).toInt = 91 := rfl; have lt_13 : ((92 : Int64)).toInt = 92 := rfl; simp only [Int32.lt_iff_toInt_lt, Int64.lt_iff_toInt_lt, ← Int32.toInt_inj, ← Int64.toInt_inj] at hz hq103_5_0 hq103_5_1 hq103_5_2 hq103_5_3 hq103_5_4 hq103_5_5 hq130_13_0 hq130_13_1 hq130_13_2 hq130_13_3 hq130_13_4 hq130_13_5 hq130_13_6 hq130_13_7 hq130_13_8 hq130_13_9 hq130_13_10 hq130_13_11 hq130_13_12; omega)
      · exact absurd (by apply Decidable.by_contra; intro hz; have lt_0 : ((2 : Int64)).toInt = 2 := rfl; have lt_1 : ((257 : Int64)).toInt = 257 := rfl; have lt_2 : ((264 : Int64)).toInt = 264 := rfl; have lt_3 : ((316 : Int64)).toInt = 316 := rfl; have lt_4 : ((82 : Int64)).toInt = 82 := rfl; have lt_5 : ((85 : Int64)).toInt = 85 := rfl; simp only [Int32.lt_iff_toInt_lt, Int64.lt_iff_toInt_lt, ← Int32.toInt_inj, ← Int64.toInt_inj] at hz hq103_5_0 hq103_5_1 hq103_5_2 hq103_5_3 hq103_5_4 hq103_5_5 hq130_14_0 hq130_14_1 hq130_14_2 hq130_14_3 hq130_14_4; omega) hq130_14_5
    · have f136 : Old Z n0 h103 := O0.keep K103 all0
      obtain ⟨_, _, ⟨T135, L135, k135, n135⟩, -, X135, ⟨Lc135, hQ135, l135, y135, z135⟩, st135⟩ := Jvm.LawKit.callS X103 hx (y := (⟨"com/example/aeacus/aeacus/audit/SyscallOfPinLaw", "expected", "(J)Lcom/example/aeacus/aeacus/audit/Syscall;"⟩ : MethodName)) hown (mvT hZ (hw _ (List.mem_of_getElem? (i := 40) rfl))) (mvT hZ (hw _ (List.mem_of_getElem? (i := 41) rfl))) (mvT hZ (hw _ (List.mem_of_getElem? (i := 2) rfl))) (mvT hZ (hw _ (List.mem_of_getElem? (i := 42) rfl))) (by decide) (backOf (W := 1) (rmExp l Z a0 hw [] q0_ w_OPEN w_CREAT w_OPENAT w_RENAME w_RENAMEAT w_RENAMEAT2 w_UNLINK w_UNLINKAT w_RMDIR w_CHMOD w_FCHMOD w_FCHMODAT w_CHOWN w_FCHOWNAT w__VALUES k_ h103 n0 f136 P0 P1 P2 P3 P4 P5 P6 P7 P8 P9 P10 P11 P12 P13 P14 P15 P16 P17 P18 P19 P20 P21 P22 P23 P24 P25 P26 P27 P28 P29 P30 P31 P32 P33 P34 P35 P36 P37 P38 P39 P40 P41 P42 P43 P44) hZ (hw _ (List.mem_of_getElem? (i := 42) rfl)) (hw _ (List.mem_of_getElem? (i := 2) rfl)) (by decide) (by decide)) (g := (mkF m 28 #[.val (.long q0_), .second, .val (.int p1_), .val (.int (p1_ &&& (31 : Int32))), .val (.long q0_), .second] [(.long q0_), (.ref w_UNLINK)])) rfl (by rw [hml]; rfl) (argsL := [(.long q0_)]) (rest := [(.ref w_UNLINK)]) (lenOf pd_2 rfl) rfl (by show 2 * 0 + _ ≤ _; exact Nat.le_of_eq rfl) (hb hby at_28) (fun _ _ => ⟨rfl, e103, (by decide : 1 + 0 ≤ _), (by decide : 14 + 0 ≤ _)⟩)
      dsimp only [Pt.U, Pt.locs, Pt.cells, Pt.slots] at X135 l135 y135 z135 st135 hQ135
      subst l135 y135 z135
      obtain ⟨h135, e135⟩ : ∃ z, T135.heap = z := ⟨_, rfl⟩
      rw [e135] at hQ135
      obtain ⟨rr135, rfl, hs135, N135q, hh135⟩ := hQ135
      have N137 := Fr.app N104 N135q
      have e135' : T135.heap = h103 := e135.trans hh135
      rcases hs135 with ⟨rfl, hq135_0_0⟩ | ⟨rfl, hq135_1_0, hq135_1_1⟩ | ⟨rfl, hq135_2_0, hq135_2_1, hq135_2_2⟩ | ⟨rfl, hq135_3_0, hq135_3_1, hq135_3_2, hq135_3_3⟩ | ⟨rfl, hq135_4_0, hq135_4_1, hq135_4_2, hq135_4_3, hq135_4_4⟩ | ⟨rfl, hq135_5_0, hq135_5_1, hq135_5_2, hq135_5_3, hq135_5_4, hq135_5_5⟩ | ⟨rfl, hq135_6_0, hq135_6_1, hq135_6_2, hq135_6_3, hq135_6_4, hq135_6_5, hq135_6_6⟩ | ⟨rfl, hq135_7_0, hq135_7_1, hq135_7_2, hq135_7_3, hq135_7_4, hq135_7_5, hq135_7_6, hq135_7_7⟩ | ⟨rfl, hq135_8_0, hq135_8_1, hq135_8_2, hq135_8_3, hq135_8_4, hq135_8_5, hq135_8_6, hq135_8_7, hq135_8_8⟩ | ⟨rfl, hq135_9_0, hq135_9_1, hq135_9_2, hq135_9_3, hq135_9_4, hq135_9_5, hq135_9_6, hq135_9_7, hq135_9_8, hq135_9_9⟩ | ⟨rfl, hq135_10_0, hq135_10_1, hq135_10_2, hq135_10_3, hq135_10_4, hq135_10_5, hq135_10_6, hq135_10_7, hq135_10_8, hq135_10_9, hq135_10_10⟩ | ⟨rfl, hq135_11_0, hq135_11_1, hq135_11_2, hq135_11_3, hq135_11_4, hq135_11_5, hq135_11_6, hq135_11_7, hq135_11_8, hq135_11_9, hq135_11_10, hq135_11_11⟩ | ⟨rfl, hq135_12_0, hq135_12_1, hq135_12_2, hq135_12_3, hq135_12_4, hq135_12_5, hq135_12_6, hq135_12_7, hq135_12_8, hq135_12_9, hq135_12_10, hq135_12_11, hq135_12_12⟩ | ⟨rfl, hq135_13_0, hq135_13_1, hq135_13_2, hq135_13_3, hq135_13_4, hq135_13_5, hq135_13_6, hq135_13_7, hq135_13_8, hq135_13_9, hq135_13_10, hq135_13_11, hq135_13_12, hq135_13_13⟩ | ⟨rfl, hq135_14_0, hq135_14_1, hq135_14_2, hq135_14_3, hq135_14_4, hq135_14_5, hq135_14_6, hq135_14_7, hq135_14_8, hq135_14_9, hq135_14_10, hq135_14_11, hq135_14_12, hq135_14_13⟩
      · exact absurd hq135_0_0 (by intro hz; have lt_0 : ((2 : Int64)).toInt = 2 := rfl; have lt_1 : ((257 : Int64)).toInt = 257 := rfl; have lt_2 : ((264 : Int64)).toInt = 264 := rfl; have lt_3 : ((316 : Int64)).toInt = 316 := rfl; have lt_4 : ((82 : Int64)).toInt = 82 := rfl; have lt_5 : ((85 : Int64)).toInt = 85 := rfl; have lt_6 : ((87 : Int64)).toInt = 87 := rfl; simp only [Int32.lt_iff_toInt_lt, Int64.lt_iff_toInt_lt, ← Int32.toInt_inj, ← Int64.toInt_inj] at hz hq103_6_0 hq103_6_1 hq103_6_2 hq103_6_3 hq103_6_4 hq103_6_5 hq103_6_6; omega)
      · exact absurd hq135_1_1 (by intro hz; have lt_0 : ((2 : Int64)).toInt = 2 := rfl; have lt_1 : ((257 : Int64)).toInt = 257 := rfl; have lt_2 : ((264 : Int64)).toInt = 264 := rfl; have lt_3 : ((316 : Int64)).toInt = 316 := rfl; have lt_4 : ((82 : Int64)).toInt = 82 := rfl; have lt_5 : ((85 : Int64)).toInt = 85 := rfl; have lt_6 : ((87 : Int64)).toInt = 87 := rfl; simp only [Int32.lt_iff_toInt_lt, Int64.lt_iff_toInt_lt, ← Int32.toInt_inj, ← Int64.toInt_inj] at hz hq103_6_0 hq103_6_1 hq103_6_2 hq103_6_3 hq103_6_4 hq103_6_5 hq103_6_6 hq135_1_0; omega)
      · exact absurd hq135_2_2 (by intro hz; have lt_0 : ((2 : Int64)).toInt = 2 := rfl; have lt_1 : ((257 : Int64)).toInt = 257 := rfl; have lt_2 : ((264 : Int64)).toInt = 264 := rfl; have lt_3 : ((316 : Int64)).toInt = 316 := rfl; have lt_4 : ((82 : Int64)).toInt = 82 := rfl; have lt_5 : ((85 : Int64)).toInt = 85 := rfl; have lt_6 : ((87 : Int64)).toInt = 87 := rfl; simp only [Int32.lt_iff_toInt_lt, Int64.lt_iff_toInt_lt, ← Int32.toInt_inj, ← Int64.toInt_inj] at hz hq103_6_0 hq103_6_1 hq103_6_2 hq103_6_3 hq103_6_4 hq103_6_5 hq103_6_6 hq135_2_0 hq135_2_1; omega)
      · exact absurd hq135_3_3 (by intro hz; have lt_0 : ((2 : Int64)).toInt = 2 := rfl; have lt_1 : ((257 : Int64)).toInt = 257 := rfl; have lt_2 : ((264 : Int64)).toInt = 264 := rfl; have lt_3 : ((316 : Int64)).toInt = 316 := rfl; have lt_4 : ((82 : Int64)).toInt = 82 := rfl; have lt_5 : ((85 : Int64)).toInt = 85 := rfl; have lt_6 : ((87 : Int64)).toInt = 87 := rfl; simp only [Int32.lt_iff_toInt_lt, Int64.lt_iff_toInt_lt, ← Int32.toInt_inj, ← Int64.toInt_inj] at hz hq103_6_0 hq103_6_1 hq103_6_2 hq103_6_3 hq103_6_4 hq103_6_5 hq103_6_6 hq135_3_0 hq135_3_1 hq135_3_2; omega)
      · exact absurd hq135_4_4 (by intro hz; have lt_0 : ((2 : Int64)).toInt = 2 := rfl; have lt_1 : ((257 : Int64)).toInt = 257 := rfl; have lt_2 : ((264 : Int64)).toInt = 264 := rfl; have lt_3 : ((316 : Int64)).toInt = 316 := rfl; have lt_4 : ((82 : Int64)).toInt = 82 := rfl; have lt_5 : ((85 : Int64)).toInt = 85 := rfl; have lt_6 : ((87 : Int64)).toInt = 87 := rfl; simp only [Int32.lt_iff_toInt_lt, Int64.lt_iff_toInt_lt, ← Int32.toInt_inj, ← Int64.toInt_inj] at hz hq103_6_0 hq103_6_1 hq103_6_2 hq103_6_3 hq103_6_4 hq103_6_5 hq103_6_6 hq135_4_0 hq135_4_1 hq135_4_2 hq135_4_3; omega)
      · exact absurd hq135_5_5 (by intro hz; have lt_0 : ((2 : Int64)).toInt = 2 := rfl; have lt_1 : ((257 : Int64)).toInt = 257 := rfl; have lt_2 : ((264 : Int64)).toInt = 264 := rfl; have lt_3 : ((316 : Int64)).toInt = 316 := rfl; have lt_4 : ((82 : Int64)).toInt = 82 := rfl; have lt_5 : ((85 : Int64)).toInt = 85 := rfl; have lt_6 : ((87 : Int64)).toInt = 87 := rfl; simp only [Int32.lt_iff_toInt_lt, Int64.lt_iff_toInt_lt, ← Int32.toInt_inj, ← Int64.toInt_inj] at hz hq103_6_0 hq103_6_1 hq103_6_2 hq103_6_3 hq103_6_4 hq103_6_5 hq103_6_6 hq135_5_0 hq135_5_1 hq135_5_2 hq135_5_3 hq135_5_4; omega)
      · have pre138 : ∀ t, Steps p.tables e below (T135.setTop (mkF m 39 #[.val (.long q0_), .second, .val (.int p1_), .val (.int (p1_ &&& (31 : Int32))), .val (.long q0_), .second] [(.int (1 : Int32))])) t → Steps p.tables e below (s₁.setTop (entryFrame m #[(.long q0_), (.int p1_)] maxLocals)) t := by
          intro t kt
          refine pre1 t ?_
          show Steps p.tables e below (s₁.setTop (mkF m 8 #[.val (.long q0_), .second, .val (.int p1_), .val (.int (p1_ &&& (31 : Int32))), .unset, .unset] [(.int (14 : Int32)), (.int (p1_ &&& (31 : Int32)))])) _
          refine XS.icmpYes X0.here hx rfl (pc0 := 8) (pc' := 18) rfl (hb hby at_8) rfl (flt hc2).2.1 (by decide) (by decide) ?_
          show Steps p.tables e below (s₁.setTop (mkF m 18 #[.val (.long q0_), .second, .val (.int p1_), .val (.int (p1_ &&& (31 : Int32))), .unset, .unset] [])) _
          refine XS.lloadN X0.here hx rfl (hb hby at_18) rfl ?_
          show Steps p.tables e below (s₁.setTop (mkF m 19 #[.val (.long q0_), .second, .val (.int p1_), .val (.int (p1_ &&& (31 : Int32))), .unset, .unset] [(.long q0_)])) _
          refine XS.lstore X0.here hx rfl (hb hby at_19) rfl (l' := #[.val (.long q0_), .second, .val (.int p1_), .val (.int (p1_ &&& (31 : Int32))), .val (.long q0_), .second]) rfl ?_
          show Steps p.tables e below (s₁.setTop (mkF m 21 #[.val (.long q0_), .second, .val (.int p1_), .val (.int (p1_ &&& (31 : Int32))), .val (.long q0_), .second] [])) _
          refine XS.lload X0.here hx rfl (hb hby at_21) rfl ?_
          show Steps p.tables e below (s₁.setTop (mkF m 23 #[.val (.long q0_), .second, .val (.int p1_), .val (.int (p1_ &&& (31 : Int32))), .val (.long q0_), .second] [(.long q0_)])) _
          refine st103 _ ?_
          show Steps p.tables e below (T103.setTop (mkF m 26 #[.val (.long q0_), .second, .val (.int p1_), .val (.int (p1_ &&& (31 : Int32))), .val (.long q0_), .second] [(.ref w_UNLINK)])) _
          refine XS.lload X103.here hx rfl (hb hby at_26) rfl ?_
          show Steps p.tables e below (T103.setTop (mkF m 28 #[.val (.long q0_), .second, .val (.int p1_), .val (.int (p1_ &&& (31 : Int32))), .val (.long q0_), .second] [(.long q0_), (.ref w_UNLINK)])) _
          refine st135 _ ?_
          show Steps p.tables e below (T135.setTop (mkF m 31 #[.val (.long q0_), .second, .val (.int p1_), .val (.int (p1_ &&& (31 : Int32))), .val (.long q0_), .second] [(.ref w_UNLINK), (.ref w_UNLINK)])) _
          refine Jvm.RoadKit.acmp (g := (mkF m 31 #[.val (.long q0_), .second, .val (.int p1_), .val (.int (p1_ &&& (31 : Int32))), .val (.long q0_), .second] [(.ref w_UNLINK), (.ref w_UNLINK)])) X135 hx rfl rfl rfl (pc0 := 31) (pc' := 34) (same := true) rfl (hb hby at_31) rfl (decide_eq_true rfl) (by decide) (by decide) ?_
          show Steps p.tables e below (T135.setTop (mkF m 34 #[.val (.long q0_), .second, .val (.int p1_), .val (.int (p1_ &&& (31 : Int32))), .val (.long q0_), .second] [])) _
          refine XS.iconst X135.here hx rfl (hb hby at_34) ?_
          show Steps p.tables e below (T135.setTop (mkF m 35 #[.val (.long q0_), .second, .val (.int p1_), .val (.int (p1_ &&& (31 : Int32))), .val (.long q0_), .second] [(.int (1 : Int32))])) _
          refine XS.goto X135.here hx rfl (pc0 := 35) (pc' := 39) rfl (hb hby at_35) (by decide) (by decide) ?_
          exact kt
        obtain ⟨fs, hr, hrun, hended, hW, hsame⟩ := X135.leave (v := some (.int (1 : Int32))) (fun h => by rw [Bd.returns] at h; cases h)
        refine ⟨_, _, pre138 _ (retN X135 hx (t := .boolean) Bd.returns (by simp) (hb hby at_39) hr), hrun, hended, _, _, rfl, ?_, ⟨_, rfl⟩, hW, hsame.mono (by decide) (by decide)⟩
        show QLaw Z q0_ p1_ w_OPEN w_CREAT w_OPENAT w_RENAME w_RENAMEAT w_RENAMEAT2 w_UNLINK w_UNLINKAT w_RMDIR w_CHMOD w_FCHMOD w_FCHMODAT w_CHOWN w_FCHOWNAT w__VALUES k_ h0 n0 _ T135.heap _
        rw [e135']
        exact ⟨rfl, N137⟩
      · exact absurd hq135_7_7 (by intro hz; have lt_0 : ((2 : Int64)).toInt = 2 := rfl; have lt_1 : ((257 : Int64)).toInt = 257 := rfl; have lt_2 : ((263 : Int64)).toInt = 263 := rfl; have lt_3 : ((264 : Int64)).toInt = 264 := rfl; have lt_4 : ((316 : Int64)).toInt = 316 := rfl; have lt_5 : ((82 : Int64)).toInt = 82 := rfl; have lt_6 : ((85 : Int64)).toInt = 85 := rfl; have lt_7 : ((87 : Int64)).toInt = 87 := rfl; simp only [Int32.lt_iff_toInt_lt, Int64.lt_iff_toInt_lt, ← Int32.toInt_inj, ← Int64.toInt_inj] at hz hq103_6_0 hq103_6_1 hq103_6_2 hq103_6_3 hq103_6_4 hq103_6_5 hq103_6_6 hq135_7_0 hq135_7_1 hq135_7_2 hq135_7_3 hq135_7_4 hq135_7_5 hq135_7_6; omega)
      · exact absurd hq135_8_8 (by intro hz; have lt_0 : ((2 : Int64)).toInt = 2 := rfl; have lt_1 : ((257 : Int64)).toInt = 257 := rfl; have lt_2 : ((263 : Int64)).toInt = 263 := rfl; have lt_3 : ((264 : Int64)).toInt = 264 := rfl; have lt_4 : ((316 : Int64)).toInt = 316 := rfl; have lt_5 : ((82 : Int64)).toInt = 82 := rfl; have lt_6 : ((84 : Int64)).toInt = 84 := rfl; have lt_7 : ((85 : Int64)).toInt = 85 := rfl; have lt_8 : ((87 : Int64)).toInt = 87 := rfl; simp only [Int32.lt_iff_toInt_lt, Int64.lt_iff_toInt_lt, ← Int32.toInt_inj, ← Int64.toInt_inj] at hz hq103_6_0 hq103_6_1 hq103_6_2 hq103_6_3 hq103_6_4 hq103_6_5 hq103_6_6 hq135_8_0 hq135_8_1 hq135_8_2 hq135_8_3 hq135_8_4 hq135_8_5 hq135_8_6 hq135_8_7; omega)
      · exact absurd hq135_9_9 (by intro hz; have lt_0 : ((2 : Int64)).toInt = 2 := rfl; have lt_1 : ((257 : Int64)).toInt = 257 := rfl; have lt_2 : ((263 : Int64)).toInt = 263 := rfl; have lt_3 : ((264 : Int64)).toInt = 264 := rfl; have lt_4 : ((316 : Int64)).toInt = 316 := rfl; have lt_5 : ((82 : Int64)).toInt = 82 := rfl; have lt_6 : ((84 : Int64)).toInt = 84 := rfl; have lt_7 : ((85 : Int64)).toInt = 85 := rfl; have lt_8 : ((87 : Int64)).toInt = 87 := rfl; have lt_9 : ((90 : Int64)).toInt = 90 := rfl; simp only [Int32.lt_iff_toInt_lt, Int64.lt_iff_toInt_lt, ← Int32.toInt_inj, ← Int64.toInt_inj] at hz hq103_6_0 hq103_6_1 hq103_6_2 hq103_6_3 hq103_6_4 hq103_6_5 hq103_6_6 hq135_9_0 hq135_9_1 hq135_9_2 hq135_9_3 hq135_9_4 hq135_9_5 hq135_9_6 hq135_9_7 hq135_9_8; omega)
      · exact absurd hq135_10_10 (by intro hz; have lt_0 : ((2 : Int64)).toInt = 2 := rfl; have lt_1 : ((257 : Int64)).toInt = 257 := rfl; have lt_2 : ((263 : Int64)).toInt = 263 := rfl; have lt_3 : ((264 : Int64)).toInt = 264 := rfl; have lt_4 : ((316 : Int64)).toInt = 316 := rfl; have lt_5 : ((82 : Int64)).toInt = 82 := rfl; have lt_6 : ((84 : Int64)).toInt = 84 := rfl; have lt_7 : ((85 : Int64)).toInt = 85 := rfl; have lt_8 : ((87 : Int64)).toInt = 87 := rfl; have lt_9 : ((90 : Int64)).toInt = 90 := rfl; have lt_10 : ((91 : Int64)).toInt = 91 := rfl; simp only [Int32.lt_iff_toInt_lt, Int64.lt_iff_toInt_lt, ← Int32.toInt_inj, ← Int64.toInt_inj] at hz hq103_6_0 hq103_6_1 hq103_6_2 hq103_6_3 hq103_6_4 hq103_6_5 hq103_6_6 hq135_10_0 hq135_10_1 hq135_10_2 hq135_10_3 hq135_10_4 hq135_10_5 hq135_10_6 hq135_10_7 hq135_10_8 hq135_10_9; omega)
      · exact absurd hq135_11_11 (by intro hz; have lt_0 : ((2 : Int64)).toInt = 2 := rfl; have lt_1 : ((257 : Int64)).toInt = 257 := rfl; have lt_2 : ((263 : Int64)).toInt = 263 := rfl; have lt_3 : ((264 : Int64)).toInt = 264 := rfl; have lt_4 : ((268 : Int64)).toInt = 268 := rfl; have lt_5 : ((316 : Int64)).toInt = 316 := rfl; have lt_6 : ((82 : Int64)).toInt = 82 := rfl; have lt_7 : ((84 : Int64)).toInt = 84 := rfl; have lt_8 : ((85 : Int64)).toInt = 85 := rfl; have lt_9 : ((87 : Int64)).toInt = 87 := rfl; have lt_10 : ((90 : Int64)).toInt = 90 := rfl; have lt_11 : ((91 : Int64)).toInt = 91 := rfl; simp only [Int32.lt_iff_toInt_lt, Int64.lt_iff_toInt_lt, ← Int32.toInt_inj, ← Int64.toInt_inj] at hz hq103_6_0 hq103_6_1 hq103_6_2 hq103_6_3 hq103_6_4 hq103_6_5 hq103_6_6 hq135_11_0 hq135_11_1 hq135_11_2 hq135_11_3 hq135_11_4 hq135_11_5 hq135_11_6 hq135_11_7 hq135_11_8 hq135_11_9 hq135_11_10; omega)
      · exact absurd hq135_12_12 (by intro hz; have lt_0 : ((2 : Int64)).toInt = 2 := rfl; have lt_1 : ((257 : Int64)).toInt = 257 := rfl; have lt_2 : ((263 : Int64)).toInt = 263 := rfl; have lt_3 : ((264 : Int64)).toInt = 264 := rfl; have lt_4 : ((268 : Int64)).toInt = 268 := rfl; have lt_5 : ((316 : Int64)).toInt = 316 := rfl; have lt_6 : ((82 : Int64)).toInt = 82 := rfl; have lt_7 : ((84 : Int64)).toInt = 84 := rfl; have lt_8 : ((85 : Int64)).toInt = 85 := rfl; have lt_9 : ((87 : Int64)).toInt = 87 := rfl; have lt_10 : ((90 : Int64)).toInt = 90 := rfl; have lt_11 : ((91 : Int64)).toInt = 91 := rfl; have lt_12 : ((92 : Int64)).toInt = 92 := rfl; simp only [Int32.lt_iff_toInt_lt, Int64.lt_iff_toInt_lt, ← Int32.toInt_inj, ← Int64.toInt_inj] at hz hq103_6_0 hq103_6_1 hq103_6_2 hq103_6_3 hq103_6_4 hq103_6_5 hq103_6_6 hq135_12_0 hq135_12_1 hq135_12_2 hq135_12_3 hq135_12_4 hq135_12_5 hq135_12_6 hq135_12_7 hq135_12_8 hq135_12_9 hq135_12_10 hq135_12_11; omega)
      · exact absurd hq135_13_13 (by intro hz; have lt_0 : ((2 : Int64)).toInt = 2 := rfl; have lt_1 : ((257 : Int64)).toInt = 257 := rfl; have lt_2 : ((260 : Int64)).toInt = 260 := rfl; have lt_3 : ((263 : Int64)).toInt = 263 := rfl; have lt_4 : ((264 : Int64)).toInt = 264 := rfl; have lt_5 : ((268 : Int64)).toInt = 268 := rfl; have lt_6 : ((316 : Int64)).toInt = 316 := rfl; have lt_7 : ((82 : Int64)).toInt = 82 := rfl; have lt_8 : ((84 : Int64)).toInt = 84 := rfl; have lt_9 : ((85 : Int64)).toInt = 85 := rfl; have lt_10 : ((87 : Int64)).toInt = 87 := rfl; have lt_11 : ((90 : Int64)).toInt = 90 := rfl; have lt_12 : ((91 : Int64)).toInt = 91 := rfl; have lt_13 : ((92 : Int64)).toInt = 92 := rfl; simp only [Int32.lt_iff_toInt_lt, Int64.lt_iff_toInt_lt, ← Int32.toInt_inj, ← Int64.toInt_inj] at hz hq103_6_0 hq103_6_1 hq103_6_2 hq103_6_3 hq103_6_4 hq103_6_5 hq103_6_6 hq135_13_0 hq135_13_1 hq135_13_2 hq135_13_3 hq135_13_4 hq135_13_5 hq135_13_6 hq135_13_7 hq135_13_8 hq135_13_9 hq135_13_10 hq135_13_11 hq135_13_12; omega)
      · exact absurd (by apply Decidable.by_contra; intro hz; have lt_0 : ((2 : Int64)).toInt = 2 := rfl; have lt_1 : ((257 : Int64)).toInt = 257 := rfl; have lt_2 : ((264 : Int64)).toInt = 264 := rfl; have lt_3 : ((316 : Int64)).toInt = 316 := rfl; have lt_4 : ((82 : Int64)).toInt = 82 := rfl; have lt_5 : ((85 : Int64)).toInt = 85 := rfl; have lt_6 : ((87 : Int64)).toInt = 87 := rfl; simp only [Int32.lt_iff_toInt_lt, Int64.lt_iff_toInt_lt, ← Int32.toInt_inj, ← Int64.toInt_inj] at hz hq103_6_0 hq103_6_1 hq103_6_2 hq103_6_3 hq103_6_4 hq103_6_5 hq103_6_6 hq135_14_0 hq135_14_1 hq135_14_2 hq135_14_3 hq135_14_4 hq135_14_5; omega) hq135_14_6
    · have f141 : Old Z n0 h103 := O0.keep K103 all0
      obtain ⟨_, _, ⟨T140, L140, k140, n140⟩, -, X140, ⟨Lc140, hQ140, l140, y140, z140⟩, st140⟩ := Jvm.LawKit.callS X103 hx (y := (⟨"com/example/aeacus/aeacus/audit/SyscallOfPinLaw", "expected", "(J)Lcom/example/aeacus/aeacus/audit/Syscall;"⟩ : MethodName)) hown (mvT hZ (hw _ (List.mem_of_getElem? (i := 40) rfl))) (mvT hZ (hw _ (List.mem_of_getElem? (i := 41) rfl))) (mvT hZ (hw _ (List.mem_of_getElem? (i := 2) rfl))) (mvT hZ (hw _ (List.mem_of_getElem? (i := 42) rfl))) (by decide) (backOf (W := 1) (rmExp l Z a0 hw [] q0_ w_OPEN w_CREAT w_OPENAT w_RENAME w_RENAMEAT w_RENAMEAT2 w_UNLINK w_UNLINKAT w_RMDIR w_CHMOD w_FCHMOD w_FCHMODAT w_CHOWN w_FCHOWNAT w__VALUES k_ h103 n0 f141 P0 P1 P2 P3 P4 P5 P6 P7 P8 P9 P10 P11 P12 P13 P14 P15 P16 P17 P18 P19 P20 P21 P22 P23 P24 P25 P26 P27 P28 P29 P30 P31 P32 P33 P34 P35 P36 P37 P38 P39 P40 P41 P42 P43 P44) hZ (hw _ (List.mem_of_getElem? (i := 42) rfl)) (hw _ (List.mem_of_getElem? (i := 2) rfl)) (by decide) (by decide)) (g := (mkF m 28 #[.val (.long q0_), .second, .val (.int p1_), .val (.int (p1_ &&& (31 : Int32))), .val (.long q0_), .second] [(.long q0_), (.ref w_UNLINKAT)])) rfl (by rw [hml]; rfl) (argsL := [(.long q0_)]) (rest := [(.ref w_UNLINKAT)]) (lenOf pd_2 rfl) rfl (by show 2 * 0 + _ ≤ _; exact Nat.le_of_eq rfl) (hb hby at_28) (fun _ _ => ⟨rfl, e103, (by decide : 1 + 0 ≤ _), (by decide : 14 + 0 ≤ _)⟩)
      dsimp only [Pt.U, Pt.locs, Pt.cells, Pt.slots] at X140 l140 y140 z140 st140 hQ140
      subst l140 y140 z140
      obtain ⟨h140, e140⟩ : ∃ z, T140.heap = z := ⟨_, rfl⟩
      rw [e140] at hQ140
      obtain ⟨rr140, rfl, hs140, N140q, hh140⟩ := hQ140
      have N142 := Fr.app N104 N140q
      have e140' : T140.heap = h103 := e140.trans hh140
      rcases hs140 with ⟨rfl, hq140_0_0⟩ | ⟨rfl, hq140_1_0, hq140_1_1⟩ | ⟨rfl, hq140_2_0, hq140_2_1, hq140_2_2⟩ | ⟨rfl, hq140_3_0, hq140_3_1, hq140_3_2, hq140_3_3⟩ | ⟨rfl, hq140_4_0, hq140_4_1, hq140_4_2, hq140_4_3, hq140_4_4⟩ | ⟨rfl, hq140_5_0, hq140_5_1, hq140_5_2, hq140_5_3, hq140_5_4, hq140_5_5⟩ | ⟨rfl, hq140_6_0, hq140_6_1, hq140_6_2, hq140_6_3, hq140_6_4, hq140_6_5, hq140_6_6⟩ | ⟨rfl, hq140_7_0, hq140_7_1, hq140_7_2, hq140_7_3, hq140_7_4, hq140_7_5, hq140_7_6, hq140_7_7⟩ | ⟨rfl, hq140_8_0, hq140_8_1, hq140_8_2, hq140_8_3, hq140_8_4, hq140_8_5, hq140_8_6, hq140_8_7, hq140_8_8⟩ | ⟨rfl, hq140_9_0, hq140_9_1, hq140_9_2, hq140_9_3, hq140_9_4, hq140_9_5, hq140_9_6, hq140_9_7, hq140_9_8, hq140_9_9⟩ | ⟨rfl, hq140_10_0, hq140_10_1, hq140_10_2, hq140_10_3, hq140_10_4, hq140_10_5, hq140_10_6, hq140_10_7, hq140_10_8, hq140_10_9, hq140_10_10⟩ | ⟨rfl, hq140_11_0, hq140_11_1, hq140_11_2, hq140_11_3, hq140_11_4, hq140_11_5, hq140_11_6, hq140_11_7, hq140_11_8, hq140_11_9, hq140_11_10, hq140_11_11⟩ | ⟨rfl, hq140_12_0, hq140_12_1, hq140_12_2, hq140_12_3, hq140_12_4, hq140_12_5, hq140_12_6, hq140_12_7, hq140_12_8, hq140_12_9, hq140_12_10, hq140_12_11, hq140_12_12⟩ | ⟨rfl, hq140_13_0, hq140_13_1, hq140_13_2, hq140_13_3, hq140_13_4, hq140_13_5, hq140_13_6, hq140_13_7, hq140_13_8, hq140_13_9, hq140_13_10, hq140_13_11, hq140_13_12, hq140_13_13⟩ | ⟨rfl, hq140_14_0, hq140_14_1, hq140_14_2, hq140_14_3, hq140_14_4, hq140_14_5, hq140_14_6, hq140_14_7, hq140_14_8, hq140_14_9, hq140_14_10, hq140_14_11, hq140_14_12, hq140_14_13⟩
      · exact absurd hq140_0_0 (by intro hz; have lt_0 : ((2 : Int64)).toInt = 2 := rfl; have lt_1 : ((257 : Int64)).toInt = 257 := rfl; have lt_2 : ((263 : Int64)).toInt = 263 := rfl; have lt_3 : ((264 : Int64)).toInt = 264 := rfl; have lt_4 : ((316 : Int64)).toInt = 316 := rfl; have lt_5 : ((82 : Int64)).toInt = 82 := rfl; have lt_6 : ((85 : Int64)).toInt = 85 := rfl; have lt_7 : ((87 : Int64)).toInt = 87 := rfl; simp only [Int32.lt_iff_toInt_lt, Int64.lt_iff_toInt_lt, ← Int32.toInt_inj, ← Int64.toInt_inj] at hz hq103_7_0 hq103_7_1 hq103_7_2 hq103_7_3 hq103_7_4 hq103_7_5 hq103_7_6 hq103_7_7; omega)
      · exact absurd hq140_1_1 (by intro hz; have lt_0 : ((2 : Int64)).toInt = 2 := rfl; have lt_1 : ((257 : Int64)).toInt = 257 := rfl; have lt_2 : ((263 : Int64)).toInt = 263 := rfl; have lt_3 : ((264 : Int64)).toInt = 264 := rfl; have lt_4 : ((316 : Int64)).toInt = 316 := rfl; have lt_5 : ((82 : Int64)).toInt = 82 := rfl; have lt_6 : ((85 : Int64)).toInt = 85 := rfl; have lt_7 : ((87 : Int64)).toInt = 87 := rfl; simp only [Int32.lt_iff_toInt_lt, Int64.lt_iff_toInt_lt, ← Int32.toInt_inj, ← Int64.toInt_inj] at hz hq103_7_0 hq103_7_1 hq103_7_2 hq103_7_3 hq103_7_4 hq103_7_5 hq103_7_6 hq103_7_7 hq140_1_0; omega)
      · exact absurd hq140_2_2 (by intro hz; have lt_0 : ((2 : Int64)).toInt = 2 := rfl; have lt_1 : ((257 : Int64)).toInt = 257 := rfl; have lt_2 : ((263 : Int64)).toInt = 263 := rfl; have lt_3 : ((264 : Int64)).toInt = 264 := rfl; have lt_4 : ((316 : Int64)).toInt = 316 := rfl; have lt_5 : ((82 : Int64)).toInt = 82 := rfl; have lt_6 : ((85 : Int64)).toInt = 85 := rfl; have lt_7 : ((87 : Int64)).toInt = 87 := rfl; simp only [Int32.lt_iff_toInt_lt, Int64.lt_iff_toInt_lt, ← Int32.toInt_inj, ← Int64.toInt_inj] at hz hq103_7_0 hq103_7_1 hq103_7_2 hq103_7_3 hq103_7_4 hq103_7_5 hq103_7_6 hq103_7_7 hq140_2_0 hq140_2_1; omega)
      · exact absurd hq140_3_3 (by intro hz; have lt_0 : ((2 : Int64)).toInt = 2 := rfl; have lt_1 : ((257 : Int64)).toInt = 257 := rfl; have lt_2 : ((263 : Int64)).toInt = 263 := rfl; have lt_3 : ((264 : Int64)).toInt = 264 := rfl; have lt_4 : ((316 : Int64)).toInt = 316 := rfl; have lt_5 : ((82 : Int64)).toInt = 82 := rfl; have lt_6 : ((85 : Int64)).toInt = 85 := rfl; have lt_7 : ((87 : Int64)).toInt = 87 := rfl; simp only [Int32.lt_iff_toInt_lt, Int64.lt_iff_toInt_lt, ← Int32.toInt_inj, ← Int64.toInt_inj] at hz hq103_7_0 hq103_7_1 hq103_7_2 hq103_7_3 hq103_7_4 hq103_7_5 hq103_7_6 hq103_7_7 hq140_3_0 hq140_3_1 hq140_3_2; omega)
      · exact absurd hq140_4_4 (by intro hz; have lt_0 : ((2 : Int64)).toInt = 2 := rfl; have lt_1 : ((257 : Int64)).toInt = 257 := rfl; have lt_2 : ((263 : Int64)).toInt = 263 := rfl; have lt_3 : ((264 : Int64)).toInt = 264 := rfl; have lt_4 : ((316 : Int64)).toInt = 316 := rfl; have lt_5 : ((82 : Int64)).toInt = 82 := rfl; have lt_6 : ((85 : Int64)).toInt = 85 := rfl; have lt_7 : ((87 : Int64)).toInt = 87 := rfl; simp only [Int32.lt_iff_toInt_lt, Int64.lt_iff_toInt_lt, ← Int32.toInt_inj, ← Int64.toInt_inj] at hz hq103_7_0 hq103_7_1 hq103_7_2 hq103_7_3 hq103_7_4 hq103_7_5 hq103_7_6 hq103_7_7 hq140_4_0 hq140_4_1 hq140_4_2 hq140_4_3; omega)
      · exact absurd hq140_5_5 (by intro hz; have lt_0 : ((2 : Int64)).toInt = 2 := rfl; have lt_1 : ((257 : Int64)).toInt = 257 := rfl; have lt_2 : ((263 : Int64)).toInt = 263 := rfl; have lt_3 : ((264 : Int64)).toInt = 264 := rfl; have lt_4 : ((316 : Int64)).toInt = 316 := rfl; have lt_5 : ((82 : Int64)).toInt = 82 := rfl; have lt_6 : ((85 : Int64)).toInt = 85 := rfl; have lt_7 : ((87 : Int64)).toInt = 87 := rfl; simp only [Int32.lt_iff_toInt_lt, Int64.lt_iff_toInt_lt, ← Int32.toInt_inj, ← Int64.toInt_inj] at hz hq103_7_0 hq103_7_1 hq103_7_2 hq103_7_3 hq103_7_4 hq103_7_5 hq103_7_6 hq103_7_7 hq140_5_0 hq140_5_1 hq140_5_2 hq140_5_3 hq140_5_4; omega)
      · exact absurd hq140_6_6 (by intro hz; have lt_0 : ((2 : Int64)).toInt = 2 := rfl; have lt_1 : ((257 : Int64)).toInt = 257 := rfl; have lt_2 : ((263 : Int64)).toInt = 263 := rfl; have lt_3 : ((264 : Int64)).toInt = 264 := rfl; have lt_4 : ((316 : Int64)).toInt = 316 := rfl; have lt_5 : ((82 : Int64)).toInt = 82 := rfl; have lt_6 : ((85 : Int64)).toInt = 85 := rfl; have lt_7 : ((87 : Int64)).toInt = 87 := rfl; simp only [Int32.lt_iff_toInt_lt, Int64.lt_iff_toInt_lt, ← Int32.toInt_inj, ← Int64.toInt_inj] at hz hq103_7_0 hq103_7_1 hq103_7_2 hq103_7_3 hq103_7_4 hq103_7_5 hq103_7_6 hq103_7_7 hq140_6_0 hq140_6_1 hq140_6_2 hq140_6_3 hq140_6_4 hq140_6_5; omega)
      · have pre143 : ∀ t, Steps p.tables e below (T140.setTop (mkF m 39 #[.val (.long q0_), .second, .val (.int p1_), .val (.int (p1_ &&& (31 : Int32))), .val (.long q0_), .second] [(.int (1 : Int32))])) t → Steps p.tables e below (s₁.setTop (entryFrame m #[(.long q0_), (.int p1_)] maxLocals)) t := by
          intro t kt
          refine pre1 t ?_
          show Steps p.tables e below (s₁.setTop (mkF m 8 #[.val (.long q0_), .second, .val (.int p1_), .val (.int (p1_ &&& (31 : Int32))), .unset, .unset] [(.int (14 : Int32)), (.int (p1_ &&& (31 : Int32)))])) _
          refine XS.icmpYes X0.here hx rfl (pc0 := 8) (pc' := 18) rfl (hb hby at_8) rfl (flt hc2).2.1 (by decide) (by decide) ?_
          show Steps p.tables e below (s₁.setTop (mkF m 18 #[.val (.long q0_), .second, .val (.int p1_), .val (.int (p1_ &&& (31 : Int32))), .unset, .unset] [])) _
          refine XS.lloadN X0.here hx rfl (hb hby at_18) rfl ?_
          show Steps p.tables e below (s₁.setTop (mkF m 19 #[.val (.long q0_), .second, .val (.int p1_), .val (.int (p1_ &&& (31 : Int32))), .unset, .unset] [(.long q0_)])) _
          refine XS.lstore X0.here hx rfl (hb hby at_19) rfl (l' := #[.val (.long q0_), .second, .val (.int p1_), .val (.int (p1_ &&& (31 : Int32))), .val (.long q0_), .second]) rfl ?_
          show Steps p.tables e below (s₁.setTop (mkF m 21 #[.val (.long q0_), .second, .val (.int p1_), .val (.int (p1_ &&& (31 : Int32))), .val (.long q0_), .second] [])) _
          refine XS.lload X0.here hx rfl (hb hby at_21) rfl ?_
          show Steps p.tables e below (s₁.setTop (mkF m 23 #[.val (.long q0_), .second, .val (.int p1_), .val (.int (p1_ &&& (31 : Int32))), .val (.long q0_), .second] [(.long q0_)])) _
          refine st103 _ ?_
          show Steps p.tables e below (T103.setTop (mkF m 26 #[.val (.long q0_), .second, .val (.int p1_), .val (.int (p1_ &&& (31 : Int32))), .val (.long q0_), .second] [(.ref w_UNLINKAT)])) _
          refine XS.lload X103.here hx rfl (hb hby at_26) rfl ?_
          show Steps p.tables e below (T103.setTop (mkF m 28 #[.val (.long q0_), .second, .val (.int p1_), .val (.int (p1_ &&& (31 : Int32))), .val (.long q0_), .second] [(.long q0_), (.ref w_UNLINKAT)])) _
          refine st140 _ ?_
          show Steps p.tables e below (T140.setTop (mkF m 31 #[.val (.long q0_), .second, .val (.int p1_), .val (.int (p1_ &&& (31 : Int32))), .val (.long q0_), .second] [(.ref w_UNLINKAT), (.ref w_UNLINKAT)])) _
          refine Jvm.RoadKit.acmp (g := (mkF m 31 #[.val (.long q0_), .second, .val (.int p1_), .val (.int (p1_ &&& (31 : Int32))), .val (.long q0_), .second] [(.ref w_UNLINKAT), (.ref w_UNLINKAT)])) X140 hx rfl rfl rfl (pc0 := 31) (pc' := 34) (same := true) rfl (hb hby at_31) rfl (decide_eq_true rfl) (by decide) (by decide) ?_
          show Steps p.tables e below (T140.setTop (mkF m 34 #[.val (.long q0_), .second, .val (.int p1_), .val (.int (p1_ &&& (31 : Int32))), .val (.long q0_), .second] [])) _
          refine XS.iconst X140.here hx rfl (hb hby at_34) ?_
          show Steps p.tables e below (T140.setTop (mkF m 35 #[.val (.long q0_), .second, .val (.int p1_), .val (.int (p1_ &&& (31 : Int32))), .val (.long q0_), .second] [(.int (1 : Int32))])) _
          refine XS.goto X140.here hx rfl (pc0 := 35) (pc' := 39) rfl (hb hby at_35) (by decide) (by decide) ?_
          exact kt
        obtain ⟨fs, hr, hrun, hended, hW, hsame⟩ := X140.leave (v := some (.int (1 : Int32))) (fun h => by rw [Bd.returns] at h; cases h)
        refine ⟨_, _, pre143 _ (retN X140 hx (t := .boolean) Bd.returns (by simp) (hb hby at_39) hr), hrun, hended, _, _, rfl, ?_, ⟨_, rfl⟩, hW, hsame.mono (by decide) (by decide)⟩
        show QLaw Z q0_ p1_ w_OPEN w_CREAT w_OPENAT w_RENAME w_RENAMEAT w_RENAMEAT2 w_UNLINK w_UNLINKAT w_RMDIR w_CHMOD w_FCHMOD w_FCHMODAT w_CHOWN w_FCHOWNAT w__VALUES k_ h0 n0 _ T140.heap _
        rw [e140']
        exact ⟨rfl, N142⟩
      · exact absurd hq140_8_8 (by intro hz; have lt_0 : ((2 : Int64)).toInt = 2 := rfl; have lt_1 : ((257 : Int64)).toInt = 257 := rfl; have lt_2 : ((263 : Int64)).toInt = 263 := rfl; have lt_3 : ((264 : Int64)).toInt = 264 := rfl; have lt_4 : ((316 : Int64)).toInt = 316 := rfl; have lt_5 : ((82 : Int64)).toInt = 82 := rfl; have lt_6 : ((84 : Int64)).toInt = 84 := rfl; have lt_7 : ((85 : Int64)).toInt = 85 := rfl; have lt_8 : ((87 : Int64)).toInt = 87 := rfl; simp only [Int32.lt_iff_toInt_lt, Int64.lt_iff_toInt_lt, ← Int32.toInt_inj, ← Int64.toInt_inj] at hz hq103_7_0 hq103_7_1 hq103_7_2 hq103_7_3 hq103_7_4 hq103_7_5 hq103_7_6 hq103_7_7 hq140_8_0 hq140_8_1 hq140_8_2 hq140_8_3 hq140_8_4 hq140_8_5 hq140_8_6 hq140_8_7; omega)
      · exact absurd hq140_9_9 (by intro hz; have lt_0 : ((2 : Int64)).toInt = 2 := rfl; have lt_1 : ((257 : Int64)).toInt = 257 := rfl; have lt_2 : ((263 : Int64)).toInt = 263 := rfl; have lt_3 : ((264 : Int64)).toInt = 264 := rfl; have lt_4 : ((316 : Int64)).toInt = 316 := rfl; have lt_5 : ((82 : Int64)).toInt = 82 := rfl; have lt_6 : ((84 : Int64)).toInt = 84 := rfl; have lt_7 : ((85 : Int64)).toInt = 85 := rfl; have lt_8 : ((87 : Int64)).toInt = 87 := rfl; have lt_9 : ((90 : Int64)).toInt = 90 := rfl; simp only [Int32.lt_iff_toInt_lt, Int64.lt_iff_toInt_lt, ← Int32.toInt_inj, ← Int64.toInt_inj] at hz hq103_7_0 hq103_7_1 hq103_7_2 hq103_7_3 hq103_7_4 hq103_7_5 hq103_7_6 hq103_7_7 hq140_9_0 hq140_9_1 hq140_9_2 hq140_9_3 hq140_9_4 hq140_9_5 hq140_9_6 hq140_9_7 hq140_9_8; omega)
      · exact absurd hq140_10_10 (by intro hz; have lt_0 : ((2 : Int64)).toInt = 2 := rfl; have lt_1 : ((257 : Int64)).toInt = 257 := rfl; have lt_2 : ((263 : Int64)).toInt = 263 := rfl; have lt_3 : ((264 : Int64)).toInt = 264 := rfl; have lt_4 : ((316 : Int64)).toInt = 316 := rfl; have lt_5 : ((82 : Int64)).toInt = 82 := rfl; have lt_6 : ((84 : Int64)).toInt = 84 := rfl; have lt_7 : ((85 : Int64)).toInt = 85 := rfl; have lt_8 : ((87 : Int64)).toInt = 87 := rfl; have lt_9 : ((90 : Int64)).toInt = 90 := rfl; have lt_10 : ((91 : Int64)).toInt = 91 := rfl; simp only [Int32.lt_iff_toInt_lt, Int64.lt_iff_toInt_lt, ← Int32.toInt_inj, ← Int64.toInt_inj] at hz hq103_7_0 hq103_7_1 hq103_7_2 hq103_7_3 hq103_7_4 hq103_7_5 hq103_7_6 hq103_7_7 hq140_10_0 hq140_10_1 hq140_10_2 hq140_10_3 hq140_10_4 hq140_10_5 hq140_10_6 hq140_10_7 hq140_10_8 hq140_10_9; omega)
      · exact absurd hq140_11_11 (by intro hz; have lt_0 : ((2 : Int64)).toInt = 2 := rfl; have lt_1 : ((257 : Int64)).toInt = 257 := rfl; have lt_2 : ((263 : Int64)).toInt = 263 := rfl; have lt_3 : ((264 : Int64)).toInt = 264 := rfl; have lt_4 : ((268 : Int64)).toInt = 268 := rfl; have lt_5 : ((316 : Int64)).toInt = 316 := rfl; have lt_6 : ((82 : Int64)).toInt = 82 := rfl; have lt_7 : ((84 : Int64)).toInt = 84 := rfl; have lt_8 : ((85 : Int64)).toInt = 85 := rfl; have lt_9 : ((87 : Int64)).toInt = 87 := rfl; have lt_10 : ((90 : Int64)).toInt = 90 := rfl; have lt_11 : ((91 : Int64)).toInt = 91 := rfl; simp only [Int32.lt_iff_toInt_lt, Int64.lt_iff_toInt_lt, ← Int32.toInt_inj, ← Int64.toInt_inj] at hz hq103_7_0 hq103_7_1 hq103_7_2 hq103_7_3 hq103_7_4 hq103_7_5 hq103_7_6 hq103_7_7 hq140_11_0 hq140_11_1 hq140_11_2 hq140_11_3 hq140_11_4 hq140_11_5 hq140_11_6 hq140_11_7 hq140_11_8 hq140_11_9 hq140_11_10; omega)
      · exact absurd hq140_12_12 (by intro hz; have lt_0 : ((2 : Int64)).toInt = 2 := rfl; have lt_1 : ((257 : Int64)).toInt = 257 := rfl; have lt_2 : ((263 : Int64)).toInt = 263 := rfl; have lt_3 : ((264 : Int64)).toInt = 264 := rfl; have lt_4 : ((268 : Int64)).toInt = 268 := rfl; have lt_5 : ((316 : Int64)).toInt = 316 := rfl; have lt_6 : ((82 : Int64)).toInt = 82 := rfl; have lt_7 : ((84 : Int64)).toInt = 84 := rfl; have lt_8 : ((85 : Int64)).toInt = 85 := rfl; have lt_9 : ((87 : Int64)).toInt = 87 := rfl; have lt_10 : ((90 : Int64)).toInt = 90 := rfl; have lt_11 : ((91 : Int64)).toInt = 91 := rfl; have lt_12 : ((92 : Int64)).toInt = 92 := rfl; simp only [Int32.lt_iff_toInt_lt, Int64.lt_iff_toInt_lt, ← Int32.toInt_inj, ← Int64.toInt_inj] at hz hq103_7_0 hq103_7_1 hq103_7_2 hq103_7_3 hq103_7_4 hq103_7_5 hq103_7_6 hq103_7_7 hq140_12_0 hq140_12_1 hq140_12_2 hq140_12_3 hq140_12_4 hq140_12_5 hq140_12_6 hq140_12_7 hq140_12_8 hq140_12_9 hq140_12_10 hq140_12_11; omega)
      · exact absurd hq140_13_13 (by intro hz; have lt_0 : ((2 : Int64)).toInt = 2 := rfl; have lt_1 : ((257 : Int64)).toInt = 257 := rfl; have lt_2 : ((260 : Int64)).toInt = 260 := rfl; have lt_3 : ((263 : Int64)).toInt = 263 := rfl; have lt_4 : ((264 : Int64)).toInt = 264 := rfl; have lt_5 : ((268 : Int64)).toInt = 268 := rfl; have lt_6 : ((316 : Int64)).toInt = 316 := rfl; have lt_7 : ((82 : Int64)).toInt = 82 := rfl; have lt_8 : ((84 : Int64)).toInt = 84 := rfl; have lt_9 : ((85 : Int64)).toInt = 85 := rfl; have lt_10 : ((87 : Int64)).toInt = 87 := rfl; have lt_11 : ((90 : Int64)).toInt = 90 := rfl; have lt_12 : ((91 : Int64)).toInt = 91 := rfl; have lt_13 : ((92 : Int64)).toInt = 92 := rfl; simp only [Int32.lt_iff_toInt_lt, Int64.lt_iff_toInt_lt, ← Int32.toInt_inj, ← Int64.toInt_inj] at hz hq103_7_0 hq103_7_1 hq103_7_2 hq103_7_3 hq103_7_4 hq103_7_5 hq103_7_6 hq103_7_7 hq140_13_0 hq140_13_1 hq140_13_2 hq140_13_3 hq140_13_4 hq140_13_5 hq140_13_6 hq140_13_7 hq140_13_8 hq140_13_9 hq140_13_10 hq140_13_11 hq140_13_12; omega)
      · exact absurd (by apply Decidable.by_contra; intro hz; have lt_0 : ((2 : Int64)).toInt = 2 := rfl; have lt_1 : ((257 : Int64)).toInt = 257 := rfl; have lt_2 : ((263 : Int64)).toInt = 263 := rfl; have lt_3 : ((264 : Int64)).toInt = 264 := rfl; have lt_4 : ((316 : Int64)).toInt = 316 := rfl; have lt_5 : ((82 : Int64)).toInt = 82 := rfl; have lt_6 : ((85 : Int64)).toInt = 85 := rfl; have lt_7 : ((87 : Int64)).toInt = 87 := rfl; simp only [Int32.lt_iff_toInt_lt, Int64.lt_iff_toInt_lt, ← Int32.toInt_inj, ← Int64.toInt_inj] at hz hq103_7_0 hq103_7_1 hq103_7_2 hq103_7_3 hq103_7_4 hq103_7_5 hq103_7_6 hq103_7_7 hq140_14_0 hq140_14_1 hq140_14_2 hq140_14_3 hq140_14_4 hq140_14_5 hq140_14_6; omega) hq140_14_7
    · have f146 : Old Z n0 h103 := O0.keep K103 all0
      obtain ⟨_, _, ⟨T145, L145, k145, n145⟩, -, X145, ⟨Lc145, hQ145, l145, y145, z145⟩, st145⟩ := Jvm.LawKit.callS X103 hx (y := (⟨"com/example/aeacus/aeacus/audit/SyscallOfPinLaw", "expected", "(J)Lcom/example/aeacus/aeacus/audit/Syscall;"⟩ : MethodName)) hown (mvT hZ (hw _ (List.mem_of_getElem? (i := 40) rfl))) (mvT hZ (hw _ (List.mem_of_getElem? (i := 41) rfl))) (mvT hZ (hw _ (List.mem_of_getElem? (i := 2) rfl))) (mvT hZ (hw _ (List.mem_of_getElem? (i := 42) rfl))) (by decide) (backOf (W := 1) (rmExp l Z a0 hw [] q0_ w_OPEN w_CREAT w_OPENAT w_RENAME w_RENAMEAT w_RENAMEAT2 w_UNLINK w_UNLINKAT w_RMDIR w_CHMOD w_FCHMOD w_FCHMODAT w_CHOWN w_FCHOWNAT w__VALUES k_ h103 n0 f146 P0 P1 P2 P3 P4 P5 P6 P7 P8 P9 P10 P11 P12 P13 P14 P15 P16 P17 P18 P19 P20 P21 P22 P23 P24 P25 P26 P27 P28 P29 P30 P31 P32 P33 P34 P35 P36 P37 P38 P39 P40 P41 P42 P43 P44) hZ (hw _ (List.mem_of_getElem? (i := 42) rfl)) (hw _ (List.mem_of_getElem? (i := 2) rfl)) (by decide) (by decide)) (g := (mkF m 28 #[.val (.long q0_), .second, .val (.int p1_), .val (.int (p1_ &&& (31 : Int32))), .val (.long q0_), .second] [(.long q0_), (.ref w_RMDIR)])) rfl (by rw [hml]; rfl) (argsL := [(.long q0_)]) (rest := [(.ref w_RMDIR)]) (lenOf pd_2 rfl) rfl (by show 2 * 0 + _ ≤ _; exact Nat.le_of_eq rfl) (hb hby at_28) (fun _ _ => ⟨rfl, e103, (by decide : 1 + 0 ≤ _), (by decide : 14 + 0 ≤ _)⟩)
      dsimp only [Pt.U, Pt.locs, Pt.cells, Pt.slots] at X145 l145 y145 z145 st145 hQ145
      subst l145 y145 z145
      obtain ⟨h145, e145⟩ : ∃ z, T145.heap = z := ⟨_, rfl⟩
      rw [e145] at hQ145
      obtain ⟨rr145, rfl, hs145, N145q, hh145⟩ := hQ145
      have N147 := Fr.app N104 N145q
      have e145' : T145.heap = h103 := e145.trans hh145
      rcases hs145 with ⟨rfl, hq145_0_0⟩ | ⟨rfl, hq145_1_0, hq145_1_1⟩ | ⟨rfl, hq145_2_0, hq145_2_1, hq145_2_2⟩ | ⟨rfl, hq145_3_0, hq145_3_1, hq145_3_2, hq145_3_3⟩ | ⟨rfl, hq145_4_0, hq145_4_1, hq145_4_2, hq145_4_3, hq145_4_4⟩ | ⟨rfl, hq145_5_0, hq145_5_1, hq145_5_2, hq145_5_3, hq145_5_4, hq145_5_5⟩ | ⟨rfl, hq145_6_0, hq145_6_1, hq145_6_2, hq145_6_3, hq145_6_4, hq145_6_5, hq145_6_6⟩ | ⟨rfl, hq145_7_0, hq145_7_1, hq145_7_2, hq145_7_3, hq145_7_4, hq145_7_5, hq145_7_6, hq145_7_7⟩ | ⟨rfl, hq145_8_0, hq145_8_1, hq145_8_2, hq145_8_3, hq145_8_4, hq145_8_5, hq145_8_6, hq145_8_7, hq145_8_8⟩ | ⟨rfl, hq145_9_0, hq145_9_1, hq145_9_2, hq145_9_3, hq145_9_4, hq145_9_5, hq145_9_6, hq145_9_7, hq145_9_8, hq145_9_9⟩ | ⟨rfl, hq145_10_0, hq145_10_1, hq145_10_2, hq145_10_3, hq145_10_4, hq145_10_5, hq145_10_6, hq145_10_7, hq145_10_8, hq145_10_9, hq145_10_10⟩ | ⟨rfl, hq145_11_0, hq145_11_1, hq145_11_2, hq145_11_3, hq145_11_4, hq145_11_5, hq145_11_6, hq145_11_7, hq145_11_8, hq145_11_9, hq145_11_10, hq145_11_11⟩ | ⟨rfl, hq145_12_0, hq145_12_1, hq145_12_2, hq145_12_3, hq145_12_4, hq145_12_5, hq145_12_6, hq145_12_7, hq145_12_8, hq145_12_9, hq145_12_10, hq145_12_11, hq145_12_12⟩ | ⟨rfl, hq145_13_0, hq145_13_1, hq145_13_2, hq145_13_3, hq145_13_4, hq145_13_5, hq145_13_6, hq145_13_7, hq145_13_8, hq145_13_9, hq145_13_10, hq145_13_11, hq145_13_12, hq145_13_13⟩ | ⟨rfl, hq145_14_0, hq145_14_1, hq145_14_2, hq145_14_3, hq145_14_4, hq145_14_5, hq145_14_6, hq145_14_7, hq145_14_8, hq145_14_9, hq145_14_10, hq145_14_11, hq145_14_12, hq145_14_13⟩
      · exact absurd hq145_0_0 (by intro hz; have lt_0 : ((2 : Int64)).toInt = 2 := rfl; have lt_1 : ((257 : Int64)).toInt = 257 := rfl; have lt_2 : ((263 : Int64)).toInt = 263 := rfl; have lt_3 : ((264 : Int64)).toInt = 264 := rfl; have lt_4 : ((316 : Int64)).toInt = 316 := rfl; have lt_5 : ((82 : Int64)).toInt = 82 := rfl; have lt_6 : ((84 : Int64)).toInt = 84 := rfl; have lt_7 : ((85 : Int64)).toInt = 85 := rfl; have lt_8 : ((87 : Int64)).toInt = 87 := rfl; simp only [Int32.lt_iff_toInt_lt, Int64.lt_iff_toInt_lt, ← Int32.toInt_inj, ← Int64.toInt_inj] at hz hq103_8_0 hq103_8_1 hq103_8_2 hq103_8_3 hq103_8_4 hq103_8_5 hq103_8_6 hq103_8_7 hq103_8_8; omega)
      · exact absurd hq145_1_1 (by intro hz; have lt_0 : ((2 : Int64)).toInt = 2 := rfl; have lt_1 : ((257 : Int64)).toInt = 257 := rfl; have lt_2 : ((263 : Int64)).toInt = 263 := rfl; have lt_3 : ((264 : Int64)).toInt = 264 := rfl; have lt_4 : ((316 : Int64)).toInt = 316 := rfl; have lt_5 : ((82 : Int64)).toInt = 82 := rfl; have lt_6 : ((84 : Int64)).toInt = 84 := rfl; have lt_7 : ((85 : Int64)).toInt = 85 := rfl; have lt_8 : ((87 : Int64)).toInt = 87 := rfl; simp only [Int32.lt_iff_toInt_lt, Int64.lt_iff_toInt_lt, ← Int32.toInt_inj, ← Int64.toInt_inj] at hz hq103_8_0 hq103_8_1 hq103_8_2 hq103_8_3 hq103_8_4 hq103_8_5 hq103_8_6 hq103_8_7 hq103_8_8 hq145_1_0; omega)
      · exact absurd hq145_2_2 (by intro hz; have lt_0 : ((2 : Int64)).toInt = 2 := rfl; have lt_1 : ((257 : Int64)).toInt = 257 := rfl; have lt_2 : ((263 : Int64)).toInt = 263 := rfl; have lt_3 : ((264 : Int64)).toInt = 264 := rfl; have lt_4 : ((316 : Int64)).toInt = 316 := rfl; have lt_5 : ((82 : Int64)).toInt = 82 := rfl; have lt_6 : ((84 : Int64)).toInt = 84 := rfl; have lt_7 : ((85 : Int64)).toInt = 85 := rfl; have lt_8 : ((87 : Int64)).toInt = 87 := rfl; simp only [Int32.lt_iff_toInt_lt, Int64.lt_iff_toInt_lt, ← Int32.toInt_inj, ← Int64.toInt_inj] at hz hq103_8_0 hq103_8_1 hq103_8_2 hq103_8_3 hq103_8_4 hq103_8_5 hq103_8_6 hq103_8_7 hq103_8_8 hq145_2_0 hq145_2_1; omega)
      · exact absurd hq145_3_3 (by intro hz; have lt_0 : ((2 : Int64)).toInt = 2 := rfl; have lt_1 : ((257 : Int64)).toInt = 257 := rfl; have lt_2 : ((263 : Int64)).toInt = 263 := rfl; have lt_3 : ((264 : Int64)).toInt = 264 := rfl; have lt_4 : ((316 : Int64)).toInt = 316 := rfl; have lt_5 : ((82 : Int64)).toInt = 82 := rfl; have lt_6 : ((84 : Int64)).toInt = 84 := rfl; have lt_7 : ((85 : Int64)).toInt = 85 := rfl; have lt_8 : ((87 : Int64)).toInt = 87 := rfl; simp only [Int32.lt_iff_toInt_lt, Int64.lt_iff_toInt_lt, ← Int32.toInt_inj, ← Int64.toInt_inj] at hz hq103_8_0 hq103_8_1 hq103_8_2 hq103_8_3 hq103_8_4 hq103_8_5 hq103_8_6 hq103_8_7 hq103_8_8 hq145_3_0 hq145_3_1 hq145_3_2; omega)
      · exact absurd hq145_4_4 (by intro hz; have lt_0 : ((2 : Int64)).toInt = 2 := rfl; have lt_1 : ((257 : Int64)).toInt = 257 := rfl; have lt_2 : ((263 : Int64)).toInt = 263 := rfl; have lt_3 : ((264 : Int64)).toInt = 264 := rfl; have lt_4 : ((316 : Int64)).toInt = 316 := rfl; have lt_5 : ((82 : Int64)).toInt = 82 := rfl; have lt_6 : ((84 : Int64)).toInt = 84 := rfl; have lt_7 : ((85 : Int64)).toInt = 85 := rfl; have lt_8 : ((87 : Int64)).toInt = 87 := rfl; simp only [Int32.lt_iff_toInt_lt, Int64.lt_iff_toInt_lt, ← Int32.toInt_inj, ← Int64.toInt_inj] at hz hq103_8_0 hq103_8_1 hq103_8_2 hq103_8_3 hq103_8_4 hq103_8_5 hq103_8_6 hq103_8_7 hq103_8_8 hq145_4_0 hq145_4_1 hq145_4_2 hq145_4_3; omega)
      · exact absurd hq145_5_5 (by intro hz; have lt_0 : ((2 : Int64)).toInt = 2 := rfl; have lt_1 : ((257 : Int64)).toInt = 257 := rfl; have lt_2 : ((263 : Int64)).toInt = 263 := rfl; have lt_3 : ((264 : Int64)).toInt = 264 := rfl; have lt_4 : ((316 : Int64)).toInt = 316 := rfl; have lt_5 : ((82 : Int64)).toInt = 82 := rfl; have lt_6 : ((84 : Int64)).toInt = 84 := rfl; have lt_7 : ((85 : Int64)).toInt = 85 := rfl; have lt_8 : ((87 : Int64)).toInt = 87 := rfl; simp only [Int32.lt_iff_toInt_lt, Int64.lt_iff_toInt_lt, ← Int32.toInt_inj, ← Int64.toInt_inj] at hz hq103_8_0 hq103_8_1 hq103_8_2 hq103_8_3 hq103_8_4 hq103_8_5 hq103_8_6 hq103_8_7 hq103_8_8 hq145_5_0 hq145_5_1 hq145_5_2 hq145_5_3 hq145_5_4; omega)
      · exact absurd hq145_6_6 (by intro hz; have lt_0 : ((2 : Int64)).toInt = 2 := rfl; have lt_1 : ((257 : Int64)).toInt = 257 := rfl; have lt_2 : ((263 : Int64)).toInt = 263 := rfl; have lt_3 : ((264 : Int64)).toInt = 264 := rfl; have lt_4 : ((316 : Int64)).toInt = 316 := rfl; have lt_5 : ((82 : Int64)).toInt = 82 := rfl; have lt_6 : ((84 : Int64)).toInt = 84 := rfl; have lt_7 : ((85 : Int64)).toInt = 85 := rfl; have lt_8 : ((87 : Int64)).toInt = 87 := rfl; simp only [Int32.lt_iff_toInt_lt, Int64.lt_iff_toInt_lt, ← Int32.toInt_inj, ← Int64.toInt_inj] at hz hq103_8_0 hq103_8_1 hq103_8_2 hq103_8_3 hq103_8_4 hq103_8_5 hq103_8_6 hq103_8_7 hq103_8_8 hq145_6_0 hq145_6_1 hq145_6_2 hq145_6_3 hq145_6_4 hq145_6_5; omega)
      · exact absurd hq145_7_7 (by intro hz; have lt_0 : ((2 : Int64)).toInt = 2 := rfl; have lt_1 : ((257 : Int64)).toInt = 257 := rfl; have lt_2 : ((263 : Int64)).toInt = 263 := rfl; have lt_3 : ((264 : Int64)).toInt = 264 := rfl; have lt_4 : ((316 : Int64)).toInt = 316 := rfl; have lt_5 : ((82 : Int64)).toInt = 82 := rfl; have lt_6 : ((84 : Int64)).toInt = 84 := rfl; have lt_7 : ((85 : Int64)).toInt = 85 := rfl; have lt_8 : ((87 : Int64)).toInt = 87 := rfl; simp only [Int32.lt_iff_toInt_lt, Int64.lt_iff_toInt_lt, ← Int32.toInt_inj, ← Int64.toInt_inj] at hz hq103_8_0 hq103_8_1 hq103_8_2 hq103_8_3 hq103_8_4 hq103_8_5 hq103_8_6 hq103_8_7 hq103_8_8 hq145_7_0 hq145_7_1 hq145_7_2 hq145_7_3 hq145_7_4 hq145_7_5 hq145_7_6; omega)
      · have pre148 : ∀ t, Steps p.tables e below (T145.setTop (mkF m 39 #[.val (.long q0_), .second, .val (.int p1_), .val (.int (p1_ &&& (31 : Int32))), .val (.long q0_), .second] [(.int (1 : Int32))])) t → Steps p.tables e below (s₁.setTop (entryFrame m #[(.long q0_), (.int p1_)] maxLocals)) t := by
          intro t kt
          refine pre1 t ?_
          show Steps p.tables e below (s₁.setTop (mkF m 8 #[.val (.long q0_), .second, .val (.int p1_), .val (.int (p1_ &&& (31 : Int32))), .unset, .unset] [(.int (14 : Int32)), (.int (p1_ &&& (31 : Int32)))])) _
          refine XS.icmpYes X0.here hx rfl (pc0 := 8) (pc' := 18) rfl (hb hby at_8) rfl (flt hc2).2.1 (by decide) (by decide) ?_
          show Steps p.tables e below (s₁.setTop (mkF m 18 #[.val (.long q0_), .second, .val (.int p1_), .val (.int (p1_ &&& (31 : Int32))), .unset, .unset] [])) _
          refine XS.lloadN X0.here hx rfl (hb hby at_18) rfl ?_
          show Steps p.tables e below (s₁.setTop (mkF m 19 #[.val (.long q0_), .second, .val (.int p1_), .val (.int (p1_ &&& (31 : Int32))), .unset, .unset] [(.long q0_)])) _
          refine XS.lstore X0.here hx rfl (hb hby at_19) rfl (l' := #[.val (.long q0_), .second, .val (.int p1_), .val (.int (p1_ &&& (31 : Int32))), .val (.long q0_), .second]) rfl ?_
          show Steps p.tables e below (s₁.setTop (mkF m 21 #[.val (.long q0_), .second, .val (.int p1_), .val (.int (p1_ &&& (31 : Int32))), .val (.long q0_), .second] [])) _
          refine XS.lload X0.here hx rfl (hb hby at_21) rfl ?_
          show Steps p.tables e below (s₁.setTop (mkF m 23 #[.val (.long q0_), .second, .val (.int p1_), .val (.int (p1_ &&& (31 : Int32))), .val (.long q0_), .second] [(.long q0_)])) _
          refine st103 _ ?_
          show Steps p.tables e below (T103.setTop (mkF m 26 #[.val (.long q0_), .second, .val (.int p1_), .val (.int (p1_ &&& (31 : Int32))), .val (.long q0_), .second] [(.ref w_RMDIR)])) _
          refine XS.lload X103.here hx rfl (hb hby at_26) rfl ?_
          show Steps p.tables e below (T103.setTop (mkF m 28 #[.val (.long q0_), .second, .val (.int p1_), .val (.int (p1_ &&& (31 : Int32))), .val (.long q0_), .second] [(.long q0_), (.ref w_RMDIR)])) _
          refine st145 _ ?_
          show Steps p.tables e below (T145.setTop (mkF m 31 #[.val (.long q0_), .second, .val (.int p1_), .val (.int (p1_ &&& (31 : Int32))), .val (.long q0_), .second] [(.ref w_RMDIR), (.ref w_RMDIR)])) _
          refine Jvm.RoadKit.acmp (g := (mkF m 31 #[.val (.long q0_), .second, .val (.int p1_), .val (.int (p1_ &&& (31 : Int32))), .val (.long q0_), .second] [(.ref w_RMDIR), (.ref w_RMDIR)])) X145 hx rfl rfl rfl (pc0 := 31) (pc' := 34) (same := true) rfl (hb hby at_31) rfl (decide_eq_true rfl) (by decide) (by decide) ?_
          show Steps p.tables e below (T145.setTop (mkF m 34 #[.val (.long q0_), .second, .val (.int p1_), .val (.int (p1_ &&& (31 : Int32))), .val (.long q0_), .second] [])) _
          refine XS.iconst X145.here hx rfl (hb hby at_34) ?_
          show Steps p.tables e below (T145.setTop (mkF m 35 #[.val (.long q0_), .second, .val (.int p1_), .val (.int (p1_ &&& (31 : Int32))), .val (.long q0_), .second] [(.int (1 : Int32))])) _
          refine XS.goto X145.here hx rfl (pc0 := 35) (pc' := 39) rfl (hb hby at_35) (by decide) (by decide) ?_
          exact kt
        obtain ⟨fs, hr, hrun, hended, hW, hsame⟩ := X145.leave (v := some (.int (1 : Int32))) (fun h => by rw [Bd.returns] at h; cases h)
        refine ⟨_, _, pre148 _ (retN X145 hx (t := .boolean) Bd.returns (by simp) (hb hby at_39) hr), hrun, hended, _, _, rfl, ?_, ⟨_, rfl⟩, hW, hsame.mono (by decide) (by decide)⟩
        show QLaw Z q0_ p1_ w_OPEN w_CREAT w_OPENAT w_RENAME w_RENAMEAT w_RENAMEAT2 w_UNLINK w_UNLINKAT w_RMDIR w_CHMOD w_FCHMOD w_FCHMODAT w_CHOWN w_FCHOWNAT w__VALUES k_ h0 n0 _ T145.heap _
        rw [e145']
        exact ⟨rfl, N147⟩
      · exact absurd hq145_9_9 (by intro hz; have lt_0 : ((2 : Int64)).toInt = 2 := rfl; have lt_1 : ((257 : Int64)).toInt = 257 := rfl; have lt_2 : ((263 : Int64)).toInt = 263 := rfl; have lt_3 : ((264 : Int64)).toInt = 264 := rfl; have lt_4 : ((316 : Int64)).toInt = 316 := rfl; have lt_5 : ((82 : Int64)).toInt = 82 := rfl; have lt_6 : ((84 : Int64)).toInt = 84 := rfl; have lt_7 : ((85 : Int64)).toInt = 85 := rfl; have lt_8 : ((87 : Int64)).toInt = 87 := rfl; have lt_9 : ((90 : Int64)).toInt = 90 := rfl; simp only [Int32.lt_iff_toInt_lt, Int64.lt_iff_toInt_lt, ← Int32.toInt_inj, ← Int64.toInt_inj] at hz hq103_8_0 hq103_8_1 hq103_8_2 hq103_8_3 hq103_8_4 hq103_8_5 hq103_8_6 hq103_8_7 hq103_8_8 hq145_9_0 hq145_9_1 hq145_9_2 hq145_9_3 hq145_9_4 hq145_9_5 hq145_9_6 hq145_9_7 hq145_9_8; omega)
      · exact absurd hq145_10_10 (by intro hz; have lt_0 : ((2 : Int64)).toInt = 2 := rfl; have lt_1 : ((257 : Int64)).toInt = 257 := rfl; have lt_2 : ((263 : Int64)).toInt = 263 := rfl; have lt_3 : ((264 : Int64)).toInt = 264 := rfl; have lt_4 : ((316 : Int64)).toInt = 316 := rfl; have lt_5 : ((82 : Int64)).toInt = 82 := rfl; have lt_6 : ((84 : Int64)).toInt = 84 := rfl; have lt_7 : ((85 : Int64)).toInt = 85 := rfl; have lt_8 : ((87 : Int64)).toInt = 87 := rfl; have lt_9 : ((90 : Int64)).toInt = 90 := rfl; have lt_10 : ((91 : Int64)).toInt = 91 := rfl; simp only [Int32.lt_iff_toInt_lt, Int64.lt_iff_toInt_lt, ← Int32.toInt_inj, ← Int64.toInt_inj] at hz hq103_8_0 hq103_8_1 hq103_8_2 hq103_8_3 hq103_8_4 hq103_8_5 hq103_8_6 hq103_8_7 hq103_8_8 hq145_10_0 hq145_10_1 hq145_10_2 hq145_10_3 hq145_10_4 hq145_10_5 hq145_10_6 hq145_10_7 hq145_10_8 hq145_10_9; omega)
      · exact absurd hq145_11_11 (by intro hz; have lt_0 : ((2 : Int64)).toInt = 2 := rfl; have lt_1 : ((257 : Int64)).toInt = 257 := rfl; have lt_2 : ((263 : Int64)).toInt = 263 := rfl; have lt_3 : ((264 : Int64)).toInt = 264 := rfl; have lt_4 : ((268 : Int64)).toInt = 268 := rfl; have lt_5 : ((316 : Int64)).toInt = 316 := rfl; have lt_6 : ((82 : Int64)).toInt = 82 := rfl; have lt_7 : ((84 : Int64)).toInt = 84 := rfl; have lt_8 : ((85 : Int64)).toInt = 85 := rfl; have lt_9 : ((87 : Int64)).toInt = 87 := rfl; have lt_10 : ((90 : Int64)).toInt = 90 := rfl; have lt_11 : ((91 : Int64)).toInt = 91 := rfl; simp only [Int32.lt_iff_toInt_lt, Int64.lt_iff_toInt_lt, ← Int32.toInt_inj, ← Int64.toInt_inj] at hz hq103_8_0 hq103_8_1 hq103_8_2 hq103_8_3 hq103_8_4 hq103_8_5 hq103_8_6 hq103_8_7 hq103_8_8 hq145_11_0 hq145_11_1 hq145_11_2 hq145_11_3 hq145_11_4 hq145_11_5 hq145_11_6 hq145_11_7 hq145_11_8 hq145_11_9 hq145_11_10; omega)
      · exact absurd hq145_12_12 (by intro hz; have lt_0 : ((2 : Int64)).toInt = 2 := rfl; have lt_1 : ((257 : Int64)).toInt = 257 := rfl; have lt_2 : ((263 : Int64)).toInt = 263 := rfl; have lt_3 : ((264 : Int64)).toInt = 264 := rfl; have lt_4 : ((268 : Int64)).toInt = 268 := rfl; have lt_5 : ((316 : Int64)).toInt = 316 := rfl; have lt_6 : ((82 : Int64)).toInt = 82 := rfl; have lt_7 : ((84 : Int64)).toInt = 84 := rfl; have lt_8 : ((85 : Int64)).toInt = 85 := rfl; have lt_9 : ((87 : Int64)).toInt = 87 := rfl; have lt_10 : ((90 : Int64)).toInt = 90 := rfl; have lt_11 : ((91 : Int64)).toInt = 91 := rfl; have lt_12 : ((92 : Int64)).toInt = 92 := rfl; simp only [Int32.lt_iff_toInt_lt, Int64.lt_iff_toInt_lt, ← Int32.toInt_inj, ← Int64.toInt_inj] at hz hq103_8_0 hq103_8_1 hq103_8_2 hq103_8_3 hq103_8_4 hq103_8_5 hq103_8_6 hq103_8_7 hq103_8_8 hq145_12_0 hq145_12_1 hq145_12_2 hq145_12_3 hq145_12_4 hq145_12_5 hq145_12_6 hq145_12_7 hq145_12_8 hq145_12_9 hq145_12_10 hq145_12_11; omega)
      · exact absurd hq145_13_13 (by intro hz; have lt_0 : ((2 : Int64)).toInt = 2 := rfl; have lt_1 : ((257 : Int64)).toInt = 257 := rfl; have lt_2 : ((260 : Int64)).toInt = 260 := rfl; have lt_3 : ((263 : Int64)).toInt = 263 := rfl; have lt_4 : ((264 : Int64)).toInt = 264 := rfl; have lt_5 : ((268 : Int64)).toInt = 268 := rfl; have lt_6 : ((316 : Int64)).toInt = 316 := rfl; have lt_7 : ((82 : Int64)).toInt = 82 := rfl; have lt_8 : ((84 : Int64)).toInt = 84 := rfl; have lt_9 : ((85 : Int64)).toInt = 85 := rfl; have lt_10 : ((87 : Int64)).toInt = 87 := rfl; have lt_11 : ((90 : Int64)).toInt = 90 := rfl; have lt_12 : ((91 : Int64)).toInt = 91 := rfl; have lt_13 : ((92 : Int64)).toInt = 92 := rfl; simp only [Int32.lt_iff_toInt_lt, Int64.lt_iff_toInt_lt, ← Int32.toInt_inj, ← Int64.toInt_inj] at hz hq103_8_0 hq103_8_1 hq103_8_2 hq103_8_3 hq103_8_4 hq103_8_5 hq103_8_6 hq103_8_7 hq103_8_8 hq145_13_0 hq145_13_1 hq145_13_2 hq145_13_3 hq145_13_4 hq145_13_5 hq145_13_6 hq145_13_7 hq145_13_8 hq145_13_9 hq145_13_10 hq145_13_11 hq145_13_12; omega)
      · exact absurd (by apply Decidable.by_contra; intro hz; have lt_0 : ((2 : Int64)).toInt = 2 := rfl; have lt_1 : ((257 : Int64)).toInt = 257 := rfl; have lt_2 : ((263 : Int64)).toInt = 263 := rfl; have lt_3 : ((264 : Int64)).toInt = 264 := rfl; have lt_4 : ((316 : Int64)).toInt = 316 := rfl; have lt_5 : ((82 : Int64)).toInt = 82 := rfl; have lt_6 : ((84 : Int64)).toInt = 84 := rfl; have lt_7 : ((85 : Int64)).toInt = 85 := rfl; have lt_8 : ((87 : Int64)).toInt = 87 := rfl; simp only [Int32.lt_iff_toInt_lt, Int64.lt_iff_toInt_lt, ← Int32.toInt_inj, ← Int64.toInt_inj] at hz hq103_8_0 hq103_8_1 hq103_8_2 hq103_8_3 hq103_8_4 hq103_8_5 hq103_8_6 hq103_8_7 hq103_8_8 hq145_14_0 hq145_14_1 hq145_14_2 hq145_14_3 hq145_14_4 hq145_14_5 hq145_14_6 hq145_14_7; omega) hq145_14_8
    · have f151 : Old Z n0 h103 := O0.keep K103 all0
      obtain ⟨_, _, ⟨T150, L150, k150, n150⟩, -, X150, ⟨Lc150, hQ150, l150, y150, z150⟩, st150⟩ := Jvm.LawKit.callS X103 hx (y := (⟨"com/example/aeacus/aeacus/audit/SyscallOfPinLaw", "expected", "(J)Lcom/example/aeacus/aeacus/audit/Syscall;"⟩ : MethodName)) hown (mvT hZ (hw _ (List.mem_of_getElem? (i := 40) rfl))) (mvT hZ (hw _ (List.mem_of_getElem? (i := 41) rfl))) (mvT hZ (hw _ (List.mem_of_getElem? (i := 2) rfl))) (mvT hZ (hw _ (List.mem_of_getElem? (i := 42) rfl))) (by decide) (backOf (W := 1) (rmExp l Z a0 hw [] q0_ w_OPEN w_CREAT w_OPENAT w_RENAME w_RENAMEAT w_RENAMEAT2 w_UNLINK w_UNLINKAT w_RMDIR w_CHMOD w_FCHMOD w_FCHMODAT w_CHOWN w_FCHOWNAT w__VALUES k_ h103 n0 f151 P0 P1 P2 P3 P4 P5 P6 P7 P8 P9 P10 P11 P12 P13 P14 P15 P16 P17 P18 P19 P20 P21 P22 P23 P24 P25 P26 P27 P28 P29 P30 P31 P32 P33 P34 P35 P36 P37 P38 P39 P40 P41 P42 P43 P44) hZ (hw _ (List.mem_of_getElem? (i := 42) rfl)) (hw _ (List.mem_of_getElem? (i := 2) rfl)) (by decide) (by decide)) (g := (mkF m 28 #[.val (.long q0_), .second, .val (.int p1_), .val (.int (p1_ &&& (31 : Int32))), .val (.long q0_), .second] [(.long q0_), (.ref w_CHMOD)])) rfl (by rw [hml]; rfl) (argsL := [(.long q0_)]) (rest := [(.ref w_CHMOD)]) (lenOf pd_2 rfl) rfl (by show 2 * 0 + _ ≤ _; exact Nat.le_of_eq rfl) (hb hby at_28) (fun _ _ => ⟨rfl, e103, (by decide : 1 + 0 ≤ _), (by decide : 14 + 0 ≤ _)⟩)
      dsimp only [Pt.U, Pt.locs, Pt.cells, Pt.slots] at X150 l150 y150 z150 st150 hQ150
      subst l150 y150 z150
      obtain ⟨h150, e150⟩ : ∃ z, T150.heap = z := ⟨_, rfl⟩
      rw [e150] at hQ150
      obtain ⟨rr150, rfl, hs150, N150q, hh150⟩ := hQ150
      have N152 := Fr.app N104 N150q
      have e150' : T150.heap = h103 := e150.trans hh150
      rcases hs150 with ⟨rfl, hq150_0_0⟩ | ⟨rfl, hq150_1_0, hq150_1_1⟩ | ⟨rfl, hq150_2_0, hq150_2_1, hq150_2_2⟩ | ⟨rfl, hq150_3_0, hq150_3_1, hq150_3_2, hq150_3_3⟩ | ⟨rfl, hq150_4_0, hq150_4_1, hq150_4_2, hq150_4_3, hq150_4_4⟩ | ⟨rfl, hq150_5_0, hq150_5_1, hq150_5_2, hq150_5_3, hq150_5_4, hq150_5_5⟩ | ⟨rfl, hq150_6_0, hq150_6_1, hq150_6_2, hq150_6_3, hq150_6_4, hq150_6_5, hq150_6_6⟩ | ⟨rfl, hq150_7_0, hq150_7_1, hq150_7_2, hq150_7_3, hq150_7_4, hq150_7_5, hq150_7_6, hq150_7_7⟩ | ⟨rfl, hq150_8_0, hq150_8_1, hq150_8_2, hq150_8_3, hq150_8_4, hq150_8_5, hq150_8_6, hq150_8_7, hq150_8_8⟩ | ⟨rfl, hq150_9_0, hq150_9_1, hq150_9_2, hq150_9_3, hq150_9_4, hq150_9_5, hq150_9_6, hq150_9_7, hq150_9_8, hq150_9_9⟩ | ⟨rfl, hq150_10_0, hq150_10_1, hq150_10_2, hq150_10_3, hq150_10_4, hq150_10_5, hq150_10_6, hq150_10_7, hq150_10_8, hq150_10_9, hq150_10_10⟩ | ⟨rfl, hq150_11_0, hq150_11_1, hq150_11_2, hq150_11_3, hq150_11_4, hq150_11_5, hq150_11_6, hq150_11_7, hq150_11_8, hq150_11_9, hq150_11_10, hq150_11_11⟩ | ⟨rfl, hq150_12_0, hq150_12_1, hq150_12_2, hq150_12_3, hq150_12_4, hq150_12_5, hq150_12_6, hq150_12_7, hq150_12_8, hq150_12_9, hq150_12_10, hq150_12_11, hq150_12_12⟩ | ⟨rfl, hq150_13_0, hq150_13_1, hq150_13_2, hq150_13_3, hq150_13_4, hq150_13_5, hq150_13_6, hq150_13_7, hq150_13_8, hq150_13_9, hq150_13_10, hq150_13_11, hq150_13_12, hq150_13_13⟩ | ⟨rfl, hq150_14_0, hq150_14_1, hq150_14_2, hq150_14_3, hq150_14_4, hq150_14_5, hq150_14_6, hq150_14_7, hq150_14_8, hq150_14_9, hq150_14_10, hq150_14_11, hq150_14_12, hq150_14_13⟩
      · exact absurd hq150_0_0 (by intro hz; have lt_0 : ((2 : Int64)).toInt = 2 := rfl; have lt_1 : ((257 : Int64)).toInt = 257 := rfl; have lt_2 : ((263 : Int64)).toInt = 263 := rfl; have lt_3 : ((264 : Int64)).toInt = 264 := rfl; have lt_4 : ((316 : Int64)).toInt = 316 := rfl; have lt_5 : ((82 : Int64)).toInt = 82 := rfl; have lt_6 : ((84 : Int64)).toInt = 84 := rfl; have lt_7 : ((85 : Int64)).toInt = 85 := rfl; have lt_8 : ((87 : Int64)).toInt = 87 := rfl; have lt_9 : ((90 : Int64)).toInt = 90 := rfl; simp only [Int32.lt_iff_toInt_lt, Int64.lt_iff_toInt_lt, ← Int32.toInt_inj, ← Int64.toInt_inj] at hz hq103_9_0 hq103_9_1 hq103_9_2 hq103_9_3 hq103_9_4 hq103_9_5 hq103_9_6 hq103_9_7 hq103_9_8 hq103_9_9; omega)
      · exact absurd hq150_1_1 (by intro hz; have lt_0 : ((2 : Int64)).toInt = 2 := rfl; have lt_1 : ((257 : Int64)).toInt = 257 := rfl; have lt_2 : ((263 : Int64)).toInt = 263 := rfl; have lt_3 : ((264 : Int64)).toInt = 264 := rfl; have lt_4 : ((316 : Int64)).toInt = 316 := rfl; have lt_5 : ((82 : Int64)).toInt = 82 := rfl; have lt_6 : ((84 : Int64)).toInt = 84 := rfl; have lt_7 : ((85 : Int64)).toInt = 85 := rfl; have lt_8 : ((87 : Int64)).toInt = 87 := rfl; have lt_9 : ((90 : Int64)).toInt = 90 := rfl; simp only [Int32.lt_iff_toInt_lt, Int64.lt_iff_toInt_lt, ← Int32.toInt_inj, ← Int64.toInt_inj] at hz hq103_9_0 hq103_9_1 hq103_9_2 hq103_9_3 hq103_9_4 hq103_9_5 hq103_9_6 hq103_9_7 hq103_9_8 hq103_9_9 hq150_1_0; omega)
      · exact absurd hq150_2_2 (by intro hz; have lt_0 : ((2 : Int64)).toInt = 2 := rfl; have lt_1 : ((257 : Int64)).toInt = 257 := rfl; have lt_2 : ((263 : Int64)).toInt = 263 := rfl; have lt_3 : ((264 : Int64)).toInt = 264 := rfl; have lt_4 : ((316 : Int64)).toInt = 316 := rfl; have lt_5 : ((82 : Int64)).toInt = 82 := rfl; have lt_6 : ((84 : Int64)).toInt = 84 := rfl; have lt_7 : ((85 : Int64)).toInt = 85 := rfl; have lt_8 : ((87 : Int64)).toInt = 87 := rfl; have lt_9 : ((90 : Int64)).toInt = 90 := rfl; simp only [Int32.lt_iff_toInt_lt, Int64.lt_iff_toInt_lt, ← Int32.toInt_inj, ← Int64.toInt_inj] at hz hq103_9_0 hq103_9_1 hq103_9_2 hq103_9_3 hq103_9_4 hq103_9_5 hq103_9_6 hq103_9_7 hq103_9_8 hq103_9_9 hq150_2_0 hq150_2_1; omega)
      · exact absurd hq150_3_3 (by intro hz; have lt_0 : ((2 : Int64)).toInt = 2 := rfl; have lt_1 : ((257 : Int64)).toInt = 257 := rfl; have lt_2 : ((263 : Int64)).toInt = 263 := rfl; have lt_3 : ((264 : Int64)).toInt = 264 := rfl; have lt_4 : ((316 : Int64)).toInt = 316 := rfl; have lt_5 : ((82 : Int64)).toInt = 82 := rfl; have lt_6 : ((84 : Int64)).toInt = 84 := rfl; have lt_7 : ((85 : Int64)).toInt = 85 := rfl; have lt_8 : ((87 : Int64)).toInt = 87 := rfl; have lt_9 : ((90 : Int64)).toInt = 90 := rfl; simp only [Int32.lt_iff_toInt_lt, Int64.lt_iff_toInt_lt, ← Int32.toInt_inj, ← Int64.toInt_inj] at hz hq103_9_0 hq103_9_1 hq103_9_2 hq103_9_3 hq103_9_4 hq103_9_5 hq103_9_6 hq103_9_7 hq103_9_8 hq103_9_9 hq150_3_0 hq150_3_1 hq150_3_2; omega)
      · exact absurd hq150_4_4 (by intro hz; have lt_0 : ((2 : Int64)).toInt = 2 := rfl; have lt_1 : ((257 : Int64)).toInt = 257 := rfl; have lt_2 : ((263 : Int64)).toInt = 263 := rfl; have lt_3 : ((264 : Int64)).toInt = 264 := rfl; have lt_4 : ((316 : Int64)).toInt = 316 := rfl; have lt_5 : ((82 : Int64)).toInt = 82 := rfl; have lt_6 : ((84 : Int64)).toInt = 84 := rfl; have lt_7 : ((85 : Int64)).toInt = 85 := rfl; have lt_8 : ((87 : Int64)).toInt = 87 := rfl; have lt_9 : ((90 : Int64)).toInt = 90 := rfl; simp only [Int32.lt_iff_toInt_lt, Int64.lt_iff_toInt_lt, ← Int32.toInt_inj, ← Int64.toInt_inj] at hz hq103_9_0 hq103_9_1 hq103_9_2 hq103_9_3 hq103_9_4 hq103_9_5 hq103_9_6 hq103_9_7 hq103_9_8 hq103_9_9 hq150_4_0 hq150_4_1 hq150_4_2 hq150_4_3; omega)
      · exact absurd hq150_5_5 (by intro hz; have lt_0 : ((2 : Int64)).toInt = 2 := rfl; have lt_1 : ((257 : Int64)).toInt = 257 := rfl; have lt_2 : ((263 : Int64)).toInt = 263 := rfl; have lt_3 : ((264 : Int64)).toInt = 264 := rfl; have lt_4 : ((316 : Int64)).toInt = 316 := rfl; have lt_5 : ((82 : Int64)).toInt = 82 := rfl; have lt_6 : ((84 : Int64)).toInt = 84 := rfl; have lt_7 : ((85 : Int64)).toInt = 85 := rfl; have lt_8 : ((87 : Int64)).toInt = 87 := rfl; have lt_9 : ((90 : Int64)).toInt = 90 := rfl; simp only [Int32.lt_iff_toInt_lt, Int64.lt_iff_toInt_lt, ← Int32.toInt_inj, ← Int64.toInt_inj] at hz hq103_9_0 hq103_9_1 hq103_9_2 hq103_9_3 hq103_9_4 hq103_9_5 hq103_9_6 hq103_9_7 hq103_9_8 hq103_9_9 hq150_5_0 hq150_5_1 hq150_5_2 hq150_5_3 hq150_5_4; omega)
      · exact absurd hq150_6_6 (by intro hz; have lt_0 : ((2 : Int64)).toInt = 2 := rfl; have lt_1 : ((257 : Int64)).toInt = 257 := rfl; have lt_2 : ((263 : Int64)).toInt = 263 := rfl; have lt_3 : ((264 : Int64)).toInt = 264 := rfl; have lt_4 : ((316 : Int64)).toInt = 316 := rfl; have lt_5 : ((82 : Int64)).toInt = 82 := rfl; have lt_6 : ((84 : Int64)).toInt = 84 := rfl; have lt_7 : ((85 : Int64)).toInt = 85 := rfl; have lt_8 : ((87 : Int64)).toInt = 87 := rfl; have lt_9 : ((90 : Int64)).toInt = 90 := rfl; simp only [Int32.lt_iff_toInt_lt, Int64.lt_iff_toInt_lt, ← Int32.toInt_inj, ← Int64.toInt_inj] at hz hq103_9_0 hq103_9_1 hq103_9_2 hq103_9_3 hq103_9_4 hq103_9_5 hq103_9_6 hq103_9_7 hq103_9_8 hq103_9_9 hq150_6_0 hq150_6_1 hq150_6_2 hq150_6_3 hq150_6_4 hq150_6_5; omega)
      · exact absurd hq150_7_7 (by intro hz; have lt_0 : ((2 : Int64)).toInt = 2 := rfl; have lt_1 : ((257 : Int64)).toInt = 257 := rfl; have lt_2 : ((263 : Int64)).toInt = 263 := rfl; have lt_3 : ((264 : Int64)).toInt = 264 := rfl; have lt_4 : ((316 : Int64)).toInt = 316 := rfl; have lt_5 : ((82 : Int64)).toInt = 82 := rfl; have lt_6 : ((84 : Int64)).toInt = 84 := rfl; have lt_7 : ((85 : Int64)).toInt = 85 := rfl; have lt_8 : ((87 : Int64)).toInt = 87 := rfl; have lt_9 : ((90 : Int64)).toInt = 90 := rfl; simp only [Int32.lt_iff_toInt_lt, Int64.lt_iff_toInt_lt, ← Int32.toInt_inj, ← Int64.toInt_inj] at hz hq103_9_0 hq103_9_1 hq103_9_2 hq103_9_3 hq103_9_4 hq103_9_5 hq103_9_6 hq103_9_7 hq103_9_8 hq103_9_9 hq150_7_0 hq150_7_1 hq150_7_2 hq150_7_3 hq150_7_4 hq150_7_5 hq150_7_6; omega)
      · exact absurd hq150_8_8 (by intro hz; have lt_0 : ((2 : Int64)).toInt = 2 := rfl; have lt_1 : ((257 : Int64)).toInt = 257 := rfl; have lt_2 : ((263 : Int64)).toInt = 263 := rfl; have lt_3 : ((264 : Int64)).toInt = 264 := rfl; have lt_4 : ((316 : Int64)).toInt = 316 := rfl; have lt_5 : ((82 : Int64)).toInt = 82 := rfl; have lt_6 : ((84 : Int64)).toInt = 84 := rfl; have lt_7 : ((85 : Int64)).toInt = 85 := rfl; have lt_8 : ((87 : Int64)).toInt = 87 := rfl; have lt_9 : ((90 : Int64)).toInt = 90 := rfl; simp only [Int32.lt_iff_toInt_lt, Int64.lt_iff_toInt_lt, ← Int32.toInt_inj, ← Int64.toInt_inj] at hz hq103_9_0 hq103_9_1 hq103_9_2 hq103_9_3 hq103_9_4 hq103_9_5 hq103_9_6 hq103_9_7 hq103_9_8 hq103_9_9 hq150_8_0 hq150_8_1 hq150_8_2 hq150_8_3 hq150_8_4 hq150_8_5 hq150_8_6 hq150_8_7; omega)
      · have pre153 : ∀ t, Steps p.tables e below (T150.setTop (mkF m 39 #[.val (.long q0_), .second, .val (.int p1_), .val (.int (p1_ &&& (31 : Int32))), .val (.long q0_), .second] [(.int (1 : Int32))])) t → Steps p.tables e below (s₁.setTop (entryFrame m #[(.long q0_), (.int p1_)] maxLocals)) t := by
          intro t kt
          refine pre1 t ?_
          show Steps p.tables e below (s₁.setTop (mkF m 8 #[.val (.long q0_), .second, .val (.int p1_), .val (.int (p1_ &&& (31 : Int32))), .unset, .unset] [(.int (14 : Int32)), (.int (p1_ &&& (31 : Int32)))])) _
          refine XS.icmpYes X0.here hx rfl (pc0 := 8) (pc' := 18) rfl (hb hby at_8) rfl (flt hc2).2.1 (by decide) (by decide) ?_
          show Steps p.tables e below (s₁.setTop (mkF m 18 #[.val (.long q0_), .second, .val (.int p1_), .val (.int (p1_ &&& (31 : Int32))), .unset, .unset] [])) _
          refine XS.lloadN X0.here hx rfl (hb hby at_18) rfl ?_
          show Steps p.tables e below (s₁.setTop (mkF m 19 #[.val (.long q0_), .second, .val (.int p1_), .val (.int (p1_ &&& (31 : Int32))), .unset, .unset] [(.long q0_)])) _
          refine XS.lstore X0.here hx rfl (hb hby at_19) rfl (l' := #[.val (.long q0_), .second, .val (.int p1_), .val (.int (p1_ &&& (31 : Int32))), .val (.long q0_), .second]) rfl ?_
          show Steps p.tables e below (s₁.setTop (mkF m 21 #[.val (.long q0_), .second, .val (.int p1_), .val (.int (p1_ &&& (31 : Int32))), .val (.long q0_), .second] [])) _
          refine XS.lload X0.here hx rfl (hb hby at_21) rfl ?_
          show Steps p.tables e below (s₁.setTop (mkF m 23 #[.val (.long q0_), .second, .val (.int p1_), .val (.int (p1_ &&& (31 : Int32))), .val (.long q0_), .second] [(.long q0_)])) _
          refine st103 _ ?_
          show Steps p.tables e below (T103.setTop (mkF m 26 #[.val (.long q0_), .second, .val (.int p1_), .val (.int (p1_ &&& (31 : Int32))), .val (.long q0_), .second] [(.ref w_CHMOD)])) _
          refine XS.lload X103.here hx rfl (hb hby at_26) rfl ?_
          show Steps p.tables e below (T103.setTop (mkF m 28 #[.val (.long q0_), .second, .val (.int p1_), .val (.int (p1_ &&& (31 : Int32))), .val (.long q0_), .second] [(.long q0_), (.ref w_CHMOD)])) _
          refine st150 _ ?_
          show Steps p.tables e below (T150.setTop (mkF m 31 #[.val (.long q0_), .second, .val (.int p1_), .val (.int (p1_ &&& (31 : Int32))), .val (.long q0_), .second] [(.ref w_CHMOD), (.ref w_CHMOD)])) _
          refine Jvm.RoadKit.acmp (g := (mkF m 31 #[.val (.long q0_), .second, .val (.int p1_), .val (.int (p1_ &&& (31 : Int32))), .val (.long q0_), .second] [(.ref w_CHMOD), (.ref w_CHMOD)])) X150 hx rfl rfl rfl (pc0 := 31) (pc' := 34) (same := true) rfl (hb hby at_31) rfl (decide_eq_true rfl) (by decide) (by decide) ?_
          show Steps p.tables e below (T150.setTop (mkF m 34 #[.val (.long q0_), .second, .val (.int p1_), .val (.int (p1_ &&& (31 : Int32))), .val (.long q0_), .second] [])) _
          refine XS.iconst X150.here hx rfl (hb hby at_34) ?_
          show Steps p.tables e below (T150.setTop (mkF m 35 #[.val (.long q0_), .second, .val (.int p1_), .val (.int (p1_ &&& (31 : Int32))), .val (.long q0_), .second] [(.int (1 : Int32))])) _
          refine XS.goto X150.here hx rfl (pc0 := 35) (pc' := 39) rfl (hb hby at_35) (by decide) (by decide) ?_
          exact kt
        obtain ⟨fs, hr, hrun, hended, hW, hsame⟩ := X150.leave (v := some (.int (1 : Int32))) (fun h => by rw [Bd.returns] at h; cases h)
        refine ⟨_, _, pre153 _ (retN X150 hx (t := .boolean) Bd.returns (by simp) (hb hby at_39) hr), hrun, hended, _, _, rfl, ?_, ⟨_, rfl⟩, hW, hsame.mono (by decide) (by decide)⟩
        show QLaw Z q0_ p1_ w_OPEN w_CREAT w_OPENAT w_RENAME w_RENAMEAT w_RENAMEAT2 w_UNLINK w_UNLINKAT w_RMDIR w_CHMOD w_FCHMOD w_FCHMODAT w_CHOWN w_FCHOWNAT w__VALUES k_ h0 n0 _ T150.heap _
        rw [e150']
        exact ⟨rfl, N152⟩
      · exact absurd hq150_10_10 (by intro hz; have lt_0 : ((2 : Int64)).toInt = 2 := rfl; have lt_1 : ((257 : Int64)).toInt = 257 := rfl; have lt_2 : ((263 : Int64)).toInt = 263 := rfl; have lt_3 : ((264 : Int64)).toInt = 264 := rfl; have lt_4 : ((316 : Int64)).toInt = 316 := rfl; have lt_5 : ((82 : Int64)).toInt = 82 := rfl; have lt_6 : ((84 : Int64)).toInt = 84 := rfl; have lt_7 : ((85 : Int64)).toInt = 85 := rfl; have lt_8 : ((87 : Int64)).toInt = 87 := rfl; have lt_9 : ((90 : Int64)).toInt = 90 := rfl; have lt_10 : ((91 : Int64)).toInt = 91 := rfl; simp only [Int32.lt_iff_toInt_lt, Int64.lt_iff_toInt_lt, ← Int32.toInt_inj, ← Int64.toInt_inj] at hz hq103_9_0 hq103_9_1 hq103_9_2 hq103_9_3 hq103_9_4 hq103_9_5 hq103_9_6 hq103_9_7 hq103_9_8 hq103_9_9 hq150_10_0 hq150_10_1 hq150_10_2 hq150_10_3 hq150_10_4 hq150_10_5 hq150_10_6 hq150_10_7 hq150_10_8 hq150_10_9; omega)
      · exact absurd hq150_11_11 (by intro hz; have lt_0 : ((2 : Int64)).toInt = 2 := rfl; have lt_1 : ((257 : Int64)).toInt = 257 := rfl; have lt_2 : ((263 : Int64)).toInt = 263 := rfl; have lt_3 : ((264 : Int64)).toInt = 264 := rfl; have lt_4 : ((268 : Int64)).toInt = 268 := rfl; have lt_5 : ((316 : Int64)).toInt = 316 := rfl; have lt_6 : ((82 : Int64)).toInt = 82 := rfl; have lt_7 : ((84 : Int64)).toInt = 84 := rfl; have lt_8 : ((85 : Int64)).toInt = 85 := rfl; have lt_9 : ((87 : Int64)).toInt = 87 := rfl; have lt_10 : ((90 : Int64)).toInt = 90 := rfl; have lt_11 : ((91 : Int64)).toInt = 91 := rfl; simp only [Int32.lt_iff_toInt_lt, Int64.lt_iff_toInt_lt, ← Int32.toInt_inj, ← Int64.toInt_inj] at hz hq103_9_0 hq103_9_1 hq103_9_2 hq103_9_3 hq103_9_4 hq103_9_5 hq103_9_6 hq103_9_7 hq103_9_8 hq103_9_9 hq150_11_0 hq150_11_1 hq150_11_2 hq150_11_3 hq150_11_4 hq150_11_5 hq150_11_6 hq150_11_7 hq150_11_8 hq150_11_9 hq150_11_10; omega)
      · exact absurd hq150_12_12 (by intro hz; have lt_0 : ((2 : Int64)).toInt = 2 := rfl; have lt_1 : ((257 : Int64)).toInt = 257 := rfl; have lt_2 : ((263 : Int64)).toInt = 263 := rfl; have lt_3 : ((264 : Int64)).toInt = 264 := rfl; have lt_4 : ((268 : Int64)).toInt = 268 := rfl; have lt_5 : ((316 : Int64)).toInt = 316 := rfl; have lt_6 : ((82 : Int64)).toInt = 82 := rfl; have lt_7 : ((84 : Int64)).toInt = 84 := rfl; have lt_8 : ((85 : Int64)).toInt = 85 := rfl; have lt_9 : ((87 : Int64)).toInt = 87 := rfl; have lt_10 : ((90 : Int64)).toInt = 90 := rfl; have lt_11 : ((91 : Int64)).toInt = 91 := rfl; have lt_12 : ((92 : Int64)).toInt = 92 := rfl; simp only [Int32.lt_iff_toInt_lt, Int64.lt_iff_toInt_lt, ← Int32.toInt_inj, ← Int64.toInt_inj] at hz hq103_9_0 hq103_9_1 hq103_9_2 hq103_9_3 hq103_9_4 hq103_9_5 hq103_9_6 hq103_9_7 hq103_9_8 hq103_9_9 hq150_12_0 hq150_12_1 hq150_12_2 hq150_12_3 hq150_12_4 hq150_12_5 hq150_12_6 hq150_12_7 hq150_12_8 hq150_12_9 hq150_12_10 hq150_12_11; omega)
      · exact absurd hq150_13_13 (by intro hz; have lt_0 : ((2 : Int64)).toInt = 2 := rfl; have lt_1 : ((257 : Int64)).toInt = 257 := rfl; have lt_2 : ((260 : Int64)).toInt = 260 := rfl; have lt_3 : ((263 : Int64)).toInt = 263 := rfl; have lt_4 : ((264 : Int64)).toInt = 264 := rfl; have lt_5 : ((268 : Int64)).toInt = 268 := rfl; have lt_6 : ((316 : Int64)).toInt = 316 := rfl; have lt_7 : ((82 : Int64)).toInt = 82 := rfl; have lt_8 : ((84 : Int64)).toInt = 84 := rfl; have lt_9 : ((85 : Int64)).toInt = 85 := rfl; have lt_10 : ((87 : Int64)).toInt = 87 := rfl; have lt_11 : ((90 : Int64)).toInt = 90 := rfl; have lt_12 : ((91 : Int64)).toInt = 91 := rfl; have lt_13 : ((92 : Int64)).toInt = 92 := rfl; simp only [Int32.lt_iff_toInt_lt, Int64.lt_iff_toInt_lt, ← Int32.toInt_inj, ← Int64.toInt_inj] at hz hq103_9_0 hq103_9_1 hq103_9_2 hq103_9_3 hq103_9_4 hq103_9_5 hq103_9_6 hq103_9_7 hq103_9_8 hq103_9_9 hq150_13_0 hq150_13_1 hq150_13_2 hq150_13_3 hq150_13_4 hq150_13_5 hq150_13_6 hq150_13_7 hq150_13_8 hq150_13_9 hq150_13_10 hq150_13_11 hq150_13_12; omega)
      · exact absurd (by apply Decidable.by_contra; intro hz; have lt_0 : ((2 : Int64)).toInt = 2 := rfl; have lt_1 : ((257 : Int64)).toInt = 257 := rfl; have lt_2 : ((263 : Int64)).toInt = 263 := rfl; have lt_3 : ((264 : Int64)).toInt = 264 := rfl; have lt_4 : ((316 : Int64)).toInt = 316 := rfl; have lt_5 : ((82 : Int64)).toInt = 82 := rfl; have lt_6 : ((84 : Int64)).toInt = 84 := rfl; have lt_7 : ((85 : Int64)).toInt = 85 := rfl; have lt_8 : ((87 : Int64)).toInt = 87 := rfl; have lt_9 : ((90 : Int64)).toInt = 90 := rfl; simp only [Int32.lt_iff_toInt_lt, Int64.lt_iff_toInt_lt, ← Int32.toInt_inj, ← Int64.toInt_inj] at hz hq103_9_0 hq103_9_1 hq103_9_2 hq103_9_3 hq103_9_4 hq103_9_5 hq103_9_6 hq103_9_7 hq103_9_8 hq103_9_9 hq150_14_0 hq150_14_1 hq150_14_2 hq150_14_3 hq150_14_4 hq150_14_5 hq150_14_6 hq150_14_7 hq150_14_8; omega) hq150_14_9
    · have f156 : Old Z n0 h103 := O0.keep K103 all0
      obtain ⟨_, _, ⟨T155, L155, k155, n155⟩, -, X155, ⟨Lc155, hQ155, l155, y155, z155⟩, st155⟩ := Jvm.LawKit.callS X103 hx (y := (⟨"com/example/aeacus/aeacus/audit/SyscallOfPinLaw", "expected", "(J)Lcom/example/aeacus/aeacus/audit/Syscall;"⟩ : MethodName)) hown (mvT hZ (hw _ (List.mem_of_getElem? (i := 40) rfl))) (mvT hZ (hw _ (List.mem_of_getElem? (i := 41) rfl))) (mvT hZ (hw _ (List.mem_of_getElem? (i := 2) rfl))) (mvT hZ (hw _ (List.mem_of_getElem? (i := 42) rfl))) (by decide) (backOf (W := 1) (rmExp l Z a0 hw [] q0_ w_OPEN w_CREAT w_OPENAT w_RENAME w_RENAMEAT w_RENAMEAT2 w_UNLINK w_UNLINKAT w_RMDIR w_CHMOD w_FCHMOD w_FCHMODAT w_CHOWN w_FCHOWNAT w__VALUES k_ h103 n0 f156 P0 P1 P2 P3 P4 P5 P6 P7 P8 P9 P10 P11 P12 P13 P14 P15 P16 P17 P18 P19 P20 P21 P22 P23 P24 P25 P26 P27 P28 P29 P30 P31 P32 P33 P34 P35 P36 P37 P38 P39 P40 P41 P42 P43 P44) hZ (hw _ (List.mem_of_getElem? (i := 42) rfl)) (hw _ (List.mem_of_getElem? (i := 2) rfl)) (by decide) (by decide)) (g := (mkF m 28 #[.val (.long q0_), .second, .val (.int p1_), .val (.int (p1_ &&& (31 : Int32))), .val (.long q0_), .second] [(.long q0_), (.ref w_FCHMOD)])) rfl (by rw [hml]; rfl) (argsL := [(.long q0_)]) (rest := [(.ref w_FCHMOD)]) (lenOf pd_2 rfl) rfl (by show 2 * 0 + _ ≤ _; exact Nat.le_of_eq rfl) (hb hby at_28) (fun _ _ => ⟨rfl, e103, (by decide : 1 + 0 ≤ _), (by decide : 14 + 0 ≤ _)⟩)
      dsimp only [Pt.U, Pt.locs, Pt.cells, Pt.slots] at X155 l155 y155 z155 st155 hQ155
      subst l155 y155 z155
      obtain ⟨h155, e155⟩ : ∃ z, T155.heap = z := ⟨_, rfl⟩
      rw [e155] at hQ155
      obtain ⟨rr155, rfl, hs155, N155q, hh155⟩ := hQ155
      have N157 := Fr.app N104 N155q
      have e155' : T155.heap = h103 := e155.trans hh155
      rcases hs155 with ⟨rfl, hq155_0_0⟩ | ⟨rfl, hq155_1_0, hq155_1_1⟩ | ⟨rfl, hq155_2_0, hq155_2_1, hq155_2_2⟩ | ⟨rfl, hq155_3_0, hq155_3_1, hq155_3_2, hq155_3_3⟩ | ⟨rfl, hq155_4_0, hq155_4_1, hq155_4_2, hq155_4_3, hq155_4_4⟩ | ⟨rfl, hq155_5_0, hq155_5_1, hq155_5_2, hq155_5_3, hq155_5_4, hq155_5_5⟩ | ⟨rfl, hq155_6_0, hq155_6_1, hq155_6_2, hq155_6_3, hq155_6_4, hq155_6_5, hq155_6_6⟩ | ⟨rfl, hq155_7_0, hq155_7_1, hq155_7_2, hq155_7_3, hq155_7_4, hq155_7_5, hq155_7_6, hq155_7_7⟩ | ⟨rfl, hq155_8_0, hq155_8_1, hq155_8_2, hq155_8_3, hq155_8_4, hq155_8_5, hq155_8_6, hq155_8_7, hq155_8_8⟩ | ⟨rfl, hq155_9_0, hq155_9_1, hq155_9_2, hq155_9_3, hq155_9_4, hq155_9_5, hq155_9_6, hq155_9_7, hq155_9_8, hq155_9_9⟩ | ⟨rfl, hq155_10_0, hq155_10_1, hq155_10_2, hq155_10_3, hq155_10_4, hq155_10_5, hq155_10_6, hq155_10_7, hq155_10_8, hq155_10_9, hq155_10_10⟩ | ⟨rfl, hq155_11_0, hq155_11_1, hq155_11_2, hq155_11_3, hq155_11_4, hq155_11_5, hq155_11_6, hq155_11_7, hq155_11_8, hq155_11_9, hq155_11_10, hq155_11_11⟩ | ⟨rfl, hq155_12_0, hq155_12_1, hq155_12_2, hq155_12_3, hq155_12_4, hq155_12_5, hq155_12_6, hq155_12_7, hq155_12_8, hq155_12_9, hq155_12_10, hq155_12_11, hq155_12_12⟩ | ⟨rfl, hq155_13_0, hq155_13_1, hq155_13_2, hq155_13_3, hq155_13_4, hq155_13_5, hq155_13_6, hq155_13_7, hq155_13_8, hq155_13_9, hq155_13_10, hq155_13_11, hq155_13_12, hq155_13_13⟩ | ⟨rfl, hq155_14_0, hq155_14_1, hq155_14_2, hq155_14_3, hq155_14_4, hq155_14_5, hq155_14_6, hq155_14_7, hq155_14_8, hq155_14_9, hq155_14_10, hq155_14_11, hq155_14_12, hq155_14_13⟩
      · exact absurd hq155_0_0 (by intro hz; have lt_0 : ((2 : Int64)).toInt = 2 := rfl; have lt_1 : ((257 : Int64)).toInt = 257 := rfl; have lt_2 : ((263 : Int64)).toInt = 263 := rfl; have lt_3 : ((264 : Int64)).toInt = 264 := rfl; have lt_4 : ((316 : Int64)).toInt = 316 := rfl; have lt_5 : ((82 : Int64)).toInt = 82 := rfl; have lt_6 : ((84 : Int64)).toInt = 84 := rfl; have lt_7 : ((85 : Int64)).toInt = 85 := rfl; have lt_8 : ((87 : Int64)).toInt = 87 := rfl; have lt_9 : ((90 : Int64)).toInt = 90 := rfl; have lt_10 : ((91 : Int64)).toInt = 91 := rfl; simp only [Int32.lt_iff_toInt_lt, Int64.lt_iff_toInt_lt, ← Int32.toInt_inj, ← Int64.toInt_inj] at hz hq103_10_0 hq103_10_1 hq103_10_2 hq103_10_3 hq103_10_4 hq103_10_5 hq103_10_6 hq103_10_7 hq103_10_8 hq103_10_9 hq103_10_10; omega)
      · exact absurd hq155_1_1 (by intro hz; have lt_0 : ((2 : Int64)).toInt = 2 := rfl; have lt_1 : ((257 : Int64)).toInt = 257 := rfl; have lt_2 : ((263 : Int64)).toInt = 263 := rfl; have lt_3 : ((264 : Int64)).toInt = 264 := rfl; have lt_4 : ((316 : Int64)).toInt = 316 := rfl; have lt_5 : ((82 : Int64)).toInt = 82 := rfl; have lt_6 : ((84 : Int64)).toInt = 84 := rfl; have lt_7 : ((85 : Int64)).toInt = 85 := rfl; have lt_8 : ((87 : Int64)).toInt = 87 := rfl; have lt_9 : ((90 : Int64)).toInt = 90 := rfl; have lt_10 : ((91 : Int64)).toInt = 91 := rfl; simp only [Int32.lt_iff_toInt_lt, Int64.lt_iff_toInt_lt, ← Int32.toInt_inj, ← Int64.toInt_inj] at hz hq103_10_0 hq103_10_1 hq103_10_2 hq103_10_3 hq103_10_4 hq103_10_5 hq103_10_6 hq103_10_7 hq103_10_8 hq103_10_9 hq103_10_10 hq155_1_0; omega)
      · exact absurd hq155_2_2 (by intro hz; have lt_0 : ((2 : Int64)).toInt = 2 := rfl; have lt_1 : ((257 : Int64)).toInt = 257 := rfl; have lt_2 : ((263 : Int64)).toInt = 263 := rfl; have lt_3 : ((264 : Int64)).toInt = 264 := rfl; have lt_4 : ((316 : Int64)).toInt = 316 := rfl; have lt_5 : ((82 : Int64)).toInt = 82 := rfl; have lt_6 : ((84 : Int64)).toInt = 84 := rfl; have lt_7 : ((85 : Int64)).toInt = 85 := rfl; have lt_8 : ((87 : Int64)).toInt = 87 := rfl; have lt_9 : ((90 : Int64)).toInt = 90 := rfl; have lt_10 : ((91 : Int64)).toInt = 91 := rfl; simp only [Int32.lt_iff_toInt_lt, Int64.lt_iff_toInt_lt, ← Int32.toInt_inj, ← Int64.toInt_inj] at hz hq103_10_0 hq103_10_1 hq103_10_2 hq103_10_3 hq103_10_4 hq103_10_5 hq103_10_6 hq103_10_7 hq103_10_8 hq103_10_9 hq103_10_10 hq155_2_0 hq155_2_1; omega)
      · exact absurd hq155_3_3 (by intro hz; have lt_0 : ((2 : Int64)).toInt = 2 := rfl; have lt_1 : ((257 : Int64)).toInt = 257 := rfl; have lt_2 : ((263 : Int64)).toInt = 263 := rfl; have lt_3 : ((264 : Int64)).toInt = 264 := rfl; have lt_4 : ((316 : Int64)).toInt = 316 := rfl; have lt_5 : ((82 : Int64)).toInt = 82 := rfl; have lt_6 : ((84 : Int64)).toInt = 84 := rfl; have lt_7 : ((85 : Int64)).toInt = 85 := rfl; have lt_8 : ((87 : Int64)).toInt = 87 := rfl; have lt_9 : ((90 : Int64)).toInt = 90 := rfl; have lt_10 : ((91 : Int64)).toInt = 91 := rfl; simp only [Int32.lt_iff_toInt_lt, Int64.lt_iff_toInt_lt, ← Int32.toInt_inj, ← Int64.toInt_inj] at hz hq103_10_0 hq103_10_1 hq103_10_2 hq103_10_3 hq103_10_4 hq103_10_5 hq103_10_6 hq103_10_7 hq103_10_8 hq103_10_9 hq103_10_10 hq155_3_0 hq155_3_1 hq155_3_2; omega)
      · exact absurd hq155_4_4 (by intro hz; have lt_0 : ((2 : Int64)).toInt = 2 := rfl; have lt_1 : ((257 : Int64)).toInt = 257 := rfl; have lt_2 : ((263 : Int64)).toInt = 263 := rfl; have lt_3 : ((264 : Int64)).toInt = 264 := rfl; have lt_4 : ((316 : Int64)).toInt = 316 := rfl; have lt_5 : ((82 : Int64)).toInt = 82 := rfl; have lt_6 : ((84 : Int64)).toInt = 84 := rfl; have lt_7 : ((85 : Int64)).toInt = 85 := rfl; have lt_8 : ((87 : Int64)).toInt = 87 := rfl; have lt_9 : ((90 : Int64)).toInt = 90 := rfl; have lt_10 : ((91 : Int64)).toInt = 91 := rfl; simp only [Int32.lt_iff_toInt_lt, Int64.lt_iff_toInt_lt, ← Int32.toInt_inj, ← Int64.toInt_inj] at hz hq103_10_0 hq103_10_1 hq103_10_2 hq103_10_3 hq103_10_4 hq103_10_5 hq103_10_6 hq103_10_7 hq103_10_8 hq103_10_9 hq103_10_10 hq155_4_0 hq155_4_1 hq155_4_2 hq155_4_3; omega)
      · exact absurd hq155_5_5 (by intro hz; have lt_0 : ((2 : Int64)).toInt = 2 := rfl; have lt_1 : ((257 : Int64)).toInt = 257 := rfl; have lt_2 : ((263 : Int64)).toInt = 263 := rfl; have lt_3 : ((264 : Int64)).toInt = 264 := rfl; have lt_4 : ((316 : Int64)).toInt = 316 := rfl; have lt_5 : ((82 : Int64)).toInt = 82 := rfl; have lt_6 : ((84 : Int64)).toInt = 84 := rfl; have lt_7 : ((85 : Int64)).toInt = 85 := rfl; have lt_8 : ((87 : Int64)).toInt = 87 := rfl; have lt_9 : ((90 : Int64)).toInt = 90 := rfl; have lt_10 : ((91 : Int64)).toInt = 91 := rfl; simp only [Int32.lt_iff_toInt_lt, Int64.lt_iff_toInt_lt, ← Int32.toInt_inj, ← Int64.toInt_inj] at hz hq103_10_0 hq103_10_1 hq103_10_2 hq103_10_3 hq103_10_4 hq103_10_5 hq103_10_6 hq103_10_7 hq103_10_8 hq103_10_9 hq103_10_10 hq155_5_0 hq155_5_1 hq155_5_2 hq155_5_3 hq155_5_4; omega)
      · exact absurd hq155_6_6 (by intro hz; have lt_0 : ((2 : Int64)).toInt = 2 := rfl; have lt_1 : ((257 : Int64)).toInt = 257 := rfl; have lt_2 : ((263 : Int64)).toInt = 263 := rfl; have lt_3 : ((264 : Int64)).toInt = 264 := rfl; have lt_4 : ((316 : Int64)).toInt = 316 := rfl; have lt_5 : ((82 : Int64)).toInt = 82 := rfl; have lt_6 : ((84 : Int64)).toInt = 84 := rfl; have lt_7 : ((85 : Int64)).toInt = 85 := rfl; have lt_8 : ((87 : Int64)).toInt = 87 := rfl; have lt_9 : ((90 : Int64)).toInt = 90 := rfl; have lt_10 : ((91 : Int64)).toInt = 91 := rfl; simp only [Int32.lt_iff_toInt_lt, Int64.lt_iff_toInt_lt, ← Int32.toInt_inj, ← Int64.toInt_inj] at hz hq103_10_0 hq103_10_1 hq103_10_2 hq103_10_3 hq103_10_4 hq103_10_5 hq103_10_6 hq103_10_7 hq103_10_8 hq103_10_9 hq103_10_10 hq155_6_0 hq155_6_1 hq155_6_2 hq155_6_3 hq155_6_4 hq155_6_5; omega)
      · exact absurd hq155_7_7 (by intro hz; have lt_0 : ((2 : Int64)).toInt = 2 := rfl; have lt_1 : ((257 : Int64)).toInt = 257 := rfl; have lt_2 : ((263 : Int64)).toInt = 263 := rfl; have lt_3 : ((264 : Int64)).toInt = 264 := rfl; have lt_4 : ((316 : Int64)).toInt = 316 := rfl; have lt_5 : ((82 : Int64)).toInt = 82 := rfl; have lt_6 : ((84 : Int64)).toInt = 84 := rfl; have lt_7 : ((85 : Int64)).toInt = 85 := rfl; have lt_8 : ((87 : Int64)).toInt = 87 := rfl; have lt_9 : ((90 : Int64)).toInt = 90 := rfl; have lt_10 : ((91 : Int64)).toInt = 91 := rfl; simp only [Int32.lt_iff_toInt_lt, Int64.lt_iff_toInt_lt, ← Int32.toInt_inj, ← Int64.toInt_inj] at hz hq103_10_0 hq103_10_1 hq103_10_2 hq103_10_3 hq103_10_4 hq103_10_5 hq103_10_6 hq103_10_7 hq103_10_8 hq103_10_9 hq103_10_10 hq155_7_0 hq155_7_1 hq155_7_2 hq155_7_3 hq155_7_4 hq155_7_5 hq155_7_6; omega)
      · exact absurd hq155_8_8 (by intro hz; have lt_0 : ((2 : Int64)).toInt = 2 := rfl; have lt_1 : ((257 : Int64)).toInt = 257 := rfl; have lt_2 : ((263 : Int64)).toInt = 263 := rfl; have lt_3 : ((264 : Int64)).toInt = 264 := rfl; have lt_4 : ((316 : Int64)).toInt = 316 := rfl; have lt_5 : ((82 : Int64)).toInt = 82 := rfl; have lt_6 : ((84 : Int64)).toInt = 84 := rfl; have lt_7 : ((85 : Int64)).toInt = 85 := rfl; have lt_8 : ((87 : Int64)).toInt = 87 := rfl; have lt_9 : ((90 : Int64)).toInt = 90 := rfl; have lt_10 : ((91 : Int64)).toInt = 91 := rfl; simp only [Int32.lt_iff_toInt_lt, Int64.lt_iff_toInt_lt, ← Int32.toInt_inj, ← Int64.toInt_inj] at hz hq103_10_0 hq103_10_1 hq103_10_2 hq103_10_3 hq103_10_4 hq103_10_5 hq103_10_6 hq103_10_7 hq103_10_8 hq103_10_9 hq103_10_10 hq155_8_0 hq155_8_1 hq155_8_2 hq155_8_3 hq155_8_4 hq155_8_5 hq155_8_6 hq155_8_7; omega)
      · exact absurd hq155_9_9 (by intro hz; have lt_0 : ((2 : Int64)).toInt = 2 := rfl; have lt_1 : ((257 : Int64)).toInt = 257 := rfl; have lt_2 : ((263 : Int64)).toInt = 263 := rfl; have lt_3 : ((264 : Int64)).toInt = 264 := rfl; have lt_4 : ((316 : Int64)).toInt = 316 := rfl; have lt_5 : ((82 : Int64)).toInt = 82 := rfl; have lt_6 : ((84 : Int64)).toInt = 84 := rfl; have lt_7 : ((85 : Int64)).toInt = 85 := rfl; have lt_8 : ((87 : Int64)).toInt = 87 := rfl; have lt_9 : ((90 : Int64)).toInt = 90 := rfl; have lt_10 : ((91 : Int64)).toInt = 91 := rfl; simp only [Int32.lt_iff_toInt_lt, Int64.lt_iff_toInt_lt, ← Int32.toInt_inj, ← Int64.toInt_inj] at hz hq103_10_0 hq103_10_1 hq103_10_2 hq103_10_3 hq103_10_4 hq103_10_5 hq103_10_6 hq103_10_7 hq103_10_8 hq103_10_9 hq103_10_10 hq155_9_0 hq155_9_1 hq155_9_2 hq155_9_3 hq155_9_4 hq155_9_5 hq155_9_6 hq155_9_7 hq155_9_8; omega)
      · have pre158 : ∀ t, Steps p.tables e below (T155.setTop (mkF m 39 #[.val (.long q0_), .second, .val (.int p1_), .val (.int (p1_ &&& (31 : Int32))), .val (.long q0_), .second] [(.int (1 : Int32))])) t → Steps p.tables e below (s₁.setTop (entryFrame m #[(.long q0_), (.int p1_)] maxLocals)) t := by
          intro t kt
          refine pre1 t ?_
          show Steps p.tables e below (s₁.setTop (mkF m 8 #[.val (.long q0_), .second, .val (.int p1_), .val (.int (p1_ &&& (31 : Int32))), .unset, .unset] [(.int (14 : Int32)), (.int (p1_ &&& (31 : Int32)))])) _
          refine XS.icmpYes X0.here hx rfl (pc0 := 8) (pc' := 18) rfl (hb hby at_8) rfl (flt hc2).2.1 (by decide) (by decide) ?_
          show Steps p.tables e below (s₁.setTop (mkF m 18 #[.val (.long q0_), .second, .val (.int p1_), .val (.int (p1_ &&& (31 : Int32))), .unset, .unset] [])) _
          refine XS.lloadN X0.here hx rfl (hb hby at_18) rfl ?_
          show Steps p.tables e below (s₁.setTop (mkF m 19 #[.val (.long q0_), .second, .val (.int p1_), .val (.int (p1_ &&& (31 : Int32))), .unset, .unset] [(.long q0_)])) _
          refine XS.lstore X0.here hx rfl (hb hby at_19) rfl (l' := #[.val (.long q0_), .second, .val (.int p1_), .val (.int (p1_ &&& (31 : Int32))), .val (.long q0_), .second]) rfl ?_
          show Steps p.tables e below (s₁.setTop (mkF m 21 #[.val (.long q0_), .second, .val (.int p1_), .val (.int (p1_ &&& (31 : Int32))), .val (.long q0_), .second] [])) _
          refine XS.lload X0.here hx rfl (hb hby at_21) rfl ?_
          show Steps p.tables e below (s₁.setTop (mkF m 23 #[.val (.long q0_), .second, .val (.int p1_), .val (.int (p1_ &&& (31 : Int32))), .val (.long q0_), .second] [(.long q0_)])) _
          refine st103 _ ?_
          show Steps p.tables e below (T103.setTop (mkF m 26 #[.val (.long q0_), .second, .val (.int p1_), .val (.int (p1_ &&& (31 : Int32))), .val (.long q0_), .second] [(.ref w_FCHMOD)])) _
          refine XS.lload X103.here hx rfl (hb hby at_26) rfl ?_
          show Steps p.tables e below (T103.setTop (mkF m 28 #[.val (.long q0_), .second, .val (.int p1_), .val (.int (p1_ &&& (31 : Int32))), .val (.long q0_), .second] [(.long q0_), (.ref w_FCHMOD)])) _
          refine st155 _ ?_
          show Steps p.tables e below (T155.setTop (mkF m 31 #[.val (.long q0_), .second, .val (.int p1_), .val (.int (p1_ &&& (31 : Int32))), .val (.long q0_), .second] [(.ref w_FCHMOD), (.ref w_FCHMOD)])) _
          refine Jvm.RoadKit.acmp (g := (mkF m 31 #[.val (.long q0_), .second, .val (.int p1_), .val (.int (p1_ &&& (31 : Int32))), .val (.long q0_), .second] [(.ref w_FCHMOD), (.ref w_FCHMOD)])) X155 hx rfl rfl rfl (pc0 := 31) (pc' := 34) (same := true) rfl (hb hby at_31) rfl (decide_eq_true rfl) (by decide) (by decide) ?_
          show Steps p.tables e below (T155.setTop (mkF m 34 #[.val (.long q0_), .second, .val (.int p1_), .val (.int (p1_ &&& (31 : Int32))), .val (.long q0_), .second] [])) _
          refine XS.iconst X155.here hx rfl (hb hby at_34) ?_
          show Steps p.tables e below (T155.setTop (mkF m 35 #[.val (.long q0_), .second, .val (.int p1_), .val (.int (p1_ &&& (31 : Int32))), .val (.long q0_), .second] [(.int (1 : Int32))])) _
          refine XS.goto X155.here hx rfl (pc0 := 35) (pc' := 39) rfl (hb hby at_35) (by decide) (by decide) ?_
          exact kt
        obtain ⟨fs, hr, hrun, hended, hW, hsame⟩ := X155.leave (v := some (.int (1 : Int32))) (fun h => by rw [Bd.returns] at h; cases h)
        refine ⟨_, _, pre158 _ (retN X155 hx (t := .boolean) Bd.returns (by simp) (hb hby at_39) hr), hrun, hended, _, _, rfl, ?_, ⟨_, rfl⟩, hW, hsame.mono (by decide) (by decide)⟩
        show QLaw Z q0_ p1_ w_OPEN w_CREAT w_OPENAT w_RENAME w_RENAMEAT w_RENAMEAT2 w_UNLINK w_UNLINKAT w_RMDIR w_CHMOD w_FCHMOD w_FCHMODAT w_CHOWN w_FCHOWNAT w__VALUES k_ h0 n0 _ T155.heap _
        rw [e155']
        exact ⟨rfl, N157⟩
      · exact absurd hq155_11_11 (by intro hz; have lt_0 : ((2 : Int64)).toInt = 2 := rfl; have lt_1 : ((257 : Int64)).toInt = 257 := rfl; have lt_2 : ((263 : Int64)).toInt = 263 := rfl; have lt_3 : ((264 : Int64)).toInt = 264 := rfl; have lt_4 : ((268 : Int64)).toInt = 268 := rfl; have lt_5 : ((316 : Int64)).toInt = 316 := rfl; have lt_6 : ((82 : Int64)).toInt = 82 := rfl; have lt_7 : ((84 : Int64)).toInt = 84 := rfl; have lt_8 : ((85 : Int64)).toInt = 85 := rfl; have lt_9 : ((87 : Int64)).toInt = 87 := rfl; have lt_10 : ((90 : Int64)).toInt = 90 := rfl; have lt_11 : ((91 : Int64)).toInt = 91 := rfl; simp only [Int32.lt_iff_toInt_lt, Int64.lt_iff_toInt_lt, ← Int32.toInt_inj, ← Int64.toInt_inj] at hz hq103_10_0 hq103_10_1 hq103_10_2 hq103_10_3 hq103_10_4 hq103_10_5 hq103_10_6 hq103_10_7 hq103_10_8 hq103_10_9 hq103_10_10 hq155_11_0 hq155_11_1 hq155_11_2 hq155_11_3 hq155_11_4 hq155_11_5 hq155_11_6 hq155_11_7 hq155_11_8 hq155_11_9 hq155_11_10; omega)
      · exact absurd hq155_12_12 (by intro hz; have lt_0 : ((2 : Int64)).toInt = 2 := rfl; have lt_1 : ((257 : Int64)).toInt = 257 := rfl; have lt_2 : ((263 : Int64)).toInt = 263 := rfl; have lt_3 : ((264 : Int64)).toInt = 264 := rfl; have lt_4 : ((268 : Int64)).toInt = 268 := rfl; have lt_5 : ((316 : Int64)).toInt = 316 := rfl; have lt_6 : ((82 : Int64)).toInt = 82 := rfl; have lt_7 : ((84 : Int64)).toInt = 84 := rfl; have lt_8 : ((85 : Int64)).toInt = 85 := rfl; have lt_9 : ((87 : Int64)).toInt = 87 := rfl; have lt_10 : ((90 : Int64)).toInt = 90 := rfl; have lt_11 : ((91 : Int64)).toInt = 91 := rfl; have lt_12 : ((92 : Int64)).toInt = 92 := rfl; simp only [Int32.lt_iff_toInt_lt, Int64.lt_iff_toInt_lt, ← Int32.toInt_inj, ← Int64.toInt_inj] at hz hq103_10_0 hq103_10_1 hq103_10_2 hq103_10_3 hq103_10_4 hq103_10_5 hq103_10_6 hq103_10_7 hq103_10_8 hq103_10_9 hq103_10_10 hq155_12_0 hq155_12_1 hq155_12_2 hq155_12_3 hq155_12_4 hq155_12_5 hq155_12_6 hq155_12_7 hq155_12_8 hq155_12_9 hq155_12_10 hq155_12_11; omega)
      · exact absurd hq155_13_13 (by intro hz; have lt_0 : ((2 : Int64)).toInt = 2 := rfl; have lt_1 : ((257 : Int64)).toInt = 257 := rfl; have lt_2 : ((260 : Int64)).toInt = 260 := rfl; have lt_3 : ((263 : Int64)).toInt = 263 := rfl; have lt_4 : ((264 : Int64)).toInt = 264 := rfl; have lt_5 : ((268 : Int64)).toInt = 268 := rfl; have lt_6 : ((316 : Int64)).toInt = 316 := rfl; have lt_7 : ((82 : Int64)).toInt = 82 := rfl; have lt_8 : ((84 : Int64)).toInt = 84 := rfl; have lt_9 : ((85 : Int64)).toInt = 85 := rfl; have lt_10 : ((87 : Int64)).toInt = 87 := rfl; have lt_11 : ((90 : Int64)).toInt = 90 := rfl; have lt_12 : ((91 : Int64)).toInt = 91 := rfl; have lt_13 : ((92 : Int64)).toInt = 92 := rfl; simp only [Int32.lt_iff_toInt_lt, Int64.lt_iff_toInt_lt, ← Int32.toInt_inj, ← Int64.toInt_inj] at hz hq103_10_0 hq103_10_1 hq103_10_2 hq103_10_3 hq103_10_4 hq103_10_5 hq103_10_6 hq103_10_7 hq103_10_8 hq103_10_9 hq103_10_10 hq155_13_0 hq155_13_1 hq155_13_2 hq155_13_3 hq155_13_4 hq155_13_5 hq155_13_6 hq155_13_7 hq155_13_8 hq155_13_9 hq155_13_10 hq155_13_11 hq155_13_12; omega)
      · exact absurd (by apply Decidable.by_contra; intro hz; have lt_0 : ((2 : Int64)).toInt = 2 := rfl; have lt_1 : ((257 : Int64)).toInt = 257 := rfl; have lt_2 : ((263 : Int64)).toInt = 263 := rfl; have lt_3 : ((264 : Int64)).toInt = 264 := rfl; have lt_4 : ((316 : Int64)).toInt = 316 := rfl; have lt_5 : ((82 : Int64)).toInt = 82 := rfl; have lt_6 : ((84 : Int64)).toInt = 84 := rfl; have lt_7 : ((85 : Int64)).toInt = 85 := rfl; have lt_8 : ((87 : Int64)).toInt = 87 := rfl; have lt_9 : ((90 : Int64)).toInt = 90 := rfl; have lt_10 : ((91 : Int64)).toInt = 91 := rfl; simp only [Int32.lt_iff_toInt_lt, Int64.lt_iff_toInt_lt, ← Int32.toInt_inj, ← Int64.toInt_inj] at hz hq103_10_0 hq103_10_1 hq103_10_2 hq103_10_3 hq103_10_4 hq103_10_5 hq103_10_6 hq103_10_7 hq103_10_8 hq103_10_9 hq103_10_10 hq155_14_0 hq155_14_1 hq155_14_2 hq155_14_3 hq155_14_4 hq155_14_5 hq155_14_6 hq155_14_7 hq155_14_8 hq155_14_9; omega) hq155_14_10
    · have f161 : Old Z n0 h103 := O0.keep K103 all0
      obtain ⟨_, _, ⟨T160, L160, k160, n160⟩, -, X160, ⟨Lc160, hQ160, l160, y160, z160⟩, st160⟩ := Jvm.LawKit.callS X103 hx (y := (⟨"com/example/aeacus/aeacus/audit/SyscallOfPinLaw", "expected", "(J)Lcom/example/aeacus/aeacus/audit/Syscall;"⟩ : MethodName)) hown (mvT hZ (hw _ (List.mem_of_getElem? (i := 40) rfl))) (mvT hZ (hw _ (List.mem_of_getElem? (i := 41) rfl))) (mvT hZ (hw _ (List.mem_of_getElem? (i := 2) rfl))) (mvT hZ (hw _ (List.mem_of_getElem? (i := 42) rfl))) (by decide) (backOf (W := 1) (rmExp l Z a0 hw [] q0_ w_OPEN w_CREAT w_OPENAT w_RENAME w_RENAMEAT w_RENAMEAT2 w_UNLINK w_UNLINKAT w_RMDIR w_CHMOD w_FCHMOD w_FCHMODAT w_CHOWN w_FCHOWNAT w__VALUES k_ h103 n0 f161 P0 P1 P2 P3 P4 P5 P6 P7 P8 P9 P10 P11 P12 P13 P14 P15 P16 P17 P18 P19 P20 P21 P22 P23 P24 P25 P26 P27 P28 P29 P30 P31 P32 P33 P34 P35 P36 P37 P38 P39 P40 P41 P42 P43 P44) hZ (hw _ (List.mem_of_getElem? (i := 42) rfl)) (hw _ (List.mem_of_getElem? (i := 2) rfl)) (by decide) (by decide)) (g := (mkF m 28 #[.val (.long q0_), .second, .val (.int p1_), .val (.int (p1_ &&& (31 : Int32))), .val (.long q0_), .second] [(.long q0_), (.ref w_FCHMODAT)])) rfl (by rw [hml]; rfl) (argsL := [(.long q0_)]) (rest := [(.ref w_FCHMODAT)]) (lenOf pd_2 rfl) rfl (by show 2 * 0 + _ ≤ _; exact Nat.le_of_eq rfl) (hb hby at_28) (fun _ _ => ⟨rfl, e103, (by decide : 1 + 0 ≤ _), (by decide : 14 + 0 ≤ _)⟩)
      dsimp only [Pt.U, Pt.locs, Pt.cells, Pt.slots] at X160 l160 y160 z160 st160 hQ160
      subst l160 y160 z160
      obtain ⟨h160, e160⟩ : ∃ z, T160.heap = z := ⟨_, rfl⟩
      rw [e160] at hQ160
      obtain ⟨rr160, rfl, hs160, N160q, hh160⟩ := hQ160
      have N162 := Fr.app N104 N160q
      have e160' : T160.heap = h103 := e160.trans hh160
      rcases hs160 with ⟨rfl, hq160_0_0⟩ | ⟨rfl, hq160_1_0, hq160_1_1⟩ | ⟨rfl, hq160_2_0, hq160_2_1, hq160_2_2⟩ | ⟨rfl, hq160_3_0, hq160_3_1, hq160_3_2, hq160_3_3⟩ | ⟨rfl, hq160_4_0, hq160_4_1, hq160_4_2, hq160_4_3, hq160_4_4⟩ | ⟨rfl, hq160_5_0, hq160_5_1, hq160_5_2, hq160_5_3, hq160_5_4, hq160_5_5⟩ | ⟨rfl, hq160_6_0, hq160_6_1, hq160_6_2, hq160_6_3, hq160_6_4, hq160_6_5, hq160_6_6⟩ | ⟨rfl, hq160_7_0, hq160_7_1, hq160_7_2, hq160_7_3, hq160_7_4, hq160_7_5, hq160_7_6, hq160_7_7⟩ | ⟨rfl, hq160_8_0, hq160_8_1, hq160_8_2, hq160_8_3, hq160_8_4, hq160_8_5, hq160_8_6, hq160_8_7, hq160_8_8⟩ | ⟨rfl, hq160_9_0, hq160_9_1, hq160_9_2, hq160_9_3, hq160_9_4, hq160_9_5, hq160_9_6, hq160_9_7, hq160_9_8, hq160_9_9⟩ | ⟨rfl, hq160_10_0, hq160_10_1, hq160_10_2, hq160_10_3, hq160_10_4, hq160_10_5, hq160_10_6, hq160_10_7, hq160_10_8, hq160_10_9, hq160_10_10⟩ | ⟨rfl, hq160_11_0, hq160_11_1, hq160_11_2, hq160_11_3, hq160_11_4, hq160_11_5, hq160_11_6, hq160_11_7, hq160_11_8, hq160_11_9, hq160_11_10, hq160_11_11⟩ | ⟨rfl, hq160_12_0, hq160_12_1, hq160_12_2, hq160_12_3, hq160_12_4, hq160_12_5, hq160_12_6, hq160_12_7, hq160_12_8, hq160_12_9, hq160_12_10, hq160_12_11, hq160_12_12⟩ | ⟨rfl, hq160_13_0, hq160_13_1, hq160_13_2, hq160_13_3, hq160_13_4, hq160_13_5, hq160_13_6, hq160_13_7, hq160_13_8, hq160_13_9, hq160_13_10, hq160_13_11, hq160_13_12, hq160_13_13⟩ | ⟨rfl, hq160_14_0, hq160_14_1, hq160_14_2, hq160_14_3, hq160_14_4, hq160_14_5, hq160_14_6, hq160_14_7, hq160_14_8, hq160_14_9, hq160_14_10, hq160_14_11, hq160_14_12, hq160_14_13⟩
      · exact absurd hq160_0_0 (by intro hz; have lt_0 : ((2 : Int64)).toInt = 2 := rfl; have lt_1 : ((257 : Int64)).toInt = 257 := rfl; have lt_2 : ((263 : Int64)).toInt = 263 := rfl; have lt_3 : ((264 : Int64)).toInt = 264 := rfl; have lt_4 : ((268 : Int64)).toInt = 268 := rfl; have lt_5 : ((316 : Int64)).toInt = 316 := rfl; have lt_6 : ((82 : Int64)).toInt = 82 := rfl; have lt_7 : ((84 : Int64)).toInt = 84 := rfl; have lt_8 : ((85 : Int64)).toInt = 85 := rfl; have lt_9 : ((87 : Int64)).toInt = 87 := rfl; have lt_10 : ((90 : Int64)).toInt = 90 := rfl; have lt_11 : ((91 : Int64)).toInt = 91 := rfl; simp only [Int32.lt_iff_toInt_lt, Int64.lt_iff_toInt_lt, ← Int32.toInt_inj, ← Int64.toInt_inj] at hz hq103_11_0 hq103_11_1 hq103_11_2 hq103_11_3 hq103_11_4 hq103_11_5 hq103_11_6 hq103_11_7 hq103_11_8 hq103_11_9 hq103_11_10 hq103_11_11; omega)
      · exact absurd hq160_1_1 (by intro hz; have lt_0 : ((2 : Int64)).toInt = 2 := rfl; have lt_1 : ((257 : Int64)).toInt = 257 := rfl; have lt_2 : ((263 : Int64)).toInt = 263 := rfl; have lt_3 : ((264 : Int64)).toInt = 264 := rfl; have lt_4 : ((268 : Int64)).toInt = 268 := rfl; have lt_5 : ((316 : Int64)).toInt = 316 := rfl; have lt_6 : ((82 : Int64)).toInt = 82 := rfl; have lt_7 : ((84 : Int64)).toInt = 84 := rfl; have lt_8 : ((85 : Int64)).toInt = 85 := rfl; have lt_9 : ((87 : Int64)).toInt = 87 := rfl; have lt_10 : ((90 : Int64)).toInt = 90 := rfl; have lt_11 : ((91 : Int64)).toInt = 91 := rfl; simp only [Int32.lt_iff_toInt_lt, Int64.lt_iff_toInt_lt, ← Int32.toInt_inj, ← Int64.toInt_inj] at hz hq103_11_0 hq103_11_1 hq103_11_2 hq103_11_3 hq103_11_4 hq103_11_5 hq103_11_6 hq103_11_7 hq103_11_8 hq103_11_9 hq103_11_10 hq103_11_11 hq160_1_0; omega)
      · exact absurd hq160_2_2 (by intro hz; have lt_0 : ((2 : Int64)).toInt = 2 := rfl; have lt_1 : ((257 : Int64)).toInt = 257 := rfl; have lt_2 : ((263 : Int64)).toInt = 263 := rfl; have lt_3 : ((264 : Int64)).toInt = 264 := rfl; have lt_4 : ((268 : Int64)).toInt = 268 := rfl; have lt_5 : ((316 : Int64)).toInt = 316 := rfl; have lt_6 : ((82 : Int64)).toInt = 82 := rfl; have lt_7 : ((84 : Int64)).toInt = 84 := rfl; have lt_8 : ((85 : Int64)).toInt = 85 := rfl; have lt_9 : ((87 : Int64)).toInt = 87 := rfl; have lt_10 : ((90 : Int64)).toInt = 90 := rfl; have lt_11 : ((91 : Int64)).toInt = 91 := rfl; simp only [Int32.lt_iff_toInt_lt, Int64.lt_iff_toInt_lt, ← Int32.toInt_inj, ← Int64.toInt_inj] at hz hq103_11_0 hq103_11_1 hq103_11_2 hq103_11_3 hq103_11_4 hq103_11_5 hq103_11_6 hq103_11_7 hq103_11_8 hq103_11_9 hq103_11_10 hq103_11_11 hq160_2_0 hq160_2_1; omega)
      · exact absurd hq160_3_3 (by intro hz; have lt_0 : ((2 : Int64)).toInt = 2 := rfl; have lt_1 : ((257 : Int64)).toInt = 257 := rfl; have lt_2 : ((263 : Int64)).toInt = 263 := rfl; have lt_3 : ((264 : Int64)).toInt = 264 := rfl; have lt_4 : ((268 : Int64)).toInt = 268 := rfl; have lt_5 : ((316 : Int64)).toInt = 316 := rfl; have lt_6 : ((82 : Int64)).toInt = 82 := rfl; have lt_7 : ((84 : Int64)).toInt = 84 := rfl; have lt_8 : ((85 : Int64)).toInt = 85 := rfl; have lt_9 : ((87 : Int64)).toInt = 87 := rfl; have lt_10 : ((90 : Int64)).toInt = 90 := rfl; have lt_11 : ((91 : Int64)).toInt = 91 := rfl; simp only [Int32.lt_iff_toInt_lt, Int64.lt_iff_toInt_lt, ← Int32.toInt_inj, ← Int64.toInt_inj] at hz hq103_11_0 hq103_11_1 hq103_11_2 hq103_11_3 hq103_11_4 hq103_11_5 hq103_11_6 hq103_11_7 hq103_11_8 hq103_11_9 hq103_11_10 hq103_11_11 hq160_3_0 hq160_3_1 hq160_3_2; omega)
      · exact absurd hq160_4_4 (by intro hz; have lt_0 : ((2 : Int64)).toInt = 2 := rfl; have lt_1 : ((257 : Int64)).toInt = 257 := rfl; have lt_2 : ((263 : Int64)).toInt = 263 := rfl; have lt_3 : ((264 : Int64)).toInt = 264 := rfl; have lt_4 : ((268 : Int64)).toInt = 268 := rfl; have lt_5 : ((316 : Int64)).toInt = 316 := rfl; have lt_6 : ((82 : Int64)).toInt = 82 := rfl; have lt_7 : ((84 : Int64)).toInt = 84 := rfl; have lt_8 : ((85 : Int64)).toInt = 85 := rfl; have lt_9 : ((87 : Int64)).toInt = 87 := rfl; have lt_10 : ((90 : Int64)).toInt = 90 := rfl; have lt_11 : ((91 : Int64)).toInt = 91 := rfl; simp only [Int32.lt_iff_toInt_lt, Int64.lt_iff_toInt_lt, ← Int32.toInt_inj, ← Int64.toInt_inj] at hz hq103_11_0 hq103_11_1 hq103_11_2 hq103_11_3 hq103_11_4 hq103_11_5 hq103_11_6 hq103_11_7 hq103_11_8 hq103_11_9 hq103_11_10 hq103_11_11 hq160_4_0 hq160_4_1 hq160_4_2 hq160_4_3; omega)
      · exact absurd hq160_5_5 (by intro hz; have lt_0 : ((2 : Int64)).toInt = 2 := rfl; have lt_1 : ((257 : Int64)).toInt = 257 := rfl; have lt_2 : ((263 : Int64)).toInt = 263 := rfl; have lt_3 : ((264 : Int64)).toInt = 264 := rfl; have lt_4 : ((268 : Int64)).toInt = 268 := rfl; have lt_5 : ((316 : Int64)).toInt = 316 := rfl; have lt_6 : ((82 : Int64)).toInt = 82 := rfl; have lt_7 : ((84 : Int64)).toInt = 84 := rfl; have lt_8 : ((85 : Int64)).toInt = 85 := rfl; have lt_9 : ((87 : Int64)).toInt = 87 := rfl; have lt_10 : ((90 : Int64)).toInt = 90 := rfl; have lt_11 : ((91 : Int64)).toInt = 91 := rfl; simp only [Int32.lt_iff_toInt_lt, Int64.lt_iff_toInt_lt, ← Int32.toInt_inj, ← Int64.toInt_inj] at hz hq103_11_0 hq103_11_1 hq103_11_2 hq103_11_3 hq103_11_4 hq103_11_5 hq103_11_6 hq103_11_7 hq103_11_8 hq103_11_9 hq103_11_10 hq103_11_11 hq160_5_0 hq160_5_1 hq160_5_2 hq160_5_3 hq160_5_4; omega)
      · exact absurd hq160_6_6 (by intro hz; have lt_0 : ((2 : Int64)).toInt = 2 := rfl; have lt_1 : ((257 : Int64)).toInt = 257 := rfl; have lt_2 : ((263 : Int64)).toInt = 263 := rfl; have lt_3 : ((264 : Int64)).toInt = 264 := rfl; have lt_4 : ((268 : Int64)).toInt = 268 := rfl; have lt_5 : ((316 : Int64)).toInt = 316 := rfl; have lt_6 : ((82 : Int64)).toInt = 82 := rfl; have lt_7 : ((84 : Int64)).toInt = 84 := rfl; have lt_8 : ((85 : Int64)).toInt = 85 := rfl; have lt_9 : ((87 : Int64)).toInt = 87 := rfl; have lt_10 : ((90 : Int64)).toInt = 90 := rfl; have lt_11 : ((91 : Int64)).toInt = 91 := rfl; simp only [Int32.lt_iff_toInt_lt, Int64.lt_iff_toInt_lt, ← Int32.toInt_inj, ← Int64.toInt_inj] at hz hq103_11_0 hq103_11_1 hq103_11_2 hq103_11_3 hq103_11_4 hq103_11_5 hq103_11_6 hq103_11_7 hq103_11_8 hq103_11_9 hq103_11_10 hq103_11_11 hq160_6_0 hq160_6_1 hq160_6_2 hq160_6_3 hq160_6_4 hq160_6_5; omega)
      · exact absurd hq160_7_7 (by intro hz; have lt_0 : ((2 : Int64)).toInt = 2 := rfl; have lt_1 : ((257 : Int64)).toInt = 257 := rfl; have lt_2 : ((263 : Int64)).toInt = 263 := rfl; have lt_3 : ((264 : Int64)).toInt = 264 := rfl; have lt_4 : ((268 : Int64)).toInt = 268 := rfl; have lt_5 : ((316 : Int64)).toInt = 316 := rfl; have lt_6 : ((82 : Int64)).toInt = 82 := rfl; have lt_7 : ((84 : Int64)).toInt = 84 := rfl; have lt_8 : ((85 : Int64)).toInt = 85 := rfl; have lt_9 : ((87 : Int64)).toInt = 87 := rfl; have lt_10 : ((90 : Int64)).toInt = 90 := rfl; have lt_11 : ((91 : Int64)).toInt = 91 := rfl; simp only [Int32.lt_iff_toInt_lt, Int64.lt_iff_toInt_lt, ← Int32.toInt_inj, ← Int64.toInt_inj] at hz hq103_11_0 hq103_11_1 hq103_11_2 hq103_11_3 hq103_11_4 hq103_11_5 hq103_11_6 hq103_11_7 hq103_11_8 hq103_11_9 hq103_11_10 hq103_11_11 hq160_7_0 hq160_7_1 hq160_7_2 hq160_7_3 hq160_7_4 hq160_7_5 hq160_7_6; omega)
      · exact absurd hq160_8_8 (by intro hz; have lt_0 : ((2 : Int64)).toInt = 2 := rfl; have lt_1 : ((257 : Int64)).toInt = 257 := rfl; have lt_2 : ((263 : Int64)).toInt = 263 := rfl; have lt_3 : ((264 : Int64)).toInt = 264 := rfl; have lt_4 : ((268 : Int64)).toInt = 268 := rfl; have lt_5 : ((316 : Int64)).toInt = 316 := rfl; have lt_6 : ((82 : Int64)).toInt = 82 := rfl; have lt_7 : ((84 : Int64)).toInt = 84 := rfl; have lt_8 : ((85 : Int64)).toInt = 85 := rfl; have lt_9 : ((87 : Int64)).toInt = 87 := rfl; have lt_10 : ((90 : Int64)).toInt = 90 := rfl; have lt_11 : ((91 : Int64)).toInt = 91 := rfl; simp only [Int32.lt_iff_toInt_lt, Int64.lt_iff_toInt_lt, ← Int32.toInt_inj, ← Int64.toInt_inj] at hz hq103_11_0 hq103_11_1 hq103_11_2 hq103_11_3 hq103_11_4 hq103_11_5 hq103_11_6 hq103_11_7 hq103_11_8 hq103_11_9 hq103_11_10 hq103_11_11 hq160_8_0 hq160_8_1 hq160_8_2 hq160_8_3 hq160_8_4 hq160_8_5 hq160_8_6 hq160_8_7; omega)
      · exact absurd hq160_9_9 (by intro hz; have lt_0 : ((2 : Int64)).toInt = 2 := rfl; have lt_1 : ((257 : Int64)).toInt = 257 := rfl; have lt_2 : ((263 : Int64)).toInt = 263 := rfl; have lt_3 : ((264 : Int64)).toInt = 264 := rfl; have lt_4 : ((268 : Int64)).toInt = 268 := rfl; have lt_5 : ((316 : Int64)).toInt = 316 := rfl; have lt_6 : ((82 : Int64)).toInt = 82 := rfl; have lt_7 : ((84 : Int64)).toInt = 84 := rfl; have lt_8 : ((85 : Int64)).toInt = 85 := rfl; have lt_9 : ((87 : Int64)).toInt = 87 := rfl; have lt_10 : ((90 : Int64)).toInt = 90 := rfl; have lt_11 : ((91 : Int64)).toInt = 91 := rfl; simp only [Int32.lt_iff_toInt_lt, Int64.lt_iff_toInt_lt, ← Int32.toInt_inj, ← Int64.toInt_inj] at hz hq103_11_0 hq103_11_1 hq103_11_2 hq103_11_3 hq103_11_4 hq103_11_5 hq103_11_6 hq103_11_7 hq103_11_8 hq103_11_9 hq103_11_10 hq103_11_11 hq160_9_0 hq160_9_1 hq160_9_2 hq160_9_3 hq160_9_4 hq160_9_5 hq160_9_6 hq160_9_7 hq160_9_8; omega)
      · exact absurd hq160_10_10 (by intro hz; have lt_0 : ((2 : Int64)).toInt = 2 := rfl; have lt_1 : ((257 : Int64)).toInt = 257 := rfl; have lt_2 : ((263 : Int64)).toInt = 263 := rfl; have lt_3 : ((264 : Int64)).toInt = 264 := rfl; have lt_4 : ((268 : Int64)).toInt = 268 := rfl; have lt_5 : ((316 : Int64)).toInt = 316 := rfl; have lt_6 : ((82 : Int64)).toInt = 82 := rfl; have lt_7 : ((84 : Int64)).toInt = 84 := rfl; have lt_8 : ((85 : Int64)).toInt = 85 := rfl; have lt_9 : ((87 : Int64)).toInt = 87 := rfl; have lt_10 : ((90 : Int64)).toInt = 90 := rfl; have lt_11 : ((91 : Int64)).toInt = 91 := rfl; simp only [Int32.lt_iff_toInt_lt, Int64.lt_iff_toInt_lt, ← Int32.toInt_inj, ← Int64.toInt_inj] at hz hq103_11_0 hq103_11_1 hq103_11_2 hq103_11_3 hq103_11_4 hq103_11_5 hq103_11_6 hq103_11_7 hq103_11_8 hq103_11_9 hq103_11_10 hq103_11_11 hq160_10_0 hq160_10_1 hq160_10_2 hq160_10_3 hq160_10_4 hq160_10_5 hq160_10_6 hq160_10_7 hq160_10_8 hq160_10_9; omega)
      · have pre163 : ∀ t, Steps p.tables e below (T160.setTop (mkF m 39 #[.val (.long q0_), .second, .val (.int p1_), .val (.int (p1_ &&& (31 : Int32))), .val (.long q0_), .second] [(.int (1 : Int32))])) t → Steps p.tables e below (s₁.setTop (entryFrame m #[(.long q0_), (.int p1_)] maxLocals)) t := by
          intro t kt
          refine pre1 t ?_
          show Steps p.tables e below (s₁.setTop (mkF m 8 #[.val (.long q0_), .second, .val (.int p1_), .val (.int (p1_ &&& (31 : Int32))), .unset, .unset] [(.int (14 : Int32)), (.int (p1_ &&& (31 : Int32)))])) _
          refine XS.icmpYes X0.here hx rfl (pc0 := 8) (pc' := 18) rfl (hb hby at_8) rfl (flt hc2).2.1 (by decide) (by decide) ?_
          show Steps p.tables e below (s₁.setTop (mkF m 18 #[.val (.long q0_), .second, .val (.int p1_), .val (.int (p1_ &&& (31 : Int32))), .unset, .unset] [])) _
          refine XS.lloadN X0.here hx rfl (hb hby at_18) rfl ?_
          show Steps p.tables e below (s₁.setTop (mkF m 19 #[.val (.long q0_), .second, .val (.int p1_), .val (.int (p1_ &&& (31 : Int32))), .unset, .unset] [(.long q0_)])) _
          refine XS.lstore X0.here hx rfl (hb hby at_19) rfl (l' := #[.val (.long q0_), .second, .val (.int p1_), .val (.int (p1_ &&& (31 : Int32))), .val (.long q0_), .second]) rfl ?_
          show Steps p.tables e below (s₁.setTop (mkF m 21 #[.val (.long q0_), .second, .val (.int p1_), .val (.int (p1_ &&& (31 : Int32))), .val (.long q0_), .second] [])) _
          refine XS.lload X0.here hx rfl (hb hby at_21) rfl ?_
          show Steps p.tables e below (s₁.setTop (mkF m 23 #[.val (.long q0_), .second, .val (.int p1_), .val (.int (p1_ &&& (31 : Int32))), .val (.long q0_), .second] [(.long q0_)])) _
          refine st103 _ ?_
          show Steps p.tables e below (T103.setTop (mkF m 26 #[.val (.long q0_), .second, .val (.int p1_), .val (.int (p1_ &&& (31 : Int32))), .val (.long q0_), .second] [(.ref w_FCHMODAT)])) _
          refine XS.lload X103.here hx rfl (hb hby at_26) rfl ?_
          show Steps p.tables e below (T103.setTop (mkF m 28 #[.val (.long q0_), .second, .val (.int p1_), .val (.int (p1_ &&& (31 : Int32))), .val (.long q0_), .second] [(.long q0_), (.ref w_FCHMODAT)])) _
          refine st160 _ ?_
          show Steps p.tables e below (T160.setTop (mkF m 31 #[.val (.long q0_), .second, .val (.int p1_), .val (.int (p1_ &&& (31 : Int32))), .val (.long q0_), .second] [(.ref w_FCHMODAT), (.ref w_FCHMODAT)])) _
          refine Jvm.RoadKit.acmp (g := (mkF m 31 #[.val (.long q0_), .second, .val (.int p1_), .val (.int (p1_ &&& (31 : Int32))), .val (.long q0_), .second] [(.ref w_FCHMODAT), (.ref w_FCHMODAT)])) X160 hx rfl rfl rfl (pc0 := 31) (pc' := 34) (same := true) rfl (hb hby at_31) rfl (decide_eq_true rfl) (by decide) (by decide) ?_
          show Steps p.tables e below (T160.setTop (mkF m 34 #[.val (.long q0_), .second, .val (.int p1_), .val (.int (p1_ &&& (31 : Int32))), .val (.long q0_), .second] [])) _
          refine XS.iconst X160.here hx rfl (hb hby at_34) ?_
          show Steps p.tables e below (T160.setTop (mkF m 35 #[.val (.long q0_), .second, .val (.int p1_), .val (.int (p1_ &&& (31 : Int32))), .val (.long q0_), .second] [(.int (1 : Int32))])) _
          refine XS.goto X160.here hx rfl (pc0 := 35) (pc' := 39) rfl (hb hby at_35) (by decide) (by decide) ?_
          exact kt
        obtain ⟨fs, hr, hrun, hended, hW, hsame⟩ := X160.leave (v := some (.int (1 : Int32))) (fun h => by rw [Bd.returns] at h; cases h)
        refine ⟨_, _, pre163 _ (retN X160 hx (t := .boolean) Bd.returns (by simp) (hb hby at_39) hr), hrun, hended, _, _, rfl, ?_, ⟨_, rfl⟩, hW, hsame.mono (by decide) (by decide)⟩
        show QLaw Z q0_ p1_ w_OPEN w_CREAT w_OPENAT w_RENAME w_RENAMEAT w_RENAMEAT2 w_UNLINK w_UNLINKAT w_RMDIR w_CHMOD w_FCHMOD w_FCHMODAT w_CHOWN w_FCHOWNAT w__VALUES k_ h0 n0 _ T160.heap _
        rw [e160']
        exact ⟨rfl, N162⟩
      · exact absurd hq160_12_12 (by intro hz; have lt_0 : ((2 : Int64)).toInt = 2 := rfl; have lt_1 : ((257 : Int64)).toInt = 257 := rfl; have lt_2 : ((263 : Int64)).toInt = 263 := rfl; have lt_3 : ((264 : Int64)).toInt = 264 := rfl; have lt_4 : ((268 : Int64)).toInt = 268 := rfl; have lt_5 : ((316 : Int64)).toInt = 316 := rfl; have lt_6 : ((82 : Int64)).toInt = 82 := rfl; have lt_7 : ((84 : Int64)).toInt = 84 := rfl; have lt_8 : ((85 : Int64)).toInt = 85 := rfl; have lt_9 : ((87 : Int64)).toInt = 87 := rfl; have lt_10 : ((90 : Int64)).toInt = 90 := rfl; have lt_11 : ((91 : Int64)).toInt = 91 := rfl; have lt_12 : ((92 : Int64)).toInt = 92 := rfl; simp only [Int32.lt_iff_toInt_lt, Int64.lt_iff_toInt_lt, ← Int32.toInt_inj, ← Int64.toInt_inj] at hz hq103_11_0 hq103_11_1 hq103_11_2 hq103_11_3 hq103_11_4 hq103_11_5 hq103_11_6 hq103_11_7 hq103_11_8 hq103_11_9 hq103_11_10 hq103_11_11 hq160_12_0 hq160_12_1 hq160_12_2 hq160_12_3 hq160_12_4 hq160_12_5 hq160_12_6 hq160_12_7 hq160_12_8 hq160_12_9 hq160_12_10 hq160_12_11; omega)
      · exact absurd hq160_13_13 (by intro hz; have lt_0 : ((2 : Int64)).toInt = 2 := rfl; have lt_1 : ((257 : Int64)).toInt = 257 := rfl; have lt_2 : ((260 : Int64)).toInt = 260 := rfl; have lt_3 : ((263 : Int64)).toInt = 263 := rfl; have lt_4 : ((264 : Int64)).toInt = 264 := rfl; have lt_5 : ((268 : Int64)).toInt = 268 := rfl; have lt_6 : ((316 : Int64)).toInt = 316 := rfl; have lt_7 : ((82 : Int64)).toInt = 82 := rfl; have lt_8 : ((84 : Int64)).toInt = 84 := rfl; have lt_9 : ((85 : Int64)).toInt = 85 := rfl; have lt_10 : ((87 : Int64)).toInt = 87 := rfl; have lt_11 : ((90 : Int64)).toInt = 90 := rfl; have lt_12 : ((91 : Int64)).toInt = 91 := rfl; have lt_13 : ((92 : Int64)).toInt = 92 := rfl; simp only [Int32.lt_iff_toInt_lt, Int64.lt_iff_toInt_lt, ← Int32.toInt_inj, ← Int64.toInt_inj] at hz hq103_11_0 hq103_11_1 hq103_11_2 hq103_11_3 hq103_11_4 hq103_11_5 hq103_11_6 hq103_11_7 hq103_11_8 hq103_11_9 hq103_11_10 hq103_11_11 hq160_13_0 hq160_13_1 hq160_13_2 hq160_13_3 hq160_13_4 hq160_13_5 hq160_13_6 hq160_13_7 hq160_13_8 hq160_13_9 hq160_13_10 hq160_13_11 hq160_13_12; omega)
      · exact absurd (by apply Decidable.by_contra; intro hz; have lt_0 : ((2 : Int64)).toInt = 2 := rfl; have lt_1 : ((257 : Int64)).toInt = 257 := rfl; have lt_2 : ((263 : Int64)).toInt = 263 := rfl; have lt_3 : ((264 : Int64)).toInt = 264 := rfl; have lt_4 : ((268 : Int64)).toInt = 268 := rfl; have lt_5 : ((316 : Int64)).toInt = 316 := rfl; have lt_6 : ((82 : Int64)).toInt = 82 := rfl; have lt_7 : ((84 : Int64)).toInt = 84 := rfl; have lt_8 : ((85 : Int64)).toInt = 85 := rfl; have lt_9 : ((87 : Int64)).toInt = 87 := rfl; have lt_10 : ((90 : Int64)).toInt = 90 := rfl; have lt_11 : ((91 : Int64)).toInt = 91 := rfl; simp only [Int32.lt_iff_toInt_lt, Int64.lt_iff_toInt_lt, ← Int32.toInt_inj, ← Int64.toInt_inj] at hz hq103_11_0 hq103_11_1 hq103_11_2 hq103_11_3 hq103_11_4 hq103_11_5 hq103_11_6 hq103_11_7 hq103_11_8 hq103_11_9 hq103_11_10 hq103_11_11 hq160_14_0 hq160_14_1 hq160_14_2 hq160_14_3 hq160_14_4 hq160_14_5 hq160_14_6 hq160_14_7 hq160_14_8 hq160_14_9 hq160_14_10; omega) hq160_14_11
    · have f166 : Old Z n0 h103 := O0.keep K103 all0
      obtain ⟨_, _, ⟨T165, L165, k165, n165⟩, -, X165, ⟨Lc165, hQ165, l165, y165, z165⟩, st165⟩ := Jvm.LawKit.callS X103 hx (y := (⟨"com/example/aeacus/aeacus/audit/SyscallOfPinLaw", "expected", "(J)Lcom/example/aeacus/aeacus/audit/Syscall;"⟩ : MethodName)) hown (mvT hZ (hw _ (List.mem_of_getElem? (i := 40) rfl))) (mvT hZ (hw _ (List.mem_of_getElem? (i := 41) rfl))) (mvT hZ (hw _ (List.mem_of_getElem? (i := 2) rfl))) (mvT hZ (hw _ (List.mem_of_getElem? (i := 42) rfl))) (by decide) (backOf (W := 1) (rmExp l Z a0 hw [] q0_ w_OPEN w_CREAT w_OPENAT w_RENAME w_RENAMEAT w_RENAMEAT2 w_UNLINK w_UNLINKAT w_RMDIR w_CHMOD w_FCHMOD w_FCHMODAT w_CHOWN w_FCHOWNAT w__VALUES k_ h103 n0 f166 P0 P1 P2 P3 P4 P5 P6 P7 P8 P9 P10 P11 P12 P13 P14 P15 P16 P17 P18 P19 P20 P21 P22 P23 P24 P25 P26 P27 P28 P29 P30 P31 P32 P33 P34 P35 P36 P37 P38 P39 P40 P41 P42 P43 P44) hZ (hw _ (List.mem_of_getElem? (i := 42) rfl)) (hw _ (List.mem_of_getElem? (i := 2) rfl)) (by decide) (by decide)) (g := (mkF m 28 #[.val (.long q0_), .second, .val (.int p1_), .val (.int (p1_ &&& (31 : Int32))), .val (.long q0_), .second] [(.long q0_), (.ref w_CHOWN)])) rfl (by rw [hml]; rfl) (argsL := [(.long q0_)]) (rest := [(.ref w_CHOWN)]) (lenOf pd_2 rfl) rfl (by show 2 * 0 + _ ≤ _; exact Nat.le_of_eq rfl) (hb hby at_28) (fun _ _ => ⟨rfl, e103, (by decide : 1 + 0 ≤ _), (by decide : 14 + 0 ≤ _)⟩)
      dsimp only [Pt.U, Pt.locs, Pt.cells, Pt.slots] at X165 l165 y165 z165 st165 hQ165
      subst l165 y165 z165
      obtain ⟨h165, e165⟩ : ∃ z, T165.heap = z := ⟨_, rfl⟩
      rw [e165] at hQ165
      obtain ⟨rr165, rfl, hs165, N165q, hh165⟩ := hQ165
      have N167 := Fr.app N104 N165q
      have e165' : T165.heap = h103 := e165.trans hh165
      rcases hs165 with ⟨rfl, hq165_0_0⟩ | ⟨rfl, hq165_1_0, hq165_1_1⟩ | ⟨rfl, hq165_2_0, hq165_2_1, hq165_2_2⟩ | ⟨rfl, hq165_3_0, hq165_3_1, hq165_3_2, hq165_3_3⟩ | ⟨rfl, hq165_4_0, hq165_4_1, hq165_4_2, hq165_4_3, hq165_4_4⟩ | ⟨rfl, hq165_5_0, hq165_5_1, hq165_5_2, hq165_5_3, hq165_5_4, hq165_5_5⟩ | ⟨rfl, hq165_6_0, hq165_6_1, hq165_6_2, hq165_6_3, hq165_6_4, hq165_6_5, hq165_6_6⟩ | ⟨rfl, hq165_7_0, hq165_7_1, hq165_7_2, hq165_7_3, hq165_7_4, hq165_7_5, hq165_7_6, hq165_7_7⟩ | ⟨rfl, hq165_8_0, hq165_8_1, hq165_8_2, hq165_8_3, hq165_8_4, hq165_8_5, hq165_8_6, hq165_8_7, hq165_8_8⟩ | ⟨rfl, hq165_9_0, hq165_9_1, hq165_9_2, hq165_9_3, hq165_9_4, hq165_9_5, hq165_9_6, hq165_9_7, hq165_9_8, hq165_9_9⟩ | ⟨rfl, hq165_10_0, hq165_10_1, hq165_10_2, hq165_10_3, hq165_10_4, hq165_10_5, hq165_10_6, hq165_10_7, hq165_10_8, hq165_10_9, hq165_10_10⟩ | ⟨rfl, hq165_11_0, hq165_11_1, hq165_11_2, hq165_11_3, hq165_11_4, hq165_11_5, hq165_11_6, hq165_11_7, hq165_11_8, hq165_11_9, hq165_11_10, hq165_11_11⟩ | ⟨rfl, hq165_12_0, hq165_12_1, hq165_12_2, hq165_12_3, hq165_12_4, hq165_12_5, hq165_12_6, hq165_12_7, hq165_12_8, hq165_12_9, hq165_12_10, hq165_12_11, hq165_12_12⟩ | ⟨rfl, hq165_13_0, hq165_13_1, hq165_13_2, hq165_13_3, hq165_13_4, hq165_13_5, hq165_13_6, hq165_13_7, hq165_13_8, hq165_13_9, hq165_13_10, hq165_13_11, hq165_13_12, hq165_13_13⟩ | ⟨rfl, hq165_14_0, hq165_14_1, hq165_14_2, hq165_14_3, hq165_14_4, hq165_14_5, hq165_14_6, hq165_14_7, hq165_14_8, hq165_14_9, hq165_14_10, hq165_14_11, hq165_14_12, hq165_14_13⟩
      · exact absurd hq165_0_0 (by intro hz; have lt_0 : ((2 : Int64)).toInt = 2 := rfl; have lt_1 : ((257 : Int64)).toInt = 257 := rfl; have lt_2 : ((263 : Int64)).toInt = 263 := rfl; have lt_3 : ((264 : Int64)).toInt = 264 := rfl; have lt_4 : ((268 : Int64)).toInt = 268 := rfl; have lt_5 : ((316 : Int64)).toInt = 316 := rfl; have lt_6 : ((82 : Int64)).toInt = 82 := rfl; have lt_7 : ((84 : Int64)).toInt = 84 := rfl; have lt_8 : ((85 : Int64)).toInt = 85 := rfl; have lt_9 : ((87 : Int64)).toInt = 87 := rfl; have lt_10 : ((90 : Int64)).toInt = 90 := rfl; have lt_11 : ((91 : Int64)).toInt = 91 := rfl; have lt_12 : ((92 : Int64)).toInt = 92 := rfl; simp only [Int32.lt_iff_toInt_lt, Int64.lt_iff_toInt_lt, ← Int32.toInt_inj, ← Int64.toInt_inj] at hz hq103_12_0 hq103_12_1 hq103_12_2 hq103_12_3 hq103_12_4 hq103_12_5 hq103_12_6 hq103_12_7 hq103_12_8 hq103_12_9 hq103_12_10 hq103_12_11 hq103_12_12; omega)
      · exact absurd hq165_1_1 (by intro hz; have lt_0 : ((2 : Int64)).toInt = 2 := rfl; have lt_1 : ((257 : Int64)).toInt = 257 := rfl; have lt_2 : ((263 : Int64)).toInt = 263 := rfl; have lt_3 : ((264 : Int64)).toInt = 264 := rfl; have lt_4 : ((268 : Int64)).toInt = 268 := rfl; have lt_5 : ((316 : Int64)).toInt = 316 := rfl; have lt_6 : ((82 : Int64)).toInt = 82 := rfl; have lt_7 : ((84 : Int64)).toInt = 84 := rfl; have lt_8 : ((85 : Int64)).toInt = 85 := rfl; have lt_9 : ((87 : Int64)).toInt = 87 := rfl; have lt_10 : ((90 : Int64)).toInt = 90 := rfl; have lt_11 : ((91 : Int64)).toInt = 91 := rfl; have lt_12 : ((92 : Int64)).toInt = 92 := rfl; simp only [Int32.lt_iff_toInt_lt, Int64.lt_iff_toInt_lt, ← Int32.toInt_inj, ← Int64.toInt_inj] at hz hq103_12_0 hq103_12_1 hq103_12_2 hq103_12_3 hq103_12_4 hq103_12_5 hq103_12_6 hq103_12_7 hq103_12_8 hq103_12_9 hq103_12_10 hq103_12_11 hq103_12_12 hq165_1_0; omega)
      · exact absurd hq165_2_2 (by intro hz; have lt_0 : ((2 : Int64)).toInt = 2 := rfl; have lt_1 : ((257 : Int64)).toInt = 257 := rfl; have lt_2 : ((263 : Int64)).toInt = 263 := rfl; have lt_3 : ((264 : Int64)).toInt = 264 := rfl; have lt_4 : ((268 : Int64)).toInt = 268 := rfl; have lt_5 : ((316 : Int64)).toInt = 316 := rfl; have lt_6 : ((82 : Int64)).toInt = 82 := rfl; have lt_7 : ((84 : Int64)).toInt = 84 := rfl; have lt_8 : ((85 : Int64)).toInt = 85 := rfl; have lt_9 : ((87 : Int64)).toInt = 87 := rfl; have lt_10 : ((90 : Int64)).toInt = 90 := rfl; have lt_11 : ((91 : Int64)).toInt = 91 := rfl; have lt_12 : ((92 : Int64)).toInt = 92 := rfl; simp only [Int32.lt_iff_toInt_lt, Int64.lt_iff_toInt_lt, ← Int32.toInt_inj, ← Int64.toInt_inj] at hz hq103_12_0 hq103_12_1 hq103_12_2 hq103_12_3 hq103_12_4 hq103_12_5 hq103_12_6 hq103_12_7 hq103_12_8 hq103_12_9 hq103_12_10 hq103_12_11 hq103_12_12 hq165_2_0 hq165_2_1; omega)
      · exact absurd hq165_3_3 (by intro hz; have lt_0 : ((2 : Int64)).toInt = 2 := rfl; have lt_1 : ((257 : Int64)).toInt = 257 := rfl; have lt_2 : ((263 : Int64)).toInt = 263 := rfl; have lt_3 : ((264 : Int64)).toInt = 264 := rfl; have lt_4 : ((268 : Int64)).toInt = 268 := rfl; have lt_5 : ((316 : Int64)).toInt = 316 := rfl; have lt_6 : ((82 : Int64)).toInt = 82 := rfl; have lt_7 : ((84 : Int64)).toInt = 84 := rfl; have lt_8 : ((85 : Int64)).toInt = 85 := rfl; have lt_9 : ((87 : Int64)).toInt = 87 := rfl; have lt_10 : ((90 : Int64)).toInt = 90 := rfl; have lt_11 : ((91 : Int64)).toInt = 91 := rfl; have lt_12 : ((92 : Int64)).toInt = 92 := rfl; simp only [Int32.lt_iff_toInt_lt, Int64.lt_iff_toInt_lt, ← Int32.toInt_inj, ← Int64.toInt_inj] at hz hq103_12_0 hq103_12_1 hq103_12_2 hq103_12_3 hq103_12_4 hq103_12_5 hq103_12_6 hq103_12_7 hq103_12_8 hq103_12_9 hq103_12_10 hq103_12_11 hq103_12_12 hq165_3_0 hq165_3_1 hq165_3_2; omega)
      · exact absurd hq165_4_4 (by intro hz; have lt_0 : ((2 : Int64)).toInt = 2 := rfl; have lt_1 : ((257 : Int64)).toInt = 257 := rfl; have lt_2 : ((263 : Int64)).toInt = 263 := rfl; have lt_3 : ((264 : Int64)).toInt = 264 := rfl; have lt_4 : ((268 : Int64)).toInt = 268 := rfl; have lt_5 : ((316 : Int64)).toInt = 316 := rfl; have lt_6 : ((82 : Int64)).toInt = 82 := rfl; have lt_7 : ((84 : Int64)).toInt = 84 := rfl; have lt_8 : ((85 : Int64)).toInt = 85 := rfl; have lt_9 : ((87 : Int64)).toInt = 87 := rfl; have lt_10 : ((90 : Int64)).toInt = 90 := rfl; have lt_11 : ((91 : Int64)).toInt = 91 := rfl; have lt_12 : ((92 : Int64)).toInt = 92 := rfl; simp only [Int32.lt_iff_toInt_lt, Int64.lt_iff_toInt_lt, ← Int32.toInt_inj, ← Int64.toInt_inj] at hz hq103_12_0 hq103_12_1 hq103_12_2 hq103_12_3 hq103_12_4 hq103_12_5 hq103_12_6 hq103_12_7 hq103_12_8 hq103_12_9 hq103_12_10 hq103_12_11 hq103_12_12 hq165_4_0 hq165_4_1 hq165_4_2 hq165_4_3; omega)
      · exact absurd hq165_5_5 (by intro hz; have lt_0 : ((2 : Int64)).toInt = 2 := rfl; have lt_1 : ((257 : Int64)).toInt = 257 := rfl; have lt_2 : ((263 : Int64)).toInt = 263 := rfl; have lt_3 : ((264 : Int64)).toInt = 264 := rfl; have lt_4 : ((268 : Int64)).toInt = 268 := rfl; have lt_5 : ((316 : Int64)).toInt = 316 := rfl; have lt_6 : ((82 : Int64)).toInt = 82 := rfl; have lt_7 : ((84 : Int64)).toInt = 84 := rfl; have lt_8 : ((85 : Int64)).toInt = 85 := rfl; have lt_9 : ((87 : Int64)).toInt = 87 := rfl; have lt_10 : ((90 : Int64)).toInt = 90 := rfl; have lt_11 : ((91 : Int64)).toInt = 91 := rfl; have lt_12 : ((92 : Int64)).toInt = 92 := rfl; simp only [Int32.lt_iff_toInt_lt, Int64.lt_iff_toInt_lt, ← Int32.toInt_inj, ← Int64.toInt_inj] at hz hq103_12_0 hq103_12_1 hq103_12_2 hq103_12_3 hq103_12_4 hq103_12_5 hq103_12_6 hq103_12_7 hq103_12_8 hq103_12_9 hq103_12_10 hq103_12_11 hq103_12_12 hq165_5_0 hq165_5_1 hq165_5_2 hq165_5_3 hq165_5_4; omega)
      · exact absurd hq165_6_6 (by intro hz; have lt_0 : ((2 : Int64)).toInt = 2 := rfl; have lt_1 : ((257 : Int64)).toInt = 257 := rfl; have lt_2 : ((263 : Int64)).toInt = 263 := rfl; have lt_3 : ((264 : Int64)).toInt = 264 := rfl; have lt_4 : ((268 : Int64)).toInt = 268 := rfl; have lt_5 : ((316 : Int64)).toInt = 316 := rfl; have lt_6 : ((82 : Int64)).toInt = 82 := rfl; have lt_7 : ((84 : Int64)).toInt = 84 := rfl; have lt_8 : ((85 : Int64)).toInt = 85 := rfl; have lt_9 : ((87 : Int64)).toInt = 87 := rfl; have lt_10 : ((90 : Int64)).toInt = 90 := rfl; have lt_11 : ((91 : Int64)).toInt = 91 := rfl; have lt_12 : ((92 : Int64)).toInt = 92 := rfl; simp only [Int32.lt_iff_toInt_lt, Int64.lt_iff_toInt_lt, ← Int32.toInt_inj, ← Int64.toInt_inj] at hz hq103_12_0 hq103_12_1 hq103_12_2 hq103_12_3 hq103_12_4 hq103_12_5 hq103_12_6 hq103_12_7 hq103_12_8 hq103_12_9 hq103_12_10 hq103_12_11 hq103_12_12 hq165_6_0 hq165_6_1 hq165_6_2 hq165_6_3 hq165_6_4 hq165_6_5; omega)
      · exact absurd hq165_7_7 (by intro hz; have lt_0 : ((2 : Int64)).toInt = 2 := rfl; have lt_1 : ((257 : Int64)).toInt = 257 := rfl; have lt_2 : ((263 : Int64)).toInt = 263 := rfl; have lt_3 : ((264 : Int64)).toInt = 264 := rfl; have lt_4 : ((268 : Int64)).toInt = 268 := rfl; have lt_5 : ((316 : Int64)).toInt = 316 := rfl; have lt_6 : ((82 : Int64)).toInt = 82 := rfl; have lt_7 : ((84 : Int64)).toInt = 84 := rfl; have lt_8 : ((85 : Int64)).toInt = 85 := rfl; have lt_9 : ((87 : Int64)).toInt = 87 := rfl; have lt_10 : ((90 : Int64)).toInt = 90 := rfl; have lt_11 : ((91 : Int64)).toInt = 91 := rfl; have lt_12 : ((92 : Int64)).toInt = 92 := rfl; simp only [Int32.lt_iff_toInt_lt, Int64.lt_iff_toInt_lt, ← Int32.toInt_inj, ← Int64.toInt_inj] at hz hq103_12_0 hq103_12_1 hq103_12_2 hq103_12_3 hq103_12_4 hq103_12_5 hq103_12_6 hq103_12_7 hq103_12_8 hq103_12_9 hq103_12_10 hq103_12_11 hq103_12_12 hq165_7_0 hq165_7_1 hq165_7_2 hq165_7_3 hq165_7_4 hq165_7_5 hq165_7_6; omega)
      · exact absurd hq165_8_8 (by intro hz; have lt_0 : ((2 : Int64)).toInt = 2 := rfl; have lt_1 : ((257 : Int64)).toInt = 257 := rfl; have lt_2 : ((263 : Int64)).toInt = 263 := rfl; have lt_3 : ((264 : Int64)).toInt = 264 := rfl; have lt_4 : ((268 : Int64)).toInt = 268 := rfl; have lt_5 : ((316 : Int64)).toInt = 316 := rfl; have lt_6 : ((82 : Int64)).toInt = 82 := rfl; have lt_7 : ((84 : Int64)).toInt = 84 := rfl; have lt_8 : ((85 : Int64)).toInt = 85 := rfl; have lt_9 : ((87 : Int64)).toInt = 87 := rfl; have lt_10 : ((90 : Int64)).toInt = 90 := rfl; have lt_11 : ((91 : Int64)).toInt = 91 := rfl; have lt_12 : ((92 : Int64)).toInt = 92 := rfl; simp only [Int32.lt_iff_toInt_lt, Int64.lt_iff_toInt_lt, ← Int32.toInt_inj, ← Int64.toInt_inj] at hz hq103_12_0 hq103_12_1 hq103_12_2 hq103_12_3 hq103_12_4 hq103_12_5 hq103_12_6 hq103_12_7 hq103_12_8 hq103_12_9 hq103_12_10 hq103_12_11 hq103_12_12 hq165_8_0 hq165_8_1 hq165_8_2 hq165_8_3 hq165_8_4 hq165_8_5 hq165_8_6 hq165_8_7; omega)
      · exact absurd hq165_9_9 (by intro hz; have lt_0 : ((2 : Int64)).toInt = 2 := rfl; have lt_1 : ((257 : Int64)).toInt = 257 := rfl; have lt_2 : ((263 : Int64)).toInt = 263 := rfl; have lt_3 : ((264 : Int64)).toInt = 264 := rfl; have lt_4 : ((268 : Int64)).toInt = 268 := rfl; have lt_5 : ((316 : Int64)).toInt = 316 := rfl; have lt_6 : ((82 : Int64)).toInt = 82 := rfl; have lt_7 : ((84 : Int64)).toInt = 84 := rfl; have lt_8 : ((85 : Int64)).toInt = 85 := rfl; have lt_9 : ((87 : Int64)).toInt = 87 := rfl; have lt_10 : ((90 : Int64)).toInt = 90 := rfl; have lt_11 : ((91 : Int64)).toInt = 91 := rfl; have lt_12 : ((92 : Int64)).toInt = 92 := rfl; simp only [Int32.lt_iff_toInt_lt, Int64.lt_iff_toInt_lt, ← Int32.toInt_inj, ← Int64.toInt_inj] at hz hq103_12_0 hq103_12_1 hq103_12_2 hq103_12_3 hq103_12_4 hq103_12_5 hq103_12_6 hq103_12_7 hq103_12_8 hq103_12_9 hq103_12_10 hq103_12_11 hq103_12_12 hq165_9_0 hq165_9_1 hq165_9_2 hq165_9_3 hq165_9_4 hq165_9_5 hq165_9_6 hq165_9_7 hq165_9_8; omega)
      · exact absurd hq165_10_10 (by intro hz; have lt_0 : ((2 : Int64)).toInt = 2 := rfl; have lt_1 : ((257 : Int64)).toInt = 257 := rfl; have lt_2 : ((263 : Int64)).toInt = 263 := rfl; have lt_3 : ((264 : Int64)).toInt = 264 := rfl; have lt_4 : ((268 : Int64)).toInt = 268 := rfl; have lt_5 : ((316 : Int64)).toInt = 316 := rfl; have lt_6 : ((82 : Int64)).toInt = 82 := rfl; have lt_7 : ((84 : Int64)).toInt = 84 := rfl; have lt_8 : ((85 : Int64)).toInt = 85 := rfl; have lt_9 : ((87 : Int64)).toInt = 87 := rfl; have lt_10 : ((90 : Int64)).toInt = 90 := rfl; have lt_11 : ((91 : Int64)).toInt = 91 := rfl; have lt_12 : ((92 : Int64)).toInt = 92 := rfl; simp only [Int32.lt_iff_toInt_lt, Int64.lt_iff_toInt_lt, ← Int32.toInt_inj, ← Int64.toInt_inj] at hz hq103_12_0 hq103_12_1 hq103_12_2 hq103_12_3 hq103_12_4 hq103_12_5 hq103_12_6 hq103_12_7 hq103_12_8 hq103_12_9 hq103_12_10 hq103_12_11 hq103_12_12 hq165_10_0 hq165_10_1 hq165_10_2 hq165_10_3 hq165_10_4 hq165_10_5 hq165_10_6 hq165_10_7 hq165_10_8 hq165_10_9; omega)
      · exact absurd hq165_11_11 (by intro hz; have lt_0 : ((2 : Int64)).toInt = 2 := rfl; have lt_1 : ((257 : Int64)).toInt = 257 := rfl; have lt_2 : ((263 : Int64)).toInt = 263 := rfl; have lt_3 : ((264 : Int64)).toInt = 264 := rfl; have lt_4 : ((268 : Int64)).toInt = 268 := rfl; have lt_5 : ((316 : Int64)).toInt = 316 := rfl; have lt_6 : ((82 : Int64)).toInt = 82 := rfl; have lt_7 : ((84 : Int64)).toInt = 84 := rfl; have lt_8 : ((85 : Int64)).toInt = 85 := rfl; have lt_9 : ((87 : Int64)).toInt = 87 := rfl; have lt_10 : ((90 : Int64)).toInt = 90 := rfl; have lt_11 : ((91 : Int64)).toInt = 91 := rfl; have lt_12 : ((92 : Int64)).toInt = 92 := rfl; simp only [Int32.lt_iff_toInt_lt, Int64.lt_iff_toInt_lt, ← Int32.toInt_inj, ← Int64.toInt_inj] at hz hq103_12_0 hq103_12_1 hq103_12_2 hq103_12_3 hq103_12_4 hq103_12_5 hq103_12_6 hq103_12_7 hq103_12_8 hq103_12_9 hq103_12_10 hq103_12_11 hq103_12_12 hq165_11_0 hq165_11_1 hq165_11_2 hq165_11_3 hq165_11_4 hq165_11_5 hq165_11_6 hq165_11_7 hq165_11_8 hq165_11_9 hq165_11_10; omega)
      · have pre168 : ∀ t, Steps p.tables e below (T165.setTop (mkF m 39 #[.val (.long q0_), .second, .val (.int p1_), .val (.int (p1_ &&& (31 : Int32))), .val (.long q0_), .second] [(.int (1 : Int32))])) t → Steps p.tables e below (s₁.setTop (entryFrame m #[(.long q0_), (.int p1_)] maxLocals)) t := by
          intro t kt
          refine pre1 t ?_
          show Steps p.tables e below (s₁.setTop (mkF m 8 #[.val (.long q0_), .second, .val (.int p1_), .val (.int (p1_ &&& (31 : Int32))), .unset, .unset] [(.int (14 : Int32)), (.int (p1_ &&& (31 : Int32)))])) _
          refine XS.icmpYes X0.here hx rfl (pc0 := 8) (pc' := 18) rfl (hb hby at_8) rfl (flt hc2).2.1 (by decide) (by decide) ?_
          show Steps p.tables e below (s₁.setTop (mkF m 18 #[.val (.long q0_), .second, .val (.int p1_), .val (.int (p1_ &&& (31 : Int32))), .unset, .unset] [])) _
          refine XS.lloadN X0.here hx rfl (hb hby at_18) rfl ?_
          show Steps p.tables e below (s₁.setTop (mkF m 19 #[.val (.long q0_), .second, .val (.int p1_), .val (.int (p1_ &&& (31 : Int32))), .unset, .unset] [(.long q0_)])) _
          refine XS.lstore X0.here hx rfl (hb hby at_19) rfl (l' := #[.val (.long q0_), .second, .val (.int p1_), .val (.int (p1_ &&& (31 : Int32))), .val (.long q0_), .second]) rfl ?_
          show Steps p.tables e below (s₁.setTop (mkF m 21 #[.val (.long q0_), .second, .val (.int p1_), .val (.int (p1_ &&& (31 : Int32))), .val (.long q0_), .second] [])) _
          refine XS.lload X0.here hx rfl (hb hby at_21) rfl ?_
          show Steps p.tables e below (s₁.setTop (mkF m 23 #[.val (.long q0_), .second, .val (.int p1_), .val (.int (p1_ &&& (31 : Int32))), .val (.long q0_), .second] [(.long q0_)])) _
          refine st103 _ ?_
          show Steps p.tables e below (T103.setTop (mkF m 26 #[.val (.long q0_), .second, .val (.int p1_), .val (.int (p1_ &&& (31 : Int32))), .val (.long q0_), .second] [(.ref w_CHOWN)])) _
          refine XS.lload X103.here hx rfl (hb hby at_26) rfl ?_
          show Steps p.tables e below (T103.setTop (mkF m 28 #[.val (.long q0_), .second, .val (.int p1_), .val (.int (p1_ &&& (31 : Int32))), .val (.long q0_), .second] [(.long q0_), (.ref w_CHOWN)])) _
          refine st165 _ ?_
          show Steps p.tables e below (T165.setTop (mkF m 31 #[.val (.long q0_), .second, .val (.int p1_), .val (.int (p1_ &&& (31 : Int32))), .val (.long q0_), .second] [(.ref w_CHOWN), (.ref w_CHOWN)])) _
          refine Jvm.RoadKit.acmp (g := (mkF m 31 #[.val (.long q0_), .second, .val (.int p1_), .val (.int (p1_ &&& (31 : Int32))), .val (.long q0_), .second] [(.ref w_CHOWN), (.ref w_CHOWN)])) X165 hx rfl rfl rfl (pc0 := 31) (pc' := 34) (same := true) rfl (hb hby at_31) rfl (decide_eq_true rfl) (by decide) (by decide) ?_
          show Steps p.tables e below (T165.setTop (mkF m 34 #[.val (.long q0_), .second, .val (.int p1_), .val (.int (p1_ &&& (31 : Int32))), .val (.long q0_), .second] [])) _
          refine XS.iconst X165.here hx rfl (hb hby at_34) ?_
          show Steps p.tables e below (T165.setTop (mkF m 35 #[.val (.long q0_), .second, .val (.int p1_), .val (.int (p1_ &&& (31 : Int32))), .val (.long q0_), .second] [(.int (1 : Int32))])) _
          refine XS.goto X165.here hx rfl (pc0 := 35) (pc' := 39) rfl (hb hby at_35) (by decide) (by decide) ?_
          exact kt
        obtain ⟨fs, hr, hrun, hended, hW, hsame⟩ := X165.leave (v := some (.int (1 : Int32))) (fun h => by rw [Bd.returns] at h; cases h)
        refine ⟨_, _, pre168 _ (retN X165 hx (t := .boolean) Bd.returns (by simp) (hb hby at_39) hr), hrun, hended, _, _, rfl, ?_, ⟨_, rfl⟩, hW, hsame.mono (by decide) (by decide)⟩
        show QLaw Z q0_ p1_ w_OPEN w_CREAT w_OPENAT w_RENAME w_RENAMEAT w_RENAMEAT2 w_UNLINK w_UNLINKAT w_RMDIR w_CHMOD w_FCHMOD w_FCHMODAT w_CHOWN w_FCHOWNAT w__VALUES k_ h0 n0 _ T165.heap _
        rw [e165']
        exact ⟨rfl, N167⟩
      · exact absurd hq165_13_13 (by intro hz; have lt_0 : ((2 : Int64)).toInt = 2 := rfl; have lt_1 : ((257 : Int64)).toInt = 257 := rfl; have lt_2 : ((260 : Int64)).toInt = 260 := rfl; have lt_3 : ((263 : Int64)).toInt = 263 := rfl; have lt_4 : ((264 : Int64)).toInt = 264 := rfl; have lt_5 : ((268 : Int64)).toInt = 268 := rfl; have lt_6 : ((316 : Int64)).toInt = 316 := rfl; have lt_7 : ((82 : Int64)).toInt = 82 := rfl; have lt_8 : ((84 : Int64)).toInt = 84 := rfl; have lt_9 : ((85 : Int64)).toInt = 85 := rfl; have lt_10 : ((87 : Int64)).toInt = 87 := rfl; have lt_11 : ((90 : Int64)).toInt = 90 := rfl; have lt_12 : ((91 : Int64)).toInt = 91 := rfl; have lt_13 : ((92 : Int64)).toInt = 92 := rfl; simp only [Int32.lt_iff_toInt_lt, Int64.lt_iff_toInt_lt, ← Int32.toInt_inj, ← Int64.toInt_inj] at hz hq103_12_0 hq103_12_1 hq103_12_2 hq103_12_3 hq103_12_4 hq103_12_5 hq103_12_6 hq103_12_7 hq103_12_8 hq103_12_9 hq103_12_10 hq103_12_11 hq103_12_12 hq165_13_0 hq165_13_1 hq165_13_2 hq165_13_3 hq165_13_4 hq165_13_5 hq165_13_6 hq165_13_7 hq165_13_8 hq165_13_9 hq165_13_10 hq165_13_11 hq165_13_12; omega)
      · exact absurd (by apply Decidable.by_contra; intro hz; have lt_0 : ((2 : Int64)).toInt = 2 := rfl; have lt_1 : ((257 : Int64)).toInt = 257 := rfl; have lt_2 : ((263 : Int64)).toInt = 263 := rfl; have lt_3 : ((264 : Int64)).toInt = 264 := rfl; have lt_4 : ((268 : Int64)).toInt = 268 := rfl; have lt_5 : ((316 : Int64)).toInt = 316 := rfl; have lt_6 : ((82 : Int64)).toInt = 82 := rfl; have lt_7 : ((84 : Int64)).toInt = 84 := rfl; have lt_8 : ((85 : Int64)).toInt = 85 := rfl; have lt_9 : ((87 : Int64)).toInt = 87 := rfl; have lt_10 : ((90 : Int64)).toInt = 90 := rfl; have lt_11 : ((91 : Int64)).toInt = 91 := rfl; have lt_12 : ((92 : Int64)).toInt = 92 := rfl; simp only [Int32.lt_iff_toInt_lt, Int64.lt_iff_toInt_lt, ← Int32.toInt_inj, ← Int64.toInt_inj] at hz hq103_12_0 hq103_12_1 hq103_12_2 hq103_12_3 hq103_12_4 hq103_12_5 hq103_12_6 hq103_12_7 hq103_12_8 hq103_12_9 hq103_12_10 hq103_12_11 hq103_12_12 hq165_14_0 hq165_14_1 hq165_14_2 hq165_14_3 hq165_14_4 hq165_14_5 hq165_14_6 hq165_14_7 hq165_14_8 hq165_14_9 hq165_14_10 hq165_14_11; omega) hq165_14_12
    · have f171 : Old Z n0 h103 := O0.keep K103 all0
      obtain ⟨_, _, ⟨T170, L170, k170, n170⟩, -, X170, ⟨Lc170, hQ170, l170, y170, z170⟩, st170⟩ := Jvm.LawKit.callS X103 hx (y := (⟨"com/example/aeacus/aeacus/audit/SyscallOfPinLaw", "expected", "(J)Lcom/example/aeacus/aeacus/audit/Syscall;"⟩ : MethodName)) hown (mvT hZ (hw _ (List.mem_of_getElem? (i := 40) rfl))) (mvT hZ (hw _ (List.mem_of_getElem? (i := 41) rfl))) (mvT hZ (hw _ (List.mem_of_getElem? (i := 2) rfl))) (mvT hZ (hw _ (List.mem_of_getElem? (i := 42) rfl))) (by decide) (backOf (W := 1) (rmExp l Z a0 hw [] q0_ w_OPEN w_CREAT w_OPENAT w_RENAME w_RENAMEAT w_RENAMEAT2 w_UNLINK w_UNLINKAT w_RMDIR w_CHMOD w_FCHMOD w_FCHMODAT w_CHOWN w_FCHOWNAT w__VALUES k_ h103 n0 f171 P0 P1 P2 P3 P4 P5 P6 P7 P8 P9 P10 P11 P12 P13 P14 P15 P16 P17 P18 P19 P20 P21 P22 P23 P24 P25 P26 P27 P28 P29 P30 P31 P32 P33 P34 P35 P36 P37 P38 P39 P40 P41 P42 P43 P44) hZ (hw _ (List.mem_of_getElem? (i := 42) rfl)) (hw _ (List.mem_of_getElem? (i := 2) rfl)) (by decide) (by decide)) (g := (mkF m 28 #[.val (.long q0_), .second, .val (.int p1_), .val (.int (p1_ &&& (31 : Int32))), .val (.long q0_), .second] [(.long q0_), (.ref w_FCHOWNAT)])) rfl (by rw [hml]; rfl) (argsL := [(.long q0_)]) (rest := [(.ref w_FCHOWNAT)]) (lenOf pd_2 rfl) rfl (by show 2 * 0 + _ ≤ _; exact Nat.le_of_eq rfl) (hb hby at_28) (fun _ _ => ⟨rfl, e103, (by decide : 1 + 0 ≤ _), (by decide : 14 + 0 ≤ _)⟩)
      dsimp only [Pt.U, Pt.locs, Pt.cells, Pt.slots] at X170 l170 y170 z170 st170 hQ170
      subst l170 y170 z170
      obtain ⟨h170, e170⟩ : ∃ z, T170.heap = z := ⟨_, rfl⟩
      rw [e170] at hQ170
      obtain ⟨rr170, rfl, hs170, N170q, hh170⟩ := hQ170
      have N172 := Fr.app N104 N170q
      have e170' : T170.heap = h103 := e170.trans hh170
      rcases hs170 with ⟨rfl, hq170_0_0⟩ | ⟨rfl, hq170_1_0, hq170_1_1⟩ | ⟨rfl, hq170_2_0, hq170_2_1, hq170_2_2⟩ | ⟨rfl, hq170_3_0, hq170_3_1, hq170_3_2, hq170_3_3⟩ | ⟨rfl, hq170_4_0, hq170_4_1, hq170_4_2, hq170_4_3, hq170_4_4⟩ | ⟨rfl, hq170_5_0, hq170_5_1, hq170_5_2, hq170_5_3, hq170_5_4, hq170_5_5⟩ | ⟨rfl, hq170_6_0, hq170_6_1, hq170_6_2, hq170_6_3, hq170_6_4, hq170_6_5, hq170_6_6⟩ | ⟨rfl, hq170_7_0, hq170_7_1, hq170_7_2, hq170_7_3, hq170_7_4, hq170_7_5, hq170_7_6, hq170_7_7⟩ | ⟨rfl, hq170_8_0, hq170_8_1, hq170_8_2, hq170_8_3, hq170_8_4, hq170_8_5, hq170_8_6, hq170_8_7, hq170_8_8⟩ | ⟨rfl, hq170_9_0, hq170_9_1, hq170_9_2, hq170_9_3, hq170_9_4, hq170_9_5, hq170_9_6, hq170_9_7, hq170_9_8, hq170_9_9⟩ | ⟨rfl, hq170_10_0, hq170_10_1, hq170_10_2, hq170_10_3, hq170_10_4, hq170_10_5, hq170_10_6, hq170_10_7, hq170_10_8, hq170_10_9, hq170_10_10⟩ | ⟨rfl, hq170_11_0, hq170_11_1, hq170_11_2, hq170_11_3, hq170_11_4, hq170_11_5, hq170_11_6, hq170_11_7, hq170_11_8, hq170_11_9, hq170_11_10, hq170_11_11⟩ | ⟨rfl, hq170_12_0, hq170_12_1, hq170_12_2, hq170_12_3, hq170_12_4, hq170_12_5, hq170_12_6, hq170_12_7, hq170_12_8, hq170_12_9, hq170_12_10, hq170_12_11, hq170_12_12⟩ | ⟨rfl, hq170_13_0, hq170_13_1, hq170_13_2, hq170_13_3, hq170_13_4, hq170_13_5, hq170_13_6, hq170_13_7, hq170_13_8, hq170_13_9, hq170_13_10, hq170_13_11, hq170_13_12, hq170_13_13⟩ | ⟨rfl, hq170_14_0, hq170_14_1, hq170_14_2, hq170_14_3, hq170_14_4, hq170_14_5, hq170_14_6, hq170_14_7, hq170_14_8, hq170_14_9, hq170_14_10, hq170_14_11, hq170_14_12, hq170_14_13⟩
      · exact absurd hq170_0_0 (by intro hz; have lt_0 : ((2 : Int64)).toInt = 2 := rfl; have lt_1 : ((257 : Int64)).toInt = 257 := rfl; have lt_2 : ((260 : Int64)).toInt = 260 := rfl; have lt_3 : ((263 : Int64)).toInt = 263 := rfl; have lt_4 : ((264 : Int64)).toInt = 264 := rfl; have lt_5 : ((268 : Int64)).toInt = 268 := rfl; have lt_6 : ((316 : Int64)).toInt = 316 := rfl; have lt_7 : ((82 : Int64)).toInt = 82 := rfl; have lt_8 : ((84 : Int64)).toInt = 84 := rfl; have lt_9 : ((85 : Int64)).toInt = 85 := rfl; have lt_10 : ((87 : Int64)).toInt = 87 := rfl; have lt_11 : ((90 : Int64)).toInt = 90 := rfl; have lt_12 : ((91 : Int64)).toInt = 91 := rfl; have lt_13 : ((92 : Int64)).toInt = 92 := rfl; simp only [Int32.lt_iff_toInt_lt, Int64.lt_iff_toInt_lt, ← Int32.toInt_inj, ← Int64.toInt_inj] at hz hq103_13_0 hq103_13_1 hq103_13_2 hq103_13_3 hq103_13_4 hq103_13_5 hq103_13_6 hq103_13_7 hq103_13_8 hq103_13_9 hq103_13_10 hq103_13_11 hq103_13_12 hq103_13_13; omega)
      · exact absurd hq170_1_1 (by intro hz; have lt_0 : ((2 : Int64)).toInt = 2 := rfl; have lt_1 : ((257 : Int64)).toInt = 257 := rfl; have lt_2 : ((260 : Int64)).toInt = 260 := rfl; have lt_3 : ((263 : Int64)).toInt = 263 := rfl; have lt_4 : ((264 : Int64)).toInt = 264 := rfl; have lt_5 : ((268 : Int64)).toInt = 268 := rfl; have lt_6 : ((316 : Int64)).toInt = 316 := rfl; have lt_7 : ((82 : Int64)).toInt = 82 := rfl; have lt_8 : ((84 : Int64)).toInt = 84 := rfl; have lt_9 : ((85 : Int64)).toInt = 85 := rfl; have lt_10 : ((87 : Int64)).toInt = 87 := rfl; have lt_11 : ((90 : Int64)).toInt = 90 := rfl; have lt_12 : ((91 : Int64)).toInt = 91 := rfl; have lt_13 : ((92 : Int64)).toInt = 92 := rfl; simp only [Int32.lt_iff_toInt_lt, Int64.lt_iff_toInt_lt, ← Int32.toInt_inj, ← Int64.toInt_inj] at hz hq103_13_0 hq103_13_1 hq103_13_2 hq103_13_3 hq103_13_4 hq103_13_5 hq103_13_6 hq103_13_7 hq103_13_8 hq103_13_9 hq103_13_10 hq103_13_11 hq103_13_12 hq103_13_13 hq170_1_0; omega)
      · exact absurd hq170_2_2 (by intro hz; have lt_0 : ((2 : Int64)).toInt = 2 := rfl; have lt_1 : ((257 : Int64)).toInt = 257 := rfl; have lt_2 : ((260 : Int64)).toInt = 260 := rfl; have lt_3 : ((263 : Int64)).toInt = 263 := rfl; have lt_4 : ((264 : Int64)).toInt = 264 := rfl; have lt_5 : ((268 : Int64)).toInt = 268 := rfl; have lt_6 : ((316 : Int64)).toInt = 316 := rfl; have lt_7 : ((82 : Int64)).toInt = 82 := rfl; have lt_8 : ((84 : Int64)).toInt = 84 := rfl; have lt_9 : ((85 : Int64)).toInt = 85 := rfl; have lt_10 : ((87 : Int64)).toInt = 87 := rfl; have lt_11 : ((90 : Int64)).toInt = 90 := rfl; have lt_12 : ((91 : Int64)).toInt = 91 := rfl; have lt_13 : ((92 : Int64)).toInt = 92 := rfl; simp only [Int32.lt_iff_toInt_lt, Int64.lt_iff_toInt_lt, ← Int32.toInt_inj, ← Int64.toInt_inj] at hz hq103_13_0 hq103_13_1 hq103_13_2 hq103_13_3 hq103_13_4 hq103_13_5 hq103_13_6 hq103_13_7 hq103_13_8 hq103_13_9 hq103_13_10 hq103_13_11 hq103_13_12 hq103_13_13 hq170_2_0 hq170_2_1; omega)
      · exact absurd hq170_3_3 (by intro hz; have lt_0 : ((2 : Int64)).toInt = 2 := rfl; have lt_1 : ((257 : Int64)).toInt = 257 := rfl; have lt_2 : ((260 : Int64)).toInt = 260 := rfl; have lt_3 : ((263 : Int64)).toInt = 263 := rfl; have lt_4 : ((264 : Int64)).toInt = 264 := rfl; have lt_5 : ((268 : Int64)).toInt = 268 := rfl; have lt_6 : ((316 : Int64)).toInt = 316 := rfl; have lt_7 : ((82 : Int64)).toInt = 82 := rfl; have lt_8 : ((84 : Int64)).toInt = 84 := rfl; have lt_9 : ((85 : Int64)).toInt = 85 := rfl; have lt_10 : ((87 : Int64)).toInt = 87 := rfl; have lt_11 : ((90 : Int64)).toInt = 90 := rfl; have lt_12 : ((91 : Int64)).toInt = 91 := rfl; have lt_13 : ((92 : Int64)).toInt = 92 := rfl; simp only [Int32.lt_iff_toInt_lt, Int64.lt_iff_toInt_lt, ← Int32.toInt_inj, ← Int64.toInt_inj] at hz hq103_13_0 hq103_13_1 hq103_13_2 hq103_13_3 hq103_13_4 hq103_13_5 hq103_13_6 hq103_13_7 hq103_13_8 hq103_13_9 hq103_13_10 hq103_13_11 hq103_13_12 hq103_13_13 hq170_3_0 hq170_3_1 hq170_3_2; omega)
      · exact absurd hq170_4_4 (by intro hz; have lt_0 : ((2 : Int64)).toInt = 2 := rfl; have lt_1 : ((257 : Int64)).toInt = 257 := rfl; have lt_2 : ((260 : Int64)).toInt = 260 := rfl; have lt_3 : ((263 : Int64)).toInt = 263 := rfl; have lt_4 : ((264 : Int64)).toInt = 264 := rfl; have lt_5 : ((268 : Int64)).toInt = 268 := rfl; have lt_6 : ((316 : Int64)).toInt = 316 := rfl; have lt_7 : ((82 : Int64)).toInt = 82 := rfl; have lt_8 : ((84 : Int64)).toInt = 84 := rfl; have lt_9 : ((85 : Int64)).toInt = 85 := rfl; have lt_10 : ((87 : Int64)).toInt = 87 := rfl; have lt_11 : ((90 : Int64)).toInt = 90 := rfl; have lt_12 : ((91 : Int64)).toInt = 91 := rfl; have lt_13 : ((92 : Int64)).toInt = 92 := rfl; simp only [Int32.lt_iff_toInt_lt, Int64.lt_iff_toInt_lt, ← Int32.toInt_inj, ← Int64.toInt_inj] at hz hq103_13_0 hq103_13_1 hq103_13_2 hq103_13_3 hq103_13_4 hq103_13_5 hq103_13_6 hq103_13_7 hq103_13_8 hq103_13_9 hq103_13_10 hq103_13_11 hq103_13_12 hq103_13_13 hq170_4_0 hq170_4_1 hq170_4_2 hq170_4_3; omega)
      · exact absurd hq170_5_5 (by intro hz; have lt_0 : ((2 : Int64)).toInt = 2 := rfl; have lt_1 : ((257 : Int64)).toInt = 257 := rfl; have lt_2 : ((260 : Int64)).toInt = 260 := rfl; have lt_3 : ((263 : Int64)).toInt = 263 := rfl; have lt_4 : ((264 : Int64)).toInt = 264 := rfl; have lt_5 : ((268 : Int64)).toInt = 268 := rfl; have lt_6 : ((316 : Int64)).toInt = 316 := rfl; have lt_7 : ((82 : Int64)).toInt = 82 := rfl; have lt_8 : ((84 : Int64)).toInt = 84 := rfl; have lt_9 : ((85 : Int64)).toInt = 85 := rfl; have lt_10 : ((87 : Int64)).toInt = 87 := rfl; have lt_11 : ((90 : Int64)).toInt = 90 := rfl; have lt_12 : ((91 : Int64)).toInt = 91 := rfl; have lt_13 : ((92 : Int64)).toInt = 92 := rfl; simp only [Int32.lt_iff_toInt_lt, Int64.lt_iff_toInt_lt, ← Int32.toInt_inj, ← Int64.toInt_inj] at hz hq103_13_0 hq103_13_1 hq103_13_2 hq103_13_3 hq103_13_4 hq103_13_5 hq103_13_6 hq103_13_7 hq103_13_8 hq103_13_9 hq103_13_10 hq103_13_11 hq103_13_12 hq103_13_13 hq170_5_0 hq170_5_1 hq170_5_2 hq170_5_3 hq170_5_4; omega)
      · exact absurd hq170_6_6 (by intro hz; have lt_0 : ((2 : Int64)).toInt = 2 := rfl; have lt_1 : ((257 : Int64)).toInt = 257 := rfl; have lt_2 : ((260 : Int64)).toInt = 260 := rfl; have lt_3 : ((263 : Int64)).toInt = 263 := rfl; have lt_4 : ((264 : Int64)).toInt = 264 := rfl; have lt_5 : ((268 : Int64)).toInt = 268 := rfl; have lt_6 : ((316 : Int64)).toInt = 316 := rfl; have lt_7 : ((82 : Int64)).toInt = 82 := rfl; have lt_8 : ((84 : Int64)).toInt = 84 := rfl; have lt_9 : ((85 : Int64)).toInt = 85 := rfl; have lt_10 : ((87 : Int64)).toInt = 87 := rfl; have lt_11 : ((90 : Int64)).toInt = 90 := rfl; have lt_12 : ((91 : Int64)).toInt = 91 := rfl; have lt_13 : ((92 : Int64)).toInt = 92 := rfl; simp only [Int32.lt_iff_toInt_lt, Int64.lt_iff_toInt_lt, ← Int32.toInt_inj, ← Int64.toInt_inj] at hz hq103_13_0 hq103_13_1 hq103_13_2 hq103_13_3 hq103_13_4 hq103_13_5 hq103_13_6 hq103_13_7 hq103_13_8 hq103_13_9 hq103_13_10 hq103_13_11 hq103_13_12 hq103_13_13 hq170_6_0 hq170_6_1 hq170_6_2 hq170_6_3 hq170_6_4 hq170_6_5; omega)
      · exact absurd hq170_7_7 (by intro hz; have lt_0 : ((2 : Int64)).toInt = 2 := rfl; have lt_1 : ((257 : Int64)).toInt = 257 := rfl; have lt_2 : ((260 : Int64)).toInt = 260 := rfl; have lt_3 : ((263 : Int64)).toInt = 263 := rfl; have lt_4 : ((264 : Int64)).toInt = 264 := rfl; have lt_5 : ((268 : Int64)).toInt = 268 := rfl; have lt_6 : ((316 : Int64)).toInt = 316 := rfl; have lt_7 : ((82 : Int64)).toInt = 82 := rfl; have lt_8 : ((84 : Int64)).toInt = 84 := rfl; have lt_9 : ((85 : Int64)).toInt = 85 := rfl; have lt_10 : ((87 : Int64)).toInt = 87 := rfl; have lt_11 : ((90 : Int64)).toInt = 90 := rfl; have lt_12 : ((91 : Int64)).toInt = 91 := rfl; have lt_13 : ((92 : Int64)).toInt = 92 := rfl; simp only [Int32.lt_iff_toInt_lt, Int64.lt_iff_toInt_lt, ← Int32.toInt_inj, ← Int64.toInt_inj] at hz hq103_13_0 hq103_13_1 hq103_13_2 hq103_13_3 hq103_13_4 hq103_13_5 hq103_13_6 hq103_13_7 hq103_13_8 hq103_13_9 hq103_13_10 hq103_13_11 hq103_13_12 hq103_13_13 hq170_7_0 hq170_7_1 hq170_7_2 hq170_7_3 hq170_7_4 hq170_7_5 hq170_7_6; omega)
      · exact absurd hq170_8_8 (by intro hz; have lt_0 : ((2 : Int64)).toInt = 2 := rfl; have lt_1 : ((257 : Int64)).toInt = 257 := rfl; have lt_2 : ((260 : Int64)).toInt = 260 := rfl; have lt_3 : ((263 : Int64)).toInt = 263 := rfl; have lt_4 : ((264 : Int64)).toInt = 264 := rfl; have lt_5 : ((268 : Int64)).toInt = 268 := rfl; have lt_6 : ((316 : Int64)).toInt = 316 := rfl; have lt_7 : ((82 : Int64)).toInt = 82 := rfl; have lt_8 : ((84 : Int64)).toInt = 84 := rfl; have lt_9 : ((85 : Int64)).toInt = 85 := rfl; have lt_10 : ((87 : Int64)).toInt = 87 := rfl; have lt_11 : ((90 : Int64)).toInt = 90 := rfl; have lt_12 : ((91 : Int64)).toInt = 91 := rfl; have lt_13 : ((92 : Int64)).toInt = 92 := rfl; simp only [Int32.lt_iff_toInt_lt, Int64.lt_iff_toInt_lt, ← Int32.toInt_inj, ← Int64.toInt_inj] at hz hq103_13_0 hq103_13_1 hq103_13_2 hq103_13_3 hq103_13_4 hq103_13_5 hq103_13_6 hq103_13_7 hq103_13_8 hq103_13_9 hq103_13_10 hq103_13_11 hq103_13_12 hq103_13_13 hq170_8_0 hq170_8_1 hq170_8_2 hq170_8_3 hq170_8_4 hq170_8_5 hq170_8_6 hq170_8_7; omega)
      · exact absurd hq170_9_9 (by intro hz; have lt_0 : ((2 : Int64)).toInt = 2 := rfl; have lt_1 : ((257 : Int64)).toInt = 257 := rfl; have lt_2 : ((260 : Int64)).toInt = 260 := rfl; have lt_3 : ((263 : Int64)).toInt = 263 := rfl; have lt_4 : ((264 : Int64)).toInt = 264 := rfl; have lt_5 : ((268 : Int64)).toInt = 268 := rfl; have lt_6 : ((316 : Int64)).toInt = 316 := rfl; have lt_7 : ((82 : Int64)).toInt = 82 := rfl; have lt_8 : ((84 : Int64)).toInt = 84 := rfl; have lt_9 : ((85 : Int64)).toInt = 85 := rfl; have lt_10 : ((87 : Int64)).toInt = 87 := rfl; have lt_11 : ((90 : Int64)).toInt = 90 := rfl; have lt_12 : ((91 : Int64)).toInt = 91 := rfl; have lt_13 : ((92 : Int64)).toInt = 92 := rfl; simp only [Int32.lt_iff_toInt_lt, Int64.lt_iff_toInt_lt, ← Int32.toInt_inj, ← Int64.toInt_inj] at hz hq103_13_0 hq103_13_1 hq103_13_2 hq103_13_3 hq103_13_4 hq103_13_5 hq103_13_6 hq103_13_7 hq103_13_8 hq103_13_9 hq103_13_10 hq103_13_11 hq103_13_12 hq103_13_13 hq170_9_0 hq170_9_1 hq170_9_2 hq170_9_3 hq170_9_4 hq170_9_5 hq170_9_6 hq170_9_7 hq170_9_8; omega)
      · exact absurd hq170_10_10 (by intro hz; have lt_0 : ((2 : Int64)).toInt = 2 := rfl; have lt_1 : ((257 : Int64)).toInt = 257 := rfl; have lt_2 : ((260 : Int64)).toInt = 260 := rfl; have lt_3 : ((263 : Int64)).toInt = 263 := rfl; have lt_4 : ((264 : Int64)).toInt = 264 := rfl; have lt_5 : ((268 : Int64)).toInt = 268 := rfl; have lt_6 : ((316 : Int64)).toInt = 316 := rfl; have lt_7 : ((82 : Int64)).toInt = 82 := rfl; have lt_8 : ((84 : Int64)).toInt = 84 := rfl; have lt_9 : ((85 : Int64)).toInt = 85 := rfl; have lt_10 : ((87 : Int64)).toInt = 87 := rfl; have lt_11 : ((90 : Int64)).toInt = 90 := rfl; have lt_12 : ((91 : Int64)).toInt = 91 := rfl; have lt_13 : ((92 : Int64)).toInt = 92 := rfl; simp only [Int32.lt_iff_toInt_lt, Int64.lt_iff_toInt_lt, ← Int32.toInt_inj, ← Int64.toInt_inj] at hz hq103_13_0 hq103_13_1 hq103_13_2 hq103_13_3 hq103_13_4 hq103_13_5 hq103_13_6 hq103_13_7 hq103_13_8 hq103_13_9 hq103_13_10 hq103_13_11 hq103_13_12 hq103_13_13 hq170_10_0 hq170_10_1 hq170_10_2 hq170_10_3 hq170_10_4 hq170_10_5 hq170_10_6 hq170_10_7 hq170_10_8 hq170_10_9; omega)
      · exact absurd hq170_11_11 (by intro hz; have lt_0 : ((2 : Int64)).toInt = 2 := rfl; have lt_1 : ((257 : Int64)).toInt = 257 := rfl; have lt_2 : ((260 : Int64)).toInt = 260 := rfl; have lt_3 : ((263 : Int64)).toInt = 263 := rfl; have lt_4 : ((264 : Int64)).toInt = 264 := rfl; have lt_5 : ((268 : Int64)).toInt = 268 := rfl; have lt_6 : ((316 : Int64)).toInt = 316 := rfl; have lt_7 : ((82 : Int64)).toInt = 82 := rfl; have lt_8 : ((84 : Int64)).toInt = 84 := rfl; have lt_9 : ((85 : Int64)).toInt = 85 := rfl; have lt_10 : ((87 : Int64)).toInt = 87 := rfl; have lt_11 : ((90 : Int64)).toInt = 90 := rfl; have lt_12 : ((91 : Int64)).toInt = 91 := rfl; have lt_13 : ((92 : Int64)).toInt = 92 := rfl; simp only [Int32.lt_iff_toInt_lt, Int64.lt_iff_toInt_lt, ← Int32.toInt_inj, ← Int64.toInt_inj] at hz hq103_13_0 hq103_13_1 hq103_13_2 hq103_13_3 hq103_13_4 hq103_13_5 hq103_13_6 hq103_13_7 hq103_13_8 hq103_13_9 hq103_13_10 hq103_13_11 hq103_13_12 hq103_13_13 hq170_11_0 hq170_11_1 hq170_11_2 hq170_11_3 hq170_11_4 hq170_11_5 hq170_11_6 hq170_11_7 hq170_11_8 hq170_11_9 hq170_11_10; omega)
      · exact absurd hq170_12_12 (by intro hz; have lt_0 : ((2 : Int64)).toInt = 2 := rfl; have lt_1 : ((257 : Int64)).toInt = 257 := rfl; have lt_2 : ((260 : Int64)).toInt = 260 := rfl; have lt_3 : ((263 : Int64)).toInt = 263 := rfl; have lt_4 : ((264 : Int64)).toInt = 264 := rfl; have lt_5 : ((268 : Int64)).toInt = 268 := rfl; have lt_6 : ((316 : Int64)).toInt = 316 := rfl; have lt_7 : ((82 : Int64)).toInt = 82 := rfl; have lt_8 : ((84 : Int64)).toInt = 84 := rfl; have lt_9 : ((85 : Int64)).toInt = 85 := rfl; have lt_10 : ((87 : Int64)).toInt = 87 := rfl; have lt_11 : ((90 : Int64)).toInt = 90 := rfl; have lt_12 : ((91 : Int64)).toInt = 91 := rfl; have lt_13 : ((92 : Int64)).toInt = 92 := rfl; simp only [Int32.lt_iff_toInt_lt, Int64.lt_iff_toInt_lt, ← Int32.toInt_inj, ← Int64.toInt_inj] at hz hq103_13_0 hq103_13_1 hq103_13_2 hq103_13_3 hq103_13_4 hq103_13_5 hq103_13_6 hq103_13_7 hq103_13_8 hq103_13_9 hq103_13_10 hq103_13_11 hq103_13_12 hq103_13_13 hq170_12_0 hq170_12_1 hq170_12_2 hq170_12_3 hq170_12_4 hq170_12_5 hq170_12_6 hq170_12_7 hq170_12_8 hq170_12_9 hq170_12_10 hq170_12_11; omega)
      · have pre173 : ∀ t, Steps p.tables e below (T170.setTop (mkF m 39 #[.val (.long q0_), .second, .val (.int p1_), .val (.int (p1_ &&& (31 : Int32))), .val (.long q0_), .second] [(.int (1 : Int32))])) t → Steps p.tables e below (s₁.setTop (entryFrame m #[(.long q0_), (.int p1_)] maxLocals)) t := by
          intro t kt
          refine pre1 t ?_
          show Steps p.tables e below (s₁.setTop (mkF m 8 #[.val (.long q0_), .second, .val (.int p1_), .val (.int (p1_ &&& (31 : Int32))), .unset, .unset] [(.int (14 : Int32)), (.int (p1_ &&& (31 : Int32)))])) _
          refine XS.icmpYes X0.here hx rfl (pc0 := 8) (pc' := 18) rfl (hb hby at_8) rfl (flt hc2).2.1 (by decide) (by decide) ?_
          show Steps p.tables e below (s₁.setTop (mkF m 18 #[.val (.long q0_), .second, .val (.int p1_), .val (.int (p1_ &&& (31 : Int32))), .unset, .unset] [])) _
          refine XS.lloadN X0.here hx rfl (hb hby at_18) rfl ?_
          show Steps p.tables e below (s₁.setTop (mkF m 19 #[.val (.long q0_), .second, .val (.int p1_), .val (.int (p1_ &&& (31 : Int32))), .unset, .unset] [(.long q0_)])) _
          refine XS.lstore X0.here hx rfl (hb hby at_19) rfl (l' := #[.val (.long q0_), .second, .val (.int p1_), .val (.int (p1_ &&& (31 : Int32))), .val (.long q0_), .second]) rfl ?_
          show Steps p.tables e below (s₁.setTop (mkF m 21 #[.val (.long q0_), .second, .val (.int p1_), .val (.int (p1_ &&& (31 : Int32))), .val (.long q0_), .second] [])) _
          refine XS.lload X0.here hx rfl (hb hby at_21) rfl ?_
          show Steps p.tables e below (s₁.setTop (mkF m 23 #[.val (.long q0_), .second, .val (.int p1_), .val (.int (p1_ &&& (31 : Int32))), .val (.long q0_), .second] [(.long q0_)])) _
          refine st103 _ ?_
          show Steps p.tables e below (T103.setTop (mkF m 26 #[.val (.long q0_), .second, .val (.int p1_), .val (.int (p1_ &&& (31 : Int32))), .val (.long q0_), .second] [(.ref w_FCHOWNAT)])) _
          refine XS.lload X103.here hx rfl (hb hby at_26) rfl ?_
          show Steps p.tables e below (T103.setTop (mkF m 28 #[.val (.long q0_), .second, .val (.int p1_), .val (.int (p1_ &&& (31 : Int32))), .val (.long q0_), .second] [(.long q0_), (.ref w_FCHOWNAT)])) _
          refine st170 _ ?_
          show Steps p.tables e below (T170.setTop (mkF m 31 #[.val (.long q0_), .second, .val (.int p1_), .val (.int (p1_ &&& (31 : Int32))), .val (.long q0_), .second] [(.ref w_FCHOWNAT), (.ref w_FCHOWNAT)])) _
          refine Jvm.RoadKit.acmp (g := (mkF m 31 #[.val (.long q0_), .second, .val (.int p1_), .val (.int (p1_ &&& (31 : Int32))), .val (.long q0_), .second] [(.ref w_FCHOWNAT), (.ref w_FCHOWNAT)])) X170 hx rfl rfl rfl (pc0 := 31) (pc' := 34) (same := true) rfl (hb hby at_31) rfl (decide_eq_true rfl) (by decide) (by decide) ?_
          show Steps p.tables e below (T170.setTop (mkF m 34 #[.val (.long q0_), .second, .val (.int p1_), .val (.int (p1_ &&& (31 : Int32))), .val (.long q0_), .second] [])) _
          refine XS.iconst X170.here hx rfl (hb hby at_34) ?_
          show Steps p.tables e below (T170.setTop (mkF m 35 #[.val (.long q0_), .second, .val (.int p1_), .val (.int (p1_ &&& (31 : Int32))), .val (.long q0_), .second] [(.int (1 : Int32))])) _
          refine XS.goto X170.here hx rfl (pc0 := 35) (pc' := 39) rfl (hb hby at_35) (by decide) (by decide) ?_
          exact kt
        obtain ⟨fs, hr, hrun, hended, hW, hsame⟩ := X170.leave (v := some (.int (1 : Int32))) (fun h => by rw [Bd.returns] at h; cases h)
        refine ⟨_, _, pre173 _ (retN X170 hx (t := .boolean) Bd.returns (by simp) (hb hby at_39) hr), hrun, hended, _, _, rfl, ?_, ⟨_, rfl⟩, hW, hsame.mono (by decide) (by decide)⟩
        show QLaw Z q0_ p1_ w_OPEN w_CREAT w_OPENAT w_RENAME w_RENAMEAT w_RENAMEAT2 w_UNLINK w_UNLINKAT w_RMDIR w_CHMOD w_FCHMOD w_FCHMODAT w_CHOWN w_FCHOWNAT w__VALUES k_ h0 n0 _ T170.heap _
        rw [e170']
        exact ⟨rfl, N172⟩
      · exact absurd (by apply Decidable.by_contra; intro hz; have lt_0 : ((2 : Int64)).toInt = 2 := rfl; have lt_1 : ((257 : Int64)).toInt = 257 := rfl; have lt_2 : ((260 : Int64)).toInt = 260 := rfl; have lt_3 : ((263 : Int64)).toInt = 263 := rfl; have lt_4 : ((264 : Int64)).toInt = 264 := rfl; have lt_5 : ((268 : Int64)).toInt = 268 := rfl; have lt_6 : ((316 : Int64)).toInt = 316 := rfl; have lt_7 : ((82 : Int64)).toInt = 82 := rfl; have lt_8 : ((84 : Int64)).toInt = 84 := rfl; have lt_9 : ((85 : Int64)).toInt = 85 := rfl; have lt_10 : ((87 : Int64)).toInt = 87 := rfl; have lt_11 : ((90 : Int64)).toInt = 90 := rfl; have lt_12 : ((91 : Int64)).toInt = 91 := rfl; have lt_13 : ((92 : Int64)).toInt = 92 := rfl; simp only [Int32.lt_iff_toInt_lt, Int64.lt_iff_toInt_lt, ← Int32.toInt_inj, ← Int64.toInt_inj] at hz hq103_13_0 hq103_13_1 hq103_13_2 hq103_13_3 hq103_13_4 hq103_13_5 hq103_13_6 hq103_13_7 hq103_13_8 hq103_13_9 hq103_13_10 hq103_13_11 hq103_13_12 hq103_13_13 hq170_14_0 hq170_14_1 hq170_14_2 hq170_14_3 hq170_14_4 hq170_14_5 hq170_14_6 hq170_14_7 hq170_14_8 hq170_14_9 hq170_14_10 hq170_14_11 hq170_14_12; omega) hq170_14_13
    · have f176 : Old Z n0 h103 := O0.keep K103 all0
      obtain ⟨_, _, ⟨T175, L175, k175, n175⟩, -, X175, ⟨Lc175, hQ175, l175, y175, z175⟩, st175⟩ := Jvm.LawKit.callS X103 hx (y := (⟨"com/example/aeacus/aeacus/audit/SyscallOfPinLaw", "expected", "(J)Lcom/example/aeacus/aeacus/audit/Syscall;"⟩ : MethodName)) hown (mvT hZ (hw _ (List.mem_of_getElem? (i := 40) rfl))) (mvT hZ (hw _ (List.mem_of_getElem? (i := 41) rfl))) (mvT hZ (hw _ (List.mem_of_getElem? (i := 2) rfl))) (mvT hZ (hw _ (List.mem_of_getElem? (i := 42) rfl))) (by decide) (backOf (W := 1) (rmExp l Z a0 hw [] q0_ w_OPEN w_CREAT w_OPENAT w_RENAME w_RENAMEAT w_RENAMEAT2 w_UNLINK w_UNLINKAT w_RMDIR w_CHMOD w_FCHMOD w_FCHMODAT w_CHOWN w_FCHOWNAT w__VALUES k_ h103 n0 f176 P0 P1 P2 P3 P4 P5 P6 P7 P8 P9 P10 P11 P12 P13 P14 P15 P16 P17 P18 P19 P20 P21 P22 P23 P24 P25 P26 P27 P28 P29 P30 P31 P32 P33 P34 P35 P36 P37 P38 P39 P40 P41 P42 P43 P44) hZ (hw _ (List.mem_of_getElem? (i := 42) rfl)) (hw _ (List.mem_of_getElem? (i := 2) rfl)) (by decide) (by decide)) (g := (mkF m 28 #[.val (.long q0_), .second, .val (.int p1_), .val (.int (p1_ &&& (31 : Int32))), .val (.long q0_), .second] [(.long q0_), .null])) rfl (by rw [hml]; rfl) (argsL := [(.long q0_)]) (rest := [.null]) (lenOf pd_2 rfl) rfl (by show 2 * 0 + _ ≤ _; exact Nat.le_of_eq rfl) (hb hby at_28) (fun _ _ => ⟨rfl, e103, (by decide : 1 + 0 ≤ _), (by decide : 14 + 0 ≤ _)⟩)
      dsimp only [Pt.U, Pt.locs, Pt.cells, Pt.slots] at X175 l175 y175 z175 st175 hQ175
      subst l175 y175 z175
      obtain ⟨h175, e175⟩ : ∃ z, T175.heap = z := ⟨_, rfl⟩
      rw [e175] at hQ175
      obtain ⟨rr175, rfl, hs175, N175q, hh175⟩ := hQ175
      have N177 := Fr.app N104 N175q
      have e175' : T175.heap = h103 := e175.trans hh175
      rcases hs175 with ⟨rfl, hq175_0_0⟩ | ⟨rfl, hq175_1_0, hq175_1_1⟩ | ⟨rfl, hq175_2_0, hq175_2_1, hq175_2_2⟩ | ⟨rfl, hq175_3_0, hq175_3_1, hq175_3_2, hq175_3_3⟩ | ⟨rfl, hq175_4_0, hq175_4_1, hq175_4_2, hq175_4_3, hq175_4_4⟩ | ⟨rfl, hq175_5_0, hq175_5_1, hq175_5_2, hq175_5_3, hq175_5_4, hq175_5_5⟩ | ⟨rfl, hq175_6_0, hq175_6_1, hq175_6_2, hq175_6_3, hq175_6_4, hq175_6_5, hq175_6_6⟩ | ⟨rfl, hq175_7_0, hq175_7_1, hq175_7_2, hq175_7_3, hq175_7_4, hq175_7_5, hq175_7_6, hq175_7_7⟩ | ⟨rfl, hq175_8_0, hq175_8_1, hq175_8_2, hq175_8_3, hq175_8_4, hq175_8_5, hq175_8_6, hq175_8_7, hq175_8_8⟩ | ⟨rfl, hq175_9_0, hq175_9_1, hq175_9_2, hq175_9_3, hq175_9_4, hq175_9_5, hq175_9_6, hq175_9_7, hq175_9_8, hq175_9_9⟩ | ⟨rfl, hq175_10_0, hq175_10_1, hq175_10_2, hq175_10_3, hq175_10_4, hq175_10_5, hq175_10_6, hq175_10_7, hq175_10_8, hq175_10_9, hq175_10_10⟩ | ⟨rfl, hq175_11_0, hq175_11_1, hq175_11_2, hq175_11_3, hq175_11_4, hq175_11_5, hq175_11_6, hq175_11_7, hq175_11_8, hq175_11_9, hq175_11_10, hq175_11_11⟩ | ⟨rfl, hq175_12_0, hq175_12_1, hq175_12_2, hq175_12_3, hq175_12_4, hq175_12_5, hq175_12_6, hq175_12_7, hq175_12_8, hq175_12_9, hq175_12_10, hq175_12_11, hq175_12_12⟩ | ⟨rfl, hq175_13_0, hq175_13_1, hq175_13_2, hq175_13_3, hq175_13_4, hq175_13_5, hq175_13_6, hq175_13_7, hq175_13_8, hq175_13_9, hq175_13_10, hq175_13_11, hq175_13_12, hq175_13_13⟩ | ⟨rfl, hq175_14_0, hq175_14_1, hq175_14_2, hq175_14_3, hq175_14_4, hq175_14_5, hq175_14_6, hq175_14_7, hq175_14_8, hq175_14_9, hq175_14_10, hq175_14_11, hq175_14_12, hq175_14_13⟩
      · exact absurd hq175_0_0 (by intro hz; have lt_0 : ((2 : Int64)).toInt = 2 := rfl; have lt_1 : ((257 : Int64)).toInt = 257 := rfl; have lt_2 : ((260 : Int64)).toInt = 260 := rfl; have lt_3 : ((263 : Int64)).toInt = 263 := rfl; have lt_4 : ((264 : Int64)).toInt = 264 := rfl; have lt_5 : ((268 : Int64)).toInt = 268 := rfl; have lt_6 : ((316 : Int64)).toInt = 316 := rfl; have lt_7 : ((82 : Int64)).toInt = 82 := rfl; have lt_8 : ((84 : Int64)).toInt = 84 := rfl; have lt_9 : ((85 : Int64)).toInt = 85 := rfl; have lt_10 : ((87 : Int64)).toInt = 87 := rfl; have lt_11 : ((90 : Int64)).toInt = 90 := rfl; have lt_12 : ((91 : Int64)).toInt = 91 := rfl; have lt_13 : ((92 : Int64)).toInt = 92 := rfl; simp only [Int32.lt_iff_toInt_lt, Int64.lt_iff_toInt_lt, ← Int32.toInt_inj, ← Int64.toInt_inj] at hz hq103_14_0 hq103_14_1 hq103_14_2 hq103_14_3 hq103_14_4 hq103_14_5 hq103_14_6 hq103_14_7 hq103_14_8 hq103_14_9 hq103_14_10 hq103_14_11 hq103_14_12 hq103_14_13; omega)
      · exact absurd hq175_1_1 (by intro hz; have lt_0 : ((2 : Int64)).toInt = 2 := rfl; have lt_1 : ((257 : Int64)).toInt = 257 := rfl; have lt_2 : ((260 : Int64)).toInt = 260 := rfl; have lt_3 : ((263 : Int64)).toInt = 263 := rfl; have lt_4 : ((264 : Int64)).toInt = 264 := rfl; have lt_5 : ((268 : Int64)).toInt = 268 := rfl; have lt_6 : ((316 : Int64)).toInt = 316 := rfl; have lt_7 : ((82 : Int64)).toInt = 82 := rfl; have lt_8 : ((84 : Int64)).toInt = 84 := rfl; have lt_9 : ((85 : Int64)).toInt = 85 := rfl; have lt_10 : ((87 : Int64)).toInt = 87 := rfl; have lt_11 : ((90 : Int64)).toInt = 90 := rfl; have lt_12 : ((91 : Int64)).toInt = 91 := rfl; have lt_13 : ((92 : Int64)).toInt = 92 := rfl; simp only [Int32.lt_iff_toInt_lt, Int64.lt_iff_toInt_lt, ← Int32.toInt_inj, ← Int64.toInt_inj] at hz hq103_14_0 hq103_14_1 hq103_14_2 hq103_14_3 hq103_14_4 hq103_14_5 hq103_14_6 hq103_14_7 hq103_14_8 hq103_14_9 hq103_14_10 hq103_14_11 hq103_14_12 hq103_14_13 hq175_1_0; omega)
      · exact absurd hq175_2_2 (by intro hz; have lt_0 : ((2 : Int64)).toInt = 2 := rfl; have lt_1 : ((257 : Int64)).toInt = 257 := rfl; have lt_2 : ((260 : Int64)).toInt = 260 := rfl; have lt_3 : ((263 : Int64)).toInt = 263 := rfl; have lt_4 : ((264 : Int64)).toInt = 264 := rfl; have lt_5 : ((268 : Int64)).toInt = 268 := rfl; have lt_6 : ((316 : Int64)).toInt = 316 := rfl; have lt_7 : ((82 : Int64)).toInt = 82 := rfl; have lt_8 : ((84 : Int64)).toInt = 84 := rfl; have lt_9 : ((85 : Int64)).toInt = 85 := rfl; have lt_10 : ((87 : Int64)).toInt = 87 := rfl; have lt_11 : ((90 : Int64)).toInt = 90 := rfl; have lt_12 : ((91 : Int64)).toInt = 91 := rfl; have lt_13 : ((92 : Int64)).toInt = 92 := rfl; simp only [Int32.lt_iff_toInt_lt, Int64.lt_iff_toInt_lt, ← Int32.toInt_inj, ← Int64.toInt_inj] at hz hq103_14_0 hq103_14_1 hq103_14_2 hq103_14_3 hq103_14_4 hq103_14_5 hq103_14_6 hq103_14_7 hq103_14_8 hq103_14_9 hq103_14_10 hq103_14_11 hq103_14_12 hq103_14_13 hq175_2_0 hq175_2_1; omega)
      · exact absurd hq175_3_3 (by intro hz; have lt_0 : ((2 : Int64)).toInt = 2 := rfl; have lt_1 : ((257 : Int64)).toInt = 257 := rfl; have lt_2 : ((260 : Int64)).toInt = 260 := rfl; have lt_3 : ((263 : Int64)).toInt = 263 := rfl; have lt_4 : ((264 : Int64)).toInt = 264 := rfl; have lt_5 : ((268 : Int64)).toInt = 268 := rfl; have lt_6 : ((316 : Int64)).toInt = 316 := rfl; have lt_7 : ((82 : Int64)).toInt = 82 := rfl; have lt_8 : ((84 : Int64)).toInt = 84 := rfl; have lt_9 : ((85 : Int64)).toInt = 85 := rfl; have lt_10 : ((87 : Int64)).toInt = 87 := rfl; have lt_11 : ((90 : Int64)).toInt = 90 := rfl; have lt_12 : ((91 : Int64)).toInt = 91 := rfl; have lt_13 : ((92 : Int64)).toInt = 92 := rfl; simp only [Int32.lt_iff_toInt_lt, Int64.lt_iff_toInt_lt, ← Int32.toInt_inj, ← Int64.toInt_inj] at hz hq103_14_0 hq103_14_1 hq103_14_2 hq103_14_3 hq103_14_4 hq103_14_5 hq103_14_6 hq103_14_7 hq103_14_8 hq103_14_9 hq103_14_10 hq103_14_11 hq103_14_12 hq103_14_13 hq175_3_0 hq175_3_1 hq175_3_2; omega)
      · exact absurd hq175_4_4 (by intro hz; have lt_0 : ((2 : Int64)).toInt = 2 := rfl; have lt_1 : ((257 : Int64)).toInt = 257 := rfl; have lt_2 : ((260 : Int64)).toInt = 260 := rfl; have lt_3 : ((263 : Int64)).toInt = 263 := rfl; have lt_4 : ((264 : Int64)).toInt = 264 := rfl; have lt_5 : ((268 : Int64)).toInt = 268 := rfl; have lt_6 : ((316 : Int64)).toInt = 316 := rfl; have lt_7 : ((82 : Int64)).toInt = 82 := rfl; have lt_8 : ((84 : Int64)).toInt = 84 := rfl; have lt_9 : ((85 : Int64)).toInt = 85 := rfl; have lt_10 : ((87 : Int64)).toInt = 87 := rfl; have lt_11 : ((90 : Int64)).toInt = 90 := rfl; have lt_12 : ((91 : Int64)).toInt = 91 := rfl; have lt_13 : ((92 : Int64)).toInt = 92 := rfl; simp only [Int32.lt_iff_toInt_lt, Int64.lt_iff_toInt_lt, ← Int32.toInt_inj, ← Int64.toInt_inj] at hz hq103_14_0 hq103_14_1 hq103_14_2 hq103_14_3 hq103_14_4 hq103_14_5 hq103_14_6 hq103_14_7 hq103_14_8 hq103_14_9 hq103_14_10 hq103_14_11 hq103_14_12 hq103_14_13 hq175_4_0 hq175_4_1 hq175_4_2 hq175_4_3; omega)
      · exact absurd hq175_5_5 (by intro hz; have lt_0 : ((2 : Int64)).toInt = 2 := rfl; have lt_1 : ((257 : Int64)).toInt = 257 := rfl; have lt_2 : ((260 : Int64)).toInt = 260 := rfl; have lt_3 : ((263 : Int64)).toInt = 263 := rfl; have lt_4 : ((264 : Int64)).toInt = 264 := rfl; have lt_5 : ((268 : Int64)).toInt = 268 := rfl; have lt_6 : ((316 : Int64)).toInt = 316 := rfl; have lt_7 : ((82 : Int64)).toInt = 82 := rfl; have lt_8 : ((84 : Int64)).toInt = 84 := rfl; have lt_9 : ((85 : Int64)).toInt = 85 := rfl; have lt_10 : ((87 : Int64)).toInt = 87 := rfl; have lt_11 : ((90 : Int64)).toInt = 90 := rfl; have lt_12 : ((91 : Int64)).toInt = 91 := rfl; have lt_13 : ((92 : Int64)).toInt = 92 := rfl; simp only [Int32.lt_iff_toInt_lt, Int64.lt_iff_toInt_lt, ← Int32.toInt_inj, ← Int64.toInt_inj] at hz hq103_14_0 hq103_14_1 hq103_14_2 hq103_14_3 hq103_14_4 hq103_14_5 hq103_14_6 hq103_14_7 hq103_14_8 hq103_14_9 hq103_14_10 hq103_14_11 hq103_14_12 hq103_14_13 hq175_5_0 hq175_5_1 hq175_5_2 hq175_5_3 hq175_5_4; omega)
      · exact absurd hq175_6_6 (by intro hz; have lt_0 : ((2 : Int64)).toInt = 2 := rfl; have lt_1 : ((257 : Int64)).toInt = 257 := rfl; have lt_2 : ((260 : Int64)).toInt = 260 := rfl; have lt_3 : ((263 : Int64)).toInt = 263 := rfl; have lt_4 : ((264 : Int64)).toInt = 264 := rfl; have lt_5 : ((268 : Int64)).toInt = 268 := rfl; have lt_6 : ((316 : Int64)).toInt = 316 := rfl; have lt_7 : ((82 : Int64)).toInt = 82 := rfl; have lt_8 : ((84 : Int64)).toInt = 84 := rfl; have lt_9 : ((85 : Int64)).toInt = 85 := rfl; have lt_10 : ((87 : Int64)).toInt = 87 := rfl; have lt_11 : ((90 : Int64)).toInt = 90 := rfl; have lt_12 : ((91 : Int64)).toInt = 91 := rfl; have lt_13 : ((92 : Int64)).toInt = 92 := rfl; simp only [Int32.lt_iff_toInt_lt, Int64.lt_iff_toInt_lt, ← Int32.toInt_inj, ← Int64.toInt_inj] at hz hq103_14_0 hq103_14_1 hq103_14_2 hq103_14_3 hq103_14_4 hq103_14_5 hq103_14_6 hq103_14_7 hq103_14_8 hq103_14_9 hq103_14_10 hq103_14_11 hq103_14_12 hq103_14_13 hq175_6_0 hq175_6_1 hq175_6_2 hq175_6_3 hq175_6_4 hq175_6_5; omega)
      · exact absurd hq175_7_7 (by intro hz; have lt_0 : ((2 : Int64)).toInt = 2 := rfl; have lt_1 : ((257 : Int64)).toInt = 257 := rfl; have lt_2 : ((260 : Int64)).toInt = 260 := rfl; have lt_3 : ((263 : Int64)).toInt = 263 := rfl; have lt_4 : ((264 : Int64)).toInt = 264 := rfl; have lt_5 : ((268 : Int64)).toInt = 268 := rfl; have lt_6 : ((316 : Int64)).toInt = 316 := rfl; have lt_7 : ((82 : Int64)).toInt = 82 := rfl; have lt_8 : ((84 : Int64)).toInt = 84 := rfl; have lt_9 : ((85 : Int64)).toInt = 85 := rfl; have lt_10 : ((87 : Int64)).toInt = 87 := rfl; have lt_11 : ((90 : Int64)).toInt = 90 := rfl; have lt_12 : ((91 : Int64)).toInt = 91 := rfl; have lt_13 : ((92 : Int64)).toInt = 92 := rfl; simp only [Int32.lt_iff_toInt_lt, Int64.lt_iff_toInt_lt, ← Int32.toInt_inj, ← Int64.toInt_inj] at hz hq103_14_0 hq103_14_1 hq103_14_2 hq103_14_3 hq103_14_4 hq103_14_5 hq103_14_6 hq103_14_7 hq103_14_8 hq103_14_9 hq103_14_10 hq103_14_11 hq103_14_12 hq103_14_13 hq175_7_0 hq175_7_1 hq175_7_2 hq175_7_3 hq175_7_4 hq175_7_5 hq175_7_6; omega)
      · exact absurd hq175_8_8 (by intro hz; have lt_0 : ((2 : Int64)).toInt = 2 := rfl; have lt_1 : ((257 : Int64)).toInt = 257 := rfl; have lt_2 : ((260 : Int64)).toInt = 260 := rfl; have lt_3 : ((263 : Int64)).toInt = 263 := rfl; have lt_4 : ((264 : Int64)).toInt = 264 := rfl; have lt_5 : ((268 : Int64)).toInt = 268 := rfl; have lt_6 : ((316 : Int64)).toInt = 316 := rfl; have lt_7 : ((82 : Int64)).toInt = 82 := rfl; have lt_8 : ((84 : Int64)).toInt = 84 := rfl; have lt_9 : ((85 : Int64)).toInt = 85 := rfl; have lt_10 : ((87 : Int64)).toInt = 87 := rfl; have lt_11 : ((90 : Int64)).toInt = 90 := rfl; have lt_12 : ((91 : Int64)).toInt = 91 := rfl; have lt_13 : ((92 : Int64)).toInt = 92 := rfl; simp only [Int32.lt_iff_toInt_lt, Int64.lt_iff_toInt_lt, ← Int32.toInt_inj, ← Int64.toInt_inj] at hz hq103_14_0 hq103_14_1 hq103_14_2 hq103_14_3 hq103_14_4 hq103_14_5 hq103_14_6 hq103_14_7 hq103_14_8 hq103_14_9 hq103_14_10 hq103_14_11 hq103_14_12 hq103_14_13 hq175_8_0 hq175_8_1 hq175_8_2 hq175_8_3 hq175_8_4 hq175_8_5 hq175_8_6 hq175_8_7; omega)
      · exact absurd hq175_9_9 (by intro hz; have lt_0 : ((2 : Int64)).toInt = 2 := rfl; have lt_1 : ((257 : Int64)).toInt = 257 := rfl; have lt_2 : ((260 : Int64)).toInt = 260 := rfl; have lt_3 : ((263 : Int64)).toInt = 263 := rfl; have lt_4 : ((264 : Int64)).toInt = 264 := rfl; have lt_5 : ((268 : Int64)).toInt = 268 := rfl; have lt_6 : ((316 : Int64)).toInt = 316 := rfl; have lt_7 : ((82 : Int64)).toInt = 82 := rfl; have lt_8 : ((84 : Int64)).toInt = 84 := rfl; have lt_9 : ((85 : Int64)).toInt = 85 := rfl; have lt_10 : ((87 : Int64)).toInt = 87 := rfl; have lt_11 : ((90 : Int64)).toInt = 90 := rfl; have lt_12 : ((91 : Int64)).toInt = 91 := rfl; have lt_13 : ((92 : Int64)).toInt = 92 := rfl; simp only [Int32.lt_iff_toInt_lt, Int64.lt_iff_toInt_lt, ← Int32.toInt_inj, ← Int64.toInt_inj] at hz hq103_14_0 hq103_14_1 hq103_14_2 hq103_14_3 hq103_14_4 hq103_14_5 hq103_14_6 hq103_14_7 hq103_14_8 hq103_14_9 hq103_14_10 hq103_14_11 hq103_14_12 hq103_14_13 hq175_9_0 hq175_9_1 hq175_9_2 hq175_9_3 hq175_9_4 hq175_9_5 hq175_9_6 hq175_9_7 hq175_9_8; omega)
      · exact absurd hq175_10_10 (by intro hz; have lt_0 : ((2 : Int64)).toInt = 2 := rfl; have lt_1 : ((257 : Int64)).toInt = 257 := rfl; have lt_2 : ((260 : Int64)).toInt = 260 := rfl; have lt_3 : ((263 : Int64)).toInt = 263 := rfl; have lt_4 : ((264 : Int64)).toInt = 264 := rfl; have lt_5 : ((268 : Int64)).toInt = 268 := rfl; have lt_6 : ((316 : Int64)).toInt = 316 := rfl; have lt_7 : ((82 : Int64)).toInt = 82 := rfl; have lt_8 : ((84 : Int64)).toInt = 84 := rfl; have lt_9 : ((85 : Int64)).toInt = 85 := rfl; have lt_10 : ((87 : Int64)).toInt = 87 := rfl; have lt_11 : ((90 : Int64)).toInt = 90 := rfl; have lt_12 : ((91 : Int64)).toInt = 91 := rfl; have lt_13 : ((92 : Int64)).toInt = 92 := rfl; simp only [Int32.lt_iff_toInt_lt, Int64.lt_iff_toInt_lt, ← Int32.toInt_inj, ← Int64.toInt_inj] at hz hq103_14_0 hq103_14_1 hq103_14_2 hq103_14_3 hq103_14_4 hq103_14_5 hq103_14_6 hq103_14_7 hq103_14_8 hq103_14_9 hq103_14_10 hq103_14_11 hq103_14_12 hq103_14_13 hq175_10_0 hq175_10_1 hq175_10_2 hq175_10_3 hq175_10_4 hq175_10_5 hq175_10_6 hq175_10_7 hq175_10_8 hq175_10_9; omega)
      · exact absurd hq175_11_11 (by intro hz; have lt_0 : ((2 : Int64)).toInt = 2 := rfl; have lt_1 : ((257 : Int64)).toInt = 257 := rfl; have lt_2 : ((260 : Int64)).toInt = 260 := rfl; have lt_3 : ((263 : Int64)).toInt = 263 := rfl; have lt_4 : ((264 : Int64)).toInt = 264 := rfl; have lt_5 : ((268 : Int64)).toInt = 268 := rfl; have lt_6 : ((316 : Int64)).toInt = 316 := rfl; have lt_7 : ((82 : Int64)).toInt = 82 := rfl; have lt_8 : ((84 : Int64)).toInt = 84 := rfl; have lt_9 : ((85 : Int64)).toInt = 85 := rfl; have lt_10 : ((87 : Int64)).toInt = 87 := rfl; have lt_11 : ((90 : Int64)).toInt = 90 := rfl; have lt_12 : ((91 : Int64)).toInt = 91 := rfl; have lt_13 : ((92 : Int64)).toInt = 92 := rfl; simp only [Int32.lt_iff_toInt_lt, Int64.lt_iff_toInt_lt, ← Int32.toInt_inj, ← Int64.toInt_inj] at hz hq103_14_0 hq103_14_1 hq103_14_2 hq103_14_3 hq103_14_4 hq103_14_5 hq103_14_6 hq103_14_7 hq103_14_8 hq103_14_9 hq103_14_10 hq103_14_11 hq103_14_12 hq103_14_13 hq175_11_0 hq175_11_1 hq175_11_2 hq175_11_3 hq175_11_4 hq175_11_5 hq175_11_6 hq175_11_7 hq175_11_8 hq175_11_9 hq175_11_10; omega)
      · exact absurd hq175_12_12 (by intro hz; have lt_0 : ((2 : Int64)).toInt = 2 := rfl; have lt_1 : ((257 : Int64)).toInt = 257 := rfl; have lt_2 : ((260 : Int64)).toInt = 260 := rfl; have lt_3 : ((263 : Int64)).toInt = 263 := rfl; have lt_4 : ((264 : Int64)).toInt = 264 := rfl; have lt_5 : ((268 : Int64)).toInt = 268 := rfl; have lt_6 : ((316 : Int64)).toInt = 316 := rfl; have lt_7 : ((82 : Int64)).toInt = 82 := rfl; have lt_8 : ((84 : Int64)).toInt = 84 := rfl; have lt_9 : ((85 : Int64)).toInt = 85 := rfl; have lt_10 : ((87 : Int64)).toInt = 87 := rfl; have lt_11 : ((90 : Int64)).toInt = 90 := rfl; have lt_12 : ((91 : Int64)).toInt = 91 := rfl; have lt_13 : ((92 : Int64)).toInt = 92 := rfl; simp only [Int32.lt_iff_toInt_lt, Int64.lt_iff_toInt_lt, ← Int32.toInt_inj, ← Int64.toInt_inj] at hz hq103_14_0 hq103_14_1 hq103_14_2 hq103_14_3 hq103_14_4 hq103_14_5 hq103_14_6 hq103_14_7 hq103_14_8 hq103_14_9 hq103_14_10 hq103_14_11 hq103_14_12 hq103_14_13 hq175_12_0 hq175_12_1 hq175_12_2 hq175_12_3 hq175_12_4 hq175_12_5 hq175_12_6 hq175_12_7 hq175_12_8 hq175_12_9 hq175_12_10 hq175_12_11; omega)
      · exact absurd hq175_13_13 (by intro hz; have lt_0 : ((2 : Int64)).toInt = 2 := rfl; have lt_1 : ((257 : Int64)).toInt = 257 := rfl; have lt_2 : ((260 : Int64)).toInt = 260 := rfl; have lt_3 : ((263 : Int64)).toInt = 263 := rfl; have lt_4 : ((264 : Int64)).toInt = 264 := rfl; have lt_5 : ((268 : Int64)).toInt = 268 := rfl; have lt_6 : ((316 : Int64)).toInt = 316 := rfl; have lt_7 : ((82 : Int64)).toInt = 82 := rfl; have lt_8 : ((84 : Int64)).toInt = 84 := rfl; have lt_9 : ((85 : Int64)).toInt = 85 := rfl; have lt_10 : ((87 : Int64)).toInt = 87 := rfl; have lt_11 : ((90 : Int64)).toInt = 90 := rfl; have lt_12 : ((91 : Int64)).toInt = 91 := rfl; have lt_13 : ((92 : Int64)).toInt = 92 := rfl; simp only [Int32.lt_iff_toInt_lt, Int64.lt_iff_toInt_lt, ← Int32.toInt_inj, ← Int64.toInt_inj] at hz hq103_14_0 hq103_14_1 hq103_14_2 hq103_14_3 hq103_14_4 hq103_14_5 hq103_14_6 hq103_14_7 hq103_14_8 hq103_14_9 hq103_14_10 hq103_14_11 hq103_14_12 hq103_14_13 hq175_13_0 hq175_13_1 hq175_13_2 hq175_13_3 hq175_13_4 hq175_13_5 hq175_13_6 hq175_13_7 hq175_13_8 hq175_13_9 hq175_13_10 hq175_13_11 hq175_13_12; omega)
      · have pre178 : ∀ t, Steps p.tables e below (T175.setTop (mkF m 39 #[.val (.long q0_), .second, .val (.int p1_), .val (.int (p1_ &&& (31 : Int32))), .val (.long q0_), .second] [(.int (1 : Int32))])) t → Steps p.tables e below (s₁.setTop (entryFrame m #[(.long q0_), (.int p1_)] maxLocals)) t := by
          intro t kt
          refine pre1 t ?_
          show Steps p.tables e below (s₁.setTop (mkF m 8 #[.val (.long q0_), .second, .val (.int p1_), .val (.int (p1_ &&& (31 : Int32))), .unset, .unset] [(.int (14 : Int32)), (.int (p1_ &&& (31 : Int32)))])) _
          refine XS.icmpYes X0.here hx rfl (pc0 := 8) (pc' := 18) rfl (hb hby at_8) rfl (flt hc2).2.1 (by decide) (by decide) ?_
          show Steps p.tables e below (s₁.setTop (mkF m 18 #[.val (.long q0_), .second, .val (.int p1_), .val (.int (p1_ &&& (31 : Int32))), .unset, .unset] [])) _
          refine XS.lloadN X0.here hx rfl (hb hby at_18) rfl ?_
          show Steps p.tables e below (s₁.setTop (mkF m 19 #[.val (.long q0_), .second, .val (.int p1_), .val (.int (p1_ &&& (31 : Int32))), .unset, .unset] [(.long q0_)])) _
          refine XS.lstore X0.here hx rfl (hb hby at_19) rfl (l' := #[.val (.long q0_), .second, .val (.int p1_), .val (.int (p1_ &&& (31 : Int32))), .val (.long q0_), .second]) rfl ?_
          show Steps p.tables e below (s₁.setTop (mkF m 21 #[.val (.long q0_), .second, .val (.int p1_), .val (.int (p1_ &&& (31 : Int32))), .val (.long q0_), .second] [])) _
          refine XS.lload X0.here hx rfl (hb hby at_21) rfl ?_
          show Steps p.tables e below (s₁.setTop (mkF m 23 #[.val (.long q0_), .second, .val (.int p1_), .val (.int (p1_ &&& (31 : Int32))), .val (.long q0_), .second] [(.long q0_)])) _
          refine st103 _ ?_
          show Steps p.tables e below (T103.setTop (mkF m 26 #[.val (.long q0_), .second, .val (.int p1_), .val (.int (p1_ &&& (31 : Int32))), .val (.long q0_), .second] [.null])) _
          refine XS.lload X103.here hx rfl (hb hby at_26) rfl ?_
          show Steps p.tables e below (T103.setTop (mkF m 28 #[.val (.long q0_), .second, .val (.int p1_), .val (.int (p1_ &&& (31 : Int32))), .val (.long q0_), .second] [(.long q0_), .null])) _
          refine st175 _ ?_
          show Steps p.tables e below (T175.setTop (mkF m 31 #[.val (.long q0_), .second, .val (.int p1_), .val (.int (p1_ &&& (31 : Int32))), .val (.long q0_), .second] [.null, .null])) _
          refine Jvm.RoadKit.acmp (g := (mkF m 31 #[.val (.long q0_), .second, .val (.int p1_), .val (.int (p1_ &&& (31 : Int32))), .val (.long q0_), .second] [.null, .null])) X175 hx rfl rfl rfl (pc0 := 31) (pc' := 34) (same := true) rfl (hb hby at_31) rfl (decide_eq_true rfl) (by decide) (by decide) ?_
          show Steps p.tables e below (T175.setTop (mkF m 34 #[.val (.long q0_), .second, .val (.int p1_), .val (.int (p1_ &&& (31 : Int32))), .val (.long q0_), .second] [])) _
          refine XS.iconst X175.here hx rfl (hb hby at_34) ?_
          show Steps p.tables e below (T175.setTop (mkF m 35 #[.val (.long q0_), .second, .val (.int p1_), .val (.int (p1_ &&& (31 : Int32))), .val (.long q0_), .second] [(.int (1 : Int32))])) _
          refine XS.goto X175.here hx rfl (pc0 := 35) (pc' := 39) rfl (hb hby at_35) (by decide) (by decide) ?_
          exact kt
        obtain ⟨fs, hr, hrun, hended, hW, hsame⟩ := X175.leave (v := some (.int (1 : Int32))) (fun h => by rw [Bd.returns] at h; cases h)
        refine ⟨_, _, pre178 _ (retN X175 hx (t := .boolean) Bd.returns (by simp) (hb hby at_39) hr), hrun, hended, _, _, rfl, ?_, ⟨_, rfl⟩, hW, hsame.mono (by decide) (by decide)⟩
        show QLaw Z q0_ p1_ w_OPEN w_CREAT w_OPENAT w_RENAME w_RENAMEAT w_RENAMEAT2 w_UNLINK w_UNLINKAT w_RMDIR w_CHMOD w_FCHMOD w_FCHMODAT w_CHOWN w_FCHOWNAT w__VALUES k_ h0 n0 _ T175.heap _
        rw [e175']
        exact ⟨rfl, N177⟩
set_option maxRecDepth 65536 in
set_option maxHeartbeats 40000000 in
theorem comes_1 {Post : Tables → Env → Array Value → State → Outcome → State → Prop} (hpost : ∀ tb e args s v u, (limb_1_1.after args s (.returned v) u = true ∧ limb_1_2.after args s (.returned v) u = true ∧ True) → FrameEnd s (.returned v) u (Jvm.fieldLocs frame_1_writes args s ++ Jvm.arrayLocs frame_1_arrays args s ++ Jvm.staticLocs frame_1_statics s) 16 128 → Post tb e args s (.returned v) u) :
    ArmFor flags0 classFile x code maxLocals ret World_1 tables_1 room_1 Calls_1 rest_1 Pre_1 Post := by
  intro l hfl _ _ p e ha hc hk s m args below hf hA hF happ hP
  obtain ⟨hcalls, hrest, hpre⟩ := hP
  obtain ⟨-, -, -, hnamed, -, -, -, hat⟩ := (Spec.applies_iff hf).mp happ
  obtain ⟨hg, hn⟩ := and_e (Cond.before_iff.mp (show (Jvm.Cond.and given_1 narrow_1).before args s = true from hpre))
  obtain ⟨g1, g2⟩ := and_e hg
  obtain ⟨g3, g4⟩ := and_e g2
  obtain ⟨w0, w1, rfl⟩ : ∃ w0 w1 : Value, args = #[w0, w1] := by
    have hs : args.size = 2 := by simpa [Cond.value, given_1] using g1
    obtain ⟨L⟩ := args
    match L, hs with
    | [w0, w1], _ => exact ⟨w0, w1, rfl⟩
  have hw := fun d (hd : d ∈ tables_1) => atoms_spec (ws := Jvm.Cond.code x code maxLocals ret :: tables_1) hat d (List.mem_cons_of_mem _ hd)
  have hfit : Fit s := fun {y c} hc i hi => by
    obtain ⟨ha, rfl⟩ := Array.getElem?_eq_some_iff.mp hc
    have q := List.all_eq_true.mp ((Array.all_eq_true_iff_forall_mem.mp hF) _ (Array.getElem_mem ha)) i (List.mem_range.mpr hi)
    simpa [Array.getElem?_eq_getElem hi] using q
  obtain ⟨i0, ei0⟩ := isL_v g3
  obtain rfl : w0 = (.long i0) := Option.some.inj ei0
  obtain ⟨i1, ei1⟩ := is_v g4
  obtain rfl : w1 = (.int i1) := Option.some.inj ei1
  obtain ⟨g5, g6⟩ := and_e hn
  obtain ⟨g7, g8⟩ := and_e g6
  obtain ⟨g9, g10⟩ := and_e g8
  obtain ⟨g11, g12⟩ := and_e g10
  obtain ⟨g13, g14⟩ := and_e g12
  obtain ⟨g15, g16⟩ := and_e g14
  obtain ⟨g17, g18⟩ := and_e g16
  obtain ⟨g19, g20⟩ := and_e g18
  obtain ⟨g21, g22⟩ := and_e g20
  obtain ⟨g23, g24⟩ := and_e g22
  obtain ⟨g25, g26⟩ := and_e g24
  obtain ⟨g27, g28⟩ := and_e g26
  obtain ⟨g29, g30⟩ := and_e g28
  obtain ⟨g31, g32⟩ := and_e g30
  obtain ⟨g33, g34⟩ := and_e g32
  obtain ⟨g35, g36⟩ := and_e g34
  obtain ⟨g37, g38⟩ := and_e g36
  obtain ⟨g39, g40⟩ := and_e g38
  obtain ⟨g41, g42⟩ := and_e g40
  obtain ⟨g43, g44⟩ := and_e g42
  obtain ⟨g45, g46⟩ := and_e g44
  obtain ⟨g47, g48⟩ := and_e g46
  obtain ⟨g49, g50⟩ := and_e g48
  obtain ⟨g51, g52⟩ := and_e g50
  obtain ⟨g53, g54⟩ := and_e g52
  obtain ⟨g55, g56⟩ := and_e g54
  obtain ⟨g57, g58⟩ := and_e g56
  obtain ⟨g59, g60⟩ := and_e g58
  obtain ⟨g61, g62⟩ := and_e g60
  obtain ⟨g63, g64⟩ := and_e g62
  obtain ⟨g65, g66⟩ := and_e g64
  obtain ⟨g67, g68⟩ := and_e g66
  obtain ⟨g69, g70⟩ := and_e g68
  obtain ⟨g71, g72⟩ := and_e g70
  obtain ⟨g73, g74⟩ := and_e g72
  obtain ⟨g75, g76⟩ := and_e g74
  obtain ⟨g77, g78⟩ := and_e g76
  obtain ⟨g79, g80⟩ := and_e g78
  obtain ⟨g81, g82⟩ := and_e g80
  obtain ⟨g83, g84⟩ := and_e g82
  obtain ⟨g85, g86⟩ := and_e g84
  obtain ⟨g87, g88⟩ := and_e g86
  obtain ⟨g89, g90⟩ := and_e g88
  obtain ⟨g91, g92⟩ := and_e g90
  obtain ⟨w__VALUES, ev_w__VALUES⟩ := arr_v g5
  have S_w__VALUES := Sta.start ev_w__VALUES (Or.inl (hw _ (List.mem_of_getElem? (i := 35) rfl)))
  obtain ⟨c_w__VALUES, A_w__VALUES⟩ := Arr.start ev_w__VALUES g5
  have E_w__VALUES := Exa.start ev_w__VALUES g7
  obtain ⟨w_OPEN, ev_w_OPEN⟩ := exa_v g11
  have S_w_OPEN := Sta.start ev_w_OPEN (Or.inr ⟨(hw _ (List.mem_of_getElem? (i := 7) rfl)), (hw _ (List.mem_of_getElem? (i := 21) rfl))⟩)
  have E_w_OPEN := Exa.start ev_w_OPEN g11
  obtain ⟨w_CREAT, ev_w_CREAT⟩ := exa_v g15
  have S_w_CREAT := Sta.start ev_w_CREAT (Or.inr ⟨(hw _ (List.mem_of_getElem? (i := 7) rfl)), (hw _ (List.mem_of_getElem? (i := 22) rfl))⟩)
  have E_w_CREAT := Exa.start ev_w_CREAT g15
  obtain ⟨w_OPENAT, ev_w_OPENAT⟩ := exa_v g19
  have S_w_OPENAT := Sta.start ev_w_OPENAT (Or.inr ⟨(hw _ (List.mem_of_getElem? (i := 7) rfl)), (hw _ (List.mem_of_getElem? (i := 23) rfl))⟩)
  have E_w_OPENAT := Exa.start ev_w_OPENAT g19
  obtain ⟨w_RENAME, ev_w_RENAME⟩ := exa_v g23
  have S_w_RENAME := Sta.start ev_w_RENAME (Or.inr ⟨(hw _ (List.mem_of_getElem? (i := 7) rfl)), (hw _ (List.mem_of_getElem? (i := 24) rfl))⟩)
  have E_w_RENAME := Exa.start ev_w_RENAME g23
  obtain ⟨w_RENAMEAT, ev_w_RENAMEAT⟩ := exa_v g27
  have S_w_RENAMEAT := Sta.start ev_w_RENAMEAT (Or.inr ⟨(hw _ (List.mem_of_getElem? (i := 7) rfl)), (hw _ (List.mem_of_getElem? (i := 25) rfl))⟩)
  have E_w_RENAMEAT := Exa.start ev_w_RENAMEAT g27
  obtain ⟨w_RENAMEAT2, ev_w_RENAMEAT2⟩ := exa_v g31
  have S_w_RENAMEAT2 := Sta.start ev_w_RENAMEAT2 (Or.inr ⟨(hw _ (List.mem_of_getElem? (i := 7) rfl)), (hw _ (List.mem_of_getElem? (i := 26) rfl))⟩)
  have E_w_RENAMEAT2 := Exa.start ev_w_RENAMEAT2 g31
  obtain ⟨w_UNLINK, ev_w_UNLINK⟩ := exa_v g35
  have S_w_UNLINK := Sta.start ev_w_UNLINK (Or.inr ⟨(hw _ (List.mem_of_getElem? (i := 7) rfl)), (hw _ (List.mem_of_getElem? (i := 27) rfl))⟩)
  have E_w_UNLINK := Exa.start ev_w_UNLINK g35
  obtain ⟨w_UNLINKAT, ev_w_UNLINKAT⟩ := exa_v g39
  have S_w_UNLINKAT := Sta.start ev_w_UNLINKAT (Or.inr ⟨(hw _ (List.mem_of_getElem? (i := 7) rfl)), (hw _ (List.mem_of_getElem? (i := 28) rfl))⟩)
  have E_w_UNLINKAT := Exa.start ev_w_UNLINKAT g39
  obtain ⟨w_RMDIR, ev_w_RMDIR⟩ := exa_v g43
  have S_w_RMDIR := Sta.start ev_w_RMDIR (Or.inr ⟨(hw _ (List.mem_of_getElem? (i := 7) rfl)), (hw _ (List.mem_of_getElem? (i := 29) rfl))⟩)
  have E_w_RMDIR := Exa.start ev_w_RMDIR g43
  obtain ⟨w_CHMOD, ev_w_CHMOD⟩ := exa_v g47
  have S_w_CHMOD := Sta.start ev_w_CHMOD (Or.inr ⟨(hw _ (List.mem_of_getElem? (i := 7) rfl)), (hw _ (List.mem_of_getElem? (i := 30) rfl))⟩)
  have E_w_CHMOD := Exa.start ev_w_CHMOD g47
  obtain ⟨w_FCHMOD, ev_w_FCHMOD⟩ := exa_v g51
  have S_w_FCHMOD := Sta.start ev_w_FCHMOD (Or.inr ⟨(hw _ (List.mem_of_getElem? (i := 7) rfl)), (hw _ (List.mem_of_getElem? (i := 31) rfl))⟩)
  have E_w_FCHMOD := Exa.start ev_w_FCHMOD g51
  obtain ⟨w_FCHMODAT, ev_w_FCHMODAT⟩ := exa_v g55
  have S_w_FCHMODAT := Sta.start ev_w_FCHMODAT (Or.inr ⟨(hw _ (List.mem_of_getElem? (i := 7) rfl)), (hw _ (List.mem_of_getElem? (i := 32) rfl))⟩)
  have E_w_FCHMODAT := Exa.start ev_w_FCHMODAT g55
  obtain ⟨w_CHOWN, ev_w_CHOWN⟩ := exa_v g59
  have S_w_CHOWN := Sta.start ev_w_CHOWN (Or.inr ⟨(hw _ (List.mem_of_getElem? (i := 7) rfl)), (hw _ (List.mem_of_getElem? (i := 33) rfl))⟩)
  have E_w_CHOWN := Exa.start ev_w_CHOWN g59
  obtain ⟨w_FCHOWNAT, ev_w_FCHOWNAT⟩ := exa_v g63
  have S_w_FCHOWNAT := Sta.start ev_w_FCHOWNAT (Or.inr ⟨(hw _ (List.mem_of_getElem? (i := 7) rfl)), (hw _ (List.mem_of_getElem? (i := 34) rfl))⟩)
  have E_w_FCHOWNAT := Exa.start ev_w_FCHOWNAT g63
  have Ln_w__VALUES := own_len g9 ev_w__VALUES A_w__VALUES
  have El_w__VALUES_0 := (elem_in (own_eqr g13 ev_w_OPEN) ev_w__VALUES (Term.int_eval (0)) A_w__VALUES.1).2
  have El_w__VALUES_1 := (elem_in (own_eqr g17 ev_w_CREAT) ev_w__VALUES (Term.int_eval (1)) A_w__VALUES.1).2
  have El_w__VALUES_2 := (elem_in (own_eqr g21 ev_w_OPENAT) ev_w__VALUES (Term.int_eval (2)) A_w__VALUES.1).2
  have El_w__VALUES_3 := (elem_in (own_eqr g25 ev_w_RENAME) ev_w__VALUES (Term.int_eval (3)) A_w__VALUES.1).2
  have El_w__VALUES_4 := (elem_in (own_eqr g29 ev_w_RENAMEAT) ev_w__VALUES (Term.int_eval (4)) A_w__VALUES.1).2
  have El_w__VALUES_5 := (elem_in (own_eqr g33 ev_w_RENAMEAT2) ev_w__VALUES (Term.int_eval (5)) A_w__VALUES.1).2
  have El_w__VALUES_6 := (elem_in (own_eqr g37 ev_w_UNLINK) ev_w__VALUES (Term.int_eval (6)) A_w__VALUES.1).2
  have El_w__VALUES_7 := (elem_in (own_eqr g41 ev_w_UNLINKAT) ev_w__VALUES (Term.int_eval (7)) A_w__VALUES.1).2
  have El_w__VALUES_8 := (elem_in (own_eqr g45 ev_w_RMDIR) ev_w__VALUES (Term.int_eval (8)) A_w__VALUES.1).2
  have El_w__VALUES_9 := (elem_in (own_eqr g49 ev_w_CHMOD) ev_w__VALUES (Term.int_eval (9)) A_w__VALUES.1).2
  have El_w__VALUES_10 := (elem_in (own_eqr g53 ev_w_FCHMOD) ev_w__VALUES (Term.int_eval (10)) A_w__VALUES.1).2
  have El_w__VALUES_11 := (elem_in (own_eqr g57 ev_w_FCHMODAT) ev_w__VALUES (Term.int_eval (11)) A_w__VALUES.1).2
  have El_w__VALUES_12 := (elem_in (own_eqr g61 ev_w_CHOWN) ev_w__VALUES (Term.int_eval (12)) A_w__VALUES.1).2
  have El_w__VALUES_13 := (elem_in (own_eqr g65 ev_w_FCHOWNAT) ev_w__VALUES (Term.int_eval (13)) A_w__VALUES.1).2
  have F_number_w_OPEN := Fld.start ((fld_at ev_w_OPEN).symm.trans (own_eqi g67))
  have F_number_w_CREAT := Fld.start ((fld_at ev_w_CREAT).symm.trans (own_eqi g69))
  have F_number_w_OPENAT := Fld.start ((fld_at ev_w_OPENAT).symm.trans (own_eqi g71))
  have F_number_w_RENAME := Fld.start ((fld_at ev_w_RENAME).symm.trans (own_eqi g73))
  have F_number_w_RENAMEAT := Fld.start ((fld_at ev_w_RENAMEAT).symm.trans (own_eqi g75))
  have F_number_w_RENAMEAT2 := Fld.start ((fld_at ev_w_RENAMEAT2).symm.trans (own_eqi g77))
  have F_number_w_UNLINK := Fld.start ((fld_at ev_w_UNLINK).symm.trans (own_eqi g79))
  have F_number_w_UNLINKAT := Fld.start ((fld_at ev_w_UNLINKAT).symm.trans (own_eqi g81))
  have F_number_w_RMDIR := Fld.start ((fld_at ev_w_RMDIR).symm.trans (own_eqi g83))
  have F_number_w_CHMOD := Fld.start ((fld_at ev_w_CHMOD).symm.trans (own_eqi g85))
  have F_number_w_FCHMOD := Fld.start ((fld_at ev_w_FCHMOD).symm.trans (own_eqi g87))
  have F_number_w_FCHMODAT := Fld.start ((fld_at ev_w_FCHMODAT).symm.trans (own_eqi g89))
  have F_number_w_CHOWN := Fld.start ((fld_at ev_w_CHOWN).symm.trans (own_eqi g91))
  have F_number_w_FCHOWNAT := Fld.start ((fld_at ev_w_FCHOWNAT).symm.trans (own_eqi g92))
  have V_w__VALUES : Arv s s.heap w__VALUES c_w__VALUES.cls (.object "com/example/aeacus/aeacus/audit/Syscall") (14 : Int32) [(.ref w_OPEN), (.ref w_CREAT), (.ref w_OPENAT), (.ref w_RENAME), (.ref w_RENAMEAT), (.ref w_RENAMEAT2), (.ref w_UNLINK), (.ref w_UNLINKAT), (.ref w_RMDIR), (.ref w_CHMOD), (.ref w_FCHMOD), (.ref w_FCHMODAT), (.ref w_CHOWN), (.ref w_FCHOWNAT)] .null := Arv.start hfit A_w__VALUES Ln_w__VALUES.1 Ln_w__VALUES.2 (by decide) rfl ⟨El_w__VALUES_0, El_w__VALUES_1, El_w__VALUES_2, El_w__VALUES_3, El_w__VALUES_4, El_w__VALUES_5, El_w__VALUES_6, El_w__VALUES_7, El_w__VALUES_8, El_w__VALUES_9, El_w__VALUES_10, El_w__VALUES_11, El_w__VALUES_12, El_w__VALUES_13, trivial⟩
  obtain ⟨n, o, h1, h2, h3, _, L, rfl, ⟨rfl, N⟩, hq⟩ := rmLaw l s _ hw tables_1 i0 i1 w_OPEN w_CREAT w_OPENAT w_RENAME w_RENAMEAT w_RENAMEAT2 w_UNLINK w_UNLINKAT w_RMDIR w_CHMOD w_FCHMOD w_FCHMODAT w_CHOWN w_FCHOWNAT w__VALUES c_w__VALUES.cls s.heap s.heap.size (Old.start s) S_w_OPEN E_w_OPEN F_number_w_OPEN S_w_CREAT E_w_CREAT F_number_w_CREAT S_w_OPENAT E_w_OPENAT F_number_w_OPENAT S_w_RENAME E_w_RENAME F_number_w_RENAME S_w_RENAMEAT E_w_RENAMEAT F_number_w_RENAMEAT S_w_RENAMEAT2 E_w_RENAMEAT2 F_number_w_RENAMEAT2 S_w_UNLINK E_w_UNLINK F_number_w_UNLINK S_w_UNLINKAT E_w_UNLINKAT F_number_w_UNLINKAT S_w_RMDIR E_w_RMDIR F_number_w_RMDIR S_w_CHMOD E_w_CHMOD F_number_w_CHMOD S_w_FCHMOD E_w_FCHMOD F_number_w_FCHMOD S_w_FCHMODAT E_w_FCHMODAT F_number_w_FCHMODAT S_w_CHOWN E_w_CHOWN F_number_w_CHOWN S_w_FCHOWNAT E_w_FCHOWNAT F_number_w_FCHOWNAT S_w__VALUES E_w__VALUES V_w__VALUES p e ha hc hk s m _ below hf ((Spec.applies_iff_loose hf).mp happ).1 ⟨rfl, State.Warmed39.refl s, rfl⟩ trivial
  refine ⟨n, _, h1, h2, h3, hpost _ _ _ _ _ _ ⟨Cond.after_iff.mpr rfl, Cond.after_iff.mpr (eq_i res_at (Term.int_eval (1)) rfl), trivial⟩ ⟨hq.1, hq.2.1, (hq.2.2.sift fun y hy => Or.inr (N y hy)).mono (by decide) (by decide)⟩⟩
theorem main_1_1 : Claimed_1_1 := comes_1 fun _ _ _ _ _ _ h hF => ⟨h.1, hF⟩
theorem main_1_2 : Claimed_1_2 := comes_1 fun _ _ _ _ _ _ h hF => ⟨h.2.1, hF⟩
end Jvm.Pilot.@@N@@
namespace Jvm.Pilot.@@N@@
open Jvm Jvm.ClassFile Sem Op Lib Jvm.Free Jvm.Stand Jvm.Pilot.@@N@@.Jvm.D
/-! MADE BY PROGRAM (witnessworld.py) out of the Statement's table words and the real class files: 13 classes; the members and pool entries that the words name. The judged class is class 1, her method 1. -/
namespace start1
open Jvm.ClassFile
def u (s : String) : CpInfo := .utf8 (stringToUtf16 s)
/-- a pool by its gaps: so many unusable entries, then the entry; so many at the end -/
def gap : Nat → List CpInfo → List CpInfo
  | 0, r => r
  | n + 1, r => .unusable :: gap n r
def poolList (es : List (Nat × CpInfo)) (last : Nat) : List CpInfo := es.foldr (fun e r => gap e.1 (e.2 :: r)) (gap last [])
def pool (es : List (Nat × CpInfo)) (last : Nat) : Array CpInfo := ⟨poolList es last⟩
def fileOf (pool : Array CpInfo) (this : Nat) (attrs : Array Attribute := #[]) (ms : Array MethodInfo := #[]) (fl : Nat := 33) (sup : Nat := 0) (ifs : Array Nat := #[]) (fds : Array FieldInfo := #[]) : ClassFile where
  minorVersion := 0
  majorVersion := 65
  constantPool := pool
  accessFlags := fl
  thisClass := this
  superClass := sup
  interfaces := ifs
  fields := fds
  methods := ms
  attributes := attrs
def plain (name : String) (sup : Option ClassId) : Class where
  name := name
  kind := .ordinary
  loader := none
  accessFlags := 33
  super := sup
  interfaces := #[]
  cf := none
  fields := #[]
  methods := #[]
  instanceTypes := #[]
  staticTypes := #[]
  resolved := #[]
  callSites := []
  init := .initialized
  statics := none
  mirror := none

def pool0 : Array CpInfo := pool [(5, u "<init>"), (0, u "()V"), (1, .class_ 10), (1, u "java/lang/Object"), (85, u "clone"), (0, u "()Ljava/lang/Object;")] 26

def k0m0 : Method := { name := "<init>", desc := "()V", sig := { parameters := [], returnType := none }, accessFlags := 1, code := none }
def k0m1 : Method := { name := "clone", desc := "()Ljava/lang/Object;", sig := { parameters := [], returnType := some (.object "java/lang/Object") }, accessFlags := 260, code := none }
/-- java/lang/Object -/
def k0 : Class := { plain "java/lang/Object" none with
  accessFlags := 33
  interfaces := #[]
  cf := some (fileOf pool0 8 #[] #[{ accessFlags := 1, nameIndex := 5, descriptorIndex := 6, attributes := #[] }, { accessFlags := 260, nameIndex := 96, descriptorIndex := 97, attributes := #[] }] 33 0 #[] #[])
  fields := #[]
  methods := #[k0m0, k0m1]
  instanceTypes := #[]
  staticTypes := #[]
  resolved := Array.replicate 124 none
  statics := none }

def pool1 : Array CpInfo := pool [(2, .class_ 4), (1, u "java/lang/Object"), (0, u "<init>"), (0, u "()V"), (0, .methodref 8 9), (0, .class_ 10), (0, .nameAndType 11 12), (0, u "com/example/aeacus/aeacus/audit/SyscallOfPinLaw"), (0, u "number"), (0, u "(I)J"), (0, .methodref 14 15), (0, .class_ 16), (0, .nameAndType 17 18), (0, u "com/example/aeacus/aeacus/audit/Syscall"), (0, u "of"), (0, u "(J)Lcom/example/aeacus/aeacus/audit/Syscall;"), (0, .methodref 8 20), (0, .nameAndType 21 18), (0, u "expected"), (0, .long 2), (1, .long 85), (1, .long 257), (1, .long 82), (1, .long 264), (1, .long 316), (1, .long 87), (1, .long 263), (1, .long 84), (1, .long 90), (1, .long 91), (1, .long 268), (1, .long 92), (1, .long 260), (1, .fieldref 14 51), (0, .nameAndType 52 53), (0, u "OPEN"), (0, u "Lcom/example/aeacus/aeacus/audit/Syscall;"), (0, .fieldref 14 55), (0, .nameAndType 56 53), (0, u "CREAT"), (0, .fieldref 14 58), (0, .nameAndType 59 53), (0, u "OPENAT"), (0, .fieldref 14 61), (0, .nameAndType 62 53), (0, u "RENAME"), (0, .fieldref 14 64), (0, .nameAndType 65 53), (0, u "RENAMEAT"), (0, .fieldref 14 67), (0, .nameAndType 68 53), (0, u "RENAMEAT2"), (0, .fieldref 14 70), (0, .nameAndType 71 53), (0, u "UNLINK"), (0, .fieldref 14 73), (0, .nameAndType 74 53), (0, u "UNLINKAT"), (0, .fieldref 14 76), (0, .nameAndType 77 53), (0, u "RMDIR"), (0, .fieldref 14 79), (0, .nameAndType 80 53), (0, u "CHMOD"), (0, .fieldref 14 82), (0, .nameAndType 83 53), (0, u "FCHMOD"), (0, .fieldref 14 85), (0, .nameAndType 86 53), (0, u "FCHMODAT"), (0, .fieldref 14 88), (0, .nameAndType 89 53), (0, u "CHOWN"), (0, .fieldref 14 91), (0, .nameAndType 92 53), (0, u "FCHOWNAT"), (2, u "law"), (0, u "(JI)Z")] 3

def k1m0 : Method := { name := "<init>", desc := "()V", sig := { parameters := [], returnType := none }, accessFlags := 1, code := none }
def k1c1 : Code := { maxStack := 3, maxLocals := 6, code := code, exceptionTable := #[], attributes := #[] }
def k1m1 : Method := { name := "law", desc := "(JI)Z", sig := { parameters := [.long, .int], returnType := some .boolean }, accessFlags := 9, code := some k1c1 }
def k1c2 : Code := { maxStack := 2, maxLocals := 1, code := method_3_code, exceptionTable := #[], attributes := #[] }
def k1m2 : Method := { name := "number", desc := "(I)J", sig := { parameters := [.int], returnType := some .long }, accessFlags := 10, code := some k1c2 }
def k1c3 : Code := { maxStack := 4, maxLocals := 2, code := method_4_code, exceptionTable := #[], attributes := #[] }
def k1m3 : Method := { name := "expected", desc := "(J)Lcom/example/aeacus/aeacus/audit/Syscall;", sig := { parameters := [.long], returnType := some (.object "com/example/aeacus/aeacus/audit/Syscall") }, accessFlags := 10, code := some k1c3 }
/-- com/example/aeacus/aeacus/audit/SyscallOfPinLaw -/
def k1 : Class := { plain "com/example/aeacus/aeacus/audit/SyscallOfPinLaw" (some 0) with
  accessFlags := 49
  interfaces := #[]
  cf := some (fileOf pool1 8 #[] #[{ accessFlags := 1, nameIndex := 5, descriptorIndex := 6, attributes := #[] }, { accessFlags := 9, nameIndex := 95, descriptorIndex := 96, attributes := #[] }, { accessFlags := 10, nameIndex := 11, descriptorIndex := 12, attributes := #[] }, { accessFlags := 10, nameIndex := 21, descriptorIndex := 18, attributes := #[] }] 49 2 #[] #[])
  fields := #[]
  methods := #[k1m0, k1m1, k1m2, k1m3]
  instanceTypes := #[]
  staticTypes := #[]
  resolved := Array.replicate 100 none
  statics := none }

def pool2 : Array CpInfo := pool [(1, .class_ 2), (0, u "java/lang/constant/Constable"), (0, .class_ 4), (0, u "java/lang/Object")] 6

/-- java/lang/constant/Constable -/
def k2 : Class := { plain "java/lang/constant/Constable" (some 0) with
  accessFlags := 1537
  interfaces := #[]
  cf := some (fileOf pool2 1 #[] #[] 1537 3 #[] #[])
  fields := #[]
  methods := #[]
  instanceTypes := #[]
  staticTypes := #[]
  resolved := Array.replicate 11 none
  statics := none }

def pool3 : Array CpInfo := pool [(1, .class_ 2), (0, u "java/lang/Comparable"), (0, .class_ 4), (0, u "java/lang/Object")] 7

/-- java/lang/Comparable -/
def k3 : Class := { plain "java/lang/Comparable" (some 0) with
  accessFlags := 1537
  interfaces := #[]
  cf := some (fileOf pool3 1 #[] #[] 1537 3 #[] #[])
  fields := #[]
  methods := #[]
  instanceTypes := #[]
  staticTypes := #[]
  resolved := Array.replicate 12 none
  statics := none }

def pool4 : Array CpInfo := pool [(1, .class_ 2), (0, u "java/io/Serializable"), (0, .class_ 4), (0, u "java/lang/Object")] 2

/-- java/io/Serializable -/
def k4 : Class := { plain "java/io/Serializable" (some 0) with
  accessFlags := 1537
  interfaces := #[]
  cf := some (fileOf pool4 1 #[] #[] 1537 3 #[] #[])
  fields := #[]
  methods := #[]
  instanceTypes := #[]
  staticTypes := #[]
  resolved := Array.replicate 7 none
  statics := none }

def pool5 : Array CpInfo := pool [(2, .class_ 4), (1, u "java/lang/Enum"), (0, u "name"), (0, u "Ljava/lang/String;"), (2, u "ordinal"), (0, u "I"), (1, .class_ 14), (1, u "java/lang/Object"), (4, u "hash"), (86, .class_ 108), (1, u "java/lang/Enum$EnumDesc"), (2, .class_ 112), (0, u "java/lang/constant/Constable"), (0, .class_ 114), (0, u "java/lang/Comparable"), (0, .class_ 116), (0, u "java/io/Serializable")] 87

/-- java/lang/Enum -/
def k5 : Class := { plain "java/lang/Enum" (some 0) with
  accessFlags := 1057
  interfaces := #[2, 3, 4]
  cf := some (fileOf pool5 2 #[.nestMembers #[106]] #[] 1057 12 #[111, 113, 115] #[{ accessFlags := 18, nameIndex := 5, descriptorIndex := 6, attributes := #[] }, { accessFlags := 18, nameIndex := 9, descriptorIndex := 10, attributes := #[] }, { accessFlags := 2, nameIndex := 19, descriptorIndex := 10, attributes := #[] }])
  fields := #[{ name := "name", type := (.object "java/lang/String"), accessFlags := 18, slot := 0, constantValue := 0 }, { name := "ordinal", type := .int, accessFlags := 18, slot := 1, constantValue := 0 }, { name := "hash", type := .int, accessFlags := 2, slot := 2, constantValue := 0 }]
  methods := #[]
  instanceTypes := #[(.object "java/lang/String"), .int, .int]
  staticTypes := #[]
  resolved := Array.replicate 204 none
  statics := none }

def pool6 : Array CpInfo := pool [(1, .class_ 2), (0, u "com/example/aeacus/aeacus/audit/Syscall"), (2, u "OPEN"), (0, u "Lcom/example/aeacus/aeacus/audit/Syscall;"), (2, u "CREAT"), (2, u "OPENAT"), (2, u "RENAME"), (2, u "RENAMEAT"), (2, u "RENAMEAT2"), (2, u "UNLINK"), (2, u "UNLINKAT"), (2, u "RMDIR"), (2, u "CHMOD"), (2, u "FCHMOD"), (2, u "FCHMODAT"), (2, u "CHOWN"), (2, u "FCHOWNAT"), (0, .fieldref 1 47), (0, .nameAndType 48 49), (0, u "$VALUES"), (0, u "[Lcom/example/aeacus/aeacus/audit/Syscall;"), (0, .methodref 51 52), (0, .class_ 49), (0, .nameAndType 53 54), (0, u "clone"), (0, u "()Ljava/lang/Object;"), (1, .class_ 58), (1, u "java/lang/Enum"), (6, .fieldref 1 66), (0, .nameAndType 67 68), (0, u "number"), (0, u "I"), (2, u "effect"), (0, u "Lcom/example/aeacus/aeacus/audit/Syscall$Effect;"), (2, u "flags"), (0, u "Ljava/lang/String;"), (0, .methodref 1 78), (0, .nameAndType 79 80), (0, u "values"), (0, u "()[Lcom/example/aeacus/aeacus/audit/Syscall;"), (2, .class_ 85), (1, u "com/example/aeacus/aeacus/audit/Syscall$Effect"), (30, u "ARCH"), (9, u "of"), (0, u "(J)Lcom/example/aeacus/aeacus/audit/Syscall;")] 11

def k6c0 : Code := { maxStack := 1, maxLocals := 0, code := prog_7_method_1_code, exceptionTable := #[], attributes := #[] }
def k6m0 : Method := { name := "values", desc := "()[Lcom/example/aeacus/aeacus/audit/Syscall;", sig := { parameters := [], returnType := some (.array (.object "com/example/aeacus/aeacus/audit/Syscall")) }, accessFlags := 9, code := some k6c0 }
def k6c1 : Code := { maxStack := 4, maxLocals := 6, code := prog_7_method_4_code, exceptionTable := #[], attributes := #[] }
def k6m1 : Method := { name := "of", desc := "(J)Lcom/example/aeacus/aeacus/audit/Syscall;", sig := { parameters := [.long], returnType := some (.object "com/example/aeacus/aeacus/audit/Syscall") }, accessFlags := 8, code := some k6c1 }
/-- com/example/aeacus/aeacus/audit/Syscall -/
def k6 : Class := { plain "com/example/aeacus/aeacus/audit/Syscall" (some 5) with
  accessFlags := 16432
  interfaces := #[]
  cf := some (fileOf pool6 1 #[.nestMembers #[83]] #[{ accessFlags := 9, nameIndex := 79, descriptorIndex := 80, attributes := #[] }, { accessFlags := 8, nameIndex := 126, descriptorIndex := 127, attributes := #[] }] 16432 56 #[] #[{ accessFlags := 16409, nameIndex := 5, descriptorIndex := 6, attributes := #[] }, { accessFlags := 16409, nameIndex := 9, descriptorIndex := 6, attributes := #[] }, { accessFlags := 16409, nameIndex := 12, descriptorIndex := 6, attributes := #[] }, { accessFlags := 16409, nameIndex := 15, descriptorIndex := 6, attributes := #[] }, { accessFlags := 16409, nameIndex := 18, descriptorIndex := 6, attributes := #[] }, { accessFlags := 16409, nameIndex := 21, descriptorIndex := 6, attributes := #[] }, { accessFlags := 16409, nameIndex := 24, descriptorIndex := 6, attributes := #[] }, { accessFlags := 16409, nameIndex := 27, descriptorIndex := 6, attributes := #[] }, { accessFlags := 16409, nameIndex := 30, descriptorIndex := 6, attributes := #[] }, { accessFlags := 16409, nameIndex := 33, descriptorIndex := 6, attributes := #[] }, { accessFlags := 16409, nameIndex := 36, descriptorIndex := 6, attributes := #[] }, { accessFlags := 16409, nameIndex := 39, descriptorIndex := 6, attributes := #[] }, { accessFlags := 16409, nameIndex := 42, descriptorIndex := 6, attributes := #[] }, { accessFlags := 16409, nameIndex := 45, descriptorIndex := 6, attributes := #[] }, { accessFlags := 24, nameIndex := 116, descriptorIndex := 76, attributes := #[] }, { accessFlags := 18, nameIndex := 67, descriptorIndex := 68, attributes := #[] }, { accessFlags := 18, nameIndex := 71, descriptorIndex := 72, attributes := #[] }, { accessFlags := 18, nameIndex := 75, descriptorIndex := 76, attributes := #[] }, { accessFlags := 4122, nameIndex := 48, descriptorIndex := 49, attributes := #[] }])
  fields := #[{ name := "OPEN", type := (.object "com/example/aeacus/aeacus/audit/Syscall"), accessFlags := 16409, slot := 0, constantValue := 0 }, { name := "CREAT", type := (.object "com/example/aeacus/aeacus/audit/Syscall"), accessFlags := 16409, slot := 1, constantValue := 0 }, { name := "OPENAT", type := (.object "com/example/aeacus/aeacus/audit/Syscall"), accessFlags := 16409, slot := 2, constantValue := 0 }, { name := "RENAME", type := (.object "com/example/aeacus/aeacus/audit/Syscall"), accessFlags := 16409, slot := 3, constantValue := 0 }, { name := "RENAMEAT", type := (.object "com/example/aeacus/aeacus/audit/Syscall"), accessFlags := 16409, slot := 4, constantValue := 0 }, { name := "RENAMEAT2", type := (.object "com/example/aeacus/aeacus/audit/Syscall"), accessFlags := 16409, slot := 5, constantValue := 0 }, { name := "UNLINK", type := (.object "com/example/aeacus/aeacus/audit/Syscall"), accessFlags := 16409, slot := 6, constantValue := 0 }, { name := "UNLINKAT", type := (.object "com/example/aeacus/aeacus/audit/Syscall"), accessFlags := 16409, slot := 7, constantValue := 0 }, { name := "RMDIR", type := (.object "com/example/aeacus/aeacus/audit/Syscall"), accessFlags := 16409, slot := 8, constantValue := 0 }, { name := "CHMOD", type := (.object "com/example/aeacus/aeacus/audit/Syscall"), accessFlags := 16409, slot := 9, constantValue := 0 }, { name := "FCHMOD", type := (.object "com/example/aeacus/aeacus/audit/Syscall"), accessFlags := 16409, slot := 10, constantValue := 0 }, { name := "FCHMODAT", type := (.object "com/example/aeacus/aeacus/audit/Syscall"), accessFlags := 16409, slot := 11, constantValue := 0 }, { name := "CHOWN", type := (.object "com/example/aeacus/aeacus/audit/Syscall"), accessFlags := 16409, slot := 12, constantValue := 0 }, { name := "FCHOWNAT", type := (.object "com/example/aeacus/aeacus/audit/Syscall"), accessFlags := 16409, slot := 13, constantValue := 0 }, { name := "ARCH", type := (.object "java/lang/String"), accessFlags := 24, slot := 14, constantValue := 0 }, { name := "number", type := .int, accessFlags := 18, slot := 3, constantValue := 0 }, { name := "effect", type := (.object "com/example/aeacus/aeacus/audit/Syscall$Effect"), accessFlags := 18, slot := 4, constantValue := 0 }, { name := "flags", type := (.object "java/lang/String"), accessFlags := 18, slot := 5, constantValue := 0 }, { name := "$VALUES", type := (.array (.object "com/example/aeacus/aeacus/audit/Syscall")), accessFlags := 4122, slot := 15, constantValue := 0 }]
  methods := #[k6m0, k6m1]
  instanceTypes := #[(.object "java/lang/String"), .int, .int, .int, (.object "com/example/aeacus/aeacus/audit/Syscall$Effect"), (.object "java/lang/String")]
  staticTypes := #[(.object "com/example/aeacus/aeacus/audit/Syscall"), (.object "com/example/aeacus/aeacus/audit/Syscall"), (.object "com/example/aeacus/aeacus/audit/Syscall"), (.object "com/example/aeacus/aeacus/audit/Syscall"), (.object "com/example/aeacus/aeacus/audit/Syscall"), (.object "com/example/aeacus/aeacus/audit/Syscall"), (.object "com/example/aeacus/aeacus/audit/Syscall"), (.object "com/example/aeacus/aeacus/audit/Syscall"), (.object "com/example/aeacus/aeacus/audit/Syscall"), (.object "com/example/aeacus/aeacus/audit/Syscall"), (.object "com/example/aeacus/aeacus/audit/Syscall"), (.object "com/example/aeacus/aeacus/audit/Syscall"), (.object "com/example/aeacus/aeacus/audit/Syscall"), (.object "com/example/aeacus/aeacus/audit/Syscall"), (.object "java/lang/String"), (.array (.object "com/example/aeacus/aeacus/audit/Syscall"))]
  resolved := Array.replicate 139 none
  statics := some 0 }

def pool7 : Array CpInfo := pool [(1, .class_ 2), (0, u "java/lang/Cloneable"), (0, .class_ 4), (0, u "java/lang/Object")] 2

/-- java/lang/Cloneable -/
def k7 : Class := { plain "java/lang/Cloneable" (some 0) with
  accessFlags := 1537
  interfaces := #[]
  cf := some (fileOf pool7 1 #[] #[] 1537 3 #[] #[])
  fields := #[]
  methods := #[]
  instanceTypes := #[]
  staticTypes := #[]
  resolved := Array.replicate 7 none
  statics := none }

/-- the primitive byte -/
def k8 : Class := { plain "byte" none with kind := .primitive 'B', accessFlags := 0x411 }
/-- [B -/
def k9 : Class := { plain "[B" (some 0) with kind := .array 8 .byte, interfaces := #[7, 4], accessFlags := 1041 }

/-- the primitive int -/
def k10 : Class := { plain "int" none with kind := .primitive 'I', accessFlags := 0x411 }
/-- [I -/
def k11 : Class := { plain "[I" (some 0) with kind := .array 10 .int, interfaces := #[7, 4], accessFlags := 1041 }

/-- [Lcom/example/aeacus/aeacus/audit/Syscall; -/
def k12 : Class := { plain "[Lcom/example/aeacus/aeacus/audit/Syscall;" (some 0) with kind := .array 6 (.object "com/example/aeacus/aeacus/audit/Syscall"), interfaces := #[7, 4], accessFlags := 1041 }

def heap : Heap := #[{ cls := 6, slots := #[.ref 2, .ref 3, .ref 4, .ref 5, .ref 6, .ref 7, .ref 8, .ref 9, .ref 10, .ref 11, .ref 12, .ref 13, .ref 14, .ref 15, .null, .ref 1], vm := .statics 6 },
  { cls := 12, slots := #[.ref 2, .ref 3, .ref 4, .ref 5, .ref 6, .ref 7, .ref 8, .ref 9, .ref 10, .ref 11, .ref 12, .ref 13, .ref 14, .ref 15], vm := .none },
  { cls := 6, slots := #[.null, .int 0, .int 0, .int 2, .null, .null], vm := .none },
  { cls := 6, slots := #[.null, .int 0, .int 0, .int 85, .null, .null], vm := .none },
  { cls := 6, slots := #[.null, .int 0, .int 0, .int 257, .null, .null], vm := .none },
  { cls := 6, slots := #[.null, .int 0, .int 0, .int 82, .null, .null], vm := .none },
  { cls := 6, slots := #[.null, .int 0, .int 0, .int 264, .null, .null], vm := .none },
  { cls := 6, slots := #[.null, .int 0, .int 0, .int 316, .null, .null], vm := .none },
  { cls := 6, slots := #[.null, .int 0, .int 0, .int 87, .null, .null], vm := .none },
  { cls := 6, slots := #[.null, .int 0, .int 0, .int 263, .null, .null], vm := .none },
  { cls := 6, slots := #[.null, .int 0, .int 0, .int 84, .null, .null], vm := .none },
  { cls := 6, slots := #[.null, .int 0, .int 0, .int 90, .null, .null], vm := .none },
  { cls := 6, slots := #[.null, .int 0, .int 0, .int 91, .null, .null], vm := .none },
  { cls := 6, slots := #[.null, .int 0, .int 0, .int 268, .null, .null], vm := .none },
  { cls := 6, slots := #[.null, .int 0, .int 0, .int 92, .null, .null], vm := .none },
  { cls := 6, slots := #[.null, .int 0, .int 0, .int 260, .null, .null], vm := .none }]
def classes : Array Class := #[k0, k1, k2, k3, k4, k5, k6, k7, k8, k9, k10, k11, k12]
def interned : List (Array UInt16 × Addr) := []
def slotsUsed : Nat := 114
def theMethod : MethodId := ⟨1, 1⟩
def args0 : Array Value := #[.long 5, .int 3]
def aboutOver (below : List Frame) : State where
  vm := { classes := classes, interned := interned.toArray }
  heap := heap
  slotsUsed := slotsUsed
  threads := #[{ frames := .invoking theMethod args0 :: below }]
def below0 : List Frame := [.native { method := ⟨0, 0⟩, args := #[] }]
def about1 : State := aboutOver below0
def p0 : Program := .bare "" "" ""
def e0 : Env := launch0.env 0 0 0
theorem w_frames : about1.frames = Frame.invoking theMethod args0 :: below0 := rfl
set_option maxRecDepth 65536 in
theorem w_args : argsFit about1.vm theMethod args0 = true := by decide +kernel
set_option maxRecDepth 65536 in
theorem w_heap : heapFits about1 = true := by decide +kernel
set_option maxRecDepth 65536 in
theorem w_runnable : about1.curStatus? = some .runnable := by decide +kernel
set_option maxRecDepth 65536 in
theorem w_alone : about1.alone = true := by decide +kernel
set_option maxRecDepth 65536 in
theorem w_named : about1.methodNamed? x = some theMethod := by decide +kernel
set_option maxRecDepth 65536 in
theorem w_hears : about1.hears theMethod below0 = true := by decide +kernel
set_option maxRecDepth 65536 in
theorem w_ripe : about1.ripe theMethod args0 below0 = true := by decide +kernel
theorem w_running : about1.status = .running := rfl
set_option maxRecDepth 65536 in
theorem w_room : about1.hasRoom e0.platform room_1 = true :=
  launch0.hasRoom_least _ room_1 (by decide +kernel) (by decide +kernel) (by decide +kernel) (by decide +kernel) (by decide +kernel) (by decide +kernel)
theorem allAtoms_all (ts : List Jvm.Cond) (a : Array Jvm.Value) (st : Jvm.State) : (allAtoms ts).before a st = ts.all (fun c => c.before a st) := by
  induction ts with
  | nil => rfl
  | cons c t ih =>
    show (Jvm.Cond.and c (allAtoms t)).before a st = _
    rw [Jvm.Cond.before_and, ih, List.all_cons]
def words1 : List Jvm.Cond := Jvm.Cond.code x code maxLocals ret :: tables_1
/-- a 'code' word, met by the world's own term for the bytes: nothing is compared byte by byte -/
theorem code_word {y : MethodName} {bytes : ByteArray} {mx : Nat} {rt : Option FieldType} {a : Array Value} {s : State} {m : MethodId} {meth : Method} {c : Code} (h1 : s.methodNamed? y = some m) (h2 : s.vm.method? m = some meth) (h3 : meth.code = some c) (h4 : c.code = bytes)
    (h5 : (c.maxLocals == mx && c.exceptionTable.isEmpty && decide (c.maxStack ≤ mostOperands) && decide (meth.sig.returnType = rt) && !meth.locks && decide (parseMethodDescriptor y.desc = some meth.sig)) = true) : (Jvm.Cond.code y bytes mx rt).before a s = true := by
  simp only [Bool.and_eq_true, beq_iff_eq, Bool.not_eq_true', decide_eq_true_eq] at h5
  obtain ⟨⟨⟨⟨⟨g1, g2⟩, g3⟩, g4⟩, g5⟩, g6⟩ := h5
  simp [Cond.before, Cond.holds, Cond.value, h1, h2, h3, h4, g1, g2, g3, g4, g5, g6]
def isCode : Jvm.Cond → Bool
  | .code _ _ _ _ => true
  | _ => false
theorem all_split {L : List Jvm.Cond} {P : Jvm.Cond → Bool} (h1 : L.all (fun c => isCode c || P c) = true) (h2 : ∀ c ∈ L.filter isCode, P c = true) : L.all P = true := by
  refine List.all_eq_true.mpr fun c hc => ?_
  have h := List.all_eq_true.mp h1 c hc
  rcases Bool.eq_false_or_eq_true (isCode c) with hi | hi
  · exact h2 c (List.mem_filter.mpr ⟨hc, hi⟩)
  · simpa [hi] using h
set_option maxRecDepth 65536 in
theorem w_c0 : (Jvm.Cond.code x code maxLocals ret).before args0 about1 = true := code_word (m := ⟨1, 1⟩) (meth := k1m1) (c := k1c1) (by decide +kernel) rfl rfl rfl (by decide +kernel)
set_option maxRecDepth 65536 in
theorem w_c1 : (Jvm.Cond.code ({ cls := "com/example/aeacus/aeacus/audit/SyscallOfPinLaw", name := "number", desc := "(I)J" } : Jvm.MethodName) method_3_code (1 : Nat) (Option.some Jvm.ClassFile.FieldType.long)).before args0 about1 = true := code_word (m := ⟨1, 2⟩) (meth := k1m2) (c := k1c2) (by decide +kernel) rfl rfl rfl (by decide +kernel)
set_option maxRecDepth 65536 in
theorem w_c2 : (Jvm.Cond.code ({ cls := "com/example/aeacus/aeacus/audit/Syscall", name := "of", desc := "(J)Lcom/example/aeacus/aeacus/audit/Syscall;" } : Jvm.MethodName) prog_7_method_4_code (6 : Nat) (Option.some (Jvm.ClassFile.FieldType.object "com/example/aeacus/aeacus/audit/Syscall"))).before args0 about1 = true := code_word (m := ⟨6, 1⟩) (meth := k6m1) (c := k6c1) (by decide +kernel) rfl rfl rfl (by decide +kernel)
set_option maxRecDepth 65536 in
theorem w_c3 : (Jvm.Cond.code ({ cls := "com/example/aeacus/aeacus/audit/Syscall", name := "values", desc := "()[Lcom/example/aeacus/aeacus/audit/Syscall;" } : Jvm.MethodName) prog_7_method_1_code (0 : Nat) (Option.some (Jvm.ClassFile.FieldType.array (Jvm.ClassFile.FieldType.object "com/example/aeacus/aeacus/audit/Syscall")))).before args0 about1 = true := code_word (m := ⟨6, 0⟩) (meth := k6m0) (c := k6c0) (by decide +kernel) rfl rfl rfl (by decide +kernel)
set_option maxRecDepth 65536 in
theorem w_c4 : (Jvm.Cond.code ({ cls := "com/example/aeacus/aeacus/audit/SyscallOfPinLaw", name := "expected", desc := "(J)Lcom/example/aeacus/aeacus/audit/Syscall;" } : Jvm.MethodName) method_4_code (2 : Nat) (Option.some (Jvm.ClassFile.FieldType.object "com/example/aeacus/aeacus/audit/Syscall"))).before args0 about1 = true := code_word (m := ⟨1, 3⟩) (meth := k1m3) (c := k1c3) (by decide +kernel) rfl rfl rfl (by decide +kernel)
def codes1 : List Jvm.Cond := [Jvm.Cond.code x code maxLocals ret, Jvm.Cond.code ({ cls := "com/example/aeacus/aeacus/audit/SyscallOfPinLaw", name := "number", desc := "(I)J" } : Jvm.MethodName) method_3_code (1 : Nat) (Option.some Jvm.ClassFile.FieldType.long), Jvm.Cond.code ({ cls := "com/example/aeacus/aeacus/audit/Syscall", name := "of", desc := "(J)Lcom/example/aeacus/aeacus/audit/Syscall;" } : Jvm.MethodName) prog_7_method_4_code (6 : Nat) (Option.some (Jvm.ClassFile.FieldType.object "com/example/aeacus/aeacus/audit/Syscall")), Jvm.Cond.code ({ cls := "com/example/aeacus/aeacus/audit/Syscall", name := "values", desc := "()[Lcom/example/aeacus/aeacus/audit/Syscall;" } : Jvm.MethodName) prog_7_method_1_code (0 : Nat) (Option.some (Jvm.ClassFile.FieldType.array (Jvm.ClassFile.FieldType.object "com/example/aeacus/aeacus/audit/Syscall"))), Jvm.Cond.code ({ cls := "com/example/aeacus/aeacus/audit/SyscallOfPinLaw", name := "expected", desc := "(J)Lcom/example/aeacus/aeacus/audit/Syscall;" } : Jvm.MethodName) method_4_code (2 : Nat) (Option.some (Jvm.ClassFile.FieldType.object "com/example/aeacus/aeacus/audit/Syscall"))]
set_option maxRecDepth 65536 in
theorem codes_eq : words1.filter isCode = codes1 := rfl
theorem w_codes : ∀ c ∈ words1.filter isCode, c.before args0 about1 = true := by
  rw [codes_eq]
  intro c hc
  simp only [codes1, List.mem_cons, List.not_mem_nil, or_false] at hc
  rcases hc with rfl | rfl | rfl | rfl | rfl
  · exact w_c0
  · exact w_c1
  · exact w_c2
  · exact w_c3
  · exact w_c4
set_option maxRecDepth 65536 in
theorem w_t1 : (words1.take 24).all (fun c => isCode c || c.before args0 about1) = true := by decide +kernel
set_option maxRecDepth 65536 in
theorem w_t2 : ((words1.drop 24).take 24).all (fun c => isCode c || c.before args0 about1) = true := by decide +kernel
set_option maxRecDepth 65536 in
theorem w_t3 : ((words1.drop 24).drop 24).all (fun c => isCode c || c.before args0 about1) = true := by decide +kernel
theorem w_tables : (allAtoms (Jvm.Cond.code x code maxLocals ret :: tables_1)).before args0 about1 = true := by
  rw [allAtoms_all]
  show words1.all (fun c => c.before args0 about1) = true
  refine all_split ?_ w_codes
  rw [← List.take_append_drop 24 words1, List.all_append, w_t1, ← List.take_append_drop 24 (words1.drop 24), List.all_append, w_t2, w_t3]
  rfl
set_option maxRecDepth 65536 in
theorem w_case : (Jvm.Cond.and given_1 narrow_1).before args0 about1 = true := by decide +kernel
theorem w_applies : (headSpec (Jvm.Cond.code x code maxLocals ret :: tables_1) room_1).applies x e0.platform about1 = true :=
  (Spec.applies_iff w_frames).mpr ⟨w_running, w_runnable, w_alone, w_named, w_hears, w_ripe, w_room, w_tables⟩
theorem atStart : AtStart classFile x code maxLocals ret World_1 tables_1 room_1 Calls_1 rest_1 Pre_1 launch0 p0 e0 about1 theMethod args0 below0 :=
  ⟨lists_1, trivial, launch0.admits_env _ _ _, launch0.least_env, fairChoices_fair.cas, fairChoices_fair.clock, w_frames, w_args, w_heap, w_applies, trivial, trivial, w_case⟩
end start1
theorem witness_1 : WitnessClaimed_1 := ⟨start1.p0, start1.e0, start1.about1, start1.theMethod, start1.args0, start1.below0, start1.atStart⟩
end Jvm.Pilot.@@N@@
