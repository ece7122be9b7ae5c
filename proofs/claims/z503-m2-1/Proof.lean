import JvmDerived
import JvmDerived.Pilot.@@N@@Statement
import JvmDerived.Pilot.@@N@@Code
set_option linter.unusedVariables false
set_option linter.unusedSimpArgs false
namespace Jvm.Pilot.@@N@@
open Jvm Jvm.ClassFile Sem Op Lib Jvm.Free Jvm.Stand Jvm.LawKit Jvm.RoadKit Bundle Jvm.Pilot.@@N@@.Jvm.D
theorem own_ord {args : Array Value} {s : State} {a : Addr} {t : Term} {C n d : String} {k : Int32} (ht : t.eval args s none [] s = some (.ref a)) (h : (Jvm.Cond.eq (Term.field t C n d) (Term.int k)).value args s none s [] = some true) : Fld s s.heap a C n d (.int k) := by
  obtain ⟨x, y, e1, e2, k1, k2⟩ := cmp_v (Or.inl h)
  rw [Term.int_eval] at e2
  cases e2
  obtain ⟨z, rfl⟩ := k2
  have e : z = k := by simpa [Cond.value, e1, Term.int_eval] using h
  subst e
  exact Fld.start ((fld_at ht).symm.trans e1)
theorem own_mod6 (x : Int32) : ((x &&& (2147483647 : Int32)) % (6 : Int32)) = (0 : Int32) ∨ ((x &&& (2147483647 : Int32)) % (6 : Int32)) = (1 : Int32) ∨ ((x &&& (2147483647 : Int32)) % (6 : Int32)) = (2 : Int32) ∨ ((x &&& (2147483647 : Int32)) % (6 : Int32)) = (3 : Int32) ∨ ((x &&& (2147483647 : Int32)) % (6 : Int32)) = (4 : Int32) ∨ ((x &&& (2147483647 : Int32)) % (6 : Int32)) = (5 : Int32) := by
  have h1 := c_mask x (2147483647 : Int32) 31 (by decide) (by decide)
  have h2 := (c_irem (x &&& (2147483647 : Int32)) (6 : Int32) 6 (by decide)).1 (by omega)
  have e0 : (0 : Int32).toInt = 0 := by decide
  have e1 : (1 : Int32).toInt = 1 := by decide
  have e2 : (2 : Int32).toInt = 2 := by decide
  have e3 : (3 : Int32).toInt = 3 := by decide
  have e4 : (4 : Int32).toInt = 4 := by decide
  have e5 : (5 : Int32).toInt = 5 := by decide
  simp only [← Int32.toInt_inj]
  omega
theorem own_eq0 {p2 sg ex : Int32} (hsg : sg = (if p2 < (0 : Int32) then (0 : Int32) else (if p2 = (0 : Int32) then (1 : Int32) else (2 : Int32)))) (hex : ex = (if (((2 : Int32) >>> (sg &&& 31)) &&& (1 : Int32)) = (0 : Int32) then (0 : Int32) else (1 : Int32))) : (if p2 = (0 : Int32) then (1 : Int32) else (0 : Int32)) = ex := by
  have e0 : (0 : Int32).toInt = 0 := by decide
  have tri : (p2 < (0 : Int32) ∧ ¬ p2 = (0 : Int32) ∧ ¬ (0 : Int32) < p2) ∨ (¬ p2 < (0 : Int32) ∧ p2 = (0 : Int32) ∧ ¬ (0 : Int32) < p2) ∨ (¬ p2 < (0 : Int32) ∧ ¬ p2 = (0 : Int32) ∧ (0 : Int32) < p2) := by
    simp only [Int32.lt_iff_toInt_lt, ← Int32.toInt_inj]; omega
  subst hex hsg
  rcases tri with ⟨h1, h2, h3⟩ | ⟨h1, h2, h3⟩ | ⟨h1, h2, h3⟩ <;> simp only [h1, h2, h3, if_true, if_false] <;> decide
theorem own_eq1 {p2 sg ex : Int32} (hsg : sg = (if p2 < (0 : Int32) then (0 : Int32) else (if p2 = (0 : Int32) then (1 : Int32) else (2 : Int32)))) (hex : ex = (if (((5 : Int32) >>> (sg &&& 31)) &&& (1 : Int32)) = (0 : Int32) then (0 : Int32) else (1 : Int32))) : (if p2 = (0 : Int32) then (0 : Int32) else (1 : Int32)) = ex := by
  have e0 : (0 : Int32).toInt = 0 := by decide
  have tri : (p2 < (0 : Int32) ∧ ¬ p2 = (0 : Int32) ∧ ¬ (0 : Int32) < p2) ∨ (¬ p2 < (0 : Int32) ∧ p2 = (0 : Int32) ∧ ¬ (0 : Int32) < p2) ∨ (¬ p2 < (0 : Int32) ∧ ¬ p2 = (0 : Int32) ∧ (0 : Int32) < p2) := by
    simp only [Int32.lt_iff_toInt_lt, ← Int32.toInt_inj]; omega
  subst hex hsg
  rcases tri with ⟨h1, h2, h3⟩ | ⟨h1, h2, h3⟩ | ⟨h1, h2, h3⟩ <;> simp only [h1, h2, h3, if_true, if_false] <;> decide
theorem own_eq2 {p2 sg ex : Int32} (hsg : sg = (if p2 < (0 : Int32) then (0 : Int32) else (if p2 = (0 : Int32) then (1 : Int32) else (2 : Int32)))) (hex : ex = (if (((1 : Int32) >>> (sg &&& 31)) &&& (1 : Int32)) = (0 : Int32) then (0 : Int32) else (1 : Int32))) : (if p2 < (0 : Int32) then (1 : Int32) else (0 : Int32)) = ex := by
  have e0 : (0 : Int32).toInt = 0 := by decide
  have tri : (p2 < (0 : Int32) ∧ ¬ p2 = (0 : Int32) ∧ ¬ (0 : Int32) < p2) ∨ (¬ p2 < (0 : Int32) ∧ p2 = (0 : Int32) ∧ ¬ (0 : Int32) < p2) ∨ (¬ p2 < (0 : Int32) ∧ ¬ p2 = (0 : Int32) ∧ (0 : Int32) < p2) := by
    simp only [Int32.lt_iff_toInt_lt, ← Int32.toInt_inj]; omega
  subst hex hsg
  rcases tri with ⟨h1, h2, h3⟩ | ⟨h1, h2, h3⟩ | ⟨h1, h2, h3⟩ <;> simp only [h1, h2, h3, if_true, if_false] <;> decide
theorem own_eq3 {p2 sg ex : Int32} (hsg : sg = (if p2 < (0 : Int32) then (0 : Int32) else (if p2 = (0 : Int32) then (1 : Int32) else (2 : Int32)))) (hex : ex = (if (((3 : Int32) >>> (sg &&& 31)) &&& (1 : Int32)) = (0 : Int32) then (0 : Int32) else (1 : Int32))) : (if (0 : Int32) < p2 then (0 : Int32) else (1 : Int32)) = ex := by
  have e0 : (0 : Int32).toInt = 0 := by decide
  have tri : (p2 < (0 : Int32) ∧ ¬ p2 = (0 : Int32) ∧ ¬ (0 : Int32) < p2) ∨ (¬ p2 < (0 : Int32) ∧ p2 = (0 : Int32) ∧ ¬ (0 : Int32) < p2) ∨ (¬ p2 < (0 : Int32) ∧ ¬ p2 = (0 : Int32) ∧ (0 : Int32) < p2) := by
    simp only [Int32.lt_iff_toInt_lt, ← Int32.toInt_inj]; omega
  subst hex hsg
  rcases tri with ⟨h1, h2, h3⟩ | ⟨h1, h2, h3⟩ | ⟨h1, h2, h3⟩ <;> simp only [h1, h2, h3, if_true, if_false] <;> decide
theorem own_eq4 {p2 sg ex : Int32} (hsg : sg = (if p2 < (0 : Int32) then (0 : Int32) else (if p2 = (0 : Int32) then (1 : Int32) else (2 : Int32)))) (hex : ex = (if (((4 : Int32) >>> (sg &&& 31)) &&& (1 : Int32)) = (0 : Int32) then (0 : Int32) else (1 : Int32))) : (if (0 : Int32) < p2 then (1 : Int32) else (0 : Int32)) = ex := by
  have e0 : (0 : Int32).toInt = 0 := by decide
  have tri : (p2 < (0 : Int32) ∧ ¬ p2 = (0 : Int32) ∧ ¬ (0 : Int32) < p2) ∨ (¬ p2 < (0 : Int32) ∧ p2 = (0 : Int32) ∧ ¬ (0 : Int32) < p2) ∨ (¬ p2 < (0 : Int32) ∧ ¬ p2 = (0 : Int32) ∧ (0 : Int32) < p2) := by
    simp only [Int32.lt_iff_toInt_lt, ← Int32.toInt_inj]; omega
  subst hex hsg
  rcases tri with ⟨h1, h2, h3⟩ | ⟨h1, h2, h3⟩ | ⟨h1, h2, h3⟩ <;> simp only [h1, h2, h3, if_true, if_false] <;> decide
theorem own_eq5 {p2 sg ex : Int32} (hsg : sg = (if p2 < (0 : Int32) then (0 : Int32) else (if p2 = (0 : Int32) then (1 : Int32) else (2 : Int32)))) (hex : ex = (if (((6 : Int32) >>> (sg &&& 31)) &&& (1 : Int32)) = (0 : Int32) then (0 : Int32) else (1 : Int32))) : (if p2 < (0 : Int32) then (0 : Int32) else (1 : Int32)) = ex := by
  have e0 : (0 : Int32).toInt = 0 := by decide
  have tri : (p2 < (0 : Int32) ∧ ¬ p2 = (0 : Int32) ∧ ¬ (0 : Int32) < p2) ∨ (¬ p2 < (0 : Int32) ∧ p2 = (0 : Int32) ∧ ¬ (0 : Int32) < p2) ∨ (¬ p2 < (0 : Int32) ∧ ¬ p2 = (0 : Int32) ∧ (0 : Int32) < p2) := by
    simp only [Int32.lt_iff_toInt_lt, ← Int32.toInt_inj]; omega
  subst hex hsg
  rcases tri with ⟨h1, h2, h3⟩ | ⟨h1, h2, h3⟩ | ⟨h1, h2, h3⟩ <;> simp only [h1, h2, h3, if_true, if_false] <;> decide
theorem own_pn0 : plainName "java/lang/Enum" = true := by first | (simp [plainName, overriddenIn]; done) | decide +kernel
theorem own_ef_rmO (m : MethodId) (x0 : Addr) : entryFrame m #[(.ref x0)] 1 = mkF m 0 #[.val (.ref x0)] [] := by first | (simp [entryFrame, mkF, argsToLocals, Value.category]; done) | rfl
theorem own_d2_0 : decode jdk_37_method_2_code 0 = .ok (.aload_n 0, 1) := by decide +kernel
theorem own_d2_1 : decode jdk_37_method_2_code 1 = .ok (.getfield 7, 3) := by decide +kernel
theorem own_d2_4 : decode jdk_37_method_2_code 4 = .ok (.ireturn, 1) := by decide +kernel
def Q_rmO (Z : State) (a1 : Addr) (k2 : Int32) (h0 : Heap) (n0 : Nat) (v : Option Value) (h : Heap) (L : List Loc) : Prop := v = some (.int k2) ∧ Fr n0 L ∧ h = h0
set_option maxRecDepth 65536 in
set_option maxHeartbeats 40000000 in
theorem rmO (l : Launch) (Z : State) (a0 : Array Value) (hw : ∀ d ∈ tables_1, d.before a0 Z = true) (ws : List Jvm.Cond) (a1 : Addr) (k2 : Int32) (h0 : Heap) (n0 : Nat) (Z0 : n0 ≤ h0.size) (Fo : Fld Z h0 a1 "java/lang/Enum" "ordinal" "I" (.int k2)) :
    MetFree l (⟨"java/lang/Enum", "ordinal", "()I"⟩ : MethodName) (head1 (Jvm.Cond.code (⟨"java/lang/Enum", "ordinal", "()I"⟩ : MethodName) jdk_37_method_2_code 1 (some .int) :: ws) ({ frames := 0, cells := 0, slots := 0, locals := 0 } : Room)) (fun a U => a = #[(.ref a1)] ∧ Z.Warmed39 U.vm ∧ U.heap = h0) (fun _ _ _ _ _ => True) (fun _ U o U' => ∃ v L, o = .returned v ∧ Q_rmO Z a1 k2 h0 n0 v U'.heap L ∧ FrameEnd U o U' L ({ frames := 0, cells := 0, slots := 0, locals := 0 } : Room).cells ({ frames := 0, cells := 0, slots := 0, locals := 0 } : Room).slots) := by
  refine MetFree.of_bodySF (plainFor_of_name own_pn0) hisR ?_
  intro p e s m args below meth c s₁ Bd hml0 hP hK
  obtain ⟨rfl, hZ, hh⟩ := hP
  have hx := Bd.exec
  have hby := Bd.bytes
  have hml : c.maxLocals = 1 := hml0
  have hown : s.vm.findClass "java/lang/Enum" = some m.cls := findClass_of_methodNamed Bd.named
  have hnm := (name_of_methodNamed Bd.named Bd.method).1
  have X0 : Stand p l e ({ frames := 0, cells := 0, slots := 0, locals := 0 } : Room) s m #[(.ref a1)] below meth c s₁ [] 0 0 := Stand.of_body Bd
  have e0 : s₁.heap = h0 := by rw [← hh, Bd.state]; rfl
  have N0 := Fr.nil n0
  have R0 : ∀ t, Steps p.tables e below (s₁.setTop (mkF m 0 #[.val (.ref a1)] [])) t → Steps p.tables e below (s₁.setTop (entryFrame m #[(.ref a1)] 1)) t := fun t k => castTop (own_ef_rmO m a1) k
  have R1 : ∀ t, Steps p.tables e below (s₁.setTop (mkF m 1 #[.val (.ref a1)] [(.ref a1)])) t → Steps p.tables e below (s₁.setTop (entryFrame m #[(.ref a1)] 1)) t := by
    intro t k
    refine R0 t ?_
    show Steps p.tables e below (s₁.setTop (mkF m 0 #[.val (.ref a1)] [])) _
    refine XS.aloadN X0.here hx rfl (hb hby own_d2_0) rfl rfl ?_
    exact k
  obtain ⟨T2, X2, e2, st2⟩ := getF X0 hx hZ hown (host := "") (Or.inl (hw _ (List.mem_of_getElem? (i := 16) rfl))) Via.refl e0 Fo (g := (mkF m 1 #[.val (.ref a1)] [(.ref a1)])) rfl rfl (hb hby own_d2_1)
  have R2 : ∀ t, Steps p.tables e below (T2.setTop (mkF m 4 #[.val (.ref a1)] [(.int k2)])) t → Steps p.tables e below (s₁.setTop (entryFrame m #[(.ref a1)] 1)) t := fun t k => R1 t (st2 t k)
  obtain ⟨fs, hr, hrun, hended, hW, hsame⟩ := X2.leave (v := some (.int k2)) (fun h => by rw [Bd.returns] at h; cases h)
  refine ⟨_, _, R2 _ ?_, hrun, hended, _, _, rfl, ?_, ⟨_, rfl⟩, hW, hsame.mono (by decide) (by decide)⟩
  · exact retOut X2 hx Bd.returns rfl (Or.inl ⟨rfl, Or.inl rfl, _, rfl⟩) (hb hby own_d2_4) hr
  · show Q_rmO Z a1 k2 h0 n0 _ T2.heap _
    rw [e2]
    exact ⟨rfl, N0, rfl⟩
theorem own_pn1 : plainName "com/example/firm_store/firmstore/Operator" = true := by first | (simp [plainName, overriddenIn]; done) | decide +kernel
theorem own_ef_rmA0 (m : MethodId) (x0 : Addr) (x1 : Int32) : entryFrame m #[(.ref x0), (.int x1)] 2 = mkF m 0 #[.val (.ref x0), .val (.int x1)] [] := by first | (simp [entryFrame, mkF, argsToLocals, Value.category]; done) | rfl
theorem own_d1_0 : decode prog_10_method_6_code 0 = .ok (.aload_n 0, 1) := by decide +kernel
theorem own_d1_1 : decode prog_10_method_6_code 1 = .ok (.invokevirtual 51, 3) := by decide +kernel
theorem own_pd1 : parseMethodDescriptor "()I" = some ⟨[], some .int⟩ := by decide +kernel
theorem own_d1_4 : decode prog_10_method_6_code 4 = .ok (.tableswitch 48 0 7 #[58, 70, 82, 94, 106, 118, 130, 130], 48) := by decide +kernel
theorem own_d1_62 : decode prog_10_method_6_code 62 = .ok (.iload_n 1, 1) := by decide +kernel
theorem own_d1_63 : decode prog_10_method_6_code 63 = .ok (.ifCond .ne 7, 3) := by decide +kernel
theorem own_d1_66 : decode prog_10_method_6_code 66 = .ok (.iconst 1, 1) := by decide +kernel
theorem own_d1_67 : decode prog_10_method_6_code 67 = .ok (.goto 84, 3) := by decide +kernel
theorem own_d1_70 : decode prog_10_method_6_code 70 = .ok (.iconst 0, 1) := by decide +kernel
theorem own_d1_71 : decode prog_10_method_6_code 71 = .ok (.goto 80, 3) := by decide +kernel
theorem own_d1_151 : decode prog_10_method_6_code 151 = .ok (.ireturn, 1) := by decide +kernel
def Q_rmA0 (Z : State) (a1 : Addr) (p2 : Int32) (h0 : Heap) (n0 : Nat) (v : Option Value) (h : Heap) (L : List Loc) : Prop := v = some (.int (if p2 = (0 : Int32) then (1 : Int32) else (0 : Int32))) ∧ Fr n0 L ∧ h = h0
set_option maxRecDepth 65536 in
set_option maxHeartbeats 40000000 in
theorem rmA0 (l : Launch) (Z : State) (a0 : Array Value) (hw : ∀ d ∈ tables_1, d.before a0 Z = true) (ws : List Jvm.Cond) (a1 : Addr) (p2 : Int32) (h0 : Heap) (n0 : Nat) (Z0 : n0 ≤ h0.size) (Fo : Fld Z h0 a1 "java/lang/Enum" "ordinal" "I" (.int (0 : Int32))) (E1 : Exa Z h0 a1 "com/example/firm_store/firmstore/Operator") :
    MetFree l (⟨"com/example/firm_store/firmstore/Operator", "admits", "(I)Z"⟩ : MethodName) (head1 (Jvm.Cond.code (⟨"com/example/firm_store/firmstore/Operator", "admits", "(I)Z"⟩ : MethodName) prog_10_method_6_code 2 (some .boolean) :: ws) ({ frames := 1, cells := 0, slots := 0, locals := 12 } : Room)) (fun a U => a = #[(.ref a1), (.int p2)] ∧ Z.Warmed39 U.vm ∧ U.heap = h0) (fun _ _ _ _ _ => True) (fun _ U o U' => ∃ v L, o = .returned v ∧ Q_rmA0 Z a1 p2 h0 n0 v U'.heap L ∧ FrameEnd U o U' L ({ frames := 1, cells := 0, slots := 0, locals := 12 } : Room).cells ({ frames := 1, cells := 0, slots := 0, locals := 12 } : Room).slots) := by
  refine MetFree.of_bodySF (plainFor_of_name own_pn1) hisR ?_
  intro p e s m args below meth c s₁ Bd hml0 hP hK
  obtain ⟨rfl, hZ, hh⟩ := hP
  have hx := Bd.exec
  have hby := Bd.bytes
  have hml : c.maxLocals = 2 := hml0
  have hown : s.vm.findClass "com/example/firm_store/firmstore/Operator" = some m.cls := findClass_of_methodNamed Bd.named
  have hnm := (name_of_methodNamed Bd.named Bd.method).1
  have X0 : Stand p l e ({ frames := 1, cells := 0, slots := 0, locals := 12 } : Room) s m #[(.ref a1), (.int p2)] below meth c s₁ [] 0 0 := Stand.of_body Bd
  have e0 : s₁.heap = h0 := by rw [← hh, Bd.state]; rfl
  have N0 := Fr.nil n0
  have R0 : ∀ t, Steps p.tables e below (s₁.setTop (mkF m 0 #[.val (.ref a1), .val (.int p2)] [])) t → Steps p.tables e below (s₁.setTop (entryFrame m #[(.ref a1), (.int p2)] 2)) t := fun t k => castTop (own_ef_rmA0 m a1 p2) k
  have R1 : ∀ t, Steps p.tables e below (s₁.setTop (mkF m 1 #[.val (.ref a1), .val (.int p2)] [(.ref a1)])) t → Steps p.tables e below (s₁.setTop (entryFrame m #[(.ref a1), (.int p2)] 2)) t := by
    intro t k
    refine R0 t ?_
    show Steps p.tables e below (s₁.setTop (mkF m 0 #[.val (.ref a1), .val (.int p2)] [])) _
    refine XS.aloadN X0.here hx rfl (hb hby own_d1_0) rfl rfl ?_
    exact k
  obtain ⟨cq2, kq2, q2a, q2b, q2c⟩ := isOf hZ e0 E1
  obtain ⟨_, _, ⟨T2, L2, k2, n2⟩, -, X2, ⟨Lc2, hQ2, l2, y2, z2⟩, st2⟩ := X0.virtualBackUp hx (x := (⟨"com/example/firm_store/firmstore/Operator", "ordinal", "()I"⟩ : MethodName)) (y := (⟨"java/lang/Enum", "ordinal", "()I"⟩ : MethodName)) hown (mvT hZ (hw _ (List.mem_of_getElem? (i := 9) rfl))) (mvT hZ (hw _ (List.mem_of_getElem? (i := 10) rfl))) (mvT hZ (hw _ (List.mem_of_getElem? (i := 11) rfl))) (by decide) (mvT hZ (hw _ (List.mem_of_getElem? (i := 13) rfl))) (mvT hZ (hw _ (List.mem_of_getElem? (i := 12) rfl))) (backOf (W := 0) (rmO l Z a0 hw [] a1 (0 : Int32) h0 n0 Z0 Fo) hZ (hw _ (List.mem_of_getElem? (i := 15) rfl)) (hw _ (List.mem_of_getElem? (i := 14) rfl)) (by decide) (by decide)) q2a q2c (g := (mkF m 1 #[.val (.ref a1), .val (.int p2)] [(.ref a1)])) rfl (by rw [hml]; rfl) (Steps.refl _) (argsL := []) (rest := []) (lenOf own_pd1 rfl) rfl (by show 2 * 0 + _ ≤ _; exact Nat.le_of_eq rfl) (hb hby own_d1_1) (fun _ _ => ⟨rfl, e0, (by decide : 0 + 0 ≤ _), (by decide : 0 + 0 ≤ _)⟩)
  dsimp only [Pt.U, Pt.locs, Pt.cells, Pt.slots] at X2 l2 y2 z2 st2 hQ2
  subst l2 y2 z2
  obtain ⟨rfl, Nq2, eq2⟩ := hQ2
  have N2 := Fr.app N0 Nq2
  have R2 : ∀ t, Steps p.tables e below (T2.setTop (mkF m 4 #[.val (.ref a1), .val (.int p2)] [(.int (0 : Int32))])) t → Steps p.tables e below (s₁.setTop (entryFrame m #[(.ref a1), (.int p2)] 2)) t := fun t k => R1 t (st2.trans k)
  have R3 : ∀ t, Steps p.tables e below (T2.setTop (mkF m 62 #[.val (.ref a1), .val (.int p2)] [])) t → Steps p.tables e below (s₁.setTop (entryFrame m #[(.ref a1), (.int p2)] 2)) t := by
    intro t k
    refine R2 t ?_
    show Steps p.tables e below (T2.setTop (mkF m 4 #[.val (.ref a1), .val (.int p2)] [(.int (0 : Int32))])) _
    refine XS.tswIn X2.here hx rfl (o := 58) (pc0 := 4) (pc' := 62) rfl (hb hby own_d1_4) rfl (by decide) (by decide) (by decide) (by decide) ?_
    exact k
  obtain ⟨res, hres, R4⟩ : ∃ (res : Int32), res = (if p2 = (0 : Int32) then (1 : Int32) else (0 : Int32)) ∧ (∀ t, Steps p.tables e below (T2.setTop (mkF m 151 #[.val (.ref a1), .val (.int p2)] [(.int res)])) t → Steps p.tables e below (s₁.setTop (entryFrame m #[(.ref a1), (.int p2)] 2)) t) := by
    by_cases hc63_0 : p2 = (0 : Int32)
    · refine ⟨(1 : Int32), (by simp only [if_pos hc63_0]), ?_⟩
      intro t k
      refine R3 t ?_
      show Steps p.tables e below (T2.setTop (mkF m 62 #[.val (.ref a1), .val (.int p2)] [])) _
      refine XS.iloadN X2.here hx rfl (hb hby own_d1_62) rfl ?_
      show Steps p.tables e below (T2.setTop (mkF m 63 #[.val (.ref a1), .val (.int p2)] [(.int p2)])) _
      refine XS.ifNo X2.here hx rfl (hb hby own_d1_63) rfl ((if0 _ _).trans (teq hc63_0).2) ?_
      show Steps p.tables e below (T2.setTop (mkF m 66 #[.val (.ref a1), .val (.int p2)] [])) _
      refine XS.iconst X2.here hx rfl (hb hby own_d1_66) ?_
      show Steps p.tables e below (T2.setTop (mkF m 67 #[.val (.ref a1), .val (.int p2)] [(.int (1 : Int32))])) _
      refine XS.goto X2.here hx rfl (pc0 := 67) (pc' := 151) rfl (hb hby own_d1_67) (by decide) (by decide) ?_
      exact k
    · refine ⟨(0 : Int32), (by simp only [if_neg hc63_0]), ?_⟩
      intro t k
      refine R3 t ?_
      show Steps p.tables e below (T2.setTop (mkF m 62 #[.val (.ref a1), .val (.int p2)] [])) _
      refine XS.iloadN X2.here hx rfl (hb hby own_d1_62) rfl ?_
      show Steps p.tables e below (T2.setTop (mkF m 63 #[.val (.ref a1), .val (.int p2)] [(.int p2)])) _
      refine XS.ifYes X2.here hx rfl (pc0 := 63) (pc' := 70) rfl (hb hby own_d1_63) rfl ((if0 _ _).trans (feq hc63_0).2) (by decide) (by decide) ?_
      show Steps p.tables e below (T2.setTop (mkF m 70 #[.val (.ref a1), .val (.int p2)] [])) _
      refine XS.iconst X2.here hx rfl (hb hby own_d1_70) ?_
      show Steps p.tables e below (T2.setTop (mkF m 71 #[.val (.ref a1), .val (.int p2)] [(.int (0 : Int32))])) _
      refine XS.goto X2.here hx rfl (pc0 := 71) (pc' := 151) rfl (hb hby own_d1_71) (by decide) (by decide) ?_
      exact k
  subst hres
  obtain ⟨fs, hr, hrun, hended, hW, hsame⟩ := X2.leave (v := some (.int (if p2 = (0 : Int32) then (1 : Int32) else (0 : Int32)))) (fun h => by rw [Bd.returns] at h; cases h)
  refine ⟨_, _, R4 _ ?_, hrun, hended, _, _, rfl, ?_, ⟨_, rfl⟩, hW, hsame.mono (by decide) (by decide)⟩
  · exact retN X2 hx (t := .boolean) Bd.returns (by simp) (hb hby own_d1_151) (by rw [(by (repeat' split) <;> rfl : nar .boolean (if p2 = (0 : Int32) then (1 : Int32) else (0 : Int32)) = (if p2 = (0 : Int32) then (1 : Int32) else (0 : Int32)))]; exact hr)
  · show Q_rmA0 Z a1 p2 h0 n0 _ T2.heap _
    rw [eq2]
    exact ⟨rfl, N2, rfl⟩
theorem own_ef_rmA1 (m : MethodId) (x0 : Addr) (x1 : Int32) : entryFrame m #[(.ref x0), (.int x1)] 2 = mkF m 0 #[.val (.ref x0), .val (.int x1)] [] := by first | (simp [entryFrame, mkF, argsToLocals, Value.category]; done) | rfl
theorem own_d1_74 : decode prog_10_method_6_code 74 = .ok (.iload_n 1, 1) := by decide +kernel
theorem own_d1_75 : decode prog_10_method_6_code 75 = .ok (.ifCond .eq 7, 3) := by decide +kernel
theorem own_d1_82 : decode prog_10_method_6_code 82 = .ok (.iconst 0, 1) := by decide +kernel
theorem own_d1_83 : decode prog_10_method_6_code 83 = .ok (.goto 68, 3) := by decide +kernel
theorem own_d1_78 : decode prog_10_method_6_code 78 = .ok (.iconst 1, 1) := by decide +kernel
theorem own_d1_79 : decode prog_10_method_6_code 79 = .ok (.goto 72, 3) := by decide +kernel
def Q_rmA1 (Z : State) (a1 : Addr) (p2 : Int32) (h0 : Heap) (n0 : Nat) (v : Option Value) (h : Heap) (L : List Loc) : Prop := v = some (.int (if p2 = (0 : Int32) then (0 : Int32) else (1 : Int32))) ∧ Fr n0 L ∧ h = h0
set_option maxRecDepth 65536 in
set_option maxHeartbeats 40000000 in
theorem rmA1 (l : Launch) (Z : State) (a0 : Array Value) (hw : ∀ d ∈ tables_1, d.before a0 Z = true) (ws : List Jvm.Cond) (a1 : Addr) (p2 : Int32) (h0 : Heap) (n0 : Nat) (Z0 : n0 ≤ h0.size) (Fo : Fld Z h0 a1 "java/lang/Enum" "ordinal" "I" (.int (1 : Int32))) (E1 : Exa Z h0 a1 "com/example/firm_store/firmstore/Operator") :
    MetFree l (⟨"com/example/firm_store/firmstore/Operator", "admits", "(I)Z"⟩ : MethodName) (head1 (Jvm.Cond.code (⟨"com/example/firm_store/firmstore/Operator", "admits", "(I)Z"⟩ : MethodName) prog_10_method_6_code 2 (some .boolean) :: ws) ({ frames := 1, cells := 0, slots := 0, locals := 12 } : Room)) (fun a U => a = #[(.ref a1), (.int p2)] ∧ Z.Warmed39 U.vm ∧ U.heap = h0) (fun _ _ _ _ _ => True) (fun _ U o U' => ∃ v L, o = .returned v ∧ Q_rmA1 Z a1 p2 h0 n0 v U'.heap L ∧ FrameEnd U o U' L ({ frames := 1, cells := 0, slots := 0, locals := 12 } : Room).cells ({ frames := 1, cells := 0, slots := 0, locals := 12 } : Room).slots) := by
  refine MetFree.of_bodySF (plainFor_of_name own_pn1) hisR ?_
  intro p e s m args below meth c s₁ Bd hml0 hP hK
  obtain ⟨rfl, hZ, hh⟩ := hP
  have hx := Bd.exec
  have hby := Bd.bytes
  have hml : c.maxLocals = 2 := hml0
  have hown : s.vm.findClass "com/example/firm_store/firmstore/Operator" = some m.cls := findClass_of_methodNamed Bd.named
  have hnm := (name_of_methodNamed Bd.named Bd.method).1
  have X0 : Stand p l e ({ frames := 1, cells := 0, slots := 0, locals := 12 } : Room) s m #[(.ref a1), (.int p2)] below meth c s₁ [] 0 0 := Stand.of_body Bd
  have e0 : s₁.heap = h0 := by rw [← hh, Bd.state]; rfl
  have N0 := Fr.nil n0
  have R0 : ∀ t, Steps p.tables e below (s₁.setTop (mkF m 0 #[.val (.ref a1), .val (.int p2)] [])) t → Steps p.tables e below (s₁.setTop (entryFrame m #[(.ref a1), (.int p2)] 2)) t := fun t k => castTop (own_ef_rmA1 m a1 p2) k
  have R1 : ∀ t, Steps p.tables e below (s₁.setTop (mkF m 1 #[.val (.ref a1), .val (.int p2)] [(.ref a1)])) t → Steps p.tables e below (s₁.setTop (entryFrame m #[(.ref a1), (.int p2)] 2)) t := by
    intro t k
    refine R0 t ?_
    show Steps p.tables e below (s₁.setTop (mkF m 0 #[.val (.ref a1), .val (.int p2)] [])) _
    refine XS.aloadN X0.here hx rfl (hb hby own_d1_0) rfl rfl ?_
    exact k
  obtain ⟨cq2, kq2, q2a, q2b, q2c⟩ := isOf hZ e0 E1
  obtain ⟨_, _, ⟨T2, L2, k2, n2⟩, -, X2, ⟨Lc2, hQ2, l2, y2, z2⟩, st2⟩ := X0.virtualBackUp hx (x := (⟨"com/example/firm_store/firmstore/Operator", "ordinal", "()I"⟩ : MethodName)) (y := (⟨"java/lang/Enum", "ordinal", "()I"⟩ : MethodName)) hown (mvT hZ (hw _ (List.mem_of_getElem? (i := 9) rfl))) (mvT hZ (hw _ (List.mem_of_getElem? (i := 10) rfl))) (mvT hZ (hw _ (List.mem_of_getElem? (i := 11) rfl))) (by decide) (mvT hZ (hw _ (List.mem_of_getElem? (i := 13) rfl))) (mvT hZ (hw _ (List.mem_of_getElem? (i := 12) rfl))) (backOf (W := 0) (rmO l Z a0 hw [] a1 (1 : Int32) h0 n0 Z0 Fo) hZ (hw _ (List.mem_of_getElem? (i := 15) rfl)) (hw _ (List.mem_of_getElem? (i := 14) rfl)) (by decide) (by decide)) q2a q2c (g := (mkF m 1 #[.val (.ref a1), .val (.int p2)] [(.ref a1)])) rfl (by rw [hml]; rfl) (Steps.refl _) (argsL := []) (rest := []) (lenOf own_pd1 rfl) rfl (by show 2 * 0 + _ ≤ _; exact Nat.le_of_eq rfl) (hb hby own_d1_1) (fun _ _ => ⟨rfl, e0, (by decide : 0 + 0 ≤ _), (by decide : 0 + 0 ≤ _)⟩)
  dsimp only [Pt.U, Pt.locs, Pt.cells, Pt.slots] at X2 l2 y2 z2 st2 hQ2
  subst l2 y2 z2
  obtain ⟨rfl, Nq2, eq2⟩ := hQ2
  have N2 := Fr.app N0 Nq2
  have R2 : ∀ t, Steps p.tables e below (T2.setTop (mkF m 4 #[.val (.ref a1), .val (.int p2)] [(.int (1 : Int32))])) t → Steps p.tables e below (s₁.setTop (entryFrame m #[(.ref a1), (.int p2)] 2)) t := fun t k => R1 t (st2.trans k)
  have R3 : ∀ t, Steps p.tables e below (T2.setTop (mkF m 74 #[.val (.ref a1), .val (.int p2)] [])) t → Steps p.tables e below (s₁.setTop (entryFrame m #[(.ref a1), (.int p2)] 2)) t := by
    intro t k
    refine R2 t ?_
    show Steps p.tables e below (T2.setTop (mkF m 4 #[.val (.ref a1), .val (.int p2)] [(.int (1 : Int32))])) _
    refine XS.tswIn X2.here hx rfl (o := 70) (pc0 := 4) (pc' := 74) rfl (hb hby own_d1_4) rfl (by decide) (by decide) (by decide) (by decide) ?_
    exact k
  obtain ⟨res, hres, R4⟩ : ∃ (res : Int32), res = (if p2 = (0 : Int32) then (0 : Int32) else (1 : Int32)) ∧ (∀ t, Steps p.tables e below (T2.setTop (mkF m 151 #[.val (.ref a1), .val (.int p2)] [(.int res)])) t → Steps p.tables e below (s₁.setTop (entryFrame m #[(.ref a1), (.int p2)] 2)) t) := by
    by_cases hc75_0 : p2 = (0 : Int32)
    · refine ⟨(0 : Int32), (by simp only [if_pos hc75_0]), ?_⟩
      intro t k
      refine R3 t ?_
      show Steps p.tables e below (T2.setTop (mkF m 74 #[.val (.ref a1), .val (.int p2)] [])) _
      refine XS.iloadN X2.here hx rfl (hb hby own_d1_74) rfl ?_
      show Steps p.tables e below (T2.setTop (mkF m 75 #[.val (.ref a1), .val (.int p2)] [(.int p2)])) _
      refine XS.ifYes X2.here hx rfl (pc0 := 75) (pc' := 82) rfl (hb hby own_d1_75) rfl ((if0 _ _).trans (teq hc75_0).1) (by decide) (by decide) ?_
      show Steps p.tables e below (T2.setTop (mkF m 82 #[.val (.ref a1), .val (.int p2)] [])) _
      refine XS.iconst X2.here hx rfl (hb hby own_d1_82) ?_
      show Steps p.tables e below (T2.setTop (mkF m 83 #[.val (.ref a1), .val (.int p2)] [(.int (0 : Int32))])) _
      refine XS.goto X2.here hx rfl (pc0 := 83) (pc' := 151) rfl (hb hby own_d1_83) (by decide) (by decide) ?_
      exact k
    · refine ⟨(1 : Int32), (by simp only [if_neg hc75_0]), ?_⟩
      intro t k
      refine R3 t ?_
      show Steps p.tables e below (T2.setTop (mkF m 74 #[.val (.ref a1), .val (.int p2)] [])) _
      refine XS.iloadN X2.here hx rfl (hb hby own_d1_74) rfl ?_
      show Steps p.tables e below (T2.setTop (mkF m 75 #[.val (.ref a1), .val (.int p2)] [(.int p2)])) _
      refine XS.ifNo X2.here hx rfl (hb hby own_d1_75) rfl ((if0 _ _).trans (feq hc75_0).1) ?_
      show Steps p.tables e below (T2.setTop (mkF m 78 #[.val (.ref a1), .val (.int p2)] [])) _
      refine XS.iconst X2.here hx rfl (hb hby own_d1_78) ?_
      show Steps p.tables e below (T2.setTop (mkF m 79 #[.val (.ref a1), .val (.int p2)] [(.int (1 : Int32))])) _
      refine XS.goto X2.here hx rfl (pc0 := 79) (pc' := 151) rfl (hb hby own_d1_79) (by decide) (by decide) ?_
      exact k
  subst hres
  obtain ⟨fs, hr, hrun, hended, hW, hsame⟩ := X2.leave (v := some (.int (if p2 = (0 : Int32) then (0 : Int32) else (1 : Int32)))) (fun h => by rw [Bd.returns] at h; cases h)
  refine ⟨_, _, R4 _ ?_, hrun, hended, _, _, rfl, ?_, ⟨_, rfl⟩, hW, hsame.mono (by decide) (by decide)⟩
  · exact retN X2 hx (t := .boolean) Bd.returns (by simp) (hb hby own_d1_151) (by rw [(by (repeat' split) <;> rfl : nar .boolean (if p2 = (0 : Int32) then (0 : Int32) else (1 : Int32)) = (if p2 = (0 : Int32) then (0 : Int32) else (1 : Int32)))]; exact hr)
  · show Q_rmA1 Z a1 p2 h0 n0 _ T2.heap _
    rw [eq2]
    exact ⟨rfl, N2, rfl⟩
theorem own_ef_rmA2 (m : MethodId) (x0 : Addr) (x1 : Int32) : entryFrame m #[(.ref x0), (.int x1)] 2 = mkF m 0 #[.val (.ref x0), .val (.int x1)] [] := by first | (simp [entryFrame, mkF, argsToLocals, Value.category]; done) | rfl
theorem own_d1_86 : decode prog_10_method_6_code 86 = .ok (.iload_n 1, 1) := by decide +kernel
theorem own_d1_87 : decode prog_10_method_6_code 87 = .ok (.ifCond .ge 7, 3) := by decide +kernel
theorem own_d1_90 : decode prog_10_method_6_code 90 = .ok (.iconst 1, 1) := by decide +kernel
theorem own_d1_91 : decode prog_10_method_6_code 91 = .ok (.goto 60, 3) := by decide +kernel
theorem own_d1_94 : decode prog_10_method_6_code 94 = .ok (.iconst 0, 1) := by decide +kernel
theorem own_d1_95 : decode prog_10_method_6_code 95 = .ok (.goto 56, 3) := by decide +kernel
def Q_rmA2 (Z : State) (a1 : Addr) (p2 : Int32) (h0 : Heap) (n0 : Nat) (v : Option Value) (h : Heap) (L : List Loc) : Prop := v = some (.int (if p2 < (0 : Int32) then (1 : Int32) else (0 : Int32))) ∧ Fr n0 L ∧ h = h0
set_option maxRecDepth 65536 in
set_option maxHeartbeats 40000000 in
theorem rmA2 (l : Launch) (Z : State) (a0 : Array Value) (hw : ∀ d ∈ tables_1, d.before a0 Z = true) (ws : List Jvm.Cond) (a1 : Addr) (p2 : Int32) (h0 : Heap) (n0 : Nat) (Z0 : n0 ≤ h0.size) (Fo : Fld Z h0 a1 "java/lang/Enum" "ordinal" "I" (.int (2 : Int32))) (E1 : Exa Z h0 a1 "com/example/firm_store/firmstore/Operator") :
    MetFree l (⟨"com/example/firm_store/firmstore/Operator", "admits", "(I)Z"⟩ : MethodName) (head1 (Jvm.Cond.code (⟨"com/example/firm_store/firmstore/Operator", "admits", "(I)Z"⟩ : MethodName) prog_10_method_6_code 2 (some .boolean) :: ws) ({ frames := 1, cells := 0, slots := 0, locals := 12 } : Room)) (fun a U => a = #[(.ref a1), (.int p2)] ∧ Z.Warmed39 U.vm ∧ U.heap = h0) (fun _ _ _ _ _ => True) (fun _ U o U' => ∃ v L, o = .returned v ∧ Q_rmA2 Z a1 p2 h0 n0 v U'.heap L ∧ FrameEnd U o U' L ({ frames := 1, cells := 0, slots := 0, locals := 12 } : Room).cells ({ frames := 1, cells := 0, slots := 0, locals := 12 } : Room).slots) := by
  refine MetFree.of_bodySF (plainFor_of_name own_pn1) hisR ?_
  intro p e s m args below meth c s₁ Bd hml0 hP hK
  obtain ⟨rfl, hZ, hh⟩ := hP
  have hx := Bd.exec
  have hby := Bd.bytes
  have hml : c.maxLocals = 2 := hml0
  have hown : s.vm.findClass "com/example/firm_store/firmstore/Operator" = some m.cls := findClass_of_methodNamed Bd.named
  have hnm := (name_of_methodNamed Bd.named Bd.method).1
  have X0 : Stand p l e ({ frames := 1, cells := 0, slots := 0, locals := 12 } : Room) s m #[(.ref a1), (.int p2)] below meth c s₁ [] 0 0 := Stand.of_body Bd
  have e0 : s₁.heap = h0 := by rw [← hh, Bd.state]; rfl
  have N0 := Fr.nil n0
  have R0 : ∀ t, Steps p.tables e below (s₁.setTop (mkF m 0 #[.val (.ref a1), .val (.int p2)] [])) t → Steps p.tables e below (s₁.setTop (entryFrame m #[(.ref a1), (.int p2)] 2)) t := fun t k => castTop (own_ef_rmA2 m a1 p2) k
  have R1 : ∀ t, Steps p.tables e below (s₁.setTop (mkF m 1 #[.val (.ref a1), .val (.int p2)] [(.ref a1)])) t → Steps p.tables e below (s₁.setTop (entryFrame m #[(.ref a1), (.int p2)] 2)) t := by
    intro t k
    refine R0 t ?_
    show Steps p.tables e below (s₁.setTop (mkF m 0 #[.val (.ref a1), .val (.int p2)] [])) _
    refine XS.aloadN X0.here hx rfl (hb hby own_d1_0) rfl rfl ?_
    exact k
  obtain ⟨cq2, kq2, q2a, q2b, q2c⟩ := isOf hZ e0 E1
  obtain ⟨_, _, ⟨T2, L2, k2, n2⟩, -, X2, ⟨Lc2, hQ2, l2, y2, z2⟩, st2⟩ := X0.virtualBackUp hx (x := (⟨"com/example/firm_store/firmstore/Operator", "ordinal", "()I"⟩ : MethodName)) (y := (⟨"java/lang/Enum", "ordinal", "()I"⟩ : MethodName)) hown (mvT hZ (hw _ (List.mem_of_getElem? (i := 9) rfl))) (mvT hZ (hw _ (List.mem_of_getElem? (i := 10) rfl))) (mvT hZ (hw _ (List.mem_of_getElem? (i := 11) rfl))) (by decide) (mvT hZ (hw _ (List.mem_of_getElem? (i := 13) rfl))) (mvT hZ (hw _ (List.mem_of_getElem? (i := 12) rfl))) (backOf (W := 0) (rmO l Z a0 hw [] a1 (2 : Int32) h0 n0 Z0 Fo) hZ (hw _ (List.mem_of_getElem? (i := 15) rfl)) (hw _ (List.mem_of_getElem? (i := 14) rfl)) (by decide) (by decide)) q2a q2c (g := (mkF m 1 #[.val (.ref a1), .val (.int p2)] [(.ref a1)])) rfl (by rw [hml]; rfl) (Steps.refl _) (argsL := []) (rest := []) (lenOf own_pd1 rfl) rfl (by show 2 * 0 + _ ≤ _; exact Nat.le_of_eq rfl) (hb hby own_d1_1) (fun _ _ => ⟨rfl, e0, (by decide : 0 + 0 ≤ _), (by decide : 0 + 0 ≤ _)⟩)
  dsimp only [Pt.U, Pt.locs, Pt.cells, Pt.slots] at X2 l2 y2 z2 st2 hQ2
  subst l2 y2 z2
  obtain ⟨rfl, Nq2, eq2⟩ := hQ2
  have N2 := Fr.app N0 Nq2
  have R2 : ∀ t, Steps p.tables e below (T2.setTop (mkF m 4 #[.val (.ref a1), .val (.int p2)] [(.int (2 : Int32))])) t → Steps p.tables e below (s₁.setTop (entryFrame m #[(.ref a1), (.int p2)] 2)) t := fun t k => R1 t (st2.trans k)
  have R3 : ∀ t, Steps p.tables e below (T2.setTop (mkF m 86 #[.val (.ref a1), .val (.int p2)] [])) t → Steps p.tables e below (s₁.setTop (entryFrame m #[(.ref a1), (.int p2)] 2)) t := by
    intro t k
    refine R2 t ?_
    show Steps p.tables e below (T2.setTop (mkF m 4 #[.val (.ref a1), .val (.int p2)] [(.int (2 : Int32))])) _
    refine XS.tswIn X2.here hx rfl (o := 82) (pc0 := 4) (pc' := 86) rfl (hb hby own_d1_4) rfl (by decide) (by decide) (by decide) (by decide) ?_
    exact k
  obtain ⟨res, hres, R4⟩ : ∃ (res : Int32), res = (if p2 < (0 : Int32) then (1 : Int32) else (0 : Int32)) ∧ (∀ t, Steps p.tables e below (T2.setTop (mkF m 151 #[.val (.ref a1), .val (.int p2)] [(.int res)])) t → Steps p.tables e below (s₁.setTop (entryFrame m #[(.ref a1), (.int p2)] 2)) t) := by
    by_cases hc87_0 : p2 < (0 : Int32)
    · refine ⟨(1 : Int32), (by simp only [if_pos hc87_0]), ?_⟩
      intro t k
      refine R3 t ?_
      show Steps p.tables e below (T2.setTop (mkF m 86 #[.val (.ref a1), .val (.int p2)] [])) _
      refine XS.iloadN X2.here hx rfl (hb hby own_d1_86) rfl ?_
      show Steps p.tables e below (T2.setTop (mkF m 87 #[.val (.ref a1), .val (.int p2)] [(.int p2)])) _
      refine XS.ifNo X2.here hx rfl (hb hby own_d1_87) rfl ((if0 _ _).trans (tlt hc87_0).2.1) ?_
      show Steps p.tables e below (T2.setTop (mkF m 90 #[.val (.ref a1), .val (.int p2)] [])) _
      refine XS.iconst X2.here hx rfl (hb hby own_d1_90) ?_
      show Steps p.tables e below (T2.setTop (mkF m 91 #[.val (.ref a1), .val (.int p2)] [(.int (1 : Int32))])) _
      refine XS.goto X2.here hx rfl (pc0 := 91) (pc' := 151) rfl (hb hby own_d1_91) (by decide) (by decide) ?_
      exact k
    · refine ⟨(0 : Int32), (by simp only [if_neg hc87_0]), ?_⟩
      intro t k
      refine R3 t ?_
      show Steps p.tables e below (T2.setTop (mkF m 86 #[.val (.ref a1), .val (.int p2)] [])) _
      refine XS.iloadN X2.here hx rfl (hb hby own_d1_86) rfl ?_
      show Steps p.tables e below (T2.setTop (mkF m 87 #[.val (.ref a1), .val (.int p2)] [(.int p2)])) _
      refine XS.ifYes X2.here hx rfl (pc0 := 87) (pc' := 94) rfl (hb hby own_d1_87) rfl ((if0 _ _).trans (flt hc87_0).2.1) (by decide) (by decide) ?_
      show Steps p.tables e below (T2.setTop (mkF m 94 #[.val (.ref a1), .val (.int p2)] [])) _
      refine XS.iconst X2.here hx rfl (hb hby own_d1_94) ?_
      show Steps p.tables e below (T2.setTop (mkF m 95 #[.val (.ref a1), .val (.int p2)] [(.int (0 : Int32))])) _
      refine XS.goto X2.here hx rfl (pc0 := 95) (pc' := 151) rfl (hb hby own_d1_95) (by decide) (by decide) ?_
      exact k
  subst hres
  obtain ⟨fs, hr, hrun, hended, hW, hsame⟩ := X2.leave (v := some (.int (if p2 < (0 : Int32) then (1 : Int32) else (0 : Int32)))) (fun h => by rw [Bd.returns] at h; cases h)
  refine ⟨_, _, R4 _ ?_, hrun, hended, _, _, rfl, ?_, ⟨_, rfl⟩, hW, hsame.mono (by decide) (by decide)⟩
  · exact retN X2 hx (t := .boolean) Bd.returns (by simp) (hb hby own_d1_151) (by rw [(by (repeat' split) <;> rfl : nar .boolean (if p2 < (0 : Int32) then (1 : Int32) else (0 : Int32)) = (if p2 < (0 : Int32) then (1 : Int32) else (0 : Int32)))]; exact hr)
  · show Q_rmA2 Z a1 p2 h0 n0 _ T2.heap _
    rw [eq2]
    exact ⟨rfl, N2, rfl⟩
theorem own_ef_rmA3 (m : MethodId) (x0 : Addr) (x1 : Int32) : entryFrame m #[(.ref x0), (.int x1)] 2 = mkF m 0 #[.val (.ref x0), .val (.int x1)] [] := by first | (simp [entryFrame, mkF, argsToLocals, Value.category]; done) | rfl
theorem own_d1_98 : decode prog_10_method_6_code 98 = .ok (.iload_n 1, 1) := by decide +kernel
theorem own_d1_99 : decode prog_10_method_6_code 99 = .ok (.ifCond .gt 7, 3) := by decide +kernel
theorem own_d1_106 : decode prog_10_method_6_code 106 = .ok (.iconst 0, 1) := by decide +kernel
theorem own_d1_107 : decode prog_10_method_6_code 107 = .ok (.goto 44, 3) := by decide +kernel
theorem own_d1_102 : decode prog_10_method_6_code 102 = .ok (.iconst 1, 1) := by decide +kernel
theorem own_d1_103 : decode prog_10_method_6_code 103 = .ok (.goto 48, 3) := by decide +kernel
def Q_rmA3 (Z : State) (a1 : Addr) (p2 : Int32) (h0 : Heap) (n0 : Nat) (v : Option Value) (h : Heap) (L : List Loc) : Prop := v = some (.int (if (0 : Int32) < p2 then (0 : Int32) else (1 : Int32))) ∧ Fr n0 L ∧ h = h0
set_option maxRecDepth 65536 in
set_option maxHeartbeats 40000000 in
theorem rmA3 (l : Launch) (Z : State) (a0 : Array Value) (hw : ∀ d ∈ tables_1, d.before a0 Z = true) (ws : List Jvm.Cond) (a1 : Addr) (p2 : Int32) (h0 : Heap) (n0 : Nat) (Z0 : n0 ≤ h0.size) (Fo : Fld Z h0 a1 "java/lang/Enum" "ordinal" "I" (.int (3 : Int32))) (E1 : Exa Z h0 a1 "com/example/firm_store/firmstore/Operator") :
    MetFree l (⟨"com/example/firm_store/firmstore/Operator", "admits", "(I)Z"⟩ : MethodName) (head1 (Jvm.Cond.code (⟨"com/example/firm_store/firmstore/Operator", "admits", "(I)Z"⟩ : MethodName) prog_10_method_6_code 2 (some .boolean) :: ws) ({ frames := 1, cells := 0, slots := 0, locals := 12 } : Room)) (fun a U => a = #[(.ref a1), (.int p2)] ∧ Z.Warmed39 U.vm ∧ U.heap = h0) (fun _ _ _ _ _ => True) (fun _ U o U' => ∃ v L, o = .returned v ∧ Q_rmA3 Z a1 p2 h0 n0 v U'.heap L ∧ FrameEnd U o U' L ({ frames := 1, cells := 0, slots := 0, locals := 12 } : Room).cells ({ frames := 1, cells := 0, slots := 0, locals := 12 } : Room).slots) := by
  refine MetFree.of_bodySF (plainFor_of_name own_pn1) hisR ?_
  intro p e s m args below meth c s₁ Bd hml0 hP hK
  obtain ⟨rfl, hZ, hh⟩ := hP
  have hx := Bd.exec
  have hby := Bd.bytes
  have hml : c.maxLocals = 2 := hml0
  have hown : s.vm.findClass "com/example/firm_store/firmstore/Operator" = some m.cls := findClass_of_methodNamed Bd.named
  have hnm := (name_of_methodNamed Bd.named Bd.method).1
  have X0 : Stand p l e ({ frames := 1, cells := 0, slots := 0, locals := 12 } : Room) s m #[(.ref a1), (.int p2)] below meth c s₁ [] 0 0 := Stand.of_body Bd
  have e0 : s₁.heap = h0 := by rw [← hh, Bd.state]; rfl
  have N0 := Fr.nil n0
  have R0 : ∀ t, Steps p.tables e below (s₁.setTop (mkF m 0 #[.val (.ref a1), .val (.int p2)] [])) t → Steps p.tables e below (s₁.setTop (entryFrame m #[(.ref a1), (.int p2)] 2)) t := fun t k => castTop (own_ef_rmA3 m a1 p2) k
  have R1 : ∀ t, Steps p.tables e below (s₁.setTop (mkF m 1 #[.val (.ref a1), .val (.int p2)] [(.ref a1)])) t → Steps p.tables e below (s₁.setTop (entryFrame m #[(.ref a1), (.int p2)] 2)) t := by
    intro t k
    refine R0 t ?_
    show Steps p.tables e below (s₁.setTop (mkF m 0 #[.val (.ref a1), .val (.int p2)] [])) _
    refine XS.aloadN X0.here hx rfl (hb hby own_d1_0) rfl rfl ?_
    exact k
  obtain ⟨cq2, kq2, q2a, q2b, q2c⟩ := isOf hZ e0 E1
  obtain ⟨_, _, ⟨T2, L2, k2, n2⟩, -, X2, ⟨Lc2, hQ2, l2, y2, z2⟩, st2⟩ := X0.virtualBackUp hx (x := (⟨"com/example/firm_store/firmstore/Operator", "ordinal", "()I"⟩ : MethodName)) (y := (⟨"java/lang/Enum", "ordinal", "()I"⟩ : MethodName)) hown (mvT hZ (hw _ (List.mem_of_getElem? (i := 9) rfl))) (mvT hZ (hw _ (List.mem_of_getElem? (i := 10) rfl))) (mvT hZ (hw _ (List.mem_of_getElem? (i := 11) rfl))) (by decide) (mvT hZ (hw _ (List.mem_of_getElem? (i := 13) rfl))) (mvT hZ (hw _ (List.mem_of_getElem? (i := 12) rfl))) (backOf (W := 0) (rmO l Z a0 hw [] a1 (3 : Int32) h0 n0 Z0 Fo) hZ (hw _ (List.mem_of_getElem? (i := 15) rfl)) (hw _ (List.mem_of_getElem? (i := 14) rfl)) (by decide) (by decide)) q2a q2c (g := (mkF m 1 #[.val (.ref a1), .val (.int p2)] [(.ref a1)])) rfl (by rw [hml]; rfl) (Steps.refl _) (argsL := []) (rest := []) (lenOf own_pd1 rfl) rfl (by show 2 * 0 + _ ≤ _; exact Nat.le_of_eq rfl) (hb hby own_d1_1) (fun _ _ => ⟨rfl, e0, (by decide : 0 + 0 ≤ _), (by decide : 0 + 0 ≤ _)⟩)
  dsimp only [Pt.U, Pt.locs, Pt.cells, Pt.slots] at X2 l2 y2 z2 st2 hQ2
  subst l2 y2 z2
  obtain ⟨rfl, Nq2, eq2⟩ := hQ2
  have N2 := Fr.app N0 Nq2
  have R2 : ∀ t, Steps p.tables e below (T2.setTop (mkF m 4 #[.val (.ref a1), .val (.int p2)] [(.int (3 : Int32))])) t → Steps p.tables e below (s₁.setTop (entryFrame m #[(.ref a1), (.int p2)] 2)) t := fun t k => R1 t (st2.trans k)
  have R3 : ∀ t, Steps p.tables e below (T2.setTop (mkF m 98 #[.val (.ref a1), .val (.int p2)] [])) t → Steps p.tables e below (s₁.setTop (entryFrame m #[(.ref a1), (.int p2)] 2)) t := by
    intro t k
    refine R2 t ?_
    show Steps p.tables e below (T2.setTop (mkF m 4 #[.val (.ref a1), .val (.int p2)] [(.int (3 : Int32))])) _
    refine XS.tswIn X2.here hx rfl (o := 94) (pc0 := 4) (pc' := 98) rfl (hb hby own_d1_4) rfl (by decide) (by decide) (by decide) (by decide) ?_
    exact k
  obtain ⟨res, hres, R4⟩ : ∃ (res : Int32), res = (if (0 : Int32) < p2 then (0 : Int32) else (1 : Int32)) ∧ (∀ t, Steps p.tables e below (T2.setTop (mkF m 151 #[.val (.ref a1), .val (.int p2)] [(.int res)])) t → Steps p.tables e below (s₁.setTop (entryFrame m #[(.ref a1), (.int p2)] 2)) t) := by
    by_cases hc99_0 : (0 : Int32) < p2
    · refine ⟨(0 : Int32), (by simp only [if_pos hc99_0]), ?_⟩
      intro t k
      refine R3 t ?_
      show Steps p.tables e below (T2.setTop (mkF m 98 #[.val (.ref a1), .val (.int p2)] [])) _
      refine XS.iloadN X2.here hx rfl (hb hby own_d1_98) rfl ?_
      show Steps p.tables e below (T2.setTop (mkF m 99 #[.val (.ref a1), .val (.int p2)] [(.int p2)])) _
      refine XS.ifYes X2.here hx rfl (pc0 := 99) (pc' := 106) rfl (hb hby own_d1_99) rfl ((if0 _ _).trans (tlt hc99_0).2.2.1) (by decide) (by decide) ?_
      show Steps p.tables e below (T2.setTop (mkF m 106 #[.val (.ref a1), .val (.int p2)] [])) _
      refine XS.iconst X2.here hx rfl (hb hby own_d1_106) ?_
      show Steps p.tables e below (T2.setTop (mkF m 107 #[.val (.ref a1), .val (.int p2)] [(.int (0 : Int32))])) _
      refine XS.goto X2.here hx rfl (pc0 := 107) (pc' := 151) rfl (hb hby own_d1_107) (by decide) (by decide) ?_
      exact k
    · refine ⟨(1 : Int32), (by simp only [if_neg hc99_0]), ?_⟩
      intro t k
      refine R3 t ?_
      show Steps p.tables e below (T2.setTop (mkF m 98 #[.val (.ref a1), .val (.int p2)] [])) _
      refine XS.iloadN X2.here hx rfl (hb hby own_d1_98) rfl ?_
      show Steps p.tables e below (T2.setTop (mkF m 99 #[.val (.ref a1), .val (.int p2)] [(.int p2)])) _
      refine XS.ifNo X2.here hx rfl (hb hby own_d1_99) rfl ((if0 _ _).trans (flt hc99_0).2.2.1) ?_
      show Steps p.tables e below (T2.setTop (mkF m 102 #[.val (.ref a1), .val (.int p2)] [])) _
      refine XS.iconst X2.here hx rfl (hb hby own_d1_102) ?_
      show Steps p.tables e below (T2.setTop (mkF m 103 #[.val (.ref a1), .val (.int p2)] [(.int (1 : Int32))])) _
      refine XS.goto X2.here hx rfl (pc0 := 103) (pc' := 151) rfl (hb hby own_d1_103) (by decide) (by decide) ?_
      exact k
  subst hres
  obtain ⟨fs, hr, hrun, hended, hW, hsame⟩ := X2.leave (v := some (.int (if (0 : Int32) < p2 then (0 : Int32) else (1 : Int32)))) (fun h => by rw [Bd.returns] at h; cases h)
  refine ⟨_, _, R4 _ ?_, hrun, hended, _, _, rfl, ?_, ⟨_, rfl⟩, hW, hsame.mono (by decide) (by decide)⟩
  · exact retN X2 hx (t := .boolean) Bd.returns (by simp) (hb hby own_d1_151) (by rw [(by (repeat' split) <;> rfl : nar .boolean (if (0 : Int32) < p2 then (0 : Int32) else (1 : Int32)) = (if (0 : Int32) < p2 then (0 : Int32) else (1 : Int32)))]; exact hr)
  · show Q_rmA3 Z a1 p2 h0 n0 _ T2.heap _
    rw [eq2]
    exact ⟨rfl, N2, rfl⟩
theorem own_ef_rmA4 (m : MethodId) (x0 : Addr) (x1 : Int32) : entryFrame m #[(.ref x0), (.int x1)] 2 = mkF m 0 #[.val (.ref x0), .val (.int x1)] [] := by first | (simp [entryFrame, mkF, argsToLocals, Value.category]; done) | rfl
theorem own_d1_110 : decode prog_10_method_6_code 110 = .ok (.iload_n 1, 1) := by decide +kernel
theorem own_d1_111 : decode prog_10_method_6_code 111 = .ok (.ifCond .le 7, 3) := by decide +kernel
theorem own_d1_114 : decode prog_10_method_6_code 114 = .ok (.iconst 1, 1) := by decide +kernel
theorem own_d1_115 : decode prog_10_method_6_code 115 = .ok (.goto 36, 3) := by decide +kernel
theorem own_d1_118 : decode prog_10_method_6_code 118 = .ok (.iconst 0, 1) := by decide +kernel
theorem own_d1_119 : decode prog_10_method_6_code 119 = .ok (.goto 32, 3) := by decide +kernel
def Q_rmA4 (Z : State) (a1 : Addr) (p2 : Int32) (h0 : Heap) (n0 : Nat) (v : Option Value) (h : Heap) (L : List Loc) : Prop := v = some (.int (if (0 : Int32) < p2 then (1 : Int32) else (0 : Int32))) ∧ Fr n0 L ∧ h = h0
set_option maxRecDepth 65536 in
set_option maxHeartbeats 40000000 in
theorem rmA4 (l : Launch) (Z : State) (a0 : Array Value) (hw : ∀ d ∈ tables_1, d.before a0 Z = true) (ws : List Jvm.Cond) (a1 : Addr) (p2 : Int32) (h0 : Heap) (n0 : Nat) (Z0 : n0 ≤ h0.size) (Fo : Fld Z h0 a1 "java/lang/Enum" "ordinal" "I" (.int (4 : Int32))) (E1 : Exa Z h0 a1 "com/example/firm_store/firmstore/Operator") :
    MetFree l (⟨"com/example/firm_store/firmstore/Operator", "admits", "(I)Z"⟩ : MethodName) (head1 (Jvm.Cond.code (⟨"com/example/firm_store/firmstore/Operator", "admits", "(I)Z"⟩ : MethodName) prog_10_method_6_code 2 (some .boolean) :: ws) ({ frames := 1, cells := 0, slots := 0, locals := 12 } : Room)) (fun a U => a = #[(.ref a1), (.int p2)] ∧ Z.Warmed39 U.vm ∧ U.heap = h0) (fun _ _ _ _ _ => True) (fun _ U o U' => ∃ v L, o = .returned v ∧ Q_rmA4 Z a1 p2 h0 n0 v U'.heap L ∧ FrameEnd U o U' L ({ frames := 1, cells := 0, slots := 0, locals := 12 } : Room).cells ({ frames := 1, cells := 0, slots := 0, locals := 12 } : Room).slots) := by
  refine MetFree.of_bodySF (plainFor_of_name own_pn1) hisR ?_
  intro p e s m args below meth c s₁ Bd hml0 hP hK
  obtain ⟨rfl, hZ, hh⟩ := hP
  have hx := Bd.exec
  have hby := Bd.bytes
  have hml : c.maxLocals = 2 := hml0
  have hown : s.vm.findClass "com/example/firm_store/firmstore/Operator" = some m.cls := findClass_of_methodNamed Bd.named
  have hnm := (name_of_methodNamed Bd.named Bd.method).1
  have X0 : Stand p l e ({ frames := 1, cells := 0, slots := 0, locals := 12 } : Room) s m #[(.ref a1), (.int p2)] below meth c s₁ [] 0 0 := Stand.of_body Bd
  have e0 : s₁.heap = h0 := by rw [← hh, Bd.state]; rfl
  have N0 := Fr.nil n0
  have R0 : ∀ t, Steps p.tables e below (s₁.setTop (mkF m 0 #[.val (.ref a1), .val (.int p2)] [])) t → Steps p.tables e below (s₁.setTop (entryFrame m #[(.ref a1), (.int p2)] 2)) t := fun t k => castTop (own_ef_rmA4 m a1 p2) k
  have R1 : ∀ t, Steps p.tables e below (s₁.setTop (mkF m 1 #[.val (.ref a1), .val (.int p2)] [(.ref a1)])) t → Steps p.tables e below (s₁.setTop (entryFrame m #[(.ref a1), (.int p2)] 2)) t := by
    intro t k
    refine R0 t ?_
    show Steps p.tables e below (s₁.setTop (mkF m 0 #[.val (.ref a1), .val (.int p2)] [])) _
    refine XS.aloadN X0.here hx rfl (hb hby own_d1_0) rfl rfl ?_
    exact k
  obtain ⟨cq2, kq2, q2a, q2b, q2c⟩ := isOf hZ e0 E1
  obtain ⟨_, _, ⟨T2, L2, k2, n2⟩, -, X2, ⟨Lc2, hQ2, l2, y2, z2⟩, st2⟩ := X0.virtualBackUp hx (x := (⟨"com/example/firm_store/firmstore/Operator", "ordinal", "()I"⟩ : MethodName)) (y := (⟨"java/lang/Enum", "ordinal", "()I"⟩ : MethodName)) hown (mvT hZ (hw _ (List.mem_of_getElem? (i := 9) rfl))) (mvT hZ (hw _ (List.mem_of_getElem? (i := 10) rfl))) (mvT hZ (hw _ (List.mem_of_getElem? (i := 11) rfl))) (by decide) (mvT hZ (hw _ (List.mem_of_getElem? (i := 13) rfl))) (mvT hZ (hw _ (List.mem_of_getElem? (i := 12) rfl))) (backOf (W := 0) (rmO l Z a0 hw [] a1 (4 : Int32) h0 n0 Z0 Fo) hZ (hw _ (List.mem_of_getElem? (i := 15) rfl)) (hw _ (List.mem_of_getElem? (i := 14) rfl)) (by decide) (by decide)) q2a q2c (g := (mkF m 1 #[.val (.ref a1), .val (.int p2)] [(.ref a1)])) rfl (by rw [hml]; rfl) (Steps.refl _) (argsL := []) (rest := []) (lenOf own_pd1 rfl) rfl (by show 2 * 0 + _ ≤ _; exact Nat.le_of_eq rfl) (hb hby own_d1_1) (fun _ _ => ⟨rfl, e0, (by decide : 0 + 0 ≤ _), (by decide : 0 + 0 ≤ _)⟩)
  dsimp only [Pt.U, Pt.locs, Pt.cells, Pt.slots] at X2 l2 y2 z2 st2 hQ2
  subst l2 y2 z2
  obtain ⟨rfl, Nq2, eq2⟩ := hQ2
  have N2 := Fr.app N0 Nq2
  have R2 : ∀ t, Steps p.tables e below (T2.setTop (mkF m 4 #[.val (.ref a1), .val (.int p2)] [(.int (4 : Int32))])) t → Steps p.tables e below (s₁.setTop (entryFrame m #[(.ref a1), (.int p2)] 2)) t := fun t k => R1 t (st2.trans k)
  have R3 : ∀ t, Steps p.tables e below (T2.setTop (mkF m 110 #[.val (.ref a1), .val (.int p2)] [])) t → Steps p.tables e below (s₁.setTop (entryFrame m #[(.ref a1), (.int p2)] 2)) t := by
    intro t k
    refine R2 t ?_
    show Steps p.tables e below (T2.setTop (mkF m 4 #[.val (.ref a1), .val (.int p2)] [(.int (4 : Int32))])) _
    refine XS.tswIn X2.here hx rfl (o := 106) (pc0 := 4) (pc' := 110) rfl (hb hby own_d1_4) rfl (by decide) (by decide) (by decide) (by decide) ?_
    exact k
  obtain ⟨res, hres, R4⟩ : ∃ (res : Int32), res = (if (0 : Int32) < p2 then (1 : Int32) else (0 : Int32)) ∧ (∀ t, Steps p.tables e below (T2.setTop (mkF m 151 #[.val (.ref a1), .val (.int p2)] [(.int res)])) t → Steps p.tables e below (s₁.setTop (entryFrame m #[(.ref a1), (.int p2)] 2)) t) := by
    by_cases hc111_0 : (0 : Int32) < p2
    · refine ⟨(1 : Int32), (by simp only [if_pos hc111_0]), ?_⟩
      intro t k
      refine R3 t ?_
      show Steps p.tables e below (T2.setTop (mkF m 110 #[.val (.ref a1), .val (.int p2)] [])) _
      refine XS.iloadN X2.here hx rfl (hb hby own_d1_110) rfl ?_
      show Steps p.tables e below (T2.setTop (mkF m 111 #[.val (.ref a1), .val (.int p2)] [(.int p2)])) _
      refine XS.ifNo X2.here hx rfl (hb hby own_d1_111) rfl ((if0 _ _).trans (tlt hc111_0).2.2.2) ?_
      show Steps p.tables e below (T2.setTop (mkF m 114 #[.val (.ref a1), .val (.int p2)] [])) _
      refine XS.iconst X2.here hx rfl (hb hby own_d1_114) ?_
      show Steps p.tables e below (T2.setTop (mkF m 115 #[.val (.ref a1), .val (.int p2)] [(.int (1 : Int32))])) _
      refine XS.goto X2.here hx rfl (pc0 := 115) (pc' := 151) rfl (hb hby own_d1_115) (by decide) (by decide) ?_
      exact k
    · refine ⟨(0 : Int32), (by simp only [if_neg hc111_0]), ?_⟩
      intro t k
      refine R3 t ?_
      show Steps p.tables e below (T2.setTop (mkF m 110 #[.val (.ref a1), .val (.int p2)] [])) _
      refine XS.iloadN X2.here hx rfl (hb hby own_d1_110) rfl ?_
      show Steps p.tables e below (T2.setTop (mkF m 111 #[.val (.ref a1), .val (.int p2)] [(.int p2)])) _
      refine XS.ifYes X2.here hx rfl (pc0 := 111) (pc' := 118) rfl (hb hby own_d1_111) rfl ((if0 _ _).trans (flt hc111_0).2.2.2) (by decide) (by decide) ?_
      show Steps p.tables e below (T2.setTop (mkF m 118 #[.val (.ref a1), .val (.int p2)] [])) _
      refine XS.iconst X2.here hx rfl (hb hby own_d1_118) ?_
      show Steps p.tables e below (T2.setTop (mkF m 119 #[.val (.ref a1), .val (.int p2)] [(.int (0 : Int32))])) _
      refine XS.goto X2.here hx rfl (pc0 := 119) (pc' := 151) rfl (hb hby own_d1_119) (by decide) (by decide) ?_
      exact k
  subst hres
  obtain ⟨fs, hr, hrun, hended, hW, hsame⟩ := X2.leave (v := some (.int (if (0 : Int32) < p2 then (1 : Int32) else (0 : Int32)))) (fun h => by rw [Bd.returns] at h; cases h)
  refine ⟨_, _, R4 _ ?_, hrun, hended, _, _, rfl, ?_, ⟨_, rfl⟩, hW, hsame.mono (by decide) (by decide)⟩
  · exact retN X2 hx (t := .boolean) Bd.returns (by simp) (hb hby own_d1_151) (by rw [(by (repeat' split) <;> rfl : nar .boolean (if (0 : Int32) < p2 then (1 : Int32) else (0 : Int32)) = (if (0 : Int32) < p2 then (1 : Int32) else (0 : Int32)))]; exact hr)
  · show Q_rmA4 Z a1 p2 h0 n0 _ T2.heap _
    rw [eq2]
    exact ⟨rfl, N2, rfl⟩
theorem own_ef_rmA5 (m : MethodId) (x0 : Addr) (x1 : Int32) : entryFrame m #[(.ref x0), (.int x1)] 2 = mkF m 0 #[.val (.ref x0), .val (.int x1)] [] := by first | (simp [entryFrame, mkF, argsToLocals, Value.category]; done) | rfl
theorem own_d1_122 : decode prog_10_method_6_code 122 = .ok (.iload_n 1, 1) := by decide +kernel
theorem own_d1_123 : decode prog_10_method_6_code 123 = .ok (.ifCond .lt 7, 3) := by decide +kernel
theorem own_d1_130 : decode prog_10_method_6_code 130 = .ok (.iconst 0, 1) := by decide +kernel
theorem own_d1_131 : decode prog_10_method_6_code 131 = .ok (.goto 20, 3) := by decide +kernel
theorem own_d1_126 : decode prog_10_method_6_code 126 = .ok (.iconst 1, 1) := by decide +kernel
theorem own_d1_127 : decode prog_10_method_6_code 127 = .ok (.goto 24, 3) := by decide +kernel
def Q_rmA5 (Z : State) (a1 : Addr) (p2 : Int32) (h0 : Heap) (n0 : Nat) (v : Option Value) (h : Heap) (L : List Loc) : Prop := v = some (.int (if p2 < (0 : Int32) then (0 : Int32) else (1 : Int32))) ∧ Fr n0 L ∧ h = h0
set_option maxRecDepth 65536 in
set_option maxHeartbeats 40000000 in
theorem rmA5 (l : Launch) (Z : State) (a0 : Array Value) (hw : ∀ d ∈ tables_1, d.before a0 Z = true) (ws : List Jvm.Cond) (a1 : Addr) (p2 : Int32) (h0 : Heap) (n0 : Nat) (Z0 : n0 ≤ h0.size) (Fo : Fld Z h0 a1 "java/lang/Enum" "ordinal" "I" (.int (5 : Int32))) (E1 : Exa Z h0 a1 "com/example/firm_store/firmstore/Operator") :
    MetFree l (⟨"com/example/firm_store/firmstore/Operator", "admits", "(I)Z"⟩ : MethodName) (head1 (Jvm.Cond.code (⟨"com/example/firm_store/firmstore/Operator", "admits", "(I)Z"⟩ : MethodName) prog_10_method_6_code 2 (some .boolean) :: ws) ({ frames := 1, cells := 0, slots := 0, locals := 12 } : Room)) (fun a U => a = #[(.ref a1), (.int p2)] ∧ Z.Warmed39 U.vm ∧ U.heap = h0) (fun _ _ _ _ _ => True) (fun _ U o U' => ∃ v L, o = .returned v ∧ Q_rmA5 Z a1 p2 h0 n0 v U'.heap L ∧ FrameEnd U o U' L ({ frames := 1, cells := 0, slots := 0, locals := 12 } : Room).cells ({ frames := 1, cells := 0, slots := 0, locals := 12 } : Room).slots) := by
  refine MetFree.of_bodySF (plainFor_of_name own_pn1) hisR ?_
  intro p e s m args below meth c s₁ Bd hml0 hP hK
  obtain ⟨rfl, hZ, hh⟩ := hP
  have hx := Bd.exec
  have hby := Bd.bytes
  have hml : c.maxLocals = 2 := hml0
  have hown : s.vm.findClass "com/example/firm_store/firmstore/Operator" = some m.cls := findClass_of_methodNamed Bd.named
  have hnm := (name_of_methodNamed Bd.named Bd.method).1
  have X0 : Stand p l e ({ frames := 1, cells := 0, slots := 0, locals := 12 } : Room) s m #[(.ref a1), (.int p2)] below meth c s₁ [] 0 0 := Stand.of_body Bd
  have e0 : s₁.heap = h0 := by rw [← hh, Bd.state]; rfl
  have N0 := Fr.nil n0
  have R0 : ∀ t, Steps p.tables e below (s₁.setTop (mkF m 0 #[.val (.ref a1), .val (.int p2)] [])) t → Steps p.tables e below (s₁.setTop (entryFrame m #[(.ref a1), (.int p2)] 2)) t := fun t k => castTop (own_ef_rmA5 m a1 p2) k
  have R1 : ∀ t, Steps p.tables e below (s₁.setTop (mkF m 1 #[.val (.ref a1), .val (.int p2)] [(.ref a1)])) t → Steps p.tables e below (s₁.setTop (entryFrame m #[(.ref a1), (.int p2)] 2)) t := by
    intro t k
    refine R0 t ?_
    show Steps p.tables e below (s₁.setTop (mkF m 0 #[.val (.ref a1), .val (.int p2)] [])) _
    refine XS.aloadN X0.here hx rfl (hb hby own_d1_0) rfl rfl ?_
    exact k
  obtain ⟨cq2, kq2, q2a, q2b, q2c⟩ := isOf hZ e0 E1
  obtain ⟨_, _, ⟨T2, L2, k2, n2⟩, -, X2, ⟨Lc2, hQ2, l2, y2, z2⟩, st2⟩ := X0.virtualBackUp hx (x := (⟨"com/example/firm_store/firmstore/Operator", "ordinal", "()I"⟩ : MethodName)) (y := (⟨"java/lang/Enum", "ordinal", "()I"⟩ : MethodName)) hown (mvT hZ (hw _ (List.mem_of_getElem? (i := 9) rfl))) (mvT hZ (hw _ (List.mem_of_getElem? (i := 10) rfl))) (mvT hZ (hw _ (List.mem_of_getElem? (i := 11) rfl))) (by decide) (mvT hZ (hw _ (List.mem_of_getElem? (i := 13) rfl))) (mvT hZ (hw _ (List.mem_of_getElem? (i := 12) rfl))) (backOf (W := 0) (rmO l Z a0 hw [] a1 (5 : Int32) h0 n0 Z0 Fo) hZ (hw _ (List.mem_of_getElem? (i := 15) rfl)) (hw _ (List.mem_of_getElem? (i := 14) rfl)) (by decide) (by decide)) q2a q2c (g := (mkF m 1 #[.val (.ref a1), .val (.int p2)] [(.ref a1)])) rfl (by rw [hml]; rfl) (Steps.refl _) (argsL := []) (rest := []) (lenOf own_pd1 rfl) rfl (by show 2 * 0 + _ ≤ _; exact Nat.le_of_eq rfl) (hb hby own_d1_1) (fun _ _ => ⟨rfl, e0, (by decide : 0 + 0 ≤ _), (by decide : 0 + 0 ≤ _)⟩)
  dsimp only [Pt.U, Pt.locs, Pt.cells, Pt.slots] at X2 l2 y2 z2 st2 hQ2
  subst l2 y2 z2
  obtain ⟨rfl, Nq2, eq2⟩ := hQ2
  have N2 := Fr.app N0 Nq2
  have R2 : ∀ t, Steps p.tables e below (T2.setTop (mkF m 4 #[.val (.ref a1), .val (.int p2)] [(.int (5 : Int32))])) t → Steps p.tables e below (s₁.setTop (entryFrame m #[(.ref a1), (.int p2)] 2)) t := fun t k => R1 t (st2.trans k)
  have R3 : ∀ t, Steps p.tables e below (T2.setTop (mkF m 122 #[.val (.ref a1), .val (.int p2)] [])) t → Steps p.tables e below (s₁.setTop (entryFrame m #[(.ref a1), (.int p2)] 2)) t := by
    intro t k
    refine R2 t ?_
    show Steps p.tables e below (T2.setTop (mkF m 4 #[.val (.ref a1), .val (.int p2)] [(.int (5 : Int32))])) _
    refine XS.tswIn X2.here hx rfl (o := 118) (pc0 := 4) (pc' := 122) rfl (hb hby own_d1_4) rfl (by decide) (by decide) (by decide) (by decide) ?_
    exact k
  obtain ⟨res, hres, R4⟩ : ∃ (res : Int32), res = (if p2 < (0 : Int32) then (0 : Int32) else (1 : Int32)) ∧ (∀ t, Steps p.tables e below (T2.setTop (mkF m 151 #[.val (.ref a1), .val (.int p2)] [(.int res)])) t → Steps p.tables e below (s₁.setTop (entryFrame m #[(.ref a1), (.int p2)] 2)) t) := by
    by_cases hc123_0 : p2 < (0 : Int32)
    · refine ⟨(0 : Int32), (by simp only [if_pos hc123_0]), ?_⟩
      intro t k
      refine R3 t ?_
      show Steps p.tables e below (T2.setTop (mkF m 122 #[.val (.ref a1), .val (.int p2)] [])) _
      refine XS.iloadN X2.here hx rfl (hb hby own_d1_122) rfl ?_
      show Steps p.tables e below (T2.setTop (mkF m 123 #[.val (.ref a1), .val (.int p2)] [(.int p2)])) _
      refine XS.ifYes X2.here hx rfl (pc0 := 123) (pc' := 130) rfl (hb hby own_d1_123) rfl ((if0 _ _).trans (tlt hc123_0).1) (by decide) (by decide) ?_
      show Steps p.tables e below (T2.setTop (mkF m 130 #[.val (.ref a1), .val (.int p2)] [])) _
      refine XS.iconst X2.here hx rfl (hb hby own_d1_130) ?_
      show Steps p.tables e below (T2.setTop (mkF m 131 #[.val (.ref a1), .val (.int p2)] [(.int (0 : Int32))])) _
      refine XS.goto X2.here hx rfl (pc0 := 131) (pc' := 151) rfl (hb hby own_d1_131) (by decide) (by decide) ?_
      exact k
    · refine ⟨(1 : Int32), (by simp only [if_neg hc123_0]), ?_⟩
      intro t k
      refine R3 t ?_
      show Steps p.tables e below (T2.setTop (mkF m 122 #[.val (.ref a1), .val (.int p2)] [])) _
      refine XS.iloadN X2.here hx rfl (hb hby own_d1_122) rfl ?_
      show Steps p.tables e below (T2.setTop (mkF m 123 #[.val (.ref a1), .val (.int p2)] [(.int p2)])) _
      refine XS.ifNo X2.here hx rfl (hb hby own_d1_123) rfl ((if0 _ _).trans (flt hc123_0).1) ?_
      show Steps p.tables e below (T2.setTop (mkF m 126 #[.val (.ref a1), .val (.int p2)] [])) _
      refine XS.iconst X2.here hx rfl (hb hby own_d1_126) ?_
      show Steps p.tables e below (T2.setTop (mkF m 127 #[.val (.ref a1), .val (.int p2)] [(.int (1 : Int32))])) _
      refine XS.goto X2.here hx rfl (pc0 := 127) (pc' := 151) rfl (hb hby own_d1_127) (by decide) (by decide) ?_
      exact k
  subst hres
  obtain ⟨fs, hr, hrun, hended, hW, hsame⟩ := X2.leave (v := some (.int (if p2 < (0 : Int32) then (0 : Int32) else (1 : Int32)))) (fun h => by rw [Bd.returns] at h; cases h)
  refine ⟨_, _, R4 _ ?_, hrun, hended, _, _, rfl, ?_, ⟨_, rfl⟩, hW, hsame.mono (by decide) (by decide)⟩
  · exact retN X2 hx (t := .boolean) Bd.returns (by simp) (hb hby own_d1_151) (by rw [(by (repeat' split) <;> rfl : nar .boolean (if p2 < (0 : Int32) then (0 : Int32) else (1 : Int32)) = (if p2 < (0 : Int32) then (0 : Int32) else (1 : Int32)))]; exact hr)
  · show Q_rmA5 Z a1 p2 h0 n0 _ T2.heap _
    rw [eq2]
    exact ⟨rfl, N2, rfl⟩
theorem own_pn2 : plainName "com/example/firm_store/firmstore/OperatorAdmitsPinLaw" = true := by first | (simp [plainName, overriddenIn]; done) | decide +kernel
theorem own_ef_rm0 (m : MethodId) (x0 : Int32) (x1 : Int32) : entryFrame m #[(.int x0), (.int x1)] maxLocals = mkF m 0 #[.val (.int x0), .val (.int x1), .unset, .unset, .unset, .unset, .unset] [] := by first | (simp [entryFrame, mkF, argsToLocals, Value.category, maxLocals]; done) | rfl
theorem own_pd0 : parseMethodDescriptor "(I)Z" = some ⟨[.int], some .boolean⟩ := by decide +kernel
def Q_rm0 (Z : State) (p1 p2 : Int32) (aEQ aNE aLT aLE aGT aGE : Addr) (h0 : Heap) (n0 : Nat) (v : Option Value) (h : Heap) (L : List Loc) : Prop := v = some (.int 1) ∧ Fr n0 L
set_option maxRecDepth 65536 in
set_option maxHeartbeats 40000000 in
theorem rm0 (l : Launch) (Z : State) (a0 : Array Value) (hw : ∀ d ∈ tables_1, d.before a0 Z = true) (ws : List Jvm.Cond) (p1 p2 : Int32) (aEQ aNE aLT aLE aGT aGE : Addr) (h0 : Heap) (n0 : Nat) (Z0 : n0 ≤ h0.size) (SEQ : Sta Z h0 "com/example/firm_store/firmstore/Operator" "EQ" "Lcom/example/firm_store/firmstore/Operator;" (.ref aEQ)) (EEQ : Exa Z h0 aEQ "com/example/firm_store/firmstore/Operator") (FEQ : Fld Z h0 aEQ "java/lang/Enum" "ordinal" "I" (.int (0 : Int32))) (SNE : Sta Z h0 "com/example/firm_store/firmstore/Operator" "NE" "Lcom/example/firm_store/firmstore/Operator;" (.ref aNE)) (ENE : Exa Z h0 aNE "com/example/firm_store/firmstore/Operator") (FNE : Fld Z h0 aNE "java/lang/Enum" "ordinal" "I" (.int (1 : Int32))) (SLT : Sta Z h0 "com/example/firm_store/firmstore/Operator" "LT" "Lcom/example/firm_store/firmstore/Operator;" (.ref aLT)) (ELT : Exa Z h0 aLT "com/example/firm_store/firmstore/Operator") (FLT : Fld Z h0 aLT "java/lang/Enum" "ordinal" "I" (.int (2 : Int32))) (SLE : Sta Z h0 "com/example/firm_store/firmstore/Operator" "LE" "Lcom/example/firm_store/firmstore/Operator;" (.ref aLE)) (ELE : Exa Z h0 aLE "com/example/firm_store/firmstore/Operator") (FLE : Fld Z h0 aLE "java/lang/Enum" "ordinal" "I" (.int (3 : Int32))) (SGT : Sta Z h0 "com/example/firm_store/firmstore/Operator" "GT" "Lcom/example/firm_store/firmstore/Operator;" (.ref aGT)) (EGT : Exa Z h0 aGT "com/example/firm_store/firmstore/Operator") (FGT : Fld Z h0 aGT "java/lang/Enum" "ordinal" "I" (.int (4 : Int32))) (SGE : Sta Z h0 "com/example/firm_store/firmstore/Operator" "GE" "Lcom/example/firm_store/firmstore/Operator;" (.ref aGE)) (EGE : Exa Z h0 aGE "com/example/firm_store/firmstore/Operator") (FGE : Fld Z h0 aGE "java/lang/Enum" "ordinal" "I" (.int (5 : Int32))) :
    MetFree l x (head1 (Jvm.Cond.code x code maxLocals ret :: ws) room_1) (fun a U => a = #[(.int p1), (.int p2)] ∧ Z.Warmed39 U.vm ∧ U.heap = h0) (fun _ _ _ _ _ => True) (fun _ U o U' => ∃ v L, o = .returned v ∧ Q_rm0 Z p1 p2 aEQ aNE aLT aLE aGT aGE h0 n0 v U'.heap L ∧ FrameEnd U o U' L room_1.cells room_1.slots) := by
  refine MetFree.of_bodySF (plainFor_of_name own_pn2) hisR ?_
  intro p e s m args below meth c s₁ Bd hml0 hP hK
  obtain ⟨rfl, hZ, hh⟩ := hP
  have hx := Bd.exec
  have hby := Bd.bytes
  have hml : c.maxLocals = 7 := hml0
  have hown : s.vm.findClass "com/example/firm_store/firmstore/OperatorAdmitsPinLaw" = some m.cls := findClass_of_methodNamed Bd.named
  have hnm := (name_of_methodNamed Bd.named Bd.method).1
  have X0 : Stand p l e room_1 s m #[(.int p1), (.int p2)] below meth c s₁ [] 0 0 := Stand.of_body Bd
  have e0 : s₁.heap = h0 := by rw [← hh, Bd.state]; rfl
  have N0 := Fr.nil n0
  have R0 : ∀ t, Steps p.tables e below (s₁.setTop (mkF m 0 #[.val (.int p1), .val (.int p2), .unset, .unset, .unset, .unset, .unset] [])) t → Steps p.tables e below (s₁.setTop (entryFrame m #[(.int p1), (.int p2)] maxLocals)) t := fun t k => castTop (own_ef_rm0 m p1 p2) k
  have R1 : ∀ t, Steps p.tables e below (s₁.setTop (mkF m 8 #[.val (.int p1), .val (.int p2), .val (.int ((p1 &&& (2147483647 : Int32)) % (6 : Int32))), .unset, .unset, .unset, .unset] [])) t → Steps p.tables e below (s₁.setTop (entryFrame m #[(.int p1), (.int p2)] maxLocals)) t := by
    intro t k
    refine R0 t ?_
    show Steps p.tables e below (s₁.setTop (mkF m 0 #[.val (.int p1), .val (.int p2), .unset, .unset, .unset, .unset, .unset] [])) _
    refine XS.iloadN X0.here hx rfl (hb hby at_0) rfl ?_
    show Steps p.tables e below (s₁.setTop (mkF m 1 #[.val (.int p1), .val (.int p2), .unset, .unset, .unset, .unset, .unset] [(.int p1)])) _
    refine X0.ldcInt hx hown (mvT hZ (hw _ (List.mem_of_getElem? (i := 0) rfl))) (g := (mkF m 1 #[.val (.int p1), .val (.int p2), .unset, .unset, .unset, .unset, .unset] [(.int p1)])) rfl (hb hby at_1) _ ?_
    show Steps p.tables e below (s₁.setTop (mkF m 3 #[.val (.int p1), .val (.int p2), .unset, .unset, .unset, .unset, .unset] [(.int (2147483647 : Int32)), (.int p1)])) _
    refine XS.iand X0.here hx rfl (hb hby at_3) rfl ?_
    show Steps p.tables e below (s₁.setTop (mkF m 4 #[.val (.int p1), .val (.int p2), .unset, .unset, .unset, .unset, .unset] [(.int (p1 &&& (2147483647 : Int32)))])) _
    refine XS.bipush X0.here hx rfl (hb hby at_4) ?_
    show Steps p.tables e below (s₁.setTop (mkF m 6 #[.val (.int p1), .val (.int p2), .unset, .unset, .unset, .unset, .unset] [(.int (6 : Int32)), (.int (p1 &&& (2147483647 : Int32)))])) _
    refine iremM X0 hx rfl (hb hby at_6) rfl (by decide) ?_
    show Steps p.tables e below (s₁.setTop (mkF m 7 #[.val (.int p1), .val (.int p2), .unset, .unset, .unset, .unset, .unset] [(.int ((p1 &&& (2147483647 : Int32)) % (6 : Int32)))])) _
    refine XS.istoreN X0.here hx rfl (hb hby at_7) rfl (l' := #[.val (.int p1), .val (.int p2), .val (.int ((p1 &&& (2147483647 : Int32)) % (6 : Int32))), .unset, .unset, .unset, .unset]) rfl ?_
    exact k
  rcases own_mod6 p1 with hk | hk | hk | hk | hk | hk
  · have R2 : ∀ t, Steps p.tables e below (s₁.setTop (mkF m 8 #[.val (.int p1), .val (.int p2), .val (.int (0 : Int32)), .unset, .unset, .unset, .unset] [])) t → Steps p.tables e below (s₁.setTop (entryFrame m #[(.int p1), (.int p2)] maxLocals)) t := by rw [(hk : ((p1 &&& (2147483647 : Int32)) % (6 : Int32)) = (0 : Int32))] at R1; exact R1
    have R3 : ∀ t, Steps p.tables e below (s₁.setTop (mkF m 12 #[.val (.int p1), .val (.int p2), .val (.int (0 : Int32)), .unset, .unset, .unset, .unset] [])) t → Steps p.tables e below (s₁.setTop (entryFrame m #[(.int p1), (.int p2)] maxLocals)) t := by
      intro t k
      refine R2 t ?_
      show Steps p.tables e below (s₁.setTop (mkF m 8 #[.val (.int p1), .val (.int p2), .val (.int (0 : Int32)), .unset, .unset, .unset, .unset] [])) _
      refine XS.iloadN X0.here hx rfl (hb hby at_8) rfl ?_
      show Steps p.tables e below (s₁.setTop (mkF m 9 #[.val (.int p1), .val (.int p2), .val (.int (0 : Int32)), .unset, .unset, .unset, .unset] [(.int (0 : Int32))])) _
      refine XS.ifNo X0.here hx rfl (hb hby at_9) rfl ((if0 _ _).trans (teq (by decide : ((0 : Int32) = (0 : Int32)))).2) ?_
      exact k
    obtain ⟨T4, X4, e4, st4⟩ := getS2 X0 hx hZ hown (host := "") (Or.inl (hw _ (List.mem_of_getElem? (i := 1) rfl))) Via.refl e0 SEQ (g := (mkF m 12 #[.val (.int p1), .val (.int p2), .val (.int (0 : Int32)), .unset, .unset, .unset, .unset] [])) rfl (hb hby at_12)
    have R4 : ∀ t, Steps p.tables e below (T4.setTop (mkF m 15 #[.val (.int p1), .val (.int p2), .val (.int (0 : Int32)), .unset, .unset, .unset, .unset] [(.ref aEQ)])) t → Steps p.tables e below (s₁.setTop (entryFrame m #[(.int p1), (.int p2)] maxLocals)) t := fun t k => R3 t (st4 t k)
    have R5 : ∀ t, Steps p.tables e below (T4.setTop (mkF m 90 #[.val (.int p1), .val (.int p2), .val (.int (0 : Int32)), .val (.ref aEQ), .val (.int (2 : Int32)), .unset, .unset] [])) t → Steps p.tables e below (s₁.setTop (entryFrame m #[(.int p1), (.int p2)] maxLocals)) t := by
      intro t k
      refine R4 t ?_
      show Steps p.tables e below (T4.setTop (mkF m 15 #[.val (.int p1), .val (.int p2), .val (.int (0 : Int32)), .unset, .unset, .unset, .unset] [(.ref aEQ)])) _
      refine XS.astoreN X4.here hx rfl (hb hby at_15) rfl rfl (l' := #[.val (.int p1), .val (.int p2), .val (.int (0 : Int32)), .val (.ref aEQ), .unset, .unset, .unset]) rfl ?_
      show Steps p.tables e below (T4.setTop (mkF m 16 #[.val (.int p1), .val (.int p2), .val (.int (0 : Int32)), .val (.ref aEQ), .unset, .unset, .unset] [])) _
      refine XS.iconst X4.here hx rfl (hb hby at_16) ?_
      show Steps p.tables e below (T4.setTop (mkF m 17 #[.val (.int p1), .val (.int p2), .val (.int (0 : Int32)), .val (.ref aEQ), .unset, .unset, .unset] [(.int (2 : Int32))])) _
      refine XS.istore X4.here hx rfl (hb hby at_17) rfl (l' := #[.val (.int p1), .val (.int p2), .val (.int (0 : Int32)), .val (.ref aEQ), .val (.int (2 : Int32)), .unset, .unset]) rfl ?_
      show Steps p.tables e below (T4.setTop (mkF m 19 #[.val (.int p1), .val (.int p2), .val (.int (0 : Int32)), .val (.ref aEQ), .val (.int (2 : Int32)), .unset, .unset] [])) _
      refine XS.goto X4.here hx rfl (pc0 := 19) (pc' := 90) rfl (hb hby at_19) (by decide) (by decide) ?_
      exact k
    obtain ⟨sg, hsg, R6⟩ : ∃ (sg : Int32), sg = (if p2 < (0 : Int32) then (0 : Int32) else (if p2 = (0 : Int32) then (1 : Int32) else (2 : Int32))) ∧ (∀ t, Steps p.tables e below (T4.setTop (mkF m 113 #[.val (.int p1), .val (.int p2), .val (.int (0 : Int32)), .val (.ref aEQ), .val (.int (2 : Int32)), .val (.int sg), .unset] [])) t → Steps p.tables e below (s₁.setTop (entryFrame m #[(.int p1), (.int p2)] maxLocals)) t) := by
      by_cases hc91_0 : p2 < (0 : Int32)
      · refine ⟨(0 : Int32), (by simp only [if_pos hc91_0]), ?_⟩
        intro t k
        refine R5 t ?_
        show Steps p.tables e below (T4.setTop (mkF m 90 #[.val (.int p1), .val (.int p2), .val (.int (0 : Int32)), .val (.ref aEQ), .val (.int (2 : Int32)), .unset, .unset] [])) _
        refine XS.iloadN X4.here hx rfl (hb hby at_90) rfl ?_
        show Steps p.tables e below (T4.setTop (mkF m 91 #[.val (.int p1), .val (.int p2), .val (.int (0 : Int32)), .val (.ref aEQ), .val (.int (2 : Int32)), .unset, .unset] [(.int p2)])) _
        refine XS.ifNo X4.here hx rfl (hb hby at_91) rfl ((if0 _ _).trans (tlt hc91_0).2.1) ?_
        show Steps p.tables e below (T4.setTop (mkF m 94 #[.val (.int p1), .val (.int p2), .val (.int (0 : Int32)), .val (.ref aEQ), .val (.int (2 : Int32)), .unset, .unset] [])) _
        refine XS.iconst X4.here hx rfl (hb hby at_94) ?_
        show Steps p.tables e below (T4.setTop (mkF m 95 #[.val (.int p1), .val (.int p2), .val (.int (0 : Int32)), .val (.ref aEQ), .val (.int (2 : Int32)), .unset, .unset] [(.int (0 : Int32))])) _
        refine XS.istore X4.here hx rfl (hb hby at_95) rfl (l' := #[.val (.int p1), .val (.int p2), .val (.int (0 : Int32)), .val (.ref aEQ), .val (.int (2 : Int32)), .val (.int (0 : Int32)), .unset]) rfl ?_
        show Steps p.tables e below (T4.setTop (mkF m 97 #[.val (.int p1), .val (.int p2), .val (.int (0 : Int32)), .val (.ref aEQ), .val (.int (2 : Int32)), .val (.int (0 : Int32)), .unset] [])) _
        refine XS.goto X4.here hx rfl (pc0 := 97) (pc' := 113) rfl (hb hby at_97) (by decide) (by decide) ?_
        exact k
      · by_cases hc101_1 : p2 = (0 : Int32)
        · refine ⟨(1 : Int32), (by simp only [if_neg hc91_0, if_pos hc101_1]), ?_⟩
          intro t k
          refine R5 t ?_
          show Steps p.tables e below (T4.setTop (mkF m 90 #[.val (.int p1), .val (.int p2), .val (.int (0 : Int32)), .val (.ref aEQ), .val (.int (2 : Int32)), .unset, .unset] [])) _
          refine XS.iloadN X4.here hx rfl (hb hby at_90) rfl ?_
          show Steps p.tables e below (T4.setTop (mkF m 91 #[.val (.int p1), .val (.int p2), .val (.int (0 : Int32)), .val (.ref aEQ), .val (.int (2 : Int32)), .unset, .unset] [(.int p2)])) _
          refine XS.ifYes X4.here hx rfl (pc0 := 91) (pc' := 100) rfl (hb hby at_91) rfl ((if0 _ _).trans (flt hc91_0).2.1) (by decide) (by decide) ?_
          show Steps p.tables e below (T4.setTop (mkF m 100 #[.val (.int p1), .val (.int p2), .val (.int (0 : Int32)), .val (.ref aEQ), .val (.int (2 : Int32)), .unset, .unset] [])) _
          refine XS.iloadN X4.here hx rfl (hb hby at_100) rfl ?_
          show Steps p.tables e below (T4.setTop (mkF m 101 #[.val (.int p1), .val (.int p2), .val (.int (0 : Int32)), .val (.ref aEQ), .val (.int (2 : Int32)), .unset, .unset] [(.int p2)])) _
          refine XS.ifNo X4.here hx rfl (hb hby at_101) rfl ((if0 _ _).trans (teq hc101_1).2) ?_
          show Steps p.tables e below (T4.setTop (mkF m 104 #[.val (.int p1), .val (.int p2), .val (.int (0 : Int32)), .val (.ref aEQ), .val (.int (2 : Int32)), .unset, .unset] [])) _
          refine XS.iconst X4.here hx rfl (hb hby at_104) ?_
          show Steps p.tables e below (T4.setTop (mkF m 105 #[.val (.int p1), .val (.int p2), .val (.int (0 : Int32)), .val (.ref aEQ), .val (.int (2 : Int32)), .unset, .unset] [(.int (1 : Int32))])) _
          refine XS.istore X4.here hx rfl (hb hby at_105) rfl (l' := #[.val (.int p1), .val (.int p2), .val (.int (0 : Int32)), .val (.ref aEQ), .val (.int (2 : Int32)), .val (.int (1 : Int32)), .unset]) rfl ?_
          show Steps p.tables e below (T4.setTop (mkF m 107 #[.val (.int p1), .val (.int p2), .val (.int (0 : Int32)), .val (.ref aEQ), .val (.int (2 : Int32)), .val (.int (1 : Int32)), .unset] [])) _
          refine XS.goto X4.here hx rfl (pc0 := 107) (pc' := 113) rfl (hb hby at_107) (by decide) (by decide) ?_
          exact k
        · refine ⟨(2 : Int32), (by simp only [if_neg hc91_0, if_neg hc101_1]), ?_⟩
          intro t k
          refine R5 t ?_
          show Steps p.tables e below (T4.setTop (mkF m 90 #[.val (.int p1), .val (.int p2), .val (.int (0 : Int32)), .val (.ref aEQ), .val (.int (2 : Int32)), .unset, .unset] [])) _
          refine XS.iloadN X4.here hx rfl (hb hby at_90) rfl ?_
          show Steps p.tables e below (T4.setTop (mkF m 91 #[.val (.int p1), .val (.int p2), .val (.int (0 : Int32)), .val (.ref aEQ), .val (.int (2 : Int32)), .unset, .unset] [(.int p2)])) _
          refine XS.ifYes X4.here hx rfl (pc0 := 91) (pc' := 100) rfl (hb hby at_91) rfl ((if0 _ _).trans (flt hc91_0).2.1) (by decide) (by decide) ?_
          show Steps p.tables e below (T4.setTop (mkF m 100 #[.val (.int p1), .val (.int p2), .val (.int (0 : Int32)), .val (.ref aEQ), .val (.int (2 : Int32)), .unset, .unset] [])) _
          refine XS.iloadN X4.here hx rfl (hb hby at_100) rfl ?_
          show Steps p.tables e below (T4.setTop (mkF m 101 #[.val (.int p1), .val (.int p2), .val (.int (0 : Int32)), .val (.ref aEQ), .val (.int (2 : Int32)), .unset, .unset] [(.int p2)])) _
          refine XS.ifYes X4.here hx rfl (pc0 := 101) (pc' := 110) rfl (hb hby at_101) rfl ((if0 _ _).trans (feq hc101_1).2) (by decide) (by decide) ?_
          show Steps p.tables e below (T4.setTop (mkF m 110 #[.val (.int p1), .val (.int p2), .val (.int (0 : Int32)), .val (.ref aEQ), .val (.int (2 : Int32)), .unset, .unset] [])) _
          refine XS.iconst X4.here hx rfl (hb hby at_110) ?_
          show Steps p.tables e below (T4.setTop (mkF m 111 #[.val (.int p1), .val (.int p2), .val (.int (0 : Int32)), .val (.ref aEQ), .val (.int (2 : Int32)), .unset, .unset] [(.int (2 : Int32))])) _
          refine XS.istore X4.here hx rfl (hb hby at_111) rfl (l' := #[.val (.int p1), .val (.int p2), .val (.int (0 : Int32)), .val (.ref aEQ), .val (.int (2 : Int32)), .val (.int (2 : Int32)), .unset]) rfl ?_
          exact k
    have R7 : ∀ t, Steps p.tables e below (T4.setTop (mkF m 120 #[.val (.int p1), .val (.int p2), .val (.int (0 : Int32)), .val (.ref aEQ), .val (.int (2 : Int32)), .val (.int sg), .unset] [(.int (((2 : Int32) >>> (sg &&& 31)) &&& (1 : Int32)))])) t → Steps p.tables e below (s₁.setTop (entryFrame m #[(.int p1), (.int p2)] maxLocals)) t := by
      intro t k
      refine R6 t ?_
      show Steps p.tables e below (T4.setTop (mkF m 113 #[.val (.int p1), .val (.int p2), .val (.int (0 : Int32)), .val (.ref aEQ), .val (.int (2 : Int32)), .val (.int sg), .unset] [])) _
      refine XS.iload X4.here hx rfl (hb hby at_113) rfl ?_
      show Steps p.tables e below (T4.setTop (mkF m 115 #[.val (.int p1), .val (.int p2), .val (.int (0 : Int32)), .val (.ref aEQ), .val (.int (2 : Int32)), .val (.int sg), .unset] [(.int (2 : Int32))])) _
      refine XS.iload X4.here hx rfl (hb hby at_115) rfl ?_
      show Steps p.tables e below (T4.setTop (mkF m 117 #[.val (.int p1), .val (.int p2), .val (.int (0 : Int32)), .val (.ref aEQ), .val (.int (2 : Int32)), .val (.int sg), .unset] [(.int sg), (.int (2 : Int32))])) _
      refine XS.ishr X4.here hx rfl (hb hby at_117) rfl ?_
      show Steps p.tables e below (T4.setTop (mkF m 118 #[.val (.int p1), .val (.int p2), .val (.int (0 : Int32)), .val (.ref aEQ), .val (.int (2 : Int32)), .val (.int sg), .unset] [(.int ((2 : Int32) >>> (sg &&& 31)))])) _
      refine XS.iconst X4.here hx rfl (hb hby at_118) ?_
      show Steps p.tables e below (T4.setTop (mkF m 119 #[.val (.int p1), .val (.int p2), .val (.int (0 : Int32)), .val (.ref aEQ), .val (.int (2 : Int32)), .val (.int sg), .unset] [(.int (1 : Int32)), (.int ((2 : Int32) >>> (sg &&& 31)))])) _
      refine XS.iand X4.here hx rfl (hb hby at_119) rfl ?_
      exact k
    obtain ⟨ex, hex, R8⟩ : ∃ (ex : Int32), ex = (if (((2 : Int32) >>> (sg &&& 31)) &&& (1 : Int32)) = (0 : Int32) then (0 : Int32) else (1 : Int32)) ∧ (∀ t, Steps p.tables e below (T4.setTop (mkF m 128 #[.val (.int p1), .val (.int p2), .val (.int (0 : Int32)), .val (.ref aEQ), .val (.int (2 : Int32)), .val (.int sg), .unset] [(.int ex)])) t → Steps p.tables e below (s₁.setTop (entryFrame m #[(.int p1), (.int p2)] maxLocals)) t) := by
      by_cases hc120_0 : (((2 : Int32) >>> (sg &&& 31)) &&& (1 : Int32)) = (0 : Int32)
      · refine ⟨(0 : Int32), (by simp only [if_pos hc120_0]), ?_⟩
        intro t k
        refine R7 t ?_
        show Steps p.tables e below (T4.setTop (mkF m 120 #[.val (.int p1), .val (.int p2), .val (.int (0 : Int32)), .val (.ref aEQ), .val (.int (2 : Int32)), .val (.int sg), .unset] [(.int (((2 : Int32) >>> (sg &&& 31)) &&& (1 : Int32)))])) _
        refine XS.ifYes X4.here hx rfl (pc0 := 120) (pc' := 127) rfl (hb hby at_120) rfl ((if0 _ _).trans (teq hc120_0).1) (by decide) (by decide) ?_
        show Steps p.tables e below (T4.setTop (mkF m 127 #[.val (.int p1), .val (.int p2), .val (.int (0 : Int32)), .val (.ref aEQ), .val (.int (2 : Int32)), .val (.int sg), .unset] [])) _
        refine XS.iconst X4.here hx rfl (hb hby at_127) ?_
        exact k
      · refine ⟨(1 : Int32), (by simp only [if_neg hc120_0]), ?_⟩
        intro t k
        refine R7 t ?_
        show Steps p.tables e below (T4.setTop (mkF m 120 #[.val (.int p1), .val (.int p2), .val (.int (0 : Int32)), .val (.ref aEQ), .val (.int (2 : Int32)), .val (.int sg), .unset] [(.int (((2 : Int32) >>> (sg &&& 31)) &&& (1 : Int32)))])) _
        refine XS.ifNo X4.here hx rfl (hb hby at_120) rfl ((if0 _ _).trans (feq hc120_0).1) ?_
        show Steps p.tables e below (T4.setTop (mkF m 123 #[.val (.int p1), .val (.int p2), .val (.int (0 : Int32)), .val (.ref aEQ), .val (.int (2 : Int32)), .val (.int sg), .unset] [])) _
        refine XS.iconst X4.here hx rfl (hb hby at_123) ?_
        show Steps p.tables e below (T4.setTop (mkF m 124 #[.val (.int p1), .val (.int p2), .val (.int (0 : Int32)), .val (.ref aEQ), .val (.int (2 : Int32)), .val (.int sg), .unset] [(.int (1 : Int32))])) _
        refine XS.goto X4.here hx rfl (pc0 := 124) (pc' := 128) rfl (hb hby at_124) (by decide) (by decide) ?_
        exact k
    have R9 : ∀ t, Steps p.tables e below (T4.setTop (mkF m 132 #[.val (.int p1), .val (.int p2), .val (.int (0 : Int32)), .val (.ref aEQ), .val (.int (2 : Int32)), .val (.int sg), .val (.int ex)] [(.int p2), (.ref aEQ)])) t → Steps p.tables e below (s₁.setTop (entryFrame m #[(.int p1), (.int p2)] maxLocals)) t := by
      intro t k
      refine R8 t ?_
      show Steps p.tables e below (T4.setTop (mkF m 128 #[.val (.int p1), .val (.int p2), .val (.int (0 : Int32)), .val (.ref aEQ), .val (.int (2 : Int32)), .val (.int sg), .unset] [(.int ex)])) _
      refine XS.istore X4.here hx rfl (hb hby at_128) rfl (l' := #[.val (.int p1), .val (.int p2), .val (.int (0 : Int32)), .val (.ref aEQ), .val (.int (2 : Int32)), .val (.int sg), .val (.int ex)]) rfl ?_
      show Steps p.tables e below (T4.setTop (mkF m 130 #[.val (.int p1), .val (.int p2), .val (.int (0 : Int32)), .val (.ref aEQ), .val (.int (2 : Int32)), .val (.int sg), .val (.int ex)] [])) _
      refine XS.aloadN X4.here hx rfl (hb hby at_130) rfl rfl ?_
      show Steps p.tables e below (T4.setTop (mkF m 131 #[.val (.int p1), .val (.int p2), .val (.int (0 : Int32)), .val (.ref aEQ), .val (.int (2 : Int32)), .val (.int sg), .val (.int ex)] [(.ref aEQ)])) _
      refine XS.iloadN X4.here hx rfl (hb hby at_131) rfl ?_
      exact k
    obtain ⟨cq10, kq10, q10a, q10b, q10c⟩ := isOf hZ e4 EEQ
    obtain ⟨_, _, ⟨T10, L10, k10, n10⟩, -, X10, ⟨Lc10, hQ10, l10, y10, z10⟩, st10⟩ := X4.virtualBack hx (y := (⟨"com/example/firm_store/firmstore/Operator", "admits", "(I)Z"⟩ : MethodName)) (z := (⟨"com/example/firm_store/firmstore/Operator", "admits", "(I)Z"⟩ : MethodName)) hown (mvT hZ (hw _ (List.mem_of_getElem? (i := 4) rfl))) (mvT hZ (hw _ (List.mem_of_getElem? (i := 5) rfl))) (notFace_of_selects (args := #[]) (mvT hZ (hw _ (List.mem_of_getElem? (i := 7) rfl)))) (mvT hZ (hw _ (List.mem_of_getElem? (i := 7) rfl))) (mvT hZ (hw _ (List.mem_of_getElem? (i := 6) rfl))) (by decide) (backOf (W := 0) (rmA0 l Z a0 hw [] aEQ p2  h0 n0 Z0 FEQ EEQ) hZ (hw _ (List.mem_of_getElem? (i := 8) rfl)) (hw _ (List.mem_of_getElem? (i := 2) rfl)) (by decide) (by decide)) q10a q10c (g := (mkF m 132 #[.val (.int p1), .val (.int p2), .val (.int (0 : Int32)), .val (.ref aEQ), .val (.int (2 : Int32)), .val (.int sg), .val (.int ex)] [(.int p2), (.ref aEQ)])) rfl (by rw [hml]; rfl) (Steps.refl _) (argsL := [(.int p2)]) (rest := []) (lenOf own_pd0 rfl) rfl (by show 2 * 0 + _ ≤ _; exact Nat.le_of_eq rfl) (hb hby at_132) (fun _ _ => ⟨rfl, e4, (by decide : 0 + 0 ≤ _), (by decide : 0 + 0 ≤ _)⟩)
    dsimp only [Pt.U, Pt.locs, Pt.cells, Pt.slots] at X10 l10 y10 z10 st10 hQ10
    subst l10 y10 z10
    obtain ⟨rfl, Nq10, eq10⟩ := hQ10
    have N10 := Fr.app N0 Nq10
    have R10 : ∀ t, Steps p.tables e below (T10.setTop (mkF m 135 #[.val (.int p1), .val (.int p2), .val (.int (0 : Int32)), .val (.ref aEQ), .val (.int (2 : Int32)), .val (.int sg), .val (.int ex)] [(.int (if p2 = (0 : Int32) then (1 : Int32) else (0 : Int32)))])) t → Steps p.tables e below (s₁.setTop (entryFrame m #[(.int p1), (.int p2)] maxLocals)) t := fun t k => R9 t (st10.trans k)
    have R11 : ∀ t, Steps p.tables e below (T10.setTop (mkF m 137 #[.val (.int p1), .val (.int p2), .val (.int (0 : Int32)), .val (.ref aEQ), .val (.int (2 : Int32)), .val (.int sg), .val (.int ex)] [(.int ex), (.int (if p2 = (0 : Int32) then (1 : Int32) else (0 : Int32)))])) t → Steps p.tables e below (s₁.setTop (entryFrame m #[(.int p1), (.int p2)] maxLocals)) t := by
      intro t k
      refine R10 t ?_
      show Steps p.tables e below (T10.setTop (mkF m 135 #[.val (.int p1), .val (.int p2), .val (.int (0 : Int32)), .val (.ref aEQ), .val (.int (2 : Int32)), .val (.int sg), .val (.int ex)] [(.int (if p2 = (0 : Int32) then (1 : Int32) else (0 : Int32)))])) _
      refine XS.iload X10.here hx rfl (hb hby at_135) rfl ?_
      exact k
    have heq : (if p2 = (0 : Int32) then (1 : Int32) else (0 : Int32)) = ex := own_eq0 hsg hex
    have R12 : ∀ t, Steps p.tables e below (T10.setTop (mkF m 145 #[.val (.int p1), .val (.int p2), .val (.int (0 : Int32)), .val (.ref aEQ), .val (.int (2 : Int32)), .val (.int sg), .val (.int ex)] [(.int (1 : Int32))])) t → Steps p.tables e below (s₁.setTop (entryFrame m #[(.int p1), (.int p2)] maxLocals)) t := by
      intro t k
      refine R11 t ?_
      show Steps p.tables e below (T10.setTop (mkF m 137 #[.val (.int p1), .val (.int p2), .val (.int (0 : Int32)), .val (.ref aEQ), .val (.int (2 : Int32)), .val (.int sg), .val (.int ex)] [(.int ex), (.int (if p2 = (0 : Int32) then (1 : Int32) else (0 : Int32)))])) _
      refine XS.icmpNo X10.here hx rfl (hb hby at_137) rfl (teq heq).2 ?_
      show Steps p.tables e below (T10.setTop (mkF m 140 #[.val (.int p1), .val (.int p2), .val (.int (0 : Int32)), .val (.ref aEQ), .val (.int (2 : Int32)), .val (.int sg), .val (.int ex)] [])) _
      refine XS.iconst X10.here hx rfl (hb hby at_140) ?_
      show Steps p.tables e below (T10.setTop (mkF m 141 #[.val (.int p1), .val (.int p2), .val (.int (0 : Int32)), .val (.ref aEQ), .val (.int (2 : Int32)), .val (.int sg), .val (.int ex)] [(.int (1 : Int32))])) _
      refine XS.goto X10.here hx rfl (pc0 := 141) (pc' := 145) rfl (hb hby at_141) (by decide) (by decide) ?_
      exact k
    obtain ⟨fs, hr, hrun, hended, hW, hsame⟩ := X10.leave (v := some (.int (1 : Int32))) (fun h => by rw [Bd.returns] at h; cases h)
    refine ⟨_, _, R12 _ ?_, hrun, hended, _, _, rfl, ?_, ⟨_, rfl⟩, hW, hsame.mono (by decide) (by decide)⟩
    · exact retN X10 hx (t := .boolean) Bd.returns (by simp) (hb hby at_145) hr
    · show Q_rm0 Z p1 p2 aEQ aNE aLT aLE aGT aGE h0 n0 _ T10.heap _
      rw [eq10]
      exact ⟨rfl, N10⟩
  · have R13 : ∀ t, Steps p.tables e below (s₁.setTop (mkF m 8 #[.val (.int p1), .val (.int p2), .val (.int (1 : Int32)), .unset, .unset, .unset, .unset] [])) t → Steps p.tables e below (s₁.setTop (entryFrame m #[(.int p1), (.int p2)] maxLocals)) t := by rw [(hk : ((p1 &&& (2147483647 : Int32)) % (6 : Int32)) = (1 : Int32))] at R1; exact R1
    have R14 : ∀ t, Steps p.tables e below (s₁.setTop (mkF m 27 #[.val (.int p1), .val (.int p2), .val (.int (1 : Int32)), .unset, .unset, .unset, .unset] [])) t → Steps p.tables e below (s₁.setTop (entryFrame m #[(.int p1), (.int p2)] maxLocals)) t := by
      intro t k
      refine R13 t ?_
      show Steps p.tables e below (s₁.setTop (mkF m 8 #[.val (.int p1), .val (.int p2), .val (.int (1 : Int32)), .unset, .unset, .unset, .unset] [])) _
      refine XS.iloadN X0.here hx rfl (hb hby at_8) rfl ?_
      show Steps p.tables e below (s₁.setTop (mkF m 9 #[.val (.int p1), .val (.int p2), .val (.int (1 : Int32)), .unset, .unset, .unset, .unset] [(.int (1 : Int32))])) _
      refine XS.ifYes X0.here hx rfl (pc0 := 9) (pc' := 22) rfl (hb hby at_9) rfl ((if0 _ _).trans (feq (by decide : ¬ ((1 : Int32) = (0 : Int32)))).2) (by decide) (by decide) ?_
      show Steps p.tables e below (s₁.setTop (mkF m 22 #[.val (.int p1), .val (.int p2), .val (.int (1 : Int32)), .unset, .unset, .unset, .unset] [])) _
      refine XS.iloadN X0.here hx rfl (hb hby at_22) rfl ?_
      show Steps p.tables e below (s₁.setTop (mkF m 23 #[.val (.int p1), .val (.int p2), .val (.int (1 : Int32)), .unset, .unset, .unset, .unset] [(.int (1 : Int32))])) _
      refine XS.iconst X0.here hx rfl (hb hby at_23) ?_
      show Steps p.tables e below (s₁.setTop (mkF m 24 #[.val (.int p1), .val (.int p2), .val (.int (1 : Int32)), .unset, .unset, .unset, .unset] [(.int (1 : Int32)), (.int (1 : Int32))])) _
      refine XS.icmpNo X0.here hx rfl (hb hby at_24) rfl (teq (by decide : ((1 : Int32) = (1 : Int32)))).2 ?_
      exact k
    obtain ⟨T15, X15, e15, st15⟩ := getS2 X0 hx hZ hown (host := "") (Or.inl (hw _ (List.mem_of_getElem? (i := 22) rfl))) Via.refl e0 SNE (g := (mkF m 27 #[.val (.int p1), .val (.int p2), .val (.int (1 : Int32)), .unset, .unset, .unset, .unset] [])) rfl (hb hby at_27)
    have R15 : ∀ t, Steps p.tables e below (T15.setTop (mkF m 30 #[.val (.int p1), .val (.int p2), .val (.int (1 : Int32)), .unset, .unset, .unset, .unset] [(.ref aNE)])) t → Steps p.tables e below (s₁.setTop (entryFrame m #[(.int p1), (.int p2)] maxLocals)) t := fun t k => R14 t (st15 t k)
    have R16 : ∀ t, Steps p.tables e below (T15.setTop (mkF m 90 #[.val (.int p1), .val (.int p2), .val (.int (1 : Int32)), .val (.ref aNE), .val (.int (5 : Int32)), .unset, .unset] [])) t → Steps p.tables e below (s₁.setTop (entryFrame m #[(.int p1), (.int p2)] maxLocals)) t := by
      intro t k
      refine R15 t ?_
      show Steps p.tables e below (T15.setTop (mkF m 30 #[.val (.int p1), .val (.int p2), .val (.int (1 : Int32)), .unset, .unset, .unset, .unset] [(.ref aNE)])) _
      refine XS.astoreN X15.here hx rfl (hb hby at_30) rfl rfl (l' := #[.val (.int p1), .val (.int p2), .val (.int (1 : Int32)), .val (.ref aNE), .unset, .unset, .unset]) rfl ?_
      show Steps p.tables e below (T15.setTop (mkF m 31 #[.val (.int p1), .val (.int p2), .val (.int (1 : Int32)), .val (.ref aNE), .unset, .unset, .unset] [])) _
      refine XS.iconst X15.here hx rfl (hb hby at_31) ?_
      show Steps p.tables e below (T15.setTop (mkF m 32 #[.val (.int p1), .val (.int p2), .val (.int (1 : Int32)), .val (.ref aNE), .unset, .unset, .unset] [(.int (5 : Int32))])) _
      refine XS.istore X15.here hx rfl (hb hby at_32) rfl (l' := #[.val (.int p1), .val (.int p2), .val (.int (1 : Int32)), .val (.ref aNE), .val (.int (5 : Int32)), .unset, .unset]) rfl ?_
      show Steps p.tables e below (T15.setTop (mkF m 34 #[.val (.int p1), .val (.int p2), .val (.int (1 : Int32)), .val (.ref aNE), .val (.int (5 : Int32)), .unset, .unset] [])) _
      refine XS.goto X15.here hx rfl (pc0 := 34) (pc' := 90) rfl (hb hby at_34) (by decide) (by decide) ?_
      exact k
    obtain ⟨sg, hsg, R17⟩ : ∃ (sg : Int32), sg = (if p2 < (0 : Int32) then (0 : Int32) else (if p2 = (0 : Int32) then (1 : Int32) else (2 : Int32))) ∧ (∀ t, Steps p.tables e below (T15.setTop (mkF m 113 #[.val (.int p1), .val (.int p2), .val (.int (1 : Int32)), .val (.ref aNE), .val (.int (5 : Int32)), .val (.int sg), .unset] [])) t → Steps p.tables e below (s₁.setTop (entryFrame m #[(.int p1), (.int p2)] maxLocals)) t) := by
      by_cases hc91_0 : p2 < (0 : Int32)
      · refine ⟨(0 : Int32), (by simp only [if_pos hc91_0]), ?_⟩
        intro t k
        refine R16 t ?_
        show Steps p.tables e below (T15.setTop (mkF m 90 #[.val (.int p1), .val (.int p2), .val (.int (1 : Int32)), .val (.ref aNE), .val (.int (5 : Int32)), .unset, .unset] [])) _
        refine XS.iloadN X15.here hx rfl (hb hby at_90) rfl ?_
        show Steps p.tables e below (T15.setTop (mkF m 91 #[.val (.int p1), .val (.int p2), .val (.int (1 : Int32)), .val (.ref aNE), .val (.int (5 : Int32)), .unset, .unset] [(.int p2)])) _
        refine XS.ifNo X15.here hx rfl (hb hby at_91) rfl ((if0 _ _).trans (tlt hc91_0).2.1) ?_
        show Steps p.tables e below (T15.setTop (mkF m 94 #[.val (.int p1), .val (.int p2), .val (.int (1 : Int32)), .val (.ref aNE), .val (.int (5 : Int32)), .unset, .unset] [])) _
        refine XS.iconst X15.here hx rfl (hb hby at_94) ?_
        show Steps p.tables e below (T15.setTop (mkF m 95 #[.val (.int p1), .val (.int p2), .val (.int (1 : Int32)), .val (.ref aNE), .val (.int (5 : Int32)), .unset, .unset] [(.int (0 : Int32))])) _
        refine XS.istore X15.here hx rfl (hb hby at_95) rfl (l' := #[.val (.int p1), .val (.int p2), .val (.int (1 : Int32)), .val (.ref aNE), .val (.int (5 : Int32)), .val (.int (0 : Int32)), .unset]) rfl ?_
        show Steps p.tables e below (T15.setTop (mkF m 97 #[.val (.int p1), .val (.int p2), .val (.int (1 : Int32)), .val (.ref aNE), .val (.int (5 : Int32)), .val (.int (0 : Int32)), .unset] [])) _
        refine XS.goto X15.here hx rfl (pc0 := 97) (pc' := 113) rfl (hb hby at_97) (by decide) (by decide) ?_
        exact k
      · by_cases hc101_1 : p2 = (0 : Int32)
        · refine ⟨(1 : Int32), (by simp only [if_neg hc91_0, if_pos hc101_1]), ?_⟩
          intro t k
          refine R16 t ?_
          show Steps p.tables e below (T15.setTop (mkF m 90 #[.val (.int p1), .val (.int p2), .val (.int (1 : Int32)), .val (.ref aNE), .val (.int (5 : Int32)), .unset, .unset] [])) _
          refine XS.iloadN X15.here hx rfl (hb hby at_90) rfl ?_
          show Steps p.tables e below (T15.setTop (mkF m 91 #[.val (.int p1), .val (.int p2), .val (.int (1 : Int32)), .val (.ref aNE), .val (.int (5 : Int32)), .unset, .unset] [(.int p2)])) _
          refine XS.ifYes X15.here hx rfl (pc0 := 91) (pc' := 100) rfl (hb hby at_91) rfl ((if0 _ _).trans (flt hc91_0).2.1) (by decide) (by decide) ?_
          show Steps p.tables e below (T15.setTop (mkF m 100 #[.val (.int p1), .val (.int p2), .val (.int (1 : Int32)), .val (.ref aNE), .val (.int (5 : Int32)), .unset, .unset] [])) _
          refine XS.iloadN X15.here hx rfl (hb hby at_100) rfl ?_
          show Steps p.tables e below (T15.setTop (mkF m 101 #[.val (.int p1), .val (.int p2), .val (.int (1 : Int32)), .val (.ref aNE), .val (.int (5 : Int32)), .unset, .unset] [(.int p2)])) _
          refine XS.ifNo X15.here hx rfl (hb hby at_101) rfl ((if0 _ _).trans (teq hc101_1).2) ?_
          show Steps p.tables e below (T15.setTop (mkF m 104 #[.val (.int p1), .val (.int p2), .val (.int (1 : Int32)), .val (.ref aNE), .val (.int (5 : Int32)), .unset, .unset] [])) _
          refine XS.iconst X15.here hx rfl (hb hby at_104) ?_
          show Steps p.tables e below (T15.setTop (mkF m 105 #[.val (.int p1), .val (.int p2), .val (.int (1 : Int32)), .val (.ref aNE), .val (.int (5 : Int32)), .unset, .unset] [(.int (1 : Int32))])) _
          refine XS.istore X15.here hx rfl (hb hby at_105) rfl (l' := #[.val (.int p1), .val (.int p2), .val (.int (1 : Int32)), .val (.ref aNE), .val (.int (5 : Int32)), .val (.int (1 : Int32)), .unset]) rfl ?_
          show Steps p.tables e below (T15.setTop (mkF m 107 #[.val (.int p1), .val (.int p2), .val (.int (1 : Int32)), .val (.ref aNE), .val (.int (5 : Int32)), .val (.int (1 : Int32)), .unset] [])) _
          refine XS.goto X15.here hx rfl (pc0 := 107) (pc' := 113) rfl (hb hby at_107) (by decide) (by decide) ?_
          exact k
        · refine ⟨(2 : Int32), (by simp only [if_neg hc91_0, if_neg hc101_1]), ?_⟩
          intro t k
          refine R16 t ?_
          show Steps p.tables e below (T15.setTop (mkF m 90 #[.val (.int p1), .val (.int p2), .val (.int (1 : Int32)), .val (.ref aNE), .val (.int (5 : Int32)), .unset, .unset] [])) _
          refine XS.iloadN X15.here hx rfl (hb hby at_90) rfl ?_
          show Steps p.tables e below (T15.setTop (mkF m 91 #[.val (.int p1), .val (.int p2), .val (.int (1 : Int32)), .val (.ref aNE), .val (.int (5 : Int32)), .unset, .unset] [(.int p2)])) _
          refine XS.ifYes X15.here hx rfl (pc0 := 91) (pc' := 100) rfl (hb hby at_91) rfl ((if0 _ _).trans (flt hc91_0).2.1) (by decide) (by decide) ?_
          show Steps p.tables e below (T15.setTop (mkF m 100 #[.val (.int p1), .val (.int p2), .val (.int (1 : Int32)), .val (.ref aNE), .val (.int (5 : Int32)), .unset, .unset] [])) _
          refine XS.iloadN X15.here hx rfl (hb hby at_100) rfl ?_
          show Steps p.tables e below (T15.setTop (mkF m 101 #[.val (.int p1), .val (.int p2), .val (.int (1 : Int32)), .val (.ref aNE), .val (.int (5 : Int32)), .unset, .unset] [(.int p2)])) _
          refine XS.ifYes X15.here hx rfl (pc0 := 101) (pc' := 110) rfl (hb hby at_101) rfl ((if0 _ _).trans (feq hc101_1).2) (by decide) (by decide) ?_
          show Steps p.tables e below (T15.setTop (mkF m 110 #[.val (.int p1), .val (.int p2), .val (.int (1 : Int32)), .val (.ref aNE), .val (.int (5 : Int32)), .unset, .unset] [])) _
          refine XS.iconst X15.here hx rfl (hb hby at_110) ?_
          show Steps p.tables e below (T15.setTop (mkF m 111 #[.val (.int p1), .val (.int p2), .val (.int (1 : Int32)), .val (.ref aNE), .val (.int (5 : Int32)), .unset, .unset] [(.int (2 : Int32))])) _
          refine XS.istore X15.here hx rfl (hb hby at_111) rfl (l' := #[.val (.int p1), .val (.int p2), .val (.int (1 : Int32)), .val (.ref aNE), .val (.int (5 : Int32)), .val (.int (2 : Int32)), .unset]) rfl ?_
          exact k
    have R18 : ∀ t, Steps p.tables e below (T15.setTop (mkF m 120 #[.val (.int p1), .val (.int p2), .val (.int (1 : Int32)), .val (.ref aNE), .val (.int (5 : Int32)), .val (.int sg), .unset] [(.int (((5 : Int32) >>> (sg &&& 31)) &&& (1 : Int32)))])) t → Steps p.tables e below (s₁.setTop (entryFrame m #[(.int p1), (.int p2)] maxLocals)) t := by
      intro t k
      refine R17 t ?_
      show Steps p.tables e below (T15.setTop (mkF m 113 #[.val (.int p1), .val (.int p2), .val (.int (1 : Int32)), .val (.ref aNE), .val (.int (5 : Int32)), .val (.int sg), .unset] [])) _
      refine XS.iload X15.here hx rfl (hb hby at_113) rfl ?_
      show Steps p.tables e below (T15.setTop (mkF m 115 #[.val (.int p1), .val (.int p2), .val (.int (1 : Int32)), .val (.ref aNE), .val (.int (5 : Int32)), .val (.int sg), .unset] [(.int (5 : Int32))])) _
      refine XS.iload X15.here hx rfl (hb hby at_115) rfl ?_
      show Steps p.tables e below (T15.setTop (mkF m 117 #[.val (.int p1), .val (.int p2), .val (.int (1 : Int32)), .val (.ref aNE), .val (.int (5 : Int32)), .val (.int sg), .unset] [(.int sg), (.int (5 : Int32))])) _
      refine XS.ishr X15.here hx rfl (hb hby at_117) rfl ?_
      show Steps p.tables e below (T15.setTop (mkF m 118 #[.val (.int p1), .val (.int p2), .val (.int (1 : Int32)), .val (.ref aNE), .val (.int (5 : Int32)), .val (.int sg), .unset] [(.int ((5 : Int32) >>> (sg &&& 31)))])) _
      refine XS.iconst X15.here hx rfl (hb hby at_118) ?_
      show Steps p.tables e below (T15.setTop (mkF m 119 #[.val (.int p1), .val (.int p2), .val (.int (1 : Int32)), .val (.ref aNE), .val (.int (5 : Int32)), .val (.int sg), .unset] [(.int (1 : Int32)), (.int ((5 : Int32) >>> (sg &&& 31)))])) _
      refine XS.iand X15.here hx rfl (hb hby at_119) rfl ?_
      exact k
    obtain ⟨ex, hex, R19⟩ : ∃ (ex : Int32), ex = (if (((5 : Int32) >>> (sg &&& 31)) &&& (1 : Int32)) = (0 : Int32) then (0 : Int32) else (1 : Int32)) ∧ (∀ t, Steps p.tables e below (T15.setTop (mkF m 128 #[.val (.int p1), .val (.int p2), .val (.int (1 : Int32)), .val (.ref aNE), .val (.int (5 : Int32)), .val (.int sg), .unset] [(.int ex)])) t → Steps p.tables e below (s₁.setTop (entryFrame m #[(.int p1), (.int p2)] maxLocals)) t) := by
      by_cases hc120_0 : (((5 : Int32) >>> (sg &&& 31)) &&& (1 : Int32)) = (0 : Int32)
      · refine ⟨(0 : Int32), (by simp only [if_pos hc120_0]), ?_⟩
        intro t k
        refine R18 t ?_
        show Steps p.tables e below (T15.setTop (mkF m 120 #[.val (.int p1), .val (.int p2), .val (.int (1 : Int32)), .val (.ref aNE), .val (.int (5 : Int32)), .val (.int sg), .unset] [(.int (((5 : Int32) >>> (sg &&& 31)) &&& (1 : Int32)))])) _
        refine XS.ifYes X15.here hx rfl (pc0 := 120) (pc' := 127) rfl (hb hby at_120) rfl ((if0 _ _).trans (teq hc120_0).1) (by decide) (by decide) ?_
        show Steps p.tables e below (T15.setTop (mkF m 127 #[.val (.int p1), .val (.int p2), .val (.int (1 : Int32)), .val (.ref aNE), .val (.int (5 : Int32)), .val (.int sg), .unset] [])) _
        refine XS.iconst X15.here hx rfl (hb hby at_127) ?_
        exact k
      · refine ⟨(1 : Int32), (by simp only [if_neg hc120_0]), ?_⟩
        intro t k
        refine R18 t ?_
        show Steps p.tables e below (T15.setTop (mkF m 120 #[.val (.int p1), .val (.int p2), .val (.int (1 : Int32)), .val (.ref aNE), .val (.int (5 : Int32)), .val (.int sg), .unset] [(.int (((5 : Int32) >>> (sg &&& 31)) &&& (1 : Int32)))])) _
        refine XS.ifNo X15.here hx rfl (hb hby at_120) rfl ((if0 _ _).trans (feq hc120_0).1) ?_
        show Steps p.tables e below (T15.setTop (mkF m 123 #[.val (.int p1), .val (.int p2), .val (.int (1 : Int32)), .val (.ref aNE), .val (.int (5 : Int32)), .val (.int sg), .unset] [])) _
        refine XS.iconst X15.here hx rfl (hb hby at_123) ?_
        show Steps p.tables e below (T15.setTop (mkF m 124 #[.val (.int p1), .val (.int p2), .val (.int (1 : Int32)), .val (.ref aNE), .val (.int (5 : Int32)), .val (.int sg), .unset] [(.int (1 : Int32))])) _
        refine XS.goto X15.here hx rfl (pc0 := 124) (pc' := 128) rfl (hb hby at_124) (by decide) (by decide) ?_
        exact k
    have R20 : ∀ t, Steps p.tables e below (T15.setTop (mkF m 132 #[.val (.int p1), .val (.int p2), .val (.int (1 : Int32)), .val (.ref aNE), .val (.int (5 : Int32)), .val (.int sg), .val (.int ex)] [(.int p2), (.ref aNE)])) t → Steps p.tables e below (s₁.setTop (entryFrame m #[(.int p1), (.int p2)] maxLocals)) t := by
      intro t k
      refine R19 t ?_
      show Steps p.tables e below (T15.setTop (mkF m 128 #[.val (.int p1), .val (.int p2), .val (.int (1 : Int32)), .val (.ref aNE), .val (.int (5 : Int32)), .val (.int sg), .unset] [(.int ex)])) _
      refine XS.istore X15.here hx rfl (hb hby at_128) rfl (l' := #[.val (.int p1), .val (.int p2), .val (.int (1 : Int32)), .val (.ref aNE), .val (.int (5 : Int32)), .val (.int sg), .val (.int ex)]) rfl ?_
      show Steps p.tables e below (T15.setTop (mkF m 130 #[.val (.int p1), .val (.int p2), .val (.int (1 : Int32)), .val (.ref aNE), .val (.int (5 : Int32)), .val (.int sg), .val (.int ex)] [])) _
      refine XS.aloadN X15.here hx rfl (hb hby at_130) rfl rfl ?_
      show Steps p.tables e below (T15.setTop (mkF m 131 #[.val (.int p1), .val (.int p2), .val (.int (1 : Int32)), .val (.ref aNE), .val (.int (5 : Int32)), .val (.int sg), .val (.int ex)] [(.ref aNE)])) _
      refine XS.iloadN X15.here hx rfl (hb hby at_131) rfl ?_
      exact k
    obtain ⟨cq21, kq21, q21a, q21b, q21c⟩ := isOf hZ e15 ENE
    obtain ⟨_, _, ⟨T21, L21, k21, n21⟩, -, X21, ⟨Lc21, hQ21, l21, y21, z21⟩, st21⟩ := X15.virtualBack hx (y := (⟨"com/example/firm_store/firmstore/Operator", "admits", "(I)Z"⟩ : MethodName)) (z := (⟨"com/example/firm_store/firmstore/Operator", "admits", "(I)Z"⟩ : MethodName)) hown (mvT hZ (hw _ (List.mem_of_getElem? (i := 4) rfl))) (mvT hZ (hw _ (List.mem_of_getElem? (i := 5) rfl))) (notFace_of_selects (args := #[]) (mvT hZ (hw _ (List.mem_of_getElem? (i := 7) rfl)))) (mvT hZ (hw _ (List.mem_of_getElem? (i := 7) rfl))) (mvT hZ (hw _ (List.mem_of_getElem? (i := 6) rfl))) (by decide) (backOf (W := 0) (rmA1 l Z a0 hw [] aNE p2  h0 n0 Z0 FNE ENE) hZ (hw _ (List.mem_of_getElem? (i := 8) rfl)) (hw _ (List.mem_of_getElem? (i := 2) rfl)) (by decide) (by decide)) q21a q21c (g := (mkF m 132 #[.val (.int p1), .val (.int p2), .val (.int (1 : Int32)), .val (.ref aNE), .val (.int (5 : Int32)), .val (.int sg), .val (.int ex)] [(.int p2), (.ref aNE)])) rfl (by rw [hml]; rfl) (Steps.refl _) (argsL := [(.int p2)]) (rest := []) (lenOf own_pd0 rfl) rfl (by show 2 * 0 + _ ≤ _; exact Nat.le_of_eq rfl) (hb hby at_132) (fun _ _ => ⟨rfl, e15, (by decide : 0 + 0 ≤ _), (by decide : 0 + 0 ≤ _)⟩)
    dsimp only [Pt.U, Pt.locs, Pt.cells, Pt.slots] at X21 l21 y21 z21 st21 hQ21
    subst l21 y21 z21
    obtain ⟨rfl, Nq21, eq21⟩ := hQ21
    have N21 := Fr.app N0 Nq21
    have R21 : ∀ t, Steps p.tables e below (T21.setTop (mkF m 135 #[.val (.int p1), .val (.int p2), .val (.int (1 : Int32)), .val (.ref aNE), .val (.int (5 : Int32)), .val (.int sg), .val (.int ex)] [(.int (if p2 = (0 : Int32) then (0 : Int32) else (1 : Int32)))])) t → Steps p.tables e below (s₁.setTop (entryFrame m #[(.int p1), (.int p2)] maxLocals)) t := fun t k => R20 t (st21.trans k)
    have R22 : ∀ t, Steps p.tables e below (T21.setTop (mkF m 137 #[.val (.int p1), .val (.int p2), .val (.int (1 : Int32)), .val (.ref aNE), .val (.int (5 : Int32)), .val (.int sg), .val (.int ex)] [(.int ex), (.int (if p2 = (0 : Int32) then (0 : Int32) else (1 : Int32)))])) t → Steps p.tables e below (s₁.setTop (entryFrame m #[(.int p1), (.int p2)] maxLocals)) t := by
      intro t k
      refine R21 t ?_
      show Steps p.tables e below (T21.setTop (mkF m 135 #[.val (.int p1), .val (.int p2), .val (.int (1 : Int32)), .val (.ref aNE), .val (.int (5 : Int32)), .val (.int sg), .val (.int ex)] [(.int (if p2 = (0 : Int32) then (0 : Int32) else (1 : Int32)))])) _
      refine XS.iload X21.here hx rfl (hb hby at_135) rfl ?_
      exact k
    have heq : (if p2 = (0 : Int32) then (0 : Int32) else (1 : Int32)) = ex := own_eq1 hsg hex
    have R23 : ∀ t, Steps p.tables e below (T21.setTop (mkF m 145 #[.val (.int p1), .val (.int p2), .val (.int (1 : Int32)), .val (.ref aNE), .val (.int (5 : Int32)), .val (.int sg), .val (.int ex)] [(.int (1 : Int32))])) t → Steps p.tables e below (s₁.setTop (entryFrame m #[(.int p1), (.int p2)] maxLocals)) t := by
      intro t k
      refine R22 t ?_
      show Steps p.tables e below (T21.setTop (mkF m 137 #[.val (.int p1), .val (.int p2), .val (.int (1 : Int32)), .val (.ref aNE), .val (.int (5 : Int32)), .val (.int sg), .val (.int ex)] [(.int ex), (.int (if p2 = (0 : Int32) then (0 : Int32) else (1 : Int32)))])) _
      refine XS.icmpNo X21.here hx rfl (hb hby at_137) rfl (teq heq).2 ?_
      show Steps p.tables e below (T21.setTop (mkF m 140 #[.val (.int p1), .val (.int p2), .val (.int (1 : Int32)), .val (.ref aNE), .val (.int (5 : Int32)), .val (.int sg), .val (.int ex)] [])) _
      refine XS.iconst X21.here hx rfl (hb hby at_140) ?_
      show Steps p.tables e below (T21.setTop (mkF m 141 #[.val (.int p1), .val (.int p2), .val (.int (1 : Int32)), .val (.ref aNE), .val (.int (5 : Int32)), .val (.int sg), .val (.int ex)] [(.int (1 : Int32))])) _
      refine XS.goto X21.here hx rfl (pc0 := 141) (pc' := 145) rfl (hb hby at_141) (by decide) (by decide) ?_
      exact k
    obtain ⟨fs, hr, hrun, hended, hW, hsame⟩ := X21.leave (v := some (.int (1 : Int32))) (fun h => by rw [Bd.returns] at h; cases h)
    refine ⟨_, _, R23 _ ?_, hrun, hended, _, _, rfl, ?_, ⟨_, rfl⟩, hW, hsame.mono (by decide) (by decide)⟩
    · exact retN X21 hx (t := .boolean) Bd.returns (by simp) (hb hby at_145) hr
    · show Q_rm0 Z p1 p2 aEQ aNE aLT aLE aGT aGE h0 n0 _ T21.heap _
      rw [eq21]
      exact ⟨rfl, N21⟩
  · have R24 : ∀ t, Steps p.tables e below (s₁.setTop (mkF m 8 #[.val (.int p1), .val (.int p2), .val (.int (2 : Int32)), .unset, .unset, .unset, .unset] [])) t → Steps p.tables e below (s₁.setTop (entryFrame m #[(.int p1), (.int p2)] maxLocals)) t := by rw [(hk : ((p1 &&& (2147483647 : Int32)) % (6 : Int32)) = (2 : Int32))] at R1; exact R1
    have R25 : ∀ t, Steps p.tables e below (s₁.setTop (mkF m 42 #[.val (.int p1), .val (.int p2), .val (.int (2 : Int32)), .unset, .unset, .unset, .unset] [])) t → Steps p.tables e below (s₁.setTop (entryFrame m #[(.int p1), (.int p2)] maxLocals)) t := by
      intro t k
      refine R24 t ?_
      show Steps p.tables e below (s₁.setTop (mkF m 8 #[.val (.int p1), .val (.int p2), .val (.int (2 : Int32)), .unset, .unset, .unset, .unset] [])) _
      refine XS.iloadN X0.here hx rfl (hb hby at_8) rfl ?_
      show Steps p.tables e below (s₁.setTop (mkF m 9 #[.val (.int p1), .val (.int p2), .val (.int (2 : Int32)), .unset, .unset, .unset, .unset] [(.int (2 : Int32))])) _
      refine XS.ifYes X0.here hx rfl (pc0 := 9) (pc' := 22) rfl (hb hby at_9) rfl ((if0 _ _).trans (feq (by decide : ¬ ((2 : Int32) = (0 : Int32)))).2) (by decide) (by decide) ?_
      show Steps p.tables e below (s₁.setTop (mkF m 22 #[.val (.int p1), .val (.int p2), .val (.int (2 : Int32)), .unset, .unset, .unset, .unset] [])) _
      refine XS.iloadN X0.here hx rfl (hb hby at_22) rfl ?_
      show Steps p.tables e below (s₁.setTop (mkF m 23 #[.val (.int p1), .val (.int p2), .val (.int (2 : Int32)), .unset, .unset, .unset, .unset] [(.int (2 : Int32))])) _
      refine XS.iconst X0.here hx rfl (hb hby at_23) ?_
      show Steps p.tables e below (s₁.setTop (mkF m 24 #[.val (.int p1), .val (.int p2), .val (.int (2 : Int32)), .unset, .unset, .unset, .unset] [(.int (1 : Int32)), (.int (2 : Int32))])) _
      refine XS.icmpYes X0.here hx rfl (pc0 := 24) (pc' := 37) rfl (hb hby at_24) rfl (feq (by decide : ¬ ((2 : Int32) = (1 : Int32)))).2 (by decide) (by decide) ?_
      show Steps p.tables e below (s₁.setTop (mkF m 37 #[.val (.int p1), .val (.int p2), .val (.int (2 : Int32)), .unset, .unset, .unset, .unset] [])) _
      refine XS.iloadN X0.here hx rfl (hb hby at_37) rfl ?_
      show Steps p.tables e below (s₁.setTop (mkF m 38 #[.val (.int p1), .val (.int p2), .val (.int (2 : Int32)), .unset, .unset, .unset, .unset] [(.int (2 : Int32))])) _
      refine XS.iconst X0.here hx rfl (hb hby at_38) ?_
      show Steps p.tables e below (s₁.setTop (mkF m 39 #[.val (.int p1), .val (.int p2), .val (.int (2 : Int32)), .unset, .unset, .unset, .unset] [(.int (2 : Int32)), (.int (2 : Int32))])) _
      refine XS.icmpNo X0.here hx rfl (hb hby at_39) rfl (teq (by decide : ((2 : Int32) = (2 : Int32)))).2 ?_
      exact k
    obtain ⟨T26, X26, e26, st26⟩ := getS2 X0 hx hZ hown (host := "") (Or.inl (hw _ (List.mem_of_getElem? (i := 18) rfl))) Via.refl e0 SLT (g := (mkF m 42 #[.val (.int p1), .val (.int p2), .val (.int (2 : Int32)), .unset, .unset, .unset, .unset] [])) rfl (hb hby at_42)
    have R26 : ∀ t, Steps p.tables e below (T26.setTop (mkF m 45 #[.val (.int p1), .val (.int p2), .val (.int (2 : Int32)), .unset, .unset, .unset, .unset] [(.ref aLT)])) t → Steps p.tables e below (s₁.setTop (entryFrame m #[(.int p1), (.int p2)] maxLocals)) t := fun t k => R25 t (st26 t k)
    have R27 : ∀ t, Steps p.tables e below (T26.setTop (mkF m 90 #[.val (.int p1), .val (.int p2), .val (.int (2 : Int32)), .val (.ref aLT), .val (.int (1 : Int32)), .unset, .unset] [])) t → Steps p.tables e below (s₁.setTop (entryFrame m #[(.int p1), (.int p2)] maxLocals)) t := by
      intro t k
      refine R26 t ?_
      show Steps p.tables e below (T26.setTop (mkF m 45 #[.val (.int p1), .val (.int p2), .val (.int (2 : Int32)), .unset, .unset, .unset, .unset] [(.ref aLT)])) _
      refine XS.astoreN X26.here hx rfl (hb hby at_45) rfl rfl (l' := #[.val (.int p1), .val (.int p2), .val (.int (2 : Int32)), .val (.ref aLT), .unset, .unset, .unset]) rfl ?_
      show Steps p.tables e below (T26.setTop (mkF m 46 #[.val (.int p1), .val (.int p2), .val (.int (2 : Int32)), .val (.ref aLT), .unset, .unset, .unset] [])) _
      refine XS.iconst X26.here hx rfl (hb hby at_46) ?_
      show Steps p.tables e below (T26.setTop (mkF m 47 #[.val (.int p1), .val (.int p2), .val (.int (2 : Int32)), .val (.ref aLT), .unset, .unset, .unset] [(.int (1 : Int32))])) _
      refine XS.istore X26.here hx rfl (hb hby at_47) rfl (l' := #[.val (.int p1), .val (.int p2), .val (.int (2 : Int32)), .val (.ref aLT), .val (.int (1 : Int32)), .unset, .unset]) rfl ?_
      show Steps p.tables e below (T26.setTop (mkF m 49 #[.val (.int p1), .val (.int p2), .val (.int (2 : Int32)), .val (.ref aLT), .val (.int (1 : Int32)), .unset, .unset] [])) _
      refine XS.goto X26.here hx rfl (pc0 := 49) (pc' := 90) rfl (hb hby at_49) (by decide) (by decide) ?_
      exact k
    obtain ⟨sg, hsg, R28⟩ : ∃ (sg : Int32), sg = (if p2 < (0 : Int32) then (0 : Int32) else (if p2 = (0 : Int32) then (1 : Int32) else (2 : Int32))) ∧ (∀ t, Steps p.tables e below (T26.setTop (mkF m 113 #[.val (.int p1), .val (.int p2), .val (.int (2 : Int32)), .val (.ref aLT), .val (.int (1 : Int32)), .val (.int sg), .unset] [])) t → Steps p.tables e below (s₁.setTop (entryFrame m #[(.int p1), (.int p2)] maxLocals)) t) := by
      by_cases hc91_0 : p2 < (0 : Int32)
      · refine ⟨(0 : Int32), (by simp only [if_pos hc91_0]), ?_⟩
        intro t k
        refine R27 t ?_
        show Steps p.tables e below (T26.setTop (mkF m 90 #[.val (.int p1), .val (.int p2), .val (.int (2 : Int32)), .val (.ref aLT), .val (.int (1 : Int32)), .unset, .unset] [])) _
        refine XS.iloadN X26.here hx rfl (hb hby at_90) rfl ?_
        show Steps p.tables e below (T26.setTop (mkF m 91 #[.val (.int p1), .val (.int p2), .val (.int (2 : Int32)), .val (.ref aLT), .val (.int (1 : Int32)), .unset, .unset] [(.int p2)])) _
        refine XS.ifNo X26.here hx rfl (hb hby at_91) rfl ((if0 _ _).trans (tlt hc91_0).2.1) ?_
        show Steps p.tables e below (T26.setTop (mkF m 94 #[.val (.int p1), .val (.int p2), .val (.int (2 : Int32)), .val (.ref aLT), .val (.int (1 : Int32)), .unset, .unset] [])) _
        refine XS.iconst X26.here hx rfl (hb hby at_94) ?_
        show Steps p.tables e below (T26.setTop (mkF m 95 #[.val (.int p1), .val (.int p2), .val (.int (2 : Int32)), .val (.ref aLT), .val (.int (1 : Int32)), .unset, .unset] [(.int (0 : Int32))])) _
        refine XS.istore X26.here hx rfl (hb hby at_95) rfl (l' := #[.val (.int p1), .val (.int p2), .val (.int (2 : Int32)), .val (.ref aLT), .val (.int (1 : Int32)), .val (.int (0 : Int32)), .unset]) rfl ?_
        show Steps p.tables e below (T26.setTop (mkF m 97 #[.val (.int p1), .val (.int p2), .val (.int (2 : Int32)), .val (.ref aLT), .val (.int (1 : Int32)), .val (.int (0 : Int32)), .unset] [])) _
        refine XS.goto X26.here hx rfl (pc0 := 97) (pc' := 113) rfl (hb hby at_97) (by decide) (by decide) ?_
        exact k
      · by_cases hc101_1 : p2 = (0 : Int32)
        · refine ⟨(1 : Int32), (by simp only [if_neg hc91_0, if_pos hc101_1]), ?_⟩
          intro t k
          refine R27 t ?_
          show Steps p.tables e below (T26.setTop (mkF m 90 #[.val (.int p1), .val (.int p2), .val (.int (2 : Int32)), .val (.ref aLT), .val (.int (1 : Int32)), .unset, .unset] [])) _
          refine XS.iloadN X26.here hx rfl (hb hby at_90) rfl ?_
          show Steps p.tables e below (T26.setTop (mkF m 91 #[.val (.int p1), .val (.int p2), .val (.int (2 : Int32)), .val (.ref aLT), .val (.int (1 : Int32)), .unset, .unset] [(.int p2)])) _
          refine XS.ifYes X26.here hx rfl (pc0 := 91) (pc' := 100) rfl (hb hby at_91) rfl ((if0 _ _).trans (flt hc91_0).2.1) (by decide) (by decide) ?_
          show Steps p.tables e below (T26.setTop (mkF m 100 #[.val (.int p1), .val (.int p2), .val (.int (2 : Int32)), .val (.ref aLT), .val (.int (1 : Int32)), .unset, .unset] [])) _
          refine XS.iloadN X26.here hx rfl (hb hby at_100) rfl ?_
          show Steps p.tables e below (T26.setTop (mkF m 101 #[.val (.int p1), .val (.int p2), .val (.int (2 : Int32)), .val (.ref aLT), .val (.int (1 : Int32)), .unset, .unset] [(.int p2)])) _
          refine XS.ifNo X26.here hx rfl (hb hby at_101) rfl ((if0 _ _).trans (teq hc101_1).2) ?_
          show Steps p.tables e below (T26.setTop (mkF m 104 #[.val (.int p1), .val (.int p2), .val (.int (2 : Int32)), .val (.ref aLT), .val (.int (1 : Int32)), .unset, .unset] [])) _
          refine XS.iconst X26.here hx rfl (hb hby at_104) ?_
          show Steps p.tables e below (T26.setTop (mkF m 105 #[.val (.int p1), .val (.int p2), .val (.int (2 : Int32)), .val (.ref aLT), .val (.int (1 : Int32)), .unset, .unset] [(.int (1 : Int32))])) _
          refine XS.istore X26.here hx rfl (hb hby at_105) rfl (l' := #[.val (.int p1), .val (.int p2), .val (.int (2 : Int32)), .val (.ref aLT), .val (.int (1 : Int32)), .val (.int (1 : Int32)), .unset]) rfl ?_
          show Steps p.tables e below (T26.setTop (mkF m 107 #[.val (.int p1), .val (.int p2), .val (.int (2 : Int32)), .val (.ref aLT), .val (.int (1 : Int32)), .val (.int (1 : Int32)), .unset] [])) _
          refine XS.goto X26.here hx rfl (pc0 := 107) (pc' := 113) rfl (hb hby at_107) (by decide) (by decide) ?_
          exact k
        · refine ⟨(2 : Int32), (by simp only [if_neg hc91_0, if_neg hc101_1]), ?_⟩
          intro t k
          refine R27 t ?_
          show Steps p.tables e below (T26.setTop (mkF m 90 #[.val (.int p1), .val (.int p2), .val (.int (2 : Int32)), .val (.ref aLT), .val (.int (1 : Int32)), .unset, .unset] [])) _
          refine XS.iloadN X26.here hx rfl (hb hby at_90) rfl ?_
          show Steps p.tables e below (T26.setTop (mkF m 91 #[.val (.int p1), .val (.int p2), .val (.int (2 : Int32)), .val (.ref aLT), .val (.int (1 : Int32)), .unset, .unset] [(.int p2)])) _
          refine XS.ifYes X26.here hx rfl (pc0 := 91) (pc' := 100) rfl (hb hby at_91) rfl ((if0 _ _).trans (flt hc91_0).2.1) (by decide) (by decide) ?_
          show Steps p.tables e below (T26.setTop (mkF m 100 #[.val (.int p1), .val (.int p2), .val (.int (2 : Int32)), .val (.ref aLT), .val (.int (1 : Int32)), .unset, .unset] [])) _
          refine XS.iloadN X26.here hx rfl (hb hby at_100) rfl ?_
          show Steps p.tables e below (T26.setTop (mkF m 101 #[.val (.int p1), .val (.int p2), .val (.int (2 : Int32)), .val (.ref aLT), .val (.int (1 : Int32)), .unset, .unset] [(.int p2)])) _
          refine XS.ifYes X26.here hx rfl (pc0 := 101) (pc' := 110) rfl (hb hby at_101) rfl ((if0 _ _).trans (feq hc101_1).2) (by decide) (by decide) ?_
          show Steps p.tables e below (T26.setTop (mkF m 110 #[.val (.int p1), .val (.int p2), .val (.int (2 : Int32)), .val (.ref aLT), .val (.int (1 : Int32)), .unset, .unset] [])) _
          refine XS.iconst X26.here hx rfl (hb hby at_110) ?_
          show Steps p.tables e below (T26.setTop (mkF m 111 #[.val (.int p1), .val (.int p2), .val (.int (2 : Int32)), .val (.ref aLT), .val (.int (1 : Int32)), .unset, .unset] [(.int (2 : Int32))])) _
          refine XS.istore X26.here hx rfl (hb hby at_111) rfl (l' := #[.val (.int p1), .val (.int p2), .val (.int (2 : Int32)), .val (.ref aLT), .val (.int (1 : Int32)), .val (.int (2 : Int32)), .unset]) rfl ?_
          exact k
    have R29 : ∀ t, Steps p.tables e below (T26.setTop (mkF m 120 #[.val (.int p1), .val (.int p2), .val (.int (2 : Int32)), .val (.ref aLT), .val (.int (1 : Int32)), .val (.int sg), .unset] [(.int (((1 : Int32) >>> (sg &&& 31)) &&& (1 : Int32)))])) t → Steps p.tables e below (s₁.setTop (entryFrame m #[(.int p1), (.int p2)] maxLocals)) t := by
      intro t k
      refine R28 t ?_
      show Steps p.tables e below (T26.setTop (mkF m 113 #[.val (.int p1), .val (.int p2), .val (.int (2 : Int32)), .val (.ref aLT), .val (.int (1 : Int32)), .val (.int sg), .unset] [])) _
      refine XS.iload X26.here hx rfl (hb hby at_113) rfl ?_
      show Steps p.tables e below (T26.setTop (mkF m 115 #[.val (.int p1), .val (.int p2), .val (.int (2 : Int32)), .val (.ref aLT), .val (.int (1 : Int32)), .val (.int sg), .unset] [(.int (1 : Int32))])) _
      refine XS.iload X26.here hx rfl (hb hby at_115) rfl ?_
      show Steps p.tables e below (T26.setTop (mkF m 117 #[.val (.int p1), .val (.int p2), .val (.int (2 : Int32)), .val (.ref aLT), .val (.int (1 : Int32)), .val (.int sg), .unset] [(.int sg), (.int (1 : Int32))])) _
      refine XS.ishr X26.here hx rfl (hb hby at_117) rfl ?_
      show Steps p.tables e below (T26.setTop (mkF m 118 #[.val (.int p1), .val (.int p2), .val (.int (2 : Int32)), .val (.ref aLT), .val (.int (1 : Int32)), .val (.int sg), .unset] [(.int ((1 : Int32) >>> (sg &&& 31)))])) _
      refine XS.iconst X26.here hx rfl (hb hby at_118) ?_
      show Steps p.tables e below (T26.setTop (mkF m 119 #[.val (.int p1), .val (.int p2), .val (.int (2 : Int32)), .val (.ref aLT), .val (.int (1 : Int32)), .val (.int sg), .unset] [(.int (1 : Int32)), (.int ((1 : Int32) >>> (sg &&& 31)))])) _
      refine XS.iand X26.here hx rfl (hb hby at_119) rfl ?_
      exact k
    obtain ⟨ex, hex, R30⟩ : ∃ (ex : Int32), ex = (if (((1 : Int32) >>> (sg &&& 31)) &&& (1 : Int32)) = (0 : Int32) then (0 : Int32) else (1 : Int32)) ∧ (∀ t, Steps p.tables e below (T26.setTop (mkF m 128 #[.val (.int p1), .val (.int p2), .val (.int (2 : Int32)), .val (.ref aLT), .val (.int (1 : Int32)), .val (.int sg), .unset] [(.int ex)])) t → Steps p.tables e below (s₁.setTop (entryFrame m #[(.int p1), (.int p2)] maxLocals)) t) := by
      by_cases hc120_0 : (((1 : Int32) >>> (sg &&& 31)) &&& (1 : Int32)) = (0 : Int32)
      · refine ⟨(0 : Int32), (by simp only [if_pos hc120_0]), ?_⟩
        intro t k
        refine R29 t ?_
        show Steps p.tables e below (T26.setTop (mkF m 120 #[.val (.int p1), .val (.int p2), .val (.int (2 : Int32)), .val (.ref aLT), .val (.int (1 : Int32)), .val (.int sg), .unset] [(.int (((1 : Int32) >>> (sg &&& 31)) &&& (1 : Int32)))])) _
        refine XS.ifYes X26.here hx rfl (pc0 := 120) (pc' := 127) rfl (hb hby at_120) rfl ((if0 _ _).trans (teq hc120_0).1) (by decide) (by decide) ?_
        show Steps p.tables e below (T26.setTop (mkF m 127 #[.val (.int p1), .val (.int p2), .val (.int (2 : Int32)), .val (.ref aLT), .val (.int (1 : Int32)), .val (.int sg), .unset] [])) _
        refine XS.iconst X26.here hx rfl (hb hby at_127) ?_
        exact k
      · refine ⟨(1 : Int32), (by simp only [if_neg hc120_0]), ?_⟩
        intro t k
        refine R29 t ?_
        show Steps p.tables e below (T26.setTop (mkF m 120 #[.val (.int p1), .val (.int p2), .val (.int (2 : Int32)), .val (.ref aLT), .val (.int (1 : Int32)), .val (.int sg), .unset] [(.int (((1 : Int32) >>> (sg &&& 31)) &&& (1 : Int32)))])) _
        refine XS.ifNo X26.here hx rfl (hb hby at_120) rfl ((if0 _ _).trans (feq hc120_0).1) ?_
        show Steps p.tables e below (T26.setTop (mkF m 123 #[.val (.int p1), .val (.int p2), .val (.int (2 : Int32)), .val (.ref aLT), .val (.int (1 : Int32)), .val (.int sg), .unset] [])) _
        refine XS.iconst X26.here hx rfl (hb hby at_123) ?_
        show Steps p.tables e below (T26.setTop (mkF m 124 #[.val (.int p1), .val (.int p2), .val (.int (2 : Int32)), .val (.ref aLT), .val (.int (1 : Int32)), .val (.int sg), .unset] [(.int (1 : Int32))])) _
        refine XS.goto X26.here hx rfl (pc0 := 124) (pc' := 128) rfl (hb hby at_124) (by decide) (by decide) ?_
        exact k
    have R31 : ∀ t, Steps p.tables e below (T26.setTop (mkF m 132 #[.val (.int p1), .val (.int p2), .val (.int (2 : Int32)), .val (.ref aLT), .val (.int (1 : Int32)), .val (.int sg), .val (.int ex)] [(.int p2), (.ref aLT)])) t → Steps p.tables e below (s₁.setTop (entryFrame m #[(.int p1), (.int p2)] maxLocals)) t := by
      intro t k
      refine R30 t ?_
      show Steps p.tables e below (T26.setTop (mkF m 128 #[.val (.int p1), .val (.int p2), .val (.int (2 : Int32)), .val (.ref aLT), .val (.int (1 : Int32)), .val (.int sg), .unset] [(.int ex)])) _
      refine XS.istore X26.here hx rfl (hb hby at_128) rfl (l' := #[.val (.int p1), .val (.int p2), .val (.int (2 : Int32)), .val (.ref aLT), .val (.int (1 : Int32)), .val (.int sg), .val (.int ex)]) rfl ?_
      show Steps p.tables e below (T26.setTop (mkF m 130 #[.val (.int p1), .val (.int p2), .val (.int (2 : Int32)), .val (.ref aLT), .val (.int (1 : Int32)), .val (.int sg), .val (.int ex)] [])) _
      refine XS.aloadN X26.here hx rfl (hb hby at_130) rfl rfl ?_
      show Steps p.tables e below (T26.setTop (mkF m 131 #[.val (.int p1), .val (.int p2), .val (.int (2 : Int32)), .val (.ref aLT), .val (.int (1 : Int32)), .val (.int sg), .val (.int ex)] [(.ref aLT)])) _
      refine XS.iloadN X26.here hx rfl (hb hby at_131) rfl ?_
      exact k
    obtain ⟨cq32, kq32, q32a, q32b, q32c⟩ := isOf hZ e26 ELT
    obtain ⟨_, _, ⟨T32, L32, k32, n32⟩, -, X32, ⟨Lc32, hQ32, l32, y32, z32⟩, st32⟩ := X26.virtualBack hx (y := (⟨"com/example/firm_store/firmstore/Operator", "admits", "(I)Z"⟩ : MethodName)) (z := (⟨"com/example/firm_store/firmstore/Operator", "admits", "(I)Z"⟩ : MethodName)) hown (mvT hZ (hw _ (List.mem_of_getElem? (i := 4) rfl))) (mvT hZ (hw _ (List.mem_of_getElem? (i := 5) rfl))) (notFace_of_selects (args := #[]) (mvT hZ (hw _ (List.mem_of_getElem? (i := 7) rfl)))) (mvT hZ (hw _ (List.mem_of_getElem? (i := 7) rfl))) (mvT hZ (hw _ (List.mem_of_getElem? (i := 6) rfl))) (by decide) (backOf (W := 0) (rmA2 l Z a0 hw [] aLT p2  h0 n0 Z0 FLT ELT) hZ (hw _ (List.mem_of_getElem? (i := 8) rfl)) (hw _ (List.mem_of_getElem? (i := 2) rfl)) (by decide) (by decide)) q32a q32c (g := (mkF m 132 #[.val (.int p1), .val (.int p2), .val (.int (2 : Int32)), .val (.ref aLT), .val (.int (1 : Int32)), .val (.int sg), .val (.int ex)] [(.int p2), (.ref aLT)])) rfl (by rw [hml]; rfl) (Steps.refl _) (argsL := [(.int p2)]) (rest := []) (lenOf own_pd0 rfl) rfl (by show 2 * 0 + _ ≤ _; exact Nat.le_of_eq rfl) (hb hby at_132) (fun _ _ => ⟨rfl, e26, (by decide : 0 + 0 ≤ _), (by decide : 0 + 0 ≤ _)⟩)
    dsimp only [Pt.U, Pt.locs, Pt.cells, Pt.slots] at X32 l32 y32 z32 st32 hQ32
    subst l32 y32 z32
    obtain ⟨rfl, Nq32, eq32⟩ := hQ32
    have N32 := Fr.app N0 Nq32
    have R32 : ∀ t, Steps p.tables e below (T32.setTop (mkF m 135 #[.val (.int p1), .val (.int p2), .val (.int (2 : Int32)), .val (.ref aLT), .val (.int (1 : Int32)), .val (.int sg), .val (.int ex)] [(.int (if p2 < (0 : Int32) then (1 : Int32) else (0 : Int32)))])) t → Steps p.tables e below (s₁.setTop (entryFrame m #[(.int p1), (.int p2)] maxLocals)) t := fun t k => R31 t (st32.trans k)
    have R33 : ∀ t, Steps p.tables e below (T32.setTop (mkF m 137 #[.val (.int p1), .val (.int p2), .val (.int (2 : Int32)), .val (.ref aLT), .val (.int (1 : Int32)), .val (.int sg), .val (.int ex)] [(.int ex), (.int (if p2 < (0 : Int32) then (1 : Int32) else (0 : Int32)))])) t → Steps p.tables e below (s₁.setTop (entryFrame m #[(.int p1), (.int p2)] maxLocals)) t := by
      intro t k
      refine R32 t ?_
      show Steps p.tables e below (T32.setTop (mkF m 135 #[.val (.int p1), .val (.int p2), .val (.int (2 : Int32)), .val (.ref aLT), .val (.int (1 : Int32)), .val (.int sg), .val (.int ex)] [(.int (if p2 < (0 : Int32) then (1 : Int32) else (0 : Int32)))])) _
      refine XS.iload X32.here hx rfl (hb hby at_135) rfl ?_
      exact k
    have heq : (if p2 < (0 : Int32) then (1 : Int32) else (0 : Int32)) = ex := own_eq2 hsg hex
    have R34 : ∀ t, Steps p.tables e below (T32.setTop (mkF m 145 #[.val (.int p1), .val (.int p2), .val (.int (2 : Int32)), .val (.ref aLT), .val (.int (1 : Int32)), .val (.int sg), .val (.int ex)] [(.int (1 : Int32))])) t → Steps p.tables e below (s₁.setTop (entryFrame m #[(.int p1), (.int p2)] maxLocals)) t := by
      intro t k
      refine R33 t ?_
      show Steps p.tables e below (T32.setTop (mkF m 137 #[.val (.int p1), .val (.int p2), .val (.int (2 : Int32)), .val (.ref aLT), .val (.int (1 : Int32)), .val (.int sg), .val (.int ex)] [(.int ex), (.int (if p2 < (0 : Int32) then (1 : Int32) else (0 : Int32)))])) _
      refine XS.icmpNo X32.here hx rfl (hb hby at_137) rfl (teq heq).2 ?_
      show Steps p.tables e below (T32.setTop (mkF m 140 #[.val (.int p1), .val (.int p2), .val (.int (2 : Int32)), .val (.ref aLT), .val (.int (1 : Int32)), .val (.int sg), .val (.int ex)] [])) _
      refine XS.iconst X32.here hx rfl (hb hby at_140) ?_
      show Steps p.tables e below (T32.setTop (mkF m 141 #[.val (.int p1), .val (.int p2), .val (.int (2 : Int32)), .val (.ref aLT), .val (.int (1 : Int32)), .val (.int sg), .val (.int ex)] [(.int (1 : Int32))])) _
      refine XS.goto X32.here hx rfl (pc0 := 141) (pc' := 145) rfl (hb hby at_141) (by decide) (by decide) ?_
      exact k
    obtain ⟨fs, hr, hrun, hended, hW, hsame⟩ := X32.leave (v := some (.int (1 : Int32))) (fun h => by rw [Bd.returns] at h; cases h)
    refine ⟨_, _, R34 _ ?_, hrun, hended, _, _, rfl, ?_, ⟨_, rfl⟩, hW, hsame.mono (by decide) (by decide)⟩
    · exact retN X32 hx (t := .boolean) Bd.returns (by simp) (hb hby at_145) hr
    · show Q_rm0 Z p1 p2 aEQ aNE aLT aLE aGT aGE h0 n0 _ T32.heap _
      rw [eq32]
      exact ⟨rfl, N32⟩
  · have R35 : ∀ t, Steps p.tables e below (s₁.setTop (mkF m 8 #[.val (.int p1), .val (.int p2), .val (.int (3 : Int32)), .unset, .unset, .unset, .unset] [])) t → Steps p.tables e below (s₁.setTop (entryFrame m #[(.int p1), (.int p2)] maxLocals)) t := by rw [(hk : ((p1 &&& (2147483647 : Int32)) % (6 : Int32)) = (3 : Int32))] at R1; exact R1
    have R36 : ∀ t, Steps p.tables e below (s₁.setTop (mkF m 57 #[.val (.int p1), .val (.int p2), .val (.int (3 : Int32)), .unset, .unset, .unset, .unset] [])) t → Steps p.tables e below (s₁.setTop (entryFrame m #[(.int p1), (.int p2)] maxLocals)) t := by
      intro t k
      refine R35 t ?_
      show Steps p.tables e below (s₁.setTop (mkF m 8 #[.val (.int p1), .val (.int p2), .val (.int (3 : Int32)), .unset, .unset, .unset, .unset] [])) _
      refine XS.iloadN X0.here hx rfl (hb hby at_8) rfl ?_
      show Steps p.tables e below (s₁.setTop (mkF m 9 #[.val (.int p1), .val (.int p2), .val (.int (3 : Int32)), .unset, .unset, .unset, .unset] [(.int (3 : Int32))])) _
      refine XS.ifYes X0.here hx rfl (pc0 := 9) (pc' := 22) rfl (hb hby at_9) rfl ((if0 _ _).trans (feq (by decide : ¬ ((3 : Int32) = (0 : Int32)))).2) (by decide) (by decide) ?_
      show Steps p.tables e below (s₁.setTop (mkF m 22 #[.val (.int p1), .val (.int p2), .val (.int (3 : Int32)), .unset, .unset, .unset, .unset] [])) _
      refine XS.iloadN X0.here hx rfl (hb hby at_22) rfl ?_
      show Steps p.tables e below (s₁.setTop (mkF m 23 #[.val (.int p1), .val (.int p2), .val (.int (3 : Int32)), .unset, .unset, .unset, .unset] [(.int (3 : Int32))])) _
      refine XS.iconst X0.here hx rfl (hb hby at_23) ?_
      show Steps p.tables e below (s₁.setTop (mkF m 24 #[.val (.int p1), .val (.int p2), .val (.int (3 : Int32)), .unset, .unset, .unset, .unset] [(.int (1 : Int32)), (.int (3 : Int32))])) _
      refine XS.icmpYes X0.here hx rfl (pc0 := 24) (pc' := 37) rfl (hb hby at_24) rfl (feq (by decide : ¬ ((3 : Int32) = (1 : Int32)))).2 (by decide) (by decide) ?_
      show Steps p.tables e below (s₁.setTop (mkF m 37 #[.val (.int p1), .val (.int p2), .val (.int (3 : Int32)), .unset, .unset, .unset, .unset] [])) _
      refine XS.iloadN X0.here hx rfl (hb hby at_37) rfl ?_
      show Steps p.tables e below (s₁.setTop (mkF m 38 #[.val (.int p1), .val (.int p2), .val (.int (3 : Int32)), .unset, .unset, .unset, .unset] [(.int (3 : Int32))])) _
      refine XS.iconst X0.here hx rfl (hb hby at_38) ?_
      show Steps p.tables e below (s₁.setTop (mkF m 39 #[.val (.int p1), .val (.int p2), .val (.int (3 : Int32)), .unset, .unset, .unset, .unset] [(.int (2 : Int32)), (.int (3 : Int32))])) _
      refine XS.icmpYes X0.here hx rfl (pc0 := 39) (pc' := 52) rfl (hb hby at_39) rfl (feq (by decide : ¬ ((3 : Int32) = (2 : Int32)))).2 (by decide) (by decide) ?_
      show Steps p.tables e below (s₁.setTop (mkF m 52 #[.val (.int p1), .val (.int p2), .val (.int (3 : Int32)), .unset, .unset, .unset, .unset] [])) _
      refine XS.iloadN X0.here hx rfl (hb hby at_52) rfl ?_
      show Steps p.tables e below (s₁.setTop (mkF m 53 #[.val (.int p1), .val (.int p2), .val (.int (3 : Int32)), .unset, .unset, .unset, .unset] [(.int (3 : Int32))])) _
      refine XS.iconst X0.here hx rfl (hb hby at_53) ?_
      show Steps p.tables e below (s₁.setTop (mkF m 54 #[.val (.int p1), .val (.int p2), .val (.int (3 : Int32)), .unset, .unset, .unset, .unset] [(.int (3 : Int32)), (.int (3 : Int32))])) _
      refine XS.icmpNo X0.here hx rfl (hb hby at_54) rfl (teq (by decide : ((3 : Int32) = (3 : Int32)))).2 ?_
      exact k
    obtain ⟨T37, X37, e37, st37⟩ := getS2 X0 hx hZ hown (host := "") (Or.inl (hw _ (List.mem_of_getElem? (i := 26) rfl))) Via.refl e0 SLE (g := (mkF m 57 #[.val (.int p1), .val (.int p2), .val (.int (3 : Int32)), .unset, .unset, .unset, .unset] [])) rfl (hb hby at_57)
    have R37 : ∀ t, Steps p.tables e below (T37.setTop (mkF m 60 #[.val (.int p1), .val (.int p2), .val (.int (3 : Int32)), .unset, .unset, .unset, .unset] [(.ref aLE)])) t → Steps p.tables e below (s₁.setTop (entryFrame m #[(.int p1), (.int p2)] maxLocals)) t := fun t k => R36 t (st37 t k)
    have R38 : ∀ t, Steps p.tables e below (T37.setTop (mkF m 90 #[.val (.int p1), .val (.int p2), .val (.int (3 : Int32)), .val (.ref aLE), .val (.int (3 : Int32)), .unset, .unset] [])) t → Steps p.tables e below (s₁.setTop (entryFrame m #[(.int p1), (.int p2)] maxLocals)) t := by
      intro t k
      refine R37 t ?_
      show Steps p.tables e below (T37.setTop (mkF m 60 #[.val (.int p1), .val (.int p2), .val (.int (3 : Int32)), .unset, .unset, .unset, .unset] [(.ref aLE)])) _
      refine XS.astoreN X37.here hx rfl (hb hby at_60) rfl rfl (l' := #[.val (.int p1), .val (.int p2), .val (.int (3 : Int32)), .val (.ref aLE), .unset, .unset, .unset]) rfl ?_
      show Steps p.tables e below (T37.setTop (mkF m 61 #[.val (.int p1), .val (.int p2), .val (.int (3 : Int32)), .val (.ref aLE), .unset, .unset, .unset] [])) _
      refine XS.iconst X37.here hx rfl (hb hby at_61) ?_
      show Steps p.tables e below (T37.setTop (mkF m 62 #[.val (.int p1), .val (.int p2), .val (.int (3 : Int32)), .val (.ref aLE), .unset, .unset, .unset] [(.int (3 : Int32))])) _
      refine XS.istore X37.here hx rfl (hb hby at_62) rfl (l' := #[.val (.int p1), .val (.int p2), .val (.int (3 : Int32)), .val (.ref aLE), .val (.int (3 : Int32)), .unset, .unset]) rfl ?_
      show Steps p.tables e below (T37.setTop (mkF m 64 #[.val (.int p1), .val (.int p2), .val (.int (3 : Int32)), .val (.ref aLE), .val (.int (3 : Int32)), .unset, .unset] [])) _
      refine XS.goto X37.here hx rfl (pc0 := 64) (pc' := 90) rfl (hb hby at_64) (by decide) (by decide) ?_
      exact k
    obtain ⟨sg, hsg, R39⟩ : ∃ (sg : Int32), sg = (if p2 < (0 : Int32) then (0 : Int32) else (if p2 = (0 : Int32) then (1 : Int32) else (2 : Int32))) ∧ (∀ t, Steps p.tables e below (T37.setTop (mkF m 113 #[.val (.int p1), .val (.int p2), .val (.int (3 : Int32)), .val (.ref aLE), .val (.int (3 : Int32)), .val (.int sg), .unset] [])) t → Steps p.tables e below (s₁.setTop (entryFrame m #[(.int p1), (.int p2)] maxLocals)) t) := by
      by_cases hc91_0 : p2 < (0 : Int32)
      · refine ⟨(0 : Int32), (by simp only [if_pos hc91_0]), ?_⟩
        intro t k
        refine R38 t ?_
        show Steps p.tables e below (T37.setTop (mkF m 90 #[.val (.int p1), .val (.int p2), .val (.int (3 : Int32)), .val (.ref aLE), .val (.int (3 : Int32)), .unset, .unset] [])) _
        refine XS.iloadN X37.here hx rfl (hb hby at_90) rfl ?_
        show Steps p.tables e below (T37.setTop (mkF m 91 #[.val (.int p1), .val (.int p2), .val (.int (3 : Int32)), .val (.ref aLE), .val (.int (3 : Int32)), .unset, .unset] [(.int p2)])) _
        refine XS.ifNo X37.here hx rfl (hb hby at_91) rfl ((if0 _ _).trans (tlt hc91_0).2.1) ?_
        show Steps p.tables e below (T37.setTop (mkF m 94 #[.val (.int p1), .val (.int p2), .val (.int (3 : Int32)), .val (.ref aLE), .val (.int (3 : Int32)), .unset, .unset] [])) _
        refine XS.iconst X37.here hx rfl (hb hby at_94) ?_
        show Steps p.tables e below (T37.setTop (mkF m 95 #[.val (.int p1), .val (.int p2), .val (.int (3 : Int32)), .val (.ref aLE), .val (.int (3 : Int32)), .unset, .unset] [(.int (0 : Int32))])) _
        refine XS.istore X37.here hx rfl (hb hby at_95) rfl (l' := #[.val (.int p1), .val (.int p2), .val (.int (3 : Int32)), .val (.ref aLE), .val (.int (3 : Int32)), .val (.int (0 : Int32)), .unset]) rfl ?_
        show Steps p.tables e below (T37.setTop (mkF m 97 #[.val (.int p1), .val (.int p2), .val (.int (3 : Int32)), .val (.ref aLE), .val (.int (3 : Int32)), .val (.int (0 : Int32)), .unset] [])) _
        refine XS.goto X37.here hx rfl (pc0 := 97) (pc' := 113) rfl (hb hby at_97) (by decide) (by decide) ?_
        exact k
      · by_cases hc101_1 : p2 = (0 : Int32)
        · refine ⟨(1 : Int32), (by simp only [if_neg hc91_0, if_pos hc101_1]), ?_⟩
          intro t k
          refine R38 t ?_
          show Steps p.tables e below (T37.setTop (mkF m 90 #[.val (.int p1), .val (.int p2), .val (.int (3 : Int32)), .val (.ref aLE), .val (.int (3 : Int32)), .unset, .unset] [])) _
          refine XS.iloadN X37.here hx rfl (hb hby at_90) rfl ?_
          show Steps p.tables e below (T37.setTop (mkF m 91 #[.val (.int p1), .val (.int p2), .val (.int (3 : Int32)), .val (.ref aLE), .val (.int (3 : Int32)), .unset, .unset] [(.int p2)])) _
          refine XS.ifYes X37.here hx rfl (pc0 := 91) (pc' := 100) rfl (hb hby at_91) rfl ((if0 _ _).trans (flt hc91_0).2.1) (by decide) (by decide) ?_
          show Steps p.tables e below (T37.setTop (mkF m 100 #[.val (.int p1), .val (.int p2), .val (.int (3 : Int32)), .val (.ref aLE), .val (.int (3 : Int32)), .unset, .unset] [])) _
          refine XS.iloadN X37.here hx rfl (hb hby at_100) rfl ?_
          show Steps p.tables e below (T37.setTop (mkF m 101 #[.val (.int p1), .val (.int p2), .val (.int (3 : Int32)), .val (.ref aLE), .val (.int (3 : Int32)), .unset, .unset] [(.int p2)])) _
          refine XS.ifNo X37.here hx rfl (hb hby at_101) rfl ((if0 _ _).trans (teq hc101_1).2) ?_
          show Steps p.tables e below (T37.setTop (mkF m 104 #[.val (.int p1), .val (.int p2), .val (.int (3 : Int32)), .val (.ref aLE), .val (.int (3 : Int32)), .unset, .unset] [])) _
          refine XS.iconst X37.here hx rfl (hb hby at_104) ?_
          show Steps p.tables e below (T37.setTop (mkF m 105 #[.val (.int p1), .val (.int p2), .val (.int (3 : Int32)), .val (.ref aLE), .val (.int (3 : Int32)), .unset, .unset] [(.int (1 : Int32))])) _
          refine XS.istore X37.here hx rfl (hb hby at_105) rfl (l' := #[.val (.int p1), .val (.int p2), .val (.int (3 : Int32)), .val (.ref aLE), .val (.int (3 : Int32)), .val (.int (1 : Int32)), .unset]) rfl ?_
          show Steps p.tables e below (T37.setTop (mkF m 107 #[.val (.int p1), .val (.int p2), .val (.int (3 : Int32)), .val (.ref aLE), .val (.int (3 : Int32)), .val (.int (1 : Int32)), .unset] [])) _
          refine XS.goto X37.here hx rfl (pc0 := 107) (pc' := 113) rfl (hb hby at_107) (by decide) (by decide) ?_
          exact k
        · refine ⟨(2 : Int32), (by simp only [if_neg hc91_0, if_neg hc101_1]), ?_⟩
          intro t k
          refine R38 t ?_
          show Steps p.tables e below (T37.setTop (mkF m 90 #[.val (.int p1), .val (.int p2), .val (.int (3 : Int32)), .val (.ref aLE), .val (.int (3 : Int32)), .unset, .unset] [])) _
          refine XS.iloadN X37.here hx rfl (hb hby at_90) rfl ?_
          show Steps p.tables e below (T37.setTop (mkF m 91 #[.val (.int p1), .val (.int p2), .val (.int (3 : Int32)), .val (.ref aLE), .val (.int (3 : Int32)), .unset, .unset] [(.int p2)])) _
          refine XS.ifYes X37.here hx rfl (pc0 := 91) (pc' := 100) rfl (hb hby at_91) rfl ((if0 _ _).trans (flt hc91_0).2.1) (by decide) (by decide) ?_
          show Steps p.tables e below (T37.setTop (mkF m 100 #[.val (.int p1), .val (.int p2), .val (.int (3 : Int32)), .val (.ref aLE), .val (.int (3 : Int32)), .unset, .unset] [])) _
          refine XS.iloadN X37.here hx rfl (hb hby at_100) rfl ?_
          show Steps p.tables e below (T37.setTop (mkF m 101 #[.val (.int p1), .val (.int p2), .val (.int (3 : Int32)), .val (.ref aLE), .val (.int (3 : Int32)), .unset, .unset] [(.int p2)])) _
          refine XS.ifYes X37.here hx rfl (pc0 := 101) (pc' := 110) rfl (hb hby at_101) rfl ((if0 _ _).trans (feq hc101_1).2) (by decide) (by decide) ?_
          show Steps p.tables e below (T37.setTop (mkF m 110 #[.val (.int p1), .val (.int p2), .val (.int (3 : Int32)), .val (.ref aLE), .val (.int (3 : Int32)), .unset, .unset] [])) _
          refine XS.iconst X37.here hx rfl (hb hby at_110) ?_
          show Steps p.tables e below (T37.setTop (mkF m 111 #[.val (.int p1), .val (.int p2), .val (.int (3 : Int32)), .val (.ref aLE), .val (.int (3 : Int32)), .unset, .unset] [(.int (2 : Int32))])) _
          refine XS.istore X37.here hx rfl (hb hby at_111) rfl (l' := #[.val (.int p1), .val (.int p2), .val (.int (3 : Int32)), .val (.ref aLE), .val (.int (3 : Int32)), .val (.int (2 : Int32)), .unset]) rfl ?_
          exact k
    have R40 : ∀ t, Steps p.tables e below (T37.setTop (mkF m 120 #[.val (.int p1), .val (.int p2), .val (.int (3 : Int32)), .val (.ref aLE), .val (.int (3 : Int32)), .val (.int sg), .unset] [(.int (((3 : Int32) >>> (sg &&& 31)) &&& (1 : Int32)))])) t → Steps p.tables e below (s₁.setTop (entryFrame m #[(.int p1), (.int p2)] maxLocals)) t := by
      intro t k
      refine R39 t ?_
      show Steps p.tables e below (T37.setTop (mkF m 113 #[.val (.int p1), .val (.int p2), .val (.int (3 : Int32)), .val (.ref aLE), .val (.int (3 : Int32)), .val (.int sg), .unset] [])) _
      refine XS.iload X37.here hx rfl (hb hby at_113) rfl ?_
      show Steps p.tables e below (T37.setTop (mkF m 115 #[.val (.int p1), .val (.int p2), .val (.int (3 : Int32)), .val (.ref aLE), .val (.int (3 : Int32)), .val (.int sg), .unset] [(.int (3 : Int32))])) _
      refine XS.iload X37.here hx rfl (hb hby at_115) rfl ?_
      show Steps p.tables e below (T37.setTop (mkF m 117 #[.val (.int p1), .val (.int p2), .val (.int (3 : Int32)), .val (.ref aLE), .val (.int (3 : Int32)), .val (.int sg), .unset] [(.int sg), (.int (3 : Int32))])) _
      refine XS.ishr X37.here hx rfl (hb hby at_117) rfl ?_
      show Steps p.tables e below (T37.setTop (mkF m 118 #[.val (.int p1), .val (.int p2), .val (.int (3 : Int32)), .val (.ref aLE), .val (.int (3 : Int32)), .val (.int sg), .unset] [(.int ((3 : Int32) >>> (sg &&& 31)))])) _
      refine XS.iconst X37.here hx rfl (hb hby at_118) ?_
      show Steps p.tables e below (T37.setTop (mkF m 119 #[.val (.int p1), .val (.int p2), .val (.int (3 : Int32)), .val (.ref aLE), .val (.int (3 : Int32)), .val (.int sg), .unset] [(.int (1 : Int32)), (.int ((3 : Int32) >>> (sg &&& 31)))])) _
      refine XS.iand X37.here hx rfl (hb hby at_119) rfl ?_
      exact k
    obtain ⟨ex, hex, R41⟩ : ∃ (ex : Int32), ex = (if (((3 : Int32) >>> (sg &&& 31)) &&& (1 : Int32)) = (0 : Int32) then (0 : Int32) else (1 : Int32)) ∧ (∀ t, Steps p.tables e below (T37.setTop (mkF m 128 #[.val (.int p1), .val (.int p2), .val (.int (3 : Int32)), .val (.ref aLE), .val (.int (3 : Int32)), .val (.int sg), .unset] [(.int ex)])) t → Steps p.tables e below (s₁.setTop (entryFrame m #[(.int p1), (.int p2)] maxLocals)) t) := by
      by_cases hc120_0 : (((3 : Int32) >>> (sg &&& 31)) &&& (1 : Int32)) = (0 : Int32)
      · refine ⟨(0 : Int32), (by simp only [if_pos hc120_0]), ?_⟩
        intro t k
        refine R40 t ?_
        show Steps p.tables e below (T37.setTop (mkF m 120 #[.val (.int p1), .val (.int p2), .val (.int (3 : Int32)), .val (.ref aLE), .val (.int (3 : Int32)), .val (.int sg), .unset] [(.int (((3 : Int32) >>> (sg &&& 31)) &&& (1 : Int32)))])) _
        refine XS.ifYes X37.here hx rfl (pc0 := 120) (pc' := 127) rfl (hb hby at_120) rfl ((if0 _ _).trans (teq hc120_0).1) (by decide) (by decide) ?_
        show Steps p.tables e below (T37.setTop (mkF m 127 #[.val (.int p1), .val (.int p2), .val (.int (3 : Int32)), .val (.ref aLE), .val (.int (3 : Int32)), .val (.int sg), .unset] [])) _
        refine XS.iconst X37.here hx rfl (hb hby at_127) ?_
        exact k
      · refine ⟨(1 : Int32), (by simp only [if_neg hc120_0]), ?_⟩
        intro t k
        refine R40 t ?_
        show Steps p.tables e below (T37.setTop (mkF m 120 #[.val (.int p1), .val (.int p2), .val (.int (3 : Int32)), .val (.ref aLE), .val (.int (3 : Int32)), .val (.int sg), .unset] [(.int (((3 : Int32) >>> (sg &&& 31)) &&& (1 : Int32)))])) _
        refine XS.ifNo X37.here hx rfl (hb hby at_120) rfl ((if0 _ _).trans (feq hc120_0).1) ?_
        show Steps p.tables e below (T37.setTop (mkF m 123 #[.val (.int p1), .val (.int p2), .val (.int (3 : Int32)), .val (.ref aLE), .val (.int (3 : Int32)), .val (.int sg), .unset] [])) _
        refine XS.iconst X37.here hx rfl (hb hby at_123) ?_
        show Steps p.tables e below (T37.setTop (mkF m 124 #[.val (.int p1), .val (.int p2), .val (.int (3 : Int32)), .val (.ref aLE), .val (.int (3 : Int32)), .val (.int sg), .unset] [(.int (1 : Int32))])) _
        refine XS.goto X37.here hx rfl (pc0 := 124) (pc' := 128) rfl (hb hby at_124) (by decide) (by decide) ?_
        exact k
    have R42 : ∀ t, Steps p.tables e below (T37.setTop (mkF m 132 #[.val (.int p1), .val (.int p2), .val (.int (3 : Int32)), .val (.ref aLE), .val (.int (3 : Int32)), .val (.int sg), .val (.int ex)] [(.int p2), (.ref aLE)])) t → Steps p.tables e below (s₁.setTop (entryFrame m #[(.int p1), (.int p2)] maxLocals)) t := by
      intro t k
      refine R41 t ?_
      show Steps p.tables e below (T37.setTop (mkF m 128 #[.val (.int p1), .val (.int p2), .val (.int (3 : Int32)), .val (.ref aLE), .val (.int (3 : Int32)), .val (.int sg), .unset] [(.int ex)])) _
      refine XS.istore X37.here hx rfl (hb hby at_128) rfl (l' := #[.val (.int p1), .val (.int p2), .val (.int (3 : Int32)), .val (.ref aLE), .val (.int (3 : Int32)), .val (.int sg), .val (.int ex)]) rfl ?_
      show Steps p.tables e below (T37.setTop (mkF m 130 #[.val (.int p1), .val (.int p2), .val (.int (3 : Int32)), .val (.ref aLE), .val (.int (3 : Int32)), .val (.int sg), .val (.int ex)] [])) _
      refine XS.aloadN X37.here hx rfl (hb hby at_130) rfl rfl ?_
      show Steps p.tables e below (T37.setTop (mkF m 131 #[.val (.int p1), .val (.int p2), .val (.int (3 : Int32)), .val (.ref aLE), .val (.int (3 : Int32)), .val (.int sg), .val (.int ex)] [(.ref aLE)])) _
      refine XS.iloadN X37.here hx rfl (hb hby at_131) rfl ?_
      exact k
    obtain ⟨cq43, kq43, q43a, q43b, q43c⟩ := isOf hZ e37 ELE
    obtain ⟨_, _, ⟨T43, L43, k43, n43⟩, -, X43, ⟨Lc43, hQ43, l43, y43, z43⟩, st43⟩ := X37.virtualBack hx (y := (⟨"com/example/firm_store/firmstore/Operator", "admits", "(I)Z"⟩ : MethodName)) (z := (⟨"com/example/firm_store/firmstore/Operator", "admits", "(I)Z"⟩ : MethodName)) hown (mvT hZ (hw _ (List.mem_of_getElem? (i := 4) rfl))) (mvT hZ (hw _ (List.mem_of_getElem? (i := 5) rfl))) (notFace_of_selects (args := #[]) (mvT hZ (hw _ (List.mem_of_getElem? (i := 7) rfl)))) (mvT hZ (hw _ (List.mem_of_getElem? (i := 7) rfl))) (mvT hZ (hw _ (List.mem_of_getElem? (i := 6) rfl))) (by decide) (backOf (W := 0) (rmA3 l Z a0 hw [] aLE p2  h0 n0 Z0 FLE ELE) hZ (hw _ (List.mem_of_getElem? (i := 8) rfl)) (hw _ (List.mem_of_getElem? (i := 2) rfl)) (by decide) (by decide)) q43a q43c (g := (mkF m 132 #[.val (.int p1), .val (.int p2), .val (.int (3 : Int32)), .val (.ref aLE), .val (.int (3 : Int32)), .val (.int sg), .val (.int ex)] [(.int p2), (.ref aLE)])) rfl (by rw [hml]; rfl) (Steps.refl _) (argsL := [(.int p2)]) (rest := []) (lenOf own_pd0 rfl) rfl (by show 2 * 0 + _ ≤ _; exact Nat.le_of_eq rfl) (hb hby at_132) (fun _ _ => ⟨rfl, e37, (by decide : 0 + 0 ≤ _), (by decide : 0 + 0 ≤ _)⟩)
    dsimp only [Pt.U, Pt.locs, Pt.cells, Pt.slots] at X43 l43 y43 z43 st43 hQ43
    subst l43 y43 z43
    obtain ⟨rfl, Nq43, eq43⟩ := hQ43
    have N43 := Fr.app N0 Nq43
    have R43 : ∀ t, Steps p.tables e below (T43.setTop (mkF m 135 #[.val (.int p1), .val (.int p2), .val (.int (3 : Int32)), .val (.ref aLE), .val (.int (3 : Int32)), .val (.int sg), .val (.int ex)] [(.int (if (0 : Int32) < p2 then (0 : Int32) else (1 : Int32)))])) t → Steps p.tables e below (s₁.setTop (entryFrame m #[(.int p1), (.int p2)] maxLocals)) t := fun t k => R42 t (st43.trans k)
    have R44 : ∀ t, Steps p.tables e below (T43.setTop (mkF m 137 #[.val (.int p1), .val (.int p2), .val (.int (3 : Int32)), .val (.ref aLE), .val (.int (3 : Int32)), .val (.int sg), .val (.int ex)] [(.int ex), (.int (if (0 : Int32) < p2 then (0 : Int32) else (1 : Int32)))])) t → Steps p.tables e below (s₁.setTop (entryFrame m #[(.int p1), (.int p2)] maxLocals)) t := by
      intro t k
      refine R43 t ?_
      show Steps p.tables e below (T43.setTop (mkF m 135 #[.val (.int p1), .val (.int p2), .val (.int (3 : Int32)), .val (.ref aLE), .val (.int (3 : Int32)), .val (.int sg), .val (.int ex)] [(.int (if (0 : Int32) < p2 then (0 : Int32) else (1 : Int32)))])) _
      refine XS.iload X43.here hx rfl (hb hby at_135) rfl ?_
      exact k
    have heq : (if (0 : Int32) < p2 then (0 : Int32) else (1 : Int32)) = ex := own_eq3 hsg hex
    have R45 : ∀ t, Steps p.tables e below (T43.setTop (mkF m 145 #[.val (.int p1), .val (.int p2), .val (.int (3 : Int32)), .val (.ref aLE), .val (.int (3 : Int32)), .val (.int sg), .val (.int ex)] [(.int (1 : Int32))])) t → Steps p.tables e below (s₁.setTop (entryFrame m #[(.int p1), (.int p2)] maxLocals)) t := by
      intro t k
      refine R44 t ?_
      show Steps p.tables e below (T43.setTop (mkF m 137 #[.val (.int p1), .val (.int p2), .val (.int (3 : Int32)), .val (.ref aLE), .val (.int (3 : Int32)), .val (.int sg), .val (.int ex)] [(.int ex), (.int (if (0 : Int32) < p2 then (0 : Int32) else (1 : Int32)))])) _
      refine XS.icmpNo X43.here hx rfl (hb hby at_137) rfl (teq heq).2 ?_
      show Steps p.tables e below (T43.setTop (mkF m 140 #[.val (.int p1), .val (.int p2), .val (.int (3 : Int32)), .val (.ref aLE), .val (.int (3 : Int32)), .val (.int sg), .val (.int ex)] [])) _
      refine XS.iconst X43.here hx rfl (hb hby at_140) ?_
      show Steps p.tables e below (T43.setTop (mkF m 141 #[.val (.int p1), .val (.int p2), .val (.int (3 : Int32)), .val (.ref aLE), .val (.int (3 : Int32)), .val (.int sg), .val (.int ex)] [(.int (1 : Int32))])) _
      refine XS.goto X43.here hx rfl (pc0 := 141) (pc' := 145) rfl (hb hby at_141) (by decide) (by decide) ?_
      exact k
    obtain ⟨fs, hr, hrun, hended, hW, hsame⟩ := X43.leave (v := some (.int (1 : Int32))) (fun h => by rw [Bd.returns] at h; cases h)
    refine ⟨_, _, R45 _ ?_, hrun, hended, _, _, rfl, ?_, ⟨_, rfl⟩, hW, hsame.mono (by decide) (by decide)⟩
    · exact retN X43 hx (t := .boolean) Bd.returns (by simp) (hb hby at_145) hr
    · show Q_rm0 Z p1 p2 aEQ aNE aLT aLE aGT aGE h0 n0 _ T43.heap _
      rw [eq43]
      exact ⟨rfl, N43⟩
  · have R46 : ∀ t, Steps p.tables e below (s₁.setTop (mkF m 8 #[.val (.int p1), .val (.int p2), .val (.int (4 : Int32)), .unset, .unset, .unset, .unset] [])) t → Steps p.tables e below (s₁.setTop (entryFrame m #[(.int p1), (.int p2)] maxLocals)) t := by rw [(hk : ((p1 &&& (2147483647 : Int32)) % (6 : Int32)) = (4 : Int32))] at R1; exact R1
    have R47 : ∀ t, Steps p.tables e below (s₁.setTop (mkF m 72 #[.val (.int p1), .val (.int p2), .val (.int (4 : Int32)), .unset, .unset, .unset, .unset] [])) t → Steps p.tables e below (s₁.setTop (entryFrame m #[(.int p1), (.int p2)] maxLocals)) t := by
      intro t k
      refine R46 t ?_
      show Steps p.tables e below (s₁.setTop (mkF m 8 #[.val (.int p1), .val (.int p2), .val (.int (4 : Int32)), .unset, .unset, .unset, .unset] [])) _
      refine XS.iloadN X0.here hx rfl (hb hby at_8) rfl ?_
      show Steps p.tables e below (s₁.setTop (mkF m 9 #[.val (.int p1), .val (.int p2), .val (.int (4 : Int32)), .unset, .unset, .unset, .unset] [(.int (4 : Int32))])) _
      refine XS.ifYes X0.here hx rfl (pc0 := 9) (pc' := 22) rfl (hb hby at_9) rfl ((if0 _ _).trans (feq (by decide : ¬ ((4 : Int32) = (0 : Int32)))).2) (by decide) (by decide) ?_
      show Steps p.tables e below (s₁.setTop (mkF m 22 #[.val (.int p1), .val (.int p2), .val (.int (4 : Int32)), .unset, .unset, .unset, .unset] [])) _
      refine XS.iloadN X0.here hx rfl (hb hby at_22) rfl ?_
      show Steps p.tables e below (s₁.setTop (mkF m 23 #[.val (.int p1), .val (.int p2), .val (.int (4 : Int32)), .unset, .unset, .unset, .unset] [(.int (4 : Int32))])) _
      refine XS.iconst X0.here hx rfl (hb hby at_23) ?_
      show Steps p.tables e below (s₁.setTop (mkF m 24 #[.val (.int p1), .val (.int p2), .val (.int (4 : Int32)), .unset, .unset, .unset, .unset] [(.int (1 : Int32)), (.int (4 : Int32))])) _
      refine XS.icmpYes X0.here hx rfl (pc0 := 24) (pc' := 37) rfl (hb hby at_24) rfl (feq (by decide : ¬ ((4 : Int32) = (1 : Int32)))).2 (by decide) (by decide) ?_
      show Steps p.tables e below (s₁.setTop (mkF m 37 #[.val (.int p1), .val (.int p2), .val (.int (4 : Int32)), .unset, .unset, .unset, .unset] [])) _
      refine XS.iloadN X0.here hx rfl (hb hby at_37) rfl ?_
      show Steps p.tables e below (s₁.setTop (mkF m 38 #[.val (.int p1), .val (.int p2), .val (.int (4 : Int32)), .unset, .unset, .unset, .unset] [(.int (4 : Int32))])) _
      refine XS.iconst X0.here hx rfl (hb hby at_38) ?_
      show Steps p.tables e below (s₁.setTop (mkF m 39 #[.val (.int p1), .val (.int p2), .val (.int (4 : Int32)), .unset, .unset, .unset, .unset] [(.int (2 : Int32)), (.int (4 : Int32))])) _
      refine XS.icmpYes X0.here hx rfl (pc0 := 39) (pc' := 52) rfl (hb hby at_39) rfl (feq (by decide : ¬ ((4 : Int32) = (2 : Int32)))).2 (by decide) (by decide) ?_
      show Steps p.tables e below (s₁.setTop (mkF m 52 #[.val (.int p1), .val (.int p2), .val (.int (4 : Int32)), .unset, .unset, .unset, .unset] [])) _
      refine XS.iloadN X0.here hx rfl (hb hby at_52) rfl ?_
      show Steps p.tables e below (s₁.setTop (mkF m 53 #[.val (.int p1), .val (.int p2), .val (.int (4 : Int32)), .unset, .unset, .unset, .unset] [(.int (4 : Int32))])) _
      refine XS.iconst X0.here hx rfl (hb hby at_53) ?_
      show Steps p.tables e below (s₁.setTop (mkF m 54 #[.val (.int p1), .val (.int p2), .val (.int (4 : Int32)), .unset, .unset, .unset, .unset] [(.int (3 : Int32)), (.int (4 : Int32))])) _
      refine XS.icmpYes X0.here hx rfl (pc0 := 54) (pc' := 67) rfl (hb hby at_54) rfl (feq (by decide : ¬ ((4 : Int32) = (3 : Int32)))).2 (by decide) (by decide) ?_
      show Steps p.tables e below (s₁.setTop (mkF m 67 #[.val (.int p1), .val (.int p2), .val (.int (4 : Int32)), .unset, .unset, .unset, .unset] [])) _
      refine XS.iloadN X0.here hx rfl (hb hby at_67) rfl ?_
      show Steps p.tables e below (s₁.setTop (mkF m 68 #[.val (.int p1), .val (.int p2), .val (.int (4 : Int32)), .unset, .unset, .unset, .unset] [(.int (4 : Int32))])) _
      refine XS.iconst X0.here hx rfl (hb hby at_68) ?_
      show Steps p.tables e below (s₁.setTop (mkF m 69 #[.val (.int p1), .val (.int p2), .val (.int (4 : Int32)), .unset, .unset, .unset, .unset] [(.int (4 : Int32)), (.int (4 : Int32))])) _
      refine XS.icmpNo X0.here hx rfl (hb hby at_69) rfl (teq (by decide : ((4 : Int32) = (4 : Int32)))).2 ?_
      exact k
    obtain ⟨T48, X48, e48, st48⟩ := getS2 X0 hx hZ hown (host := "") (Or.inl (hw _ (List.mem_of_getElem? (i := 20) rfl))) Via.refl e0 SGT (g := (mkF m 72 #[.val (.int p1), .val (.int p2), .val (.int (4 : Int32)), .unset, .unset, .unset, .unset] [])) rfl (hb hby at_72)
    have R48 : ∀ t, Steps p.tables e below (T48.setTop (mkF m 75 #[.val (.int p1), .val (.int p2), .val (.int (4 : Int32)), .unset, .unset, .unset, .unset] [(.ref aGT)])) t → Steps p.tables e below (s₁.setTop (entryFrame m #[(.int p1), (.int p2)] maxLocals)) t := fun t k => R47 t (st48 t k)
    have R49 : ∀ t, Steps p.tables e below (T48.setTop (mkF m 90 #[.val (.int p1), .val (.int p2), .val (.int (4 : Int32)), .val (.ref aGT), .val (.int (4 : Int32)), .unset, .unset] [])) t → Steps p.tables e below (s₁.setTop (entryFrame m #[(.int p1), (.int p2)] maxLocals)) t := by
      intro t k
      refine R48 t ?_
      show Steps p.tables e below (T48.setTop (mkF m 75 #[.val (.int p1), .val (.int p2), .val (.int (4 : Int32)), .unset, .unset, .unset, .unset] [(.ref aGT)])) _
      refine XS.astoreN X48.here hx rfl (hb hby at_75) rfl rfl (l' := #[.val (.int p1), .val (.int p2), .val (.int (4 : Int32)), .val (.ref aGT), .unset, .unset, .unset]) rfl ?_
      show Steps p.tables e below (T48.setTop (mkF m 76 #[.val (.int p1), .val (.int p2), .val (.int (4 : Int32)), .val (.ref aGT), .unset, .unset, .unset] [])) _
      refine XS.iconst X48.here hx rfl (hb hby at_76) ?_
      show Steps p.tables e below (T48.setTop (mkF m 77 #[.val (.int p1), .val (.int p2), .val (.int (4 : Int32)), .val (.ref aGT), .unset, .unset, .unset] [(.int (4 : Int32))])) _
      refine XS.istore X48.here hx rfl (hb hby at_77) rfl (l' := #[.val (.int p1), .val (.int p2), .val (.int (4 : Int32)), .val (.ref aGT), .val (.int (4 : Int32)), .unset, .unset]) rfl ?_
      show Steps p.tables e below (T48.setTop (mkF m 79 #[.val (.int p1), .val (.int p2), .val (.int (4 : Int32)), .val (.ref aGT), .val (.int (4 : Int32)), .unset, .unset] [])) _
      refine XS.goto X48.here hx rfl (pc0 := 79) (pc' := 90) rfl (hb hby at_79) (by decide) (by decide) ?_
      exact k
    obtain ⟨sg, hsg, R50⟩ : ∃ (sg : Int32), sg = (if p2 < (0 : Int32) then (0 : Int32) else (if p2 = (0 : Int32) then (1 : Int32) else (2 : Int32))) ∧ (∀ t, Steps p.tables e below (T48.setTop (mkF m 113 #[.val (.int p1), .val (.int p2), .val (.int (4 : Int32)), .val (.ref aGT), .val (.int (4 : Int32)), .val (.int sg), .unset] [])) t → Steps p.tables e below (s₁.setTop (entryFrame m #[(.int p1), (.int p2)] maxLocals)) t) := by
      by_cases hc91_0 : p2 < (0 : Int32)
      · refine ⟨(0 : Int32), (by simp only [if_pos hc91_0]), ?_⟩
        intro t k
        refine R49 t ?_
        show Steps p.tables e below (T48.setTop (mkF m 90 #[.val (.int p1), .val (.int p2), .val (.int (4 : Int32)), .val (.ref aGT), .val (.int (4 : Int32)), .unset, .unset] [])) _
        refine XS.iloadN X48.here hx rfl (hb hby at_90) rfl ?_
        show Steps p.tables e below (T48.setTop (mkF m 91 #[.val (.int p1), .val (.int p2), .val (.int (4 : Int32)), .val (.ref aGT), .val (.int (4 : Int32)), .unset, .unset] [(.int p2)])) _
        refine XS.ifNo X48.here hx rfl (hb hby at_91) rfl ((if0 _ _).trans (tlt hc91_0).2.1) ?_
        show Steps p.tables e below (T48.setTop (mkF m 94 #[.val (.int p1), .val (.int p2), .val (.int (4 : Int32)), .val (.ref aGT), .val (.int (4 : Int32)), .unset, .unset] [])) _
        refine XS.iconst X48.here hx rfl (hb hby at_94) ?_
        show Steps p.tables e below (T48.setTop (mkF m 95 #[.val (.int p1), .val (.int p2), .val (.int (4 : Int32)), .val (.ref aGT), .val (.int (4 : Int32)), .unset, .unset] [(.int (0 : Int32))])) _
        refine XS.istore X48.here hx rfl (hb hby at_95) rfl (l' := #[.val (.int p1), .val (.int p2), .val (.int (4 : Int32)), .val (.ref aGT), .val (.int (4 : Int32)), .val (.int (0 : Int32)), .unset]) rfl ?_
        show Steps p.tables e below (T48.setTop (mkF m 97 #[.val (.int p1), .val (.int p2), .val (.int (4 : Int32)), .val (.ref aGT), .val (.int (4 : Int32)), .val (.int (0 : Int32)), .unset] [])) _
        refine XS.goto X48.here hx rfl (pc0 := 97) (pc' := 113) rfl (hb hby at_97) (by decide) (by decide) ?_
        exact k
      · by_cases hc101_1 : p2 = (0 : Int32)
        · refine ⟨(1 : Int32), (by simp only [if_neg hc91_0, if_pos hc101_1]), ?_⟩
          intro t k
          refine R49 t ?_
          show Steps p.tables e below (T48.setTop (mkF m 90 #[.val (.int p1), .val (.int p2), .val (.int (4 : Int32)), .val (.ref aGT), .val (.int (4 : Int32)), .unset, .unset] [])) _
          refine XS.iloadN X48.here hx rfl (hb hby at_90) rfl ?_
          show Steps p.tables e below (T48.setTop (mkF m 91 #[.val (.int p1), .val (.int p2), .val (.int (4 : Int32)), .val (.ref aGT), .val (.int (4 : Int32)), .unset, .unset] [(.int p2)])) _
          refine XS.ifYes X48.here hx rfl (pc0 := 91) (pc' := 100) rfl (hb hby at_91) rfl ((if0 _ _).trans (flt hc91_0).2.1) (by decide) (by decide) ?_
          show Steps p.tables e below (T48.setTop (mkF m 100 #[.val (.int p1), .val (.int p2), .val (.int (4 : Int32)), .val (.ref aGT), .val (.int (4 : Int32)), .unset, .unset] [])) _
          refine XS.iloadN X48.here hx rfl (hb hby at_100) rfl ?_
          show Steps p.tables e below (T48.setTop (mkF m 101 #[.val (.int p1), .val (.int p2), .val (.int (4 : Int32)), .val (.ref aGT), .val (.int (4 : Int32)), .unset, .unset] [(.int p2)])) _
          refine XS.ifNo X48.here hx rfl (hb hby at_101) rfl ((if0 _ _).trans (teq hc101_1).2) ?_
          show Steps p.tables e below (T48.setTop (mkF m 104 #[.val (.int p1), .val (.int p2), .val (.int (4 : Int32)), .val (.ref aGT), .val (.int (4 : Int32)), .unset, .unset] [])) _
          refine XS.iconst X48.here hx rfl (hb hby at_104) ?_
          show Steps p.tables e below (T48.setTop (mkF m 105 #[.val (.int p1), .val (.int p2), .val (.int (4 : Int32)), .val (.ref aGT), .val (.int (4 : Int32)), .unset, .unset] [(.int (1 : Int32))])) _
          refine XS.istore X48.here hx rfl (hb hby at_105) rfl (l' := #[.val (.int p1), .val (.int p2), .val (.int (4 : Int32)), .val (.ref aGT), .val (.int (4 : Int32)), .val (.int (1 : Int32)), .unset]) rfl ?_
          show Steps p.tables e below (T48.setTop (mkF m 107 #[.val (.int p1), .val (.int p2), .val (.int (4 : Int32)), .val (.ref aGT), .val (.int (4 : Int32)), .val (.int (1 : Int32)), .unset] [])) _
          refine XS.goto X48.here hx rfl (pc0 := 107) (pc' := 113) rfl (hb hby at_107) (by decide) (by decide) ?_
          exact k
        · refine ⟨(2 : Int32), (by simp only [if_neg hc91_0, if_neg hc101_1]), ?_⟩
          intro t k
          refine R49 t ?_
          show Steps p.tables e below (T48.setTop (mkF m 90 #[.val (.int p1), .val (.int p2), .val (.int (4 : Int32)), .val (.ref aGT), .val (.int (4 : Int32)), .unset, .unset] [])) _
          refine XS.iloadN X48.here hx rfl (hb hby at_90) rfl ?_
          show Steps p.tables e below (T48.setTop (mkF m 91 #[.val (.int p1), .val (.int p2), .val (.int (4 : Int32)), .val (.ref aGT), .val (.int (4 : Int32)), .unset, .unset] [(.int p2)])) _
          refine XS.ifYes X48.here hx rfl (pc0 := 91) (pc' := 100) rfl (hb hby at_91) rfl ((if0 _ _).trans (flt hc91_0).2.1) (by decide) (by decide) ?_
          show Steps p.tables e below (T48.setTop (mkF m 100 #[.val (.int p1), .val (.int p2), .val (.int (4 : Int32)), .val (.ref aGT), .val (.int (4 : Int32)), .unset, .unset] [])) _
          refine XS.iloadN X48.here hx rfl (hb hby at_100) rfl ?_
          show Steps p.tables e below (T48.setTop (mkF m 101 #[.val (.int p1), .val (.int p2), .val (.int (4 : Int32)), .val (.ref aGT), .val (.int (4 : Int32)), .unset, .unset] [(.int p2)])) _
          refine XS.ifYes X48.here hx rfl (pc0 := 101) (pc' := 110) rfl (hb hby at_101) rfl ((if0 _ _).trans (feq hc101_1).2) (by decide) (by decide) ?_
          show Steps p.tables e below (T48.setTop (mkF m 110 #[.val (.int p1), .val (.int p2), .val (.int (4 : Int32)), .val (.ref aGT), .val (.int (4 : Int32)), .unset, .unset] [])) _
          refine XS.iconst X48.here hx rfl (hb hby at_110) ?_
          show Steps p.tables e below (T48.setTop (mkF m 111 #[.val (.int p1), .val (.int p2), .val (.int (4 : Int32)), .val (.ref aGT), .val (.int (4 : Int32)), .unset, .unset] [(.int (2 : Int32))])) _
          refine XS.istore X48.here hx rfl (hb hby at_111) rfl (l' := #[.val (.int p1), .val (.int p2), .val (.int (4 : Int32)), .val (.ref aGT), .val (.int (4 : Int32)), .val (.int (2 : Int32)), .unset]) rfl ?_
          exact k
    have R51 : ∀ t, Steps p.tables e below (T48.setTop (mkF m 120 #[.val (.int p1), .val (.int p2), .val (.int (4 : Int32)), .val (.ref aGT), .val (.int (4 : Int32)), .val (.int sg), .unset] [(.int (((4 : Int32) >>> (sg &&& 31)) &&& (1 : Int32)))])) t → Steps p.tables e below (s₁.setTop (entryFrame m #[(.int p1), (.int p2)] maxLocals)) t := by
      intro t k
      refine R50 t ?_
      show Steps p.tables e below (T48.setTop (mkF m 113 #[.val (.int p1), .val (.int p2), .val (.int (4 : Int32)), .val (.ref aGT), .val (.int (4 : Int32)), .val (.int sg), .unset] [])) _
      refine XS.iload X48.here hx rfl (hb hby at_113) rfl ?_
      show Steps p.tables e below (T48.setTop (mkF m 115 #[.val (.int p1), .val (.int p2), .val (.int (4 : Int32)), .val (.ref aGT), .val (.int (4 : Int32)), .val (.int sg), .unset] [(.int (4 : Int32))])) _
      refine XS.iload X48.here hx rfl (hb hby at_115) rfl ?_
      show Steps p.tables e below (T48.setTop (mkF m 117 #[.val (.int p1), .val (.int p2), .val (.int (4 : Int32)), .val (.ref aGT), .val (.int (4 : Int32)), .val (.int sg), .unset] [(.int sg), (.int (4 : Int32))])) _
      refine XS.ishr X48.here hx rfl (hb hby at_117) rfl ?_
      show Steps p.tables e below (T48.setTop (mkF m 118 #[.val (.int p1), .val (.int p2), .val (.int (4 : Int32)), .val (.ref aGT), .val (.int (4 : Int32)), .val (.int sg), .unset] [(.int ((4 : Int32) >>> (sg &&& 31)))])) _
      refine XS.iconst X48.here hx rfl (hb hby at_118) ?_
      show Steps p.tables e below (T48.setTop (mkF m 119 #[.val (.int p1), .val (.int p2), .val (.int (4 : Int32)), .val (.ref aGT), .val (.int (4 : Int32)), .val (.int sg), .unset] [(.int (1 : Int32)), (.int ((4 : Int32) >>> (sg &&& 31)))])) _
      refine XS.iand X48.here hx rfl (hb hby at_119) rfl ?_
      exact k
    obtain ⟨ex, hex, R52⟩ : ∃ (ex : Int32), ex = (if (((4 : Int32) >>> (sg &&& 31)) &&& (1 : Int32)) = (0 : Int32) then (0 : Int32) else (1 : Int32)) ∧ (∀ t, Steps p.tables e below (T48.setTop (mkF m 128 #[.val (.int p1), .val (.int p2), .val (.int (4 : Int32)), .val (.ref aGT), .val (.int (4 : Int32)), .val (.int sg), .unset] [(.int ex)])) t → Steps p.tables e below (s₁.setTop (entryFrame m #[(.int p1), (.int p2)] maxLocals)) t) := by
      by_cases hc120_0 : (((4 : Int32) >>> (sg &&& 31)) &&& (1 : Int32)) = (0 : Int32)
      · refine ⟨(0 : Int32), (by simp only [if_pos hc120_0]), ?_⟩
        intro t k
        refine R51 t ?_
        show Steps p.tables e below (T48.setTop (mkF m 120 #[.val (.int p1), .val (.int p2), .val (.int (4 : Int32)), .val (.ref aGT), .val (.int (4 : Int32)), .val (.int sg), .unset] [(.int (((4 : Int32) >>> (sg &&& 31)) &&& (1 : Int32)))])) _
        refine XS.ifYes X48.here hx rfl (pc0 := 120) (pc' := 127) rfl (hb hby at_120) rfl ((if0 _ _).trans (teq hc120_0).1) (by decide) (by decide) ?_
        show Steps p.tables e below (T48.setTop (mkF m 127 #[.val (.int p1), .val (.int p2), .val (.int (4 : Int32)), .val (.ref aGT), .val (.int (4 : Int32)), .val (.int sg), .unset] [])) _
        refine XS.iconst X48.here hx rfl (hb hby at_127) ?_
        exact k
      · refine ⟨(1 : Int32), (by simp only [if_neg hc120_0]), ?_⟩
        intro t k
        refine R51 t ?_
        show Steps p.tables e below (T48.setTop (mkF m 120 #[.val (.int p1), .val (.int p2), .val (.int (4 : Int32)), .val (.ref aGT), .val (.int (4 : Int32)), .val (.int sg), .unset] [(.int (((4 : Int32) >>> (sg &&& 31)) &&& (1 : Int32)))])) _
        refine XS.ifNo X48.here hx rfl (hb hby at_120) rfl ((if0 _ _).trans (feq hc120_0).1) ?_
        show Steps p.tables e below (T48.setTop (mkF m 123 #[.val (.int p1), .val (.int p2), .val (.int (4 : Int32)), .val (.ref aGT), .val (.int (4 : Int32)), .val (.int sg), .unset] [])) _
        refine XS.iconst X48.here hx rfl (hb hby at_123) ?_
        show Steps p.tables e below (T48.setTop (mkF m 124 #[.val (.int p1), .val (.int p2), .val (.int (4 : Int32)), .val (.ref aGT), .val (.int (4 : Int32)), .val (.int sg), .unset] [(.int (1 : Int32))])) _
        refine XS.goto X48.here hx rfl (pc0 := 124) (pc' := 128) rfl (hb hby at_124) (by decide) (by decide) ?_
        exact k
    have R53 : ∀ t, Steps p.tables e below (T48.setTop (mkF m 132 #[.val (.int p1), .val (.int p2), .val (.int (4 : Int32)), .val (.ref aGT), .val (.int (4 : Int32)), .val (.int sg), .val (.int ex)] [(.int p2), (.ref aGT)])) t → Steps p.tables e below (s₁.setTop (entryFrame m #[(.int p1), (.int p2)] maxLocals)) t := by
      intro t k
      refine R52 t ?_
      show Steps p.tables e below (T48.setTop (mkF m 128 #[.val (.int p1), .val (.int p2), .val (.int (4 : Int32)), .val (.ref aGT), .val (.int (4 : Int32)), .val (.int sg), .unset] [(.int ex)])) _
      refine XS.istore X48.here hx rfl (hb hby at_128) rfl (l' := #[.val (.int p1), .val (.int p2), .val (.int (4 : Int32)), .val (.ref aGT), .val (.int (4 : Int32)), .val (.int sg), .val (.int ex)]) rfl ?_
      show Steps p.tables e below (T48.setTop (mkF m 130 #[.val (.int p1), .val (.int p2), .val (.int (4 : Int32)), .val (.ref aGT), .val (.int (4 : Int32)), .val (.int sg), .val (.int ex)] [])) _
      refine XS.aloadN X48.here hx rfl (hb hby at_130) rfl rfl ?_
      show Steps p.tables e below (T48.setTop (mkF m 131 #[.val (.int p1), .val (.int p2), .val (.int (4 : Int32)), .val (.ref aGT), .val (.int (4 : Int32)), .val (.int sg), .val (.int ex)] [(.ref aGT)])) _
      refine XS.iloadN X48.here hx rfl (hb hby at_131) rfl ?_
      exact k
    obtain ⟨cq54, kq54, q54a, q54b, q54c⟩ := isOf hZ e48 EGT
    obtain ⟨_, _, ⟨T54, L54, k54, n54⟩, -, X54, ⟨Lc54, hQ54, l54, y54, z54⟩, st54⟩ := X48.virtualBack hx (y := (⟨"com/example/firm_store/firmstore/Operator", "admits", "(I)Z"⟩ : MethodName)) (z := (⟨"com/example/firm_store/firmstore/Operator", "admits", "(I)Z"⟩ : MethodName)) hown (mvT hZ (hw _ (List.mem_of_getElem? (i := 4) rfl))) (mvT hZ (hw _ (List.mem_of_getElem? (i := 5) rfl))) (notFace_of_selects (args := #[]) (mvT hZ (hw _ (List.mem_of_getElem? (i := 7) rfl)))) (mvT hZ (hw _ (List.mem_of_getElem? (i := 7) rfl))) (mvT hZ (hw _ (List.mem_of_getElem? (i := 6) rfl))) (by decide) (backOf (W := 0) (rmA4 l Z a0 hw [] aGT p2  h0 n0 Z0 FGT EGT) hZ (hw _ (List.mem_of_getElem? (i := 8) rfl)) (hw _ (List.mem_of_getElem? (i := 2) rfl)) (by decide) (by decide)) q54a q54c (g := (mkF m 132 #[.val (.int p1), .val (.int p2), .val (.int (4 : Int32)), .val (.ref aGT), .val (.int (4 : Int32)), .val (.int sg), .val (.int ex)] [(.int p2), (.ref aGT)])) rfl (by rw [hml]; rfl) (Steps.refl _) (argsL := [(.int p2)]) (rest := []) (lenOf own_pd0 rfl) rfl (by show 2 * 0 + _ ≤ _; exact Nat.le_of_eq rfl) (hb hby at_132) (fun _ _ => ⟨rfl, e48, (by decide : 0 + 0 ≤ _), (by decide : 0 + 0 ≤ _)⟩)
    dsimp only [Pt.U, Pt.locs, Pt.cells, Pt.slots] at X54 l54 y54 z54 st54 hQ54
    subst l54 y54 z54
    obtain ⟨rfl, Nq54, eq54⟩ := hQ54
    have N54 := Fr.app N0 Nq54
    have R54 : ∀ t, Steps p.tables e below (T54.setTop (mkF m 135 #[.val (.int p1), .val (.int p2), .val (.int (4 : Int32)), .val (.ref aGT), .val (.int (4 : Int32)), .val (.int sg), .val (.int ex)] [(.int (if (0 : Int32) < p2 then (1 : Int32) else (0 : Int32)))])) t → Steps p.tables e below (s₁.setTop (entryFrame m #[(.int p1), (.int p2)] maxLocals)) t := fun t k => R53 t (st54.trans k)
    have R55 : ∀ t, Steps p.tables e below (T54.setTop (mkF m 137 #[.val (.int p1), .val (.int p2), .val (.int (4 : Int32)), .val (.ref aGT), .val (.int (4 : Int32)), .val (.int sg), .val (.int ex)] [(.int ex), (.int (if (0 : Int32) < p2 then (1 : Int32) else (0 : Int32)))])) t → Steps p.tables e below (s₁.setTop (entryFrame m #[(.int p1), (.int p2)] maxLocals)) t := by
      intro t k
      refine R54 t ?_
      show Steps p.tables e below (T54.setTop (mkF m 135 #[.val (.int p1), .val (.int p2), .val (.int (4 : Int32)), .val (.ref aGT), .val (.int (4 : Int32)), .val (.int sg), .val (.int ex)] [(.int (if (0 : Int32) < p2 then (1 : Int32) else (0 : Int32)))])) _
      refine XS.iload X54.here hx rfl (hb hby at_135) rfl ?_
      exact k
    have heq : (if (0 : Int32) < p2 then (1 : Int32) else (0 : Int32)) = ex := own_eq4 hsg hex
    have R56 : ∀ t, Steps p.tables e below (T54.setTop (mkF m 145 #[.val (.int p1), .val (.int p2), .val (.int (4 : Int32)), .val (.ref aGT), .val (.int (4 : Int32)), .val (.int sg), .val (.int ex)] [(.int (1 : Int32))])) t → Steps p.tables e below (s₁.setTop (entryFrame m #[(.int p1), (.int p2)] maxLocals)) t := by
      intro t k
      refine R55 t ?_
      show Steps p.tables e below (T54.setTop (mkF m 137 #[.val (.int p1), .val (.int p2), .val (.int (4 : Int32)), .val (.ref aGT), .val (.int (4 : Int32)), .val (.int sg), .val (.int ex)] [(.int ex), (.int (if (0 : Int32) < p2 then (1 : Int32) else (0 : Int32)))])) _
      refine XS.icmpNo X54.here hx rfl (hb hby at_137) rfl (teq heq).2 ?_
      show Steps p.tables e below (T54.setTop (mkF m 140 #[.val (.int p1), .val (.int p2), .val (.int (4 : Int32)), .val (.ref aGT), .val (.int (4 : Int32)), .val (.int sg), .val (.int ex)] [])) _
      refine XS.iconst X54.here hx rfl (hb hby at_140) ?_
      show Steps p.tables e below (T54.setTop (mkF m 141 #[.val (.int p1), .val (.int p2), .val (.int (4 : Int32)), .val (.ref aGT), .val (.int (4 : Int32)), .val (.int sg), .val (.int ex)] [(.int (1 : Int32))])) _
      refine XS.goto X54.here hx rfl (pc0 := 141) (pc' := 145) rfl (hb hby at_141) (by decide) (by decide) ?_
      exact k
    obtain ⟨fs, hr, hrun, hended, hW, hsame⟩ := X54.leave (v := some (.int (1 : Int32))) (fun h => by rw [Bd.returns] at h; cases h)
    refine ⟨_, _, R56 _ ?_, hrun, hended, _, _, rfl, ?_, ⟨_, rfl⟩, hW, hsame.mono (by decide) (by decide)⟩
    · exact retN X54 hx (t := .boolean) Bd.returns (by simp) (hb hby at_145) hr
    · show Q_rm0 Z p1 p2 aEQ aNE aLT aLE aGT aGE h0 n0 _ T54.heap _
      rw [eq54]
      exact ⟨rfl, N54⟩
  · have R57 : ∀ t, Steps p.tables e below (s₁.setTop (mkF m 8 #[.val (.int p1), .val (.int p2), .val (.int (5 : Int32)), .unset, .unset, .unset, .unset] [])) t → Steps p.tables e below (s₁.setTop (entryFrame m #[(.int p1), (.int p2)] maxLocals)) t := by rw [(hk : ((p1 &&& (2147483647 : Int32)) % (6 : Int32)) = (5 : Int32))] at R1; exact R1
    have R58 : ∀ t, Steps p.tables e below (s₁.setTop (mkF m 82 #[.val (.int p1), .val (.int p2), .val (.int (5 : Int32)), .unset, .unset, .unset, .unset] [])) t → Steps p.tables e below (s₁.setTop (entryFrame m #[(.int p1), (.int p2)] maxLocals)) t := by
      intro t k
      refine R57 t ?_
      show Steps p.tables e below (s₁.setTop (mkF m 8 #[.val (.int p1), .val (.int p2), .val (.int (5 : Int32)), .unset, .unset, .unset, .unset] [])) _
      refine XS.iloadN X0.here hx rfl (hb hby at_8) rfl ?_
      show Steps p.tables e below (s₁.setTop (mkF m 9 #[.val (.int p1), .val (.int p2), .val (.int (5 : Int32)), .unset, .unset, .unset, .unset] [(.int (5 : Int32))])) _
      refine XS.ifYes X0.here hx rfl (pc0 := 9) (pc' := 22) rfl (hb hby at_9) rfl ((if0 _ _).trans (feq (by decide : ¬ ((5 : Int32) = (0 : Int32)))).2) (by decide) (by decide) ?_
      show Steps p.tables e below (s₁.setTop (mkF m 22 #[.val (.int p1), .val (.int p2), .val (.int (5 : Int32)), .unset, .unset, .unset, .unset] [])) _
      refine XS.iloadN X0.here hx rfl (hb hby at_22) rfl ?_
      show Steps p.tables e below (s₁.setTop (mkF m 23 #[.val (.int p1), .val (.int p2), .val (.int (5 : Int32)), .unset, .unset, .unset, .unset] [(.int (5 : Int32))])) _
      refine XS.iconst X0.here hx rfl (hb hby at_23) ?_
      show Steps p.tables e below (s₁.setTop (mkF m 24 #[.val (.int p1), .val (.int p2), .val (.int (5 : Int32)), .unset, .unset, .unset, .unset] [(.int (1 : Int32)), (.int (5 : Int32))])) _
      refine XS.icmpYes X0.here hx rfl (pc0 := 24) (pc' := 37) rfl (hb hby at_24) rfl (feq (by decide : ¬ ((5 : Int32) = (1 : Int32)))).2 (by decide) (by decide) ?_
      show Steps p.tables e below (s₁.setTop (mkF m 37 #[.val (.int p1), .val (.int p2), .val (.int (5 : Int32)), .unset, .unset, .unset, .unset] [])) _
      refine XS.iloadN X0.here hx rfl (hb hby at_37) rfl ?_
      show Steps p.tables e below (s₁.setTop (mkF m 38 #[.val (.int p1), .val (.int p2), .val (.int (5 : Int32)), .unset, .unset, .unset, .unset] [(.int (5 : Int32))])) _
      refine XS.iconst X0.here hx rfl (hb hby at_38) ?_
      show Steps p.tables e below (s₁.setTop (mkF m 39 #[.val (.int p1), .val (.int p2), .val (.int (5 : Int32)), .unset, .unset, .unset, .unset] [(.int (2 : Int32)), (.int (5 : Int32))])) _
      refine XS.icmpYes X0.here hx rfl (pc0 := 39) (pc' := 52) rfl (hb hby at_39) rfl (feq (by decide : ¬ ((5 : Int32) = (2 : Int32)))).2 (by decide) (by decide) ?_
      show Steps p.tables e below (s₁.setTop (mkF m 52 #[.val (.int p1), .val (.int p2), .val (.int (5 : Int32)), .unset, .unset, .unset, .unset] [])) _
      refine XS.iloadN X0.here hx rfl (hb hby at_52) rfl ?_
      show Steps p.tables e below (s₁.setTop (mkF m 53 #[.val (.int p1), .val (.int p2), .val (.int (5 : Int32)), .unset, .unset, .unset, .unset] [(.int (5 : Int32))])) _
      refine XS.iconst X0.here hx rfl (hb hby at_53) ?_
      show Steps p.tables e below (s₁.setTop (mkF m 54 #[.val (.int p1), .val (.int p2), .val (.int (5 : Int32)), .unset, .unset, .unset, .unset] [(.int (3 : Int32)), (.int (5 : Int32))])) _
      refine XS.icmpYes X0.here hx rfl (pc0 := 54) (pc' := 67) rfl (hb hby at_54) rfl (feq (by decide : ¬ ((5 : Int32) = (3 : Int32)))).2 (by decide) (by decide) ?_
      show Steps p.tables e below (s₁.setTop (mkF m 67 #[.val (.int p1), .val (.int p2), .val (.int (5 : Int32)), .unset, .unset, .unset, .unset] [])) _
      refine XS.iloadN X0.here hx rfl (hb hby at_67) rfl ?_
      show Steps p.tables e below (s₁.setTop (mkF m 68 #[.val (.int p1), .val (.int p2), .val (.int (5 : Int32)), .unset, .unset, .unset, .unset] [(.int (5 : Int32))])) _
      refine XS.iconst X0.here hx rfl (hb hby at_68) ?_
      show Steps p.tables e below (s₁.setTop (mkF m 69 #[.val (.int p1), .val (.int p2), .val (.int (5 : Int32)), .unset, .unset, .unset, .unset] [(.int (4 : Int32)), (.int (5 : Int32))])) _
      refine XS.icmpYes X0.here hx rfl (pc0 := 69) (pc' := 82) rfl (hb hby at_69) rfl (feq (by decide : ¬ ((5 : Int32) = (4 : Int32)))).2 (by decide) (by decide) ?_
      exact k
    obtain ⟨T59, X59, e59, st59⟩ := getS2 X0 hx hZ hown (host := "") (Or.inl (hw _ (List.mem_of_getElem? (i := 24) rfl))) Via.refl e0 SGE (g := (mkF m 82 #[.val (.int p1), .val (.int p2), .val (.int (5 : Int32)), .unset, .unset, .unset, .unset] [])) rfl (hb hby at_82)
    have R59 : ∀ t, Steps p.tables e below (T59.setTop (mkF m 85 #[.val (.int p1), .val (.int p2), .val (.int (5 : Int32)), .unset, .unset, .unset, .unset] [(.ref aGE)])) t → Steps p.tables e below (s₁.setTop (entryFrame m #[(.int p1), (.int p2)] maxLocals)) t := fun t k => R58 t (st59 t k)
    have R60 : ∀ t, Steps p.tables e below (T59.setTop (mkF m 90 #[.val (.int p1), .val (.int p2), .val (.int (5 : Int32)), .val (.ref aGE), .val (.int (6 : Int32)), .unset, .unset] [])) t → Steps p.tables e below (s₁.setTop (entryFrame m #[(.int p1), (.int p2)] maxLocals)) t := by
      intro t k
      refine R59 t ?_
      show Steps p.tables e below (T59.setTop (mkF m 85 #[.val (.int p1), .val (.int p2), .val (.int (5 : Int32)), .unset, .unset, .unset, .unset] [(.ref aGE)])) _
      refine XS.astoreN X59.here hx rfl (hb hby at_85) rfl rfl (l' := #[.val (.int p1), .val (.int p2), .val (.int (5 : Int32)), .val (.ref aGE), .unset, .unset, .unset]) rfl ?_
      show Steps p.tables e below (T59.setTop (mkF m 86 #[.val (.int p1), .val (.int p2), .val (.int (5 : Int32)), .val (.ref aGE), .unset, .unset, .unset] [])) _
      refine XS.bipush X59.here hx rfl (hb hby at_86) ?_
      show Steps p.tables e below (T59.setTop (mkF m 88 #[.val (.int p1), .val (.int p2), .val (.int (5 : Int32)), .val (.ref aGE), .unset, .unset, .unset] [(.int (6 : Int32))])) _
      refine XS.istore X59.here hx rfl (hb hby at_88) rfl (l' := #[.val (.int p1), .val (.int p2), .val (.int (5 : Int32)), .val (.ref aGE), .val (.int (6 : Int32)), .unset, .unset]) rfl ?_
      exact k
    obtain ⟨sg, hsg, R61⟩ : ∃ (sg : Int32), sg = (if p2 < (0 : Int32) then (0 : Int32) else (if p2 = (0 : Int32) then (1 : Int32) else (2 : Int32))) ∧ (∀ t, Steps p.tables e below (T59.setTop (mkF m 113 #[.val (.int p1), .val (.int p2), .val (.int (5 : Int32)), .val (.ref aGE), .val (.int (6 : Int32)), .val (.int sg), .unset] [])) t → Steps p.tables e below (s₁.setTop (entryFrame m #[(.int p1), (.int p2)] maxLocals)) t) := by
      by_cases hc91_0 : p2 < (0 : Int32)
      · refine ⟨(0 : Int32), (by simp only [if_pos hc91_0]), ?_⟩
        intro t k
        refine R60 t ?_
        show Steps p.tables e below (T59.setTop (mkF m 90 #[.val (.int p1), .val (.int p2), .val (.int (5 : Int32)), .val (.ref aGE), .val (.int (6 : Int32)), .unset, .unset] [])) _
        refine XS.iloadN X59.here hx rfl (hb hby at_90) rfl ?_
        show Steps p.tables e below (T59.setTop (mkF m 91 #[.val (.int p1), .val (.int p2), .val (.int (5 : Int32)), .val (.ref aGE), .val (.int (6 : Int32)), .unset, .unset] [(.int p2)])) _
        refine XS.ifNo X59.here hx rfl (hb hby at_91) rfl ((if0 _ _).trans (tlt hc91_0).2.1) ?_
        show Steps p.tables e below (T59.setTop (mkF m 94 #[.val (.int p1), .val (.int p2), .val (.int (5 : Int32)), .val (.ref aGE), .val (.int (6 : Int32)), .unset, .unset] [])) _
        refine XS.iconst X59.here hx rfl (hb hby at_94) ?_
        show Steps p.tables e below (T59.setTop (mkF m 95 #[.val (.int p1), .val (.int p2), .val (.int (5 : Int32)), .val (.ref aGE), .val (.int (6 : Int32)), .unset, .unset] [(.int (0 : Int32))])) _
        refine XS.istore X59.here hx rfl (hb hby at_95) rfl (l' := #[.val (.int p1), .val (.int p2), .val (.int (5 : Int32)), .val (.ref aGE), .val (.int (6 : Int32)), .val (.int (0 : Int32)), .unset]) rfl ?_
        show Steps p.tables e below (T59.setTop (mkF m 97 #[.val (.int p1), .val (.int p2), .val (.int (5 : Int32)), .val (.ref aGE), .val (.int (6 : Int32)), .val (.int (0 : Int32)), .unset] [])) _
        refine XS.goto X59.here hx rfl (pc0 := 97) (pc' := 113) rfl (hb hby at_97) (by decide) (by decide) ?_
        exact k
      · by_cases hc101_1 : p2 = (0 : Int32)
        · refine ⟨(1 : Int32), (by simp only [if_neg hc91_0, if_pos hc101_1]), ?_⟩
          intro t k
          refine R60 t ?_
          show Steps p.tables e below (T59.setTop (mkF m 90 #[.val (.int p1), .val (.int p2), .val (.int (5 : Int32)), .val (.ref aGE), .val (.int (6 : Int32)), .unset, .unset] [])) _
          refine XS.iloadN X59.here hx rfl (hb hby at_90) rfl ?_
          show Steps p.tables e below (T59.setTop (mkF m 91 #[.val (.int p1), .val (.int p2), .val (.int (5 : Int32)), .val (.ref aGE), .val (.int (6 : Int32)), .unset, .unset] [(.int p2)])) _
          refine XS.ifYes X59.here hx rfl (pc0 := 91) (pc' := 100) rfl (hb hby at_91) rfl ((if0 _ _).trans (flt hc91_0).2.1) (by decide) (by decide) ?_
          show Steps p.tables e below (T59.setTop (mkF m 100 #[.val (.int p1), .val (.int p2), .val (.int (5 : Int32)), .val (.ref aGE), .val (.int (6 : Int32)), .unset, .unset] [])) _
          refine XS.iloadN X59.here hx rfl (hb hby at_100) rfl ?_
          show Steps p.tables e below (T59.setTop (mkF m 101 #[.val (.int p1), .val (.int p2), .val (.int (5 : Int32)), .val (.ref aGE), .val (.int (6 : Int32)), .unset, .unset] [(.int p2)])) _
          refine XS.ifNo X59.here hx rfl (hb hby at_101) rfl ((if0 _ _).trans (teq hc101_1).2) ?_
          show Steps p.tables e below (T59.setTop (mkF m 104 #[.val (.int p1), .val (.int p2), .val (.int (5 : Int32)), .val (.ref aGE), .val (.int (6 : Int32)), .unset, .unset] [])) _
          refine XS.iconst X59.here hx rfl (hb hby at_104) ?_
          show Steps p.tables e below (T59.setTop (mkF m 105 #[.val (.int p1), .val (.int p2), .val (.int (5 : Int32)), .val (.ref aGE), .val (.int (6 : Int32)), .unset, .unset] [(.int (1 : Int32))])) _
          refine XS.istore X59.here hx rfl (hb hby at_105) rfl (l' := #[.val (.int p1), .val (.int p2), .val (.int (5 : Int32)), .val (.ref aGE), .val (.int (6 : Int32)), .val (.int (1 : Int32)), .unset]) rfl ?_
          show Steps p.tables e below (T59.setTop (mkF m 107 #[.val (.int p1), .val (.int p2), .val (.int (5 : Int32)), .val (.ref aGE), .val (.int (6 : Int32)), .val (.int (1 : Int32)), .unset] [])) _
          refine XS.goto X59.here hx rfl (pc0 := 107) (pc' := 113) rfl (hb hby at_107) (by decide) (by decide) ?_
          exact k
        · refine ⟨(2 : Int32), (by simp only [if_neg hc91_0, if_neg hc101_1]), ?_⟩
          intro t k
          refine R60 t ?_
          show Steps p.tables e below (T59.setTop (mkF m 90 #[.val (.int p1), .val (.int p2), .val (.int (5 : Int32)), .val (.ref aGE), .val (.int (6 : Int32)), .unset, .unset] [])) _
          refine XS.iloadN X59.here hx rfl (hb hby at_90) rfl ?_
          show Steps p.tables e below (T59.setTop (mkF m 91 #[.val (.int p1), .val (.int p2), .val (.int (5 : Int32)), .val (.ref aGE), .val (.int (6 : Int32)), .unset, .unset] [(.int p2)])) _
          refine XS.ifYes X59.here hx rfl (pc0 := 91) (pc' := 100) rfl (hb hby at_91) rfl ((if0 _ _).trans (flt hc91_0).2.1) (by decide) (by decide) ?_
          show Steps p.tables e below (T59.setTop (mkF m 100 #[.val (.int p1), .val (.int p2), .val (.int (5 : Int32)), .val (.ref aGE), .val (.int (6 : Int32)), .unset, .unset] [])) _
          refine XS.iloadN X59.here hx rfl (hb hby at_100) rfl ?_
          show Steps p.tables e below (T59.setTop (mkF m 101 #[.val (.int p1), .val (.int p2), .val (.int (5 : Int32)), .val (.ref aGE), .val (.int (6 : Int32)), .unset, .unset] [(.int p2)])) _
          refine XS.ifYes X59.here hx rfl (pc0 := 101) (pc' := 110) rfl (hb hby at_101) rfl ((if0 _ _).trans (feq hc101_1).2) (by decide) (by decide) ?_
          show Steps p.tables e below (T59.setTop (mkF m 110 #[.val (.int p1), .val (.int p2), .val (.int (5 : Int32)), .val (.ref aGE), .val (.int (6 : Int32)), .unset, .unset] [])) _
          refine XS.iconst X59.here hx rfl (hb hby at_110) ?_
          show Steps p.tables e below (T59.setTop (mkF m 111 #[.val (.int p1), .val (.int p2), .val (.int (5 : Int32)), .val (.ref aGE), .val (.int (6 : Int32)), .unset, .unset] [(.int (2 : Int32))])) _
          refine XS.istore X59.here hx rfl (hb hby at_111) rfl (l' := #[.val (.int p1), .val (.int p2), .val (.int (5 : Int32)), .val (.ref aGE), .val (.int (6 : Int32)), .val (.int (2 : Int32)), .unset]) rfl ?_
          exact k
    have R62 : ∀ t, Steps p.tables e below (T59.setTop (mkF m 120 #[.val (.int p1), .val (.int p2), .val (.int (5 : Int32)), .val (.ref aGE), .val (.int (6 : Int32)), .val (.int sg), .unset] [(.int (((6 : Int32) >>> (sg &&& 31)) &&& (1 : Int32)))])) t → Steps p.tables e below (s₁.setTop (entryFrame m #[(.int p1), (.int p2)] maxLocals)) t := by
      intro t k
      refine R61 t ?_
      show Steps p.tables e below (T59.setTop (mkF m 113 #[.val (.int p1), .val (.int p2), .val (.int (5 : Int32)), .val (.ref aGE), .val (.int (6 : Int32)), .val (.int sg), .unset] [])) _
      refine XS.iload X59.here hx rfl (hb hby at_113) rfl ?_
      show Steps p.tables e below (T59.setTop (mkF m 115 #[.val (.int p1), .val (.int p2), .val (.int (5 : Int32)), .val (.ref aGE), .val (.int (6 : Int32)), .val (.int sg), .unset] [(.int (6 : Int32))])) _
      refine XS.iload X59.here hx rfl (hb hby at_115) rfl ?_
      show Steps p.tables e below (T59.setTop (mkF m 117 #[.val (.int p1), .val (.int p2), .val (.int (5 : Int32)), .val (.ref aGE), .val (.int (6 : Int32)), .val (.int sg), .unset] [(.int sg), (.int (6 : Int32))])) _
      refine XS.ishr X59.here hx rfl (hb hby at_117) rfl ?_
      show Steps p.tables e below (T59.setTop (mkF m 118 #[.val (.int p1), .val (.int p2), .val (.int (5 : Int32)), .val (.ref aGE), .val (.int (6 : Int32)), .val (.int sg), .unset] [(.int ((6 : Int32) >>> (sg &&& 31)))])) _
      refine XS.iconst X59.here hx rfl (hb hby at_118) ?_
      show Steps p.tables e below (T59.setTop (mkF m 119 #[.val (.int p1), .val (.int p2), .val (.int (5 : Int32)), .val (.ref aGE), .val (.int (6 : Int32)), .val (.int sg), .unset] [(.int (1 : Int32)), (.int ((6 : Int32) >>> (sg &&& 31)))])) _
      refine XS.iand X59.here hx rfl (hb hby at_119) rfl ?_
      exact k
    obtain ⟨ex, hex, R63⟩ : ∃ (ex : Int32), ex = (if (((6 : Int32) >>> (sg &&& 31)) &&& (1 : Int32)) = (0 : Int32) then (0 : Int32) else (1 : Int32)) ∧ (∀ t, Steps p.tables e below (T59.setTop (mkF m 128 #[.val (.int p1), .val (.int p2), .val (.int (5 : Int32)), .val (.ref aGE), .val (.int (6 : Int32)), .val (.int sg), .unset] [(.int ex)])) t → Steps p.tables e below (s₁.setTop (entryFrame m #[(.int p1), (.int p2)] maxLocals)) t) := by
      by_cases hc120_0 : (((6 : Int32) >>> (sg &&& 31)) &&& (1 : Int32)) = (0 : Int32)
      · refine ⟨(0 : Int32), (by simp only [if_pos hc120_0]), ?_⟩
        intro t k
        refine R62 t ?_
        show Steps p.tables e below (T59.setTop (mkF m 120 #[.val (.int p1), .val (.int p2), .val (.int (5 : Int32)), .val (.ref aGE), .val (.int (6 : Int32)), .val (.int sg), .unset] [(.int (((6 : Int32) >>> (sg &&& 31)) &&& (1 : Int32)))])) _
        refine XS.ifYes X59.here hx rfl (pc0 := 120) (pc' := 127) rfl (hb hby at_120) rfl ((if0 _ _).trans (teq hc120_0).1) (by decide) (by decide) ?_
        show Steps p.tables e below (T59.setTop (mkF m 127 #[.val (.int p1), .val (.int p2), .val (.int (5 : Int32)), .val (.ref aGE), .val (.int (6 : Int32)), .val (.int sg), .unset] [])) _
        refine XS.iconst X59.here hx rfl (hb hby at_127) ?_
        exact k
      · refine ⟨(1 : Int32), (by simp only [if_neg hc120_0]), ?_⟩
        intro t k
        refine R62 t ?_
        show Steps p.tables e below (T59.setTop (mkF m 120 #[.val (.int p1), .val (.int p2), .val (.int (5 : Int32)), .val (.ref aGE), .val (.int (6 : Int32)), .val (.int sg), .unset] [(.int (((6 : Int32) >>> (sg &&& 31)) &&& (1 : Int32)))])) _
        refine XS.ifNo X59.here hx rfl (hb hby at_120) rfl ((if0 _ _).trans (feq hc120_0).1) ?_
        show Steps p.tables e below (T59.setTop (mkF m 123 #[.val (.int p1), .val (.int p2), .val (.int (5 : Int32)), .val (.ref aGE), .val (.int (6 : Int32)), .val (.int sg), .unset] [])) _
        refine XS.iconst X59.here hx rfl (hb hby at_123) ?_
        show Steps p.tables e below (T59.setTop (mkF m 124 #[.val (.int p1), .val (.int p2), .val (.int (5 : Int32)), .val (.ref aGE), .val (.int (6 : Int32)), .val (.int sg), .unset] [(.int (1 : Int32))])) _
        refine XS.goto X59.here hx rfl (pc0 := 124) (pc' := 128) rfl (hb hby at_124) (by decide) (by decide) ?_
        exact k
    have R64 : ∀ t, Steps p.tables e below (T59.setTop (mkF m 132 #[.val (.int p1), .val (.int p2), .val (.int (5 : Int32)), .val (.ref aGE), .val (.int (6 : Int32)), .val (.int sg), .val (.int ex)] [(.int p2), (.ref aGE)])) t → Steps p.tables e below (s₁.setTop (entryFrame m #[(.int p1), (.int p2)] maxLocals)) t := by
      intro t k
      refine R63 t ?_
      show Steps p.tables e below (T59.setTop (mkF m 128 #[.val (.int p1), .val (.int p2), .val (.int (5 : Int32)), .val (.ref aGE), .val (.int (6 : Int32)), .val (.int sg), .unset] [(.int ex)])) _
      refine XS.istore X59.here hx rfl (hb hby at_128) rfl (l' := #[.val (.int p1), .val (.int p2), .val (.int (5 : Int32)), .val (.ref aGE), .val (.int (6 : Int32)), .val (.int sg), .val (.int ex)]) rfl ?_
      show Steps p.tables e below (T59.setTop (mkF m 130 #[.val (.int p1), .val (.int p2), .val (.int (5 : Int32)), .val (.ref aGE), .val (.int (6 : Int32)), .val (.int sg), .val (.int ex)] [])) _
      refine XS.aloadN X59.here hx rfl (hb hby at_130) rfl rfl ?_
      show Steps p.tables e below (T59.setTop (mkF m 131 #[.val (.int p1), .val (.int p2), .val (.int (5 : Int32)), .val (.ref aGE), .val (.int (6 : Int32)), .val (.int sg), .val (.int ex)] [(.ref aGE)])) _
      refine XS.iloadN X59.here hx rfl (hb hby at_131) rfl ?_
      exact k
    obtain ⟨cq65, kq65, q65a, q65b, q65c⟩ := isOf hZ e59 EGE
    obtain ⟨_, _, ⟨T65, L65, k65, n65⟩, -, X65, ⟨Lc65, hQ65, l65, y65, z65⟩, st65⟩ := X59.virtualBack hx (y := (⟨"com/example/firm_store/firmstore/Operator", "admits", "(I)Z"⟩ : MethodName)) (z := (⟨"com/example/firm_store/firmstore/Operator", "admits", "(I)Z"⟩ : MethodName)) hown (mvT hZ (hw _ (List.mem_of_getElem? (i := 4) rfl))) (mvT hZ (hw _ (List.mem_of_getElem? (i := 5) rfl))) (notFace_of_selects (args := #[]) (mvT hZ (hw _ (List.mem_of_getElem? (i := 7) rfl)))) (mvT hZ (hw _ (List.mem_of_getElem? (i := 7) rfl))) (mvT hZ (hw _ (List.mem_of_getElem? (i := 6) rfl))) (by decide) (backOf (W := 0) (rmA5 l Z a0 hw [] aGE p2  h0 n0 Z0 FGE EGE) hZ (hw _ (List.mem_of_getElem? (i := 8) rfl)) (hw _ (List.mem_of_getElem? (i := 2) rfl)) (by decide) (by decide)) q65a q65c (g := (mkF m 132 #[.val (.int p1), .val (.int p2), .val (.int (5 : Int32)), .val (.ref aGE), .val (.int (6 : Int32)), .val (.int sg), .val (.int ex)] [(.int p2), (.ref aGE)])) rfl (by rw [hml]; rfl) (Steps.refl _) (argsL := [(.int p2)]) (rest := []) (lenOf own_pd0 rfl) rfl (by show 2 * 0 + _ ≤ _; exact Nat.le_of_eq rfl) (hb hby at_132) (fun _ _ => ⟨rfl, e59, (by decide : 0 + 0 ≤ _), (by decide : 0 + 0 ≤ _)⟩)
    dsimp only [Pt.U, Pt.locs, Pt.cells, Pt.slots] at X65 l65 y65 z65 st65 hQ65
    subst l65 y65 z65
    obtain ⟨rfl, Nq65, eq65⟩ := hQ65
    have N65 := Fr.app N0 Nq65
    have R65 : ∀ t, Steps p.tables e below (T65.setTop (mkF m 135 #[.val (.int p1), .val (.int p2), .val (.int (5 : Int32)), .val (.ref aGE), .val (.int (6 : Int32)), .val (.int sg), .val (.int ex)] [(.int (if p2 < (0 : Int32) then (0 : Int32) else (1 : Int32)))])) t → Steps p.tables e below (s₁.setTop (entryFrame m #[(.int p1), (.int p2)] maxLocals)) t := fun t k => R64 t (st65.trans k)
    have R66 : ∀ t, Steps p.tables e below (T65.setTop (mkF m 137 #[.val (.int p1), .val (.int p2), .val (.int (5 : Int32)), .val (.ref aGE), .val (.int (6 : Int32)), .val (.int sg), .val (.int ex)] [(.int ex), (.int (if p2 < (0 : Int32) then (0 : Int32) else (1 : Int32)))])) t → Steps p.tables e below (s₁.setTop (entryFrame m #[(.int p1), (.int p2)] maxLocals)) t := by
      intro t k
      refine R65 t ?_
      show Steps p.tables e below (T65.setTop (mkF m 135 #[.val (.int p1), .val (.int p2), .val (.int (5 : Int32)), .val (.ref aGE), .val (.int (6 : Int32)), .val (.int sg), .val (.int ex)] [(.int (if p2 < (0 : Int32) then (0 : Int32) else (1 : Int32)))])) _
      refine XS.iload X65.here hx rfl (hb hby at_135) rfl ?_
      exact k
    have heq : (if p2 < (0 : Int32) then (0 : Int32) else (1 : Int32)) = ex := own_eq5 hsg hex
    have R67 : ∀ t, Steps p.tables e below (T65.setTop (mkF m 145 #[.val (.int p1), .val (.int p2), .val (.int (5 : Int32)), .val (.ref aGE), .val (.int (6 : Int32)), .val (.int sg), .val (.int ex)] [(.int (1 : Int32))])) t → Steps p.tables e below (s₁.setTop (entryFrame m #[(.int p1), (.int p2)] maxLocals)) t := by
      intro t k
      refine R66 t ?_
      show Steps p.tables e below (T65.setTop (mkF m 137 #[.val (.int p1), .val (.int p2), .val (.int (5 : Int32)), .val (.ref aGE), .val (.int (6 : Int32)), .val (.int sg), .val (.int ex)] [(.int ex), (.int (if p2 < (0 : Int32) then (0 : Int32) else (1 : Int32)))])) _
      refine XS.icmpNo X65.here hx rfl (hb hby at_137) rfl (teq heq).2 ?_
      show Steps p.tables e below (T65.setTop (mkF m 140 #[.val (.int p1), .val (.int p2), .val (.int (5 : Int32)), .val (.ref aGE), .val (.int (6 : Int32)), .val (.int sg), .val (.int ex)] [])) _
      refine XS.iconst X65.here hx rfl (hb hby at_140) ?_
      show Steps p.tables e below (T65.setTop (mkF m 141 #[.val (.int p1), .val (.int p2), .val (.int (5 : Int32)), .val (.ref aGE), .val (.int (6 : Int32)), .val (.int sg), .val (.int ex)] [(.int (1 : Int32))])) _
      refine XS.goto X65.here hx rfl (pc0 := 141) (pc' := 145) rfl (hb hby at_141) (by decide) (by decide) ?_
      exact k
    obtain ⟨fs, hr, hrun, hended, hW, hsame⟩ := X65.leave (v := some (.int (1 : Int32))) (fun h => by rw [Bd.returns] at h; cases h)
    refine ⟨_, _, R67 _ ?_, hrun, hended, _, _, rfl, ?_, ⟨_, rfl⟩, hW, hsame.mono (by decide) (by decide)⟩
    · exact retN X65 hx (t := .boolean) Bd.returns (by simp) (hb hby at_145) hr
    · show Q_rm0 Z p1 p2 aEQ aNE aLT aLE aGT aGE h0 n0 _ T65.heap _
      rw [eq65]
      exact ⟨rfl, N65⟩
set_option maxRecDepth 65536 in
set_option maxHeartbeats 40000000 in
theorem comes_1 {Post : Tables → Env → Array Value → State → Outcome → State → Prop} (hpost : ∀ tb e args s v u, (limb_1_1.after args s (.returned v) u = true ∧ limb_1_2.after args s (.returned v) u = true ∧ True) → FrameEnd s (.returned v) u (Jvm.fieldLocs frame_1_writes args s ++ Jvm.arrayLocs frame_1_arrays args s ++ Jvm.staticLocs frame_1_statics s) 0 0 → Post tb e args s (.returned v) u) :
    ArmFor flags0 classFile x code maxLocals ret World_1 tables_1 room_1 Calls_1 rest_1 Pre_1 Post := by
  intro l hfl _ _ p e ha hc hk s m args below hf hA hF happ hP
  obtain ⟨hcalls, hrest, hpre⟩ := hP
  obtain ⟨-, -, -, hnamed, -, -, -, hat⟩ := (Spec.applies_iff hf).mp happ
  obtain ⟨hg, hn⟩ := and_e (Cond.before_iff.mp (show (Jvm.Cond.and given_1 narrow_1).before args s = true from hpre))
  obtain ⟨g1, g2⟩ := and_e hg
  obtain ⟨g3, g4⟩ := and_e g2
  obtain ⟨w0, w1, rfl⟩ : ∃ w0 w1 : Value, args = #[w0, w1] := by
    have hs : args.size = 2 := by simpa [Cond.value, given_1] using g1
    obtain ⟨L⟩ := args
    match L, hs with
    | [w0, w1], _ => exact ⟨w0, w1, rfl⟩
  have hw := fun d (hd : d ∈ tables_1) => atoms_spec (ws := Jvm.Cond.code x code maxLocals ret :: tables_1) hat d (List.mem_cons_of_mem _ hd)
  have hfit : Fit s := fun {y c} hc i hi => by
    obtain ⟨ha, rfl⟩ := Array.getElem?_eq_some_iff.mp hc
    have q := List.all_eq_true.mp ((Array.all_eq_true_iff_forall_mem.mp hF) _ (Array.getElem_mem ha)) i (List.mem_range.mpr hi)
    simpa [Array.getElem?_eq_getElem hi] using q
  obtain ⟨i0, ei0⟩ := is_v g3
  obtain rfl : w0 = (.int i0) := Option.some.inj ei0
  obtain ⟨i1, ei1⟩ := is_v g4
  obtain rfl : w1 = (.int i1) := Option.some.inj ei1
  obtain ⟨nxEQ, c0⟩ := and_e hn
  obtain ⟨noEQ, c1⟩ := and_e c0
  obtain ⟨nxLT, c2⟩ := and_e c1
  obtain ⟨noLT, c3⟩ := and_e c2
  obtain ⟨nxGT, c4⟩ := and_e c3
  obtain ⟨noGT, c5⟩ := and_e c4
  obtain ⟨nxNE, c6⟩ := and_e c5
  obtain ⟨noNE, c7⟩ := and_e c6
  obtain ⟨nxGE, c8⟩ := and_e c7
  obtain ⟨noGE, c9⟩ := and_e c8
  obtain ⟨nxLE, c10⟩ := and_e c9
  have noLE := c10
  obtain ⟨aEQ, evEQ⟩ := exa_v nxEQ
  have EEQ : Exa s s.heap aEQ "com/example/firm_store/firmstore/Operator" := Exa.start evEQ nxEQ
  have SEQ : Sta s s.heap "com/example/firm_store/firmstore/Operator" "EQ" "Lcom/example/firm_store/firmstore/Operator;" (.ref aEQ) := Sta.start evEQ (Or.inr ⟨(hw _ (List.mem_of_getElem? (i := 2) rfl)), (hw _ (List.mem_of_getElem? (i := 3) rfl))⟩)
  have FEQ : Fld s s.heap aEQ "java/lang/Enum" "ordinal" "I" (.int (0 : Int32)) := own_ord evEQ noEQ
  obtain ⟨aNE, evNE⟩ := exa_v nxNE
  have ENE : Exa s s.heap aNE "com/example/firm_store/firmstore/Operator" := Exa.start evNE nxNE
  have SNE : Sta s s.heap "com/example/firm_store/firmstore/Operator" "NE" "Lcom/example/firm_store/firmstore/Operator;" (.ref aNE) := Sta.start evNE (Or.inr ⟨(hw _ (List.mem_of_getElem? (i := 2) rfl)), (hw _ (List.mem_of_getElem? (i := 23) rfl))⟩)
  have FNE : Fld s s.heap aNE "java/lang/Enum" "ordinal" "I" (.int (1 : Int32)) := own_ord evNE noNE
  obtain ⟨aLT, evLT⟩ := exa_v nxLT
  have ELT : Exa s s.heap aLT "com/example/firm_store/firmstore/Operator" := Exa.start evLT nxLT
  have SLT : Sta s s.heap "com/example/firm_store/firmstore/Operator" "LT" "Lcom/example/firm_store/firmstore/Operator;" (.ref aLT) := Sta.start evLT (Or.inr ⟨(hw _ (List.mem_of_getElem? (i := 2) rfl)), (hw _ (List.mem_of_getElem? (i := 19) rfl))⟩)
  have FLT : Fld s s.heap aLT "java/lang/Enum" "ordinal" "I" (.int (2 : Int32)) := own_ord evLT noLT
  obtain ⟨aLE, evLE⟩ := exa_v nxLE
  have ELE : Exa s s.heap aLE "com/example/firm_store/firmstore/Operator" := Exa.start evLE nxLE
  have SLE : Sta s s.heap "com/example/firm_store/firmstore/Operator" "LE" "Lcom/example/firm_store/firmstore/Operator;" (.ref aLE) := Sta.start evLE (Or.inr ⟨(hw _ (List.mem_of_getElem? (i := 2) rfl)), (hw _ (List.mem_of_getElem? (i := 27) rfl))⟩)
  have FLE : Fld s s.heap aLE "java/lang/Enum" "ordinal" "I" (.int (3 : Int32)) := own_ord evLE noLE
  obtain ⟨aGT, evGT⟩ := exa_v nxGT
  have EGT : Exa s s.heap aGT "com/example/firm_store/firmstore/Operator" := Exa.start evGT nxGT
  have SGT : Sta s s.heap "com/example/firm_store/firmstore/Operator" "GT" "Lcom/example/firm_store/firmstore/Operator;" (.ref aGT) := Sta.start evGT (Or.inr ⟨(hw _ (List.mem_of_getElem? (i := 2) rfl)), (hw _ (List.mem_of_getElem? (i := 21) rfl))⟩)
  have FGT : Fld s s.heap aGT "java/lang/Enum" "ordinal" "I" (.int (4 : Int32)) := own_ord evGT noGT
  obtain ⟨aGE, evGE⟩ := exa_v nxGE
  have EGE : Exa s s.heap aGE "com/example/firm_store/firmstore/Operator" := Exa.start evGE nxGE
  have SGE : Sta s s.heap "com/example/firm_store/firmstore/Operator" "GE" "Lcom/example/firm_store/firmstore/Operator;" (.ref aGE) := Sta.start evGE (Or.inr ⟨(hw _ (List.mem_of_getElem? (i := 2) rfl)), (hw _ (List.mem_of_getElem? (i := 25) rfl))⟩)
  have FGE : Fld s s.heap aGE "java/lang/Enum" "ordinal" "I" (.int (5 : Int32)) := own_ord evGE noGE
  obtain ⟨n, o, h1, h2, h3, _, L, rfl, ⟨rfl, N⟩, hq⟩ := rm0 l s _ hw tables_1 i0 i1 aEQ aNE aLT aLE aGT aGE s.heap s.heap.size (Nat.le_refl _) SEQ EEQ FEQ SNE ENE FNE SLT ELT FLT SLE ELE FLE SGT EGT FGT SGE EGE FGE p e ha hc hk s m _ below hf ((Spec.applies_iff_loose hf).mp happ).1 ⟨rfl, State.Warmed39.refl s, rfl⟩ trivial
  refine ⟨n, _, h1, h2, h3, hpost _ _ _ _ _ _ ⟨Cond.after_iff.mpr rfl, Cond.after_iff.mpr (eq_i res_at (Term.int_eval (1)) rfl), trivial⟩ ⟨hq.1, hq.2.1, (hq.2.2.sift fun y hy => Or.inr (N y hy)).mono (by decide) (by decide)⟩⟩
theorem main_1_1 : Claimed_1_1 := comes_1 fun _ _ _ _ _ _ h hF => ⟨h.1, hF⟩
theorem main_1_2 : Claimed_1_2 := comes_1 fun _ _ _ _ _ _ h hF => ⟨h.2.1, hF⟩
end Jvm.Pilot.@@N@@
namespace Jvm.Pilot.@@N@@
open Jvm Jvm.ClassFile Sem Op Lib Jvm.Free Jvm.Stand Jvm.Pilot.@@N@@.Jvm.D
/-! MADE BY PROGRAM (witnessworld.py) out of the Statement's table words and the real class files: 12 classes; the members and pool entries that the words name. The judged class is class 1, her method 1. -/
namespace start1
open Jvm.ClassFile
def u (s : String) : CpInfo := .utf8 (stringToUtf16 s)
/-- a pool by its gaps: so many unusable entries, then the entry; so many at the end -/
def gap : Nat → List CpInfo → List CpInfo
  | 0, r => r
  | n + 1, r => .unusable :: gap n r
def poolList (es : List (Nat × CpInfo)) (last : Nat) : List CpInfo := es.foldr (fun e r => gap e.1 (e.2 :: r)) (gap last [])
def pool (es : List (Nat × CpInfo)) (last : Nat) : Array CpInfo := ⟨poolList es last⟩
def fileOf (pool : Array CpInfo) (this : Nat) (attrs : Array Attribute := #[]) (ms : Array MethodInfo := #[]) (fl : Nat := 33) (sup : Nat := 0) (ifs : Array Nat := #[]) (fds : Array FieldInfo := #[]) : ClassFile where
  minorVersion := 0
  majorVersion := 65
  constantPool := pool
  accessFlags := fl
  thisClass := this
  superClass := sup
  interfaces := ifs
  fields := fds
  methods := ms
  attributes := attrs
def plain (name : String) (sup : Option ClassId) : Class where
  name := name
  kind := .ordinary
  loader := none
  accessFlags := 33
  super := sup
  interfaces := #[]
  cf := none
  fields := #[]
  methods := #[]
  instanceTypes := #[]
  staticTypes := #[]
  resolved := #[]
  callSites := []
  init := .initialized
  statics := none
  mirror := none

def pool0 : Array CpInfo := pool [(5, u "<init>"), (0, u "()V"), (1, .class_ 10), (1, u "java/lang/Object")] 113

def k0m0 : Method := { name := "<init>", desc := "()V", sig := { parameters := [], returnType := none }, accessFlags := 1, code := none }
/-- java/lang/Object -/
def k0 : Class := { plain "java/lang/Object" none with
  accessFlags := 33
  interfaces := #[]
  cf := some (fileOf pool0 8 #[] #[{ accessFlags := 1, nameIndex := 5, descriptorIndex := 6, attributes := #[] }] 33 0 #[] #[])
  fields := #[]
  methods := #[k0m0]
  instanceTypes := #[]
  staticTypes := #[]
  resolved := Array.replicate 124 none
  statics := none }

def pool1 : Array CpInfo := pool [(2, .class_ 4), (1, u "java/lang/Object"), (0, u "<init>"), (0, u "()V"), (0, .integer 2147483647), (0, .fieldref 9 10), (0, .class_ 11), (0, .nameAndType 12 13), (0, u "com/example/firm_store/firmstore/Operator"), (0, u "EQ"), (0, u "Lcom/example/firm_store/firmstore/Operator;"), (0, .fieldref 9 15), (0, .nameAndType 16 13), (0, u "NE"), (0, .fieldref 9 18), (0, .nameAndType 19 13), (0, u "LT"), (0, .fieldref 9 21), (0, .nameAndType 22 13), (0, u "LE"), (0, .fieldref 9 24), (0, .nameAndType 25 13), (0, u "GT"), (0, .fieldref 9 27), (0, .nameAndType 28 13), (0, u "GE"), (0, .methodref 9 30), (0, .nameAndType 31 32), (0, u "admits"), (0, u "(I)Z"), (0, .class_ 34), (0, u "com/example/firm_store/firmstore/OperatorAdmitsPinLaw"), (2, u "law"), (0, u "(II)Z")] 3

def k1m0 : Method := { name := "<init>", desc := "()V", sig := { parameters := [], returnType := none }, accessFlags := 1, code := none }
def k1c1 : Code := { maxStack := 2, maxLocals := 7, code := code, exceptionTable := #[], attributes := #[] }
def k1m1 : Method := { name := "law", desc := "(II)Z", sig := { parameters := [.int, .int], returnType := some .boolean }, accessFlags := 9, code := some k1c1 }
/-- com/example/firm_store/firmstore/OperatorAdmitsPinLaw -/
def k1 : Class := { plain "com/example/firm_store/firmstore/OperatorAdmitsPinLaw" (some 0) with
  accessFlags := 49
  interfaces := #[]
  cf := some (fileOf pool1 33 #[] #[{ accessFlags := 1, nameIndex := 5, descriptorIndex := 6, attributes := #[] }, { accessFlags := 9, nameIndex := 37, descriptorIndex := 38, attributes := #[] }] 49 2 #[] #[])
  fields := #[]
  methods := #[k1m0, k1m1]
  instanceTypes := #[]
  staticTypes := #[]
  resolved := Array.replicate 42 none
  statics := none }

def pool2 : Array CpInfo := pool [(1, .class_ 2), (0, u "java/lang/constant/Constable"), (0, .class_ 4), (0, u "java/lang/Object")] 6

/-- java/lang/constant/Constable -/
def k2 : Class := { plain "java/lang/constant/Constable" (some 0) with
  accessFlags := 1537
  interfaces := #[]
  cf := some (fileOf pool2 1 #[] #[] 1537 3 #[] #[])
  fields := #[]
  methods := #[]
  instanceTypes := #[]
  staticTypes := #[]
  resolved := Array.replicate 11 none
  statics := none }

def pool3 : Array CpInfo := pool [(1, .class_ 2), (0, u "java/lang/Comparable"), (0, .class_ 4), (0, u "java/lang/Object")] 7

/-- java/lang/Comparable -/
def k3 : Class := { plain "java/lang/Comparable" (some 0) with
  accessFlags := 1537
  interfaces := #[]
  cf := some (fileOf pool3 1 #[] #[] 1537 3 #[] #[])
  fields := #[]
  methods := #[]
  instanceTypes := #[]
  staticTypes := #[]
  resolved := Array.replicate 12 none
  statics := none }

def pool4 : Array CpInfo := pool [(1, .class_ 2), (0, u "java/io/Serializable"), (0, .class_ 4), (0, u "java/lang/Object")] 2

/-- java/io/Serializable -/
def k4 : Class := { plain "java/io/Serializable" (some 0) with
  accessFlags := 1537
  interfaces := #[]
  cf := some (fileOf pool4 1 #[] #[] 1537 3 #[] #[])
  fields := #[]
  methods := #[]
  instanceTypes := #[]
  staticTypes := #[]
  resolved := Array.replicate 7 none
  statics := none }

def pool5 : Array CpInfo := pool [(2, .class_ 4), (1, u "java/lang/Enum"), (0, u "name"), (0, u "Ljava/lang/String;"), (0, .fieldref 2 8), (0, .nameAndType 9 10), (0, u "ordinal"), (0, u "I"), (1, .class_ 14), (1, u "java/lang/Object"), (4, u "hash"), (86, .class_ 108), (1, u "java/lang/Enum$EnumDesc"), (2, .class_ 112), (0, u "java/lang/constant/Constable"), (0, .class_ 114), (0, u "java/lang/Comparable"), (0, .class_ 116), (0, u "java/io/Serializable"), (9, u "()I")] 77

def k5c0 : Code := { maxStack := 1, maxLocals := 1, code := jdk_37_method_2_code, exceptionTable := #[], attributes := #[] }
def k5m0 : Method := { name := "ordinal", desc := "()I", sig := { parameters := [], returnType := some .int }, accessFlags := 17, code := some k5c0 }
/-- java/lang/Enum -/
def k5 : Class := { plain "java/lang/Enum" (some 0) with
  accessFlags := 1057
  interfaces := #[2, 3, 4]
  cf := some (fileOf pool5 2 #[.nestMembers #[106]] #[{ accessFlags := 17, nameIndex := 9, descriptorIndex := 126, attributes := #[] }] 1057 12 #[111, 113, 115] #[{ accessFlags := 18, nameIndex := 5, descriptorIndex := 6, attributes := #[] }, { accessFlags := 18, nameIndex := 9, descriptorIndex := 10, attributes := #[] }, { accessFlags := 2, nameIndex := 19, descriptorIndex := 10, attributes := #[] }])
  fields := #[{ name := "name", type := (.object "java/lang/String"), accessFlags := 18, slot := 0, constantValue := 0 }, { name := "ordinal", type := .int, accessFlags := 18, slot := 1, constantValue := 0 }, { name := "hash", type := .int, accessFlags := 2, slot := 2, constantValue := 0 }]
  methods := #[k5m0]
  instanceTypes := #[(.object "java/lang/String"), .int, .int]
  staticTypes := #[]
  resolved := Array.replicate 204 none
  statics := none }

def pool6 : Array CpInfo := pool [(1, .class_ 2), (0, u "com/example/firm_store/firmstore/Operator"), (2, u "EQ"), (0, u "Lcom/example/firm_store/firmstore/Operator;"), (2, u "NE"), (2, u "LT"), (2, u "LE"), (2, u "GT"), (2, u "GE"), (2, u "LIKE"), (2, u "ILIKE"), (2, u "$VALUES"), (0, u "[Lcom/example/firm_store/firmstore/Operator;"), (6, .class_ 40), (1, u "java/lang/Enum"), (8, u "sql"), (0, u "Ljava/lang/String;"), (0, .methodref 1 52), (0, .nameAndType 53 54), (0, u "ordinal"), (0, u "()I"), (58, u "admits"), (0, u "(I)Z")] 20

def k6c0 : Code := { maxStack := 4, maxLocals := 2, code := prog_10_method_6_code, exceptionTable := #[], attributes := #[] }
def k6m0 : Method := { name := "admits", desc := "(I)Z", sig := { parameters := [.int], returnType := some .boolean }, accessFlags := 0, code := some k6c0 }
/-- com/example/firm_store/firmstore/Operator -/
def k6 : Class := { plain "com/example/firm_store/firmstore/Operator" (some 5) with
  accessFlags := 16433
  interfaces := #[]
  cf := some (fileOf pool6 1 #[] #[{ accessFlags := 0, nameIndex := 113, descriptorIndex := 114, attributes := #[] }] 16433 38 #[] #[{ accessFlags := 16409, nameIndex := 5, descriptorIndex := 6, attributes := #[] }, { accessFlags := 16409, nameIndex := 9, descriptorIndex := 6, attributes := #[] }, { accessFlags := 16409, nameIndex := 12, descriptorIndex := 6, attributes := #[] }, { accessFlags := 16409, nameIndex := 15, descriptorIndex := 6, attributes := #[] }, { accessFlags := 16409, nameIndex := 18, descriptorIndex := 6, attributes := #[] }, { accessFlags := 16409, nameIndex := 21, descriptorIndex := 6, attributes := #[] }, { accessFlags := 16409, nameIndex := 24, descriptorIndex := 6, attributes := #[] }, { accessFlags := 16409, nameIndex := 27, descriptorIndex := 6, attributes := #[] }, { accessFlags := 18, nameIndex := 49, descriptorIndex := 50, attributes := #[] }, { accessFlags := 4122, nameIndex := 30, descriptorIndex := 31, attributes := #[] }])
  fields := #[{ name := "EQ", type := (.object "com/example/firm_store/firmstore/Operator"), accessFlags := 16409, slot := 0, constantValue := 0 }, { name := "NE", type := (.object "com/example/firm_store/firmstore/Operator"), accessFlags := 16409, slot := 1, constantValue := 0 }, { name := "LT", type := (.object "com/example/firm_store/firmstore/Operator"), accessFlags := 16409, slot := 2, constantValue := 0 }, { name := "LE", type := (.object "com/example/firm_store/firmstore/Operator"), accessFlags := 16409, slot := 3, constantValue := 0 }, { name := "GT", type := (.object "com/example/firm_store/firmstore/Operator"), accessFlags := 16409, slot := 4, constantValue := 0 }, { name := "GE", type := (.object "com/example/firm_store/firmstore/Operator"), accessFlags := 16409, slot := 5, constantValue := 0 }, { name := "LIKE", type := (.object "com/example/firm_store/firmstore/Operator"), accessFlags := 16409, slot := 6, constantValue := 0 }, { name := "ILIKE", type := (.object "com/example/firm_store/firmstore/Operator"), accessFlags := 16409, slot := 7, constantValue := 0 }, { name := "sql", type := (.object "java/lang/String"), accessFlags := 18, slot := 3, constantValue := 0 }, { name := "$VALUES", type := (.array (.object "com/example/firm_store/firmstore/Operator")), accessFlags := 4122, slot := 8, constantValue := 0 }]
  methods := #[k6m0]
  instanceTypes := #[(.object "java/lang/String"), .int, .int, (.object "java/lang/String")]
  staticTypes := #[(.object "com/example/firm_store/firmstore/Operator"), (.object "com/example/firm_store/firmstore/Operator"), (.object "com/example/firm_store/firmstore/Operator"), (.object "com/example/firm_store/firmstore/Operator"), (.object "com/example/firm_store/firmstore/Operator"), (.object "com/example/firm_store/firmstore/Operator"), (.object "com/example/firm_store/firmstore/Operator"), (.object "com/example/firm_store/firmstore/Operator"), (.array (.object "com/example/firm_store/firmstore/Operator"))]
  resolved := Array.replicate 135 none
  statics := some 0 }

def pool7 : Array CpInfo := pool [(1, u "java/lang/Cloneable"), (0, .class_ 1), (0, u "java/lang/Object"), (0, .class_ 3)] 3

/-- java/lang/Cloneable -/
def k7 : Class := { plain "java/lang/Cloneable" (some 0) with
  accessFlags := 1537
  interfaces := #[]
  cf := some (fileOf pool7 2 #[] #[] 1537 4 #[] #[])
  fields := #[]
  methods := #[]
  instanceTypes := #[]
  staticTypes := #[]
  resolved := Array.replicate 8 none
  statics := none }

/-- the primitive byte -/
def k8 : Class := { plain "byte" none with kind := .primitive 'B', accessFlags := 0x411 }
/-- [B -/
def k9 : Class := { plain "[B" (some 0) with kind := .array 8 .byte, interfaces := #[7, 4], accessFlags := 1041 }

/-- the primitive int -/
def k10 : Class := { plain "int" none with kind := .primitive 'I', accessFlags := 0x411 }
/-- [I -/
def k11 : Class := { plain "[I" (some 0) with kind := .array 10 .int, interfaces := #[7, 4], accessFlags := 1041 }

def heap : Heap := #[{ cls := 6, slots := #[.ref 1, .ref 2, .ref 3, .ref 4, .ref 5, .ref 6, .null, .null, .null], vm := .statics 6 },
  { cls := 6, slots := #[.null, .int 0, .int 0, .null], vm := .none },
  { cls := 6, slots := #[.null, .int 1, .int 0, .null], vm := .none },
  { cls := 6, slots := #[.null, .int 2, .int 0, .null], vm := .none },
  { cls := 6, slots := #[.null, .int 3, .int 0, .null], vm := .none },
  { cls := 6, slots := #[.null, .int 4, .int 0, .null], vm := .none },
  { cls := 6, slots := #[.null, .int 5, .int 0, .null], vm := .none }]
def classes : Array Class := #[k0, k1, k2, k3, k4, k5, k6, k7, k8, k9, k10, k11]
def interned : List (Array UInt16 × Addr) := []
def slotsUsed : Nat := 33
def theMethod : MethodId := ⟨1, 1⟩
def args0 : Array Value := #[.int 3, .int 4]
def aboutOver (below : List Frame) : State where
  vm := { classes := classes, interned := interned.toArray }
  heap := heap
  slotsUsed := slotsUsed
  threads := #[{ frames := .invoking theMethod args0 :: below }]
def below0 : List Frame := [.native { method := ⟨0, 0⟩, args := #[] }]
def about1 : State := aboutOver below0
def p0 : Program := .bare "" "" ""
def e0 : Env := launch0.env 0 0 0
theorem w_frames : about1.frames = Frame.invoking theMethod args0 :: below0 := rfl
set_option maxRecDepth 65536 in
theorem w_args : argsFit about1.vm theMethod args0 = true := by decide +kernel
set_option maxRecDepth 65536 in
theorem w_heap : heapFits about1 = true := by decide +kernel
set_option maxRecDepth 65536 in
theorem w_runnable : about1.curStatus? = some .runnable := by decide +kernel
set_option maxRecDepth 65536 in
theorem w_alone : about1.alone = true := by decide +kernel
set_option maxRecDepth 65536 in
theorem w_named : about1.methodNamed? x = some theMethod := by decide +kernel
set_option maxRecDepth 65536 in
theorem w_hears : about1.hears theMethod below0 = true := by decide +kernel
set_option maxRecDepth 65536 in
theorem w_ripe : about1.ripe theMethod args0 below0 = true := by decide +kernel
theorem w_running : about1.status = .running := rfl
set_option maxRecDepth 65536 in
theorem w_room : about1.hasRoom e0.platform room_1 = true :=
  launch0.hasRoom_least _ room_1 (by decide +kernel) (by decide +kernel) (by decide +kernel) (by decide +kernel) (by decide +kernel) (by decide +kernel)
theorem allAtoms_all (ts : List Jvm.Cond) (a : Array Jvm.Value) (st : Jvm.State) : (allAtoms ts).before a st = ts.all (fun c => c.before a st) := by
  induction ts with
  | nil => rfl
  | cons c t ih =>
    show (Jvm.Cond.and c (allAtoms t)).before a st = _
    rw [Jvm.Cond.before_and, ih, List.all_cons]
def words1 : List Jvm.Cond := Jvm.Cond.code x code maxLocals ret :: tables_1
/-- a 'code' word, met by the world's own term for the bytes: nothing is compared byte by byte -/
theorem code_word {y : MethodName} {bytes : ByteArray} {mx : Nat} {rt : Option FieldType} {a : Array Value} {s : State} {m : MethodId} {meth : Method} {c : Code} (h1 : s.methodNamed? y = some m) (h2 : s.vm.method? m = some meth) (h3 : meth.code = some c) (h4 : c.code = bytes)
    (h5 : (c.maxLocals == mx && c.exceptionTable.isEmpty && decide (c.maxStack ≤ mostOperands) && decide (meth.sig.returnType = rt) && !meth.locks && decide (parseMethodDescriptor y.desc = some meth.sig)) = true) : (Jvm.Cond.code y bytes mx rt).before a s = true := by
  simp only [Bool.and_eq_true, beq_iff_eq, Bool.not_eq_true', decide_eq_true_eq] at h5
  obtain ⟨⟨⟨⟨⟨g1, g2⟩, g3⟩, g4⟩, g5⟩, g6⟩ := h5
  simp [Cond.before, Cond.holds, Cond.value, h1, h2, h3, h4, g1, g2, g3, g4, g5, g6]
def isCode : Jvm.Cond → Bool
  | .code _ _ _ _ => true
  | _ => false
theorem all_split {L : List Jvm.Cond} {P : Jvm.Cond → Bool} (h1 : L.all (fun c => isCode c || P c) = true) (h2 : ∀ c ∈ L.filter isCode, P c = true) : L.all P = true := by
  refine List.all_eq_true.mpr fun c hc => ?_
  have h := List.all_eq_true.mp h1 c hc
  rcases Bool.eq_false_or_eq_true (isCode c) with hi | hi
  · exact h2 c (List.mem_filter.mpr ⟨hc, hi⟩)
  · simpa [hi] using h
set_option maxRecDepth 65536 in
theorem w_c0 : (Jvm.Cond.code x code maxLocals ret).before args0 about1 = true := code_word (m := ⟨1, 1⟩) (meth := k1m1) (c := k1c1) (by decide +kernel) rfl rfl rfl (by decide +kernel)
set_option maxRecDepth 65536 in
theorem w_c1 : (Jvm.Cond.code ({ cls := "com/example/firm_store/firmstore/Operator", name := "admits", desc := "(I)Z" } : Jvm.MethodName) prog_10_method_6_code (2 : Nat) (Option.some Jvm.ClassFile.FieldType.boolean)).before args0 about1 = true := code_word (m := ⟨6, 0⟩) (meth := k6m0) (c := k6c0) (by decide +kernel) rfl rfl rfl (by decide +kernel)
set_option maxRecDepth 65536 in
theorem w_c2 : (Jvm.Cond.code ({ cls := "java/lang/Enum", name := "ordinal", desc := "()I" } : Jvm.MethodName) jdk_37_method_2_code (1 : Nat) (Option.some Jvm.ClassFile.FieldType.int)).before args0 about1 = true := code_word (m := ⟨5, 0⟩) (meth := k5m0) (c := k5c0) (by decide +kernel) rfl rfl rfl (by decide +kernel)
def codes1 : List Jvm.Cond := [Jvm.Cond.code x code maxLocals ret, Jvm.Cond.code ({ cls := "com/example/firm_store/firmstore/Operator", name := "admits", desc := "(I)Z" } : Jvm.MethodName) prog_10_method_6_code (2 : Nat) (Option.some Jvm.ClassFile.FieldType.boolean), Jvm.Cond.code ({ cls := "java/lang/Enum", name := "ordinal", desc := "()I" } : Jvm.MethodName) jdk_37_method_2_code (1 : Nat) (Option.some Jvm.ClassFile.FieldType.int)]
set_option maxRecDepth 65536 in
theorem codes_eq : words1.filter isCode = codes1 := rfl
theorem w_codes : ∀ c ∈ words1.filter isCode, c.before args0 about1 = true := by
  rw [codes_eq]
  intro c hc
  simp only [codes1, List.mem_cons, List.not_mem_nil, or_false] at hc
  rcases hc with rfl | rfl | rfl
  · exact w_c0
  · exact w_c1
  · exact w_c2
set_option maxRecDepth 65536 in
theorem w_t1 : (words1.take 24).all (fun c => isCode c || c.before args0 about1) = true := by decide +kernel
set_option maxRecDepth 65536 in
theorem w_t2 : (words1.drop 24).all (fun c => isCode c || c.before args0 about1) = true := by decide +kernel
theorem w_tables : (allAtoms (Jvm.Cond.code x code maxLocals ret :: tables_1)).before args0 about1 = true := by
  rw [allAtoms_all]
  show words1.all (fun c => c.before args0 about1) = true
  refine all_split ?_ w_codes
  rw [← List.take_append_drop 24 words1, List.all_append, w_t1, w_t2]
  rfl
set_option maxRecDepth 65536 in
theorem w_case : (Jvm.Cond.and given_1 narrow_1).before args0 about1 = true := by decide +kernel
theorem w_applies : (headSpec (Jvm.Cond.code x code maxLocals ret :: tables_1) room_1).applies x e0.platform about1 = true :=
  (Spec.applies_iff w_frames).mpr ⟨w_running, w_runnable, w_alone, w_named, w_hears, w_ripe, w_room, w_tables⟩
theorem atStart : AtStart classFile x code maxLocals ret World_1 tables_1 room_1 Calls_1 rest_1 Pre_1 launch0 p0 e0 about1 theMethod args0 below0 :=
  ⟨lists_1, trivial, launch0.admits_env _ _ _, launch0.least_env, fairChoices_fair.cas, fairChoices_fair.clock, w_frames, w_args, w_heap, w_applies, trivial, trivial, w_case⟩
end start1
theorem witness_1 : WitnessClaimed_1 := ⟨start1.p0, start1.e0, start1.about1, start1.theMethod, start1.args0, start1.below0, start1.atStart⟩
end Jvm.Pilot.@@N@@
