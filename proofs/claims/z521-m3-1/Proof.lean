import JvmDerived
import JvmDerived.Pilot.@@N@@Statement
import JvmDerived.Pilot.@@N@@Code
set_option linter.unusedVariables false
set_option linter.unusedSimpArgs false
namespace Jvm.Pilot.@@N@@
open Jvm Jvm.ClassFile Sem Op Lib Jvm.Free Jvm.Stand Jvm.LawKit Jvm.RoadKit Bundle Jvm.Pilot.@@N@@.Jvm.D
theorem own_ok (p1 p2 : Int32) (q3 : Int64) {fr t0 to : Int32} {sz : Int64} (hfr : fr = (p1 &&& (2147483647 : Int32))) (ht0 : t0 = (p2 &&& (2147483647 : Int32))) (hto : to = (if t0 = fr then (fr ^^^ (1 : Int32)) else t0)) (hsz : sz = (q3 &&& (9223372036854775807 : Int64))) :
    ¬ fr < (0 : Int32) ∧ ¬ to < (0 : Int32) ∧ ¬ fr = to ∧ ¬ (lcmpW sz (0 : Int64)) < (0 : Int32) := by
  have h1 := c_mask p1 (2147483647 : Int32) 31 (by decide) (by decide)
  have h2 := c_mask p2 (2147483647 : Int32) 31 (by decide) (by decide)
  have h3 := c_maskL q3 (9223372036854775807 : Int64) 63 (by decide) (by decide)
  rw [← hfr] at h1; rw [← ht0] at h2; rw [← hsz] at h3
  have e0 : (0 : Int32).toInt = 0 := by decide
  have e1 : (1 : Int32).toInt = 1 := by decide
  have e2 : (0 : Int64).toInt = 0 := by decide
  have h4 := (c_xorS fr (1 : Int32)).2.2.2 (by omega) (by omega)
  have h5 := c_xor2 fr (1 : Int32)
  rw [lw_lt, Int32.lt_iff_toInt_lt, Int32.lt_iff_toInt_lt, Int64.lt_iff_toInt_lt, ← Int32.toInt_inj]
  by_cases hc : t0 = fr
  · rw [if_pos hc] at hto; subst hto; omega
  · rw [if_neg hc] at hto; subst hto; rw [← Int32.toInt_inj] at hc; omega
theorem own_pn0 : plainName "java/lang/Record" = true := by first | (simp [plainName, overriddenIn]; done) | decide +kernel
theorem own_ef_rmR (m : MethodId) (x0 : Addr) : entryFrame m #[(.ref x0)] 1 = mkF m 0 #[.val (.ref x0)] [] := by first | (simp [entryFrame, mkF, argsToLocals, Value.category]; done) | rfl
theorem own_d2_0 : decode jdk_30_method_1_code 0 = .ok (.aload_n 0, 1) := by decide +kernel
theorem own_d2_1 : decode jdk_30_method_1_code 1 = .ok (.invokespecial 1, 3) := by decide +kernel
theorem own_d2_4 : decode jdk_30_method_1_code 4 = .ok (.return_, 1) := by decide +kernel
def Q_rmR (Z : State) (a1 : Addr) (h0 : Heap) (n0 : Nat) (v : Option Value) (h : Heap) (L : List Loc) : Prop := v = none ∧ Fr n0 L ∧ h = h0
set_option maxRecDepth 65536 in
set_option maxHeartbeats 40000000 in
theorem rmR (l : Launch) (Z : State) (a0 : Array Value) (hw : ∀ d ∈ tables_1, d.before a0 Z = true) (ws : List Jvm.Cond) (a1 : Addr) (h0 : Heap) (n0 : Nat) (Z0 : n0 ≤ h0.size)  :
    MetFree l (⟨"java/lang/Record", "<init>", "()V"⟩ : MethodName) (head1 (Jvm.Cond.code (⟨"java/lang/Record", "<init>", "()V"⟩ : MethodName) jdk_30_method_1_code 1 none :: ws) ({ frames := 1, cells := 0, slots := 0, locals := 12 } : Room)) (fun a U => a = #[(.ref a1)] ∧ Z.Warmed39 U.vm ∧ U.heap = h0) (fun _ _ _ _ _ => True) (fun _ U o U' => ∃ v L, o = .returned v ∧ Q_rmR Z a1 h0 n0 v U'.heap L ∧ FrameEnd U o U' L ({ frames := 1, cells := 0, slots := 0, locals := 12 } : Room).cells ({ frames := 1, cells := 0, slots := 0, locals := 12 } : Room).slots) := by
  refine MetFree.of_bodySF (plainFor_of_name own_pn0) hisR ?_
  intro p e s m args below meth c s₁ Bd hml0 hP hK
  obtain ⟨rfl, hZ, hh⟩ := hP
  have hx := Bd.exec
  have hby := Bd.bytes
  have hml : c.maxLocals = 1 := hml0
  have hown : s.vm.findClass "java/lang/Record" = some m.cls := findClass_of_methodNamed Bd.named
  have hnm := (name_of_methodNamed Bd.named Bd.method).1
  have X0 : Stand p l e ({ frames := 1, cells := 0, slots := 0, locals := 12 } : Room) s m #[(.ref a1)] below meth c s₁ [] 0 0 := Stand.of_body Bd
  have e0 : s₁.heap = h0 := by rw [← hh, Bd.state]; rfl
  have N0 := Fr.nil n0
  have R0 : ∀ t, Steps p.tables e below (s₁.setTop (mkF m 0 #[.val (.ref a1)] [])) t → Steps p.tables e below (s₁.setTop (entryFrame m #[(.ref a1)] 1)) t := fun t k => castTop (own_ef_rmR m a1) k
  have R1 : ∀ t, Steps p.tables e below (s₁.setTop (mkF m 1 #[.val (.ref a1)] [(.ref a1)])) t → Steps p.tables e below (s₁.setTop (entryFrame m #[(.ref a1)] 1)) t := by
    intro t k
    refine R0 t ?_
    show Steps p.tables e below (s₁.setTop (mkF m 0 #[.val (.ref a1)] [])) _
    refine XS.aloadN X0.here hx rfl (hb hby own_d2_0) rfl rfl ?_
    exact k
  obtain ⟨T2, X2, e2, st2⟩ := initO X0 hx hZ hown (hw _ (List.mem_of_getElem? (i := 13) rfl)) (hw _ (List.mem_of_getElem? (i := 14) rfl)) (hw _ (List.mem_of_getElem? (i := 15) rfl)) e0 (g := (mkF m 1 #[.val (.ref a1)] [(.ref a1)])) rfl (by rw [hml]; rfl) rfl (hb hby own_d2_1) (by decide) (W := 0) (by show 2 * 0 + _ ≤ _; exact Nat.le_of_eq rfl) (by decide)
  have R2 : ∀ t, Steps p.tables e below (T2.setTop (mkF m 4 #[.val (.ref a1)] [])) t → Steps p.tables e below (s₁.setTop (entryFrame m #[(.ref a1)] 1)) t := fun t k => R1 t (st2 t k)
  obtain ⟨fs, hr, hrun, hended, hW, hsame⟩ := X2.leave (v := none) (fun _ => rfl)
  refine ⟨_, _, R2 _ ?_, hrun, hended, _, _, rfl, ?_, ⟨_, rfl⟩, hW, hsame.mono (by decide) (by decide)⟩
  · exact X2.returnOut hx Bd.returns (hb hby own_d2_4) hr
  · show Q_rmR Z a1 h0 n0 _ T2.heap _
    rw [e2]
    exact ⟨rfl, N0, rfl⟩
theorem own_pn1 : plainName "com/example/trunkwright/trunkwright/design/Link" = true := by first | (simp [plainName, overriddenIn]; done) | decide +kernel
theorem own_ef_rmLI (m : MethodId) (x0 : Addr) (x1 : Int32) (x2 : Int32) (x3 : Int64) : entryFrame m #[(.ref x0), (.int x1), (.int x2), (.long x3)] 5 = mkF m 0 #[.val (.ref x0), .val (.int x1), .val (.int x2), .val (.long x3), .second] [] := by first | (simp [entryFrame, mkF, argsToLocals, Value.category]; done) | rfl
theorem own_d1_0 : decode prog_8_method_1_code 0 = .ok (.aload_n 0, 1) := by decide +kernel
theorem own_d1_1 : decode prog_8_method_1_code 1 = .ok (.invokespecial 1, 3) := by decide +kernel
theorem own_pd1 : parseMethodDescriptor "()V" = some ⟨[], none⟩ := by decide +kernel
theorem own_d1_4 : decode prog_8_method_1_code 4 = .ok (.iload_n 1, 1) := by decide +kernel
theorem own_d1_5 : decode prog_8_method_1_code 5 = .ok (.ifCond .lt 7, 3) := by decide +kernel
theorem own_d1_8 : decode prog_8_method_1_code 8 = .ok (.iload_n 2, 1) := by decide +kernel
theorem own_d1_9 : decode prog_8_method_1_code 9 = .ok (.ifCond .ge 18, 3) := by decide +kernel
theorem own_d1_27 : decode prog_8_method_1_code 27 = .ok (.iload_n 1, 1) := by decide +kernel
theorem own_d1_28 : decode prog_8_method_1_code 28 = .ok (.iload_n 2, 1) := by decide +kernel
theorem own_d1_29 : decode prog_8_method_1_code 29 = .ok (.if_icmp .ne 17, 3) := by decide +kernel
theorem own_d1_46 : decode prog_8_method_1_code 46 = .ok (.lload_n 3, 1) := by decide +kernel
theorem own_d1_47 : decode prog_8_method_1_code 47 = .ok (.lconst 0, 1) := by decide +kernel
theorem own_d1_48 : decode prog_8_method_1_code 48 = .ok (.lcmp, 1) := by decide +kernel
theorem own_d1_49 : decode prog_8_method_1_code 49 = .ok (.ifCond .ge 17, 3) := by decide +kernel
theorem own_d1_66 : decode prog_8_method_1_code 66 = .ok (.aload_n 0, 1) := by decide +kernel
theorem own_d1_67 : decode prog_8_method_1_code 67 = .ok (.iload_n 1, 1) := by decide +kernel
theorem own_d1_68 : decode prog_8_method_1_code 68 = .ok (.putfield 22, 3) := by decide +kernel
theorem own_d1_71 : decode prog_8_method_1_code 71 = .ok (.aload_n 0, 1) := by decide +kernel
theorem own_d1_72 : decode prog_8_method_1_code 72 = .ok (.iload_n 2, 1) := by decide +kernel
theorem own_d1_73 : decode prog_8_method_1_code 73 = .ok (.putfield 28, 3) := by decide +kernel
theorem own_d1_76 : decode prog_8_method_1_code 76 = .ok (.aload_n 0, 1) := by decide +kernel
theorem own_d1_77 : decode prog_8_method_1_code 77 = .ok (.lload_n 3, 1) := by decide +kernel
theorem own_d1_78 : decode prog_8_method_1_code 78 = .ok (.putfield 31, 3) := by decide +kernel
theorem own_d1_81 : decode prog_8_method_1_code 81 = .ok (.return_, 1) := by decide +kernel
def Q_rmLI (Z : State) (a1 : Addr) (p2 p3 : Int32) (q4 : Int64) (h0 : Heap) (n0 : Nat) (v : Option Value) (h : Heap) (L : List Loc) : Prop := v = none ∧ Fr n0 L ∧ Keep h0 h [a1] ∧ Exa Z h a1 "com/example/trunkwright/trunkwright/design/Link" ∧ Fld Z h a1 "com/example/trunkwright/trunkwright/design/Link" "from" "I" (.int p2) ∧ Fld Z h a1 "com/example/trunkwright/trunkwright/design/Link" "to" "I" (.int p3)
set_option maxRecDepth 65536 in
set_option maxHeartbeats 40000000 in
theorem rmLI (l : Launch) (Z : State) (a0 : Array Value) (hw : ∀ d ∈ tables_1, d.before a0 Z = true) (ws : List Jvm.Cond) (a1 : Addr) (p2 p3 : Int32) (q4 : Int64) (h0 : Heap) (n0 : Nat) (Z0 : n0 ≤ h0.size) (Ff : Fld Z h0 a1 "com/example/trunkwright/trunkwright/design/Link" "from" "I" (.int (0 : Int32))) (Ft : Fld Z h0 a1 "com/example/trunkwright/trunkwright/design/Link" "to" "I" (.int (0 : Int32))) (Fs : Fld Z h0 a1 "com/example/trunkwright/trunkwright/design/Link" "size" "J" (.long (0 : Int64))) (Ea : Exa Z h0 a1 "com/example/trunkwright/trunkwright/design/Link") (g_a1 : n0 ≤ a1) (c2 : ¬ p2 < (0 : Int32)) (c3 : ¬ p3 < (0 : Int32)) (c23 : ¬ p2 = p3) (c4 : ¬ (lcmpW q4 (0 : Int64)) < (0 : Int32)) :
    MetFree l (⟨"com/example/trunkwright/trunkwright/design/Link", "<init>", "(IIJ)V"⟩ : MethodName) (head1 (Jvm.Cond.code (⟨"com/example/trunkwright/trunkwright/design/Link", "<init>", "(IIJ)V"⟩ : MethodName) prog_8_method_1_code 5 none :: ws) ({ frames := 2, cells := 0, slots := 0, locals := 24 } : Room)) (fun a U => a = #[(.ref a1), (.int p2), (.int p3), (.long q4)] ∧ Z.Warmed39 U.vm ∧ U.heap = h0) (fun _ _ _ _ _ => True) (fun _ U o U' => ∃ v L, o = .returned v ∧ Q_rmLI Z a1 p2 p3 q4 h0 n0 v U'.heap L ∧ FrameEnd U o U' L ({ frames := 2, cells := 0, slots := 0, locals := 24 } : Room).cells ({ frames := 2, cells := 0, slots := 0, locals := 24 } : Room).slots) := by
  refine MetFree.of_bodySF (plainFor_of_name own_pn1) hisR ?_
  intro p e s m args below meth c s₁ Bd hml0 hP hK
  obtain ⟨rfl, hZ, hh⟩ := hP
  have hx := Bd.exec
  have hby := Bd.bytes
  have hml : c.maxLocals = 5 := hml0
  have hown : s.vm.findClass "com/example/trunkwright/trunkwright/design/Link" = some m.cls := findClass_of_methodNamed Bd.named
  have hnm := (name_of_methodNamed Bd.named Bd.method).1
  have X0 : Stand p l e ({ frames := 2, cells := 0, slots := 0, locals := 24 } : Room) s m #[(.ref a1), (.int p2), (.int p3), (.long q4)] below meth c s₁ [] 0 0 := Stand.of_body Bd
  have e0 : s₁.heap = h0 := by rw [← hh, Bd.state]; rfl
  have N0 := Fr.nil n0
  have R0 : ∀ t, Steps p.tables e below (s₁.setTop (mkF m 0 #[.val (.ref a1), .val (.int p2), .val (.int p3), .val (.long q4), .second] [])) t → Steps p.tables e below (s₁.setTop (entryFrame m #[(.ref a1), (.int p2), (.int p3), (.long q4)] 5)) t := fun t k => castTop (own_ef_rmLI m a1 p2 p3 q4) k
  have R1 : ∀ t, Steps p.tables e below (s₁.setTop (mkF m 1 #[.val (.ref a1), .val (.int p2), .val (.int p3), .val (.long q4), .second] [(.ref a1)])) t → Steps p.tables e below (s₁.setTop (entryFrame m #[(.ref a1), (.int p2), (.int p3), (.long q4)] 5)) t := by
    intro t k
    refine R0 t ?_
    show Steps p.tables e below (s₁.setTop (mkF m 0 #[.val (.ref a1), .val (.int p2), .val (.int p3), .val (.long q4), .second] [])) _
    refine XS.aloadN X0.here hx rfl (hb hby own_d1_0) rfl rfl ?_
    exact k
  obtain ⟨_, _, ⟨T2, L2, k2, n2⟩, -, X2, ⟨Lc2, hQ2, l2, y2, z2⟩, st2⟩ := X0.specialBack hx (y := (⟨"java/lang/Record", "<init>", "()V"⟩ : MethodName)) rfl hown (mvT hZ (hw _ (List.mem_of_getElem? (i := 8) rfl))) (mvT hZ (hw _ (List.mem_of_getElem? (i := 9) rfl))) (mvT hZ (hw _ (List.mem_of_getElem? (i := 12) rfl))) (by decide) (backOf (W := 0) (rmR l Z a0 hw [] a1  h0 n0 Z0 ) hZ (hw _ (List.mem_of_getElem? (i := 12) rfl)) (hw _ (List.mem_of_getElem? (i := 11) rfl)) (by decide) (by decide)) (g := (mkF m 1 #[.val (.ref a1), .val (.int p2), .val (.int p3), .val (.long q4), .second] [(.ref a1)])) rfl (by rw [hml]; rfl) (Steps.refl _) (a := a1) (argsL := []) (rest := []) (lenOf own_pd1 rfl) rfl (by show 2 * 0 + _ ≤ _; exact Nat.le_of_eq rfl) (hb hby own_d1_1) (fun _ _ => ⟨rfl, e0, (by decide : 0 + 0 ≤ _), (by decide : 0 + 0 ≤ _)⟩)
  dsimp only [Pt.U, Pt.locs, Pt.cells, Pt.slots] at X2 l2 y2 z2 st2 hQ2
  subst l2 y2 z2
  obtain ⟨rfl, Nq2, eq2⟩ := hQ2
  have N2 := Fr.app N0 Nq2
  have R2 : ∀ t, Steps p.tables e below (T2.setTop (mkF m 4 #[.val (.ref a1), .val (.int p2), .val (.int p3), .val (.long q4), .second] [])) t → Steps p.tables e below (s₁.setTop (entryFrame m #[(.ref a1), (.int p2), (.int p3), (.long q4)] 5)) t := fun t k => R1 t (st2.trans k)
  have R3 : ∀ t, Steps p.tables e below (T2.setTop (mkF m 68 #[.val (.ref a1), .val (.int p2), .val (.int p3), .val (.long q4), .second] [(.int p2), (.ref a1)])) t → Steps p.tables e below (s₁.setTop (entryFrame m #[(.ref a1), (.int p2), (.int p3), (.long q4)] 5)) t := by
    intro t k
    refine R2 t ?_
    show Steps p.tables e below (T2.setTop (mkF m 4 #[.val (.ref a1), .val (.int p2), .val (.int p3), .val (.long q4), .second] [])) _
    refine XS.iloadN X2.here hx rfl (hb hby own_d1_4) rfl ?_
    show Steps p.tables e below (T2.setTop (mkF m 5 #[.val (.ref a1), .val (.int p2), .val (.int p3), .val (.long q4), .second] [(.int p2)])) _
    refine XS.ifNo X2.here hx rfl (hb hby own_d1_5) rfl ((if0 _ _).trans (flt c2).1) ?_
    show Steps p.tables e below (T2.setTop (mkF m 8 #[.val (.ref a1), .val (.int p2), .val (.int p3), .val (.long q4), .second] [])) _
    refine XS.iloadN X2.here hx rfl (hb hby own_d1_8) rfl ?_
    show Steps p.tables e below (T2.setTop (mkF m 9 #[.val (.ref a1), .val (.int p2), .val (.int p3), .val (.long q4), .second] [(.int p3)])) _
    refine XS.ifYes X2.here hx rfl (pc0 := 9) (pc' := 27) rfl (hb hby own_d1_9) rfl ((if0 _ _).trans (flt c3).2.1) (by decide) (by decide) ?_
    show Steps p.tables e below (T2.setTop (mkF m 27 #[.val (.ref a1), .val (.int p2), .val (.int p3), .val (.long q4), .second] [])) _
    refine XS.iloadN X2.here hx rfl (hb hby own_d1_27) rfl ?_
    show Steps p.tables e below (T2.setTop (mkF m 28 #[.val (.ref a1), .val (.int p2), .val (.int p3), .val (.long q4), .second] [(.int p2)])) _
    refine XS.iloadN X2.here hx rfl (hb hby own_d1_28) rfl ?_
    show Steps p.tables e below (T2.setTop (mkF m 29 #[.val (.ref a1), .val (.int p2), .val (.int p3), .val (.long q4), .second] [(.int p3), (.int p2)])) _
    refine XS.icmpYes X2.here hx rfl (pc0 := 29) (pc' := 46) rfl (hb hby own_d1_29) rfl (feq c23).2 (by decide) (by decide) ?_
    show Steps p.tables e below (T2.setTop (mkF m 46 #[.val (.ref a1), .val (.int p2), .val (.int p3), .val (.long q4), .second] [])) _
    refine XS.lloadN X2.here hx rfl (hb hby own_d1_46) rfl ?_
    show Steps p.tables e below (T2.setTop (mkF m 47 #[.val (.ref a1), .val (.int p2), .val (.int p3), .val (.long q4), .second] [(.long q4)])) _
    refine XS.lconst X2.here hx rfl (hb hby own_d1_47) ?_
    show Steps p.tables e below (T2.setTop (mkF m 48 #[.val (.ref a1), .val (.int p2), .val (.int p3), .val (.long q4), .second] [(.long (0 : Int64)), (.long q4)])) _
    refine XS.lcmp X2.here hx rfl (hb hby own_d1_48) rfl ?_
    show Steps p.tables e below (T2.setTop (mkF m 49 #[.val (.ref a1), .val (.int p2), .val (.int p3), .val (.long q4), .second] [(.int (lcmpW q4 (0 : Int64)))])) _
    refine XS.ifYes X2.here hx rfl (pc0 := 49) (pc' := 66) rfl (hb hby own_d1_49) rfl ((if0 _ _).trans (flt c4).2.1) (by decide) (by decide) ?_
    show Steps p.tables e below (T2.setTop (mkF m 66 #[.val (.ref a1), .val (.int p2), .val (.int p3), .val (.long q4), .second] [])) _
    refine XS.aloadN X2.here hx rfl (hb hby own_d1_66) rfl rfl ?_
    show Steps p.tables e below (T2.setTop (mkF m 67 #[.val (.ref a1), .val (.int p2), .val (.int p3), .val (.long q4), .second] [(.ref a1)])) _
    refine XS.iloadN X2.here hx rfl (hb hby own_d1_67) rfl ?_
    exact k
  obtain ⟨T4, h4, X4, e4, W4, st4⟩ := putF X2 hx hZ hown (host := "") (Or.inl (hw _ (List.mem_of_getElem? (i := 16) rfl))) Via.refl eq2 Ff Ea (Or.inr ⟨(hw _ (List.mem_of_getElem? (i := 17) rfl)), rfl, hnm⟩) (hw _ (List.mem_of_getElem? (i := 3) rfl)) (ty := .int) (by decide) rfl rfl (g := (mkF m 68 #[.val (.ref a1), .val (.int p2), .val (.int p3), .val (.long q4), .second] [(.int p2), (.ref a1)])) rfl rfl (hb hby own_d1_68)
  have R4 : ∀ t, Steps p.tables e below (T4.setTop (mkF m 71 #[.val (.ref a1), .val (.int p2), .val (.int p3), .val (.long q4), .second] [])) t → Steps p.tables e below (s₁.setTop (entryFrame m #[(.ref a1), (.int p2), (.int p3), (.long q4)] 5)) t := fun t k => R3 t (st4 t k)
  have Z4 : n0 ≤ h4.size := Nat.le_trans Z0 (Keep.of_wr W4).1
  have K4 : Keep h0 h4 [a1] := (Keep.refl h0 [a1]).wr W4 (Or.inl (by simp))
  have N4 := Fr.snoc X4 N2 g_a1
  have f5 : Fld Z h4 a1 "com/example/trunkwright/trunkwright/design/Link" "to" "I" (.int (0 : Int32)) := Ft.other W4 (Or.inr (slot_ne (Or.inr (hw _ (List.mem_of_getElem? (i := 19) rfl))) (Or.inr (hw _ (List.mem_of_getElem? (i := 17) rfl))) (by decide) (t := .int) (t' := .int) (by decide) (by decide)))
  have f6 : Fld Z h4 a1 "com/example/trunkwright/trunkwright/design/Link" "size" "J" (.long (0 : Int64)) := Fs.other W4 (Or.inr (slot_ne (Or.inr (hw _ (List.mem_of_getElem? (i := 21) rfl))) (Or.inr (hw _ (List.mem_of_getElem? (i := 17) rfl))) (by decide) (t := .long) (t' := .int) (by decide) (by decide)))
  have f7 : Exa Z h4 a1 "com/example/trunkwright/trunkwright/design/Link" := Ea.wr W4
  have Fw4 : Fld Z h4 a1 "com/example/trunkwright/trunkwright/design/Link" "from" "I" (.int p2) := Ff.same W4
  have R8 : ∀ t, Steps p.tables e below (T4.setTop (mkF m 73 #[.val (.ref a1), .val (.int p2), .val (.int p3), .val (.long q4), .second] [(.int p3), (.ref a1)])) t → Steps p.tables e below (s₁.setTop (entryFrame m #[(.ref a1), (.int p2), (.int p3), (.long q4)] 5)) t := by
    intro t k
    refine R4 t ?_
    show Steps p.tables e below (T4.setTop (mkF m 71 #[.val (.ref a1), .val (.int p2), .val (.int p3), .val (.long q4), .second] [])) _
    refine XS.aloadN X4.here hx rfl (hb hby own_d1_71) rfl rfl ?_
    show Steps p.tables e below (T4.setTop (mkF m 72 #[.val (.ref a1), .val (.int p2), .val (.int p3), .val (.long q4), .second] [(.ref a1)])) _
    refine XS.iloadN X4.here hx rfl (hb hby own_d1_72) rfl ?_
    exact k
  obtain ⟨T9, h9, X9, e9, W9, st9⟩ := putF X4 hx hZ hown (host := "") (Or.inl (hw _ (List.mem_of_getElem? (i := 18) rfl))) Via.refl e4 f5 f7 (Or.inr ⟨(hw _ (List.mem_of_getElem? (i := 19) rfl)), rfl, hnm⟩) (hw _ (List.mem_of_getElem? (i := 3) rfl)) (ty := .int) (by decide) rfl rfl (g := (mkF m 73 #[.val (.ref a1), .val (.int p2), .val (.int p3), .val (.long q4), .second] [(.int p3), (.ref a1)])) rfl rfl (hb hby own_d1_73)
  have R9 : ∀ t, Steps p.tables e below (T9.setTop (mkF m 76 #[.val (.ref a1), .val (.int p2), .val (.int p3), .val (.long q4), .second] [])) t → Steps p.tables e below (s₁.setTop (entryFrame m #[(.ref a1), (.int p2), (.int p3), (.long q4)] 5)) t := fun t k => R8 t (st9 t k)
  have Z9 : n0 ≤ h9.size := Nat.le_trans Z4 (Keep.of_wr W9).1
  have K9 : Keep h0 h9 [a1] := K4.wr W9 (Or.inl (by simp))
  have N9 := Fr.snoc X9 N4 g_a1
  have f10 : Fld Z h9 a1 "com/example/trunkwright/trunkwright/design/Link" "size" "J" (.long (0 : Int64)) := f6.other W9 (Or.inr (slot_ne (Or.inr (hw _ (List.mem_of_getElem? (i := 21) rfl))) (Or.inr (hw _ (List.mem_of_getElem? (i := 19) rfl))) (by decide) (t := .long) (t' := .int) (by decide) (by decide)))
  have f11 : Exa Z h9 a1 "com/example/trunkwright/trunkwright/design/Link" := f7.wr W9
  have f12 : Fld Z h9 a1 "com/example/trunkwright/trunkwright/design/Link" "from" "I" (.int p2) := Fw4.other W9 (Or.inr (slot_ne (Or.inr (hw _ (List.mem_of_getElem? (i := 17) rfl))) (Or.inr (hw _ (List.mem_of_getElem? (i := 19) rfl))) (by decide) (t := .int) (t' := .int) (by decide) (by decide)))
  have Fw9 : Fld Z h9 a1 "com/example/trunkwright/trunkwright/design/Link" "to" "I" (.int p3) := f5.same W9
  have R13 : ∀ t, Steps p.tables e below (T9.setTop (mkF m 78 #[.val (.ref a1), .val (.int p2), .val (.int p3), .val (.long q4), .second] [(.long q4), (.ref a1)])) t → Steps p.tables e below (s₁.setTop (entryFrame m #[(.ref a1), (.int p2), (.int p3), (.long q4)] 5)) t := by
    intro t k
    refine R9 t ?_
    show Steps p.tables e below (T9.setTop (mkF m 76 #[.val (.ref a1), .val (.int p2), .val (.int p3), .val (.long q4), .second] [])) _
    refine XS.aloadN X9.here hx rfl (hb hby own_d1_76) rfl rfl ?_
    show Steps p.tables e below (T9.setTop (mkF m 77 #[.val (.ref a1), .val (.int p2), .val (.int p3), .val (.long q4), .second] [(.ref a1)])) _
    refine XS.lloadN X9.here hx rfl (hb hby own_d1_77) rfl ?_
    exact k
  obtain ⟨T14, h14, X14, e14, W14, st14⟩ := putF X9 hx hZ hown (host := "") (Or.inl (hw _ (List.mem_of_getElem? (i := 20) rfl))) Via.refl e9 f10 f11 (Or.inr ⟨(hw _ (List.mem_of_getElem? (i := 21) rfl)), rfl, hnm⟩) (hw _ (List.mem_of_getElem? (i := 3) rfl)) (ty := .long) (by decide) rfl rfl (g := (mkF m 78 #[.val (.ref a1), .val (.int p2), .val (.int p3), .val (.long q4), .second] [(.long q4), (.ref a1)])) rfl rfl (hb hby own_d1_78)
  have R14 : ∀ t, Steps p.tables e below (T14.setTop (mkF m 81 #[.val (.ref a1), .val (.int p2), .val (.int p3), .val (.long q4), .second] [])) t → Steps p.tables e below (s₁.setTop (entryFrame m #[(.ref a1), (.int p2), (.int p3), (.long q4)] 5)) t := fun t k => R13 t (st14 t k)
  have Z14 : n0 ≤ h14.size := Nat.le_trans Z9 (Keep.of_wr W14).1
  have K14 : Keep h0 h14 [a1] := K9.wr W14 (Or.inl (by simp))
  have N14 := Fr.snoc X14 N9 g_a1
  have f15 : Exa Z h14 a1 "com/example/trunkwright/trunkwright/design/Link" := f11.wr W14
  have f16 : Fld Z h14 a1 "com/example/trunkwright/trunkwright/design/Link" "from" "I" (.int p2) := f12.other W14 (Or.inr (slot_ne (Or.inr (hw _ (List.mem_of_getElem? (i := 17) rfl))) (Or.inr (hw _ (List.mem_of_getElem? (i := 21) rfl))) (by decide) (t := .int) (t' := .long) (by decide) (by decide)))
  have f17 : Fld Z h14 a1 "com/example/trunkwright/trunkwright/design/Link" "to" "I" (.int p3) := Fw9.other W14 (Or.inr (slot_ne (Or.inr (hw _ (List.mem_of_getElem? (i := 19) rfl))) (Or.inr (hw _ (List.mem_of_getElem? (i := 21) rfl))) (by decide) (t := .int) (t' := .long) (by decide) (by decide)))
  have Fw14 : Fld Z h14 a1 "com/example/trunkwright/trunkwright/design/Link" "size" "J" (.long q4) := f10.same W14
  obtain ⟨fs, hr, hrun, hended, hW, hsame⟩ := X14.leave (v := none) (fun _ => rfl)
  refine ⟨_, _, R14 _ ?_, hrun, hended, _, _, rfl, ?_, ⟨_, rfl⟩, hW, hsame.mono (by decide) (by decide)⟩
  · exact X14.returnOut hx Bd.returns (hb hby own_d1_81) hr
  · show Q_rmLI Z a1 p2 p3 q4 h0 n0 _ T14.heap _
    rw [e14]
    exact ⟨rfl, N14, K14, f15, f16, f17⟩
theorem own_pn2 : plainName "com/example/trunkwright/trunkwright/route/Arc" = true := by first | (simp [plainName, overriddenIn]; done) | decide +kernel
theorem own_ef_rmAI (m : MethodId) (x0 : Addr) (x1 : Int32) (x2 : Int32) : entryFrame m #[(.ref x0), (.int x1), (.int x2)] 3 = mkF m 0 #[.val (.ref x0), .val (.int x1), .val (.int x2)] [] := by first | (simp [entryFrame, mkF, argsToLocals, Value.category]; done) | rfl
theorem own_d5_0 : decode prog_74_method_1_code 0 = .ok (.aload_n 0, 1) := by decide +kernel
theorem own_d5_1 : decode prog_74_method_1_code 1 = .ok (.invokespecial 1, 3) := by decide +kernel
theorem own_d5_4 : decode prog_74_method_1_code 4 = .ok (.iload_n 1, 1) := by decide +kernel
theorem own_d5_5 : decode prog_74_method_1_code 5 = .ok (.ifCond .lt 7, 3) := by decide +kernel
theorem own_d5_8 : decode prog_74_method_1_code 8 = .ok (.iload_n 2, 1) := by decide +kernel
theorem own_d5_9 : decode prog_74_method_1_code 9 = .ok (.ifCond .ge 18, 3) := by decide +kernel
theorem own_d5_27 : decode prog_74_method_1_code 27 = .ok (.iload_n 1, 1) := by decide +kernel
theorem own_d5_28 : decode prog_74_method_1_code 28 = .ok (.iload_n 2, 1) := by decide +kernel
theorem own_d5_29 : decode prog_74_method_1_code 29 = .ok (.if_icmp .ne 17, 3) := by decide +kernel
theorem own_d5_46 : decode prog_74_method_1_code 46 = .ok (.aload_n 0, 1) := by decide +kernel
theorem own_d5_47 : decode prog_74_method_1_code 47 = .ok (.iload_n 1, 1) := by decide +kernel
theorem own_d5_48 : decode prog_74_method_1_code 48 = .ok (.putfield 19, 3) := by decide +kernel
theorem own_d5_51 : decode prog_74_method_1_code 51 = .ok (.aload_n 0, 1) := by decide +kernel
theorem own_d5_52 : decode prog_74_method_1_code 52 = .ok (.iload_n 2, 1) := by decide +kernel
theorem own_d5_53 : decode prog_74_method_1_code 53 = .ok (.putfield 25, 3) := by decide +kernel
theorem own_d5_56 : decode prog_74_method_1_code 56 = .ok (.return_, 1) := by decide +kernel
def Q_rmAI (Z : State) (a1 : Addr) (p2 p3 : Int32) (h0 : Heap) (n0 : Nat) (v : Option Value) (h : Heap) (L : List Loc) : Prop := v = none ∧ Fr n0 L ∧ Keep h0 h [a1] ∧ Exa Z h a1 "com/example/trunkwright/trunkwright/route/Arc" ∧ Fld Z h a1 "com/example/trunkwright/trunkwright/route/Arc" "from" "I" (.int p2) ∧ Fld Z h a1 "com/example/trunkwright/trunkwright/route/Arc" "to" "I" (.int p3)
set_option maxRecDepth 65536 in
set_option maxHeartbeats 40000000 in
theorem rmAI (l : Launch) (Z : State) (a0 : Array Value) (hw : ∀ d ∈ tables_1, d.before a0 Z = true) (ws : List Jvm.Cond) (a1 : Addr) (p2 p3 : Int32) (h0 : Heap) (n0 : Nat) (Z0 : n0 ≤ h0.size) (Ff : Fld Z h0 a1 "com/example/trunkwright/trunkwright/route/Arc" "from" "I" (.int (0 : Int32))) (Ft : Fld Z h0 a1 "com/example/trunkwright/trunkwright/route/Arc" "to" "I" (.int (0 : Int32))) (Ea : Exa Z h0 a1 "com/example/trunkwright/trunkwright/route/Arc") (g_a1 : n0 ≤ a1) (c2 : ¬ p2 < (0 : Int32)) (c3 : ¬ p3 < (0 : Int32)) (c23 : ¬ p2 = p3) :
    MetFree l (⟨"com/example/trunkwright/trunkwright/route/Arc", "<init>", "(II)V"⟩ : MethodName) (head1 (Jvm.Cond.code (⟨"com/example/trunkwright/trunkwright/route/Arc", "<init>", "(II)V"⟩ : MethodName) prog_74_method_1_code 3 none :: ws) ({ frames := 2, cells := 0, slots := 0, locals := 24 } : Room)) (fun a U => a = #[(.ref a1), (.int p2), (.int p3)] ∧ Z.Warmed39 U.vm ∧ U.heap = h0) (fun _ _ _ _ _ => True) (fun _ U o U' => ∃ v L, o = .returned v ∧ Q_rmAI Z a1 p2 p3 h0 n0 v U'.heap L ∧ FrameEnd U o U' L ({ frames := 2, cells := 0, slots := 0, locals := 24 } : Room).cells ({ frames := 2, cells := 0, slots := 0, locals := 24 } : Room).slots) := by
  refine MetFree.of_bodySF (plainFor_of_name own_pn2) hisR ?_
  intro p e s m args below meth c s₁ Bd hml0 hP hK
  obtain ⟨rfl, hZ, hh⟩ := hP
  have hx := Bd.exec
  have hby := Bd.bytes
  have hml : c.maxLocals = 3 := hml0
  have hown : s.vm.findClass "com/example/trunkwright/trunkwright/route/Arc" = some m.cls := findClass_of_methodNamed Bd.named
  have hnm := (name_of_methodNamed Bd.named Bd.method).1
  have X0 : Stand p l e ({ frames := 2, cells := 0, slots := 0, locals := 24 } : Room) s m #[(.ref a1), (.int p2), (.int p3)] below meth c s₁ [] 0 0 := Stand.of_body Bd
  have e0 : s₁.heap = h0 := by rw [← hh, Bd.state]; rfl
  have N0 := Fr.nil n0
  have R0 : ∀ t, Steps p.tables e below (s₁.setTop (mkF m 0 #[.val (.ref a1), .val (.int p2), .val (.int p3)] [])) t → Steps p.tables e below (s₁.setTop (entryFrame m #[(.ref a1), (.int p2), (.int p3)] 3)) t := fun t k => castTop (own_ef_rmAI m a1 p2 p3) k
  have R1 : ∀ t, Steps p.tables e below (s₁.setTop (mkF m 1 #[.val (.ref a1), .val (.int p2), .val (.int p3)] [(.ref a1)])) t → Steps p.tables e below (s₁.setTop (entryFrame m #[(.ref a1), (.int p2), (.int p3)] 3)) t := by
    intro t k
    refine R0 t ?_
    show Steps p.tables e below (s₁.setTop (mkF m 0 #[.val (.ref a1), .val (.int p2), .val (.int p3)] [])) _
    refine XS.aloadN X0.here hx rfl (hb hby own_d5_0) rfl rfl ?_
    exact k
  obtain ⟨_, _, ⟨T2, L2, k2, n2⟩, -, X2, ⟨Lc2, hQ2, l2, y2, z2⟩, st2⟩ := X0.specialBack hx (y := (⟨"java/lang/Record", "<init>", "()V"⟩ : MethodName)) rfl hown (mvT hZ (hw _ (List.mem_of_getElem? (i := 33) rfl))) (mvT hZ (hw _ (List.mem_of_getElem? (i := 9) rfl))) (mvT hZ (hw _ (List.mem_of_getElem? (i := 12) rfl))) (by decide) (backOf (W := 0) (rmR l Z a0 hw [] a1  h0 n0 Z0 ) hZ (hw _ (List.mem_of_getElem? (i := 12) rfl)) (hw _ (List.mem_of_getElem? (i := 11) rfl)) (by decide) (by decide)) (g := (mkF m 1 #[.val (.ref a1), .val (.int p2), .val (.int p3)] [(.ref a1)])) rfl (by rw [hml]; rfl) (Steps.refl _) (a := a1) (argsL := []) (rest := []) (lenOf own_pd1 rfl) rfl (by show 2 * 0 + _ ≤ _; exact Nat.le_of_eq rfl) (hb hby own_d5_1) (fun _ _ => ⟨rfl, e0, (by decide : 0 + 0 ≤ _), (by decide : 0 + 0 ≤ _)⟩)
  dsimp only [Pt.U, Pt.locs, Pt.cells, Pt.slots] at X2 l2 y2 z2 st2 hQ2
  subst l2 y2 z2
  obtain ⟨rfl, Nq2, eq2⟩ := hQ2
  have N2 := Fr.app N0 Nq2
  have R2 : ∀ t, Steps p.tables e below (T2.setTop (mkF m 4 #[.val (.ref a1), .val (.int p2), .val (.int p3)] [])) t → Steps p.tables e below (s₁.setTop (entryFrame m #[(.ref a1), (.int p2), (.int p3)] 3)) t := fun t k => R1 t (st2.trans k)
  have R3 : ∀ t, Steps p.tables e below (T2.setTop (mkF m 48 #[.val (.ref a1), .val (.int p2), .val (.int p3)] [(.int p2), (.ref a1)])) t → Steps p.tables e below (s₁.setTop (entryFrame m #[(.ref a1), (.int p2), (.int p3)] 3)) t := by
    intro t k
    refine R2 t ?_
    show Steps p.tables e below (T2.setTop (mkF m 4 #[.val (.ref a1), .val (.int p2), .val (.int p3)] [])) _
    refine XS.iloadN X2.here hx rfl (hb hby own_d5_4) rfl ?_
    show Steps p.tables e below (T2.setTop (mkF m 5 #[.val (.ref a1), .val (.int p2), .val (.int p3)] [(.int p2)])) _
    refine XS.ifNo X2.here hx rfl (hb hby own_d5_5) rfl ((if0 _ _).trans (flt c2).1) ?_
    show Steps p.tables e below (T2.setTop (mkF m 8 #[.val (.ref a1), .val (.int p2), .val (.int p3)] [])) _
    refine XS.iloadN X2.here hx rfl (hb hby own_d5_8) rfl ?_
    show Steps p.tables e below (T2.setTop (mkF m 9 #[.val (.ref a1), .val (.int p2), .val (.int p3)] [(.int p3)])) _
    refine XS.ifYes X2.here hx rfl (pc0 := 9) (pc' := 27) rfl (hb hby own_d5_9) rfl ((if0 _ _).trans (flt c3).2.1) (by decide) (by decide) ?_
    show Steps p.tables e below (T2.setTop (mkF m 27 #[.val (.ref a1), .val (.int p2), .val (.int p3)] [])) _
    refine XS.iloadN X2.here hx rfl (hb hby own_d5_27) rfl ?_
    show Steps p.tables e below (T2.setTop (mkF m 28 #[.val (.ref a1), .val (.int p2), .val (.int p3)] [(.int p2)])) _
    refine XS.iloadN X2.here hx rfl (hb hby own_d5_28) rfl ?_
    show Steps p.tables e below (T2.setTop (mkF m 29 #[.val (.ref a1), .val (.int p2), .val (.int p3)] [(.int p3), (.int p2)])) _
    refine XS.icmpYes X2.here hx rfl (pc0 := 29) (pc' := 46) rfl (hb hby own_d5_29) rfl (feq c23).2 (by decide) (by decide) ?_
    show Steps p.tables e below (T2.setTop (mkF m 46 #[.val (.ref a1), .val (.int p2), .val (.int p3)] [])) _
    refine XS.aloadN X2.here hx rfl (hb hby own_d5_46) rfl rfl ?_
    show Steps p.tables e below (T2.setTop (mkF m 47 #[.val (.ref a1), .val (.int p2), .val (.int p3)] [(.ref a1)])) _
    refine XS.iloadN X2.here hx rfl (hb hby own_d5_47) rfl ?_
    exact k
  obtain ⟨T4, h4, X4, e4, W4, st4⟩ := putF X2 hx hZ hown (host := "") (Or.inl (hw _ (List.mem_of_getElem? (i := 34) rfl))) Via.refl eq2 Ff Ea (Or.inr ⟨(hw _ (List.mem_of_getElem? (i := 35) rfl)), rfl, hnm⟩) (hw _ (List.mem_of_getElem? (i := 28) rfl)) (ty := .int) (by decide) rfl rfl (g := (mkF m 48 #[.val (.ref a1), .val (.int p2), .val (.int p3)] [(.int p2), (.ref a1)])) rfl rfl (hb hby own_d5_48)
  have R4 : ∀ t, Steps p.tables e below (T4.setTop (mkF m 51 #[.val (.ref a1), .val (.int p2), .val (.int p3)] [])) t → Steps p.tables e below (s₁.setTop (entryFrame m #[(.ref a1), (.int p2), (.int p3)] 3)) t := fun t k => R3 t (st4 t k)
  have Z4 : n0 ≤ h4.size := Nat.le_trans Z0 (Keep.of_wr W4).1
  have K4 : Keep h0 h4 [a1] := (Keep.refl h0 [a1]).wr W4 (Or.inl (by simp))
  have N4 := Fr.snoc X4 N2 g_a1
  have f5 : Fld Z h4 a1 "com/example/trunkwright/trunkwright/route/Arc" "to" "I" (.int (0 : Int32)) := Ft.other W4 (Or.inr (slot_ne (Or.inr (hw _ (List.mem_of_getElem? (i := 37) rfl))) (Or.inr (hw _ (List.mem_of_getElem? (i := 35) rfl))) (by decide) (t := .int) (t' := .int) (by decide) (by decide)))
  have f6 : Exa Z h4 a1 "com/example/trunkwright/trunkwright/route/Arc" := Ea.wr W4
  have Fw4 : Fld Z h4 a1 "com/example/trunkwright/trunkwright/route/Arc" "from" "I" (.int p2) := Ff.same W4
  have R7 : ∀ t, Steps p.tables e below (T4.setTop (mkF m 53 #[.val (.ref a1), .val (.int p2), .val (.int p3)] [(.int p3), (.ref a1)])) t → Steps p.tables e below (s₁.setTop (entryFrame m #[(.ref a1), (.int p2), (.int p3)] 3)) t := by
    intro t k
    refine R4 t ?_
    show Steps p.tables e below (T4.setTop (mkF m 51 #[.val (.ref a1), .val (.int p2), .val (.int p3)] [])) _
    refine XS.aloadN X4.here hx rfl (hb hby own_d5_51) rfl rfl ?_
    show Steps p.tables e below (T4.setTop (mkF m 52 #[.val (.ref a1), .val (.int p2), .val (.int p3)] [(.ref a1)])) _
    refine XS.iloadN X4.here hx rfl (hb hby own_d5_52) rfl ?_
    exact k
  obtain ⟨T8, h8, X8, e8, W8, st8⟩ := putF X4 hx hZ hown (host := "") (Or.inl (hw _ (List.mem_of_getElem? (i := 36) rfl))) Via.refl e4 f5 f6 (Or.inr ⟨(hw _ (List.mem_of_getElem? (i := 37) rfl)), rfl, hnm⟩) (hw _ (List.mem_of_getElem? (i := 28) rfl)) (ty := .int) (by decide) rfl rfl (g := (mkF m 53 #[.val (.ref a1), .val (.int p2), .val (.int p3)] [(.int p3), (.ref a1)])) rfl rfl (hb hby own_d5_53)
  have R8 : ∀ t, Steps p.tables e below (T8.setTop (mkF m 56 #[.val (.ref a1), .val (.int p2), .val (.int p3)] [])) t → Steps p.tables e below (s₁.setTop (entryFrame m #[(.ref a1), (.int p2), (.int p3)] 3)) t := fun t k => R7 t (st8 t k)
  have Z8 : n0 ≤ h8.size := Nat.le_trans Z4 (Keep.of_wr W8).1
  have K8 : Keep h0 h8 [a1] := K4.wr W8 (Or.inl (by simp))
  have N8 := Fr.snoc X8 N4 g_a1
  have f9 : Exa Z h8 a1 "com/example/trunkwright/trunkwright/route/Arc" := f6.wr W8
  have f10 : Fld Z h8 a1 "com/example/trunkwright/trunkwright/route/Arc" "from" "I" (.int p2) := Fw4.other W8 (Or.inr (slot_ne (Or.inr (hw _ (List.mem_of_getElem? (i := 35) rfl))) (Or.inr (hw _ (List.mem_of_getElem? (i := 37) rfl))) (by decide) (t := .int) (t' := .int) (by decide) (by decide)))
  have Fw8 : Fld Z h8 a1 "com/example/trunkwright/trunkwright/route/Arc" "to" "I" (.int p3) := f5.same W8
  obtain ⟨fs, hr, hrun, hended, hW, hsame⟩ := X8.leave (v := none) (fun _ => rfl)
  refine ⟨_, _, R8 _ ?_, hrun, hended, _, _, rfl, ?_, ⟨_, rfl⟩, hW, hsame.mono (by decide) (by decide)⟩
  · exact X8.returnOut hx Bd.returns (hb hby own_d5_56) hr
  · show Q_rmAI Z a1 p2 p3 h0 n0 _ T8.heap _
    rw [e8]
    exact ⟨rfl, N8, K8, f9, f10, Fw8⟩
theorem own_ef_rmAF (m : MethodId) (x0 : Addr) : entryFrame m #[(.ref x0)] 1 = mkF m 0 #[.val (.ref x0)] [] := by first | (simp [entryFrame, mkF, argsToLocals, Value.category]; done) | rfl
theorem own_d6_0 : decode prog_74_method_6_code 0 = .ok (.aload_n 0, 1) := by decide +kernel
theorem own_d6_1 : decode prog_74_method_6_code 1 = .ok (.getfield 19, 3) := by decide +kernel
theorem own_d6_4 : decode prog_74_method_6_code 4 = .ok (.ireturn, 1) := by decide +kernel
def Q_rmAF (Z : State) (a1 : Addr) (p2 : Int32) (h0 : Heap) (n0 : Nat) (v : Option Value) (h : Heap) (L : List Loc) : Prop := v = some (.int p2) ∧ Fr n0 L ∧ h = h0
set_option maxRecDepth 65536 in
set_option maxHeartbeats 40000000 in
theorem rmAF (l : Launch) (Z : State) (a0 : Array Value) (hw : ∀ d ∈ tables_1, d.before a0 Z = true) (ws : List Jvm.Cond) (a1 : Addr) (p2 : Int32) (h0 : Heap) (n0 : Nat) (Z0 : n0 ≤ h0.size) (Ff : Fld Z h0 a1 "com/example/trunkwright/trunkwright/route/Arc" "from" "I" (.int p2)) :
    MetFree l (⟨"com/example/trunkwright/trunkwright/route/Arc", "from", "()I"⟩ : MethodName) (head1 (Jvm.Cond.code (⟨"com/example/trunkwright/trunkwright/route/Arc", "from", "()I"⟩ : MethodName) prog_74_method_6_code 1 (some .int) :: ws) ({ frames := 0, cells := 0, slots := 0, locals := 0 } : Room)) (fun a U => a = #[(.ref a1)] ∧ Z.Warmed39 U.vm ∧ U.heap = h0) (fun _ _ _ _ _ => True) (fun _ U o U' => ∃ v L, o = .returned v ∧ Q_rmAF Z a1 p2 h0 n0 v U'.heap L ∧ FrameEnd U o U' L ({ frames := 0, cells := 0, slots := 0, locals := 0 } : Room).cells ({ frames := 0, cells := 0, slots := 0, locals := 0 } : Room).slots) := by
  refine MetFree.of_bodySF (plainFor_of_name own_pn2) hisR ?_
  intro p e s m args below meth c s₁ Bd hml0 hP hK
  obtain ⟨rfl, hZ, hh⟩ := hP
  have hx := Bd.exec
  have hby := Bd.bytes
  have hml : c.maxLocals = 1 := hml0
  have hown : s.vm.findClass "com/example/trunkwright/trunkwright/route/Arc" = some m.cls := findClass_of_methodNamed Bd.named
  have hnm := (name_of_methodNamed Bd.named Bd.method).1
  have X0 : Stand p l e ({ frames := 0, cells := 0, slots := 0, locals := 0 } : Room) s m #[(.ref a1)] below meth c s₁ [] 0 0 := Stand.of_body Bd
  have e0 : s₁.heap = h0 := by rw [← hh, Bd.state]; rfl
  have N0 := Fr.nil n0
  have R0 : ∀ t, Steps p.tables e below (s₁.setTop (mkF m 0 #[.val (.ref a1)] [])) t → Steps p.tables e below (s₁.setTop (entryFrame m #[(.ref a1)] 1)) t := fun t k => castTop (own_ef_rmAF m a1) k
  have R1 : ∀ t, Steps p.tables e below (s₁.setTop (mkF m 1 #[.val (.ref a1)] [(.ref a1)])) t → Steps p.tables e below (s₁.setTop (entryFrame m #[(.ref a1)] 1)) t := by
    intro t k
    refine R0 t ?_
    show Steps p.tables e below (s₁.setTop (mkF m 0 #[.val (.ref a1)] [])) _
    refine XS.aloadN X0.here hx rfl (hb hby own_d6_0) rfl rfl ?_
    exact k
  obtain ⟨T2, X2, e2, st2⟩ := getF X0 hx hZ hown (host := "") (Or.inl (hw _ (List.mem_of_getElem? (i := 34) rfl))) Via.refl e0 Ff (g := (mkF m 1 #[.val (.ref a1)] [(.ref a1)])) rfl rfl (hb hby own_d6_1)
  have R2 : ∀ t, Steps p.tables e below (T2.setTop (mkF m 4 #[.val (.ref a1)] [(.int p2)])) t → Steps p.tables e below (s₁.setTop (entryFrame m #[(.ref a1)] 1)) t := fun t k => R1 t (st2 t k)
  obtain ⟨fs, hr, hrun, hended, hW, hsame⟩ := X2.leave (v := some (.int p2)) (fun h => by rw [Bd.returns] at h; cases h)
  refine ⟨_, _, R2 _ ?_, hrun, hended, _, _, rfl, ?_, ⟨_, rfl⟩, hW, hsame.mono (by decide) (by decide)⟩
  · exact retOut X2 hx Bd.returns rfl (Or.inl ⟨rfl, Or.inl rfl, _, rfl⟩) (hb hby own_d6_4) hr
  · show Q_rmAF Z a1 p2 h0 n0 _ T2.heap _
    rw [e2]
    exact ⟨rfl, N0, rfl⟩
theorem own_ef_rmAT (m : MethodId) (x0 : Addr) : entryFrame m #[(.ref x0)] 1 = mkF m 0 #[.val (.ref x0)] [] := by first | (simp [entryFrame, mkF, argsToLocals, Value.category]; done) | rfl
theorem own_d7_0 : decode prog_74_method_7_code 0 = .ok (.aload_n 0, 1) := by decide +kernel
theorem own_d7_1 : decode prog_74_method_7_code 1 = .ok (.getfield 25, 3) := by decide +kernel
theorem own_d7_4 : decode prog_74_method_7_code 4 = .ok (.ireturn, 1) := by decide +kernel
def Q_rmAT (Z : State) (a1 : Addr) (p2 : Int32) (h0 : Heap) (n0 : Nat) (v : Option Value) (h : Heap) (L : List Loc) : Prop := v = some (.int p2) ∧ Fr n0 L ∧ h = h0
set_option maxRecDepth 65536 in
set_option maxHeartbeats 40000000 in
theorem rmAT (l : Launch) (Z : State) (a0 : Array Value) (hw : ∀ d ∈ tables_1, d.before a0 Z = true) (ws : List Jvm.Cond) (a1 : Addr) (p2 : Int32) (h0 : Heap) (n0 : Nat) (Z0 : n0 ≤ h0.size) (Ff : Fld Z h0 a1 "com/example/trunkwright/trunkwright/route/Arc" "to" "I" (.int p2)) :
    MetFree l (⟨"com/example/trunkwright/trunkwright/route/Arc", "to", "()I"⟩ : MethodName) (head1 (Jvm.Cond.code (⟨"com/example/trunkwright/trunkwright/route/Arc", "to", "()I"⟩ : MethodName) prog_74_method_7_code 1 (some .int) :: ws) ({ frames := 0, cells := 0, slots := 0, locals := 0 } : Room)) (fun a U => a = #[(.ref a1)] ∧ Z.Warmed39 U.vm ∧ U.heap = h0) (fun _ _ _ _ _ => True) (fun _ U o U' => ∃ v L, o = .returned v ∧ Q_rmAT Z a1 p2 h0 n0 v U'.heap L ∧ FrameEnd U o U' L ({ frames := 0, cells := 0, slots := 0, locals := 0 } : Room).cells ({ frames := 0, cells := 0, slots := 0, locals := 0 } : Room).slots) := by
  refine MetFree.of_bodySF (plainFor_of_name own_pn2) hisR ?_
  intro p e s m args below meth c s₁ Bd hml0 hP hK
  obtain ⟨rfl, hZ, hh⟩ := hP
  have hx := Bd.exec
  have hby := Bd.bytes
  have hml : c.maxLocals = 1 := hml0
  have hown : s.vm.findClass "com/example/trunkwright/trunkwright/route/Arc" = some m.cls := findClass_of_methodNamed Bd.named
  have hnm := (name_of_methodNamed Bd.named Bd.method).1
  have X0 : Stand p l e ({ frames := 0, cells := 0, slots := 0, locals := 0 } : Room) s m #[(.ref a1)] below meth c s₁ [] 0 0 := Stand.of_body Bd
  have e0 : s₁.heap = h0 := by rw [← hh, Bd.state]; rfl
  have N0 := Fr.nil n0
  have R0 : ∀ t, Steps p.tables e below (s₁.setTop (mkF m 0 #[.val (.ref a1)] [])) t → Steps p.tables e below (s₁.setTop (entryFrame m #[(.ref a1)] 1)) t := fun t k => castTop (own_ef_rmAT m a1) k
  have R1 : ∀ t, Steps p.tables e below (s₁.setTop (mkF m 1 #[.val (.ref a1)] [(.ref a1)])) t → Steps p.tables e below (s₁.setTop (entryFrame m #[(.ref a1)] 1)) t := by
    intro t k
    refine R0 t ?_
    show Steps p.tables e below (s₁.setTop (mkF m 0 #[.val (.ref a1)] [])) _
    refine XS.aloadN X0.here hx rfl (hb hby own_d7_0) rfl rfl ?_
    exact k
  obtain ⟨T2, X2, e2, st2⟩ := getF X0 hx hZ hown (host := "") (Or.inl (hw _ (List.mem_of_getElem? (i := 36) rfl))) Via.refl e0 Ff (g := (mkF m 1 #[.val (.ref a1)] [(.ref a1)])) rfl rfl (hb hby own_d7_1)
  have R2 : ∀ t, Steps p.tables e below (T2.setTop (mkF m 4 #[.val (.ref a1)] [(.int p2)])) t → Steps p.tables e below (s₁.setTop (entryFrame m #[(.ref a1)] 1)) t := fun t k => R1 t (st2 t k)
  obtain ⟨fs, hr, hrun, hended, hW, hsame⟩ := X2.leave (v := some (.int p2)) (fun h => by rw [Bd.returns] at h; cases h)
  refine ⟨_, _, R2 _ ?_, hrun, hended, _, _, rfl, ?_, ⟨_, rfl⟩, hW, hsame.mono (by decide) (by decide)⟩
  · exact retOut X2 hx Bd.returns rfl (Or.inl ⟨rfl, Or.inl rfl, _, rfl⟩) (hb hby own_d7_4) hr
  · show Q_rmAT Z a1 p2 h0 n0 _ T2.heap _
    rw [e2]
    exact ⟨rfl, N0, rfl⟩
theorem own_ef_rmLA (m : MethodId) (x0 : Addr) : entryFrame m #[(.ref x0)] 1 = mkF m 0 #[.val (.ref x0)] [] := by first | (simp [entryFrame, mkF, argsToLocals, Value.category]; done) | rfl
theorem own_d4_0 : decode prog_8_method_2_code 0 = .ok (.new 35, 3) := by decide +kernel
theorem own_d4_3 : decode prog_8_method_2_code 3 = .ok (.dup, 1) := by decide +kernel
theorem own_d4_4 : decode prog_8_method_2_code 4 = .ok (.aload_n 0, 1) := by decide +kernel
theorem own_d4_5 : decode prog_8_method_2_code 5 = .ok (.getfield 22, 3) := by decide +kernel
theorem own_d4_8 : decode prog_8_method_2_code 8 = .ok (.aload_n 0, 1) := by decide +kernel
theorem own_d4_9 : decode prog_8_method_2_code 9 = .ok (.getfield 28, 3) := by decide +kernel
theorem own_d4_12 : decode prog_8_method_2_code 12 = .ok (.invokespecial 37, 3) := by decide +kernel
theorem own_pd3 : parseMethodDescriptor "(II)V" = some ⟨[.int, .int], none⟩ := by decide +kernel
theorem own_d4_15 : decode prog_8_method_2_code 15 = .ok (.areturn, 1) := by decide +kernel
def Q_rmLA (Z : State) (a1 : Addr) (p2 p3 : Int32) (h0 : Heap) (n0 : Nat) (v : Option Value) (h : Heap) (L : List Loc) : Prop := ∃ b : Addr, v = some (.ref b) ∧ Fr n0 L ∧ Keep h0 h [] ∧ Exa Z h b "com/example/trunkwright/trunkwright/route/Arc" ∧ Fld Z h b "com/example/trunkwright/trunkwright/route/Arc" "from" "I" (.int p2) ∧ Fld Z h b "com/example/trunkwright/trunkwright/route/Arc" "to" "I" (.int p3)
set_option maxRecDepth 65536 in
set_option maxHeartbeats 40000000 in
theorem rmLA (l : Launch) (Z : State) (a0 : Array Value) (hw : ∀ d ∈ tables_1, d.before a0 Z = true) (ws : List Jvm.Cond) (a1 : Addr) (p2 p3 : Int32) (h0 : Heap) (n0 : Nat) (Z0 : n0 ≤ h0.size) (Ff : Fld Z h0 a1 "com/example/trunkwright/trunkwright/design/Link" "from" "I" (.int p2)) (Ft : Fld Z h0 a1 "com/example/trunkwright/trunkwright/design/Link" "to" "I" (.int p3)) (c2 : ¬ p2 < (0 : Int32)) (c3 : ¬ p3 < (0 : Int32)) (c23 : ¬ p2 = p3) :
    MetFree l (⟨"com/example/trunkwright/trunkwright/design/Link", "arc", "()Lcom/example/trunkwright/trunkwright/route/Arc;"⟩ : MethodName) (head1 (Jvm.Cond.code (⟨"com/example/trunkwright/trunkwright/design/Link", "arc", "()Lcom/example/trunkwright/trunkwright/route/Arc;"⟩ : MethodName) prog_8_method_2_code 1 (some (.object "com/example/trunkwright/trunkwright/route/Arc")) :: ws) ({ frames := 3, cells := 1, slots := 2, locals := 39 } : Room)) (fun a U => a = #[(.ref a1)] ∧ Z.Warmed39 U.vm ∧ U.heap = h0) (fun _ _ _ _ _ => True) (fun _ U o U' => ∃ v L, o = .returned v ∧ Q_rmLA Z a1 p2 p3 h0 n0 v U'.heap L ∧ FrameEnd U o U' L ({ frames := 3, cells := 1, slots := 2, locals := 39 } : Room).cells ({ frames := 3, cells := 1, slots := 2, locals := 39 } : Room).slots) := by
  refine MetFree.of_bodySF (plainFor_of_name own_pn1) hisR ?_
  intro p e s m args below meth c s₁ Bd hml0 hP hK
  obtain ⟨rfl, hZ, hh⟩ := hP
  have hx := Bd.exec
  have hby := Bd.bytes
  have hml : c.maxLocals = 1 := hml0
  have hown : s.vm.findClass "com/example/trunkwright/trunkwright/design/Link" = some m.cls := findClass_of_methodNamed Bd.named
  have hnm := (name_of_methodNamed Bd.named Bd.method).1
  have X0 : Stand p l e ({ frames := 3, cells := 1, slots := 2, locals := 39 } : Room) s m #[(.ref a1)] below meth c s₁ [] 0 0 := Stand.of_body Bd
  have e0 : s₁.heap = h0 := by rw [← hh, Bd.state]; rfl
  have N0 := Fr.nil n0
  have R0 : ∀ t, Steps p.tables e below (s₁.setTop (mkF m 0 #[.val (.ref a1)] [])) t → Steps p.tables e below (s₁.setTop (entryFrame m #[(.ref a1)] 1)) t := fun t k => castTop (own_ef_rmLA m a1) k
  obtain ⟨T1, h1, X1, e1, E1, A1, D1, -, st1⟩ := newO X0 hx hZ hown (hw _ (List.mem_of_getElem? (i := 27) rfl)) (hw _ (List.mem_of_getElem? (i := 28) rfl)) (hw _ (List.mem_of_getElem? (i := 29) rfl)) e0 (g := (mkF m 0 #[.val (.ref a1)] [])) rfl (hb hby own_d4_0) (by decide) (by decide)
  obtain ⟨b1, g1⟩ : ∃ z, z = h0.size := ⟨_, rfl⟩
  rw [← g1] at A1 D1 st1
  have R1 : ∀ t, Steps p.tables e below (T1.setTop (mkF m 3 #[.val (.ref a1)] [(.ref b1)])) t → Steps p.tables e below (s₁.setTop (entryFrame m #[(.ref a1)] 1)) t := fun t k => R0 t (st1 t k)
  have ne_a1_b1 : a1 ≠ b1 := Nat.ne_of_lt (Nat.lt_of_lt_of_le Ff.lt (Nat.le_of_eq g1.symm))
  have g_b1 : n0 ≤ b1 := Nat.le_trans Z0 (Nat.le_of_eq g1.symm)
  have sz_b1 : h0.size ≤ b1 := Nat.le_trans (Keep.refl h0 []).1 (Nat.le_of_eq g1.symm)
  have Z1 : n0 ≤ h1.size := Nat.le_trans Z0 E1.1
  have K1 : Keep h0 h1 [] := (Keep.refl h0 []).ext E1
  have f2 : Fld Z h1 a1 "com/example/trunkwright/trunkwright/design/Link" "from" "I" (.int p2) := Ff.ext E1
  have f3 : Fld Z h1 a1 "com/example/trunkwright/trunkwright/design/Link" "to" "I" (.int p3) := Ft.ext E1
  have F1_35 : Fld Z h1 b1 "com/example/trunkwright/trunkwright/route/Arc" "from" "I" (.int (0 : Int32)) := D1 (Or.inr (hw _ (List.mem_of_getElem? (i := 35) rfl))) (ty := .int) (by decide)
  have F1_37 : Fld Z h1 b1 "com/example/trunkwright/trunkwright/route/Arc" "to" "I" (.int (0 : Int32)) := D1 (Or.inr (hw _ (List.mem_of_getElem? (i := 37) rfl))) (ty := .int) (by decide)
  have R4 : ∀ t, Steps p.tables e below (T1.setTop (mkF m 5 #[.val (.ref a1)] [(.ref a1), (.ref b1), (.ref b1)])) t → Steps p.tables e below (s₁.setTop (entryFrame m #[(.ref a1)] 1)) t := by
    intro t k
    refine R1 t ?_
    show Steps p.tables e below (T1.setTop (mkF m 3 #[.val (.ref a1)] [(.ref b1)])) _
    refine XS.dup X1.here hx rfl (hb hby own_d4_3) rfl rfl ?_
    show Steps p.tables e below (T1.setTop (mkF m 4 #[.val (.ref a1)] [(.ref b1), (.ref b1)])) _
    refine XS.aloadN X1.here hx rfl (hb hby own_d4_4) rfl rfl ?_
    exact k
  obtain ⟨T5, X5, e5, st5⟩ := getF X1 hx hZ hown (host := "") (Or.inl (hw _ (List.mem_of_getElem? (i := 16) rfl))) Via.refl e1 f2 (g := (mkF m 5 #[.val (.ref a1)] [(.ref a1), (.ref b1), (.ref b1)])) rfl rfl (hb hby own_d4_5)
  have R5 : ∀ t, Steps p.tables e below (T5.setTop (mkF m 8 #[.val (.ref a1)] [(.int p2), (.ref b1), (.ref b1)])) t → Steps p.tables e below (s₁.setTop (entryFrame m #[(.ref a1)] 1)) t := fun t k => R4 t (st5 t k)
  have R6 : ∀ t, Steps p.tables e below (T5.setTop (mkF m 9 #[.val (.ref a1)] [(.ref a1), (.int p2), (.ref b1), (.ref b1)])) t → Steps p.tables e below (s₁.setTop (entryFrame m #[(.ref a1)] 1)) t := by
    intro t k
    refine R5 t ?_
    show Steps p.tables e below (T5.setTop (mkF m 8 #[.val (.ref a1)] [(.int p2), (.ref b1), (.ref b1)])) _
    refine XS.aloadN X5.here hx rfl (hb hby own_d4_8) rfl rfl ?_
    exact k
  obtain ⟨T7, X7, e7, st7⟩ := getF X5 hx hZ hown (host := "") (Or.inl (hw _ (List.mem_of_getElem? (i := 18) rfl))) Via.refl e5 f3 (g := (mkF m 9 #[.val (.ref a1)] [(.ref a1), (.int p2), (.ref b1), (.ref b1)])) rfl rfl (hb hby own_d4_9)
  have R7 : ∀ t, Steps p.tables e below (T7.setTop (mkF m 12 #[.val (.ref a1)] [(.int p3), (.int p2), (.ref b1), (.ref b1)])) t → Steps p.tables e below (s₁.setTop (entryFrame m #[(.ref a1)] 1)) t := fun t k => R6 t (st7 t k)
  obtain ⟨_, _, ⟨T8, L8, k8, n8⟩, -, X8, ⟨Lc8, hQ8, l8, y8, z8⟩, st8⟩ := X7.specialBack hx (y := (⟨"com/example/trunkwright/trunkwright/route/Arc", "<init>", "(II)V"⟩ : MethodName)) rfl hown (mvT hZ (hw _ (List.mem_of_getElem? (i := 30) rfl))) (mvT hZ (hw _ (List.mem_of_getElem? (i := 31) rfl))) (mvT hZ (hw _ (List.mem_of_getElem? (i := 32) rfl))) (by decide) (backOf (W := 1) (rmAI l Z a0 hw [] b1 p2 p3  h1 n0 Z1 F1_35 F1_37 A1 g_b1 c2 c3 c23) hZ (hw _ (List.mem_of_getElem? (i := 32) rfl)) (hw _ (List.mem_of_getElem? (i := 29) rfl)) (by decide) (by decide)) (g := (mkF m 12 #[.val (.ref a1)] [(.int p3), (.int p2), (.ref b1), (.ref b1)])) rfl (by rw [hml]; rfl) (Steps.refl _) (a := b1) (argsL := [(.int p2), (.int p3)]) (rest := [(.ref b1)]) (lenOf own_pd3 rfl) rfl (by show 2 * 0 + _ ≤ _; exact Nat.le_of_eq rfl) (hb hby own_d4_12) (fun _ _ => ⟨rfl, e7, (by decide : 1 + 0 ≤ _), (by decide : 2 + 0 ≤ _)⟩)
  dsimp only [Pt.U, Pt.locs, Pt.cells, Pt.slots] at X8 l8 y8 z8 st8 hQ8
  subst l8 y8 z8
  obtain ⟨rfl, Nq8, Kc8, Ec8, Fc8, Fd8⟩ := hQ8
  have N8 := Fr.app N0 Nq8
  have R8 : ∀ t, Steps p.tables e below (T8.setTop (mkF m 15 #[.val (.ref a1)] [(.ref b1)])) t → Steps p.tables e below (s₁.setTop (entryFrame m #[(.ref a1)] 1)) t := fun t k => R7 t (st8.trans k)
  have Z8 : n0 ≤ T8.heap.size := Nat.le_trans Z1 Kc8.1
  have K8 : Keep h0 T8.heap [] := K1.trans Kc8 (allS (Or.inr sz_b1) all0)
  have f9 : Fld Z T8.heap a1 "com/example/trunkwright/trunkwright/design/Link" "from" "I" (.int p2) := f2.keep Kc8 (ninS ne_a1_b1 nin0)
  have f10 : Fld Z T8.heap a1 "com/example/trunkwright/trunkwright/design/Link" "to" "I" (.int p3) := f3.keep Kc8 (ninS ne_a1_b1 nin0)
  have f11 : Exa Z T8.heap b1 "com/example/trunkwright/trunkwright/route/Arc" := A1.keep Kc8
  obtain ⟨fs, hr, hrun, hended, hW, hsame⟩ := X8.leave (v := some (.ref b1)) (fun h => by rw [Bd.returns] at h; cases h)
  refine ⟨_, _, R8 _ ?_, hrun, hended, _, _, rfl, ?_, ⟨_, rfl⟩, hW, hsame.mono (by decide) (by decide)⟩
  · exact retOut X8 hx Bd.returns rfl (Or.inr (Or.inr (Or.inr (Or.inr ⟨rfl, rfl, rfl⟩)))) (hb hby own_d4_15) hr
  · show Q_rmLA Z a1 p2 p3 h0 n0 _ T8.heap _
    exact ⟨b1, rfl, N8, K8, Ec8, Fc8, Fd8⟩
theorem own_pn3 : plainName "com/example/trunkwright/trunkwright/design/LinkArcPinLaw" = true := by first | (simp [plainName, overriddenIn]; done) | decide +kernel
theorem own_ef_rm0 (m : MethodId) (x0 : Int32) (x1 : Int32) (x2 : Int64) : entryFrame m #[(.int x0), (.int x1), (.long x2)] maxLocals = mkF m 0 #[.val (.int x0), .val (.int x1), .val (.long x2), .second, .unset, .unset, .unset, .unset, .unset, .unset] [] := by first | (simp [entryFrame, mkF, argsToLocals, Value.category, maxLocals]; done) | rfl
theorem own_pd0 : parseMethodDescriptor "(IIJ)V" = some ⟨[.int, .int, .long], none⟩ := by decide +kernel
theorem own_pd2 : parseMethodDescriptor "()Lcom/example/trunkwright/trunkwright/route/Arc;" = some ⟨[], some (.object "com/example/trunkwright/trunkwright/route/Arc")⟩ := by decide +kernel
theorem own_pd4 : parseMethodDescriptor "()I" = some ⟨[], some .int⟩ := by decide +kernel
def Q_rm0 (Z : State) (p1 p2 : Int32) (q3 : Int64) (h0 : Heap) (n0 : Nat) (v : Option Value) (h : Heap) (L : List Loc) : Prop := v = some (.int 1) ∧ Fr n0 L
set_option maxRecDepth 65536 in
set_option maxHeartbeats 40000000 in
theorem rm0 (l : Launch) (Z : State) (a0 : Array Value) (hw : ∀ d ∈ tables_1, d.before a0 Z = true) (ws : List Jvm.Cond) (p1 p2 : Int32) (q3 : Int64) (h0 : Heap) (n0 : Nat) (Z0 : n0 ≤ h0.size)  :
    MetFree l x (head1 (Jvm.Cond.code x code maxLocals ret :: ws) room_1) (fun a U => a = #[(.int p1), (.int p2), (.long q3)] ∧ Z.Warmed39 U.vm ∧ U.heap = h0) (fun _ _ _ _ _ => True) (fun _ U o U' => ∃ v L, o = .returned v ∧ Q_rm0 Z p1 p2 q3 h0 n0 v U'.heap L ∧ FrameEnd U o U' L room_1.cells room_1.slots) := by
  refine MetFree.of_bodySF (plainFor_of_name own_pn3) hisR ?_
  intro p e s m args below meth c s₁ Bd hml0 hP hK
  obtain ⟨rfl, hZ, hh⟩ := hP
  have hx := Bd.exec
  have hby := Bd.bytes
  have hml : c.maxLocals = 10 := hml0
  have hown : s.vm.findClass "com/example/trunkwright/trunkwright/design/LinkArcPinLaw" = some m.cls := findClass_of_methodNamed Bd.named
  have hnm := (name_of_methodNamed Bd.named Bd.method).1
  have X0 : Stand p l e room_1 s m #[(.int p1), (.int p2), (.long q3)] below meth c s₁ [] 0 0 := Stand.of_body Bd
  have e0 : s₁.heap = h0 := by rw [← hh, Bd.state]; rfl
  have N0 := Fr.nil n0
  have R0 : ∀ t, Steps p.tables e below (s₁.setTop (mkF m 0 #[.val (.int p1), .val (.int p2), .val (.long q3), .second, .unset, .unset, .unset, .unset, .unset, .unset] [])) t → Steps p.tables e below (s₁.setTop (entryFrame m #[(.int p1), (.int p2), (.long q3)] maxLocals)) t := fun t k => castTop (own_ef_rm0 m p1 p2 q3) k
  have R1 : ∀ t, Steps p.tables e below (s₁.setTop (mkF m 12 #[.val (.int p1), .val (.int p2), .val (.long q3), .second, .val (.int (p1 &&& (2147483647 : Int32))), .val (.int (p2 &&& (2147483647 : Int32))), .unset, .unset, .unset, .unset] [])) t → Steps p.tables e below (s₁.setTop (entryFrame m #[(.int p1), (.int p2), (.long q3)] maxLocals)) t := by
    intro t k
    refine R0 t ?_
    show Steps p.tables e below (s₁.setTop (mkF m 0 #[.val (.int p1), .val (.int p2), .val (.long q3), .second, .unset, .unset, .unset, .unset, .unset, .unset] [])) _
    refine XS.iloadN X0.here hx rfl (hb hby at_0) rfl ?_
    show Steps p.tables e below (s₁.setTop (mkF m 1 #[.val (.int p1), .val (.int p2), .val (.long q3), .second, .unset, .unset, .unset, .unset, .unset, .unset] [(.int p1)])) _
    refine X0.ldcInt hx hown (mvT hZ (hw _ (List.mem_of_getElem? (i := 0) rfl))) (g := (mkF m 1 #[.val (.int p1), .val (.int p2), .val (.long q3), .second, .unset, .unset, .unset, .unset, .unset, .unset] [(.int p1)])) rfl (hb hby at_1) _ ?_
    show Steps p.tables e below (s₁.setTop (mkF m 3 #[.val (.int p1), .val (.int p2), .val (.long q3), .second, .unset, .unset, .unset, .unset, .unset, .unset] [(.int (2147483647 : Int32)), (.int p1)])) _
    refine XS.iand X0.here hx rfl (hb hby at_3) rfl ?_
    show Steps p.tables e below (s₁.setTop (mkF m 4 #[.val (.int p1), .val (.int p2), .val (.long q3), .second, .unset, .unset, .unset, .unset, .unset, .unset] [(.int (p1 &&& (2147483647 : Int32)))])) _
    refine XS.istore X0.here hx rfl (hb hby at_4) rfl (l' := #[.val (.int p1), .val (.int p2), .val (.long q3), .second, .val (.int (p1 &&& (2147483647 : Int32))), .unset, .unset, .unset, .unset, .unset]) rfl ?_
    show Steps p.tables e below (s₁.setTop (mkF m 6 #[.val (.int p1), .val (.int p2), .val (.long q3), .second, .val (.int (p1 &&& (2147483647 : Int32))), .unset, .unset, .unset, .unset, .unset] [])) _
    refine XS.iloadN X0.here hx rfl (hb hby at_6) rfl ?_
    show Steps p.tables e below (s₁.setTop (mkF m 7 #[.val (.int p1), .val (.int p2), .val (.long q3), .second, .val (.int (p1 &&& (2147483647 : Int32))), .unset, .unset, .unset, .unset, .unset] [(.int p2)])) _
    refine X0.ldcInt hx hown (mvT hZ (hw _ (List.mem_of_getElem? (i := 0) rfl))) (g := (mkF m 7 #[.val (.int p1), .val (.int p2), .val (.long q3), .second, .val (.int (p1 &&& (2147483647 : Int32))), .unset, .unset, .unset, .unset, .unset] [(.int p2)])) rfl (hb hby at_7) _ ?_
    show Steps p.tables e below (s₁.setTop (mkF m 9 #[.val (.int p1), .val (.int p2), .val (.long q3), .second, .val (.int (p1 &&& (2147483647 : Int32))), .unset, .unset, .unset, .unset, .unset] [(.int (2147483647 : Int32)), (.int p2)])) _
    refine XS.iand X0.here hx rfl (hb hby at_9) rfl ?_
    show Steps p.tables e below (s₁.setTop (mkF m 10 #[.val (.int p1), .val (.int p2), .val (.long q3), .second, .val (.int (p1 &&& (2147483647 : Int32))), .unset, .unset, .unset, .unset, .unset] [(.int (p2 &&& (2147483647 : Int32)))])) _
    refine XS.istore X0.here hx rfl (hb hby at_10) rfl (l' := #[.val (.int p1), .val (.int p2), .val (.long q3), .second, .val (.int (p1 &&& (2147483647 : Int32))), .val (.int (p2 &&& (2147483647 : Int32))), .unset, .unset, .unset, .unset]) rfl ?_
    exact k
  obtain ⟨fr, hfr⟩ : ∃ z : Int32, z = (p1 &&& (2147483647 : Int32)) := ⟨_, rfl⟩
  have R2 : ∀ t, Steps p.tables e below (s₁.setTop (mkF m 12 #[.val (.int p1), .val (.int p2), .val (.long q3), .second, .val (.int fr), .val (.int (p2 &&& (2147483647 : Int32))), .unset, .unset, .unset, .unset] [])) t → Steps p.tables e below (s₁.setTop (entryFrame m #[(.int p1), (.int p2), (.long q3)] maxLocals)) t := by rw [hfr]; exact R1
  obtain ⟨t0, ht0⟩ : ∃ z : Int32, z = (p2 &&& (2147483647 : Int32)) := ⟨_, rfl⟩
  have R3 : ∀ t, Steps p.tables e below (s₁.setTop (mkF m 12 #[.val (.int p1), .val (.int p2), .val (.long q3), .second, .val (.int fr), .val (.int t0), .unset, .unset, .unset, .unset] [])) t → Steps p.tables e below (s₁.setTop (entryFrame m #[(.int p1), (.int p2), (.long q3)] maxLocals)) t := by rw [ht0]; exact R2
  obtain ⟨to, hto, R4⟩ : ∃ (to : Int32), to = (if t0 = fr then (fr ^^^ (1 : Int32)) else t0) ∧ (∀ t, Steps p.tables e below (s₁.setTop (mkF m 25 #[.val (.int p1), .val (.int p2), .val (.long q3), .second, .val (.int fr), .val (.int to), .unset, .unset, .unset, .unset] [])) t → Steps p.tables e below (s₁.setTop (entryFrame m #[(.int p1), (.int p2), (.long q3)] maxLocals)) t) := by
    by_cases hc16_0 : t0 = fr
    · refine ⟨(fr ^^^ (1 : Int32)), (by simp only [if_pos hc16_0]), ?_⟩
      intro t k
      refine R3 t ?_
      show Steps p.tables e below (s₁.setTop (mkF m 12 #[.val (.int p1), .val (.int p2), .val (.long q3), .second, .val (.int fr), .val (.int t0), .unset, .unset, .unset, .unset] [])) _
      refine XS.iload X0.here hx rfl (hb hby at_12) rfl ?_
      show Steps p.tables e below (s₁.setTop (mkF m 14 #[.val (.int p1), .val (.int p2), .val (.long q3), .second, .val (.int fr), .val (.int t0), .unset, .unset, .unset, .unset] [(.int t0)])) _
      refine XS.iload X0.here hx rfl (hb hby at_14) rfl ?_
      show Steps p.tables e below (s₁.setTop (mkF m 16 #[.val (.int p1), .val (.int p2), .val (.long q3), .second, .val (.int fr), .val (.int t0), .unset, .unset, .unset, .unset] [(.int fr), (.int t0)])) _
      refine XS.icmpNo X0.here hx rfl (hb hby at_16) rfl (teq hc16_0).2 ?_
      show Steps p.tables e below (s₁.setTop (mkF m 19 #[.val (.int p1), .val (.int p2), .val (.long q3), .second, .val (.int fr), .val (.int t0), .unset, .unset, .unset, .unset] [])) _
      refine XS.iload X0.here hx rfl (hb hby at_19) rfl ?_
      show Steps p.tables e below (s₁.setTop (mkF m 21 #[.val (.int p1), .val (.int p2), .val (.long q3), .second, .val (.int fr), .val (.int t0), .unset, .unset, .unset, .unset] [(.int fr)])) _
      refine XS.iconst X0.here hx rfl (hb hby at_21) ?_
      show Steps p.tables e below (s₁.setTop (mkF m 22 #[.val (.int p1), .val (.int p2), .val (.long q3), .second, .val (.int fr), .val (.int t0), .unset, .unset, .unset, .unset] [(.int (1 : Int32)), (.int fr)])) _
      refine XS.ixor X0.here hx rfl (hb hby at_22) rfl ?_
      show Steps p.tables e below (s₁.setTop (mkF m 23 #[.val (.int p1), .val (.int p2), .val (.long q3), .second, .val (.int fr), .val (.int t0), .unset, .unset, .unset, .unset] [(.int (fr ^^^ (1 : Int32)))])) _
      refine XS.istore X0.here hx rfl (hb hby at_23) rfl (l' := #[.val (.int p1), .val (.int p2), .val (.long q3), .second, .val (.int fr), .val (.int (fr ^^^ (1 : Int32))), .unset, .unset, .unset, .unset]) rfl ?_
      exact k
    · refine ⟨t0, (by simp only [if_neg hc16_0]), ?_⟩
      intro t k
      refine R3 t ?_
      show Steps p.tables e below (s₁.setTop (mkF m 12 #[.val (.int p1), .val (.int p2), .val (.long q3), .second, .val (.int fr), .val (.int t0), .unset, .unset, .unset, .unset] [])) _
      refine XS.iload X0.here hx rfl (hb hby at_12) rfl ?_
      show Steps p.tables e below (s₁.setTop (mkF m 14 #[.val (.int p1), .val (.int p2), .val (.long q3), .second, .val (.int fr), .val (.int t0), .unset, .unset, .unset, .unset] [(.int t0)])) _
      refine XS.iload X0.here hx rfl (hb hby at_14) rfl ?_
      show Steps p.tables e below (s₁.setTop (mkF m 16 #[.val (.int p1), .val (.int p2), .val (.long q3), .second, .val (.int fr), .val (.int t0), .unset, .unset, .unset, .unset] [(.int fr), (.int t0)])) _
      refine XS.icmpYes X0.here hx rfl (pc0 := 16) (pc' := 25) rfl (hb hby at_16) rfl (feq hc16_0).2 (by decide) (by decide) ?_
      exact k
  have R5 : ∀ t, Steps p.tables e below (s₁.setTop (mkF m 32 #[.val (.int p1), .val (.int p2), .val (.long q3), .second, .val (.int fr), .val (.int to), .val (.long (q3 &&& (9223372036854775807 : Int64))), .second, .unset, .unset] [])) t → Steps p.tables e below (s₁.setTop (entryFrame m #[(.int p1), (.int p2), (.long q3)] maxLocals)) t := by
    intro t k
    refine R4 t ?_
    show Steps p.tables e below (s₁.setTop (mkF m 25 #[.val (.int p1), .val (.int p2), .val (.long q3), .second, .val (.int fr), .val (.int to), .unset, .unset, .unset, .unset] [])) _
    refine XS.lloadN X0.here hx rfl (hb hby at_25) rfl ?_
    show Steps p.tables e below (s₁.setTop (mkF m 26 #[.val (.int p1), .val (.int p2), .val (.long q3), .second, .val (.int fr), .val (.int to), .unset, .unset, .unset, .unset] [(.long q3)])) _
    refine X0.ldc2Long hx hown (mvT hZ (hw _ (List.mem_of_getElem? (i := 1) rfl))) (g := (mkF m 26 #[.val (.int p1), .val (.int p2), .val (.long q3), .second, .val (.int fr), .val (.int to), .unset, .unset, .unset, .unset] [(.long q3)])) rfl (hb hby at_26) _ ?_
    show Steps p.tables e below (s₁.setTop (mkF m 29 #[.val (.int p1), .val (.int p2), .val (.long q3), .second, .val (.int fr), .val (.int to), .unset, .unset, .unset, .unset] [(.long (9223372036854775807 : Int64)), (.long q3)])) _
    refine XS.land X0.here hx rfl (hb hby at_29) rfl ?_
    show Steps p.tables e below (s₁.setTop (mkF m 30 #[.val (.int p1), .val (.int p2), .val (.long q3), .second, .val (.int fr), .val (.int to), .unset, .unset, .unset, .unset] [(.long (q3 &&& (9223372036854775807 : Int64)))])) _
    refine XS.lstore X0.here hx rfl (hb hby at_30) rfl (l' := #[.val (.int p1), .val (.int p2), .val (.long q3), .second, .val (.int fr), .val (.int to), .val (.long (q3 &&& (9223372036854775807 : Int64))), .second, .unset, .unset]) rfl ?_
    exact k
  obtain ⟨sz, hsz⟩ : ∃ z : Int64, z = (q3 &&& (9223372036854775807 : Int64)) := ⟨_, rfl⟩
  have R6 : ∀ t, Steps p.tables e below (s₁.setTop (mkF m 32 #[.val (.int p1), .val (.int p2), .val (.long q3), .second, .val (.int fr), .val (.int to), .val (.long sz), .second, .unset, .unset] [])) t → Steps p.tables e below (s₁.setTop (entryFrame m #[(.int p1), (.int p2), (.long q3)] maxLocals)) t := by rw [hsz]; exact R5
  obtain ⟨c2, c3, c23, c4⟩ := own_ok p1 p2 q3 hfr ht0 hto hsz
  obtain ⟨T7, h7, X7, e7, E7, A7, D7, -, st7⟩ := newO X0 hx hZ hown (hw _ (List.mem_of_getElem? (i := 2) rfl)) (hw _ (List.mem_of_getElem? (i := 3) rfl)) (hw _ (List.mem_of_getElem? (i := 4) rfl)) e0 (g := (mkF m 32 #[.val (.int p1), .val (.int p2), .val (.long q3), .second, .val (.int fr), .val (.int to), .val (.long sz), .second, .unset, .unset] [])) rfl (hb hby at_32) (by decide) (by decide)
  obtain ⟨b7, g7⟩ : ∃ z, z = h0.size := ⟨_, rfl⟩
  rw [← g7] at A7 D7 st7
  have R7 : ∀ t, Steps p.tables e below (T7.setTop (mkF m 35 #[.val (.int p1), .val (.int p2), .val (.long q3), .second, .val (.int fr), .val (.int to), .val (.long sz), .second, .unset, .unset] [(.ref b7)])) t → Steps p.tables e below (s₁.setTop (entryFrame m #[(.int p1), (.int p2), (.long q3)] maxLocals)) t := fun t k => R6 t (st7 t k)
  have g_b7 : n0 ≤ b7 := Nat.le_trans Z0 (Nat.le_of_eq g7.symm)
  have sz_b7 : h0.size ≤ b7 := Nat.le_trans (Keep.refl h0 []).1 (Nat.le_of_eq g7.symm)
  have Z7 : n0 ≤ h7.size := Nat.le_trans Z0 E7.1
  have K7 : Keep h0 h7 [] := (Keep.refl h0 []).ext E7
  have F7_17 : Fld Z h7 b7 "com/example/trunkwright/trunkwright/design/Link" "from" "I" (.int (0 : Int32)) := D7 (Or.inr (hw _ (List.mem_of_getElem? (i := 17) rfl))) (ty := .int) (by decide)
  have F7_19 : Fld Z h7 b7 "com/example/trunkwright/trunkwright/design/Link" "to" "I" (.int (0 : Int32)) := D7 (Or.inr (hw _ (List.mem_of_getElem? (i := 19) rfl))) (ty := .int) (by decide)
  have F7_21 : Fld Z h7 b7 "com/example/trunkwright/trunkwright/design/Link" "size" "J" (.long (0 : Int64)) := D7 (Or.inr (hw _ (List.mem_of_getElem? (i := 21) rfl))) (ty := .long) (by decide)
  have R8 : ∀ t, Steps p.tables e below (T7.setTop (mkF m 42 #[.val (.int p1), .val (.int p2), .val (.long q3), .second, .val (.int fr), .val (.int to), .val (.long sz), .second, .unset, .unset] [(.long sz), (.int to), (.int fr), (.ref b7), (.ref b7)])) t → Steps p.tables e below (s₁.setTop (entryFrame m #[(.int p1), (.int p2), (.long q3)] maxLocals)) t := by
    intro t k
    refine R7 t ?_
    show Steps p.tables e below (T7.setTop (mkF m 35 #[.val (.int p1), .val (.int p2), .val (.long q3), .second, .val (.int fr), .val (.int to), .val (.long sz), .second, .unset, .unset] [(.ref b7)])) _
    refine XS.dup X7.here hx rfl (hb hby at_35) rfl rfl ?_
    show Steps p.tables e below (T7.setTop (mkF m 36 #[.val (.int p1), .val (.int p2), .val (.long q3), .second, .val (.int fr), .val (.int to), .val (.long sz), .second, .unset, .unset] [(.ref b7), (.ref b7)])) _
    refine XS.iload X7.here hx rfl (hb hby at_36) rfl ?_
    show Steps p.tables e below (T7.setTop (mkF m 38 #[.val (.int p1), .val (.int p2), .val (.long q3), .second, .val (.int fr), .val (.int to), .val (.long sz), .second, .unset, .unset] [(.int fr), (.ref b7), (.ref b7)])) _
    refine XS.iload X7.here hx rfl (hb hby at_38) rfl ?_
    show Steps p.tables e below (T7.setTop (mkF m 40 #[.val (.int p1), .val (.int p2), .val (.long q3), .second, .val (.int fr), .val (.int to), .val (.long sz), .second, .unset, .unset] [(.int to), (.int fr), (.ref b7), (.ref b7)])) _
    refine XS.lload X7.here hx rfl (hb hby at_40) rfl ?_
    exact k
  obtain ⟨_, _, ⟨T9, L9, k9, n9⟩, -, X9, ⟨Lc9, hQ9, l9, y9, z9⟩, st9⟩ := X7.specialBack hx (y := (⟨"com/example/trunkwright/trunkwright/design/Link", "<init>", "(IIJ)V"⟩ : MethodName)) rfl hown (mvT hZ (hw _ (List.mem_of_getElem? (i := 5) rfl))) (mvT hZ (hw _ (List.mem_of_getElem? (i := 6) rfl))) (mvT hZ (hw _ (List.mem_of_getElem? (i := 7) rfl))) (by decide) (backOf (W := 1) (rmLI l Z a0 hw [] b7 fr to sz  h7 n0 Z7 F7_17 F7_19 F7_21 A7 g_b7 c2 c3 c23 c4) hZ (hw _ (List.mem_of_getElem? (i := 7) rfl)) (hw _ (List.mem_of_getElem? (i := 4) rfl)) (by decide) (by decide)) (g := (mkF m 42 #[.val (.int p1), .val (.int p2), .val (.long q3), .second, .val (.int fr), .val (.int to), .val (.long sz), .second, .unset, .unset] [(.long sz), (.int to), (.int fr), (.ref b7), (.ref b7)])) rfl (by rw [hml]; rfl) (Steps.refl _) (a := b7) (argsL := [(.int fr), (.int to), (.long sz)]) (rest := [(.ref b7)]) (lenOf own_pd0 rfl) rfl (by show 2 * 0 + _ ≤ _; exact Nat.le_of_eq rfl) (hb hby at_42) (fun _ _ => ⟨rfl, e7, (by decide : 1 + 0 ≤ _), (by decide : 3 + 0 ≤ _)⟩)
  dsimp only [Pt.U, Pt.locs, Pt.cells, Pt.slots] at X9 l9 y9 z9 st9 hQ9
  subst l9 y9 z9
  obtain ⟨rfl, Nq9, Kc9, Ec9, Fc9, Fd9⟩ := hQ9
  have N9 := Fr.app N0 Nq9
  have R9 : ∀ t, Steps p.tables e below (T9.setTop (mkF m 45 #[.val (.int p1), .val (.int p2), .val (.long q3), .second, .val (.int fr), .val (.int to), .val (.long sz), .second, .unset, .unset] [(.ref b7)])) t → Steps p.tables e below (s₁.setTop (entryFrame m #[(.int p1), (.int p2), (.long q3)] maxLocals)) t := fun t k => R8 t (st9.trans k)
  have Z9 : n0 ≤ T9.heap.size := Nat.le_trans Z7 Kc9.1
  have K9 : Keep h0 T9.heap [] := K7.trans Kc9 (allS (Or.inr sz_b7) all0)
  have f10 : Exa Z T9.heap b7 "com/example/trunkwright/trunkwright/design/Link" := A7.keep Kc9
  have R11 : ∀ t, Steps p.tables e below (T9.setTop (mkF m 49 #[.val (.int p1), .val (.int p2), .val (.long q3), .second, .val (.int fr), .val (.int to), .val (.long sz), .second, .val (.ref b7), .unset] [(.ref b7)])) t → Steps p.tables e below (s₁.setTop (entryFrame m #[(.int p1), (.int p2), (.long q3)] maxLocals)) t := by
    intro t k
    refine R9 t ?_
    show Steps p.tables e below (T9.setTop (mkF m 45 #[.val (.int p1), .val (.int p2), .val (.long q3), .second, .val (.int fr), .val (.int to), .val (.long sz), .second, .unset, .unset] [(.ref b7)])) _
    refine XS.astore X9.here hx rfl (hb hby at_45) rfl rfl (l' := #[.val (.int p1), .val (.int p2), .val (.long q3), .second, .val (.int fr), .val (.int to), .val (.long sz), .second, .val (.ref b7), .unset]) rfl ?_
    show Steps p.tables e below (T9.setTop (mkF m 47 #[.val (.int p1), .val (.int p2), .val (.long q3), .second, .val (.int fr), .val (.int to), .val (.long sz), .second, .val (.ref b7), .unset] [])) _
    refine XS.aload X9.here hx rfl (hb hby at_47) rfl rfl ?_
    exact k
  obtain ⟨cq12, kq12, q12a, q12b, q12c⟩ := isOf hZ rfl f10
  obtain ⟨_, _, ⟨T12, L12, k12, n12⟩, -, X12, ⟨Lc12, hQ12, l12, y12, z12⟩, st12⟩ := X9.virtualBack hx (y := (⟨"com/example/trunkwright/trunkwright/design/Link", "arc", "()Lcom/example/trunkwright/trunkwright/route/Arc;"⟩ : MethodName)) (z := (⟨"com/example/trunkwright/trunkwright/design/Link", "arc", "()Lcom/example/trunkwright/trunkwright/route/Arc;"⟩ : MethodName)) hown (mvT hZ (hw _ (List.mem_of_getElem? (i := 22) rfl))) (mvT hZ (hw _ (List.mem_of_getElem? (i := 23) rfl))) (notFace_of_selects (args := #[]) (mvT hZ (hw _ (List.mem_of_getElem? (i := 25) rfl)))) (mvT hZ (hw _ (List.mem_of_getElem? (i := 25) rfl))) (mvT hZ (hw _ (List.mem_of_getElem? (i := 24) rfl))) (by decide) (backOf (W := 0) (rmLA l Z a0 hw [] b7 fr to T9.heap n0 Z9 Fc9 Fd9 c2 c3 c23) hZ (hw _ (List.mem_of_getElem? (i := 26) rfl)) (hw _ (List.mem_of_getElem? (i := 4) rfl)) (by decide) (by decide)) q12a q12c (g := (mkF m 49 #[.val (.int p1), .val (.int p2), .val (.long q3), .second, .val (.int fr), .val (.int to), .val (.long sz), .second, .val (.ref b7), .unset] [(.ref b7)])) rfl (by rw [hml]; rfl) (Steps.refl _) (argsL := []) (rest := []) (lenOf own_pd2 rfl) rfl (by show 2 * 0 + _ ≤ _; exact Nat.le_of_eq rfl) (hb hby at_49) (fun _ _ => ⟨rfl, rfl, (by decide : 1 + 1 ≤ _), (by decide : 3 + 2 ≤ _)⟩)
  dsimp only [Pt.U, Pt.locs, Pt.cells, Pt.slots] at X12 l12 y12 z12 st12 hQ12
  subst l12 y12 z12
  obtain ⟨bx12, rfl, Nq12, Kc12, Ec12, Fc12, Fd12⟩ := hQ12
  have N12 := Fr.app N9 Nq12
  have R12 : ∀ t, Steps p.tables e below (T12.setTop (mkF m 52 #[.val (.int p1), .val (.int p2), .val (.long q3), .second, .val (.int fr), .val (.int to), .val (.long sz), .second, .val (.ref b7), .unset] [(.ref bx12)])) t → Steps p.tables e below (s₁.setTop (entryFrame m #[(.int p1), (.int p2), (.long q3)] maxLocals)) t := fun t k => R11 t (st12.trans k)
  have Z12 : n0 ≤ T12.heap.size := Nat.le_trans Z9 Kc12.1
  have K12 : Keep h0 T12.heap [] := K9.trans Kc12 all0
  have f13 : Exa Z T12.heap b7 "com/example/trunkwright/trunkwright/design/Link" := f10.keep Kc12
  have f14 : Fld Z T12.heap b7 "com/example/trunkwright/trunkwright/design/Link" "from" "I" (.int fr) := Fc9.keep Kc12 nin0
  have f15 : Fld Z T12.heap b7 "com/example/trunkwright/trunkwright/design/Link" "to" "I" (.int to) := Fd9.keep Kc12 nin0
  have R16 : ∀ t, Steps p.tables e below (T12.setTop (mkF m 56 #[.val (.int p1), .val (.int p2), .val (.long q3), .second, .val (.int fr), .val (.int to), .val (.long sz), .second, .val (.ref b7), .val (.ref bx12)] [(.ref bx12)])) t → Steps p.tables e below (s₁.setTop (entryFrame m #[(.int p1), (.int p2), (.long q3)] maxLocals)) t := by
    intro t k
    refine R12 t ?_
    show Steps p.tables e below (T12.setTop (mkF m 52 #[.val (.int p1), .val (.int p2), .val (.long q3), .second, .val (.int fr), .val (.int to), .val (.long sz), .second, .val (.ref b7), .unset] [(.ref bx12)])) _
    refine XS.astore X12.here hx rfl (hb hby at_52) rfl rfl (l' := #[.val (.int p1), .val (.int p2), .val (.long q3), .second, .val (.int fr), .val (.int to), .val (.long sz), .second, .val (.ref b7), .val (.ref bx12)]) rfl ?_
    show Steps p.tables e below (T12.setTop (mkF m 54 #[.val (.int p1), .val (.int p2), .val (.long q3), .second, .val (.int fr), .val (.int to), .val (.long sz), .second, .val (.ref b7), .val (.ref bx12)] [])) _
    refine XS.aload X12.here hx rfl (hb hby at_54) rfl rfl ?_
    exact k
  obtain ⟨cq17, kq17, q17a, q17b, q17c⟩ := isOf hZ rfl Ec12
  obtain ⟨_, _, ⟨T17, L17, k17, n17⟩, -, X17, ⟨Lc17, hQ17, l17, y17, z17⟩, st17⟩ := X12.virtualBack hx (y := (⟨"com/example/trunkwright/trunkwright/route/Arc", "from", "()I"⟩ : MethodName)) (z := (⟨"com/example/trunkwright/trunkwright/route/Arc", "from", "()I"⟩ : MethodName)) hown (mvT hZ (hw _ (List.mem_of_getElem? (i := 38) rfl))) (mvT hZ (hw _ (List.mem_of_getElem? (i := 39) rfl))) (notFace_of_selects (args := #[]) (mvT hZ (hw _ (List.mem_of_getElem? (i := 41) rfl)))) (mvT hZ (hw _ (List.mem_of_getElem? (i := 41) rfl))) (mvT hZ (hw _ (List.mem_of_getElem? (i := 40) rfl))) (by decide) (backOf (W := 0) (rmAF l Z a0 hw [] bx12 fr T12.heap n0 Z12 Fc12) hZ (hw _ (List.mem_of_getElem? (i := 42) rfl)) (hw _ (List.mem_of_getElem? (i := 29) rfl)) (by decide) (by decide)) q17a q17c (g := (mkF m 56 #[.val (.int p1), .val (.int p2), .val (.long q3), .second, .val (.int fr), .val (.int to), .val (.long sz), .second, .val (.ref b7), .val (.ref bx12)] [(.ref bx12)])) rfl (by rw [hml]; rfl) (Steps.refl _) (argsL := []) (rest := []) (lenOf own_pd4 rfl) rfl (by show 2 * 0 + _ ≤ _; exact Nat.le_of_eq rfl) (hb hby at_56) (fun _ _ => ⟨rfl, rfl, (by decide : 2 + 0 ≤ _), (by decide : 5 + 0 ≤ _)⟩)
  dsimp only [Pt.U, Pt.locs, Pt.cells, Pt.slots] at X17 l17 y17 z17 st17 hQ17
  subst l17 y17 z17
  obtain ⟨rfl, Nq17, eq17⟩ := hQ17
  have N17 := Fr.app N12 Nq17
  have R17 : ∀ t, Steps p.tables e below (T17.setTop (mkF m 59 #[.val (.int p1), .val (.int p2), .val (.long q3), .second, .val (.int fr), .val (.int to), .val (.long sz), .second, .val (.ref b7), .val (.ref bx12)] [(.int fr)])) t → Steps p.tables e below (s₁.setTop (entryFrame m #[(.int p1), (.int p2), (.long q3)] maxLocals)) t := fun t k => R16 t (st17.trans k)
  have R18 : ∀ t, Steps p.tables e below (T17.setTop (mkF m 66 #[.val (.int p1), .val (.int p2), .val (.long q3), .second, .val (.int fr), .val (.int to), .val (.long sz), .second, .val (.ref b7), .val (.ref bx12)] [(.ref bx12)])) t → Steps p.tables e below (s₁.setTop (entryFrame m #[(.int p1), (.int p2), (.long q3)] maxLocals)) t := by
    intro t k
    refine R17 t ?_
    show Steps p.tables e below (T17.setTop (mkF m 59 #[.val (.int p1), .val (.int p2), .val (.long q3), .second, .val (.int fr), .val (.int to), .val (.long sz), .second, .val (.ref b7), .val (.ref bx12)] [(.int fr)])) _
    refine XS.iload X17.here hx rfl (hb hby at_59) rfl ?_
    show Steps p.tables e below (T17.setTop (mkF m 61 #[.val (.int p1), .val (.int p2), .val (.long q3), .second, .val (.int fr), .val (.int to), .val (.long sz), .second, .val (.ref b7), .val (.ref bx12)] [(.int fr), (.int fr)])) _
    refine XS.icmpNo X17.here hx rfl (hb hby at_61) rfl (teq (rfl : fr = fr)).2 ?_
    show Steps p.tables e below (T17.setTop (mkF m 64 #[.val (.int p1), .val (.int p2), .val (.long q3), .second, .val (.int fr), .val (.int to), .val (.long sz), .second, .val (.ref b7), .val (.ref bx12)] [])) _
    refine XS.aload X17.here hx rfl (hb hby at_64) rfl rfl ?_
    exact k
  obtain ⟨cq19, kq19, q19a, q19b, q19c⟩ := isOf hZ eq17 Ec12
  obtain ⟨_, _, ⟨T19, L19, k19, n19⟩, -, X19, ⟨Lc19, hQ19, l19, y19, z19⟩, st19⟩ := X17.virtualBack hx (y := (⟨"com/example/trunkwright/trunkwright/route/Arc", "to", "()I"⟩ : MethodName)) (z := (⟨"com/example/trunkwright/trunkwright/route/Arc", "to", "()I"⟩ : MethodName)) hown (mvT hZ (hw _ (List.mem_of_getElem? (i := 43) rfl))) (mvT hZ (hw _ (List.mem_of_getElem? (i := 44) rfl))) (notFace_of_selects (args := #[]) (mvT hZ (hw _ (List.mem_of_getElem? (i := 46) rfl)))) (mvT hZ (hw _ (List.mem_of_getElem? (i := 46) rfl))) (mvT hZ (hw _ (List.mem_of_getElem? (i := 45) rfl))) (by decide) (backOf (W := 0) (rmAT l Z a0 hw [] bx12 to T12.heap n0 Z12 Fd12) hZ (hw _ (List.mem_of_getElem? (i := 47) rfl)) (hw _ (List.mem_of_getElem? (i := 29) rfl)) (by decide) (by decide)) q19a q19c (g := (mkF m 66 #[.val (.int p1), .val (.int p2), .val (.long q3), .second, .val (.int fr), .val (.int to), .val (.long sz), .second, .val (.ref b7), .val (.ref bx12)] [(.ref bx12)])) rfl (by rw [hml]; rfl) (Steps.refl _) (argsL := []) (rest := []) (lenOf own_pd4 rfl) rfl (by show 2 * 0 + _ ≤ _; exact Nat.le_of_eq rfl) (hb hby at_66) (fun _ _ => ⟨rfl, eq17, (by decide : 2 + 0 ≤ _), (by decide : 5 + 0 ≤ _)⟩)
  dsimp only [Pt.U, Pt.locs, Pt.cells, Pt.slots] at X19 l19 y19 z19 st19 hQ19
  subst l19 y19 z19
  obtain ⟨rfl, Nq19, eq19⟩ := hQ19
  have N19 := Fr.app N17 Nq19
  have R19 : ∀ t, Steps p.tables e below (T19.setTop (mkF m 69 #[.val (.int p1), .val (.int p2), .val (.long q3), .second, .val (.int fr), .val (.int to), .val (.long sz), .second, .val (.ref b7), .val (.ref bx12)] [(.int to)])) t → Steps p.tables e below (s₁.setTop (entryFrame m #[(.int p1), (.int p2), (.long q3)] maxLocals)) t := fun t k => R18 t (st19.trans k)
  have R20 : ∀ t, Steps p.tables e below (T19.setTop (mkF m 79 #[.val (.int p1), .val (.int p2), .val (.long q3), .second, .val (.int fr), .val (.int to), .val (.long sz), .second, .val (.ref b7), .val (.ref bx12)] [(.int (1 : Int32))])) t → Steps p.tables e below (s₁.setTop (entryFrame m #[(.int p1), (.int p2), (.long q3)] maxLocals)) t := by
    intro t k
    refine R19 t ?_
    show Steps p.tables e below (T19.setTop (mkF m 69 #[.val (.int p1), .val (.int p2), .val (.long q3), .second, .val (.int fr), .val (.int to), .val (.long sz), .second, .val (.ref b7), .val (.ref bx12)] [(.int to)])) _
    refine XS.iload X19.here hx rfl (hb hby at_69) rfl ?_
    show Steps p.tables e below (T19.setTop (mkF m 71 #[.val (.int p1), .val (.int p2), .val (.long q3), .second, .val (.int fr), .val (.int to), .val (.long sz), .second, .val (.ref b7), .val (.ref bx12)] [(.int to), (.int to)])) _
    refine XS.icmpNo X19.here hx rfl (hb hby at_71) rfl (teq (rfl : to = to)).2 ?_
    show Steps p.tables e below (T19.setTop (mkF m 74 #[.val (.int p1), .val (.int p2), .val (.long q3), .second, .val (.int fr), .val (.int to), .val (.long sz), .second, .val (.ref b7), .val (.ref bx12)] [])) _
    refine XS.iconst X19.here hx rfl (hb hby at_74) ?_
    show Steps p.tables e below (T19.setTop (mkF m 75 #[.val (.int p1), .val (.int p2), .val (.long q3), .second, .val (.int fr), .val (.int to), .val (.long sz), .second, .val (.ref b7), .val (.ref bx12)] [(.int (1 : Int32))])) _
    refine XS.goto X19.here hx rfl (pc0 := 75) (pc' := 79) rfl (hb hby at_75) (by decide) (by decide) ?_
    exact k
  obtain ⟨fs, hr, hrun, hended, hW, hsame⟩ := X19.leave (v := some (.int (1 : Int32))) (fun h => by rw [Bd.returns] at h; cases h)
  refine ⟨_, _, R20 _ ?_, hrun, hended, _, _, rfl, ?_, ⟨_, rfl⟩, hW, hsame.mono (by decide) (by decide)⟩
  · exact retN X19 hx (t := .boolean) Bd.returns (by simp) (hb hby at_79) hr
  · show Q_rm0 Z p1 p2 q3 h0 n0 _ T19.heap _
    rw [eq19]
    exact ⟨rfl, N19⟩
set_option maxRecDepth 65536 in
set_option maxHeartbeats 40000000 in
theorem comes_1 {Post : Tables → Env → Array Value → State → Outcome → State → Prop} (hpost : ∀ tb e args s v u, (limb_1_1.after args s (.returned v) u = true ∧ limb_1_2.after args s (.returned v) u = true ∧ True) → FrameEnd s (.returned v) u (Jvm.fieldLocs frame_1_writes args s ++ Jvm.arrayLocs frame_1_arrays args s ++ Jvm.staticLocs frame_1_statics s) 16 128 → Post tb e args s (.returned v) u) :
    ArmFor flags0 classFile x code maxLocals ret World_1 tables_1 room_1 Calls_1 rest_1 Pre_1 Post := by
  intro l hfl _ _ p e ha hc hk s m args below hf hA hF happ hP
  obtain ⟨hcalls, hrest, hpre⟩ := hP
  obtain ⟨-, -, -, hnamed, -, -, -, hat⟩ := (Spec.applies_iff hf).mp happ
  obtain ⟨hg, hn⟩ := and_e (Cond.before_iff.mp (show (Jvm.Cond.and given_1 narrow_1).before args s = true from hpre))
  obtain ⟨g1, g2⟩ := and_e hg
  obtain ⟨g3, g4⟩ := and_e g2
  obtain ⟨g5, g6⟩ := and_e g4
  obtain ⟨w0, w1, w2, rfl⟩ : ∃ w0 w1 w2 : Value, args = #[w0, w1, w2] := by
    have hs : args.size = 3 := by simpa [Cond.value, given_1] using g1
    obtain ⟨L⟩ := args
    match L, hs with
    | [w0, w1, w2], _ => exact ⟨w0, w1, w2, rfl⟩
  have hw := fun d (hd : d ∈ tables_1) => atoms_spec (ws := Jvm.Cond.code x code maxLocals ret :: tables_1) hat d (List.mem_cons_of_mem _ hd)
  have hfit : Fit s := fun {y c} hc i hi => by
    obtain ⟨ha, rfl⟩ := Array.getElem?_eq_some_iff.mp hc
    have q := List.all_eq_true.mp ((Array.all_eq_true_iff_forall_mem.mp hF) _ (Array.getElem_mem ha)) i (List.mem_range.mpr hi)
    simpa [Array.getElem?_eq_getElem hi] using q
  obtain ⟨i0, ei0⟩ := is_v g3
  obtain rfl : w0 = (.int i0) := Option.some.inj ei0
  obtain ⟨i1, ei1⟩ := is_v g5
  obtain rfl : w1 = (.int i1) := Option.some.inj ei1
  obtain ⟨i2, ei2⟩ := isL_v g6
  obtain rfl : w2 = (.long i2) := Option.some.inj ei2
  obtain ⟨n, o, h1, h2, h3, _, L, rfl, ⟨rfl, N⟩, hq⟩ := rm0 l s _ hw tables_1 i0 i1 i2  s.heap s.heap.size (Nat.le_refl _)  p e ha hc hk s m _ below hf ((Spec.applies_iff_loose hf).mp happ).1 ⟨rfl, State.Warmed39.refl s, rfl⟩ trivial
  refine ⟨n, _, h1, h2, h3, hpost _ _ _ _ _ _ ⟨Cond.after_iff.mpr rfl, Cond.after_iff.mpr (eq_i res_at (Term.int_eval (1)) rfl), trivial⟩ ⟨hq.1, hq.2.1, (hq.2.2.sift fun y hy => Or.inr (N y hy)).mono (by decide) (by decide)⟩⟩
theorem main_1_1 : Claimed_1_1 := comes_1 fun _ _ _ _ _ _ h hF => ⟨h.1, hF⟩
theorem main_1_2 : Claimed_1_2 := comes_1 fun _ _ _ _ _ _ h hF => ⟨h.2.1, hF⟩
end Jvm.Pilot.@@N@@
namespace Jvm.Pilot.@@N@@
open Jvm Jvm.ClassFile Sem Op Lib Jvm.Free Jvm.Stand Jvm.Pilot.@@N@@.Jvm.D
/-! MADE BY PROGRAM (witnessworld.py) out of the Statement's table words and the real class files: 11 classes; the members and pool entries that the words name. The judged class is class 1, her method 1. -/
namespace start1
open Jvm.ClassFile
def u (s : String) : CpInfo := .utf8 (stringToUtf16 s)
/-- a pool by its gaps: so many unusable entries, then the entry; so many at the end -/
def gap : Nat → List CpInfo → List CpInfo
  | 0, r => r
  | n + 1, r => .unusable :: gap n r
def poolList (es : List (Nat × CpInfo)) (last : Nat) : List CpInfo := es.foldr (fun e r => gap e.1 (e.2 :: r)) (gap last [])
def pool (es : List (Nat × CpInfo)) (last : Nat) : Array CpInfo := ⟨poolList es last⟩
def fileOf (pool : Array CpInfo) (this : Nat) (attrs : Array Attribute := #[]) (ms : Array MethodInfo := #[]) (fl : Nat := 33) (sup : Nat := 0) (ifs : Array Nat := #[]) (fds : Array FieldInfo := #[]) : ClassFile where
  minorVersion := 0
  majorVersion := 65
  constantPool := pool
  accessFlags := fl
  thisClass := this
  superClass := sup
  interfaces := ifs
  fields := fds
  methods := ms
  attributes := attrs
def plain (name : String) (sup : Option ClassId) : Class where
  name := name
  kind := .ordinary
  loader := none
  accessFlags := 33
  super := sup
  interfaces := #[]
  cf := none
  fields := #[]
  methods := #[]
  instanceTypes := #[]
  staticTypes := #[]
  resolved := #[]
  callSites := []
  init := .initialized
  statics := none
  mirror := none

def pool0 : Array CpInfo := pool [(5, u "<init>"), (0, u "()V"), (1, .class_ 10), (1, u "java/lang/Object")] 113

def k0c0 : Code := { maxStack := 0, maxLocals := 1, code := object_method_1_code, exceptionTable := #[], attributes := #[] }
def k0m0 : Method := { name := "<init>", desc := "()V", sig := { parameters := [], returnType := none }, accessFlags := 1, code := some k0c0 }
/-- java/lang/Object -/
def k0 : Class := { plain "java/lang/Object" none with
  accessFlags := 33
  interfaces := #[]
  cf := some (fileOf pool0 8 #[] #[{ accessFlags := 1, nameIndex := 5, descriptorIndex := 6, attributes := #[] }] 33 0 #[] #[])
  fields := #[]
  methods := #[k0m0]
  instanceTypes := #[]
  staticTypes := #[]
  resolved := Array.replicate 124 none
  statics := none }

def pool1 : Array CpInfo := pool [(2, .class_ 4), (1, u "java/lang/Object"), (0, u "<init>"), (0, u "()V"), (0, .integer 2147483647), (2, .long 9223372036854775807), (1, .class_ 13), (0, u "com/example/trunkwright/trunkwright/design/Link"), (0, .methodref 12 15), (0, .nameAndType 5 16), (0, u "(IIJ)V"), (0, .methodref 12 18), (0, .nameAndType 19 20), (0, u "arc"), (0, u "()Lcom/example/trunkwright/trunkwright/route/Arc;"), (0, .methodref 22 23), (0, .class_ 24), (0, .nameAndType 25 26), (0, u "com/example/trunkwright/trunkwright/route/Arc"), (0, u "from"), (0, u "()I"), (0, .methodref 22 28), (0, .nameAndType 29 26), (0, u "to"), (0, .class_ 31), (0, u "com/example/trunkwright/trunkwright/design/LinkArcPinLaw"), (2, u "law"), (0, u "(IIJ)Z")] 3

def k1m0 : Method := { name := "<init>", desc := "()V", sig := { parameters := [], returnType := none }, accessFlags := 2, code := none }
def k1c1 : Code := { maxStack := 6, maxLocals := 10, code := code, exceptionTable := #[], attributes := #[] }
def k1m1 : Method := { name := "law", desc := "(IIJ)Z", sig := { parameters := [.int, .int, .long], returnType := some .boolean }, accessFlags := 9, code := some k1c1 }
/-- com/example/trunkwright/trunkwright/design/LinkArcPinLaw -/
def k1 : Class := { plain "com/example/trunkwright/trunkwright/design/LinkArcPinLaw" (some 0) with
  accessFlags := 49
  interfaces := #[]
  cf := some (fileOf pool1 30 #[] #[{ accessFlags := 2, nameIndex := 5, descriptorIndex := 6, attributes := #[] }, { accessFlags := 9, nameIndex := 34, descriptorIndex := 35, attributes := #[] }] 49 2 #[] #[])
  fields := #[]
  methods := #[k1m0, k1m1]
  instanceTypes := #[]
  staticTypes := #[]
  resolved := Array.replicate 39 none
  statics := none }

def pool2 : Array CpInfo := pool [(1, .methodref 2 3), (0, .class_ 4), (0, .nameAndType 5 6), (0, u "java/lang/Object"), (0, u "<init>"), (0, u "()V"), (0, .class_ 8), (0, u "java/lang/Record")] 13

def k2c0 : Code := { maxStack := 1, maxLocals := 1, code := jdk_30_method_1_code, exceptionTable := #[], attributes := #[] }
def k2m0 : Method := { name := "<init>", desc := "()V", sig := { parameters := [], returnType := none }, accessFlags := 4, code := some k2c0 }
/-- java/lang/Record -/
def k2 : Class := { plain "java/lang/Record" (some 0) with
  accessFlags := 1057
  interfaces := #[]
  cf := some (fileOf pool2 7 #[] #[{ accessFlags := 4, nameIndex := 5, descriptorIndex := 6, attributes := #[] }] 1057 2 #[] #[])
  fields := #[]
  methods := #[k2m0]
  instanceTypes := #[]
  staticTypes := #[]
  resolved := Array.replicate 22 none
  statics := none }

def pool3 : Array CpInfo := pool [(1, .methodref 2 3), (0, .class_ 4), (0, .nameAndType 5 6), (0, u "java/lang/Record"), (0, u "<init>"), (0, u "()V"), (15, .fieldref 23 24), (0, .class_ 25), (0, .nameAndType 26 27), (0, u "com/example/trunkwright/trunkwright/design/Link"), (0, u "from"), (0, u "I"), (0, .fieldref 23 29), (0, .nameAndType 30 27), (0, u "to"), (0, .fieldref 23 32), (0, .nameAndType 33 34), (0, u "size"), (0, u "J"), (0, .class_ 36), (0, u "com/example/trunkwright/trunkwright/route/Arc"), (0, .methodref 35 38), (0, .nameAndType 5 39), (0, u "(II)V"), (12, u "(IIJ)V"), (4, u "arc"), (0, u "()Lcom/example/trunkwright/trunkwright/route/Arc;")] 38

def k3c0 : Code := { maxStack := 4, maxLocals := 5, code := prog_8_method_1_code, exceptionTable := #[], attributes := #[] }
def k3m0 : Method := { name := "<init>", desc := "(IIJ)V", sig := { parameters := [.int, .int, .long], returnType := none }, accessFlags := 1, code := some k3c0 }
def k3c1 : Code := { maxStack := 4, maxLocals := 1, code := prog_8_method_2_code, exceptionTable := #[], attributes := #[] }
def k3m1 : Method := { name := "arc", desc := "()Lcom/example/trunkwright/trunkwright/route/Arc;", sig := { parameters := [], returnType := some (.object "com/example/trunkwright/trunkwright/route/Arc") }, accessFlags := 1, code := some k3c1 }
/-- com/example/trunkwright/trunkwright/design/Link -/
def k3 : Class := { plain "com/example/trunkwright/trunkwright/design/Link" (some 2) with
  accessFlags := 49
  interfaces := #[]
  cf := some (fileOf pool3 23 #[] #[{ accessFlags := 1, nameIndex := 5, descriptorIndex := 52, attributes := #[] }, { accessFlags := 1, nameIndex := 57, descriptorIndex := 58, attributes := #[] }] 49 2 #[] #[{ accessFlags := 18, nameIndex := 26, descriptorIndex := 27, attributes := #[] }, { accessFlags := 18, nameIndex := 30, descriptorIndex := 27, attributes := #[] }, { accessFlags := 18, nameIndex := 33, descriptorIndex := 34, attributes := #[] }])
  fields := #[{ name := "from", type := .int, accessFlags := 18, slot := 0, constantValue := 0 }, { name := "to", type := .int, accessFlags := 18, slot := 1, constantValue := 0 }, { name := "size", type := .long, accessFlags := 18, slot := 2, constantValue := 0 }]
  methods := #[k3m0, k3m1]
  instanceTypes := #[.int, .int, .long]
  staticTypes := #[]
  resolved := Array.replicate 97 none
  statics := none }

def pool4 : Array CpInfo := pool [(1, .methodref 2 3), (0, .class_ 4), (0, .nameAndType 5 6), (0, u "java/lang/Record"), (0, u "<init>"), (0, u "()V"), (12, .fieldref 20 21), (0, .class_ 22), (0, .nameAndType 23 24), (0, u "com/example/trunkwright/trunkwright/route/Arc"), (0, u "from"), (0, u "I"), (0, .fieldref 20 26), (0, .nameAndType 27 24), (0, u "to"), (2, u "(II)V"), (19, u "()I")] 32

def k4c0 : Code := { maxStack := 4, maxLocals := 3, code := prog_74_method_1_code, exceptionTable := #[], attributes := #[] }
def k4m0 : Method := { name := "<init>", desc := "(II)V", sig := { parameters := [.int, .int], returnType := none }, accessFlags := 1, code := some k4c0 }
def k4c1 : Code := { maxStack := 1, maxLocals := 1, code := prog_74_method_6_code, exceptionTable := #[], attributes := #[] }
def k4m1 : Method := { name := "from", desc := "()I", sig := { parameters := [], returnType := some .int }, accessFlags := 1, code := some k4c1 }
def k4c2 : Code := { maxStack := 1, maxLocals := 1, code := prog_74_method_7_code, exceptionTable := #[], attributes := #[] }
def k4m2 : Method := { name := "to", desc := "()I", sig := { parameters := [], returnType := some .int }, accessFlags := 1, code := some k4c2 }
/-- com/example/trunkwright/trunkwright/route/Arc -/
def k4 : Class := { plain "com/example/trunkwright/trunkwright/route/Arc" (some 2) with
  accessFlags := 49
  interfaces := #[]
  cf := some (fileOf pool4 20 #[] #[{ accessFlags := 1, nameIndex := 5, descriptorIndex := 30, attributes := #[] }, { accessFlags := 1, nameIndex := 23, descriptorIndex := 50, attributes := #[] }, { accessFlags := 1, nameIndex := 27, descriptorIndex := 50, attributes := #[] }] 49 2 #[] #[{ accessFlags := 18, nameIndex := 23, descriptorIndex := 24, attributes := #[] }, { accessFlags := 18, nameIndex := 27, descriptorIndex := 24, attributes := #[] }])
  fields := #[{ name := "from", type := .int, accessFlags := 18, slot := 0, constantValue := 0 }, { name := "to", type := .int, accessFlags := 18, slot := 1, constantValue := 0 }]
  methods := #[k4m0, k4m1, k4m2]
  instanceTypes := #[.int, .int]
  staticTypes := #[]
  resolved := Array.replicate 83 none
  statics := none }

def pool5 : Array CpInfo := pool [(1, u "java/lang/Cloneable"), (0, .class_ 1), (0, u "java/lang/Object"), (0, .class_ 3)] 3

/-- java/lang/Cloneable -/
def k5 : Class := { plain "java/lang/Cloneable" (some 0) with
  accessFlags := 1537
  interfaces := #[]
  cf := some (fileOf pool5 2 #[] #[] 1537 4 #[] #[])
  fields := #[]
  methods := #[]
  instanceTypes := #[]
  staticTypes := #[]
  resolved := Array.replicate 8 none
  statics := none }

def pool6 : Array CpInfo := pool [(1, u "java/io/Serializable"), (0, .class_ 1), (0, u "java/lang/Object"), (0, .class_ 3)] 3

/-- java/io/Serializable -/
def k6 : Class := { plain "java/io/Serializable" (some 0) with
  accessFlags := 1537
  interfaces := #[]
  cf := some (fileOf pool6 2 #[] #[] 1537 4 #[] #[])
  fields := #[]
  methods := #[]
  instanceTypes := #[]
  staticTypes := #[]
  resolved := Array.replicate 8 none
  statics := none }

/-- the primitive byte -/
def k7 : Class := { plain "byte" none with kind := .primitive 'B', accessFlags := 0x411 }
/-- [B -/
def k8 : Class := { plain "[B" (some 0) with kind := .array 7 .byte, interfaces := #[5, 6], accessFlags := 1041 }

/-- the primitive int -/
def k9 : Class := { plain "int" none with kind := .primitive 'I', accessFlags := 0x411 }
/-- [I -/
def k10 : Class := { plain "[I" (some 0) with kind := .array 9 .int, interfaces := #[5, 6], accessFlags := 1041 }

def heap : Heap := #[]
def classes : Array Class := #[k0, k1, k2, k3, k4, k5, k6, k7, k8, k9, k10]
def interned : List (Array UInt16 × Addr) := []
def slotsUsed : Nat := 0
def theMethod : MethodId := ⟨1, 1⟩
def args0 : Array Value := #[.int 3, .int 120, .long 1]
def aboutOver (below : List Frame) : State where
  vm := { classes := classes, interned := interned.toArray }
  heap := heap
  slotsUsed := slotsUsed
  threads := #[{ frames := .invoking theMethod args0 :: below }]
def below0 : List Frame := [.native { method := ⟨0, 0⟩, args := #[] }]
def about1 : State := aboutOver below0
def p0 : Program := .bare "" "" ""
def e0 : Env := launch0.env 0 0 0
theorem w_frames : about1.frames = Frame.invoking theMethod args0 :: below0 := rfl
set_option maxRecDepth 65536 in
theorem w_args : argsFit about1.vm theMethod args0 = true := by decide +kernel
set_option maxRecDepth 65536 in
theorem w_heap : heapFits about1 = true := by decide +kernel
set_option maxRecDepth 65536 in
theorem w_runnable : about1.curStatus? = some .runnable := by decide +kernel
set_option maxRecDepth 65536 in
theorem w_alone : about1.alone = true := by decide +kernel
set_option maxRecDepth 65536 in
theorem w_named : about1.methodNamed? x = some theMethod := by decide +kernel
set_option maxRecDepth 65536 in
theorem w_hears : about1.hears theMethod below0 = true := by decide +kernel
set_option maxRecDepth 65536 in
theorem w_ripe : about1.ripe theMethod args0 below0 = true := by decide +kernel
theorem w_running : about1.status = .running := rfl
set_option maxRecDepth 65536 in
theorem w_room : about1.hasRoom e0.platform room_1 = true :=
  launch0.hasRoom_least _ room_1 (by decide +kernel) (by decide +kernel) (by decide +kernel) (by decide +kernel) (by decide +kernel) (by decide +kernel)
theorem allAtoms_all (ts : List Jvm.Cond) (a : Array Jvm.Value) (st : Jvm.State) : (allAtoms ts).before a st = ts.all (fun c => c.before a st) := by
  induction ts with
  | nil => rfl
  | cons c t ih =>
    show (Jvm.Cond.and c (allAtoms t)).before a st = _
    rw [Jvm.Cond.before_and, ih, List.all_cons]
def words1 : List Jvm.Cond := Jvm.Cond.code x code maxLocals ret :: tables_1
/-- a 'code' word, met by the world's own term for the bytes: nothing is compared byte by byte -/
theorem code_word {y : MethodName} {bytes : ByteArray} {mx : Nat} {rt : Option FieldType} {a : Array Value} {s : State} {m : MethodId} {meth : Method} {c : Code} (h1 : s.methodNamed? y = some m) (h2 : s.vm.method? m = some meth) (h3 : meth.code = some c) (h4 : c.code = bytes)
    (h5 : (c.maxLocals == mx && c.exceptionTable.isEmpty && decide (c.maxStack ≤ mostOperands) && decide (meth.sig.returnType = rt) && !meth.locks && decide (parseMethodDescriptor y.desc = some meth.sig)) = true) : (Jvm.Cond.code y bytes mx rt).before a s = true := by
  simp only [Bool.and_eq_true, beq_iff_eq, Bool.not_eq_true', decide_eq_true_eq] at h5
  obtain ⟨⟨⟨⟨⟨g1, g2⟩, g3⟩, g4⟩, g5⟩, g6⟩ := h5
  simp [Cond.before, Cond.holds, Cond.value, h1, h2, h3, h4, g1, g2, g3, g4, g5, g6]
def isCode : Jvm.Cond → Bool
  | .code _ _ _ _ => true
  | _ => false
theorem all_split {L : List Jvm.Cond} {P : Jvm.Cond → Bool} (h1 : L.all (fun c => isCode c || P c) = true) (h2 : ∀ c ∈ L.filter isCode, P c = true) : L.all P = true := by
  refine List.all_eq_true.mpr fun c hc => ?_
  have h := List.all_eq_true.mp h1 c hc
  rcases Bool.eq_false_or_eq_true (isCode c) with hi | hi
  · exact h2 c (List.mem_filter.mpr ⟨hc, hi⟩)
  · simpa [hi] using h
set_option maxRecDepth 65536 in
theorem w_c0 : (Jvm.Cond.code x code maxLocals ret).before args0 about1 = true := code_word (m := ⟨1, 1⟩) (meth := k1m1) (c := k1c1) (by decide +kernel) rfl rfl rfl (by decide +kernel)
set_option maxRecDepth 65536 in
theorem w_c1 : (Jvm.Cond.code ({ cls := "com/example/trunkwright/trunkwright/design/Link", name := "<init>", desc := "(IIJ)V" } : Jvm.MethodName) prog_8_method_1_code (5 : Nat) (Option.none : Option Jvm.ClassFile.FieldType)).before args0 about1 = true := code_word (m := ⟨3, 0⟩) (meth := k3m0) (c := k3c0) (by decide +kernel) rfl rfl rfl (by decide +kernel)
set_option maxRecDepth 65536 in
theorem w_c2 : (Jvm.Cond.code ({ cls := "java/lang/Record", name := "<init>", desc := "()V" } : Jvm.MethodName) jdk_30_method_1_code (1 : Nat) (Option.none : Option Jvm.ClassFile.FieldType)).before args0 about1 = true := code_word (m := ⟨2, 0⟩) (meth := k2m0) (c := k2c0) (by decide +kernel) rfl rfl rfl (by decide +kernel)
set_option maxRecDepth 65536 in
theorem w_c3 : (Jvm.Cond.code ({ cls := "java/lang/Object", name := "<init>", desc := "()V" } : Jvm.MethodName) object_method_1_code (1 : Nat) (Option.none : Option Jvm.ClassFile.FieldType)).before args0 about1 = true := code_word (m := ⟨0, 0⟩) (meth := k0m0) (c := k0c0) (by decide +kernel) rfl rfl rfl (by decide +kernel)
set_option maxRecDepth 65536 in
theorem w_c4 : (Jvm.Cond.code ({ cls := "com/example/trunkwright/trunkwright/design/Link", name := "arc", desc := "()Lcom/example/trunkwright/trunkwright/route/Arc;" } : Jvm.MethodName) prog_8_method_2_code (1 : Nat) (Option.some (Jvm.ClassFile.FieldType.object "com/example/trunkwright/trunkwright/route/Arc"))).before args0 about1 = true := code_word (m := ⟨3, 1⟩) (meth := k3m1) (c := k3c1) (by decide +kernel) rfl rfl rfl (by decide +kernel)
set_option maxRecDepth 65536 in
theorem w_c5 : (Jvm.Cond.code ({ cls := "com/example/trunkwright/trunkwright/route/Arc", name := "<init>", desc := "(II)V" } : Jvm.MethodName) prog_74_method_1_code (3 : Nat) (Option.none : Option Jvm.ClassFile.FieldType)).before args0 about1 = true := code_word (m := ⟨4, 0⟩) (meth := k4m0) (c := k4c0) (by decide +kernel) rfl rfl rfl (by decide +kernel)
set_option maxRecDepth 65536 in
theorem w_c6 : (Jvm.Cond.code ({ cls := "com/example/trunkwright/trunkwright/route/Arc", name := "from", desc := "()I" } : Jvm.MethodName) prog_74_method_6_code (1 : Nat) (Option.some Jvm.ClassFile.FieldType.int)).before args0 about1 = true := code_word (m := ⟨4, 1⟩) (meth := k4m1) (c := k4c1) (by decide +kernel) rfl rfl rfl (by decide +kernel)
set_option maxRecDepth 65536 in
theorem w_c7 : (Jvm.Cond.code ({ cls := "com/example/trunkwright/trunkwright/route/Arc", name := "to", desc := "()I" } : Jvm.MethodName) prog_74_method_7_code (1 : Nat) (Option.some Jvm.ClassFile.FieldType.int)).before args0 about1 = true := code_word (m := ⟨4, 2⟩) (meth := k4m2) (c := k4c2) (by decide +kernel) rfl rfl rfl (by decide +kernel)
def codes1 : List Jvm.Cond := [Jvm.Cond.code x code maxLocals ret, Jvm.Cond.code ({ cls := "com/example/trunkwright/trunkwright/design/Link", name := "<init>", desc := "(IIJ)V" } : Jvm.MethodName) prog_8_method_1_code (5 : Nat) (Option.none : Option Jvm.ClassFile.FieldType), Jvm.Cond.code ({ cls := "java/lang/Record", name := "<init>", desc := "()V" } : Jvm.MethodName) jdk_30_method_1_code (1 : Nat) (Option.none : Option Jvm.ClassFile.FieldType), Jvm.Cond.code ({ cls := "java/lang/Object", name := "<init>", desc := "()V" } : Jvm.MethodName) object_method_1_code (1 : Nat) (Option.none : Option Jvm.ClassFile.FieldType), Jvm.Cond.code ({ cls := "com/example/trunkwright/trunkwright/design/Link", name := "arc", desc := "()Lcom/example/trunkwright/trunkwright/route/Arc;" } : Jvm.MethodName) prog_8_method_2_code (1 : Nat) (Option.some (Jvm.ClassFile.FieldType.object "com/example/trunkwright/trunkwright/route/Arc")), Jvm.Cond.code ({ cls := "com/example/trunkwright/trunkwright/route/Arc", name := "<init>", desc := "(II)V" } : Jvm.MethodName) prog_74_method_1_code (3 : Nat) (Option.none : Option Jvm.ClassFile.FieldType), Jvm.Cond.code ({ cls := "com/example/trunkwright/trunkwright/route/Arc", name := "from", desc := "()I" } : Jvm.MethodName) prog_74_method_6_code (1 : Nat) (Option.some Jvm.ClassFile.FieldType.int), Jvm.Cond.code ({ cls := "com/example/trunkwright/trunkwright/route/Arc", name := "to", desc := "()I" } : Jvm.MethodName) prog_74_method_7_code (1 : Nat) (Option.some Jvm.ClassFile.FieldType.int)]
set_option maxRecDepth 65536 in
theorem codes_eq : words1.filter isCode = codes1 := rfl
theorem w_codes : ∀ c ∈ words1.filter isCode, c.before args0 about1 = true := by
  rw [codes_eq]
  intro c hc
  simp only [codes1, List.mem_cons, List.not_mem_nil, or_false] at hc
  rcases hc with rfl | rfl | rfl | rfl | rfl | rfl | rfl | rfl
  · exact w_c0
  · exact w_c1
  · exact w_c2
  · exact w_c3
  · exact w_c4
  · exact w_c5
  · exact w_c6
  · exact w_c7
set_option maxRecDepth 65536 in
theorem w_t1 : (words1.take 24).all (fun c => isCode c || c.before args0 about1) = true := by decide +kernel
set_option maxRecDepth 65536 in
theorem w_t2 : ((words1.drop 24).take 24).all (fun c => isCode c || c.before args0 about1) = true := by decide +kernel
set_option maxRecDepth 65536 in
theorem w_t3 : ((words1.drop 24).drop 24).all (fun c => isCode c || c.before args0 about1) = true := by decide +kernel
theorem w_tables : (allAtoms (Jvm.Cond.code x code maxLocals ret :: tables_1)).before args0 about1 = true := by
  rw [allAtoms_all]
  show words1.all (fun c => c.before args0 about1) = true
  refine all_split ?_ w_codes
  rw [← List.take_append_drop 24 words1, List.all_append, w_t1, ← List.take_append_drop 24 (words1.drop 24), List.all_append, w_t2, w_t3]
  rfl
set_option maxRecDepth 65536 in
theorem w_case : (Jvm.Cond.and given_1 narrow_1).before args0 about1 = true := by decide +kernel
theorem w_applies : (headSpec (Jvm.Cond.code x code maxLocals ret :: tables_1) room_1).applies x e0.platform about1 = true :=
  (Spec.applies_iff w_frames).mpr ⟨w_running, w_runnable, w_alone, w_named, w_hears, w_ripe, w_room, w_tables⟩
theorem atStart : AtStart classFile x code maxLocals ret World_1 tables_1 room_1 Calls_1 rest_1 Pre_1 launch0 p0 e0 about1 theMethod args0 below0 :=
  ⟨lists_1, trivial, launch0.admits_env _ _ _, launch0.least_env, fairChoices_fair.cas, fairChoices_fair.clock, w_frames, w_args, w_heap, w_applies, trivial, trivial, w_case⟩
end start1
theorem witness_1 : WitnessClaimed_1 := ⟨start1.p0, start1.e0, start1.about1, start1.theMethod, start1.args0, start1.below0, start1.atStart⟩
end Jvm.Pilot.@@N@@
