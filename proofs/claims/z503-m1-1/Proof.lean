import JvmDerived
import JvmDerived.Pilot.@@N@@Statement
import JvmDerived.Pilot.@@N@@Code
set_option linter.unusedVariables false
set_option linter.unusedSimpArgs false
namespace Jvm.Pilot.@@N@@
open Jvm Jvm.ClassFile Sem Op Lib Jvm.Free Jvm.Stand Jvm.LawKit Jvm.RoadKit Bundle Jvm.Pilot.@@N@@.Jvm.D
theorem own_frn {n0 n : Nat} {L : List Loc} (h : n0 = n) (N : Fr n0 L) : Fr n L := h ▸ N
theorem own_sta_keep {Z : State} {h h' : Heap} {C n d : String} {v : Value} (F : Sta Z h C n d v) (K : Keep h h' []) : Sta Z h' C n d v := by
  obtain ⟨cf, i, k, f, st, cell, h1, h2, h3, h4, h5, h6, h7⟩ := F
  exact ⟨cf, i, k, f, st, cell, h1, h2, h3, h4, K.2.1 _ _ h5 nin0, h6, h7⟩
theorem own_ord {args : Array Value} {s : State} {a : Addr} {t : Term} {C n d : String} {k : Int32} (ht : t.eval args s none [] s = some (.ref a)) (h : (Jvm.Cond.eq (Term.field t C n d) (Term.int k)).value args s none s [] = some true) : Fld s s.heap a C n d (.int k) := by
  obtain ⟨x, y, e1, e2, k1, k2⟩ := cmp_v (Or.inl h)
  rw [Term.int_eval] at e2
  cases e2
  obtain ⟨z, rfl⟩ := k2
  have e : z = k := by simpa [Cond.value, e1, Term.int_eval] using h
  subst e
  exact Fld.start ((fld_at ht).symm.trans e1)
theorem own_elem {args : Array Value} {s : State} {x : Addr} {t : Term} {cl : Cell} {j k : Int32} (ht : t.eval args s none [] s = some (.ref x)) (hc : s.heap[x]? = some cl) (h : (Jvm.Cond.eq (Term.elem t (Term.int j)) (Term.int k)).value args s none s [] = some true) : cl.slots[j.toNatClampNeg]? = some (.int k) := by
  obtain ⟨a, b, e1, e2, k1, k2⟩ := cmp_v (Or.inl h)
  rw [Term.int_eval] at e2
  cases e2
  obtain ⟨z, rfl⟩ := k2
  have e : z = k := by simpa [Cond.value, e1, Term.int_eval] using h
  subst e
  exact (elem_in e1 ht (Term.int_eval j) hc).2
theorem own_len {args : Array Value} {s : State} {x : Addr} {t : Term} {cl : Cell} {ty : FieldType} {k : Int32} (ht : t.eval args s none [] s = some (.ref x)) (Ar : Arr s s.heap x cl ty) (h : (Jvm.Cond.eq (Term.length t) (Term.int k)).value args s none s [] = some true) : cl.slots.size < 2 ^ 31 ∧ cl.slots.size.toInt32 = k := by
  obtain ⟨a, b, e1, e2, k1, k2⟩ := cmp_v (Or.inl h)
  rw [Term.int_eval] at e2
  cases e2
  obtain ⟨z, rfl⟩ := k2
  have e : z = k := by simpa [Cond.value, e1, Term.int_eval] using h
  subst e
  have q := Arr.fin (Vm.Alike.refl _) Ar
  simp only [Term.eval, ht, q, Option.bind_eq_bind, Option.bind_some] at e1
  split at e1
  · rename_i hlt
    exact ⟨hlt, Value.int.inj (Option.some.inj e1)⟩
  · cases e1
theorem own_sameRef {args : Array Value} {s : State} {x : Addr} {t u : Term} (hu : u.eval args s none [] s = some (.ref x)) (h : (Jvm.Cond.eq t u).value args s none s [] = some true) : t.eval args s none [] s = some (.ref x) := by
  obtain ⟨a, b, e1, e2, k1, k2⟩ := cmp_v (Or.inl h)
  cases hu.symm.trans e2
  rcases ref_cases k2.2 with rfl | ⟨y, rfl⟩
  · simp [Cond.value, e1, hu] at h
  · have e : y = x := by simpa [Cond.value, e1, hu] using h
    subst e; exact e1
theorem own_cz {args : Array Value} {s : State} {cz : Int32} (e : (Term.static "java/lang/String" "COMPACT_STRINGS" "Z").eval args s none [] s = some (.int cz)) (h : Jvm.Lit.compactW.before args s = true) : ¬ cz = (0 : Int32) := fun q => by
  subst q
  simp [Jvm.Lit.compactW, Cond.before, Cond.holds, Cond.value, e, Term.int_eval] at h
theorem own_endMono {s u : State} {o : Outcome} {L : List Loc} {k n k' n' : Nat} (h : ReturnedEndW s o u L k n) (hk : k ≤ k') (hn : n ≤ n') : ReturnedEndW s o u L k' n' := ⟨h.1, h.2.1, h.2.2.1, h.2.2.2.mono hk hn⟩
theorem own_and7 (x : Int32) : (x &&& (7 : Int32)) = (0 : Int32) ∨ (x &&& (7 : Int32)) = (1 : Int32) ∨ (x &&& (7 : Int32)) = (2 : Int32) ∨ (x &&& (7 : Int32)) = (3 : Int32) ∨ (x &&& (7 : Int32)) = (4 : Int32) ∨ (x &&& (7 : Int32)) = (5 : Int32) ∨ (x &&& (7 : Int32)) = (6 : Int32) ∨ (x &&& (7 : Int32)) = (7 : Int32) := by
  have h1 := c_mask x (7 : Int32) 3 (by decide) (by decide)
  have e0 : (0 : Int32).toInt = 0 := by decide
  have e1 : (1 : Int32).toInt = 1 := by decide
  have e2 : (2 : Int32).toInt = 2 := by decide
  have e3 : (3 : Int32).toInt = 3 := by decide
  have e4 : (4 : Int32).toInt = 4 := by decide
  have e5 : (5 : Int32).toInt = 5 := by decide
  have e6 : (6 : Int32).toInt = 6 := by decide
  have e7 : (7 : Int32).toInt = 7 := by decide
  simp only [← Int32.toInt_inj]
  omega
theorem own_atoms {a0 : Array Value} {Z : State} (hw : ∀ d ∈ tables_1, d.before a0 Z = true) : ∀ a ∈ Bundle.stringAtoms, a.before a0 Z = true := fun a ha => by
  simp only [Bundle.stringAtoms, List.mem_cons, List.not_mem_nil, or_false] at ha
  rcases ha with rfl | rfl | rfl | rfl | rfl | rfl | rfl
  · exact hw _ (List.mem_of_getElem? (i := 35) rfl)
  · exact hw _ (List.mem_of_getElem? (i := 36) rfl)
  · exact hw _ (List.mem_of_getElem? (i := 37) rfl)
  · exact hw _ (List.mem_of_getElem? (i := 38) rfl)
  · exact hw _ (List.mem_of_getElem? (i := 39) rfl)
  · exact hw _ (List.mem_of_getElem? (i := 40) rfl)
  · exact hw _ (List.mem_of_getElem? (i := 41) rfl)
theorem own_pn0 : plainName "com/example/firm_store/firmstore/Operator" = true := by first | (simp [plainName, overriddenIn]; done) | decide +kernel
theorem own_ef_rmPL (m : MethodId) (x0 : Addr) : entryFrame m #[(.ref x0)] 1 = mkF m 0 #[.val (.ref x0)] [] := by first | (simp [entryFrame, mkF, argsToLocals, Value.category]; done) | rfl
theorem own_d1_0 : decode prog_10_method_5_code 0 = .ok (.aload_n 0, 1) := by decide +kernel
theorem own_d1_1 : decode prog_10_method_5_code 1 = .ok (.getstatic 22, 3) := by decide +kernel
theorem own_d1_4 : decode prog_10_method_5_code 4 = .ok (.if_acmp .eq 10, 3) := by decide +kernel
theorem own_d1_14 : decode prog_10_method_5_code 14 = .ok (.iconst 1, 1) := by decide +kernel
theorem own_d1_15 : decode prog_10_method_5_code 15 = .ok (.goto 4, 3) := by decide +kernel
theorem own_d1_19 : decode prog_10_method_5_code 19 = .ok (.ireturn, 1) := by decide +kernel
def Q_rmPL (Z : State) (a1 aI : Addr) (h0 : Heap) (n0 : Nat) (v : Option Value) (h : Heap) (L : List Loc) : Prop := v = some (.int (1 : Int32)) ∧ Fr n0 L ∧ h = h0
set_option maxRecDepth 65536 in
set_option maxHeartbeats 40000000 in
theorem rmPL (l : Launch) (Z : State) (a0 : Array Value) (hw : ∀ d ∈ tables_1, d.before a0 Z = true) (ws : List Jvm.Cond) (a1 aI : Addr) (h0 : Heap) (n0 : Nat) (Z0 : n0 ≤ h0.size) (SL : Sta Z h0 "com/example/firm_store/firmstore/Operator" "LIKE" "Lcom/example/firm_store/firmstore/Operator;" (.ref a1)) (SI : Sta Z h0 "com/example/firm_store/firmstore/Operator" "ILIKE" "Lcom/example/firm_store/firmstore/Operator;" (.ref aI)) :
    MetFree l (⟨"com/example/firm_store/firmstore/Operator", "isPattern", "()Z"⟩ : MethodName) (head1 (Jvm.Cond.code (⟨"com/example/firm_store/firmstore/Operator", "isPattern", "()Z"⟩ : MethodName) prog_10_method_5_code 1 (some .boolean) :: ws) ({ frames := 0, cells := 0, slots := 0, locals := 0 } : Room)) (fun a U => a = #[(.ref a1)] ∧ Z.Warmed39 U.vm ∧ U.heap = h0) (fun _ _ _ _ _ => True) (fun _ U o U' => ∃ v L, o = .returned v ∧ Q_rmPL Z a1 aI h0 n0 v U'.heap L ∧ FrameEnd U o U' L ({ frames := 0, cells := 0, slots := 0, locals := 0 } : Room).cells ({ frames := 0, cells := 0, slots := 0, locals := 0 } : Room).slots) := by
  refine MetFree.of_bodySF (plainFor_of_name own_pn0) hisR ?_
  intro p e s m args below meth c s₁ Bd hml0 hP hK
  obtain ⟨rfl, hZ, hh⟩ := hP
  have hx := Bd.exec
  have hby := Bd.bytes
  have hml : c.maxLocals = 1 := hml0
  have hown : s.vm.findClass "com/example/firm_store/firmstore/Operator" = some m.cls := findClass_of_methodNamed Bd.named
  have hnm := (name_of_methodNamed Bd.named Bd.method).1
  have X0 : Stand p l e ({ frames := 0, cells := 0, slots := 0, locals := 0 } : Room) s m #[(.ref a1)] below meth c s₁ [] 0 0 := Stand.of_body Bd
  have e0 : s₁.heap = h0 := by rw [← hh, Bd.state]; rfl
  have N0 := Fr.nil n0
  have R0 : ∀ t, Steps p.tables e below (s₁.setTop (mkF m 0 #[.val (.ref a1)] [])) t → Steps p.tables e below (s₁.setTop (entryFrame m #[(.ref a1)] 1)) t := fun t k => castTop (own_ef_rmPL m a1) k
  have R1 : ∀ t, Steps p.tables e below (s₁.setTop (mkF m 1 #[.val (.ref a1)] [(.ref a1)])) t → Steps p.tables e below (s₁.setTop (entryFrame m #[(.ref a1)] 1)) t := by
    intro t k
    refine R0 t ?_
    show Steps p.tables e below (s₁.setTop (mkF m 0 #[.val (.ref a1)] [])) _
    refine XS.aloadN X0.here hx rfl (hb hby own_d1_0) rfl rfl ?_
    exact k
  obtain ⟨T2, X2, e2, st2⟩ := getS2 X0 hx hZ hown (host := "") (Or.inl (hw _ (List.mem_of_getElem? (i := 25) rfl))) Via.refl e0 SL (g := (mkF m 1 #[.val (.ref a1)] [(.ref a1)])) rfl (hb hby own_d1_1)
  have R2 : ∀ t, Steps p.tables e below (T2.setTop (mkF m 4 #[.val (.ref a1)] [(.ref a1), (.ref a1)])) t → Steps p.tables e below (s₁.setTop (entryFrame m #[(.ref a1)] 1)) t := fun t k => R1 t (st2 t k)
  have R3 : ∀ t, Steps p.tables e below (T2.setTop (mkF m 19 #[.val (.ref a1)] [(.int (1 : Int32))])) t → Steps p.tables e below (s₁.setTop (entryFrame m #[(.ref a1)] 1)) t := by
    intro t k
    refine R2 t ?_
    show Steps p.tables e below (T2.setTop (mkF m 4 #[.val (.ref a1)] [(.ref a1), (.ref a1)])) _
    refine Jvm.RoadKit.acmp (g := (mkF m 4 #[.val (.ref a1)] [(.ref a1), (.ref a1)])) X2 hx rfl rfl rfl (pc0 := 4) (pc' := 14) (same := true) rfl (hb hby own_d1_4) rfl (decide_eq_true rfl) (by decide) (by decide) ?_
    show Steps p.tables e below (T2.setTop (mkF m 14 #[.val (.ref a1)] [])) _
    refine XS.iconst X2.here hx rfl (hb hby own_d1_14) ?_
    show Steps p.tables e below (T2.setTop (mkF m 15 #[.val (.ref a1)] [(.int (1 : Int32))])) _
    refine XS.goto X2.here hx rfl (pc0 := 15) (pc' := 19) rfl (hb hby own_d1_15) (by decide) (by decide) ?_
    exact k
  obtain ⟨fs, hr, hrun, hended, hW, hsame⟩ := X2.leave (v := some (.int (1 : Int32))) (fun h => by rw [Bd.returns] at h; cases h)
  refine ⟨_, _, R3 _ ?_, hrun, hended, _, _, rfl, ?_, ⟨_, rfl⟩, hW, hsame.mono (by decide) (by decide)⟩
  · exact retN X2 hx (t := .boolean) Bd.returns (by simp) (hb hby own_d1_19) hr
  · show Q_rmPL Z a1 aI h0 n0 _ T2.heap _
    rw [e2]
    exact ⟨rfl, N0, rfl⟩
theorem own_ef_rmPI (m : MethodId) (x0 : Addr) : entryFrame m #[(.ref x0)] 1 = mkF m 0 #[.val (.ref x0)] [] := by first | (simp [entryFrame, mkF, argsToLocals, Value.category]; done) | rfl
theorem own_d1_7 : decode prog_10_method_5_code 7 = .ok (.aload_n 0, 1) := by decide +kernel
theorem own_d1_8 : decode prog_10_method_5_code 8 = .ok (.getstatic 25, 3) := by decide +kernel
theorem own_d1_11 : decode prog_10_method_5_code 11 = .ok (.if_acmp .ne 7, 3) := by decide +kernel
def Q_rmPI (Z : State) (a1 aL : Addr) (h0 : Heap) (n0 : Nat) (v : Option Value) (h : Heap) (L : List Loc) : Prop := v = some (.int (1 : Int32)) ∧ Fr n0 L ∧ h = h0
set_option maxRecDepth 65536 in
set_option maxHeartbeats 40000000 in
theorem rmPI (l : Launch) (Z : State) (a0 : Array Value) (hw : ∀ d ∈ tables_1, d.before a0 Z = true) (ws : List Jvm.Cond) (a1 aL : Addr) (h0 : Heap) (n0 : Nat) (Z0 : n0 ≤ h0.size) (SL : Sta Z h0 "com/example/firm_store/firmstore/Operator" "LIKE" "Lcom/example/firm_store/firmstore/Operator;" (.ref aL)) (SI : Sta Z h0 "com/example/firm_store/firmstore/Operator" "ILIKE" "Lcom/example/firm_store/firmstore/Operator;" (.ref a1)) (n1 : a1 ≠ aL) :
    MetFree l (⟨"com/example/firm_store/firmstore/Operator", "isPattern", "()Z"⟩ : MethodName) (head1 (Jvm.Cond.code (⟨"com/example/firm_store/firmstore/Operator", "isPattern", "()Z"⟩ : MethodName) prog_10_method_5_code 1 (some .boolean) :: ws) ({ frames := 0, cells := 0, slots := 0, locals := 0 } : Room)) (fun a U => a = #[(.ref a1)] ∧ Z.Warmed39 U.vm ∧ U.heap = h0) (fun _ _ _ _ _ => True) (fun _ U o U' => ∃ v L, o = .returned v ∧ Q_rmPI Z a1 aL h0 n0 v U'.heap L ∧ FrameEnd U o U' L ({ frames := 0, cells := 0, slots := 0, locals := 0 } : Room).cells ({ frames := 0, cells := 0, slots := 0, locals := 0 } : Room).slots) := by
  refine MetFree.of_bodySF (plainFor_of_name own_pn0) hisR ?_
  intro p e s m args below meth c s₁ Bd hml0 hP hK
  obtain ⟨rfl, hZ, hh⟩ := hP
  have hx := Bd.exec
  have hby := Bd.bytes
  have hml : c.maxLocals = 1 := hml0
  have hown : s.vm.findClass "com/example/firm_store/firmstore/Operator" = some m.cls := findClass_of_methodNamed Bd.named
  have hnm := (name_of_methodNamed Bd.named Bd.method).1
  have X0 : Stand p l e ({ frames := 0, cells := 0, slots := 0, locals := 0 } : Room) s m #[(.ref a1)] below meth c s₁ [] 0 0 := Stand.of_body Bd
  have e0 : s₁.heap = h0 := by rw [← hh, Bd.state]; rfl
  have N0 := Fr.nil n0
  have R0 : ∀ t, Steps p.tables e below (s₁.setTop (mkF m 0 #[.val (.ref a1)] [])) t → Steps p.tables e below (s₁.setTop (entryFrame m #[(.ref a1)] 1)) t := fun t k => castTop (own_ef_rmPI m a1) k
  have R1 : ∀ t, Steps p.tables e below (s₁.setTop (mkF m 1 #[.val (.ref a1)] [(.ref a1)])) t → Steps p.tables e below (s₁.setTop (entryFrame m #[(.ref a1)] 1)) t := by
    intro t k
    refine R0 t ?_
    show Steps p.tables e below (s₁.setTop (mkF m 0 #[.val (.ref a1)] [])) _
    refine XS.aloadN X0.here hx rfl (hb hby own_d1_0) rfl rfl ?_
    exact k
  obtain ⟨T2, X2, e2, st2⟩ := getS2 X0 hx hZ hown (host := "") (Or.inl (hw _ (List.mem_of_getElem? (i := 25) rfl))) Via.refl e0 SL (g := (mkF m 1 #[.val (.ref a1)] [(.ref a1)])) rfl (hb hby own_d1_1)
  have R2 : ∀ t, Steps p.tables e below (T2.setTop (mkF m 4 #[.val (.ref a1)] [(.ref aL), (.ref a1)])) t → Steps p.tables e below (s₁.setTop (entryFrame m #[(.ref a1)] 1)) t := fun t k => R1 t (st2 t k)
  have R3 : ∀ t, Steps p.tables e below (T2.setTop (mkF m 8 #[.val (.ref a1)] [(.ref a1)])) t → Steps p.tables e below (s₁.setTop (entryFrame m #[(.ref a1)] 1)) t := by
    intro t k
    refine R2 t ?_
    show Steps p.tables e below (T2.setTop (mkF m 4 #[.val (.ref a1)] [(.ref aL), (.ref a1)])) _
    refine Jvm.RoadKit.acmp (g := (mkF m 4 #[.val (.ref a1)] [(.ref aL), (.ref a1)])) X2 hx rfl rfl rfl (pc0 := 4) (pc' := 7) (same := false) rfl (hb hby own_d1_4) rfl (decide_eq_false fun q => n1 (Value.ref.inj q)) (by decide) (by decide) ?_
    show Steps p.tables e below (T2.setTop (mkF m 7 #[.val (.ref a1)] [])) _
    refine XS.aloadN X2.here hx rfl (hb hby own_d1_7) rfl rfl ?_
    exact k
  obtain ⟨T4, X4, e4, st4⟩ := getS2 X2 hx hZ hown (host := "") (Or.inl (hw _ (List.mem_of_getElem? (i := 26) rfl))) Via.refl e2 SI (g := (mkF m 8 #[.val (.ref a1)] [(.ref a1)])) rfl (hb hby own_d1_8)
  have R4 : ∀ t, Steps p.tables e below (T4.setTop (mkF m 11 #[.val (.ref a1)] [(.ref a1), (.ref a1)])) t → Steps p.tables e below (s₁.setTop (entryFrame m #[(.ref a1)] 1)) t := fun t k => R3 t (st4 t k)
  have R5 : ∀ t, Steps p.tables e below (T4.setTop (mkF m 19 #[.val (.ref a1)] [(.int (1 : Int32))])) t → Steps p.tables e below (s₁.setTop (entryFrame m #[(.ref a1)] 1)) t := by
    intro t k
    refine R4 t ?_
    show Steps p.tables e below (T4.setTop (mkF m 11 #[.val (.ref a1)] [(.ref a1), (.ref a1)])) _
    refine Jvm.RoadKit.acmp (g := (mkF m 11 #[.val (.ref a1)] [(.ref a1), (.ref a1)])) X4 hx rfl rfl rfl (pc0 := 11) (pc' := 14) (same := true) rfl (hb hby own_d1_11) rfl (decide_eq_true rfl) (by decide) (by decide) ?_
    show Steps p.tables e below (T4.setTop (mkF m 14 #[.val (.ref a1)] [])) _
    refine XS.iconst X4.here hx rfl (hb hby own_d1_14) ?_
    show Steps p.tables e below (T4.setTop (mkF m 15 #[.val (.ref a1)] [(.int (1 : Int32))])) _
    refine XS.goto X4.here hx rfl (pc0 := 15) (pc' := 19) rfl (hb hby own_d1_15) (by decide) (by decide) ?_
    exact k
  obtain ⟨fs, hr, hrun, hended, hW, hsame⟩ := X4.leave (v := some (.int (1 : Int32))) (fun h => by rw [Bd.returns] at h; cases h)
  refine ⟨_, _, R5 _ ?_, hrun, hended, _, _, rfl, ?_, ⟨_, rfl⟩, hW, hsame.mono (by decide) (by decide)⟩
  · exact retN X4 hx (t := .boolean) Bd.returns (by simp) (hb hby own_d1_19) hr
  · show Q_rmPI Z a1 aL h0 n0 _ T4.heap _
    rw [e4]
    exact ⟨rfl, N0, rfl⟩
theorem own_ef_rmPN (m : MethodId) (x0 : Addr) : entryFrame m #[(.ref x0)] 1 = mkF m 0 #[.val (.ref x0)] [] := by first | (simp [entryFrame, mkF, argsToLocals, Value.category]; done) | rfl
theorem own_d1_18 : decode prog_10_method_5_code 18 = .ok (.iconst 0, 1) := by decide +kernel
def Q_rmPN (Z : State) (a1 aL aI : Addr) (h0 : Heap) (n0 : Nat) (v : Option Value) (h : Heap) (L : List Loc) : Prop := v = some (.int (0 : Int32)) ∧ Fr n0 L ∧ h = h0
set_option maxRecDepth 65536 in
set_option maxHeartbeats 40000000 in
theorem rmPN (l : Launch) (Z : State) (a0 : Array Value) (hw : ∀ d ∈ tables_1, d.before a0 Z = true) (ws : List Jvm.Cond) (a1 aL aI : Addr) (h0 : Heap) (n0 : Nat) (Z0 : n0 ≤ h0.size) (SL : Sta Z h0 "com/example/firm_store/firmstore/Operator" "LIKE" "Lcom/example/firm_store/firmstore/Operator;" (.ref aL)) (SI : Sta Z h0 "com/example/firm_store/firmstore/Operator" "ILIKE" "Lcom/example/firm_store/firmstore/Operator;" (.ref aI)) (n1 : a1 ≠ aL) (n2 : a1 ≠ aI) :
    MetFree l (⟨"com/example/firm_store/firmstore/Operator", "isPattern", "()Z"⟩ : MethodName) (head1 (Jvm.Cond.code (⟨"com/example/firm_store/firmstore/Operator", "isPattern", "()Z"⟩ : MethodName) prog_10_method_5_code 1 (some .boolean) :: ws) ({ frames := 0, cells := 0, slots := 0, locals := 0 } : Room)) (fun a U => a = #[(.ref a1)] ∧ Z.Warmed39 U.vm ∧ U.heap = h0) (fun _ _ _ _ _ => True) (fun _ U o U' => ∃ v L, o = .returned v ∧ Q_rmPN Z a1 aL aI h0 n0 v U'.heap L ∧ FrameEnd U o U' L ({ frames := 0, cells := 0, slots := 0, locals := 0 } : Room).cells ({ frames := 0, cells := 0, slots := 0, locals := 0 } : Room).slots) := by
  refine MetFree.of_bodySF (plainFor_of_name own_pn0) hisR ?_
  intro p e s m args below meth c s₁ Bd hml0 hP hK
  obtain ⟨rfl, hZ, hh⟩ := hP
  have hx := Bd.exec
  have hby := Bd.bytes
  have hml : c.maxLocals = 1 := hml0
  have hown : s.vm.findClass "com/example/firm_store/firmstore/Operator" = some m.cls := findClass_of_methodNamed Bd.named
  have hnm := (name_of_methodNamed Bd.named Bd.method).1
  have X0 : Stand p l e ({ frames := 0, cells := 0, slots := 0, locals := 0 } : Room) s m #[(.ref a1)] below meth c s₁ [] 0 0 := Stand.of_body Bd
  have e0 : s₁.heap = h0 := by rw [← hh, Bd.state]; rfl
  have N0 := Fr.nil n0
  have R0 : ∀ t, Steps p.tables e below (s₁.setTop (mkF m 0 #[.val (.ref a1)] [])) t → Steps p.tables e below (s₁.setTop (entryFrame m #[(.ref a1)] 1)) t := fun t k => castTop (own_ef_rmPN m a1) k
  have R1 : ∀ t, Steps p.tables e below (s₁.setTop (mkF m 1 #[.val (.ref a1)] [(.ref a1)])) t → Steps p.tables e below (s₁.setTop (entryFrame m #[(.ref a1)] 1)) t := by
    intro t k
    refine R0 t ?_
    show Steps p.tables e below (s₁.setTop (mkF m 0 #[.val (.ref a1)] [])) _
    refine XS.aloadN X0.here hx rfl (hb hby own_d1_0) rfl rfl ?_
    exact k
  obtain ⟨T2, X2, e2, st2⟩ := getS2 X0 hx hZ hown (host := "") (Or.inl (hw _ (List.mem_of_getElem? (i := 25) rfl))) Via.refl e0 SL (g := (mkF m 1 #[.val (.ref a1)] [(.ref a1)])) rfl (hb hby own_d1_1)
  have R2 : ∀ t, Steps p.tables e below (T2.setTop (mkF m 4 #[.val (.ref a1)] [(.ref aL), (.ref a1)])) t → Steps p.tables e below (s₁.setTop (entryFrame m #[(.ref a1)] 1)) t := fun t k => R1 t (st2 t k)
  have R3 : ∀ t, Steps p.tables e below (T2.setTop (mkF m 8 #[.val (.ref a1)] [(.ref a1)])) t → Steps p.tables e below (s₁.setTop (entryFrame m #[(.ref a1)] 1)) t := by
    intro t k
    refine R2 t ?_
    show Steps p.tables e below (T2.setTop (mkF m 4 #[.val (.ref a1)] [(.ref aL), (.ref a1)])) _
    refine Jvm.RoadKit.acmp (g := (mkF m 4 #[.val (.ref a1)] [(.ref aL), (.ref a1)])) X2 hx rfl rfl rfl (pc0 := 4) (pc' := 7) (same := false) rfl (hb hby own_d1_4) rfl (decide_eq_false fun q => n1 (Value.ref.inj q)) (by decide) (by decide) ?_
    show Steps p.tables e below (T2.setTop (mkF m 7 #[.val (.ref a1)] [])) _
    refine XS.aloadN X2.here hx rfl (hb hby own_d1_7) rfl rfl ?_
    exact k
  obtain ⟨T4, X4, e4, st4⟩ := getS2 X2 hx hZ hown (host := "") (Or.inl (hw _ (List.mem_of_getElem? (i := 26) rfl))) Via.refl e2 SI (g := (mkF m 8 #[.val (.ref a1)] [(.ref a1)])) rfl (hb hby own_d1_8)
  have R4 : ∀ t, Steps p.tables e below (T4.setTop (mkF m 11 #[.val (.ref a1)] [(.ref aI), (.ref a1)])) t → Steps p.tables e below (s₁.setTop (entryFrame m #[(.ref a1)] 1)) t := fun t k => R3 t (st4 t k)
  have R5 : ∀ t, Steps p.tables e below (T4.setTop (mkF m 19 #[.val (.ref a1)] [(.int (0 : Int32))])) t → Steps p.tables e below (s₁.setTop (entryFrame m #[(.ref a1)] 1)) t := by
    intro t k
    refine R4 t ?_
    show Steps p.tables e below (T4.setTop (mkF m 11 #[.val (.ref a1)] [(.ref aI), (.ref a1)])) _
    refine Jvm.RoadKit.acmp (g := (mkF m 11 #[.val (.ref a1)] [(.ref aI), (.ref a1)])) X4 hx rfl rfl rfl (pc0 := 11) (pc' := 18) (same := false) rfl (hb hby own_d1_11) rfl (decide_eq_false fun q => n2 (Value.ref.inj q)) (by decide) (by decide) ?_
    show Steps p.tables e below (T4.setTop (mkF m 18 #[.val (.ref a1)] [])) _
    refine XS.iconst X4.here hx rfl (hb hby own_d1_18) ?_
    exact k
  obtain ⟨fs, hr, hrun, hended, hW, hsame⟩ := X4.leave (v := some (.int (0 : Int32))) (fun h => by rw [Bd.returns] at h; cases h)
  refine ⟨_, _, R5 _ ?_, hrun, hended, _, _, rfl, ?_, ⟨_, rfl⟩, hW, hsame.mono (by decide) (by decide)⟩
  · exact retN X4 hx (t := .boolean) Bd.returns (by simp) (hb hby own_d1_19) hr
  · show Q_rmPN Z a1 aL aI h0 n0 _ T4.heap _
    rw [e4]
    exact ⟨rfl, N0, rfl⟩
theorem own_ef_rmSql (m : MethodId) (x0 : Addr) : entryFrame m #[(.ref x0)] 1 = mkF m 0 #[.val (.ref x0)] [] := by first | (simp [entryFrame, mkF, argsToLocals, Value.category]; done) | rfl
theorem own_d2_0 : decode prog_10_method_4_code 0 = .ok (.aload_n 0, 1) := by decide +kernel
theorem own_d2_1 : decode prog_10_method_4_code 1 = .ok (.getfield 47, 3) := by decide +kernel
theorem own_d2_4 : decode prog_10_method_4_code 4 = .ok (.areturn, 1) := by decide +kernel
def Q_rmSql (Z : State) (a1 b1 : Addr) (h0 : Heap) (n0 : Nat) (v : Option Value) (h : Heap) (L : List Loc) : Prop := v = some (.ref b1) ∧ Fr n0 L ∧ h = h0
set_option maxRecDepth 65536 in
set_option maxHeartbeats 40000000 in
theorem rmSql (l : Launch) (Z : State) (a0 : Array Value) (hw : ∀ d ∈ tables_1, d.before a0 Z = true) (ws : List Jvm.Cond) (a1 b1 : Addr) (h0 : Heap) (n0 : Nat) (Z0 : n0 ≤ h0.size) (Fs : Fld Z h0 a1 "com/example/firm_store/firmstore/Operator" "sql" "Ljava/lang/String;" (.ref b1)) :
    MetFree l (⟨"com/example/firm_store/firmstore/Operator", "sql", "()Ljava/lang/String;"⟩ : MethodName) (head1 (Jvm.Cond.code (⟨"com/example/firm_store/firmstore/Operator", "sql", "()Ljava/lang/String;"⟩ : MethodName) prog_10_method_4_code 1 (some (.object "java/lang/String")) :: ws) ({ frames := 0, cells := 0, slots := 0, locals := 0 } : Room)) (fun a U => a = #[(.ref a1)] ∧ Z.Warmed39 U.vm ∧ U.heap = h0) (fun _ _ _ _ _ => True) (fun _ U o U' => ∃ v L, o = .returned v ∧ Q_rmSql Z a1 b1 h0 n0 v U'.heap L ∧ FrameEnd U o U' L ({ frames := 0, cells := 0, slots := 0, locals := 0 } : Room).cells ({ frames := 0, cells := 0, slots := 0, locals := 0 } : Room).slots) := by
  refine MetFree.of_bodySF (plainFor_of_name own_pn0) hisR ?_
  intro p e s m args below meth c s₁ Bd hml0 hP hK
  obtain ⟨rfl, hZ, hh⟩ := hP
  have hx := Bd.exec
  have hby := Bd.bytes
  have hml : c.maxLocals = 1 := hml0
  have hown : s.vm.findClass "com/example/firm_store/firmstore/Operator" = some m.cls := findClass_of_methodNamed Bd.named
  have hnm := (name_of_methodNamed Bd.named Bd.method).1
  have X0 : Stand p l e ({ frames := 0, cells := 0, slots := 0, locals := 0 } : Room) s m #[(.ref a1)] below meth c s₁ [] 0 0 := Stand.of_body Bd
  have e0 : s₁.heap = h0 := by rw [← hh, Bd.state]; rfl
  have N0 := Fr.nil n0
  have R0 : ∀ t, Steps p.tables e below (s₁.setTop (mkF m 0 #[.val (.ref a1)] [])) t → Steps p.tables e below (s₁.setTop (entryFrame m #[(.ref a1)] 1)) t := fun t k => castTop (own_ef_rmSql m a1) k
  have R1 : ∀ t, Steps p.tables e below (s₁.setTop (mkF m 1 #[.val (.ref a1)] [(.ref a1)])) t → Steps p.tables e below (s₁.setTop (entryFrame m #[(.ref a1)] 1)) t := by
    intro t k
    refine R0 t ?_
    show Steps p.tables e below (s₁.setTop (mkF m 0 #[.val (.ref a1)] [])) _
    refine XS.aloadN X0.here hx rfl (hb hby own_d2_0) rfl rfl ?_
    exact k
  obtain ⟨T2, X2, e2, st2⟩ := getF X0 hx hZ hown (host := "") (Or.inl (hw _ (List.mem_of_getElem? (i := 32) rfl))) Via.refl e0 Fs (g := (mkF m 1 #[.val (.ref a1)] [(.ref a1)])) rfl rfl (hb hby own_d2_1)
  have R2 : ∀ t, Steps p.tables e below (T2.setTop (mkF m 4 #[.val (.ref a1)] [(.ref b1)])) t → Steps p.tables e below (s₁.setTop (entryFrame m #[(.ref a1)] 1)) t := fun t k => R1 t (st2 t k)
  obtain ⟨fs, hr, hrun, hended, hW, hsame⟩ := X2.leave (v := some (.ref b1)) (fun h => by rw [Bd.returns] at h; cases h)
  refine ⟨_, _, R2 _ ?_, hrun, hended, _, _, rfl, ?_, ⟨_, rfl⟩, hW, hsame.mono (by decide) (by decide)⟩
  · exact retOut X2 hx Bd.returns rfl (Or.inr (Or.inr (Or.inr (Or.inr ⟨rfl, rfl, rfl⟩)))) (hb hby own_d2_4) hr
  · show Q_rmSql Z a1 b1 h0 n0 _ T2.heap _
    rw [e2]
    exact ⟨rfl, N0, rfl⟩
theorem own_pn1 : plainName "java/lang/StringLatin1" = true := by first | (simp [plainName, overriddenIn]; done) | decide +kernel
theorem own_ef_rmLD (m : MethodId) (x0 : Addr) (x1 : Addr) : entryFrame m #[(.ref x0), (.ref x1)] 3 = mkF m 0 #[.val (.ref x0), .val (.ref x1), .unset] [] := by first | (simp [entryFrame, mkF, argsToLocals, Value.category]; done) | rfl
theorem own_d4_0 : decode jdk_43_method_13_code 0 = .ok (.aload_n 0, 1) := by decide +kernel
theorem own_d4_1 : decode jdk_43_method_13_code 1 = .ok (.arraylength, 1) := by decide +kernel
theorem own_d4_2 : decode jdk_43_method_13_code 2 = .ok (.aload_n 1, 1) := by decide +kernel
theorem own_d4_3 : decode jdk_43_method_13_code 3 = .ok (.arraylength, 1) := by decide +kernel
theorem own_d4_4 : decode jdk_43_method_13_code 4 = .ok (.if_icmp .ne 30, 3) := by decide +kernel
theorem own_d4_34 : decode jdk_43_method_13_code 34 = .ok (.iconst 0, 1) := by decide +kernel
theorem own_d4_35 : decode jdk_43_method_13_code 35 = .ok (.ireturn, 1) := by decide +kernel
def Q_rmLD (Z : State) (a1 a2 : Addr) (k1 k2 : ClassId) (z1 z2 : Int32) (v1 v2 : List Value) (h0 : Heap) (n0 : Nat) (v : Option Value) (h : Heap) (L : List Loc) : Prop := v = some (.int (0 : Int32)) ∧ Fr n0 L ∧ h = h0
set_option maxRecDepth 65536 in
set_option maxHeartbeats 40000000 in
theorem rmLD (l : Launch) (Z : State) (a0 : Array Value) (hw : ∀ d ∈ tables_1, d.before a0 Z = true) (ws : List Jvm.Cond) (a1 a2 : Addr) (k1 k2 : ClassId) (z1 z2 : Int32) (v1 v2 : List Value) (h0 : Heap) (n0 : Nat) (Z0 : n0 ≤ h0.size) (V1 : Arv Z h0 a1 k1 .byte z1 v1 (.int (0 : Int32))) (V2 : Arv Z h0 a2 k2 .byte z2 v2 (.int (0 : Int32))) (hz : ¬ z1 = z2) :
    MetFree l (⟨"java/lang/StringLatin1", "equals", "([B[B)Z"⟩ : MethodName) (head1 (Jvm.Cond.code (⟨"java/lang/StringLatin1", "equals", "([B[B)Z"⟩ : MethodName) jdk_43_method_13_code 3 (some .boolean) :: ws) ({ frames := 0, cells := 0, slots := 0, locals := 0 } : Room)) (fun a U => a = #[(.ref a1), (.ref a2)] ∧ Z.Warmed39 U.vm ∧ U.heap = h0) (fun _ _ _ _ _ => True) (fun _ U o U' => ∃ v L, o = .returned v ∧ Q_rmLD Z a1 a2 k1 k2 z1 z2 v1 v2 h0 n0 v U'.heap L ∧ FrameEnd U o U' L ({ frames := 0, cells := 0, slots := 0, locals := 0 } : Room).cells ({ frames := 0, cells := 0, slots := 0, locals := 0 } : Room).slots) := by
  refine MetFree.of_bodySF (plainFor_of_name own_pn1) hisR ?_
  intro p e s m args below meth c s₁ Bd hml0 hP hK
  obtain ⟨rfl, hZ, hh⟩ := hP
  have hx := Bd.exec
  have hby := Bd.bytes
  have hml : c.maxLocals = 3 := hml0
  have hown : s.vm.findClass "java/lang/StringLatin1" = some m.cls := findClass_of_methodNamed Bd.named
  have hnm := (name_of_methodNamed Bd.named Bd.method).1
  have X0 : Stand p l e ({ frames := 0, cells := 0, slots := 0, locals := 0 } : Room) s m #[(.ref a1), (.ref a2)] below meth c s₁ [] 0 0 := Stand.of_body Bd
  have e0 : s₁.heap = h0 := by rw [← hh, Bd.state]; rfl
  have N0 := Fr.nil n0
  have R0 : ∀ t, Steps p.tables e below (s₁.setTop (mkF m 0 #[.val (.ref a1), .val (.ref a2), .unset] [])) t → Steps p.tables e below (s₁.setTop (entryFrame m #[(.ref a1), (.ref a2)] 3)) t := fun t k => castTop (own_ef_rmLD m a1 a2) k
  have R1 : ∀ t, Steps p.tables e below (s₁.setTop (mkF m 1 #[.val (.ref a1), .val (.ref a2), .unset] [(.ref a1)])) t → Steps p.tables e below (s₁.setTop (entryFrame m #[(.ref a1), (.ref a2)] 3)) t := by
    intro t k
    refine R0 t ?_
    show Steps p.tables e below (s₁.setTop (mkF m 0 #[.val (.ref a1), .val (.ref a2), .unset] [])) _
    refine XS.aloadN X0.here hx rfl (hb hby own_d4_0) rfl rfl ?_
    exact k
  obtain ⟨cl2, Ar2, q2, S2, N2', H2, G2⟩ := id V1
  have R3 : ∀ t, Steps p.tables e below (s₁.setTop (mkF m 3 #[.val (.ref a1), .val (.ref a2), .unset] [(.ref a2), (.int z1)])) t → Steps p.tables e below (s₁.setTop (entryFrame m #[(.ref a1), (.ref a2)] 3)) t := by
    intro t k
    refine R1 t ?_
    show Steps p.tables e below (s₁.setTop (mkF m 1 #[.val (.ref a1), .val (.ref a2), .unset] [(.ref a1)])) _
    refine X0.arraylength hx (by rw [e0]; exact Ar2.1) (State.isArrayOf_alike hZ.alike Ar2.2.1) (g := (mkF m 1 #[.val (.ref a1), .val (.ref a2), .unset] [(.ref a1)])) rfl rfl (hb hby own_d4_1) _ ?_
    rw [len_of S2 N2']
    show Steps p.tables e below (s₁.setTop (mkF m 2 #[.val (.ref a1), .val (.ref a2), .unset] [(.int z1)])) _
    refine XS.aloadN X0.here hx rfl (hb hby own_d4_2) rfl rfl ?_
    exact k
  obtain ⟨cl4, Ar4, q4, S4, N4', H4, G4⟩ := id V2
  have R5 : ∀ t, Steps p.tables e below (s₁.setTop (mkF m 35 #[.val (.ref a1), .val (.ref a2), .unset] [(.int (0 : Int32))])) t → Steps p.tables e below (s₁.setTop (entryFrame m #[(.ref a1), (.ref a2)] 3)) t := by
    intro t k
    refine R3 t ?_
    show Steps p.tables e below (s₁.setTop (mkF m 3 #[.val (.ref a1), .val (.ref a2), .unset] [(.ref a2), (.int z1)])) _
    refine X0.arraylength hx (by rw [e0]; exact Ar4.1) (State.isArrayOf_alike hZ.alike Ar4.2.1) (g := (mkF m 3 #[.val (.ref a1), .val (.ref a2), .unset] [(.ref a2), (.int z1)])) rfl rfl (hb hby own_d4_3) _ ?_
    rw [len_of S4 N4']
    show Steps p.tables e below (s₁.setTop (mkF m 4 #[.val (.ref a1), .val (.ref a2), .unset] [(.int z2), (.int z1)])) _
    refine XS.icmpYes X0.here hx rfl (pc0 := 4) (pc' := 34) rfl (hb hby own_d4_4) rfl (feq hz).2 (by decide) (by decide) ?_
    show Steps p.tables e below (s₁.setTop (mkF m 34 #[.val (.ref a1), .val (.ref a2), .unset] [])) _
    refine XS.iconst X0.here hx rfl (hb hby own_d4_34) ?_
    exact k
  obtain ⟨fs, hr, hrun, hended, hW, hsame⟩ := X0.leave (v := some (.int (0 : Int32))) (fun h => by rw [Bd.returns] at h; cases h)
  refine ⟨_, _, R5 _ ?_, hrun, hended, _, _, rfl, ?_, ⟨_, rfl⟩, hW, hsame.mono (by decide) (by decide)⟩
  · exact retN X0 hx (t := .boolean) Bd.returns (by simp) (hb hby own_d4_35) hr
  · show Q_rmLD Z a1 a2 k1 k2 z1 z2 v1 v2 h0 n0 _ s₁.heap _
    rw [e0]
    exact ⟨rfl, N0, rfl⟩
theorem own_ef_rmLE (m : MethodId) (x0 : Addr) (x1 : Addr) : entryFrame m #[(.ref x0), (.ref x1)] 3 = mkF m 0 #[.val (.ref x0), .val (.ref x1), .unset] [] := by first | (simp [entryFrame, mkF, argsToLocals, Value.category]; done) | rfl
theorem own_d4_7 : decode jdk_43_method_13_code 7 = .ok (.iconst 0, 1) := by decide +kernel
theorem own_d4_8 : decode jdk_43_method_13_code 8 = .ok (.istore_n 2, 1) := by decide +kernel
theorem own_d4_9 : decode jdk_43_method_13_code 9 = .ok (.iload_n 2, 1) := by decide +kernel
theorem own_d4_10 : decode jdk_43_method_13_code 10 = .ok (.aload_n 0, 1) := by decide +kernel
theorem own_d4_11 : decode jdk_43_method_13_code 11 = .ok (.arraylength, 1) := by decide +kernel
theorem own_d4_12 : decode jdk_43_method_13_code 12 = .ok (.if_icmp .ge 20, 3) := by decide +kernel
theorem own_d4_15 : decode jdk_43_method_13_code 15 = .ok (.aload_n 0, 1) := by decide +kernel
theorem own_d4_16 : decode jdk_43_method_13_code 16 = .ok (.iload_n 2, 1) := by decide +kernel
theorem own_d4_17 : decode jdk_43_method_13_code 17 = .ok (.baload, 1) := by decide +kernel
theorem own_d4_18 : decode jdk_43_method_13_code 18 = .ok (.aload_n 1, 1) := by decide +kernel
theorem own_d4_19 : decode jdk_43_method_13_code 19 = .ok (.iload_n 2, 1) := by decide +kernel
theorem own_d4_20 : decode jdk_43_method_13_code 20 = .ok (.baload, 1) := by decide +kernel
theorem own_d4_21 : decode jdk_43_method_13_code 21 = .ok (.if_icmp .eq 5, 3) := by decide +kernel
theorem own_d4_26 : decode jdk_43_method_13_code 26 = .ok (.iinc 2 1, 3) := by decide +kernel
theorem own_d4_29 : decode jdk_43_method_13_code 29 = .ok (.goto (-20), 3) := by decide +kernel
theorem own_d4_32 : decode jdk_43_method_13_code 32 = .ok (.iconst 1, 1) := by decide +kernel
theorem own_d4_33 : decode jdk_43_method_13_code 33 = .ok (.ireturn, 1) := by decide +kernel
def Q_rmLE (Z : State) (a1 a2 : Addr) (k1 k2 : ClassId) (h0 : Heap) (n0 : Nat) (v : Option Value) (h : Heap) (L : List Loc) : Prop := v = some (.int (1 : Int32)) ∧ Fr n0 L ∧ h = h0
set_option maxRecDepth 65536 in
set_option maxHeartbeats 40000000 in
theorem rmLE (l : Launch) (Z : State) (a0 : Array Value) (hw : ∀ d ∈ tables_1, d.before a0 Z = true) (ws : List Jvm.Cond) (a1 a2 : Addr) (k1 k2 : ClassId) (h0 : Heap) (n0 : Nat) (Z0 : n0 ≤ h0.size) (V1 : Arv Z h0 a1 k1 .byte (4 : Int32) [(.int (108 : Int32)), (.int (105 : Int32)), (.int (107 : Int32)), (.int (101 : Int32))] (.int (0 : Int32))) (V2 : Arv Z h0 a2 k2 .byte (4 : Int32) [(.int (108 : Int32)), (.int (105 : Int32)), (.int (107 : Int32)), (.int (101 : Int32))] (.int (0 : Int32))) :
    MetFree l (⟨"java/lang/StringLatin1", "equals", "([B[B)Z"⟩ : MethodName) (head1 (Jvm.Cond.code (⟨"java/lang/StringLatin1", "equals", "([B[B)Z"⟩ : MethodName) jdk_43_method_13_code 3 (some .boolean) :: ws) ({ frames := 0, cells := 0, slots := 0, locals := 0 } : Room)) (fun a U => a = #[(.ref a1), (.ref a2)] ∧ Z.Warmed39 U.vm ∧ U.heap = h0) (fun _ _ _ _ _ => True) (fun _ U o U' => ∃ v L, o = .returned v ∧ Q_rmLE Z a1 a2 k1 k2 h0 n0 v U'.heap L ∧ FrameEnd U o U' L ({ frames := 0, cells := 0, slots := 0, locals := 0 } : Room).cells ({ frames := 0, cells := 0, slots := 0, locals := 0 } : Room).slots) := by
  refine MetFree.of_bodySF (plainFor_of_name own_pn1) hisR ?_
  intro p e s m args below meth c s₁ Bd hml0 hP hK
  obtain ⟨rfl, hZ, hh⟩ := hP
  have hx := Bd.exec
  have hby := Bd.bytes
  have hml : c.maxLocals = 3 := hml0
  have hown : s.vm.findClass "java/lang/StringLatin1" = some m.cls := findClass_of_methodNamed Bd.named
  have hnm := (name_of_methodNamed Bd.named Bd.method).1
  have X0 : Stand p l e ({ frames := 0, cells := 0, slots := 0, locals := 0 } : Room) s m #[(.ref a1), (.ref a2)] below meth c s₁ [] 0 0 := Stand.of_body Bd
  have e0 : s₁.heap = h0 := by rw [← hh, Bd.state]; rfl
  have N0 := Fr.nil n0
  have R0 : ∀ t, Steps p.tables e below (s₁.setTop (mkF m 0 #[.val (.ref a1), .val (.ref a2), .unset] [])) t → Steps p.tables e below (s₁.setTop (entryFrame m #[(.ref a1), (.ref a2)] 3)) t := fun t k => castTop (own_ef_rmLE m a1 a2) k
  have R1 : ∀ t, Steps p.tables e below (s₁.setTop (mkF m 1 #[.val (.ref a1), .val (.ref a2), .unset] [(.ref a1)])) t → Steps p.tables e below (s₁.setTop (entryFrame m #[(.ref a1), (.ref a2)] 3)) t := by
    intro t k
    refine R0 t ?_
    show Steps p.tables e below (s₁.setTop (mkF m 0 #[.val (.ref a1), .val (.ref a2), .unset] [])) _
    refine XS.aloadN X0.here hx rfl (hb hby own_d4_0) rfl rfl ?_
    exact k
  obtain ⟨cl2, Ar2, q2, S2, N2', H2, G2⟩ := id V1
  have R3 : ∀ t, Steps p.tables e below (s₁.setTop (mkF m 3 #[.val (.ref a1), .val (.ref a2), .unset] [(.ref a2), (.int (4 : Int32))])) t → Steps p.tables e below (s₁.setTop (entryFrame m #[(.ref a1), (.ref a2)] 3)) t := by
    intro t k
    refine R1 t ?_
    show Steps p.tables e below (s₁.setTop (mkF m 1 #[.val (.ref a1), .val (.ref a2), .unset] [(.ref a1)])) _
    refine X0.arraylength hx (by rw [e0]; exact Ar2.1) (State.isArrayOf_alike hZ.alike Ar2.2.1) (g := (mkF m 1 #[.val (.ref a1), .val (.ref a2), .unset] [(.ref a1)])) rfl rfl (hb hby own_d4_1) _ ?_
    rw [len_of S2 N2']
    show Steps p.tables e below (s₁.setTop (mkF m 2 #[.val (.ref a1), .val (.ref a2), .unset] [(.int (4 : Int32))])) _
    refine XS.aloadN X0.here hx rfl (hb hby own_d4_2) rfl rfl ?_
    exact k
  obtain ⟨cl4, Ar4, q4, S4, N4', H4, G4⟩ := id V2
  have R5 : ∀ t, Steps p.tables e below (s₁.setTop (mkF m 17 #[.val (.ref a1), .val (.ref a2), .val (.int (0 : Int32))] [(.int (0 : Int32)), (.ref a1)])) t → Steps p.tables e below (s₁.setTop (entryFrame m #[(.ref a1), (.ref a2)] 3)) t := by
    intro t k
    refine R3 t ?_
    show Steps p.tables e below (s₁.setTop (mkF m 3 #[.val (.ref a1), .val (.ref a2), .unset] [(.ref a2), (.int (4 : Int32))])) _
    refine X0.arraylength hx (by rw [e0]; exact Ar4.1) (State.isArrayOf_alike hZ.alike Ar4.2.1) (g := (mkF m 3 #[.val (.ref a1), .val (.ref a2), .unset] [(.ref a2), (.int (4 : Int32))])) rfl rfl (hb hby own_d4_3) _ ?_
    rw [len_of S4 N4']
    show Steps p.tables e below (s₁.setTop (mkF m 4 #[.val (.ref a1), .val (.ref a2), .unset] [(.int (4 : Int32)), (.int (4 : Int32))])) _
    refine XS.icmpNo X0.here hx rfl (hb hby own_d4_4) rfl (teq (by decide : ((4 : Int32) = (4 : Int32)))).2 ?_
    show Steps p.tables e below (s₁.setTop (mkF m 7 #[.val (.ref a1), .val (.ref a2), .unset] [])) _
    refine XS.iconst X0.here hx rfl (hb hby own_d4_7) ?_
    show Steps p.tables e below (s₁.setTop (mkF m 8 #[.val (.ref a1), .val (.ref a2), .unset] [(.int (0 : Int32))])) _
    refine XS.istoreN X0.here hx rfl (hb hby own_d4_8) rfl (l' := #[.val (.ref a1), .val (.ref a2), .val (.int (0 : Int32))]) rfl ?_
    show Steps p.tables e below (s₁.setTop (mkF m 9 #[.val (.ref a1), .val (.ref a2), .val (.int (0 : Int32))] [])) _
    refine XS.iloadN X0.here hx rfl (hb hby own_d4_9) rfl ?_
    show Steps p.tables e below (s₁.setTop (mkF m 10 #[.val (.ref a1), .val (.ref a2), .val (.int (0 : Int32))] [(.int (0 : Int32))])) _
    refine XS.aloadN X0.here hx rfl (hb hby own_d4_10) rfl rfl ?_
    show Steps p.tables e below (s₁.setTop (mkF m 11 #[.val (.ref a1), .val (.ref a2), .val (.int (0 : Int32))] [(.ref a1), (.int (0 : Int32))])) _
    refine X0.arraylength hx (by rw [e0]; exact Ar2.1) (State.isArrayOf_alike hZ.alike Ar2.2.1) (g := (mkF m 11 #[.val (.ref a1), .val (.ref a2), .val (.int (0 : Int32))] [(.ref a1), (.int (0 : Int32))])) rfl rfl (hb hby own_d4_11) _ ?_
    rw [len_of S2 N2']
    show Steps p.tables e below (s₁.setTop (mkF m 12 #[.val (.ref a1), .val (.ref a2), .val (.int (0 : Int32))] [(.int (4 : Int32)), (.int (0 : Int32))])) _
    refine XS.icmpNo X0.here hx rfl (hb hby own_d4_12) rfl (tlt (by decide : ((0 : Int32) < (4 : Int32)))).2.1 ?_
    show Steps p.tables e below (s₁.setTop (mkF m 15 #[.val (.ref a1), .val (.ref a2), .val (.int (0 : Int32))] [])) _
    refine XS.aloadN X0.here hx rfl (hb hby own_d4_15) rfl rfl ?_
    show Steps p.tables e below (s₁.setTop (mkF m 16 #[.val (.ref a1), .val (.ref a2), .val (.int (0 : Int32))] [(.ref a1)])) _
    refine XS.iloadN X0.here hx rfl (hb hby own_d4_16) rfl ?_
    exact k
  have hin2_0 : ¬ ((0 : Int32) < 0 ∨ cl2.slots.size ≤ ((0 : Int32)).toNatClampNeg) := inb_of S2 ⟨by decide, by decide⟩
  have hat2_0 : cl2.slots[((0 : Int32)).toNatClampNeg]? = some (.int (108 : Int32)) := H2.at hin2_0 rfl
  have R6 : ∀ t, Steps p.tables e below (s₁.setTop (mkF m 20 #[.val (.ref a1), .val (.ref a2), .val (.int (0 : Int32))] [(.int (0 : Int32)), (.ref a2), (.int (108 : Int32))])) t → Steps p.tables e below (s₁.setTop (entryFrame m #[(.ref a1), (.ref a2)] 3)) t := by
    intro t k
    refine R5 t ?_
    show Steps p.tables e below (s₁.setTop (mkF m 17 #[.val (.ref a1), .val (.ref a2), .val (.int (0 : Int32))] [(.int (0 : Int32)), (.ref a1)])) _
    refine X0.baloadBytes hx (j := (0 : Int32)) (v := (.int (108 : Int32))) (by rw [e0]; exact Ar2.1) (State.isArrayOf_alike hZ.alike Ar2.2.1) Ar2.2.2 hin2_0 hat2_0 (g := (mkF m 17 #[.val (.ref a1), .val (.ref a2), .val (.int (0 : Int32))] [(.int (0 : Int32)), (.ref a1)])) rfl rfl (hb hby own_d4_17) _ ?_
    show Steps p.tables e below (s₁.setTop (mkF m 18 #[.val (.ref a1), .val (.ref a2), .val (.int (0 : Int32))] [(.int (108 : Int32))])) _
    refine XS.aloadN X0.here hx rfl (hb hby own_d4_18) rfl rfl ?_
    show Steps p.tables e below (s₁.setTop (mkF m 19 #[.val (.ref a1), .val (.ref a2), .val (.int (0 : Int32))] [(.ref a2), (.int (108 : Int32))])) _
    refine XS.iloadN X0.here hx rfl (hb hby own_d4_19) rfl ?_
    exact k
  have hin4_0 : ¬ ((0 : Int32) < 0 ∨ cl4.slots.size ≤ ((0 : Int32)).toNatClampNeg) := inb_of S4 ⟨by decide, by decide⟩
  have hat4_0 : cl4.slots[((0 : Int32)).toNatClampNeg]? = some (.int (108 : Int32)) := H4.at hin4_0 rfl
  have R7 : ∀ t, Steps p.tables e below (s₁.setTop (mkF m 17 #[.val (.ref a1), .val (.ref a2), .val (.int (1 : Int32))] [(.int (1 : Int32)), (.ref a1)])) t → Steps p.tables e below (s₁.setTop (entryFrame m #[(.ref a1), (.ref a2)] 3)) t := by
    intro t k
    refine R6 t ?_
    show Steps p.tables e below (s₁.setTop (mkF m 20 #[.val (.ref a1), .val (.ref a2), .val (.int (0 : Int32))] [(.int (0 : Int32)), (.ref a2), (.int (108 : Int32))])) _
    refine X0.baloadBytes hx (j := (0 : Int32)) (v := (.int (108 : Int32))) (by rw [e0]; exact Ar4.1) (State.isArrayOf_alike hZ.alike Ar4.2.1) Ar4.2.2 hin4_0 hat4_0 (g := (mkF m 20 #[.val (.ref a1), .val (.ref a2), .val (.int (0 : Int32))] [(.int (0 : Int32)), (.ref a2), (.int (108 : Int32))])) rfl rfl (hb hby own_d4_20) _ ?_
    show Steps p.tables e below (s₁.setTop (mkF m 21 #[.val (.ref a1), .val (.ref a2), .val (.int (0 : Int32))] [(.int (108 : Int32)), (.int (108 : Int32))])) _
    refine XS.icmpYes X0.here hx rfl (pc0 := 21) (pc' := 26) rfl (hb hby own_d4_21) rfl (teq (by decide : ((108 : Int32) = (108 : Int32)))).1 (by decide) (by decide) ?_
    show Steps p.tables e below (s₁.setTop (mkF m 26 #[.val (.ref a1), .val (.ref a2), .val (.int (0 : Int32))] [])) _
    refine XS.iinc X0.here hx rfl (hb hby own_d4_26) rfl (l' := #[.val (.ref a1), .val (.ref a2), .val (.int (1 : Int32))]) rfl ?_
    show Steps p.tables e below (s₁.setTop (mkF m 29 #[.val (.ref a1), .val (.ref a2), .val (.int (1 : Int32))] [])) _
    refine XS.goto X0.here hx rfl (pc0 := 29) (pc' := 9) rfl (hb hby own_d4_29) (by decide) (by decide) ?_
    show Steps p.tables e below (s₁.setTop (mkF m 9 #[.val (.ref a1), .val (.ref a2), .val (.int (1 : Int32))] [])) _
    refine XS.iloadN X0.here hx rfl (hb hby own_d4_9) rfl ?_
    show Steps p.tables e below (s₁.setTop (mkF m 10 #[.val (.ref a1), .val (.ref a2), .val (.int (1 : Int32))] [(.int (1 : Int32))])) _
    refine XS.aloadN X0.here hx rfl (hb hby own_d4_10) rfl rfl ?_
    show Steps p.tables e below (s₁.setTop (mkF m 11 #[.val (.ref a1), .val (.ref a2), .val (.int (1 : Int32))] [(.ref a1), (.int (1 : Int32))])) _
    refine X0.arraylength hx (by rw [e0]; exact Ar2.1) (State.isArrayOf_alike hZ.alike Ar2.2.1) (g := (mkF m 11 #[.val (.ref a1), .val (.ref a2), .val (.int (1 : Int32))] [(.ref a1), (.int (1 : Int32))])) rfl rfl (hb hby own_d4_11) _ ?_
    rw [len_of S2 N2']
    show Steps p.tables e below (s₁.setTop (mkF m 12 #[.val (.ref a1), .val (.ref a2), .val (.int (1 : Int32))] [(.int (4 : Int32)), (.int (1 : Int32))])) _
    refine XS.icmpNo X0.here hx rfl (hb hby own_d4_12) rfl (tlt (by decide : ((1 : Int32) < (4 : Int32)))).2.1 ?_
    show Steps p.tables e below (s₁.setTop (mkF m 15 #[.val (.ref a1), .val (.ref a2), .val (.int (1 : Int32))] [])) _
    refine XS.aloadN X0.here hx rfl (hb hby own_d4_15) rfl rfl ?_
    show Steps p.tables e below (s₁.setTop (mkF m 16 #[.val (.ref a1), .val (.ref a2), .val (.int (1 : Int32))] [(.ref a1)])) _
    refine XS.iloadN X0.here hx rfl (hb hby own_d4_16) rfl ?_
    exact k
  have hin2_1 : ¬ ((1 : Int32) < 0 ∨ cl2.slots.size ≤ ((1 : Int32)).toNatClampNeg) := inb_of S2 ⟨by decide, by decide⟩
  have hat2_1 : cl2.slots[((1 : Int32)).toNatClampNeg]? = some (.int (105 : Int32)) := H2.at hin2_1 rfl
  have R8 : ∀ t, Steps p.tables e below (s₁.setTop (mkF m 20 #[.val (.ref a1), .val (.ref a2), .val (.int (1 : Int32))] [(.int (1 : Int32)), (.ref a2), (.int (105 : Int32))])) t → Steps p.tables e below (s₁.setTop (entryFrame m #[(.ref a1), (.ref a2)] 3)) t := by
    intro t k
    refine R7 t ?_
    show Steps p.tables e below (s₁.setTop (mkF m 17 #[.val (.ref a1), .val (.ref a2), .val (.int (1 : Int32))] [(.int (1 : Int32)), (.ref a1)])) _
    refine X0.baloadBytes hx (j := (1 : Int32)) (v := (.int (105 : Int32))) (by rw [e0]; exact Ar2.1) (State.isArrayOf_alike hZ.alike Ar2.2.1) Ar2.2.2 hin2_1 hat2_1 (g := (mkF m 17 #[.val (.ref a1), .val (.ref a2), .val (.int (1 : Int32))] [(.int (1 : Int32)), (.ref a1)])) rfl rfl (hb hby own_d4_17) _ ?_
    show Steps p.tables e below (s₁.setTop (mkF m 18 #[.val (.ref a1), .val (.ref a2), .val (.int (1 : Int32))] [(.int (105 : Int32))])) _
    refine XS.aloadN X0.here hx rfl (hb hby own_d4_18) rfl rfl ?_
    show Steps p.tables e below (s₁.setTop (mkF m 19 #[.val (.ref a1), .val (.ref a2), .val (.int (1 : Int32))] [(.ref a2), (.int (105 : Int32))])) _
    refine XS.iloadN X0.here hx rfl (hb hby own_d4_19) rfl ?_
    exact k
  have hin4_1 : ¬ ((1 : Int32) < 0 ∨ cl4.slots.size ≤ ((1 : Int32)).toNatClampNeg) := inb_of S4 ⟨by decide, by decide⟩
  have hat4_1 : cl4.slots[((1 : Int32)).toNatClampNeg]? = some (.int (105 : Int32)) := H4.at hin4_1 rfl
  have R9 : ∀ t, Steps p.tables e below (s₁.setTop (mkF m 17 #[.val (.ref a1), .val (.ref a2), .val (.int (2 : Int32))] [(.int (2 : Int32)), (.ref a1)])) t → Steps p.tables e below (s₁.setTop (entryFrame m #[(.ref a1), (.ref a2)] 3)) t := by
    intro t k
    refine R8 t ?_
    show Steps p.tables e below (s₁.setTop (mkF m 20 #[.val (.ref a1), .val (.ref a2), .val (.int (1 : Int32))] [(.int (1 : Int32)), (.ref a2), (.int (105 : Int32))])) _
    refine X0.baloadBytes hx (j := (1 : Int32)) (v := (.int (105 : Int32))) (by rw [e0]; exact Ar4.1) (State.isArrayOf_alike hZ.alike Ar4.2.1) Ar4.2.2 hin4_1 hat4_1 (g := (mkF m 20 #[.val (.ref a1), .val (.ref a2), .val (.int (1 : Int32))] [(.int (1 : Int32)), (.ref a2), (.int (105 : Int32))])) rfl rfl (hb hby own_d4_20) _ ?_
    show Steps p.tables e below (s₁.setTop (mkF m 21 #[.val (.ref a1), .val (.ref a2), .val (.int (1 : Int32))] [(.int (105 : Int32)), (.int (105 : Int32))])) _
    refine XS.icmpYes X0.here hx rfl (pc0 := 21) (pc' := 26) rfl (hb hby own_d4_21) rfl (teq (by decide : ((105 : Int32) = (105 : Int32)))).1 (by decide) (by decide) ?_
    show Steps p.tables e below (s₁.setTop (mkF m 26 #[.val (.ref a1), .val (.ref a2), .val (.int (1 : Int32))] [])) _
    refine XS.iinc X0.here hx rfl (hb hby own_d4_26) rfl (l' := #[.val (.ref a1), .val (.ref a2), .val (.int (2 : Int32))]) rfl ?_
    show Steps p.tables e below (s₁.setTop (mkF m 29 #[.val (.ref a1), .val (.ref a2), .val (.int (2 : Int32))] [])) _
    refine XS.goto X0.here hx rfl (pc0 := 29) (pc' := 9) rfl (hb hby own_d4_29) (by decide) (by decide) ?_
    show Steps p.tables e below (s₁.setTop (mkF m 9 #[.val (.ref a1), .val (.ref a2), .val (.int (2 : Int32))] [])) _
    refine XS.iloadN X0.here hx rfl (hb hby own_d4_9) rfl ?_
    show Steps p.tables e below (s₁.setTop (mkF m 10 #[.val (.ref a1), .val (.ref a2), .val (.int (2 : Int32))] [(.int (2 : Int32))])) _
    refine XS.aloadN X0.here hx rfl (hb hby own_d4_10) rfl rfl ?_
    show Steps p.tables e below (s₁.setTop (mkF m 11 #[.val (.ref a1), .val (.ref a2), .val (.int (2 : Int32))] [(.ref a1), (.int (2 : Int32))])) _
    refine X0.arraylength hx (by rw [e0]; exact Ar2.1) (State.isArrayOf_alike hZ.alike Ar2.2.1) (g := (mkF m 11 #[.val (.ref a1), .val (.ref a2), .val (.int (2 : Int32))] [(.ref a1), (.int (2 : Int32))])) rfl rfl (hb hby own_d4_11) _ ?_
    rw [len_of S2 N2']
    show Steps p.tables e below (s₁.setTop (mkF m 12 #[.val (.ref a1), .val (.ref a2), .val (.int (2 : Int32))] [(.int (4 : Int32)), (.int (2 : Int32))])) _
    refine XS.icmpNo X0.here hx rfl (hb hby own_d4_12) rfl (tlt (by decide : ((2 : Int32) < (4 : Int32)))).2.1 ?_
    show Steps p.tables e below (s₁.setTop (mkF m 15 #[.val (.ref a1), .val (.ref a2), .val (.int (2 : Int32))] [])) _
    refine XS.aloadN X0.here hx rfl (hb hby own_d4_15) rfl rfl ?_
    show Steps p.tables e below (s₁.setTop (mkF m 16 #[.val (.ref a1), .val (.ref a2), .val (.int (2 : Int32))] [(.ref a1)])) _
    refine XS.iloadN X0.here hx rfl (hb hby own_d4_16) rfl ?_
    exact k
  have hin2_2 : ¬ ((2 : Int32) < 0 ∨ cl2.slots.size ≤ ((2 : Int32)).toNatClampNeg) := inb_of S2 ⟨by decide, by decide⟩
  have hat2_2 : cl2.slots[((2 : Int32)).toNatClampNeg]? = some (.int (107 : Int32)) := H2.at hin2_2 rfl
  have R10 : ∀ t, Steps p.tables e below (s₁.setTop (mkF m 20 #[.val (.ref a1), .val (.ref a2), .val (.int (2 : Int32))] [(.int (2 : Int32)), (.ref a2), (.int (107 : Int32))])) t → Steps p.tables e below (s₁.setTop (entryFrame m #[(.ref a1), (.ref a2)] 3)) t := by
    intro t k
    refine R9 t ?_
    show Steps p.tables e below (s₁.setTop (mkF m 17 #[.val (.ref a1), .val (.ref a2), .val (.int (2 : Int32))] [(.int (2 : Int32)), (.ref a1)])) _
    refine X0.baloadBytes hx (j := (2 : Int32)) (v := (.int (107 : Int32))) (by rw [e0]; exact Ar2.1) (State.isArrayOf_alike hZ.alike Ar2.2.1) Ar2.2.2 hin2_2 hat2_2 (g := (mkF m 17 #[.val (.ref a1), .val (.ref a2), .val (.int (2 : Int32))] [(.int (2 : Int32)), (.ref a1)])) rfl rfl (hb hby own_d4_17) _ ?_
    show Steps p.tables e below (s₁.setTop (mkF m 18 #[.val (.ref a1), .val (.ref a2), .val (.int (2 : Int32))] [(.int (107 : Int32))])) _
    refine XS.aloadN X0.here hx rfl (hb hby own_d4_18) rfl rfl ?_
    show Steps p.tables e below (s₁.setTop (mkF m 19 #[.val (.ref a1), .val (.ref a2), .val (.int (2 : Int32))] [(.ref a2), (.int (107 : Int32))])) _
    refine XS.iloadN X0.here hx rfl (hb hby own_d4_19) rfl ?_
    exact k
  have hin4_2 : ¬ ((2 : Int32) < 0 ∨ cl4.slots.size ≤ ((2 : Int32)).toNatClampNeg) := inb_of S4 ⟨by decide, by decide⟩
  have hat4_2 : cl4.slots[((2 : Int32)).toNatClampNeg]? = some (.int (107 : Int32)) := H4.at hin4_2 rfl
  have R11 : ∀ t, Steps p.tables e below (s₁.setTop (mkF m 17 #[.val (.ref a1), .val (.ref a2), .val (.int (3 : Int32))] [(.int (3 : Int32)), (.ref a1)])) t → Steps p.tables e below (s₁.setTop (entryFrame m #[(.ref a1), (.ref a2)] 3)) t := by
    intro t k
    refine R10 t ?_
    show Steps p.tables e below (s₁.setTop (mkF m 20 #[.val (.ref a1), .val (.ref a2), .val (.int (2 : Int32))] [(.int (2 : Int32)), (.ref a2), (.int (107 : Int32))])) _
    refine X0.baloadBytes hx (j := (2 : Int32)) (v := (.int (107 : Int32))) (by rw [e0]; exact Ar4.1) (State.isArrayOf_alike hZ.alike Ar4.2.1) Ar4.2.2 hin4_2 hat4_2 (g := (mkF m 20 #[.val (.ref a1), .val (.ref a2), .val (.int (2 : Int32))] [(.int (2 : Int32)), (.ref a2), (.int (107 : Int32))])) rfl rfl (hb hby own_d4_20) _ ?_
    show Steps p.tables e below (s₁.setTop (mkF m 21 #[.val (.ref a1), .val (.ref a2), .val (.int (2 : Int32))] [(.int (107 : Int32)), (.int (107 : Int32))])) _
    refine XS.icmpYes X0.here hx rfl (pc0 := 21) (pc' := 26) rfl (hb hby own_d4_21) rfl (teq (by decide : ((107 : Int32) = (107 : Int32)))).1 (by decide) (by decide) ?_
    show Steps p.tables e below (s₁.setTop (mkF m 26 #[.val (.ref a1), .val (.ref a2), .val (.int (2 : Int32))] [])) _
    refine XS.iinc X0.here hx rfl (hb hby own_d4_26) rfl (l' := #[.val (.ref a1), .val (.ref a2), .val (.int (3 : Int32))]) rfl ?_
    show Steps p.tables e below (s₁.setTop (mkF m 29 #[.val (.ref a1), .val (.ref a2), .val (.int (3 : Int32))] [])) _
    refine XS.goto X0.here hx rfl (pc0 := 29) (pc' := 9) rfl (hb hby own_d4_29) (by decide) (by decide) ?_
    show Steps p.tables e below (s₁.setTop (mkF m 9 #[.val (.ref a1), .val (.ref a2), .val (.int (3 : Int32))] [])) _
    refine XS.iloadN X0.here hx rfl (hb hby own_d4_9) rfl ?_
    show Steps p.tables e below (s₁.setTop (mkF m 10 #[.val (.ref a1), .val (.ref a2), .val (.int (3 : Int32))] [(.int (3 : Int32))])) _
    refine XS.aloadN X0.here hx rfl (hb hby own_d4_10) rfl rfl ?_
    show Steps p.tables e below (s₁.setTop (mkF m 11 #[.val (.ref a1), .val (.ref a2), .val (.int (3 : Int32))] [(.ref a1), (.int (3 : Int32))])) _
    refine X0.arraylength hx (by rw [e0]; exact Ar2.1) (State.isArrayOf_alike hZ.alike Ar2.2.1) (g := (mkF m 11 #[.val (.ref a1), .val (.ref a2), .val (.int (3 : Int32))] [(.ref a1), (.int (3 : Int32))])) rfl rfl (hb hby own_d4_11) _ ?_
    rw [len_of S2 N2']
    show Steps p.tables e below (s₁.setTop (mkF m 12 #[.val (.ref a1), .val (.ref a2), .val (.int (3 : Int32))] [(.int (4 : Int32)), (.int (3 : Int32))])) _
    refine XS.icmpNo X0.here hx rfl (hb hby own_d4_12) rfl (tlt (by decide : ((3 : Int32) < (4 : Int32)))).2.1 ?_
    show Steps p.tables e below (s₁.setTop (mkF m 15 #[.val (.ref a1), .val (.ref a2), .val (.int (3 : Int32))] [])) _
    refine XS.aloadN X0.here hx rfl (hb hby own_d4_15) rfl rfl ?_
    show Steps p.tables e below (s₁.setTop (mkF m 16 #[.val (.ref a1), .val (.ref a2), .val (.int (3 : Int32))] [(.ref a1)])) _
    refine XS.iloadN X0.here hx rfl (hb hby own_d4_16) rfl ?_
    exact k
  have hin2_3 : ¬ ((3 : Int32) < 0 ∨ cl2.slots.size ≤ ((3 : Int32)).toNatClampNeg) := inb_of S2 ⟨by decide, by decide⟩
  have hat2_3 : cl2.slots[((3 : Int32)).toNatClampNeg]? = some (.int (101 : Int32)) := H2.at hin2_3 rfl
  have R12 : ∀ t, Steps p.tables e below (s₁.setTop (mkF m 20 #[.val (.ref a1), .val (.ref a2), .val (.int (3 : Int32))] [(.int (3 : Int32)), (.ref a2), (.int (101 : Int32))])) t → Steps p.tables e below (s₁.setTop (entryFrame m #[(.ref a1), (.ref a2)] 3)) t := by
    intro t k
    refine R11 t ?_
    show Steps p.tables e below (s₁.setTop (mkF m 17 #[.val (.ref a1), .val (.ref a2), .val (.int (3 : Int32))] [(.int (3 : Int32)), (.ref a1)])) _
    refine X0.baloadBytes hx (j := (3 : Int32)) (v := (.int (101 : Int32))) (by rw [e0]; exact Ar2.1) (State.isArrayOf_alike hZ.alike Ar2.2.1) Ar2.2.2 hin2_3 hat2_3 (g := (mkF m 17 #[.val (.ref a1), .val (.ref a2), .val (.int (3 : Int32))] [(.int (3 : Int32)), (.ref a1)])) rfl rfl (hb hby own_d4_17) _ ?_
    show Steps p.tables e below (s₁.setTop (mkF m 18 #[.val (.ref a1), .val (.ref a2), .val (.int (3 : Int32))] [(.int (101 : Int32))])) _
    refine XS.aloadN X0.here hx rfl (hb hby own_d4_18) rfl rfl ?_
    show Steps p.tables e below (s₁.setTop (mkF m 19 #[.val (.ref a1), .val (.ref a2), .val (.int (3 : Int32))] [(.ref a2), (.int (101 : Int32))])) _
    refine XS.iloadN X0.here hx rfl (hb hby own_d4_19) rfl ?_
    exact k
  have hin4_3 : ¬ ((3 : Int32) < 0 ∨ cl4.slots.size ≤ ((3 : Int32)).toNatClampNeg) := inb_of S4 ⟨by decide, by decide⟩
  have hat4_3 : cl4.slots[((3 : Int32)).toNatClampNeg]? = some (.int (101 : Int32)) := H4.at hin4_3 rfl
  have R13 : ∀ t, Steps p.tables e below (s₁.setTop (mkF m 33 #[.val (.ref a1), .val (.ref a2), .val (.int (4 : Int32))] [(.int (1 : Int32))])) t → Steps p.tables e below (s₁.setTop (entryFrame m #[(.ref a1), (.ref a2)] 3)) t := by
    intro t k
    refine R12 t ?_
    show Steps p.tables e below (s₁.setTop (mkF m 20 #[.val (.ref a1), .val (.ref a2), .val (.int (3 : Int32))] [(.int (3 : Int32)), (.ref a2), (.int (101 : Int32))])) _
    refine X0.baloadBytes hx (j := (3 : Int32)) (v := (.int (101 : Int32))) (by rw [e0]; exact Ar4.1) (State.isArrayOf_alike hZ.alike Ar4.2.1) Ar4.2.2 hin4_3 hat4_3 (g := (mkF m 20 #[.val (.ref a1), .val (.ref a2), .val (.int (3 : Int32))] [(.int (3 : Int32)), (.ref a2), (.int (101 : Int32))])) rfl rfl (hb hby own_d4_20) _ ?_
    show Steps p.tables e below (s₁.setTop (mkF m 21 #[.val (.ref a1), .val (.ref a2), .val (.int (3 : Int32))] [(.int (101 : Int32)), (.int (101 : Int32))])) _
    refine XS.icmpYes X0.here hx rfl (pc0 := 21) (pc' := 26) rfl (hb hby own_d4_21) rfl (teq (by decide : ((101 : Int32) = (101 : Int32)))).1 (by decide) (by decide) ?_
    show Steps p.tables e below (s₁.setTop (mkF m 26 #[.val (.ref a1), .val (.ref a2), .val (.int (3 : Int32))] [])) _
    refine XS.iinc X0.here hx rfl (hb hby own_d4_26) rfl (l' := #[.val (.ref a1), .val (.ref a2), .val (.int (4 : Int32))]) rfl ?_
    show Steps p.tables e below (s₁.setTop (mkF m 29 #[.val (.ref a1), .val (.ref a2), .val (.int (4 : Int32))] [])) _
    refine XS.goto X0.here hx rfl (pc0 := 29) (pc' := 9) rfl (hb hby own_d4_29) (by decide) (by decide) ?_
    show Steps p.tables e below (s₁.setTop (mkF m 9 #[.val (.ref a1), .val (.ref a2), .val (.int (4 : Int32))] [])) _
    refine XS.iloadN X0.here hx rfl (hb hby own_d4_9) rfl ?_
    show Steps p.tables e below (s₁.setTop (mkF m 10 #[.val (.ref a1), .val (.ref a2), .val (.int (4 : Int32))] [(.int (4 : Int32))])) _
    refine XS.aloadN X0.here hx rfl (hb hby own_d4_10) rfl rfl ?_
    show Steps p.tables e below (s₁.setTop (mkF m 11 #[.val (.ref a1), .val (.ref a2), .val (.int (4 : Int32))] [(.ref a1), (.int (4 : Int32))])) _
    refine X0.arraylength hx (by rw [e0]; exact Ar2.1) (State.isArrayOf_alike hZ.alike Ar2.2.1) (g := (mkF m 11 #[.val (.ref a1), .val (.ref a2), .val (.int (4 : Int32))] [(.ref a1), (.int (4 : Int32))])) rfl rfl (hb hby own_d4_11) _ ?_
    rw [len_of S2 N2']
    show Steps p.tables e below (s₁.setTop (mkF m 12 #[.val (.ref a1), .val (.ref a2), .val (.int (4 : Int32))] [(.int (4 : Int32)), (.int (4 : Int32))])) _
    refine XS.icmpYes X0.here hx rfl (pc0 := 12) (pc' := 32) rfl (hb hby own_d4_12) rfl (flt (by decide : ¬ ((4 : Int32) < (4 : Int32)))).2.1 (by decide) (by decide) ?_
    show Steps p.tables e below (s₁.setTop (mkF m 32 #[.val (.ref a1), .val (.ref a2), .val (.int (4 : Int32))] [])) _
    refine XS.iconst X0.here hx rfl (hb hby own_d4_32) ?_
    exact k
  obtain ⟨fs, hr, hrun, hended, hW, hsame⟩ := X0.leave (v := some (.int (1 : Int32))) (fun h => by rw [Bd.returns] at h; cases h)
  refine ⟨_, _, R13 _ ?_, hrun, hended, _, _, rfl, ?_, ⟨_, rfl⟩, hW, hsame.mono (by decide) (by decide)⟩
  · exact retN X0 hx (t := .boolean) Bd.returns (by simp) (hb hby own_d4_33) hr
  · show Q_rmLE Z a1 a2 k1 k2 h0 n0 _ s₁.heap _
    rw [e0]
    exact ⟨rfl, N0, rfl⟩
theorem own_pn2 : plainName "java/lang/String" = true := by first | (simp [plainName, overriddenIn]; done) | decide +kernel
theorem own_ef_rmES (m : MethodId) (x0 : Addr) (x1 : Addr) : entryFrame m #[(.ref x0), (.ref x1)] 3 = mkF m 0 #[.val (.ref x0), .val (.ref x1), .unset] [] := by first | (simp [entryFrame, mkF, argsToLocals, Value.category]; done) | rfl
theorem own_d3_0 : decode jdk_42_method_66_code 0 = .ok (.aload_n 0, 1) := by decide +kernel
theorem own_d3_1 : decode jdk_42_method_66_code 1 = .ok (.aload_n 1, 1) := by decide +kernel
theorem own_d3_2 : decode jdk_42_method_66_code 2 = .ok (.if_acmp .ne 5, 3) := by decide +kernel
theorem own_d3_5 : decode jdk_42_method_66_code 5 = .ok (.iconst 1, 1) := by decide +kernel
theorem own_d3_6 : decode jdk_42_method_66_code 6 = .ok (.ireturn, 1) := by decide +kernel
def Q_rmES (Z : State) (a1 : Addr) (h0 : Heap) (n0 : Nat) (v : Option Value) (h : Heap) (L : List Loc) : Prop := v = some (.int (1 : Int32)) ∧ Fr n0 L ∧ h = h0
set_option maxRecDepth 65536 in
set_option maxHeartbeats 40000000 in
theorem rmES (l : Launch) (Z : State) (a0 : Array Value) (hw : ∀ d ∈ tables_1, d.before a0 Z = true) (ws : List Jvm.Cond) (a1 : Addr) (h0 : Heap) (n0 : Nat) (Z0 : n0 ≤ h0.size)  :
    MetFree l (⟨"java/lang/String", "equals", "(Ljava/lang/Object;)Z"⟩ : MethodName) (head1 (Jvm.Cond.code (⟨"java/lang/String", "equals", "(Ljava/lang/Object;)Z"⟩ : MethodName) jdk_42_method_66_code 3 (some .boolean) :: ws) ({ frames := 0, cells := 0, slots := 0, locals := 0 } : Room)) (fun a U => a = #[(.ref a1), (.ref a1)] ∧ Z.Warmed39 U.vm ∧ U.heap = h0) (fun _ _ _ _ _ => True) (fun _ U o U' => ∃ v L, o = .returned v ∧ Q_rmES Z a1 h0 n0 v U'.heap L ∧ FrameEnd U o U' L ({ frames := 0, cells := 0, slots := 0, locals := 0 } : Room).cells ({ frames := 0, cells := 0, slots := 0, locals := 0 } : Room).slots) := by
  refine MetFree.of_bodySF (plainFor_of_name own_pn2) hisR ?_
  intro p e s m args below meth c s₁ Bd hml0 hP hK
  obtain ⟨rfl, hZ, hh⟩ := hP
  have hx := Bd.exec
  have hby := Bd.bytes
  have hml : c.maxLocals = 3 := hml0
  have hown : s.vm.findClass "java/lang/String" = some m.cls := findClass_of_methodNamed Bd.named
  have hnm := (name_of_methodNamed Bd.named Bd.method).1
  have X0 : Stand p l e ({ frames := 0, cells := 0, slots := 0, locals := 0 } : Room) s m #[(.ref a1), (.ref a1)] below meth c s₁ [] 0 0 := Stand.of_body Bd
  have e0 : s₁.heap = h0 := by rw [← hh, Bd.state]; rfl
  have N0 := Fr.nil n0
  have R0 : ∀ t, Steps p.tables e below (s₁.setTop (mkF m 0 #[.val (.ref a1), .val (.ref a1), .unset] [])) t → Steps p.tables e below (s₁.setTop (entryFrame m #[(.ref a1), (.ref a1)] 3)) t := fun t k => castTop (own_ef_rmES m a1 a1) k
  have R1 : ∀ t, Steps p.tables e below (s₁.setTop (mkF m 6 #[.val (.ref a1), .val (.ref a1), .unset] [(.int (1 : Int32))])) t → Steps p.tables e below (s₁.setTop (entryFrame m #[(.ref a1), (.ref a1)] 3)) t := by
    intro t k
    refine R0 t ?_
    show Steps p.tables e below (s₁.setTop (mkF m 0 #[.val (.ref a1), .val (.ref a1), .unset] [])) _
    refine XS.aloadN X0.here hx rfl (hb hby own_d3_0) rfl rfl ?_
    show Steps p.tables e below (s₁.setTop (mkF m 1 #[.val (.ref a1), .val (.ref a1), .unset] [(.ref a1)])) _
    refine XS.aloadN X0.here hx rfl (hb hby own_d3_1) rfl rfl ?_
    show Steps p.tables e below (s₁.setTop (mkF m 2 #[.val (.ref a1), .val (.ref a1), .unset] [(.ref a1), (.ref a1)])) _
    refine Jvm.RoadKit.acmp (g := (mkF m 2 #[.val (.ref a1), .val (.ref a1), .unset] [(.ref a1), (.ref a1)])) X0 hx rfl rfl rfl (pc0 := 2) (pc' := 5) (same := true) rfl (hb hby own_d3_2) rfl (decide_eq_true rfl) (by decide) (by decide) ?_
    show Steps p.tables e below (s₁.setTop (mkF m 5 #[.val (.ref a1), .val (.ref a1), .unset] [])) _
    refine XS.iconst X0.here hx rfl (hb hby own_d3_5) ?_
    exact k
  obtain ⟨fs, hr, hrun, hended, hW, hsame⟩ := X0.leave (v := some (.int (1 : Int32))) (fun h => by rw [Bd.returns] at h; cases h)
  refine ⟨_, _, R1 _ ?_, hrun, hended, _, _, rfl, ?_, ⟨_, rfl⟩, hW, hsame.mono (by decide) (by decide)⟩
  · exact retN X0 hx (t := .boolean) Bd.returns (by simp) (hb hby own_d3_6) hr
  · show Q_rmES Z a1 h0 n0 _ s₁.heap _
    rw [e0]
    exact ⟨rfl, N0, rfl⟩
theorem own_ef_rmED (m : MethodId) (x0 : Addr) (x1 : Addr) : entryFrame m #[(.ref x0), (.ref x1)] 3 = mkF m 0 #[.val (.ref x0), .val (.ref x1), .unset] [] := by first | (simp [entryFrame, mkF, argsToLocals, Value.category]; done) | rfl
theorem own_d3_7 : decode jdk_42_method_66_code 7 = .ok (.aload_n 1, 1) := by decide +kernel
theorem own_d3_8 : decode jdk_42_method_66_code 8 = .ok (.instanceof 10, 3) := by decide +kernel
theorem own_d3_11 : decode jdk_42_method_66_code 11 = .ok (.ifCond .eq 43, 3) := by decide +kernel
theorem own_d3_14 : decode jdk_42_method_66_code 14 = .ok (.aload_n 1, 1) := by decide +kernel
theorem own_d3_15 : decode jdk_42_method_66_code 15 = .ok (.checkcast 10, 3) := by decide +kernel
theorem own_d3_18 : decode jdk_42_method_66_code 18 = .ok (.astore_n 2, 1) := by decide +kernel
theorem own_d3_19 : decode jdk_42_method_66_code 19 = .ok (.getstatic 38, 3) := by decide +kernel
theorem own_d3_22 : decode jdk_42_method_66_code 22 = .ok (.ifCond .eq 14, 3) := by decide +kernel
theorem own_d3_25 : decode jdk_42_method_66_code 25 = .ok (.aload_n 0, 1) := by decide +kernel
theorem own_d3_26 : decode jdk_42_method_66_code 26 = .ok (.getfield 15, 3) := by decide +kernel
theorem own_d3_29 : decode jdk_42_method_66_code 29 = .ok (.aload_n 2, 1) := by decide +kernel
theorem own_d3_30 : decode jdk_42_method_66_code 30 = .ok (.getfield 15, 3) := by decide +kernel
theorem own_d3_33 : decode jdk_42_method_66_code 33 = .ok (.if_icmp .ne 21, 3) := by decide +kernel
theorem own_d3_36 : decode jdk_42_method_66_code 36 = .ok (.aload_n 0, 1) := by decide +kernel
theorem own_d3_37 : decode jdk_42_method_66_code 37 = .ok (.getfield 9, 3) := by decide +kernel
theorem own_d3_40 : decode jdk_42_method_66_code 40 = .ok (.aload_n 2, 1) := by decide +kernel
theorem own_d3_41 : decode jdk_42_method_66_code 41 = .ok (.getfield 9, 3) := by decide +kernel
theorem own_d3_44 : decode jdk_42_method_66_code 44 = .ok (.invokestatic 541, 3) := by decide +kernel
theorem own_pd3 : parseMethodDescriptor "([B[B)Z" = some ⟨[(.array .byte), (.array .byte)], some .boolean⟩ := by decide +kernel
theorem own_d3_47 : decode jdk_42_method_66_code 47 = .ok (.ifCond .eq 7, 3) := by decide +kernel
theorem own_d3_54 : decode jdk_42_method_66_code 54 = .ok (.iconst 0, 1) := by decide +kernel
theorem own_d3_55 : decode jdk_42_method_66_code 55 = .ok (.ireturn, 1) := by decide +kernel
def Q_rmED (Z : State) (a1 a2 b1 b2 : Addr) (cz : Int32) (k1 k2 : ClassId) (z1 z2 : Int32) (v1 v2 : List Value) (h0 : Heap) (n0 : Nat) (v : Option Value) (h : Heap) (L : List Loc) : Prop := v = some (.int (0 : Int32)) ∧ Fr n0 L ∧ h = h0
set_option maxRecDepth 65536 in
set_option maxHeartbeats 40000000 in
theorem rmED (l : Launch) (Z : State) (a0 : Array Value) (hw : ∀ d ∈ tables_1, d.before a0 Z = true) (ws : List Jvm.Cond) (a1 a2 b1 b2 : Addr) (cz : Int32) (k1 k2 : ClassId) (z1 z2 : Int32) (v1 v2 : List Value) (h0 : Heap) (n0 : Nat) (Z0 : n0 ≤ h0.size) (n12 : a1 ≠ a2) (hcz : ¬ cz = (0 : Int32)) (SC : Sta Z h0 "java/lang/String" "COMPACT_STRINGS" "Z" (.int cz)) (E2 : Exa Z h0 a2 "java/lang/String") (C1 : Fld Z h0 a1 "java/lang/String" "coder" "B" (.int (0 : Int32))) (F1 : Fld Z h0 a1 "java/lang/String" "value" "[B" (.ref b1)) (C2 : Fld Z h0 a2 "java/lang/String" "coder" "B" (.int (0 : Int32))) (F2 : Fld Z h0 a2 "java/lang/String" "value" "[B" (.ref b2)) (V1 : Arv Z h0 b1 k1 .byte z1 v1 (.int (0 : Int32))) (V2 : Arv Z h0 b2 k2 .byte z2 v2 (.int (0 : Int32))) (hz : ¬ z1 = z2) :
    MetFree l (⟨"java/lang/String", "equals", "(Ljava/lang/Object;)Z"⟩ : MethodName) (head1 (Jvm.Cond.code (⟨"java/lang/String", "equals", "(Ljava/lang/Object;)Z"⟩ : MethodName) jdk_42_method_66_code 3 (some .boolean) :: ws) ({ frames := 1, cells := 0, slots := 0, locals := 14 } : Room)) (fun a U => a = #[(.ref a1), (.ref a2)] ∧ Z.Warmed39 U.vm ∧ U.heap = h0) (fun _ _ _ _ _ => True) (fun _ U o U' => ∃ v L, o = .returned v ∧ Q_rmED Z a1 a2 b1 b2 cz k1 k2 z1 z2 v1 v2 h0 n0 v U'.heap L ∧ FrameEnd U o U' L ({ frames := 1, cells := 0, slots := 0, locals := 14 } : Room).cells ({ frames := 1, cells := 0, slots := 0, locals := 14 } : Room).slots) := by
  refine MetFree.of_bodySF (plainFor_of_name own_pn2) hisR ?_
  intro p e s m args below meth c s₁ Bd hml0 hP hK
  obtain ⟨rfl, hZ, hh⟩ := hP
  have hx := Bd.exec
  have hby := Bd.bytes
  have hml : c.maxLocals = 3 := hml0
  have hown : s.vm.findClass "java/lang/String" = some m.cls := findClass_of_methodNamed Bd.named
  have hnm := (name_of_methodNamed Bd.named Bd.method).1
  have X0 : Stand p l e ({ frames := 1, cells := 0, slots := 0, locals := 14 } : Room) s m #[(.ref a1), (.ref a2)] below meth c s₁ [] 0 0 := Stand.of_body Bd
  have e0 : s₁.heap = h0 := by rw [← hh, Bd.state]; rfl
  have N0 := Fr.nil n0
  have R0 : ∀ t, Steps p.tables e below (s₁.setTop (mkF m 0 #[.val (.ref a1), .val (.ref a2), .unset] [])) t → Steps p.tables e below (s₁.setTop (entryFrame m #[(.ref a1), (.ref a2)] 3)) t := fun t k => castTop (own_ef_rmED m a1 a2) k
  have R1 : ∀ t, Steps p.tables e below (s₁.setTop (mkF m 8 #[.val (.ref a1), .val (.ref a2), .unset] [(.ref a2)])) t → Steps p.tables e below (s₁.setTop (entryFrame m #[(.ref a1), (.ref a2)] 3)) t := by
    intro t k
    refine R0 t ?_
    show Steps p.tables e below (s₁.setTop (mkF m 0 #[.val (.ref a1), .val (.ref a2), .unset] [])) _
    refine XS.aloadN X0.here hx rfl (hb hby own_d3_0) rfl rfl ?_
    show Steps p.tables e below (s₁.setTop (mkF m 1 #[.val (.ref a1), .val (.ref a2), .unset] [(.ref a1)])) _
    refine XS.aloadN X0.here hx rfl (hb hby own_d3_1) rfl rfl ?_
    show Steps p.tables e below (s₁.setTop (mkF m 2 #[.val (.ref a1), .val (.ref a2), .unset] [(.ref a2), (.ref a1)])) _
    refine Jvm.RoadKit.acmp (g := (mkF m 2 #[.val (.ref a1), .val (.ref a2), .unset] [(.ref a2), (.ref a1)])) X0 hx rfl rfl rfl (pc0 := 2) (pc' := 7) (same := false) rfl (hb hby own_d3_2) rfl (decide_eq_false fun q => n12 (Value.ref.inj q)) (by decide) (by decide) ?_
    show Steps p.tables e below (s₁.setTop (mkF m 7 #[.val (.ref a1), .val (.ref a2), .unset] [])) _
    refine XS.aloadN X0.here hx rfl (hb hby own_d3_7) rfl rfl ?_
    exact k
  obtain ⟨T2, X2, e2, st2⟩ := instY X0 hx hZ hown (hw _ (List.mem_of_getElem? (i := 47) rfl)) e0 (Ins.self E2) (g := (mkF m 8 #[.val (.ref a1), .val (.ref a2), .unset] [(.ref a2)])) rfl rfl (hb hby own_d3_8)
  have R2 : ∀ t, Steps p.tables e below (T2.setTop (mkF m 11 #[.val (.ref a1), .val (.ref a2), .unset] [(.int (1 : Int32))])) t → Steps p.tables e below (s₁.setTop (entryFrame m #[(.ref a1), (.ref a2)] 3)) t := fun t k => R1 t (st2 t k)
  have R3 : ∀ t, Steps p.tables e below (T2.setTop (mkF m 15 #[.val (.ref a1), .val (.ref a2), .unset] [(.ref a2)])) t → Steps p.tables e below (s₁.setTop (entryFrame m #[(.ref a1), (.ref a2)] 3)) t := by
    intro t k
    refine R2 t ?_
    show Steps p.tables e below (T2.setTop (mkF m 11 #[.val (.ref a1), .val (.ref a2), .unset] [(.int (1 : Int32))])) _
    refine XS.ifNo X2.here hx rfl (hb hby own_d3_11) rfl ((if0 _ _).trans (feq (by decide : ¬ ((1 : Int32) = (0 : Int32)))).1) ?_
    show Steps p.tables e below (T2.setTop (mkF m 14 #[.val (.ref a1), .val (.ref a2), .unset] [])) _
    refine XS.aloadN X2.here hx rfl (hb hby own_d3_14) rfl rfl ?_
    exact k
  obtain ⟨T4, X4, e4, st4⟩ := castY X2 hx hZ hown (hw _ (List.mem_of_getElem? (i := 47) rfl)) e2 (Ins.self E2) (g := (mkF m 15 #[.val (.ref a1), .val (.ref a2), .unset] [(.ref a2)])) rfl rfl (hb hby own_d3_15)
  have R4 : ∀ t, Steps p.tables e below (T4.setTop (mkF m 18 #[.val (.ref a1), .val (.ref a2), .unset] [(.ref a2)])) t → Steps p.tables e below (s₁.setTop (entryFrame m #[(.ref a1), (.ref a2)] 3)) t := fun t k => R3 t (st4 t k)
  have R5 : ∀ t, Steps p.tables e below (T4.setTop (mkF m 19 #[.val (.ref a1), .val (.ref a2), .val (.ref a2)] [])) t → Steps p.tables e below (s₁.setTop (entryFrame m #[(.ref a1), (.ref a2)] 3)) t := by
    intro t k
    refine R4 t ?_
    show Steps p.tables e below (T4.setTop (mkF m 18 #[.val (.ref a1), .val (.ref a2), .unset] [(.ref a2)])) _
    refine XS.astoreN X4.here hx rfl (hb hby own_d3_18) rfl rfl (l' := #[.val (.ref a1), .val (.ref a2), .val (.ref a2)]) rfl ?_
    exact k
  obtain ⟨T6, X6, e6, st6⟩ := getS2 X4 hx hZ hown (host := "") (Or.inl (hw _ (List.mem_of_getElem? (i := 49) rfl))) Via.refl e4 SC (g := (mkF m 19 #[.val (.ref a1), .val (.ref a2), .val (.ref a2)] [])) rfl (hb hby own_d3_19)
  have R6 : ∀ t, Steps p.tables e below (T6.setTop (mkF m 22 #[.val (.ref a1), .val (.ref a2), .val (.ref a2)] [(.int cz)])) t → Steps p.tables e below (s₁.setTop (entryFrame m #[(.ref a1), (.ref a2)] 3)) t := fun t k => R5 t (st6 t k)
  have R7 : ∀ t, Steps p.tables e below (T6.setTop (mkF m 26 #[.val (.ref a1), .val (.ref a2), .val (.ref a2)] [(.ref a1)])) t → Steps p.tables e below (s₁.setTop (entryFrame m #[(.ref a1), (.ref a2)] 3)) t := by
    intro t k
    refine R6 t ?_
    show Steps p.tables e below (T6.setTop (mkF m 22 #[.val (.ref a1), .val (.ref a2), .val (.ref a2)] [(.int cz)])) _
    refine XS.ifNo X6.here hx rfl (hb hby own_d3_22) rfl ((if0 _ _).trans (feq hcz).1) ?_
    show Steps p.tables e below (T6.setTop (mkF m 25 #[.val (.ref a1), .val (.ref a2), .val (.ref a2)] [])) _
    refine XS.aloadN X6.here hx rfl (hb hby own_d3_25) rfl rfl ?_
    exact k
  obtain ⟨T8, X8, e8, st8⟩ := getF X6 hx hZ hown (host := "") (Or.inl (hw _ (List.mem_of_getElem? (i := 50) rfl))) Via.refl e6 C1 (g := (mkF m 26 #[.val (.ref a1), .val (.ref a2), .val (.ref a2)] [(.ref a1)])) rfl rfl (hb hby own_d3_26)
  have R8 : ∀ t, Steps p.tables e below (T8.setTop (mkF m 29 #[.val (.ref a1), .val (.ref a2), .val (.ref a2)] [(.int (0 : Int32))])) t → Steps p.tables e below (s₁.setTop (entryFrame m #[(.ref a1), (.ref a2)] 3)) t := fun t k => R7 t (st8 t k)
  have R9 : ∀ t, Steps p.tables e below (T8.setTop (mkF m 30 #[.val (.ref a1), .val (.ref a2), .val (.ref a2)] [(.ref a2), (.int (0 : Int32))])) t → Steps p.tables e below (s₁.setTop (entryFrame m #[(.ref a1), (.ref a2)] 3)) t := by
    intro t k
    refine R8 t ?_
    show Steps p.tables e below (T8.setTop (mkF m 29 #[.val (.ref a1), .val (.ref a2), .val (.ref a2)] [(.int (0 : Int32))])) _
    refine XS.aloadN X8.here hx rfl (hb hby own_d3_29) rfl rfl ?_
    exact k
  obtain ⟨T10, X10, e10, st10⟩ := getF X8 hx hZ hown (host := "") (Or.inl (hw _ (List.mem_of_getElem? (i := 50) rfl))) Via.refl e8 C2 (g := (mkF m 30 #[.val (.ref a1), .val (.ref a2), .val (.ref a2)] [(.ref a2), (.int (0 : Int32))])) rfl rfl (hb hby own_d3_30)
  have R10 : ∀ t, Steps p.tables e below (T10.setTop (mkF m 33 #[.val (.ref a1), .val (.ref a2), .val (.ref a2)] [(.int (0 : Int32)), (.int (0 : Int32))])) t → Steps p.tables e below (s₁.setTop (entryFrame m #[(.ref a1), (.ref a2)] 3)) t := fun t k => R9 t (st10 t k)
  have R11 : ∀ t, Steps p.tables e below (T10.setTop (mkF m 37 #[.val (.ref a1), .val (.ref a2), .val (.ref a2)] [(.ref a1)])) t → Steps p.tables e below (s₁.setTop (entryFrame m #[(.ref a1), (.ref a2)] 3)) t := by
    intro t k
    refine R10 t ?_
    show Steps p.tables e below (T10.setTop (mkF m 33 #[.val (.ref a1), .val (.ref a2), .val (.ref a2)] [(.int (0 : Int32)), (.int (0 : Int32))])) _
    refine XS.icmpNo X10.here hx rfl (hb hby own_d3_33) rfl (teq (by decide : ((0 : Int32) = (0 : Int32)))).2 ?_
    show Steps p.tables e below (T10.setTop (mkF m 36 #[.val (.ref a1), .val (.ref a2), .val (.ref a2)] [])) _
    refine XS.aloadN X10.here hx rfl (hb hby own_d3_36) rfl rfl ?_
    exact k
  obtain ⟨T12, X12, e12, st12⟩ := getF X10 hx hZ hown (host := "") (Or.inl (hw _ (List.mem_of_getElem? (i := 51) rfl))) Via.refl e10 F1 (g := (mkF m 37 #[.val (.ref a1), .val (.ref a2), .val (.ref a2)] [(.ref a1)])) rfl rfl (hb hby own_d3_37)
  have R12 : ∀ t, Steps p.tables e below (T12.setTop (mkF m 40 #[.val (.ref a1), .val (.ref a2), .val (.ref a2)] [(.ref b1)])) t → Steps p.tables e below (s₁.setTop (entryFrame m #[(.ref a1), (.ref a2)] 3)) t := fun t k => R11 t (st12 t k)
  have R13 : ∀ t, Steps p.tables e below (T12.setTop (mkF m 41 #[.val (.ref a1), .val (.ref a2), .val (.ref a2)] [(.ref a2), (.ref b1)])) t → Steps p.tables e below (s₁.setTop (entryFrame m #[(.ref a1), (.ref a2)] 3)) t := by
    intro t k
    refine R12 t ?_
    show Steps p.tables e below (T12.setTop (mkF m 40 #[.val (.ref a1), .val (.ref a2), .val (.ref a2)] [(.ref b1)])) _
    refine XS.aloadN X12.here hx rfl (hb hby own_d3_40) rfl rfl ?_
    exact k
  obtain ⟨T14, X14, e14, st14⟩ := getF X12 hx hZ hown (host := "") (Or.inl (hw _ (List.mem_of_getElem? (i := 51) rfl))) Via.refl e12 F2 (g := (mkF m 41 #[.val (.ref a1), .val (.ref a2), .val (.ref a2)] [(.ref a2), (.ref b1)])) rfl rfl (hb hby own_d3_41)
  have R14 : ∀ t, Steps p.tables e below (T14.setTop (mkF m 44 #[.val (.ref a1), .val (.ref a2), .val (.ref a2)] [(.ref b2), (.ref b1)])) t → Steps p.tables e below (s₁.setTop (entryFrame m #[(.ref a1), (.ref a2)] 3)) t := fun t k => R13 t (st14 t k)
  obtain ⟨_, _, ⟨T15, L15, k15, n15⟩, -, X15, ⟨Lc15, hQ15, l15, y15, z15⟩, st15⟩ := Jvm.LawKit.callS X14 hx (y := (⟨"java/lang/StringLatin1", "equals", "([B[B)Z"⟩ : MethodName)) hown (mvT hZ (hw _ (List.mem_of_getElem? (i := 52) rfl))) (mvT hZ (hw _ (List.mem_of_getElem? (i := 53) rfl))) (mvT hZ (hw _ (List.mem_of_getElem? (i := 54) rfl))) (mvT hZ (hw _ (List.mem_of_getElem? (i := 55) rfl))) (by decide) (backOf (W := 0) (rmLD l Z a0 hw [] b1 b2 k1 k2 z1 z2 v1 v2 h0 n0 Z0 V1 V2 hz) hZ (hw _ (List.mem_of_getElem? (i := 55) rfl)) (hw _ (List.mem_of_getElem? (i := 54) rfl)) (by decide) (by decide)) (g := (mkF m 44 #[.val (.ref a1), .val (.ref a2), .val (.ref a2)] [(.ref b2), (.ref b1)])) rfl (by rw [hml]; rfl) (argsL := [(.ref b1), (.ref b2)]) (rest := []) (lenOf own_pd3 rfl) rfl (by show 2 * 0 + _ ≤ _; exact Nat.le_of_eq rfl) (hb hby own_d3_44) (fun _ _ => ⟨rfl, e14, (by decide : 0 + 0 ≤ _), (by decide : 0 + 0 ≤ _)⟩)
  dsimp only [Pt.U, Pt.locs, Pt.cells, Pt.slots] at X15 l15 y15 z15 st15 hQ15
  subst l15 y15 z15
  obtain ⟨rfl, Nq15, eq15⟩ := hQ15
  have N15 := Fr.app N0 Nq15
  have R15 : ∀ t, Steps p.tables e below (T15.setTop (mkF m 47 #[.val (.ref a1), .val (.ref a2), .val (.ref a2)] [(.int (0 : Int32))])) t → Steps p.tables e below (s₁.setTop (entryFrame m #[(.ref a1), (.ref a2)] 3)) t := fun t k => R14 t (st15 t k)
  have R16 : ∀ t, Steps p.tables e below (T15.setTop (mkF m 55 #[.val (.ref a1), .val (.ref a2), .val (.ref a2)] [(.int (0 : Int32))])) t → Steps p.tables e below (s₁.setTop (entryFrame m #[(.ref a1), (.ref a2)] 3)) t := by
    intro t k
    refine R15 t ?_
    show Steps p.tables e below (T15.setTop (mkF m 47 #[.val (.ref a1), .val (.ref a2), .val (.ref a2)] [(.int (0 : Int32))])) _
    refine XS.ifYes X15.here hx rfl (pc0 := 47) (pc' := 54) rfl (hb hby own_d3_47) rfl ((if0 _ _).trans (teq (by decide : ((0 : Int32) = (0 : Int32)))).1) (by decide) (by decide) ?_
    show Steps p.tables e below (T15.setTop (mkF m 54 #[.val (.ref a1), .val (.ref a2), .val (.ref a2)] [])) _
    refine XS.iconst X15.here hx rfl (hb hby own_d3_54) ?_
    exact k
  obtain ⟨fs, hr, hrun, hended, hW, hsame⟩ := X15.leave (v := some (.int (0 : Int32))) (fun h => by rw [Bd.returns] at h; cases h)
  refine ⟨_, _, R16 _ ?_, hrun, hended, _, _, rfl, ?_, ⟨_, rfl⟩, hW, hsame.mono (by decide) (by decide)⟩
  · exact retN X15 hx (t := .boolean) Bd.returns (by simp) (hb hby own_d3_55) hr
  · show Q_rmED Z a1 a2 b1 b2 cz k1 k2 z1 z2 v1 v2 h0 n0 _ T15.heap _
    rw [eq15]
    exact ⟨rfl, N15, rfl⟩
theorem own_ef_rmEE (m : MethodId) (x0 : Addr) (x1 : Addr) : entryFrame m #[(.ref x0), (.ref x1)] 3 = mkF m 0 #[.val (.ref x0), .val (.ref x1), .unset] [] := by first | (simp [entryFrame, mkF, argsToLocals, Value.category]; done) | rfl
theorem own_d3_50 : decode jdk_42_method_66_code 50 = .ok (.iconst 1, 1) := by decide +kernel
theorem own_d3_51 : decode jdk_42_method_66_code 51 = .ok (.goto 4, 3) := by decide +kernel
def Q_rmEE (Z : State) (a1 a2 b1 b2 : Addr) (cz : Int32) (k1 k2 : ClassId)  (h0 : Heap) (n0 : Nat) (v : Option Value) (h : Heap) (L : List Loc) : Prop := v = some (.int (1 : Int32)) ∧ Fr n0 L ∧ h = h0
set_option maxRecDepth 65536 in
set_option maxHeartbeats 40000000 in
theorem rmEE (l : Launch) (Z : State) (a0 : Array Value) (hw : ∀ d ∈ tables_1, d.before a0 Z = true) (ws : List Jvm.Cond) (a1 a2 b1 b2 : Addr) (cz : Int32) (k1 k2 : ClassId)  (h0 : Heap) (n0 : Nat) (Z0 : n0 ≤ h0.size) (n12 : a1 ≠ a2) (hcz : ¬ cz = (0 : Int32)) (SC : Sta Z h0 "java/lang/String" "COMPACT_STRINGS" "Z" (.int cz)) (E2 : Exa Z h0 a2 "java/lang/String") (C1 : Fld Z h0 a1 "java/lang/String" "coder" "B" (.int (0 : Int32))) (F1 : Fld Z h0 a1 "java/lang/String" "value" "[B" (.ref b1)) (C2 : Fld Z h0 a2 "java/lang/String" "coder" "B" (.int (0 : Int32))) (F2 : Fld Z h0 a2 "java/lang/String" "value" "[B" (.ref b2)) (V1 : Arv Z h0 b1 k1 .byte (4 : Int32) [(.int (108 : Int32)), (.int (105 : Int32)), (.int (107 : Int32)), (.int (101 : Int32))] (.int (0 : Int32))) (V2 : Arv Z h0 b2 k2 .byte (4 : Int32) [(.int (108 : Int32)), (.int (105 : Int32)), (.int (107 : Int32)), (.int (101 : Int32))] (.int (0 : Int32))) :
    MetFree l (⟨"java/lang/String", "equals", "(Ljava/lang/Object;)Z"⟩ : MethodName) (head1 (Jvm.Cond.code (⟨"java/lang/String", "equals", "(Ljava/lang/Object;)Z"⟩ : MethodName) jdk_42_method_66_code 3 (some .boolean) :: ws) ({ frames := 1, cells := 0, slots := 0, locals := 14 } : Room)) (fun a U => a = #[(.ref a1), (.ref a2)] ∧ Z.Warmed39 U.vm ∧ U.heap = h0) (fun _ _ _ _ _ => True) (fun _ U o U' => ∃ v L, o = .returned v ∧ Q_rmEE Z a1 a2 b1 b2 cz k1 k2  h0 n0 v U'.heap L ∧ FrameEnd U o U' L ({ frames := 1, cells := 0, slots := 0, locals := 14 } : Room).cells ({ frames := 1, cells := 0, slots := 0, locals := 14 } : Room).slots) := by
  refine MetFree.of_bodySF (plainFor_of_name own_pn2) hisR ?_
  intro p e s m args below meth c s₁ Bd hml0 hP hK
  obtain ⟨rfl, hZ, hh⟩ := hP
  have hx := Bd.exec
  have hby := Bd.bytes
  have hml : c.maxLocals = 3 := hml0
  have hown : s.vm.findClass "java/lang/String" = some m.cls := findClass_of_methodNamed Bd.named
  have hnm := (name_of_methodNamed Bd.named Bd.method).1
  have X0 : Stand p l e ({ frames := 1, cells := 0, slots := 0, locals := 14 } : Room) s m #[(.ref a1), (.ref a2)] below meth c s₁ [] 0 0 := Stand.of_body Bd
  have e0 : s₁.heap = h0 := by rw [← hh, Bd.state]; rfl
  have N0 := Fr.nil n0
  have R0 : ∀ t, Steps p.tables e below (s₁.setTop (mkF m 0 #[.val (.ref a1), .val (.ref a2), .unset] [])) t → Steps p.tables e below (s₁.setTop (entryFrame m #[(.ref a1), (.ref a2)] 3)) t := fun t k => castTop (own_ef_rmEE m a1 a2) k
  have R1 : ∀ t, Steps p.tables e below (s₁.setTop (mkF m 8 #[.val (.ref a1), .val (.ref a2), .unset] [(.ref a2)])) t → Steps p.tables e below (s₁.setTop (entryFrame m #[(.ref a1), (.ref a2)] 3)) t := by
    intro t k
    refine R0 t ?_
    show Steps p.tables e below (s₁.setTop (mkF m 0 #[.val (.ref a1), .val (.ref a2), .unset] [])) _
    refine XS.aloadN X0.here hx rfl (hb hby own_d3_0) rfl rfl ?_
    show Steps p.tables e below (s₁.setTop (mkF m 1 #[.val (.ref a1), .val (.ref a2), .unset] [(.ref a1)])) _
    refine XS.aloadN X0.here hx rfl (hb hby own_d3_1) rfl rfl ?_
    show Steps p.tables e below (s₁.setTop (mkF m 2 #[.val (.ref a1), .val (.ref a2), .unset] [(.ref a2), (.ref a1)])) _
    refine Jvm.RoadKit.acmp (g := (mkF m 2 #[.val (.ref a1), .val (.ref a2), .unset] [(.ref a2), (.ref a1)])) X0 hx rfl rfl rfl (pc0 := 2) (pc' := 7) (same := false) rfl (hb hby own_d3_2) rfl (decide_eq_false fun q => n12 (Value.ref.inj q)) (by decide) (by decide) ?_
    show Steps p.tables e below (s₁.setTop (mkF m 7 #[.val (.ref a1), .val (.ref a2), .unset] [])) _
    refine XS.aloadN X0.here hx rfl (hb hby own_d3_7) rfl rfl ?_
    exact k
  obtain ⟨T2, X2, e2, st2⟩ := instY X0 hx hZ hown (hw _ (List.mem_of_getElem? (i := 47) rfl)) e0 (Ins.self E2) (g := (mkF m 8 #[.val (.ref a1), .val (.ref a2), .unset] [(.ref a2)])) rfl rfl (hb hby own_d3_8)
  have R2 : ∀ t, Steps p.tables e below (T2.setTop (mkF m 11 #[.val (.ref a1), .val (.ref a2), .unset] [(.int (1 : Int32))])) t → Steps p.tables e below (s₁.setTop (entryFrame m #[(.ref a1), (.ref a2)] 3)) t := fun t k => R1 t (st2 t k)
  have R3 : ∀ t, Steps p.tables e below (T2.setTop (mkF m 15 #[.val (.ref a1), .val (.ref a2), .unset] [(.ref a2)])) t → Steps p.tables e below (s₁.setTop (entryFrame m #[(.ref a1), (.ref a2)] 3)) t := by
    intro t k
    refine R2 t ?_
    show Steps p.tables e below (T2.setTop (mkF m 11 #[.val (.ref a1), .val (.ref a2), .unset] [(.int (1 : Int32))])) _
    refine XS.ifNo X2.here hx rfl (hb hby own_d3_11) rfl ((if0 _ _).trans (feq (by decide : ¬ ((1 : Int32) = (0 : Int32)))).1) ?_
    show Steps p.tables e below (T2.setTop (mkF m 14 #[.val (.ref a1), .val (.ref a2), .unset] [])) _
    refine XS.aloadN X2.here hx rfl (hb hby own_d3_14) rfl rfl ?_
    exact k
  obtain ⟨T4, X4, e4, st4⟩ := castY X2 hx hZ hown (hw _ (List.mem_of_getElem? (i := 47) rfl)) e2 (Ins.self E2) (g := (mkF m 15 #[.val (.ref a1), .val (.ref a2), .unset] [(.ref a2)])) rfl rfl (hb hby own_d3_15)
  have R4 : ∀ t, Steps p.tables e below (T4.setTop (mkF m 18 #[.val (.ref a1), .val (.ref a2), .unset] [(.ref a2)])) t → Steps p.tables e below (s₁.setTop (entryFrame m #[(.ref a1), (.ref a2)] 3)) t := fun t k => R3 t (st4 t k)
  have R5 : ∀ t, Steps p.tables e below (T4.setTop (mkF m 19 #[.val (.ref a1), .val (.ref a2), .val (.ref a2)] [])) t → Steps p.tables e below (s₁.setTop (entryFrame m #[(.ref a1), (.ref a2)] 3)) t := by
    intro t k
    refine R4 t ?_
    show Steps p.tables e below (T4.setTop (mkF m 18 #[.val (.ref a1), .val (.ref a2), .unset] [(.ref a2)])) _
    refine XS.astoreN X4.here hx rfl (hb hby own_d3_18) rfl rfl (l' := #[.val (.ref a1), .val (.ref a2), .val (.ref a2)]) rfl ?_
    exact k
  obtain ⟨T6, X6, e6, st6⟩ := getS2 X4 hx hZ hown (host := "") (Or.inl (hw _ (List.mem_of_getElem? (i := 49) rfl))) Via.refl e4 SC (g := (mkF m 19 #[.val (.ref a1), .val (.ref a2), .val (.ref a2)] [])) rfl (hb hby own_d3_19)
  have R6 : ∀ t, Steps p.tables e below (T6.setTop (mkF m 22 #[.val (.ref a1), .val (.ref a2), .val (.ref a2)] [(.int cz)])) t → Steps p.tables e below (s₁.setTop (entryFrame m #[(.ref a1), (.ref a2)] 3)) t := fun t k => R5 t (st6 t k)
  have R7 : ∀ t, Steps p.tables e below (T6.setTop (mkF m 26 #[.val (.ref a1), .val (.ref a2), .val (.ref a2)] [(.ref a1)])) t → Steps p.tables e below (s₁.setTop (entryFrame m #[(.ref a1), (.ref a2)] 3)) t := by
    intro t k
    refine R6 t ?_
    show Steps p.tables e below (T6.setTop (mkF m 22 #[.val (.ref a1), .val (.ref a2), .val (.ref a2)] [(.int cz)])) _
    refine XS.ifNo X6.here hx rfl (hb hby own_d3_22) rfl ((if0 _ _).trans (feq hcz).1) ?_
    show Steps p.tables e below (T6.setTop (mkF m 25 #[.val (.ref a1), .val (.ref a2), .val (.ref a2)] [])) _
    refine XS.aloadN X6.here hx rfl (hb hby own_d3_25) rfl rfl ?_
    exact k
  obtain ⟨T8, X8, e8, st8⟩ := getF X6 hx hZ hown (host := "") (Or.inl (hw _ (List.mem_of_getElem? (i := 50) rfl))) Via.refl e6 C1 (g := (mkF m 26 #[.val (.ref a1), .val (.ref a2), .val (.ref a2)] [(.ref a1)])) rfl rfl (hb hby own_d3_26)
  have R8 : ∀ t, Steps p.tables e below (T8.setTop (mkF m 29 #[.val (.ref a1), .val (.ref a2), .val (.ref a2)] [(.int (0 : Int32))])) t → Steps p.tables e below (s₁.setTop (entryFrame m #[(.ref a1), (.ref a2)] 3)) t := fun t k => R7 t (st8 t k)
  have R9 : ∀ t, Steps p.tables e below (T8.setTop (mkF m 30 #[.val (.ref a1), .val (.ref a2), .val (.ref a2)] [(.ref a2), (.int (0 : Int32))])) t → Steps p.tables e below (s₁.setTop (entryFrame m #[(.ref a1), (.ref a2)] 3)) t := by
    intro t k
    refine R8 t ?_
    show Steps p.tables e below (T8.setTop (mkF m 29 #[.val (.ref a1), .val (.ref a2), .val (.ref a2)] [(.int (0 : Int32))])) _
    refine XS.aloadN X8.here hx rfl (hb hby own_d3_29) rfl rfl ?_
    exact k
  obtain ⟨T10, X10, e10, st10⟩ := getF X8 hx hZ hown (host := "") (Or.inl (hw _ (List.mem_of_getElem? (i := 50) rfl))) Via.refl e8 C2 (g := (mkF m 30 #[.val (.ref a1), .val (.ref a2), .val (.ref a2)] [(.ref a2), (.int (0 : Int32))])) rfl rfl (hb hby own_d3_30)
  have R10 : ∀ t, Steps p.tables e below (T10.setTop (mkF m 33 #[.val (.ref a1), .val (.ref a2), .val (.ref a2)] [(.int (0 : Int32)), (.int (0 : Int32))])) t → Steps p.tables e below (s₁.setTop (entryFrame m #[(.ref a1), (.ref a2)] 3)) t := fun t k => R9 t (st10 t k)
  have R11 : ∀ t, Steps p.tables e below (T10.setTop (mkF m 37 #[.val (.ref a1), .val (.ref a2), .val (.ref a2)] [(.ref a1)])) t → Steps p.tables e below (s₁.setTop (entryFrame m #[(.ref a1), (.ref a2)] 3)) t := by
    intro t k
    refine R10 t ?_
    show Steps p.tables e below (T10.setTop (mkF m 33 #[.val (.ref a1), .val (.ref a2), .val (.ref a2)] [(.int (0 : Int32)), (.int (0 : Int32))])) _
    refine XS.icmpNo X10.here hx rfl (hb hby own_d3_33) rfl (teq (by decide : ((0 : Int32) = (0 : Int32)))).2 ?_
    show Steps p.tables e below (T10.setTop (mkF m 36 #[.val (.ref a1), .val (.ref a2), .val (.ref a2)] [])) _
    refine XS.aloadN X10.here hx rfl (hb hby own_d3_36) rfl rfl ?_
    exact k
  obtain ⟨T12, X12, e12, st12⟩ := getF X10 hx hZ hown (host := "") (Or.inl (hw _ (List.mem_of_getElem? (i := 51) rfl))) Via.refl e10 F1 (g := (mkF m 37 #[.val (.ref a1), .val (.ref a2), .val (.ref a2)] [(.ref a1)])) rfl rfl (hb hby own_d3_37)
  have R12 : ∀ t, Steps p.tables e below (T12.setTop (mkF m 40 #[.val (.ref a1), .val (.ref a2), .val (.ref a2)] [(.ref b1)])) t → Steps p.tables e below (s₁.setTop (entryFrame m #[(.ref a1), (.ref a2)] 3)) t := fun t k => R11 t (st12 t k)
  have R13 : ∀ t, Steps p.tables e below (T12.setTop (mkF m 41 #[.val (.ref a1), .val (.ref a2), .val (.ref a2)] [(.ref a2), (.ref b1)])) t → Steps p.tables e below (s₁.setTop (entryFrame m #[(.ref a1), (.ref a2)] 3)) t := by
    intro t k
    refine R12 t ?_
    show Steps p.tables e below (T12.setTop (mkF m 40 #[.val (.ref a1), .val (.ref a2), .val (.ref a2)] [(.ref b1)])) _
    refine XS.aloadN X12.here hx rfl (hb hby own_d3_40) rfl rfl ?_
    exact k
  obtain ⟨T14, X14, e14, st14⟩ := getF X12 hx hZ hown (host := "") (Or.inl (hw _ (List.mem_of_getElem? (i := 51) rfl))) Via.refl e12 F2 (g := (mkF m 41 #[.val (.ref a1), .val (.ref a2), .val (.ref a2)] [(.ref a2), (.ref b1)])) rfl rfl (hb hby own_d3_41)
  have R14 : ∀ t, Steps p.tables e below (T14.setTop (mkF m 44 #[.val (.ref a1), .val (.ref a2), .val (.ref a2)] [(.ref b2), (.ref b1)])) t → Steps p.tables e below (s₁.setTop (entryFrame m #[(.ref a1), (.ref a2)] 3)) t := fun t k => R13 t (st14 t k)
  obtain ⟨_, _, ⟨T15, L15, k15, n15⟩, -, X15, ⟨Lc15, hQ15, l15, y15, z15⟩, st15⟩ := Jvm.LawKit.callS X14 hx (y := (⟨"java/lang/StringLatin1", "equals", "([B[B)Z"⟩ : MethodName)) hown (mvT hZ (hw _ (List.mem_of_getElem? (i := 52) rfl))) (mvT hZ (hw _ (List.mem_of_getElem? (i := 53) rfl))) (mvT hZ (hw _ (List.mem_of_getElem? (i := 54) rfl))) (mvT hZ (hw _ (List.mem_of_getElem? (i := 55) rfl))) (by decide) (backOf (W := 0) (rmLE l Z a0 hw [] b1 b2 k1 k2 h0 n0 Z0 V1 V2) hZ (hw _ (List.mem_of_getElem? (i := 55) rfl)) (hw _ (List.mem_of_getElem? (i := 54) rfl)) (by decide) (by decide)) (g := (mkF m 44 #[.val (.ref a1), .val (.ref a2), .val (.ref a2)] [(.ref b2), (.ref b1)])) rfl (by rw [hml]; rfl) (argsL := [(.ref b1), (.ref b2)]) (rest := []) (lenOf own_pd3 rfl) rfl (by show 2 * 0 + _ ≤ _; exact Nat.le_of_eq rfl) (hb hby own_d3_44) (fun _ _ => ⟨rfl, e14, (by decide : 0 + 0 ≤ _), (by decide : 0 + 0 ≤ _)⟩)
  dsimp only [Pt.U, Pt.locs, Pt.cells, Pt.slots] at X15 l15 y15 z15 st15 hQ15
  subst l15 y15 z15
  obtain ⟨rfl, Nq15, eq15⟩ := hQ15
  have N15 := Fr.app N0 Nq15
  have R15 : ∀ t, Steps p.tables e below (T15.setTop (mkF m 47 #[.val (.ref a1), .val (.ref a2), .val (.ref a2)] [(.int (1 : Int32))])) t → Steps p.tables e below (s₁.setTop (entryFrame m #[(.ref a1), (.ref a2)] 3)) t := fun t k => R14 t (st15 t k)
  have R16 : ∀ t, Steps p.tables e below (T15.setTop (mkF m 55 #[.val (.ref a1), .val (.ref a2), .val (.ref a2)] [(.int (1 : Int32))])) t → Steps p.tables e below (s₁.setTop (entryFrame m #[(.ref a1), (.ref a2)] 3)) t := by
    intro t k
    refine R15 t ?_
    show Steps p.tables e below (T15.setTop (mkF m 47 #[.val (.ref a1), .val (.ref a2), .val (.ref a2)] [(.int (1 : Int32))])) _
    refine XS.ifNo X15.here hx rfl (hb hby own_d3_47) rfl ((if0 _ _).trans (feq (by decide : ¬ ((1 : Int32) = (0 : Int32)))).1) ?_
    show Steps p.tables e below (T15.setTop (mkF m 50 #[.val (.ref a1), .val (.ref a2), .val (.ref a2)] [])) _
    refine XS.iconst X15.here hx rfl (hb hby own_d3_50) ?_
    show Steps p.tables e below (T15.setTop (mkF m 51 #[.val (.ref a1), .val (.ref a2), .val (.ref a2)] [(.int (1 : Int32))])) _
    refine XS.goto X15.here hx rfl (pc0 := 51) (pc' := 55) rfl (hb hby own_d3_51) (by decide) (by decide) ?_
    exact k
  obtain ⟨fs, hr, hrun, hended, hW, hsame⟩ := X15.leave (v := some (.int (1 : Int32))) (fun h => by rw [Bd.returns] at h; cases h)
  refine ⟨_, _, R16 _ ?_, hrun, hended, _, _, rfl, ?_, ⟨_, rfl⟩, hW, hsame.mono (by decide) (by decide)⟩
  · exact retN X15 hx (t := .boolean) Bd.returns (by simp) (hb hby own_d3_55) hr
  · show Q_rmEE Z a1 a2 b1 b2 cz k1 k2  h0 n0 _ T15.heap _
    rw [eq15]
    exact ⟨rfl, N15, rfl⟩
theorem own_pn3 : plainName "com/example/firm_store/firmstore/OperatorIsPatternPinLaw" = true := by first | (simp [plainName, overriddenIn]; done) | decide +kernel
theorem own_ef_rm0 (m : MethodId) (x0 : Int32) : entryFrame m #[(.int x0)] maxLocals = mkF m 0 #[.val (.int x0), .unset, .unset, .unset, .unset, .unset, .unset] [] := by first | (simp [entryFrame, mkF, argsToLocals, Value.category, maxLocals]; done) | rfl
theorem own_pd0 : parseMethodDescriptor "()Z" = some ⟨[], some .boolean⟩ := by decide +kernel
theorem own_pd1 : parseMethodDescriptor "()Ljava/lang/String;" = some ⟨[], some (.object "java/lang/String")⟩ := by decide +kernel
theorem own_pd2 : parseMethodDescriptor "(Ljava/lang/Object;)Z" = some ⟨[(.object "java/lang/Object")], some .boolean⟩ := by decide +kernel
def Q_rm0 (Z : State) (p1 : Int32) (aEQ aNE aLT aLE aGT aGE aLIKE aILIKE : Addr) (sEQ sNE sLT sLE sGT sGE sLIKE : Addr) (vEQ vNE vLT vLE vGT vGE vLIKE : Addr) (kEQ kNE kLT kLE kGT kGE kLIKE : ClassId) (cz : Int32) (h0 : Heap) (n0 : Nat) (v : Option Value) (h : Heap) (L : List Loc) : Prop := v = some (.int 1) ∧ Fr n0 L
set_option maxRecDepth 65536 in
set_option maxHeartbeats 40000000 in
theorem rm0 (l : Launch) (Z : State) (a0 : Array Value) (hw : ∀ d ∈ tables_1, d.before a0 Z = true) (ws : List Jvm.Cond) (p1 : Int32) (aEQ aNE aLT aLE aGT aGE aLIKE aILIKE : Addr) (sEQ sNE sLT sLE sGT sGE sLIKE : Addr) (vEQ vNE vLT vLE vGT vGE vLIKE : Addr) (kEQ kNE kLT kLE kGT kGE kLIKE : ClassId) (cz : Int32) (h0 : Heap) (n0 : Nat) (Z0 : n0 ≤ h0.size) (SEQ : Sta Z h0 "com/example/firm_store/firmstore/Operator" "EQ" "Lcom/example/firm_store/firmstore/Operator;" (.ref aEQ)) (EEQ : Exa Z h0 aEQ "com/example/firm_store/firmstore/Operator") (OEQ : Fld Z h0 aEQ "java/lang/Enum" "ordinal" "I" (.int (0 : Int32))) (QEQ : Fld Z h0 aEQ "com/example/firm_store/firmstore/Operator" "sql" "Ljava/lang/String;" (.ref sEQ)) (SNE : Sta Z h0 "com/example/firm_store/firmstore/Operator" "NE" "Lcom/example/firm_store/firmstore/Operator;" (.ref aNE)) (ENE : Exa Z h0 aNE "com/example/firm_store/firmstore/Operator") (ONE : Fld Z h0 aNE "java/lang/Enum" "ordinal" "I" (.int (1 : Int32))) (QNE : Fld Z h0 aNE "com/example/firm_store/firmstore/Operator" "sql" "Ljava/lang/String;" (.ref sNE)) (SLT : Sta Z h0 "com/example/firm_store/firmstore/Operator" "LT" "Lcom/example/firm_store/firmstore/Operator;" (.ref aLT)) (ELT : Exa Z h0 aLT "com/example/firm_store/firmstore/Operator") (OLT : Fld Z h0 aLT "java/lang/Enum" "ordinal" "I" (.int (2 : Int32))) (QLT : Fld Z h0 aLT "com/example/firm_store/firmstore/Operator" "sql" "Ljava/lang/String;" (.ref sLT)) (SLE : Sta Z h0 "com/example/firm_store/firmstore/Operator" "LE" "Lcom/example/firm_store/firmstore/Operator;" (.ref aLE)) (ELE : Exa Z h0 aLE "com/example/firm_store/firmstore/Operator") (OLE : Fld Z h0 aLE "java/lang/Enum" "ordinal" "I" (.int (3 : Int32))) (QLE : Fld Z h0 aLE "com/example/firm_store/firmstore/Operator" "sql" "Ljava/lang/String;" (.ref sLE)) (SGT : Sta Z h0 "com/example/firm_store/firmstore/Operator" "GT" "Lcom/example/firm_store/firmstore/Operator;" (.ref aGT)) (EGT : Exa Z h0 aGT "com/example/firm_store/firmstore/Operator") (OGT : Fld Z h0 aGT "java/lang/Enum" "ordinal" "I" (.int (4 : Int32))) (QGT : Fld Z h0 aGT "com/example/firm_store/firmstore/Operator" "sql" "Ljava/lang/String;" (.ref sGT)) (SGE : Sta Z h0 "com/example/firm_store/firmstore/Operator" "GE" "Lcom/example/firm_store/firmstore/Operator;" (.ref aGE)) (EGE : Exa Z h0 aGE "com/example/firm_store/firmstore/Operator") (OGE : Fld Z h0 aGE "java/lang/Enum" "ordinal" "I" (.int (5 : Int32))) (QGE : Fld Z h0 aGE "com/example/firm_store/firmstore/Operator" "sql" "Ljava/lang/String;" (.ref sGE)) (SLIKE : Sta Z h0 "com/example/firm_store/firmstore/Operator" "LIKE" "Lcom/example/firm_store/firmstore/Operator;" (.ref aLIKE)) (ELIKE : Exa Z h0 aLIKE "com/example/firm_store/firmstore/Operator") (OLIKE : Fld Z h0 aLIKE "java/lang/Enum" "ordinal" "I" (.int (6 : Int32))) (QLIKE : Fld Z h0 aLIKE "com/example/firm_store/firmstore/Operator" "sql" "Ljava/lang/String;" (.ref sLIKE)) (SILIKE : Sta Z h0 "com/example/firm_store/firmstore/Operator" "ILIKE" "Lcom/example/firm_store/firmstore/Operator;" (.ref aILIKE)) (EILIKE : Exa Z h0 aILIKE "com/example/firm_store/firmstore/Operator") (OILIKE : Fld Z h0 aILIKE "java/lang/Enum" "ordinal" "I" (.int (7 : Int32))) (QILIKE : Fld Z h0 aILIKE "com/example/firm_store/firmstore/Operator" "sql" "Ljava/lang/String;" (.ref sLIKE)) (TEQ : Exa Z h0 sEQ "java/lang/String") (CEQ : Fld Z h0 sEQ "java/lang/String" "coder" "B" (.int (0 : Int32))) (FEQ : Fld Z h0 sEQ "java/lang/String" "value" "[B" (.ref vEQ)) (VEQ : Arv Z h0 vEQ kEQ .byte (1 : Int32) [(.int (61 : Int32))] (.int (0 : Int32))) (TNE : Exa Z h0 sNE "java/lang/String") (CNE : Fld Z h0 sNE "java/lang/String" "coder" "B" (.int (0 : Int32))) (FNE : Fld Z h0 sNE "java/lang/String" "value" "[B" (.ref vNE)) (VNE : Arv Z h0 vNE kNE .byte (2 : Int32) [(.int (60 : Int32)), (.int (62 : Int32))] (.int (0 : Int32))) (TLT : Exa Z h0 sLT "java/lang/String") (CLT : Fld Z h0 sLT "java/lang/String" "coder" "B" (.int (0 : Int32))) (FLT : Fld Z h0 sLT "java/lang/String" "value" "[B" (.ref vLT)) (VLT : Arv Z h0 vLT kLT .byte (1 : Int32) [(.int (60 : Int32))] (.int (0 : Int32))) (TLE : Exa Z h0 sLE "java/lang/String") (CLE : Fld Z h0 sLE "java/lang/String" "coder" "B" (.int (0 : Int32))) (FLE : Fld Z h0 sLE "java/lang/String" "value" "[B" (.ref vLE)) (VLE : Arv Z h0 vLE kLE .byte (2 : Int32) [(.int (60 : Int32)), (.int (61 : Int32))] (.int (0 : Int32))) (TGT : Exa Z h0 sGT "java/lang/String") (CGT : Fld Z h0 sGT "java/lang/String" "coder" "B" (.int (0 : Int32))) (FGT : Fld Z h0 sGT "java/lang/String" "value" "[B" (.ref vGT)) (VGT : Arv Z h0 vGT kGT .byte (1 : Int32) [(.int (62 : Int32))] (.int (0 : Int32))) (TGE : Exa Z h0 sGE "java/lang/String") (CGE : Fld Z h0 sGE "java/lang/String" "coder" "B" (.int (0 : Int32))) (FGE : Fld Z h0 sGE "java/lang/String" "value" "[B" (.ref vGE)) (VGE : Arv Z h0 vGE kGE .byte (2 : Int32) [(.int (62 : Int32)), (.int (61 : Int32))] (.int (0 : Int32))) (TLIKE : Exa Z h0 sLIKE "java/lang/String") (CLIKE : Fld Z h0 sLIKE "java/lang/String" "coder" "B" (.int (0 : Int32))) (FLIKE : Fld Z h0 sLIKE "java/lang/String" "value" "[B" (.ref vLIKE)) (VLIKE : Arv Z h0 vLIKE kLIKE .byte (4 : Int32) [(.int (108 : Int32)), (.int (105 : Int32)), (.int (107 : Int32)), (.int (101 : Int32))] (.int (0 : Int32))) (hcz : ¬ cz = (0 : Int32)) (SC : Sta Z h0 "java/lang/String" "COMPACT_STRINGS" "Z" (.int cz)) (hn0 : n0 = h0.size) (hheld : Jvm.Lit.constHeld Z "com/example/firm_store/firmstore/OperatorIsPatternPinLaw" 42) (hcw : Jvm.Lit.compactW.before a0 Z = true) :
    MetFree l x (head1 (Jvm.Cond.code x code maxLocals ret :: ws) room_1) (fun a U => a = #[(.int p1)] ∧ U = Z ∧ U.heap = h0) (fun _ _ _ _ _ => True) (fun _ U o U' => ∃ v L, o = .returned v ∧ Q_rm0 Z p1 aEQ aNE aLT aLE aGT aGE aLIKE aILIKE sEQ sNE sLT sLE sGT sGE sLIKE vEQ vNE vLT vLE vGT vGE vLIKE kEQ kNE kLT kLE kGT kGE kLIKE cz h0 n0 v U'.heap L ∧ ReturnedEndW U o U' L room_1.cells room_1.slots) := by
  refine MetFree.of_bodySF (plainFor_of_name own_pn3) hisR ?_
  intro p e s m args below meth c s₁ Bd hml0 hP hK
  obtain ⟨rfl, rfl, hh⟩ := hP
  have hZ : s.Warmed39 s.vm := State.Warmed39.refl s
  have hx := Bd.exec
  have hby := Bd.bytes
  have hml : c.maxLocals = 7 := hml0
  have hown : s.vm.findClass "com/example/firm_store/firmstore/OperatorIsPatternPinLaw" = some m.cls := findClass_of_methodNamed Bd.named
  have hnm := (name_of_methodNamed Bd.named Bd.method).1
  have X0 : Stand p l e room_1 s m #[(.int p1)] below meth c s₁ [] 0 0 := Stand.of_body Bd
  have e0 : s₁.heap = h0 := by rw [← hh, Bd.state]; rfl
  have N0 := Fr.nil n0
  have R0 : ∀ t, Steps p.tables e below (s₁.setTop (mkF m 0 #[.val (.int p1), .unset, .unset, .unset, .unset, .unset, .unset] [])) t → Steps p.tables e below (s₁.setTop (entryFrame m #[(.int p1)] maxLocals)) t := fun t k => castTop (own_ef_rm0 m p1) k
  have R1 : ∀ t, Steps p.tables e below (s₁.setTop (mkF m 2 #[.val (.int p1), .unset, .unset, .unset, .unset, .unset, .unset] [(.int (8 : Int32))])) t → Steps p.tables e below (s₁.setTop (entryFrame m #[(.int p1)] maxLocals)) t := by
    intro t k
    refine R0 t ?_
    show Steps p.tables e below (s₁.setTop (mkF m 0 #[.val (.int p1), .unset, .unset, .unset, .unset, .unset, .unset] [])) _
    refine XS.bipush X0.here hx rfl (hb hby at_0) ?_
    exact k
  obtain ⟨T2, h2, k2, X2, e2, E2, A2, O2, st2⟩ := newR X0 hx hZ hown (hw _ (List.mem_of_getElem? (i := 0) rfl)) (hw _ (List.mem_of_getElem? (i := 1) rfl)) e0 (g := (mkF m 2 #[.val (.int p1), .unset, .unset, .unset, .unset, .unset, .unset] [(.int (8 : Int32))])) rfl (hb hby at_2) rfl (by decide) (cap := 8) (by decide) (by decide) (by decide) (by decide)
  obtain ⟨b2, g2⟩ : ∃ z, z = h0.size := ⟨_, rfl⟩
  rw [← g2] at A2 st2
  have R2 : ∀ t, Steps p.tables e below (T2.setTop (mkF m 5 #[.val (.int p1), .unset, .unset, .unset, .unset, .unset, .unset] [(.ref b2)])) t → Steps p.tables e below (s₁.setTop (entryFrame m #[(.int p1)] maxLocals)) t := fun t k => R1 t (st2 t k)
  have g_b2 : n0 ≤ b2 := Nat.le_trans Z0 (Nat.le_of_eq g2.symm)
  have sz_b2 : h0.size ≤ b2 := Nat.le_trans (Keep.refl h0 []).1 (Nat.le_of_eq g2.symm)
  have Z2 : n0 ≤ h2.size := Nat.le_trans Z0 E2.1
  have K2 : Keep h0 h2 [] := (Keep.refl h0 []).ext E2
  have V2 : Arv s h2 b2 k2 (.object "com/example/firm_store/firmstore/Operator") (8 : Int32) [.null, .null, .null, .null, .null, .null, .null, .null] .null := (Arv.new A2 (by decide)).pad (pad_rep [] .null 8)
  have R3 : ∀ t, Steps p.tables e below (T2.setTop (mkF m 8 #[.val (.int p1), .val (.ref b2), .unset, .unset, .unset, .unset, .unset] [(.int (0 : Int32)), (.ref b2)])) t → Steps p.tables e below (s₁.setTop (entryFrame m #[(.int p1)] maxLocals)) t := by
    intro t k
    refine R2 t ?_
    show Steps p.tables e below (T2.setTop (mkF m 5 #[.val (.int p1), .unset, .unset, .unset, .unset, .unset, .unset] [(.ref b2)])) _
    refine XS.astoreN X2.here hx rfl (hb hby at_5) rfl rfl (l' := #[.val (.int p1), .val (.ref b2), .unset, .unset, .unset, .unset, .unset]) rfl ?_
    show Steps p.tables e below (T2.setTop (mkF m 6 #[.val (.int p1), .val (.ref b2), .unset, .unset, .unset, .unset, .unset] [])) _
    refine XS.aloadN X2.here hx rfl (hb hby at_6) rfl rfl ?_
    show Steps p.tables e below (T2.setTop (mkF m 7 #[.val (.int p1), .val (.ref b2), .unset, .unset, .unset, .unset, .unset] [(.ref b2)])) _
    refine XS.iconst X2.here hx rfl (hb hby at_7) ?_
    exact k
  have f4 : Sta s h2 "com/example/firm_store/firmstore/Operator" "EQ" "Lcom/example/firm_store/firmstore/Operator;" (.ref aEQ) := own_sta_keep SEQ K2
  obtain ⟨T5, X5, e5, st5⟩ := getS2 X2 hx hZ hown (host := "") (Or.inl (hw _ (List.mem_of_getElem? (i := 2) rfl))) Via.refl e2 f4 (g := (mkF m 8 #[.val (.int p1), .val (.ref b2), .unset, .unset, .unset, .unset, .unset] [(.int (0 : Int32)), (.ref b2)])) rfl (hb hby at_8)
  have R5 : ∀ t, Steps p.tables e below (T5.setTop (mkF m 11 #[.val (.int p1), .val (.ref b2), .unset, .unset, .unset, .unset, .unset] [(.ref aEQ), (.int (0 : Int32)), (.ref b2)])) t → Steps p.tables e below (s₁.setTop (entryFrame m #[(.int p1)] maxLocals)) t := fun t k => R3 t (st5 t k)
  have f6 : Exa s h2 aEQ "com/example/firm_store/firmstore/Operator" := EEQ.keep K2
  obtain ⟨cl7, Ar7, q7, S7, N7', H7, G7⟩ := id V2
  have hin7 : ¬ ((0 : Int32) < 0 ∨ cl7.slots.size ≤ ((0 : Int32)).toNatClampNeg) := inb_of S7 ⟨by decide, by decide⟩
  obtain ⟨T8, h8, X8, e8, W8, st8⟩ := stR X5 hx hZ e5 Ar7 (j := (0 : Int32)) hin7 rfl (Sto.ofV Ar7 q7 O2 (Ins.self f6)) (g := (mkF m 11 #[.val (.int p1), .val (.ref b2), .unset, .unset, .unset, .unset, .unset] [(.ref aEQ), (.int (0 : Int32)), (.ref b2)])) rfl rfl (hb hby at_11)
  have R8 : ∀ t, Steps p.tables e below (T8.setTop (mkF m 12 #[.val (.int p1), .val (.ref b2), .unset, .unset, .unset, .unset, .unset] [])) t → Steps p.tables e below (s₁.setTop (entryFrame m #[(.int p1)] maxLocals)) t := fun t k => R5 t (st8 t k)
  have Z8 : n0 ≤ h8.size := Nat.le_trans Z2 (Keep.of_wr W8).1
  have K8 : Keep h0 h8 [] := K2.wr W8 (Or.inr sz_b2)
  have N8 := Fr.snoc X8 N0 g_b2
  have V8 : Arv s h8 b2 k2 (.object "com/example/firm_store/firmstore/Operator") (8 : Int32) [(.ref aEQ), .null, .null, .null, .null, .null, .null, .null] .null := Arv.set Ar7 q7 S7 N7' H7 G7 rfl W8 0 rfl (Nat.le_of_ble_eq_true rfl)
  have R9 : ∀ t, Steps p.tables e below (T8.setTop (mkF m 14 #[.val (.int p1), .val (.ref b2), .unset, .unset, .unset, .unset, .unset] [(.int (1 : Int32)), (.ref b2)])) t → Steps p.tables e below (s₁.setTop (entryFrame m #[(.int p1)] maxLocals)) t := by
    intro t k
    refine R8 t ?_
    show Steps p.tables e below (T8.setTop (mkF m 12 #[.val (.int p1), .val (.ref b2), .unset, .unset, .unset, .unset, .unset] [])) _
    refine XS.aloadN X8.here hx rfl (hb hby at_12) rfl rfl ?_
    show Steps p.tables e below (T8.setTop (mkF m 13 #[.val (.int p1), .val (.ref b2), .unset, .unset, .unset, .unset, .unset] [(.ref b2)])) _
    refine XS.iconst X8.here hx rfl (hb hby at_13) ?_
    exact k
  have f10 : Sta s h8 "com/example/firm_store/firmstore/Operator" "NE" "Lcom/example/firm_store/firmstore/Operator;" (.ref aNE) := own_sta_keep SNE K8
  obtain ⟨T11, X11, e11, st11⟩ := getS2 X8 hx hZ hown (host := "") (Or.inl (hw _ (List.mem_of_getElem? (i := 6) rfl))) Via.refl e8 f10 (g := (mkF m 14 #[.val (.int p1), .val (.ref b2), .unset, .unset, .unset, .unset, .unset] [(.int (1 : Int32)), (.ref b2)])) rfl (hb hby at_14)
  have R11 : ∀ t, Steps p.tables e below (T11.setTop (mkF m 17 #[.val (.int p1), .val (.ref b2), .unset, .unset, .unset, .unset, .unset] [(.ref aNE), (.int (1 : Int32)), (.ref b2)])) t → Steps p.tables e below (s₁.setTop (entryFrame m #[(.int p1)] maxLocals)) t := fun t k => R9 t (st11 t k)
  have f12 : Exa s h8 aNE "com/example/firm_store/firmstore/Operator" := ENE.keep K8
  obtain ⟨cl13, Ar13, q13, S13, N13', H13, G13⟩ := id V8
  have hin13 : ¬ ((1 : Int32) < 0 ∨ cl13.slots.size ≤ ((1 : Int32)).toNatClampNeg) := inb_of S13 ⟨by decide, by decide⟩
  obtain ⟨T14, h14, X14, e14, W14, st14⟩ := stR X11 hx hZ e11 Ar13 (j := (1 : Int32)) hin13 rfl (Sto.ofV Ar13 q13 O2 (Ins.self f12)) (g := (mkF m 17 #[.val (.int p1), .val (.ref b2), .unset, .unset, .unset, .unset, .unset] [(.ref aNE), (.int (1 : Int32)), (.ref b2)])) rfl rfl (hb hby at_17)
  have R14 : ∀ t, Steps p.tables e below (T14.setTop (mkF m 18 #[.val (.int p1), .val (.ref b2), .unset, .unset, .unset, .unset, .unset] [])) t → Steps p.tables e below (s₁.setTop (entryFrame m #[(.int p1)] maxLocals)) t := fun t k => R11 t (st14 t k)
  have Z14 : n0 ≤ h14.size := Nat.le_trans Z8 (Keep.of_wr W14).1
  have K14 : Keep h0 h14 [] := K8.wr W14 (Or.inr sz_b2)
  have N14 := Fr.snoc X14 N8 g_b2
  have V14 : Arv s h14 b2 k2 (.object "com/example/firm_store/firmstore/Operator") (8 : Int32) [(.ref aEQ), (.ref aNE), .null, .null, .null, .null, .null, .null] .null := Arv.set Ar13 q13 S13 N13' H13 G13 rfl W14 1 rfl (Nat.le_of_ble_eq_true rfl)
  have R15 : ∀ t, Steps p.tables e below (T14.setTop (mkF m 20 #[.val (.int p1), .val (.ref b2), .unset, .unset, .unset, .unset, .unset] [(.int (2 : Int32)), (.ref b2)])) t → Steps p.tables e below (s₁.setTop (entryFrame m #[(.int p1)] maxLocals)) t := by
    intro t k
    refine R14 t ?_
    show Steps p.tables e below (T14.setTop (mkF m 18 #[.val (.int p1), .val (.ref b2), .unset, .unset, .unset, .unset, .unset] [])) _
    refine XS.aloadN X14.here hx rfl (hb hby at_18) rfl rfl ?_
    show Steps p.tables e below (T14.setTop (mkF m 19 #[.val (.int p1), .val (.ref b2), .unset, .unset, .unset, .unset, .unset] [(.ref b2)])) _
    refine XS.iconst X14.here hx rfl (hb hby at_19) ?_
    exact k
  have f16 : Sta s h14 "com/example/firm_store/firmstore/Operator" "LT" "Lcom/example/firm_store/firmstore/Operator;" (.ref aLT) := own_sta_keep SLT K14
  obtain ⟨T17, X17, e17, st17⟩ := getS2 X14 hx hZ hown (host := "") (Or.inl (hw _ (List.mem_of_getElem? (i := 8) rfl))) Via.refl e14 f16 (g := (mkF m 20 #[.val (.int p1), .val (.ref b2), .unset, .unset, .unset, .unset, .unset] [(.int (2 : Int32)), (.ref b2)])) rfl (hb hby at_20)
  have R17 : ∀ t, Steps p.tables e below (T17.setTop (mkF m 23 #[.val (.int p1), .val (.ref b2), .unset, .unset, .unset, .unset, .unset] [(.ref aLT), (.int (2 : Int32)), (.ref b2)])) t → Steps p.tables e below (s₁.setTop (entryFrame m #[(.int p1)] maxLocals)) t := fun t k => R15 t (st17 t k)
  have f18 : Exa s h14 aLT "com/example/firm_store/firmstore/Operator" := ELT.keep K14
  obtain ⟨cl19, Ar19, q19, S19, N19', H19, G19⟩ := id V14
  have hin19 : ¬ ((2 : Int32) < 0 ∨ cl19.slots.size ≤ ((2 : Int32)).toNatClampNeg) := inb_of S19 ⟨by decide, by decide⟩
  obtain ⟨T20, h20, X20, e20, W20, st20⟩ := stR X17 hx hZ e17 Ar19 (j := (2 : Int32)) hin19 rfl (Sto.ofV Ar19 q19 O2 (Ins.self f18)) (g := (mkF m 23 #[.val (.int p1), .val (.ref b2), .unset, .unset, .unset, .unset, .unset] [(.ref aLT), (.int (2 : Int32)), (.ref b2)])) rfl rfl (hb hby at_23)
  have R20 : ∀ t, Steps p.tables e below (T20.setTop (mkF m 24 #[.val (.int p1), .val (.ref b2), .unset, .unset, .unset, .unset, .unset] [])) t → Steps p.tables e below (s₁.setTop (entryFrame m #[(.int p1)] maxLocals)) t := fun t k => R17 t (st20 t k)
  have Z20 : n0 ≤ h20.size := Nat.le_trans Z14 (Keep.of_wr W20).1
  have K20 : Keep h0 h20 [] := K14.wr W20 (Or.inr sz_b2)
  have N20 := Fr.snoc X20 N14 g_b2
  have V20 : Arv s h20 b2 k2 (.object "com/example/firm_store/firmstore/Operator") (8 : Int32) [(.ref aEQ), (.ref aNE), (.ref aLT), .null, .null, .null, .null, .null] .null := Arv.set Ar19 q19 S19 N19' H19 G19 rfl W20 2 rfl (Nat.le_of_ble_eq_true rfl)
  have R21 : ∀ t, Steps p.tables e below (T20.setTop (mkF m 26 #[.val (.int p1), .val (.ref b2), .unset, .unset, .unset, .unset, .unset] [(.int (3 : Int32)), (.ref b2)])) t → Steps p.tables e below (s₁.setTop (entryFrame m #[(.int p1)] maxLocals)) t := by
    intro t k
    refine R20 t ?_
    show Steps p.tables e below (T20.setTop (mkF m 24 #[.val (.int p1), .val (.ref b2), .unset, .unset, .unset, .unset, .unset] [])) _
    refine XS.aloadN X20.here hx rfl (hb hby at_24) rfl rfl ?_
    show Steps p.tables e below (T20.setTop (mkF m 25 #[.val (.int p1), .val (.ref b2), .unset, .unset, .unset, .unset, .unset] [(.ref b2)])) _
    refine XS.iconst X20.here hx rfl (hb hby at_25) ?_
    exact k
  have f22 : Sta s h20 "com/example/firm_store/firmstore/Operator" "LE" "Lcom/example/firm_store/firmstore/Operator;" (.ref aLE) := own_sta_keep SLE K20
  obtain ⟨T23, X23, e23, st23⟩ := getS2 X20 hx hZ hown (host := "") (Or.inl (hw _ (List.mem_of_getElem? (i := 10) rfl))) Via.refl e20 f22 (g := (mkF m 26 #[.val (.int p1), .val (.ref b2), .unset, .unset, .unset, .unset, .unset] [(.int (3 : Int32)), (.ref b2)])) rfl (hb hby at_26)
  have R23 : ∀ t, Steps p.tables e below (T23.setTop (mkF m 29 #[.val (.int p1), .val (.ref b2), .unset, .unset, .unset, .unset, .unset] [(.ref aLE), (.int (3 : Int32)), (.ref b2)])) t → Steps p.tables e below (s₁.setTop (entryFrame m #[(.int p1)] maxLocals)) t := fun t k => R21 t (st23 t k)
  have f24 : Exa s h20 aLE "com/example/firm_store/firmstore/Operator" := ELE.keep K20
  obtain ⟨cl25, Ar25, q25, S25, N25', H25, G25⟩ := id V20
  have hin25 : ¬ ((3 : Int32) < 0 ∨ cl25.slots.size ≤ ((3 : Int32)).toNatClampNeg) := inb_of S25 ⟨by decide, by decide⟩
  obtain ⟨T26, h26, X26, e26, W26, st26⟩ := stR X23 hx hZ e23 Ar25 (j := (3 : Int32)) hin25 rfl (Sto.ofV Ar25 q25 O2 (Ins.self f24)) (g := (mkF m 29 #[.val (.int p1), .val (.ref b2), .unset, .unset, .unset, .unset, .unset] [(.ref aLE), (.int (3 : Int32)), (.ref b2)])) rfl rfl (hb hby at_29)
  have R26 : ∀ t, Steps p.tables e below (T26.setTop (mkF m 30 #[.val (.int p1), .val (.ref b2), .unset, .unset, .unset, .unset, .unset] [])) t → Steps p.tables e below (s₁.setTop (entryFrame m #[(.int p1)] maxLocals)) t := fun t k => R23 t (st26 t k)
  have Z26 : n0 ≤ h26.size := Nat.le_trans Z20 (Keep.of_wr W26).1
  have K26 : Keep h0 h26 [] := K20.wr W26 (Or.inr sz_b2)
  have N26 := Fr.snoc X26 N20 g_b2
  have V26 : Arv s h26 b2 k2 (.object "com/example/firm_store/firmstore/Operator") (8 : Int32) [(.ref aEQ), (.ref aNE), (.ref aLT), (.ref aLE), .null, .null, .null, .null] .null := Arv.set Ar25 q25 S25 N25' H25 G25 rfl W26 3 rfl (Nat.le_of_ble_eq_true rfl)
  have R27 : ∀ t, Steps p.tables e below (T26.setTop (mkF m 32 #[.val (.int p1), .val (.ref b2), .unset, .unset, .unset, .unset, .unset] [(.int (4 : Int32)), (.ref b2)])) t → Steps p.tables e below (s₁.setTop (entryFrame m #[(.int p1)] maxLocals)) t := by
    intro t k
    refine R26 t ?_
    show Steps p.tables e below (T26.setTop (mkF m 30 #[.val (.int p1), .val (.ref b2), .unset, .unset, .unset, .unset, .unset] [])) _
    refine XS.aloadN X26.here hx rfl (hb hby at_30) rfl rfl ?_
    show Steps p.tables e below (T26.setTop (mkF m 31 #[.val (.int p1), .val (.ref b2), .unset, .unset, .unset, .unset, .unset] [(.ref b2)])) _
    refine XS.iconst X26.here hx rfl (hb hby at_31) ?_
    exact k
  have f28 : Sta s h26 "com/example/firm_store/firmstore/Operator" "GT" "Lcom/example/firm_store/firmstore/Operator;" (.ref aGT) := own_sta_keep SGT K26
  obtain ⟨T29, X29, e29, st29⟩ := getS2 X26 hx hZ hown (host := "") (Or.inl (hw _ (List.mem_of_getElem? (i := 12) rfl))) Via.refl e26 f28 (g := (mkF m 32 #[.val (.int p1), .val (.ref b2), .unset, .unset, .unset, .unset, .unset] [(.int (4 : Int32)), (.ref b2)])) rfl (hb hby at_32)
  have R29 : ∀ t, Steps p.tables e below (T29.setTop (mkF m 35 #[.val (.int p1), .val (.ref b2), .unset, .unset, .unset, .unset, .unset] [(.ref aGT), (.int (4 : Int32)), (.ref b2)])) t → Steps p.tables e below (s₁.setTop (entryFrame m #[(.int p1)] maxLocals)) t := fun t k => R27 t (st29 t k)
  have f30 : Exa s h26 aGT "com/example/firm_store/firmstore/Operator" := EGT.keep K26
  obtain ⟨cl31, Ar31, q31, S31, N31', H31, G31⟩ := id V26
  have hin31 : ¬ ((4 : Int32) < 0 ∨ cl31.slots.size ≤ ((4 : Int32)).toNatClampNeg) := inb_of S31 ⟨by decide, by decide⟩
  obtain ⟨T32, h32, X32, e32, W32, st32⟩ := stR X29 hx hZ e29 Ar31 (j := (4 : Int32)) hin31 rfl (Sto.ofV Ar31 q31 O2 (Ins.self f30)) (g := (mkF m 35 #[.val (.int p1), .val (.ref b2), .unset, .unset, .unset, .unset, .unset] [(.ref aGT), (.int (4 : Int32)), (.ref b2)])) rfl rfl (hb hby at_35)
  have R32 : ∀ t, Steps p.tables e below (T32.setTop (mkF m 36 #[.val (.int p1), .val (.ref b2), .unset, .unset, .unset, .unset, .unset] [])) t → Steps p.tables e below (s₁.setTop (entryFrame m #[(.int p1)] maxLocals)) t := fun t k => R29 t (st32 t k)
  have Z32 : n0 ≤ h32.size := Nat.le_trans Z26 (Keep.of_wr W32).1
  have K32 : Keep h0 h32 [] := K26.wr W32 (Or.inr sz_b2)
  have N32 := Fr.snoc X32 N26 g_b2
  have V32 : Arv s h32 b2 k2 (.object "com/example/firm_store/firmstore/Operator") (8 : Int32) [(.ref aEQ), (.ref aNE), (.ref aLT), (.ref aLE), (.ref aGT), .null, .null, .null] .null := Arv.set Ar31 q31 S31 N31' H31 G31 rfl W32 4 rfl (Nat.le_of_ble_eq_true rfl)
  have R33 : ∀ t, Steps p.tables e below (T32.setTop (mkF m 38 #[.val (.int p1), .val (.ref b2), .unset, .unset, .unset, .unset, .unset] [(.int (5 : Int32)), (.ref b2)])) t → Steps p.tables e below (s₁.setTop (entryFrame m #[(.int p1)] maxLocals)) t := by
    intro t k
    refine R32 t ?_
    show Steps p.tables e below (T32.setTop (mkF m 36 #[.val (.int p1), .val (.ref b2), .unset, .unset, .unset, .unset, .unset] [])) _
    refine XS.aloadN X32.here hx rfl (hb hby at_36) rfl rfl ?_
    show Steps p.tables e below (T32.setTop (mkF m 37 #[.val (.int p1), .val (.ref b2), .unset, .unset, .unset, .unset, .unset] [(.ref b2)])) _
    refine XS.iconst X32.here hx rfl (hb hby at_37) ?_
    exact k
  have f34 : Sta s h32 "com/example/firm_store/firmstore/Operator" "GE" "Lcom/example/firm_store/firmstore/Operator;" (.ref aGE) := own_sta_keep SGE K32
  obtain ⟨T35, X35, e35, st35⟩ := getS2 X32 hx hZ hown (host := "") (Or.inl (hw _ (List.mem_of_getElem? (i := 14) rfl))) Via.refl e32 f34 (g := (mkF m 38 #[.val (.int p1), .val (.ref b2), .unset, .unset, .unset, .unset, .unset] [(.int (5 : Int32)), (.ref b2)])) rfl (hb hby at_38)
  have R35 : ∀ t, Steps p.tables e below (T35.setTop (mkF m 41 #[.val (.int p1), .val (.ref b2), .unset, .unset, .unset, .unset, .unset] [(.ref aGE), (.int (5 : Int32)), (.ref b2)])) t → Steps p.tables e below (s₁.setTop (entryFrame m #[(.int p1)] maxLocals)) t := fun t k => R33 t (st35 t k)
  have f36 : Exa s h32 aGE "com/example/firm_store/firmstore/Operator" := EGE.keep K32
  obtain ⟨cl37, Ar37, q37, S37, N37', H37, G37⟩ := id V32
  have hin37 : ¬ ((5 : Int32) < 0 ∨ cl37.slots.size ≤ ((5 : Int32)).toNatClampNeg) := inb_of S37 ⟨by decide, by decide⟩
  obtain ⟨T38, h38, X38, e38, W38, st38⟩ := stR X35 hx hZ e35 Ar37 (j := (5 : Int32)) hin37 rfl (Sto.ofV Ar37 q37 O2 (Ins.self f36)) (g := (mkF m 41 #[.val (.int p1), .val (.ref b2), .unset, .unset, .unset, .unset, .unset] [(.ref aGE), (.int (5 : Int32)), (.ref b2)])) rfl rfl (hb hby at_41)
  have R38 : ∀ t, Steps p.tables e below (T38.setTop (mkF m 42 #[.val (.int p1), .val (.ref b2), .unset, .unset, .unset, .unset, .unset] [])) t → Steps p.tables e below (s₁.setTop (entryFrame m #[(.int p1)] maxLocals)) t := fun t k => R35 t (st38 t k)
  have Z38 : n0 ≤ h38.size := Nat.le_trans Z32 (Keep.of_wr W38).1
  have K38 : Keep h0 h38 [] := K32.wr W38 (Or.inr sz_b2)
  have N38 := Fr.snoc X38 N32 g_b2
  have V38 : Arv s h38 b2 k2 (.object "com/example/firm_store/firmstore/Operator") (8 : Int32) [(.ref aEQ), (.ref aNE), (.ref aLT), (.ref aLE), (.ref aGT), (.ref aGE), .null, .null] .null := Arv.set Ar37 q37 S37 N37' H37 G37 rfl W38 5 rfl (Nat.le_of_ble_eq_true rfl)
  have R39 : ∀ t, Steps p.tables e below (T38.setTop (mkF m 45 #[.val (.int p1), .val (.ref b2), .unset, .unset, .unset, .unset, .unset] [(.int (6 : Int32)), (.ref b2)])) t → Steps p.tables e below (s₁.setTop (entryFrame m #[(.int p1)] maxLocals)) t := by
    intro t k
    refine R38 t ?_
    show Steps p.tables e below (T38.setTop (mkF m 42 #[.val (.int p1), .val (.ref b2), .unset, .unset, .unset, .unset, .unset] [])) _
    refine XS.aloadN X38.here hx rfl (hb hby at_42) rfl rfl ?_
    show Steps p.tables e below (T38.setTop (mkF m 43 #[.val (.int p1), .val (.ref b2), .unset, .unset, .unset, .unset, .unset] [(.ref b2)])) _
    refine XS.bipush X38.here hx rfl (hb hby at_43) ?_
    exact k
  have f40 : Sta s h38 "com/example/firm_store/firmstore/Operator" "LIKE" "Lcom/example/firm_store/firmstore/Operator;" (.ref aLIKE) := own_sta_keep SLIKE K38
  obtain ⟨T41, X41, e41, st41⟩ := getS2 X38 hx hZ hown (host := "") (Or.inl (hw _ (List.mem_of_getElem? (i := 16) rfl))) Via.refl e38 f40 (g := (mkF m 45 #[.val (.int p1), .val (.ref b2), .unset, .unset, .unset, .unset, .unset] [(.int (6 : Int32)), (.ref b2)])) rfl (hb hby at_45)
  have R41 : ∀ t, Steps p.tables e below (T41.setTop (mkF m 48 #[.val (.int p1), .val (.ref b2), .unset, .unset, .unset, .unset, .unset] [(.ref aLIKE), (.int (6 : Int32)), (.ref b2)])) t → Steps p.tables e below (s₁.setTop (entryFrame m #[(.int p1)] maxLocals)) t := fun t k => R39 t (st41 t k)
  have f42 : Exa s h38 aLIKE "com/example/firm_store/firmstore/Operator" := ELIKE.keep K38
  obtain ⟨cl43, Ar43, q43, S43, N43', H43, G43⟩ := id V38
  have hin43 : ¬ ((6 : Int32) < 0 ∨ cl43.slots.size ≤ ((6 : Int32)).toNatClampNeg) := inb_of S43 ⟨by decide, by decide⟩
  obtain ⟨T44, h44, X44, e44, W44, st44⟩ := stR X41 hx hZ e41 Ar43 (j := (6 : Int32)) hin43 rfl (Sto.ofV Ar43 q43 O2 (Ins.self f42)) (g := (mkF m 48 #[.val (.int p1), .val (.ref b2), .unset, .unset, .unset, .unset, .unset] [(.ref aLIKE), (.int (6 : Int32)), (.ref b2)])) rfl rfl (hb hby at_48)
  have R44 : ∀ t, Steps p.tables e below (T44.setTop (mkF m 49 #[.val (.int p1), .val (.ref b2), .unset, .unset, .unset, .unset, .unset] [])) t → Steps p.tables e below (s₁.setTop (entryFrame m #[(.int p1)] maxLocals)) t := fun t k => R41 t (st44 t k)
  have Z44 : n0 ≤ h44.size := Nat.le_trans Z38 (Keep.of_wr W44).1
  have K44 : Keep h0 h44 [] := K38.wr W44 (Or.inr sz_b2)
  have N44 := Fr.snoc X44 N38 g_b2
  have V44 : Arv s h44 b2 k2 (.object "com/example/firm_store/firmstore/Operator") (8 : Int32) [(.ref aEQ), (.ref aNE), (.ref aLT), (.ref aLE), (.ref aGT), (.ref aGE), (.ref aLIKE), .null] .null := Arv.set Ar43 q43 S43 N43' H43 G43 rfl W44 6 rfl (Nat.le_of_ble_eq_true rfl)
  have R45 : ∀ t, Steps p.tables e below (T44.setTop (mkF m 52 #[.val (.int p1), .val (.ref b2), .unset, .unset, .unset, .unset, .unset] [(.int (7 : Int32)), (.ref b2)])) t → Steps p.tables e below (s₁.setTop (entryFrame m #[(.int p1)] maxLocals)) t := by
    intro t k
    refine R44 t ?_
    show Steps p.tables e below (T44.setTop (mkF m 49 #[.val (.int p1), .val (.ref b2), .unset, .unset, .unset, .unset, .unset] [])) _
    refine XS.aloadN X44.here hx rfl (hb hby at_49) rfl rfl ?_
    show Steps p.tables e below (T44.setTop (mkF m 50 #[.val (.int p1), .val (.ref b2), .unset, .unset, .unset, .unset, .unset] [(.ref b2)])) _
    refine XS.bipush X44.here hx rfl (hb hby at_50) ?_
    exact k
  have f46 : Sta s h44 "com/example/firm_store/firmstore/Operator" "ILIKE" "Lcom/example/firm_store/firmstore/Operator;" (.ref aILIKE) := own_sta_keep SILIKE K44
  obtain ⟨T47, X47, e47, st47⟩ := getS2 X44 hx hZ hown (host := "") (Or.inl (hw _ (List.mem_of_getElem? (i := 18) rfl))) Via.refl e44 f46 (g := (mkF m 52 #[.val (.int p1), .val (.ref b2), .unset, .unset, .unset, .unset, .unset] [(.int (7 : Int32)), (.ref b2)])) rfl (hb hby at_52)
  have R47 : ∀ t, Steps p.tables e below (T47.setTop (mkF m 55 #[.val (.int p1), .val (.ref b2), .unset, .unset, .unset, .unset, .unset] [(.ref aILIKE), (.int (7 : Int32)), (.ref b2)])) t → Steps p.tables e below (s₁.setTop (entryFrame m #[(.int p1)] maxLocals)) t := fun t k => R45 t (st47 t k)
  have f48 : Exa s h44 aILIKE "com/example/firm_store/firmstore/Operator" := EILIKE.keep K44
  obtain ⟨cl49, Ar49, q49, S49, N49', H49, G49⟩ := id V44
  have hin49 : ¬ ((7 : Int32) < 0 ∨ cl49.slots.size ≤ ((7 : Int32)).toNatClampNeg) := inb_of S49 ⟨by decide, by decide⟩
  obtain ⟨T50, h50, X50, e50, W50, st50⟩ := stR X47 hx hZ e47 Ar49 (j := (7 : Int32)) hin49 rfl (Sto.ofV Ar49 q49 O2 (Ins.self f48)) (g := (mkF m 55 #[.val (.int p1), .val (.ref b2), .unset, .unset, .unset, .unset, .unset] [(.ref aILIKE), (.int (7 : Int32)), (.ref b2)])) rfl rfl (hb hby at_55)
  have R50 : ∀ t, Steps p.tables e below (T50.setTop (mkF m 56 #[.val (.int p1), .val (.ref b2), .unset, .unset, .unset, .unset, .unset] [])) t → Steps p.tables e below (s₁.setTop (entryFrame m #[(.int p1)] maxLocals)) t := fun t k => R47 t (st50 t k)
  have Z50 : n0 ≤ h50.size := Nat.le_trans Z44 (Keep.of_wr W50).1
  have K50 : Keep h0 h50 [] := K44.wr W50 (Or.inr sz_b2)
  have N50 := Fr.snoc X50 N44 g_b2
  have V50 : Arv s h50 b2 k2 (.object "com/example/firm_store/firmstore/Operator") (8 : Int32) [(.ref aEQ), (.ref aNE), (.ref aLT), (.ref aLE), (.ref aGT), (.ref aGE), (.ref aLIKE), (.ref aILIKE)] .null := Arv.set Ar49 q49 S49 N49' H49 G49 rfl W50 7 rfl (Nat.le_of_ble_eq_true rfl)
  have R51 : ∀ t, Steps p.tables e below (T50.setTop (mkF m 61 #[.val (.int p1), .val (.ref b2), .val (.int (p1 &&& (7 : Int32))), .unset, .unset, .unset, .unset] [])) t → Steps p.tables e below (s₁.setTop (entryFrame m #[(.int p1)] maxLocals)) t := by
    intro t k
    refine R50 t ?_
    show Steps p.tables e below (T50.setTop (mkF m 56 #[.val (.int p1), .val (.ref b2), .unset, .unset, .unset, .unset, .unset] [])) _
    refine XS.iloadN X50.here hx rfl (hb hby at_56) rfl ?_
    show Steps p.tables e below (T50.setTop (mkF m 57 #[.val (.int p1), .val (.ref b2), .unset, .unset, .unset, .unset, .unset] [(.int p1)])) _
    refine XS.bipush X50.here hx rfl (hb hby at_57) ?_
    show Steps p.tables e below (T50.setTop (mkF m 59 #[.val (.int p1), .val (.ref b2), .unset, .unset, .unset, .unset, .unset] [(.int (7 : Int32)), (.int p1)])) _
    refine XS.iand X50.here hx rfl (hb hby at_59) rfl ?_
    show Steps p.tables e below (T50.setTop (mkF m 60 #[.val (.int p1), .val (.ref b2), .unset, .unset, .unset, .unset, .unset] [(.int (p1 &&& (7 : Int32)))])) _
    refine XS.istoreN X50.here hx rfl (hb hby at_60) rfl (l' := #[.val (.int p1), .val (.ref b2), .val (.int (p1 &&& (7 : Int32))), .unset, .unset, .unset, .unset]) rfl ?_
    exact k
  rcases own_and7 p1 with hk | hk | hk | hk | hk | hk | hk | hk
  · have R52 : ∀ t, Steps p.tables e below (T50.setTop (mkF m 61 #[.val (.int p1), .val (.ref b2), .val (.int (0 : Int32)), .unset, .unset, .unset, .unset] [])) t → Steps p.tables e below (s₁.setTop (entryFrame m #[(.int p1)] maxLocals)) t := by rw [(hk : (p1 &&& (7 : Int32)) = (0 : Int32))] at R51; exact R51
    have R53 : ∀ t, Steps p.tables e below (T50.setTop (mkF m 63 #[.val (.int p1), .val (.ref b2), .val (.int (0 : Int32)), .unset, .unset, .unset, .unset] [(.int (0 : Int32)), (.ref b2)])) t → Steps p.tables e below (s₁.setTop (entryFrame m #[(.int p1)] maxLocals)) t := by
      intro t k
      refine R52 t ?_
      show Steps p.tables e below (T50.setTop (mkF m 61 #[.val (.int p1), .val (.ref b2), .val (.int (0 : Int32)), .unset, .unset, .unset, .unset] [])) _
      refine XS.aloadN X50.here hx rfl (hb hby at_61) rfl rfl ?_
      show Steps p.tables e below (T50.setTop (mkF m 62 #[.val (.int p1), .val (.ref b2), .val (.int (0 : Int32)), .unset, .unset, .unset, .unset] [(.ref b2)])) _
      refine XS.iloadN X50.here hx rfl (hb hby at_62) rfl ?_
      exact k
    obtain ⟨cl54, Ar54, q54, S54, N54', H54, G54⟩ := id V50
    have hin54_0 : ¬ ((0 : Int32) < 0 ∨ cl54.slots.size ≤ ((0 : Int32)).toNatClampNeg) := inb_of S54 ⟨by decide, by decide⟩
    have hat54_0 : cl54.slots[((0 : Int32)).toNatClampNeg]? = some (.ref aEQ) := H54.at hin54_0 rfl
    have R55 : ∀ t, Steps p.tables e below (T50.setTop (mkF m 79 #[.val (.int p1), .val (.ref b2), .val (.int (0 : Int32)), .val (.ref aEQ), .val (.int (0 : Int32)), .unset, .unset] [(.ref aEQ)])) t → Steps p.tables e below (s₁.setTop (entryFrame m #[(.int p1)] maxLocals)) t := by
      intro t k
      refine R53 t ?_
      show Steps p.tables e below (T50.setTop (mkF m 63 #[.val (.int p1), .val (.ref b2), .val (.int (0 : Int32)), .unset, .unset, .unset, .unset] [(.int (0 : Int32)), (.ref b2)])) _
      refine X50.aaload hx (j := (0 : Int32)) (v := (.ref aEQ)) (by rw [e50]; exact Ar54.1) (State.isArrayOf_alike hZ.alike Ar54.2.1) rfl Ar54.2.2 hin54_0 hat54_0 (g := (mkF m 63 #[.val (.int p1), .val (.ref b2), .val (.int (0 : Int32)), .unset, .unset, .unset, .unset] [(.int (0 : Int32)), (.ref b2)])) rfl rfl (hb hby at_63) _ ?_
      show Steps p.tables e below (T50.setTop (mkF m 64 #[.val (.int p1), .val (.ref b2), .val (.int (0 : Int32)), .unset, .unset, .unset, .unset] [(.ref aEQ)])) _
      refine XS.astoreN X50.here hx rfl (hb hby at_64) rfl rfl (l' := #[.val (.int p1), .val (.ref b2), .val (.int (0 : Int32)), .val (.ref aEQ), .unset, .unset, .unset]) rfl ?_
      show Steps p.tables e below (T50.setTop (mkF m 65 #[.val (.int p1), .val (.ref b2), .val (.int (0 : Int32)), .val (.ref aEQ), .unset, .unset, .unset] [])) _
      refine XS.iloadN X50.here hx rfl (hb hby at_65) rfl ?_
      show Steps p.tables e below (T50.setTop (mkF m 66 #[.val (.int p1), .val (.ref b2), .val (.int (0 : Int32)), .val (.ref aEQ), .unset, .unset, .unset] [(.int (0 : Int32))])) _
      refine XS.bipush X50.here hx rfl (hb hby at_66) ?_
      show Steps p.tables e below (T50.setTop (mkF m 68 #[.val (.int p1), .val (.ref b2), .val (.int (0 : Int32)), .val (.ref aEQ), .unset, .unset, .unset] [(.int (6 : Int32)), (.int (0 : Int32))])) _
      refine XS.icmpYes X50.here hx rfl (pc0 := 68) (pc' := 75) rfl (hb hby at_68) rfl (tlt (by decide : ((0 : Int32) < (6 : Int32)))).1 (by decide) (by decide) ?_
      show Steps p.tables e below (T50.setTop (mkF m 75 #[.val (.int p1), .val (.ref b2), .val (.int (0 : Int32)), .val (.ref aEQ), .unset, .unset, .unset] [])) _
      refine XS.iconst X50.here hx rfl (hb hby at_75) ?_
      show Steps p.tables e below (T50.setTop (mkF m 76 #[.val (.int p1), .val (.ref b2), .val (.int (0 : Int32)), .val (.ref aEQ), .unset, .unset, .unset] [(.int (0 : Int32))])) _
      refine XS.istore X50.here hx rfl (hb hby at_76) rfl (l' := #[.val (.int p1), .val (.ref b2), .val (.int (0 : Int32)), .val (.ref aEQ), .val (.int (0 : Int32)), .unset, .unset]) rfl ?_
      show Steps p.tables e below (T50.setTop (mkF m 78 #[.val (.int p1), .val (.ref b2), .val (.int (0 : Int32)), .val (.ref aEQ), .val (.int (0 : Int32)), .unset, .unset] [])) _
      refine XS.aloadN X50.here hx rfl (hb hby at_78) rfl rfl ?_
      exact k
    have f56 : Sta s h50 "com/example/firm_store/firmstore/Operator" "LIKE" "Lcom/example/firm_store/firmstore/Operator;" (.ref aLIKE) := own_sta_keep SLIKE K50
    have f57 : Sta s h50 "com/example/firm_store/firmstore/Operator" "ILIKE" "Lcom/example/firm_store/firmstore/Operator;" (.ref aILIKE) := own_sta_keep SILIKE K50
    have f59 : Exa s h50 aEQ "com/example/firm_store/firmstore/Operator" := EEQ.keep K50
    obtain ⟨cq58, kq58, q58a, q58b, q58c⟩ := isOf hZ e50 f59
    obtain ⟨_, _, ⟨T58, L58, k58, n58⟩, -, X58, ⟨Lc58, hQ58, l58, y58, z58⟩, st58⟩ := X50.virtualBack hx (y := (⟨"com/example/firm_store/firmstore/Operator", "isPattern", "()Z"⟩ : MethodName)) (z := (⟨"com/example/firm_store/firmstore/Operator", "isPattern", "()Z"⟩ : MethodName)) hown (mvT hZ (hw _ (List.mem_of_getElem? (i := 20) rfl))) (mvT hZ (hw _ (List.mem_of_getElem? (i := 21) rfl))) (notFace_of_selects (args := #[]) (mvT hZ (hw _ (List.mem_of_getElem? (i := 23) rfl)))) (mvT hZ (hw _ (List.mem_of_getElem? (i := 23) rfl))) (mvT hZ (hw _ (List.mem_of_getElem? (i := 22) rfl))) (by decide) (backOf (W := 0) (rmPN l s a0 hw [] aEQ aLIKE aILIKE h50 n0 Z50 f56 f57 (Fld.ne OEQ OLIKE (by decide)) (Fld.ne OEQ OILIKE (by decide))) hZ (hw _ (List.mem_of_getElem? (i := 24) rfl)) (hw _ (List.mem_of_getElem? (i := 3) rfl)) (by decide) (by decide)) q58a q58c (g := (mkF m 79 #[.val (.int p1), .val (.ref b2), .val (.int (0 : Int32)), .val (.ref aEQ), .val (.int (0 : Int32)), .unset, .unset] [(.ref aEQ)])) rfl (by rw [hml]; rfl) (Steps.refl _) (argsL := []) (rest := []) (lenOf own_pd0 rfl) rfl (by show 2 * 0 + _ ≤ _; exact Nat.le_of_eq rfl) (hb hby at_79) (fun _ _ => ⟨rfl, e50, (by decide : 1 + 0 ≤ _), (by decide : 8 + 0 ≤ _)⟩)
    dsimp only [Pt.U, Pt.locs, Pt.cells, Pt.slots] at X58 l58 y58 z58 st58 hQ58
    subst l58 y58 z58
    obtain ⟨rfl, Nq58, eq58⟩ := hQ58
    have N58 := Fr.app N50 Nq58
    have R58 : ∀ t, Steps p.tables e below (T58.setTop (mkF m 82 #[.val (.int p1), .val (.ref b2), .val (.int (0 : Int32)), .val (.ref aEQ), .val (.int (0 : Int32)), .unset, .unset] [(.int (0 : Int32))])) t → Steps p.tables e below (s₁.setTop (entryFrame m #[(.int p1)] maxLocals)) t := fun t k => R55 t (st58.trans k)
    have R60 : ∀ t, Steps p.tables e below (T58.setTop (mkF m 85 #[.val (.int p1), .val (.ref b2), .val (.int (0 : Int32)), .val (.ref aEQ), .val (.int (0 : Int32)), .val (.int (0 : Int32)), .unset] [(.ref aEQ)])) t → Steps p.tables e below (s₁.setTop (entryFrame m #[(.int p1)] maxLocals)) t := by
      intro t k
      refine R58 t ?_
      show Steps p.tables e below (T58.setTop (mkF m 82 #[.val (.int p1), .val (.ref b2), .val (.int (0 : Int32)), .val (.ref aEQ), .val (.int (0 : Int32)), .unset, .unset] [(.int (0 : Int32))])) _
      refine XS.istore X58.here hx rfl (hb hby at_82) rfl (l' := #[.val (.int p1), .val (.ref b2), .val (.int (0 : Int32)), .val (.ref aEQ), .val (.int (0 : Int32)), .val (.int (0 : Int32)), .unset]) rfl ?_
      show Steps p.tables e below (T58.setTop (mkF m 84 #[.val (.int p1), .val (.ref b2), .val (.int (0 : Int32)), .val (.ref aEQ), .val (.int (0 : Int32)), .val (.int (0 : Int32)), .unset] [])) _
      refine XS.aloadN X58.here hx rfl (hb hby at_84) rfl rfl ?_
      exact k
    have f61 : Fld s h50 aEQ "com/example/firm_store/firmstore/Operator" "sql" "Ljava/lang/String;" (.ref sEQ) := QEQ.keep K50 nin0
    obtain ⟨cq62, kq62, q62a, q62b, q62c⟩ := isOf hZ eq58 f59
    obtain ⟨_, _, ⟨T62, L62, k62, n62⟩, -, X62, ⟨Lc62, hQ62, l62, y62, z62⟩, st62⟩ := X58.virtualBack hx (y := (⟨"com/example/firm_store/firmstore/Operator", "sql", "()Ljava/lang/String;"⟩ : MethodName)) (z := (⟨"com/example/firm_store/firmstore/Operator", "sql", "()Ljava/lang/String;"⟩ : MethodName)) hown (mvT hZ (hw _ (List.mem_of_getElem? (i := 27) rfl))) (mvT hZ (hw _ (List.mem_of_getElem? (i := 28) rfl))) (notFace_of_selects (args := #[]) (mvT hZ (hw _ (List.mem_of_getElem? (i := 30) rfl)))) (mvT hZ (hw _ (List.mem_of_getElem? (i := 30) rfl))) (mvT hZ (hw _ (List.mem_of_getElem? (i := 29) rfl))) (by decide) (backOf (W := 0) (rmSql l s a0 hw [] aEQ sEQ h50 n0 Z50 f61) hZ (hw _ (List.mem_of_getElem? (i := 31) rfl)) (hw _ (List.mem_of_getElem? (i := 3) rfl)) (by decide) (by decide)) q62a q62c (g := (mkF m 85 #[.val (.int p1), .val (.ref b2), .val (.int (0 : Int32)), .val (.ref aEQ), .val (.int (0 : Int32)), .val (.int (0 : Int32)), .unset] [(.ref aEQ)])) rfl (by rw [hml]; rfl) (Steps.refl _) (argsL := []) (rest := []) (lenOf own_pd1 rfl) rfl (by show 2 * 0 + _ ≤ _; exact Nat.le_of_eq rfl) (hb hby at_85) (fun _ _ => ⟨rfl, eq58, (by decide : 1 + 0 ≤ _), (by decide : 8 + 0 ≤ _)⟩)
    dsimp only [Pt.U, Pt.locs, Pt.cells, Pt.slots] at X62 l62 y62 z62 st62 hQ62
    subst l62 y62 z62
    obtain ⟨rfl, Nq62, eq62⟩ := hQ62
    have N62 := Fr.app N58 Nq62
    have R62 : ∀ t, Steps p.tables e below (T62.setTop (mkF m 88 #[.val (.int p1), .val (.ref b2), .val (.int (0 : Int32)), .val (.ref aEQ), .val (.int (0 : Int32)), .val (.int (0 : Int32)), .unset] [(.ref sEQ)])) t → Steps p.tables e below (s₁.setTop (entryFrame m #[(.int p1)] maxLocals)) t := fun t k => R60 t (st62.trans k)
    have Nn := own_frn (n := s.heap.size) (by rw [hh]; exact hn0) N62
    obtain ⟨lit, T63, h63, ki63, lb, lk, X63, e63, E63, hS, hki, hZ', hown', litE, litC, litF, litV, litL, lbL, -, st63⟩ := ldcSV (s := s) (vm0 := s.vm) (Ts := []) X62 hx hZ hown (hw _ (List.mem_of_getElem? (i := 34) rfl)) (own_atoms hw) eq62 (State.WarmedH.since (State.WarmedH.refl s) _) (Nat.zero_le _ : 0 ≤ _) Nn (fun b cl q => q) IB.start (by decide) hheld hcw (vs := [(.int (108 : Int32)), (.int (105 : Int32)), (.int (107 : Int32)), (.int (101 : Int32))]) (z := (4 : Int32)) ⟨by decide, rfl⟩ (by decide) rfl (g := (mkF m 88 #[.val (.int p1), .val (.ref b2), .val (.int (0 : Int32)), .val (.ref aEQ), .val (.int (0 : Int32)), .val (.int (0 : Int32)), .unset] [(.ref sEQ)])) rfl (hb hby at_88) (n := 16) (by decide) (by decide) (by decide) (by decide)
    have R63 : ∀ t, Steps p.tables e below (T63.setTop (mkF m 90 #[.val (.int p1), .val (.ref b2), .val (.int (0 : Int32)), .val (.ref aEQ), .val (.int (0 : Int32)), .val (.int (0 : Int32)), .unset] [(.ref lit), (.ref sEQ)])) t → Steps p.tables e below (s₁.setTop (entryFrame m #[(.int p1)] maxLocals)) t := fun t k => R62 t (st63 t k)
    have Z63 : n0 ≤ h63.size := Nat.le_trans Z50 E63.1
    have K63 : Keep h0 h63 [] := K50.ext E63
    have hZ := hZ'
    have hown := hown'
    have f64 : Exa s h63 sEQ "java/lang/String" := TEQ.keep K63
    have f65 : Fld s h63 sEQ "java/lang/String" "coder" "B" (.int (0 : Int32)) := CEQ.keep K63 nin0
    have f66 : Fld s h63 sEQ "java/lang/String" "value" "[B" (.ref vEQ) := FEQ.keep K63 nin0
    have f67 : Arv s h63 vEQ kEQ .byte (1 : Int32) [(.int (61 : Int32))] (.int (0 : Int32)) := VEQ.keep K63 nin0
    have f68 : Sta s h63 "java/lang/String" "COMPACT_STRINGS" "Z" (.int cz) := own_sta_keep SC K63
    have nv : vEQ ≠ lb := arv_ne f67 litV (Or.inl (by decide))
    have ns : sEQ ≠ lit := Fld.ne f66 litF (fun e => nv (Value.ref.inj e))
    obtain ⟨cq69, kq69, q69a, q69b, q69c⟩ := isOf hZ e63 f64
    obtain ⟨_, _, ⟨T69, L69, k69, n69⟩, -, X69, ⟨Lc69, hQ69, l69, y69, z69⟩, st69⟩ := X63.virtualBack hx (y := (⟨"java/lang/String", "equals", "(Ljava/lang/Object;)Z"⟩ : MethodName)) (z := (⟨"java/lang/String", "equals", "(Ljava/lang/Object;)Z"⟩ : MethodName)) hown (mvT hZ (hw _ (List.mem_of_getElem? (i := 42) rfl))) (mvT hZ (hw _ (List.mem_of_getElem? (i := 43) rfl))) (notFace_of_selects (args := #[]) (mvT hZ (hw _ (List.mem_of_getElem? (i := 45) rfl)))) (mvT hZ (hw _ (List.mem_of_getElem? (i := 45) rfl))) (mvT hZ (hw _ (List.mem_of_getElem? (i := 44) rfl))) (by decide) (backOf (W := 0) (rmED l s a0 hw [] sEQ lit vEQ lb cz kEQ lk (1 : Int32) (4 : Int32) [(.int (61 : Int32))] [(.int (108 : Int32)), (.int (105 : Int32)), (.int (107 : Int32)), (.int (101 : Int32))] h63 n0 Z63 ns hcz f68 litE f65 f66 litC litF f67 litV (by decide)) hZ (hw _ (List.mem_of_getElem? (i := 46) rfl)) (hw _ (List.mem_of_getElem? (i := 35) rfl)) (by decide) (by decide)) q69a q69c (g := (mkF m 90 #[.val (.int p1), .val (.ref b2), .val (.int (0 : Int32)), .val (.ref aEQ), .val (.int (0 : Int32)), .val (.int (0 : Int32)), .unset] [(.ref lit), (.ref sEQ)])) rfl (by rw [hml]; rfl) (Steps.refl _) (argsL := [(.ref lit)]) (rest := []) (lenOf own_pd2 rfl) rfl (by show 2 * 0 + _ ≤ _; exact Nat.le_of_eq rfl) (hb hby at_90) (fun _ _ => ⟨rfl, e63, (by decide : 3 + 0 ≤ _), (by decide : 28 + 0 ≤ _)⟩)
    dsimp only [Pt.U, Pt.locs, Pt.cells, Pt.slots] at X69 l69 y69 z69 st69 hQ69
    subst l69 y69 z69
    obtain ⟨rfl, Nq69, eq69⟩ := hQ69
    have N69 := Fr.app N62 Nq69
    have R69 : ∀ t, Steps p.tables e below (T69.setTop (mkF m 93 #[.val (.int p1), .val (.ref b2), .val (.int (0 : Int32)), .val (.ref aEQ), .val (.int (0 : Int32)), .val (.int (0 : Int32)), .unset] [(.int (0 : Int32))])) t → Steps p.tables e below (s₁.setTop (entryFrame m #[(.int p1)] maxLocals)) t := fun t k => R63 t (st69.trans k)
    have R70 : ∀ t, Steps p.tables e below (T69.setTop (mkF m 114 #[.val (.int p1), .val (.ref b2), .val (.int (0 : Int32)), .val (.ref aEQ), .val (.int (0 : Int32)), .val (.int (0 : Int32)), .val (.int (0 : Int32))] [(.int (1 : Int32))])) t → Steps p.tables e below (s₁.setTop (entryFrame m #[(.int p1)] maxLocals)) t := by
      intro t k
      refine R69 t ?_
      show Steps p.tables e below (T69.setTop (mkF m 93 #[.val (.int p1), .val (.ref b2), .val (.int (0 : Int32)), .val (.ref aEQ), .val (.int (0 : Int32)), .val (.int (0 : Int32)), .unset] [(.int (0 : Int32))])) _
      refine XS.istore X69.here hx rfl (hb hby at_93) rfl (l' := #[.val (.int p1), .val (.ref b2), .val (.int (0 : Int32)), .val (.ref aEQ), .val (.int (0 : Int32)), .val (.int (0 : Int32)), .val (.int (0 : Int32))]) rfl ?_
      show Steps p.tables e below (T69.setTop (mkF m 95 #[.val (.int p1), .val (.ref b2), .val (.int (0 : Int32)), .val (.ref aEQ), .val (.int (0 : Int32)), .val (.int (0 : Int32)), .val (.int (0 : Int32))] [])) _
      refine XS.iload X69.here hx rfl (hb hby at_95) rfl ?_
      show Steps p.tables e below (T69.setTop (mkF m 97 #[.val (.int p1), .val (.ref b2), .val (.int (0 : Int32)), .val (.ref aEQ), .val (.int (0 : Int32)), .val (.int (0 : Int32)), .val (.int (0 : Int32))] [(.int (0 : Int32))])) _
      refine XS.iload X69.here hx rfl (hb hby at_97) rfl ?_
      show Steps p.tables e below (T69.setTop (mkF m 99 #[.val (.int p1), .val (.ref b2), .val (.int (0 : Int32)), .val (.ref aEQ), .val (.int (0 : Int32)), .val (.int (0 : Int32)), .val (.int (0 : Int32))] [(.int (0 : Int32)), (.int (0 : Int32))])) _
      refine XS.icmpNo X69.here hx rfl (hb hby at_99) rfl (teq (by decide : ((0 : Int32) = (0 : Int32)))).2 ?_
      show Steps p.tables e below (T69.setTop (mkF m 102 #[.val (.int p1), .val (.ref b2), .val (.int (0 : Int32)), .val (.ref aEQ), .val (.int (0 : Int32)), .val (.int (0 : Int32)), .val (.int (0 : Int32))] [])) _
      refine XS.iload X69.here hx rfl (hb hby at_102) rfl ?_
      show Steps p.tables e below (T69.setTop (mkF m 104 #[.val (.int p1), .val (.ref b2), .val (.int (0 : Int32)), .val (.ref aEQ), .val (.int (0 : Int32)), .val (.int (0 : Int32)), .val (.int (0 : Int32))] [(.int (0 : Int32))])) _
      refine XS.iload X69.here hx rfl (hb hby at_104) rfl ?_
      show Steps p.tables e below (T69.setTop (mkF m 106 #[.val (.int p1), .val (.ref b2), .val (.int (0 : Int32)), .val (.ref aEQ), .val (.int (0 : Int32)), .val (.int (0 : Int32)), .val (.int (0 : Int32))] [(.int (0 : Int32)), (.int (0 : Int32))])) _
      refine XS.icmpNo X69.here hx rfl (hb hby at_106) rfl (teq (by decide : ((0 : Int32) = (0 : Int32)))).2 ?_
      show Steps p.tables e below (T69.setTop (mkF m 109 #[.val (.int p1), .val (.ref b2), .val (.int (0 : Int32)), .val (.ref aEQ), .val (.int (0 : Int32)), .val (.int (0 : Int32)), .val (.int (0 : Int32))] [])) _
      refine XS.iconst X69.here hx rfl (hb hby at_109) ?_
      show Steps p.tables e below (T69.setTop (mkF m 110 #[.val (.int p1), .val (.ref b2), .val (.int (0 : Int32)), .val (.ref aEQ), .val (.int (0 : Int32)), .val (.int (0 : Int32)), .val (.int (0 : Int32))] [(.int (1 : Int32))])) _
      refine XS.goto X69.here hx rfl (pc0 := 110) (pc' := 114) rfl (hb hby at_110) (by decide) (by decide) ?_
      exact k
    obtain ⟨fs, hr, hrun, hended, hEnd⟩ := X69.leaveW hS (Nat.le_trans hki (Nat.le_of_eq (by rw [eq69]))) (v := some (.int (1 : Int32))) (fun h => by rw [Bd.returns] at h; cases h)
    refine ⟨_, _, R70 _ ?_, hrun, hended, _, _, rfl, ⟨rfl, N69⟩, own_endMono hEnd (by decide) (by decide)⟩
    exact retN X69 hx (t := .boolean) Bd.returns (by simp) (hb hby at_114) hr
  · have R71 : ∀ t, Steps p.tables e below (T50.setTop (mkF m 61 #[.val (.int p1), .val (.ref b2), .val (.int (1 : Int32)), .unset, .unset, .unset, .unset] [])) t → Steps p.tables e below (s₁.setTop (entryFrame m #[(.int p1)] maxLocals)) t := by rw [(hk : (p1 &&& (7 : Int32)) = (1 : Int32))] at R51; exact R51
    have R72 : ∀ t, Steps p.tables e below (T50.setTop (mkF m 63 #[.val (.int p1), .val (.ref b2), .val (.int (1 : Int32)), .unset, .unset, .unset, .unset] [(.int (1 : Int32)), (.ref b2)])) t → Steps p.tables e below (s₁.setTop (entryFrame m #[(.int p1)] maxLocals)) t := by
      intro t k
      refine R71 t ?_
      show Steps p.tables e below (T50.setTop (mkF m 61 #[.val (.int p1), .val (.ref b2), .val (.int (1 : Int32)), .unset, .unset, .unset, .unset] [])) _
      refine XS.aloadN X50.here hx rfl (hb hby at_61) rfl rfl ?_
      show Steps p.tables e below (T50.setTop (mkF m 62 #[.val (.int p1), .val (.ref b2), .val (.int (1 : Int32)), .unset, .unset, .unset, .unset] [(.ref b2)])) _
      refine XS.iloadN X50.here hx rfl (hb hby at_62) rfl ?_
      exact k
    obtain ⟨cl73, Ar73, q73, S73, N73', H73, G73⟩ := id V50
    have hin73_1 : ¬ ((1 : Int32) < 0 ∨ cl73.slots.size ≤ ((1 : Int32)).toNatClampNeg) := inb_of S73 ⟨by decide, by decide⟩
    have hat73_1 : cl73.slots[((1 : Int32)).toNatClampNeg]? = some (.ref aNE) := H73.at hin73_1 rfl
    have R74 : ∀ t, Steps p.tables e below (T50.setTop (mkF m 79 #[.val (.int p1), .val (.ref b2), .val (.int (1 : Int32)), .val (.ref aNE), .val (.int (0 : Int32)), .unset, .unset] [(.ref aNE)])) t → Steps p.tables e below (s₁.setTop (entryFrame m #[(.int p1)] maxLocals)) t := by
      intro t k
      refine R72 t ?_
      show Steps p.tables e below (T50.setTop (mkF m 63 #[.val (.int p1), .val (.ref b2), .val (.int (1 : Int32)), .unset, .unset, .unset, .unset] [(.int (1 : Int32)), (.ref b2)])) _
      refine X50.aaload hx (j := (1 : Int32)) (v := (.ref aNE)) (by rw [e50]; exact Ar73.1) (State.isArrayOf_alike hZ.alike Ar73.2.1) rfl Ar73.2.2 hin73_1 hat73_1 (g := (mkF m 63 #[.val (.int p1), .val (.ref b2), .val (.int (1 : Int32)), .unset, .unset, .unset, .unset] [(.int (1 : Int32)), (.ref b2)])) rfl rfl (hb hby at_63) _ ?_
      show Steps p.tables e below (T50.setTop (mkF m 64 #[.val (.int p1), .val (.ref b2), .val (.int (1 : Int32)), .unset, .unset, .unset, .unset] [(.ref aNE)])) _
      refine XS.astoreN X50.here hx rfl (hb hby at_64) rfl rfl (l' := #[.val (.int p1), .val (.ref b2), .val (.int (1 : Int32)), .val (.ref aNE), .unset, .unset, .unset]) rfl ?_
      show Steps p.tables e below (T50.setTop (mkF m 65 #[.val (.int p1), .val (.ref b2), .val (.int (1 : Int32)), .val (.ref aNE), .unset, .unset, .unset] [])) _
      refine XS.iloadN X50.here hx rfl (hb hby at_65) rfl ?_
      show Steps p.tables e below (T50.setTop (mkF m 66 #[.val (.int p1), .val (.ref b2), .val (.int (1 : Int32)), .val (.ref aNE), .unset, .unset, .unset] [(.int (1 : Int32))])) _
      refine XS.bipush X50.here hx rfl (hb hby at_66) ?_
      show Steps p.tables e below (T50.setTop (mkF m 68 #[.val (.int p1), .val (.ref b2), .val (.int (1 : Int32)), .val (.ref aNE), .unset, .unset, .unset] [(.int (6 : Int32)), (.int (1 : Int32))])) _
      refine XS.icmpYes X50.here hx rfl (pc0 := 68) (pc' := 75) rfl (hb hby at_68) rfl (tlt (by decide : ((1 : Int32) < (6 : Int32)))).1 (by decide) (by decide) ?_
      show Steps p.tables e below (T50.setTop (mkF m 75 #[.val (.int p1), .val (.ref b2), .val (.int (1 : Int32)), .val (.ref aNE), .unset, .unset, .unset] [])) _
      refine XS.iconst X50.here hx rfl (hb hby at_75) ?_
      show Steps p.tables e below (T50.setTop (mkF m 76 #[.val (.int p1), .val (.ref b2), .val (.int (1 : Int32)), .val (.ref aNE), .unset, .unset, .unset] [(.int (0 : Int32))])) _
      refine XS.istore X50.here hx rfl (hb hby at_76) rfl (l' := #[.val (.int p1), .val (.ref b2), .val (.int (1 : Int32)), .val (.ref aNE), .val (.int (0 : Int32)), .unset, .unset]) rfl ?_
      show Steps p.tables e below (T50.setTop (mkF m 78 #[.val (.int p1), .val (.ref b2), .val (.int (1 : Int32)), .val (.ref aNE), .val (.int (0 : Int32)), .unset, .unset] [])) _
      refine XS.aloadN X50.here hx rfl (hb hby at_78) rfl rfl ?_
      exact k
    have f75 : Sta s h50 "com/example/firm_store/firmstore/Operator" "LIKE" "Lcom/example/firm_store/firmstore/Operator;" (.ref aLIKE) := own_sta_keep SLIKE K50
    have f76 : Sta s h50 "com/example/firm_store/firmstore/Operator" "ILIKE" "Lcom/example/firm_store/firmstore/Operator;" (.ref aILIKE) := own_sta_keep SILIKE K50
    have f78 : Exa s h50 aNE "com/example/firm_store/firmstore/Operator" := ENE.keep K50
    obtain ⟨cq77, kq77, q77a, q77b, q77c⟩ := isOf hZ e50 f78
    obtain ⟨_, _, ⟨T77, L77, k77, n77⟩, -, X77, ⟨Lc77, hQ77, l77, y77, z77⟩, st77⟩ := X50.virtualBack hx (y := (⟨"com/example/firm_store/firmstore/Operator", "isPattern", "()Z"⟩ : MethodName)) (z := (⟨"com/example/firm_store/firmstore/Operator", "isPattern", "()Z"⟩ : MethodName)) hown (mvT hZ (hw _ (List.mem_of_getElem? (i := 20) rfl))) (mvT hZ (hw _ (List.mem_of_getElem? (i := 21) rfl))) (notFace_of_selects (args := #[]) (mvT hZ (hw _ (List.mem_of_getElem? (i := 23) rfl)))) (mvT hZ (hw _ (List.mem_of_getElem? (i := 23) rfl))) (mvT hZ (hw _ (List.mem_of_getElem? (i := 22) rfl))) (by decide) (backOf (W := 0) (rmPN l s a0 hw [] aNE aLIKE aILIKE h50 n0 Z50 f75 f76 (Fld.ne ONE OLIKE (by decide)) (Fld.ne ONE OILIKE (by decide))) hZ (hw _ (List.mem_of_getElem? (i := 24) rfl)) (hw _ (List.mem_of_getElem? (i := 3) rfl)) (by decide) (by decide)) q77a q77c (g := (mkF m 79 #[.val (.int p1), .val (.ref b2), .val (.int (1 : Int32)), .val (.ref aNE), .val (.int (0 : Int32)), .unset, .unset] [(.ref aNE)])) rfl (by rw [hml]; rfl) (Steps.refl _) (argsL := []) (rest := []) (lenOf own_pd0 rfl) rfl (by show 2 * 0 + _ ≤ _; exact Nat.le_of_eq rfl) (hb hby at_79) (fun _ _ => ⟨rfl, e50, (by decide : 1 + 0 ≤ _), (by decide : 8 + 0 ≤ _)⟩)
    dsimp only [Pt.U, Pt.locs, Pt.cells, Pt.slots] at X77 l77 y77 z77 st77 hQ77
    subst l77 y77 z77
    obtain ⟨rfl, Nq77, eq77⟩ := hQ77
    have N77 := Fr.app N50 Nq77
    have R77 : ∀ t, Steps p.tables e below (T77.setTop (mkF m 82 #[.val (.int p1), .val (.ref b2), .val (.int (1 : Int32)), .val (.ref aNE), .val (.int (0 : Int32)), .unset, .unset] [(.int (0 : Int32))])) t → Steps p.tables e below (s₁.setTop (entryFrame m #[(.int p1)] maxLocals)) t := fun t k => R74 t (st77.trans k)
    have R79 : ∀ t, Steps p.tables e below (T77.setTop (mkF m 85 #[.val (.int p1), .val (.ref b2), .val (.int (1 : Int32)), .val (.ref aNE), .val (.int (0 : Int32)), .val (.int (0 : Int32)), .unset] [(.ref aNE)])) t → Steps p.tables e below (s₁.setTop (entryFrame m #[(.int p1)] maxLocals)) t := by
      intro t k
      refine R77 t ?_
      show Steps p.tables e below (T77.setTop (mkF m 82 #[.val (.int p1), .val (.ref b2), .val (.int (1 : Int32)), .val (.ref aNE), .val (.int (0 : Int32)), .unset, .unset] [(.int (0 : Int32))])) _
      refine XS.istore X77.here hx rfl (hb hby at_82) rfl (l' := #[.val (.int p1), .val (.ref b2), .val (.int (1 : Int32)), .val (.ref aNE), .val (.int (0 : Int32)), .val (.int (0 : Int32)), .unset]) rfl ?_
      show Steps p.tables e below (T77.setTop (mkF m 84 #[.val (.int p1), .val (.ref b2), .val (.int (1 : Int32)), .val (.ref aNE), .val (.int (0 : Int32)), .val (.int (0 : Int32)), .unset] [])) _
      refine XS.aloadN X77.here hx rfl (hb hby at_84) rfl rfl ?_
      exact k
    have f80 : Fld s h50 aNE "com/example/firm_store/firmstore/Operator" "sql" "Ljava/lang/String;" (.ref sNE) := QNE.keep K50 nin0
    obtain ⟨cq81, kq81, q81a, q81b, q81c⟩ := isOf hZ eq77 f78
    obtain ⟨_, _, ⟨T81, L81, k81, n81⟩, -, X81, ⟨Lc81, hQ81, l81, y81, z81⟩, st81⟩ := X77.virtualBack hx (y := (⟨"com/example/firm_store/firmstore/Operator", "sql", "()Ljava/lang/String;"⟩ : MethodName)) (z := (⟨"com/example/firm_store/firmstore/Operator", "sql", "()Ljava/lang/String;"⟩ : MethodName)) hown (mvT hZ (hw _ (List.mem_of_getElem? (i := 27) rfl))) (mvT hZ (hw _ (List.mem_of_getElem? (i := 28) rfl))) (notFace_of_selects (args := #[]) (mvT hZ (hw _ (List.mem_of_getElem? (i := 30) rfl)))) (mvT hZ (hw _ (List.mem_of_getElem? (i := 30) rfl))) (mvT hZ (hw _ (List.mem_of_getElem? (i := 29) rfl))) (by decide) (backOf (W := 0) (rmSql l s a0 hw [] aNE sNE h50 n0 Z50 f80) hZ (hw _ (List.mem_of_getElem? (i := 31) rfl)) (hw _ (List.mem_of_getElem? (i := 3) rfl)) (by decide) (by decide)) q81a q81c (g := (mkF m 85 #[.val (.int p1), .val (.ref b2), .val (.int (1 : Int32)), .val (.ref aNE), .val (.int (0 : Int32)), .val (.int (0 : Int32)), .unset] [(.ref aNE)])) rfl (by rw [hml]; rfl) (Steps.refl _) (argsL := []) (rest := []) (lenOf own_pd1 rfl) rfl (by show 2 * 0 + _ ≤ _; exact Nat.le_of_eq rfl) (hb hby at_85) (fun _ _ => ⟨rfl, eq77, (by decide : 1 + 0 ≤ _), (by decide : 8 + 0 ≤ _)⟩)
    dsimp only [Pt.U, Pt.locs, Pt.cells, Pt.slots] at X81 l81 y81 z81 st81 hQ81
    subst l81 y81 z81
    obtain ⟨rfl, Nq81, eq81⟩ := hQ81
    have N81 := Fr.app N77 Nq81
    have R81 : ∀ t, Steps p.tables e below (T81.setTop (mkF m 88 #[.val (.int p1), .val (.ref b2), .val (.int (1 : Int32)), .val (.ref aNE), .val (.int (0 : Int32)), .val (.int (0 : Int32)), .unset] [(.ref sNE)])) t → Steps p.tables e below (s₁.setTop (entryFrame m #[(.int p1)] maxLocals)) t := fun t k => R79 t (st81.trans k)
    have Nn := own_frn (n := s.heap.size) (by rw [hh]; exact hn0) N81
    obtain ⟨lit, T82, h82, ki82, lb, lk, X82, e82, E82, hS, hki, hZ', hown', litE, litC, litF, litV, litL, lbL, -, st82⟩ := ldcSV (s := s) (vm0 := s.vm) (Ts := []) X81 hx hZ hown (hw _ (List.mem_of_getElem? (i := 34) rfl)) (own_atoms hw) eq81 (State.WarmedH.since (State.WarmedH.refl s) _) (Nat.zero_le _ : 0 ≤ _) Nn (fun b cl q => q) IB.start (by decide) hheld hcw (vs := [(.int (108 : Int32)), (.int (105 : Int32)), (.int (107 : Int32)), (.int (101 : Int32))]) (z := (4 : Int32)) ⟨by decide, rfl⟩ (by decide) rfl (g := (mkF m 88 #[.val (.int p1), .val (.ref b2), .val (.int (1 : Int32)), .val (.ref aNE), .val (.int (0 : Int32)), .val (.int (0 : Int32)), .unset] [(.ref sNE)])) rfl (hb hby at_88) (n := 16) (by decide) (by decide) (by decide) (by decide)
    have R82 : ∀ t, Steps p.tables e below (T82.setTop (mkF m 90 #[.val (.int p1), .val (.ref b2), .val (.int (1 : Int32)), .val (.ref aNE), .val (.int (0 : Int32)), .val (.int (0 : Int32)), .unset] [(.ref lit), (.ref sNE)])) t → Steps p.tables e below (s₁.setTop (entryFrame m #[(.int p1)] maxLocals)) t := fun t k => R81 t (st82 t k)
    have Z82 : n0 ≤ h82.size := Nat.le_trans Z50 E82.1
    have K82 : Keep h0 h82 [] := K50.ext E82
    have hZ := hZ'
    have hown := hown'
    have f83 : Exa s h82 sNE "java/lang/String" := TNE.keep K82
    have f84 : Fld s h82 sNE "java/lang/String" "coder" "B" (.int (0 : Int32)) := CNE.keep K82 nin0
    have f85 : Fld s h82 sNE "java/lang/String" "value" "[B" (.ref vNE) := FNE.keep K82 nin0
    have f86 : Arv s h82 vNE kNE .byte (2 : Int32) [(.int (60 : Int32)), (.int (62 : Int32))] (.int (0 : Int32)) := VNE.keep K82 nin0
    have f87 : Sta s h82 "java/lang/String" "COMPACT_STRINGS" "Z" (.int cz) := own_sta_keep SC K82
    have nv : vNE ≠ lb := arv_ne f86 litV (Or.inl (by decide))
    have ns : sNE ≠ lit := Fld.ne f85 litF (fun e => nv (Value.ref.inj e))
    obtain ⟨cq88, kq88, q88a, q88b, q88c⟩ := isOf hZ e82 f83
    obtain ⟨_, _, ⟨T88, L88, k88, n88⟩, -, X88, ⟨Lc88, hQ88, l88, y88, z88⟩, st88⟩ := X82.virtualBack hx (y := (⟨"java/lang/String", "equals", "(Ljava/lang/Object;)Z"⟩ : MethodName)) (z := (⟨"java/lang/String", "equals", "(Ljava/lang/Object;)Z"⟩ : MethodName)) hown (mvT hZ (hw _ (List.mem_of_getElem? (i := 42) rfl))) (mvT hZ (hw _ (List.mem_of_getElem? (i := 43) rfl))) (notFace_of_selects (args := #[]) (mvT hZ (hw _ (List.mem_of_getElem? (i := 45) rfl)))) (mvT hZ (hw _ (List.mem_of_getElem? (i := 45) rfl))) (mvT hZ (hw _ (List.mem_of_getElem? (i := 44) rfl))) (by decide) (backOf (W := 0) (rmED l s a0 hw [] sNE lit vNE lb cz kNE lk (2 : Int32) (4 : Int32) [(.int (60 : Int32)), (.int (62 : Int32))] [(.int (108 : Int32)), (.int (105 : Int32)), (.int (107 : Int32)), (.int (101 : Int32))] h82 n0 Z82 ns hcz f87 litE f84 f85 litC litF f86 litV (by decide)) hZ (hw _ (List.mem_of_getElem? (i := 46) rfl)) (hw _ (List.mem_of_getElem? (i := 35) rfl)) (by decide) (by decide)) q88a q88c (g := (mkF m 90 #[.val (.int p1), .val (.ref b2), .val (.int (1 : Int32)), .val (.ref aNE), .val (.int (0 : Int32)), .val (.int (0 : Int32)), .unset] [(.ref lit), (.ref sNE)])) rfl (by rw [hml]; rfl) (Steps.refl _) (argsL := [(.ref lit)]) (rest := []) (lenOf own_pd2 rfl) rfl (by show 2 * 0 + _ ≤ _; exact Nat.le_of_eq rfl) (hb hby at_90) (fun _ _ => ⟨rfl, e82, (by decide : 3 + 0 ≤ _), (by decide : 28 + 0 ≤ _)⟩)
    dsimp only [Pt.U, Pt.locs, Pt.cells, Pt.slots] at X88 l88 y88 z88 st88 hQ88
    subst l88 y88 z88
    obtain ⟨rfl, Nq88, eq88⟩ := hQ88
    have N88 := Fr.app N81 Nq88
    have R88 : ∀ t, Steps p.tables e below (T88.setTop (mkF m 93 #[.val (.int p1), .val (.ref b2), .val (.int (1 : Int32)), .val (.ref aNE), .val (.int (0 : Int32)), .val (.int (0 : Int32)), .unset] [(.int (0 : Int32))])) t → Steps p.tables e below (s₁.setTop (entryFrame m #[(.int p1)] maxLocals)) t := fun t k => R82 t (st88.trans k)
    have R89 : ∀ t, Steps p.tables e below (T88.setTop (mkF m 114 #[.val (.int p1), .val (.ref b2), .val (.int (1 : Int32)), .val (.ref aNE), .val (.int (0 : Int32)), .val (.int (0 : Int32)), .val (.int (0 : Int32))] [(.int (1 : Int32))])) t → Steps p.tables e below (s₁.setTop (entryFrame m #[(.int p1)] maxLocals)) t := by
      intro t k
      refine R88 t ?_
      show Steps p.tables e below (T88.setTop (mkF m 93 #[.val (.int p1), .val (.ref b2), .val (.int (1 : Int32)), .val (.ref aNE), .val (.int (0 : Int32)), .val (.int (0 : Int32)), .unset] [(.int (0 : Int32))])) _
      refine XS.istore X88.here hx rfl (hb hby at_93) rfl (l' := #[.val (.int p1), .val (.ref b2), .val (.int (1 : Int32)), .val (.ref aNE), .val (.int (0 : Int32)), .val (.int (0 : Int32)), .val (.int (0 : Int32))]) rfl ?_
      show Steps p.tables e below (T88.setTop (mkF m 95 #[.val (.int p1), .val (.ref b2), .val (.int (1 : Int32)), .val (.ref aNE), .val (.int (0 : Int32)), .val (.int (0 : Int32)), .val (.int (0 : Int32))] [])) _
      refine XS.iload X88.here hx rfl (hb hby at_95) rfl ?_
      show Steps p.tables e below (T88.setTop (mkF m 97 #[.val (.int p1), .val (.ref b2), .val (.int (1 : Int32)), .val (.ref aNE), .val (.int (0 : Int32)), .val (.int (0 : Int32)), .val (.int (0 : Int32))] [(.int (0 : Int32))])) _
      refine XS.iload X88.here hx rfl (hb hby at_97) rfl ?_
      show Steps p.tables e below (T88.setTop (mkF m 99 #[.val (.int p1), .val (.ref b2), .val (.int (1 : Int32)), .val (.ref aNE), .val (.int (0 : Int32)), .val (.int (0 : Int32)), .val (.int (0 : Int32))] [(.int (0 : Int32)), (.int (0 : Int32))])) _
      refine XS.icmpNo X88.here hx rfl (hb hby at_99) rfl (teq (by decide : ((0 : Int32) = (0 : Int32)))).2 ?_
      show Steps p.tables e below (T88.setTop (mkF m 102 #[.val (.int p1), .val (.ref b2), .val (.int (1 : Int32)), .val (.ref aNE), .val (.int (0 : Int32)), .val (.int (0 : Int32)), .val (.int (0 : Int32))] [])) _
      refine XS.iload X88.here hx rfl (hb hby at_102) rfl ?_
      show Steps p.tables e below (T88.setTop (mkF m 104 #[.val (.int p1), .val (.ref b2), .val (.int (1 : Int32)), .val (.ref aNE), .val (.int (0 : Int32)), .val (.int (0 : Int32)), .val (.int (0 : Int32))] [(.int (0 : Int32))])) _
      refine XS.iload X88.here hx rfl (hb hby at_104) rfl ?_
      show Steps p.tables e below (T88.setTop (mkF m 106 #[.val (.int p1), .val (.ref b2), .val (.int (1 : Int32)), .val (.ref aNE), .val (.int (0 : Int32)), .val (.int (0 : Int32)), .val (.int (0 : Int32))] [(.int (0 : Int32)), (.int (0 : Int32))])) _
      refine XS.icmpNo X88.here hx rfl (hb hby at_106) rfl (teq (by decide : ((0 : Int32) = (0 : Int32)))).2 ?_
      show Steps p.tables e below (T88.setTop (mkF m 109 #[.val (.int p1), .val (.ref b2), .val (.int (1 : Int32)), .val (.ref aNE), .val (.int (0 : Int32)), .val (.int (0 : Int32)), .val (.int (0 : Int32))] [])) _
      refine XS.iconst X88.here hx rfl (hb hby at_109) ?_
      show Steps p.tables e below (T88.setTop (mkF m 110 #[.val (.int p1), .val (.ref b2), .val (.int (1 : Int32)), .val (.ref aNE), .val (.int (0 : Int32)), .val (.int (0 : Int32)), .val (.int (0 : Int32))] [(.int (1 : Int32))])) _
      refine XS.goto X88.here hx rfl (pc0 := 110) (pc' := 114) rfl (hb hby at_110) (by decide) (by decide) ?_
      exact k
    obtain ⟨fs, hr, hrun, hended, hEnd⟩ := X88.leaveW hS (Nat.le_trans hki (Nat.le_of_eq (by rw [eq88]))) (v := some (.int (1 : Int32))) (fun h => by rw [Bd.returns] at h; cases h)
    refine ⟨_, _, R89 _ ?_, hrun, hended, _, _, rfl, ⟨rfl, N88⟩, own_endMono hEnd (by decide) (by decide)⟩
    exact retN X88 hx (t := .boolean) Bd.returns (by simp) (hb hby at_114) hr
  · have R90 : ∀ t, Steps p.tables e below (T50.setTop (mkF m 61 #[.val (.int p1), .val (.ref b2), .val (.int (2 : Int32)), .unset, .unset, .unset, .unset] [])) t → Steps p.tables e below (s₁.setTop (entryFrame m #[(.int p1)] maxLocals)) t := by rw [(hk : (p1 &&& (7 : Int32)) = (2 : Int32))] at R51; exact R51
    have R91 : ∀ t, Steps p.tables e below (T50.setTop (mkF m 63 #[.val (.int p1), .val (.ref b2), .val (.int (2 : Int32)), .unset, .unset, .unset, .unset] [(.int (2 : Int32)), (.ref b2)])) t → Steps p.tables e below (s₁.setTop (entryFrame m #[(.int p1)] maxLocals)) t := by
      intro t k
      refine R90 t ?_
      show Steps p.tables e below (T50.setTop (mkF m 61 #[.val (.int p1), .val (.ref b2), .val (.int (2 : Int32)), .unset, .unset, .unset, .unset] [])) _
      refine XS.aloadN X50.here hx rfl (hb hby at_61) rfl rfl ?_
      show Steps p.tables e below (T50.setTop (mkF m 62 #[.val (.int p1), .val (.ref b2), .val (.int (2 : Int32)), .unset, .unset, .unset, .unset] [(.ref b2)])) _
      refine XS.iloadN X50.here hx rfl (hb hby at_62) rfl ?_
      exact k
    obtain ⟨cl92, Ar92, q92, S92, N92', H92, G92⟩ := id V50
    have hin92_2 : ¬ ((2 : Int32) < 0 ∨ cl92.slots.size ≤ ((2 : Int32)).toNatClampNeg) := inb_of S92 ⟨by decide, by decide⟩
    have hat92_2 : cl92.slots[((2 : Int32)).toNatClampNeg]? = some (.ref aLT) := H92.at hin92_2 rfl
    have R93 : ∀ t, Steps p.tables e below (T50.setTop (mkF m 79 #[.val (.int p1), .val (.ref b2), .val (.int (2 : Int32)), .val (.ref aLT), .val (.int (0 : Int32)), .unset, .unset] [(.ref aLT)])) t → Steps p.tables e below (s₁.setTop (entryFrame m #[(.int p1)] maxLocals)) t := by
      intro t k
      refine R91 t ?_
      show Steps p.tables e below (T50.setTop (mkF m 63 #[.val (.int p1), .val (.ref b2), .val (.int (2 : Int32)), .unset, .unset, .unset, .unset] [(.int (2 : Int32)), (.ref b2)])) _
      refine X50.aaload hx (j := (2 : Int32)) (v := (.ref aLT)) (by rw [e50]; exact Ar92.1) (State.isArrayOf_alike hZ.alike Ar92.2.1) rfl Ar92.2.2 hin92_2 hat92_2 (g := (mkF m 63 #[.val (.int p1), .val (.ref b2), .val (.int (2 : Int32)), .unset, .unset, .unset, .unset] [(.int (2 : Int32)), (.ref b2)])) rfl rfl (hb hby at_63) _ ?_
      show Steps p.tables e below (T50.setTop (mkF m 64 #[.val (.int p1), .val (.ref b2), .val (.int (2 : Int32)), .unset, .unset, .unset, .unset] [(.ref aLT)])) _
      refine XS.astoreN X50.here hx rfl (hb hby at_64) rfl rfl (l' := #[.val (.int p1), .val (.ref b2), .val (.int (2 : Int32)), .val (.ref aLT), .unset, .unset, .unset]) rfl ?_
      show Steps p.tables e below (T50.setTop (mkF m 65 #[.val (.int p1), .val (.ref b2), .val (.int (2 : Int32)), .val (.ref aLT), .unset, .unset, .unset] [])) _
      refine XS.iloadN X50.here hx rfl (hb hby at_65) rfl ?_
      show Steps p.tables e below (T50.setTop (mkF m 66 #[.val (.int p1), .val (.ref b2), .val (.int (2 : Int32)), .val (.ref aLT), .unset, .unset, .unset] [(.int (2 : Int32))])) _
      refine XS.bipush X50.here hx rfl (hb hby at_66) ?_
      show Steps p.tables e below (T50.setTop (mkF m 68 #[.val (.int p1), .val (.ref b2), .val (.int (2 : Int32)), .val (.ref aLT), .unset, .unset, .unset] [(.int (6 : Int32)), (.int (2 : Int32))])) _
      refine XS.icmpYes X50.here hx rfl (pc0 := 68) (pc' := 75) rfl (hb hby at_68) rfl (tlt (by decide : ((2 : Int32) < (6 : Int32)))).1 (by decide) (by decide) ?_
      show Steps p.tables e below (T50.setTop (mkF m 75 #[.val (.int p1), .val (.ref b2), .val (.int (2 : Int32)), .val (.ref aLT), .unset, .unset, .unset] [])) _
      refine XS.iconst X50.here hx rfl (hb hby at_75) ?_
      show Steps p.tables e below (T50.setTop (mkF m 76 #[.val (.int p1), .val (.ref b2), .val (.int (2 : Int32)), .val (.ref aLT), .unset, .unset, .unset] [(.int (0 : Int32))])) _
      refine XS.istore X50.here hx rfl (hb hby at_76) rfl (l' := #[.val (.int p1), .val (.ref b2), .val (.int (2 : Int32)), .val (.ref aLT), .val (.int (0 : Int32)), .unset, .unset]) rfl ?_
      show Steps p.tables e below (T50.setTop (mkF m 78 #[.val (.int p1), .val (.ref b2), .val (.int (2 : Int32)), .val (.ref aLT), .val (.int (0 : Int32)), .unset, .unset] [])) _
      refine XS.aloadN X50.here hx rfl (hb hby at_78) rfl rfl ?_
      exact k
    have f94 : Sta s h50 "com/example/firm_store/firmstore/Operator" "LIKE" "Lcom/example/firm_store/firmstore/Operator;" (.ref aLIKE) := own_sta_keep SLIKE K50
    have f95 : Sta s h50 "com/example/firm_store/firmstore/Operator" "ILIKE" "Lcom/example/firm_store/firmstore/Operator;" (.ref aILIKE) := own_sta_keep SILIKE K50
    have f97 : Exa s h50 aLT "com/example/firm_store/firmstore/Operator" := ELT.keep K50
    obtain ⟨cq96, kq96, q96a, q96b, q96c⟩ := isOf hZ e50 f97
    obtain ⟨_, _, ⟨T96, L96, k96, n96⟩, -, X96, ⟨Lc96, hQ96, l96, y96, z96⟩, st96⟩ := X50.virtualBack hx (y := (⟨"com/example/firm_store/firmstore/Operator", "isPattern", "()Z"⟩ : MethodName)) (z := (⟨"com/example/firm_store/firmstore/Operator", "isPattern", "()Z"⟩ : MethodName)) hown (mvT hZ (hw _ (List.mem_of_getElem? (i := 20) rfl))) (mvT hZ (hw _ (List.mem_of_getElem? (i := 21) rfl))) (notFace_of_selects (args := #[]) (mvT hZ (hw _ (List.mem_of_getElem? (i := 23) rfl)))) (mvT hZ (hw _ (List.mem_of_getElem? (i := 23) rfl))) (mvT hZ (hw _ (List.mem_of_getElem? (i := 22) rfl))) (by decide) (backOf (W := 0) (rmPN l s a0 hw [] aLT aLIKE aILIKE h50 n0 Z50 f94 f95 (Fld.ne OLT OLIKE (by decide)) (Fld.ne OLT OILIKE (by decide))) hZ (hw _ (List.mem_of_getElem? (i := 24) rfl)) (hw _ (List.mem_of_getElem? (i := 3) rfl)) (by decide) (by decide)) q96a q96c (g := (mkF m 79 #[.val (.int p1), .val (.ref b2), .val (.int (2 : Int32)), .val (.ref aLT), .val (.int (0 : Int32)), .unset, .unset] [(.ref aLT)])) rfl (by rw [hml]; rfl) (Steps.refl _) (argsL := []) (rest := []) (lenOf own_pd0 rfl) rfl (by show 2 * 0 + _ ≤ _; exact Nat.le_of_eq rfl) (hb hby at_79) (fun _ _ => ⟨rfl, e50, (by decide : 1 + 0 ≤ _), (by decide : 8 + 0 ≤ _)⟩)
    dsimp only [Pt.U, Pt.locs, Pt.cells, Pt.slots] at X96 l96 y96 z96 st96 hQ96
    subst l96 y96 z96
    obtain ⟨rfl, Nq96, eq96⟩ := hQ96
    have N96 := Fr.app N50 Nq96
    have R96 : ∀ t, Steps p.tables e below (T96.setTop (mkF m 82 #[.val (.int p1), .val (.ref b2), .val (.int (2 : Int32)), .val (.ref aLT), .val (.int (0 : Int32)), .unset, .unset] [(.int (0 : Int32))])) t → Steps p.tables e below (s₁.setTop (entryFrame m #[(.int p1)] maxLocals)) t := fun t k => R93 t (st96.trans k)
    have R98 : ∀ t, Steps p.tables e below (T96.setTop (mkF m 85 #[.val (.int p1), .val (.ref b2), .val (.int (2 : Int32)), .val (.ref aLT), .val (.int (0 : Int32)), .val (.int (0 : Int32)), .unset] [(.ref aLT)])) t → Steps p.tables e below (s₁.setTop (entryFrame m #[(.int p1)] maxLocals)) t := by
      intro t k
      refine R96 t ?_
      show Steps p.tables e below (T96.setTop (mkF m 82 #[.val (.int p1), .val (.ref b2), .val (.int (2 : Int32)), .val (.ref aLT), .val (.int (0 : Int32)), .unset, .unset] [(.int (0 : Int32))])) _
      refine XS.istore X96.here hx rfl (hb hby at_82) rfl (l' := #[.val (.int p1), .val (.ref b2), .val (.int (2 : Int32)), .val (.ref aLT), .val (.int (0 : Int32)), .val (.int (0 : Int32)), .unset]) rfl ?_
      show Steps p.tables e below (T96.setTop (mkF m 84 #[.val (.int p1), .val (.ref b2), .val (.int (2 : Int32)), .val (.ref aLT), .val (.int (0 : Int32)), .val (.int (0 : Int32)), .unset] [])) _
      refine XS.aloadN X96.here hx rfl (hb hby at_84) rfl rfl ?_
      exact k
    have f99 : Fld s h50 aLT "com/example/firm_store/firmstore/Operator" "sql" "Ljava/lang/String;" (.ref sLT) := QLT.keep K50 nin0
    obtain ⟨cq100, kq100, q100a, q100b, q100c⟩ := isOf hZ eq96 f97
    obtain ⟨_, _, ⟨T100, L100, k100, n100⟩, -, X100, ⟨Lc100, hQ100, l100, y100, z100⟩, st100⟩ := X96.virtualBack hx (y := (⟨"com/example/firm_store/firmstore/Operator", "sql", "()Ljava/lang/String;"⟩ : MethodName)) (z := (⟨"com/example/firm_store/firmstore/Operator", "sql", "()Ljava/lang/String;"⟩ : MethodName)) hown (mvT hZ (hw _ (List.mem_of_getElem? (i := 27) rfl))) (mvT hZ (hw _ (List.mem_of_getElem? (i := 28) rfl))) (notFace_of_selects (args := #[]) (mvT hZ (hw _ (List.mem_of_getElem? (i := 30) rfl)))) (mvT hZ (hw _ (List.mem_of_getElem? (i := 30) rfl))) (mvT hZ (hw _ (List.mem_of_getElem? (i := 29) rfl))) (by decide) (backOf (W := 0) (rmSql l s a0 hw [] aLT sLT h50 n0 Z50 f99) hZ (hw _ (List.mem_of_getElem? (i := 31) rfl)) (hw _ (List.mem_of_getElem? (i := 3) rfl)) (by decide) (by decide)) q100a q100c (g := (mkF m 85 #[.val (.int p1), .val (.ref b2), .val (.int (2 : Int32)), .val (.ref aLT), .val (.int (0 : Int32)), .val (.int (0 : Int32)), .unset] [(.ref aLT)])) rfl (by rw [hml]; rfl) (Steps.refl _) (argsL := []) (rest := []) (lenOf own_pd1 rfl) rfl (by show 2 * 0 + _ ≤ _; exact Nat.le_of_eq rfl) (hb hby at_85) (fun _ _ => ⟨rfl, eq96, (by decide : 1 + 0 ≤ _), (by decide : 8 + 0 ≤ _)⟩)
    dsimp only [Pt.U, Pt.locs, Pt.cells, Pt.slots] at X100 l100 y100 z100 st100 hQ100
    subst l100 y100 z100
    obtain ⟨rfl, Nq100, eq100⟩ := hQ100
    have N100 := Fr.app N96 Nq100
    have R100 : ∀ t, Steps p.tables e below (T100.setTop (mkF m 88 #[.val (.int p1), .val (.ref b2), .val (.int (2 : Int32)), .val (.ref aLT), .val (.int (0 : Int32)), .val (.int (0 : Int32)), .unset] [(.ref sLT)])) t → Steps p.tables e below (s₁.setTop (entryFrame m #[(.int p1)] maxLocals)) t := fun t k => R98 t (st100.trans k)
    have Nn := own_frn (n := s.heap.size) (by rw [hh]; exact hn0) N100
    obtain ⟨lit, T101, h101, ki101, lb, lk, X101, e101, E101, hS, hki, hZ', hown', litE, litC, litF, litV, litL, lbL, -, st101⟩ := ldcSV (s := s) (vm0 := s.vm) (Ts := []) X100 hx hZ hown (hw _ (List.mem_of_getElem? (i := 34) rfl)) (own_atoms hw) eq100 (State.WarmedH.since (State.WarmedH.refl s) _) (Nat.zero_le _ : 0 ≤ _) Nn (fun b cl q => q) IB.start (by decide) hheld hcw (vs := [(.int (108 : Int32)), (.int (105 : Int32)), (.int (107 : Int32)), (.int (101 : Int32))]) (z := (4 : Int32)) ⟨by decide, rfl⟩ (by decide) rfl (g := (mkF m 88 #[.val (.int p1), .val (.ref b2), .val (.int (2 : Int32)), .val (.ref aLT), .val (.int (0 : Int32)), .val (.int (0 : Int32)), .unset] [(.ref sLT)])) rfl (hb hby at_88) (n := 16) (by decide) (by decide) (by decide) (by decide)
    have R101 : ∀ t, Steps p.tables e below (T101.setTop (mkF m 90 #[.val (.int p1), .val (.ref b2), .val (.int (2 : Int32)), .val (.ref aLT), .val (.int (0 : Int32)), .val (.int (0 : Int32)), .unset] [(.ref lit), (.ref sLT)])) t → Steps p.tables e below (s₁.setTop (entryFrame m #[(.int p1)] maxLocals)) t := fun t k => R100 t (st101 t k)
    have Z101 : n0 ≤ h101.size := Nat.le_trans Z50 E101.1
    have K101 : Keep h0 h101 [] := K50.ext E101
    have hZ := hZ'
    have hown := hown'
    have f102 : Exa s h101 sLT "java/lang/String" := TLT.keep K101
    have f103 : Fld s h101 sLT "java/lang/String" "coder" "B" (.int (0 : Int32)) := CLT.keep K101 nin0
    have f104 : Fld s h101 sLT "java/lang/String" "value" "[B" (.ref vLT) := FLT.keep K101 nin0
    have f105 : Arv s h101 vLT kLT .byte (1 : Int32) [(.int (60 : Int32))] (.int (0 : Int32)) := VLT.keep K101 nin0
    have f106 : Sta s h101 "java/lang/String" "COMPACT_STRINGS" "Z" (.int cz) := own_sta_keep SC K101
    have nv : vLT ≠ lb := arv_ne f105 litV (Or.inl (by decide))
    have ns : sLT ≠ lit := Fld.ne f104 litF (fun e => nv (Value.ref.inj e))
    obtain ⟨cq107, kq107, q107a, q107b, q107c⟩ := isOf hZ e101 f102
    obtain ⟨_, _, ⟨T107, L107, k107, n107⟩, -, X107, ⟨Lc107, hQ107, l107, y107, z107⟩, st107⟩ := X101.virtualBack hx (y := (⟨"java/lang/String", "equals", "(Ljava/lang/Object;)Z"⟩ : MethodName)) (z := (⟨"java/lang/String", "equals", "(Ljava/lang/Object;)Z"⟩ : MethodName)) hown (mvT hZ (hw _ (List.mem_of_getElem? (i := 42) rfl))) (mvT hZ (hw _ (List.mem_of_getElem? (i := 43) rfl))) (notFace_of_selects (args := #[]) (mvT hZ (hw _ (List.mem_of_getElem? (i := 45) rfl)))) (mvT hZ (hw _ (List.mem_of_getElem? (i := 45) rfl))) (mvT hZ (hw _ (List.mem_of_getElem? (i := 44) rfl))) (by decide) (backOf (W := 0) (rmED l s a0 hw [] sLT lit vLT lb cz kLT lk (1 : Int32) (4 : Int32) [(.int (60 : Int32))] [(.int (108 : Int32)), (.int (105 : Int32)), (.int (107 : Int32)), (.int (101 : Int32))] h101 n0 Z101 ns hcz f106 litE f103 f104 litC litF f105 litV (by decide)) hZ (hw _ (List.mem_of_getElem? (i := 46) rfl)) (hw _ (List.mem_of_getElem? (i := 35) rfl)) (by decide) (by decide)) q107a q107c (g := (mkF m 90 #[.val (.int p1), .val (.ref b2), .val (.int (2 : Int32)), .val (.ref aLT), .val (.int (0 : Int32)), .val (.int (0 : Int32)), .unset] [(.ref lit), (.ref sLT)])) rfl (by rw [hml]; rfl) (Steps.refl _) (argsL := [(.ref lit)]) (rest := []) (lenOf own_pd2 rfl) rfl (by show 2 * 0 + _ ≤ _; exact Nat.le_of_eq rfl) (hb hby at_90) (fun _ _ => ⟨rfl, e101, (by decide : 3 + 0 ≤ _), (by decide : 28 + 0 ≤ _)⟩)
    dsimp only [Pt.U, Pt.locs, Pt.cells, Pt.slots] at X107 l107 y107 z107 st107 hQ107
    subst l107 y107 z107
    obtain ⟨rfl, Nq107, eq107⟩ := hQ107
    have N107 := Fr.app N100 Nq107
    have R107 : ∀ t, Steps p.tables e below (T107.setTop (mkF m 93 #[.val (.int p1), .val (.ref b2), .val (.int (2 : Int32)), .val (.ref aLT), .val (.int (0 : Int32)), .val (.int (0 : Int32)), .unset] [(.int (0 : Int32))])) t → Steps p.tables e below (s₁.setTop (entryFrame m #[(.int p1)] maxLocals)) t := fun t k => R101 t (st107.trans k)
    have R108 : ∀ t, Steps p.tables e below (T107.setTop (mkF m 114 #[.val (.int p1), .val (.ref b2), .val (.int (2 : Int32)), .val (.ref aLT), .val (.int (0 : Int32)), .val (.int (0 : Int32)), .val (.int (0 : Int32))] [(.int (1 : Int32))])) t → Steps p.tables e below (s₁.setTop (entryFrame m #[(.int p1)] maxLocals)) t := by
      intro t k
      refine R107 t ?_
      show Steps p.tables e below (T107.setTop (mkF m 93 #[.val (.int p1), .val (.ref b2), .val (.int (2 : Int32)), .val (.ref aLT), .val (.int (0 : Int32)), .val (.int (0 : Int32)), .unset] [(.int (0 : Int32))])) _
      refine XS.istore X107.here hx rfl (hb hby at_93) rfl (l' := #[.val (.int p1), .val (.ref b2), .val (.int (2 : Int32)), .val (.ref aLT), .val (.int (0 : Int32)), .val (.int (0 : Int32)), .val (.int (0 : Int32))]) rfl ?_
      show Steps p.tables e below (T107.setTop (mkF m 95 #[.val (.int p1), .val (.ref b2), .val (.int (2 : Int32)), .val (.ref aLT), .val (.int (0 : Int32)), .val (.int (0 : Int32)), .val (.int (0 : Int32))] [])) _
      refine XS.iload X107.here hx rfl (hb hby at_95) rfl ?_
      show Steps p.tables e below (T107.setTop (mkF m 97 #[.val (.int p1), .val (.ref b2), .val (.int (2 : Int32)), .val (.ref aLT), .val (.int (0 : Int32)), .val (.int (0 : Int32)), .val (.int (0 : Int32))] [(.int (0 : Int32))])) _
      refine XS.iload X107.here hx rfl (hb hby at_97) rfl ?_
      show Steps p.tables e below (T107.setTop (mkF m 99 #[.val (.int p1), .val (.ref b2), .val (.int (2 : Int32)), .val (.ref aLT), .val (.int (0 : Int32)), .val (.int (0 : Int32)), .val (.int (0 : Int32))] [(.int (0 : Int32)), (.int (0 : Int32))])) _
      refine XS.icmpNo X107.here hx rfl (hb hby at_99) rfl (teq (by decide : ((0 : Int32) = (0 : Int32)))).2 ?_
      show Steps p.tables e below (T107.setTop (mkF m 102 #[.val (.int p1), .val (.ref b2), .val (.int (2 : Int32)), .val (.ref aLT), .val (.int (0 : Int32)), .val (.int (0 : Int32)), .val (.int (0 : Int32))] [])) _
      refine XS.iload X107.here hx rfl (hb hby at_102) rfl ?_
      show Steps p.tables e below (T107.setTop (mkF m 104 #[.val (.int p1), .val (.ref b2), .val (.int (2 : Int32)), .val (.ref aLT), .val (.int (0 : Int32)), .val (.int (0 : Int32)), .val (.int (0 : Int32))] [(.int (0 : Int32))])) _
      refine XS.iload X107.here hx rfl (hb hby at_104) rfl ?_
      show Steps p.tables e below (T107.setTop (mkF m 106 #[.val (.int p1), .val (.ref b2), .val (.int (2 : Int32)), .val (.ref aLT), .val (.int (0 : Int32)), .val (.int (0 : Int32)), .val (.int (0 : Int32))] [(.int (0 : Int32)), (.int (0 : Int32))])) _
      refine XS.icmpNo X107.here hx rfl (hb hby at_106) rfl (teq (by decide : ((0 : Int32) = (0 : Int32)))).2 ?_
      show Steps p.tables e below (T107.setTop (mkF m 109 #[.val (.int p1), .val (.ref b2), .val (.int (2 : Int32)), .val (.ref aLT), .val (.int (0 : Int32)), .val (.int (0 : Int32)), .val (.int (0 : Int32))] [])) _
      refine XS.iconst X107.here hx rfl (hb hby at_109) ?_
      show Steps p.tables e below (T107.setTop (mkF m 110 #[.val (.int p1), .val (.ref b2), .val (.int (2 : Int32)), .val (.ref aLT), .val (.int (0 : Int32)), .val (.int (0 : Int32)), .val (.int (0 : Int32))] [(.int (1 : Int32))])) _
      refine XS.goto X107.here hx rfl (pc0 := 110) (pc' := 114) rfl (hb hby at_110) (by decide) (by decide) ?_
      exact k
    obtain ⟨fs, hr, hrun, hended, hEnd⟩ := X107.leaveW hS (Nat.le_trans hki (Nat.le_of_eq (by rw [eq107]))) (v := some (.int (1 : Int32))) (fun h => by rw [Bd.returns] at h; cases h)
    refine ⟨_, _, R108 _ ?_, hrun, hended, _, _, rfl, ⟨rfl, N107⟩, own_endMono hEnd (by decide) (by decide)⟩
    exact retN X107 hx (t := .boolean) Bd.returns (by simp) (hb hby at_114) hr
  · have R109 : ∀ t, Steps p.tables e below (T50.setTop (mkF m 61 #[.val (.int p1), .val (.ref b2), .val (.int (3 : Int32)), .unset, .unset, .unset, .unset] [])) t → Steps p.tables e below (s₁.setTop (entryFrame m #[(.int p1)] maxLocals)) t := by rw [(hk : (p1 &&& (7 : Int32)) = (3 : Int32))] at R51; exact R51
    have R110 : ∀ t, Steps p.tables e below (T50.setTop (mkF m 63 #[.val (.int p1), .val (.ref b2), .val (.int (3 : Int32)), .unset, .unset, .unset, .unset] [(.int (3 : Int32)), (.ref b2)])) t → Steps p.tables e below (s₁.setTop (entryFrame m #[(.int p1)] maxLocals)) t := by
      intro t k
      refine R109 t ?_
      show Steps p.tables e below (T50.setTop (mkF m 61 #[.val (.int p1), .val (.ref b2), .val (.int (3 : Int32)), .unset, .unset, .unset, .unset] [])) _
      refine XS.aloadN X50.here hx rfl (hb hby at_61) rfl rfl ?_
      show Steps p.tables e below (T50.setTop (mkF m 62 #[.val (.int p1), .val (.ref b2), .val (.int (3 : Int32)), .unset, .unset, .unset, .unset] [(.ref b2)])) _
      refine XS.iloadN X50.here hx rfl (hb hby at_62) rfl ?_
      exact k
    obtain ⟨cl111, Ar111, q111, S111, N111', H111, G111⟩ := id V50
    have hin111_3 : ¬ ((3 : Int32) < 0 ∨ cl111.slots.size ≤ ((3 : Int32)).toNatClampNeg) := inb_of S111 ⟨by decide, by decide⟩
    have hat111_3 : cl111.slots[((3 : Int32)).toNatClampNeg]? = some (.ref aLE) := H111.at hin111_3 rfl
    have R112 : ∀ t, Steps p.tables e below (T50.setTop (mkF m 79 #[.val (.int p1), .val (.ref b2), .val (.int (3 : Int32)), .val (.ref aLE), .val (.int (0 : Int32)), .unset, .unset] [(.ref aLE)])) t → Steps p.tables e below (s₁.setTop (entryFrame m #[(.int p1)] maxLocals)) t := by
      intro t k
      refine R110 t ?_
      show Steps p.tables e below (T50.setTop (mkF m 63 #[.val (.int p1), .val (.ref b2), .val (.int (3 : Int32)), .unset, .unset, .unset, .unset] [(.int (3 : Int32)), (.ref b2)])) _
      refine X50.aaload hx (j := (3 : Int32)) (v := (.ref aLE)) (by rw [e50]; exact Ar111.1) (State.isArrayOf_alike hZ.alike Ar111.2.1) rfl Ar111.2.2 hin111_3 hat111_3 (g := (mkF m 63 #[.val (.int p1), .val (.ref b2), .val (.int (3 : Int32)), .unset, .unset, .unset, .unset] [(.int (3 : Int32)), (.ref b2)])) rfl rfl (hb hby at_63) _ ?_
      show Steps p.tables e below (T50.setTop (mkF m 64 #[.val (.int p1), .val (.ref b2), .val (.int (3 : Int32)), .unset, .unset, .unset, .unset] [(.ref aLE)])) _
      refine XS.astoreN X50.here hx rfl (hb hby at_64) rfl rfl (l' := #[.val (.int p1), .val (.ref b2), .val (.int (3 : Int32)), .val (.ref aLE), .unset, .unset, .unset]) rfl ?_
      show Steps p.tables e below (T50.setTop (mkF m 65 #[.val (.int p1), .val (.ref b2), .val (.int (3 : Int32)), .val (.ref aLE), .unset, .unset, .unset] [])) _
      refine XS.iloadN X50.here hx rfl (hb hby at_65) rfl ?_
      show Steps p.tables e below (T50.setTop (mkF m 66 #[.val (.int p1), .val (.ref b2), .val (.int (3 : Int32)), .val (.ref aLE), .unset, .unset, .unset] [(.int (3 : Int32))])) _
      refine XS.bipush X50.here hx rfl (hb hby at_66) ?_
      show Steps p.tables e below (T50.setTop (mkF m 68 #[.val (.int p1), .val (.ref b2), .val (.int (3 : Int32)), .val (.ref aLE), .unset, .unset, .unset] [(.int (6 : Int32)), (.int (3 : Int32))])) _
      refine XS.icmpYes X50.here hx rfl (pc0 := 68) (pc' := 75) rfl (hb hby at_68) rfl (tlt (by decide : ((3 : Int32) < (6 : Int32)))).1 (by decide) (by decide) ?_
      show Steps p.tables e below (T50.setTop (mkF m 75 #[.val (.int p1), .val (.ref b2), .val (.int (3 : Int32)), .val (.ref aLE), .unset, .unset, .unset] [])) _
      refine XS.iconst X50.here hx rfl (hb hby at_75) ?_
      show Steps p.tables e below (T50.setTop (mkF m 76 #[.val (.int p1), .val (.ref b2), .val (.int (3 : Int32)), .val (.ref aLE), .unset, .unset, .unset] [(.int (0 : Int32))])) _
      refine XS.istore X50.here hx rfl (hb hby at_76) rfl (l' := #[.val (.int p1), .val (.ref b2), .val (.int (3 : Int32)), .val (.ref aLE), .val (.int (0 : Int32)), .unset, .unset]) rfl ?_
      show Steps p.tables e below (T50.setTop (mkF m 78 #[.val (.int p1), .val (.ref b2), .val (.int (3 : Int32)), .val (.ref aLE), .val (.int (0 : Int32)), .unset, .unset] [])) _
      refine XS.aloadN X50.here hx rfl (hb hby at_78) rfl rfl ?_
      exact k
    have f113 : Sta s h50 "com/example/firm_store/firmstore/Operator" "LIKE" "Lcom/example/firm_store/firmstore/Operator;" (.ref aLIKE) := own_sta_keep SLIKE K50
    have f114 : Sta s h50 "com/example/firm_store/firmstore/Operator" "ILIKE" "Lcom/example/firm_store/firmstore/Operator;" (.ref aILIKE) := own_sta_keep SILIKE K50
    have f116 : Exa s h50 aLE "com/example/firm_store/firmstore/Operator" := ELE.keep K50
    obtain ⟨cq115, kq115, q115a, q115b, q115c⟩ := isOf hZ e50 f116
    obtain ⟨_, _, ⟨T115, L115, k115, n115⟩, -, X115, ⟨Lc115, hQ115, l115, y115, z115⟩, st115⟩ := X50.virtualBack hx (y := (⟨"com/example/firm_store/firmstore/Operator", "isPattern", "()Z"⟩ : MethodName)) (z := (⟨"com/example/firm_store/firmstore/Operator", "isPattern", "()Z"⟩ : MethodName)) hown (mvT hZ (hw _ (List.mem_of_getElem? (i := 20) rfl))) (mvT hZ (hw _ (List.mem_of_getElem? (i := 21) rfl))) (notFace_of_selects (args := #[]) (mvT hZ (hw _ (List.mem_of_getElem? (i := 23) rfl)))) (mvT hZ (hw _ (List.mem_of_getElem? (i := 23) rfl))) (mvT hZ (hw _ (List.mem_of_getElem? (i := 22) rfl))) (by decide) (backOf (W := 0) (rmPN l s a0 hw [] aLE aLIKE aILIKE h50 n0 Z50 f113 f114 (Fld.ne OLE OLIKE (by decide)) (Fld.ne OLE OILIKE (by decide))) hZ (hw _ (List.mem_of_getElem? (i := 24) rfl)) (hw _ (List.mem_of_getElem? (i := 3) rfl)) (by decide) (by decide)) q115a q115c (g := (mkF m 79 #[.val (.int p1), .val (.ref b2), .val (.int (3 : Int32)), .val (.ref aLE), .val (.int (0 : Int32)), .unset, .unset] [(.ref aLE)])) rfl (by rw [hml]; rfl) (Steps.refl _) (argsL := []) (rest := []) (lenOf own_pd0 rfl) rfl (by show 2 * 0 + _ ≤ _; exact Nat.le_of_eq rfl) (hb hby at_79) (fun _ _ => ⟨rfl, e50, (by decide : 1 + 0 ≤ _), (by decide : 8 + 0 ≤ _)⟩)
    dsimp only [Pt.U, Pt.locs, Pt.cells, Pt.slots] at X115 l115 y115 z115 st115 hQ115
    subst l115 y115 z115
    obtain ⟨rfl, Nq115, eq115⟩ := hQ115
    have N115 := Fr.app N50 Nq115
    have R115 : ∀ t, Steps p.tables e below (T115.setTop (mkF m 82 #[.val (.int p1), .val (.ref b2), .val (.int (3 : Int32)), .val (.ref aLE), .val (.int (0 : Int32)), .unset, .unset] [(.int (0 : Int32))])) t → Steps p.tables e below (s₁.setTop (entryFrame m #[(.int p1)] maxLocals)) t := fun t k => R112 t (st115.trans k)
    have R117 : ∀ t, Steps p.tables e below (T115.setTop (mkF m 85 #[.val (.int p1), .val (.ref b2), .val (.int (3 : Int32)), .val (.ref aLE), .val (.int (0 : Int32)), .val (.int (0 : Int32)), .unset] [(.ref aLE)])) t → Steps p.tables e below (s₁.setTop (entryFrame m #[(.int p1)] maxLocals)) t := by
      intro t k
      refine R115 t ?_
      show Steps p.tables e below (T115.setTop (mkF m 82 #[.val (.int p1), .val (.ref b2), .val (.int (3 : Int32)), .val (.ref aLE), .val (.int (0 : Int32)), .unset, .unset] [(.int (0 : Int32))])) _
      refine XS.istore X115.here hx rfl (hb hby at_82) rfl (l' := #[.val (.int p1), .val (.ref b2), .val (.int (3 : Int32)), .val (.ref aLE), .val (.int (0 : Int32)), .val (.int (0 : Int32)), .unset]) rfl ?_
      show Steps p.tables e below (T115.setTop (mkF m 84 #[.val (.int p1), .val (.ref b2), .val (.int (3 : Int32)), .val (.ref aLE), .val (.int (0 : Int32)), .val (.int (0 : Int32)), .unset] [])) _
      refine XS.aloadN X115.here hx rfl (hb hby at_84) rfl rfl ?_
      exact k
    have f118 : Fld s h50 aLE "com/example/firm_store/firmstore/Operator" "sql" "Ljava/lang/String;" (.ref sLE) := QLE.keep K50 nin0
    obtain ⟨cq119, kq119, q119a, q119b, q119c⟩ := isOf hZ eq115 f116
    obtain ⟨_, _, ⟨T119, L119, k119, n119⟩, -, X119, ⟨Lc119, hQ119, l119, y119, z119⟩, st119⟩ := X115.virtualBack hx (y := (⟨"com/example/firm_store/firmstore/Operator", "sql", "()Ljava/lang/String;"⟩ : MethodName)) (z := (⟨"com/example/firm_store/firmstore/Operator", "sql", "()Ljava/lang/String;"⟩ : MethodName)) hown (mvT hZ (hw _ (List.mem_of_getElem? (i := 27) rfl))) (mvT hZ (hw _ (List.mem_of_getElem? (i := 28) rfl))) (notFace_of_selects (args := #[]) (mvT hZ (hw _ (List.mem_of_getElem? (i := 30) rfl)))) (mvT hZ (hw _ (List.mem_of_getElem? (i := 30) rfl))) (mvT hZ (hw _ (List.mem_of_getElem? (i := 29) rfl))) (by decide) (backOf (W := 0) (rmSql l s a0 hw [] aLE sLE h50 n0 Z50 f118) hZ (hw _ (List.mem_of_getElem? (i := 31) rfl)) (hw _ (List.mem_of_getElem? (i := 3) rfl)) (by decide) (by decide)) q119a q119c (g := (mkF m 85 #[.val (.int p1), .val (.ref b2), .val (.int (3 : Int32)), .val (.ref aLE), .val (.int (0 : Int32)), .val (.int (0 : Int32)), .unset] [(.ref aLE)])) rfl (by rw [hml]; rfl) (Steps.refl _) (argsL := []) (rest := []) (lenOf own_pd1 rfl) rfl (by show 2 * 0 + _ ≤ _; exact Nat.le_of_eq rfl) (hb hby at_85) (fun _ _ => ⟨rfl, eq115, (by decide : 1 + 0 ≤ _), (by decide : 8 + 0 ≤ _)⟩)
    dsimp only [Pt.U, Pt.locs, Pt.cells, Pt.slots] at X119 l119 y119 z119 st119 hQ119
    subst l119 y119 z119
    obtain ⟨rfl, Nq119, eq119⟩ := hQ119
    have N119 := Fr.app N115 Nq119
    have R119 : ∀ t, Steps p.tables e below (T119.setTop (mkF m 88 #[.val (.int p1), .val (.ref b2), .val (.int (3 : Int32)), .val (.ref aLE), .val (.int (0 : Int32)), .val (.int (0 : Int32)), .unset] [(.ref sLE)])) t → Steps p.tables e below (s₁.setTop (entryFrame m #[(.int p1)] maxLocals)) t := fun t k => R117 t (st119.trans k)
    have Nn := own_frn (n := s.heap.size) (by rw [hh]; exact hn0) N119
    obtain ⟨lit, T120, h120, ki120, lb, lk, X120, e120, E120, hS, hki, hZ', hown', litE, litC, litF, litV, litL, lbL, -, st120⟩ := ldcSV (s := s) (vm0 := s.vm) (Ts := []) X119 hx hZ hown (hw _ (List.mem_of_getElem? (i := 34) rfl)) (own_atoms hw) eq119 (State.WarmedH.since (State.WarmedH.refl s) _) (Nat.zero_le _ : 0 ≤ _) Nn (fun b cl q => q) IB.start (by decide) hheld hcw (vs := [(.int (108 : Int32)), (.int (105 : Int32)), (.int (107 : Int32)), (.int (101 : Int32))]) (z := (4 : Int32)) ⟨by decide, rfl⟩ (by decide) rfl (g := (mkF m 88 #[.val (.int p1), .val (.ref b2), .val (.int (3 : Int32)), .val (.ref aLE), .val (.int (0 : Int32)), .val (.int (0 : Int32)), .unset] [(.ref sLE)])) rfl (hb hby at_88) (n := 16) (by decide) (by decide) (by decide) (by decide)
    have R120 : ∀ t, Steps p.tables e below (T120.setTop (mkF m 90 #[.val (.int p1), .val (.ref b2), .val (.int (3 : Int32)), .val (.ref aLE), .val (.int (0 : Int32)), .val (.int (0 : Int32)), .unset] [(.ref lit), (.ref sLE)])) t → Steps p.tables e below (s₁.setTop (entryFrame m #[(.int p1)] maxLocals)) t := fun t k => R119 t (st120 t k)
    have Z120 : n0 ≤ h120.size := Nat.le_trans Z50 E120.1
    have K120 : Keep h0 h120 [] := K50.ext E120
    have hZ := hZ'
    have hown := hown'
    have f121 : Exa s h120 sLE "java/lang/String" := TLE.keep K120
    have f122 : Fld s h120 sLE "java/lang/String" "coder" "B" (.int (0 : Int32)) := CLE.keep K120 nin0
    have f123 : Fld s h120 sLE "java/lang/String" "value" "[B" (.ref vLE) := FLE.keep K120 nin0
    have f124 : Arv s h120 vLE kLE .byte (2 : Int32) [(.int (60 : Int32)), (.int (61 : Int32))] (.int (0 : Int32)) := VLE.keep K120 nin0
    have f125 : Sta s h120 "java/lang/String" "COMPACT_STRINGS" "Z" (.int cz) := own_sta_keep SC K120
    have nv : vLE ≠ lb := arv_ne f124 litV (Or.inl (by decide))
    have ns : sLE ≠ lit := Fld.ne f123 litF (fun e => nv (Value.ref.inj e))
    obtain ⟨cq126, kq126, q126a, q126b, q126c⟩ := isOf hZ e120 f121
    obtain ⟨_, _, ⟨T126, L126, k126, n126⟩, -, X126, ⟨Lc126, hQ126, l126, y126, z126⟩, st126⟩ := X120.virtualBack hx (y := (⟨"java/lang/String", "equals", "(Ljava/lang/Object;)Z"⟩ : MethodName)) (z := (⟨"java/lang/String", "equals", "(Ljava/lang/Object;)Z"⟩ : MethodName)) hown (mvT hZ (hw _ (List.mem_of_getElem? (i := 42) rfl))) (mvT hZ (hw _ (List.mem_of_getElem? (i := 43) rfl))) (notFace_of_selects (args := #[]) (mvT hZ (hw _ (List.mem_of_getElem? (i := 45) rfl)))) (mvT hZ (hw _ (List.mem_of_getElem? (i := 45) rfl))) (mvT hZ (hw _ (List.mem_of_getElem? (i := 44) rfl))) (by decide) (backOf (W := 0) (rmED l s a0 hw [] sLE lit vLE lb cz kLE lk (2 : Int32) (4 : Int32) [(.int (60 : Int32)), (.int (61 : Int32))] [(.int (108 : Int32)), (.int (105 : Int32)), (.int (107 : Int32)), (.int (101 : Int32))] h120 n0 Z120 ns hcz f125 litE f122 f123 litC litF f124 litV (by decide)) hZ (hw _ (List.mem_of_getElem? (i := 46) rfl)) (hw _ (List.mem_of_getElem? (i := 35) rfl)) (by decide) (by decide)) q126a q126c (g := (mkF m 90 #[.val (.int p1), .val (.ref b2), .val (.int (3 : Int32)), .val (.ref aLE), .val (.int (0 : Int32)), .val (.int (0 : Int32)), .unset] [(.ref lit), (.ref sLE)])) rfl (by rw [hml]; rfl) (Steps.refl _) (argsL := [(.ref lit)]) (rest := []) (lenOf own_pd2 rfl) rfl (by show 2 * 0 + _ ≤ _; exact Nat.le_of_eq rfl) (hb hby at_90) (fun _ _ => ⟨rfl, e120, (by decide : 3 + 0 ≤ _), (by decide : 28 + 0 ≤ _)⟩)
    dsimp only [Pt.U, Pt.locs, Pt.cells, Pt.slots] at X126 l126 y126 z126 st126 hQ126
    subst l126 y126 z126
    obtain ⟨rfl, Nq126, eq126⟩ := hQ126
    have N126 := Fr.app N119 Nq126
    have R126 : ∀ t, Steps p.tables e below (T126.setTop (mkF m 93 #[.val (.int p1), .val (.ref b2), .val (.int (3 : Int32)), .val (.ref aLE), .val (.int (0 : Int32)), .val (.int (0 : Int32)), .unset] [(.int (0 : Int32))])) t → Steps p.tables e below (s₁.setTop (entryFrame m #[(.int p1)] maxLocals)) t := fun t k => R120 t (st126.trans k)
    have R127 : ∀ t, Steps p.tables e below (T126.setTop (mkF m 114 #[.val (.int p1), .val (.ref b2), .val (.int (3 : Int32)), .val (.ref aLE), .val (.int (0 : Int32)), .val (.int (0 : Int32)), .val (.int (0 : Int32))] [(.int (1 : Int32))])) t → Steps p.tables e below (s₁.setTop (entryFrame m #[(.int p1)] maxLocals)) t := by
      intro t k
      refine R126 t ?_
      show Steps p.tables e below (T126.setTop (mkF m 93 #[.val (.int p1), .val (.ref b2), .val (.int (3 : Int32)), .val (.ref aLE), .val (.int (0 : Int32)), .val (.int (0 : Int32)), .unset] [(.int (0 : Int32))])) _
      refine XS.istore X126.here hx rfl (hb hby at_93) rfl (l' := #[.val (.int p1), .val (.ref b2), .val (.int (3 : Int32)), .val (.ref aLE), .val (.int (0 : Int32)), .val (.int (0 : Int32)), .val (.int (0 : Int32))]) rfl ?_
      show Steps p.tables e below (T126.setTop (mkF m 95 #[.val (.int p1), .val (.ref b2), .val (.int (3 : Int32)), .val (.ref aLE), .val (.int (0 : Int32)), .val (.int (0 : Int32)), .val (.int (0 : Int32))] [])) _
      refine XS.iload X126.here hx rfl (hb hby at_95) rfl ?_
      show Steps p.tables e below (T126.setTop (mkF m 97 #[.val (.int p1), .val (.ref b2), .val (.int (3 : Int32)), .val (.ref aLE), .val (.int (0 : Int32)), .val (.int (0 : Int32)), .val (.int (0 : Int32))] [(.int (0 : Int32))])) _
      refine XS.iload X126.here hx rfl (hb hby at_97) rfl ?_
      show Steps p.tables e below (T126.setTop (mkF m 99 #[.val (.int p1), .val (.ref b2), .val (.int (3 : Int32)), .val (.ref aLE), .val (.int (0 : Int32)), .val (.int (0 : Int32)), .val (.int (0 : Int32))] [(.int (0 : Int32)), (.int (0 : Int32))])) _
      refine XS.icmpNo X126.here hx rfl (hb hby at_99) rfl (teq (by decide : ((0 : Int32) = (0 : Int32)))).2 ?_
      show Steps p.tables e below (T126.setTop (mkF m 102 #[.val (.int p1), .val (.ref b2), .val (.int (3 : Int32)), .val (.ref aLE), .val (.int (0 : Int32)), .val (.int (0 : Int32)), .val (.int (0 : Int32))] [])) _
      refine XS.iload X126.here hx rfl (hb hby at_102) rfl ?_
      show Steps p.tables e below (T126.setTop (mkF m 104 #[.val (.int p1), .val (.ref b2), .val (.int (3 : Int32)), .val (.ref aLE), .val (.int (0 : Int32)), .val (.int (0 : Int32)), .val (.int (0 : Int32))] [(.int (0 : Int32))])) _
      refine XS.iload X126.here hx rfl (hb hby at_104) rfl ?_
      show Steps p.tables e below (T126.setTop (mkF m 106 #[.val (.int p1), .val (.ref b2), .val (.int (3 : Int32)), .val (.ref aLE), .val (.int (0 : Int32)), .val (.int (0 : Int32)), .val (.int (0 : Int32))] [(.int (0 : Int32)), (.int (0 : Int32))])) _
      refine XS.icmpNo X126.here hx rfl (hb hby at_106) rfl (teq (by decide : ((0 : Int32) = (0 : Int32)))).2 ?_
      show Steps p.tables e below (T126.setTop (mkF m 109 #[.val (.int p1), .val (.ref b2), .val (.int (3 : Int32)), .val (.ref aLE), .val (.int (0 : Int32)), .val (.int (0 : Int32)), .val (.int (0 : Int32))] [])) _
      refine XS.iconst X126.here hx rfl (hb hby at_109) ?_
      show Steps p.tables e below (T126.setTop (mkF m 110 #[.val (.int p1), .val (.ref b2), .val (.int (3 : Int32)), .val (.ref aLE), .val (.int (0 : Int32)), .val (.int (0 : Int32)), .val (.int (0 : Int32))] [(.int (1 : Int32))])) _
      refine XS.goto X126.here hx rfl (pc0 := 110) (pc' := 114) rfl (hb hby at_110) (by decide) (by decide) ?_
      exact k
    obtain ⟨fs, hr, hrun, hended, hEnd⟩ := X126.leaveW hS (Nat.le_trans hki (Nat.le_of_eq (by rw [eq126]))) (v := some (.int (1 : Int32))) (fun h => by rw [Bd.returns] at h; cases h)
    refine ⟨_, _, R127 _ ?_, hrun, hended, _, _, rfl, ⟨rfl, N126⟩, own_endMono hEnd (by decide) (by decide)⟩
    exact retN X126 hx (t := .boolean) Bd.returns (by simp) (hb hby at_114) hr
  · have R128 : ∀ t, Steps p.tables e below (T50.setTop (mkF m 61 #[.val (.int p1), .val (.ref b2), .val (.int (4 : Int32)), .unset, .unset, .unset, .unset] [])) t → Steps p.tables e below (s₁.setTop (entryFrame m #[(.int p1)] maxLocals)) t := by rw [(hk : (p1 &&& (7 : Int32)) = (4 : Int32))] at R51; exact R51
    have R129 : ∀ t, Steps p.tables e below (T50.setTop (mkF m 63 #[.val (.int p1), .val (.ref b2), .val (.int (4 : Int32)), .unset, .unset, .unset, .unset] [(.int (4 : Int32)), (.ref b2)])) t → Steps p.tables e below (s₁.setTop (entryFrame m #[(.int p1)] maxLocals)) t := by
      intro t k
      refine R128 t ?_
      show Steps p.tables e below (T50.setTop (mkF m 61 #[.val (.int p1), .val (.ref b2), .val (.int (4 : Int32)), .unset, .unset, .unset, .unset] [])) _
      refine XS.aloadN X50.here hx rfl (hb hby at_61) rfl rfl ?_
      show Steps p.tables e below (T50.setTop (mkF m 62 #[.val (.int p1), .val (.ref b2), .val (.int (4 : Int32)), .unset, .unset, .unset, .unset] [(.ref b2)])) _
      refine XS.iloadN X50.here hx rfl (hb hby at_62) rfl ?_
      exact k
    obtain ⟨cl130, Ar130, q130, S130, N130', H130, G130⟩ := id V50
    have hin130_4 : ¬ ((4 : Int32) < 0 ∨ cl130.slots.size ≤ ((4 : Int32)).toNatClampNeg) := inb_of S130 ⟨by decide, by decide⟩
    have hat130_4 : cl130.slots[((4 : Int32)).toNatClampNeg]? = some (.ref aGT) := H130.at hin130_4 rfl
    have R131 : ∀ t, Steps p.tables e below (T50.setTop (mkF m 79 #[.val (.int p1), .val (.ref b2), .val (.int (4 : Int32)), .val (.ref aGT), .val (.int (0 : Int32)), .unset, .unset] [(.ref aGT)])) t → Steps p.tables e below (s₁.setTop (entryFrame m #[(.int p1)] maxLocals)) t := by
      intro t k
      refine R129 t ?_
      show Steps p.tables e below (T50.setTop (mkF m 63 #[.val (.int p1), .val (.ref b2), .val (.int (4 : Int32)), .unset, .unset, .unset, .unset] [(.int (4 : Int32)), (.ref b2)])) _
      refine X50.aaload hx (j := (4 : Int32)) (v := (.ref aGT)) (by rw [e50]; exact Ar130.1) (State.isArrayOf_alike hZ.alike Ar130.2.1) rfl Ar130.2.2 hin130_4 hat130_4 (g := (mkF m 63 #[.val (.int p1), .val (.ref b2), .val (.int (4 : Int32)), .unset, .unset, .unset, .unset] [(.int (4 : Int32)), (.ref b2)])) rfl rfl (hb hby at_63) _ ?_
      show Steps p.tables e below (T50.setTop (mkF m 64 #[.val (.int p1), .val (.ref b2), .val (.int (4 : Int32)), .unset, .unset, .unset, .unset] [(.ref aGT)])) _
      refine XS.astoreN X50.here hx rfl (hb hby at_64) rfl rfl (l' := #[.val (.int p1), .val (.ref b2), .val (.int (4 : Int32)), .val (.ref aGT), .unset, .unset, .unset]) rfl ?_
      show Steps p.tables e below (T50.setTop (mkF m 65 #[.val (.int p1), .val (.ref b2), .val (.int (4 : Int32)), .val (.ref aGT), .unset, .unset, .unset] [])) _
      refine XS.iloadN X50.here hx rfl (hb hby at_65) rfl ?_
      show Steps p.tables e below (T50.setTop (mkF m 66 #[.val (.int p1), .val (.ref b2), .val (.int (4 : Int32)), .val (.ref aGT), .unset, .unset, .unset] [(.int (4 : Int32))])) _
      refine XS.bipush X50.here hx rfl (hb hby at_66) ?_
      show Steps p.tables e below (T50.setTop (mkF m 68 #[.val (.int p1), .val (.ref b2), .val (.int (4 : Int32)), .val (.ref aGT), .unset, .unset, .unset] [(.int (6 : Int32)), (.int (4 : Int32))])) _
      refine XS.icmpYes X50.here hx rfl (pc0 := 68) (pc' := 75) rfl (hb hby at_68) rfl (tlt (by decide : ((4 : Int32) < (6 : Int32)))).1 (by decide) (by decide) ?_
      show Steps p.tables e below (T50.setTop (mkF m 75 #[.val (.int p1), .val (.ref b2), .val (.int (4 : Int32)), .val (.ref aGT), .unset, .unset, .unset] [])) _
      refine XS.iconst X50.here hx rfl (hb hby at_75) ?_
      show Steps p.tables e below (T50.setTop (mkF m 76 #[.val (.int p1), .val (.ref b2), .val (.int (4 : Int32)), .val (.ref aGT), .unset, .unset, .unset] [(.int (0 : Int32))])) _
      refine XS.istore X50.here hx rfl (hb hby at_76) rfl (l' := #[.val (.int p1), .val (.ref b2), .val (.int (4 : Int32)), .val (.ref aGT), .val (.int (0 : Int32)), .unset, .unset]) rfl ?_
      show Steps p.tables e below (T50.setTop (mkF m 78 #[.val (.int p1), .val (.ref b2), .val (.int (4 : Int32)), .val (.ref aGT), .val (.int (0 : Int32)), .unset, .unset] [])) _
      refine XS.aloadN X50.here hx rfl (hb hby at_78) rfl rfl ?_
      exact k
    have f132 : Sta s h50 "com/example/firm_store/firmstore/Operator" "LIKE" "Lcom/example/firm_store/firmstore/Operator;" (.ref aLIKE) := own_sta_keep SLIKE K50
    have f133 : Sta s h50 "com/example/firm_store/firmstore/Operator" "ILIKE" "Lcom/example/firm_store/firmstore/Operator;" (.ref aILIKE) := own_sta_keep SILIKE K50
    have f135 : Exa s h50 aGT "com/example/firm_store/firmstore/Operator" := EGT.keep K50
    obtain ⟨cq134, kq134, q134a, q134b, q134c⟩ := isOf hZ e50 f135
    obtain ⟨_, _, ⟨T134, L134, k134, n134⟩, -, X134, ⟨Lc134, hQ134, l134, y134, z134⟩, st134⟩ := X50.virtualBack hx (y := (⟨"com/example/firm_store/firmstore/Operator", "isPattern", "()Z"⟩ : MethodName)) (z := (⟨"com/example/firm_store/firmstore/Operator", "isPattern", "()Z"⟩ : MethodName)) hown (mvT hZ (hw _ (List.mem_of_getElem? (i := 20) rfl))) (mvT hZ (hw _ (List.mem_of_getElem? (i := 21) rfl))) (notFace_of_selects (args := #[]) (mvT hZ (hw _ (List.mem_of_getElem? (i := 23) rfl)))) (mvT hZ (hw _ (List.mem_of_getElem? (i := 23) rfl))) (mvT hZ (hw _ (List.mem_of_getElem? (i := 22) rfl))) (by decide) (backOf (W := 0) (rmPN l s a0 hw [] aGT aLIKE aILIKE h50 n0 Z50 f132 f133 (Fld.ne OGT OLIKE (by decide)) (Fld.ne OGT OILIKE (by decide))) hZ (hw _ (List.mem_of_getElem? (i := 24) rfl)) (hw _ (List.mem_of_getElem? (i := 3) rfl)) (by decide) (by decide)) q134a q134c (g := (mkF m 79 #[.val (.int p1), .val (.ref b2), .val (.int (4 : Int32)), .val (.ref aGT), .val (.int (0 : Int32)), .unset, .unset] [(.ref aGT)])) rfl (by rw [hml]; rfl) (Steps.refl _) (argsL := []) (rest := []) (lenOf own_pd0 rfl) rfl (by show 2 * 0 + _ ≤ _; exact Nat.le_of_eq rfl) (hb hby at_79) (fun _ _ => ⟨rfl, e50, (by decide : 1 + 0 ≤ _), (by decide : 8 + 0 ≤ _)⟩)
    dsimp only [Pt.U, Pt.locs, Pt.cells, Pt.slots] at X134 l134 y134 z134 st134 hQ134
    subst l134 y134 z134
    obtain ⟨rfl, Nq134, eq134⟩ := hQ134
    have N134 := Fr.app N50 Nq134
    have R134 : ∀ t, Steps p.tables e below (T134.setTop (mkF m 82 #[.val (.int p1), .val (.ref b2), .val (.int (4 : Int32)), .val (.ref aGT), .val (.int (0 : Int32)), .unset, .unset] [(.int (0 : Int32))])) t → Steps p.tables e below (s₁.setTop (entryFrame m #[(.int p1)] maxLocals)) t := fun t k => R131 t (st134.trans k)
    have R136 : ∀ t, Steps p.tables e below (T134.setTop (mkF m 85 #[.val (.int p1), .val (.ref b2), .val (.int (4 : Int32)), .val (.ref aGT), .val (.int (0 : Int32)), .val (.int (0 : Int32)), .unset] [(.ref aGT)])) t → Steps p.tables e below (s₁.setTop (entryFrame m #[(.int p1)] maxLocals)) t := by
      intro t k
      refine R134 t ?_
      show Steps p.tables e below (T134.setTop (mkF m 82 #[.val (.int p1), .val (.ref b2), .val (.int (4 : Int32)), .val (.ref aGT), .val (.int (0 : Int32)), .unset, .unset] [(.int (0 : Int32))])) _
      refine XS.istore X134.here hx rfl (hb hby at_82) rfl (l' := #[.val (.int p1), .val (.ref b2), .val (.int (4 : Int32)), .val (.ref aGT), .val (.int (0 : Int32)), .val (.int (0 : Int32)), .unset]) rfl ?_
      show Steps p.tables e below (T134.setTop (mkF m 84 #[.val (.int p1), .val (.ref b2), .val (.int (4 : Int32)), .val (.ref aGT), .val (.int (0 : Int32)), .val (.int (0 : Int32)), .unset] [])) _
      refine XS.aloadN X134.here hx rfl (hb hby at_84) rfl rfl ?_
      exact k
    have f137 : Fld s h50 aGT "com/example/firm_store/firmstore/Operator" "sql" "Ljava/lang/String;" (.ref sGT) := QGT.keep K50 nin0
    obtain ⟨cq138, kq138, q138a, q138b, q138c⟩ := isOf hZ eq134 f135
    obtain ⟨_, _, ⟨T138, L138, k138, n138⟩, -, X138, ⟨Lc138, hQ138, l138, y138, z138⟩, st138⟩ := X134.virtualBack hx (y := (⟨"com/example/firm_store/firmstore/Operator", "sql", "()Ljava/lang/String;"⟩ : MethodName)) (z := (⟨"com/example/firm_store/firmstore/Operator", "sql", "()Ljava/lang/String;"⟩ : MethodName)) hown (mvT hZ (hw _ (List.mem_of_getElem? (i := 27) rfl))) (mvT hZ (hw _ (List.mem_of_getElem? (i := 28) rfl))) (notFace_of_selects (args := #[]) (mvT hZ (hw _ (List.mem_of_getElem? (i := 30) rfl)))) (mvT hZ (hw _ (List.mem_of_getElem? (i := 30) rfl))) (mvT hZ (hw _ (List.mem_of_getElem? (i := 29) rfl))) (by decide) (backOf (W := 0) (rmSql l s a0 hw [] aGT sGT h50 n0 Z50 f137) hZ (hw _ (List.mem_of_getElem? (i := 31) rfl)) (hw _ (List.mem_of_getElem? (i := 3) rfl)) (by decide) (by decide)) q138a q138c (g := (mkF m 85 #[.val (.int p1), .val (.ref b2), .val (.int (4 : Int32)), .val (.ref aGT), .val (.int (0 : Int32)), .val (.int (0 : Int32)), .unset] [(.ref aGT)])) rfl (by rw [hml]; rfl) (Steps.refl _) (argsL := []) (rest := []) (lenOf own_pd1 rfl) rfl (by show 2 * 0 + _ ≤ _; exact Nat.le_of_eq rfl) (hb hby at_85) (fun _ _ => ⟨rfl, eq134, (by decide : 1 + 0 ≤ _), (by decide : 8 + 0 ≤ _)⟩)
    dsimp only [Pt.U, Pt.locs, Pt.cells, Pt.slots] at X138 l138 y138 z138 st138 hQ138
    subst l138 y138 z138
    obtain ⟨rfl, Nq138, eq138⟩ := hQ138
    have N138 := Fr.app N134 Nq138
    have R138 : ∀ t, Steps p.tables e below (T138.setTop (mkF m 88 #[.val (.int p1), .val (.ref b2), .val (.int (4 : Int32)), .val (.ref aGT), .val (.int (0 : Int32)), .val (.int (0 : Int32)), .unset] [(.ref sGT)])) t → Steps p.tables e below (s₁.setTop (entryFrame m #[(.int p1)] maxLocals)) t := fun t k => R136 t (st138.trans k)
    have Nn := own_frn (n := s.heap.size) (by rw [hh]; exact hn0) N138
    obtain ⟨lit, T139, h139, ki139, lb, lk, X139, e139, E139, hS, hki, hZ', hown', litE, litC, litF, litV, litL, lbL, -, st139⟩ := ldcSV (s := s) (vm0 := s.vm) (Ts := []) X138 hx hZ hown (hw _ (List.mem_of_getElem? (i := 34) rfl)) (own_atoms hw) eq138 (State.WarmedH.since (State.WarmedH.refl s) _) (Nat.zero_le _ : 0 ≤ _) Nn (fun b cl q => q) IB.start (by decide) hheld hcw (vs := [(.int (108 : Int32)), (.int (105 : Int32)), (.int (107 : Int32)), (.int (101 : Int32))]) (z := (4 : Int32)) ⟨by decide, rfl⟩ (by decide) rfl (g := (mkF m 88 #[.val (.int p1), .val (.ref b2), .val (.int (4 : Int32)), .val (.ref aGT), .val (.int (0 : Int32)), .val (.int (0 : Int32)), .unset] [(.ref sGT)])) rfl (hb hby at_88) (n := 16) (by decide) (by decide) (by decide) (by decide)
    have R139 : ∀ t, Steps p.tables e below (T139.setTop (mkF m 90 #[.val (.int p1), .val (.ref b2), .val (.int (4 : Int32)), .val (.ref aGT), .val (.int (0 : Int32)), .val (.int (0 : Int32)), .unset] [(.ref lit), (.ref sGT)])) t → Steps p.tables e below (s₁.setTop (entryFrame m #[(.int p1)] maxLocals)) t := fun t k => R138 t (st139 t k)
    have Z139 : n0 ≤ h139.size := Nat.le_trans Z50 E139.1
    have K139 : Keep h0 h139 [] := K50.ext E139
    have hZ := hZ'
    have hown := hown'
    have f140 : Exa s h139 sGT "java/lang/String" := TGT.keep K139
    have f141 : Fld s h139 sGT "java/lang/String" "coder" "B" (.int (0 : Int32)) := CGT.keep K139 nin0
    have f142 : Fld s h139 sGT "java/lang/String" "value" "[B" (.ref vGT) := FGT.keep K139 nin0
    have f143 : Arv s h139 vGT kGT .byte (1 : Int32) [(.int (62 : Int32))] (.int (0 : Int32)) := VGT.keep K139 nin0
    have f144 : Sta s h139 "java/lang/String" "COMPACT_STRINGS" "Z" (.int cz) := own_sta_keep SC K139
    have nv : vGT ≠ lb := arv_ne f143 litV (Or.inl (by decide))
    have ns : sGT ≠ lit := Fld.ne f142 litF (fun e => nv (Value.ref.inj e))
    obtain ⟨cq145, kq145, q145a, q145b, q145c⟩ := isOf hZ e139 f140
    obtain ⟨_, _, ⟨T145, L145, k145, n145⟩, -, X145, ⟨Lc145, hQ145, l145, y145, z145⟩, st145⟩ := X139.virtualBack hx (y := (⟨"java/lang/String", "equals", "(Ljava/lang/Object;)Z"⟩ : MethodName)) (z := (⟨"java/lang/String", "equals", "(Ljava/lang/Object;)Z"⟩ : MethodName)) hown (mvT hZ (hw _ (List.mem_of_getElem? (i := 42) rfl))) (mvT hZ (hw _ (List.mem_of_getElem? (i := 43) rfl))) (notFace_of_selects (args := #[]) (mvT hZ (hw _ (List.mem_of_getElem? (i := 45) rfl)))) (mvT hZ (hw _ (List.mem_of_getElem? (i := 45) rfl))) (mvT hZ (hw _ (List.mem_of_getElem? (i := 44) rfl))) (by decide) (backOf (W := 0) (rmED l s a0 hw [] sGT lit vGT lb cz kGT lk (1 : Int32) (4 : Int32) [(.int (62 : Int32))] [(.int (108 : Int32)), (.int (105 : Int32)), (.int (107 : Int32)), (.int (101 : Int32))] h139 n0 Z139 ns hcz f144 litE f141 f142 litC litF f143 litV (by decide)) hZ (hw _ (List.mem_of_getElem? (i := 46) rfl)) (hw _ (List.mem_of_getElem? (i := 35) rfl)) (by decide) (by decide)) q145a q145c (g := (mkF m 90 #[.val (.int p1), .val (.ref b2), .val (.int (4 : Int32)), .val (.ref aGT), .val (.int (0 : Int32)), .val (.int (0 : Int32)), .unset] [(.ref lit), (.ref sGT)])) rfl (by rw [hml]; rfl) (Steps.refl _) (argsL := [(.ref lit)]) (rest := []) (lenOf own_pd2 rfl) rfl (by show 2 * 0 + _ ≤ _; exact Nat.le_of_eq rfl) (hb hby at_90) (fun _ _ => ⟨rfl, e139, (by decide : 3 + 0 ≤ _), (by decide : 28 + 0 ≤ _)⟩)
    dsimp only [Pt.U, Pt.locs, Pt.cells, Pt.slots] at X145 l145 y145 z145 st145 hQ145
    subst l145 y145 z145
    obtain ⟨rfl, Nq145, eq145⟩ := hQ145
    have N145 := Fr.app N138 Nq145
    have R145 : ∀ t, Steps p.tables e below (T145.setTop (mkF m 93 #[.val (.int p1), .val (.ref b2), .val (.int (4 : Int32)), .val (.ref aGT), .val (.int (0 : Int32)), .val (.int (0 : Int32)), .unset] [(.int (0 : Int32))])) t → Steps p.tables e below (s₁.setTop (entryFrame m #[(.int p1)] maxLocals)) t := fun t k => R139 t (st145.trans k)
    have R146 : ∀ t, Steps p.tables e below (T145.setTop (mkF m 114 #[.val (.int p1), .val (.ref b2), .val (.int (4 : Int32)), .val (.ref aGT), .val (.int (0 : Int32)), .val (.int (0 : Int32)), .val (.int (0 : Int32))] [(.int (1 : Int32))])) t → Steps p.tables e below (s₁.setTop (entryFrame m #[(.int p1)] maxLocals)) t := by
      intro t k
      refine R145 t ?_
      show Steps p.tables e below (T145.setTop (mkF m 93 #[.val (.int p1), .val (.ref b2), .val (.int (4 : Int32)), .val (.ref aGT), .val (.int (0 : Int32)), .val (.int (0 : Int32)), .unset] [(.int (0 : Int32))])) _
      refine XS.istore X145.here hx rfl (hb hby at_93) rfl (l' := #[.val (.int p1), .val (.ref b2), .val (.int (4 : Int32)), .val (.ref aGT), .val (.int (0 : Int32)), .val (.int (0 : Int32)), .val (.int (0 : Int32))]) rfl ?_
      show Steps p.tables e below (T145.setTop (mkF m 95 #[.val (.int p1), .val (.ref b2), .val (.int (4 : Int32)), .val (.ref aGT), .val (.int (0 : Int32)), .val (.int (0 : Int32)), .val (.int (0 : Int32))] [])) _
      refine XS.iload X145.here hx rfl (hb hby at_95) rfl ?_
      show Steps p.tables e below (T145.setTop (mkF m 97 #[.val (.int p1), .val (.ref b2), .val (.int (4 : Int32)), .val (.ref aGT), .val (.int (0 : Int32)), .val (.int (0 : Int32)), .val (.int (0 : Int32))] [(.int (0 : Int32))])) _
      refine XS.iload X145.here hx rfl (hb hby at_97) rfl ?_
      show Steps p.tables e below (T145.setTop (mkF m 99 #[.val (.int p1), .val (.ref b2), .val (.int (4 : Int32)), .val (.ref aGT), .val (.int (0 : Int32)), .val (.int (0 : Int32)), .val (.int (0 : Int32))] [(.int (0 : Int32)), (.int (0 : Int32))])) _
      refine XS.icmpNo X145.here hx rfl (hb hby at_99) rfl (teq (by decide : ((0 : Int32) = (0 : Int32)))).2 ?_
      show Steps p.tables e below (T145.setTop (mkF m 102 #[.val (.int p1), .val (.ref b2), .val (.int (4 : Int32)), .val (.ref aGT), .val (.int (0 : Int32)), .val (.int (0 : Int32)), .val (.int (0 : Int32))] [])) _
      refine XS.iload X145.here hx rfl (hb hby at_102) rfl ?_
      show Steps p.tables e below (T145.setTop (mkF m 104 #[.val (.int p1), .val (.ref b2), .val (.int (4 : Int32)), .val (.ref aGT), .val (.int (0 : Int32)), .val (.int (0 : Int32)), .val (.int (0 : Int32))] [(.int (0 : Int32))])) _
      refine XS.iload X145.here hx rfl (hb hby at_104) rfl ?_
      show Steps p.tables e below (T145.setTop (mkF m 106 #[.val (.int p1), .val (.ref b2), .val (.int (4 : Int32)), .val (.ref aGT), .val (.int (0 : Int32)), .val (.int (0 : Int32)), .val (.int (0 : Int32))] [(.int (0 : Int32)), (.int (0 : Int32))])) _
      refine XS.icmpNo X145.here hx rfl (hb hby at_106) rfl (teq (by decide : ((0 : Int32) = (0 : Int32)))).2 ?_
      show Steps p.tables e below (T145.setTop (mkF m 109 #[.val (.int p1), .val (.ref b2), .val (.int (4 : Int32)), .val (.ref aGT), .val (.int (0 : Int32)), .val (.int (0 : Int32)), .val (.int (0 : Int32))] [])) _
      refine XS.iconst X145.here hx rfl (hb hby at_109) ?_
      show Steps p.tables e below (T145.setTop (mkF m 110 #[.val (.int p1), .val (.ref b2), .val (.int (4 : Int32)), .val (.ref aGT), .val (.int (0 : Int32)), .val (.int (0 : Int32)), .val (.int (0 : Int32))] [(.int (1 : Int32))])) _
      refine XS.goto X145.here hx rfl (pc0 := 110) (pc' := 114) rfl (hb hby at_110) (by decide) (by decide) ?_
      exact k
    obtain ⟨fs, hr, hrun, hended, hEnd⟩ := X145.leaveW hS (Nat.le_trans hki (Nat.le_of_eq (by rw [eq145]))) (v := some (.int (1 : Int32))) (fun h => by rw [Bd.returns] at h; cases h)
    refine ⟨_, _, R146 _ ?_, hrun, hended, _, _, rfl, ⟨rfl, N145⟩, own_endMono hEnd (by decide) (by decide)⟩
    exact retN X145 hx (t := .boolean) Bd.returns (by simp) (hb hby at_114) hr
  · have R147 : ∀ t, Steps p.tables e below (T50.setTop (mkF m 61 #[.val (.int p1), .val (.ref b2), .val (.int (5 : Int32)), .unset, .unset, .unset, .unset] [])) t → Steps p.tables e below (s₁.setTop (entryFrame m #[(.int p1)] maxLocals)) t := by rw [(hk : (p1 &&& (7 : Int32)) = (5 : Int32))] at R51; exact R51
    have R148 : ∀ t, Steps p.tables e below (T50.setTop (mkF m 63 #[.val (.int p1), .val (.ref b2), .val (.int (5 : Int32)), .unset, .unset, .unset, .unset] [(.int (5 : Int32)), (.ref b2)])) t → Steps p.tables e below (s₁.setTop (entryFrame m #[(.int p1)] maxLocals)) t := by
      intro t k
      refine R147 t ?_
      show Steps p.tables e below (T50.setTop (mkF m 61 #[.val (.int p1), .val (.ref b2), .val (.int (5 : Int32)), .unset, .unset, .unset, .unset] [])) _
      refine XS.aloadN X50.here hx rfl (hb hby at_61) rfl rfl ?_
      show Steps p.tables e below (T50.setTop (mkF m 62 #[.val (.int p1), .val (.ref b2), .val (.int (5 : Int32)), .unset, .unset, .unset, .unset] [(.ref b2)])) _
      refine XS.iloadN X50.here hx rfl (hb hby at_62) rfl ?_
      exact k
    obtain ⟨cl149, Ar149, q149, S149, N149', H149, G149⟩ := id V50
    have hin149_5 : ¬ ((5 : Int32) < 0 ∨ cl149.slots.size ≤ ((5 : Int32)).toNatClampNeg) := inb_of S149 ⟨by decide, by decide⟩
    have hat149_5 : cl149.slots[((5 : Int32)).toNatClampNeg]? = some (.ref aGE) := H149.at hin149_5 rfl
    have R150 : ∀ t, Steps p.tables e below (T50.setTop (mkF m 79 #[.val (.int p1), .val (.ref b2), .val (.int (5 : Int32)), .val (.ref aGE), .val (.int (0 : Int32)), .unset, .unset] [(.ref aGE)])) t → Steps p.tables e below (s₁.setTop (entryFrame m #[(.int p1)] maxLocals)) t := by
      intro t k
      refine R148 t ?_
      show Steps p.tables e below (T50.setTop (mkF m 63 #[.val (.int p1), .val (.ref b2), .val (.int (5 : Int32)), .unset, .unset, .unset, .unset] [(.int (5 : Int32)), (.ref b2)])) _
      refine X50.aaload hx (j := (5 : Int32)) (v := (.ref aGE)) (by rw [e50]; exact Ar149.1) (State.isArrayOf_alike hZ.alike Ar149.2.1) rfl Ar149.2.2 hin149_5 hat149_5 (g := (mkF m 63 #[.val (.int p1), .val (.ref b2), .val (.int (5 : Int32)), .unset, .unset, .unset, .unset] [(.int (5 : Int32)), (.ref b2)])) rfl rfl (hb hby at_63) _ ?_
      show Steps p.tables e below (T50.setTop (mkF m 64 #[.val (.int p1), .val (.ref b2), .val (.int (5 : Int32)), .unset, .unset, .unset, .unset] [(.ref aGE)])) _
      refine XS.astoreN X50.here hx rfl (hb hby at_64) rfl rfl (l' := #[.val (.int p1), .val (.ref b2), .val (.int (5 : Int32)), .val (.ref aGE), .unset, .unset, .unset]) rfl ?_
      show Steps p.tables e below (T50.setTop (mkF m 65 #[.val (.int p1), .val (.ref b2), .val (.int (5 : Int32)), .val (.ref aGE), .unset, .unset, .unset] [])) _
      refine XS.iloadN X50.here hx rfl (hb hby at_65) rfl ?_
      show Steps p.tables e below (T50.setTop (mkF m 66 #[.val (.int p1), .val (.ref b2), .val (.int (5 : Int32)), .val (.ref aGE), .unset, .unset, .unset] [(.int (5 : Int32))])) _
      refine XS.bipush X50.here hx rfl (hb hby at_66) ?_
      show Steps p.tables e below (T50.setTop (mkF m 68 #[.val (.int p1), .val (.ref b2), .val (.int (5 : Int32)), .val (.ref aGE), .unset, .unset, .unset] [(.int (6 : Int32)), (.int (5 : Int32))])) _
      refine XS.icmpYes X50.here hx rfl (pc0 := 68) (pc' := 75) rfl (hb hby at_68) rfl (tlt (by decide : ((5 : Int32) < (6 : Int32)))).1 (by decide) (by decide) ?_
      show Steps p.tables e below (T50.setTop (mkF m 75 #[.val (.int p1), .val (.ref b2), .val (.int (5 : Int32)), .val (.ref aGE), .unset, .unset, .unset] [])) _
      refine XS.iconst X50.here hx rfl (hb hby at_75) ?_
      show Steps p.tables e below (T50.setTop (mkF m 76 #[.val (.int p1), .val (.ref b2), .val (.int (5 : Int32)), .val (.ref aGE), .unset, .unset, .unset] [(.int (0 : Int32))])) _
      refine XS.istore X50.here hx rfl (hb hby at_76) rfl (l' := #[.val (.int p1), .val (.ref b2), .val (.int (5 : Int32)), .val (.ref aGE), .val (.int (0 : Int32)), .unset, .unset]) rfl ?_
      show Steps p.tables e below (T50.setTop (mkF m 78 #[.val (.int p1), .val (.ref b2), .val (.int (5 : Int32)), .val (.ref aGE), .val (.int (0 : Int32)), .unset, .unset] [])) _
      refine XS.aloadN X50.here hx rfl (hb hby at_78) rfl rfl ?_
      exact k
    have f151 : Sta s h50 "com/example/firm_store/firmstore/Operator" "LIKE" "Lcom/example/firm_store/firmstore/Operator;" (.ref aLIKE) := own_sta_keep SLIKE K50
    have f152 : Sta s h50 "com/example/firm_store/firmstore/Operator" "ILIKE" "Lcom/example/firm_store/firmstore/Operator;" (.ref aILIKE) := own_sta_keep SILIKE K50
    have f154 : Exa s h50 aGE "com/example/firm_store/firmstore/Operator" := EGE.keep K50
    obtain ⟨cq153, kq153, q153a, q153b, q153c⟩ := isOf hZ e50 f154
    obtain ⟨_, _, ⟨T153, L153, k153, n153⟩, -, X153, ⟨Lc153, hQ153, l153, y153, z153⟩, st153⟩ := X50.virtualBack hx (y := (⟨"com/example/firm_store/firmstore/Operator", "isPattern", "()Z"⟩ : MethodName)) (z := (⟨"com/example/firm_store/firmstore/Operator", "isPattern", "()Z"⟩ : MethodName)) hown (mvT hZ (hw _ (List.mem_of_getElem? (i := 20) rfl))) (mvT hZ (hw _ (List.mem_of_getElem? (i := 21) rfl))) (notFace_of_selects (args := #[]) (mvT hZ (hw _ (List.mem_of_getElem? (i := 23) rfl)))) (mvT hZ (hw _ (List.mem_of_getElem? (i := 23) rfl))) (mvT hZ (hw _ (List.mem_of_getElem? (i := 22) rfl))) (by decide) (backOf (W := 0) (rmPN l s a0 hw [] aGE aLIKE aILIKE h50 n0 Z50 f151 f152 (Fld.ne OGE OLIKE (by decide)) (Fld.ne OGE OILIKE (by decide))) hZ (hw _ (List.mem_of_getElem? (i := 24) rfl)) (hw _ (List.mem_of_getElem? (i := 3) rfl)) (by decide) (by decide)) q153a q153c (g := (mkF m 79 #[.val (.int p1), .val (.ref b2), .val (.int (5 : Int32)), .val (.ref aGE), .val (.int (0 : Int32)), .unset, .unset] [(.ref aGE)])) rfl (by rw [hml]; rfl) (Steps.refl _) (argsL := []) (rest := []) (lenOf own_pd0 rfl) rfl (by show 2 * 0 + _ ≤ _; exact Nat.le_of_eq rfl) (hb hby at_79) (fun _ _ => ⟨rfl, e50, (by decide : 1 + 0 ≤ _), (by decide : 8 + 0 ≤ _)⟩)
    dsimp only [Pt.U, Pt.locs, Pt.cells, Pt.slots] at X153 l153 y153 z153 st153 hQ153
    subst l153 y153 z153
    obtain ⟨rfl, Nq153, eq153⟩ := hQ153
    have N153 := Fr.app N50 Nq153
    have R153 : ∀ t, Steps p.tables e below (T153.setTop (mkF m 82 #[.val (.int p1), .val (.ref b2), .val (.int (5 : Int32)), .val (.ref aGE), .val (.int (0 : Int32)), .unset, .unset] [(.int (0 : Int32))])) t → Steps p.tables e below (s₁.setTop (entryFrame m #[(.int p1)] maxLocals)) t := fun t k => R150 t (st153.trans k)
    have R155 : ∀ t, Steps p.tables e below (T153.setTop (mkF m 85 #[.val (.int p1), .val (.ref b2), .val (.int (5 : Int32)), .val (.ref aGE), .val (.int (0 : Int32)), .val (.int (0 : Int32)), .unset] [(.ref aGE)])) t → Steps p.tables e below (s₁.setTop (entryFrame m #[(.int p1)] maxLocals)) t := by
      intro t k
      refine R153 t ?_
      show Steps p.tables e below (T153.setTop (mkF m 82 #[.val (.int p1), .val (.ref b2), .val (.int (5 : Int32)), .val (.ref aGE), .val (.int (0 : Int32)), .unset, .unset] [(.int (0 : Int32))])) _
      refine XS.istore X153.here hx rfl (hb hby at_82) rfl (l' := #[.val (.int p1), .val (.ref b2), .val (.int (5 : Int32)), .val (.ref aGE), .val (.int (0 : Int32)), .val (.int (0 : Int32)), .unset]) rfl ?_
      show Steps p.tables e below (T153.setTop (mkF m 84 #[.val (.int p1), .val (.ref b2), .val (.int (5 : Int32)), .val (.ref aGE), .val (.int (0 : Int32)), .val (.int (0 : Int32)), .unset] [])) _
      refine XS.aloadN X153.here hx rfl (hb hby at_84) rfl rfl ?_
      exact k
    have f156 : Fld s h50 aGE "com/example/firm_store/firmstore/Operator" "sql" "Ljava/lang/String;" (.ref sGE) := QGE.keep K50 nin0
    obtain ⟨cq157, kq157, q157a, q157b, q157c⟩ := isOf hZ eq153 f154
    obtain ⟨_, _, ⟨T157, L157, k157, n157⟩, -, X157, ⟨Lc157, hQ157, l157, y157, z157⟩, st157⟩ := X153.virtualBack hx (y := (⟨"com/example/firm_store/firmstore/Operator", "sql", "()Ljava/lang/String;"⟩ : MethodName)) (z := (⟨"com/example/firm_store/firmstore/Operator", "sql", "()Ljava/lang/String;"⟩ : MethodName)) hown (mvT hZ (hw _ (List.mem_of_getElem? (i := 27) rfl))) (mvT hZ (hw _ (List.mem_of_getElem? (i := 28) rfl))) (notFace_of_selects (args := #[]) (mvT hZ (hw _ (List.mem_of_getElem? (i := 30) rfl)))) (mvT hZ (hw _ (List.mem_of_getElem? (i := 30) rfl))) (mvT hZ (hw _ (List.mem_of_getElem? (i := 29) rfl))) (by decide) (backOf (W := 0) (rmSql l s a0 hw [] aGE sGE h50 n0 Z50 f156) hZ (hw _ (List.mem_of_getElem? (i := 31) rfl)) (hw _ (List.mem_of_getElem? (i := 3) rfl)) (by decide) (by decide)) q157a q157c (g := (mkF m 85 #[.val (.int p1), .val (.ref b2), .val (.int (5 : Int32)), .val (.ref aGE), .val (.int (0 : Int32)), .val (.int (0 : Int32)), .unset] [(.ref aGE)])) rfl (by rw [hml]; rfl) (Steps.refl _) (argsL := []) (rest := []) (lenOf own_pd1 rfl) rfl (by show 2 * 0 + _ ≤ _; exact Nat.le_of_eq rfl) (hb hby at_85) (fun _ _ => ⟨rfl, eq153, (by decide : 1 + 0 ≤ _), (by decide : 8 + 0 ≤ _)⟩)
    dsimp only [Pt.U, Pt.locs, Pt.cells, Pt.slots] at X157 l157 y157 z157 st157 hQ157
    subst l157 y157 z157
    obtain ⟨rfl, Nq157, eq157⟩ := hQ157
    have N157 := Fr.app N153 Nq157
    have R157 : ∀ t, Steps p.tables e below (T157.setTop (mkF m 88 #[.val (.int p1), .val (.ref b2), .val (.int (5 : Int32)), .val (.ref aGE), .val (.int (0 : Int32)), .val (.int (0 : Int32)), .unset] [(.ref sGE)])) t → Steps p.tables e below (s₁.setTop (entryFrame m #[(.int p1)] maxLocals)) t := fun t k => R155 t (st157.trans k)
    have Nn := own_frn (n := s.heap.size) (by rw [hh]; exact hn0) N157
    obtain ⟨lit, T158, h158, ki158, lb, lk, X158, e158, E158, hS, hki, hZ', hown', litE, litC, litF, litV, litL, lbL, -, st158⟩ := ldcSV (s := s) (vm0 := s.vm) (Ts := []) X157 hx hZ hown (hw _ (List.mem_of_getElem? (i := 34) rfl)) (own_atoms hw) eq157 (State.WarmedH.since (State.WarmedH.refl s) _) (Nat.zero_le _ : 0 ≤ _) Nn (fun b cl q => q) IB.start (by decide) hheld hcw (vs := [(.int (108 : Int32)), (.int (105 : Int32)), (.int (107 : Int32)), (.int (101 : Int32))]) (z := (4 : Int32)) ⟨by decide, rfl⟩ (by decide) rfl (g := (mkF m 88 #[.val (.int p1), .val (.ref b2), .val (.int (5 : Int32)), .val (.ref aGE), .val (.int (0 : Int32)), .val (.int (0 : Int32)), .unset] [(.ref sGE)])) rfl (hb hby at_88) (n := 16) (by decide) (by decide) (by decide) (by decide)
    have R158 : ∀ t, Steps p.tables e below (T158.setTop (mkF m 90 #[.val (.int p1), .val (.ref b2), .val (.int (5 : Int32)), .val (.ref aGE), .val (.int (0 : Int32)), .val (.int (0 : Int32)), .unset] [(.ref lit), (.ref sGE)])) t → Steps p.tables e below (s₁.setTop (entryFrame m #[(.int p1)] maxLocals)) t := fun t k => R157 t (st158 t k)
    have Z158 : n0 ≤ h158.size := Nat.le_trans Z50 E158.1
    have K158 : Keep h0 h158 [] := K50.ext E158
    have hZ := hZ'
    have hown := hown'
    have f159 : Exa s h158 sGE "java/lang/String" := TGE.keep K158
    have f160 : Fld s h158 sGE "java/lang/String" "coder" "B" (.int (0 : Int32)) := CGE.keep K158 nin0
    have f161 : Fld s h158 sGE "java/lang/String" "value" "[B" (.ref vGE) := FGE.keep K158 nin0
    have f162 : Arv s h158 vGE kGE .byte (2 : Int32) [(.int (62 : Int32)), (.int (61 : Int32))] (.int (0 : Int32)) := VGE.keep K158 nin0
    have f163 : Sta s h158 "java/lang/String" "COMPACT_STRINGS" "Z" (.int cz) := own_sta_keep SC K158
    have nv : vGE ≠ lb := arv_ne f162 litV (Or.inl (by decide))
    have ns : sGE ≠ lit := Fld.ne f161 litF (fun e => nv (Value.ref.inj e))
    obtain ⟨cq164, kq164, q164a, q164b, q164c⟩ := isOf hZ e158 f159
    obtain ⟨_, _, ⟨T164, L164, k164, n164⟩, -, X164, ⟨Lc164, hQ164, l164, y164, z164⟩, st164⟩ := X158.virtualBack hx (y := (⟨"java/lang/String", "equals", "(Ljava/lang/Object;)Z"⟩ : MethodName)) (z := (⟨"java/lang/String", "equals", "(Ljava/lang/Object;)Z"⟩ : MethodName)) hown (mvT hZ (hw _ (List.mem_of_getElem? (i := 42) rfl))) (mvT hZ (hw _ (List.mem_of_getElem? (i := 43) rfl))) (notFace_of_selects (args := #[]) (mvT hZ (hw _ (List.mem_of_getElem? (i := 45) rfl)))) (mvT hZ (hw _ (List.mem_of_getElem? (i := 45) rfl))) (mvT hZ (hw _ (List.mem_of_getElem? (i := 44) rfl))) (by decide) (backOf (W := 0) (rmED l s a0 hw [] sGE lit vGE lb cz kGE lk (2 : Int32) (4 : Int32) [(.int (62 : Int32)), (.int (61 : Int32))] [(.int (108 : Int32)), (.int (105 : Int32)), (.int (107 : Int32)), (.int (101 : Int32))] h158 n0 Z158 ns hcz f163 litE f160 f161 litC litF f162 litV (by decide)) hZ (hw _ (List.mem_of_getElem? (i := 46) rfl)) (hw _ (List.mem_of_getElem? (i := 35) rfl)) (by decide) (by decide)) q164a q164c (g := (mkF m 90 #[.val (.int p1), .val (.ref b2), .val (.int (5 : Int32)), .val (.ref aGE), .val (.int (0 : Int32)), .val (.int (0 : Int32)), .unset] [(.ref lit), (.ref sGE)])) rfl (by rw [hml]; rfl) (Steps.refl _) (argsL := [(.ref lit)]) (rest := []) (lenOf own_pd2 rfl) rfl (by show 2 * 0 + _ ≤ _; exact Nat.le_of_eq rfl) (hb hby at_90) (fun _ _ => ⟨rfl, e158, (by decide : 3 + 0 ≤ _), (by decide : 28 + 0 ≤ _)⟩)
    dsimp only [Pt.U, Pt.locs, Pt.cells, Pt.slots] at X164 l164 y164 z164 st164 hQ164
    subst l164 y164 z164
    obtain ⟨rfl, Nq164, eq164⟩ := hQ164
    have N164 := Fr.app N157 Nq164
    have R164 : ∀ t, Steps p.tables e below (T164.setTop (mkF m 93 #[.val (.int p1), .val (.ref b2), .val (.int (5 : Int32)), .val (.ref aGE), .val (.int (0 : Int32)), .val (.int (0 : Int32)), .unset] [(.int (0 : Int32))])) t → Steps p.tables e below (s₁.setTop (entryFrame m #[(.int p1)] maxLocals)) t := fun t k => R158 t (st164.trans k)
    have R165 : ∀ t, Steps p.tables e below (T164.setTop (mkF m 114 #[.val (.int p1), .val (.ref b2), .val (.int (5 : Int32)), .val (.ref aGE), .val (.int (0 : Int32)), .val (.int (0 : Int32)), .val (.int (0 : Int32))] [(.int (1 : Int32))])) t → Steps p.tables e below (s₁.setTop (entryFrame m #[(.int p1)] maxLocals)) t := by
      intro t k
      refine R164 t ?_
      show Steps p.tables e below (T164.setTop (mkF m 93 #[.val (.int p1), .val (.ref b2), .val (.int (5 : Int32)), .val (.ref aGE), .val (.int (0 : Int32)), .val (.int (0 : Int32)), .unset] [(.int (0 : Int32))])) _
      refine XS.istore X164.here hx rfl (hb hby at_93) rfl (l' := #[.val (.int p1), .val (.ref b2), .val (.int (5 : Int32)), .val (.ref aGE), .val (.int (0 : Int32)), .val (.int (0 : Int32)), .val (.int (0 : Int32))]) rfl ?_
      show Steps p.tables e below (T164.setTop (mkF m 95 #[.val (.int p1), .val (.ref b2), .val (.int (5 : Int32)), .val (.ref aGE), .val (.int (0 : Int32)), .val (.int (0 : Int32)), .val (.int (0 : Int32))] [])) _
      refine XS.iload X164.here hx rfl (hb hby at_95) rfl ?_
      show Steps p.tables e below (T164.setTop (mkF m 97 #[.val (.int p1), .val (.ref b2), .val (.int (5 : Int32)), .val (.ref aGE), .val (.int (0 : Int32)), .val (.int (0 : Int32)), .val (.int (0 : Int32))] [(.int (0 : Int32))])) _
      refine XS.iload X164.here hx rfl (hb hby at_97) rfl ?_
      show Steps p.tables e below (T164.setTop (mkF m 99 #[.val (.int p1), .val (.ref b2), .val (.int (5 : Int32)), .val (.ref aGE), .val (.int (0 : Int32)), .val (.int (0 : Int32)), .val (.int (0 : Int32))] [(.int (0 : Int32)), (.int (0 : Int32))])) _
      refine XS.icmpNo X164.here hx rfl (hb hby at_99) rfl (teq (by decide : ((0 : Int32) = (0 : Int32)))).2 ?_
      show Steps p.tables e below (T164.setTop (mkF m 102 #[.val (.int p1), .val (.ref b2), .val (.int (5 : Int32)), .val (.ref aGE), .val (.int (0 : Int32)), .val (.int (0 : Int32)), .val (.int (0 : Int32))] [])) _
      refine XS.iload X164.here hx rfl (hb hby at_102) rfl ?_
      show Steps p.tables e below (T164.setTop (mkF m 104 #[.val (.int p1), .val (.ref b2), .val (.int (5 : Int32)), .val (.ref aGE), .val (.int (0 : Int32)), .val (.int (0 : Int32)), .val (.int (0 : Int32))] [(.int (0 : Int32))])) _
      refine XS.iload X164.here hx rfl (hb hby at_104) rfl ?_
      show Steps p.tables e below (T164.setTop (mkF m 106 #[.val (.int p1), .val (.ref b2), .val (.int (5 : Int32)), .val (.ref aGE), .val (.int (0 : Int32)), .val (.int (0 : Int32)), .val (.int (0 : Int32))] [(.int (0 : Int32)), (.int (0 : Int32))])) _
      refine XS.icmpNo X164.here hx rfl (hb hby at_106) rfl (teq (by decide : ((0 : Int32) = (0 : Int32)))).2 ?_
      show Steps p.tables e below (T164.setTop (mkF m 109 #[.val (.int p1), .val (.ref b2), .val (.int (5 : Int32)), .val (.ref aGE), .val (.int (0 : Int32)), .val (.int (0 : Int32)), .val (.int (0 : Int32))] [])) _
      refine XS.iconst X164.here hx rfl (hb hby at_109) ?_
      show Steps p.tables e below (T164.setTop (mkF m 110 #[.val (.int p1), .val (.ref b2), .val (.int (5 : Int32)), .val (.ref aGE), .val (.int (0 : Int32)), .val (.int (0 : Int32)), .val (.int (0 : Int32))] [(.int (1 : Int32))])) _
      refine XS.goto X164.here hx rfl (pc0 := 110) (pc' := 114) rfl (hb hby at_110) (by decide) (by decide) ?_
      exact k
    obtain ⟨fs, hr, hrun, hended, hEnd⟩ := X164.leaveW hS (Nat.le_trans hki (Nat.le_of_eq (by rw [eq164]))) (v := some (.int (1 : Int32))) (fun h => by rw [Bd.returns] at h; cases h)
    refine ⟨_, _, R165 _ ?_, hrun, hended, _, _, rfl, ⟨rfl, N164⟩, own_endMono hEnd (by decide) (by decide)⟩
    exact retN X164 hx (t := .boolean) Bd.returns (by simp) (hb hby at_114) hr
  · have R166 : ∀ t, Steps p.tables e below (T50.setTop (mkF m 61 #[.val (.int p1), .val (.ref b2), .val (.int (6 : Int32)), .unset, .unset, .unset, .unset] [])) t → Steps p.tables e below (s₁.setTop (entryFrame m #[(.int p1)] maxLocals)) t := by rw [(hk : (p1 &&& (7 : Int32)) = (6 : Int32))] at R51; exact R51
    have R167 : ∀ t, Steps p.tables e below (T50.setTop (mkF m 63 #[.val (.int p1), .val (.ref b2), .val (.int (6 : Int32)), .unset, .unset, .unset, .unset] [(.int (6 : Int32)), (.ref b2)])) t → Steps p.tables e below (s₁.setTop (entryFrame m #[(.int p1)] maxLocals)) t := by
      intro t k
      refine R166 t ?_
      show Steps p.tables e below (T50.setTop (mkF m 61 #[.val (.int p1), .val (.ref b2), .val (.int (6 : Int32)), .unset, .unset, .unset, .unset] [])) _
      refine XS.aloadN X50.here hx rfl (hb hby at_61) rfl rfl ?_
      show Steps p.tables e below (T50.setTop (mkF m 62 #[.val (.int p1), .val (.ref b2), .val (.int (6 : Int32)), .unset, .unset, .unset, .unset] [(.ref b2)])) _
      refine XS.iloadN X50.here hx rfl (hb hby at_62) rfl ?_
      exact k
    obtain ⟨cl168, Ar168, q168, S168, N168', H168, G168⟩ := id V50
    have hin168_6 : ¬ ((6 : Int32) < 0 ∨ cl168.slots.size ≤ ((6 : Int32)).toNatClampNeg) := inb_of S168 ⟨by decide, by decide⟩
    have hat168_6 : cl168.slots[((6 : Int32)).toNatClampNeg]? = some (.ref aLIKE) := H168.at hin168_6 rfl
    have R169 : ∀ t, Steps p.tables e below (T50.setTop (mkF m 79 #[.val (.int p1), .val (.ref b2), .val (.int (6 : Int32)), .val (.ref aLIKE), .val (.int (1 : Int32)), .unset, .unset] [(.ref aLIKE)])) t → Steps p.tables e below (s₁.setTop (entryFrame m #[(.int p1)] maxLocals)) t := by
      intro t k
      refine R167 t ?_
      show Steps p.tables e below (T50.setTop (mkF m 63 #[.val (.int p1), .val (.ref b2), .val (.int (6 : Int32)), .unset, .unset, .unset, .unset] [(.int (6 : Int32)), (.ref b2)])) _
      refine X50.aaload hx (j := (6 : Int32)) (v := (.ref aLIKE)) (by rw [e50]; exact Ar168.1) (State.isArrayOf_alike hZ.alike Ar168.2.1) rfl Ar168.2.2 hin168_6 hat168_6 (g := (mkF m 63 #[.val (.int p1), .val (.ref b2), .val (.int (6 : Int32)), .unset, .unset, .unset, .unset] [(.int (6 : Int32)), (.ref b2)])) rfl rfl (hb hby at_63) _ ?_
      show Steps p.tables e below (T50.setTop (mkF m 64 #[.val (.int p1), .val (.ref b2), .val (.int (6 : Int32)), .unset, .unset, .unset, .unset] [(.ref aLIKE)])) _
      refine XS.astoreN X50.here hx rfl (hb hby at_64) rfl rfl (l' := #[.val (.int p1), .val (.ref b2), .val (.int (6 : Int32)), .val (.ref aLIKE), .unset, .unset, .unset]) rfl ?_
      show Steps p.tables e below (T50.setTop (mkF m 65 #[.val (.int p1), .val (.ref b2), .val (.int (6 : Int32)), .val (.ref aLIKE), .unset, .unset, .unset] [])) _
      refine XS.iloadN X50.here hx rfl (hb hby at_65) rfl ?_
      show Steps p.tables e below (T50.setTop (mkF m 66 #[.val (.int p1), .val (.ref b2), .val (.int (6 : Int32)), .val (.ref aLIKE), .unset, .unset, .unset] [(.int (6 : Int32))])) _
      refine XS.bipush X50.here hx rfl (hb hby at_66) ?_
      show Steps p.tables e below (T50.setTop (mkF m 68 #[.val (.int p1), .val (.ref b2), .val (.int (6 : Int32)), .val (.ref aLIKE), .unset, .unset, .unset] [(.int (6 : Int32)), (.int (6 : Int32))])) _
      refine XS.icmpNo X50.here hx rfl (hb hby at_68) rfl (flt (by decide : ¬ ((6 : Int32) < (6 : Int32)))).1 ?_
      show Steps p.tables e below (T50.setTop (mkF m 71 #[.val (.int p1), .val (.ref b2), .val (.int (6 : Int32)), .val (.ref aLIKE), .unset, .unset, .unset] [])) _
      refine XS.iconst X50.here hx rfl (hb hby at_71) ?_
      show Steps p.tables e below (T50.setTop (mkF m 72 #[.val (.int p1), .val (.ref b2), .val (.int (6 : Int32)), .val (.ref aLIKE), .unset, .unset, .unset] [(.int (1 : Int32))])) _
      refine XS.goto X50.here hx rfl (pc0 := 72) (pc' := 76) rfl (hb hby at_72) (by decide) (by decide) ?_
      show Steps p.tables e below (T50.setTop (mkF m 76 #[.val (.int p1), .val (.ref b2), .val (.int (6 : Int32)), .val (.ref aLIKE), .unset, .unset, .unset] [(.int (1 : Int32))])) _
      refine XS.istore X50.here hx rfl (hb hby at_76) rfl (l' := #[.val (.int p1), .val (.ref b2), .val (.int (6 : Int32)), .val (.ref aLIKE), .val (.int (1 : Int32)), .unset, .unset]) rfl ?_
      show Steps p.tables e below (T50.setTop (mkF m 78 #[.val (.int p1), .val (.ref b2), .val (.int (6 : Int32)), .val (.ref aLIKE), .val (.int (1 : Int32)), .unset, .unset] [])) _
      refine XS.aloadN X50.here hx rfl (hb hby at_78) rfl rfl ?_
      exact k
    have f170 : Sta s h50 "com/example/firm_store/firmstore/Operator" "LIKE" "Lcom/example/firm_store/firmstore/Operator;" (.ref aLIKE) := own_sta_keep SLIKE K50
    have f171 : Sta s h50 "com/example/firm_store/firmstore/Operator" "ILIKE" "Lcom/example/firm_store/firmstore/Operator;" (.ref aILIKE) := own_sta_keep SILIKE K50
    have f173 : Exa s h50 aLIKE "com/example/firm_store/firmstore/Operator" := ELIKE.keep K50
    obtain ⟨cq172, kq172, q172a, q172b, q172c⟩ := isOf hZ e50 f173
    obtain ⟨_, _, ⟨T172, L172, k172, n172⟩, -, X172, ⟨Lc172, hQ172, l172, y172, z172⟩, st172⟩ := X50.virtualBack hx (y := (⟨"com/example/firm_store/firmstore/Operator", "isPattern", "()Z"⟩ : MethodName)) (z := (⟨"com/example/firm_store/firmstore/Operator", "isPattern", "()Z"⟩ : MethodName)) hown (mvT hZ (hw _ (List.mem_of_getElem? (i := 20) rfl))) (mvT hZ (hw _ (List.mem_of_getElem? (i := 21) rfl))) (notFace_of_selects (args := #[]) (mvT hZ (hw _ (List.mem_of_getElem? (i := 23) rfl)))) (mvT hZ (hw _ (List.mem_of_getElem? (i := 23) rfl))) (mvT hZ (hw _ (List.mem_of_getElem? (i := 22) rfl))) (by decide) (backOf (W := 0) (rmPL l s a0 hw [] aLIKE aILIKE h50 n0 Z50 f170 f171) hZ (hw _ (List.mem_of_getElem? (i := 24) rfl)) (hw _ (List.mem_of_getElem? (i := 3) rfl)) (by decide) (by decide)) q172a q172c (g := (mkF m 79 #[.val (.int p1), .val (.ref b2), .val (.int (6 : Int32)), .val (.ref aLIKE), .val (.int (1 : Int32)), .unset, .unset] [(.ref aLIKE)])) rfl (by rw [hml]; rfl) (Steps.refl _) (argsL := []) (rest := []) (lenOf own_pd0 rfl) rfl (by show 2 * 0 + _ ≤ _; exact Nat.le_of_eq rfl) (hb hby at_79) (fun _ _ => ⟨rfl, e50, (by decide : 1 + 0 ≤ _), (by decide : 8 + 0 ≤ _)⟩)
    dsimp only [Pt.U, Pt.locs, Pt.cells, Pt.slots] at X172 l172 y172 z172 st172 hQ172
    subst l172 y172 z172
    obtain ⟨rfl, Nq172, eq172⟩ := hQ172
    have N172 := Fr.app N50 Nq172
    have R172 : ∀ t, Steps p.tables e below (T172.setTop (mkF m 82 #[.val (.int p1), .val (.ref b2), .val (.int (6 : Int32)), .val (.ref aLIKE), .val (.int (1 : Int32)), .unset, .unset] [(.int (1 : Int32))])) t → Steps p.tables e below (s₁.setTop (entryFrame m #[(.int p1)] maxLocals)) t := fun t k => R169 t (st172.trans k)
    have R174 : ∀ t, Steps p.tables e below (T172.setTop (mkF m 85 #[.val (.int p1), .val (.ref b2), .val (.int (6 : Int32)), .val (.ref aLIKE), .val (.int (1 : Int32)), .val (.int (1 : Int32)), .unset] [(.ref aLIKE)])) t → Steps p.tables e below (s₁.setTop (entryFrame m #[(.int p1)] maxLocals)) t := by
      intro t k
      refine R172 t ?_
      show Steps p.tables e below (T172.setTop (mkF m 82 #[.val (.int p1), .val (.ref b2), .val (.int (6 : Int32)), .val (.ref aLIKE), .val (.int (1 : Int32)), .unset, .unset] [(.int (1 : Int32))])) _
      refine XS.istore X172.here hx rfl (hb hby at_82) rfl (l' := #[.val (.int p1), .val (.ref b2), .val (.int (6 : Int32)), .val (.ref aLIKE), .val (.int (1 : Int32)), .val (.int (1 : Int32)), .unset]) rfl ?_
      show Steps p.tables e below (T172.setTop (mkF m 84 #[.val (.int p1), .val (.ref b2), .val (.int (6 : Int32)), .val (.ref aLIKE), .val (.int (1 : Int32)), .val (.int (1 : Int32)), .unset] [])) _
      refine XS.aloadN X172.here hx rfl (hb hby at_84) rfl rfl ?_
      exact k
    have f175 : Fld s h50 aLIKE "com/example/firm_store/firmstore/Operator" "sql" "Ljava/lang/String;" (.ref sLIKE) := QLIKE.keep K50 nin0
    obtain ⟨cq176, kq176, q176a, q176b, q176c⟩ := isOf hZ eq172 f173
    obtain ⟨_, _, ⟨T176, L176, k176, n176⟩, -, X176, ⟨Lc176, hQ176, l176, y176, z176⟩, st176⟩ := X172.virtualBack hx (y := (⟨"com/example/firm_store/firmstore/Operator", "sql", "()Ljava/lang/String;"⟩ : MethodName)) (z := (⟨"com/example/firm_store/firmstore/Operator", "sql", "()Ljava/lang/String;"⟩ : MethodName)) hown (mvT hZ (hw _ (List.mem_of_getElem? (i := 27) rfl))) (mvT hZ (hw _ (List.mem_of_getElem? (i := 28) rfl))) (notFace_of_selects (args := #[]) (mvT hZ (hw _ (List.mem_of_getElem? (i := 30) rfl)))) (mvT hZ (hw _ (List.mem_of_getElem? (i := 30) rfl))) (mvT hZ (hw _ (List.mem_of_getElem? (i := 29) rfl))) (by decide) (backOf (W := 0) (rmSql l s a0 hw [] aLIKE sLIKE h50 n0 Z50 f175) hZ (hw _ (List.mem_of_getElem? (i := 31) rfl)) (hw _ (List.mem_of_getElem? (i := 3) rfl)) (by decide) (by decide)) q176a q176c (g := (mkF m 85 #[.val (.int p1), .val (.ref b2), .val (.int (6 : Int32)), .val (.ref aLIKE), .val (.int (1 : Int32)), .val (.int (1 : Int32)), .unset] [(.ref aLIKE)])) rfl (by rw [hml]; rfl) (Steps.refl _) (argsL := []) (rest := []) (lenOf own_pd1 rfl) rfl (by show 2 * 0 + _ ≤ _; exact Nat.le_of_eq rfl) (hb hby at_85) (fun _ _ => ⟨rfl, eq172, (by decide : 1 + 0 ≤ _), (by decide : 8 + 0 ≤ _)⟩)
    dsimp only [Pt.U, Pt.locs, Pt.cells, Pt.slots] at X176 l176 y176 z176 st176 hQ176
    subst l176 y176 z176
    obtain ⟨rfl, Nq176, eq176⟩ := hQ176
    have N176 := Fr.app N172 Nq176
    have R176 : ∀ t, Steps p.tables e below (T176.setTop (mkF m 88 #[.val (.int p1), .val (.ref b2), .val (.int (6 : Int32)), .val (.ref aLIKE), .val (.int (1 : Int32)), .val (.int (1 : Int32)), .unset] [(.ref sLIKE)])) t → Steps p.tables e below (s₁.setTop (entryFrame m #[(.int p1)] maxLocals)) t := fun t k => R174 t (st176.trans k)
    have Nn := own_frn (n := s.heap.size) (by rw [hh]; exact hn0) N176
    obtain ⟨lit, T177, h177, ki177, lb, lk, X177, e177, E177, hS, hki, hZ', hown', litE, litC, litF, litV, litL, lbL, -, st177⟩ := ldcSV (s := s) (vm0 := s.vm) (Ts := []) X176 hx hZ hown (hw _ (List.mem_of_getElem? (i := 34) rfl)) (own_atoms hw) eq176 (State.WarmedH.since (State.WarmedH.refl s) _) (Nat.zero_le _ : 0 ≤ _) Nn (fun b cl q => q) IB.start (by decide) hheld hcw (vs := [(.int (108 : Int32)), (.int (105 : Int32)), (.int (107 : Int32)), (.int (101 : Int32))]) (z := (4 : Int32)) ⟨by decide, rfl⟩ (by decide) rfl (g := (mkF m 88 #[.val (.int p1), .val (.ref b2), .val (.int (6 : Int32)), .val (.ref aLIKE), .val (.int (1 : Int32)), .val (.int (1 : Int32)), .unset] [(.ref sLIKE)])) rfl (hb hby at_88) (n := 16) (by decide) (by decide) (by decide) (by decide)
    have R177 : ∀ t, Steps p.tables e below (T177.setTop (mkF m 90 #[.val (.int p1), .val (.ref b2), .val (.int (6 : Int32)), .val (.ref aLIKE), .val (.int (1 : Int32)), .val (.int (1 : Int32)), .unset] [(.ref lit), (.ref sLIKE)])) t → Steps p.tables e below (s₁.setTop (entryFrame m #[(.int p1)] maxLocals)) t := fun t k => R176 t (st177 t k)
    have Z177 : n0 ≤ h177.size := Nat.le_trans Z50 E177.1
    have K177 : Keep h0 h177 [] := K50.ext E177
    have hZ := hZ'
    have hown := hown'
    have f178 : Exa s h177 sLIKE "java/lang/String" := TLIKE.keep K177
    have f179 : Fld s h177 sLIKE "java/lang/String" "coder" "B" (.int (0 : Int32)) := CLIKE.keep K177 nin0
    have f180 : Fld s h177 sLIKE "java/lang/String" "value" "[B" (.ref vLIKE) := FLIKE.keep K177 nin0
    have f181 : Arv s h177 vLIKE kLIKE .byte (4 : Int32) [(.int (108 : Int32)), (.int (105 : Int32)), (.int (107 : Int32)), (.int (101 : Int32))] (.int (0 : Int32)) := VLIKE.keep K177 nin0
    have f182 : Sta s h177 "java/lang/String" "COMPACT_STRINGS" "Z" (.int cz) := own_sta_keep SC K177
    by_cases hs : lit = sLIKE
    · have R183 : ∀ t, Steps p.tables e below (T177.setTop (mkF m 90 #[.val (.int p1), .val (.ref b2), .val (.int (6 : Int32)), .val (.ref aLIKE), .val (.int (1 : Int32)), .val (.int (1 : Int32)), .unset] [(.ref sLIKE), (.ref sLIKE)])) t → Steps p.tables e below (s₁.setTop (entryFrame m #[(.int p1)] maxLocals)) t := by rw [(hs : lit = sLIKE)] at R177; exact R177
      obtain ⟨cq184, kq184, q184a, q184b, q184c⟩ := isOf hZ e177 f178
      obtain ⟨_, _, ⟨T184, L184, k184, n184⟩, -, X184, ⟨Lc184, hQ184, l184, y184, z184⟩, st184⟩ := X177.virtualBack hx (y := (⟨"java/lang/String", "equals", "(Ljava/lang/Object;)Z"⟩ : MethodName)) (z := (⟨"java/lang/String", "equals", "(Ljava/lang/Object;)Z"⟩ : MethodName)) hown (mvT hZ (hw _ (List.mem_of_getElem? (i := 42) rfl))) (mvT hZ (hw _ (List.mem_of_getElem? (i := 43) rfl))) (notFace_of_selects (args := #[]) (mvT hZ (hw _ (List.mem_of_getElem? (i := 45) rfl)))) (mvT hZ (hw _ (List.mem_of_getElem? (i := 45) rfl))) (mvT hZ (hw _ (List.mem_of_getElem? (i := 44) rfl))) (by decide) (backOf (W := 0) (rmES l s a0 hw [] sLIKE h177 n0 Z177) hZ (hw _ (List.mem_of_getElem? (i := 46) rfl)) (hw _ (List.mem_of_getElem? (i := 35) rfl)) (by decide) (by decide)) q184a q184c (g := (mkF m 90 #[.val (.int p1), .val (.ref b2), .val (.int (6 : Int32)), .val (.ref aLIKE), .val (.int (1 : Int32)), .val (.int (1 : Int32)), .unset] [(.ref sLIKE), (.ref sLIKE)])) rfl (by rw [hml]; rfl) (Steps.refl _) (argsL := [(.ref sLIKE)]) (rest := []) (lenOf own_pd2 rfl) rfl (by show 2 * 0 + _ ≤ _; exact Nat.le_of_eq rfl) (hb hby at_90) (fun _ _ => ⟨rfl, e177, (by decide : 3 + 0 ≤ _), (by decide : 28 + 0 ≤ _)⟩)
      dsimp only [Pt.U, Pt.locs, Pt.cells, Pt.slots] at X184 l184 y184 z184 st184 hQ184
      subst l184 y184 z184
      obtain ⟨rfl, Nq184, eq184⟩ := hQ184
      have N184 := Fr.app N176 Nq184
      have R184 : ∀ t, Steps p.tables e below (T184.setTop (mkF m 93 #[.val (.int p1), .val (.ref b2), .val (.int (6 : Int32)), .val (.ref aLIKE), .val (.int (1 : Int32)), .val (.int (1 : Int32)), .unset] [(.int (1 : Int32))])) t → Steps p.tables e below (s₁.setTop (entryFrame m #[(.int p1)] maxLocals)) t := fun t k => R183 t (st184.trans k)
      have R185 : ∀ t, Steps p.tables e below (T184.setTop (mkF m 114 #[.val (.int p1), .val (.ref b2), .val (.int (6 : Int32)), .val (.ref aLIKE), .val (.int (1 : Int32)), .val (.int (1 : Int32)), .val (.int (1 : Int32))] [(.int (1 : Int32))])) t → Steps p.tables e below (s₁.setTop (entryFrame m #[(.int p1)] maxLocals)) t := by
        intro t k
        refine R184 t ?_
        show Steps p.tables e below (T184.setTop (mkF m 93 #[.val (.int p1), .val (.ref b2), .val (.int (6 : Int32)), .val (.ref aLIKE), .val (.int (1 : Int32)), .val (.int (1 : Int32)), .unset] [(.int (1 : Int32))])) _
        refine XS.istore X184.here hx rfl (hb hby at_93) rfl (l' := #[.val (.int p1), .val (.ref b2), .val (.int (6 : Int32)), .val (.ref aLIKE), .val (.int (1 : Int32)), .val (.int (1 : Int32)), .val (.int (1 : Int32))]) rfl ?_
        show Steps p.tables e below (T184.setTop (mkF m 95 #[.val (.int p1), .val (.ref b2), .val (.int (6 : Int32)), .val (.ref aLIKE), .val (.int (1 : Int32)), .val (.int (1 : Int32)), .val (.int (1 : Int32))] [])) _
        refine XS.iload X184.here hx rfl (hb hby at_95) rfl ?_
        show Steps p.tables e below (T184.setTop (mkF m 97 #[.val (.int p1), .val (.ref b2), .val (.int (6 : Int32)), .val (.ref aLIKE), .val (.int (1 : Int32)), .val (.int (1 : Int32)), .val (.int (1 : Int32))] [(.int (1 : Int32))])) _
        refine XS.iload X184.here hx rfl (hb hby at_97) rfl ?_
        show Steps p.tables e below (T184.setTop (mkF m 99 #[.val (.int p1), .val (.ref b2), .val (.int (6 : Int32)), .val (.ref aLIKE), .val (.int (1 : Int32)), .val (.int (1 : Int32)), .val (.int (1 : Int32))] [(.int (1 : Int32)), (.int (1 : Int32))])) _
        refine XS.icmpNo X184.here hx rfl (hb hby at_99) rfl (teq (by decide : ((1 : Int32) = (1 : Int32)))).2 ?_
        show Steps p.tables e below (T184.setTop (mkF m 102 #[.val (.int p1), .val (.ref b2), .val (.int (6 : Int32)), .val (.ref aLIKE), .val (.int (1 : Int32)), .val (.int (1 : Int32)), .val (.int (1 : Int32))] [])) _
        refine XS.iload X184.here hx rfl (hb hby at_102) rfl ?_
        show Steps p.tables e below (T184.setTop (mkF m 104 #[.val (.int p1), .val (.ref b2), .val (.int (6 : Int32)), .val (.ref aLIKE), .val (.int (1 : Int32)), .val (.int (1 : Int32)), .val (.int (1 : Int32))] [(.int (1 : Int32))])) _
        refine XS.iload X184.here hx rfl (hb hby at_104) rfl ?_
        show Steps p.tables e below (T184.setTop (mkF m 106 #[.val (.int p1), .val (.ref b2), .val (.int (6 : Int32)), .val (.ref aLIKE), .val (.int (1 : Int32)), .val (.int (1 : Int32)), .val (.int (1 : Int32))] [(.int (1 : Int32)), (.int (1 : Int32))])) _
        refine XS.icmpNo X184.here hx rfl (hb hby at_106) rfl (teq (by decide : ((1 : Int32) = (1 : Int32)))).2 ?_
        show Steps p.tables e below (T184.setTop (mkF m 109 #[.val (.int p1), .val (.ref b2), .val (.int (6 : Int32)), .val (.ref aLIKE), .val (.int (1 : Int32)), .val (.int (1 : Int32)), .val (.int (1 : Int32))] [])) _
        refine XS.iconst X184.here hx rfl (hb hby at_109) ?_
        show Steps p.tables e below (T184.setTop (mkF m 110 #[.val (.int p1), .val (.ref b2), .val (.int (6 : Int32)), .val (.ref aLIKE), .val (.int (1 : Int32)), .val (.int (1 : Int32)), .val (.int (1 : Int32))] [(.int (1 : Int32))])) _
        refine XS.goto X184.here hx rfl (pc0 := 110) (pc' := 114) rfl (hb hby at_110) (by decide) (by decide) ?_
        exact k
      obtain ⟨fs, hr, hrun, hended, hEnd⟩ := X184.leaveW hS (Nat.le_trans hki (Nat.le_of_eq (by rw [eq184]))) (v := some (.int (1 : Int32))) (fun h => by rw [Bd.returns] at h; cases h)
      refine ⟨_, _, R185 _ ?_, hrun, hended, _, _, rfl, ⟨rfl, N184⟩, own_endMono hEnd (by decide) (by decide)⟩
      exact retN X184 hx (t := .boolean) Bd.returns (by simp) (hb hby at_114) hr
    · obtain ⟨cq186, kq186, q186a, q186b, q186c⟩ := isOf hZ e177 f178
      obtain ⟨_, _, ⟨T186, L186, k186, n186⟩, -, X186, ⟨Lc186, hQ186, l186, y186, z186⟩, st186⟩ := X177.virtualBack hx (y := (⟨"java/lang/String", "equals", "(Ljava/lang/Object;)Z"⟩ : MethodName)) (z := (⟨"java/lang/String", "equals", "(Ljava/lang/Object;)Z"⟩ : MethodName)) hown (mvT hZ (hw _ (List.mem_of_getElem? (i := 42) rfl))) (mvT hZ (hw _ (List.mem_of_getElem? (i := 43) rfl))) (notFace_of_selects (args := #[]) (mvT hZ (hw _ (List.mem_of_getElem? (i := 45) rfl)))) (mvT hZ (hw _ (List.mem_of_getElem? (i := 45) rfl))) (mvT hZ (hw _ (List.mem_of_getElem? (i := 44) rfl))) (by decide) (backOf (W := 0) (rmEE l s a0 hw [] sLIKE lit vLIKE lb cz kLIKE lk h177 n0 Z177 (Ne.symm hs) hcz f182 litE f179 f180 litC litF f181 litV) hZ (hw _ (List.mem_of_getElem? (i := 46) rfl)) (hw _ (List.mem_of_getElem? (i := 35) rfl)) (by decide) (by decide)) q186a q186c (g := (mkF m 90 #[.val (.int p1), .val (.ref b2), .val (.int (6 : Int32)), .val (.ref aLIKE), .val (.int (1 : Int32)), .val (.int (1 : Int32)), .unset] [(.ref lit), (.ref sLIKE)])) rfl (by rw [hml]; rfl) (Steps.refl _) (argsL := [(.ref lit)]) (rest := []) (lenOf own_pd2 rfl) rfl (by show 2 * 0 + _ ≤ _; exact Nat.le_of_eq rfl) (hb hby at_90) (fun _ _ => ⟨rfl, e177, (by decide : 3 + 0 ≤ _), (by decide : 28 + 0 ≤ _)⟩)
      dsimp only [Pt.U, Pt.locs, Pt.cells, Pt.slots] at X186 l186 y186 z186 st186 hQ186
      subst l186 y186 z186
      obtain ⟨rfl, Nq186, eq186⟩ := hQ186
      have N186 := Fr.app N176 Nq186
      have R186 : ∀ t, Steps p.tables e below (T186.setTop (mkF m 93 #[.val (.int p1), .val (.ref b2), .val (.int (6 : Int32)), .val (.ref aLIKE), .val (.int (1 : Int32)), .val (.int (1 : Int32)), .unset] [(.int (1 : Int32))])) t → Steps p.tables e below (s₁.setTop (entryFrame m #[(.int p1)] maxLocals)) t := fun t k => R177 t (st186.trans k)
      have R187 : ∀ t, Steps p.tables e below (T186.setTop (mkF m 114 #[.val (.int p1), .val (.ref b2), .val (.int (6 : Int32)), .val (.ref aLIKE), .val (.int (1 : Int32)), .val (.int (1 : Int32)), .val (.int (1 : Int32))] [(.int (1 : Int32))])) t → Steps p.tables e below (s₁.setTop (entryFrame m #[(.int p1)] maxLocals)) t := by
        intro t k
        refine R186 t ?_
        show Steps p.tables e below (T186.setTop (mkF m 93 #[.val (.int p1), .val (.ref b2), .val (.int (6 : Int32)), .val (.ref aLIKE), .val (.int (1 : Int32)), .val (.int (1 : Int32)), .unset] [(.int (1 : Int32))])) _
        refine XS.istore X186.here hx rfl (hb hby at_93) rfl (l' := #[.val (.int p1), .val (.ref b2), .val (.int (6 : Int32)), .val (.ref aLIKE), .val (.int (1 : Int32)), .val (.int (1 : Int32)), .val (.int (1 : Int32))]) rfl ?_
        show Steps p.tables e below (T186.setTop (mkF m 95 #[.val (.int p1), .val (.ref b2), .val (.int (6 : Int32)), .val (.ref aLIKE), .val (.int (1 : Int32)), .val (.int (1 : Int32)), .val (.int (1 : Int32))] [])) _
        refine XS.iload X186.here hx rfl (hb hby at_95) rfl ?_
        show Steps p.tables e below (T186.setTop (mkF m 97 #[.val (.int p1), .val (.ref b2), .val (.int (6 : Int32)), .val (.ref aLIKE), .val (.int (1 : Int32)), .val (.int (1 : Int32)), .val (.int (1 : Int32))] [(.int (1 : Int32))])) _
        refine XS.iload X186.here hx rfl (hb hby at_97) rfl ?_
        show Steps p.tables e below (T186.setTop (mkF m 99 #[.val (.int p1), .val (.ref b2), .val (.int (6 : Int32)), .val (.ref aLIKE), .val (.int (1 : Int32)), .val (.int (1 : Int32)), .val (.int (1 : Int32))] [(.int (1 : Int32)), (.int (1 : Int32))])) _
        refine XS.icmpNo X186.here hx rfl (hb hby at_99) rfl (teq (by decide : ((1 : Int32) = (1 : Int32)))).2 ?_
        show Steps p.tables e below (T186.setTop (mkF m 102 #[.val (.int p1), .val (.ref b2), .val (.int (6 : Int32)), .val (.ref aLIKE), .val (.int (1 : Int32)), .val (.int (1 : Int32)), .val (.int (1 : Int32))] [])) _
        refine XS.iload X186.here hx rfl (hb hby at_102) rfl ?_
        show Steps p.tables e below (T186.setTop (mkF m 104 #[.val (.int p1), .val (.ref b2), .val (.int (6 : Int32)), .val (.ref aLIKE), .val (.int (1 : Int32)), .val (.int (1 : Int32)), .val (.int (1 : Int32))] [(.int (1 : Int32))])) _
        refine XS.iload X186.here hx rfl (hb hby at_104) rfl ?_
        show Steps p.tables e below (T186.setTop (mkF m 106 #[.val (.int p1), .val (.ref b2), .val (.int (6 : Int32)), .val (.ref aLIKE), .val (.int (1 : Int32)), .val (.int (1 : Int32)), .val (.int (1 : Int32))] [(.int (1 : Int32)), (.int (1 : Int32))])) _
        refine XS.icmpNo X186.here hx rfl (hb hby at_106) rfl (teq (by decide : ((1 : Int32) = (1 : Int32)))).2 ?_
        show Steps p.tables e below (T186.setTop (mkF m 109 #[.val (.int p1), .val (.ref b2), .val (.int (6 : Int32)), .val (.ref aLIKE), .val (.int (1 : Int32)), .val (.int (1 : Int32)), .val (.int (1 : Int32))] [])) _
        refine XS.iconst X186.here hx rfl (hb hby at_109) ?_
        show Steps p.tables e below (T186.setTop (mkF m 110 #[.val (.int p1), .val (.ref b2), .val (.int (6 : Int32)), .val (.ref aLIKE), .val (.int (1 : Int32)), .val (.int (1 : Int32)), .val (.int (1 : Int32))] [(.int (1 : Int32))])) _
        refine XS.goto X186.here hx rfl (pc0 := 110) (pc' := 114) rfl (hb hby at_110) (by decide) (by decide) ?_
        exact k
      obtain ⟨fs, hr, hrun, hended, hEnd⟩ := X186.leaveW hS (Nat.le_trans hki (Nat.le_of_eq (by rw [eq186]))) (v := some (.int (1 : Int32))) (fun h => by rw [Bd.returns] at h; cases h)
      refine ⟨_, _, R187 _ ?_, hrun, hended, _, _, rfl, ⟨rfl, N186⟩, own_endMono hEnd (by decide) (by decide)⟩
      exact retN X186 hx (t := .boolean) Bd.returns (by simp) (hb hby at_114) hr
  · have R188 : ∀ t, Steps p.tables e below (T50.setTop (mkF m 61 #[.val (.int p1), .val (.ref b2), .val (.int (7 : Int32)), .unset, .unset, .unset, .unset] [])) t → Steps p.tables e below (s₁.setTop (entryFrame m #[(.int p1)] maxLocals)) t := by rw [(hk : (p1 &&& (7 : Int32)) = (7 : Int32))] at R51; exact R51
    have R189 : ∀ t, Steps p.tables e below (T50.setTop (mkF m 63 #[.val (.int p1), .val (.ref b2), .val (.int (7 : Int32)), .unset, .unset, .unset, .unset] [(.int (7 : Int32)), (.ref b2)])) t → Steps p.tables e below (s₁.setTop (entryFrame m #[(.int p1)] maxLocals)) t := by
      intro t k
      refine R188 t ?_
      show Steps p.tables e below (T50.setTop (mkF m 61 #[.val (.int p1), .val (.ref b2), .val (.int (7 : Int32)), .unset, .unset, .unset, .unset] [])) _
      refine XS.aloadN X50.here hx rfl (hb hby at_61) rfl rfl ?_
      show Steps p.tables e below (T50.setTop (mkF m 62 #[.val (.int p1), .val (.ref b2), .val (.int (7 : Int32)), .unset, .unset, .unset, .unset] [(.ref b2)])) _
      refine XS.iloadN X50.here hx rfl (hb hby at_62) rfl ?_
      exact k
    obtain ⟨cl190, Ar190, q190, S190, N190', H190, G190⟩ := id V50
    have hin190_7 : ¬ ((7 : Int32) < 0 ∨ cl190.slots.size ≤ ((7 : Int32)).toNatClampNeg) := inb_of S190 ⟨by decide, by decide⟩
    have hat190_7 : cl190.slots[((7 : Int32)).toNatClampNeg]? = some (.ref aILIKE) := H190.at hin190_7 rfl
    have R191 : ∀ t, Steps p.tables e below (T50.setTop (mkF m 79 #[.val (.int p1), .val (.ref b2), .val (.int (7 : Int32)), .val (.ref aILIKE), .val (.int (1 : Int32)), .unset, .unset] [(.ref aILIKE)])) t → Steps p.tables e below (s₁.setTop (entryFrame m #[(.int p1)] maxLocals)) t := by
      intro t k
      refine R189 t ?_
      show Steps p.tables e below (T50.setTop (mkF m 63 #[.val (.int p1), .val (.ref b2), .val (.int (7 : Int32)), .unset, .unset, .unset, .unset] [(.int (7 : Int32)), (.ref b2)])) _
      refine X50.aaload hx (j := (7 : Int32)) (v := (.ref aILIKE)) (by rw [e50]; exact Ar190.1) (State.isArrayOf_alike hZ.alike Ar190.2.1) rfl Ar190.2.2 hin190_7 hat190_7 (g := (mkF m 63 #[.val (.int p1), .val (.ref b2), .val (.int (7 : Int32)), .unset, .unset, .unset, .unset] [(.int (7 : Int32)), (.ref b2)])) rfl rfl (hb hby at_63) _ ?_
      show Steps p.tables e below (T50.setTop (mkF m 64 #[.val (.int p1), .val (.ref b2), .val (.int (7 : Int32)), .unset, .unset, .unset, .unset] [(.ref aILIKE)])) _
      refine XS.astoreN X50.here hx rfl (hb hby at_64) rfl rfl (l' := #[.val (.int p1), .val (.ref b2), .val (.int (7 : Int32)), .val (.ref aILIKE), .unset, .unset, .unset]) rfl ?_
      show Steps p.tables e below (T50.setTop (mkF m 65 #[.val (.int p1), .val (.ref b2), .val (.int (7 : Int32)), .val (.ref aILIKE), .unset, .unset, .unset] [])) _
      refine XS.iloadN X50.here hx rfl (hb hby at_65) rfl ?_
      show Steps p.tables e below (T50.setTop (mkF m 66 #[.val (.int p1), .val (.ref b2), .val (.int (7 : Int32)), .val (.ref aILIKE), .unset, .unset, .unset] [(.int (7 : Int32))])) _
      refine XS.bipush X50.here hx rfl (hb hby at_66) ?_
      show Steps p.tables e below (T50.setTop (mkF m 68 #[.val (.int p1), .val (.ref b2), .val (.int (7 : Int32)), .val (.ref aILIKE), .unset, .unset, .unset] [(.int (6 : Int32)), (.int (7 : Int32))])) _
      refine XS.icmpNo X50.here hx rfl (hb hby at_68) rfl (flt (by decide : ¬ ((7 : Int32) < (6 : Int32)))).1 ?_
      show Steps p.tables e below (T50.setTop (mkF m 71 #[.val (.int p1), .val (.ref b2), .val (.int (7 : Int32)), .val (.ref aILIKE), .unset, .unset, .unset] [])) _
      refine XS.iconst X50.here hx rfl (hb hby at_71) ?_
      show Steps p.tables e below (T50.setTop (mkF m 72 #[.val (.int p1), .val (.ref b2), .val (.int (7 : Int32)), .val (.ref aILIKE), .unset, .unset, .unset] [(.int (1 : Int32))])) _
      refine XS.goto X50.here hx rfl (pc0 := 72) (pc' := 76) rfl (hb hby at_72) (by decide) (by decide) ?_
      show Steps p.tables e below (T50.setTop (mkF m 76 #[.val (.int p1), .val (.ref b2), .val (.int (7 : Int32)), .val (.ref aILIKE), .unset, .unset, .unset] [(.int (1 : Int32))])) _
      refine XS.istore X50.here hx rfl (hb hby at_76) rfl (l' := #[.val (.int p1), .val (.ref b2), .val (.int (7 : Int32)), .val (.ref aILIKE), .val (.int (1 : Int32)), .unset, .unset]) rfl ?_
      show Steps p.tables e below (T50.setTop (mkF m 78 #[.val (.int p1), .val (.ref b2), .val (.int (7 : Int32)), .val (.ref aILIKE), .val (.int (1 : Int32)), .unset, .unset] [])) _
      refine XS.aloadN X50.here hx rfl (hb hby at_78) rfl rfl ?_
      exact k
    have f192 : Sta s h50 "com/example/firm_store/firmstore/Operator" "LIKE" "Lcom/example/firm_store/firmstore/Operator;" (.ref aLIKE) := own_sta_keep SLIKE K50
    have f193 : Sta s h50 "com/example/firm_store/firmstore/Operator" "ILIKE" "Lcom/example/firm_store/firmstore/Operator;" (.ref aILIKE) := own_sta_keep SILIKE K50
    have f195 : Exa s h50 aILIKE "com/example/firm_store/firmstore/Operator" := EILIKE.keep K50
    obtain ⟨cq194, kq194, q194a, q194b, q194c⟩ := isOf hZ e50 f195
    obtain ⟨_, _, ⟨T194, L194, k194, n194⟩, -, X194, ⟨Lc194, hQ194, l194, y194, z194⟩, st194⟩ := X50.virtualBack hx (y := (⟨"com/example/firm_store/firmstore/Operator", "isPattern", "()Z"⟩ : MethodName)) (z := (⟨"com/example/firm_store/firmstore/Operator", "isPattern", "()Z"⟩ : MethodName)) hown (mvT hZ (hw _ (List.mem_of_getElem? (i := 20) rfl))) (mvT hZ (hw _ (List.mem_of_getElem? (i := 21) rfl))) (notFace_of_selects (args := #[]) (mvT hZ (hw _ (List.mem_of_getElem? (i := 23) rfl)))) (mvT hZ (hw _ (List.mem_of_getElem? (i := 23) rfl))) (mvT hZ (hw _ (List.mem_of_getElem? (i := 22) rfl))) (by decide) (backOf (W := 0) (rmPI l s a0 hw [] aILIKE aLIKE h50 n0 Z50 f192 f193 (Fld.ne OILIKE OLIKE (by decide))) hZ (hw _ (List.mem_of_getElem? (i := 24) rfl)) (hw _ (List.mem_of_getElem? (i := 3) rfl)) (by decide) (by decide)) q194a q194c (g := (mkF m 79 #[.val (.int p1), .val (.ref b2), .val (.int (7 : Int32)), .val (.ref aILIKE), .val (.int (1 : Int32)), .unset, .unset] [(.ref aILIKE)])) rfl (by rw [hml]; rfl) (Steps.refl _) (argsL := []) (rest := []) (lenOf own_pd0 rfl) rfl (by show 2 * 0 + _ ≤ _; exact Nat.le_of_eq rfl) (hb hby at_79) (fun _ _ => ⟨rfl, e50, (by decide : 1 + 0 ≤ _), (by decide : 8 + 0 ≤ _)⟩)
    dsimp only [Pt.U, Pt.locs, Pt.cells, Pt.slots] at X194 l194 y194 z194 st194 hQ194
    subst l194 y194 z194
    obtain ⟨rfl, Nq194, eq194⟩ := hQ194
    have N194 := Fr.app N50 Nq194
    have R194 : ∀ t, Steps p.tables e below (T194.setTop (mkF m 82 #[.val (.int p1), .val (.ref b2), .val (.int (7 : Int32)), .val (.ref aILIKE), .val (.int (1 : Int32)), .unset, .unset] [(.int (1 : Int32))])) t → Steps p.tables e below (s₁.setTop (entryFrame m #[(.int p1)] maxLocals)) t := fun t k => R191 t (st194.trans k)
    have R196 : ∀ t, Steps p.tables e below (T194.setTop (mkF m 85 #[.val (.int p1), .val (.ref b2), .val (.int (7 : Int32)), .val (.ref aILIKE), .val (.int (1 : Int32)), .val (.int (1 : Int32)), .unset] [(.ref aILIKE)])) t → Steps p.tables e below (s₁.setTop (entryFrame m #[(.int p1)] maxLocals)) t := by
      intro t k
      refine R194 t ?_
      show Steps p.tables e below (T194.setTop (mkF m 82 #[.val (.int p1), .val (.ref b2), .val (.int (7 : Int32)), .val (.ref aILIKE), .val (.int (1 : Int32)), .unset, .unset] [(.int (1 : Int32))])) _
      refine XS.istore X194.here hx rfl (hb hby at_82) rfl (l' := #[.val (.int p1), .val (.ref b2), .val (.int (7 : Int32)), .val (.ref aILIKE), .val (.int (1 : Int32)), .val (.int (1 : Int32)), .unset]) rfl ?_
      show Steps p.tables e below (T194.setTop (mkF m 84 #[.val (.int p1), .val (.ref b2), .val (.int (7 : Int32)), .val (.ref aILIKE), .val (.int (1 : Int32)), .val (.int (1 : Int32)), .unset] [])) _
      refine XS.aloadN X194.here hx rfl (hb hby at_84) rfl rfl ?_
      exact k
    have f197 : Fld s h50 aILIKE "com/example/firm_store/firmstore/Operator" "sql" "Ljava/lang/String;" (.ref sLIKE) := QILIKE.keep K50 nin0
    obtain ⟨cq198, kq198, q198a, q198b, q198c⟩ := isOf hZ eq194 f195
    obtain ⟨_, _, ⟨T198, L198, k198, n198⟩, -, X198, ⟨Lc198, hQ198, l198, y198, z198⟩, st198⟩ := X194.virtualBack hx (y := (⟨"com/example/firm_store/firmstore/Operator", "sql", "()Ljava/lang/String;"⟩ : MethodName)) (z := (⟨"com/example/firm_store/firmstore/Operator", "sql", "()Ljava/lang/String;"⟩ : MethodName)) hown (mvT hZ (hw _ (List.mem_of_getElem? (i := 27) rfl))) (mvT hZ (hw _ (List.mem_of_getElem? (i := 28) rfl))) (notFace_of_selects (args := #[]) (mvT hZ (hw _ (List.mem_of_getElem? (i := 30) rfl)))) (mvT hZ (hw _ (List.mem_of_getElem? (i := 30) rfl))) (mvT hZ (hw _ (List.mem_of_getElem? (i := 29) rfl))) (by decide) (backOf (W := 0) (rmSql l s a0 hw [] aILIKE sLIKE h50 n0 Z50 f197) hZ (hw _ (List.mem_of_getElem? (i := 31) rfl)) (hw _ (List.mem_of_getElem? (i := 3) rfl)) (by decide) (by decide)) q198a q198c (g := (mkF m 85 #[.val (.int p1), .val (.ref b2), .val (.int (7 : Int32)), .val (.ref aILIKE), .val (.int (1 : Int32)), .val (.int (1 : Int32)), .unset] [(.ref aILIKE)])) rfl (by rw [hml]; rfl) (Steps.refl _) (argsL := []) (rest := []) (lenOf own_pd1 rfl) rfl (by show 2 * 0 + _ ≤ _; exact Nat.le_of_eq rfl) (hb hby at_85) (fun _ _ => ⟨rfl, eq194, (by decide : 1 + 0 ≤ _), (by decide : 8 + 0 ≤ _)⟩)
    dsimp only [Pt.U, Pt.locs, Pt.cells, Pt.slots] at X198 l198 y198 z198 st198 hQ198
    subst l198 y198 z198
    obtain ⟨rfl, Nq198, eq198⟩ := hQ198
    have N198 := Fr.app N194 Nq198
    have R198 : ∀ t, Steps p.tables e below (T198.setTop (mkF m 88 #[.val (.int p1), .val (.ref b2), .val (.int (7 : Int32)), .val (.ref aILIKE), .val (.int (1 : Int32)), .val (.int (1 : Int32)), .unset] [(.ref sLIKE)])) t → Steps p.tables e below (s₁.setTop (entryFrame m #[(.int p1)] maxLocals)) t := fun t k => R196 t (st198.trans k)
    have Nn := own_frn (n := s.heap.size) (by rw [hh]; exact hn0) N198
    obtain ⟨lit, T199, h199, ki199, lb, lk, X199, e199, E199, hS, hki, hZ', hown', litE, litC, litF, litV, litL, lbL, -, st199⟩ := ldcSV (s := s) (vm0 := s.vm) (Ts := []) X198 hx hZ hown (hw _ (List.mem_of_getElem? (i := 34) rfl)) (own_atoms hw) eq198 (State.WarmedH.since (State.WarmedH.refl s) _) (Nat.zero_le _ : 0 ≤ _) Nn (fun b cl q => q) IB.start (by decide) hheld hcw (vs := [(.int (108 : Int32)), (.int (105 : Int32)), (.int (107 : Int32)), (.int (101 : Int32))]) (z := (4 : Int32)) ⟨by decide, rfl⟩ (by decide) rfl (g := (mkF m 88 #[.val (.int p1), .val (.ref b2), .val (.int (7 : Int32)), .val (.ref aILIKE), .val (.int (1 : Int32)), .val (.int (1 : Int32)), .unset] [(.ref sLIKE)])) rfl (hb hby at_88) (n := 16) (by decide) (by decide) (by decide) (by decide)
    have R199 : ∀ t, Steps p.tables e below (T199.setTop (mkF m 90 #[.val (.int p1), .val (.ref b2), .val (.int (7 : Int32)), .val (.ref aILIKE), .val (.int (1 : Int32)), .val (.int (1 : Int32)), .unset] [(.ref lit), (.ref sLIKE)])) t → Steps p.tables e below (s₁.setTop (entryFrame m #[(.int p1)] maxLocals)) t := fun t k => R198 t (st199 t k)
    have Z199 : n0 ≤ h199.size := Nat.le_trans Z50 E199.1
    have K199 : Keep h0 h199 [] := K50.ext E199
    have hZ := hZ'
    have hown := hown'
    have f200 : Exa s h199 sLIKE "java/lang/String" := TLIKE.keep K199
    have f201 : Fld s h199 sLIKE "java/lang/String" "coder" "B" (.int (0 : Int32)) := CLIKE.keep K199 nin0
    have f202 : Fld s h199 sLIKE "java/lang/String" "value" "[B" (.ref vLIKE) := FLIKE.keep K199 nin0
    have f203 : Arv s h199 vLIKE kLIKE .byte (4 : Int32) [(.int (108 : Int32)), (.int (105 : Int32)), (.int (107 : Int32)), (.int (101 : Int32))] (.int (0 : Int32)) := VLIKE.keep K199 nin0
    have f204 : Sta s h199 "java/lang/String" "COMPACT_STRINGS" "Z" (.int cz) := own_sta_keep SC K199
    by_cases hs : lit = sLIKE
    · have R205 : ∀ t, Steps p.tables e below (T199.setTop (mkF m 90 #[.val (.int p1), .val (.ref b2), .val (.int (7 : Int32)), .val (.ref aILIKE), .val (.int (1 : Int32)), .val (.int (1 : Int32)), .unset] [(.ref sLIKE), (.ref sLIKE)])) t → Steps p.tables e below (s₁.setTop (entryFrame m #[(.int p1)] maxLocals)) t := by rw [(hs : lit = sLIKE)] at R199; exact R199
      obtain ⟨cq206, kq206, q206a, q206b, q206c⟩ := isOf hZ e199 f200
      obtain ⟨_, _, ⟨T206, L206, k206, n206⟩, -, X206, ⟨Lc206, hQ206, l206, y206, z206⟩, st206⟩ := X199.virtualBack hx (y := (⟨"java/lang/String", "equals", "(Ljava/lang/Object;)Z"⟩ : MethodName)) (z := (⟨"java/lang/String", "equals", "(Ljava/lang/Object;)Z"⟩ : MethodName)) hown (mvT hZ (hw _ (List.mem_of_getElem? (i := 42) rfl))) (mvT hZ (hw _ (List.mem_of_getElem? (i := 43) rfl))) (notFace_of_selects (args := #[]) (mvT hZ (hw _ (List.mem_of_getElem? (i := 45) rfl)))) (mvT hZ (hw _ (List.mem_of_getElem? (i := 45) rfl))) (mvT hZ (hw _ (List.mem_of_getElem? (i := 44) rfl))) (by decide) (backOf (W := 0) (rmES l s a0 hw [] sLIKE h199 n0 Z199) hZ (hw _ (List.mem_of_getElem? (i := 46) rfl)) (hw _ (List.mem_of_getElem? (i := 35) rfl)) (by decide) (by decide)) q206a q206c (g := (mkF m 90 #[.val (.int p1), .val (.ref b2), .val (.int (7 : Int32)), .val (.ref aILIKE), .val (.int (1 : Int32)), .val (.int (1 : Int32)), .unset] [(.ref sLIKE), (.ref sLIKE)])) rfl (by rw [hml]; rfl) (Steps.refl _) (argsL := [(.ref sLIKE)]) (rest := []) (lenOf own_pd2 rfl) rfl (by show 2 * 0 + _ ≤ _; exact Nat.le_of_eq rfl) (hb hby at_90) (fun _ _ => ⟨rfl, e199, (by decide : 3 + 0 ≤ _), (by decide : 28 + 0 ≤ _)⟩)
      dsimp only [Pt.U, Pt.locs, Pt.cells, Pt.slots] at X206 l206 y206 z206 st206 hQ206
      subst l206 y206 z206
      obtain ⟨rfl, Nq206, eq206⟩ := hQ206
      have N206 := Fr.app N198 Nq206
      have R206 : ∀ t, Steps p.tables e below (T206.setTop (mkF m 93 #[.val (.int p1), .val (.ref b2), .val (.int (7 : Int32)), .val (.ref aILIKE), .val (.int (1 : Int32)), .val (.int (1 : Int32)), .unset] [(.int (1 : Int32))])) t → Steps p.tables e below (s₁.setTop (entryFrame m #[(.int p1)] maxLocals)) t := fun t k => R205 t (st206.trans k)
      have R207 : ∀ t, Steps p.tables e below (T206.setTop (mkF m 114 #[.val (.int p1), .val (.ref b2), .val (.int (7 : Int32)), .val (.ref aILIKE), .val (.int (1 : Int32)), .val (.int (1 : Int32)), .val (.int (1 : Int32))] [(.int (1 : Int32))])) t → Steps p.tables e below (s₁.setTop (entryFrame m #[(.int p1)] maxLocals)) t := by
        intro t k
        refine R206 t ?_
        show Steps p.tables e below (T206.setTop (mkF m 93 #[.val (.int p1), .val (.ref b2), .val (.int (7 : Int32)), .val (.ref aILIKE), .val (.int (1 : Int32)), .val (.int (1 : Int32)), .unset] [(.int (1 : Int32))])) _
        refine XS.istore X206.here hx rfl (hb hby at_93) rfl (l' := #[.val (.int p1), .val (.ref b2), .val (.int (7 : Int32)), .val (.ref aILIKE), .val (.int (1 : Int32)), .val (.int (1 : Int32)), .val (.int (1 : Int32))]) rfl ?_
        show Steps p.tables e below (T206.setTop (mkF m 95 #[.val (.int p1), .val (.ref b2), .val (.int (7 : Int32)), .val (.ref aILIKE), .val (.int (1 : Int32)), .val (.int (1 : Int32)), .val (.int (1 : Int32))] [])) _
        refine XS.iload X206.here hx rfl (hb hby at_95) rfl ?_
        show Steps p.tables e below (T206.setTop (mkF m 97 #[.val (.int p1), .val (.ref b2), .val (.int (7 : Int32)), .val (.ref aILIKE), .val (.int (1 : Int32)), .val (.int (1 : Int32)), .val (.int (1 : Int32))] [(.int (1 : Int32))])) _
        refine XS.iload X206.here hx rfl (hb hby at_97) rfl ?_
        show Steps p.tables e below (T206.setTop (mkF m 99 #[.val (.int p1), .val (.ref b2), .val (.int (7 : Int32)), .val (.ref aILIKE), .val (.int (1 : Int32)), .val (.int (1 : Int32)), .val (.int (1 : Int32))] [(.int (1 : Int32)), (.int (1 : Int32))])) _
        refine XS.icmpNo X206.here hx rfl (hb hby at_99) rfl (teq (by decide : ((1 : Int32) = (1 : Int32)))).2 ?_
        show Steps p.tables e below (T206.setTop (mkF m 102 #[.val (.int p1), .val (.ref b2), .val (.int (7 : Int32)), .val (.ref aILIKE), .val (.int (1 : Int32)), .val (.int (1 : Int32)), .val (.int (1 : Int32))] [])) _
        refine XS.iload X206.here hx rfl (hb hby at_102) rfl ?_
        show Steps p.tables e below (T206.setTop (mkF m 104 #[.val (.int p1), .val (.ref b2), .val (.int (7 : Int32)), .val (.ref aILIKE), .val (.int (1 : Int32)), .val (.int (1 : Int32)), .val (.int (1 : Int32))] [(.int (1 : Int32))])) _
        refine XS.iload X206.here hx rfl (hb hby at_104) rfl ?_
        show Steps p.tables e below (T206.setTop (mkF m 106 #[.val (.int p1), .val (.ref b2), .val (.int (7 : Int32)), .val (.ref aILIKE), .val (.int (1 : Int32)), .val (.int (1 : Int32)), .val (.int (1 : Int32))] [(.int (1 : Int32)), (.int (1 : Int32))])) _
        refine XS.icmpNo X206.here hx rfl (hb hby at_106) rfl (teq (by decide : ((1 : Int32) = (1 : Int32)))).2 ?_
        show Steps p.tables e below (T206.setTop (mkF m 109 #[.val (.int p1), .val (.ref b2), .val (.int (7 : Int32)), .val (.ref aILIKE), .val (.int (1 : Int32)), .val (.int (1 : Int32)), .val (.int (1 : Int32))] [])) _
        refine XS.iconst X206.here hx rfl (hb hby at_109) ?_
        show Steps p.tables e below (T206.setTop (mkF m 110 #[.val (.int p1), .val (.ref b2), .val (.int (7 : Int32)), .val (.ref aILIKE), .val (.int (1 : Int32)), .val (.int (1 : Int32)), .val (.int (1 : Int32))] [(.int (1 : Int32))])) _
        refine XS.goto X206.here hx rfl (pc0 := 110) (pc' := 114) rfl (hb hby at_110) (by decide) (by decide) ?_
        exact k
      obtain ⟨fs, hr, hrun, hended, hEnd⟩ := X206.leaveW hS (Nat.le_trans hki (Nat.le_of_eq (by rw [eq206]))) (v := some (.int (1 : Int32))) (fun h => by rw [Bd.returns] at h; cases h)
      refine ⟨_, _, R207 _ ?_, hrun, hended, _, _, rfl, ⟨rfl, N206⟩, own_endMono hEnd (by decide) (by decide)⟩
      exact retN X206 hx (t := .boolean) Bd.returns (by simp) (hb hby at_114) hr
    · obtain ⟨cq208, kq208, q208a, q208b, q208c⟩ := isOf hZ e199 f200
      obtain ⟨_, _, ⟨T208, L208, k208, n208⟩, -, X208, ⟨Lc208, hQ208, l208, y208, z208⟩, st208⟩ := X199.virtualBack hx (y := (⟨"java/lang/String", "equals", "(Ljava/lang/Object;)Z"⟩ : MethodName)) (z := (⟨"java/lang/String", "equals", "(Ljava/lang/Object;)Z"⟩ : MethodName)) hown (mvT hZ (hw _ (List.mem_of_getElem? (i := 42) rfl))) (mvT hZ (hw _ (List.mem_of_getElem? (i := 43) rfl))) (notFace_of_selects (args := #[]) (mvT hZ (hw _ (List.mem_of_getElem? (i := 45) rfl)))) (mvT hZ (hw _ (List.mem_of_getElem? (i := 45) rfl))) (mvT hZ (hw _ (List.mem_of_getElem? (i := 44) rfl))) (by decide) (backOf (W := 0) (rmEE l s a0 hw [] sLIKE lit vLIKE lb cz kLIKE lk h199 n0 Z199 (Ne.symm hs) hcz f204 litE f201 f202 litC litF f203 litV) hZ (hw _ (List.mem_of_getElem? (i := 46) rfl)) (hw _ (List.mem_of_getElem? (i := 35) rfl)) (by decide) (by decide)) q208a q208c (g := (mkF m 90 #[.val (.int p1), .val (.ref b2), .val (.int (7 : Int32)), .val (.ref aILIKE), .val (.int (1 : Int32)), .val (.int (1 : Int32)), .unset] [(.ref lit), (.ref sLIKE)])) rfl (by rw [hml]; rfl) (Steps.refl _) (argsL := [(.ref lit)]) (rest := []) (lenOf own_pd2 rfl) rfl (by show 2 * 0 + _ ≤ _; exact Nat.le_of_eq rfl) (hb hby at_90) (fun _ _ => ⟨rfl, e199, (by decide : 3 + 0 ≤ _), (by decide : 28 + 0 ≤ _)⟩)
      dsimp only [Pt.U, Pt.locs, Pt.cells, Pt.slots] at X208 l208 y208 z208 st208 hQ208
      subst l208 y208 z208
      obtain ⟨rfl, Nq208, eq208⟩ := hQ208
      have N208 := Fr.app N198 Nq208
      have R208 : ∀ t, Steps p.tables e below (T208.setTop (mkF m 93 #[.val (.int p1), .val (.ref b2), .val (.int (7 : Int32)), .val (.ref aILIKE), .val (.int (1 : Int32)), .val (.int (1 : Int32)), .unset] [(.int (1 : Int32))])) t → Steps p.tables e below (s₁.setTop (entryFrame m #[(.int p1)] maxLocals)) t := fun t k => R199 t (st208.trans k)
      have R209 : ∀ t, Steps p.tables e below (T208.setTop (mkF m 114 #[.val (.int p1), .val (.ref b2), .val (.int (7 : Int32)), .val (.ref aILIKE), .val (.int (1 : Int32)), .val (.int (1 : Int32)), .val (.int (1 : Int32))] [(.int (1 : Int32))])) t → Steps p.tables e below (s₁.setTop (entryFrame m #[(.int p1)] maxLocals)) t := by
        intro t k
        refine R208 t ?_
        show Steps p.tables e below (T208.setTop (mkF m 93 #[.val (.int p1), .val (.ref b2), .val (.int (7 : Int32)), .val (.ref aILIKE), .val (.int (1 : Int32)), .val (.int (1 : Int32)), .unset] [(.int (1 : Int32))])) _
        refine XS.istore X208.here hx rfl (hb hby at_93) rfl (l' := #[.val (.int p1), .val (.ref b2), .val (.int (7 : Int32)), .val (.ref aILIKE), .val (.int (1 : Int32)), .val (.int (1 : Int32)), .val (.int (1 : Int32))]) rfl ?_
        show Steps p.tables e below (T208.setTop (mkF m 95 #[.val (.int p1), .val (.ref b2), .val (.int (7 : Int32)), .val (.ref aILIKE), .val (.int (1 : Int32)), .val (.int (1 : Int32)), .val (.int (1 : Int32))] [])) _
        refine XS.iload X208.here hx rfl (hb hby at_95) rfl ?_
        show Steps p.tables e below (T208.setTop (mkF m 97 #[.val (.int p1), .val (.ref b2), .val (.int (7 : Int32)), .val (.ref aILIKE), .val (.int (1 : Int32)), .val (.int (1 : Int32)), .val (.int (1 : Int32))] [(.int (1 : Int32))])) _
        refine XS.iload X208.here hx rfl (hb hby at_97) rfl ?_
        show Steps p.tables e below (T208.setTop (mkF m 99 #[.val (.int p1), .val (.ref b2), .val (.int (7 : Int32)), .val (.ref aILIKE), .val (.int (1 : Int32)), .val (.int (1 : Int32)), .val (.int (1 : Int32))] [(.int (1 : Int32)), (.int (1 : Int32))])) _
        refine XS.icmpNo X208.here hx rfl (hb hby at_99) rfl (teq (by decide : ((1 : Int32) = (1 : Int32)))).2 ?_
        show Steps p.tables e below (T208.setTop (mkF m 102 #[.val (.int p1), .val (.ref b2), .val (.int (7 : Int32)), .val (.ref aILIKE), .val (.int (1 : Int32)), .val (.int (1 : Int32)), .val (.int (1 : Int32))] [])) _
        refine XS.iload X208.here hx rfl (hb hby at_102) rfl ?_
        show Steps p.tables e below (T208.setTop (mkF m 104 #[.val (.int p1), .val (.ref b2), .val (.int (7 : Int32)), .val (.ref aILIKE), .val (.int (1 : Int32)), .val (.int (1 : Int32)), .val (.int (1 : Int32))] [(.int (1 : Int32))])) _
        refine XS.iload X208.here hx rfl (hb hby at_104) rfl ?_
        show Steps p.tables e below (T208.setTop (mkF m 106 #[.val (.int p1), .val (.ref b2), .val (.int (7 : Int32)), .val (.ref aILIKE), .val (.int (1 : Int32)), .val (.int (1 : Int32)), .val (.int (1 : Int32))] [(.int (1 : Int32)), (.int (1 : Int32))])) _
        refine XS.icmpNo X208.here hx rfl (hb hby at_106) rfl (teq (by decide : ((1 : Int32) = (1 : Int32)))).2 ?_
        show Steps p.tables e below (T208.setTop (mkF m 109 #[.val (.int p1), .val (.ref b2), .val (.int (7 : Int32)), .val (.ref aILIKE), .val (.int (1 : Int32)), .val (.int (1 : Int32)), .val (.int (1 : Int32))] [])) _
        refine XS.iconst X208.here hx rfl (hb hby at_109) ?_
        show Steps p.tables e below (T208.setTop (mkF m 110 #[.val (.int p1), .val (.ref b2), .val (.int (7 : Int32)), .val (.ref aILIKE), .val (.int (1 : Int32)), .val (.int (1 : Int32)), .val (.int (1 : Int32))] [(.int (1 : Int32))])) _
        refine XS.goto X208.here hx rfl (pc0 := 110) (pc' := 114) rfl (hb hby at_110) (by decide) (by decide) ?_
        exact k
      obtain ⟨fs, hr, hrun, hended, hEnd⟩ := X208.leaveW hS (Nat.le_trans hki (Nat.le_of_eq (by rw [eq208]))) (v := some (.int (1 : Int32))) (fun h => by rw [Bd.returns] at h; cases h)
      refine ⟨_, _, R209 _ ?_, hrun, hended, _, _, rfl, ⟨rfl, N208⟩, own_endMono hEnd (by decide) (by decide)⟩
      exact retN X208 hx (t := .boolean) Bd.returns (by simp) (hb hby at_114) hr
set_option maxRecDepth 65536 in
set_option maxHeartbeats 40000000 in
theorem comes_1 {Post : Tables → Env → Array Value → State → Outcome → State → Prop} (hpost : ∀ tb e args s v u, (limb_1_1.after args s (.returned v) u = true ∧ limb_1_2.after args s (.returned v) u = true ∧ True) → ReturnedEndW s (.returned v) u (Jvm.fieldLocs frame_1_writes args s ++ Jvm.arrayLocs frame_1_arrays args s ++ Jvm.staticLocs frame_1_statics s) 16 1152 → Post tb e args s (.returned v) u) :
    ArmFor flags0 classFile x code maxLocals ret World_1 tables_1 room_1 Calls_1 rest_1 Pre_1 Post := by
  intro l hfl _ _ p e ha hc hk s m args below hf hA hF happ hP
  obtain ⟨hcalls, hrest, hpre⟩ := hP
  obtain ⟨-, -, -, hnamed, -, -, -, hat⟩ := (Spec.applies_iff hf).mp happ
  obtain ⟨hg, hn⟩ := and_e (Cond.before_iff.mp (show (Jvm.Cond.and given_1 narrow_1).before args s = true from hpre))
  obtain ⟨g1, g2⟩ := and_e hg
  obtain ⟨w0, rfl⟩ : ∃ w0 : Value, args = #[w0] := by
    have hs : args.size = 1 := by simpa [Cond.value, given_1] using g1
    obtain ⟨L⟩ := args
    match L, hs with
    | [w0], _ => exact ⟨w0, rfl⟩
  have hw := fun d (hd : d ∈ tables_1) => atoms_spec (ws := Jvm.Cond.code x code maxLocals ret :: tables_1) hat d (List.mem_cons_of_mem _ hd)
  have hfit : Fit s := fun {y c} hc i hi => by
    obtain ⟨ha, rfl⟩ := Array.getElem?_eq_some_iff.mp hc
    have q := List.all_eq_true.mp ((Array.all_eq_true_iff_forall_mem.mp hF) _ (Array.getElem_mem ha)) i (List.mem_range.mpr hi)
    simpa [Array.getElem?_eq_getElem hi] using q
  obtain ⟨i0, ei0⟩ := is_v g2
  obtain rfl : w0 = (.int i0) := Option.some.inj ei0
  obtain ⟨hsets, hown0⟩ := atoms_of _ (rest_1_c_eq ▸ (show rest_1_c.before _ s = true from hrest))
  obtain ⟨na1, nb1⟩ := and_e hn
  obtain ⟨na2, nb2⟩ := and_e nb1
  obtain ⟨na3, nb3⟩ := and_e nb2
  obtain ⟨na4, nb4⟩ := and_e nb3
  obtain ⟨na5, nb5⟩ := and_e nb4
  obtain ⟨na6, nb6⟩ := and_e nb5
  obtain ⟨na7, nb7⟩ := and_e nb6
  obtain ⟨na8, nb8⟩ := and_e nb7
  obtain ⟨na9, nb9⟩ := and_e nb8
  obtain ⟨na10, nb10⟩ := and_e nb9
  obtain ⟨na11, nb11⟩ := and_e nb10
  obtain ⟨na12, nb12⟩ := and_e nb11
  obtain ⟨na13, nb13⟩ := and_e nb12
  obtain ⟨na14, nb14⟩ := and_e nb13
  obtain ⟨na15, nb15⟩ := and_e nb14
  obtain ⟨na16, nb16⟩ := and_e nb15
  obtain ⟨na17, nb17⟩ := and_e nb16
  obtain ⟨na18, nb18⟩ := and_e nb17
  obtain ⟨na19, nb19⟩ := and_e nb18
  obtain ⟨na20, nb20⟩ := and_e nb19
  obtain ⟨na21, nb21⟩ := and_e nb20
  obtain ⟨na22, nb22⟩ := and_e nb21
  obtain ⟨na23, nb23⟩ := and_e nb22
  obtain ⟨na24, nb24⟩ := and_e nb23
  obtain ⟨na25, nb25⟩ := and_e nb24
  obtain ⟨na26, nb26⟩ := and_e nb25
  obtain ⟨na27, nb27⟩ := and_e nb26
  obtain ⟨na28, nb28⟩ := and_e nb27
  obtain ⟨na29, nb29⟩ := and_e nb28
  obtain ⟨na30, nb30⟩ := and_e nb29
  obtain ⟨na31, nb31⟩ := and_e nb30
  obtain ⟨na32, nb32⟩ := and_e nb31
  obtain ⟨na33, nb33⟩ := and_e nb32
  obtain ⟨na34, nb34⟩ := and_e nb33
  obtain ⟨na35, nb35⟩ := and_e nb34
  obtain ⟨na36, nb36⟩ := and_e nb35
  obtain ⟨na37, nb37⟩ := and_e nb36
  obtain ⟨na38, nb38⟩ := and_e nb37
  obtain ⟨na39, nb39⟩ := and_e nb38
  obtain ⟨na40, nb40⟩ := and_e nb39
  obtain ⟨na41, nb41⟩ := and_e nb40
  obtain ⟨na42, nb42⟩ := and_e nb41
  obtain ⟨na43, nb43⟩ := and_e nb42
  obtain ⟨na44, nb44⟩ := and_e nb43
  obtain ⟨na45, nb45⟩ := and_e nb44
  obtain ⟨na46, nb46⟩ := and_e nb45
  obtain ⟨na47, nb47⟩ := and_e nb46
  obtain ⟨na48, nb48⟩ := and_e nb47
  obtain ⟨na49, nb49⟩ := and_e nb48
  obtain ⟨na50, nb50⟩ := and_e nb49
  obtain ⟨na51, nb51⟩ := and_e nb50
  obtain ⟨na52, nb52⟩ := and_e nb51
  obtain ⟨na53, nb53⟩ := and_e nb52
  obtain ⟨na54, nb54⟩ := and_e nb53
  obtain ⟨na55, nb55⟩ := and_e nb54
  obtain ⟨na56, nb56⟩ := and_e nb55
  obtain ⟨na57, nb57⟩ := and_e nb56
  obtain ⟨aEQ, evEQ⟩ := exa_v na1
  have EEQ : Exa s s.heap aEQ "com/example/firm_store/firmstore/Operator" := Exa.start evEQ na1
  have SEQ : Sta s s.heap "com/example/firm_store/firmstore/Operator" "EQ" "Lcom/example/firm_store/firmstore/Operator;" (.ref aEQ) := Sta.start evEQ (Or.inr ⟨(hw _ (List.mem_of_getElem? (i := 3) rfl)), (hw _ (List.mem_of_getElem? (i := 4) rfl))⟩)
  have OEQ : Fld s s.heap aEQ "java/lang/Enum" "ordinal" "I" (.int (0 : Int32)) := own_ord evEQ na9
  obtain ⟨aNE, evNE⟩ := exa_v na2
  have ENE : Exa s s.heap aNE "com/example/firm_store/firmstore/Operator" := Exa.start evNE na2
  have SNE : Sta s s.heap "com/example/firm_store/firmstore/Operator" "NE" "Lcom/example/firm_store/firmstore/Operator;" (.ref aNE) := Sta.start evNE (Or.inr ⟨(hw _ (List.mem_of_getElem? (i := 3) rfl)), (hw _ (List.mem_of_getElem? (i := 7) rfl))⟩)
  have ONE : Fld s s.heap aNE "java/lang/Enum" "ordinal" "I" (.int (1 : Int32)) := own_ord evNE na35
  obtain ⟨aLT, evLT⟩ := exa_v na3
  have ELT : Exa s s.heap aLT "com/example/firm_store/firmstore/Operator" := Exa.start evLT na3
  have SLT : Sta s s.heap "com/example/firm_store/firmstore/Operator" "LT" "Lcom/example/firm_store/firmstore/Operator;" (.ref aLT) := Sta.start evLT (Or.inr ⟨(hw _ (List.mem_of_getElem? (i := 3) rfl)), (hw _ (List.mem_of_getElem? (i := 9) rfl))⟩)
  have OLT : Fld s s.heap aLT "java/lang/Enum" "ordinal" "I" (.int (2 : Int32)) := own_ord evLT na30
  obtain ⟨aLE, evLE⟩ := exa_v na4
  have ELE : Exa s s.heap aLE "com/example/firm_store/firmstore/Operator" := Exa.start evLE na4
  have SLE : Sta s s.heap "com/example/firm_store/firmstore/Operator" "LE" "Lcom/example/firm_store/firmstore/Operator;" (.ref aLE) := Sta.start evLE (Or.inr ⟨(hw _ (List.mem_of_getElem? (i := 3) rfl)), (hw _ (List.mem_of_getElem? (i := 11) rfl))⟩)
  have OLE : Fld s s.heap aLE "java/lang/Enum" "ordinal" "I" (.int (3 : Int32)) := own_ord evLE na16
  obtain ⟨aGT, evGT⟩ := exa_v na5
  have EGT : Exa s s.heap aGT "com/example/firm_store/firmstore/Operator" := Exa.start evGT na5
  have SGT : Sta s s.heap "com/example/firm_store/firmstore/Operator" "GT" "Lcom/example/firm_store/firmstore/Operator;" (.ref aGT) := Sta.start evGT (Or.inr ⟨(hw _ (List.mem_of_getElem? (i := 3) rfl)), (hw _ (List.mem_of_getElem? (i := 13) rfl))⟩)
  have OGT : Fld s s.heap aGT "java/lang/Enum" "ordinal" "I" (.int (4 : Int32)) := own_ord evGT na40
  obtain ⟨aGE, evGE⟩ := exa_v na6
  have EGE : Exa s s.heap aGE "com/example/firm_store/firmstore/Operator" := Exa.start evGE na6
  have SGE : Sta s s.heap "com/example/firm_store/firmstore/Operator" "GE" "Lcom/example/firm_store/firmstore/Operator;" (.ref aGE) := Sta.start evGE (Or.inr ⟨(hw _ (List.mem_of_getElem? (i := 3) rfl)), (hw _ (List.mem_of_getElem? (i := 15) rfl))⟩)
  have OGE : Fld s s.heap aGE "java/lang/Enum" "ordinal" "I" (.int (5 : Int32)) := own_ord evGE na45
  obtain ⟨aLIKE, evLIKE⟩ := exa_v na7
  have ELIKE : Exa s s.heap aLIKE "com/example/firm_store/firmstore/Operator" := Exa.start evLIKE na7
  have SLIKE : Sta s s.heap "com/example/firm_store/firmstore/Operator" "LIKE" "Lcom/example/firm_store/firmstore/Operator;" (.ref aLIKE) := Sta.start evLIKE (Or.inr ⟨(hw _ (List.mem_of_getElem? (i := 3) rfl)), (hw _ (List.mem_of_getElem? (i := 17) rfl))⟩)
  have OLIKE : Fld s s.heap aLIKE "java/lang/Enum" "ordinal" "I" (.int (6 : Int32)) := own_ord evLIKE na10
  obtain ⟨aILIKE, evILIKE⟩ := exa_v na8
  have EILIKE : Exa s s.heap aILIKE "com/example/firm_store/firmstore/Operator" := Exa.start evILIKE na8
  have SILIKE : Sta s s.heap "com/example/firm_store/firmstore/Operator" "ILIKE" "Lcom/example/firm_store/firmstore/Operator;" (.ref aILIKE) := Sta.start evILIKE (Or.inr ⟨(hw _ (List.mem_of_getElem? (i := 3) rfl)), (hw _ (List.mem_of_getElem? (i := 19) rfl))⟩)
  have OILIKE : Fld s s.heap aILIKE "java/lang/Enum" "ordinal" "I" (.int (7 : Int32)) := own_ord evILIKE na11
  obtain ⟨sEQ, esEQ⟩ := exa_v na12
  have TEQ : Exa s s.heap sEQ "java/lang/String" := Exa.start esEQ na12
  have QEQ : Fld s s.heap aEQ "com/example/firm_store/firmstore/Operator" "sql" "Ljava/lang/String;" (.ref sEQ) := Fld.start ((fld_at evEQ).symm.trans esEQ)
  have CEQ : Fld s s.heap sEQ "java/lang/String" "coder" "B" (.int (0 : Int32)) := own_ord esEQ na13
  obtain ⟨vEQ, ewEQ⟩ := arr_v na14
  have FEQ : Fld s s.heap sEQ "java/lang/String" "value" "[B" (.ref vEQ) := Fld.start ((fld_at esEQ).symm.trans ewEQ)
  obtain ⟨clEQ, ArEQ⟩ := Arr.start ewEQ na14
  obtain ⟨ltEQ, lnEQ⟩ := own_len ewEQ ArEQ na15
  have VEQ : Arv s s.heap vEQ clEQ.cls .byte (1 : Int32) [(.int (61 : Int32))] (.int (0 : Int32)) := Arv.start hfit ArEQ ltEQ lnEQ (by decide) rfl ⟨own_elem ewEQ ArEQ.1 na50, trivial⟩
  obtain ⟨sNE, esNE⟩ := exa_v na36
  have TNE : Exa s s.heap sNE "java/lang/String" := Exa.start esNE na36
  have QNE : Fld s s.heap aNE "com/example/firm_store/firmstore/Operator" "sql" "Ljava/lang/String;" (.ref sNE) := Fld.start ((fld_at evNE).symm.trans esNE)
  have CNE : Fld s s.heap sNE "java/lang/String" "coder" "B" (.int (0 : Int32)) := own_ord esNE na37
  obtain ⟨vNE, ewNE⟩ := arr_v na38
  have FNE : Fld s s.heap sNE "java/lang/String" "value" "[B" (.ref vNE) := Fld.start ((fld_at esNE).symm.trans ewNE)
  obtain ⟨clNE, ArNE⟩ := Arr.start ewNE na38
  obtain ⟨ltNE, lnNE⟩ := own_len ewNE ArNE na39
  have VNE : Arv s s.heap vNE clNE.cls .byte (2 : Int32) [(.int (60 : Int32)), (.int (62 : Int32))] (.int (0 : Int32)) := Arv.start hfit ArNE ltNE lnNE (by decide) rfl ⟨own_elem ewNE ArNE.1 na54, own_elem ewNE ArNE.1 na55, trivial⟩
  obtain ⟨sLT, esLT⟩ := exa_v na31
  have TLT : Exa s s.heap sLT "java/lang/String" := Exa.start esLT na31
  have QLT : Fld s s.heap aLT "com/example/firm_store/firmstore/Operator" "sql" "Ljava/lang/String;" (.ref sLT) := Fld.start ((fld_at evLT).symm.trans esLT)
  have CLT : Fld s s.heap sLT "java/lang/String" "coder" "B" (.int (0 : Int32)) := own_ord esLT na32
  obtain ⟨vLT, ewLT⟩ := arr_v na33
  have FLT : Fld s s.heap sLT "java/lang/String" "value" "[B" (.ref vLT) := Fld.start ((fld_at esLT).symm.trans ewLT)
  obtain ⟨clLT, ArLT⟩ := Arr.start ewLT na33
  obtain ⟨ltLT, lnLT⟩ := own_len ewLT ArLT na34
  have VLT : Arv s s.heap vLT clLT.cls .byte (1 : Int32) [(.int (60 : Int32))] (.int (0 : Int32)) := Arv.start hfit ArLT ltLT lnLT (by decide) rfl ⟨own_elem ewLT ArLT.1 na53, trivial⟩
  obtain ⟨sLE, esLE⟩ := exa_v na17
  have TLE : Exa s s.heap sLE "java/lang/String" := Exa.start esLE na17
  have QLE : Fld s s.heap aLE "com/example/firm_store/firmstore/Operator" "sql" "Ljava/lang/String;" (.ref sLE) := Fld.start ((fld_at evLE).symm.trans esLE)
  have CLE : Fld s s.heap sLE "java/lang/String" "coder" "B" (.int (0 : Int32)) := own_ord esLE na18
  obtain ⟨vLE, ewLE⟩ := arr_v na19
  have FLE : Fld s s.heap sLE "java/lang/String" "value" "[B" (.ref vLE) := Fld.start ((fld_at esLE).symm.trans ewLE)
  obtain ⟨clLE, ArLE⟩ := Arr.start ewLE na19
  obtain ⟨ltLE, lnLE⟩ := own_len ewLE ArLE na20
  have VLE : Arv s s.heap vLE clLE.cls .byte (2 : Int32) [(.int (60 : Int32)), (.int (61 : Int32))] (.int (0 : Int32)) := Arv.start hfit ArLE ltLE lnLE (by decide) rfl ⟨own_elem ewLE ArLE.1 na51, own_elem ewLE ArLE.1 na52, trivial⟩
  obtain ⟨sGT, esGT⟩ := exa_v na41
  have TGT : Exa s s.heap sGT "java/lang/String" := Exa.start esGT na41
  have QGT : Fld s s.heap aGT "com/example/firm_store/firmstore/Operator" "sql" "Ljava/lang/String;" (.ref sGT) := Fld.start ((fld_at evGT).symm.trans esGT)
  have CGT : Fld s s.heap sGT "java/lang/String" "coder" "B" (.int (0 : Int32)) := own_ord esGT na42
  obtain ⟨vGT, ewGT⟩ := arr_v na43
  have FGT : Fld s s.heap sGT "java/lang/String" "value" "[B" (.ref vGT) := Fld.start ((fld_at esGT).symm.trans ewGT)
  obtain ⟨clGT, ArGT⟩ := Arr.start ewGT na43
  obtain ⟨ltGT, lnGT⟩ := own_len ewGT ArGT na44
  have VGT : Arv s s.heap vGT clGT.cls .byte (1 : Int32) [(.int (62 : Int32))] (.int (0 : Int32)) := Arv.start hfit ArGT ltGT lnGT (by decide) rfl ⟨own_elem ewGT ArGT.1 na56, trivial⟩
  obtain ⟨sGE, esGE⟩ := exa_v na46
  have TGE : Exa s s.heap sGE "java/lang/String" := Exa.start esGE na46
  have QGE : Fld s s.heap aGE "com/example/firm_store/firmstore/Operator" "sql" "Ljava/lang/String;" (.ref sGE) := Fld.start ((fld_at evGE).symm.trans esGE)
  have CGE : Fld s s.heap sGE "java/lang/String" "coder" "B" (.int (0 : Int32)) := own_ord esGE na47
  obtain ⟨vGE, ewGE⟩ := arr_v na48
  have FGE : Fld s s.heap sGE "java/lang/String" "value" "[B" (.ref vGE) := Fld.start ((fld_at esGE).symm.trans ewGE)
  obtain ⟨clGE, ArGE⟩ := Arr.start ewGE na48
  obtain ⟨ltGE, lnGE⟩ := own_len ewGE ArGE na49
  have VGE : Arv s s.heap vGE clGE.cls .byte (2 : Int32) [(.int (62 : Int32)), (.int (61 : Int32))] (.int (0 : Int32)) := Arv.start hfit ArGE ltGE lnGE (by decide) rfl ⟨own_elem ewGE ArGE.1 na57, own_elem ewGE ArGE.1 nb57, trivial⟩
  obtain ⟨sLIKE, esLIKE⟩ := exa_v na21
  have TLIKE : Exa s s.heap sLIKE "java/lang/String" := Exa.start esLIKE na21
  have QLIKE : Fld s s.heap aLIKE "com/example/firm_store/firmstore/Operator" "sql" "Ljava/lang/String;" (.ref sLIKE) := Fld.start ((fld_at evLIKE).symm.trans esLIKE)
  have CLIKE : Fld s s.heap sLIKE "java/lang/String" "coder" "B" (.int (0 : Int32)) := own_ord esLIKE na22
  obtain ⟨vLIKE, ewLIKE⟩ := arr_v na23
  have FLIKE : Fld s s.heap sLIKE "java/lang/String" "value" "[B" (.ref vLIKE) := Fld.start ((fld_at esLIKE).symm.trans ewLIKE)
  obtain ⟨clLIKE, ArLIKE⟩ := Arr.start ewLIKE na23
  obtain ⟨ltLIKE, lnLIKE⟩ := own_len ewLIKE ArLIKE na24
  have VLIKE : Arv s s.heap vLIKE clLIKE.cls .byte (4 : Int32) [(.int (108 : Int32)), (.int (105 : Int32)), (.int (107 : Int32)), (.int (101 : Int32))] (.int (0 : Int32)) := Arv.start hfit ArLIKE ltLIKE lnLIKE (by decide) rfl ⟨own_elem ewLIKE ArLIKE.1 na25, own_elem ewLIKE ArLIKE.1 na26, own_elem ewLIKE ArLIKE.1 na27, own_elem ewLIKE ArLIKE.1 na28, trivial⟩
  have es2 := own_sameRef esLIKE na29
  have QILIKE : Fld s s.heap aILIKE "com/example/firm_store/firmstore/Operator" "sql" "Ljava/lang/String;" (.ref sLIKE) := Fld.start ((fld_at evILIKE).symm.trans es2)
  obtain ⟨cz, ecz⟩ := is_v (Cond.before_iff.mp (hsets _ (List.mem_of_getElem? (i := 1) rfl)))
  have SC : Sta s s.heap "java/lang/String" "COMPACT_STRINGS" "Z" (.int cz) := Sta.start ecz (Or.inl (hsets _ (List.mem_of_getElem? (i := 0) rfl)))
  have hcw : Jvm.Lit.compactW.before _ s = true := hsets _ (List.mem_of_getElem? (i := 2) rfl)
  have hcz : ¬ cz = (0 : Int32) := own_cz ecz hcw
  have hheld : Jvm.Lit.constHeld s "com/example/firm_store/firmstore/OperatorIsPatternPinLaw" 42 := hcalls.1 _ (List.mem_of_getElem? (i := 0) rfl)
  obtain ⟨n, o, h1, h2, h3, _, L, rfl, ⟨rfl, N⟩, hq⟩ := rm0 l s _ hw tables_1 i0 aEQ aNE aLT aLE aGT aGE aLIKE aILIKE sEQ sNE sLT sLE sGT sGE sLIKE vEQ vNE vLT vLE vGT vGE vLIKE clEQ.cls clNE.cls clLT.cls clLE.cls clGT.cls clGE.cls clLIKE.cls cz s.heap s.heap.size (Nat.le_refl _) SEQ EEQ OEQ QEQ SNE ENE ONE QNE SLT ELT OLT QLT SLE ELE OLE QLE SGT EGT OGT QGT SGE EGE OGE QGE SLIKE ELIKE OLIKE QLIKE SILIKE EILIKE OILIKE QILIKE TEQ CEQ FEQ VEQ TNE CNE FNE VNE TLT CLT FLT VLT TLE CLE FLE VLE TGT CGT FGT VGT TGE CGE FGE VGE TLIKE CLIKE FLIKE VLIKE hcz SC rfl hheld hcw p e ha hc hk s m _ below hf ((Spec.applies_iff_loose hf).mp happ).1 ⟨rfl, rfl, rfl⟩ trivial
  refine ⟨n, _, h1, h2, h3, hpost _ _ _ _ _ _ ⟨Cond.after_iff.mpr rfl, Cond.after_iff.mpr (eq_i res_at (Term.int_eval (1)) rfl), trivial⟩ ⟨hq.1, hq.2.1, hq.2.2.1, (hq.2.2.2.sift fun y hy => Or.inr (N y hy)).mono (by decide) (by decide)⟩⟩
theorem main_1_1 : Claimed_1_1 := comes_1 fun _ _ _ _ _ _ h hF => ⟨h.1, hF⟩
theorem main_1_2 : Claimed_1_2 := comes_1 fun _ _ _ _ _ _ h hF => ⟨h.2.1, hF⟩
end Jvm.Pilot.@@N@@
namespace Jvm.Pilot.@@N@@
open Jvm Jvm.ClassFile Sem Op Lib Jvm.Free Jvm.Stand Jvm.Pilot.@@N@@.Jvm.D
/-! MADE BY PROGRAM (witnessworld.py) out of the Statement's table words and the real class files: 19 classes; the members and pool entries that the words name. The judged class is class 1, her method 1. -/
namespace start1
open Jvm.ClassFile
def u (s : String) : CpInfo := .utf8 (stringToUtf16 s)
/-- a pool by its gaps: so many unusable entries, then the entry; so many at the end -/
def gap : Nat → List CpInfo → List CpInfo
  | 0, r => r
  | n + 1, r => .unusable :: gap n r
def poolList (es : List (Nat × CpInfo)) (last : Nat) : List CpInfo := es.foldr (fun e r => gap e.1 (e.2 :: r)) (gap last [])
def pool (es : List (Nat × CpInfo)) (last : Nat) : Array CpInfo := ⟨poolList es last⟩
def fileOf (pool : Array CpInfo) (this : Nat) (attrs : Array Attribute := #[]) (ms : Array MethodInfo := #[]) (fl : Nat := 33) (sup : Nat := 0) (ifs : Array Nat := #[]) (fds : Array FieldInfo := #[]) : ClassFile where
  minorVersion := 0
  majorVersion := 65
  constantPool := pool
  accessFlags := fl
  thisClass := this
  superClass := sup
  interfaces := ifs
  fields := fds
  methods := ms
  attributes := attrs
def plain (name : String) (sup : Option ClassId) : Class where
  name := name
  kind := .ordinary
  loader := none
  accessFlags := 33
  super := sup
  interfaces := #[]
  cf := none
  fields := #[]
  methods := #[]
  instanceTypes := #[]
  staticTypes := #[]
  resolved := #[]
  callSites := []
  init := .initialized
  statics := none
  mirror := none

def pool0 : Array CpInfo := pool [(5, u "<init>"), (0, u "()V"), (1, .class_ 10), (1, u "java/lang/Object")] 113

def k0m0 : Method := { name := "<init>", desc := "()V", sig := { parameters := [], returnType := none }, accessFlags := 1, code := none }
/-- java/lang/Object -/
def k0 : Class := { plain "java/lang/Object" none with
  accessFlags := 33
  interfaces := #[]
  cf := some (fileOf pool0 8 #[] #[{ accessFlags := 1, nameIndex := 5, descriptorIndex := 6, attributes := #[] }] 33 0 #[] #[])
  fields := #[]
  methods := #[k0m0]
  instanceTypes := #[]
  staticTypes := #[]
  resolved := Array.replicate 124 none
  statics := none }

def pool1 : Array CpInfo := pool [(2, .class_ 4), (1, u "java/lang/Object"), (0, u "<init>"), (0, u "()V"), (0, .class_ 8), (0, u "com/example/firm_store/firmstore/Operator"), (0, .fieldref 7 10), (0, .nameAndType 11 12), (0, u "EQ"), (0, u "Lcom/example/firm_store/firmstore/Operator;"), (0, .fieldref 7 14), (0, .nameAndType 15 12), (0, u "NE"), (0, .fieldref 7 17), (0, .nameAndType 18 12), (0, u "LT"), (0, .fieldref 7 20), (0, .nameAndType 21 12), (0, u "LE"), (0, .fieldref 7 23), (0, .nameAndType 24 12), (0, u "GT"), (0, .fieldref 7 26), (0, .nameAndType 27 12), (0, u "GE"), (0, .fieldref 7 29), (0, .nameAndType 30 12), (0, u "LIKE"), (0, .fieldref 7 32), (0, .nameAndType 33 12), (0, u "ILIKE"), (0, .methodref 7 35), (0, .nameAndType 36 37), (0, u "isPattern"), (0, u "()Z"), (0, .methodref 7 39), (0, .nameAndType 40 41), (0, u "sql"), (0, u "()Ljava/lang/String;"), (0, .string 43), (0, u "like"), (0, .methodref 45 46), (0, .class_ 47), (0, .nameAndType 48 49), (0, u "java/lang/String"), (0, u "equals"), (0, u "(Ljava/lang/Object;)Z"), (0, .class_ 51), (0, u "com/example/firm_store/firmstore/OperatorIsPatternPinLaw"), (2, u "law"), (0, u "(I)Z")] 5

def k1m0 : Method := { name := "<init>", desc := "()V", sig := { parameters := [], returnType := none }, accessFlags := 2, code := none }
def k1c1 : Code := { maxStack := 3, maxLocals := 7, code := code, exceptionTable := #[], attributes := #[] }
def k1m1 : Method := { name := "law", desc := "(I)Z", sig := { parameters := [.int], returnType := some .boolean }, accessFlags := 9, code := some k1c1 }
/-- com/example/firm_store/firmstore/OperatorIsPatternPinLaw -/
def k1 : Class := { plain "com/example/firm_store/firmstore/OperatorIsPatternPinLaw" (some 0) with
  accessFlags := 49
  interfaces := #[]
  cf := some (fileOf pool1 50 #[] #[{ accessFlags := 2, nameIndex := 5, descriptorIndex := 6, attributes := #[] }, { accessFlags := 9, nameIndex := 54, descriptorIndex := 55, attributes := #[] }] 49 2 #[] #[])
  fields := #[]
  methods := #[k1m0, k1m1]
  instanceTypes := #[]
  staticTypes := #[]
  resolved := Array.replicate 61 none
  statics := none }

def pool2 : Array CpInfo := pool [(1, .class_ 2), (0, u "java/lang/constant/Constable"), (0, .class_ 4), (0, u "java/lang/Object")] 6

/-- java/lang/constant/Constable -/
def k2 : Class := { plain "java/lang/constant/Constable" (some 0) with
  accessFlags := 1537
  interfaces := #[]
  cf := some (fileOf pool2 1 #[] #[] 1537 3 #[] #[])
  fields := #[]
  methods := #[]
  instanceTypes := #[]
  staticTypes := #[]
  resolved := Array.replicate 11 none
  statics := none }

def pool3 : Array CpInfo := pool [(1, .class_ 2), (0, u "java/lang/Comparable"), (0, .class_ 4), (0, u "java/lang/Object")] 7

/-- java/lang/Comparable -/
def k3 : Class := { plain "java/lang/Comparable" (some 0) with
  accessFlags := 1537
  interfaces := #[]
  cf := some (fileOf pool3 1 #[] #[] 1537 3 #[] #[])
  fields := #[]
  methods := #[]
  instanceTypes := #[]
  staticTypes := #[]
  resolved := Array.replicate 12 none
  statics := none }

def pool4 : Array CpInfo := pool [(1, .class_ 2), (0, u "java/io/Serializable"), (0, .class_ 4), (0, u "java/lang/Object")] 2

/-- java/io/Serializable -/
def k4 : Class := { plain "java/io/Serializable" (some 0) with
  accessFlags := 1537
  interfaces := #[]
  cf := some (fileOf pool4 1 #[] #[] 1537 3 #[] #[])
  fields := #[]
  methods := #[]
  instanceTypes := #[]
  staticTypes := #[]
  resolved := Array.replicate 7 none
  statics := none }

def pool5 : Array CpInfo := pool [(2, .class_ 4), (1, u "java/lang/Enum"), (0, u "name"), (0, u "Ljava/lang/String;"), (2, u "ordinal"), (0, u "I"), (1, .class_ 14), (1, u "java/lang/Object"), (4, u "hash"), (86, .class_ 108), (1, u "java/lang/Enum$EnumDesc"), (2, .class_ 112), (0, u "java/lang/constant/Constable"), (0, .class_ 114), (0, u "java/lang/Comparable"), (0, .class_ 116), (0, u "java/io/Serializable")] 87

/-- java/lang/Enum -/
def k5 : Class := { plain "java/lang/Enum" (some 0) with
  accessFlags := 1057
  interfaces := #[2, 3, 4]
  cf := some (fileOf pool5 2 #[.nestMembers #[106]] #[] 1057 12 #[111, 113, 115] #[{ accessFlags := 18, nameIndex := 5, descriptorIndex := 6, attributes := #[] }, { accessFlags := 18, nameIndex := 9, descriptorIndex := 10, attributes := #[] }, { accessFlags := 2, nameIndex := 19, descriptorIndex := 10, attributes := #[] }])
  fields := #[{ name := "name", type := (.object "java/lang/String"), accessFlags := 18, slot := 0, constantValue := 0 }, { name := "ordinal", type := .int, accessFlags := 18, slot := 1, constantValue := 0 }, { name := "hash", type := .int, accessFlags := 2, slot := 2, constantValue := 0 }]
  methods := #[]
  instanceTypes := #[(.object "java/lang/String"), .int, .int]
  staticTypes := #[]
  resolved := Array.replicate 204 none
  statics := none }

def pool6 : Array CpInfo := pool [(1, .class_ 2), (0, u "com/example/firm_store/firmstore/Operator"), (2, u "EQ"), (0, u "Lcom/example/firm_store/firmstore/Operator;"), (2, u "NE"), (2, u "LT"), (2, u "LE"), (2, u "GT"), (2, u "GE"), (0, .fieldref 1 23), (0, .nameAndType 24 6), (0, u "LIKE"), (0, .fieldref 1 26), (0, .nameAndType 27 6), (0, u "ILIKE"), (2, u "$VALUES"), (0, u "[Lcom/example/firm_store/firmstore/Operator;"), (6, .class_ 40), (1, u "java/lang/Enum"), (6, .fieldref 1 48), (0, .nameAndType 49 50), (0, u "sql"), (0, u "Ljava/lang/String;"), (58, u "()Ljava/lang/String;"), (0, u "isPattern"), (0, u "()Z")] 23

def k6c0 : Code := { maxStack := 1, maxLocals := 1, code := prog_10_method_4_code, exceptionTable := #[], attributes := #[] }
def k6m0 : Method := { name := "sql", desc := "()Ljava/lang/String;", sig := { parameters := [], returnType := some (.object "java/lang/String") }, accessFlags := 0, code := some k6c0 }
def k6c1 : Code := { maxStack := 2, maxLocals := 1, code := prog_10_method_5_code, exceptionTable := #[], attributes := #[] }
def k6m1 : Method := { name := "isPattern", desc := "()Z", sig := { parameters := [], returnType := some .boolean }, accessFlags := 0, code := some k6c1 }
/-- com/example/firm_store/firmstore/Operator -/
def k6 : Class := { plain "com/example/firm_store/firmstore/Operator" (some 5) with
  accessFlags := 16433
  interfaces := #[]
  cf := some (fileOf pool6 1 #[] #[{ accessFlags := 0, nameIndex := 49, descriptorIndex := 109, attributes := #[] }, { accessFlags := 0, nameIndex := 110, descriptorIndex := 111, attributes := #[] }] 16433 38 #[] #[{ accessFlags := 16409, nameIndex := 5, descriptorIndex := 6, attributes := #[] }, { accessFlags := 16409, nameIndex := 9, descriptorIndex := 6, attributes := #[] }, { accessFlags := 16409, nameIndex := 12, descriptorIndex := 6, attributes := #[] }, { accessFlags := 16409, nameIndex := 15, descriptorIndex := 6, attributes := #[] }, { accessFlags := 16409, nameIndex := 18, descriptorIndex := 6, attributes := #[] }, { accessFlags := 16409, nameIndex := 21, descriptorIndex := 6, attributes := #[] }, { accessFlags := 16409, nameIndex := 24, descriptorIndex := 6, attributes := #[] }, { accessFlags := 16409, nameIndex := 27, descriptorIndex := 6, attributes := #[] }, { accessFlags := 18, nameIndex := 49, descriptorIndex := 50, attributes := #[] }, { accessFlags := 4122, nameIndex := 30, descriptorIndex := 31, attributes := #[] }])
  fields := #[{ name := "EQ", type := (.object "com/example/firm_store/firmstore/Operator"), accessFlags := 16409, slot := 0, constantValue := 0 }, { name := "NE", type := (.object "com/example/firm_store/firmstore/Operator"), accessFlags := 16409, slot := 1, constantValue := 0 }, { name := "LT", type := (.object "com/example/firm_store/firmstore/Operator"), accessFlags := 16409, slot := 2, constantValue := 0 }, { name := "LE", type := (.object "com/example/firm_store/firmstore/Operator"), accessFlags := 16409, slot := 3, constantValue := 0 }, { name := "GT", type := (.object "com/example/firm_store/firmstore/Operator"), accessFlags := 16409, slot := 4, constantValue := 0 }, { name := "GE", type := (.object "com/example/firm_store/firmstore/Operator"), accessFlags := 16409, slot := 5, constantValue := 0 }, { name := "LIKE", type := (.object "com/example/firm_store/firmstore/Operator"), accessFlags := 16409, slot := 6, constantValue := 0 }, { name := "ILIKE", type := (.object "com/example/firm_store/firmstore/Operator"), accessFlags := 16409, slot := 7, constantValue := 0 }, { name := "sql", type := (.object "java/lang/String"), accessFlags := 18, slot := 3, constantValue := 0 }, { name := "$VALUES", type := (.array (.object "com/example/firm_store/firmstore/Operator")), accessFlags := 4122, slot := 8, constantValue := 0 }]
  methods := #[k6m0, k6m1]
  instanceTypes := #[(.object "java/lang/String"), .int, .int, (.object "java/lang/String")]
  staticTypes := #[(.object "com/example/firm_store/firmstore/Operator"), (.object "com/example/firm_store/firmstore/Operator"), (.object "com/example/firm_store/firmstore/Operator"), (.object "com/example/firm_store/firmstore/Operator"), (.object "com/example/firm_store/firmstore/Operator"), (.object "com/example/firm_store/firmstore/Operator"), (.object "com/example/firm_store/firmstore/Operator"), (.object "com/example/firm_store/firmstore/Operator"), (.array (.object "com/example/firm_store/firmstore/Operator"))]
  resolved := Array.replicate 135 none
  statics := some 0 }

def pool7 : Array CpInfo := pool [(2, .class_ 4), (1, u "java/lang/CharSequence"), (42, .class_ 48), (0, u "java/lang/CharSequence$1CodePointIterator"), (10, .class_ 60), (0, u "java/lang/CharSequence$1CharIterator"), (5, .class_ 67), (0, u "java/lang/Object")] 63

/-- java/lang/CharSequence -/
def k7 : Class := { plain "java/lang/CharSequence" (some 0) with
  accessFlags := 1537
  interfaces := #[]
  cf := some (fileOf pool7 2 #[.nestMembers #[47, 59]] #[] 1537 66 #[] #[])
  fields := #[]
  methods := #[]
  instanceTypes := #[]
  staticTypes := #[]
  resolved := Array.replicate 131 none
  statics := none }

def pool8 : Array CpInfo := pool [(1, .class_ 2), (0, u "java/lang/constant/ConstantDesc"), (0, .class_ 4), (0, u "java/lang/Object")] 32

/-- java/lang/constant/ConstantDesc -/
def k8 : Class := { plain "java/lang/constant/ConstantDesc" (some 0) with
  accessFlags := 1537
  interfaces := #[]
  cf := some (fileOf pool8 1 #[] #[] 1537 3 #[] #[])
  fields := #[]
  methods := #[]
  instanceTypes := #[]
  staticTypes := #[]
  resolved := Array.replicate 37 none
  statics := none }

def pool9 : Array CpInfo := pool [(2, .class_ 4), (1, u "java/lang/Object"), (0, u "<init>"), (0, u "()V"), (2, .fieldref 10 11), (0, .class_ 12), (0, .nameAndType 13 14), (0, u "java/lang/String"), (0, u "value"), (0, u "[B"), (0, .fieldref 10 16), (0, .nameAndType 17 18), (0, u "coder"), (0, u "B"), (2, u "hash"), (0, u "I"), (2, u "hashIsZero"), (0, u "Z"), (11, .fieldref 10 39), (0, .nameAndType 40 26), (0, u "COMPACT_STRINGS"), (66, .class_ 109), (1, u "java/lang/StringLatin1"), (431, .methodref 107 542), (0, .nameAndType 543 544), (0, u "equals"), (0, u "([B[B)Z"), (28, u "(Ljava/lang/Object;)Z"), (1, .class_ 576), (0, u "java/lang/CharSequence"), (22, u "CASE_INSENSITIVE_ORDER"), (0, u "Ljava/util/Comparator;"), (500, u "serialPersistentFields"), (0, u "[Ljava/io/ObjectStreamField;"), (0, .class_ 1104), (0, u "java/lang/String$CaseInsensitiveComparator"), (1, .class_ 1107), (0, u "java/io/Serializable"), (0, .class_ 1109), (0, u "java/lang/Comparable"), (0, .class_ 1111), (0, u "java/lang/constant/Constable"), (0, .class_ 1113), (0, u "java/lang/constant/ConstantDesc"), (2, u "serialVersionUID"), (0, u "J"), (3, u "REPL"), (0, u "C"), (2, u "LATIN1"), (1, u "UTF16")] 323

def k9m0 : Method := { name := "<init>", desc := "()V", sig := { parameters := [], returnType := none }, accessFlags := 1, code := none }
def k9c1 : Code := { maxStack := 2, maxLocals := 3, code := jdk_42_method_66_code, exceptionTable := #[], attributes := #[] }
def k9m1 : Method := { name := "equals", desc := "(Ljava/lang/Object;)Z", sig := { parameters := [(.object "java/lang/Object")], returnType := some .boolean }, accessFlags := 1, code := some k9c1 }
/-- java/lang/String -/
def k9 : Class := { plain "java/lang/String" (some 0) with
  accessFlags := 49
  interfaces := #[4, 3, 7, 2, 8]
  cf := some (fileOf pool9 10 #[.nestMembers #[1103]] #[{ accessFlags := 1, nameIndex := 5, descriptorIndex := 6, attributes := #[] }, { accessFlags := 1, nameIndex := 543, descriptorIndex := 573, attributes := #[] }] 49 2 #[1106, 1108, 575, 1110, 1112] #[{ accessFlags := 18, nameIndex := 13, descriptorIndex := 14, attributes := #[] }, { accessFlags := 18, nameIndex := 17, descriptorIndex := 18, attributes := #[] }, { accessFlags := 2, nameIndex := 21, descriptorIndex := 22, attributes := #[] }, { accessFlags := 2, nameIndex := 25, descriptorIndex := 26, attributes := #[] }, { accessFlags := 26, nameIndex := 1116, descriptorIndex := 1117, attributes := #[] }, { accessFlags := 24, nameIndex := 40, descriptorIndex := 26, attributes := #[] }, { accessFlags := 26, nameIndex := 1101, descriptorIndex := 1102, attributes := #[] }, { accessFlags := 26, nameIndex := 1121, descriptorIndex := 1122, attributes := #[] }, { accessFlags := 25, nameIndex := 599, descriptorIndex := 600, attributes := #[] }, { accessFlags := 24, nameIndex := 1125, descriptorIndex := 18, attributes := #[] }, { accessFlags := 24, nameIndex := 1127, descriptorIndex := 18, attributes := #[] }])
  fields := #[{ name := "value", type := (.array .byte), accessFlags := 18, slot := 0, constantValue := 0 }, { name := "coder", type := .byte, accessFlags := 18, slot := 1, constantValue := 0 }, { name := "hash", type := .int, accessFlags := 2, slot := 2, constantValue := 0 }, { name := "hashIsZero", type := .boolean, accessFlags := 2, slot := 3, constantValue := 0 }, { name := "serialVersionUID", type := .long, accessFlags := 26, slot := 0, constantValue := 0 }, { name := "COMPACT_STRINGS", type := .boolean, accessFlags := 24, slot := 1, constantValue := 0 }, { name := "serialPersistentFields", type := (.array (.object "java/io/ObjectStreamField")), accessFlags := 26, slot := 2, constantValue := 0 }, { name := "REPL", type := .char, accessFlags := 26, slot := 3, constantValue := 0 }, { name := "CASE_INSENSITIVE_ORDER", type := (.object "java/util/Comparator"), accessFlags := 25, slot := 4, constantValue := 0 }, { name := "LATIN1", type := .byte, accessFlags := 24, slot := 5, constantValue := 0 }, { name := "UTF16", type := .byte, accessFlags := 24, slot := 6, constantValue := 0 }]
  methods := #[k9m0, k9m1]
  instanceTypes := #[(.array .byte), .byte, .int, .boolean]
  staticTypes := #[.long, .boolean, (.array (.object "java/io/ObjectStreamField")), .char, (.object "java/util/Comparator"), .byte, .byte]
  resolved := Array.replicate 1451 none
  statics := some 1 }

def pool10 : Array CpInfo := pool [(4, .class_ 6), (1, u "java/lang/Object"), (0, u "<init>"), (0, u "()V"), (5, .class_ 16), (1, u "java/lang/StringLatin1"), (104, u "$assertionsDisabled"), (0, u "Z"), (98, .class_ 223), (1, u "java/lang/StringLatin1$LinesSpliterator"), (57, u "equals"), (0, u "([B[B)Z"), (107, .class_ 391), (0, u "java/lang/StringLatin1$CharsSpliterator")] 3

def k10m0 : Method := { name := "<init>", desc := "()V", sig := { parameters := [], returnType := none }, accessFlags := 0, code := none }
def k10c1 : Code := { maxStack := 3, maxLocals := 3, code := jdk_43_method_13_code, exceptionTable := #[], attributes := #[] }
def k10m1 : Method := { name := "equals", desc := "([B[B)Z", sig := { parameters := [(.array .byte), (.array .byte)], returnType := some .boolean }, accessFlags := 9, code := some k10c1 }
/-- java/lang/StringLatin1 -/
def k10 : Class := { plain "java/lang/StringLatin1" (some 0) with
  accessFlags := 48
  interfaces := #[]
  cf := some (fileOf pool10 14 #[.nestMembers #[390, 221]] #[{ accessFlags := 0, nameIndex := 7, descriptorIndex := 8, attributes := #[] }, { accessFlags := 9, nameIndex := 281, descriptorIndex := 282, attributes := #[] }] 48 4 #[] #[{ accessFlags := 4120, nameIndex := 121, descriptorIndex := 122, attributes := #[] }])
  fields := #[{ name := "$assertionsDisabled", type := .boolean, accessFlags := 4120, slot := 0, constantValue := 0 }]
  methods := #[k10m0, k10m1]
  instanceTypes := #[]
  staticTypes := #[.boolean]
  resolved := Array.replicate 395 none
  statics := none }

def pool11 : Array CpInfo := pool [(2, .class_ 4), (1, u "java/lang/Object"), (0, u "<init>"), (0, u "()V"), (17, .class_ 26), (1, u "jdk/internal/util/Preconditions"), (28, .class_ 56), (0, u "jdk/internal/util/Preconditions$4"), (57, .class_ 115), (0, u "jdk/internal/util/Preconditions$1"), (7, u "SIOOBE_FORMATTER"), (0, u "Ljava/util/function/BiFunction;"), (0, .class_ 126), (0, u "jdk/internal/util/Preconditions$2"), (3, u "AIOOBE_FORMATTER"), (0, .class_ 132), (0, u "jdk/internal/util/Preconditions$3"), (3, u "IOOBE_FORMATTER")] 57

def k11m0 : Method := { name := "<init>", desc := "()V", sig := { parameters := [], returnType := none }, accessFlags := 1, code := none }
/-- jdk/internal/util/Preconditions -/
def k11 : Class := { plain "jdk/internal/util/Preconditions" (some 0) with
  accessFlags := 33
  interfaces := #[]
  cf := some (fileOf pool11 24 #[.nestMembers #[55, 131, 125, 114]] #[{ accessFlags := 1, nameIndex := 5, descriptorIndex := 6, attributes := #[] }] 33 2 #[] #[{ accessFlags := 25, nameIndex := 123, descriptorIndex := 124, attributes := #[] }, { accessFlags := 25, nameIndex := 130, descriptorIndex := 124, attributes := #[] }, { accessFlags := 25, nameIndex := 136, descriptorIndex := 124, attributes := #[] }])
  fields := #[{ name := "SIOOBE_FORMATTER", type := (.object "java/util/function/BiFunction"), accessFlags := 25, slot := 0, constantValue := 0 }, { name := "AIOOBE_FORMATTER", type := (.object "java/util/function/BiFunction"), accessFlags := 25, slot := 1, constantValue := 0 }, { name := "IOOBE_FORMATTER", type := (.object "java/util/function/BiFunction"), accessFlags := 25, slot := 2, constantValue := 0 }]
  methods := #[k11m0]
  instanceTypes := #[]
  staticTypes := #[(.object "java/util/function/BiFunction"), (.object "java/util/function/BiFunction"), (.object "java/util/function/BiFunction")]
  resolved := Array.replicate 194 none
  statics := some 2 }

def pool12 : Array CpInfo := pool [(9, u "<init>"), (6, .class_ 18), (1, u "java/lang/Object"), (0, u "()V"), (1, .class_ 23), (1, u "jdk/internal/util/ArraysSupport"), (0, u "LOG2_ARRAY_LONG_INDEX_SCALE"), (0, u "I"), (2, u "U"), (0, u "Ljdk/internal/misc/Unsafe;"), (8, u "BIG_ENDIAN"), (0, u "Z"), (8, u "LOG2_BYTE_BIT_SIZE"), (4, u "LOG2_ARRAY_INT_INDEX_SCALE"), (54, u "JLA"), (0, u "Ljdk/internal/access/JavaLangAccess;"), (11, u "LOG2_ARRAY_BOOLEAN_INDEX_SCALE"), (9, u "LOG2_ARRAY_BYTE_INDEX_SCALE"), (5, u "LOG2_ARRAY_CHAR_INDEX_SCALE"), (5, u "LOG2_ARRAY_SHORT_INDEX_SCALE"), (18, u "LOG2_ARRAY_FLOAT_INDEX_SCALE"), (24, u "LOG2_ARRAY_DOUBLE_INDEX_SCALE"), (89, u "T_BOOLEAN"), (2, u "T_CHAR"), (1, u "T_FLOAT"), (1, u "T_DOUBLE"), (1, u "T_BYTE"), (1, u "T_SHORT"), (1, u "T_INT"), (1, u "T_LONG"), (1, u "SOFT_MAX_ARRAY_LENGTH")] 83

def k12m0 : Method := { name := "<init>", desc := "()V", sig := { parameters := [], returnType := none }, accessFlags := 2, code := none }
/-- jdk/internal/util/ArraysSupport -/
def k12 : Class := { plain "jdk/internal/util/ArraysSupport" (some 0) with
  accessFlags := 33
  interfaces := #[]
  cf := some (fileOf pool12 21 #[] #[{ accessFlags := 2, nameIndex := 9, descriptorIndex := 19, attributes := #[] }] 33 16 #[] #[{ accessFlags := 24, nameIndex := 28, descriptorIndex := 29, attributes := #[] }, { accessFlags := 26, nameIndex := 38, descriptorIndex := 39, attributes := #[] }, { accessFlags := 25, nameIndex := 121, descriptorIndex := 25, attributes := #[] }, { accessFlags := 25, nameIndex := 131, descriptorIndex := 25, attributes := #[] }, { accessFlags := 25, nameIndex := 137, descriptorIndex := 25, attributes := #[] }, { accessFlags := 25, nameIndex := 143, descriptorIndex := 25, attributes := #[] }, { accessFlags := 25, nameIndex := 53, descriptorIndex := 25, attributes := #[] }, { accessFlags := 25, nameIndex := 24, descriptorIndex := 25, attributes := #[] }, { accessFlags := 25, nameIndex := 162, descriptorIndex := 25, attributes := #[] }, { accessFlags := 25, nameIndex := 187, descriptorIndex := 25, attributes := #[] }, { accessFlags := 26, nameIndex := 48, descriptorIndex := 25, attributes := #[] }, { accessFlags := 25, nameIndex := 277, descriptorIndex := 25, attributes := #[] }, { accessFlags := 25, nameIndex := 280, descriptorIndex := 25, attributes := #[] }, { accessFlags := 25, nameIndex := 282, descriptorIndex := 25, attributes := #[] }, { accessFlags := 25, nameIndex := 284, descriptorIndex := 25, attributes := #[] }, { accessFlags := 25, nameIndex := 286, descriptorIndex := 25, attributes := #[] }, { accessFlags := 25, nameIndex := 288, descriptorIndex := 25, attributes := #[] }, { accessFlags := 25, nameIndex := 290, descriptorIndex := 25, attributes := #[] }, { accessFlags := 25, nameIndex := 292, descriptorIndex := 25, attributes := #[] }, { accessFlags := 26, nameIndex := 108, descriptorIndex := 109, attributes := #[] }, { accessFlags := 25, nameIndex := 294, descriptorIndex := 25, attributes := #[] }])
  fields := #[{ name := "U", type := (.object "jdk/internal/misc/Unsafe"), accessFlags := 24, slot := 0, constantValue := 0 }, { name := "BIG_ENDIAN", type := .boolean, accessFlags := 26, slot := 1, constantValue := 0 }, { name := "LOG2_ARRAY_BOOLEAN_INDEX_SCALE", type := .int, accessFlags := 25, slot := 2, constantValue := 0 }, { name := "LOG2_ARRAY_BYTE_INDEX_SCALE", type := .int, accessFlags := 25, slot := 3, constantValue := 0 }, { name := "LOG2_ARRAY_CHAR_INDEX_SCALE", type := .int, accessFlags := 25, slot := 4, constantValue := 0 }, { name := "LOG2_ARRAY_SHORT_INDEX_SCALE", type := .int, accessFlags := 25, slot := 5, constantValue := 0 }, { name := "LOG2_ARRAY_INT_INDEX_SCALE", type := .int, accessFlags := 25, slot := 6, constantValue := 0 }, { name := "LOG2_ARRAY_LONG_INDEX_SCALE", type := .int, accessFlags := 25, slot := 7, constantValue := 0 }, { name := "LOG2_ARRAY_FLOAT_INDEX_SCALE", type := .int, accessFlags := 25, slot := 8, constantValue := 0 }, { name := "LOG2_ARRAY_DOUBLE_INDEX_SCALE", type := .int, accessFlags := 25, slot := 9, constantValue := 0 }, { name := "LOG2_BYTE_BIT_SIZE", type := .int, accessFlags := 26, slot := 10, constantValue := 0 }, { name := "T_BOOLEAN", type := .int, accessFlags := 25, slot := 11, constantValue := 0 }, { name := "T_CHAR", type := .int, accessFlags := 25, slot := 12, constantValue := 0 }, { name := "T_FLOAT", type := .int, accessFlags := 25, slot := 13, constantValue := 0 }, { name := "T_DOUBLE", type := .int, accessFlags := 25, slot := 14, constantValue := 0 }, { name := "T_BYTE", type := .int, accessFlags := 25, slot := 15, constantValue := 0 }, { name := "T_SHORT", type := .int, accessFlags := 25, slot := 16, constantValue := 0 }, { name := "T_INT", type := .int, accessFlags := 25, slot := 17, constantValue := 0 }, { name := "T_LONG", type := .int, accessFlags := 25, slot := 18, constantValue := 0 }, { name := "JLA", type := (.object "jdk/internal/access/JavaLangAccess"), accessFlags := 26, slot := 19, constantValue := 0 }, { name := "SOFT_MAX_ARRAY_LENGTH", type := .int, accessFlags := 25, slot := 20, constantValue := 0 }]
  methods := #[k12m0]
  instanceTypes := #[]
  staticTypes := #[(.object "jdk/internal/misc/Unsafe"), .boolean, .int, .int, .int, .int, .int, .int, .int, .int, .int, .int, .int, .int, .int, .int, .int, .int, .int, (.object "jdk/internal/access/JavaLangAccess"), .int]
  resolved := Array.replicate 378 none
  statics := none }

def pool13 : Array CpInfo := pool [(1, u "java/lang/Cloneable"), (0, .class_ 1), (0, u "java/lang/Object"), (0, .class_ 3)] 3

/-- java/lang/Cloneable -/
def k13 : Class := { plain "java/lang/Cloneable" (some 0) with
  accessFlags := 1537
  interfaces := #[]
  cf := some (fileOf pool13 2 #[] #[] 1537 4 #[] #[])
  fields := #[]
  methods := #[]
  instanceTypes := #[]
  staticTypes := #[]
  resolved := Array.replicate 8 none
  statics := none }

/-- the primitive byte -/
def k14 : Class := { plain "byte" none with kind := .primitive 'B', accessFlags := 0x411 }
/-- [B -/
def k15 : Class := { plain "[B" (some 0) with kind := .array 14 .byte, interfaces := #[13, 4], accessFlags := 1041 }

/-- the primitive int -/
def k16 : Class := { plain "int" none with kind := .primitive 'I', accessFlags := 0x411 }
/-- [I -/
def k17 : Class := { plain "[I" (some 0) with kind := .array 16 .int, interfaces := #[13, 4], accessFlags := 1041 }

/-- [Lcom/example/firm_store/firmstore/Operator; -/
def k18 : Class := { plain "[Lcom/example/firm_store/firmstore/Operator;" (some 0) with kind := .array 6 (.object "com/example/firm_store/firmstore/Operator"), interfaces := #[13, 4], accessFlags := 1041 }

def heap : Heap := #[{ cls := 6, slots := #[.ref 3, .ref 4, .ref 5, .ref 6, .ref 7, .ref 8, .ref 9, .ref 10, .null], vm := .statics 6 },
  { cls := 9, slots := #[.long 0, .int 1, .null, .int 0, .null, .int 0, .int 0], vm := .statics 9 },
  { cls := 11, slots := #[.null, .null, .null], vm := .statics 11 },
  { cls := 6, slots := #[.null, .int 0, .int 0, .ref 11], vm := .none },
  { cls := 6, slots := #[.null, .int 1, .int 0, .ref 12], vm := .none },
  { cls := 6, slots := #[.null, .int 2, .int 0, .ref 13], vm := .none },
  { cls := 6, slots := #[.null, .int 3, .int 0, .ref 14], vm := .none },
  { cls := 6, slots := #[.null, .int 4, .int 0, .ref 15], vm := .none },
  { cls := 6, slots := #[.null, .int 5, .int 0, .ref 16], vm := .none },
  { cls := 6, slots := #[.null, .int 6, .int 0, .ref 17], vm := .none },
  { cls := 6, slots := #[.null, .int 7, .int 0, .ref 17], vm := .none },
  { cls := 9, slots := #[.ref 18, .int 0, .int 0, .int 0], vm := .none },
  { cls := 9, slots := #[.ref 19, .int 0, .int 0, .int 0], vm := .none },
  { cls := 9, slots := #[.ref 20, .int 0, .int 0, .int 0], vm := .none },
  { cls := 9, slots := #[.ref 21, .int 0, .int 0, .int 0], vm := .none },
  { cls := 9, slots := #[.ref 22, .int 0, .int 0, .int 0], vm := .none },
  { cls := 9, slots := #[.ref 23, .int 0, .int 0, .int 0], vm := .none },
  { cls := 9, slots := #[.ref 24, .int 0, .int 0, .int 0], vm := .none },
  { cls := 15, slots := #[.int 61], vm := .none },
  { cls := 15, slots := #[.int 60, .int 62], vm := .none },
  { cls := 15, slots := #[.int 60], vm := .none },
  { cls := 15, slots := #[.int 60, .int 61], vm := .none },
  { cls := 15, slots := #[.int 62], vm := .none },
  { cls := 15, slots := #[.int 62, .int 61], vm := .none },
  { cls := 15, slots := #[.int 108, .int 105, .int 107, .int 101], vm := .none }]
def classes : Array Class := #[k0, k1, k2, k3, k4, k5, k6, k7, k8, k9, k10, k11, k12, k13, k14, k15, k16, k17, k18]
def interned : List (Array UInt16 × Addr) := []
def slotsUsed : Nat := 92
def theMethod : MethodId := ⟨1, 1⟩
def args0 : Array Value := #[.int 3]
def aboutOver (below : List Frame) : State where
  vm := { classes := classes, interned := interned.toArray }
  heap := heap
  slotsUsed := slotsUsed
  threads := #[{ frames := .invoking theMethod args0 :: below }]
def below0 : List Frame := [.native { method := ⟨0, 0⟩, args := #[] }]
def about1 : State := aboutOver below0
def p0 : Program := .bare "" "" ""
def e0 : Env := launch0.env 0 0 0
theorem w_frames : about1.frames = Frame.invoking theMethod args0 :: below0 := rfl
set_option maxRecDepth 65536 in
theorem w_args : argsFit about1.vm theMethod args0 = true := by decide +kernel
set_option maxRecDepth 65536 in
theorem w_heap : heapFits about1 = true := by decide +kernel
set_option maxRecDepth 65536 in
theorem w_runnable : about1.curStatus? = some .runnable := by decide +kernel
set_option maxRecDepth 65536 in
theorem w_alone : about1.alone = true := by decide +kernel
set_option maxRecDepth 65536 in
theorem w_named : about1.methodNamed? x = some theMethod := by decide +kernel
set_option maxRecDepth 65536 in
theorem w_hears : about1.hears theMethod below0 = true := by decide +kernel
set_option maxRecDepth 65536 in
theorem w_ripe : about1.ripe theMethod args0 below0 = true := by decide +kernel
theorem w_running : about1.status = .running := rfl
set_option maxRecDepth 65536 in
theorem w_room : about1.hasRoom e0.platform room_1 = true :=
  launch0.hasRoom_least _ room_1 (by decide +kernel) (by decide +kernel) (by decide +kernel) (by decide +kernel) (by decide +kernel) (by decide +kernel)
theorem allAtoms_all (ts : List Jvm.Cond) (a : Array Jvm.Value) (st : Jvm.State) : (allAtoms ts).before a st = ts.all (fun c => c.before a st) := by
  induction ts with
  | nil => rfl
  | cons c t ih =>
    show (Jvm.Cond.and c (allAtoms t)).before a st = _
    rw [Jvm.Cond.before_and, ih, List.all_cons]
def words1 : List Jvm.Cond := Jvm.Cond.code x code maxLocals ret :: tables_1
/-- a 'code' word, met by the world's own term for the bytes: nothing is compared byte by byte -/
theorem code_word {y : MethodName} {bytes : ByteArray} {mx : Nat} {rt : Option FieldType} {a : Array Value} {s : State} {m : MethodId} {meth : Method} {c : Code} (h1 : s.methodNamed? y = some m) (h2 : s.vm.method? m = some meth) (h3 : meth.code = some c) (h4 : c.code = bytes)
    (h5 : (c.maxLocals == mx && c.exceptionTable.isEmpty && decide (c.maxStack ≤ mostOperands) && decide (meth.sig.returnType = rt) && !meth.locks && decide (parseMethodDescriptor y.desc = some meth.sig)) = true) : (Jvm.Cond.code y bytes mx rt).before a s = true := by
  simp only [Bool.and_eq_true, beq_iff_eq, Bool.not_eq_true', decide_eq_true_eq] at h5
  obtain ⟨⟨⟨⟨⟨g1, g2⟩, g3⟩, g4⟩, g5⟩, g6⟩ := h5
  simp [Cond.before, Cond.holds, Cond.value, h1, h2, h3, h4, g1, g2, g3, g4, g5, g6]
def isCode : Jvm.Cond → Bool
  | .code _ _ _ _ => true
  | _ => false
theorem all_split {L : List Jvm.Cond} {P : Jvm.Cond → Bool} (h1 : L.all (fun c => isCode c || P c) = true) (h2 : ∀ c ∈ L.filter isCode, P c = true) : L.all P = true := by
  refine List.all_eq_true.mpr fun c hc => ?_
  have h := List.all_eq_true.mp h1 c hc
  rcases Bool.eq_false_or_eq_true (isCode c) with hi | hi
  · exact h2 c (List.mem_filter.mpr ⟨hc, hi⟩)
  · simpa [hi] using h
set_option maxRecDepth 65536 in
theorem w_c0 : (Jvm.Cond.code x code maxLocals ret).before args0 about1 = true := code_word (m := ⟨1, 1⟩) (meth := k1m1) (c := k1c1) (by decide +kernel) rfl rfl rfl (by decide +kernel)
set_option maxRecDepth 65536 in
theorem w_c1 : (Jvm.Cond.code ({ cls := "com/example/firm_store/firmstore/Operator", name := "isPattern", desc := "()Z" } : Jvm.MethodName) prog_10_method_5_code (1 : Nat) (Option.some Jvm.ClassFile.FieldType.boolean)).before args0 about1 = true := code_word (m := ⟨6, 1⟩) (meth := k6m1) (c := k6c1) (by decide +kernel) rfl rfl rfl (by decide +kernel)
set_option maxRecDepth 65536 in
theorem w_c2 : (Jvm.Cond.code ({ cls := "com/example/firm_store/firmstore/Operator", name := "sql", desc := "()Ljava/lang/String;" } : Jvm.MethodName) prog_10_method_4_code (1 : Nat) (Option.some (Jvm.ClassFile.FieldType.object "java/lang/String"))).before args0 about1 = true := code_word (m := ⟨6, 0⟩) (meth := k6m0) (c := k6c0) (by decide +kernel) rfl rfl rfl (by decide +kernel)
set_option maxRecDepth 65536 in
theorem w_c3 : (Jvm.Cond.code ({ cls := "java/lang/String", name := "equals", desc := "(Ljava/lang/Object;)Z" } : Jvm.MethodName) jdk_42_method_66_code (3 : Nat) (Option.some Jvm.ClassFile.FieldType.boolean)).before args0 about1 = true := code_word (m := ⟨9, 1⟩) (meth := k9m1) (c := k9c1) (by decide +kernel) rfl rfl rfl (by decide +kernel)
set_option maxRecDepth 65536 in
theorem w_c4 : (Jvm.Cond.code ({ cls := "java/lang/StringLatin1", name := "equals", desc := "([B[B)Z" } : Jvm.MethodName) jdk_43_method_13_code (3 : Nat) (Option.some Jvm.ClassFile.FieldType.boolean)).before args0 about1 = true := code_word (m := ⟨10, 1⟩) (meth := k10m1) (c := k10c1) (by decide +kernel) rfl rfl rfl (by decide +kernel)
def codes1 : List Jvm.Cond := [Jvm.Cond.code x code maxLocals ret, Jvm.Cond.code ({ cls := "com/example/firm_store/firmstore/Operator", name := "isPattern", desc := "()Z" } : Jvm.MethodName) prog_10_method_5_code (1 : Nat) (Option.some Jvm.ClassFile.FieldType.boolean), Jvm.Cond.code ({ cls := "com/example/firm_store/firmstore/Operator", name := "sql", desc := "()Ljava/lang/String;" } : Jvm.MethodName) prog_10_method_4_code (1 : Nat) (Option.some (Jvm.ClassFile.FieldType.object "java/lang/String")), Jvm.Cond.code ({ cls := "java/lang/String", name := "equals", desc := "(Ljava/lang/Object;)Z" } : Jvm.MethodName) jdk_42_method_66_code (3 : Nat) (Option.some Jvm.ClassFile.FieldType.boolean), Jvm.Cond.code ({ cls := "java/lang/StringLatin1", name := "equals", desc := "([B[B)Z" } : Jvm.MethodName) jdk_43_method_13_code (3 : Nat) (Option.some Jvm.ClassFile.FieldType.boolean)]
set_option maxRecDepth 65536 in
theorem codes_eq : words1.filter isCode = codes1 := rfl
theorem w_codes : ∀ c ∈ words1.filter isCode, c.before args0 about1 = true := by
  rw [codes_eq]
  intro c hc
  simp only [codes1, List.mem_cons, List.not_mem_nil, or_false] at hc
  rcases hc with rfl | rfl | rfl | rfl | rfl
  · exact w_c0
  · exact w_c1
  · exact w_c2
  · exact w_c3
  · exact w_c4
set_option maxRecDepth 65536 in
theorem w_t1 : (words1.take 24).all (fun c => isCode c || c.before args0 about1) = true := by decide +kernel
set_option maxRecDepth 65536 in
theorem w_t2 : ((words1.drop 24).take 24).all (fun c => isCode c || c.before args0 about1) = true := by decide +kernel
set_option maxRecDepth 65536 in
theorem w_t3 : ((words1.drop 24).drop 24).all (fun c => isCode c || c.before args0 about1) = true := by decide +kernel
theorem w_tables : (allAtoms (Jvm.Cond.code x code maxLocals ret :: tables_1)).before args0 about1 = true := by
  rw [allAtoms_all]
  show words1.all (fun c => c.before args0 about1) = true
  refine all_split ?_ w_codes
  rw [← List.take_append_drop 24 words1, List.all_append, w_t1, ← List.take_append_drop 24 (words1.drop 24), List.all_append, w_t2, w_t3]
  rfl
set_option maxRecDepth 65536 in
theorem w_rest : rest_1_c.before args0 about1 = true := by decide +kernel
set_option maxRecDepth 65536 in
theorem w_case : (Jvm.Cond.and given_1 narrow_1).before args0 about1 = true := by decide +kernel
set_option maxRecDepth 65536 in
theorem w_consts : constsHeld consts_1 about1 := Jvm.Lit.constsHeldB_iff.mp (by decide +kernel)
theorem w_applies : (headSpec (Jvm.Cond.code x code maxLocals ret :: tables_1) room_1).applies x e0.platform about1 = true :=
  (Spec.applies_iff w_frames).mpr ⟨w_running, w_runnable, w_alone, w_named, w_hears, w_ripe, w_room, w_tables⟩
theorem atStart : AtStart classFile x code maxLocals ret World_1 tables_1 room_1 Calls_1 rest_1 Pre_1 launch0 p0 e0 about1 theMethod args0 below0 :=
  ⟨lists_1, trivial, launch0.admits_env _ _ _, launch0.least_env, fairChoices_fair.cas, fairChoices_fair.clock, w_frames, w_args, w_heap, w_applies, ⟨w_consts, trivial⟩, w_rest, w_case⟩
end start1
theorem witness_1 : WitnessClaimed_1 := ⟨start1.p0, start1.e0, start1.about1, start1.theMethod, start1.args0, start1.below0, start1.atStart⟩
end Jvm.Pilot.@@N@@
