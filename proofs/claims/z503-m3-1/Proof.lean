import JvmDerived
import JvmDerived.Pilot.@@N@@Statement
import JvmDerived.Pilot.@@N@@Code
set_option linter.unusedVariables false
set_option linter.unusedSimpArgs false
namespace Jvm.Pilot.@@N@@
open Jvm Jvm.ClassFile Sem Op Lib Jvm.Free Jvm.Stand Jvm.LawKit Jvm.RoadKit Bundle Jvm.Pilot.@@N@@.Jvm.D
abbrev oM (f c s l : Nat) : Room := { frames := f, cells := c, slots := s, locals := l }
abbrev oT (a0 : Array Value) (Z : State) : Prop := ∀ d ∈ tables_1, d.before a0 Z = true
abbrev oK (l : Launch) (Z : State) (y : MethodName) (b : ByteArray) (k : Nat) (r : Option FieldType) (ws : List Jvm.Cond) (rm : Room) (as : Array Value) (h0 : Heap) (Q : Option Value → Heap → List Loc → Prop) : Prop := MetFree l y (head1 (Jvm.Cond.code y b k r :: ws) rm) (fun a U => a = as ∧ Z.Warmed39 U.vm ∧ U.heap = h0) (fun _ _ _ _ _ => True) (fun _ U o U' => ∃ v L, o = .returned v ∧ Q v U'.heap L ∧ FrameEnd U o U' L rm.cells rm.slots)
abbrev oI (x : Int32) : Slot := .val (.int x)
abbrev oR (x : Addr) : Slot := .val (.ref x)
abbrev oG (p : Program) (e : Env) (below : List Frame) (T : State) (m : MethodId) (n : Nat) (L : Array Slot) (S : List Value) (t : State) : Prop := Steps p.tables e below (T.setTop (mkF m n L S)) t
theorem oW {a0 : Array Value} {Z : State} (hw : ∀ d ∈ tables_1, d.before a0 Z = true) (i : Nat) {d : Jvm.Cond} (h : tables_1[i]? = some d) : d.before a0 Z = true := hw _ (List.mem_of_getElem? h)
def own_l (c : Int32) : Int32 := nar .byte (c.toInt8.toInt32)
def own_b0 (c : Int32) : Int32 := nar .byte ((c >>> ((0 : Int32) &&& 31)).toInt8.toInt32)
def own_b1 (c : Int32) : Int32 := nar .byte ((c >>> ((8 : Int32) &&& 31)).toInt8.toInt32)
def own_R (c : Int32) : Prop := ¬ c < (0 : Int32) ∧ ¬ (65535 : Int32) < c
theorem own_Ri {c : Int32} (r : own_R c) : 0 ≤ c.toInt ∧ c.toInt ≤ 65535 := by
  obtain ⟨h1, h2⟩ := r
  have e0 : (0 : Int32).toInt = 0 := by decide
  have e1 : (65535 : Int32).toInt = 65535 := by decide
  rw [Int32.lt_iff_toInt_lt] at h1 h2
  omega
theorem own_lc {c : Int32} (r : own_R c) (h : ¬ (255 : Int32) < c) : (own_l c &&& (255 : Int32)) = c := by
  have q := own_Ri r
  have e1 : (255 : Int32).toInt = 255 := by decide
  rw [Int32.lt_iff_toInt_lt] at h
  have m := c_mask (own_l c) (255 : Int32) 8 (by decide) (by decide)
  have i1 := c_i2b c
  have i2 := c_i2b c.toInt8.toInt32
  have e : own_l c = c.toInt8.toInt32.toInt8.toInt32 := rfl
  rw [← e] at i2
  rw [← Int32.toInt_inj]; omega
theorem own_b0m {c : Int32} (r : own_R c) : (own_b0 c &&& (255 : Int32)).toInt = c.toInt % 256 := by
  have q := own_Ri r
  have m := c_mask (own_b0 c) (255 : Int32) 8 (by decide) (by decide)
  have s0 := c_ishr c (0 : Int32) 0 (by decide)
  have i1 := c_i2b (c >>> ((0 : Int32) &&& 31))
  have i2 := c_i2b (c >>> ((0 : Int32) &&& 31)).toInt8.toInt32
  have e : own_b0 c = (c >>> ((0 : Int32) &&& 31)).toInt8.toInt32.toInt8.toInt32 := rfl
  rw [← e] at i2
  omega
theorem own_b1m {c : Int32} (r : own_R c) : (own_b1 c &&& (255 : Int32)).toInt = c.toInt / 256 := by
  have q := own_Ri r
  have m := c_mask (own_b1 c) (255 : Int32) 8 (by decide) (by decide)
  have s0 := c_ishr c (8 : Int32) 8 (by decide)
  have i1 := c_i2b (c >>> ((8 : Int32) &&& 31))
  have i2 := c_i2b (c >>> ((8 : Int32) &&& 31)).toInt8.toInt32
  have e : own_b1 c = (c >>> ((8 : Int32) &&& 31)).toInt8.toInt32.toInt8.toInt32 := rfl
  rw [← e] at i2
  omega
theorem own_chc {c : Int32} (r : own_R c) : (((((own_b0 c) &&& (255 : Int32)) <<< ((0 : Int32) &&& 31)) ||| (((own_b1 c) &&& (255 : Int32)) <<< ((8 : Int32) &&& 31))).toUInt32.toUInt16.toUInt32.toInt32) = c := by
  have q := own_Ri r
  have h0 := own_b0m r
  have h1 := own_b1m r
  generalize (own_b0 c &&& (255 : Int32)) = u at *
  generalize (own_b1 c &&& (255 : Int32)) = v at *
  have s0 := c_ishl u (0 : Int32) 0 (by decide)
  have r0 := rng32 (u <<< ((0 : Int32) &&& 31))
  have s1 := c_ishl v (8 : Int32) 8 (by decide)
  have r1 := rng32 (v <<< ((8 : Int32) &&& 31))
  have o := c_or' (u <<< ((0 : Int32) &&& 31)) (v <<< ((8 : Int32) &&& 31)) 8 (by decide) 256 (by decide) (by omega) (by omega) (by omega)
  have ro := rng32 ((u <<< ((0 : Int32) &&& 31)) ||| (v <<< ((8 : Int32) &&& 31)))
  have k := c_i2c ((u <<< ((0 : Int32) &&& 31)) ||| (v <<< ((8 : Int32) &&& 31)))
  rw [← Int32.toInt_inj]; omega
theorem own_narc {c : Int32} (r : own_R c) : nar .char c = c := by
  have q := own_Ri r
  have k := c_i2c c
  show c.toUInt32.toUInt16.toUInt32.toInt32 = c
  rw [← Int32.toInt_inj]; omega
theorem own_safe {Z : State} {EL : List (String × Nat)} {vm : Vm} {h : Heap} {x : Addr} (hal : Z.vm.Alike vm) (E : Exa Z h x "java/lang/String") (G : Fld Z h x "java/lang/String" "value" "[B" .null) : Safe Z EL vm h x := fun B => by
  obtain ⟨cell, k, e1, e2, e3, -, -⟩ := E
  obtain ⟨cell', cf, k', i, f, g1, g2, g3, g4, g5, g6, g7⟩ := G
  cases g1.symm.trans e1
  obtain ⟨p, -, u, a, -, q, -, F, rfl | rfl⟩ := B
  · obtain ⟨cS, ⟨⟨s1, s2, s3, ⟨cv, kv, iv, s4, s4'⟩, s5, s6, s7, s8, -⟩, -⟩, -⟩ := F
    cases (show h[q.sa]? = some q.sC from s1).symm.trans e1
    obtain ⟨kv', z4⟩ := ff_back (U := Wst Z vm h) hal s4
    cases g2.symm.trans z4
    have s8' : q.sC.slots[q.fSV.slot]? = some (.ref q.sd) := s8
    cases g7.symm.trans s8'
  · cases (show h[q.sd]? = some q.SA from F.hd).symm.trans e1
    obtain ⟨cS, -, -, ff, -⟩ := F
    have ff' : vm.findClass "[B" = some q.SA.cls := ff
    rw [hal.findClass] at ff'
    obtain ⟨k1, q1, q2⟩ := Vm.findClass_spec ff'
    obtain ⟨k2, q3, q4⟩ := Vm.findClass_spec e2
    cases q1.symm.trans q3
    exact absurd (q2.symm.trans q4) (by decide)
theorem own_atoms {a0 : Array Value} {Z : State} (hw : oT a0 Z) : ∀ a ∈ Bundle.stringAtoms, a.before a0 Z = true := fun a ha => by
  simp only [Bundle.stringAtoms, List.mem_cons, List.not_mem_nil, or_false] at ha
  rcases ha with rfl | rfl | rfl | rfl | rfl | rfl | rfl
  · exact hw _ (List.mem_of_getElem? (i := 6) rfl)
  · exact hw _ (List.mem_of_getElem? (i := 5) rfl)
  · exact hw _ (List.mem_of_getElem? (i := 23) rfl)
  · exact hw _ (List.mem_of_getElem? (i := 33) rfl)
  · exact hw _ (List.mem_of_getElem? (i := 31) rfl)
  · exact hw _ (List.mem_of_getElem? (i := 35) rfl)
  · exact hw _ (List.mem_of_getElem? (i := 36) rfl)
def own_EL : List (String × Nat) := [("java/lang/String", 7)]
theorem own_ew {a0 : Array Value} {Z : State} (hw : oT a0 Z) : EW Z a0 own_EL := EW.cons (oW hw 34 rfl) (by decide) EW.nil
theorem own_endMono {s u : State} {o : Outcome} {L : List Loc} {k n k' n' : Nat} (h : ReturnedEndW s o u L k n) (hk : k ≤ k') (hn : n ≤ n') : ReturnedEndW s o u L k' n' := ⟨h.1, h.2.1, h.2.2.1, h.2.2.2.mono hk hn⟩
def own_St (Z : State) (cz : Int32) (fm : Value) : Prop := Sta Z Z.heap "java/lang/String" "COMPACT_STRINGS" "Z" (.int cz) ∧ (¬ cz = (0 : Int32)) ∧ Sta Z Z.heap "java/lang/StringUTF16" "$assertionsDisabled" "Z" (.int 1) ∧ Sta Z Z.heap "java/lang/StringUTF16" "HI_BYTE_SHIFT" "I" (.int 0) ∧ Sta Z Z.heap "java/lang/StringUTF16" "LO_BYTE_SHIFT" "I" (.int 8) ∧ Sta Z Z.heap "jdk/internal/util/Preconditions" "SIOOBE_FORMATTER" "Ljava/util/function/BiFunction;" fm ∧ fm.isRef = true
theorem own_pn0 : plainName "com/example/firm_store/firmstore/IdentifiersCompareCodePointsPinLaw" = true := by first | (simp [plainName, overriddenIn]; done) | decide +kernel
theorem own_ef_rmHi (m : MethodId) (x0 : Int32) : entryFrame m #[(.int x0)] 1 = mkF m 0 #[oI x0] [] := by first | (simp [entryFrame, mkF, argsToLocals, Value.category]; done) | rfl
theorem own_d10_0 : decode method_4_code 0 = .ok (.iload_n 0, 1) := by decide +kernel
theorem own_d10_1 : decode method_4_code 1 = .ok (.ldc 7, 2) := by decide +kernel
theorem own_d10_3 : decode method_4_code 3 = .ok (.if_icmp .lt 13, 3) := by decide +kernel
theorem own_d10_16 : decode method_4_code 16 = .ok (.iconst 0, 1) := by decide +kernel
theorem own_d10_17 : decode method_4_code 17 = .ok (.ireturn, 1) := by decide +kernel
theorem own_d10_6 : decode method_4_code 6 = .ok (.iload_n 0, 1) := by decide +kernel
theorem own_d10_7 : decode method_4_code 7 = .ok (.ldc 36, 2) := by decide +kernel
theorem own_d10_9 : decode method_4_code 9 = .ok (.if_icmp .gt 7, 3) := by decide +kernel
theorem own_d10_12 : decode method_4_code 12 = .ok (.iconst 1, 1) := by decide +kernel
theorem own_d10_13 : decode method_4_code 13 = .ok (.goto 4, 3) := by decide +kernel
def own_hi (p1 : Int32) : Int32 := (if p1 < (55296 : Int32) then (0 : Int32) else (if (56319 : Int32) < p1 then (0 : Int32) else (1 : Int32)))
def Q_rmHi (Z : State) (p1 : Int32) (h0 : Heap) (n0 : Nat) (v : Option Value) (h : Heap) (L : List Loc) : Prop := v = some (.int (own_hi p1)) ∧ Fr n0 L ∧ h = h0
set_option maxRecDepth 65536 in
set_option maxHeartbeats 40000000 in
theorem rmHi (l : Launch) (Z : State) (a0 : Array Value) (hw : oT a0 Z) (ws : List Jvm.Cond) (p1 : Int32) (h0 : Heap) (n0 : Nat) (Z0 : n0 ≤ h0.size)  :
    oK l Z (⟨"com/example/firm_store/firmstore/IdentifiersCompareCodePointsPinLaw", "isHigh", "(C)Z"⟩ : MethodName) method_4_code 1 (some .boolean) ws (oM 0 0 0 0) #[(.int p1)] h0 (Q_rmHi Z p1 h0 n0) := by
  refine MetFree.of_bodySF (plainFor_of_name own_pn0) hisR ?_
  intro p e s m args below meth c s₁ Bd hml0 hP hK
  obtain ⟨rfl, hZ, hh⟩ := hP
  have hx := Bd.exec
  have hby := Bd.bytes
  have hml : c.maxLocals = 1 := hml0
  have hown : s.vm.findClass "com/example/firm_store/firmstore/IdentifiersCompareCodePointsPinLaw" = some m.cls := findClass_of_methodNamed Bd.named
  have hnm := (name_of_methodNamed Bd.named Bd.method).1
  have X0 : Stand p l e (oM 0 0 0 0) s m #[(.int p1)] below meth c s₁ [] 0 0 := Stand.of_body Bd
  have e0 : s₁.heap = h0 := by rw [← hh, Bd.state]; rfl
  have N0 := Fr.nil n0
  have R0 : ∀ t, oG p e below s₁ m 0 #[oI p1] [] t → Steps p.tables e below (s₁.setTop (entryFrame m #[(.int p1)] 1)) t := fun t k => castTop (own_ef_rmHi m p1) k
  have R1 : ∀ t, oG p e below s₁ m 3 #[oI p1] [(.int 55296), (.int p1)] t → Steps p.tables e below (s₁.setTop (entryFrame m #[(.int p1)] 1)) t := by
    intro t k
    refine R0 t ?_
    refine XS.iloadN X0.here hx rfl (hb hby own_d10_0) rfl ?_
    refine X0.ldcInt hx hown (mvT hZ (oW hw 46 rfl)) (g := (mkF m 1 #[oI p1] [(.int p1)])) rfl (hb hby own_d10_1) _ ?_
    exact k
  by_cases hc3_0 : p1 < (55296 : Int32)
  · have R2 : ∀ t, oG p e below s₁ m 17 #[oI p1] [(.int 0)] t → Steps p.tables e below (s₁.setTop (entryFrame m #[(.int p1)] 1)) t := by
      intro t k
      refine R1 t ?_
      refine XS.icmpYes X0.here hx rfl (pc0 := 3) (pc' := 16) rfl (hb hby own_d10_3) rfl (tlt hc3_0).1 (by decide) (by decide) ?_
      refine XS.iconst X0.here hx rfl (hb hby own_d10_16) ?_
      exact k
    have hv : (own_hi p1) = (0 : Int32) := by unfold own_hi; simp only [if_pos hc3_0]
    obtain ⟨fs, hr, hrun, hended, hW, hsame⟩ := X0.leave (v := some (.int 0)) (fun h => by rw [Bd.returns] at h; cases h)
    refine ⟨_, _, R2 _ ?_, hrun, hended, _, _, rfl, ?_, ⟨_, rfl⟩, hW, hsame.mono (by decide) (by decide)⟩
    · exact retN X0 hx (t := .boolean) Bd.returns (by simp) (hb hby own_d10_17) hr
    · show Q_rmHi Z p1 h0 n0 _ s₁.heap _
      rw [e0]
      exact ⟨by rw [hv], N0, rfl⟩
  · have R3 : ∀ t, oG p e below s₁ m 9 #[oI p1] [(.int 56319), (.int p1)] t → Steps p.tables e below (s₁.setTop (entryFrame m #[(.int p1)] 1)) t := by
      intro t k
      refine R1 t ?_
      refine XS.icmpNo X0.here hx rfl (hb hby own_d10_3) rfl (flt hc3_0).1 ?_
      refine XS.iloadN X0.here hx rfl (hb hby own_d10_6) rfl ?_
      refine X0.ldcInt hx hown (mvT hZ (oW hw 121 rfl)) (g := (mkF m 7 #[oI p1] [(.int p1)])) rfl (hb hby own_d10_7) _ ?_
      exact k
    by_cases hc9_1 : (56319 : Int32) < p1
    · have R4 : ∀ t, oG p e below s₁ m 17 #[oI p1] [(.int 0)] t → Steps p.tables e below (s₁.setTop (entryFrame m #[(.int p1)] 1)) t := by
        intro t k
        refine R3 t ?_
        refine XS.icmpYes X0.here hx rfl (pc0 := 9) (pc' := 16) rfl (hb hby own_d10_9) rfl (tlt hc9_1).2.2.1 (by decide) (by decide) ?_
        refine XS.iconst X0.here hx rfl (hb hby own_d10_16) ?_
        exact k
      have hv : (own_hi p1) = (0 : Int32) := by unfold own_hi; simp only [if_neg hc3_0, if_pos hc9_1]
      obtain ⟨fs, hr, hrun, hended, hW, hsame⟩ := X0.leave (v := some (.int 0)) (fun h => by rw [Bd.returns] at h; cases h)
      refine ⟨_, _, R4 _ ?_, hrun, hended, _, _, rfl, ?_, ⟨_, rfl⟩, hW, hsame.mono (by decide) (by decide)⟩
      · exact retN X0 hx (t := .boolean) Bd.returns (by simp) (hb hby own_d10_17) hr
      · show Q_rmHi Z p1 h0 n0 _ s₁.heap _
        rw [e0]
        exact ⟨by rw [hv], N0, rfl⟩
    · have R5 : ∀ t, oG p e below s₁ m 17 #[oI p1] [(.int 1)] t → Steps p.tables e below (s₁.setTop (entryFrame m #[(.int p1)] 1)) t := by
        intro t k
        refine R3 t ?_
        refine XS.icmpNo X0.here hx rfl (hb hby own_d10_9) rfl (flt hc9_1).2.2.1 ?_
        refine XS.iconst X0.here hx rfl (hb hby own_d10_12) ?_
        refine XS.goto X0.here hx rfl (pc0 := 13) (pc' := 17) rfl (hb hby own_d10_13) (by decide) (by decide) ?_
        exact k
      have hv : (own_hi p1) = (1 : Int32) := by unfold own_hi; simp only [if_neg hc3_0, if_neg hc9_1]
      obtain ⟨fs, hr, hrun, hended, hW, hsame⟩ := X0.leave (v := some (.int 1)) (fun h => by rw [Bd.returns] at h; cases h)
      refine ⟨_, _, R5 _ ?_, hrun, hended, _, _, rfl, ?_, ⟨_, rfl⟩, hW, hsame.mono (by decide) (by decide)⟩
      · exact retN X0 hx (t := .boolean) Bd.returns (by simp) (hb hby own_d10_17) hr
      · show Q_rmHi Z p1 h0 n0 _ s₁.heap _
        rw [e0]
        exact ⟨by rw [hv], N0, rfl⟩
theorem own_ef_rmLo (m : MethodId) (x0 : Int32) : entryFrame m #[(.int x0)] 1 = mkF m 0 #[oI x0] [] := by first | (simp [entryFrame, mkF, argsToLocals, Value.category]; done) | rfl
theorem own_d29_0 : decode method_5_code 0 = .ok (.iload_n 0, 1) := by decide +kernel
theorem own_d29_1 : decode method_5_code 1 = .ok (.ldc 8, 2) := by decide +kernel
theorem own_d29_3 : decode method_5_code 3 = .ok (.if_icmp .lt 13, 3) := by decide +kernel
theorem own_d29_16 : decode method_5_code 16 = .ok (.iconst 0, 1) := by decide +kernel
theorem own_d29_17 : decode method_5_code 17 = .ok (.ireturn, 1) := by decide +kernel
theorem own_d29_6 : decode method_5_code 6 = .ok (.iload_n 0, 1) := by decide +kernel
theorem own_d29_7 : decode method_5_code 7 = .ok (.ldc 37, 2) := by decide +kernel
theorem own_d29_9 : decode method_5_code 9 = .ok (.if_icmp .gt 7, 3) := by decide +kernel
theorem own_d29_12 : decode method_5_code 12 = .ok (.iconst 1, 1) := by decide +kernel
theorem own_d29_13 : decode method_5_code 13 = .ok (.goto 4, 3) := by decide +kernel
def own_lo (p1 : Int32) : Int32 := (if p1 < (56320 : Int32) then (0 : Int32) else (if (57343 : Int32) < p1 then (0 : Int32) else (1 : Int32)))
def Q_rmLo (Z : State) (p1 : Int32) (h0 : Heap) (n0 : Nat) (v : Option Value) (h : Heap) (L : List Loc) : Prop := v = some (.int (own_lo p1)) ∧ Fr n0 L ∧ h = h0
set_option maxRecDepth 65536 in
set_option maxHeartbeats 40000000 in
theorem rmLo (l : Launch) (Z : State) (a0 : Array Value) (hw : oT a0 Z) (ws : List Jvm.Cond) (p1 : Int32) (h0 : Heap) (n0 : Nat) (Z0 : n0 ≤ h0.size)  :
    oK l Z (⟨"com/example/firm_store/firmstore/IdentifiersCompareCodePointsPinLaw", "isLow", "(C)Z"⟩ : MethodName) method_5_code 1 (some .boolean) ws (oM 0 0 0 0) #[(.int p1)] h0 (Q_rmLo Z p1 h0 n0) := by
  refine MetFree.of_bodySF (plainFor_of_name own_pn0) hisR ?_
  intro p e s m args below meth c s₁ Bd hml0 hP hK
  obtain ⟨rfl, hZ, hh⟩ := hP
  have hx := Bd.exec
  have hby := Bd.bytes
  have hml : c.maxLocals = 1 := hml0
  have hown : s.vm.findClass "com/example/firm_store/firmstore/IdentifiersCompareCodePointsPinLaw" = some m.cls := findClass_of_methodNamed Bd.named
  have hnm := (name_of_methodNamed Bd.named Bd.method).1
  have X0 : Stand p l e (oM 0 0 0 0) s m #[(.int p1)] below meth c s₁ [] 0 0 := Stand.of_body Bd
  have e0 : s₁.heap = h0 := by rw [← hh, Bd.state]; rfl
  have N0 := Fr.nil n0
  have R0 : ∀ t, oG p e below s₁ m 0 #[oI p1] [] t → Steps p.tables e below (s₁.setTop (entryFrame m #[(.int p1)] 1)) t := fun t k => castTop (own_ef_rmLo m p1) k
  have R1 : ∀ t, oG p e below s₁ m 3 #[oI p1] [(.int 56320), (.int p1)] t → Steps p.tables e below (s₁.setTop (entryFrame m #[(.int p1)] 1)) t := by
    intro t k
    refine R0 t ?_
    refine XS.iloadN X0.here hx rfl (hb hby own_d29_0) rfl ?_
    refine X0.ldcInt hx hown (mvT hZ (oW hw 71 rfl)) (g := (mkF m 1 #[oI p1] [(.int p1)])) rfl (hb hby own_d29_1) _ ?_
    exact k
  by_cases hc3_0 : p1 < (56320 : Int32)
  · have R2 : ∀ t, oG p e below s₁ m 17 #[oI p1] [(.int 0)] t → Steps p.tables e below (s₁.setTop (entryFrame m #[(.int p1)] 1)) t := by
      intro t k
      refine R1 t ?_
      refine XS.icmpYes X0.here hx rfl (pc0 := 3) (pc' := 16) rfl (hb hby own_d29_3) rfl (tlt hc3_0).1 (by decide) (by decide) ?_
      refine XS.iconst X0.here hx rfl (hb hby own_d29_16) ?_
      exact k
    have hv : (own_lo p1) = (0 : Int32) := by unfold own_lo; simp only [if_pos hc3_0]
    obtain ⟨fs, hr, hrun, hended, hW, hsame⟩ := X0.leave (v := some (.int 0)) (fun h => by rw [Bd.returns] at h; cases h)
    refine ⟨_, _, R2 _ ?_, hrun, hended, _, _, rfl, ?_, ⟨_, rfl⟩, hW, hsame.mono (by decide) (by decide)⟩
    · exact retN X0 hx (t := .boolean) Bd.returns (by simp) (hb hby own_d29_17) hr
    · show Q_rmLo Z p1 h0 n0 _ s₁.heap _
      rw [e0]
      exact ⟨by rw [hv], N0, rfl⟩
  · have R3 : ∀ t, oG p e below s₁ m 9 #[oI p1] [(.int 57343), (.int p1)] t → Steps p.tables e below (s₁.setTop (entryFrame m #[(.int p1)] 1)) t := by
      intro t k
      refine R1 t ?_
      refine XS.icmpNo X0.here hx rfl (hb hby own_d29_3) rfl (flt hc3_0).1 ?_
      refine XS.iloadN X0.here hx rfl (hb hby own_d29_6) rfl ?_
      refine X0.ldcInt hx hown (mvT hZ (oW hw 125 rfl)) (g := (mkF m 7 #[oI p1] [(.int p1)])) rfl (hb hby own_d29_7) _ ?_
      exact k
    by_cases hc9_1 : (57343 : Int32) < p1
    · have R4 : ∀ t, oG p e below s₁ m 17 #[oI p1] [(.int 0)] t → Steps p.tables e below (s₁.setTop (entryFrame m #[(.int p1)] 1)) t := by
        intro t k
        refine R3 t ?_
        refine XS.icmpYes X0.here hx rfl (pc0 := 9) (pc' := 16) rfl (hb hby own_d29_9) rfl (tlt hc9_1).2.2.1 (by decide) (by decide) ?_
        refine XS.iconst X0.here hx rfl (hb hby own_d29_16) ?_
        exact k
      have hv : (own_lo p1) = (0 : Int32) := by unfold own_lo; simp only [if_neg hc3_0, if_pos hc9_1]
      obtain ⟨fs, hr, hrun, hended, hW, hsame⟩ := X0.leave (v := some (.int 0)) (fun h => by rw [Bd.returns] at h; cases h)
      refine ⟨_, _, R4 _ ?_, hrun, hended, _, _, rfl, ?_, ⟨_, rfl⟩, hW, hsame.mono (by decide) (by decide)⟩
      · exact retN X0 hx (t := .boolean) Bd.returns (by simp) (hb hby own_d29_17) hr
      · show Q_rmLo Z p1 h0 n0 _ s₁.heap _
        rw [e0]
        exact ⟨by rw [hv], N0, rfl⟩
    · have R5 : ∀ t, oG p e below s₁ m 17 #[oI p1] [(.int 1)] t → Steps p.tables e below (s₁.setTop (entryFrame m #[(.int p1)] 1)) t := by
        intro t k
        refine R3 t ?_
        refine XS.icmpNo X0.here hx rfl (hb hby own_d29_9) rfl (flt hc9_1).2.2.1 ?_
        refine XS.iconst X0.here hx rfl (hb hby own_d29_12) ?_
        refine XS.goto X0.here hx rfl (pc0 := 13) (pc' := 17) rfl (hb hby own_d29_13) (by decide) (by decide) ?_
        exact k
      have hv : (own_lo p1) = (1 : Int32) := by unfold own_lo; simp only [if_neg hc3_0, if_neg hc9_1]
      obtain ⟨fs, hr, hrun, hended, hW, hsame⟩ := X0.leave (v := some (.int 1)) (fun h => by rw [Bd.returns] at h; cases h)
      refine ⟨_, _, R5 _ ?_, hrun, hended, _, _, rfl, ?_, ⟨_, rfl⟩, hW, hsame.mono (by decide) (by decide)⟩
      · exact retN X0 hx (t := .boolean) Bd.returns (by simp) (hb hby own_d29_17) hr
      · show Q_rmLo Z p1 h0 n0 _ s₁.heap _
        rw [e0]
        exact ⟨by rw [hv], N0, rfl⟩
theorem own_ef_rmPair (m : MethodId) (x0 : Int32) (x1 : Int32) : entryFrame m #[(.int x0), (.int x1)] 2 = mkF m 0 #[oI x0, oI x1] [] := by first | (simp [entryFrame, mkF, argsToLocals, Value.category]; done) | rfl
theorem own_d9_0 : decode method_6_code 0 = .ok (.iload_n 0, 1) := by decide +kernel
theorem own_d9_1 : decode method_6_code 1 = .ok (.invokestatic 38, 3) := by decide +kernel
theorem own_pd9 : parseMethodDescriptor "(C)Z" = some ⟨[.char], some .boolean⟩ := by decide +kernel
theorem own_d9_4 : decode method_6_code 4 = .ok (.ifCond .eq 14, 3) := by decide +kernel
theorem own_d9_18 : decode method_6_code 18 = .ok (.iconst 0, 1) := by decide +kernel
theorem own_d9_19 : decode method_6_code 19 = .ok (.ireturn, 1) := by decide +kernel
theorem own_d9_7 : decode method_6_code 7 = .ok (.iload_n 1, 1) := by decide +kernel
theorem own_d9_8 : decode method_6_code 8 = .ok (.invokestatic 42, 3) := by decide +kernel
theorem own_d9_11 : decode method_6_code 11 = .ok (.ifCond .eq 7, 3) := by decide +kernel
theorem own_d9_14 : decode method_6_code 14 = .ok (.iconst 1, 1) := by decide +kernel
theorem own_d9_15 : decode method_6_code 15 = .ok (.goto 4, 3) := by decide +kernel
def own_pair (p1 p2 : Int32) : Int32 := (if (own_hi p1) = (0 : Int32) then (0 : Int32) else (if (own_lo p2) = (0 : Int32) then (0 : Int32) else (1 : Int32)))
def Q_rmPair (Z : State) (p1 p2 : Int32) (h0 : Heap) (n0 : Nat) (v : Option Value) (h : Heap) (L : List Loc) : Prop := v = some (.int (own_pair p1 p2)) ∧ Fr n0 L ∧ h = h0
set_option maxRecDepth 65536 in
set_option maxHeartbeats 40000000 in
theorem rmPair (l : Launch) (Z : State) (a0 : Array Value) (hw : oT a0 Z) (ws : List Jvm.Cond) (p1 p2 : Int32) (h0 : Heap) (n0 : Nat) (Z0 : n0 ≤ h0.size)  :
    oK l Z (⟨"com/example/firm_store/firmstore/IdentifiersCompareCodePointsPinLaw", "paired", "(CC)Z"⟩ : MethodName) method_6_code 2 (some .boolean) ws (oM 1 0 0 12) #[(.int p1), (.int p2)] h0 (Q_rmPair Z p1 p2 h0 n0) := by
  refine MetFree.of_bodySF (plainFor_of_name own_pn0) hisR ?_
  intro p e s m args below meth c s₁ Bd hml0 hP hK
  obtain ⟨rfl, hZ, hh⟩ := hP
  have hx := Bd.exec
  have hby := Bd.bytes
  have hml : c.maxLocals = 2 := hml0
  have hown : s.vm.findClass "com/example/firm_store/firmstore/IdentifiersCompareCodePointsPinLaw" = some m.cls := findClass_of_methodNamed Bd.named
  have hnm := (name_of_methodNamed Bd.named Bd.method).1
  have X0 : Stand p l e (oM 1 0 0 12) s m #[(.int p1), (.int p2)] below meth c s₁ [] 0 0 := Stand.of_body Bd
  have e0 : s₁.heap = h0 := by rw [← hh, Bd.state]; rfl
  have N0 := Fr.nil n0
  have R0 : ∀ t, oG p e below s₁ m 0 #[oI p1, oI p2] [] t → Steps p.tables e below (s₁.setTop (entryFrame m #[(.int p1), (.int p2)] 2)) t := fun t k => castTop (own_ef_rmPair m p1 p2) k
  have R1 : ∀ t, oG p e below s₁ m 1 #[oI p1, oI p2] [(.int p1)] t → Steps p.tables e below (s₁.setTop (entryFrame m #[(.int p1), (.int p2)] 2)) t := by
    intro t k
    refine R0 t ?_
    refine XS.iloadN X0.here hx rfl (hb hby own_d9_0) rfl ?_
    exact k
  obtain ⟨_, _, ⟨T2, L2, k2, n2⟩, -, X2, ⟨Lc2, hQ2, l2, y2, z2⟩, st2⟩ := Jvm.LawKit.callS X0 hx (y := (⟨"com/example/firm_store/firmstore/IdentifiersCompareCodePointsPinLaw", "isHigh", "(C)Z"⟩ : MethodName)) hown (mvT hZ (oW hw 43 rfl)) (mvT hZ (oW hw 44 rfl)) (mvT hZ (oW hw 2 rfl)) (mvT hZ (oW hw 45 rfl)) (by decide) (backOf (W := 0) (rmHi l Z a0 hw [] p1  h0 n0 Z0 ) hZ (oW hw 45 rfl) (oW hw 2 rfl) (by decide) (by decide)) (g := (mkF m 1 #[oI p1, oI p2] [(.int p1)])) rfl (by rw [hml]; rfl) (argsL := [(.int p1)]) (rest := []) (lenOf own_pd9 rfl) rfl (by show 2 * 0 + _ ≤ _; exact Nat.le_of_eq rfl) (hb hby own_d9_1) (fun _ _ => ⟨rfl, e0, (by decide : 0 + 0 ≤ _), (by decide : 0 + 0 ≤ _)⟩)
  dsimp only [Pt.U, Pt.locs, Pt.cells, Pt.slots] at X2 l2 y2 z2 st2 hQ2
  subst l2 y2 z2
  obtain ⟨rfl, Nq2, eq2⟩ := hQ2
  have N2 := Fr.app N0 Nq2
  have R2 : ∀ t, oG p e below T2 m 4 #[oI p1, oI p2] [(.int (own_hi p1))] t → Steps p.tables e below (s₁.setTop (entryFrame m #[(.int p1), (.int p2)] 2)) t := fun t k => R1 t (st2 t k)
  by_cases hc4_0 : (own_hi p1) = (0 : Int32)
  · have R3 : ∀ t, oG p e below T2 m 19 #[oI p1, oI p2] [(.int 0)] t → Steps p.tables e below (s₁.setTop (entryFrame m #[(.int p1), (.int p2)] 2)) t := by
      intro t k
      refine R2 t ?_
      refine XS.ifYes X2.here hx rfl (pc0 := 4) (pc' := 18) rfl (hb hby own_d9_4) rfl ((if0 _ _).trans (teq hc4_0).1) (by decide) (by decide) ?_
      refine XS.iconst X2.here hx rfl (hb hby own_d9_18) ?_
      exact k
    have hv : (own_pair p1 p2) = (0 : Int32) := by unfold own_pair; simp only [if_pos hc4_0]
    obtain ⟨fs, hr, hrun, hended, hW, hsame⟩ := X2.leave (v := some (.int 0)) (fun h => by rw [Bd.returns] at h; cases h)
    refine ⟨_, _, R3 _ ?_, hrun, hended, _, _, rfl, ?_, ⟨_, rfl⟩, hW, hsame.mono (by decide) (by decide)⟩
    · exact retN X2 hx (t := .boolean) Bd.returns (by simp) (hb hby own_d9_19) hr
    · show Q_rmPair Z p1 p2 h0 n0 _ T2.heap _
      rw [eq2]
      exact ⟨by rw [hv], N2, rfl⟩
  · have R4 : ∀ t, oG p e below T2 m 8 #[oI p1, oI p2] [(.int p2)] t → Steps p.tables e below (s₁.setTop (entryFrame m #[(.int p1), (.int p2)] 2)) t := by
      intro t k
      refine R2 t ?_
      refine XS.ifNo X2.here hx rfl (hb hby own_d9_4) rfl ((if0 _ _).trans (feq hc4_0).1) ?_
      refine XS.iloadN X2.here hx rfl (hb hby own_d9_7) rfl ?_
      exact k
    obtain ⟨_, _, ⟨T5, L5, k5, n5⟩, -, X5, ⟨Lc5, hQ5, l5, y5, z5⟩, st5⟩ := Jvm.LawKit.callS X2 hx (y := (⟨"com/example/firm_store/firmstore/IdentifiersCompareCodePointsPinLaw", "isLow", "(C)Z"⟩ : MethodName)) hown (mvT hZ (oW hw 122 rfl)) (mvT hZ (oW hw 123 rfl)) (mvT hZ (oW hw 2 rfl)) (mvT hZ (oW hw 124 rfl)) (by decide) (backOf (W := 0) (rmLo l Z a0 hw [] p2  h0 n0 Z0 ) hZ (oW hw 124 rfl) (oW hw 2 rfl) (by decide) (by decide)) (g := (mkF m 8 #[oI p1, oI p2] [(.int p2)])) rfl (by rw [hml]; rfl) (argsL := [(.int p2)]) (rest := []) (lenOf own_pd9 rfl) rfl (by show 2 * 0 + _ ≤ _; exact Nat.le_of_eq rfl) (hb hby own_d9_8) (fun _ _ => ⟨rfl, eq2, (by decide : 0 + 0 ≤ _), (by decide : 0 + 0 ≤ _)⟩)
    dsimp only [Pt.U, Pt.locs, Pt.cells, Pt.slots] at X5 l5 y5 z5 st5 hQ5
    subst l5 y5 z5
    obtain ⟨rfl, Nq5, eq5⟩ := hQ5
    have N5 := Fr.app N2 Nq5
    have R5 : ∀ t, oG p e below T5 m 11 #[oI p1, oI p2] [(.int (own_lo p2))] t → Steps p.tables e below (s₁.setTop (entryFrame m #[(.int p1), (.int p2)] 2)) t := fun t k => R4 t (st5 t k)
    by_cases hc11_1 : (own_lo p2) = (0 : Int32)
    · have R6 : ∀ t, oG p e below T5 m 19 #[oI p1, oI p2] [(.int 0)] t → Steps p.tables e below (s₁.setTop (entryFrame m #[(.int p1), (.int p2)] 2)) t := by
        intro t k
        refine R5 t ?_
        refine XS.ifYes X5.here hx rfl (pc0 := 11) (pc' := 18) rfl (hb hby own_d9_11) rfl ((if0 _ _).trans (teq hc11_1).1) (by decide) (by decide) ?_
        refine XS.iconst X5.here hx rfl (hb hby own_d9_18) ?_
        exact k
      have hv : (own_pair p1 p2) = (0 : Int32) := by unfold own_pair; simp only [if_neg hc4_0, if_pos hc11_1]
      obtain ⟨fs, hr, hrun, hended, hW, hsame⟩ := X5.leave (v := some (.int 0)) (fun h => by rw [Bd.returns] at h; cases h)
      refine ⟨_, _, R6 _ ?_, hrun, hended, _, _, rfl, ?_, ⟨_, rfl⟩, hW, hsame.mono (by decide) (by decide)⟩
      · exact retN X5 hx (t := .boolean) Bd.returns (by simp) (hb hby own_d9_19) hr
      · show Q_rmPair Z p1 p2 h0 n0 _ T5.heap _
        rw [eq5]
        exact ⟨by rw [hv], N5, rfl⟩
    · have R7 : ∀ t, oG p e below T5 m 19 #[oI p1, oI p2] [(.int 1)] t → Steps p.tables e below (s₁.setTop (entryFrame m #[(.int p1), (.int p2)] 2)) t := by
        intro t k
        refine R5 t ?_
        refine XS.ifNo X5.here hx rfl (hb hby own_d9_11) rfl ((if0 _ _).trans (feq hc11_1).1) ?_
        refine XS.iconst X5.here hx rfl (hb hby own_d9_14) ?_
        refine XS.goto X5.here hx rfl (pc0 := 15) (pc' := 19) rfl (hb hby own_d9_15) (by decide) (by decide) ?_
        exact k
      have hv : (own_pair p1 p2) = (1 : Int32) := by unfold own_pair; simp only [if_neg hc4_0, if_neg hc11_1]
      obtain ⟨fs, hr, hrun, hended, hW, hsame⟩ := X5.leave (v := some (.int 1)) (fun h => by rw [Bd.returns] at h; cases h)
      refine ⟨_, _, R7 _ ?_, hrun, hended, _, _, rfl, ?_, ⟨_, rfl⟩, hW, hsame.mono (by decide) (by decide)⟩
      · exact retN X5 hx (t := .boolean) Bd.returns (by simp) (hb hby own_d9_19) hr
      · show Q_rmPair Z p1 p2 h0 n0 _ T5.heap _
        rw [eq5]
        exact ⟨by rw [hv], N5, rfl⟩
theorem own_ef_rmCount (m : MethodId) (x0 : Int32) (x1 : Int32) (x2 : Int32) : entryFrame m #[(.int x0), (.int x1), (.int x2)] 3 = mkF m 0 #[oI x0, oI x1, oI x2] [] := by first | (simp [entryFrame, mkF, argsToLocals, Value.category]; done) | rfl
theorem own_d8_0 : decode method_7_code 0 = .ok (.iload_n 0, 1) := by decide +kernel
theorem own_d8_1 : decode method_7_code 1 = .ok (.ifCond .ne 5, 3) := by decide +kernel
theorem own_d8_4 : decode method_7_code 4 = .ok (.iconst 0, 1) := by decide +kernel
theorem own_d8_5 : decode method_7_code 5 = .ok (.ireturn, 1) := by decide +kernel
theorem own_d8_6 : decode method_7_code 6 = .ok (.iload_n 0, 1) := by decide +kernel
theorem own_d8_7 : decode method_7_code 7 = .ok (.iconst 1, 1) := by decide +kernel
theorem own_d8_8 : decode method_7_code 8 = .ok (.if_icmp .ne 5, 3) := by decide +kernel
theorem own_d8_11 : decode method_7_code 11 = .ok (.iconst 1, 1) := by decide +kernel
theorem own_d8_12 : decode method_7_code 12 = .ok (.ireturn, 1) := by decide +kernel
theorem own_d8_13 : decode method_7_code 13 = .ok (.iload_n 1, 1) := by decide +kernel
theorem own_d8_14 : decode method_7_code 14 = .ok (.iload_n 2, 1) := by decide +kernel
theorem own_d8_15 : decode method_7_code 15 = .ok (.invokestatic 45, 3) := by decide +kernel
theorem own_pd8 : parseMethodDescriptor "(CC)Z" = some ⟨[.char, .char], some .boolean⟩ := by decide +kernel
theorem own_d8_18 : decode method_7_code 18 = .ok (.ifCond .eq 7, 3) := by decide +kernel
theorem own_d8_25 : decode method_7_code 25 = .ok (.iconst 2, 1) := by decide +kernel
theorem own_d8_26 : decode method_7_code 26 = .ok (.ireturn, 1) := by decide +kernel
theorem own_d8_21 : decode method_7_code 21 = .ok (.iconst 1, 1) := by decide +kernel
theorem own_d8_22 : decode method_7_code 22 = .ok (.goto 4, 3) := by decide +kernel
def own_count (p1 p2 p3 : Int32) : Int32 := (if p1 = (0 : Int32) then (0 : Int32) else (if p1 = (1 : Int32) then (1 : Int32) else (if (own_pair p2 p3) = (0 : Int32) then (2 : Int32) else (1 : Int32))))
def Q_rmCount (Z : State) (p1 p2 p3 : Int32) (h0 : Heap) (n0 : Nat) (v : Option Value) (h : Heap) (L : List Loc) : Prop := v = some (.int (own_count p1 p2 p3)) ∧ Fr n0 L ∧ h = h0
set_option maxRecDepth 65536 in
set_option maxHeartbeats 40000000 in
theorem rmCount (l : Launch) (Z : State) (a0 : Array Value) (hw : oT a0 Z) (ws : List Jvm.Cond) (p1 p2 p3 : Int32) (h0 : Heap) (n0 : Nat) (Z0 : n0 ≤ h0.size)  :
    oK l Z (⟨"com/example/firm_store/firmstore/IdentifiersCompareCodePointsPinLaw", "count", "(ICC)I"⟩ : MethodName) method_7_code 3 (some .int) ws (oM 2 0 0 25) #[(.int p1), (.int p2), (.int p3)] h0 (Q_rmCount Z p1 p2 p3 h0 n0) := by
  refine MetFree.of_bodySF (plainFor_of_name own_pn0) hisR ?_
  intro p e s m args below meth c s₁ Bd hml0 hP hK
  obtain ⟨rfl, hZ, hh⟩ := hP
  have hx := Bd.exec
  have hby := Bd.bytes
  have hml : c.maxLocals = 3 := hml0
  have hown : s.vm.findClass "com/example/firm_store/firmstore/IdentifiersCompareCodePointsPinLaw" = some m.cls := findClass_of_methodNamed Bd.named
  have hnm := (name_of_methodNamed Bd.named Bd.method).1
  have X0 : Stand p l e (oM 2 0 0 25) s m #[(.int p1), (.int p2), (.int p3)] below meth c s₁ [] 0 0 := Stand.of_body Bd
  have e0 : s₁.heap = h0 := by rw [← hh, Bd.state]; rfl
  have N0 := Fr.nil n0
  have R0 : ∀ t, oG p e below s₁ m 0 #[oI p1, oI p2, oI p3] [] t → Steps p.tables e below (s₁.setTop (entryFrame m #[(.int p1), (.int p2), (.int p3)] 3)) t := fun t k => castTop (own_ef_rmCount m p1 p2 p3) k
  have R1 : ∀ t, oG p e below s₁ m 1 #[oI p1, oI p2, oI p3] [(.int p1)] t → Steps p.tables e below (s₁.setTop (entryFrame m #[(.int p1), (.int p2), (.int p3)] 3)) t := by
    intro t k
    refine R0 t ?_
    refine XS.iloadN X0.here hx rfl (hb hby own_d8_0) rfl ?_
    exact k
  by_cases hc1_0 : p1 = (0 : Int32)
  · have R2 : ∀ t, oG p e below s₁ m 5 #[oI p1, oI p2, oI p3] [(.int 0)] t → Steps p.tables e below (s₁.setTop (entryFrame m #[(.int p1), (.int p2), (.int p3)] 3)) t := by
      intro t k
      refine R1 t ?_
      refine XS.ifNo X0.here hx rfl (hb hby own_d8_1) rfl ((if0 _ _).trans (teq hc1_0).2) ?_
      refine XS.iconst X0.here hx rfl (hb hby own_d8_4) ?_
      exact k
    have hv : (own_count p1 p2 p3) = (0 : Int32) := by unfold own_count; simp only [if_pos hc1_0]
    obtain ⟨fs, hr, hrun, hended, hW, hsame⟩ := X0.leave (v := some (.int 0)) (fun h => by rw [Bd.returns] at h; cases h)
    refine ⟨_, _, R2 _ ?_, hrun, hended, _, _, rfl, ?_, ⟨_, rfl⟩, hW, hsame.mono (by decide) (by decide)⟩
    · exact retOut X0 hx Bd.returns rfl (Or.inl ⟨rfl, Or.inl rfl, _, rfl⟩) (hb hby own_d8_5) hr
    · show Q_rmCount Z p1 p2 p3 h0 n0 _ s₁.heap _
      rw [e0]
      exact ⟨by rw [hv], N0, rfl⟩
  · have R3 : ∀ t, oG p e below s₁ m 8 #[oI p1, oI p2, oI p3] [(.int 1), (.int p1)] t → Steps p.tables e below (s₁.setTop (entryFrame m #[(.int p1), (.int p2), (.int p3)] 3)) t := by
      intro t k
      refine R1 t ?_
      refine XS.ifYes X0.here hx rfl (pc0 := 1) (pc' := 6) rfl (hb hby own_d8_1) rfl ((if0 _ _).trans (feq hc1_0).2) (by decide) (by decide) ?_
      refine XS.iloadN X0.here hx rfl (hb hby own_d8_6) rfl ?_
      refine XS.iconst X0.here hx rfl (hb hby own_d8_7) ?_
      exact k
    by_cases hc8_1 : p1 = (1 : Int32)
    · have R4 : ∀ t, oG p e below s₁ m 12 #[oI p1, oI p2, oI p3] [(.int 1)] t → Steps p.tables e below (s₁.setTop (entryFrame m #[(.int p1), (.int p2), (.int p3)] 3)) t := by
        intro t k
        refine R3 t ?_
        refine XS.icmpNo X0.here hx rfl (hb hby own_d8_8) rfl (teq hc8_1).2 ?_
        refine XS.iconst X0.here hx rfl (hb hby own_d8_11) ?_
        exact k
      have hv : (own_count p1 p2 p3) = (1 : Int32) := by unfold own_count; simp only [if_neg hc1_0, if_pos hc8_1]
      obtain ⟨fs, hr, hrun, hended, hW, hsame⟩ := X0.leave (v := some (.int 1)) (fun h => by rw [Bd.returns] at h; cases h)
      refine ⟨_, _, R4 _ ?_, hrun, hended, _, _, rfl, ?_, ⟨_, rfl⟩, hW, hsame.mono (by decide) (by decide)⟩
      · exact retOut X0 hx Bd.returns rfl (Or.inl ⟨rfl, Or.inl rfl, _, rfl⟩) (hb hby own_d8_12) hr
      · show Q_rmCount Z p1 p2 p3 h0 n0 _ s₁.heap _
        rw [e0]
        exact ⟨by rw [hv], N0, rfl⟩
    · have R5 : ∀ t, oG p e below s₁ m 15 #[oI p1, oI p2, oI p3] [(.int p3), (.int p2)] t → Steps p.tables e below (s₁.setTop (entryFrame m #[(.int p1), (.int p2), (.int p3)] 3)) t := by
        intro t k
        refine R3 t ?_
        refine XS.icmpYes X0.here hx rfl (pc0 := 8) (pc' := 13) rfl (hb hby own_d8_8) rfl (feq hc8_1).2 (by decide) (by decide) ?_
        refine XS.iloadN X0.here hx rfl (hb hby own_d8_13) rfl ?_
        refine XS.iloadN X0.here hx rfl (hb hby own_d8_14) rfl ?_
        exact k
      obtain ⟨_, _, ⟨T6, L6, k6, n6⟩, -, X6, ⟨Lc6, hQ6, l6, y6, z6⟩, st6⟩ := Jvm.LawKit.callS X0 hx (y := (⟨"com/example/firm_store/firmstore/IdentifiersCompareCodePointsPinLaw", "paired", "(CC)Z"⟩ : MethodName)) hown (mvT hZ (oW hw 40 rfl)) (mvT hZ (oW hw 41 rfl)) (mvT hZ (oW hw 2 rfl)) (mvT hZ (oW hw 42 rfl)) (by decide) (backOf (W := 0) (rmPair l Z a0 hw [] p2 p3  h0 n0 Z0 ) hZ (oW hw 42 rfl) (oW hw 2 rfl) (by decide) (by decide)) (g := (mkF m 15 #[oI p1, oI p2, oI p3] [(.int p3), (.int p2)])) rfl (by rw [hml]; rfl) (argsL := [(.int p2), (.int p3)]) (rest := []) (lenOf own_pd8 rfl) rfl (by show 2 * 0 + _ ≤ _; exact Nat.le_of_eq rfl) (hb hby own_d8_15) (fun _ _ => ⟨rfl, e0, (by decide : 0 + 0 ≤ _), (by decide : 0 + 0 ≤ _)⟩)
      dsimp only [Pt.U, Pt.locs, Pt.cells, Pt.slots] at X6 l6 y6 z6 st6 hQ6
      subst l6 y6 z6
      obtain ⟨rfl, Nq6, eq6⟩ := hQ6
      have N6 := Fr.app N0 Nq6
      have R6 : ∀ t, oG p e below T6 m 18 #[oI p1, oI p2, oI p3] [(.int (own_pair p2 p3))] t → Steps p.tables e below (s₁.setTop (entryFrame m #[(.int p1), (.int p2), (.int p3)] 3)) t := fun t k => R5 t (st6 t k)
      by_cases hc18_2 : (own_pair p2 p3) = (0 : Int32)
      · have R7 : ∀ t, oG p e below T6 m 26 #[oI p1, oI p2, oI p3] [(.int 2)] t → Steps p.tables e below (s₁.setTop (entryFrame m #[(.int p1), (.int p2), (.int p3)] 3)) t := by
          intro t k
          refine R6 t ?_
          refine XS.ifYes X6.here hx rfl (pc0 := 18) (pc' := 25) rfl (hb hby own_d8_18) rfl ((if0 _ _).trans (teq hc18_2).1) (by decide) (by decide) ?_
          refine XS.iconst X6.here hx rfl (hb hby own_d8_25) ?_
          exact k
        have hv : (own_count p1 p2 p3) = (2 : Int32) := by unfold own_count; simp only [if_neg hc1_0, if_neg hc8_1, if_pos hc18_2]
        obtain ⟨fs, hr, hrun, hended, hW, hsame⟩ := X6.leave (v := some (.int 2)) (fun h => by rw [Bd.returns] at h; cases h)
        refine ⟨_, _, R7 _ ?_, hrun, hended, _, _, rfl, ?_, ⟨_, rfl⟩, hW, hsame.mono (by decide) (by decide)⟩
        · exact retOut X6 hx Bd.returns rfl (Or.inl ⟨rfl, Or.inl rfl, _, rfl⟩) (hb hby own_d8_26) hr
        · show Q_rmCount Z p1 p2 p3 h0 n0 _ T6.heap _
          rw [eq6]
          exact ⟨by rw [hv], N6, rfl⟩
      · have R8 : ∀ t, oG p e below T6 m 26 #[oI p1, oI p2, oI p3] [(.int 1)] t → Steps p.tables e below (s₁.setTop (entryFrame m #[(.int p1), (.int p2), (.int p3)] 3)) t := by
          intro t k
          refine R6 t ?_
          refine XS.ifNo X6.here hx rfl (hb hby own_d8_18) rfl ((if0 _ _).trans (feq hc18_2).1) ?_
          refine XS.iconst X6.here hx rfl (hb hby own_d8_21) ?_
          refine XS.goto X6.here hx rfl (pc0 := 22) (pc' := 26) rfl (hb hby own_d8_22) (by decide) (by decide) ?_
          exact k
        have hv : (own_count p1 p2 p3) = (1 : Int32) := by unfold own_count; simp only [if_neg hc1_0, if_neg hc8_1, if_neg hc18_2]
        obtain ⟨fs, hr, hrun, hended, hW, hsame⟩ := X6.leave (v := some (.int 1)) (fun h => by rw [Bd.returns] at h; cases h)
        refine ⟨_, _, R8 _ ?_, hrun, hended, _, _, rfl, ?_, ⟨_, rfl⟩, hW, hsame.mono (by decide) (by decide)⟩
        · exact retOut X6 hx Bd.returns rfl (Or.inl ⟨rfl, Or.inl rfl, _, rfl⟩) (hb hby own_d8_26) hr
        · show Q_rmCount Z p1 p2 p3 h0 n0 _ T6.heap _
          rw [eq6]
          exact ⟨by rw [hv], N6, rfl⟩
theorem own_ef_rmFirst (m : MethodId) (x0 : Int32) (x1 : Int32) (x2 : Int32) : entryFrame m #[(.int x0), (.int x1), (.int x2)] 3 = mkF m 0 #[oI x0, oI x1, oI x2] [] := by first | (simp [entryFrame, mkF, argsToLocals, Value.category]; done) | rfl
theorem own_d11_0 : decode method_8_code 0 = .ok (.iload_n 0, 1) := by decide +kernel
theorem own_d11_1 : decode method_8_code 1 = .ok (.ifCond .ne 5, 3) := by decide +kernel
theorem own_d11_4 : decode method_8_code 4 = .ok (.iconst (-1), 1) := by decide +kernel
theorem own_d11_5 : decode method_8_code 5 = .ok (.ireturn, 1) := by decide +kernel
theorem own_d11_6 : decode method_8_code 6 = .ok (.iload_n 0, 1) := by decide +kernel
theorem own_d11_7 : decode method_8_code 7 = .ok (.iconst 2, 1) := by decide +kernel
theorem own_d11_8 : decode method_8_code 8 = .ok (.if_icmp .ne 27, 3) := by decide +kernel
theorem own_d11_11 : decode method_8_code 11 = .ok (.iload_n 1, 1) := by decide +kernel
theorem own_d11_12 : decode method_8_code 12 = .ok (.iload_n 2, 1) := by decide +kernel
theorem own_d11_13 : decode method_8_code 13 = .ok (.invokestatic 45, 3) := by decide +kernel
theorem own_d11_16 : decode method_8_code 16 = .ok (.ifCond .eq 19, 3) := by decide +kernel
theorem own_d11_35 : decode method_8_code 35 = .ok (.iload_n 1, 1) := by decide +kernel
theorem own_d11_36 : decode method_8_code 36 = .ok (.ireturn, 1) := by decide +kernel
theorem own_d11_19 : decode method_8_code 19 = .ok (.iload_n 1, 1) := by decide +kernel
theorem own_d11_20 : decode method_8_code 20 = .ok (.ldc 7, 2) := by decide +kernel
theorem own_d11_22 : decode method_8_code 22 = .ok (.isub, 1) := by decide +kernel
theorem own_d11_23 : decode method_8_code 23 = .ok (.bipush 10, 2) := by decide +kernel
theorem own_d11_25 : decode method_8_code 25 = .ok (.ishl, 1) := by decide +kernel
theorem own_d11_26 : decode method_8_code 26 = .ok (.iload_n 2, 1) := by decide +kernel
theorem own_d11_27 : decode method_8_code 27 = .ok (.ldc 8, 2) := by decide +kernel
theorem own_d11_29 : decode method_8_code 29 = .ok (.isub, 1) := by decide +kernel
theorem own_d11_30 : decode method_8_code 30 = .ok (.iadd, 1) := by decide +kernel
theorem own_d11_31 : decode method_8_code 31 = .ok (.ldc 49, 2) := by decide +kernel
theorem own_d11_33 : decode method_8_code 33 = .ok (.iadd, 1) := by decide +kernel
theorem own_d11_34 : decode method_8_code 34 = .ok (.ireturn, 1) := by decide +kernel
def own_first (p1 p2 p3 : Int32) : Int32 := (if p1 = (0 : Int32) then (-1 : Int32) else (if p1 = (2 : Int32) then (if (own_pair p2 p3) = (0 : Int32) then p2 else ((((p2 - (55296 : Int32)) <<< ((10 : Int32) &&& 31)) + (p3 - (56320 : Int32))) + (65536 : Int32))) else p2))
def Q_rmFirst (Z : State) (p1 p2 p3 : Int32) (h0 : Heap) (n0 : Nat) (v : Option Value) (h : Heap) (L : List Loc) : Prop := v = some (.int (own_first p1 p2 p3)) ∧ Fr n0 L ∧ h = h0
set_option maxRecDepth 65536 in
set_option maxHeartbeats 40000000 in
theorem rmFirst (l : Launch) (Z : State) (a0 : Array Value) (hw : oT a0 Z) (ws : List Jvm.Cond) (p1 p2 p3 : Int32) (h0 : Heap) (n0 : Nat) (Z0 : n0 ≤ h0.size)  :
    oK l Z (⟨"com/example/firm_store/firmstore/IdentifiersCompareCodePointsPinLaw", "first", "(ICC)I"⟩ : MethodName) method_8_code 3 (some .int) ws (oM 2 0 0 25) #[(.int p1), (.int p2), (.int p3)] h0 (Q_rmFirst Z p1 p2 p3 h0 n0) := by
  refine MetFree.of_bodySF (plainFor_of_name own_pn0) hisR ?_
  intro p e s m args below meth c s₁ Bd hml0 hP hK
  obtain ⟨rfl, hZ, hh⟩ := hP
  have hx := Bd.exec
  have hby := Bd.bytes
  have hml : c.maxLocals = 3 := hml0
  have hown : s.vm.findClass "com/example/firm_store/firmstore/IdentifiersCompareCodePointsPinLaw" = some m.cls := findClass_of_methodNamed Bd.named
  have hnm := (name_of_methodNamed Bd.named Bd.method).1
  have X0 : Stand p l e (oM 2 0 0 25) s m #[(.int p1), (.int p2), (.int p3)] below meth c s₁ [] 0 0 := Stand.of_body Bd
  have e0 : s₁.heap = h0 := by rw [← hh, Bd.state]; rfl
  have N0 := Fr.nil n0
  have R0 : ∀ t, oG p e below s₁ m 0 #[oI p1, oI p2, oI p3] [] t → Steps p.tables e below (s₁.setTop (entryFrame m #[(.int p1), (.int p2), (.int p3)] 3)) t := fun t k => castTop (own_ef_rmFirst m p1 p2 p3) k
  have R1 : ∀ t, oG p e below s₁ m 1 #[oI p1, oI p2, oI p3] [(.int p1)] t → Steps p.tables e below (s₁.setTop (entryFrame m #[(.int p1), (.int p2), (.int p3)] 3)) t := by
    intro t k
    refine R0 t ?_
    refine XS.iloadN X0.here hx rfl (hb hby own_d11_0) rfl ?_
    exact k
  by_cases hc1_0 : p1 = (0 : Int32)
  · have R2 : ∀ t, oG p e below s₁ m 5 #[oI p1, oI p2, oI p3] [(.int (-1))] t → Steps p.tables e below (s₁.setTop (entryFrame m #[(.int p1), (.int p2), (.int p3)] 3)) t := by
      intro t k
      refine R1 t ?_
      refine XS.ifNo X0.here hx rfl (hb hby own_d11_1) rfl ((if0 _ _).trans (teq hc1_0).2) ?_
      refine XS.iconst X0.here hx rfl (hb hby own_d11_4) ?_
      exact k
    have hv : (own_first p1 p2 p3) = (-1 : Int32) := by unfold own_first; simp only [if_pos hc1_0]
    obtain ⟨fs, hr, hrun, hended, hW, hsame⟩ := X0.leave (v := some (.int (-1))) (fun h => by rw [Bd.returns] at h; cases h)
    refine ⟨_, _, R2 _ ?_, hrun, hended, _, _, rfl, ?_, ⟨_, rfl⟩, hW, hsame.mono (by decide) (by decide)⟩
    · exact retOut X0 hx Bd.returns rfl (Or.inl ⟨rfl, Or.inl rfl, _, rfl⟩) (hb hby own_d11_5) hr
    · show Q_rmFirst Z p1 p2 p3 h0 n0 _ s₁.heap _
      rw [e0]
      exact ⟨by rw [hv], N0, rfl⟩
  · have R3 : ∀ t, oG p e below s₁ m 8 #[oI p1, oI p2, oI p3] [(.int 2), (.int p1)] t → Steps p.tables e below (s₁.setTop (entryFrame m #[(.int p1), (.int p2), (.int p3)] 3)) t := by
      intro t k
      refine R1 t ?_
      refine XS.ifYes X0.here hx rfl (pc0 := 1) (pc' := 6) rfl (hb hby own_d11_1) rfl ((if0 _ _).trans (feq hc1_0).2) (by decide) (by decide) ?_
      refine XS.iloadN X0.here hx rfl (hb hby own_d11_6) rfl ?_
      refine XS.iconst X0.here hx rfl (hb hby own_d11_7) ?_
      exact k
    by_cases hc8_1 : p1 = (2 : Int32)
    · have R4 : ∀ t, oG p e below s₁ m 13 #[oI p1, oI p2, oI p3] [(.int p3), (.int p2)] t → Steps p.tables e below (s₁.setTop (entryFrame m #[(.int p1), (.int p2), (.int p3)] 3)) t := by
        intro t k
        refine R3 t ?_
        refine XS.icmpNo X0.here hx rfl (hb hby own_d11_8) rfl (teq hc8_1).2 ?_
        refine XS.iloadN X0.here hx rfl (hb hby own_d11_11) rfl ?_
        refine XS.iloadN X0.here hx rfl (hb hby own_d11_12) rfl ?_
        exact k
      obtain ⟨_, _, ⟨T5, L5, k5, n5⟩, -, X5, ⟨Lc5, hQ5, l5, y5, z5⟩, st5⟩ := Jvm.LawKit.callS X0 hx (y := (⟨"com/example/firm_store/firmstore/IdentifiersCompareCodePointsPinLaw", "paired", "(CC)Z"⟩ : MethodName)) hown (mvT hZ (oW hw 40 rfl)) (mvT hZ (oW hw 41 rfl)) (mvT hZ (oW hw 2 rfl)) (mvT hZ (oW hw 42 rfl)) (by decide) (backOf (W := 0) (rmPair l Z a0 hw [] p2 p3  h0 n0 Z0 ) hZ (oW hw 42 rfl) (oW hw 2 rfl) (by decide) (by decide)) (g := (mkF m 13 #[oI p1, oI p2, oI p3] [(.int p3), (.int p2)])) rfl (by rw [hml]; rfl) (argsL := [(.int p2), (.int p3)]) (rest := []) (lenOf own_pd8 rfl) rfl (by show 2 * 0 + _ ≤ _; exact Nat.le_of_eq rfl) (hb hby own_d11_13) (fun _ _ => ⟨rfl, e0, (by decide : 0 + 0 ≤ _), (by decide : 0 + 0 ≤ _)⟩)
      dsimp only [Pt.U, Pt.locs, Pt.cells, Pt.slots] at X5 l5 y5 z5 st5 hQ5
      subst l5 y5 z5
      obtain ⟨rfl, Nq5, eq5⟩ := hQ5
      have N5 := Fr.app N0 Nq5
      have R5 : ∀ t, oG p e below T5 m 16 #[oI p1, oI p2, oI p3] [(.int (own_pair p2 p3))] t → Steps p.tables e below (s₁.setTop (entryFrame m #[(.int p1), (.int p2), (.int p3)] 3)) t := fun t k => R4 t (st5 t k)
      by_cases hc16_2 : (own_pair p2 p3) = (0 : Int32)
      · have R6 : ∀ t, oG p e below T5 m 36 #[oI p1, oI p2, oI p3] [(.int p2)] t → Steps p.tables e below (s₁.setTop (entryFrame m #[(.int p1), (.int p2), (.int p3)] 3)) t := by
          intro t k
          refine R5 t ?_
          refine XS.ifYes X5.here hx rfl (pc0 := 16) (pc' := 35) rfl (hb hby own_d11_16) rfl ((if0 _ _).trans (teq hc16_2).1) (by decide) (by decide) ?_
          refine XS.iloadN X5.here hx rfl (hb hby own_d11_35) rfl ?_
          exact k
        have hv : (own_first p1 p2 p3) = p2 := by unfold own_first; simp only [if_neg hc1_0, if_pos hc8_1, if_pos hc16_2]
        obtain ⟨fs, hr, hrun, hended, hW, hsame⟩ := X5.leave (v := some (.int p2)) (fun h => by rw [Bd.returns] at h; cases h)
        refine ⟨_, _, R6 _ ?_, hrun, hended, _, _, rfl, ?_, ⟨_, rfl⟩, hW, hsame.mono (by decide) (by decide)⟩
        · exact retOut X5 hx Bd.returns rfl (Or.inl ⟨rfl, Or.inl rfl, _, rfl⟩) (hb hby own_d11_36) hr
        · show Q_rmFirst Z p1 p2 p3 h0 n0 _ T5.heap _
          rw [eq5]
          exact ⟨by rw [hv], N5, rfl⟩
      · have R7 : ∀ t, oG p e below T5 m 34 #[oI p1, oI p2, oI p3] [(.int ((((p2 - (55296 : Int32)) <<< ((10 : Int32) &&& 31)) + (p3 - (56320 : Int32))) + (65536 : Int32)))] t → Steps p.tables e below (s₁.setTop (entryFrame m #[(.int p1), (.int p2), (.int p3)] 3)) t := by
          intro t k
          refine R5 t ?_
          refine XS.ifNo X5.here hx rfl (hb hby own_d11_16) rfl ((if0 _ _).trans (feq hc16_2).1) ?_
          refine XS.iloadN X5.here hx rfl (hb hby own_d11_19) rfl ?_
          refine X5.ldcInt hx hown (mvT hZ (oW hw 46 rfl)) (g := (mkF m 20 #[oI p1, oI p2, oI p3] [(.int p2)])) rfl (hb hby own_d11_20) _ ?_
          show oG p e below T5 m 22 #[oI p1, oI p2, oI p3] [(.int 55296), (.int p2)] _
          refine XS.isub X5.here hx rfl (hb hby own_d11_22) rfl ?_
          refine XS.bipush X5.here hx rfl (hb hby own_d11_23) ?_
          refine XS.ishl X5.here hx rfl (hb hby own_d11_25) rfl ?_
          refine XS.iloadN X5.here hx rfl (hb hby own_d11_26) rfl ?_
          show oG p e below T5 m 27 #[oI p1, oI p2, oI p3] [(.int p3), (.int ((p2 - (55296 : Int32)) <<< ((10 : Int32) &&& 31)))] _
          refine X5.ldcInt hx hown (mvT hZ (oW hw 71 rfl)) (g := (mkF m 27 #[oI p1, oI p2, oI p3] [(.int p3), (.int ((p2 - (55296 : Int32)) <<< ((10 : Int32) &&& 31)))])) rfl (hb hby own_d11_27) _ ?_
          refine XS.isub X5.here hx rfl (hb hby own_d11_29) rfl ?_
          refine XS.iadd X5.here hx rfl (hb hby own_d11_30) rfl ?_
          refine X5.ldcInt hx hown (mvT hZ (oW hw 126 rfl)) (g := (mkF m 31 #[oI p1, oI p2, oI p3] [(.int (((p2 - (55296 : Int32)) <<< ((10 : Int32) &&& 31)) + (p3 - (56320 : Int32))))])) rfl (hb hby own_d11_31) _ ?_
          show oG p e below T5 m 33 #[oI p1, oI p2, oI p3] [(.int 65536), (.int (((p2 - (55296 : Int32)) <<< ((10 : Int32) &&& 31)) + (p3 - (56320 : Int32))))] _
          refine XS.iadd X5.here hx rfl (hb hby own_d11_33) rfl ?_
          exact k
        have hv : (own_first p1 p2 p3) = ((((p2 - (55296 : Int32)) <<< ((10 : Int32) &&& 31)) + (p3 - (56320 : Int32))) + (65536 : Int32)) := by unfold own_first; simp only [if_neg hc1_0, if_pos hc8_1, if_neg hc16_2]
        obtain ⟨fs, hr, hrun, hended, hW, hsame⟩ := X5.leave (v := some (.int ((((p2 - (55296 : Int32)) <<< ((10 : Int32) &&& 31)) + (p3 - (56320 : Int32))) + (65536 : Int32)))) (fun h => by rw [Bd.returns] at h; cases h)
        refine ⟨_, _, R7 _ ?_, hrun, hended, _, _, rfl, ?_, ⟨_, rfl⟩, hW, hsame.mono (by decide) (by decide)⟩
        · exact retOut X5 hx Bd.returns rfl (Or.inl ⟨rfl, Or.inl rfl, _, rfl⟩) (hb hby own_d11_34) hr
        · show Q_rmFirst Z p1 p2 p3 h0 n0 _ T5.heap _
          rw [eq5]
          exact ⟨by rw [hv], N5, rfl⟩
    · have R8 : ∀ t, oG p e below s₁ m 36 #[oI p1, oI p2, oI p3] [(.int p2)] t → Steps p.tables e below (s₁.setTop (entryFrame m #[(.int p1), (.int p2), (.int p3)] 3)) t := by
        intro t k
        refine R3 t ?_
        refine XS.icmpYes X0.here hx rfl (pc0 := 8) (pc' := 35) rfl (hb hby own_d11_8) rfl (feq hc8_1).2 (by decide) (by decide) ?_
        refine XS.iloadN X0.here hx rfl (hb hby own_d11_35) rfl ?_
        exact k
      have hv : (own_first p1 p2 p3) = p2 := by unfold own_first; simp only [if_neg hc1_0, if_neg hc8_1]
      obtain ⟨fs, hr, hrun, hended, hW, hsame⟩ := X0.leave (v := some (.int p2)) (fun h => by rw [Bd.returns] at h; cases h)
      refine ⟨_, _, R8 _ ?_, hrun, hended, _, _, rfl, ?_, ⟨_, rfl⟩, hW, hsame.mono (by decide) (by decide)⟩
      · exact retOut X0 hx Bd.returns rfl (Or.inl ⟨rfl, Or.inl rfl, _, rfl⟩) (hb hby own_d11_36) hr
      · show Q_rmFirst Z p1 p2 p3 h0 n0 _ s₁.heap _
        rw [e0]
        exact ⟨by rw [hv], N0, rfl⟩
theorem own_ef_rmSecond (m : MethodId) (x0 : Int32) (x1 : Int32) (x2 : Int32) : entryFrame m #[(.int x0), (.int x1), (.int x2)] 3 = mkF m 0 #[oI x0, oI x1, oI x2] [] := by first | (simp [entryFrame, mkF, argsToLocals, Value.category]; done) | rfl
theorem own_d12_0 : decode method_9_code 0 = .ok (.iload_n 0, 1) := by decide +kernel
theorem own_d12_1 : decode method_9_code 1 = .ok (.iconst 2, 1) := by decide +kernel
theorem own_d12_2 : decode method_9_code 2 = .ok (.if_icmp .ne 13, 3) := by decide +kernel
theorem own_d12_5 : decode method_9_code 5 = .ok (.iload_n 1, 1) := by decide +kernel
theorem own_d12_6 : decode method_9_code 6 = .ok (.iload_n 2, 1) := by decide +kernel
theorem own_d12_7 : decode method_9_code 7 = .ok (.invokestatic 45, 3) := by decide +kernel
theorem own_d12_10 : decode method_9_code 10 = .ok (.ifCond .ne 5, 3) := by decide +kernel
theorem own_d12_13 : decode method_9_code 13 = .ok (.iload_n 2, 1) := by decide +kernel
theorem own_d12_14 : decode method_9_code 14 = .ok (.ireturn, 1) := by decide +kernel
theorem own_d12_15 : decode method_9_code 15 = .ok (.iconst (-1), 1) := by decide +kernel
theorem own_d12_16 : decode method_9_code 16 = .ok (.ireturn, 1) := by decide +kernel
def own_second (p1 p2 p3 : Int32) : Int32 := (if p1 = (2 : Int32) then (if (own_pair p2 p3) = (0 : Int32) then p3 else (-1 : Int32)) else (-1 : Int32))
def Q_rmSecond (Z : State) (p1 p2 p3 : Int32) (h0 : Heap) (n0 : Nat) (v : Option Value) (h : Heap) (L : List Loc) : Prop := v = some (.int (own_second p1 p2 p3)) ∧ Fr n0 L ∧ h = h0
set_option maxRecDepth 65536 in
set_option maxHeartbeats 40000000 in
theorem rmSecond (l : Launch) (Z : State) (a0 : Array Value) (hw : oT a0 Z) (ws : List Jvm.Cond) (p1 p2 p3 : Int32) (h0 : Heap) (n0 : Nat) (Z0 : n0 ≤ h0.size)  :
    oK l Z (⟨"com/example/firm_store/firmstore/IdentifiersCompareCodePointsPinLaw", "second", "(ICC)I"⟩ : MethodName) method_9_code 3 (some .int) ws (oM 2 0 0 25) #[(.int p1), (.int p2), (.int p3)] h0 (Q_rmSecond Z p1 p2 p3 h0 n0) := by
  refine MetFree.of_bodySF (plainFor_of_name own_pn0) hisR ?_
  intro p e s m args below meth c s₁ Bd hml0 hP hK
  obtain ⟨rfl, hZ, hh⟩ := hP
  have hx := Bd.exec
  have hby := Bd.bytes
  have hml : c.maxLocals = 3 := hml0
  have hown : s.vm.findClass "com/example/firm_store/firmstore/IdentifiersCompareCodePointsPinLaw" = some m.cls := findClass_of_methodNamed Bd.named
  have hnm := (name_of_methodNamed Bd.named Bd.method).1
  have X0 : Stand p l e (oM 2 0 0 25) s m #[(.int p1), (.int p2), (.int p3)] below meth c s₁ [] 0 0 := Stand.of_body Bd
  have e0 : s₁.heap = h0 := by rw [← hh, Bd.state]; rfl
  have N0 := Fr.nil n0
  have R0 : ∀ t, oG p e below s₁ m 0 #[oI p1, oI p2, oI p3] [] t → Steps p.tables e below (s₁.setTop (entryFrame m #[(.int p1), (.int p2), (.int p3)] 3)) t := fun t k => castTop (own_ef_rmSecond m p1 p2 p3) k
  have R1 : ∀ t, oG p e below s₁ m 2 #[oI p1, oI p2, oI p3] [(.int 2), (.int p1)] t → Steps p.tables e below (s₁.setTop (entryFrame m #[(.int p1), (.int p2), (.int p3)] 3)) t := by
    intro t k
    refine R0 t ?_
    refine XS.iloadN X0.here hx rfl (hb hby own_d12_0) rfl ?_
    refine XS.iconst X0.here hx rfl (hb hby own_d12_1) ?_
    exact k
  by_cases hc2_0 : p1 = (2 : Int32)
  · have R2 : ∀ t, oG p e below s₁ m 7 #[oI p1, oI p2, oI p3] [(.int p3), (.int p2)] t → Steps p.tables e below (s₁.setTop (entryFrame m #[(.int p1), (.int p2), (.int p3)] 3)) t := by
      intro t k
      refine R1 t ?_
      refine XS.icmpNo X0.here hx rfl (hb hby own_d12_2) rfl (teq hc2_0).2 ?_
      refine XS.iloadN X0.here hx rfl (hb hby own_d12_5) rfl ?_
      refine XS.iloadN X0.here hx rfl (hb hby own_d12_6) rfl ?_
      exact k
    obtain ⟨_, _, ⟨T3, L3, k3, n3⟩, -, X3, ⟨Lc3, hQ3, l3, y3, z3⟩, st3⟩ := Jvm.LawKit.callS X0 hx (y := (⟨"com/example/firm_store/firmstore/IdentifiersCompareCodePointsPinLaw", "paired", "(CC)Z"⟩ : MethodName)) hown (mvT hZ (oW hw 40 rfl)) (mvT hZ (oW hw 41 rfl)) (mvT hZ (oW hw 2 rfl)) (mvT hZ (oW hw 42 rfl)) (by decide) (backOf (W := 0) (rmPair l Z a0 hw [] p2 p3  h0 n0 Z0 ) hZ (oW hw 42 rfl) (oW hw 2 rfl) (by decide) (by decide)) (g := (mkF m 7 #[oI p1, oI p2, oI p3] [(.int p3), (.int p2)])) rfl (by rw [hml]; rfl) (argsL := [(.int p2), (.int p3)]) (rest := []) (lenOf own_pd8 rfl) rfl (by show 2 * 0 + _ ≤ _; exact Nat.le_of_eq rfl) (hb hby own_d12_7) (fun _ _ => ⟨rfl, e0, (by decide : 0 + 0 ≤ _), (by decide : 0 + 0 ≤ _)⟩)
    dsimp only [Pt.U, Pt.locs, Pt.cells, Pt.slots] at X3 l3 y3 z3 st3 hQ3
    subst l3 y3 z3
    obtain ⟨rfl, Nq3, eq3⟩ := hQ3
    have N3 := Fr.app N0 Nq3
    have R3 : ∀ t, oG p e below T3 m 10 #[oI p1, oI p2, oI p3] [(.int (own_pair p2 p3))] t → Steps p.tables e below (s₁.setTop (entryFrame m #[(.int p1), (.int p2), (.int p3)] 3)) t := fun t k => R2 t (st3 t k)
    by_cases hc10_1 : (own_pair p2 p3) = (0 : Int32)
    · have R4 : ∀ t, oG p e below T3 m 14 #[oI p1, oI p2, oI p3] [(.int p3)] t → Steps p.tables e below (s₁.setTop (entryFrame m #[(.int p1), (.int p2), (.int p3)] 3)) t := by
        intro t k
        refine R3 t ?_
        refine XS.ifNo X3.here hx rfl (hb hby own_d12_10) rfl ((if0 _ _).trans (teq hc10_1).2) ?_
        refine XS.iloadN X3.here hx rfl (hb hby own_d12_13) rfl ?_
        exact k
      have hv : (own_second p1 p2 p3) = p3 := by unfold own_second; simp only [if_pos hc2_0, if_pos hc10_1]
      obtain ⟨fs, hr, hrun, hended, hW, hsame⟩ := X3.leave (v := some (.int p3)) (fun h => by rw [Bd.returns] at h; cases h)
      refine ⟨_, _, R4 _ ?_, hrun, hended, _, _, rfl, ?_, ⟨_, rfl⟩, hW, hsame.mono (by decide) (by decide)⟩
      · exact retOut X3 hx Bd.returns rfl (Or.inl ⟨rfl, Or.inl rfl, _, rfl⟩) (hb hby own_d12_14) hr
      · show Q_rmSecond Z p1 p2 p3 h0 n0 _ T3.heap _
        rw [eq3]
        exact ⟨by rw [hv], N3, rfl⟩
    · have R5 : ∀ t, oG p e below T3 m 16 #[oI p1, oI p2, oI p3] [(.int (-1))] t → Steps p.tables e below (s₁.setTop (entryFrame m #[(.int p1), (.int p2), (.int p3)] 3)) t := by
        intro t k
        refine R3 t ?_
        refine XS.ifYes X3.here hx rfl (pc0 := 10) (pc' := 15) rfl (hb hby own_d12_10) rfl ((if0 _ _).trans (feq hc10_1).2) (by decide) (by decide) ?_
        refine XS.iconst X3.here hx rfl (hb hby own_d12_15) ?_
        exact k
      have hv : (own_second p1 p2 p3) = (-1 : Int32) := by unfold own_second; simp only [if_pos hc2_0, if_neg hc10_1]
      obtain ⟨fs, hr, hrun, hended, hW, hsame⟩ := X3.leave (v := some (.int (-1))) (fun h => by rw [Bd.returns] at h; cases h)
      refine ⟨_, _, R5 _ ?_, hrun, hended, _, _, rfl, ?_, ⟨_, rfl⟩, hW, hsame.mono (by decide) (by decide)⟩
      · exact retOut X3 hx Bd.returns rfl (Or.inl ⟨rfl, Or.inl rfl, _, rfl⟩) (hb hby own_d12_16) hr
      · show Q_rmSecond Z p1 p2 p3 h0 n0 _ T3.heap _
        rw [eq3]
        exact ⟨by rw [hv], N3, rfl⟩
  · have R6 : ∀ t, oG p e below s₁ m 16 #[oI p1, oI p2, oI p3] [(.int (-1))] t → Steps p.tables e below (s₁.setTop (entryFrame m #[(.int p1), (.int p2), (.int p3)] 3)) t := by
      intro t k
      refine R1 t ?_
      refine XS.icmpYes X0.here hx rfl (pc0 := 2) (pc' := 15) rfl (hb hby own_d12_2) rfl (feq hc2_0).2 (by decide) (by decide) ?_
      refine XS.iconst X0.here hx rfl (hb hby own_d12_15) ?_
      exact k
    have hv : (own_second p1 p2 p3) = (-1 : Int32) := by unfold own_second; simp only [if_neg hc2_0]
    obtain ⟨fs, hr, hrun, hended, hW, hsame⟩ := X0.leave (v := some (.int (-1))) (fun h => by rw [Bd.returns] at h; cases h)
    refine ⟨_, _, R6 _ ?_, hrun, hended, _, _, rfl, ?_, ⟨_, rfl⟩, hW, hsame.mono (by decide) (by decide)⟩
    · exact retOut X0 hx Bd.returns rfl (Or.inl ⟨rfl, Or.inl rfl, _, rfl⟩) (hb hby own_d12_16) hr
    · show Q_rmSecond Z p1 p2 p3 h0 n0 _ s₁.heap _
      rw [e0]
      exact ⟨by rw [hv], N0, rfl⟩
theorem own_pn1 : plainName "java/lang/Integer" = true := by first | (simp [plainName, overriddenIn]; done) | decide +kernel
theorem own_ef_rmICmp (m : MethodId) (x0 : Int32) (x1 : Int32) : entryFrame m #[(.int x0), (.int x1)] 2 = mkF m 0 #[oI x0, oI x1] [] := by first | (simp [entryFrame, mkF, argsToLocals, Value.category]; done) | rfl
theorem own_d16_0 : decode jdk_33_method_40_code 0 = .ok (.iload_n 0, 1) := by decide +kernel
theorem own_d16_1 : decode jdk_33_method_40_code 1 = .ok (.iload_n 1, 1) := by decide +kernel
theorem own_d16_2 : decode jdk_33_method_40_code 2 = .ok (.if_icmp .ge 7, 3) := by decide +kernel
theorem own_d16_5 : decode jdk_33_method_40_code 5 = .ok (.iconst (-1), 1) := by decide +kernel
theorem own_d16_6 : decode jdk_33_method_40_code 6 = .ok (.goto 13, 3) := by decide +kernel
theorem own_d16_19 : decode jdk_33_method_40_code 19 = .ok (.ireturn, 1) := by decide +kernel
theorem own_d16_9 : decode jdk_33_method_40_code 9 = .ok (.iload_n 0, 1) := by decide +kernel
theorem own_d16_10 : decode jdk_33_method_40_code 10 = .ok (.iload_n 1, 1) := by decide +kernel
theorem own_d16_11 : decode jdk_33_method_40_code 11 = .ok (.if_icmp .ne 7, 3) := by decide +kernel
theorem own_d16_14 : decode jdk_33_method_40_code 14 = .ok (.iconst 0, 1) := by decide +kernel
theorem own_d16_15 : decode jdk_33_method_40_code 15 = .ok (.goto 4, 3) := by decide +kernel
theorem own_d16_18 : decode jdk_33_method_40_code 18 = .ok (.iconst 1, 1) := by decide +kernel
def own_icmp (p1 p2 : Int32) : Int32 := (if p1 < p2 then (-1 : Int32) else (if p1 = p2 then (0 : Int32) else (1 : Int32)))
def Q_rmICmp (Z : State) (p1 p2 : Int32) (h0 : Heap) (n0 : Nat) (v : Option Value) (h : Heap) (L : List Loc) : Prop := v = some (.int (own_icmp p1 p2)) ∧ Fr n0 L ∧ h = h0
set_option maxRecDepth 65536 in
set_option maxHeartbeats 40000000 in
theorem rmICmp (l : Launch) (Z : State) (a0 : Array Value) (hw : oT a0 Z) (ws : List Jvm.Cond) (p1 p2 : Int32) (h0 : Heap) (n0 : Nat) (Z0 : n0 ≤ h0.size)  :
    oK l Z (⟨"java/lang/Integer", "compare", "(II)I"⟩ : MethodName) jdk_33_method_40_code 2 (some .int) ws (oM 0 0 0 0) #[(.int p1), (.int p2)] h0 (Q_rmICmp Z p1 p2 h0 n0) := by
  refine MetFree.of_bodySF (plainFor_of_name own_pn1) hisR ?_
  intro p e s m args below meth c s₁ Bd hml0 hP hK
  obtain ⟨rfl, hZ, hh⟩ := hP
  have hx := Bd.exec
  have hby := Bd.bytes
  have hml : c.maxLocals = 2 := hml0
  have hown : s.vm.findClass "java/lang/Integer" = some m.cls := findClass_of_methodNamed Bd.named
  have hnm := (name_of_methodNamed Bd.named Bd.method).1
  have X0 : Stand p l e (oM 0 0 0 0) s m #[(.int p1), (.int p2)] below meth c s₁ [] 0 0 := Stand.of_body Bd
  have e0 : s₁.heap = h0 := by rw [← hh, Bd.state]; rfl
  have N0 := Fr.nil n0
  have R0 : ∀ t, oG p e below s₁ m 0 #[oI p1, oI p2] [] t → Steps p.tables e below (s₁.setTop (entryFrame m #[(.int p1), (.int p2)] 2)) t := fun t k => castTop (own_ef_rmICmp m p1 p2) k
  have R1 : ∀ t, oG p e below s₁ m 2 #[oI p1, oI p2] [(.int p2), (.int p1)] t → Steps p.tables e below (s₁.setTop (entryFrame m #[(.int p1), (.int p2)] 2)) t := by
    intro t k
    refine R0 t ?_
    refine XS.iloadN X0.here hx rfl (hb hby own_d16_0) rfl ?_
    refine XS.iloadN X0.here hx rfl (hb hby own_d16_1) rfl ?_
    exact k
  by_cases hc2_0 : p1 < p2
  · have R2 : ∀ t, oG p e below s₁ m 19 #[oI p1, oI p2] [(.int (-1))] t → Steps p.tables e below (s₁.setTop (entryFrame m #[(.int p1), (.int p2)] 2)) t := by
      intro t k
      refine R1 t ?_
      refine XS.icmpNo X0.here hx rfl (hb hby own_d16_2) rfl (tlt hc2_0).2.1 ?_
      refine XS.iconst X0.here hx rfl (hb hby own_d16_5) ?_
      refine XS.goto X0.here hx rfl (pc0 := 6) (pc' := 19) rfl (hb hby own_d16_6) (by decide) (by decide) ?_
      exact k
    have hv : (own_icmp p1 p2) = (-1 : Int32) := by unfold own_icmp; simp only [if_pos hc2_0]
    obtain ⟨fs, hr, hrun, hended, hW, hsame⟩ := X0.leave (v := some (.int (-1))) (fun h => by rw [Bd.returns] at h; cases h)
    refine ⟨_, _, R2 _ ?_, hrun, hended, _, _, rfl, ?_, ⟨_, rfl⟩, hW, hsame.mono (by decide) (by decide)⟩
    · exact retOut X0 hx Bd.returns rfl (Or.inl ⟨rfl, Or.inl rfl, _, rfl⟩) (hb hby own_d16_19) hr
    · show Q_rmICmp Z p1 p2 h0 n0 _ s₁.heap _
      rw [e0]
      exact ⟨by rw [hv], N0, rfl⟩
  · have R3 : ∀ t, oG p e below s₁ m 11 #[oI p1, oI p2] [(.int p2), (.int p1)] t → Steps p.tables e below (s₁.setTop (entryFrame m #[(.int p1), (.int p2)] 2)) t := by
      intro t k
      refine R1 t ?_
      refine XS.icmpYes X0.here hx rfl (pc0 := 2) (pc' := 9) rfl (hb hby own_d16_2) rfl (flt hc2_0).2.1 (by decide) (by decide) ?_
      refine XS.iloadN X0.here hx rfl (hb hby own_d16_9) rfl ?_
      refine XS.iloadN X0.here hx rfl (hb hby own_d16_10) rfl ?_
      exact k
    by_cases hc11_1 : p1 = p2
    · have R4 : ∀ t, oG p e below s₁ m 19 #[oI p1, oI p2] [(.int 0)] t → Steps p.tables e below (s₁.setTop (entryFrame m #[(.int p1), (.int p2)] 2)) t := by
        intro t k
        refine R3 t ?_
        refine XS.icmpNo X0.here hx rfl (hb hby own_d16_11) rfl (teq hc11_1).2 ?_
        refine XS.iconst X0.here hx rfl (hb hby own_d16_14) ?_
        refine XS.goto X0.here hx rfl (pc0 := 15) (pc' := 19) rfl (hb hby own_d16_15) (by decide) (by decide) ?_
        exact k
      have hv : (own_icmp p1 p2) = (0 : Int32) := by unfold own_icmp; simp only [if_neg hc2_0, if_pos hc11_1]
      obtain ⟨fs, hr, hrun, hended, hW, hsame⟩ := X0.leave (v := some (.int 0)) (fun h => by rw [Bd.returns] at h; cases h)
      refine ⟨_, _, R4 _ ?_, hrun, hended, _, _, rfl, ?_, ⟨_, rfl⟩, hW, hsame.mono (by decide) (by decide)⟩
      · exact retOut X0 hx Bd.returns rfl (Or.inl ⟨rfl, Or.inl rfl, _, rfl⟩) (hb hby own_d16_19) hr
      · show Q_rmICmp Z p1 p2 h0 n0 _ s₁.heap _
        rw [e0]
        exact ⟨by rw [hv], N0, rfl⟩
    · have R5 : ∀ t, oG p e below s₁ m 19 #[oI p1, oI p2] [(.int 1)] t → Steps p.tables e below (s₁.setTop (entryFrame m #[(.int p1), (.int p2)] 2)) t := by
        intro t k
        refine R3 t ?_
        refine XS.icmpYes X0.here hx rfl (pc0 := 11) (pc' := 18) rfl (hb hby own_d16_11) rfl (feq hc11_1).2 (by decide) (by decide) ?_
        refine XS.iconst X0.here hx rfl (hb hby own_d16_18) ?_
        exact k
      have hv : (own_icmp p1 p2) = (1 : Int32) := by unfold own_icmp; simp only [if_neg hc2_0, if_neg hc11_1]
      obtain ⟨fs, hr, hrun, hended, hW, hsame⟩ := X0.leave (v := some (.int 1)) (fun h => by rw [Bd.returns] at h; cases h)
      refine ⟨_, _, R5 _ ?_, hrun, hended, _, _, rfl, ?_, ⟨_, rfl⟩, hW, hsame.mono (by decide) (by decide)⟩
      · exact retOut X0 hx Bd.returns rfl (Or.inl ⟨rfl, Or.inl rfl, _, rfl⟩) (hb hby own_d16_19) hr
      · show Q_rmICmp Z p1 p2 h0 n0 _ s₁.heap _
        rw [e0]
        exact ⟨by rw [hv], N0, rfl⟩
theorem own_pn2 : plainName "java/lang/Character" = true := by first | (simp [plainName, overriddenIn]; done) | decide +kernel
theorem own_ef_rmHS (m : MethodId) (x0 : Int32) : entryFrame m #[(.int x0)] 1 = mkF m 0 #[oI x0] [] := by first | (simp [entryFrame, mkF, argsToLocals, Value.category]; done) | rfl
theorem own_d28_0 : decode jdk_89_method_14_code 0 = .ok (.iload_n 0, 1) := by decide +kernel
theorem own_d28_1 : decode jdk_89_method_14_code 1 = .ok (.ldc 75, 2) := by decide +kernel
theorem own_d28_3 : decode jdk_89_method_14_code 3 = .ok (.if_icmp .lt 13, 3) := by decide +kernel
theorem own_d28_16 : decode jdk_89_method_14_code 16 = .ok (.iconst 0, 1) := by decide +kernel
theorem own_d28_17 : decode jdk_89_method_14_code 17 = .ok (.ireturn, 1) := by decide +kernel
theorem own_d28_6 : decode jdk_89_method_14_code 6 = .ok (.iload_n 0, 1) := by decide +kernel
theorem own_d28_7 : decode jdk_89_method_14_code 7 = .ok (.ldc 76, 2) := by decide +kernel
theorem own_d28_9 : decode jdk_89_method_14_code 9 = .ok (.if_icmp .ge 7, 3) := by decide +kernel
theorem own_d28_12 : decode jdk_89_method_14_code 12 = .ok (.iconst 1, 1) := by decide +kernel
theorem own_d28_13 : decode jdk_89_method_14_code 13 = .ok (.goto 4, 3) := by decide +kernel
def own_hs (p1 : Int32) : Int32 := (if p1 < (55296 : Int32) then (0 : Int32) else (if p1 < (56320 : Int32) then (1 : Int32) else (0 : Int32)))
def Q_rmHS (Z : State) (p1 : Int32) (h0 : Heap) (n0 : Nat) (v : Option Value) (h : Heap) (L : List Loc) : Prop := v = some (.int (own_hs p1)) ∧ Fr n0 L ∧ h = h0
set_option maxRecDepth 65536 in
set_option maxHeartbeats 40000000 in
theorem rmHS (l : Launch) (Z : State) (a0 : Array Value) (hw : oT a0 Z) (ws : List Jvm.Cond) (p1 : Int32) (h0 : Heap) (n0 : Nat) (Z0 : n0 ≤ h0.size)  :
    oK l Z (⟨"java/lang/Character", "isHighSurrogate", "(C)Z"⟩ : MethodName) jdk_89_method_14_code 1 (some .boolean) ws (oM 0 0 0 0) #[(.int p1)] h0 (Q_rmHS Z p1 h0 n0) := by
  refine MetFree.of_bodySF (plainFor_of_name own_pn2) hisR ?_
  intro p e s m args below meth c s₁ Bd hml0 hP hK
  obtain ⟨rfl, hZ, hh⟩ := hP
  have hx := Bd.exec
  have hby := Bd.bytes
  have hml : c.maxLocals = 1 := hml0
  have hown : s.vm.findClass "java/lang/Character" = some m.cls := findClass_of_methodNamed Bd.named
  have hnm := (name_of_methodNamed Bd.named Bd.method).1
  have X0 : Stand p l e (oM 0 0 0 0) s m #[(.int p1)] below meth c s₁ [] 0 0 := Stand.of_body Bd
  have e0 : s₁.heap = h0 := by rw [← hh, Bd.state]; rfl
  have N0 := Fr.nil n0
  have R0 : ∀ t, oG p e below s₁ m 0 #[oI p1] [] t → Steps p.tables e below (s₁.setTop (entryFrame m #[(.int p1)] 1)) t := fun t k => castTop (own_ef_rmHS m p1) k
  have R1 : ∀ t, oG p e below s₁ m 3 #[oI p1] [(.int 55296), (.int p1)] t → Steps p.tables e below (s₁.setTop (entryFrame m #[(.int p1)] 1)) t := by
    intro t k
    refine R0 t ?_
    refine XS.iloadN X0.here hx rfl (hb hby own_d28_0) rfl ?_
    refine X0.ldcInt hx hown (mvT hZ (oW hw 119 rfl)) (g := (mkF m 1 #[oI p1] [(.int p1)])) rfl (hb hby own_d28_1) _ ?_
    exact k
  by_cases hc3_0 : p1 < (55296 : Int32)
  · have R2 : ∀ t, oG p e below s₁ m 17 #[oI p1] [(.int 0)] t → Steps p.tables e below (s₁.setTop (entryFrame m #[(.int p1)] 1)) t := by
      intro t k
      refine R1 t ?_
      refine XS.icmpYes X0.here hx rfl (pc0 := 3) (pc' := 16) rfl (hb hby own_d28_3) rfl (tlt hc3_0).1 (by decide) (by decide) ?_
      refine XS.iconst X0.here hx rfl (hb hby own_d28_16) ?_
      exact k
    have hv : (own_hs p1) = (0 : Int32) := by unfold own_hs; simp only [if_pos hc3_0]
    obtain ⟨fs, hr, hrun, hended, hW, hsame⟩ := X0.leave (v := some (.int 0)) (fun h => by rw [Bd.returns] at h; cases h)
    refine ⟨_, _, R2 _ ?_, hrun, hended, _, _, rfl, ?_, ⟨_, rfl⟩, hW, hsame.mono (by decide) (by decide)⟩
    · exact retN X0 hx (t := .boolean) Bd.returns (by simp) (hb hby own_d28_17) hr
    · show Q_rmHS Z p1 h0 n0 _ s₁.heap _
      rw [e0]
      exact ⟨by rw [hv], N0, rfl⟩
  · have R3 : ∀ t, oG p e below s₁ m 9 #[oI p1] [(.int 56320), (.int p1)] t → Steps p.tables e below (s₁.setTop (entryFrame m #[(.int p1)] 1)) t := by
      intro t k
      refine R1 t ?_
      refine XS.icmpNo X0.here hx rfl (hb hby own_d28_3) rfl (flt hc3_0).1 ?_
      refine XS.iloadN X0.here hx rfl (hb hby own_d28_6) rfl ?_
      refine X0.ldcInt hx hown (mvT hZ (oW hw 120 rfl)) (g := (mkF m 7 #[oI p1] [(.int p1)])) rfl (hb hby own_d28_7) _ ?_
      exact k
    by_cases hc9_1 : p1 < (56320 : Int32)
    · have R4 : ∀ t, oG p e below s₁ m 17 #[oI p1] [(.int 1)] t → Steps p.tables e below (s₁.setTop (entryFrame m #[(.int p1)] 1)) t := by
        intro t k
        refine R3 t ?_
        refine XS.icmpNo X0.here hx rfl (hb hby own_d28_9) rfl (tlt hc9_1).2.1 ?_
        refine XS.iconst X0.here hx rfl (hb hby own_d28_12) ?_
        refine XS.goto X0.here hx rfl (pc0 := 13) (pc' := 17) rfl (hb hby own_d28_13) (by decide) (by decide) ?_
        exact k
      have hv : (own_hs p1) = (1 : Int32) := by unfold own_hs; simp only [if_neg hc3_0, if_pos hc9_1]
      obtain ⟨fs, hr, hrun, hended, hW, hsame⟩ := X0.leave (v := some (.int 1)) (fun h => by rw [Bd.returns] at h; cases h)
      refine ⟨_, _, R4 _ ?_, hrun, hended, _, _, rfl, ?_, ⟨_, rfl⟩, hW, hsame.mono (by decide) (by decide)⟩
      · exact retN X0 hx (t := .boolean) Bd.returns (by simp) (hb hby own_d28_17) hr
      · show Q_rmHS Z p1 h0 n0 _ s₁.heap _
        rw [e0]
        exact ⟨by rw [hv], N0, rfl⟩
    · have R5 : ∀ t, oG p e below s₁ m 17 #[oI p1] [(.int 0)] t → Steps p.tables e below (s₁.setTop (entryFrame m #[(.int p1)] 1)) t := by
        intro t k
        refine R3 t ?_
        refine XS.icmpYes X0.here hx rfl (pc0 := 9) (pc' := 16) rfl (hb hby own_d28_9) rfl (flt hc9_1).2.1 (by decide) (by decide) ?_
        refine XS.iconst X0.here hx rfl (hb hby own_d28_16) ?_
        exact k
      have hv : (own_hs p1) = (0 : Int32) := by unfold own_hs; simp only [if_neg hc3_0, if_neg hc9_1]
      obtain ⟨fs, hr, hrun, hended, hW, hsame⟩ := X0.leave (v := some (.int 0)) (fun h => by rw [Bd.returns] at h; cases h)
      refine ⟨_, _, R5 _ ?_, hrun, hended, _, _, rfl, ?_, ⟨_, rfl⟩, hW, hsame.mono (by decide) (by decide)⟩
      · exact retN X0 hx (t := .boolean) Bd.returns (by simp) (hb hby own_d28_17) hr
      · show Q_rmHS Z p1 h0 n0 _ s₁.heap _
        rw [e0]
        exact ⟨by rw [hv], N0, rfl⟩
theorem own_ef_rmLS (m : MethodId) (x0 : Int32) : entryFrame m #[(.int x0)] 1 = mkF m 0 #[oI x0] [] := by first | (simp [entryFrame, mkF, argsToLocals, Value.category]; done) | rfl
theorem own_d30_0 : decode jdk_89_method_15_code 0 = .ok (.iload_n 0, 1) := by decide +kernel
theorem own_d30_1 : decode jdk_89_method_15_code 1 = .ok (.ldc 76, 2) := by decide +kernel
theorem own_d30_3 : decode jdk_89_method_15_code 3 = .ok (.if_icmp .lt 13, 3) := by decide +kernel
theorem own_d30_16 : decode jdk_89_method_15_code 16 = .ok (.iconst 0, 1) := by decide +kernel
theorem own_d30_17 : decode jdk_89_method_15_code 17 = .ok (.ireturn, 1) := by decide +kernel
theorem own_d30_6 : decode jdk_89_method_15_code 6 = .ok (.iload_n 0, 1) := by decide +kernel
theorem own_d30_7 : decode jdk_89_method_15_code 7 = .ok (.ldc 77, 2) := by decide +kernel
theorem own_d30_9 : decode jdk_89_method_15_code 9 = .ok (.if_icmp .ge 7, 3) := by decide +kernel
theorem own_d30_12 : decode jdk_89_method_15_code 12 = .ok (.iconst 1, 1) := by decide +kernel
theorem own_d30_13 : decode jdk_89_method_15_code 13 = .ok (.goto 4, 3) := by decide +kernel
def own_ls (p1 : Int32) : Int32 := (if p1 < (56320 : Int32) then (0 : Int32) else (if p1 < (57344 : Int32) then (1 : Int32) else (0 : Int32)))
def Q_rmLS (Z : State) (p1 : Int32) (h0 : Heap) (n0 : Nat) (v : Option Value) (h : Heap) (L : List Loc) : Prop := v = some (.int (own_ls p1)) ∧ Fr n0 L ∧ h = h0
set_option maxRecDepth 65536 in
set_option maxHeartbeats 40000000 in
theorem rmLS (l : Launch) (Z : State) (a0 : Array Value) (hw : oT a0 Z) (ws : List Jvm.Cond) (p1 : Int32) (h0 : Heap) (n0 : Nat) (Z0 : n0 ≤ h0.size)  :
    oK l Z (⟨"java/lang/Character", "isLowSurrogate", "(C)Z"⟩ : MethodName) jdk_89_method_15_code 1 (some .boolean) ws (oM 0 0 0 0) #[(.int p1)] h0 (Q_rmLS Z p1 h0 n0) := by
  refine MetFree.of_bodySF (plainFor_of_name own_pn2) hisR ?_
  intro p e s m args below meth c s₁ Bd hml0 hP hK
  obtain ⟨rfl, hZ, hh⟩ := hP
  have hx := Bd.exec
  have hby := Bd.bytes
  have hml : c.maxLocals = 1 := hml0
  have hown : s.vm.findClass "java/lang/Character" = some m.cls := findClass_of_methodNamed Bd.named
  have hnm := (name_of_methodNamed Bd.named Bd.method).1
  have X0 : Stand p l e (oM 0 0 0 0) s m #[(.int p1)] below meth c s₁ [] 0 0 := Stand.of_body Bd
  have e0 : s₁.heap = h0 := by rw [← hh, Bd.state]; rfl
  have N0 := Fr.nil n0
  have R0 : ∀ t, oG p e below s₁ m 0 #[oI p1] [] t → Steps p.tables e below (s₁.setTop (entryFrame m #[(.int p1)] 1)) t := fun t k => castTop (own_ef_rmLS m p1) k
  have R1 : ∀ t, oG p e below s₁ m 3 #[oI p1] [(.int 56320), (.int p1)] t → Steps p.tables e below (s₁.setTop (entryFrame m #[(.int p1)] 1)) t := by
    intro t k
    refine R0 t ?_
    refine XS.iloadN X0.here hx rfl (hb hby own_d30_0) rfl ?_
    refine X0.ldcInt hx hown (mvT hZ (oW hw 120 rfl)) (g := (mkF m 1 #[oI p1] [(.int p1)])) rfl (hb hby own_d30_1) _ ?_
    exact k
  by_cases hc3_0 : p1 < (56320 : Int32)
  · have R2 : ∀ t, oG p e below s₁ m 17 #[oI p1] [(.int 0)] t → Steps p.tables e below (s₁.setTop (entryFrame m #[(.int p1)] 1)) t := by
      intro t k
      refine R1 t ?_
      refine XS.icmpYes X0.here hx rfl (pc0 := 3) (pc' := 16) rfl (hb hby own_d30_3) rfl (tlt hc3_0).1 (by decide) (by decide) ?_
      refine XS.iconst X0.here hx rfl (hb hby own_d30_16) ?_
      exact k
    have hv : (own_ls p1) = (0 : Int32) := by unfold own_ls; simp only [if_pos hc3_0]
    obtain ⟨fs, hr, hrun, hended, hW, hsame⟩ := X0.leave (v := some (.int 0)) (fun h => by rw [Bd.returns] at h; cases h)
    refine ⟨_, _, R2 _ ?_, hrun, hended, _, _, rfl, ?_, ⟨_, rfl⟩, hW, hsame.mono (by decide) (by decide)⟩
    · exact retN X0 hx (t := .boolean) Bd.returns (by simp) (hb hby own_d30_17) hr
    · show Q_rmLS Z p1 h0 n0 _ s₁.heap _
      rw [e0]
      exact ⟨by rw [hv], N0, rfl⟩
  · have R3 : ∀ t, oG p e below s₁ m 9 #[oI p1] [(.int 57344), (.int p1)] t → Steps p.tables e below (s₁.setTop (entryFrame m #[(.int p1)] 1)) t := by
      intro t k
      refine R1 t ?_
      refine XS.icmpNo X0.here hx rfl (hb hby own_d30_3) rfl (flt hc3_0).1 ?_
      refine XS.iloadN X0.here hx rfl (hb hby own_d30_6) rfl ?_
      refine X0.ldcInt hx hown (mvT hZ (oW hw 130 rfl)) (g := (mkF m 7 #[oI p1] [(.int p1)])) rfl (hb hby own_d30_7) _ ?_
      exact k
    by_cases hc9_1 : p1 < (57344 : Int32)
    · have R4 : ∀ t, oG p e below s₁ m 17 #[oI p1] [(.int 1)] t → Steps p.tables e below (s₁.setTop (entryFrame m #[(.int p1)] 1)) t := by
        intro t k
        refine R3 t ?_
        refine XS.icmpNo X0.here hx rfl (hb hby own_d30_9) rfl (tlt hc9_1).2.1 ?_
        refine XS.iconst X0.here hx rfl (hb hby own_d30_12) ?_
        refine XS.goto X0.here hx rfl (pc0 := 13) (pc' := 17) rfl (hb hby own_d30_13) (by decide) (by decide) ?_
        exact k
      have hv : (own_ls p1) = (1 : Int32) := by unfold own_ls; simp only [if_neg hc3_0, if_pos hc9_1]
      obtain ⟨fs, hr, hrun, hended, hW, hsame⟩ := X0.leave (v := some (.int 1)) (fun h => by rw [Bd.returns] at h; cases h)
      refine ⟨_, _, R4 _ ?_, hrun, hended, _, _, rfl, ?_, ⟨_, rfl⟩, hW, hsame.mono (by decide) (by decide)⟩
      · exact retN X0 hx (t := .boolean) Bd.returns (by simp) (hb hby own_d30_17) hr
      · show Q_rmLS Z p1 h0 n0 _ s₁.heap _
        rw [e0]
        exact ⟨by rw [hv], N0, rfl⟩
    · have R5 : ∀ t, oG p e below s₁ m 17 #[oI p1] [(.int 0)] t → Steps p.tables e below (s₁.setTop (entryFrame m #[(.int p1)] 1)) t := by
        intro t k
        refine R3 t ?_
        refine XS.icmpYes X0.here hx rfl (pc0 := 9) (pc' := 16) rfl (hb hby own_d30_9) rfl (flt hc9_1).2.1 (by decide) (by decide) ?_
        refine XS.iconst X0.here hx rfl (hb hby own_d30_16) ?_
        exact k
      have hv : (own_ls p1) = (0 : Int32) := by unfold own_ls; simp only [if_neg hc3_0, if_neg hc9_1]
      obtain ⟨fs, hr, hrun, hended, hW, hsame⟩ := X0.leave (v := some (.int 0)) (fun h => by rw [Bd.returns] at h; cases h)
      refine ⟨_, _, R5 _ ?_, hrun, hended, _, _, rfl, ?_, ⟨_, rfl⟩, hW, hsame.mono (by decide) (by decide)⟩
      · exact retN X0 hx (t := .boolean) Bd.returns (by simp) (hb hby own_d30_17) hr
      · show Q_rmLS Z p1 h0 n0 _ s₁.heap _
        rw [e0]
        exact ⟨by rw [hv], N0, rfl⟩
theorem own_ef_rmTCP (m : MethodId) (x0 : Int32) (x1 : Int32) : entryFrame m #[(.int x0), (.int x1)] 2 = mkF m 0 #[oI x0, oI x1] [] := by first | (simp [entryFrame, mkF, argsToLocals, Value.category]; done) | rfl
theorem own_d31_0 : decode jdk_89_method_19_code 0 = .ok (.iload_n 0, 1) := by decide +kernel
theorem own_d31_1 : decode jdk_89_method_19_code 1 = .ok (.bipush 10, 2) := by decide +kernel
theorem own_d31_3 : decode jdk_89_method_19_code 3 = .ok (.ishl, 1) := by decide +kernel
theorem own_d31_4 : decode jdk_89_method_19_code 4 = .ok (.iload_n 1, 1) := by decide +kernel
theorem own_d31_5 : decode jdk_89_method_19_code 5 = .ok (.iadd, 1) := by decide +kernel
theorem own_d31_6 : decode jdk_89_method_19_code 6 = .ok (.ldc 85, 2) := by decide +kernel
theorem own_d31_8 : decode jdk_89_method_19_code 8 = .ok (.iadd, 1) := by decide +kernel
theorem own_d31_9 : decode jdk_89_method_19_code 9 = .ok (.ireturn, 1) := by decide +kernel
def own_tcp (p1 p2 : Int32) : Int32 := (((p1 <<< ((10 : Int32) &&& 31)) + p2) + (-56613888 : Int32))
def Q_rmTCP (Z : State) (p1 p2 : Int32) (h0 : Heap) (n0 : Nat) (v : Option Value) (h : Heap) (L : List Loc) : Prop := v = some (.int (own_tcp p1 p2)) ∧ Fr n0 L ∧ h = h0
set_option maxRecDepth 65536 in
set_option maxHeartbeats 40000000 in
theorem rmTCP (l : Launch) (Z : State) (a0 : Array Value) (hw : oT a0 Z) (ws : List Jvm.Cond) (p1 p2 : Int32) (h0 : Heap) (n0 : Nat) (Z0 : n0 ≤ h0.size)  :
    oK l Z (⟨"java/lang/Character", "toCodePoint", "(CC)I"⟩ : MethodName) jdk_89_method_19_code 2 (some .int) ws (oM 0 0 0 0) #[(.int p1), (.int p2)] h0 (Q_rmTCP Z p1 p2 h0 n0) := by
  refine MetFree.of_bodySF (plainFor_of_name own_pn2) hisR ?_
  intro p e s m args below meth c s₁ Bd hml0 hP hK
  obtain ⟨rfl, hZ, hh⟩ := hP
  have hx := Bd.exec
  have hby := Bd.bytes
  have hml : c.maxLocals = 2 := hml0
  have hown : s.vm.findClass "java/lang/Character" = some m.cls := findClass_of_methodNamed Bd.named
  have hnm := (name_of_methodNamed Bd.named Bd.method).1
  have X0 : Stand p l e (oM 0 0 0 0) s m #[(.int p1), (.int p2)] below meth c s₁ [] 0 0 := Stand.of_body Bd
  have e0 : s₁.heap = h0 := by rw [← hh, Bd.state]; rfl
  have N0 := Fr.nil n0
  have R0 : ∀ t, oG p e below s₁ m 0 #[oI p1, oI p2] [] t → Steps p.tables e below (s₁.setTop (entryFrame m #[(.int p1), (.int p2)] 2)) t := fun t k => castTop (own_ef_rmTCP m p1 p2) k
  have R1 : ∀ t, oG p e below s₁ m 9 #[oI p1, oI p2] [(.int (((p1 <<< ((10 : Int32) &&& 31)) + p2) + (-56613888 : Int32)))] t → Steps p.tables e below (s₁.setTop (entryFrame m #[(.int p1), (.int p2)] 2)) t := by
    intro t k
    refine R0 t ?_
    refine XS.iloadN X0.here hx rfl (hb hby own_d31_0) rfl ?_
    refine XS.bipush X0.here hx rfl (hb hby own_d31_1) ?_
    refine XS.ishl X0.here hx rfl (hb hby own_d31_3) rfl ?_
    show oG p e below s₁ m 4 #[oI p1, oI p2] [(.int (p1 <<< ((10 : Int32) &&& 31)))] _
    refine XS.iloadN X0.here hx rfl (hb hby own_d31_4) rfl ?_
    refine XS.iadd X0.here hx rfl (hb hby own_d31_5) rfl ?_
    refine X0.ldcInt hx hown (mvT hZ (oW hw 134 rfl)) (g := (mkF m 6 #[oI p1, oI p2] [(.int ((p1 <<< ((10 : Int32) &&& 31)) + p2))])) rfl (hb hby own_d31_6) _ ?_
    refine XS.iadd X0.here hx rfl (hb hby own_d31_8) rfl ?_
    exact k
  have hv : (own_tcp p1 p2) = (((p1 <<< ((10 : Int32) &&& 31)) + p2) + (-56613888 : Int32)) := by unfold own_tcp; rfl
  obtain ⟨fs, hr, hrun, hended, hW, hsame⟩ := X0.leave (v := some (.int (((p1 <<< ((10 : Int32) &&& 31)) + p2) + (-56613888 : Int32)))) (fun h => by rw [Bd.returns] at h; cases h)
  refine ⟨_, _, R1 _ ?_, hrun, hended, _, _, rfl, ?_, ⟨_, rfl⟩, hW, hsame.mono (by decide) (by decide)⟩
  · exact retOut X0 hx Bd.returns rfl (Or.inl ⟨rfl, Or.inl rfl, _, rfl⟩) (hb hby own_d31_9) hr
  · show Q_rmTCP Z p1 p2 h0 n0 _ s₁.heap _
    rw [e0]
    exact ⟨by rw [hv], N0, rfl⟩
theorem own_ef_rmCC (m : MethodId) (x0 : Int32) : entryFrame m #[(.int x0)] 1 = mkF m 0 #[oI x0] [] := by first | (simp [entryFrame, mkF, argsToLocals, Value.category]; done) | rfl
theorem own_d32_0 : decode jdk_89_method_18_code 0 = .ok (.iload_n 0, 1) := by decide +kernel
theorem own_d32_1 : decode jdk_89_method_18_code 1 = .ok (.ldc 73, 2) := by decide +kernel
theorem own_d32_3 : decode jdk_89_method_18_code 3 = .ok (.if_icmp .lt 7, 3) := by decide +kernel
theorem own_d32_10 : decode jdk_89_method_18_code 10 = .ok (.iconst 1, 1) := by decide +kernel
theorem own_d32_11 : decode jdk_89_method_18_code 11 = .ok (.ireturn, 1) := by decide +kernel
theorem own_d32_6 : decode jdk_89_method_18_code 6 = .ok (.iconst 2, 1) := by decide +kernel
theorem own_d32_7 : decode jdk_89_method_18_code 7 = .ok (.goto 4, 3) := by decide +kernel
def own_cc (p1 : Int32) : Int32 := (if p1 < (65536 : Int32) then (1 : Int32) else (2 : Int32))
def Q_rmCC (Z : State) (p1 : Int32) (h0 : Heap) (n0 : Nat) (v : Option Value) (h : Heap) (L : List Loc) : Prop := v = some (.int (own_cc p1)) ∧ Fr n0 L ∧ h = h0
set_option maxRecDepth 65536 in
set_option maxHeartbeats 40000000 in
theorem rmCC (l : Launch) (Z : State) (a0 : Array Value) (hw : oT a0 Z) (ws : List Jvm.Cond) (p1 : Int32) (h0 : Heap) (n0 : Nat) (Z0 : n0 ≤ h0.size)  :
    oK l Z (⟨"java/lang/Character", "charCount", "(I)I"⟩ : MethodName) jdk_89_method_18_code 1 (some .int) ws (oM 0 0 0 0) #[(.int p1)] h0 (Q_rmCC Z p1 h0 n0) := by
  refine MetFree.of_bodySF (plainFor_of_name own_pn2) hisR ?_
  intro p e s m args below meth c s₁ Bd hml0 hP hK
  obtain ⟨rfl, hZ, hh⟩ := hP
  have hx := Bd.exec
  have hby := Bd.bytes
  have hml : c.maxLocals = 1 := hml0
  have hown : s.vm.findClass "java/lang/Character" = some m.cls := findClass_of_methodNamed Bd.named
  have hnm := (name_of_methodNamed Bd.named Bd.method).1
  have X0 : Stand p l e (oM 0 0 0 0) s m #[(.int p1)] below meth c s₁ [] 0 0 := Stand.of_body Bd
  have e0 : s₁.heap = h0 := by rw [← hh, Bd.state]; rfl
  have N0 := Fr.nil n0
  have R0 : ∀ t, oG p e below s₁ m 0 #[oI p1] [] t → Steps p.tables e below (s₁.setTop (entryFrame m #[(.int p1)] 1)) t := fun t k => castTop (own_ef_rmCC m p1) k
  have R1 : ∀ t, oG p e below s₁ m 3 #[oI p1] [(.int 65536), (.int p1)] t → Steps p.tables e below (s₁.setTop (entryFrame m #[(.int p1)] 1)) t := by
    intro t k
    refine R0 t ?_
    refine XS.iloadN X0.here hx rfl (hb hby own_d32_0) rfl ?_
    refine X0.ldcInt hx hown (mvT hZ (oW hw 138 rfl)) (g := (mkF m 1 #[oI p1] [(.int p1)])) rfl (hb hby own_d32_1) _ ?_
    exact k
  by_cases hc3_0 : p1 < (65536 : Int32)
  · have R2 : ∀ t, oG p e below s₁ m 11 #[oI p1] [(.int 1)] t → Steps p.tables e below (s₁.setTop (entryFrame m #[(.int p1)] 1)) t := by
      intro t k
      refine R1 t ?_
      refine XS.icmpYes X0.here hx rfl (pc0 := 3) (pc' := 10) rfl (hb hby own_d32_3) rfl (tlt hc3_0).1 (by decide) (by decide) ?_
      refine XS.iconst X0.here hx rfl (hb hby own_d32_10) ?_
      exact k
    have hv : (own_cc p1) = (1 : Int32) := by unfold own_cc; simp only [if_pos hc3_0]
    obtain ⟨fs, hr, hrun, hended, hW, hsame⟩ := X0.leave (v := some (.int 1)) (fun h => by rw [Bd.returns] at h; cases h)
    refine ⟨_, _, R2 _ ?_, hrun, hended, _, _, rfl, ?_, ⟨_, rfl⟩, hW, hsame.mono (by decide) (by decide)⟩
    · exact retOut X0 hx Bd.returns rfl (Or.inl ⟨rfl, Or.inl rfl, _, rfl⟩) (hb hby own_d32_11) hr
    · show Q_rmCC Z p1 h0 n0 _ s₁.heap _
      rw [e0]
      exact ⟨by rw [hv], N0, rfl⟩
  · have R3 : ∀ t, oG p e below s₁ m 11 #[oI p1] [(.int 2)] t → Steps p.tables e below (s₁.setTop (entryFrame m #[(.int p1)] 1)) t := by
      intro t k
      refine R1 t ?_
      refine XS.icmpNo X0.here hx rfl (hb hby own_d32_3) rfl (flt hc3_0).1 ?_
      refine XS.iconst X0.here hx rfl (hb hby own_d32_6) ?_
      refine XS.goto X0.here hx rfl (pc0 := 7) (pc' := 11) rfl (hb hby own_d32_7) (by decide) (by decide) ?_
      exact k
    have hv : (own_cc p1) = (2 : Int32) := by unfold own_cc; simp only [if_neg hc3_0]
    obtain ⟨fs, hr, hrun, hended, hW, hsame⟩ := X0.leave (v := some (.int 2)) (fun h => by rw [Bd.returns] at h; cases h)
    refine ⟨_, _, R3 _ ?_, hrun, hended, _, _, rfl, ?_, ⟨_, rfl⟩, hW, hsame.mono (by decide) (by decide)⟩
    · exact retOut X0 hx Bd.returns rfl (Or.inl ⟨rfl, Or.inl rfl, _, rfl⟩) (hb hby own_d32_11) hr
    · show Q_rmCC Z p1 h0 n0 _ s₁.heap _
      rw [e0]
      exact ⟨by rw [hv], N0, rfl⟩
theorem own_pn3 : plainName "java/lang/String" = true := by first | (simp [plainName, overriddenIn]; done) | decide +kernel
theorem own_ef_rmCod0 (m : MethodId) (x0 : Addr) : entryFrame m #[(.ref x0)] 1 = mkF m 0 #[oR x0] [] := by first | (simp [entryFrame, mkF, argsToLocals, Value.category]; done) | rfl
theorem own_d15_0 : decode jdk_42_method_152_code 0 = .ok (.getstatic 38, 3) := by decide +kernel
theorem own_d15_3 : decode jdk_42_method_152_code 3 = .ok (.ifCond .eq 10, 3) := by decide +kernel
theorem own_d15_6 : decode jdk_42_method_152_code 6 = .ok (.aload_n 0, 1) := by decide +kernel
theorem own_d15_7 : decode jdk_42_method_152_code 7 = .ok (.getfield 15, 3) := by decide +kernel
theorem own_d15_10 : decode jdk_42_method_152_code 10 = .ok (.goto 4, 3) := by decide +kernel
theorem own_d15_14 : decode jdk_42_method_152_code 14 = .ok (.ireturn, 1) := by decide +kernel
def Q_rmCod0 (Z : State) (a1 : Addr) (cz : Int32) (fm : Value) (h0 : Heap) (n0 : Nat) (v : Option Value) (h : Heap) (L : List Loc) : Prop := v = some (.int 0) ∧ Fr n0 L ∧ h = h0
set_option maxRecDepth 65536 in
set_option maxHeartbeats 40000000 in
theorem rmCod0 (l : Launch) (Z : State) (a0 : Array Value) (hw : oT a0 Z) (ws : List Jvm.Cond) (a1 : Addr) (cz : Int32) (fm : Value) (h0 : Heap) (n0 : Nat) (Z0 : n0 ≤ h0.size) (SU : own_St Z cz fm) (OX : Old Z n0 h0) (C1 : Fld Z h0 a1 "java/lang/String" "coder" "B" (.int 0)) :
    oK l Z (⟨"java/lang/String", "coder", "()B"⟩ : MethodName) jdk_42_method_152_code 1 (some .byte) ws (oM 0 0 0 0) #[(.ref a1)] h0 (Q_rmCod0 Z a1 cz fm h0 n0) := by
  refine MetFree.of_bodySF (plainFor_of_name own_pn3) hisR ?_
  intro p e s m args below meth c s₁ Bd hml0 hP hK
  obtain ⟨rfl, hZ, hh⟩ := hP
  have hx := Bd.exec
  have hby := Bd.bytes
  have hml : c.maxLocals = 1 := hml0
  have hown : s.vm.findClass "java/lang/String" = some m.cls := findClass_of_methodNamed Bd.named
  have hnm := (name_of_methodNamed Bd.named Bd.method).1
  have X0 : Stand p l e (oM 0 0 0 0) s m #[(.ref a1)] below meth c s₁ [] 0 0 := Stand.of_body Bd
  have e0 : s₁.heap = h0 := by rw [← hh, Bd.state]; rfl
  have N0 := Fr.nil n0
  have R0 : ∀ t, oG p e below s₁ m 0 #[oR a1] [] t → Steps p.tables e below (s₁.setTop (entryFrame m #[(.ref a1)] 1)) t := fun t k => castTop (own_ef_rmCod0 m a1) k
  obtain ⟨T1, X1, e1, st1⟩ := getS2 X0 hx hZ hown (host := "") (Or.inl (oW hw 18 rfl)) Via.refl e0 (SU.1.ext OX.2) (g := (mkF m 0 #[oR a1] [])) rfl (hb hby own_d15_0)
  have R1 : ∀ t, oG p e below T1 m 3 #[oR a1] [(.int cz)] t → Steps p.tables e below (s₁.setTop (entryFrame m #[(.ref a1)] 1)) t := fun t k => R0 t (st1 t k)
  have R2 : ∀ t, oG p e below T1 m 7 #[oR a1] [(.ref a1)] t → Steps p.tables e below (s₁.setTop (entryFrame m #[(.ref a1)] 1)) t := by
    intro t k
    refine R1 t ?_
    refine XS.ifNo X1.here hx rfl (hb hby own_d15_3) rfl ((if0 _ _).trans (feq SU.2.1).1) ?_
    refine XS.aloadN X1.here hx rfl (hb hby own_d15_6) rfl rfl ?_
    exact k
  obtain ⟨T3, X3, e3, st3⟩ := getF X1 hx hZ hown (host := "") (Or.inl (oW hw 30 rfl)) Via.refl e1 C1 (g := (mkF m 7 #[oR a1] [(.ref a1)])) rfl rfl (hb hby own_d15_7)
  have R3 : ∀ t, oG p e below T3 m 10 #[oR a1] [(.int 0)] t → Steps p.tables e below (s₁.setTop (entryFrame m #[(.ref a1)] 1)) t := fun t k => R2 t (st3 t k)
  have R4 : ∀ t, oG p e below T3 m 14 #[oR a1] [(.int 0)] t → Steps p.tables e below (s₁.setTop (entryFrame m #[(.ref a1)] 1)) t := by
    intro t k
    refine R3 t ?_
    refine XS.goto X3.here hx rfl (pc0 := 10) (pc' := 14) rfl (hb hby own_d15_10) (by decide) (by decide) ?_
    exact k
  obtain ⟨fs, hr, hrun, hended, hW, hsame⟩ := X3.leave (v := some (.int 0)) (fun h => by rw [Bd.returns] at h; cases h)
  refine ⟨_, _, R4 _ ?_, hrun, hended, _, _, rfl, ?_, ⟨_, rfl⟩, hW, hsame.mono (by decide) (by decide)⟩
  · exact retN X3 hx (t := .byte) Bd.returns (by simp) (hb hby own_d15_14) hr
  · show Q_rmCod0 Z a1 cz fm h0 n0 _ T3.heap _
    rw [e3]
    exact ⟨rfl, N0, rfl⟩
theorem own_ef_rmLat0 (m : MethodId) (x0 : Addr) : entryFrame m #[(.ref x0)] 1 = mkF m 0 #[oR x0] [] := by first | (simp [entryFrame, mkF, argsToLocals, Value.category]; done) | rfl
theorem own_d23_0 : decode jdk_42_method_154_code 0 = .ok (.getstatic 38, 3) := by decide +kernel
theorem own_d23_3 : decode jdk_42_method_154_code 3 = .ok (.ifCond .eq 14, 3) := by decide +kernel
theorem own_d23_6 : decode jdk_42_method_154_code 6 = .ok (.aload_n 0, 1) := by decide +kernel
theorem own_d23_7 : decode jdk_42_method_154_code 7 = .ok (.getfield 15, 3) := by decide +kernel
theorem own_d23_10 : decode jdk_42_method_154_code 10 = .ok (.ifCond .ne 7, 3) := by decide +kernel
theorem own_d23_13 : decode jdk_42_method_154_code 13 = .ok (.iconst 1, 1) := by decide +kernel
theorem own_d23_14 : decode jdk_42_method_154_code 14 = .ok (.goto 4, 3) := by decide +kernel
theorem own_d23_18 : decode jdk_42_method_154_code 18 = .ok (.ireturn, 1) := by decide +kernel
def Q_rmLat0 (Z : State) (a1 : Addr) (cz : Int32) (fm : Value) (h0 : Heap) (n0 : Nat) (v : Option Value) (h : Heap) (L : List Loc) : Prop := v = some (.int 1) ∧ Fr n0 L ∧ h = h0
set_option maxRecDepth 65536 in
set_option maxHeartbeats 40000000 in
theorem rmLat0 (l : Launch) (Z : State) (a0 : Array Value) (hw : oT a0 Z) (ws : List Jvm.Cond) (a1 : Addr) (cz : Int32) (fm : Value) (h0 : Heap) (n0 : Nat) (Z0 : n0 ≤ h0.size) (SU : own_St Z cz fm) (OX : Old Z n0 h0) (C1 : Fld Z h0 a1 "java/lang/String" "coder" "B" (.int 0)) :
    oK l Z (⟨"java/lang/String", "isLatin1", "()Z"⟩ : MethodName) jdk_42_method_154_code 1 (some .boolean) ws (oM 0 0 0 0) #[(.ref a1)] h0 (Q_rmLat0 Z a1 cz fm h0 n0) := by
  refine MetFree.of_bodySF (plainFor_of_name own_pn3) hisR ?_
  intro p e s m args below meth c s₁ Bd hml0 hP hK
  obtain ⟨rfl, hZ, hh⟩ := hP
  have hx := Bd.exec
  have hby := Bd.bytes
  have hml : c.maxLocals = 1 := hml0
  have hown : s.vm.findClass "java/lang/String" = some m.cls := findClass_of_methodNamed Bd.named
  have hnm := (name_of_methodNamed Bd.named Bd.method).1
  have X0 : Stand p l e (oM 0 0 0 0) s m #[(.ref a1)] below meth c s₁ [] 0 0 := Stand.of_body Bd
  have e0 : s₁.heap = h0 := by rw [← hh, Bd.state]; rfl
  have N0 := Fr.nil n0
  have R0 : ∀ t, oG p e below s₁ m 0 #[oR a1] [] t → Steps p.tables e below (s₁.setTop (entryFrame m #[(.ref a1)] 1)) t := fun t k => castTop (own_ef_rmLat0 m a1) k
  obtain ⟨T1, X1, e1, st1⟩ := getS2 X0 hx hZ hown (host := "") (Or.inl (oW hw 18 rfl)) Via.refl e0 (SU.1.ext OX.2) (g := (mkF m 0 #[oR a1] [])) rfl (hb hby own_d23_0)
  have R1 : ∀ t, oG p e below T1 m 3 #[oR a1] [(.int cz)] t → Steps p.tables e below (s₁.setTop (entryFrame m #[(.ref a1)] 1)) t := fun t k => R0 t (st1 t k)
  have R2 : ∀ t, oG p e below T1 m 7 #[oR a1] [(.ref a1)] t → Steps p.tables e below (s₁.setTop (entryFrame m #[(.ref a1)] 1)) t := by
    intro t k
    refine R1 t ?_
    refine XS.ifNo X1.here hx rfl (hb hby own_d23_3) rfl ((if0 _ _).trans (feq SU.2.1).1) ?_
    refine XS.aloadN X1.here hx rfl (hb hby own_d23_6) rfl rfl ?_
    exact k
  obtain ⟨T3, X3, e3, st3⟩ := getF X1 hx hZ hown (host := "") (Or.inl (oW hw 30 rfl)) Via.refl e1 C1 (g := (mkF m 7 #[oR a1] [(.ref a1)])) rfl rfl (hb hby own_d23_7)
  have R3 : ∀ t, oG p e below T3 m 10 #[oR a1] [(.int 0)] t → Steps p.tables e below (s₁.setTop (entryFrame m #[(.ref a1)] 1)) t := fun t k => R2 t (st3 t k)
  have R4 : ∀ t, oG p e below T3 m 18 #[oR a1] [(.int 1)] t → Steps p.tables e below (s₁.setTop (entryFrame m #[(.ref a1)] 1)) t := by
    intro t k
    refine R3 t ?_
    refine XS.ifNo X3.here hx rfl (hb hby own_d23_10) rfl ((if0 _ _).trans (teq (by decide : ((0 : Int32) = (0 : Int32)))).2) ?_
    refine XS.iconst X3.here hx rfl (hb hby own_d23_13) ?_
    refine XS.goto X3.here hx rfl (pc0 := 14) (pc' := 18) rfl (hb hby own_d23_14) (by decide) (by decide) ?_
    exact k
  obtain ⟨fs, hr, hrun, hended, hW, hsame⟩ := X3.leave (v := some (.int 1)) (fun h => by rw [Bd.returns] at h; cases h)
  refine ⟨_, _, R4 _ ?_, hrun, hended, _, _, rfl, ?_, ⟨_, rfl⟩, hW, hsame.mono (by decide) (by decide)⟩
  · exact retN X3 hx (t := .boolean) Bd.returns (by simp) (hb hby own_d23_18) hr
  · show Q_rmLat0 Z a1 cz fm h0 n0 _ T3.heap _
    rw [e3]
    exact ⟨rfl, N0, rfl⟩
theorem own_ef_rmCod1 (m : MethodId) (x0 : Addr) : entryFrame m #[(.ref x0)] 1 = mkF m 0 #[oR x0] [] := by first | (simp [entryFrame, mkF, argsToLocals, Value.category]; done) | rfl
def Q_rmCod1 (Z : State) (a1 : Addr) (cz : Int32) (fm : Value) (h0 : Heap) (n0 : Nat) (v : Option Value) (h : Heap) (L : List Loc) : Prop := v = some (.int 1) ∧ Fr n0 L ∧ h = h0
set_option maxRecDepth 65536 in
set_option maxHeartbeats 40000000 in
theorem rmCod1 (l : Launch) (Z : State) (a0 : Array Value) (hw : oT a0 Z) (ws : List Jvm.Cond) (a1 : Addr) (cz : Int32) (fm : Value) (h0 : Heap) (n0 : Nat) (Z0 : n0 ≤ h0.size) (SU : own_St Z cz fm) (OX : Old Z n0 h0) (C1 : Fld Z h0 a1 "java/lang/String" "coder" "B" (.int 1)) :
    oK l Z (⟨"java/lang/String", "coder", "()B"⟩ : MethodName) jdk_42_method_152_code 1 (some .byte) ws (oM 0 0 0 0) #[(.ref a1)] h0 (Q_rmCod1 Z a1 cz fm h0 n0) := by
  refine MetFree.of_bodySF (plainFor_of_name own_pn3) hisR ?_
  intro p e s m args below meth c s₁ Bd hml0 hP hK
  obtain ⟨rfl, hZ, hh⟩ := hP
  have hx := Bd.exec
  have hby := Bd.bytes
  have hml : c.maxLocals = 1 := hml0
  have hown : s.vm.findClass "java/lang/String" = some m.cls := findClass_of_methodNamed Bd.named
  have hnm := (name_of_methodNamed Bd.named Bd.method).1
  have X0 : Stand p l e (oM 0 0 0 0) s m #[(.ref a1)] below meth c s₁ [] 0 0 := Stand.of_body Bd
  have e0 : s₁.heap = h0 := by rw [← hh, Bd.state]; rfl
  have N0 := Fr.nil n0
  have R0 : ∀ t, oG p e below s₁ m 0 #[oR a1] [] t → Steps p.tables e below (s₁.setTop (entryFrame m #[(.ref a1)] 1)) t := fun t k => castTop (own_ef_rmCod1 m a1) k
  obtain ⟨T1, X1, e1, st1⟩ := getS2 X0 hx hZ hown (host := "") (Or.inl (oW hw 18 rfl)) Via.refl e0 (SU.1.ext OX.2) (g := (mkF m 0 #[oR a1] [])) rfl (hb hby own_d15_0)
  have R1 : ∀ t, oG p e below T1 m 3 #[oR a1] [(.int cz)] t → Steps p.tables e below (s₁.setTop (entryFrame m #[(.ref a1)] 1)) t := fun t k => R0 t (st1 t k)
  have R2 : ∀ t, oG p e below T1 m 7 #[oR a1] [(.ref a1)] t → Steps p.tables e below (s₁.setTop (entryFrame m #[(.ref a1)] 1)) t := by
    intro t k
    refine R1 t ?_
    refine XS.ifNo X1.here hx rfl (hb hby own_d15_3) rfl ((if0 _ _).trans (feq SU.2.1).1) ?_
    refine XS.aloadN X1.here hx rfl (hb hby own_d15_6) rfl rfl ?_
    exact k
  obtain ⟨T3, X3, e3, st3⟩ := getF X1 hx hZ hown (host := "") (Or.inl (oW hw 30 rfl)) Via.refl e1 C1 (g := (mkF m 7 #[oR a1] [(.ref a1)])) rfl rfl (hb hby own_d15_7)
  have R3 : ∀ t, oG p e below T3 m 10 #[oR a1] [(.int 1)] t → Steps p.tables e below (s₁.setTop (entryFrame m #[(.ref a1)] 1)) t := fun t k => R2 t (st3 t k)
  have R4 : ∀ t, oG p e below T3 m 14 #[oR a1] [(.int 1)] t → Steps p.tables e below (s₁.setTop (entryFrame m #[(.ref a1)] 1)) t := by
    intro t k
    refine R3 t ?_
    refine XS.goto X3.here hx rfl (pc0 := 10) (pc' := 14) rfl (hb hby own_d15_10) (by decide) (by decide) ?_
    exact k
  obtain ⟨fs, hr, hrun, hended, hW, hsame⟩ := X3.leave (v := some (.int 1)) (fun h => by rw [Bd.returns] at h; cases h)
  refine ⟨_, _, R4 _ ?_, hrun, hended, _, _, rfl, ?_, ⟨_, rfl⟩, hW, hsame.mono (by decide) (by decide)⟩
  · exact retN X3 hx (t := .byte) Bd.returns (by simp) (hb hby own_d15_14) hr
  · show Q_rmCod1 Z a1 cz fm h0 n0 _ T3.heap _
    rw [e3]
    exact ⟨rfl, N0, rfl⟩
theorem own_ef_rmLat1 (m : MethodId) (x0 : Addr) : entryFrame m #[(.ref x0)] 1 = mkF m 0 #[oR x0] [] := by first | (simp [entryFrame, mkF, argsToLocals, Value.category]; done) | rfl
theorem own_d23_17 : decode jdk_42_method_154_code 17 = .ok (.iconst 0, 1) := by decide +kernel
def Q_rmLat1 (Z : State) (a1 : Addr) (cz : Int32) (fm : Value) (h0 : Heap) (n0 : Nat) (v : Option Value) (h : Heap) (L : List Loc) : Prop := v = some (.int 0) ∧ Fr n0 L ∧ h = h0
set_option maxRecDepth 65536 in
set_option maxHeartbeats 40000000 in
theorem rmLat1 (l : Launch) (Z : State) (a0 : Array Value) (hw : oT a0 Z) (ws : List Jvm.Cond) (a1 : Addr) (cz : Int32) (fm : Value) (h0 : Heap) (n0 : Nat) (Z0 : n0 ≤ h0.size) (SU : own_St Z cz fm) (OX : Old Z n0 h0) (C1 : Fld Z h0 a1 "java/lang/String" "coder" "B" (.int 1)) :
    oK l Z (⟨"java/lang/String", "isLatin1", "()Z"⟩ : MethodName) jdk_42_method_154_code 1 (some .boolean) ws (oM 0 0 0 0) #[(.ref a1)] h0 (Q_rmLat1 Z a1 cz fm h0 n0) := by
  refine MetFree.of_bodySF (plainFor_of_name own_pn3) hisR ?_
  intro p e s m args below meth c s₁ Bd hml0 hP hK
  obtain ⟨rfl, hZ, hh⟩ := hP
  have hx := Bd.exec
  have hby := Bd.bytes
  have hml : c.maxLocals = 1 := hml0
  have hown : s.vm.findClass "java/lang/String" = some m.cls := findClass_of_methodNamed Bd.named
  have hnm := (name_of_methodNamed Bd.named Bd.method).1
  have X0 : Stand p l e (oM 0 0 0 0) s m #[(.ref a1)] below meth c s₁ [] 0 0 := Stand.of_body Bd
  have e0 : s₁.heap = h0 := by rw [← hh, Bd.state]; rfl
  have N0 := Fr.nil n0
  have R0 : ∀ t, oG p e below s₁ m 0 #[oR a1] [] t → Steps p.tables e below (s₁.setTop (entryFrame m #[(.ref a1)] 1)) t := fun t k => castTop (own_ef_rmLat1 m a1) k
  obtain ⟨T1, X1, e1, st1⟩ := getS2 X0 hx hZ hown (host := "") (Or.inl (oW hw 18 rfl)) Via.refl e0 (SU.1.ext OX.2) (g := (mkF m 0 #[oR a1] [])) rfl (hb hby own_d23_0)
  have R1 : ∀ t, oG p e below T1 m 3 #[oR a1] [(.int cz)] t → Steps p.tables e below (s₁.setTop (entryFrame m #[(.ref a1)] 1)) t := fun t k => R0 t (st1 t k)
  have R2 : ∀ t, oG p e below T1 m 7 #[oR a1] [(.ref a1)] t → Steps p.tables e below (s₁.setTop (entryFrame m #[(.ref a1)] 1)) t := by
    intro t k
    refine R1 t ?_
    refine XS.ifNo X1.here hx rfl (hb hby own_d23_3) rfl ((if0 _ _).trans (feq SU.2.1).1) ?_
    refine XS.aloadN X1.here hx rfl (hb hby own_d23_6) rfl rfl ?_
    exact k
  obtain ⟨T3, X3, e3, st3⟩ := getF X1 hx hZ hown (host := "") (Or.inl (oW hw 30 rfl)) Via.refl e1 C1 (g := (mkF m 7 #[oR a1] [(.ref a1)])) rfl rfl (hb hby own_d23_7)
  have R3 : ∀ t, oG p e below T3 m 10 #[oR a1] [(.int 1)] t → Steps p.tables e below (s₁.setTop (entryFrame m #[(.ref a1)] 1)) t := fun t k => R2 t (st3 t k)
  have R4 : ∀ t, oG p e below T3 m 18 #[oR a1] [(.int 0)] t → Steps p.tables e below (s₁.setTop (entryFrame m #[(.ref a1)] 1)) t := by
    intro t k
    refine R3 t ?_
    refine XS.ifYes X3.here hx rfl (pc0 := 10) (pc' := 17) rfl (hb hby own_d23_10) rfl ((if0 _ _).trans (feq (by decide : ¬ ((1 : Int32) = (0 : Int32)))).2) (by decide) (by decide) ?_
    refine XS.iconst X3.here hx rfl (hb hby own_d23_17) ?_
    exact k
  obtain ⟨fs, hr, hrun, hended, hW, hsame⟩ := X3.leave (v := some (.int 0)) (fun h => by rw [Bd.returns] at h; cases h)
  refine ⟨_, _, R4 _ ?_, hrun, hended, _, _, rfl, ?_, ⟨_, rfl⟩, hW, hsame.mono (by decide) (by decide)⟩
  · exact retN X3 hx (t := .boolean) Bd.returns (by simp) (hb hby own_d23_18) hr
  · show Q_rmLat1 Z a1 cz fm h0 n0 _ T3.heap _
    rw [e3]
    exact ⟨rfl, N0, rfl⟩
theorem own_ef_rmLen00 (m : MethodId) (x0 : Addr) : entryFrame m #[(.ref x0)] 1 = mkF m 0 #[oR x0] [] := by first | (simp [entryFrame, mkF, argsToLocals, Value.category]; done) | rfl
theorem own_d14_0 : decode jdk_42_method_54_code 0 = .ok (.aload_n 0, 1) := by decide +kernel
theorem own_d14_1 : decode jdk_42_method_54_code 1 = .ok (.getfield 9, 3) := by decide +kernel
theorem own_d14_4 : decode jdk_42_method_54_code 4 = .ok (.arraylength, 1) := by decide +kernel
theorem own_d14_5 : decode jdk_42_method_54_code 5 = .ok (.aload_n 0, 1) := by decide +kernel
theorem own_d14_6 : decode jdk_42_method_54_code 6 = .ok (.invokevirtual 335, 3) := by decide +kernel
theorem own_pd12 : parseMethodDescriptor "()B" = some ⟨[], some .byte⟩ := by decide +kernel
theorem own_d14_9 : decode jdk_42_method_54_code 9 = .ok (.ishr, 1) := by decide +kernel
theorem own_d14_10 : decode jdk_42_method_54_code 10 = .ok (.ireturn, 1) := by decide +kernel
def Q_rmLen00 (Z : State) (a1 b1 : Addr) (k1 : ClassId) (cz : Int32) (fm : Value)  (h0 : Heap) (n0 : Nat) (v : Option Value) (h : Heap) (L : List Loc) : Prop := v = some (.int 0) ∧ Fr n0 L ∧ h = h0
set_option maxRecDepth 65536 in
set_option maxHeartbeats 40000000 in
theorem rmLen00 (l : Launch) (Z : State) (a0 : Array Value) (hw : oT a0 Z) (ws : List Jvm.Cond) (a1 b1 : Addr) (k1 : ClassId) (cz : Int32) (fm : Value)  (h0 : Heap) (n0 : Nat) (Z0 : n0 ≤ h0.size) (SU : own_St Z cz fm) (OX : Old Z n0 h0) (E1 : Exa Z h0 a1 "java/lang/String") (C1 : Fld Z h0 a1 "java/lang/String" "coder" "B" (.int 0)) (F1 : Fld Z h0 a1 "java/lang/String" "value" "[B" (.ref b1)) (V1 : Arv Z h0 b1 k1 .byte (0 : Int32) [] (.int 0)) :
    MetFree l (⟨"java/lang/String", "length", "()I"⟩ : MethodName) (head1 (Jvm.Cond.code (⟨"java/lang/String", "length", "()I"⟩ : MethodName) jdk_42_method_54_code 1 (some .int) :: ws) (oM 1 0 0 13)) (fun a U => a = #[(.ref a1)] ∧ Z.Warmed39 U.vm ∧ U.heap = h0) (fun _ _ _ _ _ => True) (fun _ U o U' => ∃ v L, o = .returned v ∧ Q_rmLen00 Z a1 b1 k1 cz fm  h0 n0 v U'.heap L ∧ FrameEnd U o U' L (oM 1 0 0 13).cells (oM 1 0 0 13).slots) := by
  refine MetFree.of_bodySF (plainFor_of_name own_pn3) hisR ?_
  intro p e s m args below meth c s₁ Bd hml0 hP hK
  obtain ⟨rfl, hZ, hh⟩ := hP
  have hx := Bd.exec
  have hby := Bd.bytes
  have hml : c.maxLocals = 1 := hml0
  have hown : s.vm.findClass "java/lang/String" = some m.cls := findClass_of_methodNamed Bd.named
  have hnm := (name_of_methodNamed Bd.named Bd.method).1
  have X0 : Stand p l e (oM 1 0 0 13) s m #[(.ref a1)] below meth c s₁ [] 0 0 := Stand.of_body Bd
  have e0 : s₁.heap = h0 := by rw [← hh, Bd.state]; rfl
  have N0 := Fr.nil n0
  have R0 : ∀ t, oG p e below s₁ m 0 #[oR a1] [] t → Steps p.tables e below (s₁.setTop (entryFrame m #[(.ref a1)] 1)) t := fun t k => castTop (own_ef_rmLen00 m a1) k
  have R1 : ∀ t, oG p e below s₁ m 1 #[oR a1] [(.ref a1)] t → Steps p.tables e below (s₁.setTop (entryFrame m #[(.ref a1)] 1)) t := by
    intro t k
    refine R0 t ?_
    refine XS.aloadN X0.here hx rfl (hb hby own_d14_0) rfl rfl ?_
    exact k
  obtain ⟨T2, X2, e2, st2⟩ := getF X0 hx hZ hown (host := "") (Or.inl (oW hw 32 rfl)) Via.refl e0 F1 (g := (mkF m 1 #[oR a1] [(.ref a1)])) rfl rfl (hb hby own_d14_1)
  have R2 : ∀ t, oG p e below T2 m 4 #[oR a1] [(.ref b1)] t → Steps p.tables e below (s₁.setTop (entryFrame m #[(.ref a1)] 1)) t := fun t k => R1 t (st2 t k)
  obtain ⟨cl3, Ar3, q3, S3, N3', H3, G3⟩ := id V1
  have R4 : ∀ t, oG p e below T2 m 6 #[oR a1] [(.ref a1), (.int 0)] t → Steps p.tables e below (s₁.setTop (entryFrame m #[(.ref a1)] 1)) t := by
    intro t k
    refine R2 t ?_
    refine X2.arraylength hx (by rw [e2]; exact Ar3.1) (State.isArrayOf_alike hZ.alike Ar3.2.1) (g := (mkF m 4 #[oR a1] [(.ref b1)])) rfl rfl (hb hby own_d14_4) _ ?_
    rw [len_of S3 N3']
    refine XS.aloadN X2.here hx rfl (hb hby own_d14_5) rfl rfl ?_
    exact k
  obtain ⟨cq5, kq5, q5a, q5b, q5c⟩ := isOf hZ e2 E1
  obtain ⟨_, _, ⟨T5, L5, k5, n5⟩, -, X5, ⟨Lc5, hQ5, l5, y5, z5⟩, st5⟩ := X2.virtualBack hx (y := (⟨"java/lang/String", "coder", "()B"⟩ : MethodName)) (z := (⟨"java/lang/String", "coder", "()B"⟩ : MethodName)) hown (mvT hZ (oW hw 62 rfl)) (mvT hZ (oW hw 63 rfl)) (notFace_of_selects (args := #[]) (mvT hZ (oW hw 65 rfl))) (mvT hZ (oW hw 65 rfl)) (mvT hZ (oW hw 64 rfl)) (by decide) (backOf (W := 1) (rmCod0 l Z a0 hw [] a1 cz fm h0 n0 Z0 SU OX C1) hZ (oW hw 66 rfl) (oW hw 6 rfl) (by decide) (by decide)) q5a q5c (g := (mkF m 6 #[oR a1] [(.ref a1), (.int 0)])) rfl (by rw [hml]; rfl) (Steps.refl _) (argsL := []) (rest := [(.int 0)]) (lenOf own_pd12 rfl) rfl (by show 2 * 0 + _ ≤ _; exact Nat.le_of_eq rfl) (hb hby own_d14_6) (fun _ _ => ⟨rfl, e2, (by decide : 0 + 0 ≤ _), (by decide : 0 + 0 ≤ _)⟩)
  dsimp only [Pt.U, Pt.locs, Pt.cells, Pt.slots] at X5 l5 y5 z5 st5 hQ5
  subst l5 y5 z5
  obtain ⟨rfl, Nq5, eq5⟩ := hQ5
  have N5 := Fr.app N0 Nq5
  have R5 : ∀ t, oG p e below T5 m 9 #[oR a1] [(.int 0), (.int 0)] t → Steps p.tables e below (s₁.setTop (entryFrame m #[(.ref a1)] 1)) t := fun t k => R4 t (st5.trans k)
  have R6 : ∀ t, oG p e below T5 m 10 #[oR a1] [(.int ((0 : Int32) >>> ((0 : Int32) &&& 31)))] t → Steps p.tables e below (s₁.setTop (entryFrame m #[(.ref a1)] 1)) t := by
    intro t k
    refine R5 t ?_
    refine XS.ishr X5.here hx rfl (hb hby own_d14_9) rfl ?_
    exact k
  have R7 : ∀ t, oG p e below T5 m 10 #[oR a1] [(.int 0)] t → Steps p.tables e below (s₁.setTop (entryFrame m #[(.ref a1)] 1)) t := by rw [(by decide : ((0 : Int32) >>> ((0 : Int32) &&& 31)) = (0 : Int32))] at R6; exact R6
  obtain ⟨fs, hr, hrun, hended, hW, hsame⟩ := X5.leave (v := some (.int 0)) (fun h => by rw [Bd.returns] at h; cases h)
  refine ⟨_, _, R7 _ ?_, hrun, hended, _, _, rfl, ?_, ⟨_, rfl⟩, hW, hsame.mono (by decide) (by decide)⟩
  · exact retOut X5 hx Bd.returns rfl (Or.inl ⟨rfl, Or.inl rfl, _, rfl⟩) (hb hby own_d14_10) hr
  · show Q_rmLen00 Z a1 b1 k1 cz fm  h0 n0 _ T5.heap _
    rw [eq5]
    exact ⟨rfl, N5, rfl⟩
theorem own_ef_rmLen10 (m : MethodId) (x0 : Addr) : entryFrame m #[(.ref x0)] 1 = mkF m 0 #[oR x0] [] := by first | (simp [entryFrame, mkF, argsToLocals, Value.category]; done) | rfl
def Q_rmLen10 (Z : State) (a1 b1 : Addr) (k1 : ClassId) (cz : Int32) (fm : Value) (c0 : Int32) (h0 : Heap) (n0 : Nat) (v : Option Value) (h : Heap) (L : List Loc) : Prop := v = some (.int 1) ∧ Fr n0 L ∧ h = h0
set_option maxRecDepth 65536 in
set_option maxHeartbeats 40000000 in
theorem rmLen10 (l : Launch) (Z : State) (a0 : Array Value) (hw : oT a0 Z) (ws : List Jvm.Cond) (a1 b1 : Addr) (k1 : ClassId) (cz : Int32) (fm : Value) (c0 : Int32) (h0 : Heap) (n0 : Nat) (Z0 : n0 ≤ h0.size) (SU : own_St Z cz fm) (OX : Old Z n0 h0) (E1 : Exa Z h0 a1 "java/lang/String") (C1 : Fld Z h0 a1 "java/lang/String" "coder" "B" (.int 0)) (F1 : Fld Z h0 a1 "java/lang/String" "value" "[B" (.ref b1)) (V1 : Arv Z h0 b1 k1 .byte (1 : Int32) [(.int (own_l c0))] (.int 0)) :
    oK l Z (⟨"java/lang/String", "length", "()I"⟩ : MethodName) jdk_42_method_54_code 1 (some .int) ws (oM 1 0 0 13) #[(.ref a1)] h0 (Q_rmLen10 Z a1 b1 k1 cz fm c0 h0 n0) := by
  refine MetFree.of_bodySF (plainFor_of_name own_pn3) hisR ?_
  intro p e s m args below meth c s₁ Bd hml0 hP hK
  obtain ⟨rfl, hZ, hh⟩ := hP
  have hx := Bd.exec
  have hby := Bd.bytes
  have hml : c.maxLocals = 1 := hml0
  have hown : s.vm.findClass "java/lang/String" = some m.cls := findClass_of_methodNamed Bd.named
  have hnm := (name_of_methodNamed Bd.named Bd.method).1
  have X0 : Stand p l e (oM 1 0 0 13) s m #[(.ref a1)] below meth c s₁ [] 0 0 := Stand.of_body Bd
  have e0 : s₁.heap = h0 := by rw [← hh, Bd.state]; rfl
  have N0 := Fr.nil n0
  have R0 : ∀ t, oG p e below s₁ m 0 #[oR a1] [] t → Steps p.tables e below (s₁.setTop (entryFrame m #[(.ref a1)] 1)) t := fun t k => castTop (own_ef_rmLen10 m a1) k
  have R1 : ∀ t, oG p e below s₁ m 1 #[oR a1] [(.ref a1)] t → Steps p.tables e below (s₁.setTop (entryFrame m #[(.ref a1)] 1)) t := by
    intro t k
    refine R0 t ?_
    refine XS.aloadN X0.here hx rfl (hb hby own_d14_0) rfl rfl ?_
    exact k
  obtain ⟨T2, X2, e2, st2⟩ := getF X0 hx hZ hown (host := "") (Or.inl (oW hw 32 rfl)) Via.refl e0 F1 (g := (mkF m 1 #[oR a1] [(.ref a1)])) rfl rfl (hb hby own_d14_1)
  have R2 : ∀ t, oG p e below T2 m 4 #[oR a1] [(.ref b1)] t → Steps p.tables e below (s₁.setTop (entryFrame m #[(.ref a1)] 1)) t := fun t k => R1 t (st2 t k)
  obtain ⟨cl3, Ar3, q3, S3, N3', H3, G3⟩ := id V1
  have R4 : ∀ t, oG p e below T2 m 6 #[oR a1] [(.ref a1), (.int 1)] t → Steps p.tables e below (s₁.setTop (entryFrame m #[(.ref a1)] 1)) t := by
    intro t k
    refine R2 t ?_
    refine X2.arraylength hx (by rw [e2]; exact Ar3.1) (State.isArrayOf_alike hZ.alike Ar3.2.1) (g := (mkF m 4 #[oR a1] [(.ref b1)])) rfl rfl (hb hby own_d14_4) _ ?_
    rw [len_of S3 N3']
    refine XS.aloadN X2.here hx rfl (hb hby own_d14_5) rfl rfl ?_
    exact k
  obtain ⟨cq5, kq5, q5a, q5b, q5c⟩ := isOf hZ e2 E1
  obtain ⟨_, _, ⟨T5, L5, k5, n5⟩, -, X5, ⟨Lc5, hQ5, l5, y5, z5⟩, st5⟩ := X2.virtualBack hx (y := (⟨"java/lang/String", "coder", "()B"⟩ : MethodName)) (z := (⟨"java/lang/String", "coder", "()B"⟩ : MethodName)) hown (mvT hZ (oW hw 62 rfl)) (mvT hZ (oW hw 63 rfl)) (notFace_of_selects (args := #[]) (mvT hZ (oW hw 65 rfl))) (mvT hZ (oW hw 65 rfl)) (mvT hZ (oW hw 64 rfl)) (by decide) (backOf (W := 1) (rmCod0 l Z a0 hw [] a1 cz fm h0 n0 Z0 SU OX C1) hZ (oW hw 66 rfl) (oW hw 6 rfl) (by decide) (by decide)) q5a q5c (g := (mkF m 6 #[oR a1] [(.ref a1), (.int 1)])) rfl (by rw [hml]; rfl) (Steps.refl _) (argsL := []) (rest := [(.int 1)]) (lenOf own_pd12 rfl) rfl (by show 2 * 0 + _ ≤ _; exact Nat.le_of_eq rfl) (hb hby own_d14_6) (fun _ _ => ⟨rfl, e2, (by decide : 0 + 0 ≤ _), (by decide : 0 + 0 ≤ _)⟩)
  dsimp only [Pt.U, Pt.locs, Pt.cells, Pt.slots] at X5 l5 y5 z5 st5 hQ5
  subst l5 y5 z5
  obtain ⟨rfl, Nq5, eq5⟩ := hQ5
  have N5 := Fr.app N0 Nq5
  have R5 : ∀ t, oG p e below T5 m 9 #[oR a1] [(.int 0), (.int 1)] t → Steps p.tables e below (s₁.setTop (entryFrame m #[(.ref a1)] 1)) t := fun t k => R4 t (st5.trans k)
  have R6 : ∀ t, oG p e below T5 m 10 #[oR a1] [(.int ((1 : Int32) >>> ((0 : Int32) &&& 31)))] t → Steps p.tables e below (s₁.setTop (entryFrame m #[(.ref a1)] 1)) t := by
    intro t k
    refine R5 t ?_
    refine XS.ishr X5.here hx rfl (hb hby own_d14_9) rfl ?_
    exact k
  have R7 : ∀ t, oG p e below T5 m 10 #[oR a1] [(.int 1)] t → Steps p.tables e below (s₁.setTop (entryFrame m #[(.ref a1)] 1)) t := by rw [(by decide : ((1 : Int32) >>> ((0 : Int32) &&& 31)) = (1 : Int32))] at R6; exact R6
  obtain ⟨fs, hr, hrun, hended, hW, hsame⟩ := X5.leave (v := some (.int 1)) (fun h => by rw [Bd.returns] at h; cases h)
  refine ⟨_, _, R7 _ ?_, hrun, hended, _, _, rfl, ?_, ⟨_, rfl⟩, hW, hsame.mono (by decide) (by decide)⟩
  · exact retOut X5 hx Bd.returns rfl (Or.inl ⟨rfl, Or.inl rfl, _, rfl⟩) (hb hby own_d14_10) hr
  · show Q_rmLen10 Z a1 b1 k1 cz fm c0 h0 n0 _ T5.heap _
    rw [eq5]
    exact ⟨rfl, N5, rfl⟩
theorem own_ef_rmLen11 (m : MethodId) (x0 : Addr) : entryFrame m #[(.ref x0)] 1 = mkF m 0 #[oR x0] [] := by first | (simp [entryFrame, mkF, argsToLocals, Value.category]; done) | rfl
def Q_rmLen11 (Z : State) (a1 b1 : Addr) (k1 : ClassId) (cz : Int32) (fm : Value) (c0 : Int32) (h0 : Heap) (n0 : Nat) (v : Option Value) (h : Heap) (L : List Loc) : Prop := v = some (.int 1) ∧ Fr n0 L ∧ h = h0
set_option maxRecDepth 65536 in
set_option maxHeartbeats 40000000 in
theorem rmLen11 (l : Launch) (Z : State) (a0 : Array Value) (hw : oT a0 Z) (ws : List Jvm.Cond) (a1 b1 : Addr) (k1 : ClassId) (cz : Int32) (fm : Value) (c0 : Int32) (h0 : Heap) (n0 : Nat) (Z0 : n0 ≤ h0.size) (SU : own_St Z cz fm) (OX : Old Z n0 h0) (E1 : Exa Z h0 a1 "java/lang/String") (C1 : Fld Z h0 a1 "java/lang/String" "coder" "B" (.int 1)) (F1 : Fld Z h0 a1 "java/lang/String" "value" "[B" (.ref b1)) (V1 : Arv Z h0 b1 k1 .byte (2 : Int32) [(.int (own_b0 c0)), (.int (own_b1 c0))] (.int 0)) :
    oK l Z (⟨"java/lang/String", "length", "()I"⟩ : MethodName) jdk_42_method_54_code 1 (some .int) ws (oM 1 0 0 13) #[(.ref a1)] h0 (Q_rmLen11 Z a1 b1 k1 cz fm c0 h0 n0) := by
  refine MetFree.of_bodySF (plainFor_of_name own_pn3) hisR ?_
  intro p e s m args below meth c s₁ Bd hml0 hP hK
  obtain ⟨rfl, hZ, hh⟩ := hP
  have hx := Bd.exec
  have hby := Bd.bytes
  have hml : c.maxLocals = 1 := hml0
  have hown : s.vm.findClass "java/lang/String" = some m.cls := findClass_of_methodNamed Bd.named
  have hnm := (name_of_methodNamed Bd.named Bd.method).1
  have X0 : Stand p l e (oM 1 0 0 13) s m #[(.ref a1)] below meth c s₁ [] 0 0 := Stand.of_body Bd
  have e0 : s₁.heap = h0 := by rw [← hh, Bd.state]; rfl
  have N0 := Fr.nil n0
  have R0 : ∀ t, oG p e below s₁ m 0 #[oR a1] [] t → Steps p.tables e below (s₁.setTop (entryFrame m #[(.ref a1)] 1)) t := fun t k => castTop (own_ef_rmLen11 m a1) k
  have R1 : ∀ t, oG p e below s₁ m 1 #[oR a1] [(.ref a1)] t → Steps p.tables e below (s₁.setTop (entryFrame m #[(.ref a1)] 1)) t := by
    intro t k
    refine R0 t ?_
    refine XS.aloadN X0.here hx rfl (hb hby own_d14_0) rfl rfl ?_
    exact k
  obtain ⟨T2, X2, e2, st2⟩ := getF X0 hx hZ hown (host := "") (Or.inl (oW hw 32 rfl)) Via.refl e0 F1 (g := (mkF m 1 #[oR a1] [(.ref a1)])) rfl rfl (hb hby own_d14_1)
  have R2 : ∀ t, oG p e below T2 m 4 #[oR a1] [(.ref b1)] t → Steps p.tables e below (s₁.setTop (entryFrame m #[(.ref a1)] 1)) t := fun t k => R1 t (st2 t k)
  obtain ⟨cl3, Ar3, q3, S3, N3', H3, G3⟩ := id V1
  have R4 : ∀ t, oG p e below T2 m 6 #[oR a1] [(.ref a1), (.int 2)] t → Steps p.tables e below (s₁.setTop (entryFrame m #[(.ref a1)] 1)) t := by
    intro t k
    refine R2 t ?_
    refine X2.arraylength hx (by rw [e2]; exact Ar3.1) (State.isArrayOf_alike hZ.alike Ar3.2.1) (g := (mkF m 4 #[oR a1] [(.ref b1)])) rfl rfl (hb hby own_d14_4) _ ?_
    rw [len_of S3 N3']
    refine XS.aloadN X2.here hx rfl (hb hby own_d14_5) rfl rfl ?_
    exact k
  obtain ⟨cq5, kq5, q5a, q5b, q5c⟩ := isOf hZ e2 E1
  obtain ⟨_, _, ⟨T5, L5, k5, n5⟩, -, X5, ⟨Lc5, hQ5, l5, y5, z5⟩, st5⟩ := X2.virtualBack hx (y := (⟨"java/lang/String", "coder", "()B"⟩ : MethodName)) (z := (⟨"java/lang/String", "coder", "()B"⟩ : MethodName)) hown (mvT hZ (oW hw 62 rfl)) (mvT hZ (oW hw 63 rfl)) (notFace_of_selects (args := #[]) (mvT hZ (oW hw 65 rfl))) (mvT hZ (oW hw 65 rfl)) (mvT hZ (oW hw 64 rfl)) (by decide) (backOf (W := 1) (rmCod1 l Z a0 hw [] a1 cz fm h0 n0 Z0 SU OX C1) hZ (oW hw 66 rfl) (oW hw 6 rfl) (by decide) (by decide)) q5a q5c (g := (mkF m 6 #[oR a1] [(.ref a1), (.int 2)])) rfl (by rw [hml]; rfl) (Steps.refl _) (argsL := []) (rest := [(.int 2)]) (lenOf own_pd12 rfl) rfl (by show 2 * 0 + _ ≤ _; exact Nat.le_of_eq rfl) (hb hby own_d14_6) (fun _ _ => ⟨rfl, e2, (by decide : 0 + 0 ≤ _), (by decide : 0 + 0 ≤ _)⟩)
  dsimp only [Pt.U, Pt.locs, Pt.cells, Pt.slots] at X5 l5 y5 z5 st5 hQ5
  subst l5 y5 z5
  obtain ⟨rfl, Nq5, eq5⟩ := hQ5
  have N5 := Fr.app N0 Nq5
  have R5 : ∀ t, oG p e below T5 m 9 #[oR a1] [(.int 1), (.int 2)] t → Steps p.tables e below (s₁.setTop (entryFrame m #[(.ref a1)] 1)) t := fun t k => R4 t (st5.trans k)
  have R6 : ∀ t, oG p e below T5 m 10 #[oR a1] [(.int ((2 : Int32) >>> ((1 : Int32) &&& 31)))] t → Steps p.tables e below (s₁.setTop (entryFrame m #[(.ref a1)] 1)) t := by
    intro t k
    refine R5 t ?_
    refine XS.ishr X5.here hx rfl (hb hby own_d14_9) rfl ?_
    exact k
  have R7 : ∀ t, oG p e below T5 m 10 #[oR a1] [(.int 1)] t → Steps p.tables e below (s₁.setTop (entryFrame m #[(.ref a1)] 1)) t := by rw [(by decide : ((2 : Int32) >>> ((1 : Int32) &&& 31)) = (1 : Int32))] at R6; exact R6
  obtain ⟨fs, hr, hrun, hended, hW, hsame⟩ := X5.leave (v := some (.int 1)) (fun h => by rw [Bd.returns] at h; cases h)
  refine ⟨_, _, R7 _ ?_, hrun, hended, _, _, rfl, ?_, ⟨_, rfl⟩, hW, hsame.mono (by decide) (by decide)⟩
  · exact retOut X5 hx Bd.returns rfl (Or.inl ⟨rfl, Or.inl rfl, _, rfl⟩) (hb hby own_d14_10) hr
  · show Q_rmLen11 Z a1 b1 k1 cz fm c0 h0 n0 _ T5.heap _
    rw [eq5]
    exact ⟨rfl, N5, rfl⟩
theorem own_ef_rmLen20 (m : MethodId) (x0 : Addr) : entryFrame m #[(.ref x0)] 1 = mkF m 0 #[oR x0] [] := by first | (simp [entryFrame, mkF, argsToLocals, Value.category]; done) | rfl
def Q_rmLen20 (Z : State) (a1 b1 : Addr) (k1 : ClassId) (cz : Int32) (fm : Value) (c0 c1 : Int32) (h0 : Heap) (n0 : Nat) (v : Option Value) (h : Heap) (L : List Loc) : Prop := v = some (.int 2) ∧ Fr n0 L ∧ h = h0
set_option maxRecDepth 65536 in
set_option maxHeartbeats 40000000 in
theorem rmLen20 (l : Launch) (Z : State) (a0 : Array Value) (hw : oT a0 Z) (ws : List Jvm.Cond) (a1 b1 : Addr) (k1 : ClassId) (cz : Int32) (fm : Value) (c0 c1 : Int32) (h0 : Heap) (n0 : Nat) (Z0 : n0 ≤ h0.size) (SU : own_St Z cz fm) (OX : Old Z n0 h0) (E1 : Exa Z h0 a1 "java/lang/String") (C1 : Fld Z h0 a1 "java/lang/String" "coder" "B" (.int 0)) (F1 : Fld Z h0 a1 "java/lang/String" "value" "[B" (.ref b1)) (V1 : Arv Z h0 b1 k1 .byte (2 : Int32) [(.int (own_l c0)), (.int (own_l c1))] (.int 0)) :
    oK l Z (⟨"java/lang/String", "length", "()I"⟩ : MethodName) jdk_42_method_54_code 1 (some .int) ws (oM 1 0 0 13) #[(.ref a1)] h0 (Q_rmLen20 Z a1 b1 k1 cz fm c0 c1 h0 n0) := by
  refine MetFree.of_bodySF (plainFor_of_name own_pn3) hisR ?_
  intro p e s m args below meth c s₁ Bd hml0 hP hK
  obtain ⟨rfl, hZ, hh⟩ := hP
  have hx := Bd.exec
  have hby := Bd.bytes
  have hml : c.maxLocals = 1 := hml0
  have hown : s.vm.findClass "java/lang/String" = some m.cls := findClass_of_methodNamed Bd.named
  have hnm := (name_of_methodNamed Bd.named Bd.method).1
  have X0 : Stand p l e (oM 1 0 0 13) s m #[(.ref a1)] below meth c s₁ [] 0 0 := Stand.of_body Bd
  have e0 : s₁.heap = h0 := by rw [← hh, Bd.state]; rfl
  have N0 := Fr.nil n0
  have R0 : ∀ t, oG p e below s₁ m 0 #[oR a1] [] t → Steps p.tables e below (s₁.setTop (entryFrame m #[(.ref a1)] 1)) t := fun t k => castTop (own_ef_rmLen20 m a1) k
  have R1 : ∀ t, oG p e below s₁ m 1 #[oR a1] [(.ref a1)] t → Steps p.tables e below (s₁.setTop (entryFrame m #[(.ref a1)] 1)) t := by
    intro t k
    refine R0 t ?_
    refine XS.aloadN X0.here hx rfl (hb hby own_d14_0) rfl rfl ?_
    exact k
  obtain ⟨T2, X2, e2, st2⟩ := getF X0 hx hZ hown (host := "") (Or.inl (oW hw 32 rfl)) Via.refl e0 F1 (g := (mkF m 1 #[oR a1] [(.ref a1)])) rfl rfl (hb hby own_d14_1)
  have R2 : ∀ t, oG p e below T2 m 4 #[oR a1] [(.ref b1)] t → Steps p.tables e below (s₁.setTop (entryFrame m #[(.ref a1)] 1)) t := fun t k => R1 t (st2 t k)
  obtain ⟨cl3, Ar3, q3, S3, N3', H3, G3⟩ := id V1
  have R4 : ∀ t, oG p e below T2 m 6 #[oR a1] [(.ref a1), (.int 2)] t → Steps p.tables e below (s₁.setTop (entryFrame m #[(.ref a1)] 1)) t := by
    intro t k
    refine R2 t ?_
    refine X2.arraylength hx (by rw [e2]; exact Ar3.1) (State.isArrayOf_alike hZ.alike Ar3.2.1) (g := (mkF m 4 #[oR a1] [(.ref b1)])) rfl rfl (hb hby own_d14_4) _ ?_
    rw [len_of S3 N3']
    refine XS.aloadN X2.here hx rfl (hb hby own_d14_5) rfl rfl ?_
    exact k
  obtain ⟨cq5, kq5, q5a, q5b, q5c⟩ := isOf hZ e2 E1
  obtain ⟨_, _, ⟨T5, L5, k5, n5⟩, -, X5, ⟨Lc5, hQ5, l5, y5, z5⟩, st5⟩ := X2.virtualBack hx (y := (⟨"java/lang/String", "coder", "()B"⟩ : MethodName)) (z := (⟨"java/lang/String", "coder", "()B"⟩ : MethodName)) hown (mvT hZ (oW hw 62 rfl)) (mvT hZ (oW hw 63 rfl)) (notFace_of_selects (args := #[]) (mvT hZ (oW hw 65 rfl))) (mvT hZ (oW hw 65 rfl)) (mvT hZ (oW hw 64 rfl)) (by decide) (backOf (W := 1) (rmCod0 l Z a0 hw [] a1 cz fm h0 n0 Z0 SU OX C1) hZ (oW hw 66 rfl) (oW hw 6 rfl) (by decide) (by decide)) q5a q5c (g := (mkF m 6 #[oR a1] [(.ref a1), (.int 2)])) rfl (by rw [hml]; rfl) (Steps.refl _) (argsL := []) (rest := [(.int 2)]) (lenOf own_pd12 rfl) rfl (by show 2 * 0 + _ ≤ _; exact Nat.le_of_eq rfl) (hb hby own_d14_6) (fun _ _ => ⟨rfl, e2, (by decide : 0 + 0 ≤ _), (by decide : 0 + 0 ≤ _)⟩)
  dsimp only [Pt.U, Pt.locs, Pt.cells, Pt.slots] at X5 l5 y5 z5 st5 hQ5
  subst l5 y5 z5
  obtain ⟨rfl, Nq5, eq5⟩ := hQ5
  have N5 := Fr.app N0 Nq5
  have R5 : ∀ t, oG p e below T5 m 9 #[oR a1] [(.int 0), (.int 2)] t → Steps p.tables e below (s₁.setTop (entryFrame m #[(.ref a1)] 1)) t := fun t k => R4 t (st5.trans k)
  have R6 : ∀ t, oG p e below T5 m 10 #[oR a1] [(.int ((2 : Int32) >>> ((0 : Int32) &&& 31)))] t → Steps p.tables e below (s₁.setTop (entryFrame m #[(.ref a1)] 1)) t := by
    intro t k
    refine R5 t ?_
    refine XS.ishr X5.here hx rfl (hb hby own_d14_9) rfl ?_
    exact k
  have R7 : ∀ t, oG p e below T5 m 10 #[oR a1] [(.int 2)] t → Steps p.tables e below (s₁.setTop (entryFrame m #[(.ref a1)] 1)) t := by rw [(by decide : ((2 : Int32) >>> ((0 : Int32) &&& 31)) = (2 : Int32))] at R6; exact R6
  obtain ⟨fs, hr, hrun, hended, hW, hsame⟩ := X5.leave (v := some (.int 2)) (fun h => by rw [Bd.returns] at h; cases h)
  refine ⟨_, _, R7 _ ?_, hrun, hended, _, _, rfl, ?_, ⟨_, rfl⟩, hW, hsame.mono (by decide) (by decide)⟩
  · exact retOut X5 hx Bd.returns rfl (Or.inl ⟨rfl, Or.inl rfl, _, rfl⟩) (hb hby own_d14_10) hr
  · show Q_rmLen20 Z a1 b1 k1 cz fm c0 c1 h0 n0 _ T5.heap _
    rw [eq5]
    exact ⟨rfl, N5, rfl⟩
theorem own_ef_rmLen21 (m : MethodId) (x0 : Addr) : entryFrame m #[(.ref x0)] 1 = mkF m 0 #[oR x0] [] := by first | (simp [entryFrame, mkF, argsToLocals, Value.category]; done) | rfl
def Q_rmLen21 (Z : State) (a1 b1 : Addr) (k1 : ClassId) (cz : Int32) (fm : Value) (c0 c1 : Int32) (h0 : Heap) (n0 : Nat) (v : Option Value) (h : Heap) (L : List Loc) : Prop := v = some (.int 2) ∧ Fr n0 L ∧ h = h0
set_option maxRecDepth 65536 in
set_option maxHeartbeats 40000000 in
theorem rmLen21 (l : Launch) (Z : State) (a0 : Array Value) (hw : oT a0 Z) (ws : List Jvm.Cond) (a1 b1 : Addr) (k1 : ClassId) (cz : Int32) (fm : Value) (c0 c1 : Int32) (h0 : Heap) (n0 : Nat) (Z0 : n0 ≤ h0.size) (SU : own_St Z cz fm) (OX : Old Z n0 h0) (E1 : Exa Z h0 a1 "java/lang/String") (C1 : Fld Z h0 a1 "java/lang/String" "coder" "B" (.int 1)) (F1 : Fld Z h0 a1 "java/lang/String" "value" "[B" (.ref b1)) (V1 : Arv Z h0 b1 k1 .byte (4 : Int32) [(.int (own_b0 c0)), (.int (own_b1 c0)), (.int (own_b0 c1)), (.int (own_b1 c1))] (.int 0)) :
    oK l Z (⟨"java/lang/String", "length", "()I"⟩ : MethodName) jdk_42_method_54_code 1 (some .int) ws (oM 1 0 0 13) #[(.ref a1)] h0 (Q_rmLen21 Z a1 b1 k1 cz fm c0 c1 h0 n0) := by
  refine MetFree.of_bodySF (plainFor_of_name own_pn3) hisR ?_
  intro p e s m args below meth c s₁ Bd hml0 hP hK
  obtain ⟨rfl, hZ, hh⟩ := hP
  have hx := Bd.exec
  have hby := Bd.bytes
  have hml : c.maxLocals = 1 := hml0
  have hown : s.vm.findClass "java/lang/String" = some m.cls := findClass_of_methodNamed Bd.named
  have hnm := (name_of_methodNamed Bd.named Bd.method).1
  have X0 : Stand p l e (oM 1 0 0 13) s m #[(.ref a1)] below meth c s₁ [] 0 0 := Stand.of_body Bd
  have e0 : s₁.heap = h0 := by rw [← hh, Bd.state]; rfl
  have N0 := Fr.nil n0
  have R0 : ∀ t, oG p e below s₁ m 0 #[oR a1] [] t → Steps p.tables e below (s₁.setTop (entryFrame m #[(.ref a1)] 1)) t := fun t k => castTop (own_ef_rmLen21 m a1) k
  have R1 : ∀ t, oG p e below s₁ m 1 #[oR a1] [(.ref a1)] t → Steps p.tables e below (s₁.setTop (entryFrame m #[(.ref a1)] 1)) t := by
    intro t k
    refine R0 t ?_
    refine XS.aloadN X0.here hx rfl (hb hby own_d14_0) rfl rfl ?_
    exact k
  obtain ⟨T2, X2, e2, st2⟩ := getF X0 hx hZ hown (host := "") (Or.inl (oW hw 32 rfl)) Via.refl e0 F1 (g := (mkF m 1 #[oR a1] [(.ref a1)])) rfl rfl (hb hby own_d14_1)
  have R2 : ∀ t, oG p e below T2 m 4 #[oR a1] [(.ref b1)] t → Steps p.tables e below (s₁.setTop (entryFrame m #[(.ref a1)] 1)) t := fun t k => R1 t (st2 t k)
  obtain ⟨cl3, Ar3, q3, S3, N3', H3, G3⟩ := id V1
  have R4 : ∀ t, oG p e below T2 m 6 #[oR a1] [(.ref a1), (.int 4)] t → Steps p.tables e below (s₁.setTop (entryFrame m #[(.ref a1)] 1)) t := by
    intro t k
    refine R2 t ?_
    refine X2.arraylength hx (by rw [e2]; exact Ar3.1) (State.isArrayOf_alike hZ.alike Ar3.2.1) (g := (mkF m 4 #[oR a1] [(.ref b1)])) rfl rfl (hb hby own_d14_4) _ ?_
    rw [len_of S3 N3']
    refine XS.aloadN X2.here hx rfl (hb hby own_d14_5) rfl rfl ?_
    exact k
  obtain ⟨cq5, kq5, q5a, q5b, q5c⟩ := isOf hZ e2 E1
  obtain ⟨_, _, ⟨T5, L5, k5, n5⟩, -, X5, ⟨Lc5, hQ5, l5, y5, z5⟩, st5⟩ := X2.virtualBack hx (y := (⟨"java/lang/String", "coder", "()B"⟩ : MethodName)) (z := (⟨"java/lang/String", "coder", "()B"⟩ : MethodName)) hown (mvT hZ (oW hw 62 rfl)) (mvT hZ (oW hw 63 rfl)) (notFace_of_selects (args := #[]) (mvT hZ (oW hw 65 rfl))) (mvT hZ (oW hw 65 rfl)) (mvT hZ (oW hw 64 rfl)) (by decide) (backOf (W := 1) (rmCod1 l Z a0 hw [] a1 cz fm h0 n0 Z0 SU OX C1) hZ (oW hw 66 rfl) (oW hw 6 rfl) (by decide) (by decide)) q5a q5c (g := (mkF m 6 #[oR a1] [(.ref a1), (.int 4)])) rfl (by rw [hml]; rfl) (Steps.refl _) (argsL := []) (rest := [(.int 4)]) (lenOf own_pd12 rfl) rfl (by show 2 * 0 + _ ≤ _; exact Nat.le_of_eq rfl) (hb hby own_d14_6) (fun _ _ => ⟨rfl, e2, (by decide : 0 + 0 ≤ _), (by decide : 0 + 0 ≤ _)⟩)
  dsimp only [Pt.U, Pt.locs, Pt.cells, Pt.slots] at X5 l5 y5 z5 st5 hQ5
  subst l5 y5 z5
  obtain ⟨rfl, Nq5, eq5⟩ := hQ5
  have N5 := Fr.app N0 Nq5
  have R5 : ∀ t, oG p e below T5 m 9 #[oR a1] [(.int 1), (.int 4)] t → Steps p.tables e below (s₁.setTop (entryFrame m #[(.ref a1)] 1)) t := fun t k => R4 t (st5.trans k)
  have R6 : ∀ t, oG p e below T5 m 10 #[oR a1] [(.int ((4 : Int32) >>> ((1 : Int32) &&& 31)))] t → Steps p.tables e below (s₁.setTop (entryFrame m #[(.ref a1)] 1)) t := by
    intro t k
    refine R5 t ?_
    refine XS.ishr X5.here hx rfl (hb hby own_d14_9) rfl ?_
    exact k
  have R7 : ∀ t, oG p e below T5 m 10 #[oR a1] [(.int 2)] t → Steps p.tables e below (s₁.setTop (entryFrame m #[(.ref a1)] 1)) t := by rw [(by decide : ((4 : Int32) >>> ((1 : Int32) &&& 31)) = (2 : Int32))] at R6; exact R6
  obtain ⟨fs, hr, hrun, hended, hW, hsame⟩ := X5.leave (v := some (.int 2)) (fun h => by rw [Bd.returns] at h; cases h)
  refine ⟨_, _, R7 _ ?_, hrun, hended, _, _, rfl, ?_, ⟨_, rfl⟩, hW, hsame.mono (by decide) (by decide)⟩
  · exact retOut X5 hx Bd.returns rfl (Or.inl ⟨rfl, Or.inl rfl, _, rfl⟩) (hb hby own_d14_10) hr
  · show Q_rmLen21 Z a1 b1 k1 cz fm c0 c1 h0 n0 _ T5.heap _
    rw [eq5]
    exact ⟨rfl, N5, rfl⟩
theorem own_pn4 : plainName "jdk/internal/util/Preconditions" = true := by first | (simp [plainName, overriddenIn]; done) | decide +kernel
theorem own_ef_rmPCk (m : MethodId) (x0 : Int32) (x1 : Int32) (x2 : Value) (hx2 : x2.isRef = true) : entryFrame m #[(.int x0), (.int x1), x2] 3 = mkF m 0 #[oI x0, oI x1, .val x2] [] := by rcases ref_cases hx2 with rfl | ⟨a, rfl⟩ <;> first | (simp [entryFrame, mkF, argsToLocals, Value.category]; done) | rfl
theorem own_d25_0 : decode jdk_41_method_11_code 0 = .ok (.iload_n 0, 1) := by decide +kernel
theorem own_d25_1 : decode jdk_41_method_11_code 1 = .ok (.ifCond .lt 8, 3) := by decide +kernel
theorem own_d25_4 : decode jdk_41_method_11_code 4 = .ok (.iload_n 0, 1) := by decide +kernel
theorem own_d25_5 : decode jdk_41_method_11_code 5 = .ok (.iload_n 1, 1) := by decide +kernel
theorem own_d25_6 : decode jdk_41_method_11_code 6 = .ok (.if_icmp .lt 10, 3) := by decide +kernel
theorem own_d25_16 : decode jdk_41_method_11_code 16 = .ok (.iload_n 0, 1) := by decide +kernel
theorem own_d25_17 : decode jdk_41_method_11_code 17 = .ok (.ireturn, 1) := by decide +kernel
def Q_rmPCk (Z : State) (p1 p2 : Int32) (fm : Value) (h0 : Heap) (n0 : Nat) (v : Option Value) (h : Heap) (L : List Loc) : Prop := v = some (.int p1) ∧ Fr n0 L ∧ h = h0
set_option maxRecDepth 65536 in
set_option maxHeartbeats 40000000 in
theorem rmPCk (l : Launch) (Z : State) (a0 : Array Value) (hw : oT a0 Z) (ws : List Jvm.Cond) (p1 p2 : Int32) (fm : Value) (h0 : Heap) (n0 : Nat) (Z0 : n0 ≤ h0.size) (hfm : fm.isRef = true) (i0 : ¬ p1 < (0 : Int32)) (i1 : p1 < p2) :
    oK l Z (⟨"jdk/internal/util/Preconditions", "checkIndex", "(IILjava/util/function/BiFunction;)I"⟩ : MethodName) jdk_41_method_11_code 3 (some .int) ws (oM 0 0 0 0) #[(.int p1), (.int p2), fm] h0 (Q_rmPCk Z p1 p2 fm h0 n0) := by
  refine MetFree.of_bodySF (plainFor_of_name own_pn4) hisR ?_
  intro p e s m args below meth c s₁ Bd hml0 hP hK
  obtain ⟨rfl, hZ, hh⟩ := hP
  have hx := Bd.exec
  have hby := Bd.bytes
  have hml : c.maxLocals = 3 := hml0
  have hown : s.vm.findClass "jdk/internal/util/Preconditions" = some m.cls := findClass_of_methodNamed Bd.named
  have hnm := (name_of_methodNamed Bd.named Bd.method).1
  have X0 : Stand p l e (oM 0 0 0 0) s m #[(.int p1), (.int p2), fm] below meth c s₁ [] 0 0 := Stand.of_body Bd
  have e0 : s₁.heap = h0 := by rw [← hh, Bd.state]; rfl
  have N0 := Fr.nil n0
  have R0 : ∀ t, oG p e below s₁ m 0 #[oI p1, oI p2, .val fm] [] t → Steps p.tables e below (s₁.setTop (entryFrame m #[(.int p1), (.int p2), fm] 3)) t := fun t k => castTop (own_ef_rmPCk m p1 p2 fm hfm) k
  have R1 : ∀ t, oG p e below s₁ m 17 #[oI p1, oI p2, .val fm] [(.int p1)] t → Steps p.tables e below (s₁.setTop (entryFrame m #[(.int p1), (.int p2), fm] 3)) t := by
    intro t k
    refine R0 t ?_
    refine XS.iloadN X0.here hx rfl (hb hby own_d25_0) rfl ?_
    refine XS.ifNo X0.here hx rfl (hb hby own_d25_1) rfl ((if0 _ _).trans (flt i0).1) ?_
    refine XS.iloadN X0.here hx rfl (hb hby own_d25_4) rfl ?_
    show oG p e below s₁ m 5 #[oI p1, oI p2, .val fm] [(.int p1)] _
    refine XS.iloadN X0.here hx rfl (hb hby own_d25_5) rfl ?_
    refine XS.icmpYes X0.here hx rfl (pc0 := 6) (pc' := 16) rfl (hb hby own_d25_6) rfl (tlt i1).1 (by decide) (by decide) ?_
    refine XS.iloadN X0.here hx rfl (hb hby own_d25_16) rfl ?_
    exact k
  obtain ⟨fs, hr, hrun, hended, hW, hsame⟩ := X0.leave (v := some (.int p1)) (fun h => by rw [Bd.returns] at h; cases h)
  refine ⟨_, _, R1 _ ?_, hrun, hended, _, _, rfl, ?_, ⟨_, rfl⟩, hW, hsame.mono (by decide) (by decide)⟩
  · exact retOut X0 hx Bd.returns rfl (Or.inl ⟨rfl, Or.inl rfl, _, rfl⟩) (hb hby own_d25_17) hr
  · show Q_rmPCk Z p1 p2 fm h0 n0 _ s₁.heap _
    rw [e0]
    exact ⟨rfl, N0, rfl⟩
theorem own_ef_rmSCk (m : MethodId) (x0 : Int32) (x1 : Int32) : entryFrame m #[(.int x0), (.int x1)] 2 = mkF m 0 #[oI x0, oI x1] [] := by first | (simp [entryFrame, mkF, argsToLocals, Value.category]; done) | rfl
theorem own_d24_0 : decode jdk_42_method_155_code 0 = .ok (.iload_n 0, 1) := by decide +kernel
theorem own_d24_1 : decode jdk_42_method_155_code 1 = .ok (.iload_n 1, 1) := by decide +kernel
theorem own_d24_2 : decode jdk_42_method_155_code 2 = .ok (.getstatic 1053, 3) := by decide +kernel
theorem own_d24_5 : decode jdk_42_method_155_code 5 = .ok (.invokestatic 1059, 3) := by decide +kernel
theorem own_pd20 : parseMethodDescriptor "(IILjava/util/function/BiFunction;)I" = some ⟨[.int, .int, (.object "java/util/function/BiFunction")], some .int⟩ := by decide +kernel
theorem own_d24_8 : decode jdk_42_method_155_code 8 = .ok (.pop, 1) := by decide +kernel
theorem own_d24_9 : decode jdk_42_method_155_code 9 = .ok (.return_, 1) := by decide +kernel
def Q_rmSCk (Z : State) (p1 p2 : Int32) (cz : Int32) (fm : Value) (h0 : Heap) (n0 : Nat) (v : Option Value) (h : Heap) (L : List Loc) : Prop := v = none ∧ Fr n0 L ∧ h = h0
set_option maxRecDepth 65536 in
set_option maxHeartbeats 40000000 in
theorem rmSCk (l : Launch) (Z : State) (a0 : Array Value) (hw : oT a0 Z) (ws : List Jvm.Cond) (p1 p2 : Int32) (cz : Int32) (fm : Value) (h0 : Heap) (n0 : Nat) (Z0 : n0 ≤ h0.size) (SU : own_St Z cz fm) (OX : Old Z n0 h0) (i0 : ¬ p1 < (0 : Int32)) (i1 : p1 < p2) :
    oK l Z (⟨"java/lang/String", "checkIndex", "(II)V"⟩ : MethodName) jdk_42_method_155_code 2 none ws (oM 1 0 0 14) #[(.int p1), (.int p2)] h0 (Q_rmSCk Z p1 p2 cz fm h0 n0) := by
  refine MetFree.of_bodySF (plainFor_of_name own_pn3) hisR ?_
  intro p e s m args below meth c s₁ Bd hml0 hP hK
  obtain ⟨rfl, hZ, hh⟩ := hP
  have hx := Bd.exec
  have hby := Bd.bytes
  have hml : c.maxLocals = 2 := hml0
  have hown : s.vm.findClass "java/lang/String" = some m.cls := findClass_of_methodNamed Bd.named
  have hnm := (name_of_methodNamed Bd.named Bd.method).1
  have X0 : Stand p l e (oM 1 0 0 14) s m #[(.int p1), (.int p2)] below meth c s₁ [] 0 0 := Stand.of_body Bd
  have e0 : s₁.heap = h0 := by rw [← hh, Bd.state]; rfl
  have N0 := Fr.nil n0
  have R0 : ∀ t, oG p e below s₁ m 0 #[oI p1, oI p2] [] t → Steps p.tables e below (s₁.setTop (entryFrame m #[(.int p1), (.int p2)] 2)) t := fun t k => castTop (own_ef_rmSCk m p1 p2) k
  have R1 : ∀ t, oG p e below s₁ m 2 #[oI p1, oI p2] [(.int p2), (.int p1)] t → Steps p.tables e below (s₁.setTop (entryFrame m #[(.int p1), (.int p2)] 2)) t := by
    intro t k
    refine R0 t ?_
    refine XS.iloadN X0.here hx rfl (hb hby own_d24_0) rfl ?_
    refine XS.iloadN X0.here hx rfl (hb hby own_d24_1) rfl ?_
    exact k
  obtain ⟨T2, X2, e2, st2⟩ := getS2 X0 hx hZ hown (host := "") (Or.inl (oW hw 104 rfl)) Via.refl e0 (SU.2.2.2.2.2.1.ext OX.2) (g := (mkF m 2 #[oI p1, oI p2] [(.int p2), (.int p1)])) rfl (hb hby own_d24_2)
  have R2 : ∀ t, oG p e below T2 m 5 #[oI p1, oI p2] [fm, (.int p2), (.int p1)] t → Steps p.tables e below (s₁.setTop (entryFrame m #[(.int p1), (.int p2)] 2)) t := fun t k => R1 t (st2 t k)
  obtain ⟨_, _, ⟨T3, L3, k3, n3⟩, -, X3, ⟨Lc3, hQ3, l3, y3, z3⟩, st3⟩ := Jvm.LawKit.callS X2 hx (y := (⟨"jdk/internal/util/Preconditions", "checkIndex", "(IILjava/util/function/BiFunction;)I"⟩ : MethodName)) hown (mvT hZ (oW hw 106 rfl)) (mvT hZ (oW hw 107 rfl)) (mvT hZ (oW hw 105 rfl)) (mvT hZ (oW hw 108 rfl)) (by decide) (backOf (W := 0) (rmPCk l Z a0 hw [] p1 p2 fm  h0 n0 Z0 SU.2.2.2.2.2.2 i0 i1) hZ (oW hw 108 rfl) (oW hw 105 rfl) (by decide) (by decide)) (g := (mkF m 5 #[oI p1, oI p2] [fm, (.int p2), (.int p1)])) rfl (by rw [hml]; rfl) (argsL := [(.int p1), (.int p2), fm]) (rest := []) (lenOf own_pd20 rfl) rfl (by show 2 * 0 + _ ≤ _; exact Nat.le_of_eq rfl) (hb hby own_d24_5) (fun _ _ => ⟨rfl, e2, (by decide : 0 + 0 ≤ _), (by decide : 0 + 0 ≤ _)⟩)
  dsimp only [Pt.U, Pt.locs, Pt.cells, Pt.slots] at X3 l3 y3 z3 st3 hQ3
  subst l3 y3 z3
  obtain ⟨rfl, Nq3, eq3⟩ := hQ3
  have N3 := Fr.app N0 Nq3
  have R3 : ∀ t, oG p e below T3 m 8 #[oI p1, oI p2] [(.int p1)] t → Steps p.tables e below (s₁.setTop (entryFrame m #[(.int p1), (.int p2)] 2)) t := fun t k => R2 t (st3 t k)
  have R4 : ∀ t, oG p e below T3 m 9 #[oI p1, oI p2] [] t → Steps p.tables e below (s₁.setTop (entryFrame m #[(.int p1), (.int p2)] 2)) t := by
    intro t k
    refine R3 t ?_
    refine XS.pop X3.here hx rfl (hb hby own_d24_8) rfl rfl ?_
    exact k
  obtain ⟨fs, hr, hrun, hended, hW, hsame⟩ := X3.leave (v := none) (fun _ => rfl)
  refine ⟨_, _, R4 _ ?_, hrun, hended, _, _, rfl, ?_, ⟨_, rfl⟩, hW, hsame.mono (by decide) (by decide)⟩
  · exact X3.returnOut hx Bd.returns (hb hby own_d24_9) hr
  · show Q_rmSCk Z p1 p2 cz fm h0 n0 _ T3.heap _
    rw [eq3]
    exact ⟨rfl, N3, rfl⟩
theorem own_pn5 : plainName "java/lang/StringUTF16" = true := by first | (simp [plainName, overriddenIn]; done) | decide +kernel
theorem own_ef_rmGC20 (m : MethodId) (x0 : Addr) (x1 : Int32) : entryFrame m #[(.ref x0), (.int x1)] 2 = mkF m 0 #[oR x0, oI x1] [] := by first | (simp [entryFrame, mkF, argsToLocals, Value.category]; done) | rfl
theorem own_d21_0 : decode jdk_52_method_5_code 0 = .ok (.getstatic 44, 3) := by decide +kernel
theorem own_d21_3 : decode jdk_52_method_5_code 3 = .ok (.ifCond .ne 25, 3) := by decide +kernel
theorem own_d21_28 : decode jdk_52_method_5_code 28 = .ok (.iload_n 1, 1) := by decide +kernel
theorem own_d21_29 : decode jdk_52_method_5_code 29 = .ok (.iconst 1, 1) := by decide +kernel
theorem own_d21_30 : decode jdk_52_method_5_code 30 = .ok (.ishl, 1) := by decide +kernel
theorem own_d21_31 : decode jdk_52_method_5_code 31 = .ok (.istore_n 1, 1) := by decide +kernel
theorem own_d21_32 : decode jdk_52_method_5_code 32 = .ok (.aload_n 0, 1) := by decide +kernel
theorem own_d21_33 : decode jdk_52_method_5_code 33 = .ok (.iload_n 1, 1) := by decide +kernel
theorem own_d21_34 : decode jdk_52_method_5_code 34 = .ok (.iinc 1 1, 3) := by decide +kernel
theorem own_d21_37 : decode jdk_52_method_5_code 37 = .ok (.baload, 1) := by decide +kernel
theorem own_d21_38 : decode jdk_52_method_5_code 38 = .ok (.sipush 255, 3) := by decide +kernel
theorem own_d21_41 : decode jdk_52_method_5_code 41 = .ok (.iand, 1) := by decide +kernel
theorem own_d21_42 : decode jdk_52_method_5_code 42 = .ok (.getstatic 59, 3) := by decide +kernel
theorem own_d21_45 : decode jdk_52_method_5_code 45 = .ok (.ishl, 1) := by decide +kernel
theorem own_d21_46 : decode jdk_52_method_5_code 46 = .ok (.aload_n 0, 1) := by decide +kernel
theorem own_d21_47 : decode jdk_52_method_5_code 47 = .ok (.iload_n 1, 1) := by decide +kernel
theorem own_d21_48 : decode jdk_52_method_5_code 48 = .ok (.baload, 1) := by decide +kernel
theorem own_d21_49 : decode jdk_52_method_5_code 49 = .ok (.sipush 255, 3) := by decide +kernel
theorem own_d21_52 : decode jdk_52_method_5_code 52 = .ok (.iand, 1) := by decide +kernel
theorem own_d21_53 : decode jdk_52_method_5_code 53 = .ok (.getstatic 63, 3) := by decide +kernel
theorem own_d21_56 : decode jdk_52_method_5_code 56 = .ok (.ishl, 1) := by decide +kernel
theorem own_d21_57 : decode jdk_52_method_5_code 57 = .ok (.ior, 1) := by decide +kernel
theorem own_d21_58 : decode jdk_52_method_5_code 58 = .ok (.i2c, 1) := by decide +kernel
theorem own_d21_59 : decode jdk_52_method_5_code 59 = .ok (.ireturn, 1) := by decide +kernel
def Q_rmGC20 (Z : State) (a1 : Addr) (k1 : ClassId) (cz : Int32) (fm : Value) (c0 : Int32) (h0 : Heap) (n0 : Nat) (v : Option Value) (h : Heap) (L : List Loc) : Prop := v = some (.int c0) ∧ Fr n0 L ∧ h = h0
set_option maxRecDepth 65536 in
set_option maxHeartbeats 40000000 in
theorem rmGC20 (l : Launch) (Z : State) (a0 : Array Value) (hw : oT a0 Z) (ws : List Jvm.Cond) (a1 : Addr) (k1 : ClassId) (cz : Int32) (fm : Value) (c0 : Int32) (h0 : Heap) (n0 : Nat) (Z0 : n0 ≤ h0.size) (SU : own_St Z cz fm) (OX : Old Z n0 h0) (V1 : Arv Z h0 a1 k1 .byte (2 : Int32) [(.int (own_b0 c0)), (.int (own_b1 c0))] (.int 0)) (r : own_R c0) :
    oK l Z (⟨"java/lang/StringUTF16", "getChar", "([BI)C"⟩ : MethodName) jdk_52_method_5_code 2 (some .char) ws (oM 0 0 0 0) #[(.ref a1), (.int 0)] h0 (Q_rmGC20 Z a1 k1 cz fm c0 h0 n0) := by
  refine MetFree.of_bodySF (plainFor_of_name own_pn5) hisR ?_
  intro p e s m args below meth c s₁ Bd hml0 hP hK
  obtain ⟨rfl, hZ, hh⟩ := hP
  have hx := Bd.exec
  have hby := Bd.bytes
  have hml : c.maxLocals = 2 := hml0
  have hown : s.vm.findClass "java/lang/StringUTF16" = some m.cls := findClass_of_methodNamed Bd.named
  have hnm := (name_of_methodNamed Bd.named Bd.method).1
  have X0 : Stand p l e (oM 0 0 0 0) s m #[(.ref a1), (.int 0)] below meth c s₁ [] 0 0 := Stand.of_body Bd
  have e0 : s₁.heap = h0 := by rw [← hh, Bd.state]; rfl
  have N0 := Fr.nil n0
  have R0 : ∀ t, oG p e below s₁ m 0 #[oR a1, oI 0] [] t → Steps p.tables e below (s₁.setTop (entryFrame m #[(.ref a1), (.int 0)] 2)) t := fun t k => castTop (own_ef_rmGC20 m a1 (0 : Int32)) k
  obtain ⟨T1, X1, e1, st1⟩ := getS2 X0 hx hZ hown (host := "") (Or.inl (oW hw 85 rfl)) Via.refl e0 (SU.2.2.1.ext OX.2) (g := (mkF m 0 #[oR a1, oI 0] [])) rfl (hb hby own_d21_0)
  have R1 : ∀ t, oG p e below T1 m 3 #[oR a1, oI 0] [(.int 1)] t → Steps p.tables e below (s₁.setTop (entryFrame m #[(.ref a1), (.int 0)] 2)) t := fun t k => R0 t (st1 t k)
  have R2 : ∀ t, oG p e below T1 m 31 #[oR a1, oI 0] [(.int ((0 : Int32) <<< ((1 : Int32) &&& 31)))] t → Steps p.tables e below (s₁.setTop (entryFrame m #[(.ref a1), (.int 0)] 2)) t := by
    intro t k
    refine R1 t ?_
    refine XS.ifYes X1.here hx rfl (pc0 := 3) (pc' := 28) rfl (hb hby own_d21_3) rfl ((if0 _ _).trans (feq (by decide : ¬ ((1 : Int32) = (0 : Int32)))).2) (by decide) (by decide) ?_
    refine XS.iloadN X1.here hx rfl (hb hby own_d21_28) rfl ?_
    refine XS.iconst X1.here hx rfl (hb hby own_d21_29) ?_
    show oG p e below T1 m 30 #[oR a1, oI 0] [(.int 1), (.int 0)] _
    refine XS.ishl X1.here hx rfl (hb hby own_d21_30) rfl ?_
    exact k
  have R3 : ∀ t, oG p e below T1 m 31 #[oR a1, oI 0] [(.int 0)] t → Steps p.tables e below (s₁.setTop (entryFrame m #[(.ref a1), (.int 0)] 2)) t := by rw [(by decide : ((0 : Int32) <<< ((1 : Int32) &&& 31)) = (0 : Int32))] at R2; exact R2
  have R4 : ∀ t, oG p e below T1 m 37 #[oR a1, oI 1] [(.int 0), (.ref a1)] t → Steps p.tables e below (s₁.setTop (entryFrame m #[(.ref a1), (.int 0)] 2)) t := by
    intro t k
    refine R3 t ?_
    refine XS.istoreN X1.here hx rfl (hb hby own_d21_31) rfl (l' := #[oR a1, oI 0]) rfl ?_
    refine XS.aloadN X1.here hx rfl (hb hby own_d21_32) rfl rfl ?_
    refine XS.iloadN X1.here hx rfl (hb hby own_d21_33) rfl ?_
    show oG p e below T1 m 34 #[oR a1, oI 0] [(.int 0), (.ref a1)] _
    refine XS.iinc X1.here hx rfl (hb hby own_d21_34) rfl (l' := #[oR a1, oI 1]) rfl ?_
    exact k
  obtain ⟨cl5, Ar5, q5, S5, N5', H5, G5⟩ := id V1
  have hin5_0 : ¬ ((0 : Int32) < 0 ∨ cl5.slots.size ≤ ((0 : Int32)).toNatClampNeg) := inb_of S5 ⟨by decide, by decide⟩
  have hat5_0 : cl5.slots[((0 : Int32)).toNatClampNeg]? = some (.int (own_b0 c0)) := H5.at hin5_0 rfl
  have R6 : ∀ t, oG p e below T1 m 42 #[oR a1, oI 1] [(.int ((own_b0 c0) &&& (255 : Int32)))] t → Steps p.tables e below (s₁.setTop (entryFrame m #[(.ref a1), (.int 0)] 2)) t := by
    intro t k
    refine R4 t ?_
    refine X1.baloadBytes hx (j := (0 : Int32)) (v := (.int (own_b0 c0))) (by rw [e1]; exact Ar5.1) (State.isArrayOf_alike hZ.alike Ar5.2.1) Ar5.2.2 hin5_0 hat5_0 (g := (mkF m 37 #[oR a1, oI 1] [(.int 0), (.ref a1)])) rfl rfl (hb hby own_d21_37) _ ?_
    refine XS.sipush X1.here hx rfl (hb hby own_d21_38) ?_
    refine XS.iand X1.here hx rfl (hb hby own_d21_41) rfl ?_
    exact k
  obtain ⟨T7, X7, e7, st7⟩ := getS2 X1 hx hZ hown (host := "") (Or.inl (oW hw 86 rfl)) Via.refl e1 (SU.2.2.2.1.ext OX.2) (g := (mkF m 42 #[oR a1, oI 1] [(.int ((own_b0 c0) &&& (255 : Int32)))])) rfl (hb hby own_d21_42)
  have R7 : ∀ t, oG p e below T7 m 45 #[oR a1, oI 1] [(.int 0), (.int ((own_b0 c0) &&& (255 : Int32)))] t → Steps p.tables e below (s₁.setTop (entryFrame m #[(.ref a1), (.int 0)] 2)) t := fun t k => R6 t (st7 t k)
  have R8 : ∀ t, oG p e below T7 m 48 #[oR a1, oI 1] [(.int 1), (.ref a1), (.int (((own_b0 c0) &&& (255 : Int32)) <<< ((0 : Int32) &&& 31)))] t → Steps p.tables e below (s₁.setTop (entryFrame m #[(.ref a1), (.int 0)] 2)) t := by
    intro t k
    refine R7 t ?_
    refine XS.ishl X7.here hx rfl (hb hby own_d21_45) rfl ?_
    refine XS.aloadN X7.here hx rfl (hb hby own_d21_46) rfl rfl ?_
    refine XS.iloadN X7.here hx rfl (hb hby own_d21_47) rfl ?_
    exact k
  have hin5_1 : ¬ ((1 : Int32) < 0 ∨ cl5.slots.size ≤ ((1 : Int32)).toNatClampNeg) := inb_of S5 ⟨by decide, by decide⟩
  have hat5_1 : cl5.slots[((1 : Int32)).toNatClampNeg]? = some (.int (own_b1 c0)) := H5.at hin5_1 rfl
  have R9 : ∀ t, oG p e below T7 m 53 #[oR a1, oI 1] [(.int ((own_b1 c0) &&& (255 : Int32))), (.int (((own_b0 c0) &&& (255 : Int32)) <<< ((0 : Int32) &&& 31)))] t → Steps p.tables e below (s₁.setTop (entryFrame m #[(.ref a1), (.int 0)] 2)) t := by
    intro t k
    refine R8 t ?_
    refine X7.baloadBytes hx (j := (1 : Int32)) (v := (.int (own_b1 c0))) (by rw [e7]; exact Ar5.1) (State.isArrayOf_alike hZ.alike Ar5.2.1) Ar5.2.2 hin5_1 hat5_1 (g := (mkF m 48 #[oR a1, oI 1] [(.int 1), (.ref a1), (.int (((own_b0 c0) &&& (255 : Int32)) <<< ((0 : Int32) &&& 31)))])) rfl rfl (hb hby own_d21_48) _ ?_
    refine XS.sipush X7.here hx rfl (hb hby own_d21_49) ?_
    refine XS.iand X7.here hx rfl (hb hby own_d21_52) rfl ?_
    exact k
  obtain ⟨T10, X10, e10, st10⟩ := getS2 X7 hx hZ hown (host := "") (Or.inl (oW hw 87 rfl)) Via.refl e7 (SU.2.2.2.2.1.ext OX.2) (g := (mkF m 53 #[oR a1, oI 1] [(.int ((own_b1 c0) &&& (255 : Int32))), (.int (((own_b0 c0) &&& (255 : Int32)) <<< ((0 : Int32) &&& 31)))])) rfl (hb hby own_d21_53)
  have R10 : ∀ t, oG p e below T10 m 56 #[oR a1, oI 1] [(.int 8), (.int ((own_b1 c0) &&& (255 : Int32))), (.int (((own_b0 c0) &&& (255 : Int32)) <<< ((0 : Int32) &&& 31)))] t → Steps p.tables e below (s₁.setTop (entryFrame m #[(.ref a1), (.int 0)] 2)) t := fun t k => R9 t (st10 t k)
  have R11 : ∀ t, oG p e below T10 m 59 #[oR a1, oI 1] [(.int (((((own_b0 c0) &&& (255 : Int32)) <<< ((0 : Int32) &&& 31)) ||| (((own_b1 c0) &&& (255 : Int32)) <<< ((8 : Int32) &&& 31))).toUInt32.toUInt16.toUInt32.toInt32))] t → Steps p.tables e below (s₁.setTop (entryFrame m #[(.ref a1), (.int 0)] 2)) t := by
    intro t k
    refine R10 t ?_
    refine XS.ishl X10.here hx rfl (hb hby own_d21_56) rfl ?_
    refine XS.ior X10.here hx rfl (hb hby own_d21_57) rfl ?_
    refine XS.i2c X10.here hx rfl (hb hby own_d21_58) rfl ?_
    exact k
  have R12 : ∀ t, oG p e below T10 m 59 #[oR a1, oI 1] [(.int c0)] t → Steps p.tables e below (s₁.setTop (entryFrame m #[(.ref a1), (.int 0)] 2)) t := by rw [(own_chc r : (((((own_b0 c0) &&& (255 : Int32)) <<< ((0 : Int32) &&& 31)) ||| (((own_b1 c0) &&& (255 : Int32)) <<< ((8 : Int32) &&& 31))).toUInt32.toUInt16.toUInt32.toInt32) = c0)] at R11; exact R11
  obtain ⟨fs, hr, hrun, hended, hW, hsame⟩ := X10.leave (v := some (.int c0)) (fun h => by rw [Bd.returns] at h; cases h)
  refine ⟨_, _, R12 _ ?_, hrun, hended, _, _, rfl, ?_, ⟨_, rfl⟩, hW, hsame.mono (by decide) (by decide)⟩
  · exact retN X10 hx (t := .char) Bd.returns (by simp) (hb hby own_d21_59) (by rw [(own_narc r : nar .char c0 = c0)]; exact hr)
  · show Q_rmGC20 Z a1 k1 cz fm c0 h0 n0 _ T10.heap _
    rw [e10]
    exact ⟨rfl, N0, rfl⟩
theorem own_ef_rmGC40 (m : MethodId) (x0 : Addr) (x1 : Int32) : entryFrame m #[(.ref x0), (.int x1)] 2 = mkF m 0 #[oR x0, oI x1] [] := by first | (simp [entryFrame, mkF, argsToLocals, Value.category]; done) | rfl
def Q_rmGC40 (Z : State) (a1 : Addr) (k1 : ClassId) (cz : Int32) (fm : Value) (c0 c1 : Int32) (h0 : Heap) (n0 : Nat) (v : Option Value) (h : Heap) (L : List Loc) : Prop := v = some (.int c0) ∧ Fr n0 L ∧ h = h0
set_option maxRecDepth 65536 in
set_option maxHeartbeats 40000000 in
theorem rmGC40 (l : Launch) (Z : State) (a0 : Array Value) (hw : oT a0 Z) (ws : List Jvm.Cond) (a1 : Addr) (k1 : ClassId) (cz : Int32) (fm : Value) (c0 c1 : Int32) (h0 : Heap) (n0 : Nat) (Z0 : n0 ≤ h0.size) (SU : own_St Z cz fm) (OX : Old Z n0 h0) (V1 : Arv Z h0 a1 k1 .byte (4 : Int32) [(.int (own_b0 c0)), (.int (own_b1 c0)), (.int (own_b0 c1)), (.int (own_b1 c1))] (.int 0)) (r : own_R c0) :
    oK l Z (⟨"java/lang/StringUTF16", "getChar", "([BI)C"⟩ : MethodName) jdk_52_method_5_code 2 (some .char) ws (oM 0 0 0 0) #[(.ref a1), (.int 0)] h0 (Q_rmGC40 Z a1 k1 cz fm c0 c1 h0 n0) := by
  refine MetFree.of_bodySF (plainFor_of_name own_pn5) hisR ?_
  intro p e s m args below meth c s₁ Bd hml0 hP hK
  obtain ⟨rfl, hZ, hh⟩ := hP
  have hx := Bd.exec
  have hby := Bd.bytes
  have hml : c.maxLocals = 2 := hml0
  have hown : s.vm.findClass "java/lang/StringUTF16" = some m.cls := findClass_of_methodNamed Bd.named
  have hnm := (name_of_methodNamed Bd.named Bd.method).1
  have X0 : Stand p l e (oM 0 0 0 0) s m #[(.ref a1), (.int 0)] below meth c s₁ [] 0 0 := Stand.of_body Bd
  have e0 : s₁.heap = h0 := by rw [← hh, Bd.state]; rfl
  have N0 := Fr.nil n0
  have R0 : ∀ t, oG p e below s₁ m 0 #[oR a1, oI 0] [] t → Steps p.tables e below (s₁.setTop (entryFrame m #[(.ref a1), (.int 0)] 2)) t := fun t k => castTop (own_ef_rmGC40 m a1 (0 : Int32)) k
  obtain ⟨T1, X1, e1, st1⟩ := getS2 X0 hx hZ hown (host := "") (Or.inl (oW hw 85 rfl)) Via.refl e0 (SU.2.2.1.ext OX.2) (g := (mkF m 0 #[oR a1, oI 0] [])) rfl (hb hby own_d21_0)
  have R1 : ∀ t, oG p e below T1 m 3 #[oR a1, oI 0] [(.int 1)] t → Steps p.tables e below (s₁.setTop (entryFrame m #[(.ref a1), (.int 0)] 2)) t := fun t k => R0 t (st1 t k)
  have R2 : ∀ t, oG p e below T1 m 31 #[oR a1, oI 0] [(.int ((0 : Int32) <<< ((1 : Int32) &&& 31)))] t → Steps p.tables e below (s₁.setTop (entryFrame m #[(.ref a1), (.int 0)] 2)) t := by
    intro t k
    refine R1 t ?_
    refine XS.ifYes X1.here hx rfl (pc0 := 3) (pc' := 28) rfl (hb hby own_d21_3) rfl ((if0 _ _).trans (feq (by decide : ¬ ((1 : Int32) = (0 : Int32)))).2) (by decide) (by decide) ?_
    refine XS.iloadN X1.here hx rfl (hb hby own_d21_28) rfl ?_
    refine XS.iconst X1.here hx rfl (hb hby own_d21_29) ?_
    show oG p e below T1 m 30 #[oR a1, oI 0] [(.int 1), (.int 0)] _
    refine XS.ishl X1.here hx rfl (hb hby own_d21_30) rfl ?_
    exact k
  have R3 : ∀ t, oG p e below T1 m 31 #[oR a1, oI 0] [(.int 0)] t → Steps p.tables e below (s₁.setTop (entryFrame m #[(.ref a1), (.int 0)] 2)) t := by rw [(by decide : ((0 : Int32) <<< ((1 : Int32) &&& 31)) = (0 : Int32))] at R2; exact R2
  have R4 : ∀ t, oG p e below T1 m 37 #[oR a1, oI 1] [(.int 0), (.ref a1)] t → Steps p.tables e below (s₁.setTop (entryFrame m #[(.ref a1), (.int 0)] 2)) t := by
    intro t k
    refine R3 t ?_
    refine XS.istoreN X1.here hx rfl (hb hby own_d21_31) rfl (l' := #[oR a1, oI 0]) rfl ?_
    refine XS.aloadN X1.here hx rfl (hb hby own_d21_32) rfl rfl ?_
    refine XS.iloadN X1.here hx rfl (hb hby own_d21_33) rfl ?_
    show oG p e below T1 m 34 #[oR a1, oI 0] [(.int 0), (.ref a1)] _
    refine XS.iinc X1.here hx rfl (hb hby own_d21_34) rfl (l' := #[oR a1, oI 1]) rfl ?_
    exact k
  obtain ⟨cl5, Ar5, q5, S5, N5', H5, G5⟩ := id V1
  have hin5_0 : ¬ ((0 : Int32) < 0 ∨ cl5.slots.size ≤ ((0 : Int32)).toNatClampNeg) := inb_of S5 ⟨by decide, by decide⟩
  have hat5_0 : cl5.slots[((0 : Int32)).toNatClampNeg]? = some (.int (own_b0 c0)) := H5.at hin5_0 rfl
  have R6 : ∀ t, oG p e below T1 m 42 #[oR a1, oI 1] [(.int ((own_b0 c0) &&& (255 : Int32)))] t → Steps p.tables e below (s₁.setTop (entryFrame m #[(.ref a1), (.int 0)] 2)) t := by
    intro t k
    refine R4 t ?_
    refine X1.baloadBytes hx (j := (0 : Int32)) (v := (.int (own_b0 c0))) (by rw [e1]; exact Ar5.1) (State.isArrayOf_alike hZ.alike Ar5.2.1) Ar5.2.2 hin5_0 hat5_0 (g := (mkF m 37 #[oR a1, oI 1] [(.int 0), (.ref a1)])) rfl rfl (hb hby own_d21_37) _ ?_
    refine XS.sipush X1.here hx rfl (hb hby own_d21_38) ?_
    refine XS.iand X1.here hx rfl (hb hby own_d21_41) rfl ?_
    exact k
  obtain ⟨T7, X7, e7, st7⟩ := getS2 X1 hx hZ hown (host := "") (Or.inl (oW hw 86 rfl)) Via.refl e1 (SU.2.2.2.1.ext OX.2) (g := (mkF m 42 #[oR a1, oI 1] [(.int ((own_b0 c0) &&& (255 : Int32)))])) rfl (hb hby own_d21_42)
  have R7 : ∀ t, oG p e below T7 m 45 #[oR a1, oI 1] [(.int 0), (.int ((own_b0 c0) &&& (255 : Int32)))] t → Steps p.tables e below (s₁.setTop (entryFrame m #[(.ref a1), (.int 0)] 2)) t := fun t k => R6 t (st7 t k)
  have R8 : ∀ t, oG p e below T7 m 48 #[oR a1, oI 1] [(.int 1), (.ref a1), (.int (((own_b0 c0) &&& (255 : Int32)) <<< ((0 : Int32) &&& 31)))] t → Steps p.tables e below (s₁.setTop (entryFrame m #[(.ref a1), (.int 0)] 2)) t := by
    intro t k
    refine R7 t ?_
    refine XS.ishl X7.here hx rfl (hb hby own_d21_45) rfl ?_
    refine XS.aloadN X7.here hx rfl (hb hby own_d21_46) rfl rfl ?_
    refine XS.iloadN X7.here hx rfl (hb hby own_d21_47) rfl ?_
    exact k
  have hin5_1 : ¬ ((1 : Int32) < 0 ∨ cl5.slots.size ≤ ((1 : Int32)).toNatClampNeg) := inb_of S5 ⟨by decide, by decide⟩
  have hat5_1 : cl5.slots[((1 : Int32)).toNatClampNeg]? = some (.int (own_b1 c0)) := H5.at hin5_1 rfl
  have R9 : ∀ t, oG p e below T7 m 53 #[oR a1, oI 1] [(.int ((own_b1 c0) &&& (255 : Int32))), (.int (((own_b0 c0) &&& (255 : Int32)) <<< ((0 : Int32) &&& 31)))] t → Steps p.tables e below (s₁.setTop (entryFrame m #[(.ref a1), (.int 0)] 2)) t := by
    intro t k
    refine R8 t ?_
    refine X7.baloadBytes hx (j := (1 : Int32)) (v := (.int (own_b1 c0))) (by rw [e7]; exact Ar5.1) (State.isArrayOf_alike hZ.alike Ar5.2.1) Ar5.2.2 hin5_1 hat5_1 (g := (mkF m 48 #[oR a1, oI 1] [(.int 1), (.ref a1), (.int (((own_b0 c0) &&& (255 : Int32)) <<< ((0 : Int32) &&& 31)))])) rfl rfl (hb hby own_d21_48) _ ?_
    refine XS.sipush X7.here hx rfl (hb hby own_d21_49) ?_
    refine XS.iand X7.here hx rfl (hb hby own_d21_52) rfl ?_
    exact k
  obtain ⟨T10, X10, e10, st10⟩ := getS2 X7 hx hZ hown (host := "") (Or.inl (oW hw 87 rfl)) Via.refl e7 (SU.2.2.2.2.1.ext OX.2) (g := (mkF m 53 #[oR a1, oI 1] [(.int ((own_b1 c0) &&& (255 : Int32))), (.int (((own_b0 c0) &&& (255 : Int32)) <<< ((0 : Int32) &&& 31)))])) rfl (hb hby own_d21_53)
  have R10 : ∀ t, oG p e below T10 m 56 #[oR a1, oI 1] [(.int 8), (.int ((own_b1 c0) &&& (255 : Int32))), (.int (((own_b0 c0) &&& (255 : Int32)) <<< ((0 : Int32) &&& 31)))] t → Steps p.tables e below (s₁.setTop (entryFrame m #[(.ref a1), (.int 0)] 2)) t := fun t k => R9 t (st10 t k)
  have R11 : ∀ t, oG p e below T10 m 59 #[oR a1, oI 1] [(.int (((((own_b0 c0) &&& (255 : Int32)) <<< ((0 : Int32) &&& 31)) ||| (((own_b1 c0) &&& (255 : Int32)) <<< ((8 : Int32) &&& 31))).toUInt32.toUInt16.toUInt32.toInt32))] t → Steps p.tables e below (s₁.setTop (entryFrame m #[(.ref a1), (.int 0)] 2)) t := by
    intro t k
    refine R10 t ?_
    refine XS.ishl X10.here hx rfl (hb hby own_d21_56) rfl ?_
    refine XS.ior X10.here hx rfl (hb hby own_d21_57) rfl ?_
    refine XS.i2c X10.here hx rfl (hb hby own_d21_58) rfl ?_
    exact k
  have R12 : ∀ t, oG p e below T10 m 59 #[oR a1, oI 1] [(.int c0)] t → Steps p.tables e below (s₁.setTop (entryFrame m #[(.ref a1), (.int 0)] 2)) t := by rw [(own_chc r : (((((own_b0 c0) &&& (255 : Int32)) <<< ((0 : Int32) &&& 31)) ||| (((own_b1 c0) &&& (255 : Int32)) <<< ((8 : Int32) &&& 31))).toUInt32.toUInt16.toUInt32.toInt32) = c0)] at R11; exact R11
  obtain ⟨fs, hr, hrun, hended, hW, hsame⟩ := X10.leave (v := some (.int c0)) (fun h => by rw [Bd.returns] at h; cases h)
  refine ⟨_, _, R12 _ ?_, hrun, hended, _, _, rfl, ?_, ⟨_, rfl⟩, hW, hsame.mono (by decide) (by decide)⟩
  · exact retN X10 hx (t := .char) Bd.returns (by simp) (hb hby own_d21_59) (by rw [(own_narc r : nar .char c0 = c0)]; exact hr)
  · show Q_rmGC40 Z a1 k1 cz fm c0 c1 h0 n0 _ T10.heap _
    rw [e10]
    exact ⟨rfl, N0, rfl⟩
theorem own_ef_rmGC41 (m : MethodId) (x0 : Addr) (x1 : Int32) : entryFrame m #[(.ref x0), (.int x1)] 2 = mkF m 0 #[oR x0, oI x1] [] := by first | (simp [entryFrame, mkF, argsToLocals, Value.category]; done) | rfl
def Q_rmGC41 (Z : State) (a1 : Addr) (k1 : ClassId) (cz : Int32) (fm : Value) (c0 c1 : Int32) (h0 : Heap) (n0 : Nat) (v : Option Value) (h : Heap) (L : List Loc) : Prop := v = some (.int c1) ∧ Fr n0 L ∧ h = h0
set_option maxRecDepth 65536 in
set_option maxHeartbeats 40000000 in
theorem rmGC41 (l : Launch) (Z : State) (a0 : Array Value) (hw : oT a0 Z) (ws : List Jvm.Cond) (a1 : Addr) (k1 : ClassId) (cz : Int32) (fm : Value) (c0 c1 : Int32) (h0 : Heap) (n0 : Nat) (Z0 : n0 ≤ h0.size) (SU : own_St Z cz fm) (OX : Old Z n0 h0) (V1 : Arv Z h0 a1 k1 .byte (4 : Int32) [(.int (own_b0 c0)), (.int (own_b1 c0)), (.int (own_b0 c1)), (.int (own_b1 c1))] (.int 0)) (r : own_R c1) :
    oK l Z (⟨"java/lang/StringUTF16", "getChar", "([BI)C"⟩ : MethodName) jdk_52_method_5_code 2 (some .char) ws (oM 0 0 0 0) #[(.ref a1), (.int 1)] h0 (Q_rmGC41 Z a1 k1 cz fm c0 c1 h0 n0) := by
  refine MetFree.of_bodySF (plainFor_of_name own_pn5) hisR ?_
  intro p e s m args below meth c s₁ Bd hml0 hP hK
  obtain ⟨rfl, hZ, hh⟩ := hP
  have hx := Bd.exec
  have hby := Bd.bytes
  have hml : c.maxLocals = 2 := hml0
  have hown : s.vm.findClass "java/lang/StringUTF16" = some m.cls := findClass_of_methodNamed Bd.named
  have hnm := (name_of_methodNamed Bd.named Bd.method).1
  have X0 : Stand p l e (oM 0 0 0 0) s m #[(.ref a1), (.int 1)] below meth c s₁ [] 0 0 := Stand.of_body Bd
  have e0 : s₁.heap = h0 := by rw [← hh, Bd.state]; rfl
  have N0 := Fr.nil n0
  have R0 : ∀ t, oG p e below s₁ m 0 #[oR a1, oI 1] [] t → Steps p.tables e below (s₁.setTop (entryFrame m #[(.ref a1), (.int 1)] 2)) t := fun t k => castTop (own_ef_rmGC41 m a1 (1 : Int32)) k
  obtain ⟨T1, X1, e1, st1⟩ := getS2 X0 hx hZ hown (host := "") (Or.inl (oW hw 85 rfl)) Via.refl e0 (SU.2.2.1.ext OX.2) (g := (mkF m 0 #[oR a1, oI 1] [])) rfl (hb hby own_d21_0)
  have R1 : ∀ t, oG p e below T1 m 3 #[oR a1, oI 1] [(.int 1)] t → Steps p.tables e below (s₁.setTop (entryFrame m #[(.ref a1), (.int 1)] 2)) t := fun t k => R0 t (st1 t k)
  have R2 : ∀ t, oG p e below T1 m 31 #[oR a1, oI 1] [(.int ((1 : Int32) <<< ((1 : Int32) &&& 31)))] t → Steps p.tables e below (s₁.setTop (entryFrame m #[(.ref a1), (.int 1)] 2)) t := by
    intro t k
    refine R1 t ?_
    refine XS.ifYes X1.here hx rfl (pc0 := 3) (pc' := 28) rfl (hb hby own_d21_3) rfl ((if0 _ _).trans (feq (by decide : ¬ ((1 : Int32) = (0 : Int32)))).2) (by decide) (by decide) ?_
    refine XS.iloadN X1.here hx rfl (hb hby own_d21_28) rfl ?_
    refine XS.iconst X1.here hx rfl (hb hby own_d21_29) ?_
    show oG p e below T1 m 30 #[oR a1, oI 1] [(.int 1), (.int 1)] _
    refine XS.ishl X1.here hx rfl (hb hby own_d21_30) rfl ?_
    exact k
  have R3 : ∀ t, oG p e below T1 m 31 #[oR a1, oI 1] [(.int 2)] t → Steps p.tables e below (s₁.setTop (entryFrame m #[(.ref a1), (.int 1)] 2)) t := by rw [(by decide : ((1 : Int32) <<< ((1 : Int32) &&& 31)) = (2 : Int32))] at R2; exact R2
  have R4 : ∀ t, oG p e below T1 m 37 #[oR a1, oI 3] [(.int 2), (.ref a1)] t → Steps p.tables e below (s₁.setTop (entryFrame m #[(.ref a1), (.int 1)] 2)) t := by
    intro t k
    refine R3 t ?_
    refine XS.istoreN X1.here hx rfl (hb hby own_d21_31) rfl (l' := #[oR a1, oI 2]) rfl ?_
    refine XS.aloadN X1.here hx rfl (hb hby own_d21_32) rfl rfl ?_
    refine XS.iloadN X1.here hx rfl (hb hby own_d21_33) rfl ?_
    show oG p e below T1 m 34 #[oR a1, oI 2] [(.int 2), (.ref a1)] _
    refine XS.iinc X1.here hx rfl (hb hby own_d21_34) rfl (l' := #[oR a1, oI 3]) rfl ?_
    exact k
  obtain ⟨cl5, Ar5, q5, S5, N5', H5, G5⟩ := id V1
  have hin5_2 : ¬ ((2 : Int32) < 0 ∨ cl5.slots.size ≤ ((2 : Int32)).toNatClampNeg) := inb_of S5 ⟨by decide, by decide⟩
  have hat5_2 : cl5.slots[((2 : Int32)).toNatClampNeg]? = some (.int (own_b0 c1)) := H5.at hin5_2 rfl
  have R6 : ∀ t, oG p e below T1 m 42 #[oR a1, oI 3] [(.int ((own_b0 c1) &&& (255 : Int32)))] t → Steps p.tables e below (s₁.setTop (entryFrame m #[(.ref a1), (.int 1)] 2)) t := by
    intro t k
    refine R4 t ?_
    refine X1.baloadBytes hx (j := (2 : Int32)) (v := (.int (own_b0 c1))) (by rw [e1]; exact Ar5.1) (State.isArrayOf_alike hZ.alike Ar5.2.1) Ar5.2.2 hin5_2 hat5_2 (g := (mkF m 37 #[oR a1, oI 3] [(.int 2), (.ref a1)])) rfl rfl (hb hby own_d21_37) _ ?_
    refine XS.sipush X1.here hx rfl (hb hby own_d21_38) ?_
    refine XS.iand X1.here hx rfl (hb hby own_d21_41) rfl ?_
    exact k
  obtain ⟨T7, X7, e7, st7⟩ := getS2 X1 hx hZ hown (host := "") (Or.inl (oW hw 86 rfl)) Via.refl e1 (SU.2.2.2.1.ext OX.2) (g := (mkF m 42 #[oR a1, oI 3] [(.int ((own_b0 c1) &&& (255 : Int32)))])) rfl (hb hby own_d21_42)
  have R7 : ∀ t, oG p e below T7 m 45 #[oR a1, oI 3] [(.int 0), (.int ((own_b0 c1) &&& (255 : Int32)))] t → Steps p.tables e below (s₁.setTop (entryFrame m #[(.ref a1), (.int 1)] 2)) t := fun t k => R6 t (st7 t k)
  have R8 : ∀ t, oG p e below T7 m 48 #[oR a1, oI 3] [(.int 3), (.ref a1), (.int (((own_b0 c1) &&& (255 : Int32)) <<< ((0 : Int32) &&& 31)))] t → Steps p.tables e below (s₁.setTop (entryFrame m #[(.ref a1), (.int 1)] 2)) t := by
    intro t k
    refine R7 t ?_
    refine XS.ishl X7.here hx rfl (hb hby own_d21_45) rfl ?_
    refine XS.aloadN X7.here hx rfl (hb hby own_d21_46) rfl rfl ?_
    refine XS.iloadN X7.here hx rfl (hb hby own_d21_47) rfl ?_
    exact k
  have hin5_3 : ¬ ((3 : Int32) < 0 ∨ cl5.slots.size ≤ ((3 : Int32)).toNatClampNeg) := inb_of S5 ⟨by decide, by decide⟩
  have hat5_3 : cl5.slots[((3 : Int32)).toNatClampNeg]? = some (.int (own_b1 c1)) := H5.at hin5_3 rfl
  have R9 : ∀ t, oG p e below T7 m 53 #[oR a1, oI 3] [(.int ((own_b1 c1) &&& (255 : Int32))), (.int (((own_b0 c1) &&& (255 : Int32)) <<< ((0 : Int32) &&& 31)))] t → Steps p.tables e below (s₁.setTop (entryFrame m #[(.ref a1), (.int 1)] 2)) t := by
    intro t k
    refine R8 t ?_
    refine X7.baloadBytes hx (j := (3 : Int32)) (v := (.int (own_b1 c1))) (by rw [e7]; exact Ar5.1) (State.isArrayOf_alike hZ.alike Ar5.2.1) Ar5.2.2 hin5_3 hat5_3 (g := (mkF m 48 #[oR a1, oI 3] [(.int 3), (.ref a1), (.int (((own_b0 c1) &&& (255 : Int32)) <<< ((0 : Int32) &&& 31)))])) rfl rfl (hb hby own_d21_48) _ ?_
    refine XS.sipush X7.here hx rfl (hb hby own_d21_49) ?_
    refine XS.iand X7.here hx rfl (hb hby own_d21_52) rfl ?_
    exact k
  obtain ⟨T10, X10, e10, st10⟩ := getS2 X7 hx hZ hown (host := "") (Or.inl (oW hw 87 rfl)) Via.refl e7 (SU.2.2.2.2.1.ext OX.2) (g := (mkF m 53 #[oR a1, oI 3] [(.int ((own_b1 c1) &&& (255 : Int32))), (.int (((own_b0 c1) &&& (255 : Int32)) <<< ((0 : Int32) &&& 31)))])) rfl (hb hby own_d21_53)
  have R10 : ∀ t, oG p e below T10 m 56 #[oR a1, oI 3] [(.int 8), (.int ((own_b1 c1) &&& (255 : Int32))), (.int (((own_b0 c1) &&& (255 : Int32)) <<< ((0 : Int32) &&& 31)))] t → Steps p.tables e below (s₁.setTop (entryFrame m #[(.ref a1), (.int 1)] 2)) t := fun t k => R9 t (st10 t k)
  have R11 : ∀ t, oG p e below T10 m 59 #[oR a1, oI 3] [(.int (((((own_b0 c1) &&& (255 : Int32)) <<< ((0 : Int32) &&& 31)) ||| (((own_b1 c1) &&& (255 : Int32)) <<< ((8 : Int32) &&& 31))).toUInt32.toUInt16.toUInt32.toInt32))] t → Steps p.tables e below (s₁.setTop (entryFrame m #[(.ref a1), (.int 1)] 2)) t := by
    intro t k
    refine R10 t ?_
    refine XS.ishl X10.here hx rfl (hb hby own_d21_56) rfl ?_
    refine XS.ior X10.here hx rfl (hb hby own_d21_57) rfl ?_
    refine XS.i2c X10.here hx rfl (hb hby own_d21_58) rfl ?_
    exact k
  have R12 : ∀ t, oG p e below T10 m 59 #[oR a1, oI 3] [(.int c1)] t → Steps p.tables e below (s₁.setTop (entryFrame m #[(.ref a1), (.int 1)] 2)) t := by rw [(own_chc r : (((((own_b0 c1) &&& (255 : Int32)) <<< ((0 : Int32) &&& 31)) ||| (((own_b1 c1) &&& (255 : Int32)) <<< ((8 : Int32) &&& 31))).toUInt32.toUInt16.toUInt32.toInt32) = c1)] at R11; exact R11
  obtain ⟨fs, hr, hrun, hended, hW, hsame⟩ := X10.leave (v := some (.int c1)) (fun h => by rw [Bd.returns] at h; cases h)
  refine ⟨_, _, R12 _ ?_, hrun, hended, _, _, rfl, ?_, ⟨_, rfl⟩, hW, hsame.mono (by decide) (by decide)⟩
  · exact retN X10 hx (t := .char) Bd.returns (by simp) (hb hby own_d21_59) (by rw [(own_narc r : nar .char c1 = c1)]; exact hr)
  · show Q_rmGC41 Z a1 k1 cz fm c0 c1 h0 n0 _ T10.heap _
    rw [e10]
    exact ⟨rfl, N0, rfl⟩
theorem own_ef_rmU4_20 (m : MethodId) (x0 : Addr) (x1 : Int32) (x2 : Int32) (x3 : Int32) : entryFrame m #[(.ref x0), (.int x1), (.int x2), (.int x3)] 6 = mkF m 0 #[oR x0, oI x1, oI x2, oI x3, .unset, .unset] [] := by first | (simp [entryFrame, mkF, argsToLocals, Value.category]; done) | rfl
theorem own_d27_0 : decode jdk_52_method_7_code 0 = .ok (.getstatic 44, 3) := by decide +kernel
theorem own_d27_3 : decode jdk_52_method_7_code 3 = .ok (.ifCond .ne 16, 3) := by decide +kernel
theorem own_d27_19 : decode jdk_52_method_7_code 19 = .ok (.iload_n 3, 1) := by decide +kernel
theorem own_d27_20 : decode jdk_52_method_7_code 20 = .ok (.ifCond .eq 8, 3) := by decide +kernel
theorem own_d27_28 : decode jdk_52_method_7_code 28 = .ok (.aload_n 0, 1) := by decide +kernel
theorem own_d27_29 : decode jdk_52_method_7_code 29 = .ok (.iload_n 1, 1) := by decide +kernel
theorem own_d27_30 : decode jdk_52_method_7_code 30 = .ok (.invokestatic 71, 3) := by decide +kernel
theorem own_pd17 : parseMethodDescriptor "([BI)C" = some ⟨[(.array .byte), .int], some .char⟩ := by decide +kernel
theorem own_d27_33 : decode jdk_52_method_7_code 33 = .ok (.istore 4, 2) := by decide +kernel
theorem own_d27_35 : decode jdk_52_method_7_code 35 = .ok (.iload 4, 2) := by decide +kernel
theorem own_d27_37 : decode jdk_52_method_7_code 37 = .ok (.invokestatic 75, 3) := by decide +kernel
theorem own_d27_40 : decode jdk_52_method_7_code 40 = .ok (.ifCond .eq 43, 3) := by decide +kernel
theorem own_d27_83 : decode jdk_52_method_7_code 83 = .ok (.iload 4, 2) := by decide +kernel
theorem own_d27_85 : decode jdk_52_method_7_code 85 = .ok (.ireturn, 1) := by decide +kernel
theorem own_d27_43 : decode jdk_52_method_7_code 43 = .ok (.iinc 1 1, 3) := by decide +kernel
theorem own_d27_46 : decode jdk_52_method_7_code 46 = .ok (.iload_n 1, 1) := by decide +kernel
theorem own_d27_47 : decode jdk_52_method_7_code 47 = .ok (.iload_n 2, 1) := by decide +kernel
theorem own_d27_48 : decode jdk_52_method_7_code 48 = .ok (.if_icmp .ge 35, 3) := by decide +kernel
def Q_rmU4_20 (Z : State) (a1 : Addr) (k1 : ClassId) (cz : Int32) (fm : Value) (c0 : Int32) (h0 : Heap) (n0 : Nat) (v : Option Value) (h : Heap) (L : List Loc) : Prop := v = some (.int c0) ∧ Fr n0 L ∧ h = h0
set_option maxRecDepth 65536 in
set_option maxHeartbeats 40000000 in
theorem rmU4_20 (l : Launch) (Z : State) (a0 : Array Value) (hw : oT a0 Z) (ws : List Jvm.Cond) (a1 : Addr) (k1 : ClassId) (cz : Int32) (fm : Value) (c0 : Int32) (h0 : Heap) (n0 : Nat) (Z0 : n0 ≤ h0.size) (SU : own_St Z cz fm) (OX : Old Z n0 h0) (V1 : Arv Z h0 a1 k1 .byte (2 : Int32) [(.int (own_b0 c0)), (.int (own_b1 c0))] (.int 0)) (r0 : own_R c0) :
    oK l Z (⟨"java/lang/StringUTF16", "codePointAt", "([BIIZ)I"⟩ : MethodName) jdk_52_method_7_code 6 (some .int) ws (oM 1 0 0 13) #[(.ref a1), (.int 0), (.int 1), (.int 0)] h0 (Q_rmU4_20 Z a1 k1 cz fm c0 h0 n0) := by
  refine MetFree.of_bodySF (plainFor_of_name own_pn5) hisR ?_
  intro p e s m args below meth c s₁ Bd hml0 hP hK
  obtain ⟨rfl, hZ, hh⟩ := hP
  have hx := Bd.exec
  have hby := Bd.bytes
  have hml : c.maxLocals = 6 := hml0
  have hown : s.vm.findClass "java/lang/StringUTF16" = some m.cls := findClass_of_methodNamed Bd.named
  have hnm := (name_of_methodNamed Bd.named Bd.method).1
  have X0 : Stand p l e (oM 1 0 0 13) s m #[(.ref a1), (.int 0), (.int 1), (.int 0)] below meth c s₁ [] 0 0 := Stand.of_body Bd
  have e0 : s₁.heap = h0 := by rw [← hh, Bd.state]; rfl
  have N0 := Fr.nil n0
  have R0 : ∀ t, oG p e below s₁ m 0 #[oR a1, oI 0, oI 1, oI 0, .unset, .unset] [] t → Steps p.tables e below (s₁.setTop (entryFrame m #[(.ref a1), (.int 0), (.int 1), (.int 0)] 6)) t := fun t k => castTop (own_ef_rmU4_20 m a1 (0 : Int32) (1 : Int32) (0 : Int32)) k
  obtain ⟨T1, X1, e1, st1⟩ := getS2 X0 hx hZ hown (host := "") (Or.inl (oW hw 85 rfl)) Via.refl e0 (SU.2.2.1.ext OX.2) (g := (mkF m 0 #[oR a1, oI 0, oI 1, oI 0, .unset, .unset] [])) rfl (hb hby own_d27_0)
  have R1 : ∀ t, oG p e below T1 m 3 #[oR a1, oI 0, oI 1, oI 0, .unset, .unset] [(.int 1)] t → Steps p.tables e below (s₁.setTop (entryFrame m #[(.ref a1), (.int 0), (.int 1), (.int 0)] 6)) t := fun t k => R0 t (st1 t k)
  have R2 : ∀ t, oG p e below T1 m 30 #[oR a1, oI 0, oI 1, oI 0, .unset, .unset] [(.int 0), (.ref a1)] t → Steps p.tables e below (s₁.setTop (entryFrame m #[(.ref a1), (.int 0), (.int 1), (.int 0)] 6)) t := by
    intro t k
    refine R1 t ?_
    refine XS.ifYes X1.here hx rfl (pc0 := 3) (pc' := 19) rfl (hb hby own_d27_3) rfl ((if0 _ _).trans (feq (by decide : ¬ ((1 : Int32) = (0 : Int32)))).2) (by decide) (by decide) ?_
    refine XS.iloadN X1.here hx rfl (hb hby own_d27_19) rfl ?_
    refine XS.ifYes X1.here hx rfl (pc0 := 20) (pc' := 28) rfl (hb hby own_d27_20) rfl ((if0 _ _).trans (teq (by decide : ((0 : Int32) = (0 : Int32)))).1) (by decide) (by decide) ?_
    show oG p e below T1 m 28 #[oR a1, oI 0, oI 1, oI 0, .unset, .unset] [] _
    refine XS.aloadN X1.here hx rfl (hb hby own_d27_28) rfl rfl ?_
    refine XS.iloadN X1.here hx rfl (hb hby own_d27_29) rfl ?_
    exact k
  obtain ⟨_, _, ⟨T3, L3, k3, n3⟩, -, X3, ⟨Lc3, hQ3, l3, y3, z3⟩, st3⟩ := Jvm.LawKit.callS X1 hx (y := (⟨"java/lang/StringUTF16", "getChar", "([BI)C"⟩ : MethodName)) hown (mvT hZ (oW hw 88 rfl)) (mvT hZ (oW hw 89 rfl)) (mvT hZ (oW hw 21 rfl)) (mvT hZ (oW hw 90 rfl)) (by decide) (backOf (W := 0) (rmGC20 l Z a0 hw [] a1 k1 cz fm c0 h0 n0 Z0 SU OX V1 r0) hZ (oW hw 90 rfl) (oW hw 21 rfl) (by decide) (by decide)) (g := (mkF m 30 #[oR a1, oI 0, oI 1, oI 0, .unset, .unset] [(.int 0), (.ref a1)])) rfl (by rw [hml]; rfl) (argsL := [(.ref a1), (.int 0)]) (rest := []) (lenOf own_pd17 rfl) rfl (by show 2 * 0 + _ ≤ _; exact Nat.le_of_eq rfl) (hb hby own_d27_30) (fun _ _ => ⟨rfl, e1, (by decide : 0 + 0 ≤ _), (by decide : 0 + 0 ≤ _)⟩)
  dsimp only [Pt.U, Pt.locs, Pt.cells, Pt.slots] at X3 l3 y3 z3 st3 hQ3
  subst l3 y3 z3
  obtain ⟨rfl, Nq3, eq3⟩ := hQ3
  have N3 := Fr.app N0 Nq3
  have R3 : ∀ t, oG p e below T3 m 33 #[oR a1, oI 0, oI 1, oI 0, .unset, .unset] [(.int c0)] t → Steps p.tables e below (s₁.setTop (entryFrame m #[(.ref a1), (.int 0), (.int 1), (.int 0)] 6)) t := fun t k => R2 t (st3 t k)
  have R4 : ∀ t, oG p e below T3 m 37 #[oR a1, oI 0, oI 1, oI 0, oI c0, .unset] [(.int c0)] t → Steps p.tables e below (s₁.setTop (entryFrame m #[(.ref a1), (.int 0), (.int 1), (.int 0)] 6)) t := by
    intro t k
    refine R3 t ?_
    refine XS.istore X3.here hx rfl (hb hby own_d27_33) rfl (l' := #[oR a1, oI 0, oI 1, oI 0, oI c0, .unset]) rfl ?_
    refine XS.iload X3.here hx rfl (hb hby own_d27_35) rfl ?_
    exact k
  obtain ⟨_, _, ⟨T5, L5, k5, n5⟩, -, X5, ⟨Lc5, hQ5, l5, y5, z5⟩, st5⟩ := Jvm.LawKit.callS X3 hx (y := (⟨"java/lang/Character", "isHighSurrogate", "(C)Z"⟩ : MethodName)) hown (mvT hZ (oW hw 115 rfl)) (mvT hZ (oW hw 116 rfl)) (mvT hZ (oW hw 117 rfl)) (mvT hZ (oW hw 118 rfl)) (by decide) (backOf (W := 0) (rmHS l Z a0 hw [] c0  h0 n0 Z0 ) hZ (oW hw 118 rfl) (oW hw 117 rfl) (by decide) (by decide)) (g := (mkF m 37 #[oR a1, oI 0, oI 1, oI 0, oI c0, .unset] [(.int c0)])) rfl (by rw [hml]; rfl) (argsL := [(.int c0)]) (rest := []) (lenOf own_pd9 rfl) rfl (by show 2 * 0 + _ ≤ _; exact Nat.le_of_eq rfl) (hb hby own_d27_37) (fun _ _ => ⟨rfl, eq3, (by decide : 0 + 0 ≤ _), (by decide : 0 + 0 ≤ _)⟩)
  dsimp only [Pt.U, Pt.locs, Pt.cells, Pt.slots] at X5 l5 y5 z5 st5 hQ5
  subst l5 y5 z5
  obtain ⟨rfl, Nq5, eq5⟩ := hQ5
  have N5 := Fr.app N3 Nq5
  have R5 : ∀ t, oG p e below T5 m 40 #[oR a1, oI 0, oI 1, oI 0, oI c0, .unset] [(.int (own_hs c0))] t → Steps p.tables e below (s₁.setTop (entryFrame m #[(.ref a1), (.int 0), (.int 1), (.int 0)] 6)) t := fun t k => R4 t (st5 t k)
  by_cases hh1 : own_hs c0 = (0 : Int32)
  · have R6 : ∀ t, oG p e below T5 m 85 #[oR a1, oI 0, oI 1, oI 0, oI c0, .unset] [(.int c0)] t → Steps p.tables e below (s₁.setTop (entryFrame m #[(.ref a1), (.int 0), (.int 1), (.int 0)] 6)) t := by
      intro t k
      refine R5 t ?_
      refine XS.ifYes X5.here hx rfl (pc0 := 40) (pc' := 83) rfl (hb hby own_d27_40) rfl ((if0 _ _).trans (teq hh1).1) (by decide) (by decide) ?_
      refine XS.iload X5.here hx rfl (hb hby own_d27_83) rfl ?_
      exact k
    obtain ⟨fs, hr, hrun, hended, hW, hsame⟩ := X5.leave (v := some (.int c0)) (fun h => by rw [Bd.returns] at h; cases h)
    refine ⟨_, _, R6 _ ?_, hrun, hended, _, _, rfl, ?_, ⟨_, rfl⟩, hW, hsame.mono (by decide) (by decide)⟩
    · exact retOut X5 hx Bd.returns rfl (Or.inl ⟨rfl, Or.inl rfl, _, rfl⟩) (hb hby own_d27_85) hr
    · show Q_rmU4_20 Z a1 k1 cz fm c0 h0 n0 _ T5.heap _
      rw [eq5]
      exact ⟨rfl, N5, rfl⟩
  · have R7 : ∀ t, oG p e below T5 m 85 #[oR a1, oI 1, oI 1, oI 0, oI c0, .unset] [(.int c0)] t → Steps p.tables e below (s₁.setTop (entryFrame m #[(.ref a1), (.int 0), (.int 1), (.int 0)] 6)) t := by
      intro t k
      refine R5 t ?_
      refine XS.ifNo X5.here hx rfl (hb hby own_d27_40) rfl ((if0 _ _).trans (feq hh1).1) ?_
      refine XS.iinc X5.here hx rfl (hb hby own_d27_43) rfl (l' := #[oR a1, oI 1, oI 1, oI 0, oI c0, .unset]) rfl ?_
      refine XS.iloadN X5.here hx rfl (hb hby own_d27_46) rfl ?_
      show oG p e below T5 m 47 #[oR a1, oI 1, oI 1, oI 0, oI c0, .unset] [(.int 1)] _
      refine XS.iloadN X5.here hx rfl (hb hby own_d27_47) rfl ?_
      refine XS.icmpYes X5.here hx rfl (pc0 := 48) (pc' := 83) rfl (hb hby own_d27_48) rfl (flt (by decide : ¬ ((1 : Int32) < (1 : Int32)))).2.1 (by decide) (by decide) ?_
      refine XS.iload X5.here hx rfl (hb hby own_d27_83) rfl ?_
      exact k
    obtain ⟨fs, hr, hrun, hended, hW, hsame⟩ := X5.leave (v := some (.int c0)) (fun h => by rw [Bd.returns] at h; cases h)
    refine ⟨_, _, R7 _ ?_, hrun, hended, _, _, rfl, ?_, ⟨_, rfl⟩, hW, hsame.mono (by decide) (by decide)⟩
    · exact retOut X5 hx Bd.returns rfl (Or.inl ⟨rfl, Or.inl rfl, _, rfl⟩) (hb hby own_d27_85) hr
    · show Q_rmU4_20 Z a1 k1 cz fm c0 h0 n0 _ T5.heap _
      rw [eq5]
      exact ⟨rfl, N5, rfl⟩
theorem own_ef_rmU3_20 (m : MethodId) (x0 : Addr) (x1 : Int32) (x2 : Int32) : entryFrame m #[(.ref x0), (.int x1), (.int x2)] 3 = mkF m 0 #[oR x0, oI x1, oI x2] [] := by first | (simp [entryFrame, mkF, argsToLocals, Value.category]; done) | rfl
theorem own_d26_0 : decode jdk_52_method_8_code 0 = .ok (.aload_n 0, 1) := by decide +kernel
theorem own_d26_1 : decode jdk_52_method_8_code 1 = .ok (.iload_n 1, 1) := by decide +kernel
theorem own_d26_2 : decode jdk_52_method_8_code 2 = .ok (.iload_n 2, 1) := by decide +kernel
theorem own_d26_3 : decode jdk_52_method_8_code 3 = .ok (.iconst 0, 1) := by decide +kernel
theorem own_d26_4 : decode jdk_52_method_8_code 4 = .ok (.invokestatic 88, 3) := by decide +kernel
theorem own_pd22 : parseMethodDescriptor "([BIIZ)I" = some ⟨[(.array .byte), .int, .int, .boolean], some .int⟩ := by decide +kernel
theorem own_d26_7 : decode jdk_52_method_8_code 7 = .ok (.ireturn, 1) := by decide +kernel
def Q_rmU3_20 (Z : State) (a1 : Addr) (k1 : ClassId) (cz : Int32) (fm : Value) (c0 : Int32) (h0 : Heap) (n0 : Nat) (v : Option Value) (h : Heap) (L : List Loc) : Prop := v = some (.int c0) ∧ Fr n0 L ∧ h = h0
set_option maxRecDepth 65536 in
set_option maxHeartbeats 40000000 in
theorem rmU3_20 (l : Launch) (Z : State) (a0 : Array Value) (hw : oT a0 Z) (ws : List Jvm.Cond) (a1 : Addr) (k1 : ClassId) (cz : Int32) (fm : Value) (c0 : Int32) (h0 : Heap) (n0 : Nat) (Z0 : n0 ≤ h0.size) (SU : own_St Z cz fm) (OX : Old Z n0 h0) (V1 : Arv Z h0 a1 k1 .byte (2 : Int32) [(.int (own_b0 c0)), (.int (own_b1 c0))] (.int 0)) (r0 : own_R c0) :
    oK l Z (⟨"java/lang/StringUTF16", "codePointAt", "([BII)I"⟩ : MethodName) jdk_52_method_8_code 3 (some .int) ws (oM 2 0 0 30) #[(.ref a1), (.int 0), (.int 1)] h0 (Q_rmU3_20 Z a1 k1 cz fm c0 h0 n0) := by
  refine MetFree.of_bodySF (plainFor_of_name own_pn5) hisR ?_
  intro p e s m args below meth c s₁ Bd hml0 hP hK
  obtain ⟨rfl, hZ, hh⟩ := hP
  have hx := Bd.exec
  have hby := Bd.bytes
  have hml : c.maxLocals = 3 := hml0
  have hown : s.vm.findClass "java/lang/StringUTF16" = some m.cls := findClass_of_methodNamed Bd.named
  have hnm := (name_of_methodNamed Bd.named Bd.method).1
  have X0 : Stand p l e (oM 2 0 0 30) s m #[(.ref a1), (.int 0), (.int 1)] below meth c s₁ [] 0 0 := Stand.of_body Bd
  have e0 : s₁.heap = h0 := by rw [← hh, Bd.state]; rfl
  have N0 := Fr.nil n0
  have R0 : ∀ t, oG p e below s₁ m 0 #[oR a1, oI 0, oI 1] [] t → Steps p.tables e below (s₁.setTop (entryFrame m #[(.ref a1), (.int 0), (.int 1)] 3)) t := fun t k => castTop (own_ef_rmU3_20 m a1 (0 : Int32) (1 : Int32)) k
  have R1 : ∀ t, oG p e below s₁ m 4 #[oR a1, oI 0, oI 1] [(.int 0), (.int 1), (.int 0), (.ref a1)] t → Steps p.tables e below (s₁.setTop (entryFrame m #[(.ref a1), (.int 0), (.int 1)] 3)) t := by
    intro t k
    refine R0 t ?_
    refine XS.aloadN X0.here hx rfl (hb hby own_d26_0) rfl rfl ?_
    refine XS.iloadN X0.here hx rfl (hb hby own_d26_1) rfl ?_
    refine XS.iloadN X0.here hx rfl (hb hby own_d26_2) rfl ?_
    show oG p e below s₁ m 3 #[oR a1, oI 0, oI 1] [(.int 1), (.int 0), (.ref a1)] _
    refine XS.iconst X0.here hx rfl (hb hby own_d26_3) ?_
    exact k
  obtain ⟨_, _, ⟨T2, L2, k2, n2⟩, -, X2, ⟨Lc2, hQ2, l2, y2, z2⟩, st2⟩ := Jvm.LawKit.callS X0 hx (y := (⟨"java/lang/StringUTF16", "codePointAt", "([BIIZ)I"⟩ : MethodName)) hown (mvT hZ (oW hw 112 rfl)) (mvT hZ (oW hw 113 rfl)) (mvT hZ (oW hw 21 rfl)) (mvT hZ (oW hw 114 rfl)) (by decide) (backOf (W := 0) (rmU4_20 l Z a0 hw [] a1 k1 cz fm c0 h0 n0 Z0 SU OX V1 r0) hZ (oW hw 114 rfl) (oW hw 21 rfl) (by decide) (by decide)) (g := (mkF m 4 #[oR a1, oI 0, oI 1] [(.int 0), (.int 1), (.int 0), (.ref a1)])) rfl (by rw [hml]; rfl) (argsL := [(.ref a1), (.int 0), (.int 1), (.int 0)]) (rest := []) (lenOf own_pd22 rfl) rfl (by show 2 * 0 + _ ≤ _; exact Nat.le_of_eq rfl) (hb hby own_d26_4) (fun _ _ => ⟨rfl, e0, (by decide : 0 + 0 ≤ _), (by decide : 0 + 0 ≤ _)⟩)
  dsimp only [Pt.U, Pt.locs, Pt.cells, Pt.slots] at X2 l2 y2 z2 st2 hQ2
  subst l2 y2 z2
  obtain ⟨rfl, Nq2, eq2⟩ := hQ2
  have N2 := Fr.app N0 Nq2
  have R2 : ∀ t, oG p e below T2 m 7 #[oR a1, oI 0, oI 1] [(.int c0)] t → Steps p.tables e below (s₁.setTop (entryFrame m #[(.ref a1), (.int 0), (.int 1)] 3)) t := fun t k => R1 t (st2 t k)
  obtain ⟨fs, hr, hrun, hended, hW, hsame⟩ := X2.leave (v := some (.int c0)) (fun h => by rw [Bd.returns] at h; cases h)
  refine ⟨_, _, R2 _ ?_, hrun, hended, _, _, rfl, ?_, ⟨_, rfl⟩, hW, hsame.mono (by decide) (by decide)⟩
  · exact retOut X2 hx Bd.returns rfl (Or.inl ⟨rfl, Or.inl rfl, _, rfl⟩) (hb hby own_d26_7) hr
  · show Q_rmU3_20 Z a1 k1 cz fm c0 h0 n0 _ T2.heap _
    rw [eq2]
    exact ⟨rfl, N2, rfl⟩
theorem own_ef_rmU4_40 (m : MethodId) (x0 : Addr) (x1 : Int32) (x2 : Int32) (x3 : Int32) : entryFrame m #[(.ref x0), (.int x1), (.int x2), (.int x3)] 6 = mkF m 0 #[oR x0, oI x1, oI x2, oI x3, .unset, .unset] [] := by first | (simp [entryFrame, mkF, argsToLocals, Value.category]; done) | rfl
def own_cp (c0 c1 : Int32) : Int32 := if own_hs c0 = (0 : Int32) then c0 else if own_ls c1 = (0 : Int32) then c0 else own_tcp c0 c1
theorem own_d27_51 : decode jdk_52_method_7_code 51 = .ok (.iload_n 3, 1) := by decide +kernel
theorem own_d27_52 : decode jdk_52_method_7_code 52 = .ok (.ifCond .eq 8, 3) := by decide +kernel
theorem own_d27_60 : decode jdk_52_method_7_code 60 = .ok (.aload_n 0, 1) := by decide +kernel
theorem own_d27_61 : decode jdk_52_method_7_code 61 = .ok (.iload_n 1, 1) := by decide +kernel
theorem own_d27_62 : decode jdk_52_method_7_code 62 = .ok (.invokestatic 71, 3) := by decide +kernel
theorem own_d27_65 : decode jdk_52_method_7_code 65 = .ok (.istore 5, 2) := by decide +kernel
theorem own_d27_67 : decode jdk_52_method_7_code 67 = .ok (.iload 5, 2) := by decide +kernel
theorem own_d27_69 : decode jdk_52_method_7_code 69 = .ok (.invokestatic 81, 3) := by decide +kernel
theorem own_d27_72 : decode jdk_52_method_7_code 72 = .ok (.ifCond .eq 11, 3) := by decide +kernel
theorem own_d27_75 : decode jdk_52_method_7_code 75 = .ok (.iload 4, 2) := by decide +kernel
theorem own_d27_77 : decode jdk_52_method_7_code 77 = .ok (.iload 5, 2) := by decide +kernel
theorem own_d27_79 : decode jdk_52_method_7_code 79 = .ok (.invokestatic 84, 3) := by decide +kernel
theorem own_pd23 : parseMethodDescriptor "(CC)I" = some ⟨[.char, .char], some .int⟩ := by decide +kernel
theorem own_d27_82 : decode jdk_52_method_7_code 82 = .ok (.ireturn, 1) := by decide +kernel
def Q_rmU4_40 (Z : State) (a1 : Addr) (k1 : ClassId) (cz : Int32) (fm : Value) (c0 c1 : Int32) (h0 : Heap) (n0 : Nat) (v : Option Value) (h : Heap) (L : List Loc) : Prop := v = some (.int (own_cp c0 c1)) ∧ Fr n0 L ∧ h = h0
set_option maxRecDepth 65536 in
set_option maxHeartbeats 40000000 in
theorem rmU4_40 (l : Launch) (Z : State) (a0 : Array Value) (hw : oT a0 Z) (ws : List Jvm.Cond) (a1 : Addr) (k1 : ClassId) (cz : Int32) (fm : Value) (c0 c1 : Int32) (h0 : Heap) (n0 : Nat) (Z0 : n0 ≤ h0.size) (SU : own_St Z cz fm) (OX : Old Z n0 h0) (V1 : Arv Z h0 a1 k1 .byte (4 : Int32) [(.int (own_b0 c0)), (.int (own_b1 c0)), (.int (own_b0 c1)), (.int (own_b1 c1))] (.int 0)) (r0 : own_R c0) (r1 : own_R c1) :
    oK l Z (⟨"java/lang/StringUTF16", "codePointAt", "([BIIZ)I"⟩ : MethodName) jdk_52_method_7_code 6 (some .int) ws (oM 1 0 0 13) #[(.ref a1), (.int 0), (.int 2), (.int 0)] h0 (Q_rmU4_40 Z a1 k1 cz fm c0 c1 h0 n0) := by
  refine MetFree.of_bodySF (plainFor_of_name own_pn5) hisR ?_
  intro p e s m args below meth c s₁ Bd hml0 hP hK
  obtain ⟨rfl, hZ, hh⟩ := hP
  have hx := Bd.exec
  have hby := Bd.bytes
  have hml : c.maxLocals = 6 := hml0
  have hown : s.vm.findClass "java/lang/StringUTF16" = some m.cls := findClass_of_methodNamed Bd.named
  have hnm := (name_of_methodNamed Bd.named Bd.method).1
  have X0 : Stand p l e (oM 1 0 0 13) s m #[(.ref a1), (.int 0), (.int 2), (.int 0)] below meth c s₁ [] 0 0 := Stand.of_body Bd
  have e0 : s₁.heap = h0 := by rw [← hh, Bd.state]; rfl
  have N0 := Fr.nil n0
  have R0 : ∀ t, oG p e below s₁ m 0 #[oR a1, oI 0, oI 2, oI 0, .unset, .unset] [] t → Steps p.tables e below (s₁.setTop (entryFrame m #[(.ref a1), (.int 0), (.int 2), (.int 0)] 6)) t := fun t k => castTop (own_ef_rmU4_40 m a1 (0 : Int32) (2 : Int32) (0 : Int32)) k
  obtain ⟨T1, X1, e1, st1⟩ := getS2 X0 hx hZ hown (host := "") (Or.inl (oW hw 85 rfl)) Via.refl e0 (SU.2.2.1.ext OX.2) (g := (mkF m 0 #[oR a1, oI 0, oI 2, oI 0, .unset, .unset] [])) rfl (hb hby own_d27_0)
  have R1 : ∀ t, oG p e below T1 m 3 #[oR a1, oI 0, oI 2, oI 0, .unset, .unset] [(.int 1)] t → Steps p.tables e below (s₁.setTop (entryFrame m #[(.ref a1), (.int 0), (.int 2), (.int 0)] 6)) t := fun t k => R0 t (st1 t k)
  have R2 : ∀ t, oG p e below T1 m 30 #[oR a1, oI 0, oI 2, oI 0, .unset, .unset] [(.int 0), (.ref a1)] t → Steps p.tables e below (s₁.setTop (entryFrame m #[(.ref a1), (.int 0), (.int 2), (.int 0)] 6)) t := by
    intro t k
    refine R1 t ?_
    refine XS.ifYes X1.here hx rfl (pc0 := 3) (pc' := 19) rfl (hb hby own_d27_3) rfl ((if0 _ _).trans (feq (by decide : ¬ ((1 : Int32) = (0 : Int32)))).2) (by decide) (by decide) ?_
    refine XS.iloadN X1.here hx rfl (hb hby own_d27_19) rfl ?_
    refine XS.ifYes X1.here hx rfl (pc0 := 20) (pc' := 28) rfl (hb hby own_d27_20) rfl ((if0 _ _).trans (teq (by decide : ((0 : Int32) = (0 : Int32)))).1) (by decide) (by decide) ?_
    show oG p e below T1 m 28 #[oR a1, oI 0, oI 2, oI 0, .unset, .unset] [] _
    refine XS.aloadN X1.here hx rfl (hb hby own_d27_28) rfl rfl ?_
    refine XS.iloadN X1.here hx rfl (hb hby own_d27_29) rfl ?_
    exact k
  obtain ⟨_, _, ⟨T3, L3, k3, n3⟩, -, X3, ⟨Lc3, hQ3, l3, y3, z3⟩, st3⟩ := Jvm.LawKit.callS X1 hx (y := (⟨"java/lang/StringUTF16", "getChar", "([BI)C"⟩ : MethodName)) hown (mvT hZ (oW hw 88 rfl)) (mvT hZ (oW hw 89 rfl)) (mvT hZ (oW hw 21 rfl)) (mvT hZ (oW hw 90 rfl)) (by decide) (backOf (W := 0) (rmGC40 l Z a0 hw [] a1 k1 cz fm c0 c1 h0 n0 Z0 SU OX V1 r0) hZ (oW hw 90 rfl) (oW hw 21 rfl) (by decide) (by decide)) (g := (mkF m 30 #[oR a1, oI 0, oI 2, oI 0, .unset, .unset] [(.int 0), (.ref a1)])) rfl (by rw [hml]; rfl) (argsL := [(.ref a1), (.int 0)]) (rest := []) (lenOf own_pd17 rfl) rfl (by show 2 * 0 + _ ≤ _; exact Nat.le_of_eq rfl) (hb hby own_d27_30) (fun _ _ => ⟨rfl, e1, (by decide : 0 + 0 ≤ _), (by decide : 0 + 0 ≤ _)⟩)
  dsimp only [Pt.U, Pt.locs, Pt.cells, Pt.slots] at X3 l3 y3 z3 st3 hQ3
  subst l3 y3 z3
  obtain ⟨rfl, Nq3, eq3⟩ := hQ3
  have N3 := Fr.app N0 Nq3
  have R3 : ∀ t, oG p e below T3 m 33 #[oR a1, oI 0, oI 2, oI 0, .unset, .unset] [(.int c0)] t → Steps p.tables e below (s₁.setTop (entryFrame m #[(.ref a1), (.int 0), (.int 2), (.int 0)] 6)) t := fun t k => R2 t (st3 t k)
  have R4 : ∀ t, oG p e below T3 m 37 #[oR a1, oI 0, oI 2, oI 0, oI c0, .unset] [(.int c0)] t → Steps p.tables e below (s₁.setTop (entryFrame m #[(.ref a1), (.int 0), (.int 2), (.int 0)] 6)) t := by
    intro t k
    refine R3 t ?_
    refine XS.istore X3.here hx rfl (hb hby own_d27_33) rfl (l' := #[oR a1, oI 0, oI 2, oI 0, oI c0, .unset]) rfl ?_
    refine XS.iload X3.here hx rfl (hb hby own_d27_35) rfl ?_
    exact k
  obtain ⟨_, _, ⟨T5, L5, k5, n5⟩, -, X5, ⟨Lc5, hQ5, l5, y5, z5⟩, st5⟩ := Jvm.LawKit.callS X3 hx (y := (⟨"java/lang/Character", "isHighSurrogate", "(C)Z"⟩ : MethodName)) hown (mvT hZ (oW hw 115 rfl)) (mvT hZ (oW hw 116 rfl)) (mvT hZ (oW hw 117 rfl)) (mvT hZ (oW hw 118 rfl)) (by decide) (backOf (W := 0) (rmHS l Z a0 hw [] c0  h0 n0 Z0 ) hZ (oW hw 118 rfl) (oW hw 117 rfl) (by decide) (by decide)) (g := (mkF m 37 #[oR a1, oI 0, oI 2, oI 0, oI c0, .unset] [(.int c0)])) rfl (by rw [hml]; rfl) (argsL := [(.int c0)]) (rest := []) (lenOf own_pd9 rfl) rfl (by show 2 * 0 + _ ≤ _; exact Nat.le_of_eq rfl) (hb hby own_d27_37) (fun _ _ => ⟨rfl, eq3, (by decide : 0 + 0 ≤ _), (by decide : 0 + 0 ≤ _)⟩)
  dsimp only [Pt.U, Pt.locs, Pt.cells, Pt.slots] at X5 l5 y5 z5 st5 hQ5
  subst l5 y5 z5
  obtain ⟨rfl, Nq5, eq5⟩ := hQ5
  have N5 := Fr.app N3 Nq5
  have R5 : ∀ t, oG p e below T5 m 40 #[oR a1, oI 0, oI 2, oI 0, oI c0, .unset] [(.int (own_hs c0))] t → Steps p.tables e below (s₁.setTop (entryFrame m #[(.ref a1), (.int 0), (.int 2), (.int 0)] 6)) t := fun t k => R4 t (st5 t k)
  by_cases hh1 : own_hs c0 = (0 : Int32)
  · have hv : own_cp c0 c1 = c0 := if_pos hh1
    have R6 : ∀ t, oG p e below T5 m 85 #[oR a1, oI 0, oI 2, oI 0, oI c0, .unset] [(.int c0)] t → Steps p.tables e below (s₁.setTop (entryFrame m #[(.ref a1), (.int 0), (.int 2), (.int 0)] 6)) t := by
      intro t k
      refine R5 t ?_
      refine XS.ifYes X5.here hx rfl (pc0 := 40) (pc' := 83) rfl (hb hby own_d27_40) rfl ((if0 _ _).trans (teq hh1).1) (by decide) (by decide) ?_
      refine XS.iload X5.here hx rfl (hb hby own_d27_83) rfl ?_
      exact k
    obtain ⟨fs, hr, hrun, hended, hW, hsame⟩ := X5.leave (v := some (.int c0)) (fun h => by rw [Bd.returns] at h; cases h)
    refine ⟨_, _, R6 _ ?_, hrun, hended, _, _, rfl, ?_, ⟨_, rfl⟩, hW, hsame.mono (by decide) (by decide)⟩
    · exact retOut X5 hx Bd.returns rfl (Or.inl ⟨rfl, Or.inl rfl, _, rfl⟩) (hb hby own_d27_85) hr
    · show Q_rmU4_40 Z a1 k1 cz fm c0 c1 h0 n0 _ T5.heap _
      rw [eq5]
      exact ⟨by rw [hv], N5, rfl⟩
  · have R7 : ∀ t, oG p e below T5 m 62 #[oR a1, oI 1, oI 2, oI 0, oI c0, .unset] [(.int 1), (.ref a1)] t → Steps p.tables e below (s₁.setTop (entryFrame m #[(.ref a1), (.int 0), (.int 2), (.int 0)] 6)) t := by
      intro t k
      refine R5 t ?_
      refine XS.ifNo X5.here hx rfl (hb hby own_d27_40) rfl ((if0 _ _).trans (feq hh1).1) ?_
      refine XS.iinc X5.here hx rfl (hb hby own_d27_43) rfl (l' := #[oR a1, oI 1, oI 2, oI 0, oI c0, .unset]) rfl ?_
      refine XS.iloadN X5.here hx rfl (hb hby own_d27_46) rfl ?_
      show oG p e below T5 m 47 #[oR a1, oI 1, oI 2, oI 0, oI c0, .unset] [(.int 1)] _
      refine XS.iloadN X5.here hx rfl (hb hby own_d27_47) rfl ?_
      refine XS.icmpNo X5.here hx rfl (hb hby own_d27_48) rfl (tlt (by decide : ((1 : Int32) < (2 : Int32)))).2.1 ?_
      refine XS.iloadN X5.here hx rfl (hb hby own_d27_51) rfl ?_
      refine XS.ifYes X5.here hx rfl (pc0 := 52) (pc' := 60) rfl (hb hby own_d27_52) rfl ((if0 _ _).trans (teq (by decide : ((0 : Int32) = (0 : Int32)))).1) (by decide) (by decide) ?_
      show oG p e below T5 m 60 #[oR a1, oI 1, oI 2, oI 0, oI c0, .unset] [] _
      refine XS.aloadN X5.here hx rfl (hb hby own_d27_60) rfl rfl ?_
      refine XS.iloadN X5.here hx rfl (hb hby own_d27_61) rfl ?_
      exact k
    obtain ⟨_, _, ⟨T8, L8, k8, n8⟩, -, X8, ⟨Lc8, hQ8, l8, y8, z8⟩, st8⟩ := Jvm.LawKit.callS X5 hx (y := (⟨"java/lang/StringUTF16", "getChar", "([BI)C"⟩ : MethodName)) hown (mvT hZ (oW hw 88 rfl)) (mvT hZ (oW hw 89 rfl)) (mvT hZ (oW hw 21 rfl)) (mvT hZ (oW hw 90 rfl)) (by decide) (backOf (W := 0) (rmGC41 l Z a0 hw [] a1 k1 cz fm c0 c1 h0 n0 Z0 SU OX V1 r1) hZ (oW hw 90 rfl) (oW hw 21 rfl) (by decide) (by decide)) (g := (mkF m 62 #[oR a1, oI 1, oI 2, oI 0, oI c0, .unset] [(.int 1), (.ref a1)])) rfl (by rw [hml]; rfl) (argsL := [(.ref a1), (.int 1)]) (rest := []) (lenOf own_pd17 rfl) rfl (by show 2 * 0 + _ ≤ _; exact Nat.le_of_eq rfl) (hb hby own_d27_62) (fun _ _ => ⟨rfl, eq5, (by decide : 0 + 0 ≤ _), (by decide : 0 + 0 ≤ _)⟩)
    dsimp only [Pt.U, Pt.locs, Pt.cells, Pt.slots] at X8 l8 y8 z8 st8 hQ8
    subst l8 y8 z8
    obtain ⟨rfl, Nq8, eq8⟩ := hQ8
    have N8 := Fr.app N5 Nq8
    have R8 : ∀ t, oG p e below T8 m 65 #[oR a1, oI 1, oI 2, oI 0, oI c0, .unset] [(.int c1)] t → Steps p.tables e below (s₁.setTop (entryFrame m #[(.ref a1), (.int 0), (.int 2), (.int 0)] 6)) t := fun t k => R7 t (st8 t k)
    have R9 : ∀ t, oG p e below T8 m 69 #[oR a1, oI 1, oI 2, oI 0, oI c0, oI c1] [(.int c1)] t → Steps p.tables e below (s₁.setTop (entryFrame m #[(.ref a1), (.int 0), (.int 2), (.int 0)] 6)) t := by
      intro t k
      refine R8 t ?_
      refine XS.istore X8.here hx rfl (hb hby own_d27_65) rfl (l' := #[oR a1, oI 1, oI 2, oI 0, oI c0, oI c1]) rfl ?_
      refine XS.iload X8.here hx rfl (hb hby own_d27_67) rfl ?_
      exact k
    obtain ⟨_, _, ⟨T10, L10, k10, n10⟩, -, X10, ⟨Lc10, hQ10, l10, y10, z10⟩, st10⟩ := Jvm.LawKit.callS X8 hx (y := (⟨"java/lang/Character", "isLowSurrogate", "(C)Z"⟩ : MethodName)) hown (mvT hZ (oW hw 127 rfl)) (mvT hZ (oW hw 128 rfl)) (mvT hZ (oW hw 117 rfl)) (mvT hZ (oW hw 129 rfl)) (by decide) (backOf (W := 0) (rmLS l Z a0 hw [] c1  h0 n0 Z0 ) hZ (oW hw 129 rfl) (oW hw 117 rfl) (by decide) (by decide)) (g := (mkF m 69 #[oR a1, oI 1, oI 2, oI 0, oI c0, oI c1] [(.int c1)])) rfl (by rw [hml]; rfl) (argsL := [(.int c1)]) (rest := []) (lenOf own_pd9 rfl) rfl (by show 2 * 0 + _ ≤ _; exact Nat.le_of_eq rfl) (hb hby own_d27_69) (fun _ _ => ⟨rfl, eq8, (by decide : 0 + 0 ≤ _), (by decide : 0 + 0 ≤ _)⟩)
    dsimp only [Pt.U, Pt.locs, Pt.cells, Pt.slots] at X10 l10 y10 z10 st10 hQ10
    subst l10 y10 z10
    obtain ⟨rfl, Nq10, eq10⟩ := hQ10
    have N10 := Fr.app N8 Nq10
    have R10 : ∀ t, oG p e below T10 m 72 #[oR a1, oI 1, oI 2, oI 0, oI c0, oI c1] [(.int (own_ls c1))] t → Steps p.tables e below (s₁.setTop (entryFrame m #[(.ref a1), (.int 0), (.int 2), (.int 0)] 6)) t := fun t k => R9 t (st10 t k)
    by_cases hh2 : own_ls c1 = (0 : Int32)
    · have R11 : ∀ t, oG p e below T10 m 85 #[oR a1, oI 1, oI 2, oI 0, oI c0, oI c1] [(.int c0)] t → Steps p.tables e below (s₁.setTop (entryFrame m #[(.ref a1), (.int 0), (.int 2), (.int 0)] 6)) t := by
        intro t k
        refine R10 t ?_
        refine XS.ifYes X10.here hx rfl (pc0 := 72) (pc' := 83) rfl (hb hby own_d27_72) rfl ((if0 _ _).trans (teq hh2).1) (by decide) (by decide) ?_
        refine XS.iload X10.here hx rfl (hb hby own_d27_83) rfl ?_
        exact k
      have hv : own_cp c0 c1 = c0 := (if_neg hh1).trans (if_pos hh2)
      obtain ⟨fs, hr, hrun, hended, hW, hsame⟩ := X10.leave (v := some (.int c0)) (fun h => by rw [Bd.returns] at h; cases h)
      refine ⟨_, _, R11 _ ?_, hrun, hended, _, _, rfl, ?_, ⟨_, rfl⟩, hW, hsame.mono (by decide) (by decide)⟩
      · exact retOut X10 hx Bd.returns rfl (Or.inl ⟨rfl, Or.inl rfl, _, rfl⟩) (hb hby own_d27_85) hr
      · show Q_rmU4_40 Z a1 k1 cz fm c0 c1 h0 n0 _ T10.heap _
        rw [eq10]
        exact ⟨by rw [hv], N10, rfl⟩
    · have R12 : ∀ t, oG p e below T10 m 79 #[oR a1, oI 1, oI 2, oI 0, oI c0, oI c1] [(.int c1), (.int c0)] t → Steps p.tables e below (s₁.setTop (entryFrame m #[(.ref a1), (.int 0), (.int 2), (.int 0)] 6)) t := by
        intro t k
        refine R10 t ?_
        refine XS.ifNo X10.here hx rfl (hb hby own_d27_72) rfl ((if0 _ _).trans (feq hh2).1) ?_
        refine XS.iload X10.here hx rfl (hb hby own_d27_75) rfl ?_
        refine XS.iload X10.here hx rfl (hb hby own_d27_77) rfl ?_
        exact k
      obtain ⟨_, _, ⟨T13, L13, k13, n13⟩, -, X13, ⟨Lc13, hQ13, l13, y13, z13⟩, st13⟩ := Jvm.LawKit.callS X10 hx (y := (⟨"java/lang/Character", "toCodePoint", "(CC)I"⟩ : MethodName)) hown (mvT hZ (oW hw 131 rfl)) (mvT hZ (oW hw 132 rfl)) (mvT hZ (oW hw 117 rfl)) (mvT hZ (oW hw 133 rfl)) (by decide) (backOf (W := 0) (rmTCP l Z a0 hw [] c0 c1  h0 n0 Z0 ) hZ (oW hw 133 rfl) (oW hw 117 rfl) (by decide) (by decide)) (g := (mkF m 79 #[oR a1, oI 1, oI 2, oI 0, oI c0, oI c1] [(.int c1), (.int c0)])) rfl (by rw [hml]; rfl) (argsL := [(.int c0), (.int c1)]) (rest := []) (lenOf own_pd23 rfl) rfl (by show 2 * 0 + _ ≤ _; exact Nat.le_of_eq rfl) (hb hby own_d27_79) (fun _ _ => ⟨rfl, eq10, (by decide : 0 + 0 ≤ _), (by decide : 0 + 0 ≤ _)⟩)
      dsimp only [Pt.U, Pt.locs, Pt.cells, Pt.slots] at X13 l13 y13 z13 st13 hQ13
      subst l13 y13 z13
      obtain ⟨rfl, Nq13, eq13⟩ := hQ13
      have N13 := Fr.app N10 Nq13
      have R13 : ∀ t, oG p e below T13 m 82 #[oR a1, oI 1, oI 2, oI 0, oI c0, oI c1] [(.int (own_tcp c0 c1))] t → Steps p.tables e below (s₁.setTop (entryFrame m #[(.ref a1), (.int 0), (.int 2), (.int 0)] 6)) t := fun t k => R12 t (st13 t k)
      have hv : own_cp c0 c1 = own_tcp c0 c1 := (if_neg hh1).trans (if_neg hh2)
      obtain ⟨fs, hr, hrun, hended, hW, hsame⟩ := X13.leave (v := some (.int (own_tcp c0 c1))) (fun h => by rw [Bd.returns] at h; cases h)
      refine ⟨_, _, R13 _ ?_, hrun, hended, _, _, rfl, ?_, ⟨_, rfl⟩, hW, hsame.mono (by decide) (by decide)⟩
      · exact retOut X13 hx Bd.returns rfl (Or.inl ⟨rfl, Or.inl rfl, _, rfl⟩) (hb hby own_d27_82) hr
      · show Q_rmU4_40 Z a1 k1 cz fm c0 c1 h0 n0 _ T13.heap _
        rw [eq13]
        exact ⟨by rw [hv], N13, rfl⟩
theorem own_ef_rmU3_40 (m : MethodId) (x0 : Addr) (x1 : Int32) (x2 : Int32) : entryFrame m #[(.ref x0), (.int x1), (.int x2)] 3 = mkF m 0 #[oR x0, oI x1, oI x2] [] := by first | (simp [entryFrame, mkF, argsToLocals, Value.category]; done) | rfl
def Q_rmU3_40 (Z : State) (a1 : Addr) (k1 : ClassId) (cz : Int32) (fm : Value) (c0 c1 : Int32) (h0 : Heap) (n0 : Nat) (v : Option Value) (h : Heap) (L : List Loc) : Prop := v = some (.int (own_cp c0 c1)) ∧ Fr n0 L ∧ h = h0
set_option maxRecDepth 65536 in
set_option maxHeartbeats 40000000 in
theorem rmU3_40 (l : Launch) (Z : State) (a0 : Array Value) (hw : oT a0 Z) (ws : List Jvm.Cond) (a1 : Addr) (k1 : ClassId) (cz : Int32) (fm : Value) (c0 c1 : Int32) (h0 : Heap) (n0 : Nat) (Z0 : n0 ≤ h0.size) (SU : own_St Z cz fm) (OX : Old Z n0 h0) (V1 : Arv Z h0 a1 k1 .byte (4 : Int32) [(.int (own_b0 c0)), (.int (own_b1 c0)), (.int (own_b0 c1)), (.int (own_b1 c1))] (.int 0)) (r0 : own_R c0) (r1 : own_R c1) :
    oK l Z (⟨"java/lang/StringUTF16", "codePointAt", "([BII)I"⟩ : MethodName) jdk_52_method_8_code 3 (some .int) ws (oM 2 0 0 30) #[(.ref a1), (.int 0), (.int 2)] h0 (Q_rmU3_40 Z a1 k1 cz fm c0 c1 h0 n0) := by
  refine MetFree.of_bodySF (plainFor_of_name own_pn5) hisR ?_
  intro p e s m args below meth c s₁ Bd hml0 hP hK
  obtain ⟨rfl, hZ, hh⟩ := hP
  have hx := Bd.exec
  have hby := Bd.bytes
  have hml : c.maxLocals = 3 := hml0
  have hown : s.vm.findClass "java/lang/StringUTF16" = some m.cls := findClass_of_methodNamed Bd.named
  have hnm := (name_of_methodNamed Bd.named Bd.method).1
  have X0 : Stand p l e (oM 2 0 0 30) s m #[(.ref a1), (.int 0), (.int 2)] below meth c s₁ [] 0 0 := Stand.of_body Bd
  have e0 : s₁.heap = h0 := by rw [← hh, Bd.state]; rfl
  have N0 := Fr.nil n0
  have R0 : ∀ t, oG p e below s₁ m 0 #[oR a1, oI 0, oI 2] [] t → Steps p.tables e below (s₁.setTop (entryFrame m #[(.ref a1), (.int 0), (.int 2)] 3)) t := fun t k => castTop (own_ef_rmU3_40 m a1 (0 : Int32) (2 : Int32)) k
  have R1 : ∀ t, oG p e below s₁ m 4 #[oR a1, oI 0, oI 2] [(.int 0), (.int 2), (.int 0), (.ref a1)] t → Steps p.tables e below (s₁.setTop (entryFrame m #[(.ref a1), (.int 0), (.int 2)] 3)) t := by
    intro t k
    refine R0 t ?_
    refine XS.aloadN X0.here hx rfl (hb hby own_d26_0) rfl rfl ?_
    refine XS.iloadN X0.here hx rfl (hb hby own_d26_1) rfl ?_
    refine XS.iloadN X0.here hx rfl (hb hby own_d26_2) rfl ?_
    show oG p e below s₁ m 3 #[oR a1, oI 0, oI 2] [(.int 2), (.int 0), (.ref a1)] _
    refine XS.iconst X0.here hx rfl (hb hby own_d26_3) ?_
    exact k
  obtain ⟨_, _, ⟨T2, L2, k2, n2⟩, -, X2, ⟨Lc2, hQ2, l2, y2, z2⟩, st2⟩ := Jvm.LawKit.callS X0 hx (y := (⟨"java/lang/StringUTF16", "codePointAt", "([BIIZ)I"⟩ : MethodName)) hown (mvT hZ (oW hw 112 rfl)) (mvT hZ (oW hw 113 rfl)) (mvT hZ (oW hw 21 rfl)) (mvT hZ (oW hw 114 rfl)) (by decide) (backOf (W := 0) (rmU4_40 l Z a0 hw [] a1 k1 cz fm c0 c1 h0 n0 Z0 SU OX V1 r0 r1) hZ (oW hw 114 rfl) (oW hw 21 rfl) (by decide) (by decide)) (g := (mkF m 4 #[oR a1, oI 0, oI 2] [(.int 0), (.int 2), (.int 0), (.ref a1)])) rfl (by rw [hml]; rfl) (argsL := [(.ref a1), (.int 0), (.int 2), (.int 0)]) (rest := []) (lenOf own_pd22 rfl) rfl (by show 2 * 0 + _ ≤ _; exact Nat.le_of_eq rfl) (hb hby own_d26_4) (fun _ _ => ⟨rfl, e0, (by decide : 0 + 0 ≤ _), (by decide : 0 + 0 ≤ _)⟩)
  dsimp only [Pt.U, Pt.locs, Pt.cells, Pt.slots] at X2 l2 y2 z2 st2 hQ2
  subst l2 y2 z2
  obtain ⟨rfl, Nq2, eq2⟩ := hQ2
  have N2 := Fr.app N0 Nq2
  have R2 : ∀ t, oG p e below T2 m 7 #[oR a1, oI 0, oI 2] [(.int (own_cp c0 c1))] t → Steps p.tables e below (s₁.setTop (entryFrame m #[(.ref a1), (.int 0), (.int 2)] 3)) t := fun t k => R1 t (st2 t k)
  obtain ⟨fs, hr, hrun, hended, hW, hsame⟩ := X2.leave (v := some (.int (own_cp c0 c1))) (fun h => by rw [Bd.returns] at h; cases h)
  refine ⟨_, _, R2 _ ?_, hrun, hended, _, _, rfl, ?_, ⟨_, rfl⟩, hW, hsame.mono (by decide) (by decide)⟩
  · exact retOut X2 hx Bd.returns rfl (Or.inl ⟨rfl, Or.inl rfl, _, rfl⟩) (hb hby own_d26_7) hr
  · show Q_rmU3_40 Z a1 k1 cz fm c0 c1 h0 n0 _ T2.heap _
    rw [eq2]
    exact ⟨rfl, N2, rfl⟩
theorem own_ef_rmU4_41 (m : MethodId) (x0 : Addr) (x1 : Int32) (x2 : Int32) (x3 : Int32) : entryFrame m #[(.ref x0), (.int x1), (.int x2), (.int x3)] 6 = mkF m 0 #[oR x0, oI x1, oI x2, oI x3, .unset, .unset] [] := by first | (simp [entryFrame, mkF, argsToLocals, Value.category]; done) | rfl
def Q_rmU4_41 (Z : State) (a1 : Addr) (k1 : ClassId) (cz : Int32) (fm : Value) (c0 c1 : Int32) (h0 : Heap) (n0 : Nat) (v : Option Value) (h : Heap) (L : List Loc) : Prop := v = some (.int c1) ∧ Fr n0 L ∧ h = h0
set_option maxRecDepth 65536 in
set_option maxHeartbeats 40000000 in
theorem rmU4_41 (l : Launch) (Z : State) (a0 : Array Value) (hw : oT a0 Z) (ws : List Jvm.Cond) (a1 : Addr) (k1 : ClassId) (cz : Int32) (fm : Value) (c0 c1 : Int32) (h0 : Heap) (n0 : Nat) (Z0 : n0 ≤ h0.size) (SU : own_St Z cz fm) (OX : Old Z n0 h0) (V1 : Arv Z h0 a1 k1 .byte (4 : Int32) [(.int (own_b0 c0)), (.int (own_b1 c0)), (.int (own_b0 c1)), (.int (own_b1 c1))] (.int 0)) (r0 : own_R c0) (r1 : own_R c1) :
    oK l Z (⟨"java/lang/StringUTF16", "codePointAt", "([BIIZ)I"⟩ : MethodName) jdk_52_method_7_code 6 (some .int) ws (oM 1 0 0 13) #[(.ref a1), (.int 1), (.int 2), (.int 0)] h0 (Q_rmU4_41 Z a1 k1 cz fm c0 c1 h0 n0) := by
  refine MetFree.of_bodySF (plainFor_of_name own_pn5) hisR ?_
  intro p e s m args below meth c s₁ Bd hml0 hP hK
  obtain ⟨rfl, hZ, hh⟩ := hP
  have hx := Bd.exec
  have hby := Bd.bytes
  have hml : c.maxLocals = 6 := hml0
  have hown : s.vm.findClass "java/lang/StringUTF16" = some m.cls := findClass_of_methodNamed Bd.named
  have hnm := (name_of_methodNamed Bd.named Bd.method).1
  have X0 : Stand p l e (oM 1 0 0 13) s m #[(.ref a1), (.int 1), (.int 2), (.int 0)] below meth c s₁ [] 0 0 := Stand.of_body Bd
  have e0 : s₁.heap = h0 := by rw [← hh, Bd.state]; rfl
  have N0 := Fr.nil n0
  have R0 : ∀ t, oG p e below s₁ m 0 #[oR a1, oI 1, oI 2, oI 0, .unset, .unset] [] t → Steps p.tables e below (s₁.setTop (entryFrame m #[(.ref a1), (.int 1), (.int 2), (.int 0)] 6)) t := fun t k => castTop (own_ef_rmU4_41 m a1 (1 : Int32) (2 : Int32) (0 : Int32)) k
  obtain ⟨T1, X1, e1, st1⟩ := getS2 X0 hx hZ hown (host := "") (Or.inl (oW hw 85 rfl)) Via.refl e0 (SU.2.2.1.ext OX.2) (g := (mkF m 0 #[oR a1, oI 1, oI 2, oI 0, .unset, .unset] [])) rfl (hb hby own_d27_0)
  have R1 : ∀ t, oG p e below T1 m 3 #[oR a1, oI 1, oI 2, oI 0, .unset, .unset] [(.int 1)] t → Steps p.tables e below (s₁.setTop (entryFrame m #[(.ref a1), (.int 1), (.int 2), (.int 0)] 6)) t := fun t k => R0 t (st1 t k)
  have R2 : ∀ t, oG p e below T1 m 30 #[oR a1, oI 1, oI 2, oI 0, .unset, .unset] [(.int 1), (.ref a1)] t → Steps p.tables e below (s₁.setTop (entryFrame m #[(.ref a1), (.int 1), (.int 2), (.int 0)] 6)) t := by
    intro t k
    refine R1 t ?_
    refine XS.ifYes X1.here hx rfl (pc0 := 3) (pc' := 19) rfl (hb hby own_d27_3) rfl ((if0 _ _).trans (feq (by decide : ¬ ((1 : Int32) = (0 : Int32)))).2) (by decide) (by decide) ?_
    refine XS.iloadN X1.here hx rfl (hb hby own_d27_19) rfl ?_
    refine XS.ifYes X1.here hx rfl (pc0 := 20) (pc' := 28) rfl (hb hby own_d27_20) rfl ((if0 _ _).trans (teq (by decide : ((0 : Int32) = (0 : Int32)))).1) (by decide) (by decide) ?_
    show oG p e below T1 m 28 #[oR a1, oI 1, oI 2, oI 0, .unset, .unset] [] _
    refine XS.aloadN X1.here hx rfl (hb hby own_d27_28) rfl rfl ?_
    refine XS.iloadN X1.here hx rfl (hb hby own_d27_29) rfl ?_
    exact k
  obtain ⟨_, _, ⟨T3, L3, k3, n3⟩, -, X3, ⟨Lc3, hQ3, l3, y3, z3⟩, st3⟩ := Jvm.LawKit.callS X1 hx (y := (⟨"java/lang/StringUTF16", "getChar", "([BI)C"⟩ : MethodName)) hown (mvT hZ (oW hw 88 rfl)) (mvT hZ (oW hw 89 rfl)) (mvT hZ (oW hw 21 rfl)) (mvT hZ (oW hw 90 rfl)) (by decide) (backOf (W := 0) (rmGC41 l Z a0 hw [] a1 k1 cz fm c0 c1 h0 n0 Z0 SU OX V1 r1) hZ (oW hw 90 rfl) (oW hw 21 rfl) (by decide) (by decide)) (g := (mkF m 30 #[oR a1, oI 1, oI 2, oI 0, .unset, .unset] [(.int 1), (.ref a1)])) rfl (by rw [hml]; rfl) (argsL := [(.ref a1), (.int 1)]) (rest := []) (lenOf own_pd17 rfl) rfl (by show 2 * 0 + _ ≤ _; exact Nat.le_of_eq rfl) (hb hby own_d27_30) (fun _ _ => ⟨rfl, e1, (by decide : 0 + 0 ≤ _), (by decide : 0 + 0 ≤ _)⟩)
  dsimp only [Pt.U, Pt.locs, Pt.cells, Pt.slots] at X3 l3 y3 z3 st3 hQ3
  subst l3 y3 z3
  obtain ⟨rfl, Nq3, eq3⟩ := hQ3
  have N3 := Fr.app N0 Nq3
  have R3 : ∀ t, oG p e below T3 m 33 #[oR a1, oI 1, oI 2, oI 0, .unset, .unset] [(.int c1)] t → Steps p.tables e below (s₁.setTop (entryFrame m #[(.ref a1), (.int 1), (.int 2), (.int 0)] 6)) t := fun t k => R2 t (st3 t k)
  have R4 : ∀ t, oG p e below T3 m 37 #[oR a1, oI 1, oI 2, oI 0, oI c1, .unset] [(.int c1)] t → Steps p.tables e below (s₁.setTop (entryFrame m #[(.ref a1), (.int 1), (.int 2), (.int 0)] 6)) t := by
    intro t k
    refine R3 t ?_
    refine XS.istore X3.here hx rfl (hb hby own_d27_33) rfl (l' := #[oR a1, oI 1, oI 2, oI 0, oI c1, .unset]) rfl ?_
    refine XS.iload X3.here hx rfl (hb hby own_d27_35) rfl ?_
    exact k
  obtain ⟨_, _, ⟨T5, L5, k5, n5⟩, -, X5, ⟨Lc5, hQ5, l5, y5, z5⟩, st5⟩ := Jvm.LawKit.callS X3 hx (y := (⟨"java/lang/Character", "isHighSurrogate", "(C)Z"⟩ : MethodName)) hown (mvT hZ (oW hw 115 rfl)) (mvT hZ (oW hw 116 rfl)) (mvT hZ (oW hw 117 rfl)) (mvT hZ (oW hw 118 rfl)) (by decide) (backOf (W := 0) (rmHS l Z a0 hw [] c1  h0 n0 Z0 ) hZ (oW hw 118 rfl) (oW hw 117 rfl) (by decide) (by decide)) (g := (mkF m 37 #[oR a1, oI 1, oI 2, oI 0, oI c1, .unset] [(.int c1)])) rfl (by rw [hml]; rfl) (argsL := [(.int c1)]) (rest := []) (lenOf own_pd9 rfl) rfl (by show 2 * 0 + _ ≤ _; exact Nat.le_of_eq rfl) (hb hby own_d27_37) (fun _ _ => ⟨rfl, eq3, (by decide : 0 + 0 ≤ _), (by decide : 0 + 0 ≤ _)⟩)
  dsimp only [Pt.U, Pt.locs, Pt.cells, Pt.slots] at X5 l5 y5 z5 st5 hQ5
  subst l5 y5 z5
  obtain ⟨rfl, Nq5, eq5⟩ := hQ5
  have N5 := Fr.app N3 Nq5
  have R5 : ∀ t, oG p e below T5 m 40 #[oR a1, oI 1, oI 2, oI 0, oI c1, .unset] [(.int (own_hs c1))] t → Steps p.tables e below (s₁.setTop (entryFrame m #[(.ref a1), (.int 1), (.int 2), (.int 0)] 6)) t := fun t k => R4 t (st5 t k)
  by_cases hh1 : own_hs c1 = (0 : Int32)
  · have R6 : ∀ t, oG p e below T5 m 85 #[oR a1, oI 1, oI 2, oI 0, oI c1, .unset] [(.int c1)] t → Steps p.tables e below (s₁.setTop (entryFrame m #[(.ref a1), (.int 1), (.int 2), (.int 0)] 6)) t := by
      intro t k
      refine R5 t ?_
      refine XS.ifYes X5.here hx rfl (pc0 := 40) (pc' := 83) rfl (hb hby own_d27_40) rfl ((if0 _ _).trans (teq hh1).1) (by decide) (by decide) ?_
      refine XS.iload X5.here hx rfl (hb hby own_d27_83) rfl ?_
      exact k
    obtain ⟨fs, hr, hrun, hended, hW, hsame⟩ := X5.leave (v := some (.int c1)) (fun h => by rw [Bd.returns] at h; cases h)
    refine ⟨_, _, R6 _ ?_, hrun, hended, _, _, rfl, ?_, ⟨_, rfl⟩, hW, hsame.mono (by decide) (by decide)⟩
    · exact retOut X5 hx Bd.returns rfl (Or.inl ⟨rfl, Or.inl rfl, _, rfl⟩) (hb hby own_d27_85) hr
    · show Q_rmU4_41 Z a1 k1 cz fm c0 c1 h0 n0 _ T5.heap _
      rw [eq5]
      exact ⟨rfl, N5, rfl⟩
  · have R7 : ∀ t, oG p e below T5 m 85 #[oR a1, oI 2, oI 2, oI 0, oI c1, .unset] [(.int c1)] t → Steps p.tables e below (s₁.setTop (entryFrame m #[(.ref a1), (.int 1), (.int 2), (.int 0)] 6)) t := by
      intro t k
      refine R5 t ?_
      refine XS.ifNo X5.here hx rfl (hb hby own_d27_40) rfl ((if0 _ _).trans (feq hh1).1) ?_
      refine XS.iinc X5.here hx rfl (hb hby own_d27_43) rfl (l' := #[oR a1, oI 2, oI 2, oI 0, oI c1, .unset]) rfl ?_
      refine XS.iloadN X5.here hx rfl (hb hby own_d27_46) rfl ?_
      show oG p e below T5 m 47 #[oR a1, oI 2, oI 2, oI 0, oI c1, .unset] [(.int 2)] _
      refine XS.iloadN X5.here hx rfl (hb hby own_d27_47) rfl ?_
      refine XS.icmpYes X5.here hx rfl (pc0 := 48) (pc' := 83) rfl (hb hby own_d27_48) rfl (flt (by decide : ¬ ((2 : Int32) < (2 : Int32)))).2.1 (by decide) (by decide) ?_
      refine XS.iload X5.here hx rfl (hb hby own_d27_83) rfl ?_
      exact k
    obtain ⟨fs, hr, hrun, hended, hW, hsame⟩ := X5.leave (v := some (.int c1)) (fun h => by rw [Bd.returns] at h; cases h)
    refine ⟨_, _, R7 _ ?_, hrun, hended, _, _, rfl, ?_, ⟨_, rfl⟩, hW, hsame.mono (by decide) (by decide)⟩
    · exact retOut X5 hx Bd.returns rfl (Or.inl ⟨rfl, Or.inl rfl, _, rfl⟩) (hb hby own_d27_85) hr
    · show Q_rmU4_41 Z a1 k1 cz fm c0 c1 h0 n0 _ T5.heap _
      rw [eq5]
      exact ⟨rfl, N5, rfl⟩
theorem own_ef_rmU3_41 (m : MethodId) (x0 : Addr) (x1 : Int32) (x2 : Int32) : entryFrame m #[(.ref x0), (.int x1), (.int x2)] 3 = mkF m 0 #[oR x0, oI x1, oI x2] [] := by first | (simp [entryFrame, mkF, argsToLocals, Value.category]; done) | rfl
def Q_rmU3_41 (Z : State) (a1 : Addr) (k1 : ClassId) (cz : Int32) (fm : Value) (c0 c1 : Int32) (h0 : Heap) (n0 : Nat) (v : Option Value) (h : Heap) (L : List Loc) : Prop := v = some (.int c1) ∧ Fr n0 L ∧ h = h0
set_option maxRecDepth 65536 in
set_option maxHeartbeats 40000000 in
theorem rmU3_41 (l : Launch) (Z : State) (a0 : Array Value) (hw : oT a0 Z) (ws : List Jvm.Cond) (a1 : Addr) (k1 : ClassId) (cz : Int32) (fm : Value) (c0 c1 : Int32) (h0 : Heap) (n0 : Nat) (Z0 : n0 ≤ h0.size) (SU : own_St Z cz fm) (OX : Old Z n0 h0) (V1 : Arv Z h0 a1 k1 .byte (4 : Int32) [(.int (own_b0 c0)), (.int (own_b1 c0)), (.int (own_b0 c1)), (.int (own_b1 c1))] (.int 0)) (r0 : own_R c0) (r1 : own_R c1) :
    oK l Z (⟨"java/lang/StringUTF16", "codePointAt", "([BII)I"⟩ : MethodName) jdk_52_method_8_code 3 (some .int) ws (oM 2 0 0 30) #[(.ref a1), (.int 1), (.int 2)] h0 (Q_rmU3_41 Z a1 k1 cz fm c0 c1 h0 n0) := by
  refine MetFree.of_bodySF (plainFor_of_name own_pn5) hisR ?_
  intro p e s m args below meth c s₁ Bd hml0 hP hK
  obtain ⟨rfl, hZ, hh⟩ := hP
  have hx := Bd.exec
  have hby := Bd.bytes
  have hml : c.maxLocals = 3 := hml0
  have hown : s.vm.findClass "java/lang/StringUTF16" = some m.cls := findClass_of_methodNamed Bd.named
  have hnm := (name_of_methodNamed Bd.named Bd.method).1
  have X0 : Stand p l e (oM 2 0 0 30) s m #[(.ref a1), (.int 1), (.int 2)] below meth c s₁ [] 0 0 := Stand.of_body Bd
  have e0 : s₁.heap = h0 := by rw [← hh, Bd.state]; rfl
  have N0 := Fr.nil n0
  have R0 : ∀ t, oG p e below s₁ m 0 #[oR a1, oI 1, oI 2] [] t → Steps p.tables e below (s₁.setTop (entryFrame m #[(.ref a1), (.int 1), (.int 2)] 3)) t := fun t k => castTop (own_ef_rmU3_41 m a1 (1 : Int32) (2 : Int32)) k
  have R1 : ∀ t, oG p e below s₁ m 4 #[oR a1, oI 1, oI 2] [(.int 0), (.int 2), (.int 1), (.ref a1)] t → Steps p.tables e below (s₁.setTop (entryFrame m #[(.ref a1), (.int 1), (.int 2)] 3)) t := by
    intro t k
    refine R0 t ?_
    refine XS.aloadN X0.here hx rfl (hb hby own_d26_0) rfl rfl ?_
    refine XS.iloadN X0.here hx rfl (hb hby own_d26_1) rfl ?_
    refine XS.iloadN X0.here hx rfl (hb hby own_d26_2) rfl ?_
    show oG p e below s₁ m 3 #[oR a1, oI 1, oI 2] [(.int 2), (.int 1), (.ref a1)] _
    refine XS.iconst X0.here hx rfl (hb hby own_d26_3) ?_
    exact k
  obtain ⟨_, _, ⟨T2, L2, k2, n2⟩, -, X2, ⟨Lc2, hQ2, l2, y2, z2⟩, st2⟩ := Jvm.LawKit.callS X0 hx (y := (⟨"java/lang/StringUTF16", "codePointAt", "([BIIZ)I"⟩ : MethodName)) hown (mvT hZ (oW hw 112 rfl)) (mvT hZ (oW hw 113 rfl)) (mvT hZ (oW hw 21 rfl)) (mvT hZ (oW hw 114 rfl)) (by decide) (backOf (W := 0) (rmU4_41 l Z a0 hw [] a1 k1 cz fm c0 c1 h0 n0 Z0 SU OX V1 r0 r1) hZ (oW hw 114 rfl) (oW hw 21 rfl) (by decide) (by decide)) (g := (mkF m 4 #[oR a1, oI 1, oI 2] [(.int 0), (.int 2), (.int 1), (.ref a1)])) rfl (by rw [hml]; rfl) (argsL := [(.ref a1), (.int 1), (.int 2), (.int 0)]) (rest := []) (lenOf own_pd22 rfl) rfl (by show 2 * 0 + _ ≤ _; exact Nat.le_of_eq rfl) (hb hby own_d26_4) (fun _ _ => ⟨rfl, e0, (by decide : 0 + 0 ≤ _), (by decide : 0 + 0 ≤ _)⟩)
  dsimp only [Pt.U, Pt.locs, Pt.cells, Pt.slots] at X2 l2 y2 z2 st2 hQ2
  subst l2 y2 z2
  obtain ⟨rfl, Nq2, eq2⟩ := hQ2
  have N2 := Fr.app N0 Nq2
  have R2 : ∀ t, oG p e below T2 m 7 #[oR a1, oI 1, oI 2] [(.int c1)] t → Steps p.tables e below (s₁.setTop (entryFrame m #[(.ref a1), (.int 1), (.int 2)] 3)) t := fun t k => R1 t (st2 t k)
  obtain ⟨fs, hr, hrun, hended, hW, hsame⟩ := X2.leave (v := some (.int c1)) (fun h => by rw [Bd.returns] at h; cases h)
  refine ⟨_, _, R2 _ ?_, hrun, hended, _, _, rfl, ?_, ⟨_, rfl⟩, hW, hsame.mono (by decide) (by decide)⟩
  · exact retOut X2 hx Bd.returns rfl (Or.inl ⟨rfl, Or.inl rfl, _, rfl⟩) (hb hby own_d26_7) hr
  · show Q_rmU3_41 Z a1 k1 cz fm c0 c1 h0 n0 _ T2.heap _
    rw [eq2]
    exact ⟨rfl, N2, rfl⟩
theorem own_cp_lat {c0 c1 : Int32} (t : ¬ (255 : Int32) < c0) : own_cp c0 c1 = c0 := by
  have q : own_hs c0 = (0 : Int32) := by
    unfold own_hs
    have e1 : (255 : Int32).toInt = 255 := by decide
    have e2 : (55296 : Int32).toInt = 55296 := by decide
    rw [Int32.lt_iff_toInt_lt] at t
    rw [if_pos (by rw [Int32.lt_iff_toInt_lt]; omega)]
  exact if_pos q
theorem own_ef_rmCPA100 (m : MethodId) (x0 : Addr) (x1 : Int32) : entryFrame m #[(.ref x0), (.int x1)] 3 = mkF m 0 #[oR x0, oI x1, .unset] [] := by first | (simp [entryFrame, mkF, argsToLocals, Value.category]; done) | rfl
theorem own_d22_0 : decode jdk_42_method_57_code 0 = .ok (.aload_n 0, 1) := by decide +kernel
theorem own_d22_1 : decode jdk_42_method_57_code 1 = .ok (.invokevirtual 492, 3) := by decide +kernel
theorem own_pd18 : parseMethodDescriptor "()Z" = some ⟨[], some .boolean⟩ := by decide +kernel
theorem own_d22_4 : decode jdk_42_method_57_code 4 = .ok (.ifCond .eq 23, 3) := by decide +kernel
theorem own_d22_7 : decode jdk_42_method_57_code 7 = .ok (.iload_n 1, 1) := by decide +kernel
theorem own_d22_8 : decode jdk_42_method_57_code 8 = .ok (.aload_n 0, 1) := by decide +kernel
theorem own_d22_9 : decode jdk_42_method_57_code 9 = .ok (.getfield 9, 3) := by decide +kernel
theorem own_d22_12 : decode jdk_42_method_57_code 12 = .ok (.arraylength, 1) := by decide +kernel
theorem own_d22_13 : decode jdk_42_method_57_code 13 = .ok (.invokestatic 499, 3) := by decide +kernel
theorem own_pd19 : parseMethodDescriptor "(II)V" = some ⟨[.int, .int], none⟩ := by decide +kernel
theorem own_d22_16 : decode jdk_42_method_57_code 16 = .ok (.aload_n 0, 1) := by decide +kernel
theorem own_d22_17 : decode jdk_42_method_57_code 17 = .ok (.getfield 9, 3) := by decide +kernel
theorem own_d22_20 : decode jdk_42_method_57_code 20 = .ok (.iload_n 1, 1) := by decide +kernel
theorem own_d22_21 : decode jdk_42_method_57_code 21 = .ok (.baload, 1) := by decide +kernel
theorem own_d22_22 : decode jdk_42_method_57_code 22 = .ok (.sipush 255, 3) := by decide +kernel
theorem own_d22_25 : decode jdk_42_method_57_code 25 = .ok (.iand, 1) := by decide +kernel
theorem own_d22_26 : decode jdk_42_method_57_code 26 = .ok (.ireturn, 1) := by decide +kernel
def Q_rmCPA100 (Z : State) (a1 b1 : Addr) (k1 : ClassId) (cz : Int32) (fm : Value) (c0 : Int32) (h0 : Heap) (n0 : Nat) (v : Option Value) (h : Heap) (L : List Loc) : Prop := v = some (.int c0) ∧ Fr n0 L ∧ h = h0
set_option maxRecDepth 65536 in
set_option maxHeartbeats 40000000 in
theorem rmCPA100 (l : Launch) (Z : State) (a0 : Array Value) (hw : oT a0 Z) (ws : List Jvm.Cond) (a1 b1 : Addr) (k1 : ClassId) (cz : Int32) (fm : Value) (c0 : Int32) (h0 : Heap) (n0 : Nat) (Z0 : n0 ≤ h0.size) (SU : own_St Z cz fm) (OX : Old Z n0 h0) (E1 : Exa Z h0 a1 "java/lang/String") (C1 : Fld Z h0 a1 "java/lang/String" "coder" "B" (.int 0)) (F1 : Fld Z h0 a1 "java/lang/String" "value" "[B" (.ref b1)) (V1 : Arv Z h0 b1 k1 .byte (1 : Int32) [(.int (own_l c0))] (.int 0)) (r0 : own_R c0) (t0 : ¬ (255 : Int32) < c0) :
    oK l Z (⟨"java/lang/String", "codePointAt", "(I)I"⟩ : MethodName) jdk_42_method_57_code 3 (some .int) ws (oM 3 0 0 44) #[(.ref a1), (.int 0)] h0 (Q_rmCPA100 Z a1 b1 k1 cz fm c0 h0 n0) := by
  refine MetFree.of_bodySF (plainFor_of_name own_pn3) hisR ?_
  intro p e s m args below meth c s₁ Bd hml0 hP hK
  obtain ⟨rfl, hZ, hh⟩ := hP
  have hx := Bd.exec
  have hby := Bd.bytes
  have hml : c.maxLocals = 3 := hml0
  have hown : s.vm.findClass "java/lang/String" = some m.cls := findClass_of_methodNamed Bd.named
  have hnm := (name_of_methodNamed Bd.named Bd.method).1
  have X0 : Stand p l e (oM 3 0 0 44) s m #[(.ref a1), (.int 0)] below meth c s₁ [] 0 0 := Stand.of_body Bd
  have e0 : s₁.heap = h0 := by rw [← hh, Bd.state]; rfl
  have N0 := Fr.nil n0
  have R0 : ∀ t, oG p e below s₁ m 0 #[oR a1, oI 0, .unset] [] t → Steps p.tables e below (s₁.setTop (entryFrame m #[(.ref a1), (.int 0)] 3)) t := fun t k => castTop (own_ef_rmCPA100 m a1 (0 : Int32)) k
  have R1 : ∀ t, oG p e below s₁ m 1 #[oR a1, oI 0, .unset] [(.ref a1)] t → Steps p.tables e below (s₁.setTop (entryFrame m #[(.ref a1), (.int 0)] 3)) t := by
    intro t k
    refine R0 t ?_
    refine XS.aloadN X0.here hx rfl (hb hby own_d22_0) rfl rfl ?_
    exact k
  obtain ⟨cq2, kq2, q2a, q2b, q2c⟩ := isOf hZ e0 E1
  obtain ⟨_, _, ⟨T2, L2, k2, n2⟩, -, X2, ⟨Lc2, hQ2, l2, y2, z2⟩, st2⟩ := X0.virtualBack hx (y := (⟨"java/lang/String", "isLatin1", "()Z"⟩ : MethodName)) (z := (⟨"java/lang/String", "isLatin1", "()Z"⟩ : MethodName)) hown (mvT hZ (oW hw 96 rfl)) (mvT hZ (oW hw 97 rfl)) (notFace_of_selects (args := #[]) (mvT hZ (oW hw 99 rfl))) (mvT hZ (oW hw 99 rfl)) (mvT hZ (oW hw 98 rfl)) (by decide) (backOf (W := 0) (rmLat0 l Z a0 hw [] a1 cz fm h0 n0 Z0 SU OX C1) hZ (oW hw 100 rfl) (oW hw 6 rfl) (by decide) (by decide)) q2a q2c (g := (mkF m 1 #[oR a1, oI 0, .unset] [(.ref a1)])) rfl (by rw [hml]; rfl) (Steps.refl _) (argsL := []) (rest := []) (lenOf own_pd18 rfl) rfl (by show 2 * 0 + _ ≤ _; exact Nat.le_of_eq rfl) (hb hby own_d22_1) (fun _ _ => ⟨rfl, e0, (by decide : 0 + 0 ≤ _), (by decide : 0 + 0 ≤ _)⟩)
  dsimp only [Pt.U, Pt.locs, Pt.cells, Pt.slots] at X2 l2 y2 z2 st2 hQ2
  subst l2 y2 z2
  obtain ⟨rfl, Nq2, eq2⟩ := hQ2
  have N2 := Fr.app N0 Nq2
  have R2 : ∀ t, oG p e below T2 m 4 #[oR a1, oI 0, .unset] [(.int 1)] t → Steps p.tables e below (s₁.setTop (entryFrame m #[(.ref a1), (.int 0)] 3)) t := fun t k => R1 t (st2.trans k)
  have R3 : ∀ t, oG p e below T2 m 9 #[oR a1, oI 0, .unset] [(.ref a1), (.int 0)] t → Steps p.tables e below (s₁.setTop (entryFrame m #[(.ref a1), (.int 0)] 3)) t := by
    intro t k
    refine R2 t ?_
    refine XS.ifNo X2.here hx rfl (hb hby own_d22_4) rfl ((if0 _ _).trans (feq (by decide : ¬ ((1 : Int32) = (0 : Int32)))).1) ?_
    refine XS.iloadN X2.here hx rfl (hb hby own_d22_7) rfl ?_
    refine XS.aloadN X2.here hx rfl (hb hby own_d22_8) rfl rfl ?_
    exact k
  obtain ⟨T4, X4, e4, st4⟩ := getF X2 hx hZ hown (host := "") (Or.inl (oW hw 32 rfl)) Via.refl eq2 F1 (g := (mkF m 9 #[oR a1, oI 0, .unset] [(.ref a1), (.int 0)])) rfl rfl (hb hby own_d22_9)
  have R4 : ∀ t, oG p e below T4 m 12 #[oR a1, oI 0, .unset] [(.ref b1), (.int 0)] t → Steps p.tables e below (s₁.setTop (entryFrame m #[(.ref a1), (.int 0)] 3)) t := fun t k => R3 t (st4 t k)
  obtain ⟨cl5, Ar5, q5, S5, N5', H5, G5⟩ := id V1
  have R6 : ∀ t, oG p e below T4 m 13 #[oR a1, oI 0, .unset] [(.int 1), (.int 0)] t → Steps p.tables e below (s₁.setTop (entryFrame m #[(.ref a1), (.int 0)] 3)) t := by
    intro t k
    refine R4 t ?_
    refine X4.arraylength hx (by rw [e4]; exact Ar5.1) (State.isArrayOf_alike hZ.alike Ar5.2.1) (g := (mkF m 12 #[oR a1, oI 0, .unset] [(.ref b1), (.int 0)])) rfl rfl (hb hby own_d22_12) _ ?_
    rw [len_of S5 N5']
    exact k
  obtain ⟨_, _, ⟨T7, L7, k7, n7⟩, -, X7, ⟨Lc7, hQ7, l7, y7, z7⟩, st7⟩ := Jvm.LawKit.callS X4 hx (y := (⟨"java/lang/String", "checkIndex", "(II)V"⟩ : MethodName)) hown (mvT hZ (oW hw 101 rfl)) (mvT hZ (oW hw 102 rfl)) (mvT hZ (oW hw 6 rfl)) (mvT hZ (oW hw 103 rfl)) (by decide) (backOf (W := 0) (rmSCk l Z a0 hw [] (0 : Int32) (1 : Int32) cz fm h0 n0 Z0 SU OX (by decide) (by decide)) hZ (oW hw 103 rfl) (oW hw 6 rfl) (by decide) (by decide)) (g := (mkF m 13 #[oR a1, oI 0, .unset] [(.int 1), (.int 0)])) rfl (by rw [hml]; rfl) (argsL := [(.int 0), (.int 1)]) (rest := []) (lenOf own_pd19 rfl) rfl (by show 2 * 0 + _ ≤ _; exact Nat.le_of_eq rfl) (hb hby own_d22_13) (fun _ _ => ⟨rfl, e4, (by decide : 0 + 0 ≤ _), (by decide : 0 + 0 ≤ _)⟩)
  dsimp only [Pt.U, Pt.locs, Pt.cells, Pt.slots] at X7 l7 y7 z7 st7 hQ7
  subst l7 y7 z7
  obtain ⟨rfl, Nq7, eq7⟩ := hQ7
  have N7 := Fr.app N2 Nq7
  have R7 : ∀ t, oG p e below T7 m 16 #[oR a1, oI 0, .unset] [] t → Steps p.tables e below (s₁.setTop (entryFrame m #[(.ref a1), (.int 0)] 3)) t := fun t k => R6 t (st7 t k)
  have R8 : ∀ t, oG p e below T7 m 17 #[oR a1, oI 0, .unset] [(.ref a1)] t → Steps p.tables e below (s₁.setTop (entryFrame m #[(.ref a1), (.int 0)] 3)) t := by
    intro t k
    refine R7 t ?_
    refine XS.aloadN X7.here hx rfl (hb hby own_d22_16) rfl rfl ?_
    exact k
  obtain ⟨T9, X9, e9, st9⟩ := getF X7 hx hZ hown (host := "") (Or.inl (oW hw 32 rfl)) Via.refl eq7 F1 (g := (mkF m 17 #[oR a1, oI 0, .unset] [(.ref a1)])) rfl rfl (hb hby own_d22_17)
  have R9 : ∀ t, oG p e below T9 m 20 #[oR a1, oI 0, .unset] [(.ref b1)] t → Steps p.tables e below (s₁.setTop (entryFrame m #[(.ref a1), (.int 0)] 3)) t := fun t k => R8 t (st9 t k)
  have R10 : ∀ t, oG p e below T9 m 21 #[oR a1, oI 0, .unset] [(.int 0), (.ref b1)] t → Steps p.tables e below (s₁.setTop (entryFrame m #[(.ref a1), (.int 0)] 3)) t := by
    intro t k
    refine R9 t ?_
    refine XS.iloadN X9.here hx rfl (hb hby own_d22_20) rfl ?_
    exact k
  have hin5_0 : ¬ ((0 : Int32) < 0 ∨ cl5.slots.size ≤ ((0 : Int32)).toNatClampNeg) := inb_of S5 ⟨by decide, by decide⟩
  have hat5_0 : cl5.slots[((0 : Int32)).toNatClampNeg]? = some (.int (own_l c0)) := H5.at hin5_0 rfl
  have R11 : ∀ t, oG p e below T9 m 26 #[oR a1, oI 0, .unset] [(.int ((own_l c0) &&& (255 : Int32)))] t → Steps p.tables e below (s₁.setTop (entryFrame m #[(.ref a1), (.int 0)] 3)) t := by
    intro t k
    refine R10 t ?_
    refine X9.baloadBytes hx (j := (0 : Int32)) (v := (.int (own_l c0))) (by rw [e9]; exact Ar5.1) (State.isArrayOf_alike hZ.alike Ar5.2.1) Ar5.2.2 hin5_0 hat5_0 (g := (mkF m 21 #[oR a1, oI 0, .unset] [(.int 0), (.ref b1)])) rfl rfl (hb hby own_d22_21) _ ?_
    refine XS.sipush X9.here hx rfl (hb hby own_d22_22) ?_
    refine XS.iand X9.here hx rfl (hb hby own_d22_25) rfl ?_
    exact k
  have R12 : ∀ t, oG p e below T9 m 26 #[oR a1, oI 0, .unset] [(.int c0)] t → Steps p.tables e below (s₁.setTop (entryFrame m #[(.ref a1), (.int 0)] 3)) t := by rw [(own_lc r0 t0 : ((own_l c0) &&& (255 : Int32)) = c0)] at R11; exact R11
  obtain ⟨fs, hr, hrun, hended, hW, hsame⟩ := X9.leave (v := some (.int c0)) (fun h => by rw [Bd.returns] at h; cases h)
  refine ⟨_, _, R12 _ ?_, hrun, hended, _, _, rfl, ?_, ⟨_, rfl⟩, hW, hsame.mono (by decide) (by decide)⟩
  · exact retOut X9 hx Bd.returns rfl (Or.inl ⟨rfl, Or.inl rfl, _, rfl⟩) (hb hby own_d22_26) hr
  · show Q_rmCPA100 Z a1 b1 k1 cz fm c0 h0 n0 _ T9.heap _
    rw [e9]
    exact ⟨rfl, N7, rfl⟩
theorem own_ef_rmCPA110 (m : MethodId) (x0 : Addr) (x1 : Int32) : entryFrame m #[(.ref x0), (.int x1)] 3 = mkF m 0 #[oR x0, oI x1, .unset] [] := by first | (simp [entryFrame, mkF, argsToLocals, Value.category]; done) | rfl
theorem own_d22_27 : decode jdk_42_method_57_code 27 = .ok (.aload_n 0, 1) := by decide +kernel
theorem own_d22_28 : decode jdk_42_method_57_code 28 = .ok (.getfield 9, 3) := by decide +kernel
theorem own_d22_31 : decode jdk_42_method_57_code 31 = .ok (.arraylength, 1) := by decide +kernel
theorem own_d22_32 : decode jdk_42_method_57_code 32 = .ok (.iconst 1, 1) := by decide +kernel
theorem own_d22_33 : decode jdk_42_method_57_code 33 = .ok (.ishr, 1) := by decide +kernel
theorem own_d22_34 : decode jdk_42_method_57_code 34 = .ok (.istore_n 2, 1) := by decide +kernel
theorem own_d22_35 : decode jdk_42_method_57_code 35 = .ok (.iload_n 1, 1) := by decide +kernel
theorem own_d22_36 : decode jdk_42_method_57_code 36 = .ok (.iload_n 2, 1) := by decide +kernel
theorem own_d22_37 : decode jdk_42_method_57_code 37 = .ok (.invokestatic 499, 3) := by decide +kernel
theorem own_d22_40 : decode jdk_42_method_57_code 40 = .ok (.aload_n 0, 1) := by decide +kernel
theorem own_d22_41 : decode jdk_42_method_57_code 41 = .ok (.getfield 9, 3) := by decide +kernel
theorem own_d22_44 : decode jdk_42_method_57_code 44 = .ok (.iload_n 1, 1) := by decide +kernel
theorem own_d22_45 : decode jdk_42_method_57_code 45 = .ok (.iload_n 2, 1) := by decide +kernel
theorem own_d22_46 : decode jdk_42_method_57_code 46 = .ok (.invokestatic 502, 3) := by decide +kernel
theorem own_pd21 : parseMethodDescriptor "([BII)I" = some ⟨[(.array .byte), .int, .int], some .int⟩ := by decide +kernel
theorem own_d22_49 : decode jdk_42_method_57_code 49 = .ok (.ireturn, 1) := by decide +kernel
def Q_rmCPA110 (Z : State) (a1 b1 : Addr) (k1 : ClassId) (cz : Int32) (fm : Value) (c0 : Int32) (h0 : Heap) (n0 : Nat) (v : Option Value) (h : Heap) (L : List Loc) : Prop := v = some (.int c0) ∧ Fr n0 L ∧ h = h0
set_option maxRecDepth 65536 in
set_option maxHeartbeats 40000000 in
theorem rmCPA110 (l : Launch) (Z : State) (a0 : Array Value) (hw : oT a0 Z) (ws : List Jvm.Cond) (a1 b1 : Addr) (k1 : ClassId) (cz : Int32) (fm : Value) (c0 : Int32) (h0 : Heap) (n0 : Nat) (Z0 : n0 ≤ h0.size) (SU : own_St Z cz fm) (OX : Old Z n0 h0) (E1 : Exa Z h0 a1 "java/lang/String") (C1 : Fld Z h0 a1 "java/lang/String" "coder" "B" (.int 1)) (F1 : Fld Z h0 a1 "java/lang/String" "value" "[B" (.ref b1)) (V1 : Arv Z h0 b1 k1 .byte (2 : Int32) [(.int (own_b0 c0)), (.int (own_b1 c0))] (.int 0)) (r0 : own_R c0) :
    oK l Z (⟨"java/lang/String", "codePointAt", "(I)I"⟩ : MethodName) jdk_42_method_57_code 3 (some .int) ws (oM 3 0 0 44) #[(.ref a1), (.int 0)] h0 (Q_rmCPA110 Z a1 b1 k1 cz fm c0 h0 n0) := by
  refine MetFree.of_bodySF (plainFor_of_name own_pn3) hisR ?_
  intro p e s m args below meth c s₁ Bd hml0 hP hK
  obtain ⟨rfl, hZ, hh⟩ := hP
  have hx := Bd.exec
  have hby := Bd.bytes
  have hml : c.maxLocals = 3 := hml0
  have hown : s.vm.findClass "java/lang/String" = some m.cls := findClass_of_methodNamed Bd.named
  have hnm := (name_of_methodNamed Bd.named Bd.method).1
  have X0 : Stand p l e (oM 3 0 0 44) s m #[(.ref a1), (.int 0)] below meth c s₁ [] 0 0 := Stand.of_body Bd
  have e0 : s₁.heap = h0 := by rw [← hh, Bd.state]; rfl
  have N0 := Fr.nil n0
  have R0 : ∀ t, oG p e below s₁ m 0 #[oR a1, oI 0, .unset] [] t → Steps p.tables e below (s₁.setTop (entryFrame m #[(.ref a1), (.int 0)] 3)) t := fun t k => castTop (own_ef_rmCPA110 m a1 (0 : Int32)) k
  have R1 : ∀ t, oG p e below s₁ m 1 #[oR a1, oI 0, .unset] [(.ref a1)] t → Steps p.tables e below (s₁.setTop (entryFrame m #[(.ref a1), (.int 0)] 3)) t := by
    intro t k
    refine R0 t ?_
    refine XS.aloadN X0.here hx rfl (hb hby own_d22_0) rfl rfl ?_
    exact k
  obtain ⟨cq2, kq2, q2a, q2b, q2c⟩ := isOf hZ e0 E1
  obtain ⟨_, _, ⟨T2, L2, k2, n2⟩, -, X2, ⟨Lc2, hQ2, l2, y2, z2⟩, st2⟩ := X0.virtualBack hx (y := (⟨"java/lang/String", "isLatin1", "()Z"⟩ : MethodName)) (z := (⟨"java/lang/String", "isLatin1", "()Z"⟩ : MethodName)) hown (mvT hZ (oW hw 96 rfl)) (mvT hZ (oW hw 97 rfl)) (notFace_of_selects (args := #[]) (mvT hZ (oW hw 99 rfl))) (mvT hZ (oW hw 99 rfl)) (mvT hZ (oW hw 98 rfl)) (by decide) (backOf (W := 0) (rmLat1 l Z a0 hw [] a1 cz fm h0 n0 Z0 SU OX C1) hZ (oW hw 100 rfl) (oW hw 6 rfl) (by decide) (by decide)) q2a q2c (g := (mkF m 1 #[oR a1, oI 0, .unset] [(.ref a1)])) rfl (by rw [hml]; rfl) (Steps.refl _) (argsL := []) (rest := []) (lenOf own_pd18 rfl) rfl (by show 2 * 0 + _ ≤ _; exact Nat.le_of_eq rfl) (hb hby own_d22_1) (fun _ _ => ⟨rfl, e0, (by decide : 0 + 0 ≤ _), (by decide : 0 + 0 ≤ _)⟩)
  dsimp only [Pt.U, Pt.locs, Pt.cells, Pt.slots] at X2 l2 y2 z2 st2 hQ2
  subst l2 y2 z2
  obtain ⟨rfl, Nq2, eq2⟩ := hQ2
  have N2 := Fr.app N0 Nq2
  have R2 : ∀ t, oG p e below T2 m 4 #[oR a1, oI 0, .unset] [(.int 0)] t → Steps p.tables e below (s₁.setTop (entryFrame m #[(.ref a1), (.int 0)] 3)) t := fun t k => R1 t (st2.trans k)
  have R3 : ∀ t, oG p e below T2 m 28 #[oR a1, oI 0, .unset] [(.ref a1)] t → Steps p.tables e below (s₁.setTop (entryFrame m #[(.ref a1), (.int 0)] 3)) t := by
    intro t k
    refine R2 t ?_
    refine XS.ifYes X2.here hx rfl (pc0 := 4) (pc' := 27) rfl (hb hby own_d22_4) rfl ((if0 _ _).trans (teq (by decide : ((0 : Int32) = (0 : Int32)))).1) (by decide) (by decide) ?_
    refine XS.aloadN X2.here hx rfl (hb hby own_d22_27) rfl rfl ?_
    exact k
  obtain ⟨T4, X4, e4, st4⟩ := getF X2 hx hZ hown (host := "") (Or.inl (oW hw 32 rfl)) Via.refl eq2 F1 (g := (mkF m 28 #[oR a1, oI 0, .unset] [(.ref a1)])) rfl rfl (hb hby own_d22_28)
  have R4 : ∀ t, oG p e below T4 m 31 #[oR a1, oI 0, .unset] [(.ref b1)] t → Steps p.tables e below (s₁.setTop (entryFrame m #[(.ref a1), (.int 0)] 3)) t := fun t k => R3 t (st4 t k)
  obtain ⟨cl5, Ar5, q5, S5, N5', H5, G5⟩ := id V1
  have R6 : ∀ t, oG p e below T4 m 37 #[oR a1, oI 0, oI ((2 : Int32) >>> ((1 : Int32) &&& 31))] [(.int ((2 : Int32) >>> ((1 : Int32) &&& 31))), (.int 0)] t → Steps p.tables e below (s₁.setTop (entryFrame m #[(.ref a1), (.int 0)] 3)) t := by
    intro t k
    refine R4 t ?_
    refine X4.arraylength hx (by rw [e4]; exact Ar5.1) (State.isArrayOf_alike hZ.alike Ar5.2.1) (g := (mkF m 31 #[oR a1, oI 0, .unset] [(.ref b1)])) rfl rfl (hb hby own_d22_31) _ ?_
    rw [len_of S5 N5']
    refine XS.iconst X4.here hx rfl (hb hby own_d22_32) ?_
    refine XS.ishr X4.here hx rfl (hb hby own_d22_33) rfl ?_
    show oG p e below T4 m 34 #[oR a1, oI 0, .unset] [(.int ((2 : Int32) >>> ((1 : Int32) &&& 31)))] _
    refine XS.istoreN X4.here hx rfl (hb hby own_d22_34) rfl (l' := #[oR a1, oI 0, oI ((2 : Int32) >>> ((1 : Int32) &&& 31))]) rfl ?_
    refine XS.iloadN X4.here hx rfl (hb hby own_d22_35) rfl ?_
    refine XS.iloadN X4.here hx rfl (hb hby own_d22_36) rfl ?_
    exact k
  have R7 : ∀ t, oG p e below T4 m 37 #[oR a1, oI 0, oI 1] [(.int 1), (.int 0)] t → Steps p.tables e below (s₁.setTop (entryFrame m #[(.ref a1), (.int 0)] 3)) t := by rw [(by decide : ((2 : Int32) >>> ((1 : Int32) &&& 31)) = (1 : Int32))] at R6; exact R6
  obtain ⟨_, _, ⟨T8, L8, k8, n8⟩, -, X8, ⟨Lc8, hQ8, l8, y8, z8⟩, st8⟩ := Jvm.LawKit.callS X4 hx (y := (⟨"java/lang/String", "checkIndex", "(II)V"⟩ : MethodName)) hown (mvT hZ (oW hw 101 rfl)) (mvT hZ (oW hw 102 rfl)) (mvT hZ (oW hw 6 rfl)) (mvT hZ (oW hw 103 rfl)) (by decide) (backOf (W := 0) (rmSCk l Z a0 hw [] (0 : Int32) (1 : Int32) cz fm h0 n0 Z0 SU OX (by decide) (by decide)) hZ (oW hw 103 rfl) (oW hw 6 rfl) (by decide) (by decide)) (g := (mkF m 37 #[oR a1, oI 0, oI 1] [(.int 1), (.int 0)])) rfl (by rw [hml]; rfl) (argsL := [(.int 0), (.int 1)]) (rest := []) (lenOf own_pd19 rfl) rfl (by show 2 * 0 + _ ≤ _; exact Nat.le_of_eq rfl) (hb hby own_d22_37) (fun _ _ => ⟨rfl, e4, (by decide : 0 + 0 ≤ _), (by decide : 0 + 0 ≤ _)⟩)
  dsimp only [Pt.U, Pt.locs, Pt.cells, Pt.slots] at X8 l8 y8 z8 st8 hQ8
  subst l8 y8 z8
  obtain ⟨rfl, Nq8, eq8⟩ := hQ8
  have N8 := Fr.app N2 Nq8
  have R8 : ∀ t, oG p e below T8 m 40 #[oR a1, oI 0, oI 1] [] t → Steps p.tables e below (s₁.setTop (entryFrame m #[(.ref a1), (.int 0)] 3)) t := fun t k => R7 t (st8 t k)
  have R9 : ∀ t, oG p e below T8 m 41 #[oR a1, oI 0, oI 1] [(.ref a1)] t → Steps p.tables e below (s₁.setTop (entryFrame m #[(.ref a1), (.int 0)] 3)) t := by
    intro t k
    refine R8 t ?_
    refine XS.aloadN X8.here hx rfl (hb hby own_d22_40) rfl rfl ?_
    exact k
  obtain ⟨T10, X10, e10, st10⟩ := getF X8 hx hZ hown (host := "") (Or.inl (oW hw 32 rfl)) Via.refl eq8 F1 (g := (mkF m 41 #[oR a1, oI 0, oI 1] [(.ref a1)])) rfl rfl (hb hby own_d22_41)
  have R10 : ∀ t, oG p e below T10 m 44 #[oR a1, oI 0, oI 1] [(.ref b1)] t → Steps p.tables e below (s₁.setTop (entryFrame m #[(.ref a1), (.int 0)] 3)) t := fun t k => R9 t (st10 t k)
  have R11 : ∀ t, oG p e below T10 m 46 #[oR a1, oI 0, oI 1] [(.int 1), (.int 0), (.ref b1)] t → Steps p.tables e below (s₁.setTop (entryFrame m #[(.ref a1), (.int 0)] 3)) t := by
    intro t k
    refine R10 t ?_
    refine XS.iloadN X10.here hx rfl (hb hby own_d22_44) rfl ?_
    refine XS.iloadN X10.here hx rfl (hb hby own_d22_45) rfl ?_
    exact k
  obtain ⟨_, _, ⟨T12, L12, k12, n12⟩, -, X12, ⟨Lc12, hQ12, l12, y12, z12⟩, st12⟩ := Jvm.LawKit.callS X10 hx (y := (⟨"java/lang/StringUTF16", "codePointAt", "([BII)I"⟩ : MethodName)) hown (mvT hZ (oW hw 109 rfl)) (mvT hZ (oW hw 110 rfl)) (mvT hZ (oW hw 21 rfl)) (mvT hZ (oW hw 111 rfl)) (by decide) (backOf (W := 0) (rmU3_20 l Z a0 hw [] b1 k1 cz fm c0 h0 n0 Z0 SU OX V1 r0) hZ (oW hw 111 rfl) (oW hw 21 rfl) (by decide) (by decide)) (g := (mkF m 46 #[oR a1, oI 0, oI 1] [(.int 1), (.int 0), (.ref b1)])) rfl (by rw [hml]; rfl) (argsL := [(.ref b1), (.int 0), (.int 1)]) (rest := []) (lenOf own_pd21 rfl) rfl (by show 2 * 0 + _ ≤ _; exact Nat.le_of_eq rfl) (hb hby own_d22_46) (fun _ _ => ⟨rfl, e10, (by decide : 0 + 0 ≤ _), (by decide : 0 + 0 ≤ _)⟩)
  dsimp only [Pt.U, Pt.locs, Pt.cells, Pt.slots] at X12 l12 y12 z12 st12 hQ12
  subst l12 y12 z12
  obtain ⟨rfl, Nq12, eq12⟩ := hQ12
  have N12 := Fr.app N8 Nq12
  have R12 : ∀ t, oG p e below T12 m 49 #[oR a1, oI 0, oI 1] [(.int c0)] t → Steps p.tables e below (s₁.setTop (entryFrame m #[(.ref a1), (.int 0)] 3)) t := fun t k => R11 t (st12 t k)
  obtain ⟨fs, hr, hrun, hended, hW, hsame⟩ := X12.leave (v := some (.int c0)) (fun h => by rw [Bd.returns] at h; cases h)
  refine ⟨_, _, R12 _ ?_, hrun, hended, _, _, rfl, ?_, ⟨_, rfl⟩, hW, hsame.mono (by decide) (by decide)⟩
  · exact retOut X12 hx Bd.returns rfl (Or.inl ⟨rfl, Or.inl rfl, _, rfl⟩) (hb hby own_d22_49) hr
  · show Q_rmCPA110 Z a1 b1 k1 cz fm c0 h0 n0 _ T12.heap _
    rw [eq12]
    exact ⟨rfl, N12, rfl⟩
theorem own_ef_rmCPA200 (m : MethodId) (x0 : Addr) (x1 : Int32) : entryFrame m #[(.ref x0), (.int x1)] 3 = mkF m 0 #[oR x0, oI x1, .unset] [] := by first | (simp [entryFrame, mkF, argsToLocals, Value.category]; done) | rfl
def Q_rmCPA200 (Z : State) (a1 b1 : Addr) (k1 : ClassId) (cz : Int32) (fm : Value) (c0 c1 : Int32) (h0 : Heap) (n0 : Nat) (v : Option Value) (h : Heap) (L : List Loc) : Prop := v = some (.int (own_cp c0 c1)) ∧ Fr n0 L ∧ h = h0
set_option maxRecDepth 65536 in
set_option maxHeartbeats 40000000 in
theorem rmCPA200 (l : Launch) (Z : State) (a0 : Array Value) (hw : oT a0 Z) (ws : List Jvm.Cond) (a1 b1 : Addr) (k1 : ClassId) (cz : Int32) (fm : Value) (c0 c1 : Int32) (h0 : Heap) (n0 : Nat) (Z0 : n0 ≤ h0.size) (SU : own_St Z cz fm) (OX : Old Z n0 h0) (E1 : Exa Z h0 a1 "java/lang/String") (C1 : Fld Z h0 a1 "java/lang/String" "coder" "B" (.int 0)) (F1 : Fld Z h0 a1 "java/lang/String" "value" "[B" (.ref b1)) (V1 : Arv Z h0 b1 k1 .byte (2 : Int32) [(.int (own_l c0)), (.int (own_l c1))] (.int 0)) (r0 : own_R c0) (r1 : own_R c1) (t0 : ¬ (255 : Int32) < c0) (t1 : ¬ (255 : Int32) < c1) :
    oK l Z (⟨"java/lang/String", "codePointAt", "(I)I"⟩ : MethodName) jdk_42_method_57_code 3 (some .int) ws (oM 3 0 0 44) #[(.ref a1), (.int 0)] h0 (Q_rmCPA200 Z a1 b1 k1 cz fm c0 c1 h0 n0) := by
  refine MetFree.of_bodySF (plainFor_of_name own_pn3) hisR ?_
  intro p e s m args below meth c s₁ Bd hml0 hP hK
  obtain ⟨rfl, hZ, hh⟩ := hP
  have hx := Bd.exec
  have hby := Bd.bytes
  have hml : c.maxLocals = 3 := hml0
  have hown : s.vm.findClass "java/lang/String" = some m.cls := findClass_of_methodNamed Bd.named
  have hnm := (name_of_methodNamed Bd.named Bd.method).1
  have X0 : Stand p l e (oM 3 0 0 44) s m #[(.ref a1), (.int 0)] below meth c s₁ [] 0 0 := Stand.of_body Bd
  have e0 : s₁.heap = h0 := by rw [← hh, Bd.state]; rfl
  have N0 := Fr.nil n0
  have R0 : ∀ t, oG p e below s₁ m 0 #[oR a1, oI 0, .unset] [] t → Steps p.tables e below (s₁.setTop (entryFrame m #[(.ref a1), (.int 0)] 3)) t := fun t k => castTop (own_ef_rmCPA200 m a1 (0 : Int32)) k
  have R1 : ∀ t, oG p e below s₁ m 1 #[oR a1, oI 0, .unset] [(.ref a1)] t → Steps p.tables e below (s₁.setTop (entryFrame m #[(.ref a1), (.int 0)] 3)) t := by
    intro t k
    refine R0 t ?_
    refine XS.aloadN X0.here hx rfl (hb hby own_d22_0) rfl rfl ?_
    exact k
  obtain ⟨cq2, kq2, q2a, q2b, q2c⟩ := isOf hZ e0 E1
  obtain ⟨_, _, ⟨T2, L2, k2, n2⟩, -, X2, ⟨Lc2, hQ2, l2, y2, z2⟩, st2⟩ := X0.virtualBack hx (y := (⟨"java/lang/String", "isLatin1", "()Z"⟩ : MethodName)) (z := (⟨"java/lang/String", "isLatin1", "()Z"⟩ : MethodName)) hown (mvT hZ (oW hw 96 rfl)) (mvT hZ (oW hw 97 rfl)) (notFace_of_selects (args := #[]) (mvT hZ (oW hw 99 rfl))) (mvT hZ (oW hw 99 rfl)) (mvT hZ (oW hw 98 rfl)) (by decide) (backOf (W := 0) (rmLat0 l Z a0 hw [] a1 cz fm h0 n0 Z0 SU OX C1) hZ (oW hw 100 rfl) (oW hw 6 rfl) (by decide) (by decide)) q2a q2c (g := (mkF m 1 #[oR a1, oI 0, .unset] [(.ref a1)])) rfl (by rw [hml]; rfl) (Steps.refl _) (argsL := []) (rest := []) (lenOf own_pd18 rfl) rfl (by show 2 * 0 + _ ≤ _; exact Nat.le_of_eq rfl) (hb hby own_d22_1) (fun _ _ => ⟨rfl, e0, (by decide : 0 + 0 ≤ _), (by decide : 0 + 0 ≤ _)⟩)
  dsimp only [Pt.U, Pt.locs, Pt.cells, Pt.slots] at X2 l2 y2 z2 st2 hQ2
  subst l2 y2 z2
  obtain ⟨rfl, Nq2, eq2⟩ := hQ2
  have N2 := Fr.app N0 Nq2
  have R2 : ∀ t, oG p e below T2 m 4 #[oR a1, oI 0, .unset] [(.int 1)] t → Steps p.tables e below (s₁.setTop (entryFrame m #[(.ref a1), (.int 0)] 3)) t := fun t k => R1 t (st2.trans k)
  have R3 : ∀ t, oG p e below T2 m 9 #[oR a1, oI 0, .unset] [(.ref a1), (.int 0)] t → Steps p.tables e below (s₁.setTop (entryFrame m #[(.ref a1), (.int 0)] 3)) t := by
    intro t k
    refine R2 t ?_
    refine XS.ifNo X2.here hx rfl (hb hby own_d22_4) rfl ((if0 _ _).trans (feq (by decide : ¬ ((1 : Int32) = (0 : Int32)))).1) ?_
    refine XS.iloadN X2.here hx rfl (hb hby own_d22_7) rfl ?_
    refine XS.aloadN X2.here hx rfl (hb hby own_d22_8) rfl rfl ?_
    exact k
  obtain ⟨T4, X4, e4, st4⟩ := getF X2 hx hZ hown (host := "") (Or.inl (oW hw 32 rfl)) Via.refl eq2 F1 (g := (mkF m 9 #[oR a1, oI 0, .unset] [(.ref a1), (.int 0)])) rfl rfl (hb hby own_d22_9)
  have R4 : ∀ t, oG p e below T4 m 12 #[oR a1, oI 0, .unset] [(.ref b1), (.int 0)] t → Steps p.tables e below (s₁.setTop (entryFrame m #[(.ref a1), (.int 0)] 3)) t := fun t k => R3 t (st4 t k)
  obtain ⟨cl5, Ar5, q5, S5, N5', H5, G5⟩ := id V1
  have R6 : ∀ t, oG p e below T4 m 13 #[oR a1, oI 0, .unset] [(.int 2), (.int 0)] t → Steps p.tables e below (s₁.setTop (entryFrame m #[(.ref a1), (.int 0)] 3)) t := by
    intro t k
    refine R4 t ?_
    refine X4.arraylength hx (by rw [e4]; exact Ar5.1) (State.isArrayOf_alike hZ.alike Ar5.2.1) (g := (mkF m 12 #[oR a1, oI 0, .unset] [(.ref b1), (.int 0)])) rfl rfl (hb hby own_d22_12) _ ?_
    rw [len_of S5 N5']
    exact k
  obtain ⟨_, _, ⟨T7, L7, k7, n7⟩, -, X7, ⟨Lc7, hQ7, l7, y7, z7⟩, st7⟩ := Jvm.LawKit.callS X4 hx (y := (⟨"java/lang/String", "checkIndex", "(II)V"⟩ : MethodName)) hown (mvT hZ (oW hw 101 rfl)) (mvT hZ (oW hw 102 rfl)) (mvT hZ (oW hw 6 rfl)) (mvT hZ (oW hw 103 rfl)) (by decide) (backOf (W := 0) (rmSCk l Z a0 hw [] (0 : Int32) (2 : Int32) cz fm h0 n0 Z0 SU OX (by decide) (by decide)) hZ (oW hw 103 rfl) (oW hw 6 rfl) (by decide) (by decide)) (g := (mkF m 13 #[oR a1, oI 0, .unset] [(.int 2), (.int 0)])) rfl (by rw [hml]; rfl) (argsL := [(.int 0), (.int 2)]) (rest := []) (lenOf own_pd19 rfl) rfl (by show 2 * 0 + _ ≤ _; exact Nat.le_of_eq rfl) (hb hby own_d22_13) (fun _ _ => ⟨rfl, e4, (by decide : 0 + 0 ≤ _), (by decide : 0 + 0 ≤ _)⟩)
  dsimp only [Pt.U, Pt.locs, Pt.cells, Pt.slots] at X7 l7 y7 z7 st7 hQ7
  subst l7 y7 z7
  obtain ⟨rfl, Nq7, eq7⟩ := hQ7
  have N7 := Fr.app N2 Nq7
  have R7 : ∀ t, oG p e below T7 m 16 #[oR a1, oI 0, .unset] [] t → Steps p.tables e below (s₁.setTop (entryFrame m #[(.ref a1), (.int 0)] 3)) t := fun t k => R6 t (st7 t k)
  have R8 : ∀ t, oG p e below T7 m 17 #[oR a1, oI 0, .unset] [(.ref a1)] t → Steps p.tables e below (s₁.setTop (entryFrame m #[(.ref a1), (.int 0)] 3)) t := by
    intro t k
    refine R7 t ?_
    refine XS.aloadN X7.here hx rfl (hb hby own_d22_16) rfl rfl ?_
    exact k
  obtain ⟨T9, X9, e9, st9⟩ := getF X7 hx hZ hown (host := "") (Or.inl (oW hw 32 rfl)) Via.refl eq7 F1 (g := (mkF m 17 #[oR a1, oI 0, .unset] [(.ref a1)])) rfl rfl (hb hby own_d22_17)
  have R9 : ∀ t, oG p e below T9 m 20 #[oR a1, oI 0, .unset] [(.ref b1)] t → Steps p.tables e below (s₁.setTop (entryFrame m #[(.ref a1), (.int 0)] 3)) t := fun t k => R8 t (st9 t k)
  have R10 : ∀ t, oG p e below T9 m 21 #[oR a1, oI 0, .unset] [(.int 0), (.ref b1)] t → Steps p.tables e below (s₁.setTop (entryFrame m #[(.ref a1), (.int 0)] 3)) t := by
    intro t k
    refine R9 t ?_
    refine XS.iloadN X9.here hx rfl (hb hby own_d22_20) rfl ?_
    exact k
  have hin5_0 : ¬ ((0 : Int32) < 0 ∨ cl5.slots.size ≤ ((0 : Int32)).toNatClampNeg) := inb_of S5 ⟨by decide, by decide⟩
  have hat5_0 : cl5.slots[((0 : Int32)).toNatClampNeg]? = some (.int (own_l c0)) := H5.at hin5_0 rfl
  have R11 : ∀ t, oG p e below T9 m 26 #[oR a1, oI 0, .unset] [(.int ((own_l c0) &&& (255 : Int32)))] t → Steps p.tables e below (s₁.setTop (entryFrame m #[(.ref a1), (.int 0)] 3)) t := by
    intro t k
    refine R10 t ?_
    refine X9.baloadBytes hx (j := (0 : Int32)) (v := (.int (own_l c0))) (by rw [e9]; exact Ar5.1) (State.isArrayOf_alike hZ.alike Ar5.2.1) Ar5.2.2 hin5_0 hat5_0 (g := (mkF m 21 #[oR a1, oI 0, .unset] [(.int 0), (.ref b1)])) rfl rfl (hb hby own_d22_21) _ ?_
    refine XS.sipush X9.here hx rfl (hb hby own_d22_22) ?_
    refine XS.iand X9.here hx rfl (hb hby own_d22_25) rfl ?_
    exact k
  have R12 : ∀ t, oG p e below T9 m 26 #[oR a1, oI 0, .unset] [(.int c0)] t → Steps p.tables e below (s₁.setTop (entryFrame m #[(.ref a1), (.int 0)] 3)) t := by rw [(own_lc r0 t0 : ((own_l c0) &&& (255 : Int32)) = c0)] at R11; exact R11
  obtain ⟨fs, hr, hrun, hended, hW, hsame⟩ := X9.leave (v := some (.int c0)) (fun h => by rw [Bd.returns] at h; cases h)
  refine ⟨_, _, R12 _ ?_, hrun, hended, _, _, rfl, ?_, ⟨_, rfl⟩, hW, hsame.mono (by decide) (by decide)⟩
  · exact retOut X9 hx Bd.returns rfl (Or.inl ⟨rfl, Or.inl rfl, _, rfl⟩) (hb hby own_d22_26) hr
  · show Q_rmCPA200 Z a1 b1 k1 cz fm c0 c1 h0 n0 _ T9.heap _
    rw [e9]
    exact ⟨by rw [own_cp_lat t0], N7, rfl⟩
theorem own_ef_rmCPA201 (m : MethodId) (x0 : Addr) (x1 : Int32) : entryFrame m #[(.ref x0), (.int x1)] 3 = mkF m 0 #[oR x0, oI x1, .unset] [] := by first | (simp [entryFrame, mkF, argsToLocals, Value.category]; done) | rfl
def Q_rmCPA201 (Z : State) (a1 b1 : Addr) (k1 : ClassId) (cz : Int32) (fm : Value) (c0 c1 : Int32) (h0 : Heap) (n0 : Nat) (v : Option Value) (h : Heap) (L : List Loc) : Prop := v = some (.int c1) ∧ Fr n0 L ∧ h = h0
set_option maxRecDepth 65536 in
set_option maxHeartbeats 40000000 in
theorem rmCPA201 (l : Launch) (Z : State) (a0 : Array Value) (hw : oT a0 Z) (ws : List Jvm.Cond) (a1 b1 : Addr) (k1 : ClassId) (cz : Int32) (fm : Value) (c0 c1 : Int32) (h0 : Heap) (n0 : Nat) (Z0 : n0 ≤ h0.size) (SU : own_St Z cz fm) (OX : Old Z n0 h0) (E1 : Exa Z h0 a1 "java/lang/String") (C1 : Fld Z h0 a1 "java/lang/String" "coder" "B" (.int 0)) (F1 : Fld Z h0 a1 "java/lang/String" "value" "[B" (.ref b1)) (V1 : Arv Z h0 b1 k1 .byte (2 : Int32) [(.int (own_l c0)), (.int (own_l c1))] (.int 0)) (r0 : own_R c0) (r1 : own_R c1) (t0 : ¬ (255 : Int32) < c0) (t1 : ¬ (255 : Int32) < c1) :
    oK l Z (⟨"java/lang/String", "codePointAt", "(I)I"⟩ : MethodName) jdk_42_method_57_code 3 (some .int) ws (oM 3 0 0 44) #[(.ref a1), (.int 1)] h0 (Q_rmCPA201 Z a1 b1 k1 cz fm c0 c1 h0 n0) := by
  refine MetFree.of_bodySF (plainFor_of_name own_pn3) hisR ?_
  intro p e s m args below meth c s₁ Bd hml0 hP hK
  obtain ⟨rfl, hZ, hh⟩ := hP
  have hx := Bd.exec
  have hby := Bd.bytes
  have hml : c.maxLocals = 3 := hml0
  have hown : s.vm.findClass "java/lang/String" = some m.cls := findClass_of_methodNamed Bd.named
  have hnm := (name_of_methodNamed Bd.named Bd.method).1
  have X0 : Stand p l e (oM 3 0 0 44) s m #[(.ref a1), (.int 1)] below meth c s₁ [] 0 0 := Stand.of_body Bd
  have e0 : s₁.heap = h0 := by rw [← hh, Bd.state]; rfl
  have N0 := Fr.nil n0
  have R0 : ∀ t, oG p e below s₁ m 0 #[oR a1, oI 1, .unset] [] t → Steps p.tables e below (s₁.setTop (entryFrame m #[(.ref a1), (.int 1)] 3)) t := fun t k => castTop (own_ef_rmCPA201 m a1 (1 : Int32)) k
  have R1 : ∀ t, oG p e below s₁ m 1 #[oR a1, oI 1, .unset] [(.ref a1)] t → Steps p.tables e below (s₁.setTop (entryFrame m #[(.ref a1), (.int 1)] 3)) t := by
    intro t k
    refine R0 t ?_
    refine XS.aloadN X0.here hx rfl (hb hby own_d22_0) rfl rfl ?_
    exact k
  obtain ⟨cq2, kq2, q2a, q2b, q2c⟩ := isOf hZ e0 E1
  obtain ⟨_, _, ⟨T2, L2, k2, n2⟩, -, X2, ⟨Lc2, hQ2, l2, y2, z2⟩, st2⟩ := X0.virtualBack hx (y := (⟨"java/lang/String", "isLatin1", "()Z"⟩ : MethodName)) (z := (⟨"java/lang/String", "isLatin1", "()Z"⟩ : MethodName)) hown (mvT hZ (oW hw 96 rfl)) (mvT hZ (oW hw 97 rfl)) (notFace_of_selects (args := #[]) (mvT hZ (oW hw 99 rfl))) (mvT hZ (oW hw 99 rfl)) (mvT hZ (oW hw 98 rfl)) (by decide) (backOf (W := 0) (rmLat0 l Z a0 hw [] a1 cz fm h0 n0 Z0 SU OX C1) hZ (oW hw 100 rfl) (oW hw 6 rfl) (by decide) (by decide)) q2a q2c (g := (mkF m 1 #[oR a1, oI 1, .unset] [(.ref a1)])) rfl (by rw [hml]; rfl) (Steps.refl _) (argsL := []) (rest := []) (lenOf own_pd18 rfl) rfl (by show 2 * 0 + _ ≤ _; exact Nat.le_of_eq rfl) (hb hby own_d22_1) (fun _ _ => ⟨rfl, e0, (by decide : 0 + 0 ≤ _), (by decide : 0 + 0 ≤ _)⟩)
  dsimp only [Pt.U, Pt.locs, Pt.cells, Pt.slots] at X2 l2 y2 z2 st2 hQ2
  subst l2 y2 z2
  obtain ⟨rfl, Nq2, eq2⟩ := hQ2
  have N2 := Fr.app N0 Nq2
  have R2 : ∀ t, oG p e below T2 m 4 #[oR a1, oI 1, .unset] [(.int 1)] t → Steps p.tables e below (s₁.setTop (entryFrame m #[(.ref a1), (.int 1)] 3)) t := fun t k => R1 t (st2.trans k)
  have R3 : ∀ t, oG p e below T2 m 9 #[oR a1, oI 1, .unset] [(.ref a1), (.int 1)] t → Steps p.tables e below (s₁.setTop (entryFrame m #[(.ref a1), (.int 1)] 3)) t := by
    intro t k
    refine R2 t ?_
    refine XS.ifNo X2.here hx rfl (hb hby own_d22_4) rfl ((if0 _ _).trans (feq (by decide : ¬ ((1 : Int32) = (0 : Int32)))).1) ?_
    refine XS.iloadN X2.here hx rfl (hb hby own_d22_7) rfl ?_
    refine XS.aloadN X2.here hx rfl (hb hby own_d22_8) rfl rfl ?_
    exact k
  obtain ⟨T4, X4, e4, st4⟩ := getF X2 hx hZ hown (host := "") (Or.inl (oW hw 32 rfl)) Via.refl eq2 F1 (g := (mkF m 9 #[oR a1, oI 1, .unset] [(.ref a1), (.int 1)])) rfl rfl (hb hby own_d22_9)
  have R4 : ∀ t, oG p e below T4 m 12 #[oR a1, oI 1, .unset] [(.ref b1), (.int 1)] t → Steps p.tables e below (s₁.setTop (entryFrame m #[(.ref a1), (.int 1)] 3)) t := fun t k => R3 t (st4 t k)
  obtain ⟨cl5, Ar5, q5, S5, N5', H5, G5⟩ := id V1
  have R6 : ∀ t, oG p e below T4 m 13 #[oR a1, oI 1, .unset] [(.int 2), (.int 1)] t → Steps p.tables e below (s₁.setTop (entryFrame m #[(.ref a1), (.int 1)] 3)) t := by
    intro t k
    refine R4 t ?_
    refine X4.arraylength hx (by rw [e4]; exact Ar5.1) (State.isArrayOf_alike hZ.alike Ar5.2.1) (g := (mkF m 12 #[oR a1, oI 1, .unset] [(.ref b1), (.int 1)])) rfl rfl (hb hby own_d22_12) _ ?_
    rw [len_of S5 N5']
    exact k
  obtain ⟨_, _, ⟨T7, L7, k7, n7⟩, -, X7, ⟨Lc7, hQ7, l7, y7, z7⟩, st7⟩ := Jvm.LawKit.callS X4 hx (y := (⟨"java/lang/String", "checkIndex", "(II)V"⟩ : MethodName)) hown (mvT hZ (oW hw 101 rfl)) (mvT hZ (oW hw 102 rfl)) (mvT hZ (oW hw 6 rfl)) (mvT hZ (oW hw 103 rfl)) (by decide) (backOf (W := 0) (rmSCk l Z a0 hw [] (1 : Int32) (2 : Int32) cz fm h0 n0 Z0 SU OX (by decide) (by decide)) hZ (oW hw 103 rfl) (oW hw 6 rfl) (by decide) (by decide)) (g := (mkF m 13 #[oR a1, oI 1, .unset] [(.int 2), (.int 1)])) rfl (by rw [hml]; rfl) (argsL := [(.int 1), (.int 2)]) (rest := []) (lenOf own_pd19 rfl) rfl (by show 2 * 0 + _ ≤ _; exact Nat.le_of_eq rfl) (hb hby own_d22_13) (fun _ _ => ⟨rfl, e4, (by decide : 0 + 0 ≤ _), (by decide : 0 + 0 ≤ _)⟩)
  dsimp only [Pt.U, Pt.locs, Pt.cells, Pt.slots] at X7 l7 y7 z7 st7 hQ7
  subst l7 y7 z7
  obtain ⟨rfl, Nq7, eq7⟩ := hQ7
  have N7 := Fr.app N2 Nq7
  have R7 : ∀ t, oG p e below T7 m 16 #[oR a1, oI 1, .unset] [] t → Steps p.tables e below (s₁.setTop (entryFrame m #[(.ref a1), (.int 1)] 3)) t := fun t k => R6 t (st7 t k)
  have R8 : ∀ t, oG p e below T7 m 17 #[oR a1, oI 1, .unset] [(.ref a1)] t → Steps p.tables e below (s₁.setTop (entryFrame m #[(.ref a1), (.int 1)] 3)) t := by
    intro t k
    refine R7 t ?_
    refine XS.aloadN X7.here hx rfl (hb hby own_d22_16) rfl rfl ?_
    exact k
  obtain ⟨T9, X9, e9, st9⟩ := getF X7 hx hZ hown (host := "") (Or.inl (oW hw 32 rfl)) Via.refl eq7 F1 (g := (mkF m 17 #[oR a1, oI 1, .unset] [(.ref a1)])) rfl rfl (hb hby own_d22_17)
  have R9 : ∀ t, oG p e below T9 m 20 #[oR a1, oI 1, .unset] [(.ref b1)] t → Steps p.tables e below (s₁.setTop (entryFrame m #[(.ref a1), (.int 1)] 3)) t := fun t k => R8 t (st9 t k)
  have R10 : ∀ t, oG p e below T9 m 21 #[oR a1, oI 1, .unset] [(.int 1), (.ref b1)] t → Steps p.tables e below (s₁.setTop (entryFrame m #[(.ref a1), (.int 1)] 3)) t := by
    intro t k
    refine R9 t ?_
    refine XS.iloadN X9.here hx rfl (hb hby own_d22_20) rfl ?_
    exact k
  have hin5_1 : ¬ ((1 : Int32) < 0 ∨ cl5.slots.size ≤ ((1 : Int32)).toNatClampNeg) := inb_of S5 ⟨by decide, by decide⟩
  have hat5_1 : cl5.slots[((1 : Int32)).toNatClampNeg]? = some (.int (own_l c1)) := H5.at hin5_1 rfl
  have R11 : ∀ t, oG p e below T9 m 26 #[oR a1, oI 1, .unset] [(.int ((own_l c1) &&& (255 : Int32)))] t → Steps p.tables e below (s₁.setTop (entryFrame m #[(.ref a1), (.int 1)] 3)) t := by
    intro t k
    refine R10 t ?_
    refine X9.baloadBytes hx (j := (1 : Int32)) (v := (.int (own_l c1))) (by rw [e9]; exact Ar5.1) (State.isArrayOf_alike hZ.alike Ar5.2.1) Ar5.2.2 hin5_1 hat5_1 (g := (mkF m 21 #[oR a1, oI 1, .unset] [(.int 1), (.ref b1)])) rfl rfl (hb hby own_d22_21) _ ?_
    refine XS.sipush X9.here hx rfl (hb hby own_d22_22) ?_
    refine XS.iand X9.here hx rfl (hb hby own_d22_25) rfl ?_
    exact k
  have R12 : ∀ t, oG p e below T9 m 26 #[oR a1, oI 1, .unset] [(.int c1)] t → Steps p.tables e below (s₁.setTop (entryFrame m #[(.ref a1), (.int 1)] 3)) t := by rw [(own_lc r1 t1 : ((own_l c1) &&& (255 : Int32)) = c1)] at R11; exact R11
  obtain ⟨fs, hr, hrun, hended, hW, hsame⟩ := X9.leave (v := some (.int c1)) (fun h => by rw [Bd.returns] at h; cases h)
  refine ⟨_, _, R12 _ ?_, hrun, hended, _, _, rfl, ?_, ⟨_, rfl⟩, hW, hsame.mono (by decide) (by decide)⟩
  · exact retOut X9 hx Bd.returns rfl (Or.inl ⟨rfl, Or.inl rfl, _, rfl⟩) (hb hby own_d22_26) hr
  · show Q_rmCPA201 Z a1 b1 k1 cz fm c0 c1 h0 n0 _ T9.heap _
    rw [e9]
    exact ⟨rfl, N7, rfl⟩
theorem own_ef_rmCPA210 (m : MethodId) (x0 : Addr) (x1 : Int32) : entryFrame m #[(.ref x0), (.int x1)] 3 = mkF m 0 #[oR x0, oI x1, .unset] [] := by first | (simp [entryFrame, mkF, argsToLocals, Value.category]; done) | rfl
def Q_rmCPA210 (Z : State) (a1 b1 : Addr) (k1 : ClassId) (cz : Int32) (fm : Value) (c0 c1 : Int32) (h0 : Heap) (n0 : Nat) (v : Option Value) (h : Heap) (L : List Loc) : Prop := v = some (.int (own_cp c0 c1)) ∧ Fr n0 L ∧ h = h0
set_option maxRecDepth 65536 in
set_option maxHeartbeats 40000000 in
theorem rmCPA210 (l : Launch) (Z : State) (a0 : Array Value) (hw : oT a0 Z) (ws : List Jvm.Cond) (a1 b1 : Addr) (k1 : ClassId) (cz : Int32) (fm : Value) (c0 c1 : Int32) (h0 : Heap) (n0 : Nat) (Z0 : n0 ≤ h0.size) (SU : own_St Z cz fm) (OX : Old Z n0 h0) (E1 : Exa Z h0 a1 "java/lang/String") (C1 : Fld Z h0 a1 "java/lang/String" "coder" "B" (.int 1)) (F1 : Fld Z h0 a1 "java/lang/String" "value" "[B" (.ref b1)) (V1 : Arv Z h0 b1 k1 .byte (4 : Int32) [(.int (own_b0 c0)), (.int (own_b1 c0)), (.int (own_b0 c1)), (.int (own_b1 c1))] (.int 0)) (r0 : own_R c0) (r1 : own_R c1) :
    oK l Z (⟨"java/lang/String", "codePointAt", "(I)I"⟩ : MethodName) jdk_42_method_57_code 3 (some .int) ws (oM 3 0 0 44) #[(.ref a1), (.int 0)] h0 (Q_rmCPA210 Z a1 b1 k1 cz fm c0 c1 h0 n0) := by
  refine MetFree.of_bodySF (plainFor_of_name own_pn3) hisR ?_
  intro p e s m args below meth c s₁ Bd hml0 hP hK
  obtain ⟨rfl, hZ, hh⟩ := hP
  have hx := Bd.exec
  have hby := Bd.bytes
  have hml : c.maxLocals = 3 := hml0
  have hown : s.vm.findClass "java/lang/String" = some m.cls := findClass_of_methodNamed Bd.named
  have hnm := (name_of_methodNamed Bd.named Bd.method).1
  have X0 : Stand p l e (oM 3 0 0 44) s m #[(.ref a1), (.int 0)] below meth c s₁ [] 0 0 := Stand.of_body Bd
  have e0 : s₁.heap = h0 := by rw [← hh, Bd.state]; rfl
  have N0 := Fr.nil n0
  have R0 : ∀ t, oG p e below s₁ m 0 #[oR a1, oI 0, .unset] [] t → Steps p.tables e below (s₁.setTop (entryFrame m #[(.ref a1), (.int 0)] 3)) t := fun t k => castTop (own_ef_rmCPA210 m a1 (0 : Int32)) k
  have R1 : ∀ t, oG p e below s₁ m 1 #[oR a1, oI 0, .unset] [(.ref a1)] t → Steps p.tables e below (s₁.setTop (entryFrame m #[(.ref a1), (.int 0)] 3)) t := by
    intro t k
    refine R0 t ?_
    refine XS.aloadN X0.here hx rfl (hb hby own_d22_0) rfl rfl ?_
    exact k
  obtain ⟨cq2, kq2, q2a, q2b, q2c⟩ := isOf hZ e0 E1
  obtain ⟨_, _, ⟨T2, L2, k2, n2⟩, -, X2, ⟨Lc2, hQ2, l2, y2, z2⟩, st2⟩ := X0.virtualBack hx (y := (⟨"java/lang/String", "isLatin1", "()Z"⟩ : MethodName)) (z := (⟨"java/lang/String", "isLatin1", "()Z"⟩ : MethodName)) hown (mvT hZ (oW hw 96 rfl)) (mvT hZ (oW hw 97 rfl)) (notFace_of_selects (args := #[]) (mvT hZ (oW hw 99 rfl))) (mvT hZ (oW hw 99 rfl)) (mvT hZ (oW hw 98 rfl)) (by decide) (backOf (W := 0) (rmLat1 l Z a0 hw [] a1 cz fm h0 n0 Z0 SU OX C1) hZ (oW hw 100 rfl) (oW hw 6 rfl) (by decide) (by decide)) q2a q2c (g := (mkF m 1 #[oR a1, oI 0, .unset] [(.ref a1)])) rfl (by rw [hml]; rfl) (Steps.refl _) (argsL := []) (rest := []) (lenOf own_pd18 rfl) rfl (by show 2 * 0 + _ ≤ _; exact Nat.le_of_eq rfl) (hb hby own_d22_1) (fun _ _ => ⟨rfl, e0, (by decide : 0 + 0 ≤ _), (by decide : 0 + 0 ≤ _)⟩)
  dsimp only [Pt.U, Pt.locs, Pt.cells, Pt.slots] at X2 l2 y2 z2 st2 hQ2
  subst l2 y2 z2
  obtain ⟨rfl, Nq2, eq2⟩ := hQ2
  have N2 := Fr.app N0 Nq2
  have R2 : ∀ t, oG p e below T2 m 4 #[oR a1, oI 0, .unset] [(.int 0)] t → Steps p.tables e below (s₁.setTop (entryFrame m #[(.ref a1), (.int 0)] 3)) t := fun t k => R1 t (st2.trans k)
  have R3 : ∀ t, oG p e below T2 m 28 #[oR a1, oI 0, .unset] [(.ref a1)] t → Steps p.tables e below (s₁.setTop (entryFrame m #[(.ref a1), (.int 0)] 3)) t := by
    intro t k
    refine R2 t ?_
    refine XS.ifYes X2.here hx rfl (pc0 := 4) (pc' := 27) rfl (hb hby own_d22_4) rfl ((if0 _ _).trans (teq (by decide : ((0 : Int32) = (0 : Int32)))).1) (by decide) (by decide) ?_
    refine XS.aloadN X2.here hx rfl (hb hby own_d22_27) rfl rfl ?_
    exact k
  obtain ⟨T4, X4, e4, st4⟩ := getF X2 hx hZ hown (host := "") (Or.inl (oW hw 32 rfl)) Via.refl eq2 F1 (g := (mkF m 28 #[oR a1, oI 0, .unset] [(.ref a1)])) rfl rfl (hb hby own_d22_28)
  have R4 : ∀ t, oG p e below T4 m 31 #[oR a1, oI 0, .unset] [(.ref b1)] t → Steps p.tables e below (s₁.setTop (entryFrame m #[(.ref a1), (.int 0)] 3)) t := fun t k => R3 t (st4 t k)
  obtain ⟨cl5, Ar5, q5, S5, N5', H5, G5⟩ := id V1
  have R6 : ∀ t, oG p e below T4 m 37 #[oR a1, oI 0, oI ((4 : Int32) >>> ((1 : Int32) &&& 31))] [(.int ((4 : Int32) >>> ((1 : Int32) &&& 31))), (.int 0)] t → Steps p.tables e below (s₁.setTop (entryFrame m #[(.ref a1), (.int 0)] 3)) t := by
    intro t k
    refine R4 t ?_
    refine X4.arraylength hx (by rw [e4]; exact Ar5.1) (State.isArrayOf_alike hZ.alike Ar5.2.1) (g := (mkF m 31 #[oR a1, oI 0, .unset] [(.ref b1)])) rfl rfl (hb hby own_d22_31) _ ?_
    rw [len_of S5 N5']
    refine XS.iconst X4.here hx rfl (hb hby own_d22_32) ?_
    refine XS.ishr X4.here hx rfl (hb hby own_d22_33) rfl ?_
    show oG p e below T4 m 34 #[oR a1, oI 0, .unset] [(.int ((4 : Int32) >>> ((1 : Int32) &&& 31)))] _
    refine XS.istoreN X4.here hx rfl (hb hby own_d22_34) rfl (l' := #[oR a1, oI 0, oI ((4 : Int32) >>> ((1 : Int32) &&& 31))]) rfl ?_
    refine XS.iloadN X4.here hx rfl (hb hby own_d22_35) rfl ?_
    refine XS.iloadN X4.here hx rfl (hb hby own_d22_36) rfl ?_
    exact k
  have R7 : ∀ t, oG p e below T4 m 37 #[oR a1, oI 0, oI 2] [(.int 2), (.int 0)] t → Steps p.tables e below (s₁.setTop (entryFrame m #[(.ref a1), (.int 0)] 3)) t := by rw [(by decide : ((4 : Int32) >>> ((1 : Int32) &&& 31)) = (2 : Int32))] at R6; exact R6
  obtain ⟨_, _, ⟨T8, L8, k8, n8⟩, -, X8, ⟨Lc8, hQ8, l8, y8, z8⟩, st8⟩ := Jvm.LawKit.callS X4 hx (y := (⟨"java/lang/String", "checkIndex", "(II)V"⟩ : MethodName)) hown (mvT hZ (oW hw 101 rfl)) (mvT hZ (oW hw 102 rfl)) (mvT hZ (oW hw 6 rfl)) (mvT hZ (oW hw 103 rfl)) (by decide) (backOf (W := 0) (rmSCk l Z a0 hw [] (0 : Int32) (2 : Int32) cz fm h0 n0 Z0 SU OX (by decide) (by decide)) hZ (oW hw 103 rfl) (oW hw 6 rfl) (by decide) (by decide)) (g := (mkF m 37 #[oR a1, oI 0, oI 2] [(.int 2), (.int 0)])) rfl (by rw [hml]; rfl) (argsL := [(.int 0), (.int 2)]) (rest := []) (lenOf own_pd19 rfl) rfl (by show 2 * 0 + _ ≤ _; exact Nat.le_of_eq rfl) (hb hby own_d22_37) (fun _ _ => ⟨rfl, e4, (by decide : 0 + 0 ≤ _), (by decide : 0 + 0 ≤ _)⟩)
  dsimp only [Pt.U, Pt.locs, Pt.cells, Pt.slots] at X8 l8 y8 z8 st8 hQ8
  subst l8 y8 z8
  obtain ⟨rfl, Nq8, eq8⟩ := hQ8
  have N8 := Fr.app N2 Nq8
  have R8 : ∀ t, oG p e below T8 m 40 #[oR a1, oI 0, oI 2] [] t → Steps p.tables e below (s₁.setTop (entryFrame m #[(.ref a1), (.int 0)] 3)) t := fun t k => R7 t (st8 t k)
  have R9 : ∀ t, oG p e below T8 m 41 #[oR a1, oI 0, oI 2] [(.ref a1)] t → Steps p.tables e below (s₁.setTop (entryFrame m #[(.ref a1), (.int 0)] 3)) t := by
    intro t k
    refine R8 t ?_
    refine XS.aloadN X8.here hx rfl (hb hby own_d22_40) rfl rfl ?_
    exact k
  obtain ⟨T10, X10, e10, st10⟩ := getF X8 hx hZ hown (host := "") (Or.inl (oW hw 32 rfl)) Via.refl eq8 F1 (g := (mkF m 41 #[oR a1, oI 0, oI 2] [(.ref a1)])) rfl rfl (hb hby own_d22_41)
  have R10 : ∀ t, oG p e below T10 m 44 #[oR a1, oI 0, oI 2] [(.ref b1)] t → Steps p.tables e below (s₁.setTop (entryFrame m #[(.ref a1), (.int 0)] 3)) t := fun t k => R9 t (st10 t k)
  have R11 : ∀ t, oG p e below T10 m 46 #[oR a1, oI 0, oI 2] [(.int 2), (.int 0), (.ref b1)] t → Steps p.tables e below (s₁.setTop (entryFrame m #[(.ref a1), (.int 0)] 3)) t := by
    intro t k
    refine R10 t ?_
    refine XS.iloadN X10.here hx rfl (hb hby own_d22_44) rfl ?_
    refine XS.iloadN X10.here hx rfl (hb hby own_d22_45) rfl ?_
    exact k
  obtain ⟨_, _, ⟨T12, L12, k12, n12⟩, -, X12, ⟨Lc12, hQ12, l12, y12, z12⟩, st12⟩ := Jvm.LawKit.callS X10 hx (y := (⟨"java/lang/StringUTF16", "codePointAt", "([BII)I"⟩ : MethodName)) hown (mvT hZ (oW hw 109 rfl)) (mvT hZ (oW hw 110 rfl)) (mvT hZ (oW hw 21 rfl)) (mvT hZ (oW hw 111 rfl)) (by decide) (backOf (W := 0) (rmU3_40 l Z a0 hw [] b1 k1 cz fm c0 c1 h0 n0 Z0 SU OX V1 r0 r1) hZ (oW hw 111 rfl) (oW hw 21 rfl) (by decide) (by decide)) (g := (mkF m 46 #[oR a1, oI 0, oI 2] [(.int 2), (.int 0), (.ref b1)])) rfl (by rw [hml]; rfl) (argsL := [(.ref b1), (.int 0), (.int 2)]) (rest := []) (lenOf own_pd21 rfl) rfl (by show 2 * 0 + _ ≤ _; exact Nat.le_of_eq rfl) (hb hby own_d22_46) (fun _ _ => ⟨rfl, e10, (by decide : 0 + 0 ≤ _), (by decide : 0 + 0 ≤ _)⟩)
  dsimp only [Pt.U, Pt.locs, Pt.cells, Pt.slots] at X12 l12 y12 z12 st12 hQ12
  subst l12 y12 z12
  obtain ⟨rfl, Nq12, eq12⟩ := hQ12
  have N12 := Fr.app N8 Nq12
  have R12 : ∀ t, oG p e below T12 m 49 #[oR a1, oI 0, oI 2] [(.int (own_cp c0 c1))] t → Steps p.tables e below (s₁.setTop (entryFrame m #[(.ref a1), (.int 0)] 3)) t := fun t k => R11 t (st12 t k)
  obtain ⟨fs, hr, hrun, hended, hW, hsame⟩ := X12.leave (v := some (.int (own_cp c0 c1))) (fun h => by rw [Bd.returns] at h; cases h)
  refine ⟨_, _, R12 _ ?_, hrun, hended, _, _, rfl, ?_, ⟨_, rfl⟩, hW, hsame.mono (by decide) (by decide)⟩
  · exact retOut X12 hx Bd.returns rfl (Or.inl ⟨rfl, Or.inl rfl, _, rfl⟩) (hb hby own_d22_49) hr
  · show Q_rmCPA210 Z a1 b1 k1 cz fm c0 c1 h0 n0 _ T12.heap _
    rw [eq12]
    exact ⟨rfl, N12, rfl⟩
theorem own_ef_rmCPA211 (m : MethodId) (x0 : Addr) (x1 : Int32) : entryFrame m #[(.ref x0), (.int x1)] 3 = mkF m 0 #[oR x0, oI x1, .unset] [] := by first | (simp [entryFrame, mkF, argsToLocals, Value.category]; done) | rfl
def Q_rmCPA211 (Z : State) (a1 b1 : Addr) (k1 : ClassId) (cz : Int32) (fm : Value) (c0 c1 : Int32) (h0 : Heap) (n0 : Nat) (v : Option Value) (h : Heap) (L : List Loc) : Prop := v = some (.int c1) ∧ Fr n0 L ∧ h = h0
set_option maxRecDepth 65536 in
set_option maxHeartbeats 40000000 in
theorem rmCPA211 (l : Launch) (Z : State) (a0 : Array Value) (hw : oT a0 Z) (ws : List Jvm.Cond) (a1 b1 : Addr) (k1 : ClassId) (cz : Int32) (fm : Value) (c0 c1 : Int32) (h0 : Heap) (n0 : Nat) (Z0 : n0 ≤ h0.size) (SU : own_St Z cz fm) (OX : Old Z n0 h0) (E1 : Exa Z h0 a1 "java/lang/String") (C1 : Fld Z h0 a1 "java/lang/String" "coder" "B" (.int 1)) (F1 : Fld Z h0 a1 "java/lang/String" "value" "[B" (.ref b1)) (V1 : Arv Z h0 b1 k1 .byte (4 : Int32) [(.int (own_b0 c0)), (.int (own_b1 c0)), (.int (own_b0 c1)), (.int (own_b1 c1))] (.int 0)) (r0 : own_R c0) (r1 : own_R c1) :
    oK l Z (⟨"java/lang/String", "codePointAt", "(I)I"⟩ : MethodName) jdk_42_method_57_code 3 (some .int) ws (oM 3 0 0 44) #[(.ref a1), (.int 1)] h0 (Q_rmCPA211 Z a1 b1 k1 cz fm c0 c1 h0 n0) := by
  refine MetFree.of_bodySF (plainFor_of_name own_pn3) hisR ?_
  intro p e s m args below meth c s₁ Bd hml0 hP hK
  obtain ⟨rfl, hZ, hh⟩ := hP
  have hx := Bd.exec
  have hby := Bd.bytes
  have hml : c.maxLocals = 3 := hml0
  have hown : s.vm.findClass "java/lang/String" = some m.cls := findClass_of_methodNamed Bd.named
  have hnm := (name_of_methodNamed Bd.named Bd.method).1
  have X0 : Stand p l e (oM 3 0 0 44) s m #[(.ref a1), (.int 1)] below meth c s₁ [] 0 0 := Stand.of_body Bd
  have e0 : s₁.heap = h0 := by rw [← hh, Bd.state]; rfl
  have N0 := Fr.nil n0
  have R0 : ∀ t, oG p e below s₁ m 0 #[oR a1, oI 1, .unset] [] t → Steps p.tables e below (s₁.setTop (entryFrame m #[(.ref a1), (.int 1)] 3)) t := fun t k => castTop (own_ef_rmCPA211 m a1 (1 : Int32)) k
  have R1 : ∀ t, oG p e below s₁ m 1 #[oR a1, oI 1, .unset] [(.ref a1)] t → Steps p.tables e below (s₁.setTop (entryFrame m #[(.ref a1), (.int 1)] 3)) t := by
    intro t k
    refine R0 t ?_
    refine XS.aloadN X0.here hx rfl (hb hby own_d22_0) rfl rfl ?_
    exact k
  obtain ⟨cq2, kq2, q2a, q2b, q2c⟩ := isOf hZ e0 E1
  obtain ⟨_, _, ⟨T2, L2, k2, n2⟩, -, X2, ⟨Lc2, hQ2, l2, y2, z2⟩, st2⟩ := X0.virtualBack hx (y := (⟨"java/lang/String", "isLatin1", "()Z"⟩ : MethodName)) (z := (⟨"java/lang/String", "isLatin1", "()Z"⟩ : MethodName)) hown (mvT hZ (oW hw 96 rfl)) (mvT hZ (oW hw 97 rfl)) (notFace_of_selects (args := #[]) (mvT hZ (oW hw 99 rfl))) (mvT hZ (oW hw 99 rfl)) (mvT hZ (oW hw 98 rfl)) (by decide) (backOf (W := 0) (rmLat1 l Z a0 hw [] a1 cz fm h0 n0 Z0 SU OX C1) hZ (oW hw 100 rfl) (oW hw 6 rfl) (by decide) (by decide)) q2a q2c (g := (mkF m 1 #[oR a1, oI 1, .unset] [(.ref a1)])) rfl (by rw [hml]; rfl) (Steps.refl _) (argsL := []) (rest := []) (lenOf own_pd18 rfl) rfl (by show 2 * 0 + _ ≤ _; exact Nat.le_of_eq rfl) (hb hby own_d22_1) (fun _ _ => ⟨rfl, e0, (by decide : 0 + 0 ≤ _), (by decide : 0 + 0 ≤ _)⟩)
  dsimp only [Pt.U, Pt.locs, Pt.cells, Pt.slots] at X2 l2 y2 z2 st2 hQ2
  subst l2 y2 z2
  obtain ⟨rfl, Nq2, eq2⟩ := hQ2
  have N2 := Fr.app N0 Nq2
  have R2 : ∀ t, oG p e below T2 m 4 #[oR a1, oI 1, .unset] [(.int 0)] t → Steps p.tables e below (s₁.setTop (entryFrame m #[(.ref a1), (.int 1)] 3)) t := fun t k => R1 t (st2.trans k)
  have R3 : ∀ t, oG p e below T2 m 28 #[oR a1, oI 1, .unset] [(.ref a1)] t → Steps p.tables e below (s₁.setTop (entryFrame m #[(.ref a1), (.int 1)] 3)) t := by
    intro t k
    refine R2 t ?_
    refine XS.ifYes X2.here hx rfl (pc0 := 4) (pc' := 27) rfl (hb hby own_d22_4) rfl ((if0 _ _).trans (teq (by decide : ((0 : Int32) = (0 : Int32)))).1) (by decide) (by decide) ?_
    refine XS.aloadN X2.here hx rfl (hb hby own_d22_27) rfl rfl ?_
    exact k
  obtain ⟨T4, X4, e4, st4⟩ := getF X2 hx hZ hown (host := "") (Or.inl (oW hw 32 rfl)) Via.refl eq2 F1 (g := (mkF m 28 #[oR a1, oI 1, .unset] [(.ref a1)])) rfl rfl (hb hby own_d22_28)
  have R4 : ∀ t, oG p e below T4 m 31 #[oR a1, oI 1, .unset] [(.ref b1)] t → Steps p.tables e below (s₁.setTop (entryFrame m #[(.ref a1), (.int 1)] 3)) t := fun t k => R3 t (st4 t k)
  obtain ⟨cl5, Ar5, q5, S5, N5', H5, G5⟩ := id V1
  have R6 : ∀ t, oG p e below T4 m 37 #[oR a1, oI 1, oI ((4 : Int32) >>> ((1 : Int32) &&& 31))] [(.int ((4 : Int32) >>> ((1 : Int32) &&& 31))), (.int 1)] t → Steps p.tables e below (s₁.setTop (entryFrame m #[(.ref a1), (.int 1)] 3)) t := by
    intro t k
    refine R4 t ?_
    refine X4.arraylength hx (by rw [e4]; exact Ar5.1) (State.isArrayOf_alike hZ.alike Ar5.2.1) (g := (mkF m 31 #[oR a1, oI 1, .unset] [(.ref b1)])) rfl rfl (hb hby own_d22_31) _ ?_
    rw [len_of S5 N5']
    refine XS.iconst X4.here hx rfl (hb hby own_d22_32) ?_
    refine XS.ishr X4.here hx rfl (hb hby own_d22_33) rfl ?_
    show oG p e below T4 m 34 #[oR a1, oI 1, .unset] [(.int ((4 : Int32) >>> ((1 : Int32) &&& 31)))] _
    refine XS.istoreN X4.here hx rfl (hb hby own_d22_34) rfl (l' := #[oR a1, oI 1, oI ((4 : Int32) >>> ((1 : Int32) &&& 31))]) rfl ?_
    refine XS.iloadN X4.here hx rfl (hb hby own_d22_35) rfl ?_
    refine XS.iloadN X4.here hx rfl (hb hby own_d22_36) rfl ?_
    exact k
  have R7 : ∀ t, oG p e below T4 m 37 #[oR a1, oI 1, oI 2] [(.int 2), (.int 1)] t → Steps p.tables e below (s₁.setTop (entryFrame m #[(.ref a1), (.int 1)] 3)) t := by rw [(by decide : ((4 : Int32) >>> ((1 : Int32) &&& 31)) = (2 : Int32))] at R6; exact R6
  obtain ⟨_, _, ⟨T8, L8, k8, n8⟩, -, X8, ⟨Lc8, hQ8, l8, y8, z8⟩, st8⟩ := Jvm.LawKit.callS X4 hx (y := (⟨"java/lang/String", "checkIndex", "(II)V"⟩ : MethodName)) hown (mvT hZ (oW hw 101 rfl)) (mvT hZ (oW hw 102 rfl)) (mvT hZ (oW hw 6 rfl)) (mvT hZ (oW hw 103 rfl)) (by decide) (backOf (W := 0) (rmSCk l Z a0 hw [] (1 : Int32) (2 : Int32) cz fm h0 n0 Z0 SU OX (by decide) (by decide)) hZ (oW hw 103 rfl) (oW hw 6 rfl) (by decide) (by decide)) (g := (mkF m 37 #[oR a1, oI 1, oI 2] [(.int 2), (.int 1)])) rfl (by rw [hml]; rfl) (argsL := [(.int 1), (.int 2)]) (rest := []) (lenOf own_pd19 rfl) rfl (by show 2 * 0 + _ ≤ _; exact Nat.le_of_eq rfl) (hb hby own_d22_37) (fun _ _ => ⟨rfl, e4, (by decide : 0 + 0 ≤ _), (by decide : 0 + 0 ≤ _)⟩)
  dsimp only [Pt.U, Pt.locs, Pt.cells, Pt.slots] at X8 l8 y8 z8 st8 hQ8
  subst l8 y8 z8
  obtain ⟨rfl, Nq8, eq8⟩ := hQ8
  have N8 := Fr.app N2 Nq8
  have R8 : ∀ t, oG p e below T8 m 40 #[oR a1, oI 1, oI 2] [] t → Steps p.tables e below (s₁.setTop (entryFrame m #[(.ref a1), (.int 1)] 3)) t := fun t k => R7 t (st8 t k)
  have R9 : ∀ t, oG p e below T8 m 41 #[oR a1, oI 1, oI 2] [(.ref a1)] t → Steps p.tables e below (s₁.setTop (entryFrame m #[(.ref a1), (.int 1)] 3)) t := by
    intro t k
    refine R8 t ?_
    refine XS.aloadN X8.here hx rfl (hb hby own_d22_40) rfl rfl ?_
    exact k
  obtain ⟨T10, X10, e10, st10⟩ := getF X8 hx hZ hown (host := "") (Or.inl (oW hw 32 rfl)) Via.refl eq8 F1 (g := (mkF m 41 #[oR a1, oI 1, oI 2] [(.ref a1)])) rfl rfl (hb hby own_d22_41)
  have R10 : ∀ t, oG p e below T10 m 44 #[oR a1, oI 1, oI 2] [(.ref b1)] t → Steps p.tables e below (s₁.setTop (entryFrame m #[(.ref a1), (.int 1)] 3)) t := fun t k => R9 t (st10 t k)
  have R11 : ∀ t, oG p e below T10 m 46 #[oR a1, oI 1, oI 2] [(.int 2), (.int 1), (.ref b1)] t → Steps p.tables e below (s₁.setTop (entryFrame m #[(.ref a1), (.int 1)] 3)) t := by
    intro t k
    refine R10 t ?_
    refine XS.iloadN X10.here hx rfl (hb hby own_d22_44) rfl ?_
    refine XS.iloadN X10.here hx rfl (hb hby own_d22_45) rfl ?_
    exact k
  obtain ⟨_, _, ⟨T12, L12, k12, n12⟩, -, X12, ⟨Lc12, hQ12, l12, y12, z12⟩, st12⟩ := Jvm.LawKit.callS X10 hx (y := (⟨"java/lang/StringUTF16", "codePointAt", "([BII)I"⟩ : MethodName)) hown (mvT hZ (oW hw 109 rfl)) (mvT hZ (oW hw 110 rfl)) (mvT hZ (oW hw 21 rfl)) (mvT hZ (oW hw 111 rfl)) (by decide) (backOf (W := 0) (rmU3_41 l Z a0 hw [] b1 k1 cz fm c0 c1 h0 n0 Z0 SU OX V1 r0 r1) hZ (oW hw 111 rfl) (oW hw 21 rfl) (by decide) (by decide)) (g := (mkF m 46 #[oR a1, oI 1, oI 2] [(.int 2), (.int 1), (.ref b1)])) rfl (by rw [hml]; rfl) (argsL := [(.ref b1), (.int 1), (.int 2)]) (rest := []) (lenOf own_pd21 rfl) rfl (by show 2 * 0 + _ ≤ _; exact Nat.le_of_eq rfl) (hb hby own_d22_46) (fun _ _ => ⟨rfl, e10, (by decide : 0 + 0 ≤ _), (by decide : 0 + 0 ≤ _)⟩)
  dsimp only [Pt.U, Pt.locs, Pt.cells, Pt.slots] at X12 l12 y12 z12 st12 hQ12
  subst l12 y12 z12
  obtain ⟨rfl, Nq12, eq12⟩ := hQ12
  have N12 := Fr.app N8 Nq12
  have R12 : ∀ t, oG p e below T12 m 49 #[oR a1, oI 1, oI 2] [(.int c1)] t → Steps p.tables e below (s₁.setTop (entryFrame m #[(.ref a1), (.int 1)] 3)) t := fun t k => R11 t (st12 t k)
  obtain ⟨fs, hr, hrun, hended, hW, hsame⟩ := X12.leave (v := some (.int c1)) (fun h => by rw [Bd.returns] at h; cases h)
  refine ⟨_, _, R12 _ ?_, hrun, hended, _, _, rfl, ?_, ⟨_, rfl⟩, hW, hsame.mono (by decide) (by decide)⟩
  · exact retOut X12 hx Bd.returns rfl (Or.inl ⟨rfl, Or.inl rfl, _, rfl⟩) (hb hby own_d22_49) hr
  · show Q_rmCPA211 Z a1 b1 k1 cz fm c0 c1 h0 n0 _ T12.heap _
    rw [eq12]
    exact ⟨rfl, N12, rfl⟩
theorem own_ef_rmNBL1 (m : MethodId) (x0 : Int32) : entryFrame m #[(.int x0)] 1 = mkF m 0 #[oI x0] [] := by first | (simp [entryFrame, mkF, argsToLocals, Value.category]; done) | rfl
theorem own_d19_0 : decode jdk_52_method_3_code 0 = .ok (.iload_n 0, 1) := by decide +kernel
theorem own_d19_1 : decode jdk_52_method_3_code 1 = .ok (.ifCond .ge 11, 3) := by decide +kernel
theorem own_d19_12 : decode jdk_52_method_3_code 12 = .ok (.iload_n 0, 1) := by decide +kernel
theorem own_d19_13 : decode jdk_52_method_3_code 13 = .ok (.ldc 20, 2) := by decide +kernel
theorem own_d19_15 : decode jdk_52_method_3_code 15 = .ok (.if_icmp .lt 40, 3) := by decide +kernel
theorem own_d19_55 : decode jdk_52_method_3_code 55 = .ok (.iload_n 0, 1) := by decide +kernel
theorem own_d19_56 : decode jdk_52_method_3_code 56 = .ok (.iconst 1, 1) := by decide +kernel
theorem own_d19_57 : decode jdk_52_method_3_code 57 = .ok (.ishl, 1) := by decide +kernel
theorem own_d19_58 : decode jdk_52_method_3_code 58 = .ok (.ireturn, 1) := by decide +kernel
def Q_rmNBL1 (Z : State)  (h0 : Heap) (n0 : Nat) (v : Option Value) (h : Heap) (L : List Loc) : Prop := v = some (.int 2) ∧ Fr n0 L ∧ h = h0
set_option maxRecDepth 65536 in
set_option maxHeartbeats 40000000 in
theorem rmNBL1 (l : Launch) (Z : State) (a0 : Array Value) (hw : oT a0 Z) (ws : List Jvm.Cond)  (h0 : Heap) (n0 : Nat) (Z0 : n0 ≤ h0.size)  :
    MetFree l (⟨"java/lang/StringUTF16", "newBytesLength", "(I)I"⟩ : MethodName) (head1 (Jvm.Cond.code (⟨"java/lang/StringUTF16", "newBytesLength", "(I)I"⟩ : MethodName) jdk_52_method_3_code 1 (some .int) :: ws) (oM 0 0 0 0)) (fun a U => a = #[(.int 1)] ∧ Z.Warmed39 U.vm ∧ U.heap = h0) (fun _ _ _ _ _ => True) (fun _ U o U' => ∃ v L, o = .returned v ∧ Q_rmNBL1 Z  h0 n0 v U'.heap L ∧ FrameEnd U o U' L (oM 0 0 0 0).cells (oM 0 0 0 0).slots) := by
  refine MetFree.of_bodySF (plainFor_of_name own_pn5) hisR ?_
  intro p e s m args below meth c s₁ Bd hml0 hP hK
  obtain ⟨rfl, hZ, hh⟩ := hP
  have hx := Bd.exec
  have hby := Bd.bytes
  have hml : c.maxLocals = 1 := hml0
  have hown : s.vm.findClass "java/lang/StringUTF16" = some m.cls := findClass_of_methodNamed Bd.named
  have hnm := (name_of_methodNamed Bd.named Bd.method).1
  have X0 : Stand p l e (oM 0 0 0 0) s m #[(.int 1)] below meth c s₁ [] 0 0 := Stand.of_body Bd
  have e0 : s₁.heap = h0 := by rw [← hh, Bd.state]; rfl
  have N0 := Fr.nil n0
  have R0 : ∀ t, oG p e below s₁ m 0 #[oI 1] [] t → Steps p.tables e below (s₁.setTop (entryFrame m #[(.int 1)] 1)) t := fun t k => castTop (own_ef_rmNBL1 m (1 : Int32)) k
  have R1 : ∀ t, oG p e below s₁ m 58 #[oI 1] [(.int ((1 : Int32) <<< ((1 : Int32) &&& 31)))] t → Steps p.tables e below (s₁.setTop (entryFrame m #[(.int 1)] 1)) t := by
    intro t k
    refine R0 t ?_
    refine XS.iloadN X0.here hx rfl (hb hby own_d19_0) rfl ?_
    refine XS.ifYes X0.here hx rfl (pc0 := 1) (pc' := 12) rfl (hb hby own_d19_1) rfl ((if0 _ _).trans (flt (by decide : ¬ ((1 : Int32) < (0 : Int32)))).2.1) (by decide) (by decide) ?_
    refine XS.iloadN X0.here hx rfl (hb hby own_d19_12) rfl ?_
    show oG p e below s₁ m 13 #[oI 1] [(.int 1)] _
    refine X0.ldcInt hx hown (mvT hZ (oW hw 81 rfl)) (g := (mkF m 13 #[oI 1] [(.int 1)])) rfl (hb hby own_d19_13) _ ?_
    refine XS.icmpYes X0.here hx rfl (pc0 := 15) (pc' := 55) rfl (hb hby own_d19_15) rfl (tlt (by decide : ((1 : Int32) < (1073741823 : Int32)))).1 (by decide) (by decide) ?_
    refine XS.iloadN X0.here hx rfl (hb hby own_d19_55) rfl ?_
    refine XS.iconst X0.here hx rfl (hb hby own_d19_56) ?_
    show oG p e below s₁ m 57 #[oI 1] [(.int 1), (.int 1)] _
    refine XS.ishl X0.here hx rfl (hb hby own_d19_57) rfl ?_
    exact k
  have R2 : ∀ t, oG p e below s₁ m 58 #[oI 1] [(.int 2)] t → Steps p.tables e below (s₁.setTop (entryFrame m #[(.int 1)] 1)) t := by rw [(by decide : ((1 : Int32) <<< ((1 : Int32) &&& 31)) = (2 : Int32))] at R1; exact R1
  obtain ⟨fs, hr, hrun, hended, hW, hsame⟩ := X0.leave (v := some (.int 2)) (fun h => by rw [Bd.returns] at h; cases h)
  refine ⟨_, _, R2 _ ?_, hrun, hended, _, _, rfl, ?_, ⟨_, rfl⟩, hW, hsame.mono (by decide) (by decide)⟩
  · exact retOut X0 hx Bd.returns rfl (Or.inl ⟨rfl, Or.inl rfl, _, rfl⟩) (hb hby own_d19_58) hr
  · show Q_rmNBL1 Z  h0 n0 _ s₁.heap _
    rw [e0]
    exact ⟨rfl, N0, rfl⟩
theorem own_ef_rmNBF1 (m : MethodId) (x0 : Int32) : entryFrame m #[(.int x0)] 1 = mkF m 0 #[oI x0] [] := by first | (simp [entryFrame, mkF, argsToLocals, Value.category]; done) | rfl
theorem own_d18_0 : decode jdk_52_method_2_code 0 = .ok (.iload_n 0, 1) := by decide +kernel
theorem own_d18_1 : decode jdk_52_method_2_code 1 = .ok (.invokestatic 11, 3) := by decide +kernel
theorem own_pd15 : parseMethodDescriptor "(I)I" = some ⟨[.int], some .int⟩ := by decide +kernel
theorem own_d18_4 : decode jdk_52_method_2_code 4 = .ok (.newarray .byte, 2) := by decide +kernel
theorem own_d18_6 : decode jdk_52_method_2_code 6 = .ok (.areturn, 1) := by decide +kernel
def Q_rmNBF1 (Z : State)  (h0 : Heap) (n0 : Nat) (v : Option Value) (h : Heap) (L : List Loc) : Prop := ∃ (b : Addr) (k : ClassId), v = some (.ref b) ∧ Fr n0 L ∧ Keep h0 h [] ∧ h0.size ≤ b ∧ Arv Z h b k .byte (2 : Int32) [(.int 0), (.int 0)] (.int 0)
set_option maxRecDepth 65536 in
set_option maxHeartbeats 40000000 in
theorem rmNBF1 (l : Launch) (Z : State) (a0 : Array Value) (hw : oT a0 Z) (ws : List Jvm.Cond)  (h0 : Heap) (n0 : Nat) (Z0 : n0 ≤ h0.size)  :
    MetFree l (⟨"java/lang/StringUTF16", "newBytesFor", "(I)[B"⟩ : MethodName) (head1 (Jvm.Cond.code (⟨"java/lang/StringUTF16", "newBytesFor", "(I)[B"⟩ : MethodName) jdk_52_method_2_code 1 (some (.array .byte)) :: ws) (oM 1 1 2 12)) (fun a U => a = #[(.int 1)] ∧ Z.Warmed39 U.vm ∧ U.heap = h0) (fun _ _ _ _ _ => True) (fun _ U o U' => ∃ v L, o = .returned v ∧ Q_rmNBF1 Z  h0 n0 v U'.heap L ∧ FrameEnd U o U' L (oM 1 1 2 12).cells (oM 1 1 2 12).slots) := by
  refine MetFree.of_bodySF (plainFor_of_name own_pn5) hisR ?_
  intro p e s m args below meth c s₁ Bd hml0 hP hK
  obtain ⟨rfl, hZ, hh⟩ := hP
  have hx := Bd.exec
  have hby := Bd.bytes
  have hml : c.maxLocals = 1 := hml0
  have hown : s.vm.findClass "java/lang/StringUTF16" = some m.cls := findClass_of_methodNamed Bd.named
  have hnm := (name_of_methodNamed Bd.named Bd.method).1
  have X0 : Stand p l e (oM 1 1 2 12) s m #[(.int 1)] below meth c s₁ [] 0 0 := Stand.of_body Bd
  have e0 : s₁.heap = h0 := by rw [← hh, Bd.state]; rfl
  have N0 := Fr.nil n0
  have R0 : ∀ t, oG p e below s₁ m 0 #[oI 1] [] t → Steps p.tables e below (s₁.setTop (entryFrame m #[(.int 1)] 1)) t := fun t k => castTop (own_ef_rmNBF1 m (1 : Int32)) k
  have R1 : ∀ t, oG p e below s₁ m 1 #[oI 1] [(.int 1)] t → Steps p.tables e below (s₁.setTop (entryFrame m #[(.int 1)] 1)) t := by
    intro t k
    refine R0 t ?_
    refine XS.iloadN X0.here hx rfl (hb hby own_d18_0) rfl ?_
    exact k
  obtain ⟨_, _, ⟨T2, L2, k2, n2⟩, -, X2, ⟨Lc2, hQ2, l2, y2, z2⟩, st2⟩ := Jvm.LawKit.callS X0 hx (y := (⟨"java/lang/StringUTF16", "newBytesLength", "(I)I"⟩ : MethodName)) hown (mvT hZ (oW hw 78 rfl)) (mvT hZ (oW hw 79 rfl)) (mvT hZ (oW hw 21 rfl)) (mvT hZ (oW hw 80 rfl)) (by decide) (backOf (W := 0) (rmNBL1 l Z a0 hw [] h0 n0 Z0) hZ (oW hw 80 rfl) (oW hw 21 rfl) (by decide) (by decide)) (g := (mkF m 1 #[oI 1] [(.int 1)])) rfl (by rw [hml]; rfl) (argsL := [(.int 1)]) (rest := []) (lenOf own_pd15 rfl) rfl (by show 2 * 0 + _ ≤ _; exact Nat.le_of_eq rfl) (hb hby own_d18_1) (fun _ _ => ⟨rfl, e0, (by decide : 0 + 0 ≤ _), (by decide : 0 + 0 ≤ _)⟩)
  dsimp only [Pt.U, Pt.locs, Pt.cells, Pt.slots] at X2 l2 y2 z2 st2 hQ2
  subst l2 y2 z2
  obtain ⟨rfl, Nq2, eq2⟩ := hQ2
  have N2 := Fr.app N0 Nq2
  have R2 : ∀ t, oG p e below T2 m 4 #[oI 1] [(.int 2)] t → Steps p.tables e below (s₁.setTop (entryFrame m #[(.int 1)] 1)) t := fun t k => R1 t (st2 t k)
  obtain ⟨T3, h3, k3, X3, e3, E3, A3, st3⟩ := newP X2 hx hZ (oW hw 23 rfl) eq2 (g := (mkF m 4 #[oI 1] [(.int 2)])) rfl (hb hby own_d18_4) rfl (by decide) (cap := 2) (by decide) (by decide) (by decide) (by decide)
  obtain ⟨b3, g3⟩ : ∃ z, z = h0.size := ⟨_, rfl⟩
  rw [← g3] at A3 st3
  have R3 : ∀ t, oG p e below T3 m 6 #[oI 1] [(.ref b3)] t → Steps p.tables e below (s₁.setTop (entryFrame m #[(.int 1)] 1)) t := fun t k => R2 t (st3 t k)
  have g_b3 : n0 ≤ b3 := Nat.le_trans Z0 (Nat.le_of_eq g3.symm)
  have sz_b3 : h0.size ≤ b3 := Nat.le_trans (Keep.refl h0 []).1 (Nat.le_of_eq g3.symm)
  have Z3 : n0 ≤ h3.size := Nat.le_trans Z0 E3.1
  have K3 : Keep h0 h3 [] := (Keep.refl h0 []).ext E3
  have V3 : Arv Z h3 b3 k3 .byte (2 : Int32) [(.int 0), (.int 0)] (.int 0) := (Arv.new A3 (by decide)).pad (pad_rep [] (.int 0) 2)
  obtain ⟨fs, hr, hrun, hended, hW, hsame⟩ := X3.leave (v := some (.ref b3)) (fun h => by rw [Bd.returns] at h; cases h)
  refine ⟨_, _, R3 _ ?_, hrun, hended, _, _, rfl, ?_, ⟨_, rfl⟩, hW, hsame.mono (by decide) (by decide)⟩
  · exact retOut X3 hx Bd.returns rfl (Or.inr (Or.inr (Or.inr (Or.inr ⟨rfl, rfl, rfl⟩)))) (hb hby own_d18_6) hr
  · show Q_rmNBF1 Z  h0 n0 _ T3.heap _
    rw [e3]
    exact ⟨b3, k3, rfl, N2, K3, sz_b3, V3⟩
theorem own_ef_rmNBL2 (m : MethodId) (x0 : Int32) : entryFrame m #[(.int x0)] 1 = mkF m 0 #[oI x0] [] := by first | (simp [entryFrame, mkF, argsToLocals, Value.category]; done) | rfl
def Q_rmNBL2 (Z : State)  (h0 : Heap) (n0 : Nat) (v : Option Value) (h : Heap) (L : List Loc) : Prop := v = some (.int 4) ∧ Fr n0 L ∧ h = h0
set_option maxRecDepth 65536 in
set_option maxHeartbeats 40000000 in
theorem rmNBL2 (l : Launch) (Z : State) (a0 : Array Value) (hw : oT a0 Z) (ws : List Jvm.Cond)  (h0 : Heap) (n0 : Nat) (Z0 : n0 ≤ h0.size)  :
    MetFree l (⟨"java/lang/StringUTF16", "newBytesLength", "(I)I"⟩ : MethodName) (head1 (Jvm.Cond.code (⟨"java/lang/StringUTF16", "newBytesLength", "(I)I"⟩ : MethodName) jdk_52_method_3_code 1 (some .int) :: ws) (oM 0 0 0 0)) (fun a U => a = #[(.int 2)] ∧ Z.Warmed39 U.vm ∧ U.heap = h0) (fun _ _ _ _ _ => True) (fun _ U o U' => ∃ v L, o = .returned v ∧ Q_rmNBL2 Z  h0 n0 v U'.heap L ∧ FrameEnd U o U' L (oM 0 0 0 0).cells (oM 0 0 0 0).slots) := by
  refine MetFree.of_bodySF (plainFor_of_name own_pn5) hisR ?_
  intro p e s m args below meth c s₁ Bd hml0 hP hK
  obtain ⟨rfl, hZ, hh⟩ := hP
  have hx := Bd.exec
  have hby := Bd.bytes
  have hml : c.maxLocals = 1 := hml0
  have hown : s.vm.findClass "java/lang/StringUTF16" = some m.cls := findClass_of_methodNamed Bd.named
  have hnm := (name_of_methodNamed Bd.named Bd.method).1
  have X0 : Stand p l e (oM 0 0 0 0) s m #[(.int 2)] below meth c s₁ [] 0 0 := Stand.of_body Bd
  have e0 : s₁.heap = h0 := by rw [← hh, Bd.state]; rfl
  have N0 := Fr.nil n0
  have R0 : ∀ t, oG p e below s₁ m 0 #[oI 2] [] t → Steps p.tables e below (s₁.setTop (entryFrame m #[(.int 2)] 1)) t := fun t k => castTop (own_ef_rmNBL2 m (2 : Int32)) k
  have R1 : ∀ t, oG p e below s₁ m 58 #[oI 2] [(.int ((2 : Int32) <<< ((1 : Int32) &&& 31)))] t → Steps p.tables e below (s₁.setTop (entryFrame m #[(.int 2)] 1)) t := by
    intro t k
    refine R0 t ?_
    refine XS.iloadN X0.here hx rfl (hb hby own_d19_0) rfl ?_
    refine XS.ifYes X0.here hx rfl (pc0 := 1) (pc' := 12) rfl (hb hby own_d19_1) rfl ((if0 _ _).trans (flt (by decide : ¬ ((2 : Int32) < (0 : Int32)))).2.1) (by decide) (by decide) ?_
    refine XS.iloadN X0.here hx rfl (hb hby own_d19_12) rfl ?_
    show oG p e below s₁ m 13 #[oI 2] [(.int 2)] _
    refine X0.ldcInt hx hown (mvT hZ (oW hw 81 rfl)) (g := (mkF m 13 #[oI 2] [(.int 2)])) rfl (hb hby own_d19_13) _ ?_
    refine XS.icmpYes X0.here hx rfl (pc0 := 15) (pc' := 55) rfl (hb hby own_d19_15) rfl (tlt (by decide : ((2 : Int32) < (1073741823 : Int32)))).1 (by decide) (by decide) ?_
    refine XS.iloadN X0.here hx rfl (hb hby own_d19_55) rfl ?_
    refine XS.iconst X0.here hx rfl (hb hby own_d19_56) ?_
    show oG p e below s₁ m 57 #[oI 2] [(.int 1), (.int 2)] _
    refine XS.ishl X0.here hx rfl (hb hby own_d19_57) rfl ?_
    exact k
  have R2 : ∀ t, oG p e below s₁ m 58 #[oI 2] [(.int 4)] t → Steps p.tables e below (s₁.setTop (entryFrame m #[(.int 2)] 1)) t := by rw [(by decide : ((2 : Int32) <<< ((1 : Int32) &&& 31)) = (4 : Int32))] at R1; exact R1
  obtain ⟨fs, hr, hrun, hended, hW, hsame⟩ := X0.leave (v := some (.int 4)) (fun h => by rw [Bd.returns] at h; cases h)
  refine ⟨_, _, R2 _ ?_, hrun, hended, _, _, rfl, ?_, ⟨_, rfl⟩, hW, hsame.mono (by decide) (by decide)⟩
  · exact retOut X0 hx Bd.returns rfl (Or.inl ⟨rfl, Or.inl rfl, _, rfl⟩) (hb hby own_d19_58) hr
  · show Q_rmNBL2 Z  h0 n0 _ s₁.heap _
    rw [e0]
    exact ⟨rfl, N0, rfl⟩
theorem own_ef_rmNBF2 (m : MethodId) (x0 : Int32) : entryFrame m #[(.int x0)] 1 = mkF m 0 #[oI x0] [] := by first | (simp [entryFrame, mkF, argsToLocals, Value.category]; done) | rfl
def Q_rmNBF2 (Z : State)  (h0 : Heap) (n0 : Nat) (v : Option Value) (h : Heap) (L : List Loc) : Prop := ∃ (b : Addr) (k : ClassId), v = some (.ref b) ∧ Fr n0 L ∧ Keep h0 h [] ∧ h0.size ≤ b ∧ Arv Z h b k .byte (4 : Int32) [(.int 0), (.int 0), (.int 0), (.int 0)] (.int 0)
set_option maxRecDepth 65536 in
set_option maxHeartbeats 40000000 in
theorem rmNBF2 (l : Launch) (Z : State) (a0 : Array Value) (hw : oT a0 Z) (ws : List Jvm.Cond)  (h0 : Heap) (n0 : Nat) (Z0 : n0 ≤ h0.size)  :
    MetFree l (⟨"java/lang/StringUTF16", "newBytesFor", "(I)[B"⟩ : MethodName) (head1 (Jvm.Cond.code (⟨"java/lang/StringUTF16", "newBytesFor", "(I)[B"⟩ : MethodName) jdk_52_method_2_code 1 (some (.array .byte)) :: ws) (oM 1 1 4 12)) (fun a U => a = #[(.int 2)] ∧ Z.Warmed39 U.vm ∧ U.heap = h0) (fun _ _ _ _ _ => True) (fun _ U o U' => ∃ v L, o = .returned v ∧ Q_rmNBF2 Z  h0 n0 v U'.heap L ∧ FrameEnd U o U' L (oM 1 1 4 12).cells (oM 1 1 4 12).slots) := by
  refine MetFree.of_bodySF (plainFor_of_name own_pn5) hisR ?_
  intro p e s m args below meth c s₁ Bd hml0 hP hK
  obtain ⟨rfl, hZ, hh⟩ := hP
  have hx := Bd.exec
  have hby := Bd.bytes
  have hml : c.maxLocals = 1 := hml0
  have hown : s.vm.findClass "java/lang/StringUTF16" = some m.cls := findClass_of_methodNamed Bd.named
  have hnm := (name_of_methodNamed Bd.named Bd.method).1
  have X0 : Stand p l e (oM 1 1 4 12) s m #[(.int 2)] below meth c s₁ [] 0 0 := Stand.of_body Bd
  have e0 : s₁.heap = h0 := by rw [← hh, Bd.state]; rfl
  have N0 := Fr.nil n0
  have R0 : ∀ t, oG p e below s₁ m 0 #[oI 2] [] t → Steps p.tables e below (s₁.setTop (entryFrame m #[(.int 2)] 1)) t := fun t k => castTop (own_ef_rmNBF2 m (2 : Int32)) k
  have R1 : ∀ t, oG p e below s₁ m 1 #[oI 2] [(.int 2)] t → Steps p.tables e below (s₁.setTop (entryFrame m #[(.int 2)] 1)) t := by
    intro t k
    refine R0 t ?_
    refine XS.iloadN X0.here hx rfl (hb hby own_d18_0) rfl ?_
    exact k
  obtain ⟨_, _, ⟨T2, L2, k2, n2⟩, -, X2, ⟨Lc2, hQ2, l2, y2, z2⟩, st2⟩ := Jvm.LawKit.callS X0 hx (y := (⟨"java/lang/StringUTF16", "newBytesLength", "(I)I"⟩ : MethodName)) hown (mvT hZ (oW hw 78 rfl)) (mvT hZ (oW hw 79 rfl)) (mvT hZ (oW hw 21 rfl)) (mvT hZ (oW hw 80 rfl)) (by decide) (backOf (W := 0) (rmNBL2 l Z a0 hw [] h0 n0 Z0) hZ (oW hw 80 rfl) (oW hw 21 rfl) (by decide) (by decide)) (g := (mkF m 1 #[oI 2] [(.int 2)])) rfl (by rw [hml]; rfl) (argsL := [(.int 2)]) (rest := []) (lenOf own_pd15 rfl) rfl (by show 2 * 0 + _ ≤ _; exact Nat.le_of_eq rfl) (hb hby own_d18_1) (fun _ _ => ⟨rfl, e0, (by decide : 0 + 0 ≤ _), (by decide : 0 + 0 ≤ _)⟩)
  dsimp only [Pt.U, Pt.locs, Pt.cells, Pt.slots] at X2 l2 y2 z2 st2 hQ2
  subst l2 y2 z2
  obtain ⟨rfl, Nq2, eq2⟩ := hQ2
  have N2 := Fr.app N0 Nq2
  have R2 : ∀ t, oG p e below T2 m 4 #[oI 2] [(.int 4)] t → Steps p.tables e below (s₁.setTop (entryFrame m #[(.int 2)] 1)) t := fun t k => R1 t (st2 t k)
  obtain ⟨T3, h3, k3, X3, e3, E3, A3, st3⟩ := newP X2 hx hZ (oW hw 23 rfl) eq2 (g := (mkF m 4 #[oI 2] [(.int 4)])) rfl (hb hby own_d18_4) rfl (by decide) (cap := 4) (by decide) (by decide) (by decide) (by decide)
  obtain ⟨b3, g3⟩ : ∃ z, z = h0.size := ⟨_, rfl⟩
  rw [← g3] at A3 st3
  have R3 : ∀ t, oG p e below T3 m 6 #[oI 2] [(.ref b3)] t → Steps p.tables e below (s₁.setTop (entryFrame m #[(.int 2)] 1)) t := fun t k => R2 t (st3 t k)
  have g_b3 : n0 ≤ b3 := Nat.le_trans Z0 (Nat.le_of_eq g3.symm)
  have sz_b3 : h0.size ≤ b3 := Nat.le_trans (Keep.refl h0 []).1 (Nat.le_of_eq g3.symm)
  have Z3 : n0 ≤ h3.size := Nat.le_trans Z0 E3.1
  have K3 : Keep h0 h3 [] := (Keep.refl h0 []).ext E3
  have V3 : Arv Z h3 b3 k3 .byte (4 : Int32) [(.int 0), (.int 0), (.int 0), (.int 0)] (.int 0) := (Arv.new A3 (by decide)).pad (pad_rep [] (.int 0) 4)
  obtain ⟨fs, hr, hrun, hended, hW, hsame⟩ := X3.leave (v := some (.ref b3)) (fun h => by rw [Bd.returns] at h; cases h)
  refine ⟨_, _, R3 _ ?_, hrun, hended, _, _, rfl, ?_, ⟨_, rfl⟩, hW, hsame.mono (by decide) (by decide)⟩
  · exact retOut X3 hx Bd.returns rfl (Or.inr (Or.inr (Or.inr (Or.inr ⟨rfl, rfl, rfl⟩)))) (hb hby own_d18_6) hr
  · show Q_rmNBF2 Z  h0 n0 _ T3.heap _
    rw [e3]
    exact ⟨b3, k3, rfl, N2, K3, sz_b3, V3⟩
theorem own_ef_rmPC20 (m : MethodId) (x0 : Addr) (x1 : Int32) (x2 : Int32) : entryFrame m #[(.ref x0), (.int x1), (.int x2)] 3 = mkF m 0 #[oR x0, oI x1, oI x2] [] := by first | (simp [entryFrame, mkF, argsToLocals, Value.category]; done) | rfl
theorem own_d20_0 : decode jdk_52_method_4_code 0 = .ok (.getstatic 44, 3) := by decide +kernel
theorem own_d20_3 : decode jdk_52_method_4_code 3 = .ok (.ifCond .ne 25, 3) := by decide +kernel
theorem own_d20_28 : decode jdk_52_method_4_code 28 = .ok (.iload_n 1, 1) := by decide +kernel
theorem own_d20_29 : decode jdk_52_method_4_code 29 = .ok (.iconst 1, 1) := by decide +kernel
theorem own_d20_30 : decode jdk_52_method_4_code 30 = .ok (.ishl, 1) := by decide +kernel
theorem own_d20_31 : decode jdk_52_method_4_code 31 = .ok (.istore_n 1, 1) := by decide +kernel
theorem own_d20_32 : decode jdk_52_method_4_code 32 = .ok (.aload_n 0, 1) := by decide +kernel
theorem own_d20_33 : decode jdk_52_method_4_code 33 = .ok (.iload_n 1, 1) := by decide +kernel
theorem own_d20_34 : decode jdk_52_method_4_code 34 = .ok (.iinc 1 1, 3) := by decide +kernel
theorem own_d20_37 : decode jdk_52_method_4_code 37 = .ok (.iload_n 2, 1) := by decide +kernel
theorem own_d20_38 : decode jdk_52_method_4_code 38 = .ok (.getstatic 59, 3) := by decide +kernel
theorem own_d20_41 : decode jdk_52_method_4_code 41 = .ok (.ishr, 1) := by decide +kernel
theorem own_d20_42 : decode jdk_52_method_4_code 42 = .ok (.i2b, 1) := by decide +kernel
theorem own_d20_43 : decode jdk_52_method_4_code 43 = .ok (.bastore, 1) := by decide +kernel
theorem own_d20_44 : decode jdk_52_method_4_code 44 = .ok (.aload_n 0, 1) := by decide +kernel
theorem own_d20_45 : decode jdk_52_method_4_code 45 = .ok (.iload_n 1, 1) := by decide +kernel
theorem own_d20_46 : decode jdk_52_method_4_code 46 = .ok (.iload_n 2, 1) := by decide +kernel
theorem own_d20_47 : decode jdk_52_method_4_code 47 = .ok (.getstatic 63, 3) := by decide +kernel
theorem own_d20_50 : decode jdk_52_method_4_code 50 = .ok (.ishr, 1) := by decide +kernel
theorem own_d20_51 : decode jdk_52_method_4_code 51 = .ok (.i2b, 1) := by decide +kernel
theorem own_d20_52 : decode jdk_52_method_4_code 52 = .ok (.bastore, 1) := by decide +kernel
theorem own_d20_53 : decode jdk_52_method_4_code 53 = .ok (.return_, 1) := by decide +kernel
def Q_rmPC20 (Z : State) (a1 : Addr) (p3 : Int32) (k1 : ClassId) (y0 y1 : Int32) (cz : Int32) (fm : Value) (h0 : Heap) (n0 : Nat) (v : Option Value) (h : Heap) (L : List Loc) : Prop := v = none ∧ Fr n0 L ∧ Keep h0 h [a1] ∧ Arv Z h a1 k1 .byte (2 : Int32) [(.int (own_b0 p3)), (.int (own_b1 p3))] (.int 0)
set_option maxRecDepth 65536 in
set_option maxHeartbeats 40000000 in
theorem rmPC20 (l : Launch) (Z : State) (a0 : Array Value) (hw : oT a0 Z) (ws : List Jvm.Cond) (a1 : Addr) (p3 : Int32) (k1 : ClassId) (y0 y1 : Int32) (cz : Int32) (fm : Value) (h0 : Heap) (n0 : Nat) (Z0 : n0 ≤ h0.size) (SU : own_St Z cz fm) (OX : Old Z n0 h0) (V1 : Arv Z h0 a1 k1 .byte (2 : Int32) [(.int y0), (.int y1)] (.int 0)) (g_a1 : n0 ≤ a1) :
    oK l Z (⟨"java/lang/StringUTF16", "putChar", "([BII)V"⟩ : MethodName) jdk_52_method_4_code 3 none ws (oM 0 0 0 0) #[(.ref a1), (.int 0), (.int p3)] h0 (Q_rmPC20 Z a1 p3 k1 y0 y1 cz fm h0 n0) := by
  refine MetFree.of_bodySF (plainFor_of_name own_pn5) hisR ?_
  intro p e s m args below meth c s₁ Bd hml0 hP hK
  obtain ⟨rfl, hZ, hh⟩ := hP
  have hx := Bd.exec
  have hby := Bd.bytes
  have hml : c.maxLocals = 3 := hml0
  have hown : s.vm.findClass "java/lang/StringUTF16" = some m.cls := findClass_of_methodNamed Bd.named
  have hnm := (name_of_methodNamed Bd.named Bd.method).1
  have X0 : Stand p l e (oM 0 0 0 0) s m #[(.ref a1), (.int 0), (.int p3)] below meth c s₁ [] 0 0 := Stand.of_body Bd
  have e0 : s₁.heap = h0 := by rw [← hh, Bd.state]; rfl
  have N0 := Fr.nil n0
  have R0 : ∀ t, oG p e below s₁ m 0 #[oR a1, oI 0, oI p3] [] t → Steps p.tables e below (s₁.setTop (entryFrame m #[(.ref a1), (.int 0), (.int p3)] 3)) t := fun t k => castTop (own_ef_rmPC20 m a1 (0 : Int32) p3) k
  obtain ⟨T1, X1, e1, st1⟩ := getS2 X0 hx hZ hown (host := "") (Or.inl (oW hw 85 rfl)) Via.refl e0 (SU.2.2.1.ext OX.2) (g := (mkF m 0 #[oR a1, oI 0, oI p3] [])) rfl (hb hby own_d20_0)
  have R1 : ∀ t, oG p e below T1 m 3 #[oR a1, oI 0, oI p3] [(.int 1)] t → Steps p.tables e below (s₁.setTop (entryFrame m #[(.ref a1), (.int 0), (.int p3)] 3)) t := fun t k => R0 t (st1 t k)
  have R2 : ∀ t, oG p e below T1 m 31 #[oR a1, oI 0, oI p3] [(.int ((0 : Int32) <<< ((1 : Int32) &&& 31)))] t → Steps p.tables e below (s₁.setTop (entryFrame m #[(.ref a1), (.int 0), (.int p3)] 3)) t := by
    intro t k
    refine R1 t ?_
    refine XS.ifYes X1.here hx rfl (pc0 := 3) (pc' := 28) rfl (hb hby own_d20_3) rfl ((if0 _ _).trans (feq (by decide : ¬ ((1 : Int32) = (0 : Int32)))).2) (by decide) (by decide) ?_
    refine XS.iloadN X1.here hx rfl (hb hby own_d20_28) rfl ?_
    refine XS.iconst X1.here hx rfl (hb hby own_d20_29) ?_
    show oG p e below T1 m 30 #[oR a1, oI 0, oI p3] [(.int 1), (.int 0)] _
    refine XS.ishl X1.here hx rfl (hb hby own_d20_30) rfl ?_
    exact k
  have R3 : ∀ t, oG p e below T1 m 31 #[oR a1, oI 0, oI p3] [(.int 0)] t → Steps p.tables e below (s₁.setTop (entryFrame m #[(.ref a1), (.int 0), (.int p3)] 3)) t := by rw [(by decide : ((0 : Int32) <<< ((1 : Int32) &&& 31)) = (0 : Int32))] at R2; exact R2
  have R4 : ∀ t, oG p e below T1 m 38 #[oR a1, oI 1, oI p3] [(.int p3), (.int 0), (.ref a1)] t → Steps p.tables e below (s₁.setTop (entryFrame m #[(.ref a1), (.int 0), (.int p3)] 3)) t := by
    intro t k
    refine R3 t ?_
    refine XS.istoreN X1.here hx rfl (hb hby own_d20_31) rfl (l' := #[oR a1, oI 0, oI p3]) rfl ?_
    refine XS.aloadN X1.here hx rfl (hb hby own_d20_32) rfl rfl ?_
    refine XS.iloadN X1.here hx rfl (hb hby own_d20_33) rfl ?_
    show oG p e below T1 m 34 #[oR a1, oI 0, oI p3] [(.int 0), (.ref a1)] _
    refine XS.iinc X1.here hx rfl (hb hby own_d20_34) rfl (l' := #[oR a1, oI 1, oI p3]) rfl ?_
    refine XS.iloadN X1.here hx rfl (hb hby own_d20_37) rfl ?_
    exact k
  obtain ⟨T5, X5, e5, st5⟩ := getS2 X1 hx hZ hown (host := "") (Or.inl (oW hw 86 rfl)) Via.refl e1 (SU.2.2.2.1.ext OX.2) (g := (mkF m 38 #[oR a1, oI 1, oI p3] [(.int p3), (.int 0), (.ref a1)])) rfl (hb hby own_d20_38)
  have R5 : ∀ t, oG p e below T5 m 41 #[oR a1, oI 1, oI p3] [(.int 0), (.int p3), (.int 0), (.ref a1)] t → Steps p.tables e below (s₁.setTop (entryFrame m #[(.ref a1), (.int 0), (.int p3)] 3)) t := fun t k => R4 t (st5 t k)
  have R6 : ∀ t, oG p e below T5 m 43 #[oR a1, oI 1, oI p3] [(.int ((p3 >>> ((0 : Int32) &&& 31)).toInt8.toInt32)), (.int 0), (.ref a1)] t → Steps p.tables e below (s₁.setTop (entryFrame m #[(.ref a1), (.int 0), (.int p3)] 3)) t := by
    intro t k
    refine R5 t ?_
    refine XS.ishr X5.here hx rfl (hb hby own_d20_41) rfl ?_
    refine XS.i2b X5.here hx rfl (hb hby own_d20_42) rfl ?_
    exact k
  obtain ⟨cl7, Ar7, q7, S7, N7', H7, G7⟩ := id V1
  have hin7 : ¬ ((0 : Int32) < 0 ∨ cl7.slots.size ≤ ((0 : Int32)).toNatClampNeg) := inb_of S7 ⟨by decide, by decide⟩
  obtain ⟨T8, h8, X8, e8, W8, st8⟩ := stB X5 hx hZ e5 Ar7 (j := (0 : Int32)) hin7 (g := (mkF m 43 #[oR a1, oI 1, oI p3] [(.int ((p3 >>> ((0 : Int32) &&& 31)).toInt8.toInt32)), (.int 0), (.ref a1)])) rfl rfl (hb hby own_d20_43)
  have R8 : ∀ t, oG p e below T8 m 44 #[oR a1, oI 1, oI p3] [] t → Steps p.tables e below (s₁.setTop (entryFrame m #[(.ref a1), (.int 0), (.int p3)] 3)) t := fun t k => R6 t (st8 t k)
  have Z8 : n0 ≤ h8.size := Nat.le_trans Z0 (Keep.of_wr W8).1
  have K8 : Keep h0 h8 [a1] := (Keep.refl h0 [a1]).wr W8 (Or.inl (by simp))
  have N8 := Fr.snoc X8 N0 g_a1
  have f9 : Old Z n0 h8 := OX.wr W8 g_a1
  have V8 : Arv Z h8 a1 k1 .byte (2 : Int32) [(.int (nar .byte ((p3 >>> ((0 : Int32) &&& 31)).toInt8.toInt32))), (.int y1)] (.int 0) := Arv.set Ar7 q7 S7 N7' H7 G7 (fits_nar_byte _) W8 0 rfl (Nat.le_of_ble_eq_true rfl)
  have R10 : ∀ t, oG p e below T8 m 47 #[oR a1, oI 1, oI p3] [(.int p3), (.int 1), (.ref a1)] t → Steps p.tables e below (s₁.setTop (entryFrame m #[(.ref a1), (.int 0), (.int p3)] 3)) t := by
    intro t k
    refine R8 t ?_
    refine XS.aloadN X8.here hx rfl (hb hby own_d20_44) rfl rfl ?_
    refine XS.iloadN X8.here hx rfl (hb hby own_d20_45) rfl ?_
    refine XS.iloadN X8.here hx rfl (hb hby own_d20_46) rfl ?_
    exact k
  obtain ⟨T11, X11, e11, st11⟩ := getS2 X8 hx hZ hown (host := "") (Or.inl (oW hw 87 rfl)) Via.refl e8 (SU.2.2.2.2.1.ext f9.2) (g := (mkF m 47 #[oR a1, oI 1, oI p3] [(.int p3), (.int 1), (.ref a1)])) rfl (hb hby own_d20_47)
  have R11 : ∀ t, oG p e below T11 m 50 #[oR a1, oI 1, oI p3] [(.int 8), (.int p3), (.int 1), (.ref a1)] t → Steps p.tables e below (s₁.setTop (entryFrame m #[(.ref a1), (.int 0), (.int p3)] 3)) t := fun t k => R10 t (st11 t k)
  have R12 : ∀ t, oG p e below T11 m 52 #[oR a1, oI 1, oI p3] [(.int ((p3 >>> ((8 : Int32) &&& 31)).toInt8.toInt32)), (.int 1), (.ref a1)] t → Steps p.tables e below (s₁.setTop (entryFrame m #[(.ref a1), (.int 0), (.int p3)] 3)) t := by
    intro t k
    refine R11 t ?_
    refine XS.ishr X11.here hx rfl (hb hby own_d20_50) rfl ?_
    refine XS.i2b X11.here hx rfl (hb hby own_d20_51) rfl ?_
    exact k
  obtain ⟨cl13, Ar13, q13, S13, N13', H13, G13⟩ := id V8
  have hin13 : ¬ ((1 : Int32) < 0 ∨ cl13.slots.size ≤ ((1 : Int32)).toNatClampNeg) := inb_of S13 ⟨by decide, by decide⟩
  obtain ⟨T14, h14, X14, e14, W14, st14⟩ := stB X11 hx hZ e11 Ar13 (j := (1 : Int32)) hin13 (g := (mkF m 52 #[oR a1, oI 1, oI p3] [(.int ((p3 >>> ((8 : Int32) &&& 31)).toInt8.toInt32)), (.int 1), (.ref a1)])) rfl rfl (hb hby own_d20_52)
  have R14 : ∀ t, oG p e below T14 m 53 #[oR a1, oI 1, oI p3] [] t → Steps p.tables e below (s₁.setTop (entryFrame m #[(.ref a1), (.int 0), (.int p3)] 3)) t := fun t k => R12 t (st14 t k)
  have Z14 : n0 ≤ h14.size := Nat.le_trans Z8 (Keep.of_wr W14).1
  have K14 : Keep h0 h14 [a1] := K8.wr W14 (Or.inl (by simp))
  have N14 := Fr.snoc X14 N8 g_a1
  have f15 : Old Z n0 h14 := f9.wr W14 g_a1
  have V14 : Arv Z h14 a1 k1 .byte (2 : Int32) [(.int (nar .byte ((p3 >>> ((0 : Int32) &&& 31)).toInt8.toInt32))), (.int (nar .byte ((p3 >>> ((8 : Int32) &&& 31)).toInt8.toInt32)))] (.int 0) := Arv.set Ar13 q13 S13 N13' H13 G13 (fits_nar_byte _) W14 1 rfl (Nat.le_of_ble_eq_true rfl)
  obtain ⟨fs, hr, hrun, hended, hW, hsame⟩ := X14.leave (v := none) (fun _ => rfl)
  refine ⟨_, _, R14 _ ?_, hrun, hended, _, _, rfl, ?_, ⟨_, rfl⟩, hW, hsame.mono (by decide) (by decide)⟩
  · exact X14.returnOut hx Bd.returns (hb hby own_d20_53) hr
  · show Q_rmPC20 Z a1 p3 k1 y0 y1 cz fm h0 n0 _ T14.heap _
    rw [e14]
    exact ⟨rfl, N14, K14, V14⟩
theorem own_ef_rmPC40 (m : MethodId) (x0 : Addr) (x1 : Int32) (x2 : Int32) : entryFrame m #[(.ref x0), (.int x1), (.int x2)] 3 = mkF m 0 #[oR x0, oI x1, oI x2] [] := by first | (simp [entryFrame, mkF, argsToLocals, Value.category]; done) | rfl
def Q_rmPC40 (Z : State) (a1 : Addr) (p3 : Int32) (k1 : ClassId) (y0 y1 y2 y3 : Int32) (cz : Int32) (fm : Value) (h0 : Heap) (n0 : Nat) (v : Option Value) (h : Heap) (L : List Loc) : Prop := v = none ∧ Fr n0 L ∧ Keep h0 h [a1] ∧ Arv Z h a1 k1 .byte (4 : Int32) [(.int (own_b0 p3)), (.int (own_b1 p3)), (.int y2), (.int y3)] (.int 0)
set_option maxRecDepth 65536 in
set_option maxHeartbeats 40000000 in
theorem rmPC40 (l : Launch) (Z : State) (a0 : Array Value) (hw : oT a0 Z) (ws : List Jvm.Cond) (a1 : Addr) (p3 : Int32) (k1 : ClassId) (y0 y1 y2 y3 : Int32) (cz : Int32) (fm : Value) (h0 : Heap) (n0 : Nat) (Z0 : n0 ≤ h0.size) (SU : own_St Z cz fm) (OX : Old Z n0 h0) (V1 : Arv Z h0 a1 k1 .byte (4 : Int32) [(.int y0), (.int y1), (.int y2), (.int y3)] (.int 0)) (g_a1 : n0 ≤ a1) :
    oK l Z (⟨"java/lang/StringUTF16", "putChar", "([BII)V"⟩ : MethodName) jdk_52_method_4_code 3 none ws (oM 0 0 0 0) #[(.ref a1), (.int 0), (.int p3)] h0 (Q_rmPC40 Z a1 p3 k1 y0 y1 y2 y3 cz fm h0 n0) := by
  refine MetFree.of_bodySF (plainFor_of_name own_pn5) hisR ?_
  intro p e s m args below meth c s₁ Bd hml0 hP hK
  obtain ⟨rfl, hZ, hh⟩ := hP
  have hx := Bd.exec
  have hby := Bd.bytes
  have hml : c.maxLocals = 3 := hml0
  have hown : s.vm.findClass "java/lang/StringUTF16" = some m.cls := findClass_of_methodNamed Bd.named
  have hnm := (name_of_methodNamed Bd.named Bd.method).1
  have X0 : Stand p l e (oM 0 0 0 0) s m #[(.ref a1), (.int 0), (.int p3)] below meth c s₁ [] 0 0 := Stand.of_body Bd
  have e0 : s₁.heap = h0 := by rw [← hh, Bd.state]; rfl
  have N0 := Fr.nil n0
  have R0 : ∀ t, oG p e below s₁ m 0 #[oR a1, oI 0, oI p3] [] t → Steps p.tables e below (s₁.setTop (entryFrame m #[(.ref a1), (.int 0), (.int p3)] 3)) t := fun t k => castTop (own_ef_rmPC40 m a1 (0 : Int32) p3) k
  obtain ⟨T1, X1, e1, st1⟩ := getS2 X0 hx hZ hown (host := "") (Or.inl (oW hw 85 rfl)) Via.refl e0 (SU.2.2.1.ext OX.2) (g := (mkF m 0 #[oR a1, oI 0, oI p3] [])) rfl (hb hby own_d20_0)
  have R1 : ∀ t, oG p e below T1 m 3 #[oR a1, oI 0, oI p3] [(.int 1)] t → Steps p.tables e below (s₁.setTop (entryFrame m #[(.ref a1), (.int 0), (.int p3)] 3)) t := fun t k => R0 t (st1 t k)
  have R2 : ∀ t, oG p e below T1 m 31 #[oR a1, oI 0, oI p3] [(.int ((0 : Int32) <<< ((1 : Int32) &&& 31)))] t → Steps p.tables e below (s₁.setTop (entryFrame m #[(.ref a1), (.int 0), (.int p3)] 3)) t := by
    intro t k
    refine R1 t ?_
    refine XS.ifYes X1.here hx rfl (pc0 := 3) (pc' := 28) rfl (hb hby own_d20_3) rfl ((if0 _ _).trans (feq (by decide : ¬ ((1 : Int32) = (0 : Int32)))).2) (by decide) (by decide) ?_
    refine XS.iloadN X1.here hx rfl (hb hby own_d20_28) rfl ?_
    refine XS.iconst X1.here hx rfl (hb hby own_d20_29) ?_
    show oG p e below T1 m 30 #[oR a1, oI 0, oI p3] [(.int 1), (.int 0)] _
    refine XS.ishl X1.here hx rfl (hb hby own_d20_30) rfl ?_
    exact k
  have R3 : ∀ t, oG p e below T1 m 31 #[oR a1, oI 0, oI p3] [(.int 0)] t → Steps p.tables e below (s₁.setTop (entryFrame m #[(.ref a1), (.int 0), (.int p3)] 3)) t := by rw [(by decide : ((0 : Int32) <<< ((1 : Int32) &&& 31)) = (0 : Int32))] at R2; exact R2
  have R4 : ∀ t, oG p e below T1 m 38 #[oR a1, oI 1, oI p3] [(.int p3), (.int 0), (.ref a1)] t → Steps p.tables e below (s₁.setTop (entryFrame m #[(.ref a1), (.int 0), (.int p3)] 3)) t := by
    intro t k
    refine R3 t ?_
    refine XS.istoreN X1.here hx rfl (hb hby own_d20_31) rfl (l' := #[oR a1, oI 0, oI p3]) rfl ?_
    refine XS.aloadN X1.here hx rfl (hb hby own_d20_32) rfl rfl ?_
    refine XS.iloadN X1.here hx rfl (hb hby own_d20_33) rfl ?_
    show oG p e below T1 m 34 #[oR a1, oI 0, oI p3] [(.int 0), (.ref a1)] _
    refine XS.iinc X1.here hx rfl (hb hby own_d20_34) rfl (l' := #[oR a1, oI 1, oI p3]) rfl ?_
    refine XS.iloadN X1.here hx rfl (hb hby own_d20_37) rfl ?_
    exact k
  obtain ⟨T5, X5, e5, st5⟩ := getS2 X1 hx hZ hown (host := "") (Or.inl (oW hw 86 rfl)) Via.refl e1 (SU.2.2.2.1.ext OX.2) (g := (mkF m 38 #[oR a1, oI 1, oI p3] [(.int p3), (.int 0), (.ref a1)])) rfl (hb hby own_d20_38)
  have R5 : ∀ t, oG p e below T5 m 41 #[oR a1, oI 1, oI p3] [(.int 0), (.int p3), (.int 0), (.ref a1)] t → Steps p.tables e below (s₁.setTop (entryFrame m #[(.ref a1), (.int 0), (.int p3)] 3)) t := fun t k => R4 t (st5 t k)
  have R6 : ∀ t, oG p e below T5 m 43 #[oR a1, oI 1, oI p3] [(.int ((p3 >>> ((0 : Int32) &&& 31)).toInt8.toInt32)), (.int 0), (.ref a1)] t → Steps p.tables e below (s₁.setTop (entryFrame m #[(.ref a1), (.int 0), (.int p3)] 3)) t := by
    intro t k
    refine R5 t ?_
    refine XS.ishr X5.here hx rfl (hb hby own_d20_41) rfl ?_
    refine XS.i2b X5.here hx rfl (hb hby own_d20_42) rfl ?_
    exact k
  obtain ⟨cl7, Ar7, q7, S7, N7', H7, G7⟩ := id V1
  have hin7 : ¬ ((0 : Int32) < 0 ∨ cl7.slots.size ≤ ((0 : Int32)).toNatClampNeg) := inb_of S7 ⟨by decide, by decide⟩
  obtain ⟨T8, h8, X8, e8, W8, st8⟩ := stB X5 hx hZ e5 Ar7 (j := (0 : Int32)) hin7 (g := (mkF m 43 #[oR a1, oI 1, oI p3] [(.int ((p3 >>> ((0 : Int32) &&& 31)).toInt8.toInt32)), (.int 0), (.ref a1)])) rfl rfl (hb hby own_d20_43)
  have R8 : ∀ t, oG p e below T8 m 44 #[oR a1, oI 1, oI p3] [] t → Steps p.tables e below (s₁.setTop (entryFrame m #[(.ref a1), (.int 0), (.int p3)] 3)) t := fun t k => R6 t (st8 t k)
  have Z8 : n0 ≤ h8.size := Nat.le_trans Z0 (Keep.of_wr W8).1
  have K8 : Keep h0 h8 [a1] := (Keep.refl h0 [a1]).wr W8 (Or.inl (by simp))
  have N8 := Fr.snoc X8 N0 g_a1
  have f9 : Old Z n0 h8 := OX.wr W8 g_a1
  have V8 : Arv Z h8 a1 k1 .byte (4 : Int32) [(.int (nar .byte ((p3 >>> ((0 : Int32) &&& 31)).toInt8.toInt32))), (.int y1), (.int y2), (.int y3)] (.int 0) := Arv.set Ar7 q7 S7 N7' H7 G7 (fits_nar_byte _) W8 0 rfl (Nat.le_of_ble_eq_true rfl)
  have R10 : ∀ t, oG p e below T8 m 47 #[oR a1, oI 1, oI p3] [(.int p3), (.int 1), (.ref a1)] t → Steps p.tables e below (s₁.setTop (entryFrame m #[(.ref a1), (.int 0), (.int p3)] 3)) t := by
    intro t k
    refine R8 t ?_
    refine XS.aloadN X8.here hx rfl (hb hby own_d20_44) rfl rfl ?_
    refine XS.iloadN X8.here hx rfl (hb hby own_d20_45) rfl ?_
    refine XS.iloadN X8.here hx rfl (hb hby own_d20_46) rfl ?_
    exact k
  obtain ⟨T11, X11, e11, st11⟩ := getS2 X8 hx hZ hown (host := "") (Or.inl (oW hw 87 rfl)) Via.refl e8 (SU.2.2.2.2.1.ext f9.2) (g := (mkF m 47 #[oR a1, oI 1, oI p3] [(.int p3), (.int 1), (.ref a1)])) rfl (hb hby own_d20_47)
  have R11 : ∀ t, oG p e below T11 m 50 #[oR a1, oI 1, oI p3] [(.int 8), (.int p3), (.int 1), (.ref a1)] t → Steps p.tables e below (s₁.setTop (entryFrame m #[(.ref a1), (.int 0), (.int p3)] 3)) t := fun t k => R10 t (st11 t k)
  have R12 : ∀ t, oG p e below T11 m 52 #[oR a1, oI 1, oI p3] [(.int ((p3 >>> ((8 : Int32) &&& 31)).toInt8.toInt32)), (.int 1), (.ref a1)] t → Steps p.tables e below (s₁.setTop (entryFrame m #[(.ref a1), (.int 0), (.int p3)] 3)) t := by
    intro t k
    refine R11 t ?_
    refine XS.ishr X11.here hx rfl (hb hby own_d20_50) rfl ?_
    refine XS.i2b X11.here hx rfl (hb hby own_d20_51) rfl ?_
    exact k
  obtain ⟨cl13, Ar13, q13, S13, N13', H13, G13⟩ := id V8
  have hin13 : ¬ ((1 : Int32) < 0 ∨ cl13.slots.size ≤ ((1 : Int32)).toNatClampNeg) := inb_of S13 ⟨by decide, by decide⟩
  obtain ⟨T14, h14, X14, e14, W14, st14⟩ := stB X11 hx hZ e11 Ar13 (j := (1 : Int32)) hin13 (g := (mkF m 52 #[oR a1, oI 1, oI p3] [(.int ((p3 >>> ((8 : Int32) &&& 31)).toInt8.toInt32)), (.int 1), (.ref a1)])) rfl rfl (hb hby own_d20_52)
  have R14 : ∀ t, oG p e below T14 m 53 #[oR a1, oI 1, oI p3] [] t → Steps p.tables e below (s₁.setTop (entryFrame m #[(.ref a1), (.int 0), (.int p3)] 3)) t := fun t k => R12 t (st14 t k)
  have Z14 : n0 ≤ h14.size := Nat.le_trans Z8 (Keep.of_wr W14).1
  have K14 : Keep h0 h14 [a1] := K8.wr W14 (Or.inl (by simp))
  have N14 := Fr.snoc X14 N8 g_a1
  have f15 : Old Z n0 h14 := f9.wr W14 g_a1
  have V14 : Arv Z h14 a1 k1 .byte (4 : Int32) [(.int (nar .byte ((p3 >>> ((0 : Int32) &&& 31)).toInt8.toInt32))), (.int (nar .byte ((p3 >>> ((8 : Int32) &&& 31)).toInt8.toInt32))), (.int y2), (.int y3)] (.int 0) := Arv.set Ar13 q13 S13 N13' H13 G13 (fits_nar_byte _) W14 1 rfl (Nat.le_of_ble_eq_true rfl)
  obtain ⟨fs, hr, hrun, hended, hW, hsame⟩ := X14.leave (v := none) (fun _ => rfl)
  refine ⟨_, _, R14 _ ?_, hrun, hended, _, _, rfl, ?_, ⟨_, rfl⟩, hW, hsame.mono (by decide) (by decide)⟩
  · exact X14.returnOut hx Bd.returns (hb hby own_d20_53) hr
  · show Q_rmPC40 Z a1 p3 k1 y0 y1 y2 y3 cz fm h0 n0 _ T14.heap _
    rw [e14]
    exact ⟨rfl, N14, K14, V14⟩
theorem own_ef_rmPC41 (m : MethodId) (x0 : Addr) (x1 : Int32) (x2 : Int32) : entryFrame m #[(.ref x0), (.int x1), (.int x2)] 3 = mkF m 0 #[oR x0, oI x1, oI x2] [] := by first | (simp [entryFrame, mkF, argsToLocals, Value.category]; done) | rfl
def Q_rmPC41 (Z : State) (a1 : Addr) (p3 : Int32) (k1 : ClassId) (y0 y1 y2 y3 : Int32) (cz : Int32) (fm : Value) (h0 : Heap) (n0 : Nat) (v : Option Value) (h : Heap) (L : List Loc) : Prop := v = none ∧ Fr n0 L ∧ Keep h0 h [a1] ∧ Arv Z h a1 k1 .byte (4 : Int32) [(.int y0), (.int y1), (.int (own_b0 p3)), (.int (own_b1 p3))] (.int 0)
set_option maxRecDepth 65536 in
set_option maxHeartbeats 40000000 in
theorem rmPC41 (l : Launch) (Z : State) (a0 : Array Value) (hw : oT a0 Z) (ws : List Jvm.Cond) (a1 : Addr) (p3 : Int32) (k1 : ClassId) (y0 y1 y2 y3 : Int32) (cz : Int32) (fm : Value) (h0 : Heap) (n0 : Nat) (Z0 : n0 ≤ h0.size) (SU : own_St Z cz fm) (OX : Old Z n0 h0) (V1 : Arv Z h0 a1 k1 .byte (4 : Int32) [(.int y0), (.int y1), (.int y2), (.int y3)] (.int 0)) (g_a1 : n0 ≤ a1) :
    oK l Z (⟨"java/lang/StringUTF16", "putChar", "([BII)V"⟩ : MethodName) jdk_52_method_4_code 3 none ws (oM 0 0 0 0) #[(.ref a1), (.int 1), (.int p3)] h0 (Q_rmPC41 Z a1 p3 k1 y0 y1 y2 y3 cz fm h0 n0) := by
  refine MetFree.of_bodySF (plainFor_of_name own_pn5) hisR ?_
  intro p e s m args below meth c s₁ Bd hml0 hP hK
  obtain ⟨rfl, hZ, hh⟩ := hP
  have hx := Bd.exec
  have hby := Bd.bytes
  have hml : c.maxLocals = 3 := hml0
  have hown : s.vm.findClass "java/lang/StringUTF16" = some m.cls := findClass_of_methodNamed Bd.named
  have hnm := (name_of_methodNamed Bd.named Bd.method).1
  have X0 : Stand p l e (oM 0 0 0 0) s m #[(.ref a1), (.int 1), (.int p3)] below meth c s₁ [] 0 0 := Stand.of_body Bd
  have e0 : s₁.heap = h0 := by rw [← hh, Bd.state]; rfl
  have N0 := Fr.nil n0
  have R0 : ∀ t, oG p e below s₁ m 0 #[oR a1, oI 1, oI p3] [] t → Steps p.tables e below (s₁.setTop (entryFrame m #[(.ref a1), (.int 1), (.int p3)] 3)) t := fun t k => castTop (own_ef_rmPC41 m a1 (1 : Int32) p3) k
  obtain ⟨T1, X1, e1, st1⟩ := getS2 X0 hx hZ hown (host := "") (Or.inl (oW hw 85 rfl)) Via.refl e0 (SU.2.2.1.ext OX.2) (g := (mkF m 0 #[oR a1, oI 1, oI p3] [])) rfl (hb hby own_d20_0)
  have R1 : ∀ t, oG p e below T1 m 3 #[oR a1, oI 1, oI p3] [(.int 1)] t → Steps p.tables e below (s₁.setTop (entryFrame m #[(.ref a1), (.int 1), (.int p3)] 3)) t := fun t k => R0 t (st1 t k)
  have R2 : ∀ t, oG p e below T1 m 31 #[oR a1, oI 1, oI p3] [(.int ((1 : Int32) <<< ((1 : Int32) &&& 31)))] t → Steps p.tables e below (s₁.setTop (entryFrame m #[(.ref a1), (.int 1), (.int p3)] 3)) t := by
    intro t k
    refine R1 t ?_
    refine XS.ifYes X1.here hx rfl (pc0 := 3) (pc' := 28) rfl (hb hby own_d20_3) rfl ((if0 _ _).trans (feq (by decide : ¬ ((1 : Int32) = (0 : Int32)))).2) (by decide) (by decide) ?_
    refine XS.iloadN X1.here hx rfl (hb hby own_d20_28) rfl ?_
    refine XS.iconst X1.here hx rfl (hb hby own_d20_29) ?_
    show oG p e below T1 m 30 #[oR a1, oI 1, oI p3] [(.int 1), (.int 1)] _
    refine XS.ishl X1.here hx rfl (hb hby own_d20_30) rfl ?_
    exact k
  have R3 : ∀ t, oG p e below T1 m 31 #[oR a1, oI 1, oI p3] [(.int 2)] t → Steps p.tables e below (s₁.setTop (entryFrame m #[(.ref a1), (.int 1), (.int p3)] 3)) t := by rw [(by decide : ((1 : Int32) <<< ((1 : Int32) &&& 31)) = (2 : Int32))] at R2; exact R2
  have R4 : ∀ t, oG p e below T1 m 38 #[oR a1, oI 3, oI p3] [(.int p3), (.int 2), (.ref a1)] t → Steps p.tables e below (s₁.setTop (entryFrame m #[(.ref a1), (.int 1), (.int p3)] 3)) t := by
    intro t k
    refine R3 t ?_
    refine XS.istoreN X1.here hx rfl (hb hby own_d20_31) rfl (l' := #[oR a1, oI 2, oI p3]) rfl ?_
    refine XS.aloadN X1.here hx rfl (hb hby own_d20_32) rfl rfl ?_
    refine XS.iloadN X1.here hx rfl (hb hby own_d20_33) rfl ?_
    show oG p e below T1 m 34 #[oR a1, oI 2, oI p3] [(.int 2), (.ref a1)] _
    refine XS.iinc X1.here hx rfl (hb hby own_d20_34) rfl (l' := #[oR a1, oI 3, oI p3]) rfl ?_
    refine XS.iloadN X1.here hx rfl (hb hby own_d20_37) rfl ?_
    exact k
  obtain ⟨T5, X5, e5, st5⟩ := getS2 X1 hx hZ hown (host := "") (Or.inl (oW hw 86 rfl)) Via.refl e1 (SU.2.2.2.1.ext OX.2) (g := (mkF m 38 #[oR a1, oI 3, oI p3] [(.int p3), (.int 2), (.ref a1)])) rfl (hb hby own_d20_38)
  have R5 : ∀ t, oG p e below T5 m 41 #[oR a1, oI 3, oI p3] [(.int 0), (.int p3), (.int 2), (.ref a1)] t → Steps p.tables e below (s₁.setTop (entryFrame m #[(.ref a1), (.int 1), (.int p3)] 3)) t := fun t k => R4 t (st5 t k)
  have R6 : ∀ t, oG p e below T5 m 43 #[oR a1, oI 3, oI p3] [(.int ((p3 >>> ((0 : Int32) &&& 31)).toInt8.toInt32)), (.int 2), (.ref a1)] t → Steps p.tables e below (s₁.setTop (entryFrame m #[(.ref a1), (.int 1), (.int p3)] 3)) t := by
    intro t k
    refine R5 t ?_
    refine XS.ishr X5.here hx rfl (hb hby own_d20_41) rfl ?_
    refine XS.i2b X5.here hx rfl (hb hby own_d20_42) rfl ?_
    exact k
  obtain ⟨cl7, Ar7, q7, S7, N7', H7, G7⟩ := id V1
  have hin7 : ¬ ((2 : Int32) < 0 ∨ cl7.slots.size ≤ ((2 : Int32)).toNatClampNeg) := inb_of S7 ⟨by decide, by decide⟩
  obtain ⟨T8, h8, X8, e8, W8, st8⟩ := stB X5 hx hZ e5 Ar7 (j := (2 : Int32)) hin7 (g := (mkF m 43 #[oR a1, oI 3, oI p3] [(.int ((p3 >>> ((0 : Int32) &&& 31)).toInt8.toInt32)), (.int 2), (.ref a1)])) rfl rfl (hb hby own_d20_43)
  have R8 : ∀ t, oG p e below T8 m 44 #[oR a1, oI 3, oI p3] [] t → Steps p.tables e below (s₁.setTop (entryFrame m #[(.ref a1), (.int 1), (.int p3)] 3)) t := fun t k => R6 t (st8 t k)
  have Z8 : n0 ≤ h8.size := Nat.le_trans Z0 (Keep.of_wr W8).1
  have K8 : Keep h0 h8 [a1] := (Keep.refl h0 [a1]).wr W8 (Or.inl (by simp))
  have N8 := Fr.snoc X8 N0 g_a1
  have f9 : Old Z n0 h8 := OX.wr W8 g_a1
  have V8 : Arv Z h8 a1 k1 .byte (4 : Int32) [(.int y0), (.int y1), (.int (nar .byte ((p3 >>> ((0 : Int32) &&& 31)).toInt8.toInt32))), (.int y3)] (.int 0) := Arv.set Ar7 q7 S7 N7' H7 G7 (fits_nar_byte _) W8 2 rfl (Nat.le_of_ble_eq_true rfl)
  have R10 : ∀ t, oG p e below T8 m 47 #[oR a1, oI 3, oI p3] [(.int p3), (.int 3), (.ref a1)] t → Steps p.tables e below (s₁.setTop (entryFrame m #[(.ref a1), (.int 1), (.int p3)] 3)) t := by
    intro t k
    refine R8 t ?_
    refine XS.aloadN X8.here hx rfl (hb hby own_d20_44) rfl rfl ?_
    refine XS.iloadN X8.here hx rfl (hb hby own_d20_45) rfl ?_
    refine XS.iloadN X8.here hx rfl (hb hby own_d20_46) rfl ?_
    exact k
  obtain ⟨T11, X11, e11, st11⟩ := getS2 X8 hx hZ hown (host := "") (Or.inl (oW hw 87 rfl)) Via.refl e8 (SU.2.2.2.2.1.ext f9.2) (g := (mkF m 47 #[oR a1, oI 3, oI p3] [(.int p3), (.int 3), (.ref a1)])) rfl (hb hby own_d20_47)
  have R11 : ∀ t, oG p e below T11 m 50 #[oR a1, oI 3, oI p3] [(.int 8), (.int p3), (.int 3), (.ref a1)] t → Steps p.tables e below (s₁.setTop (entryFrame m #[(.ref a1), (.int 1), (.int p3)] 3)) t := fun t k => R10 t (st11 t k)
  have R12 : ∀ t, oG p e below T11 m 52 #[oR a1, oI 3, oI p3] [(.int ((p3 >>> ((8 : Int32) &&& 31)).toInt8.toInt32)), (.int 3), (.ref a1)] t → Steps p.tables e below (s₁.setTop (entryFrame m #[(.ref a1), (.int 1), (.int p3)] 3)) t := by
    intro t k
    refine R11 t ?_
    refine XS.ishr X11.here hx rfl (hb hby own_d20_50) rfl ?_
    refine XS.i2b X11.here hx rfl (hb hby own_d20_51) rfl ?_
    exact k
  obtain ⟨cl13, Ar13, q13, S13, N13', H13, G13⟩ := id V8
  have hin13 : ¬ ((3 : Int32) < 0 ∨ cl13.slots.size ≤ ((3 : Int32)).toNatClampNeg) := inb_of S13 ⟨by decide, by decide⟩
  obtain ⟨T14, h14, X14, e14, W14, st14⟩ := stB X11 hx hZ e11 Ar13 (j := (3 : Int32)) hin13 (g := (mkF m 52 #[oR a1, oI 3, oI p3] [(.int ((p3 >>> ((8 : Int32) &&& 31)).toInt8.toInt32)), (.int 3), (.ref a1)])) rfl rfl (hb hby own_d20_52)
  have R14 : ∀ t, oG p e below T14 m 53 #[oR a1, oI 3, oI p3] [] t → Steps p.tables e below (s₁.setTop (entryFrame m #[(.ref a1), (.int 1), (.int p3)] 3)) t := fun t k => R12 t (st14 t k)
  have Z14 : n0 ≤ h14.size := Nat.le_trans Z8 (Keep.of_wr W14).1
  have K14 : Keep h0 h14 [a1] := K8.wr W14 (Or.inl (by simp))
  have N14 := Fr.snoc X14 N8 g_a1
  have f15 : Old Z n0 h14 := f9.wr W14 g_a1
  have V14 : Arv Z h14 a1 k1 .byte (4 : Int32) [(.int y0), (.int y1), (.int (nar .byte ((p3 >>> ((0 : Int32) &&& 31)).toInt8.toInt32))), (.int (nar .byte ((p3 >>> ((8 : Int32) &&& 31)).toInt8.toInt32)))] (.int 0) := Arv.set Ar13 q13 S13 N13' H13 G13 (fits_nar_byte _) W14 3 rfl (Nat.le_of_ble_eq_true rfl)
  obtain ⟨fs, hr, hrun, hended, hW, hsame⟩ := X14.leave (v := none) (fun _ => rfl)
  refine ⟨_, _, R14 _ ?_, hrun, hended, _, _, rfl, ?_, ⟨_, rfl⟩, hW, hsame.mono (by decide) (by decide)⟩
  · exact X14.returnOut hx Bd.returns (hb hby own_d20_53) hr
  · show Q_rmPC41 Z a1 p3 k1 y0 y1 y2 y3 cz fm h0 n0 _ T14.heap _
    rw [e14]
    exact ⟨rfl, N14, K14, V14⟩
theorem own_ef_rmTB1 (m : MethodId) (x0 : Addr) (x1 : Int32) (x2 : Int32) : entryFrame m #[(.ref x0), (.int x1), (.int x2)] 5 = mkF m 0 #[oR x0, oI x1, oI x2, .unset, .unset] [] := by first | (simp [entryFrame, mkF, argsToLocals, Value.category]; done) | rfl
theorem own_d17_0 : decode jdk_52_method_14_code 0 = .ok (.iload_n 2, 1) := by decide +kernel
theorem own_d17_1 : decode jdk_52_method_14_code 1 = .ok (.invokestatic 107, 3) := by decide +kernel
theorem own_pd14 : parseMethodDescriptor "(I)[B" = some ⟨[.int], some (.array .byte)⟩ := by decide +kernel
theorem own_d17_4 : decode jdk_52_method_14_code 4 = .ok (.astore_n 3, 1) := by decide +kernel
theorem own_d17_5 : decode jdk_52_method_14_code 5 = .ok (.iconst 0, 1) := by decide +kernel
theorem own_d17_6 : decode jdk_52_method_14_code 6 = .ok (.istore 4, 2) := by decide +kernel
theorem own_d17_8 : decode jdk_52_method_14_code 8 = .ok (.iload 4, 2) := by decide +kernel
theorem own_d17_10 : decode jdk_52_method_14_code 10 = .ok (.iload_n 2, 1) := by decide +kernel
theorem own_d17_11 : decode jdk_52_method_14_code 11 = .ok (.if_icmp .ge 21, 3) := by decide +kernel
theorem own_d17_14 : decode jdk_52_method_14_code 14 = .ok (.aload_n 3, 1) := by decide +kernel
theorem own_d17_15 : decode jdk_52_method_14_code 15 = .ok (.iload 4, 2) := by decide +kernel
theorem own_d17_17 : decode jdk_52_method_14_code 17 = .ok (.aload_n 0, 1) := by decide +kernel
theorem own_d17_18 : decode jdk_52_method_14_code 18 = .ok (.iload_n 1, 1) := by decide +kernel
theorem own_d17_19 : decode jdk_52_method_14_code 19 = .ok (.caload, 1) := by decide +kernel
theorem own_d17_20 : decode jdk_52_method_14_code 20 = .ok (.invokestatic 111, 3) := by decide +kernel
theorem own_pd16 : parseMethodDescriptor "([BII)V" = some ⟨[(.array .byte), .int, .int], none⟩ := by decide +kernel
theorem own_d17_23 : decode jdk_52_method_14_code 23 = .ok (.iinc 1 1, 3) := by decide +kernel
theorem own_d17_26 : decode jdk_52_method_14_code 26 = .ok (.iinc 4 1, 3) := by decide +kernel
theorem own_d17_29 : decode jdk_52_method_14_code 29 = .ok (.goto (-21), 3) := by decide +kernel
theorem own_d17_32 : decode jdk_52_method_14_code 32 = .ok (.aload_n 3, 1) := by decide +kernel
theorem own_d17_33 : decode jdk_52_method_14_code 33 = .ok (.areturn, 1) := by decide +kernel
def Q_rmTB1 (Z : State) (a1 : Addr) (k1 : ClassId) (cz : Int32) (fm : Value) (c0 : Int32) (h0 : Heap) (n0 : Nat) (v : Option Value) (h : Heap) (L : List Loc) : Prop := ∃ (b : Addr) (k : ClassId), v = some (.ref b) ∧ Fr n0 L ∧ Keep h0 h [] ∧ h0.size ≤ b ∧ Arv Z h b k .byte (2 : Int32) [(.int (own_b0 c0)), (.int (own_b1 c0))] (.int 0)
set_option maxRecDepth 65536 in
set_option maxHeartbeats 40000000 in
theorem rmTB1 (l : Launch) (Z : State) (a0 : Array Value) (hw : oT a0 Z) (ws : List Jvm.Cond) (a1 : Addr) (k1 : ClassId) (cz : Int32) (fm : Value) (c0 : Int32) (h0 : Heap) (n0 : Nat) (Z0 : n0 ≤ h0.size) (SU : own_St Z cz fm) (OX : Old Z n0 h0) (Va1 : Arv Z h0 a1 k1 .char (1 : Int32) [(.int c0)] (.int 0)) :
    oK l Z (⟨"java/lang/StringUTF16", "toBytes", "([CII)[B"⟩ : MethodName) jdk_52_method_14_code 5 (some (.array .byte)) ws (oM 2 1 2 24) #[(.ref a1), (.int 0), (.int 1)] h0 (Q_rmTB1 Z a1 k1 cz fm c0 h0 n0) := by
  refine MetFree.of_bodySF (plainFor_of_name own_pn5) hisR ?_
  intro p e s m args below meth c s₁ Bd hml0 hP hK
  obtain ⟨rfl, hZ, hh⟩ := hP
  have hx := Bd.exec
  have hby := Bd.bytes
  have hml : c.maxLocals = 5 := hml0
  have hown : s.vm.findClass "java/lang/StringUTF16" = some m.cls := findClass_of_methodNamed Bd.named
  have hnm := (name_of_methodNamed Bd.named Bd.method).1
  have X0 : Stand p l e (oM 2 1 2 24) s m #[(.ref a1), (.int 0), (.int 1)] below meth c s₁ [] 0 0 := Stand.of_body Bd
  have e0 : s₁.heap = h0 := by rw [← hh, Bd.state]; rfl
  have N0 := Fr.nil n0
  have R0 : ∀ t, oG p e below s₁ m 0 #[oR a1, oI 0, oI 1, .unset, .unset] [] t → Steps p.tables e below (s₁.setTop (entryFrame m #[(.ref a1), (.int 0), (.int 1)] 5)) t := fun t k => castTop (own_ef_rmTB1 m a1 (0 : Int32) (1 : Int32)) k
  have R1 : ∀ t, oG p e below s₁ m 1 #[oR a1, oI 0, oI 1, .unset, .unset] [(.int 1)] t → Steps p.tables e below (s₁.setTop (entryFrame m #[(.ref a1), (.int 0), (.int 1)] 5)) t := by
    intro t k
    refine R0 t ?_
    refine XS.iloadN X0.here hx rfl (hb hby own_d17_0) rfl ?_
    exact k
  obtain ⟨_, _, ⟨T2, L2, k2, n2⟩, -, X2, ⟨Lc2, hQ2, l2, y2, z2⟩, st2⟩ := Jvm.LawKit.callS X0 hx (y := (⟨"java/lang/StringUTF16", "newBytesFor", "(I)[B"⟩ : MethodName)) hown (mvT hZ (oW hw 75 rfl)) (mvT hZ (oW hw 76 rfl)) (mvT hZ (oW hw 21 rfl)) (mvT hZ (oW hw 77 rfl)) (by decide) (backOf (W := 0) (rmNBF1 l Z a0 hw [] h0 n0 Z0) hZ (oW hw 77 rfl) (oW hw 21 rfl) (by decide) (by decide)) (g := (mkF m 1 #[oR a1, oI 0, oI 1, .unset, .unset] [(.int 1)])) rfl (by rw [hml]; rfl) (argsL := [(.int 1)]) (rest := []) (lenOf own_pd14 rfl) rfl (by show 2 * 0 + _ ≤ _; exact Nat.le_of_eq rfl) (hb hby own_d17_1) (fun _ _ => ⟨rfl, e0, (by decide : 0 + 1 ≤ _), (by decide : 0 + 2 ≤ _)⟩)
  dsimp only [Pt.U, Pt.locs, Pt.cells, Pt.slots] at X2 l2 y2 z2 st2 hQ2
  subst l2 y2 z2
  obtain ⟨bx, kx, rfl, Nq2, Kc2, sb2, Vn2⟩ := hQ2
  have N2 := Fr.app N0 Nq2
  have R2 : ∀ t, oG p e below T2 m 4 #[oR a1, oI 0, oI 1, .unset, .unset] [(.ref bx)] t → Steps p.tables e below (s₁.setTop (entryFrame m #[(.ref a1), (.int 0), (.int 1)] 5)) t := fun t k => R1 t (st2 t k)
  have ne_a1_bx : a1 ≠ bx := Nat.ne_of_lt (Nat.lt_of_lt_of_le Va1.lt sb2)
  have g_bx : n0 ≤ bx := Nat.le_trans Z0 sb2
  have sz_bx : h0.size ≤ bx := Nat.le_trans (Keep.refl h0 []).1 sb2
  have Z2 : n0 ≤ T2.heap.size := Nat.le_trans Z0 Kc2.1
  have K2 : Keep h0 T2.heap [] := (Keep.refl h0 []).trans Kc2 all0
  have f3 : Old Z n0 T2.heap := OX.keep Kc2 all0
  have f4 : Arv Z T2.heap a1 k1 .char (1 : Int32) [(.int c0)] (.int 0) := Va1.keep Kc2 nin0
  have R5 : ∀ t, oG p e below T2 m 19 #[oR a1, oI 0, oI 1, oR bx, oI 0] [(.int 0), (.ref a1), (.int 0), (.ref bx)] t → Steps p.tables e below (s₁.setTop (entryFrame m #[(.ref a1), (.int 0), (.int 1)] 5)) t := by
    intro t k
    refine R2 t ?_
    refine XS.astoreN X2.here hx rfl (hb hby own_d17_4) rfl rfl (l' := #[oR a1, oI 0, oI 1, oR bx, .unset]) rfl ?_
    refine XS.iconst X2.here hx rfl (hb hby own_d17_5) ?_
    refine XS.istore X2.here hx rfl (hb hby own_d17_6) rfl (l' := #[oR a1, oI 0, oI 1, oR bx, oI 0]) rfl ?_
    show oG p e below T2 m 8 #[oR a1, oI 0, oI 1, oR bx, oI 0] [] _
    refine XS.iload X2.here hx rfl (hb hby own_d17_8) rfl ?_
    refine XS.iloadN X2.here hx rfl (hb hby own_d17_10) rfl ?_
    refine XS.icmpNo X2.here hx rfl (hb hby own_d17_11) rfl (tlt (by decide : ((0 : Int32) < (1 : Int32)))).2.1 ?_
    refine XS.aloadN X2.here hx rfl (hb hby own_d17_14) rfl rfl ?_
    show oG p e below T2 m 15 #[oR a1, oI 0, oI 1, oR bx, oI 0] [(.ref bx)] _
    refine XS.iload X2.here hx rfl (hb hby own_d17_15) rfl ?_
    refine XS.aloadN X2.here hx rfl (hb hby own_d17_17) rfl rfl ?_
    refine XS.iloadN X2.here hx rfl (hb hby own_d17_18) rfl ?_
    exact k
  obtain ⟨cl6, Ar6, q6, S6, N6', H6, G6⟩ := id f4
  have hin6_0 : ¬ ((0 : Int32) < 0 ∨ cl6.slots.size ≤ ((0 : Int32)).toNatClampNeg) := inb_of S6 ⟨by decide, by decide⟩
  have hat6_0 : cl6.slots[((0 : Int32)).toNatClampNeg]? = some (.int c0) := H6.at hin6_0 rfl
  have R7 : ∀ t, oG p e below T2 m 20 #[oR a1, oI 0, oI 1, oR bx, oI 0] [(.int c0), (.int 0), (.ref bx)] t → Steps p.tables e below (s₁.setTop (entryFrame m #[(.ref a1), (.int 0), (.int 1)] 5)) t := by
    intro t k
    refine R5 t ?_
    refine X2.caload hx (j := (0 : Int32)) (v := (.int c0)) Ar6.1 (State.isArrayOf_alike hZ.alike Ar6.2.1) Ar6.2.2 hin6_0 hat6_0 (g := (mkF m 19 #[oR a1, oI 0, oI 1, oR bx, oI 0] [(.int 0), (.ref a1), (.int 0), (.ref bx)])) rfl rfl (hb hby own_d17_19) _ ?_
    exact k
  obtain ⟨_, _, ⟨T8, L8, k8, n8⟩, -, X8, ⟨Lc8, hQ8, l8, y8, z8⟩, st8⟩ := Jvm.LawKit.callS X2 hx (y := (⟨"java/lang/StringUTF16", "putChar", "([BII)V"⟩ : MethodName)) hown (mvT hZ (oW hw 82 rfl)) (mvT hZ (oW hw 83 rfl)) (mvT hZ (oW hw 21 rfl)) (mvT hZ (oW hw 84 rfl)) (by decide) (backOf (W := 0) (rmPC20 l Z a0 hw [] bx c0 kx (0 : Int32) (0 : Int32) cz fm T2.heap n0 Z2 SU f3 Vn2 g_bx) hZ (oW hw 84 rfl) (oW hw 21 rfl) (by decide) (by decide)) (g := (mkF m 20 #[oR a1, oI 0, oI 1, oR bx, oI 0] [(.int c0), (.int 0), (.ref bx)])) rfl (by rw [hml]; rfl) (argsL := [(.ref bx), (.int 0), (.int c0)]) (rest := []) (lenOf own_pd16 rfl) rfl (by show 2 * 0 + _ ≤ _; exact Nat.le_of_eq rfl) (hb hby own_d17_20) (fun _ _ => ⟨rfl, rfl, (by decide : 1 + 0 ≤ _), (by decide : 2 + 0 ≤ _)⟩)
  dsimp only [Pt.U, Pt.locs, Pt.cells, Pt.slots] at X8 l8 y8 z8 st8 hQ8
  subst l8 y8 z8
  obtain ⟨rfl, Nq8, Kc8, Vn8⟩ := hQ8
  have N8 := Fr.app N2 Nq8
  have R8 : ∀ t, oG p e below T8 m 23 #[oR a1, oI 0, oI 1, oR bx, oI 0] [] t → Steps p.tables e below (s₁.setTop (entryFrame m #[(.ref a1), (.int 0), (.int 1)] 5)) t := fun t k => R7 t (st8 t k)
  have Z8 : n0 ≤ T8.heap.size := Nat.le_trans Z2 Kc8.1
  have K8 : Keep h0 T8.heap [] := K2.trans Kc8 (allS (Or.inr sz_bx) all0)
  have f9 : Old Z n0 T8.heap := f3.keep Kc8 (allS g_bx all0)
  have f10 : Arv Z T8.heap a1 k1 .char (1 : Int32) [(.int c0)] (.int 0) := f4.keep Kc8 (ninS ne_a1_bx nin0)
  have R11 : ∀ t, oG p e below T8 m 33 #[oR a1, oI 1, oI 1, oR bx, oI 1] [(.ref bx)] t → Steps p.tables e below (s₁.setTop (entryFrame m #[(.ref a1), (.int 0), (.int 1)] 5)) t := by
    intro t k
    refine R8 t ?_
    refine XS.iinc X8.here hx rfl (hb hby own_d17_23) rfl (l' := #[oR a1, oI 1, oI 1, oR bx, oI 0]) rfl ?_
    refine XS.iinc X8.here hx rfl (hb hby own_d17_26) rfl (l' := #[oR a1, oI 1, oI 1, oR bx, oI 1]) rfl ?_
    refine XS.goto X8.here hx rfl (pc0 := 29) (pc' := 8) rfl (hb hby own_d17_29) (by decide) (by decide) ?_
    show oG p e below T8 m 8 #[oR a1, oI 1, oI 1, oR bx, oI 1] [] _
    refine XS.iload X8.here hx rfl (hb hby own_d17_8) rfl ?_
    refine XS.iloadN X8.here hx rfl (hb hby own_d17_10) rfl ?_
    refine XS.icmpYes X8.here hx rfl (pc0 := 11) (pc' := 32) rfl (hb hby own_d17_11) rfl (flt (by decide : ¬ ((1 : Int32) < (1 : Int32)))).2.1 (by decide) (by decide) ?_
    refine XS.aloadN X8.here hx rfl (hb hby own_d17_32) rfl rfl ?_
    exact k
  obtain ⟨fs, hr, hrun, hended, hW, hsame⟩ := X8.leave (v := some (.ref bx)) (fun h => by rw [Bd.returns] at h; cases h)
  refine ⟨_, _, R11 _ ?_, hrun, hended, _, _, rfl, ?_, ⟨_, rfl⟩, hW, hsame.mono (by decide) (by decide)⟩
  · exact retOut X8 hx Bd.returns rfl (Or.inr (Or.inr (Or.inr (Or.inr ⟨rfl, rfl, rfl⟩)))) (hb hby own_d17_33) hr
  · show Q_rmTB1 Z a1 k1 cz fm c0 h0 n0 _ T8.heap _
    exact ⟨bx, kx, rfl, N8, K8, sz_bx, Vn8⟩
theorem own_ef_rmTB2 (m : MethodId) (x0 : Addr) (x1 : Int32) (x2 : Int32) : entryFrame m #[(.ref x0), (.int x1), (.int x2)] 5 = mkF m 0 #[oR x0, oI x1, oI x2, .unset, .unset] [] := by first | (simp [entryFrame, mkF, argsToLocals, Value.category]; done) | rfl
def Q_rmTB2 (Z : State) (a1 : Addr) (k1 : ClassId) (cz : Int32) (fm : Value) (c0 c1 : Int32) (h0 : Heap) (n0 : Nat) (v : Option Value) (h : Heap) (L : List Loc) : Prop := ∃ (b : Addr) (k : ClassId), v = some (.ref b) ∧ Fr n0 L ∧ Keep h0 h [] ∧ h0.size ≤ b ∧ Arv Z h b k .byte (4 : Int32) [(.int (own_b0 c0)), (.int (own_b1 c0)), (.int (own_b0 c1)), (.int (own_b1 c1))] (.int 0)
set_option maxRecDepth 65536 in
set_option maxHeartbeats 40000000 in
theorem rmTB2 (l : Launch) (Z : State) (a0 : Array Value) (hw : oT a0 Z) (ws : List Jvm.Cond) (a1 : Addr) (k1 : ClassId) (cz : Int32) (fm : Value) (c0 c1 : Int32) (h0 : Heap) (n0 : Nat) (Z0 : n0 ≤ h0.size) (SU : own_St Z cz fm) (OX : Old Z n0 h0) (Va1 : Arv Z h0 a1 k1 .char (2 : Int32) [(.int c0), (.int c1)] (.int 0)) :
    oK l Z (⟨"java/lang/StringUTF16", "toBytes", "([CII)[B"⟩ : MethodName) jdk_52_method_14_code 5 (some (.array .byte)) ws (oM 2 1 4 24) #[(.ref a1), (.int 0), (.int 2)] h0 (Q_rmTB2 Z a1 k1 cz fm c0 c1 h0 n0) := by
  refine MetFree.of_bodySF (plainFor_of_name own_pn5) hisR ?_
  intro p e s m args below meth c s₁ Bd hml0 hP hK
  obtain ⟨rfl, hZ, hh⟩ := hP
  have hx := Bd.exec
  have hby := Bd.bytes
  have hml : c.maxLocals = 5 := hml0
  have hown : s.vm.findClass "java/lang/StringUTF16" = some m.cls := findClass_of_methodNamed Bd.named
  have hnm := (name_of_methodNamed Bd.named Bd.method).1
  have X0 : Stand p l e (oM 2 1 4 24) s m #[(.ref a1), (.int 0), (.int 2)] below meth c s₁ [] 0 0 := Stand.of_body Bd
  have e0 : s₁.heap = h0 := by rw [← hh, Bd.state]; rfl
  have N0 := Fr.nil n0
  have R0 : ∀ t, oG p e below s₁ m 0 #[oR a1, oI 0, oI 2, .unset, .unset] [] t → Steps p.tables e below (s₁.setTop (entryFrame m #[(.ref a1), (.int 0), (.int 2)] 5)) t := fun t k => castTop (own_ef_rmTB2 m a1 (0 : Int32) (2 : Int32)) k
  have R1 : ∀ t, oG p e below s₁ m 1 #[oR a1, oI 0, oI 2, .unset, .unset] [(.int 2)] t → Steps p.tables e below (s₁.setTop (entryFrame m #[(.ref a1), (.int 0), (.int 2)] 5)) t := by
    intro t k
    refine R0 t ?_
    refine XS.iloadN X0.here hx rfl (hb hby own_d17_0) rfl ?_
    exact k
  obtain ⟨_, _, ⟨T2, L2, k2, n2⟩, -, X2, ⟨Lc2, hQ2, l2, y2, z2⟩, st2⟩ := Jvm.LawKit.callS X0 hx (y := (⟨"java/lang/StringUTF16", "newBytesFor", "(I)[B"⟩ : MethodName)) hown (mvT hZ (oW hw 75 rfl)) (mvT hZ (oW hw 76 rfl)) (mvT hZ (oW hw 21 rfl)) (mvT hZ (oW hw 77 rfl)) (by decide) (backOf (W := 0) (rmNBF2 l Z a0 hw [] h0 n0 Z0) hZ (oW hw 77 rfl) (oW hw 21 rfl) (by decide) (by decide)) (g := (mkF m 1 #[oR a1, oI 0, oI 2, .unset, .unset] [(.int 2)])) rfl (by rw [hml]; rfl) (argsL := [(.int 2)]) (rest := []) (lenOf own_pd14 rfl) rfl (by show 2 * 0 + _ ≤ _; exact Nat.le_of_eq rfl) (hb hby own_d17_1) (fun _ _ => ⟨rfl, e0, (by decide : 0 + 1 ≤ _), (by decide : 0 + 4 ≤ _)⟩)
  dsimp only [Pt.U, Pt.locs, Pt.cells, Pt.slots] at X2 l2 y2 z2 st2 hQ2
  subst l2 y2 z2
  obtain ⟨bx, kx, rfl, Nq2, Kc2, sb2, Vn2⟩ := hQ2
  have N2 := Fr.app N0 Nq2
  have R2 : ∀ t, oG p e below T2 m 4 #[oR a1, oI 0, oI 2, .unset, .unset] [(.ref bx)] t → Steps p.tables e below (s₁.setTop (entryFrame m #[(.ref a1), (.int 0), (.int 2)] 5)) t := fun t k => R1 t (st2 t k)
  have ne_a1_bx : a1 ≠ bx := Nat.ne_of_lt (Nat.lt_of_lt_of_le Va1.lt sb2)
  have g_bx : n0 ≤ bx := Nat.le_trans Z0 sb2
  have sz_bx : h0.size ≤ bx := Nat.le_trans (Keep.refl h0 []).1 sb2
  have Z2 : n0 ≤ T2.heap.size := Nat.le_trans Z0 Kc2.1
  have K2 : Keep h0 T2.heap [] := (Keep.refl h0 []).trans Kc2 all0
  have f3 : Old Z n0 T2.heap := OX.keep Kc2 all0
  have f4 : Arv Z T2.heap a1 k1 .char (2 : Int32) [(.int c0), (.int c1)] (.int 0) := Va1.keep Kc2 nin0
  have R5 : ∀ t, oG p e below T2 m 19 #[oR a1, oI 0, oI 2, oR bx, oI 0] [(.int 0), (.ref a1), (.int 0), (.ref bx)] t → Steps p.tables e below (s₁.setTop (entryFrame m #[(.ref a1), (.int 0), (.int 2)] 5)) t := by
    intro t k
    refine R2 t ?_
    refine XS.astoreN X2.here hx rfl (hb hby own_d17_4) rfl rfl (l' := #[oR a1, oI 0, oI 2, oR bx, .unset]) rfl ?_
    refine XS.iconst X2.here hx rfl (hb hby own_d17_5) ?_
    refine XS.istore X2.here hx rfl (hb hby own_d17_6) rfl (l' := #[oR a1, oI 0, oI 2, oR bx, oI 0]) rfl ?_
    show oG p e below T2 m 8 #[oR a1, oI 0, oI 2, oR bx, oI 0] [] _
    refine XS.iload X2.here hx rfl (hb hby own_d17_8) rfl ?_
    refine XS.iloadN X2.here hx rfl (hb hby own_d17_10) rfl ?_
    refine XS.icmpNo X2.here hx rfl (hb hby own_d17_11) rfl (tlt (by decide : ((0 : Int32) < (2 : Int32)))).2.1 ?_
    refine XS.aloadN X2.here hx rfl (hb hby own_d17_14) rfl rfl ?_
    show oG p e below T2 m 15 #[oR a1, oI 0, oI 2, oR bx, oI 0] [(.ref bx)] _
    refine XS.iload X2.here hx rfl (hb hby own_d17_15) rfl ?_
    refine XS.aloadN X2.here hx rfl (hb hby own_d17_17) rfl rfl ?_
    refine XS.iloadN X2.here hx rfl (hb hby own_d17_18) rfl ?_
    exact k
  obtain ⟨cl6, Ar6, q6, S6, N6', H6, G6⟩ := id f4
  have hin6_0 : ¬ ((0 : Int32) < 0 ∨ cl6.slots.size ≤ ((0 : Int32)).toNatClampNeg) := inb_of S6 ⟨by decide, by decide⟩
  have hat6_0 : cl6.slots[((0 : Int32)).toNatClampNeg]? = some (.int c0) := H6.at hin6_0 rfl
  have R7 : ∀ t, oG p e below T2 m 20 #[oR a1, oI 0, oI 2, oR bx, oI 0] [(.int c0), (.int 0), (.ref bx)] t → Steps p.tables e below (s₁.setTop (entryFrame m #[(.ref a1), (.int 0), (.int 2)] 5)) t := by
    intro t k
    refine R5 t ?_
    refine X2.caload hx (j := (0 : Int32)) (v := (.int c0)) Ar6.1 (State.isArrayOf_alike hZ.alike Ar6.2.1) Ar6.2.2 hin6_0 hat6_0 (g := (mkF m 19 #[oR a1, oI 0, oI 2, oR bx, oI 0] [(.int 0), (.ref a1), (.int 0), (.ref bx)])) rfl rfl (hb hby own_d17_19) _ ?_
    exact k
  obtain ⟨_, _, ⟨T8, L8, k8, n8⟩, -, X8, ⟨Lc8, hQ8, l8, y8, z8⟩, st8⟩ := Jvm.LawKit.callS X2 hx (y := (⟨"java/lang/StringUTF16", "putChar", "([BII)V"⟩ : MethodName)) hown (mvT hZ (oW hw 82 rfl)) (mvT hZ (oW hw 83 rfl)) (mvT hZ (oW hw 21 rfl)) (mvT hZ (oW hw 84 rfl)) (by decide) (backOf (W := 0) (rmPC40 l Z a0 hw [] bx c0 kx (0 : Int32) (0 : Int32) (0 : Int32) (0 : Int32) cz fm T2.heap n0 Z2 SU f3 Vn2 g_bx) hZ (oW hw 84 rfl) (oW hw 21 rfl) (by decide) (by decide)) (g := (mkF m 20 #[oR a1, oI 0, oI 2, oR bx, oI 0] [(.int c0), (.int 0), (.ref bx)])) rfl (by rw [hml]; rfl) (argsL := [(.ref bx), (.int 0), (.int c0)]) (rest := []) (lenOf own_pd16 rfl) rfl (by show 2 * 0 + _ ≤ _; exact Nat.le_of_eq rfl) (hb hby own_d17_20) (fun _ _ => ⟨rfl, rfl, (by decide : 1 + 0 ≤ _), (by decide : 4 + 0 ≤ _)⟩)
  dsimp only [Pt.U, Pt.locs, Pt.cells, Pt.slots] at X8 l8 y8 z8 st8 hQ8
  subst l8 y8 z8
  obtain ⟨rfl, Nq8, Kc8, Vn8⟩ := hQ8
  have N8 := Fr.app N2 Nq8
  have R8 : ∀ t, oG p e below T8 m 23 #[oR a1, oI 0, oI 2, oR bx, oI 0] [] t → Steps p.tables e below (s₁.setTop (entryFrame m #[(.ref a1), (.int 0), (.int 2)] 5)) t := fun t k => R7 t (st8 t k)
  have Z8 : n0 ≤ T8.heap.size := Nat.le_trans Z2 Kc8.1
  have K8 : Keep h0 T8.heap [] := K2.trans Kc8 (allS (Or.inr sz_bx) all0)
  have f9 : Old Z n0 T8.heap := f3.keep Kc8 (allS g_bx all0)
  have f10 : Arv Z T8.heap a1 k1 .char (2 : Int32) [(.int c0), (.int c1)] (.int 0) := f4.keep Kc8 (ninS ne_a1_bx nin0)
  have R11 : ∀ t, oG p e below T8 m 19 #[oR a1, oI 1, oI 2, oR bx, oI 1] [(.int 1), (.ref a1), (.int 1), (.ref bx)] t → Steps p.tables e below (s₁.setTop (entryFrame m #[(.ref a1), (.int 0), (.int 2)] 5)) t := by
    intro t k
    refine R8 t ?_
    refine XS.iinc X8.here hx rfl (hb hby own_d17_23) rfl (l' := #[oR a1, oI 1, oI 2, oR bx, oI 0]) rfl ?_
    refine XS.iinc X8.here hx rfl (hb hby own_d17_26) rfl (l' := #[oR a1, oI 1, oI 2, oR bx, oI 1]) rfl ?_
    refine XS.goto X8.here hx rfl (pc0 := 29) (pc' := 8) rfl (hb hby own_d17_29) (by decide) (by decide) ?_
    show oG p e below T8 m 8 #[oR a1, oI 1, oI 2, oR bx, oI 1] [] _
    refine XS.iload X8.here hx rfl (hb hby own_d17_8) rfl ?_
    refine XS.iloadN X8.here hx rfl (hb hby own_d17_10) rfl ?_
    refine XS.icmpNo X8.here hx rfl (hb hby own_d17_11) rfl (tlt (by decide : ((1 : Int32) < (2 : Int32)))).2.1 ?_
    refine XS.aloadN X8.here hx rfl (hb hby own_d17_14) rfl rfl ?_
    show oG p e below T8 m 15 #[oR a1, oI 1, oI 2, oR bx, oI 1] [(.ref bx)] _
    refine XS.iload X8.here hx rfl (hb hby own_d17_15) rfl ?_
    refine XS.aloadN X8.here hx rfl (hb hby own_d17_17) rfl rfl ?_
    refine XS.iloadN X8.here hx rfl (hb hby own_d17_18) rfl ?_
    exact k
  obtain ⟨cl12, Ar12, q12, S12, N12', H12, G12⟩ := id f10
  have hin12_1 : ¬ ((1 : Int32) < 0 ∨ cl12.slots.size ≤ ((1 : Int32)).toNatClampNeg) := inb_of S12 ⟨by decide, by decide⟩
  have hat12_1 : cl12.slots[((1 : Int32)).toNatClampNeg]? = some (.int c1) := H12.at hin12_1 rfl
  have R13 : ∀ t, oG p e below T8 m 20 #[oR a1, oI 1, oI 2, oR bx, oI 1] [(.int c1), (.int 1), (.ref bx)] t → Steps p.tables e below (s₁.setTop (entryFrame m #[(.ref a1), (.int 0), (.int 2)] 5)) t := by
    intro t k
    refine R11 t ?_
    refine X8.caload hx (j := (1 : Int32)) (v := (.int c1)) Ar12.1 (State.isArrayOf_alike hZ.alike Ar12.2.1) Ar12.2.2 hin12_1 hat12_1 (g := (mkF m 19 #[oR a1, oI 1, oI 2, oR bx, oI 1] [(.int 1), (.ref a1), (.int 1), (.ref bx)])) rfl rfl (hb hby own_d17_19) _ ?_
    exact k
  obtain ⟨_, _, ⟨T14, L14, k14, n14⟩, -, X14, ⟨Lc14, hQ14, l14, y14, z14⟩, st14⟩ := Jvm.LawKit.callS X8 hx (y := (⟨"java/lang/StringUTF16", "putChar", "([BII)V"⟩ : MethodName)) hown (mvT hZ (oW hw 82 rfl)) (mvT hZ (oW hw 83 rfl)) (mvT hZ (oW hw 21 rfl)) (mvT hZ (oW hw 84 rfl)) (by decide) (backOf (W := 0) (rmPC41 l Z a0 hw [] bx c1 kx (own_b0 c0) (own_b1 c0) (0 : Int32) (0 : Int32) cz fm T8.heap n0 Z8 SU f9 Vn8 g_bx) hZ (oW hw 84 rfl) (oW hw 21 rfl) (by decide) (by decide)) (g := (mkF m 20 #[oR a1, oI 1, oI 2, oR bx, oI 1] [(.int c1), (.int 1), (.ref bx)])) rfl (by rw [hml]; rfl) (argsL := [(.ref bx), (.int 1), (.int c1)]) (rest := []) (lenOf own_pd16 rfl) rfl (by show 2 * 0 + _ ≤ _; exact Nat.le_of_eq rfl) (hb hby own_d17_20) (fun _ _ => ⟨rfl, rfl, (by decide : 1 + 0 ≤ _), (by decide : 4 + 0 ≤ _)⟩)
  dsimp only [Pt.U, Pt.locs, Pt.cells, Pt.slots] at X14 l14 y14 z14 st14 hQ14
  subst l14 y14 z14
  obtain ⟨rfl, Nq14, Kc14, Vn14⟩ := hQ14
  have N14 := Fr.app N8 Nq14
  have R14 : ∀ t, oG p e below T14 m 23 #[oR a1, oI 1, oI 2, oR bx, oI 1] [] t → Steps p.tables e below (s₁.setTop (entryFrame m #[(.ref a1), (.int 0), (.int 2)] 5)) t := fun t k => R13 t (st14 t k)
  have Z14 : n0 ≤ T14.heap.size := Nat.le_trans Z8 Kc14.1
  have K14 : Keep h0 T14.heap [] := K8.trans Kc14 (allS (Or.inr sz_bx) all0)
  have f15 : Old Z n0 T14.heap := f9.keep Kc14 (allS g_bx all0)
  have f16 : Arv Z T14.heap a1 k1 .char (2 : Int32) [(.int c0), (.int c1)] (.int 0) := f10.keep Kc14 (ninS ne_a1_bx nin0)
  have R17 : ∀ t, oG p e below T14 m 33 #[oR a1, oI 2, oI 2, oR bx, oI 2] [(.ref bx)] t → Steps p.tables e below (s₁.setTop (entryFrame m #[(.ref a1), (.int 0), (.int 2)] 5)) t := by
    intro t k
    refine R14 t ?_
    refine XS.iinc X14.here hx rfl (hb hby own_d17_23) rfl (l' := #[oR a1, oI 2, oI 2, oR bx, oI 1]) rfl ?_
    refine XS.iinc X14.here hx rfl (hb hby own_d17_26) rfl (l' := #[oR a1, oI 2, oI 2, oR bx, oI 2]) rfl ?_
    refine XS.goto X14.here hx rfl (pc0 := 29) (pc' := 8) rfl (hb hby own_d17_29) (by decide) (by decide) ?_
    show oG p e below T14 m 8 #[oR a1, oI 2, oI 2, oR bx, oI 2] [] _
    refine XS.iload X14.here hx rfl (hb hby own_d17_8) rfl ?_
    refine XS.iloadN X14.here hx rfl (hb hby own_d17_10) rfl ?_
    refine XS.icmpYes X14.here hx rfl (pc0 := 11) (pc' := 32) rfl (hb hby own_d17_11) rfl (flt (by decide : ¬ ((2 : Int32) < (2 : Int32)))).2.1 (by decide) (by decide) ?_
    refine XS.aloadN X14.here hx rfl (hb hby own_d17_32) rfl rfl ?_
    exact k
  obtain ⟨fs, hr, hrun, hended, hW, hsame⟩ := X14.leave (v := some (.ref bx)) (fun h => by rw [Bd.returns] at h; cases h)
  refine ⟨_, _, R17 _ ?_, hrun, hended, _, _, rfl, ?_, ⟨_, rfl⟩, hW, hsame.mono (by decide) (by decide)⟩
  · exact retOut X14 hx Bd.returns rfl (Or.inr (Or.inr (Or.inr (Or.inr ⟨rfl, rfl, rfl⟩)))) (hb hby own_d17_33) hr
  · show Q_rmTB2 Z a1 k1 cz fm c0 c1 h0 n0 _ T14.heap _
    exact ⟨bx, kx, rfl, N14, K14, sz_bx, Vn14⟩
theorem own_ef_rmC5_11 (m : MethodId) (x0 : Addr) (x1 : Int32) (x2 : Addr) (x3 : Int32) (x4 : Int32) : entryFrame m #[(.ref x0), (.int x1), (.ref x2), (.int x3), (.int x4)] 7 = mkF m 0 #[oR x0, oI x1, oR x2, oI x3, oI x4, .unset, .unset] [] := by first | (simp [entryFrame, mkF, argsToLocals, Value.category]; done) | rfl
theorem own_d6_0 : decode jdk_52_method_21_code 0 = .ok (.iconst 0, 1) := by decide +kernel
theorem own_d6_1 : decode jdk_52_method_21_code 1 = .ok (.istore 5, 2) := by decide +kernel
theorem own_d6_3 : decode jdk_52_method_21_code 3 = .ok (.iload 5, 2) := by decide +kernel
theorem own_d6_5 : decode jdk_52_method_21_code 5 = .ok (.iload 4, 2) := by decide +kernel
theorem own_d6_7 : decode jdk_52_method_21_code 7 = .ok (.if_icmp .ge 37, 3) := by decide +kernel
theorem own_d6_10 : decode jdk_52_method_21_code 10 = .ok (.aload_n 0, 1) := by decide +kernel
theorem own_d6_11 : decode jdk_52_method_21_code 11 = .ok (.iload_n 1, 1) := by decide +kernel
theorem own_d6_12 : decode jdk_52_method_21_code 12 = .ok (.caload, 1) := by decide +kernel
theorem own_d6_13 : decode jdk_52_method_21_code 13 = .ok (.istore 6, 2) := by decide +kernel
theorem own_d6_15 : decode jdk_52_method_21_code 15 = .ok (.iload 6, 2) := by decide +kernel
theorem own_d6_17 : decode jdk_52_method_21_code 17 = .ok (.sipush 255, 3) := by decide +kernel
theorem own_d6_20 : decode jdk_52_method_21_code 20 = .ok (.if_icmp .le 6, 3) := by decide +kernel
theorem own_d6_26 : decode jdk_52_method_21_code 26 = .ok (.aload_n 2, 1) := by decide +kernel
theorem own_d6_27 : decode jdk_52_method_21_code 27 = .ok (.iload_n 3, 1) := by decide +kernel
theorem own_d6_28 : decode jdk_52_method_21_code 28 = .ok (.iload 6, 2) := by decide +kernel
theorem own_d6_30 : decode jdk_52_method_21_code 30 = .ok (.i2b, 1) := by decide +kernel
theorem own_d6_31 : decode jdk_52_method_21_code 31 = .ok (.bastore, 1) := by decide +kernel
theorem own_d6_32 : decode jdk_52_method_21_code 32 = .ok (.iinc 1 1, 3) := by decide +kernel
theorem own_d6_35 : decode jdk_52_method_21_code 35 = .ok (.iinc 3 1, 3) := by decide +kernel
theorem own_d6_38 : decode jdk_52_method_21_code 38 = .ok (.iinc 5 1, 3) := by decide +kernel
theorem own_d6_41 : decode jdk_52_method_21_code 41 = .ok (.goto (-38), 3) := by decide +kernel
theorem own_d6_44 : decode jdk_52_method_21_code 44 = .ok (.iload 4, 2) := by decide +kernel
theorem own_d6_46 : decode jdk_52_method_21_code 46 = .ok (.ireturn, 1) := by decide +kernel
def Q_rmC5_11 (Z : State) (a1 a3 : Addr) (k1 k3 : ClassId) (c0 : Int32) (h0 : Heap) (n0 : Nat) (v : Option Value) (h : Heap) (L : List Loc) : Prop := v = some (.int 1) ∧ Fr n0 L ∧ Keep h0 h [a3] ∧ Arv Z h a3 k3 .byte (1 : Int32) [(.int (own_l c0))] (.int 0)
set_option maxRecDepth 65536 in
set_option maxHeartbeats 40000000 in
theorem rmC5_11 (l : Launch) (Z : State) (a0 : Array Value) (hw : oT a0 Z) (ws : List Jvm.Cond) (a1 a3 : Addr) (k1 k3 : ClassId) (c0 : Int32) (h0 : Heap) (n0 : Nat) (Z0 : n0 ≤ h0.size) (Va1 : Arv Z h0 a1 k1 .char (1 : Int32) [(.int c0)] (.int 0)) (V3 : Arv Z h0 a3 k3 .byte (1 : Int32) [(.int 0)] (.int 0)) (g_a3 : n0 ≤ a3) (ne_a1_a3 : a1 ≠ a3) (t0 : ¬ (255 : Int32) < c0) :
    oK l Z (⟨"java/lang/StringUTF16", "compress", "([CI[BII)I"⟩ : MethodName) jdk_52_method_21_code 7 (some .int) ws (oM 0 0 0 0) #[(.ref a1), (.int 0), (.ref a3), (.int 0), (.int 1)] h0 (Q_rmC5_11 Z a1 a3 k1 k3 c0 h0 n0) := by
  refine MetFree.of_bodySF (plainFor_of_name own_pn5) hisR ?_
  intro p e s m args below meth c s₁ Bd hml0 hP hK
  obtain ⟨rfl, hZ, hh⟩ := hP
  have hx := Bd.exec
  have hby := Bd.bytes
  have hml : c.maxLocals = 7 := hml0
  have hown : s.vm.findClass "java/lang/StringUTF16" = some m.cls := findClass_of_methodNamed Bd.named
  have hnm := (name_of_methodNamed Bd.named Bd.method).1
  have X0 : Stand p l e (oM 0 0 0 0) s m #[(.ref a1), (.int 0), (.ref a3), (.int 0), (.int 1)] below meth c s₁ [] 0 0 := Stand.of_body Bd
  have e0 : s₁.heap = h0 := by rw [← hh, Bd.state]; rfl
  have N0 := Fr.nil n0
  have R0 : ∀ t, oG p e below s₁ m 0 #[oR a1, oI 0, oR a3, oI 0, oI 1, .unset, .unset] [] t → Steps p.tables e below (s₁.setTop (entryFrame m #[(.ref a1), (.int 0), (.ref a3), (.int 0), (.int 1)] 7)) t := fun t k => castTop (own_ef_rmC5_11 m a1 (0 : Int32) a3 (0 : Int32) (1 : Int32)) k
  have R1 : ∀ t, oG p e below s₁ m 12 #[oR a1, oI 0, oR a3, oI 0, oI 1, oI 0, .unset] [(.int 0), (.ref a1)] t → Steps p.tables e below (s₁.setTop (entryFrame m #[(.ref a1), (.int 0), (.ref a3), (.int 0), (.int 1)] 7)) t := by
    intro t k
    refine R0 t ?_
    refine XS.iconst X0.here hx rfl (hb hby own_d6_0) ?_
    refine XS.istore X0.here hx rfl (hb hby own_d6_1) rfl (l' := #[oR a1, oI 0, oR a3, oI 0, oI 1, oI 0, .unset]) rfl ?_
    refine XS.iload X0.here hx rfl (hb hby own_d6_3) rfl ?_
    show oG p e below s₁ m 5 #[oR a1, oI 0, oR a3, oI 0, oI 1, oI 0, .unset] [(.int 0)] _
    refine XS.iload X0.here hx rfl (hb hby own_d6_5) rfl ?_
    refine XS.icmpNo X0.here hx rfl (hb hby own_d6_7) rfl (tlt (by decide : ((0 : Int32) < (1 : Int32)))).2.1 ?_
    refine XS.aloadN X0.here hx rfl (hb hby own_d6_10) rfl rfl ?_
    refine XS.iloadN X0.here hx rfl (hb hby own_d6_11) rfl ?_
    exact k
  obtain ⟨cl2, Ar2, q2, S2, N2', H2, G2⟩ := id Va1
  have hin2_0 : ¬ ((0 : Int32) < 0 ∨ cl2.slots.size ≤ ((0 : Int32)).toNatClampNeg) := inb_of S2 ⟨by decide, by decide⟩
  have hat2_0 : cl2.slots[((0 : Int32)).toNatClampNeg]? = some (.int c0) := H2.at hin2_0 rfl
  have R3 : ∀ t, oG p e below s₁ m 31 #[oR a1, oI 0, oR a3, oI 0, oI 1, oI 0, oI c0] [(.int (c0.toInt8.toInt32)), (.int 0), (.ref a3)] t → Steps p.tables e below (s₁.setTop (entryFrame m #[(.ref a1), (.int 0), (.ref a3), (.int 0), (.int 1)] 7)) t := by
    intro t k
    refine R1 t ?_
    refine X0.caload hx (j := (0 : Int32)) (v := (.int c0)) (by rw [e0]; exact Ar2.1) (State.isArrayOf_alike hZ.alike Ar2.2.1) Ar2.2.2 hin2_0 hat2_0 (g := (mkF m 12 #[oR a1, oI 0, oR a3, oI 0, oI 1, oI 0, .unset] [(.int 0), (.ref a1)])) rfl rfl (hb hby own_d6_12) _ ?_
    refine XS.istore X0.here hx rfl (hb hby own_d6_13) rfl (l' := #[oR a1, oI 0, oR a3, oI 0, oI 1, oI 0, oI c0]) rfl ?_
    refine XS.iload X0.here hx rfl (hb hby own_d6_15) rfl ?_
    show oG p e below s₁ m 17 #[oR a1, oI 0, oR a3, oI 0, oI 1, oI 0, oI c0] [(.int c0)] _
    refine XS.sipush X0.here hx rfl (hb hby own_d6_17) ?_
    refine XS.icmpYes X0.here hx rfl (pc0 := 20) (pc' := 26) rfl (hb hby own_d6_20) rfl (flt t0).2.2.2 (by decide) (by decide) ?_
    refine XS.aloadN X0.here hx rfl (hb hby own_d6_26) rfl rfl ?_
    refine XS.iloadN X0.here hx rfl (hb hby own_d6_27) rfl ?_
    show oG p e below s₁ m 28 #[oR a1, oI 0, oR a3, oI 0, oI 1, oI 0, oI c0] [(.int 0), (.ref a3)] _
    refine XS.iload X0.here hx rfl (hb hby own_d6_28) rfl ?_
    refine XS.i2b X0.here hx rfl (hb hby own_d6_30) rfl ?_
    exact k
  obtain ⟨cl4, Ar4, q4, S4, N4', H4, G4⟩ := id V3
  have hin4 : ¬ ((0 : Int32) < 0 ∨ cl4.slots.size ≤ ((0 : Int32)).toNatClampNeg) := inb_of S4 ⟨by decide, by decide⟩
  obtain ⟨T5, h5, X5, e5, W5, st5⟩ := stB X0 hx hZ e0 Ar4 (j := (0 : Int32)) hin4 (g := (mkF m 31 #[oR a1, oI 0, oR a3, oI 0, oI 1, oI 0, oI c0] [(.int (c0.toInt8.toInt32)), (.int 0), (.ref a3)])) rfl rfl (hb hby own_d6_31)
  have R5 : ∀ t, oG p e below T5 m 32 #[oR a1, oI 0, oR a3, oI 0, oI 1, oI 0, oI c0] [] t → Steps p.tables e below (s₁.setTop (entryFrame m #[(.ref a1), (.int 0), (.ref a3), (.int 0), (.int 1)] 7)) t := fun t k => R3 t (st5 t k)
  have Z5 : n0 ≤ h5.size := Nat.le_trans Z0 (Keep.of_wr W5).1
  have K5 : Keep h0 h5 [a3] := (Keep.refl h0 [a3]).wr W5 (Or.inl (by simp))
  have N5 := Fr.snoc X5 N0 g_a3
  have f6 : Arv Z h5 a1 k1 .char (1 : Int32) [(.int c0)] (.int 0) := Va1.other W5 ne_a1_a3
  have V5 : Arv Z h5 a3 k3 .byte (1 : Int32) [(.int (nar .byte (c0.toInt8.toInt32)))] (.int 0) := Arv.set Ar4 q4 S4 N4' H4 G4 (fits_nar_byte _) W5 0 rfl (Nat.le_of_ble_eq_true rfl)
  have R7 : ∀ t, oG p e below T5 m 46 #[oR a1, oI 1, oR a3, oI 1, oI 1, oI 1, oI c0] [(.int 1)] t → Steps p.tables e below (s₁.setTop (entryFrame m #[(.ref a1), (.int 0), (.ref a3), (.int 0), (.int 1)] 7)) t := by
    intro t k
    refine R5 t ?_
    refine XS.iinc X5.here hx rfl (hb hby own_d6_32) rfl (l' := #[oR a1, oI 1, oR a3, oI 0, oI 1, oI 0, oI c0]) rfl ?_
    refine XS.iinc X5.here hx rfl (hb hby own_d6_35) rfl (l' := #[oR a1, oI 1, oR a3, oI 1, oI 1, oI 0, oI c0]) rfl ?_
    refine XS.iinc X5.here hx rfl (hb hby own_d6_38) rfl (l' := #[oR a1, oI 1, oR a3, oI 1, oI 1, oI 1, oI c0]) rfl ?_
    show oG p e below T5 m 41 #[oR a1, oI 1, oR a3, oI 1, oI 1, oI 1, oI c0] [] _
    refine XS.goto X5.here hx rfl (pc0 := 41) (pc' := 3) rfl (hb hby own_d6_41) (by decide) (by decide) ?_
    refine XS.iload X5.here hx rfl (hb hby own_d6_3) rfl ?_
    refine XS.iload X5.here hx rfl (hb hby own_d6_5) rfl ?_
    refine XS.icmpYes X5.here hx rfl (pc0 := 7) (pc' := 44) rfl (hb hby own_d6_7) rfl (flt (by decide : ¬ ((1 : Int32) < (1 : Int32)))).2.1 (by decide) (by decide) ?_
    show oG p e below T5 m 44 #[oR a1, oI 1, oR a3, oI 1, oI 1, oI 1, oI c0] [] _
    refine XS.iload X5.here hx rfl (hb hby own_d6_44) rfl ?_
    exact k
  obtain ⟨fs, hr, hrun, hended, hW, hsame⟩ := X5.leave (v := some (.int 1)) (fun h => by rw [Bd.returns] at h; cases h)
  refine ⟨_, _, R7 _ ?_, hrun, hended, _, _, rfl, ?_, ⟨_, rfl⟩, hW, hsame.mono (by decide) (by decide)⟩
  · exact retOut X5 hx Bd.returns rfl (Or.inl ⟨rfl, Or.inl rfl, _, rfl⟩) (hb hby own_d6_46) hr
  · show Q_rmC5_11 Z a1 a3 k1 k3 c0 h0 n0 _ T5.heap _
    rw [e5]
    exact ⟨rfl, N5, K5, V5⟩
theorem own_ef_rmC5_10 (m : MethodId) (x0 : Addr) (x1 : Int32) (x2 : Addr) (x3 : Int32) (x4 : Int32) : entryFrame m #[(.ref x0), (.int x1), (.ref x2), (.int x3), (.int x4)] 7 = mkF m 0 #[oR x0, oI x1, oR x2, oI x3, oI x4, .unset, .unset] [] := by first | (simp [entryFrame, mkF, argsToLocals, Value.category]; done) | rfl
theorem own_d6_23 : decode jdk_52_method_21_code 23 = .ok (.iload 5, 2) := by decide +kernel
theorem own_d6_25 : decode jdk_52_method_21_code 25 = .ok (.ireturn, 1) := by decide +kernel
def Q_rmC5_10 (Z : State) (a1 a3 : Addr) (k1 k3 : ClassId) (c0 : Int32) (h0 : Heap) (n0 : Nat) (v : Option Value) (h : Heap) (L : List Loc) : Prop := v = some (.int 0) ∧ Fr n0 L ∧ Keep h0 h [a3] ∧ Arv Z h a3 k3 .byte (1 : Int32) [(.int 0)] (.int 0)
set_option maxRecDepth 65536 in
set_option maxHeartbeats 40000000 in
theorem rmC5_10 (l : Launch) (Z : State) (a0 : Array Value) (hw : oT a0 Z) (ws : List Jvm.Cond) (a1 a3 : Addr) (k1 k3 : ClassId) (c0 : Int32) (h0 : Heap) (n0 : Nat) (Z0 : n0 ≤ h0.size) (Va1 : Arv Z h0 a1 k1 .char (1 : Int32) [(.int c0)] (.int 0)) (V3 : Arv Z h0 a3 k3 .byte (1 : Int32) [(.int 0)] (.int 0)) (g_a3 : n0 ≤ a3) (ne_a1_a3 : a1 ≠ a3) (u0 : (255 : Int32) < c0) :
    oK l Z (⟨"java/lang/StringUTF16", "compress", "([CI[BII)I"⟩ : MethodName) jdk_52_method_21_code 7 (some .int) ws (oM 0 0 0 0) #[(.ref a1), (.int 0), (.ref a3), (.int 0), (.int 1)] h0 (Q_rmC5_10 Z a1 a3 k1 k3 c0 h0 n0) := by
  refine MetFree.of_bodySF (plainFor_of_name own_pn5) hisR ?_
  intro p e s m args below meth c s₁ Bd hml0 hP hK
  obtain ⟨rfl, hZ, hh⟩ := hP
  have hx := Bd.exec
  have hby := Bd.bytes
  have hml : c.maxLocals = 7 := hml0
  have hown : s.vm.findClass "java/lang/StringUTF16" = some m.cls := findClass_of_methodNamed Bd.named
  have hnm := (name_of_methodNamed Bd.named Bd.method).1
  have X0 : Stand p l e (oM 0 0 0 0) s m #[(.ref a1), (.int 0), (.ref a3), (.int 0), (.int 1)] below meth c s₁ [] 0 0 := Stand.of_body Bd
  have e0 : s₁.heap = h0 := by rw [← hh, Bd.state]; rfl
  have N0 := Fr.nil n0
  have R0 : ∀ t, oG p e below s₁ m 0 #[oR a1, oI 0, oR a3, oI 0, oI 1, .unset, .unset] [] t → Steps p.tables e below (s₁.setTop (entryFrame m #[(.ref a1), (.int 0), (.ref a3), (.int 0), (.int 1)] 7)) t := fun t k => castTop (own_ef_rmC5_10 m a1 (0 : Int32) a3 (0 : Int32) (1 : Int32)) k
  have R1 : ∀ t, oG p e below s₁ m 12 #[oR a1, oI 0, oR a3, oI 0, oI 1, oI 0, .unset] [(.int 0), (.ref a1)] t → Steps p.tables e below (s₁.setTop (entryFrame m #[(.ref a1), (.int 0), (.ref a3), (.int 0), (.int 1)] 7)) t := by
    intro t k
    refine R0 t ?_
    refine XS.iconst X0.here hx rfl (hb hby own_d6_0) ?_
    refine XS.istore X0.here hx rfl (hb hby own_d6_1) rfl (l' := #[oR a1, oI 0, oR a3, oI 0, oI 1, oI 0, .unset]) rfl ?_
    refine XS.iload X0.here hx rfl (hb hby own_d6_3) rfl ?_
    show oG p e below s₁ m 5 #[oR a1, oI 0, oR a3, oI 0, oI 1, oI 0, .unset] [(.int 0)] _
    refine XS.iload X0.here hx rfl (hb hby own_d6_5) rfl ?_
    refine XS.icmpNo X0.here hx rfl (hb hby own_d6_7) rfl (tlt (by decide : ((0 : Int32) < (1 : Int32)))).2.1 ?_
    refine XS.aloadN X0.here hx rfl (hb hby own_d6_10) rfl rfl ?_
    refine XS.iloadN X0.here hx rfl (hb hby own_d6_11) rfl ?_
    exact k
  obtain ⟨cl2, Ar2, q2, S2, N2', H2, G2⟩ := id Va1
  have hin2_0 : ¬ ((0 : Int32) < 0 ∨ cl2.slots.size ≤ ((0 : Int32)).toNatClampNeg) := inb_of S2 ⟨by decide, by decide⟩
  have hat2_0 : cl2.slots[((0 : Int32)).toNatClampNeg]? = some (.int c0) := H2.at hin2_0 rfl
  have R3 : ∀ t, oG p e below s₁ m 25 #[oR a1, oI 0, oR a3, oI 0, oI 1, oI 0, oI c0] [(.int 0)] t → Steps p.tables e below (s₁.setTop (entryFrame m #[(.ref a1), (.int 0), (.ref a3), (.int 0), (.int 1)] 7)) t := by
    intro t k
    refine R1 t ?_
    refine X0.caload hx (j := (0 : Int32)) (v := (.int c0)) (by rw [e0]; exact Ar2.1) (State.isArrayOf_alike hZ.alike Ar2.2.1) Ar2.2.2 hin2_0 hat2_0 (g := (mkF m 12 #[oR a1, oI 0, oR a3, oI 0, oI 1, oI 0, .unset] [(.int 0), (.ref a1)])) rfl rfl (hb hby own_d6_12) _ ?_
    refine XS.istore X0.here hx rfl (hb hby own_d6_13) rfl (l' := #[oR a1, oI 0, oR a3, oI 0, oI 1, oI 0, oI c0]) rfl ?_
    refine XS.iload X0.here hx rfl (hb hby own_d6_15) rfl ?_
    show oG p e below s₁ m 17 #[oR a1, oI 0, oR a3, oI 0, oI 1, oI 0, oI c0] [(.int c0)] _
    refine XS.sipush X0.here hx rfl (hb hby own_d6_17) ?_
    refine XS.icmpNo X0.here hx rfl (hb hby own_d6_20) rfl (tlt u0).2.2.2 ?_
    refine XS.iload X0.here hx rfl (hb hby own_d6_23) rfl ?_
    exact k
  obtain ⟨fs, hr, hrun, hended, hW, hsame⟩ := X0.leave (v := some (.int 0)) (fun h => by rw [Bd.returns] at h; cases h)
  refine ⟨_, _, R3 _ ?_, hrun, hended, _, _, rfl, ?_, ⟨_, rfl⟩, hW, hsame.mono (by decide) (by decide)⟩
  · exact retOut X0 hx Bd.returns rfl (Or.inl ⟨rfl, Or.inl rfl, _, rfl⟩) (hb hby own_d6_25) hr
  · show Q_rmC5_10 Z a1 a3 k1 k3 c0 h0 n0 _ s₁.heap _
    rw [e0]
    exact ⟨rfl, N0, (Keep.refl h0 [a3]), V3⟩
theorem own_ef_rmC5_22 (m : MethodId) (x0 : Addr) (x1 : Int32) (x2 : Addr) (x3 : Int32) (x4 : Int32) : entryFrame m #[(.ref x0), (.int x1), (.ref x2), (.int x3), (.int x4)] 7 = mkF m 0 #[oR x0, oI x1, oR x2, oI x3, oI x4, .unset, .unset] [] := by first | (simp [entryFrame, mkF, argsToLocals, Value.category]; done) | rfl
def Q_rmC5_22 (Z : State) (a1 a3 : Addr) (k1 k3 : ClassId) (c0 c1 : Int32) (h0 : Heap) (n0 : Nat) (v : Option Value) (h : Heap) (L : List Loc) : Prop := v = some (.int 2) ∧ Fr n0 L ∧ Keep h0 h [a3] ∧ Arv Z h a3 k3 .byte (2 : Int32) [(.int (own_l c0)), (.int (own_l c1))] (.int 0)
set_option maxRecDepth 65536 in
set_option maxHeartbeats 40000000 in
theorem rmC5_22 (l : Launch) (Z : State) (a0 : Array Value) (hw : oT a0 Z) (ws : List Jvm.Cond) (a1 a3 : Addr) (k1 k3 : ClassId) (c0 c1 : Int32) (h0 : Heap) (n0 : Nat) (Z0 : n0 ≤ h0.size) (Va1 : Arv Z h0 a1 k1 .char (2 : Int32) [(.int c0), (.int c1)] (.int 0)) (V3 : Arv Z h0 a3 k3 .byte (2 : Int32) [(.int 0), (.int 0)] (.int 0)) (g_a3 : n0 ≤ a3) (ne_a1_a3 : a1 ≠ a3) (t0 : ¬ (255 : Int32) < c0) (t1 : ¬ (255 : Int32) < c1) :
    oK l Z (⟨"java/lang/StringUTF16", "compress", "([CI[BII)I"⟩ : MethodName) jdk_52_method_21_code 7 (some .int) ws (oM 0 0 0 0) #[(.ref a1), (.int 0), (.ref a3), (.int 0), (.int 2)] h0 (Q_rmC5_22 Z a1 a3 k1 k3 c0 c1 h0 n0) := by
  refine MetFree.of_bodySF (plainFor_of_name own_pn5) hisR ?_
  intro p e s m args below meth c s₁ Bd hml0 hP hK
  obtain ⟨rfl, hZ, hh⟩ := hP
  have hx := Bd.exec
  have hby := Bd.bytes
  have hml : c.maxLocals = 7 := hml0
  have hown : s.vm.findClass "java/lang/StringUTF16" = some m.cls := findClass_of_methodNamed Bd.named
  have hnm := (name_of_methodNamed Bd.named Bd.method).1
  have X0 : Stand p l e (oM 0 0 0 0) s m #[(.ref a1), (.int 0), (.ref a3), (.int 0), (.int 2)] below meth c s₁ [] 0 0 := Stand.of_body Bd
  have e0 : s₁.heap = h0 := by rw [← hh, Bd.state]; rfl
  have N0 := Fr.nil n0
  have R0 : ∀ t, oG p e below s₁ m 0 #[oR a1, oI 0, oR a3, oI 0, oI 2, .unset, .unset] [] t → Steps p.tables e below (s₁.setTop (entryFrame m #[(.ref a1), (.int 0), (.ref a3), (.int 0), (.int 2)] 7)) t := fun t k => castTop (own_ef_rmC5_22 m a1 (0 : Int32) a3 (0 : Int32) (2 : Int32)) k
  have R1 : ∀ t, oG p e below s₁ m 12 #[oR a1, oI 0, oR a3, oI 0, oI 2, oI 0, .unset] [(.int 0), (.ref a1)] t → Steps p.tables e below (s₁.setTop (entryFrame m #[(.ref a1), (.int 0), (.ref a3), (.int 0), (.int 2)] 7)) t := by
    intro t k
    refine R0 t ?_
    refine XS.iconst X0.here hx rfl (hb hby own_d6_0) ?_
    refine XS.istore X0.here hx rfl (hb hby own_d6_1) rfl (l' := #[oR a1, oI 0, oR a3, oI 0, oI 2, oI 0, .unset]) rfl ?_
    refine XS.iload X0.here hx rfl (hb hby own_d6_3) rfl ?_
    show oG p e below s₁ m 5 #[oR a1, oI 0, oR a3, oI 0, oI 2, oI 0, .unset] [(.int 0)] _
    refine XS.iload X0.here hx rfl (hb hby own_d6_5) rfl ?_
    refine XS.icmpNo X0.here hx rfl (hb hby own_d6_7) rfl (tlt (by decide : ((0 : Int32) < (2 : Int32)))).2.1 ?_
    refine XS.aloadN X0.here hx rfl (hb hby own_d6_10) rfl rfl ?_
    refine XS.iloadN X0.here hx rfl (hb hby own_d6_11) rfl ?_
    exact k
  obtain ⟨cl2, Ar2, q2, S2, N2', H2, G2⟩ := id Va1
  have hin2_0 : ¬ ((0 : Int32) < 0 ∨ cl2.slots.size ≤ ((0 : Int32)).toNatClampNeg) := inb_of S2 ⟨by decide, by decide⟩
  have hat2_0 : cl2.slots[((0 : Int32)).toNatClampNeg]? = some (.int c0) := H2.at hin2_0 rfl
  have R3 : ∀ t, oG p e below s₁ m 31 #[oR a1, oI 0, oR a3, oI 0, oI 2, oI 0, oI c0] [(.int (c0.toInt8.toInt32)), (.int 0), (.ref a3)] t → Steps p.tables e below (s₁.setTop (entryFrame m #[(.ref a1), (.int 0), (.ref a3), (.int 0), (.int 2)] 7)) t := by
    intro t k
    refine R1 t ?_
    refine X0.caload hx (j := (0 : Int32)) (v := (.int c0)) (by rw [e0]; exact Ar2.1) (State.isArrayOf_alike hZ.alike Ar2.2.1) Ar2.2.2 hin2_0 hat2_0 (g := (mkF m 12 #[oR a1, oI 0, oR a3, oI 0, oI 2, oI 0, .unset] [(.int 0), (.ref a1)])) rfl rfl (hb hby own_d6_12) _ ?_
    refine XS.istore X0.here hx rfl (hb hby own_d6_13) rfl (l' := #[oR a1, oI 0, oR a3, oI 0, oI 2, oI 0, oI c0]) rfl ?_
    refine XS.iload X0.here hx rfl (hb hby own_d6_15) rfl ?_
    show oG p e below s₁ m 17 #[oR a1, oI 0, oR a3, oI 0, oI 2, oI 0, oI c0] [(.int c0)] _
    refine XS.sipush X0.here hx rfl (hb hby own_d6_17) ?_
    refine XS.icmpYes X0.here hx rfl (pc0 := 20) (pc' := 26) rfl (hb hby own_d6_20) rfl (flt t0).2.2.2 (by decide) (by decide) ?_
    refine XS.aloadN X0.here hx rfl (hb hby own_d6_26) rfl rfl ?_
    refine XS.iloadN X0.here hx rfl (hb hby own_d6_27) rfl ?_
    show oG p e below s₁ m 28 #[oR a1, oI 0, oR a3, oI 0, oI 2, oI 0, oI c0] [(.int 0), (.ref a3)] _
    refine XS.iload X0.here hx rfl (hb hby own_d6_28) rfl ?_
    refine XS.i2b X0.here hx rfl (hb hby own_d6_30) rfl ?_
    exact k
  obtain ⟨cl4, Ar4, q4, S4, N4', H4, G4⟩ := id V3
  have hin4 : ¬ ((0 : Int32) < 0 ∨ cl4.slots.size ≤ ((0 : Int32)).toNatClampNeg) := inb_of S4 ⟨by decide, by decide⟩
  obtain ⟨T5, h5, X5, e5, W5, st5⟩ := stB X0 hx hZ e0 Ar4 (j := (0 : Int32)) hin4 (g := (mkF m 31 #[oR a1, oI 0, oR a3, oI 0, oI 2, oI 0, oI c0] [(.int (c0.toInt8.toInt32)), (.int 0), (.ref a3)])) rfl rfl (hb hby own_d6_31)
  have R5 : ∀ t, oG p e below T5 m 32 #[oR a1, oI 0, oR a3, oI 0, oI 2, oI 0, oI c0] [] t → Steps p.tables e below (s₁.setTop (entryFrame m #[(.ref a1), (.int 0), (.ref a3), (.int 0), (.int 2)] 7)) t := fun t k => R3 t (st5 t k)
  have Z5 : n0 ≤ h5.size := Nat.le_trans Z0 (Keep.of_wr W5).1
  have K5 : Keep h0 h5 [a3] := (Keep.refl h0 [a3]).wr W5 (Or.inl (by simp))
  have N5 := Fr.snoc X5 N0 g_a3
  have f6 : Arv Z h5 a1 k1 .char (2 : Int32) [(.int c0), (.int c1)] (.int 0) := Va1.other W5 ne_a1_a3
  have V5 : Arv Z h5 a3 k3 .byte (2 : Int32) [(.int (nar .byte (c0.toInt8.toInt32))), (.int 0)] (.int 0) := Arv.set Ar4 q4 S4 N4' H4 G4 (fits_nar_byte _) W5 0 rfl (Nat.le_of_ble_eq_true rfl)
  have R7 : ∀ t, oG p e below T5 m 12 #[oR a1, oI 1, oR a3, oI 1, oI 2, oI 1, oI c0] [(.int 1), (.ref a1)] t → Steps p.tables e below (s₁.setTop (entryFrame m #[(.ref a1), (.int 0), (.ref a3), (.int 0), (.int 2)] 7)) t := by
    intro t k
    refine R5 t ?_
    refine XS.iinc X5.here hx rfl (hb hby own_d6_32) rfl (l' := #[oR a1, oI 1, oR a3, oI 0, oI 2, oI 0, oI c0]) rfl ?_
    refine XS.iinc X5.here hx rfl (hb hby own_d6_35) rfl (l' := #[oR a1, oI 1, oR a3, oI 1, oI 2, oI 0, oI c0]) rfl ?_
    refine XS.iinc X5.here hx rfl (hb hby own_d6_38) rfl (l' := #[oR a1, oI 1, oR a3, oI 1, oI 2, oI 1, oI c0]) rfl ?_
    show oG p e below T5 m 41 #[oR a1, oI 1, oR a3, oI 1, oI 2, oI 1, oI c0] [] _
    refine XS.goto X5.here hx rfl (pc0 := 41) (pc' := 3) rfl (hb hby own_d6_41) (by decide) (by decide) ?_
    refine XS.iload X5.here hx rfl (hb hby own_d6_3) rfl ?_
    refine XS.iload X5.here hx rfl (hb hby own_d6_5) rfl ?_
    refine XS.icmpNo X5.here hx rfl (hb hby own_d6_7) rfl (tlt (by decide : ((1 : Int32) < (2 : Int32)))).2.1 ?_
    show oG p e below T5 m 10 #[oR a1, oI 1, oR a3, oI 1, oI 2, oI 1, oI c0] [] _
    refine XS.aloadN X5.here hx rfl (hb hby own_d6_10) rfl rfl ?_
    refine XS.iloadN X5.here hx rfl (hb hby own_d6_11) rfl ?_
    exact k
  obtain ⟨cl8, Ar8, q8, S8, N8', H8, G8⟩ := id f6
  have hin8_1 : ¬ ((1 : Int32) < 0 ∨ cl8.slots.size ≤ ((1 : Int32)).toNatClampNeg) := inb_of S8 ⟨by decide, by decide⟩
  have hat8_1 : cl8.slots[((1 : Int32)).toNatClampNeg]? = some (.int c1) := H8.at hin8_1 rfl
  have R9 : ∀ t, oG p e below T5 m 31 #[oR a1, oI 1, oR a3, oI 1, oI 2, oI 1, oI c1] [(.int (c1.toInt8.toInt32)), (.int 1), (.ref a3)] t → Steps p.tables e below (s₁.setTop (entryFrame m #[(.ref a1), (.int 0), (.ref a3), (.int 0), (.int 2)] 7)) t := by
    intro t k
    refine R7 t ?_
    refine X5.caload hx (j := (1 : Int32)) (v := (.int c1)) (by rw [e5]; exact Ar8.1) (State.isArrayOf_alike hZ.alike Ar8.2.1) Ar8.2.2 hin8_1 hat8_1 (g := (mkF m 12 #[oR a1, oI 1, oR a3, oI 1, oI 2, oI 1, oI c0] [(.int 1), (.ref a1)])) rfl rfl (hb hby own_d6_12) _ ?_
    refine XS.istore X5.here hx rfl (hb hby own_d6_13) rfl (l' := #[oR a1, oI 1, oR a3, oI 1, oI 2, oI 1, oI c1]) rfl ?_
    refine XS.iload X5.here hx rfl (hb hby own_d6_15) rfl ?_
    show oG p e below T5 m 17 #[oR a1, oI 1, oR a3, oI 1, oI 2, oI 1, oI c1] [(.int c1)] _
    refine XS.sipush X5.here hx rfl (hb hby own_d6_17) ?_
    refine XS.icmpYes X5.here hx rfl (pc0 := 20) (pc' := 26) rfl (hb hby own_d6_20) rfl (flt t1).2.2.2 (by decide) (by decide) ?_
    refine XS.aloadN X5.here hx rfl (hb hby own_d6_26) rfl rfl ?_
    refine XS.iloadN X5.here hx rfl (hb hby own_d6_27) rfl ?_
    show oG p e below T5 m 28 #[oR a1, oI 1, oR a3, oI 1, oI 2, oI 1, oI c1] [(.int 1), (.ref a3)] _
    refine XS.iload X5.here hx rfl (hb hby own_d6_28) rfl ?_
    refine XS.i2b X5.here hx rfl (hb hby own_d6_30) rfl ?_
    exact k
  obtain ⟨cl10, Ar10, q10, S10, N10', H10, G10⟩ := id V5
  have hin10 : ¬ ((1 : Int32) < 0 ∨ cl10.slots.size ≤ ((1 : Int32)).toNatClampNeg) := inb_of S10 ⟨by decide, by decide⟩
  obtain ⟨T11, h11, X11, e11, W11, st11⟩ := stB X5 hx hZ e5 Ar10 (j := (1 : Int32)) hin10 (g := (mkF m 31 #[oR a1, oI 1, oR a3, oI 1, oI 2, oI 1, oI c1] [(.int (c1.toInt8.toInt32)), (.int 1), (.ref a3)])) rfl rfl (hb hby own_d6_31)
  have R11 : ∀ t, oG p e below T11 m 32 #[oR a1, oI 1, oR a3, oI 1, oI 2, oI 1, oI c1] [] t → Steps p.tables e below (s₁.setTop (entryFrame m #[(.ref a1), (.int 0), (.ref a3), (.int 0), (.int 2)] 7)) t := fun t k => R9 t (st11 t k)
  have Z11 : n0 ≤ h11.size := Nat.le_trans Z5 (Keep.of_wr W11).1
  have K11 : Keep h0 h11 [a3] := K5.wr W11 (Or.inl (by simp))
  have N11 := Fr.snoc X11 N5 g_a3
  have f12 : Arv Z h11 a1 k1 .char (2 : Int32) [(.int c0), (.int c1)] (.int 0) := f6.other W11 ne_a1_a3
  have V11 : Arv Z h11 a3 k3 .byte (2 : Int32) [(.int (nar .byte (c0.toInt8.toInt32))), (.int (nar .byte (c1.toInt8.toInt32)))] (.int 0) := Arv.set Ar10 q10 S10 N10' H10 G10 (fits_nar_byte _) W11 1 rfl (Nat.le_of_ble_eq_true rfl)
  have R13 : ∀ t, oG p e below T11 m 46 #[oR a1, oI 2, oR a3, oI 2, oI 2, oI 2, oI c1] [(.int 2)] t → Steps p.tables e below (s₁.setTop (entryFrame m #[(.ref a1), (.int 0), (.ref a3), (.int 0), (.int 2)] 7)) t := by
    intro t k
    refine R11 t ?_
    refine XS.iinc X11.here hx rfl (hb hby own_d6_32) rfl (l' := #[oR a1, oI 2, oR a3, oI 1, oI 2, oI 1, oI c1]) rfl ?_
    refine XS.iinc X11.here hx rfl (hb hby own_d6_35) rfl (l' := #[oR a1, oI 2, oR a3, oI 2, oI 2, oI 1, oI c1]) rfl ?_
    refine XS.iinc X11.here hx rfl (hb hby own_d6_38) rfl (l' := #[oR a1, oI 2, oR a3, oI 2, oI 2, oI 2, oI c1]) rfl ?_
    show oG p e below T11 m 41 #[oR a1, oI 2, oR a3, oI 2, oI 2, oI 2, oI c1] [] _
    refine XS.goto X11.here hx rfl (pc0 := 41) (pc' := 3) rfl (hb hby own_d6_41) (by decide) (by decide) ?_
    refine XS.iload X11.here hx rfl (hb hby own_d6_3) rfl ?_
    refine XS.iload X11.here hx rfl (hb hby own_d6_5) rfl ?_
    refine XS.icmpYes X11.here hx rfl (pc0 := 7) (pc' := 44) rfl (hb hby own_d6_7) rfl (flt (by decide : ¬ ((2 : Int32) < (2 : Int32)))).2.1 (by decide) (by decide) ?_
    show oG p e below T11 m 44 #[oR a1, oI 2, oR a3, oI 2, oI 2, oI 2, oI c1] [] _
    refine XS.iload X11.here hx rfl (hb hby own_d6_44) rfl ?_
    exact k
  obtain ⟨fs, hr, hrun, hended, hW, hsame⟩ := X11.leave (v := some (.int 2)) (fun h => by rw [Bd.returns] at h; cases h)
  refine ⟨_, _, R13 _ ?_, hrun, hended, _, _, rfl, ?_, ⟨_, rfl⟩, hW, hsame.mono (by decide) (by decide)⟩
  · exact retOut X11 hx Bd.returns rfl (Or.inl ⟨rfl, Or.inl rfl, _, rfl⟩) (hb hby own_d6_46) hr
  · show Q_rmC5_22 Z a1 a3 k1 k3 c0 c1 h0 n0 _ T11.heap _
    rw [e11]
    exact ⟨rfl, N11, K11, V11⟩
theorem own_ef_rmC5_21 (m : MethodId) (x0 : Addr) (x1 : Int32) (x2 : Addr) (x3 : Int32) (x4 : Int32) : entryFrame m #[(.ref x0), (.int x1), (.ref x2), (.int x3), (.int x4)] 7 = mkF m 0 #[oR x0, oI x1, oR x2, oI x3, oI x4, .unset, .unset] [] := by first | (simp [entryFrame, mkF, argsToLocals, Value.category]; done) | rfl
def Q_rmC5_21 (Z : State) (a1 a3 : Addr) (k1 k3 : ClassId) (c0 c1 : Int32) (h0 : Heap) (n0 : Nat) (v : Option Value) (h : Heap) (L : List Loc) : Prop := v = some (.int 1) ∧ Fr n0 L ∧ Keep h0 h [a3] ∧ Arv Z h a3 k3 .byte (2 : Int32) [(.int (own_l c0)), (.int 0)] (.int 0)
set_option maxRecDepth 65536 in
set_option maxHeartbeats 40000000 in
theorem rmC5_21 (l : Launch) (Z : State) (a0 : Array Value) (hw : oT a0 Z) (ws : List Jvm.Cond) (a1 a3 : Addr) (k1 k3 : ClassId) (c0 c1 : Int32) (h0 : Heap) (n0 : Nat) (Z0 : n0 ≤ h0.size) (Va1 : Arv Z h0 a1 k1 .char (2 : Int32) [(.int c0), (.int c1)] (.int 0)) (V3 : Arv Z h0 a3 k3 .byte (2 : Int32) [(.int 0), (.int 0)] (.int 0)) (g_a3 : n0 ≤ a3) (ne_a1_a3 : a1 ≠ a3) (t0 : ¬ (255 : Int32) < c0) (u1 : (255 : Int32) < c1) :
    oK l Z (⟨"java/lang/StringUTF16", "compress", "([CI[BII)I"⟩ : MethodName) jdk_52_method_21_code 7 (some .int) ws (oM 0 0 0 0) #[(.ref a1), (.int 0), (.ref a3), (.int 0), (.int 2)] h0 (Q_rmC5_21 Z a1 a3 k1 k3 c0 c1 h0 n0) := by
  refine MetFree.of_bodySF (plainFor_of_name own_pn5) hisR ?_
  intro p e s m args below meth c s₁ Bd hml0 hP hK
  obtain ⟨rfl, hZ, hh⟩ := hP
  have hx := Bd.exec
  have hby := Bd.bytes
  have hml : c.maxLocals = 7 := hml0
  have hown : s.vm.findClass "java/lang/StringUTF16" = some m.cls := findClass_of_methodNamed Bd.named
  have hnm := (name_of_methodNamed Bd.named Bd.method).1
  have X0 : Stand p l e (oM 0 0 0 0) s m #[(.ref a1), (.int 0), (.ref a3), (.int 0), (.int 2)] below meth c s₁ [] 0 0 := Stand.of_body Bd
  have e0 : s₁.heap = h0 := by rw [← hh, Bd.state]; rfl
  have N0 := Fr.nil n0
  have R0 : ∀ t, oG p e below s₁ m 0 #[oR a1, oI 0, oR a3, oI 0, oI 2, .unset, .unset] [] t → Steps p.tables e below (s₁.setTop (entryFrame m #[(.ref a1), (.int 0), (.ref a3), (.int 0), (.int 2)] 7)) t := fun t k => castTop (own_ef_rmC5_21 m a1 (0 : Int32) a3 (0 : Int32) (2 : Int32)) k
  have R1 : ∀ t, oG p e below s₁ m 12 #[oR a1, oI 0, oR a3, oI 0, oI 2, oI 0, .unset] [(.int 0), (.ref a1)] t → Steps p.tables e below (s₁.setTop (entryFrame m #[(.ref a1), (.int 0), (.ref a3), (.int 0), (.int 2)] 7)) t := by
    intro t k
    refine R0 t ?_
    refine XS.iconst X0.here hx rfl (hb hby own_d6_0) ?_
    refine XS.istore X0.here hx rfl (hb hby own_d6_1) rfl (l' := #[oR a1, oI 0, oR a3, oI 0, oI 2, oI 0, .unset]) rfl ?_
    refine XS.iload X0.here hx rfl (hb hby own_d6_3) rfl ?_
    show oG p e below s₁ m 5 #[oR a1, oI 0, oR a3, oI 0, oI 2, oI 0, .unset] [(.int 0)] _
    refine XS.iload X0.here hx rfl (hb hby own_d6_5) rfl ?_
    refine XS.icmpNo X0.here hx rfl (hb hby own_d6_7) rfl (tlt (by decide : ((0 : Int32) < (2 : Int32)))).2.1 ?_
    refine XS.aloadN X0.here hx rfl (hb hby own_d6_10) rfl rfl ?_
    refine XS.iloadN X0.here hx rfl (hb hby own_d6_11) rfl ?_
    exact k
  obtain ⟨cl2, Ar2, q2, S2, N2', H2, G2⟩ := id Va1
  have hin2_0 : ¬ ((0 : Int32) < 0 ∨ cl2.slots.size ≤ ((0 : Int32)).toNatClampNeg) := inb_of S2 ⟨by decide, by decide⟩
  have hat2_0 : cl2.slots[((0 : Int32)).toNatClampNeg]? = some (.int c0) := H2.at hin2_0 rfl
  have R3 : ∀ t, oG p e below s₁ m 31 #[oR a1, oI 0, oR a3, oI 0, oI 2, oI 0, oI c0] [(.int (c0.toInt8.toInt32)), (.int 0), (.ref a3)] t → Steps p.tables e below (s₁.setTop (entryFrame m #[(.ref a1), (.int 0), (.ref a3), (.int 0), (.int 2)] 7)) t := by
    intro t k
    refine R1 t ?_
    refine X0.caload hx (j := (0 : Int32)) (v := (.int c0)) (by rw [e0]; exact Ar2.1) (State.isArrayOf_alike hZ.alike Ar2.2.1) Ar2.2.2 hin2_0 hat2_0 (g := (mkF m 12 #[oR a1, oI 0, oR a3, oI 0, oI 2, oI 0, .unset] [(.int 0), (.ref a1)])) rfl rfl (hb hby own_d6_12) _ ?_
    refine XS.istore X0.here hx rfl (hb hby own_d6_13) rfl (l' := #[oR a1, oI 0, oR a3, oI 0, oI 2, oI 0, oI c0]) rfl ?_
    refine XS.iload X0.here hx rfl (hb hby own_d6_15) rfl ?_
    show oG p e below s₁ m 17 #[oR a1, oI 0, oR a3, oI 0, oI 2, oI 0, oI c0] [(.int c0)] _
    refine XS.sipush X0.here hx rfl (hb hby own_d6_17) ?_
    refine XS.icmpYes X0.here hx rfl (pc0 := 20) (pc' := 26) rfl (hb hby own_d6_20) rfl (flt t0).2.2.2 (by decide) (by decide) ?_
    refine XS.aloadN X0.here hx rfl (hb hby own_d6_26) rfl rfl ?_
    refine XS.iloadN X0.here hx rfl (hb hby own_d6_27) rfl ?_
    show oG p e below s₁ m 28 #[oR a1, oI 0, oR a3, oI 0, oI 2, oI 0, oI c0] [(.int 0), (.ref a3)] _
    refine XS.iload X0.here hx rfl (hb hby own_d6_28) rfl ?_
    refine XS.i2b X0.here hx rfl (hb hby own_d6_30) rfl ?_
    exact k
  obtain ⟨cl4, Ar4, q4, S4, N4', H4, G4⟩ := id V3
  have hin4 : ¬ ((0 : Int32) < 0 ∨ cl4.slots.size ≤ ((0 : Int32)).toNatClampNeg) := inb_of S4 ⟨by decide, by decide⟩
  obtain ⟨T5, h5, X5, e5, W5, st5⟩ := stB X0 hx hZ e0 Ar4 (j := (0 : Int32)) hin4 (g := (mkF m 31 #[oR a1, oI 0, oR a3, oI 0, oI 2, oI 0, oI c0] [(.int (c0.toInt8.toInt32)), (.int 0), (.ref a3)])) rfl rfl (hb hby own_d6_31)
  have R5 : ∀ t, oG p e below T5 m 32 #[oR a1, oI 0, oR a3, oI 0, oI 2, oI 0, oI c0] [] t → Steps p.tables e below (s₁.setTop (entryFrame m #[(.ref a1), (.int 0), (.ref a3), (.int 0), (.int 2)] 7)) t := fun t k => R3 t (st5 t k)
  have Z5 : n0 ≤ h5.size := Nat.le_trans Z0 (Keep.of_wr W5).1
  have K5 : Keep h0 h5 [a3] := (Keep.refl h0 [a3]).wr W5 (Or.inl (by simp))
  have N5 := Fr.snoc X5 N0 g_a3
  have f6 : Arv Z h5 a1 k1 .char (2 : Int32) [(.int c0), (.int c1)] (.int 0) := Va1.other W5 ne_a1_a3
  have V5 : Arv Z h5 a3 k3 .byte (2 : Int32) [(.int (nar .byte (c0.toInt8.toInt32))), (.int 0)] (.int 0) := Arv.set Ar4 q4 S4 N4' H4 G4 (fits_nar_byte _) W5 0 rfl (Nat.le_of_ble_eq_true rfl)
  have R7 : ∀ t, oG p e below T5 m 12 #[oR a1, oI 1, oR a3, oI 1, oI 2, oI 1, oI c0] [(.int 1), (.ref a1)] t → Steps p.tables e below (s₁.setTop (entryFrame m #[(.ref a1), (.int 0), (.ref a3), (.int 0), (.int 2)] 7)) t := by
    intro t k
    refine R5 t ?_
    refine XS.iinc X5.here hx rfl (hb hby own_d6_32) rfl (l' := #[oR a1, oI 1, oR a3, oI 0, oI 2, oI 0, oI c0]) rfl ?_
    refine XS.iinc X5.here hx rfl (hb hby own_d6_35) rfl (l' := #[oR a1, oI 1, oR a3, oI 1, oI 2, oI 0, oI c0]) rfl ?_
    refine XS.iinc X5.here hx rfl (hb hby own_d6_38) rfl (l' := #[oR a1, oI 1, oR a3, oI 1, oI 2, oI 1, oI c0]) rfl ?_
    show oG p e below T5 m 41 #[oR a1, oI 1, oR a3, oI 1, oI 2, oI 1, oI c0] [] _
    refine XS.goto X5.here hx rfl (pc0 := 41) (pc' := 3) rfl (hb hby own_d6_41) (by decide) (by decide) ?_
    refine XS.iload X5.here hx rfl (hb hby own_d6_3) rfl ?_
    refine XS.iload X5.here hx rfl (hb hby own_d6_5) rfl ?_
    refine XS.icmpNo X5.here hx rfl (hb hby own_d6_7) rfl (tlt (by decide : ((1 : Int32) < (2 : Int32)))).2.1 ?_
    show oG p e below T5 m 10 #[oR a1, oI 1, oR a3, oI 1, oI 2, oI 1, oI c0] [] _
    refine XS.aloadN X5.here hx rfl (hb hby own_d6_10) rfl rfl ?_
    refine XS.iloadN X5.here hx rfl (hb hby own_d6_11) rfl ?_
    exact k
  obtain ⟨cl8, Ar8, q8, S8, N8', H8, G8⟩ := id f6
  have hin8_1 : ¬ ((1 : Int32) < 0 ∨ cl8.slots.size ≤ ((1 : Int32)).toNatClampNeg) := inb_of S8 ⟨by decide, by decide⟩
  have hat8_1 : cl8.slots[((1 : Int32)).toNatClampNeg]? = some (.int c1) := H8.at hin8_1 rfl
  have R9 : ∀ t, oG p e below T5 m 25 #[oR a1, oI 1, oR a3, oI 1, oI 2, oI 1, oI c1] [(.int 1)] t → Steps p.tables e below (s₁.setTop (entryFrame m #[(.ref a1), (.int 0), (.ref a3), (.int 0), (.int 2)] 7)) t := by
    intro t k
    refine R7 t ?_
    refine X5.caload hx (j := (1 : Int32)) (v := (.int c1)) (by rw [e5]; exact Ar8.1) (State.isArrayOf_alike hZ.alike Ar8.2.1) Ar8.2.2 hin8_1 hat8_1 (g := (mkF m 12 #[oR a1, oI 1, oR a3, oI 1, oI 2, oI 1, oI c0] [(.int 1), (.ref a1)])) rfl rfl (hb hby own_d6_12) _ ?_
    refine XS.istore X5.here hx rfl (hb hby own_d6_13) rfl (l' := #[oR a1, oI 1, oR a3, oI 1, oI 2, oI 1, oI c1]) rfl ?_
    refine XS.iload X5.here hx rfl (hb hby own_d6_15) rfl ?_
    show oG p e below T5 m 17 #[oR a1, oI 1, oR a3, oI 1, oI 2, oI 1, oI c1] [(.int c1)] _
    refine XS.sipush X5.here hx rfl (hb hby own_d6_17) ?_
    refine XS.icmpNo X5.here hx rfl (hb hby own_d6_20) rfl (tlt u1).2.2.2 ?_
    refine XS.iload X5.here hx rfl (hb hby own_d6_23) rfl ?_
    exact k
  obtain ⟨fs, hr, hrun, hended, hW, hsame⟩ := X5.leave (v := some (.int 1)) (fun h => by rw [Bd.returns] at h; cases h)
  refine ⟨_, _, R9 _ ?_, hrun, hended, _, _, rfl, ?_, ⟨_, rfl⟩, hW, hsame.mono (by decide) (by decide)⟩
  · exact retOut X5 hx Bd.returns rfl (Or.inl ⟨rfl, Or.inl rfl, _, rfl⟩) (hb hby own_d6_25) hr
  · show Q_rmC5_21 Z a1 a3 k1 k3 c0 c1 h0 n0 _ T5.heap _
    rw [e5]
    exact ⟨rfl, N5, K5, V5⟩
theorem own_ef_rmC5_20 (m : MethodId) (x0 : Addr) (x1 : Int32) (x2 : Addr) (x3 : Int32) (x4 : Int32) : entryFrame m #[(.ref x0), (.int x1), (.ref x2), (.int x3), (.int x4)] 7 = mkF m 0 #[oR x0, oI x1, oR x2, oI x3, oI x4, .unset, .unset] [] := by first | (simp [entryFrame, mkF, argsToLocals, Value.category]; done) | rfl
def Q_rmC5_20 (Z : State) (a1 a3 : Addr) (k1 k3 : ClassId) (c0 c1 : Int32) (h0 : Heap) (n0 : Nat) (v : Option Value) (h : Heap) (L : List Loc) : Prop := v = some (.int 0) ∧ Fr n0 L ∧ Keep h0 h [a3] ∧ Arv Z h a3 k3 .byte (2 : Int32) [(.int 0), (.int 0)] (.int 0)
set_option maxRecDepth 65536 in
set_option maxHeartbeats 40000000 in
theorem rmC5_20 (l : Launch) (Z : State) (a0 : Array Value) (hw : oT a0 Z) (ws : List Jvm.Cond) (a1 a3 : Addr) (k1 k3 : ClassId) (c0 c1 : Int32) (h0 : Heap) (n0 : Nat) (Z0 : n0 ≤ h0.size) (Va1 : Arv Z h0 a1 k1 .char (2 : Int32) [(.int c0), (.int c1)] (.int 0)) (V3 : Arv Z h0 a3 k3 .byte (2 : Int32) [(.int 0), (.int 0)] (.int 0)) (g_a3 : n0 ≤ a3) (ne_a1_a3 : a1 ≠ a3) (u0 : (255 : Int32) < c0) :
    oK l Z (⟨"java/lang/StringUTF16", "compress", "([CI[BII)I"⟩ : MethodName) jdk_52_method_21_code 7 (some .int) ws (oM 0 0 0 0) #[(.ref a1), (.int 0), (.ref a3), (.int 0), (.int 2)] h0 (Q_rmC5_20 Z a1 a3 k1 k3 c0 c1 h0 n0) := by
  refine MetFree.of_bodySF (plainFor_of_name own_pn5) hisR ?_
  intro p e s m args below meth c s₁ Bd hml0 hP hK
  obtain ⟨rfl, hZ, hh⟩ := hP
  have hx := Bd.exec
  have hby := Bd.bytes
  have hml : c.maxLocals = 7 := hml0
  have hown : s.vm.findClass "java/lang/StringUTF16" = some m.cls := findClass_of_methodNamed Bd.named
  have hnm := (name_of_methodNamed Bd.named Bd.method).1
  have X0 : Stand p l e (oM 0 0 0 0) s m #[(.ref a1), (.int 0), (.ref a3), (.int 0), (.int 2)] below meth c s₁ [] 0 0 := Stand.of_body Bd
  have e0 : s₁.heap = h0 := by rw [← hh, Bd.state]; rfl
  have N0 := Fr.nil n0
  have R0 : ∀ t, oG p e below s₁ m 0 #[oR a1, oI 0, oR a3, oI 0, oI 2, .unset, .unset] [] t → Steps p.tables e below (s₁.setTop (entryFrame m #[(.ref a1), (.int 0), (.ref a3), (.int 0), (.int 2)] 7)) t := fun t k => castTop (own_ef_rmC5_20 m a1 (0 : Int32) a3 (0 : Int32) (2 : Int32)) k
  have R1 : ∀ t, oG p e below s₁ m 12 #[oR a1, oI 0, oR a3, oI 0, oI 2, oI 0, .unset] [(.int 0), (.ref a1)] t → Steps p.tables e below (s₁.setTop (entryFrame m #[(.ref a1), (.int 0), (.ref a3), (.int 0), (.int 2)] 7)) t := by
    intro t k
    refine R0 t ?_
    refine XS.iconst X0.here hx rfl (hb hby own_d6_0) ?_
    refine XS.istore X0.here hx rfl (hb hby own_d6_1) rfl (l' := #[oR a1, oI 0, oR a3, oI 0, oI 2, oI 0, .unset]) rfl ?_
    refine XS.iload X0.here hx rfl (hb hby own_d6_3) rfl ?_
    show oG p e below s₁ m 5 #[oR a1, oI 0, oR a3, oI 0, oI 2, oI 0, .unset] [(.int 0)] _
    refine XS.iload X0.here hx rfl (hb hby own_d6_5) rfl ?_
    refine XS.icmpNo X0.here hx rfl (hb hby own_d6_7) rfl (tlt (by decide : ((0 : Int32) < (2 : Int32)))).2.1 ?_
    refine XS.aloadN X0.here hx rfl (hb hby own_d6_10) rfl rfl ?_
    refine XS.iloadN X0.here hx rfl (hb hby own_d6_11) rfl ?_
    exact k
  obtain ⟨cl2, Ar2, q2, S2, N2', H2, G2⟩ := id Va1
  have hin2_0 : ¬ ((0 : Int32) < 0 ∨ cl2.slots.size ≤ ((0 : Int32)).toNatClampNeg) := inb_of S2 ⟨by decide, by decide⟩
  have hat2_0 : cl2.slots[((0 : Int32)).toNatClampNeg]? = some (.int c0) := H2.at hin2_0 rfl
  have R3 : ∀ t, oG p e below s₁ m 25 #[oR a1, oI 0, oR a3, oI 0, oI 2, oI 0, oI c0] [(.int 0)] t → Steps p.tables e below (s₁.setTop (entryFrame m #[(.ref a1), (.int 0), (.ref a3), (.int 0), (.int 2)] 7)) t := by
    intro t k
    refine R1 t ?_
    refine X0.caload hx (j := (0 : Int32)) (v := (.int c0)) (by rw [e0]; exact Ar2.1) (State.isArrayOf_alike hZ.alike Ar2.2.1) Ar2.2.2 hin2_0 hat2_0 (g := (mkF m 12 #[oR a1, oI 0, oR a3, oI 0, oI 2, oI 0, .unset] [(.int 0), (.ref a1)])) rfl rfl (hb hby own_d6_12) _ ?_
    refine XS.istore X0.here hx rfl (hb hby own_d6_13) rfl (l' := #[oR a1, oI 0, oR a3, oI 0, oI 2, oI 0, oI c0]) rfl ?_
    refine XS.iload X0.here hx rfl (hb hby own_d6_15) rfl ?_
    show oG p e below s₁ m 17 #[oR a1, oI 0, oR a3, oI 0, oI 2, oI 0, oI c0] [(.int c0)] _
    refine XS.sipush X0.here hx rfl (hb hby own_d6_17) ?_
    refine XS.icmpNo X0.here hx rfl (hb hby own_d6_20) rfl (tlt u0).2.2.2 ?_
    refine XS.iload X0.here hx rfl (hb hby own_d6_23) rfl ?_
    exact k
  obtain ⟨fs, hr, hrun, hended, hW, hsame⟩ := X0.leave (v := some (.int 0)) (fun h => by rw [Bd.returns] at h; cases h)
  refine ⟨_, _, R3 _ ?_, hrun, hended, _, _, rfl, ?_, ⟨_, rfl⟩, hW, hsame.mono (by decide) (by decide)⟩
  · exact retOut X0 hx Bd.returns rfl (Or.inl ⟨rfl, Or.inl rfl, _, rfl⟩) (hb hby own_d6_25) hr
  · show Q_rmC5_20 Z a1 a3 k1 k3 c0 c1 h0 n0 _ s₁.heap _
    rw [e0]
    exact ⟨rfl, N0, (Keep.refl h0 [a3]), V3⟩
theorem own_ef_rmC3_11 (m : MethodId) (x0 : Addr) (x1 : Int32) (x2 : Int32) : entryFrame m #[(.ref x0), (.int x1), (.int x2)] 6 = mkF m 0 #[oR x0, oI x1, oI x2, .unset, .unset, .unset] [] := by first | (simp [entryFrame, mkF, argsToLocals, Value.category]; done) | rfl
theorem own_d5_0 : decode jdk_52_method_16_code 0 = .ok (.iload_n 2, 1) := by decide +kernel
theorem own_d5_1 : decode jdk_52_method_16_code 1 = .ok (.newarray .byte, 2) := by decide +kernel
theorem own_d5_3 : decode jdk_52_method_16_code 3 = .ok (.astore_n 3, 1) := by decide +kernel
theorem own_d5_4 : decode jdk_52_method_16_code 4 = .ok (.aload_n 0, 1) := by decide +kernel
theorem own_d5_5 : decode jdk_52_method_16_code 5 = .ok (.iload_n 1, 1) := by decide +kernel
theorem own_d5_6 : decode jdk_52_method_16_code 6 = .ok (.aload_n 3, 1) := by decide +kernel
theorem own_d5_7 : decode jdk_52_method_16_code 7 = .ok (.iconst 0, 1) := by decide +kernel
theorem own_d5_8 : decode jdk_52_method_16_code 8 = .ok (.iload_n 2, 1) := by decide +kernel
theorem own_d5_9 : decode jdk_52_method_16_code 9 = .ok (.invokestatic 115, 3) := by decide +kernel
theorem own_pd5 : parseMethodDescriptor "([CI[BII)I" = some ⟨[(.array .char), .int, (.array .byte), .int, .int], some .int⟩ := by decide +kernel
theorem own_d5_12 : decode jdk_52_method_16_code 12 = .ok (.istore 4, 2) := by decide +kernel
theorem own_d5_14 : decode jdk_52_method_16_code 14 = .ok (.iload 4, 2) := by decide +kernel
theorem own_d5_16 : decode jdk_52_method_16_code 16 = .ok (.iload_n 2, 1) := by decide +kernel
theorem own_d5_17 : decode jdk_52_method_16_code 17 = .ok (.if_icmp .eq 40, 3) := by decide +kernel
theorem own_d5_57 : decode jdk_52_method_16_code 57 = .ok (.aload_n 3, 1) := by decide +kernel
theorem own_d5_58 : decode jdk_52_method_16_code 58 = .ok (.areturn, 1) := by decide +kernel
def Q_rmC3_11 (Z : State) (a1 : Addr) (k1 : ClassId) (cz : Int32) (fm : Value) (c0 : Int32) (h0 : Heap) (n0 : Nat) (v : Option Value) (h : Heap) (L : List Loc) : Prop := ∃ (b : Addr) (k : ClassId), v = some (.ref b) ∧ Fr n0 L ∧ Keep h0 h [] ∧ h0.size ≤ b ∧ Arv Z h b k .byte (1 : Int32) [(.int (own_l c0))] (.int 0)
set_option maxRecDepth 65536 in
set_option maxHeartbeats 40000000 in
theorem rmC3_11 (l : Launch) (Z : State) (a0 : Array Value) (hw : oT a0 Z) (ws : List Jvm.Cond) (a1 : Addr) (k1 : ClassId) (cz : Int32) (fm : Value) (c0 : Int32) (h0 : Heap) (n0 : Nat) (Z0 : n0 ≤ h0.size) (SU : own_St Z cz fm) (OX : Old Z n0 h0) (Va1 : Arv Z h0 a1 k1 .char (1 : Int32) [(.int c0)] (.int 0)) (t0 : ¬ (255 : Int32) < c0) (r0 : own_R c0) :
    oK l Z (⟨"java/lang/StringUTF16", "compress", "([CII)[B"⟩ : MethodName) jdk_52_method_16_code 6 (some (.array .byte)) ws (oM 1 1 1 18) #[(.ref a1), (.int 0), (.int 1)] h0 (Q_rmC3_11 Z a1 k1 cz fm c0 h0 n0) := by
  refine MetFree.of_bodySF (plainFor_of_name own_pn5) hisR ?_
  intro p e s m args below meth c s₁ Bd hml0 hP hK
  obtain ⟨rfl, hZ, hh⟩ := hP
  have hx := Bd.exec
  have hby := Bd.bytes
  have hml : c.maxLocals = 6 := hml0
  have hown : s.vm.findClass "java/lang/StringUTF16" = some m.cls := findClass_of_methodNamed Bd.named
  have hnm := (name_of_methodNamed Bd.named Bd.method).1
  have X0 : Stand p l e (oM 1 1 1 18) s m #[(.ref a1), (.int 0), (.int 1)] below meth c s₁ [] 0 0 := Stand.of_body Bd
  have e0 : s₁.heap = h0 := by rw [← hh, Bd.state]; rfl
  have N0 := Fr.nil n0
  have R0 : ∀ t, oG p e below s₁ m 0 #[oR a1, oI 0, oI 1, .unset, .unset, .unset] [] t → Steps p.tables e below (s₁.setTop (entryFrame m #[(.ref a1), (.int 0), (.int 1)] 6)) t := fun t k => castTop (own_ef_rmC3_11 m a1 (0 : Int32) (1 : Int32)) k
  have R1 : ∀ t, oG p e below s₁ m 1 #[oR a1, oI 0, oI 1, .unset, .unset, .unset] [(.int 1)] t → Steps p.tables e below (s₁.setTop (entryFrame m #[(.ref a1), (.int 0), (.int 1)] 6)) t := by
    intro t k
    refine R0 t ?_
    refine XS.iloadN X0.here hx rfl (hb hby own_d5_0) rfl ?_
    exact k
  obtain ⟨T2, h2, k2, X2, e2, E2, A2, st2⟩ := newP X0 hx hZ (oW hw 23 rfl) e0 (g := (mkF m 1 #[oR a1, oI 0, oI 1, .unset, .unset, .unset] [(.int 1)])) rfl (hb hby own_d5_1) rfl (by decide) (cap := 1) (by decide) (by decide) (by decide) (by decide)
  obtain ⟨b2, g2⟩ : ∃ z, z = h0.size := ⟨_, rfl⟩
  rw [← g2] at A2 st2
  have R2 : ∀ t, oG p e below T2 m 3 #[oR a1, oI 0, oI 1, .unset, .unset, .unset] [(.ref b2)] t → Steps p.tables e below (s₁.setTop (entryFrame m #[(.ref a1), (.int 0), (.int 1)] 6)) t := fun t k => R1 t (st2 t k)
  have ne_a1_b2 : a1 ≠ b2 := Nat.ne_of_lt (Nat.lt_of_lt_of_le Va1.lt (Nat.le_of_eq g2.symm))
  have g_b2 : n0 ≤ b2 := Nat.le_trans Z0 (Nat.le_of_eq g2.symm)
  have sz_b2 : h0.size ≤ b2 := Nat.le_trans (Keep.refl h0 []).1 (Nat.le_of_eq g2.symm)
  have Z2 : n0 ≤ h2.size := Nat.le_trans Z0 E2.1
  have K2 : Keep h0 h2 [] := (Keep.refl h0 []).ext E2
  have f3 : Old Z n0 h2 := OX.ext E2
  have f4 : Arv Z h2 a1 k1 .char (1 : Int32) [(.int c0)] (.int 0) := Va1.ext E2
  have V2 : Arv Z h2 b2 k2 .byte (1 : Int32) [(.int 0)] (.int 0) := (Arv.new A2 (by decide)).pad (pad_rep [] (.int 0) 1)
  have R5 : ∀ t, oG p e below T2 m 9 #[oR a1, oI 0, oI 1, oR b2, .unset, .unset] [(.int 1), (.int 0), (.ref b2), (.int 0), (.ref a1)] t → Steps p.tables e below (s₁.setTop (entryFrame m #[(.ref a1), (.int 0), (.int 1)] 6)) t := by
    intro t k
    refine R2 t ?_
    refine XS.astoreN X2.here hx rfl (hb hby own_d5_3) rfl rfl (l' := #[oR a1, oI 0, oI 1, oR b2, .unset, .unset]) rfl ?_
    refine XS.aloadN X2.here hx rfl (hb hby own_d5_4) rfl rfl ?_
    refine XS.iloadN X2.here hx rfl (hb hby own_d5_5) rfl ?_
    show oG p e below T2 m 6 #[oR a1, oI 0, oI 1, oR b2, .unset, .unset] [(.int 0), (.ref a1)] _
    refine XS.aloadN X2.here hx rfl (hb hby own_d5_6) rfl rfl ?_
    refine XS.iconst X2.here hx rfl (hb hby own_d5_7) ?_
    refine XS.iloadN X2.here hx rfl (hb hby own_d5_8) rfl ?_
    exact k
  obtain ⟨_, _, ⟨T6, L6, k6, n6⟩, -, X6, ⟨Lc6, hQ6, l6, y6, z6⟩, st6⟩ := Jvm.LawKit.callS X2 hx (y := (⟨"java/lang/StringUTF16", "compress", "([CI[BII)I"⟩ : MethodName)) hown (mvT hZ (oW hw 24 rfl)) (mvT hZ (oW hw 25 rfl)) (mvT hZ (oW hw 21 rfl)) (mvT hZ (oW hw 26 rfl)) (by decide) (backOf (W := 0) (rmC5_11 l Z a0 hw [] a1 b2 k1 k2 c0 h2 n0 Z2 f4 V2 g_b2 ne_a1_b2 t0) hZ (oW hw 26 rfl) (oW hw 21 rfl) (by decide) (by decide)) (g := (mkF m 9 #[oR a1, oI 0, oI 1, oR b2, .unset, .unset] [(.int 1), (.int 0), (.ref b2), (.int 0), (.ref a1)])) rfl (by rw [hml]; rfl) (argsL := [(.ref a1), (.int 0), (.ref b2), (.int 0), (.int 1)]) (rest := []) (lenOf own_pd5 rfl) rfl (by show 2 * 0 + _ ≤ _; exact Nat.le_of_eq rfl) (hb hby own_d5_9) (fun _ _ => ⟨rfl, e2, (by decide : 1 + 0 ≤ _), (by decide : 1 + 0 ≤ _)⟩)
  dsimp only [Pt.U, Pt.locs, Pt.cells, Pt.slots] at X6 l6 y6 z6 st6 hQ6
  subst l6 y6 z6
  obtain ⟨rfl, Nq6, Kc6, Vn6⟩ := hQ6
  have N6 := Fr.app N0 Nq6
  have R6 : ∀ t, oG p e below T6 m 12 #[oR a1, oI 0, oI 1, oR b2, .unset, .unset] [(.int 1)] t → Steps p.tables e below (s₁.setTop (entryFrame m #[(.ref a1), (.int 0), (.int 1)] 6)) t := fun t k => R5 t (st6 t k)
  have Z6 : n0 ≤ T6.heap.size := Nat.le_trans Z2 Kc6.1
  have K6 : Keep h0 T6.heap [] := K2.trans Kc6 (allS (Or.inr sz_b2) all0)
  have f7 : Old Z n0 T6.heap := f3.keep Kc6 (allS g_b2 all0)
  have f8 : Arv Z T6.heap a1 k1 .char (1 : Int32) [(.int c0)] (.int 0) := f4.keep Kc6 (ninS ne_a1_b2 nin0)
  have R9 : ∀ t, oG p e below T6 m 58 #[oR a1, oI 0, oI 1, oR b2, oI 1, .unset] [(.ref b2)] t → Steps p.tables e below (s₁.setTop (entryFrame m #[(.ref a1), (.int 0), (.int 1)] 6)) t := by
    intro t k
    refine R6 t ?_
    refine XS.istore X6.here hx rfl (hb hby own_d5_12) rfl (l' := #[oR a1, oI 0, oI 1, oR b2, oI 1, .unset]) rfl ?_
    refine XS.iload X6.here hx rfl (hb hby own_d5_14) rfl ?_
    refine XS.iloadN X6.here hx rfl (hb hby own_d5_16) rfl ?_
    show oG p e below T6 m 17 #[oR a1, oI 0, oI 1, oR b2, oI 1, .unset] [(.int 1), (.int 1)] _
    refine XS.icmpYes X6.here hx rfl (pc0 := 17) (pc' := 57) rfl (hb hby own_d5_17) rfl (teq (by decide : ((1 : Int32) = (1 : Int32)))).1 (by decide) (by decide) ?_
    refine XS.aloadN X6.here hx rfl (hb hby own_d5_57) rfl rfl ?_
    exact k
  obtain ⟨fs, hr, hrun, hended, hW, hsame⟩ := X6.leave (v := some (.ref b2)) (fun h => by rw [Bd.returns] at h; cases h)
  refine ⟨_, _, R9 _ ?_, hrun, hended, _, _, rfl, ?_, ⟨_, rfl⟩, hW, hsame.mono (by decide) (by decide)⟩
  · exact retOut X6 hx Bd.returns rfl (Or.inr (Or.inr (Or.inr (Or.inr ⟨rfl, rfl, rfl⟩)))) (hb hby own_d5_58) hr
  · show Q_rmC3_11 Z a1 k1 cz fm c0 h0 n0 _ T6.heap _
    exact ⟨b2, k2, rfl, N6, K6, sz_b2, Vn6⟩
theorem own_ef_rmC3_10 (m : MethodId) (x0 : Addr) (x1 : Int32) (x2 : Int32) : entryFrame m #[(.ref x0), (.int x1), (.int x2)] 6 = mkF m 0 #[oR x0, oI x1, oI x2, .unset, .unset, .unset] [] := by first | (simp [entryFrame, mkF, argsToLocals, Value.category]; done) | rfl
theorem own_d5_20 : decode jdk_52_method_16_code 20 = .ok (.aload_n 0, 1) := by decide +kernel
theorem own_d5_21 : decode jdk_52_method_16_code 21 = .ok (.iload_n 1, 1) := by decide +kernel
theorem own_d5_22 : decode jdk_52_method_16_code 22 = .ok (.iload_n 2, 1) := by decide +kernel
theorem own_d5_23 : decode jdk_52_method_16_code 23 = .ok (.invokestatic 119, 3) := by decide +kernel
theorem own_pd4 : parseMethodDescriptor "([CII)[B" = some ⟨[(.array .char), .int, .int], some (.array .byte)⟩ := by decide +kernel
theorem own_d5_26 : decode jdk_52_method_16_code 26 = .ok (.astore 5, 2) := by decide +kernel
theorem own_d5_28 : decode jdk_52_method_16_code 28 = .ok (.aload 5, 2) := by decide +kernel
theorem own_d5_30 : decode jdk_52_method_16_code 30 = .ok (.iload 4, 2) := by decide +kernel
theorem own_d5_32 : decode jdk_52_method_16_code 32 = .ok (.invokestatic 71, 3) := by decide +kernel
theorem own_d5_35 : decode jdk_52_method_16_code 35 = .ok (.sipush 255, 3) := by decide +kernel
theorem own_d5_38 : decode jdk_52_method_16_code 38 = .ok (.if_icmp .gt 16, 3) := by decide +kernel
theorem own_d5_54 : decode jdk_52_method_16_code 54 = .ok (.aload 5, 2) := by decide +kernel
theorem own_d5_56 : decode jdk_52_method_16_code 56 = .ok (.areturn, 1) := by decide +kernel
def Q_rmC3_10 (Z : State) (a1 : Addr) (k1 : ClassId) (cz : Int32) (fm : Value) (c0 : Int32) (h0 : Heap) (n0 : Nat) (v : Option Value) (h : Heap) (L : List Loc) : Prop := ∃ (b : Addr) (k : ClassId), v = some (.ref b) ∧ Fr n0 L ∧ Keep h0 h [] ∧ h0.size ≤ b ∧ Arv Z h b k .byte (2 : Int32) [(.int (own_b0 c0)), (.int (own_b1 c0))] (.int 0)
set_option maxRecDepth 65536 in
set_option maxHeartbeats 40000000 in
theorem rmC3_10 (l : Launch) (Z : State) (a0 : Array Value) (hw : oT a0 Z) (ws : List Jvm.Cond) (a1 : Addr) (k1 : ClassId) (cz : Int32) (fm : Value) (c0 : Int32) (h0 : Heap) (n0 : Nat) (Z0 : n0 ≤ h0.size) (SU : own_St Z cz fm) (OX : Old Z n0 h0) (Va1 : Arv Z h0 a1 k1 .char (1 : Int32) [(.int c0)] (.int 0)) (u0 : (255 : Int32) < c0) (r0 : own_R c0) :
    oK l Z (⟨"java/lang/StringUTF16", "compress", "([CII)[B"⟩ : MethodName) jdk_52_method_16_code 6 (some (.array .byte)) ws (oM 3 2 3 40) #[(.ref a1), (.int 0), (.int 1)] h0 (Q_rmC3_10 Z a1 k1 cz fm c0 h0 n0) := by
  refine MetFree.of_bodySF (plainFor_of_name own_pn5) hisR ?_
  intro p e s m args below meth c s₁ Bd hml0 hP hK
  obtain ⟨rfl, hZ, hh⟩ := hP
  have hx := Bd.exec
  have hby := Bd.bytes
  have hml : c.maxLocals = 6 := hml0
  have hown : s.vm.findClass "java/lang/StringUTF16" = some m.cls := findClass_of_methodNamed Bd.named
  have hnm := (name_of_methodNamed Bd.named Bd.method).1
  have X0 : Stand p l e (oM 3 2 3 40) s m #[(.ref a1), (.int 0), (.int 1)] below meth c s₁ [] 0 0 := Stand.of_body Bd
  have e0 : s₁.heap = h0 := by rw [← hh, Bd.state]; rfl
  have N0 := Fr.nil n0
  have R0 : ∀ t, oG p e below s₁ m 0 #[oR a1, oI 0, oI 1, .unset, .unset, .unset] [] t → Steps p.tables e below (s₁.setTop (entryFrame m #[(.ref a1), (.int 0), (.int 1)] 6)) t := fun t k => castTop (own_ef_rmC3_10 m a1 (0 : Int32) (1 : Int32)) k
  have R1 : ∀ t, oG p e below s₁ m 1 #[oR a1, oI 0, oI 1, .unset, .unset, .unset] [(.int 1)] t → Steps p.tables e below (s₁.setTop (entryFrame m #[(.ref a1), (.int 0), (.int 1)] 6)) t := by
    intro t k
    refine R0 t ?_
    refine XS.iloadN X0.here hx rfl (hb hby own_d5_0) rfl ?_
    exact k
  obtain ⟨T2, h2, k2, X2, e2, E2, A2, st2⟩ := newP X0 hx hZ (oW hw 23 rfl) e0 (g := (mkF m 1 #[oR a1, oI 0, oI 1, .unset, .unset, .unset] [(.int 1)])) rfl (hb hby own_d5_1) rfl (by decide) (cap := 1) (by decide) (by decide) (by decide) (by decide)
  obtain ⟨b2, g2⟩ : ∃ z, z = h0.size := ⟨_, rfl⟩
  rw [← g2] at A2 st2
  have R2 : ∀ t, oG p e below T2 m 3 #[oR a1, oI 0, oI 1, .unset, .unset, .unset] [(.ref b2)] t → Steps p.tables e below (s₁.setTop (entryFrame m #[(.ref a1), (.int 0), (.int 1)] 6)) t := fun t k => R1 t (st2 t k)
  have ne_a1_b2 : a1 ≠ b2 := Nat.ne_of_lt (Nat.lt_of_lt_of_le Va1.lt (Nat.le_of_eq g2.symm))
  have g_b2 : n0 ≤ b2 := Nat.le_trans Z0 (Nat.le_of_eq g2.symm)
  have sz_b2 : h0.size ≤ b2 := Nat.le_trans (Keep.refl h0 []).1 (Nat.le_of_eq g2.symm)
  have Z2 : n0 ≤ h2.size := Nat.le_trans Z0 E2.1
  have K2 : Keep h0 h2 [] := (Keep.refl h0 []).ext E2
  have f3 : Old Z n0 h2 := OX.ext E2
  have f4 : Arv Z h2 a1 k1 .char (1 : Int32) [(.int c0)] (.int 0) := Va1.ext E2
  have V2 : Arv Z h2 b2 k2 .byte (1 : Int32) [(.int 0)] (.int 0) := (Arv.new A2 (by decide)).pad (pad_rep [] (.int 0) 1)
  have R5 : ∀ t, oG p e below T2 m 9 #[oR a1, oI 0, oI 1, oR b2, .unset, .unset] [(.int 1), (.int 0), (.ref b2), (.int 0), (.ref a1)] t → Steps p.tables e below (s₁.setTop (entryFrame m #[(.ref a1), (.int 0), (.int 1)] 6)) t := by
    intro t k
    refine R2 t ?_
    refine XS.astoreN X2.here hx rfl (hb hby own_d5_3) rfl rfl (l' := #[oR a1, oI 0, oI 1, oR b2, .unset, .unset]) rfl ?_
    refine XS.aloadN X2.here hx rfl (hb hby own_d5_4) rfl rfl ?_
    refine XS.iloadN X2.here hx rfl (hb hby own_d5_5) rfl ?_
    show oG p e below T2 m 6 #[oR a1, oI 0, oI 1, oR b2, .unset, .unset] [(.int 0), (.ref a1)] _
    refine XS.aloadN X2.here hx rfl (hb hby own_d5_6) rfl rfl ?_
    refine XS.iconst X2.here hx rfl (hb hby own_d5_7) ?_
    refine XS.iloadN X2.here hx rfl (hb hby own_d5_8) rfl ?_
    exact k
  obtain ⟨_, _, ⟨T6, L6, k6, n6⟩, -, X6, ⟨Lc6, hQ6, l6, y6, z6⟩, st6⟩ := Jvm.LawKit.callS X2 hx (y := (⟨"java/lang/StringUTF16", "compress", "([CI[BII)I"⟩ : MethodName)) hown (mvT hZ (oW hw 24 rfl)) (mvT hZ (oW hw 25 rfl)) (mvT hZ (oW hw 21 rfl)) (mvT hZ (oW hw 26 rfl)) (by decide) (backOf (W := 0) (rmC5_10 l Z a0 hw [] a1 b2 k1 k2 c0 h2 n0 Z2 f4 V2 g_b2 ne_a1_b2 u0) hZ (oW hw 26 rfl) (oW hw 21 rfl) (by decide) (by decide)) (g := (mkF m 9 #[oR a1, oI 0, oI 1, oR b2, .unset, .unset] [(.int 1), (.int 0), (.ref b2), (.int 0), (.ref a1)])) rfl (by rw [hml]; rfl) (argsL := [(.ref a1), (.int 0), (.ref b2), (.int 0), (.int 1)]) (rest := []) (lenOf own_pd5 rfl) rfl (by show 2 * 0 + _ ≤ _; exact Nat.le_of_eq rfl) (hb hby own_d5_9) (fun _ _ => ⟨rfl, e2, (by decide : 1 + 0 ≤ _), (by decide : 1 + 0 ≤ _)⟩)
  dsimp only [Pt.U, Pt.locs, Pt.cells, Pt.slots] at X6 l6 y6 z6 st6 hQ6
  subst l6 y6 z6
  obtain ⟨rfl, Nq6, Kc6, Vn6⟩ := hQ6
  have N6 := Fr.app N0 Nq6
  have R6 : ∀ t, oG p e below T6 m 12 #[oR a1, oI 0, oI 1, oR b2, .unset, .unset] [(.int 0)] t → Steps p.tables e below (s₁.setTop (entryFrame m #[(.ref a1), (.int 0), (.int 1)] 6)) t := fun t k => R5 t (st6 t k)
  have Z6 : n0 ≤ T6.heap.size := Nat.le_trans Z2 Kc6.1
  have K6 : Keep h0 T6.heap [] := K2.trans Kc6 (allS (Or.inr sz_b2) all0)
  have f7 : Old Z n0 T6.heap := f3.keep Kc6 (allS g_b2 all0)
  have f8 : Arv Z T6.heap a1 k1 .char (1 : Int32) [(.int c0)] (.int 0) := f4.keep Kc6 (ninS ne_a1_b2 nin0)
  have R9 : ∀ t, oG p e below T6 m 23 #[oR a1, oI 0, oI 1, oR b2, oI 0, .unset] [(.int 1), (.int 0), (.ref a1)] t → Steps p.tables e below (s₁.setTop (entryFrame m #[(.ref a1), (.int 0), (.int 1)] 6)) t := by
    intro t k
    refine R6 t ?_
    refine XS.istore X6.here hx rfl (hb hby own_d5_12) rfl (l' := #[oR a1, oI 0, oI 1, oR b2, oI 0, .unset]) rfl ?_
    refine XS.iload X6.here hx rfl (hb hby own_d5_14) rfl ?_
    refine XS.iloadN X6.here hx rfl (hb hby own_d5_16) rfl ?_
    show oG p e below T6 m 17 #[oR a1, oI 0, oI 1, oR b2, oI 0, .unset] [(.int 1), (.int 0)] _
    refine XS.icmpNo X6.here hx rfl (hb hby own_d5_17) rfl (feq (by decide : ¬ ((0 : Int32) = (1 : Int32)))).1 ?_
    refine XS.aloadN X6.here hx rfl (hb hby own_d5_20) rfl rfl ?_
    refine XS.iloadN X6.here hx rfl (hb hby own_d5_21) rfl ?_
    refine XS.iloadN X6.here hx rfl (hb hby own_d5_22) rfl ?_
    exact k
  obtain ⟨_, _, ⟨T10, L10, k10, n10⟩, -, X10, ⟨Lc10, hQ10, l10, y10, z10⟩, st10⟩ := Jvm.LawKit.callS X6 hx (y := (⟨"java/lang/StringUTF16", "toBytes", "([CII)[B"⟩ : MethodName)) hown (mvT hZ (oW hw 72 rfl)) (mvT hZ (oW hw 73 rfl)) (mvT hZ (oW hw 21 rfl)) (mvT hZ (oW hw 74 rfl)) (by decide) (backOf (W := 0) (rmTB1 l Z a0 hw [] a1 k1 cz fm c0 T6.heap n0 Z6 SU f7 f8) hZ (oW hw 74 rfl) (oW hw 21 rfl) (by decide) (by decide)) (g := (mkF m 23 #[oR a1, oI 0, oI 1, oR b2, oI 0, .unset] [(.int 1), (.int 0), (.ref a1)])) rfl (by rw [hml]; rfl) (argsL := [(.ref a1), (.int 0), (.int 1)]) (rest := []) (lenOf own_pd4 rfl) rfl (by show 2 * 0 + _ ≤ _; exact Nat.le_of_eq rfl) (hb hby own_d5_23) (fun _ _ => ⟨rfl, rfl, (by decide : 1 + 1 ≤ _), (by decide : 1 + 2 ≤ _)⟩)
  dsimp only [Pt.U, Pt.locs, Pt.cells, Pt.slots] at X10 l10 y10 z10 st10 hQ10
  subst l10 y10 z10
  obtain ⟨bx, kx, rfl, Nq10, Kc10, sb10, Vn10⟩ := hQ10
  have N10 := Fr.app N6 Nq10
  have R10 : ∀ t, oG p e below T10 m 26 #[oR a1, oI 0, oI 1, oR b2, oI 0, .unset] [(.ref bx)] t → Steps p.tables e below (s₁.setTop (entryFrame m #[(.ref a1), (.int 0), (.int 1)] 6)) t := fun t k => R9 t (st10 t k)
  have ne_a1_bx : a1 ≠ bx := Nat.ne_of_lt (Nat.lt_of_lt_of_le f8.lt sb10)
  have ne_b2_bx : b2 ≠ bx := Nat.ne_of_lt (Nat.lt_of_lt_of_le Vn6.lt sb10)
  have g_bx : n0 ≤ bx := Nat.le_trans Z6 sb10
  have sz_bx : h0.size ≤ bx := Nat.le_trans K6.1 sb10
  have Z10 : n0 ≤ T10.heap.size := Nat.le_trans Z6 Kc10.1
  have K10 : Keep h0 T10.heap [] := K6.trans Kc10 all0
  have f11 : Old Z n0 T10.heap := f7.keep Kc10 all0
  have f12 : Arv Z T10.heap a1 k1 .char (1 : Int32) [(.int c0)] (.int 0) := f8.keep Kc10 nin0
  have f13 : Arv Z T10.heap b2 k2 .byte (1 : Int32) [(.int 0)] (.int 0) := Vn6.keep Kc10 nin0
  have R14 : ∀ t, oG p e below T10 m 32 #[oR a1, oI 0, oI 1, oR b2, oI 0, oR bx] [(.int 0), (.ref bx)] t → Steps p.tables e below (s₁.setTop (entryFrame m #[(.ref a1), (.int 0), (.int 1)] 6)) t := by
    intro t k
    refine R10 t ?_
    refine XS.astore X10.here hx rfl (hb hby own_d5_26) rfl rfl (l' := #[oR a1, oI 0, oI 1, oR b2, oI 0, oR bx]) rfl ?_
    refine XS.aload X10.here hx rfl (hb hby own_d5_28) rfl rfl ?_
    refine XS.iload X10.here hx rfl (hb hby own_d5_30) rfl ?_
    exact k
  obtain ⟨_, _, ⟨T15, L15, k15, n15⟩, -, X15, ⟨Lc15, hQ15, l15, y15, z15⟩, st15⟩ := Jvm.LawKit.callS X10 hx (y := (⟨"java/lang/StringUTF16", "getChar", "([BI)C"⟩ : MethodName)) hown (mvT hZ (oW hw 88 rfl)) (mvT hZ (oW hw 89 rfl)) (mvT hZ (oW hw 21 rfl)) (mvT hZ (oW hw 90 rfl)) (by decide) (backOf (W := 0) (rmGC20 l Z a0 hw [] bx kx cz fm c0 T10.heap n0 Z10 SU f11 Vn10 r0) hZ (oW hw 90 rfl) (oW hw 21 rfl) (by decide) (by decide)) (g := (mkF m 32 #[oR a1, oI 0, oI 1, oR b2, oI 0, oR bx] [(.int 0), (.ref bx)])) rfl (by rw [hml]; rfl) (argsL := [(.ref bx), (.int 0)]) (rest := []) (lenOf own_pd17 rfl) rfl (by show 2 * 0 + _ ≤ _; exact Nat.le_of_eq rfl) (hb hby own_d5_32) (fun _ _ => ⟨rfl, rfl, (by decide : 2 + 0 ≤ _), (by decide : 3 + 0 ≤ _)⟩)
  dsimp only [Pt.U, Pt.locs, Pt.cells, Pt.slots] at X15 l15 y15 z15 st15 hQ15
  subst l15 y15 z15
  obtain ⟨rfl, Nq15, eq15⟩ := hQ15
  have N15 := Fr.app N10 Nq15
  have R15 : ∀ t, oG p e below T15 m 35 #[oR a1, oI 0, oI 1, oR b2, oI 0, oR bx] [(.int c0)] t → Steps p.tables e below (s₁.setTop (entryFrame m #[(.ref a1), (.int 0), (.int 1)] 6)) t := fun t k => R14 t (st15 t k)
  have R16 : ∀ t, oG p e below T15 m 56 #[oR a1, oI 0, oI 1, oR b2, oI 0, oR bx] [(.ref bx)] t → Steps p.tables e below (s₁.setTop (entryFrame m #[(.ref a1), (.int 0), (.int 1)] 6)) t := by
    intro t k
    refine R15 t ?_
    refine XS.sipush X15.here hx rfl (hb hby own_d5_35) ?_
    refine XS.icmpYes X15.here hx rfl (pc0 := 38) (pc' := 54) rfl (hb hby own_d5_38) rfl (tlt u0).2.2.1 (by decide) (by decide) ?_
    refine XS.aload X15.here hx rfl (hb hby own_d5_54) rfl rfl ?_
    exact k
  obtain ⟨fs, hr, hrun, hended, hW, hsame⟩ := X15.leave (v := some (.ref bx)) (fun h => by rw [Bd.returns] at h; cases h)
  refine ⟨_, _, R16 _ ?_, hrun, hended, _, _, rfl, ?_, ⟨_, rfl⟩, hW, hsame.mono (by decide) (by decide)⟩
  · exact retOut X15 hx Bd.returns rfl (Or.inr (Or.inr (Or.inr (Or.inr ⟨rfl, rfl, rfl⟩)))) (hb hby own_d5_56) hr
  · show Q_rmC3_10 Z a1 k1 cz fm c0 h0 n0 _ T15.heap _
    rw [eq15]
    exact ⟨bx, kx, rfl, N15, K10, sz_bx, Vn10⟩
theorem own_ef_rmC3_22 (m : MethodId) (x0 : Addr) (x1 : Int32) (x2 : Int32) : entryFrame m #[(.ref x0), (.int x1), (.int x2)] 6 = mkF m 0 #[oR x0, oI x1, oI x2, .unset, .unset, .unset] [] := by first | (simp [entryFrame, mkF, argsToLocals, Value.category]; done) | rfl
def Q_rmC3_22 (Z : State) (a1 : Addr) (k1 : ClassId) (cz : Int32) (fm : Value) (c0 c1 : Int32) (h0 : Heap) (n0 : Nat) (v : Option Value) (h : Heap) (L : List Loc) : Prop := ∃ (b : Addr) (k : ClassId), v = some (.ref b) ∧ Fr n0 L ∧ Keep h0 h [] ∧ h0.size ≤ b ∧ Arv Z h b k .byte (2 : Int32) [(.int (own_l c0)), (.int (own_l c1))] (.int 0)
set_option maxRecDepth 65536 in
set_option maxHeartbeats 40000000 in
theorem rmC3_22 (l : Launch) (Z : State) (a0 : Array Value) (hw : oT a0 Z) (ws : List Jvm.Cond) (a1 : Addr) (k1 : ClassId) (cz : Int32) (fm : Value) (c0 c1 : Int32) (h0 : Heap) (n0 : Nat) (Z0 : n0 ≤ h0.size) (SU : own_St Z cz fm) (OX : Old Z n0 h0) (Va1 : Arv Z h0 a1 k1 .char (2 : Int32) [(.int c0), (.int c1)] (.int 0)) (t0 : ¬ (255 : Int32) < c0) (t1 : ¬ (255 : Int32) < c1) (r0 : own_R c0) (r1 : own_R c1) :
    oK l Z (⟨"java/lang/StringUTF16", "compress", "([CII)[B"⟩ : MethodName) jdk_52_method_16_code 6 (some (.array .byte)) ws (oM 1 1 2 18) #[(.ref a1), (.int 0), (.int 2)] h0 (Q_rmC3_22 Z a1 k1 cz fm c0 c1 h0 n0) := by
  refine MetFree.of_bodySF (plainFor_of_name own_pn5) hisR ?_
  intro p e s m args below meth c s₁ Bd hml0 hP hK
  obtain ⟨rfl, hZ, hh⟩ := hP
  have hx := Bd.exec
  have hby := Bd.bytes
  have hml : c.maxLocals = 6 := hml0
  have hown : s.vm.findClass "java/lang/StringUTF16" = some m.cls := findClass_of_methodNamed Bd.named
  have hnm := (name_of_methodNamed Bd.named Bd.method).1
  have X0 : Stand p l e (oM 1 1 2 18) s m #[(.ref a1), (.int 0), (.int 2)] below meth c s₁ [] 0 0 := Stand.of_body Bd
  have e0 : s₁.heap = h0 := by rw [← hh, Bd.state]; rfl
  have N0 := Fr.nil n0
  have R0 : ∀ t, oG p e below s₁ m 0 #[oR a1, oI 0, oI 2, .unset, .unset, .unset] [] t → Steps p.tables e below (s₁.setTop (entryFrame m #[(.ref a1), (.int 0), (.int 2)] 6)) t := fun t k => castTop (own_ef_rmC3_22 m a1 (0 : Int32) (2 : Int32)) k
  have R1 : ∀ t, oG p e below s₁ m 1 #[oR a1, oI 0, oI 2, .unset, .unset, .unset] [(.int 2)] t → Steps p.tables e below (s₁.setTop (entryFrame m #[(.ref a1), (.int 0), (.int 2)] 6)) t := by
    intro t k
    refine R0 t ?_
    refine XS.iloadN X0.here hx rfl (hb hby own_d5_0) rfl ?_
    exact k
  obtain ⟨T2, h2, k2, X2, e2, E2, A2, st2⟩ := newP X0 hx hZ (oW hw 23 rfl) e0 (g := (mkF m 1 #[oR a1, oI 0, oI 2, .unset, .unset, .unset] [(.int 2)])) rfl (hb hby own_d5_1) rfl (by decide) (cap := 2) (by decide) (by decide) (by decide) (by decide)
  obtain ⟨b2, g2⟩ : ∃ z, z = h0.size := ⟨_, rfl⟩
  rw [← g2] at A2 st2
  have R2 : ∀ t, oG p e below T2 m 3 #[oR a1, oI 0, oI 2, .unset, .unset, .unset] [(.ref b2)] t → Steps p.tables e below (s₁.setTop (entryFrame m #[(.ref a1), (.int 0), (.int 2)] 6)) t := fun t k => R1 t (st2 t k)
  have ne_a1_b2 : a1 ≠ b2 := Nat.ne_of_lt (Nat.lt_of_lt_of_le Va1.lt (Nat.le_of_eq g2.symm))
  have g_b2 : n0 ≤ b2 := Nat.le_trans Z0 (Nat.le_of_eq g2.symm)
  have sz_b2 : h0.size ≤ b2 := Nat.le_trans (Keep.refl h0 []).1 (Nat.le_of_eq g2.symm)
  have Z2 : n0 ≤ h2.size := Nat.le_trans Z0 E2.1
  have K2 : Keep h0 h2 [] := (Keep.refl h0 []).ext E2
  have f3 : Old Z n0 h2 := OX.ext E2
  have f4 : Arv Z h2 a1 k1 .char (2 : Int32) [(.int c0), (.int c1)] (.int 0) := Va1.ext E2
  have V2 : Arv Z h2 b2 k2 .byte (2 : Int32) [(.int 0), (.int 0)] (.int 0) := (Arv.new A2 (by decide)).pad (pad_rep [] (.int 0) 2)
  have R5 : ∀ t, oG p e below T2 m 9 #[oR a1, oI 0, oI 2, oR b2, .unset, .unset] [(.int 2), (.int 0), (.ref b2), (.int 0), (.ref a1)] t → Steps p.tables e below (s₁.setTop (entryFrame m #[(.ref a1), (.int 0), (.int 2)] 6)) t := by
    intro t k
    refine R2 t ?_
    refine XS.astoreN X2.here hx rfl (hb hby own_d5_3) rfl rfl (l' := #[oR a1, oI 0, oI 2, oR b2, .unset, .unset]) rfl ?_
    refine XS.aloadN X2.here hx rfl (hb hby own_d5_4) rfl rfl ?_
    refine XS.iloadN X2.here hx rfl (hb hby own_d5_5) rfl ?_
    show oG p e below T2 m 6 #[oR a1, oI 0, oI 2, oR b2, .unset, .unset] [(.int 0), (.ref a1)] _
    refine XS.aloadN X2.here hx rfl (hb hby own_d5_6) rfl rfl ?_
    refine XS.iconst X2.here hx rfl (hb hby own_d5_7) ?_
    refine XS.iloadN X2.here hx rfl (hb hby own_d5_8) rfl ?_
    exact k
  obtain ⟨_, _, ⟨T6, L6, k6, n6⟩, -, X6, ⟨Lc6, hQ6, l6, y6, z6⟩, st6⟩ := Jvm.LawKit.callS X2 hx (y := (⟨"java/lang/StringUTF16", "compress", "([CI[BII)I"⟩ : MethodName)) hown (mvT hZ (oW hw 24 rfl)) (mvT hZ (oW hw 25 rfl)) (mvT hZ (oW hw 21 rfl)) (mvT hZ (oW hw 26 rfl)) (by decide) (backOf (W := 0) (rmC5_22 l Z a0 hw [] a1 b2 k1 k2 c0 c1 h2 n0 Z2 f4 V2 g_b2 ne_a1_b2 t0 t1) hZ (oW hw 26 rfl) (oW hw 21 rfl) (by decide) (by decide)) (g := (mkF m 9 #[oR a1, oI 0, oI 2, oR b2, .unset, .unset] [(.int 2), (.int 0), (.ref b2), (.int 0), (.ref a1)])) rfl (by rw [hml]; rfl) (argsL := [(.ref a1), (.int 0), (.ref b2), (.int 0), (.int 2)]) (rest := []) (lenOf own_pd5 rfl) rfl (by show 2 * 0 + _ ≤ _; exact Nat.le_of_eq rfl) (hb hby own_d5_9) (fun _ _ => ⟨rfl, e2, (by decide : 1 + 0 ≤ _), (by decide : 2 + 0 ≤ _)⟩)
  dsimp only [Pt.U, Pt.locs, Pt.cells, Pt.slots] at X6 l6 y6 z6 st6 hQ6
  subst l6 y6 z6
  obtain ⟨rfl, Nq6, Kc6, Vn6⟩ := hQ6
  have N6 := Fr.app N0 Nq6
  have R6 : ∀ t, oG p e below T6 m 12 #[oR a1, oI 0, oI 2, oR b2, .unset, .unset] [(.int 2)] t → Steps p.tables e below (s₁.setTop (entryFrame m #[(.ref a1), (.int 0), (.int 2)] 6)) t := fun t k => R5 t (st6 t k)
  have Z6 : n0 ≤ T6.heap.size := Nat.le_trans Z2 Kc6.1
  have K6 : Keep h0 T6.heap [] := K2.trans Kc6 (allS (Or.inr sz_b2) all0)
  have f7 : Old Z n0 T6.heap := f3.keep Kc6 (allS g_b2 all0)
  have f8 : Arv Z T6.heap a1 k1 .char (2 : Int32) [(.int c0), (.int c1)] (.int 0) := f4.keep Kc6 (ninS ne_a1_b2 nin0)
  have R9 : ∀ t, oG p e below T6 m 58 #[oR a1, oI 0, oI 2, oR b2, oI 2, .unset] [(.ref b2)] t → Steps p.tables e below (s₁.setTop (entryFrame m #[(.ref a1), (.int 0), (.int 2)] 6)) t := by
    intro t k
    refine R6 t ?_
    refine XS.istore X6.here hx rfl (hb hby own_d5_12) rfl (l' := #[oR a1, oI 0, oI 2, oR b2, oI 2, .unset]) rfl ?_
    refine XS.iload X6.here hx rfl (hb hby own_d5_14) rfl ?_
    refine XS.iloadN X6.here hx rfl (hb hby own_d5_16) rfl ?_
    show oG p e below T6 m 17 #[oR a1, oI 0, oI 2, oR b2, oI 2, .unset] [(.int 2), (.int 2)] _
    refine XS.icmpYes X6.here hx rfl (pc0 := 17) (pc' := 57) rfl (hb hby own_d5_17) rfl (teq (by decide : ((2 : Int32) = (2 : Int32)))).1 (by decide) (by decide) ?_
    refine XS.aloadN X6.here hx rfl (hb hby own_d5_57) rfl rfl ?_
    exact k
  obtain ⟨fs, hr, hrun, hended, hW, hsame⟩ := X6.leave (v := some (.ref b2)) (fun h => by rw [Bd.returns] at h; cases h)
  refine ⟨_, _, R9 _ ?_, hrun, hended, _, _, rfl, ?_, ⟨_, rfl⟩, hW, hsame.mono (by decide) (by decide)⟩
  · exact retOut X6 hx Bd.returns rfl (Or.inr (Or.inr (Or.inr (Or.inr ⟨rfl, rfl, rfl⟩)))) (hb hby own_d5_58) hr
  · show Q_rmC3_22 Z a1 k1 cz fm c0 c1 h0 n0 _ T6.heap _
    exact ⟨b2, k2, rfl, N6, K6, sz_b2, Vn6⟩
theorem own_ef_rmC3_21 (m : MethodId) (x0 : Addr) (x1 : Int32) (x2 : Int32) : entryFrame m #[(.ref x0), (.int x1), (.int x2)] 6 = mkF m 0 #[oR x0, oI x1, oI x2, .unset, .unset, .unset] [] := by first | (simp [entryFrame, mkF, argsToLocals, Value.category]; done) | rfl
def Q_rmC3_21 (Z : State) (a1 : Addr) (k1 : ClassId) (cz : Int32) (fm : Value) (c0 c1 : Int32) (h0 : Heap) (n0 : Nat) (v : Option Value) (h : Heap) (L : List Loc) : Prop := ∃ (b : Addr) (k : ClassId), v = some (.ref b) ∧ Fr n0 L ∧ Keep h0 h [] ∧ h0.size ≤ b ∧ Arv Z h b k .byte (4 : Int32) [(.int (own_b0 c0)), (.int (own_b1 c0)), (.int (own_b0 c1)), (.int (own_b1 c1))] (.int 0)
set_option maxRecDepth 65536 in
set_option maxHeartbeats 40000000 in
theorem rmC3_21 (l : Launch) (Z : State) (a0 : Array Value) (hw : oT a0 Z) (ws : List Jvm.Cond) (a1 : Addr) (k1 : ClassId) (cz : Int32) (fm : Value) (c0 c1 : Int32) (h0 : Heap) (n0 : Nat) (Z0 : n0 ≤ h0.size) (SU : own_St Z cz fm) (OX : Old Z n0 h0) (Va1 : Arv Z h0 a1 k1 .char (2 : Int32) [(.int c0), (.int c1)] (.int 0)) (t0 : ¬ (255 : Int32) < c0) (u1 : (255 : Int32) < c1) (r0 : own_R c0) (r1 : own_R c1) :
    oK l Z (⟨"java/lang/StringUTF16", "compress", "([CII)[B"⟩ : MethodName) jdk_52_method_16_code 6 (some (.array .byte)) ws (oM 3 2 6 40) #[(.ref a1), (.int 0), (.int 2)] h0 (Q_rmC3_21 Z a1 k1 cz fm c0 c1 h0 n0) := by
  refine MetFree.of_bodySF (plainFor_of_name own_pn5) hisR ?_
  intro p e s m args below meth c s₁ Bd hml0 hP hK
  obtain ⟨rfl, hZ, hh⟩ := hP
  have hx := Bd.exec
  have hby := Bd.bytes
  have hml : c.maxLocals = 6 := hml0
  have hown : s.vm.findClass "java/lang/StringUTF16" = some m.cls := findClass_of_methodNamed Bd.named
  have hnm := (name_of_methodNamed Bd.named Bd.method).1
  have X0 : Stand p l e (oM 3 2 6 40) s m #[(.ref a1), (.int 0), (.int 2)] below meth c s₁ [] 0 0 := Stand.of_body Bd
  have e0 : s₁.heap = h0 := by rw [← hh, Bd.state]; rfl
  have N0 := Fr.nil n0
  have R0 : ∀ t, oG p e below s₁ m 0 #[oR a1, oI 0, oI 2, .unset, .unset, .unset] [] t → Steps p.tables e below (s₁.setTop (entryFrame m #[(.ref a1), (.int 0), (.int 2)] 6)) t := fun t k => castTop (own_ef_rmC3_21 m a1 (0 : Int32) (2 : Int32)) k
  have R1 : ∀ t, oG p e below s₁ m 1 #[oR a1, oI 0, oI 2, .unset, .unset, .unset] [(.int 2)] t → Steps p.tables e below (s₁.setTop (entryFrame m #[(.ref a1), (.int 0), (.int 2)] 6)) t := by
    intro t k
    refine R0 t ?_
    refine XS.iloadN X0.here hx rfl (hb hby own_d5_0) rfl ?_
    exact k
  obtain ⟨T2, h2, k2, X2, e2, E2, A2, st2⟩ := newP X0 hx hZ (oW hw 23 rfl) e0 (g := (mkF m 1 #[oR a1, oI 0, oI 2, .unset, .unset, .unset] [(.int 2)])) rfl (hb hby own_d5_1) rfl (by decide) (cap := 2) (by decide) (by decide) (by decide) (by decide)
  obtain ⟨b2, g2⟩ : ∃ z, z = h0.size := ⟨_, rfl⟩
  rw [← g2] at A2 st2
  have R2 : ∀ t, oG p e below T2 m 3 #[oR a1, oI 0, oI 2, .unset, .unset, .unset] [(.ref b2)] t → Steps p.tables e below (s₁.setTop (entryFrame m #[(.ref a1), (.int 0), (.int 2)] 6)) t := fun t k => R1 t (st2 t k)
  have ne_a1_b2 : a1 ≠ b2 := Nat.ne_of_lt (Nat.lt_of_lt_of_le Va1.lt (Nat.le_of_eq g2.symm))
  have g_b2 : n0 ≤ b2 := Nat.le_trans Z0 (Nat.le_of_eq g2.symm)
  have sz_b2 : h0.size ≤ b2 := Nat.le_trans (Keep.refl h0 []).1 (Nat.le_of_eq g2.symm)
  have Z2 : n0 ≤ h2.size := Nat.le_trans Z0 E2.1
  have K2 : Keep h0 h2 [] := (Keep.refl h0 []).ext E2
  have f3 : Old Z n0 h2 := OX.ext E2
  have f4 : Arv Z h2 a1 k1 .char (2 : Int32) [(.int c0), (.int c1)] (.int 0) := Va1.ext E2
  have V2 : Arv Z h2 b2 k2 .byte (2 : Int32) [(.int 0), (.int 0)] (.int 0) := (Arv.new A2 (by decide)).pad (pad_rep [] (.int 0) 2)
  have R5 : ∀ t, oG p e below T2 m 9 #[oR a1, oI 0, oI 2, oR b2, .unset, .unset] [(.int 2), (.int 0), (.ref b2), (.int 0), (.ref a1)] t → Steps p.tables e below (s₁.setTop (entryFrame m #[(.ref a1), (.int 0), (.int 2)] 6)) t := by
    intro t k
    refine R2 t ?_
    refine XS.astoreN X2.here hx rfl (hb hby own_d5_3) rfl rfl (l' := #[oR a1, oI 0, oI 2, oR b2, .unset, .unset]) rfl ?_
    refine XS.aloadN X2.here hx rfl (hb hby own_d5_4) rfl rfl ?_
    refine XS.iloadN X2.here hx rfl (hb hby own_d5_5) rfl ?_
    show oG p e below T2 m 6 #[oR a1, oI 0, oI 2, oR b2, .unset, .unset] [(.int 0), (.ref a1)] _
    refine XS.aloadN X2.here hx rfl (hb hby own_d5_6) rfl rfl ?_
    refine XS.iconst X2.here hx rfl (hb hby own_d5_7) ?_
    refine XS.iloadN X2.here hx rfl (hb hby own_d5_8) rfl ?_
    exact k
  obtain ⟨_, _, ⟨T6, L6, k6, n6⟩, -, X6, ⟨Lc6, hQ6, l6, y6, z6⟩, st6⟩ := Jvm.LawKit.callS X2 hx (y := (⟨"java/lang/StringUTF16", "compress", "([CI[BII)I"⟩ : MethodName)) hown (mvT hZ (oW hw 24 rfl)) (mvT hZ (oW hw 25 rfl)) (mvT hZ (oW hw 21 rfl)) (mvT hZ (oW hw 26 rfl)) (by decide) (backOf (W := 0) (rmC5_21 l Z a0 hw [] a1 b2 k1 k2 c0 c1 h2 n0 Z2 f4 V2 g_b2 ne_a1_b2 t0 u1) hZ (oW hw 26 rfl) (oW hw 21 rfl) (by decide) (by decide)) (g := (mkF m 9 #[oR a1, oI 0, oI 2, oR b2, .unset, .unset] [(.int 2), (.int 0), (.ref b2), (.int 0), (.ref a1)])) rfl (by rw [hml]; rfl) (argsL := [(.ref a1), (.int 0), (.ref b2), (.int 0), (.int 2)]) (rest := []) (lenOf own_pd5 rfl) rfl (by show 2 * 0 + _ ≤ _; exact Nat.le_of_eq rfl) (hb hby own_d5_9) (fun _ _ => ⟨rfl, e2, (by decide : 1 + 0 ≤ _), (by decide : 2 + 0 ≤ _)⟩)
  dsimp only [Pt.U, Pt.locs, Pt.cells, Pt.slots] at X6 l6 y6 z6 st6 hQ6
  subst l6 y6 z6
  obtain ⟨rfl, Nq6, Kc6, Vn6⟩ := hQ6
  have N6 := Fr.app N0 Nq6
  have R6 : ∀ t, oG p e below T6 m 12 #[oR a1, oI 0, oI 2, oR b2, .unset, .unset] [(.int 1)] t → Steps p.tables e below (s₁.setTop (entryFrame m #[(.ref a1), (.int 0), (.int 2)] 6)) t := fun t k => R5 t (st6 t k)
  have Z6 : n0 ≤ T6.heap.size := Nat.le_trans Z2 Kc6.1
  have K6 : Keep h0 T6.heap [] := K2.trans Kc6 (allS (Or.inr sz_b2) all0)
  have f7 : Old Z n0 T6.heap := f3.keep Kc6 (allS g_b2 all0)
  have f8 : Arv Z T6.heap a1 k1 .char (2 : Int32) [(.int c0), (.int c1)] (.int 0) := f4.keep Kc6 (ninS ne_a1_b2 nin0)
  have R9 : ∀ t, oG p e below T6 m 23 #[oR a1, oI 0, oI 2, oR b2, oI 1, .unset] [(.int 2), (.int 0), (.ref a1)] t → Steps p.tables e below (s₁.setTop (entryFrame m #[(.ref a1), (.int 0), (.int 2)] 6)) t := by
    intro t k
    refine R6 t ?_
    refine XS.istore X6.here hx rfl (hb hby own_d5_12) rfl (l' := #[oR a1, oI 0, oI 2, oR b2, oI 1, .unset]) rfl ?_
    refine XS.iload X6.here hx rfl (hb hby own_d5_14) rfl ?_
    refine XS.iloadN X6.here hx rfl (hb hby own_d5_16) rfl ?_
    show oG p e below T6 m 17 #[oR a1, oI 0, oI 2, oR b2, oI 1, .unset] [(.int 2), (.int 1)] _
    refine XS.icmpNo X6.here hx rfl (hb hby own_d5_17) rfl (feq (by decide : ¬ ((1 : Int32) = (2 : Int32)))).1 ?_
    refine XS.aloadN X6.here hx rfl (hb hby own_d5_20) rfl rfl ?_
    refine XS.iloadN X6.here hx rfl (hb hby own_d5_21) rfl ?_
    refine XS.iloadN X6.here hx rfl (hb hby own_d5_22) rfl ?_
    exact k
  obtain ⟨_, _, ⟨T10, L10, k10, n10⟩, -, X10, ⟨Lc10, hQ10, l10, y10, z10⟩, st10⟩ := Jvm.LawKit.callS X6 hx (y := (⟨"java/lang/StringUTF16", "toBytes", "([CII)[B"⟩ : MethodName)) hown (mvT hZ (oW hw 72 rfl)) (mvT hZ (oW hw 73 rfl)) (mvT hZ (oW hw 21 rfl)) (mvT hZ (oW hw 74 rfl)) (by decide) (backOf (W := 0) (rmTB2 l Z a0 hw [] a1 k1 cz fm c0 c1 T6.heap n0 Z6 SU f7 f8) hZ (oW hw 74 rfl) (oW hw 21 rfl) (by decide) (by decide)) (g := (mkF m 23 #[oR a1, oI 0, oI 2, oR b2, oI 1, .unset] [(.int 2), (.int 0), (.ref a1)])) rfl (by rw [hml]; rfl) (argsL := [(.ref a1), (.int 0), (.int 2)]) (rest := []) (lenOf own_pd4 rfl) rfl (by show 2 * 0 + _ ≤ _; exact Nat.le_of_eq rfl) (hb hby own_d5_23) (fun _ _ => ⟨rfl, rfl, (by decide : 1 + 1 ≤ _), (by decide : 2 + 4 ≤ _)⟩)
  dsimp only [Pt.U, Pt.locs, Pt.cells, Pt.slots] at X10 l10 y10 z10 st10 hQ10
  subst l10 y10 z10
  obtain ⟨bx, kx, rfl, Nq10, Kc10, sb10, Vn10⟩ := hQ10
  have N10 := Fr.app N6 Nq10
  have R10 : ∀ t, oG p e below T10 m 26 #[oR a1, oI 0, oI 2, oR b2, oI 1, .unset] [(.ref bx)] t → Steps p.tables e below (s₁.setTop (entryFrame m #[(.ref a1), (.int 0), (.int 2)] 6)) t := fun t k => R9 t (st10 t k)
  have ne_a1_bx : a1 ≠ bx := Nat.ne_of_lt (Nat.lt_of_lt_of_le f8.lt sb10)
  have ne_b2_bx : b2 ≠ bx := Nat.ne_of_lt (Nat.lt_of_lt_of_le Vn6.lt sb10)
  have g_bx : n0 ≤ bx := Nat.le_trans Z6 sb10
  have sz_bx : h0.size ≤ bx := Nat.le_trans K6.1 sb10
  have Z10 : n0 ≤ T10.heap.size := Nat.le_trans Z6 Kc10.1
  have K10 : Keep h0 T10.heap [] := K6.trans Kc10 all0
  have f11 : Old Z n0 T10.heap := f7.keep Kc10 all0
  have f12 : Arv Z T10.heap a1 k1 .char (2 : Int32) [(.int c0), (.int c1)] (.int 0) := f8.keep Kc10 nin0
  have f13 : Arv Z T10.heap b2 k2 .byte (2 : Int32) [(.int (own_l c0)), (.int 0)] (.int 0) := Vn6.keep Kc10 nin0
  have R14 : ∀ t, oG p e below T10 m 32 #[oR a1, oI 0, oI 2, oR b2, oI 1, oR bx] [(.int 1), (.ref bx)] t → Steps p.tables e below (s₁.setTop (entryFrame m #[(.ref a1), (.int 0), (.int 2)] 6)) t := by
    intro t k
    refine R10 t ?_
    refine XS.astore X10.here hx rfl (hb hby own_d5_26) rfl rfl (l' := #[oR a1, oI 0, oI 2, oR b2, oI 1, oR bx]) rfl ?_
    refine XS.aload X10.here hx rfl (hb hby own_d5_28) rfl rfl ?_
    refine XS.iload X10.here hx rfl (hb hby own_d5_30) rfl ?_
    exact k
  obtain ⟨_, _, ⟨T15, L15, k15, n15⟩, -, X15, ⟨Lc15, hQ15, l15, y15, z15⟩, st15⟩ := Jvm.LawKit.callS X10 hx (y := (⟨"java/lang/StringUTF16", "getChar", "([BI)C"⟩ : MethodName)) hown (mvT hZ (oW hw 88 rfl)) (mvT hZ (oW hw 89 rfl)) (mvT hZ (oW hw 21 rfl)) (mvT hZ (oW hw 90 rfl)) (by decide) (backOf (W := 0) (rmGC41 l Z a0 hw [] bx kx cz fm c0 c1 T10.heap n0 Z10 SU f11 Vn10 r1) hZ (oW hw 90 rfl) (oW hw 21 rfl) (by decide) (by decide)) (g := (mkF m 32 #[oR a1, oI 0, oI 2, oR b2, oI 1, oR bx] [(.int 1), (.ref bx)])) rfl (by rw [hml]; rfl) (argsL := [(.ref bx), (.int 1)]) (rest := []) (lenOf own_pd17 rfl) rfl (by show 2 * 0 + _ ≤ _; exact Nat.le_of_eq rfl) (hb hby own_d5_32) (fun _ _ => ⟨rfl, rfl, (by decide : 2 + 0 ≤ _), (by decide : 6 + 0 ≤ _)⟩)
  dsimp only [Pt.U, Pt.locs, Pt.cells, Pt.slots] at X15 l15 y15 z15 st15 hQ15
  subst l15 y15 z15
  obtain ⟨rfl, Nq15, eq15⟩ := hQ15
  have N15 := Fr.app N10 Nq15
  have R15 : ∀ t, oG p e below T15 m 35 #[oR a1, oI 0, oI 2, oR b2, oI 1, oR bx] [(.int c1)] t → Steps p.tables e below (s₁.setTop (entryFrame m #[(.ref a1), (.int 0), (.int 2)] 6)) t := fun t k => R14 t (st15 t k)
  have R16 : ∀ t, oG p e below T15 m 56 #[oR a1, oI 0, oI 2, oR b2, oI 1, oR bx] [(.ref bx)] t → Steps p.tables e below (s₁.setTop (entryFrame m #[(.ref a1), (.int 0), (.int 2)] 6)) t := by
    intro t k
    refine R15 t ?_
    refine XS.sipush X15.here hx rfl (hb hby own_d5_35) ?_
    refine XS.icmpYes X15.here hx rfl (pc0 := 38) (pc' := 54) rfl (hb hby own_d5_38) rfl (tlt u1).2.2.1 (by decide) (by decide) ?_
    refine XS.aload X15.here hx rfl (hb hby own_d5_54) rfl rfl ?_
    exact k
  obtain ⟨fs, hr, hrun, hended, hW, hsame⟩ := X15.leave (v := some (.ref bx)) (fun h => by rw [Bd.returns] at h; cases h)
  refine ⟨_, _, R16 _ ?_, hrun, hended, _, _, rfl, ?_, ⟨_, rfl⟩, hW, hsame.mono (by decide) (by decide)⟩
  · exact retOut X15 hx Bd.returns rfl (Or.inr (Or.inr (Or.inr (Or.inr ⟨rfl, rfl, rfl⟩)))) (hb hby own_d5_56) hr
  · show Q_rmC3_21 Z a1 k1 cz fm c0 c1 h0 n0 _ T15.heap _
    rw [eq15]
    exact ⟨bx, kx, rfl, N15, K10, sz_bx, Vn10⟩
theorem own_ef_rmC3_20 (m : MethodId) (x0 : Addr) (x1 : Int32) (x2 : Int32) : entryFrame m #[(.ref x0), (.int x1), (.int x2)] 6 = mkF m 0 #[oR x0, oI x1, oI x2, .unset, .unset, .unset] [] := by first | (simp [entryFrame, mkF, argsToLocals, Value.category]; done) | rfl
def Q_rmC3_20 (Z : State) (a1 : Addr) (k1 : ClassId) (cz : Int32) (fm : Value) (c0 c1 : Int32) (h0 : Heap) (n0 : Nat) (v : Option Value) (h : Heap) (L : List Loc) : Prop := ∃ (b : Addr) (k : ClassId), v = some (.ref b) ∧ Fr n0 L ∧ Keep h0 h [] ∧ h0.size ≤ b ∧ Arv Z h b k .byte (4 : Int32) [(.int (own_b0 c0)), (.int (own_b1 c0)), (.int (own_b0 c1)), (.int (own_b1 c1))] (.int 0)
set_option maxRecDepth 65536 in
set_option maxHeartbeats 40000000 in
theorem rmC3_20 (l : Launch) (Z : State) (a0 : Array Value) (hw : oT a0 Z) (ws : List Jvm.Cond) (a1 : Addr) (k1 : ClassId) (cz : Int32) (fm : Value) (c0 c1 : Int32) (h0 : Heap) (n0 : Nat) (Z0 : n0 ≤ h0.size) (SU : own_St Z cz fm) (OX : Old Z n0 h0) (Va1 : Arv Z h0 a1 k1 .char (2 : Int32) [(.int c0), (.int c1)] (.int 0)) (u0 : (255 : Int32) < c0) (r0 : own_R c0) (r1 : own_R c1) :
    oK l Z (⟨"java/lang/StringUTF16", "compress", "([CII)[B"⟩ : MethodName) jdk_52_method_16_code 6 (some (.array .byte)) ws (oM 3 2 6 40) #[(.ref a1), (.int 0), (.int 2)] h0 (Q_rmC3_20 Z a1 k1 cz fm c0 c1 h0 n0) := by
  refine MetFree.of_bodySF (plainFor_of_name own_pn5) hisR ?_
  intro p e s m args below meth c s₁ Bd hml0 hP hK
  obtain ⟨rfl, hZ, hh⟩ := hP
  have hx := Bd.exec
  have hby := Bd.bytes
  have hml : c.maxLocals = 6 := hml0
  have hown : s.vm.findClass "java/lang/StringUTF16" = some m.cls := findClass_of_methodNamed Bd.named
  have hnm := (name_of_methodNamed Bd.named Bd.method).1
  have X0 : Stand p l e (oM 3 2 6 40) s m #[(.ref a1), (.int 0), (.int 2)] below meth c s₁ [] 0 0 := Stand.of_body Bd
  have e0 : s₁.heap = h0 := by rw [← hh, Bd.state]; rfl
  have N0 := Fr.nil n0
  have R0 : ∀ t, oG p e below s₁ m 0 #[oR a1, oI 0, oI 2, .unset, .unset, .unset] [] t → Steps p.tables e below (s₁.setTop (entryFrame m #[(.ref a1), (.int 0), (.int 2)] 6)) t := fun t k => castTop (own_ef_rmC3_20 m a1 (0 : Int32) (2 : Int32)) k
  have R1 : ∀ t, oG p e below s₁ m 1 #[oR a1, oI 0, oI 2, .unset, .unset, .unset] [(.int 2)] t → Steps p.tables e below (s₁.setTop (entryFrame m #[(.ref a1), (.int 0), (.int 2)] 6)) t := by
    intro t k
    refine R0 t ?_
    refine XS.iloadN X0.here hx rfl (hb hby own_d5_0) rfl ?_
    exact k
  obtain ⟨T2, h2, k2, X2, e2, E2, A2, st2⟩ := newP X0 hx hZ (oW hw 23 rfl) e0 (g := (mkF m 1 #[oR a1, oI 0, oI 2, .unset, .unset, .unset] [(.int 2)])) rfl (hb hby own_d5_1) rfl (by decide) (cap := 2) (by decide) (by decide) (by decide) (by decide)
  obtain ⟨b2, g2⟩ : ∃ z, z = h0.size := ⟨_, rfl⟩
  rw [← g2] at A2 st2
  have R2 : ∀ t, oG p e below T2 m 3 #[oR a1, oI 0, oI 2, .unset, .unset, .unset] [(.ref b2)] t → Steps p.tables e below (s₁.setTop (entryFrame m #[(.ref a1), (.int 0), (.int 2)] 6)) t := fun t k => R1 t (st2 t k)
  have ne_a1_b2 : a1 ≠ b2 := Nat.ne_of_lt (Nat.lt_of_lt_of_le Va1.lt (Nat.le_of_eq g2.symm))
  have g_b2 : n0 ≤ b2 := Nat.le_trans Z0 (Nat.le_of_eq g2.symm)
  have sz_b2 : h0.size ≤ b2 := Nat.le_trans (Keep.refl h0 []).1 (Nat.le_of_eq g2.symm)
  have Z2 : n0 ≤ h2.size := Nat.le_trans Z0 E2.1
  have K2 : Keep h0 h2 [] := (Keep.refl h0 []).ext E2
  have f3 : Old Z n0 h2 := OX.ext E2
  have f4 : Arv Z h2 a1 k1 .char (2 : Int32) [(.int c0), (.int c1)] (.int 0) := Va1.ext E2
  have V2 : Arv Z h2 b2 k2 .byte (2 : Int32) [(.int 0), (.int 0)] (.int 0) := (Arv.new A2 (by decide)).pad (pad_rep [] (.int 0) 2)
  have R5 : ∀ t, oG p e below T2 m 9 #[oR a1, oI 0, oI 2, oR b2, .unset, .unset] [(.int 2), (.int 0), (.ref b2), (.int 0), (.ref a1)] t → Steps p.tables e below (s₁.setTop (entryFrame m #[(.ref a1), (.int 0), (.int 2)] 6)) t := by
    intro t k
    refine R2 t ?_
    refine XS.astoreN X2.here hx rfl (hb hby own_d5_3) rfl rfl (l' := #[oR a1, oI 0, oI 2, oR b2, .unset, .unset]) rfl ?_
    refine XS.aloadN X2.here hx rfl (hb hby own_d5_4) rfl rfl ?_
    refine XS.iloadN X2.here hx rfl (hb hby own_d5_5) rfl ?_
    show oG p e below T2 m 6 #[oR a1, oI 0, oI 2, oR b2, .unset, .unset] [(.int 0), (.ref a1)] _
    refine XS.aloadN X2.here hx rfl (hb hby own_d5_6) rfl rfl ?_
    refine XS.iconst X2.here hx rfl (hb hby own_d5_7) ?_
    refine XS.iloadN X2.here hx rfl (hb hby own_d5_8) rfl ?_
    exact k
  obtain ⟨_, _, ⟨T6, L6, k6, n6⟩, -, X6, ⟨Lc6, hQ6, l6, y6, z6⟩, st6⟩ := Jvm.LawKit.callS X2 hx (y := (⟨"java/lang/StringUTF16", "compress", "([CI[BII)I"⟩ : MethodName)) hown (mvT hZ (oW hw 24 rfl)) (mvT hZ (oW hw 25 rfl)) (mvT hZ (oW hw 21 rfl)) (mvT hZ (oW hw 26 rfl)) (by decide) (backOf (W := 0) (rmC5_20 l Z a0 hw [] a1 b2 k1 k2 c0 c1 h2 n0 Z2 f4 V2 g_b2 ne_a1_b2 u0) hZ (oW hw 26 rfl) (oW hw 21 rfl) (by decide) (by decide)) (g := (mkF m 9 #[oR a1, oI 0, oI 2, oR b2, .unset, .unset] [(.int 2), (.int 0), (.ref b2), (.int 0), (.ref a1)])) rfl (by rw [hml]; rfl) (argsL := [(.ref a1), (.int 0), (.ref b2), (.int 0), (.int 2)]) (rest := []) (lenOf own_pd5 rfl) rfl (by show 2 * 0 + _ ≤ _; exact Nat.le_of_eq rfl) (hb hby own_d5_9) (fun _ _ => ⟨rfl, e2, (by decide : 1 + 0 ≤ _), (by decide : 2 + 0 ≤ _)⟩)
  dsimp only [Pt.U, Pt.locs, Pt.cells, Pt.slots] at X6 l6 y6 z6 st6 hQ6
  subst l6 y6 z6
  obtain ⟨rfl, Nq6, Kc6, Vn6⟩ := hQ6
  have N6 := Fr.app N0 Nq6
  have R6 : ∀ t, oG p e below T6 m 12 #[oR a1, oI 0, oI 2, oR b2, .unset, .unset] [(.int 0)] t → Steps p.tables e below (s₁.setTop (entryFrame m #[(.ref a1), (.int 0), (.int 2)] 6)) t := fun t k => R5 t (st6 t k)
  have Z6 : n0 ≤ T6.heap.size := Nat.le_trans Z2 Kc6.1
  have K6 : Keep h0 T6.heap [] := K2.trans Kc6 (allS (Or.inr sz_b2) all0)
  have f7 : Old Z n0 T6.heap := f3.keep Kc6 (allS g_b2 all0)
  have f8 : Arv Z T6.heap a1 k1 .char (2 : Int32) [(.int c0), (.int c1)] (.int 0) := f4.keep Kc6 (ninS ne_a1_b2 nin0)
  have R9 : ∀ t, oG p e below T6 m 23 #[oR a1, oI 0, oI 2, oR b2, oI 0, .unset] [(.int 2), (.int 0), (.ref a1)] t → Steps p.tables e below (s₁.setTop (entryFrame m #[(.ref a1), (.int 0), (.int 2)] 6)) t := by
    intro t k
    refine R6 t ?_
    refine XS.istore X6.here hx rfl (hb hby own_d5_12) rfl (l' := #[oR a1, oI 0, oI 2, oR b2, oI 0, .unset]) rfl ?_
    refine XS.iload X6.here hx rfl (hb hby own_d5_14) rfl ?_
    refine XS.iloadN X6.here hx rfl (hb hby own_d5_16) rfl ?_
    show oG p e below T6 m 17 #[oR a1, oI 0, oI 2, oR b2, oI 0, .unset] [(.int 2), (.int 0)] _
    refine XS.icmpNo X6.here hx rfl (hb hby own_d5_17) rfl (feq (by decide : ¬ ((0 : Int32) = (2 : Int32)))).1 ?_
    refine XS.aloadN X6.here hx rfl (hb hby own_d5_20) rfl rfl ?_
    refine XS.iloadN X6.here hx rfl (hb hby own_d5_21) rfl ?_
    refine XS.iloadN X6.here hx rfl (hb hby own_d5_22) rfl ?_
    exact k
  obtain ⟨_, _, ⟨T10, L10, k10, n10⟩, -, X10, ⟨Lc10, hQ10, l10, y10, z10⟩, st10⟩ := Jvm.LawKit.callS X6 hx (y := (⟨"java/lang/StringUTF16", "toBytes", "([CII)[B"⟩ : MethodName)) hown (mvT hZ (oW hw 72 rfl)) (mvT hZ (oW hw 73 rfl)) (mvT hZ (oW hw 21 rfl)) (mvT hZ (oW hw 74 rfl)) (by decide) (backOf (W := 0) (rmTB2 l Z a0 hw [] a1 k1 cz fm c0 c1 T6.heap n0 Z6 SU f7 f8) hZ (oW hw 74 rfl) (oW hw 21 rfl) (by decide) (by decide)) (g := (mkF m 23 #[oR a1, oI 0, oI 2, oR b2, oI 0, .unset] [(.int 2), (.int 0), (.ref a1)])) rfl (by rw [hml]; rfl) (argsL := [(.ref a1), (.int 0), (.int 2)]) (rest := []) (lenOf own_pd4 rfl) rfl (by show 2 * 0 + _ ≤ _; exact Nat.le_of_eq rfl) (hb hby own_d5_23) (fun _ _ => ⟨rfl, rfl, (by decide : 1 + 1 ≤ _), (by decide : 2 + 4 ≤ _)⟩)
  dsimp only [Pt.U, Pt.locs, Pt.cells, Pt.slots] at X10 l10 y10 z10 st10 hQ10
  subst l10 y10 z10
  obtain ⟨bx, kx, rfl, Nq10, Kc10, sb10, Vn10⟩ := hQ10
  have N10 := Fr.app N6 Nq10
  have R10 : ∀ t, oG p e below T10 m 26 #[oR a1, oI 0, oI 2, oR b2, oI 0, .unset] [(.ref bx)] t → Steps p.tables e below (s₁.setTop (entryFrame m #[(.ref a1), (.int 0), (.int 2)] 6)) t := fun t k => R9 t (st10 t k)
  have ne_a1_bx : a1 ≠ bx := Nat.ne_of_lt (Nat.lt_of_lt_of_le f8.lt sb10)
  have ne_b2_bx : b2 ≠ bx := Nat.ne_of_lt (Nat.lt_of_lt_of_le Vn6.lt sb10)
  have g_bx : n0 ≤ bx := Nat.le_trans Z6 sb10
  have sz_bx : h0.size ≤ bx := Nat.le_trans K6.1 sb10
  have Z10 : n0 ≤ T10.heap.size := Nat.le_trans Z6 Kc10.1
  have K10 : Keep h0 T10.heap [] := K6.trans Kc10 all0
  have f11 : Old Z n0 T10.heap := f7.keep Kc10 all0
  have f12 : Arv Z T10.heap a1 k1 .char (2 : Int32) [(.int c0), (.int c1)] (.int 0) := f8.keep Kc10 nin0
  have f13 : Arv Z T10.heap b2 k2 .byte (2 : Int32) [(.int 0), (.int 0)] (.int 0) := Vn6.keep Kc10 nin0
  have R14 : ∀ t, oG p e below T10 m 32 #[oR a1, oI 0, oI 2, oR b2, oI 0, oR bx] [(.int 0), (.ref bx)] t → Steps p.tables e below (s₁.setTop (entryFrame m #[(.ref a1), (.int 0), (.int 2)] 6)) t := by
    intro t k
    refine R10 t ?_
    refine XS.astore X10.here hx rfl (hb hby own_d5_26) rfl rfl (l' := #[oR a1, oI 0, oI 2, oR b2, oI 0, oR bx]) rfl ?_
    refine XS.aload X10.here hx rfl (hb hby own_d5_28) rfl rfl ?_
    refine XS.iload X10.here hx rfl (hb hby own_d5_30) rfl ?_
    exact k
  obtain ⟨_, _, ⟨T15, L15, k15, n15⟩, -, X15, ⟨Lc15, hQ15, l15, y15, z15⟩, st15⟩ := Jvm.LawKit.callS X10 hx (y := (⟨"java/lang/StringUTF16", "getChar", "([BI)C"⟩ : MethodName)) hown (mvT hZ (oW hw 88 rfl)) (mvT hZ (oW hw 89 rfl)) (mvT hZ (oW hw 21 rfl)) (mvT hZ (oW hw 90 rfl)) (by decide) (backOf (W := 0) (rmGC40 l Z a0 hw [] bx kx cz fm c0 c1 T10.heap n0 Z10 SU f11 Vn10 r0) hZ (oW hw 90 rfl) (oW hw 21 rfl) (by decide) (by decide)) (g := (mkF m 32 #[oR a1, oI 0, oI 2, oR b2, oI 0, oR bx] [(.int 0), (.ref bx)])) rfl (by rw [hml]; rfl) (argsL := [(.ref bx), (.int 0)]) (rest := []) (lenOf own_pd17 rfl) rfl (by show 2 * 0 + _ ≤ _; exact Nat.le_of_eq rfl) (hb hby own_d5_32) (fun _ _ => ⟨rfl, rfl, (by decide : 2 + 0 ≤ _), (by decide : 6 + 0 ≤ _)⟩)
  dsimp only [Pt.U, Pt.locs, Pt.cells, Pt.slots] at X15 l15 y15 z15 st15 hQ15
  subst l15 y15 z15
  obtain ⟨rfl, Nq15, eq15⟩ := hQ15
  have N15 := Fr.app N10 Nq15
  have R15 : ∀ t, oG p e below T15 m 35 #[oR a1, oI 0, oI 2, oR b2, oI 0, oR bx] [(.int c0)] t → Steps p.tables e below (s₁.setTop (entryFrame m #[(.ref a1), (.int 0), (.int 2)] 6)) t := fun t k => R14 t (st15 t k)
  have R16 : ∀ t, oG p e below T15 m 56 #[oR a1, oI 0, oI 2, oR b2, oI 0, oR bx] [(.ref bx)] t → Steps p.tables e below (s₁.setTop (entryFrame m #[(.ref a1), (.int 0), (.int 2)] 6)) t := by
    intro t k
    refine R15 t ?_
    refine XS.sipush X15.here hx rfl (hb hby own_d5_35) ?_
    refine XS.icmpYes X15.here hx rfl (pc0 := 38) (pc' := 54) rfl (hb hby own_d5_38) rfl (tlt u0).2.2.1 (by decide) (by decide) ?_
    refine XS.aload X15.here hx rfl (hb hby own_d5_54) rfl rfl ?_
    exact k
  obtain ⟨fs, hr, hrun, hended, hW, hsame⟩ := X15.leave (v := some (.ref bx)) (fun h => by rw [Bd.returns] at h; cases h)
  refine ⟨_, _, R16 _ ?_, hrun, hended, _, _, rfl, ?_, ⟨_, rfl⟩, hW, hsame.mono (by decide) (by decide)⟩
  · exact retOut X15 hx Bd.returns rfl (Or.inr (Or.inr (Or.inr (Or.inr ⟨rfl, rfl, rfl⟩)))) (hb hby own_d5_56) hr
  · show Q_rmC3_20 Z a1 k1 cz fm c0 c1 h0 n0 _ T15.heap _
    rw [eq15]
    exact ⟨bx, kx, rfl, N15, K10, sz_bx, Vn10⟩
theorem own_ef_rmCF11 (m : MethodId) (x0 : Addr) (x1 : Int32) : entryFrame m #[(.ref x0), (.int x1)] 2 = mkF m 0 #[oR x0, oI x1] [] := by first | (simp [entryFrame, mkF, argsToLocals, Value.category]; done) | rfl
theorem own_d7_0 : decode jdk_52_method_15_code 0 = .ok (.iload_n 1, 1) := by decide +kernel
theorem own_d7_1 : decode jdk_52_method_15_code 1 = .ok (.aload_n 0, 1) := by decide +kernel
theorem own_d7_2 : decode jdk_52_method_15_code 2 = .ok (.arraylength, 1) := by decide +kernel
theorem own_d7_3 : decode jdk_52_method_15_code 3 = .ok (.isub, 1) := by decide +kernel
theorem own_d7_4 : decode jdk_52_method_15_code 4 = .ok (.bipush 31, 2) := by decide +kernel
theorem own_d7_6 : decode jdk_52_method_15_code 6 = .ok (.iushr, 1) := by decide +kernel
theorem own_d7_7 : decode jdk_52_method_15_code 7 = .ok (.i2b, 1) := by decide +kernel
theorem own_d7_8 : decode jdk_52_method_15_code 8 = .ok (.ireturn, 1) := by decide +kernel
def Q_rmCF11 (Z : State) (a1 : Addr) (k1 : ClassId) (vs1 : List Value) (h0 : Heap) (n0 : Nat) (v : Option Value) (h : Heap) (L : List Loc) : Prop := v = some (.int 0) ∧ Fr n0 L ∧ h = h0
set_option maxRecDepth 65536 in
set_option maxHeartbeats 40000000 in
theorem rmCF11 (l : Launch) (Z : State) (a0 : Array Value) (hw : oT a0 Z) (ws : List Jvm.Cond) (a1 : Addr) (k1 : ClassId) (vs1 : List Value) (h0 : Heap) (n0 : Nat) (Z0 : n0 ≤ h0.size) (V1 : Arv Z h0 a1 k1 .byte (1 : Int32) vs1 (.int 0)) :
    oK l Z (⟨"java/lang/StringUTF16", "coderFromArrayLen", "([BI)B"⟩ : MethodName) jdk_52_method_15_code 2 (some .byte) ws (oM 0 0 0 0) #[(.ref a1), (.int 1)] h0 (Q_rmCF11 Z a1 k1 vs1 h0 n0) := by
  refine MetFree.of_bodySF (plainFor_of_name own_pn5) hisR ?_
  intro p e s m args below meth c s₁ Bd hml0 hP hK
  obtain ⟨rfl, hZ, hh⟩ := hP
  have hx := Bd.exec
  have hby := Bd.bytes
  have hml : c.maxLocals = 2 := hml0
  have hown : s.vm.findClass "java/lang/StringUTF16" = some m.cls := findClass_of_methodNamed Bd.named
  have hnm := (name_of_methodNamed Bd.named Bd.method).1
  have X0 : Stand p l e (oM 0 0 0 0) s m #[(.ref a1), (.int 1)] below meth c s₁ [] 0 0 := Stand.of_body Bd
  have e0 : s₁.heap = h0 := by rw [← hh, Bd.state]; rfl
  have N0 := Fr.nil n0
  have R0 : ∀ t, oG p e below s₁ m 0 #[oR a1, oI 1] [] t → Steps p.tables e below (s₁.setTop (entryFrame m #[(.ref a1), (.int 1)] 2)) t := fun t k => castTop (own_ef_rmCF11 m a1 (1 : Int32)) k
  have R1 : ∀ t, oG p e below s₁ m 2 #[oR a1, oI 1] [(.ref a1), (.int 1)] t → Steps p.tables e below (s₁.setTop (entryFrame m #[(.ref a1), (.int 1)] 2)) t := by
    intro t k
    refine R0 t ?_
    refine XS.iloadN X0.here hx rfl (hb hby own_d7_0) rfl ?_
    refine XS.aloadN X0.here hx rfl (hb hby own_d7_1) rfl rfl ?_
    exact k
  obtain ⟨cl2, Ar2, q2, S2, N2', H2, G2⟩ := id V1
  have R3 : ∀ t, oG p e below s₁ m 8 #[oR a1, oI 1] [(.int ((((0 : Int32).toUInt32 >>> ((31 : Int32) &&& 31).toUInt32).toInt32).toInt8.toInt32))] t → Steps p.tables e below (s₁.setTop (entryFrame m #[(.ref a1), (.int 1)] 2)) t := by
    intro t k
    refine R1 t ?_
    refine X0.arraylength hx (by rw [e0]; exact Ar2.1) (State.isArrayOf_alike hZ.alike Ar2.2.1) (g := (mkF m 2 #[oR a1, oI 1] [(.ref a1), (.int 1)])) rfl rfl (hb hby own_d7_2) _ ?_
    rw [len_of S2 N2']
    refine XS.isub X0.here hx rfl (hb hby own_d7_3) rfl ?_
    refine XS.bipush X0.here hx rfl (hb hby own_d7_4) ?_
    show oG p e below s₁ m 6 #[oR a1, oI 1] [(.int 31), (.int 0)] _
    refine XS.iushr X0.here hx rfl (hb hby own_d7_6) rfl ?_
    refine XS.i2b X0.here hx rfl (hb hby own_d7_7) rfl ?_
    exact k
  have R4 : ∀ t, oG p e below s₁ m 8 #[oR a1, oI 1] [(.int 0)] t → Steps p.tables e below (s₁.setTop (entryFrame m #[(.ref a1), (.int 1)] 2)) t := by rw [(by decide : ((((0 : Int32).toUInt32 >>> ((31 : Int32) &&& 31).toUInt32).toInt32).toInt8.toInt32) = (0 : Int32))] at R3; exact R3
  obtain ⟨fs, hr, hrun, hended, hW, hsame⟩ := X0.leave (v := some (.int 0)) (fun h => by rw [Bd.returns] at h; cases h)
  refine ⟨_, _, R4 _ ?_, hrun, hended, _, _, rfl, ?_, ⟨_, rfl⟩, hW, hsame.mono (by decide) (by decide)⟩
  · exact retN X0 hx (t := .byte) Bd.returns (by simp) (hb hby own_d7_8) hr
  · show Q_rmCF11 Z a1 k1 vs1 h0 n0 _ s₁.heap _
    rw [e0]
    exact ⟨rfl, N0, rfl⟩
theorem own_ef_rmCF22 (m : MethodId) (x0 : Addr) (x1 : Int32) : entryFrame m #[(.ref x0), (.int x1)] 2 = mkF m 0 #[oR x0, oI x1] [] := by first | (simp [entryFrame, mkF, argsToLocals, Value.category]; done) | rfl
def Q_rmCF22 (Z : State) (a1 : Addr) (k1 : ClassId) (vs1 : List Value) (h0 : Heap) (n0 : Nat) (v : Option Value) (h : Heap) (L : List Loc) : Prop := v = some (.int 0) ∧ Fr n0 L ∧ h = h0
set_option maxRecDepth 65536 in
set_option maxHeartbeats 40000000 in
theorem rmCF22 (l : Launch) (Z : State) (a0 : Array Value) (hw : oT a0 Z) (ws : List Jvm.Cond) (a1 : Addr) (k1 : ClassId) (vs1 : List Value) (h0 : Heap) (n0 : Nat) (Z0 : n0 ≤ h0.size) (V1 : Arv Z h0 a1 k1 .byte (2 : Int32) vs1 (.int 0)) :
    oK l Z (⟨"java/lang/StringUTF16", "coderFromArrayLen", "([BI)B"⟩ : MethodName) jdk_52_method_15_code 2 (some .byte) ws (oM 0 0 0 0) #[(.ref a1), (.int 2)] h0 (Q_rmCF22 Z a1 k1 vs1 h0 n0) := by
  refine MetFree.of_bodySF (plainFor_of_name own_pn5) hisR ?_
  intro p e s m args below meth c s₁ Bd hml0 hP hK
  obtain ⟨rfl, hZ, hh⟩ := hP
  have hx := Bd.exec
  have hby := Bd.bytes
  have hml : c.maxLocals = 2 := hml0
  have hown : s.vm.findClass "java/lang/StringUTF16" = some m.cls := findClass_of_methodNamed Bd.named
  have hnm := (name_of_methodNamed Bd.named Bd.method).1
  have X0 : Stand p l e (oM 0 0 0 0) s m #[(.ref a1), (.int 2)] below meth c s₁ [] 0 0 := Stand.of_body Bd
  have e0 : s₁.heap = h0 := by rw [← hh, Bd.state]; rfl
  have N0 := Fr.nil n0
  have R0 : ∀ t, oG p e below s₁ m 0 #[oR a1, oI 2] [] t → Steps p.tables e below (s₁.setTop (entryFrame m #[(.ref a1), (.int 2)] 2)) t := fun t k => castTop (own_ef_rmCF22 m a1 (2 : Int32)) k
  have R1 : ∀ t, oG p e below s₁ m 2 #[oR a1, oI 2] [(.ref a1), (.int 2)] t → Steps p.tables e below (s₁.setTop (entryFrame m #[(.ref a1), (.int 2)] 2)) t := by
    intro t k
    refine R0 t ?_
    refine XS.iloadN X0.here hx rfl (hb hby own_d7_0) rfl ?_
    refine XS.aloadN X0.here hx rfl (hb hby own_d7_1) rfl rfl ?_
    exact k
  obtain ⟨cl2, Ar2, q2, S2, N2', H2, G2⟩ := id V1
  have R3 : ∀ t, oG p e below s₁ m 8 #[oR a1, oI 2] [(.int ((((0 : Int32).toUInt32 >>> ((31 : Int32) &&& 31).toUInt32).toInt32).toInt8.toInt32))] t → Steps p.tables e below (s₁.setTop (entryFrame m #[(.ref a1), (.int 2)] 2)) t := by
    intro t k
    refine R1 t ?_
    refine X0.arraylength hx (by rw [e0]; exact Ar2.1) (State.isArrayOf_alike hZ.alike Ar2.2.1) (g := (mkF m 2 #[oR a1, oI 2] [(.ref a1), (.int 2)])) rfl rfl (hb hby own_d7_2) _ ?_
    rw [len_of S2 N2']
    refine XS.isub X0.here hx rfl (hb hby own_d7_3) rfl ?_
    refine XS.bipush X0.here hx rfl (hb hby own_d7_4) ?_
    show oG p e below s₁ m 6 #[oR a1, oI 2] [(.int 31), (.int 0)] _
    refine XS.iushr X0.here hx rfl (hb hby own_d7_6) rfl ?_
    refine XS.i2b X0.here hx rfl (hb hby own_d7_7) rfl ?_
    exact k
  have R4 : ∀ t, oG p e below s₁ m 8 #[oR a1, oI 2] [(.int 0)] t → Steps p.tables e below (s₁.setTop (entryFrame m #[(.ref a1), (.int 2)] 2)) t := by rw [(by decide : ((((0 : Int32).toUInt32 >>> ((31 : Int32) &&& 31).toUInt32).toInt32).toInt8.toInt32) = (0 : Int32))] at R3; exact R3
  obtain ⟨fs, hr, hrun, hended, hW, hsame⟩ := X0.leave (v := some (.int 0)) (fun h => by rw [Bd.returns] at h; cases h)
  refine ⟨_, _, R4 _ ?_, hrun, hended, _, _, rfl, ?_, ⟨_, rfl⟩, hW, hsame.mono (by decide) (by decide)⟩
  · exact retN X0 hx (t := .byte) Bd.returns (by simp) (hb hby own_d7_8) hr
  · show Q_rmCF22 Z a1 k1 vs1 h0 n0 _ s₁.heap _
    rw [e0]
    exact ⟨rfl, N0, rfl⟩
theorem own_ef_rmCF12 (m : MethodId) (x0 : Addr) (x1 : Int32) : entryFrame m #[(.ref x0), (.int x1)] 2 = mkF m 0 #[oR x0, oI x1] [] := by first | (simp [entryFrame, mkF, argsToLocals, Value.category]; done) | rfl
def Q_rmCF12 (Z : State) (a1 : Addr) (k1 : ClassId) (vs1 : List Value) (h0 : Heap) (n0 : Nat) (v : Option Value) (h : Heap) (L : List Loc) : Prop := v = some (.int 1) ∧ Fr n0 L ∧ h = h0
set_option maxRecDepth 65536 in
set_option maxHeartbeats 40000000 in
theorem rmCF12 (l : Launch) (Z : State) (a0 : Array Value) (hw : oT a0 Z) (ws : List Jvm.Cond) (a1 : Addr) (k1 : ClassId) (vs1 : List Value) (h0 : Heap) (n0 : Nat) (Z0 : n0 ≤ h0.size) (V1 : Arv Z h0 a1 k1 .byte (2 : Int32) vs1 (.int 0)) :
    oK l Z (⟨"java/lang/StringUTF16", "coderFromArrayLen", "([BI)B"⟩ : MethodName) jdk_52_method_15_code 2 (some .byte) ws (oM 0 0 0 0) #[(.ref a1), (.int 1)] h0 (Q_rmCF12 Z a1 k1 vs1 h0 n0) := by
  refine MetFree.of_bodySF (plainFor_of_name own_pn5) hisR ?_
  intro p e s m args below meth c s₁ Bd hml0 hP hK
  obtain ⟨rfl, hZ, hh⟩ := hP
  have hx := Bd.exec
  have hby := Bd.bytes
  have hml : c.maxLocals = 2 := hml0
  have hown : s.vm.findClass "java/lang/StringUTF16" = some m.cls := findClass_of_methodNamed Bd.named
  have hnm := (name_of_methodNamed Bd.named Bd.method).1
  have X0 : Stand p l e (oM 0 0 0 0) s m #[(.ref a1), (.int 1)] below meth c s₁ [] 0 0 := Stand.of_body Bd
  have e0 : s₁.heap = h0 := by rw [← hh, Bd.state]; rfl
  have N0 := Fr.nil n0
  have R0 : ∀ t, oG p e below s₁ m 0 #[oR a1, oI 1] [] t → Steps p.tables e below (s₁.setTop (entryFrame m #[(.ref a1), (.int 1)] 2)) t := fun t k => castTop (own_ef_rmCF12 m a1 (1 : Int32)) k
  have R1 : ∀ t, oG p e below s₁ m 2 #[oR a1, oI 1] [(.ref a1), (.int 1)] t → Steps p.tables e below (s₁.setTop (entryFrame m #[(.ref a1), (.int 1)] 2)) t := by
    intro t k
    refine R0 t ?_
    refine XS.iloadN X0.here hx rfl (hb hby own_d7_0) rfl ?_
    refine XS.aloadN X0.here hx rfl (hb hby own_d7_1) rfl rfl ?_
    exact k
  obtain ⟨cl2, Ar2, q2, S2, N2', H2, G2⟩ := id V1
  have R3 : ∀ t, oG p e below s₁ m 8 #[oR a1, oI 1] [(.int ((((-1 : Int32).toUInt32 >>> ((31 : Int32) &&& 31).toUInt32).toInt32).toInt8.toInt32))] t → Steps p.tables e below (s₁.setTop (entryFrame m #[(.ref a1), (.int 1)] 2)) t := by
    intro t k
    refine R1 t ?_
    refine X0.arraylength hx (by rw [e0]; exact Ar2.1) (State.isArrayOf_alike hZ.alike Ar2.2.1) (g := (mkF m 2 #[oR a1, oI 1] [(.ref a1), (.int 1)])) rfl rfl (hb hby own_d7_2) _ ?_
    rw [len_of S2 N2']
    refine XS.isub X0.here hx rfl (hb hby own_d7_3) rfl ?_
    refine XS.bipush X0.here hx rfl (hb hby own_d7_4) ?_
    show oG p e below s₁ m 6 #[oR a1, oI 1] [(.int 31), (.int (-1))] _
    refine XS.iushr X0.here hx rfl (hb hby own_d7_6) rfl ?_
    refine XS.i2b X0.here hx rfl (hb hby own_d7_7) rfl ?_
    exact k
  have R4 : ∀ t, oG p e below s₁ m 8 #[oR a1, oI 1] [(.int 1)] t → Steps p.tables e below (s₁.setTop (entryFrame m #[(.ref a1), (.int 1)] 2)) t := by rw [(by decide : ((((-1 : Int32).toUInt32 >>> ((31 : Int32) &&& 31).toUInt32).toInt32).toInt8.toInt32) = (1 : Int32))] at R3; exact R3
  obtain ⟨fs, hr, hrun, hended, hW, hsame⟩ := X0.leave (v := some (.int 1)) (fun h => by rw [Bd.returns] at h; cases h)
  refine ⟨_, _, R4 _ ?_, hrun, hended, _, _, rfl, ?_, ⟨_, rfl⟩, hW, hsame.mono (by decide) (by decide)⟩
  · exact retN X0 hx (t := .byte) Bd.returns (by simp) (hb hby own_d7_8) hr
  · show Q_rmCF12 Z a1 k1 vs1 h0 n0 _ s₁.heap _
    rw [e0]
    exact ⟨rfl, N0, rfl⟩
theorem own_ef_rmCF24 (m : MethodId) (x0 : Addr) (x1 : Int32) : entryFrame m #[(.ref x0), (.int x1)] 2 = mkF m 0 #[oR x0, oI x1] [] := by first | (simp [entryFrame, mkF, argsToLocals, Value.category]; done) | rfl
def Q_rmCF24 (Z : State) (a1 : Addr) (k1 : ClassId) (vs1 : List Value) (h0 : Heap) (n0 : Nat) (v : Option Value) (h : Heap) (L : List Loc) : Prop := v = some (.int 1) ∧ Fr n0 L ∧ h = h0
set_option maxRecDepth 65536 in
set_option maxHeartbeats 40000000 in
theorem rmCF24 (l : Launch) (Z : State) (a0 : Array Value) (hw : oT a0 Z) (ws : List Jvm.Cond) (a1 : Addr) (k1 : ClassId) (vs1 : List Value) (h0 : Heap) (n0 : Nat) (Z0 : n0 ≤ h0.size) (V1 : Arv Z h0 a1 k1 .byte (4 : Int32) vs1 (.int 0)) :
    oK l Z (⟨"java/lang/StringUTF16", "coderFromArrayLen", "([BI)B"⟩ : MethodName) jdk_52_method_15_code 2 (some .byte) ws (oM 0 0 0 0) #[(.ref a1), (.int 2)] h0 (Q_rmCF24 Z a1 k1 vs1 h0 n0) := by
  refine MetFree.of_bodySF (plainFor_of_name own_pn5) hisR ?_
  intro p e s m args below meth c s₁ Bd hml0 hP hK
  obtain ⟨rfl, hZ, hh⟩ := hP
  have hx := Bd.exec
  have hby := Bd.bytes
  have hml : c.maxLocals = 2 := hml0
  have hown : s.vm.findClass "java/lang/StringUTF16" = some m.cls := findClass_of_methodNamed Bd.named
  have hnm := (name_of_methodNamed Bd.named Bd.method).1
  have X0 : Stand p l e (oM 0 0 0 0) s m #[(.ref a1), (.int 2)] below meth c s₁ [] 0 0 := Stand.of_body Bd
  have e0 : s₁.heap = h0 := by rw [← hh, Bd.state]; rfl
  have N0 := Fr.nil n0
  have R0 : ∀ t, oG p e below s₁ m 0 #[oR a1, oI 2] [] t → Steps p.tables e below (s₁.setTop (entryFrame m #[(.ref a1), (.int 2)] 2)) t := fun t k => castTop (own_ef_rmCF24 m a1 (2 : Int32)) k
  have R1 : ∀ t, oG p e below s₁ m 2 #[oR a1, oI 2] [(.ref a1), (.int 2)] t → Steps p.tables e below (s₁.setTop (entryFrame m #[(.ref a1), (.int 2)] 2)) t := by
    intro t k
    refine R0 t ?_
    refine XS.iloadN X0.here hx rfl (hb hby own_d7_0) rfl ?_
    refine XS.aloadN X0.here hx rfl (hb hby own_d7_1) rfl rfl ?_
    exact k
  obtain ⟨cl2, Ar2, q2, S2, N2', H2, G2⟩ := id V1
  have R3 : ∀ t, oG p e below s₁ m 8 #[oR a1, oI 2] [(.int ((((-2 : Int32).toUInt32 >>> ((31 : Int32) &&& 31).toUInt32).toInt32).toInt8.toInt32))] t → Steps p.tables e below (s₁.setTop (entryFrame m #[(.ref a1), (.int 2)] 2)) t := by
    intro t k
    refine R1 t ?_
    refine X0.arraylength hx (by rw [e0]; exact Ar2.1) (State.isArrayOf_alike hZ.alike Ar2.2.1) (g := (mkF m 2 #[oR a1, oI 2] [(.ref a1), (.int 2)])) rfl rfl (hb hby own_d7_2) _ ?_
    rw [len_of S2 N2']
    refine XS.isub X0.here hx rfl (hb hby own_d7_3) rfl ?_
    refine XS.bipush X0.here hx rfl (hb hby own_d7_4) ?_
    show oG p e below s₁ m 6 #[oR a1, oI 2] [(.int 31), (.int (-2))] _
    refine XS.iushr X0.here hx rfl (hb hby own_d7_6) rfl ?_
    refine XS.i2b X0.here hx rfl (hb hby own_d7_7) rfl ?_
    exact k
  have R4 : ∀ t, oG p e below s₁ m 8 #[oR a1, oI 2] [(.int 1)] t → Steps p.tables e below (s₁.setTop (entryFrame m #[(.ref a1), (.int 2)] 2)) t := by rw [(by decide : ((((-2 : Int32).toUInt32 >>> ((31 : Int32) &&& 31).toUInt32).toInt32).toInt8.toInt32) = (1 : Int32))] at R3; exact R3
  obtain ⟨fs, hr, hrun, hended, hW, hsame⟩ := X0.leave (v := some (.int 1)) (fun h => by rw [Bd.returns] at h; cases h)
  refine ⟨_, _, R4 _ ?_, hrun, hended, _, _, rfl, ?_, ⟨_, rfl⟩, hW, hsame.mono (by decide) (by decide)⟩
  · exact retN X0 hx (t := .byte) Bd.returns (by simp) (hb hby own_d7_8) hr
  · show Q_rmCF24 Z a1 k1 vs1 h0 n0 _ s₁.heap _
    rw [e0]
    exact ⟨rfl, N0, rfl⟩
def own_Str (Z : State) (h : Heap) (a : Addr) (n c0 c1 : Int32) : Prop := ∃ (b : Addr) (k : ClassId), Exa Z h a "java/lang/String" ∧ Fld Z h a "java/lang/String" "value" "[B" (.ref b) ∧ ((n = (0 : Int32) ∧ Fld Z h a "java/lang/String" "coder" "B" (.int 0) ∧ Arv Z h b k .byte (0 : Int32) [] (.int 0)) ∨ (n = (1 : Int32) ∧ Fld Z h a "java/lang/String" "coder" "B" (.int 0) ∧ Arv Z h b k .byte (1 : Int32) [(.int (own_l c0))] (.int 0) ∧ ¬ (255 : Int32) < c0) ∨ (n = (1 : Int32) ∧ Fld Z h a "java/lang/String" "coder" "B" (.int 1) ∧ Arv Z h b k .byte (2 : Int32) [(.int (own_b0 c0)), (.int (own_b1 c0))] (.int 0)) ∨ (n = (2 : Int32) ∧ Fld Z h a "java/lang/String" "coder" "B" (.int 0) ∧ Arv Z h b k .byte (2 : Int32) [(.int (own_l c0)), (.int (own_l c1))] (.int 0) ∧ (¬ (255 : Int32) < c0) ∧ ¬ (255 : Int32) < c1) ∨ (n = (2 : Int32) ∧ Fld Z h a "java/lang/String" "coder" "B" (.int 1) ∧ Arv Z h b k .byte (4 : Int32) [(.int (own_b0 c0)), (.int (own_b1 c0)), (.int (own_b0 c1)), (.int (own_b1 c1))] (.int 0)))
theorem own_Str.keep {Z : State} {h h' : Heap} {a : Addr} {n c0 c1 : Int32} (S : own_Str Z h a n c0 c1) (K : Keep h h' []) : own_Str Z h' a n c0 c1 := by
  obtain ⟨b, k, E, F, D⟩ := S
  refine ⟨b, k, E.keep K, F.keep K nin0, ?_⟩
  rcases D with ⟨q, C, V⟩ | ⟨q, C, V, t⟩ | ⟨q, C, V⟩ | ⟨q, C, V, t⟩ | ⟨q, C, V⟩
  · exact Or.inl ⟨q, C.keep K nin0, V.keep K nin0⟩
  · exact Or.inr (Or.inl ⟨q, C.keep K nin0, V.keep K nin0, t⟩)
  · exact Or.inr (Or.inr (Or.inl ⟨q, C.keep K nin0, V.keep K nin0⟩))
  · exact Or.inr (Or.inr (Or.inr (Or.inl ⟨q, C.keep K nin0, V.keep K nin0, t⟩)))
  · exact Or.inr (Or.inr (Or.inr (Or.inr ⟨q, C.keep K nin0, V.keep K nin0⟩)))
theorem own_ef_rmI4_11 (m : MethodId) (x0 : Addr) (x1 : Addr) (x2 : Int32) (x3 : Int32) : entryFrame m #[(.ref x0), (.ref x1), (.int x2), (.int x3), .null] 6 = mkF m 0 #[oR x0, oR x1, oI x2, oI x3, .val .null, .unset] [] := by first | (simp [entryFrame, mkF, argsToLocals, Value.category]; done) | rfl
theorem own_d3_0 : decode jdk_42_method_149_code 0 = .ok (.aload_n 0, 1) := by decide +kernel
theorem own_d3_1 : decode jdk_42_method_149_code 1 = .ok (.invokespecial 1, 3) := by decide +kernel
theorem own_d3_4 : decode jdk_42_method_149_code 4 = .ok (.iload_n 3, 1) := by decide +kernel
theorem own_d3_5 : decode jdk_42_method_149_code 5 = .ok (.ifCond .ne 22, 3) := by decide +kernel
theorem own_d3_27 : decode jdk_42_method_149_code 27 = .ok (.getstatic 38, 3) := by decide +kernel
theorem own_d3_30 : decode jdk_42_method_149_code 30 = .ok (.ifCond .eq 28, 3) := by decide +kernel
theorem own_d3_33 : decode jdk_42_method_149_code 33 = .ok (.aload_n 1, 1) := by decide +kernel
theorem own_d3_34 : decode jdk_42_method_149_code 34 = .ok (.iload_n 2, 1) := by decide +kernel
theorem own_d3_35 : decode jdk_42_method_149_code 35 = .ok (.iload_n 3, 1) := by decide +kernel
theorem own_d3_36 : decode jdk_42_method_149_code 36 = .ok (.invokestatic 177, 3) := by decide +kernel
theorem own_d3_39 : decode jdk_42_method_149_code 39 = .ok (.astore 5, 2) := by decide +kernel
theorem own_d3_41 : decode jdk_42_method_149_code 41 = .ok (.aload_n 0, 1) := by decide +kernel
theorem own_d3_42 : decode jdk_42_method_149_code 42 = .ok (.aload 5, 2) := by decide +kernel
theorem own_d3_44 : decode jdk_42_method_149_code 44 = .ok (.iload_n 3, 1) := by decide +kernel
theorem own_d3_45 : decode jdk_42_method_149_code 45 = .ok (.invokestatic 47, 3) := by decide +kernel
theorem own_pd6 : parseMethodDescriptor "([BI)B" = some ⟨[(.array .byte), .int], some .byte⟩ := by decide +kernel
theorem own_d3_48 : decode jdk_42_method_149_code 48 = .ok (.putfield 15, 3) := by decide +kernel
theorem own_d3_51 : decode jdk_42_method_149_code 51 = .ok (.aload_n 0, 1) := by decide +kernel
theorem own_d3_52 : decode jdk_42_method_149_code 52 = .ok (.aload 5, 2) := by decide +kernel
theorem own_d3_54 : decode jdk_42_method_149_code 54 = .ok (.putfield 9, 3) := by decide +kernel
theorem own_d3_57 : decode jdk_42_method_149_code 57 = .ok (.return_, 1) := by decide +kernel
def Q_rmI4_11 (Z : State) (a1 a2 : Addr) (k2 : ClassId) (cz : Int32) (fm : Value) (c0 : Int32) (cx : Int32) (h0 : Heap) (n0 : Nat) (v : Option Value) (h : Heap) (L : List Loc) : Prop := v = none ∧ Fr n0 L ∧ Keep h0 h [a1] ∧ own_Str Z h a1 (1 : Int32) c0 cx
set_option maxRecDepth 65536 in
set_option maxHeartbeats 40000000 in
theorem rmI4_11 (l : Launch) (Z : State) (a0 : Array Value) (hw : oT a0 Z) (ws : List Jvm.Cond) (a1 a2 : Addr) (k2 : ClassId) (cz : Int32) (fm : Value) (c0 : Int32) (cx : Int32) (h0 : Heap) (n0 : Nat) (Z0 : n0 ≤ h0.size) (SU : own_St Z cz fm) (OX : Old Z n0 h0) (F1 : Fld Z h0 a1 "java/lang/String" "value" "[B" .null) (C1 : Fld Z h0 a1 "java/lang/String" "coder" "B" (.int 0)) (E1 : Exa Z h0 a1 "java/lang/String") (g_a1 : n0 ≤ a1) (Va2 : Arv Z h0 a2 k2 .char (1 : Int32) [(.int c0)] (.int 0)) (ne_a1_a2 : a1 ≠ a2) (t0 : ¬ (255 : Int32) < c0) (r0 : own_R c0) :
    oK l Z (⟨"java/lang/String", "<init>", "([CIILjava/lang/Void;)V"⟩ : MethodName) jdk_42_method_149_code 6 none ws (oM 2 1 1 35) #[(.ref a1), (.ref a2), (.int 0), (.int 1), .null] h0 (Q_rmI4_11 Z a1 a2 k2 cz fm c0 cx h0 n0) := by
  refine MetFree.of_bodySF (plainFor_of_name own_pn3) hisR ?_
  intro p e s m args below meth c s₁ Bd hml0 hP hK
  obtain ⟨rfl, hZ, hh⟩ := hP
  have hx := Bd.exec
  have hby := Bd.bytes
  have hml : c.maxLocals = 6 := hml0
  have hown : s.vm.findClass "java/lang/String" = some m.cls := findClass_of_methodNamed Bd.named
  have hnm := (name_of_methodNamed Bd.named Bd.method).1
  have X0 : Stand p l e (oM 2 1 1 35) s m #[(.ref a1), (.ref a2), (.int 0), (.int 1), .null] below meth c s₁ [] 0 0 := Stand.of_body Bd
  have e0 : s₁.heap = h0 := by rw [← hh, Bd.state]; rfl
  have N0 := Fr.nil n0
  have R0 : ∀ t, oG p e below s₁ m 0 #[oR a1, oR a2, oI 0, oI 1, .val .null, .unset] [] t → Steps p.tables e below (s₁.setTop (entryFrame m #[(.ref a1), (.ref a2), (.int 0), (.int 1), .null] 6)) t := fun t k => castTop (own_ef_rmI4_11 m a1 a2 (0 : Int32) (1 : Int32)) k
  have R1 : ∀ t, oG p e below s₁ m 1 #[oR a1, oR a2, oI 0, oI 1, .val .null, .unset] [(.ref a1)] t → Steps p.tables e below (s₁.setTop (entryFrame m #[(.ref a1), (.ref a2), (.int 0), (.int 1), .null] 6)) t := by
    intro t k
    refine R0 t ?_
    refine XS.aloadN X0.here hx rfl (hb hby own_d3_0) rfl rfl ?_
    exact k
  obtain ⟨T2, X2, e2, st2⟩ := initO X0 hx hZ hown (oW hw 15 rfl) (oW hw 16 rfl) (oW hw 17 rfl) e0 (g := (mkF m 1 #[oR a1, oR a2, oI 0, oI 1, .val .null, .unset] [(.ref a1)])) rfl (by rw [hml]; rfl) rfl (hb hby own_d3_1) (by decide) (W := 0) (by show 2 * 0 + _ ≤ _; exact Nat.le_of_eq rfl) (by decide)
  have R2 : ∀ t, oG p e below T2 m 4 #[oR a1, oR a2, oI 0, oI 1, .val .null, .unset] [] t → Steps p.tables e below (s₁.setTop (entryFrame m #[(.ref a1), (.ref a2), (.int 0), (.int 1), .null] 6)) t := fun t k => R1 t (st2 t k)
  have R3 : ∀ t, oG p e below T2 m 27 #[oR a1, oR a2, oI 0, oI 1, .val .null, .unset] [] t → Steps p.tables e below (s₁.setTop (entryFrame m #[(.ref a1), (.ref a2), (.int 0), (.int 1), .null] 6)) t := by
    intro t k
    refine R2 t ?_
    refine XS.iloadN X2.here hx rfl (hb hby own_d3_4) rfl ?_
    refine XS.ifYes X2.here hx rfl (pc0 := 5) (pc' := 27) rfl (hb hby own_d3_5) rfl ((if0 _ _).trans (feq (by decide : ¬ ((1 : Int32) = (0 : Int32)))).2) (by decide) (by decide) ?_
    exact k
  obtain ⟨T4, X4, e4, st4⟩ := getS2 X2 hx hZ hown (host := "") (Or.inl (oW hw 18 rfl)) Via.refl e2 (SU.1.ext OX.2) (g := (mkF m 27 #[oR a1, oR a2, oI 0, oI 1, .val .null, .unset] [])) rfl (hb hby own_d3_27)
  have R4 : ∀ t, oG p e below T4 m 30 #[oR a1, oR a2, oI 0, oI 1, .val .null, .unset] [(.int cz)] t → Steps p.tables e below (s₁.setTop (entryFrame m #[(.ref a1), (.ref a2), (.int 0), (.int 1), .null] 6)) t := fun t k => R3 t (st4 t k)
  have R5 : ∀ t, oG p e below T4 m 36 #[oR a1, oR a2, oI 0, oI 1, .val .null, .unset] [(.int 1), (.int 0), (.ref a2)] t → Steps p.tables e below (s₁.setTop (entryFrame m #[(.ref a1), (.ref a2), (.int 0), (.int 1), .null] 6)) t := by
    intro t k
    refine R4 t ?_
    refine XS.ifNo X4.here hx rfl (hb hby own_d3_30) rfl ((if0 _ _).trans (feq SU.2.1).1) ?_
    refine XS.aloadN X4.here hx rfl (hb hby own_d3_33) rfl rfl ?_
    refine XS.iloadN X4.here hx rfl (hb hby own_d3_34) rfl ?_
    show oG p e below T4 m 35 #[oR a1, oR a2, oI 0, oI 1, .val .null, .unset] [(.int 0), (.ref a2)] _
    refine XS.iloadN X4.here hx rfl (hb hby own_d3_35) rfl ?_
    exact k
  obtain ⟨_, _, ⟨T6, L6, k6, n6⟩, -, X6, ⟨Lc6, hQ6, l6, y6, z6⟩, st6⟩ := Jvm.LawKit.callS X4 hx (y := (⟨"java/lang/StringUTF16", "compress", "([CII)[B"⟩ : MethodName)) hown (mvT hZ (oW hw 19 rfl)) (mvT hZ (oW hw 20 rfl)) (mvT hZ (oW hw 21 rfl)) (mvT hZ (oW hw 22 rfl)) (by decide) (backOf (W := 0) (rmC3_11 l Z a0 hw [] a2 k2 cz fm c0 h0 n0 Z0 SU OX Va2 t0 r0) hZ (oW hw 22 rfl) (oW hw 21 rfl) (by decide) (by decide)) (g := (mkF m 36 #[oR a1, oR a2, oI 0, oI 1, .val .null, .unset] [(.int 1), (.int 0), (.ref a2)])) rfl (by rw [hml]; rfl) (argsL := [(.ref a2), (.int 0), (.int 1)]) (rest := []) (lenOf own_pd4 rfl) rfl (by show 2 * 0 + _ ≤ _; exact Nat.le_of_eq rfl) (hb hby own_d3_36) (fun _ _ => ⟨rfl, e4, (by decide : 0 + 1 ≤ _), (by decide : 0 + 1 ≤ _)⟩)
  dsimp only [Pt.U, Pt.locs, Pt.cells, Pt.slots] at X6 l6 y6 z6 st6 hQ6
  subst l6 y6 z6
  obtain ⟨bx, kx, rfl, Nq6, Kc6, sb6, Vn6⟩ := hQ6
  have N6 := Fr.app N0 Nq6
  have R6 : ∀ t, oG p e below T6 m 39 #[oR a1, oR a2, oI 0, oI 1, .val .null, .unset] [(.ref bx)] t → Steps p.tables e below (s₁.setTop (entryFrame m #[(.ref a1), (.ref a2), (.int 0), (.int 1), .null] 6)) t := fun t k => R5 t (st6 t k)
  have ne_a1_bx : a1 ≠ bx := Nat.ne_of_lt (Nat.lt_of_lt_of_le F1.lt sb6)
  have ne_a2_bx : a2 ≠ bx := Nat.ne_of_lt (Nat.lt_of_lt_of_le Va2.lt sb6)
  have g_bx : n0 ≤ bx := Nat.le_trans Z0 sb6
  have sz_bx : h0.size ≤ bx := Nat.le_trans (Keep.refl h0 [a1]).1 sb6
  have Z6 : n0 ≤ T6.heap.size := Nat.le_trans Z0 Kc6.1
  have K6 : Keep h0 T6.heap [a1] := (Keep.refl h0 [a1]).trans Kc6 all0
  have f7 : Old Z n0 T6.heap := OX.keep Kc6 all0
  have f8 : Fld Z T6.heap a1 "java/lang/String" "value" "[B" .null := F1.keep Kc6 nin0
  have f9 : Fld Z T6.heap a1 "java/lang/String" "coder" "B" (.int 0) := C1.keep Kc6 nin0
  have f10 : Exa Z T6.heap a1 "java/lang/String" := E1.keep Kc6
  have f11 : Arv Z T6.heap a2 k2 .char (1 : Int32) [(.int c0)] (.int 0) := Va2.keep Kc6 nin0
  have R12 : ∀ t, oG p e below T6 m 45 #[oR a1, oR a2, oI 0, oI 1, .val .null, oR bx] [(.int 1), (.ref bx), (.ref a1)] t → Steps p.tables e below (s₁.setTop (entryFrame m #[(.ref a1), (.ref a2), (.int 0), (.int 1), .null] 6)) t := by
    intro t k
    refine R6 t ?_
    refine XS.astore X6.here hx rfl (hb hby own_d3_39) rfl rfl (l' := #[oR a1, oR a2, oI 0, oI 1, .val .null, oR bx]) rfl ?_
    refine XS.aloadN X6.here hx rfl (hb hby own_d3_41) rfl rfl ?_
    refine XS.aload X6.here hx rfl (hb hby own_d3_42) rfl rfl ?_
    show oG p e below T6 m 44 #[oR a1, oR a2, oI 0, oI 1, .val .null, oR bx] [(.ref bx), (.ref a1)] _
    refine XS.iloadN X6.here hx rfl (hb hby own_d3_44) rfl ?_
    exact k
  obtain ⟨_, _, ⟨T13, L13, k13, n13⟩, -, X13, ⟨Lc13, hQ13, l13, y13, z13⟩, st13⟩ := Jvm.LawKit.callS X6 hx (y := (⟨"java/lang/StringUTF16", "coderFromArrayLen", "([BI)B"⟩ : MethodName)) hown (mvT hZ (oW hw 27 rfl)) (mvT hZ (oW hw 28 rfl)) (mvT hZ (oW hw 21 rfl)) (mvT hZ (oW hw 29 rfl)) (by decide) (backOf (W := 1) (rmCF11 l Z a0 hw [] bx kx [(.int (own_l c0))] T6.heap n0 Z6 Vn6) hZ (oW hw 29 rfl) (oW hw 21 rfl) (by decide) (by decide)) (g := (mkF m 45 #[oR a1, oR a2, oI 0, oI 1, .val .null, oR bx] [(.int 1), (.ref bx), (.ref a1)])) rfl (by rw [hml]; rfl) (argsL := [(.ref bx), (.int 1)]) (rest := [(.ref a1)]) (lenOf own_pd6 rfl) rfl (by show 2 * 0 + _ ≤ _; exact Nat.le_of_eq rfl) (hb hby own_d3_45) (fun _ _ => ⟨rfl, rfl, (by decide : 1 + 0 ≤ _), (by decide : 1 + 0 ≤ _)⟩)
  dsimp only [Pt.U, Pt.locs, Pt.cells, Pt.slots] at X13 l13 y13 z13 st13 hQ13
  subst l13 y13 z13
  obtain ⟨rfl, Nq13, eq13⟩ := hQ13
  have N13 := Fr.app N6 Nq13
  have R13 : ∀ t, oG p e below T13 m 48 #[oR a1, oR a2, oI 0, oI 1, .val .null, oR bx] [(.int 0), (.ref a1)] t → Steps p.tables e below (s₁.setTop (entryFrame m #[(.ref a1), (.ref a2), (.int 0), (.int 1), .null] 6)) t := fun t k => R12 t (st13 t k)
  obtain ⟨T14, h14, X14, e14, W14, st14⟩ := putFN X13 hx hZ hown (oW hw 30 rfl) Via.refl eq13 f9 f10 (Or.inr ⟨(oW hw 31 rfl), rfl, hnm⟩) (oW hw 5 rfl) (ty := .byte) (v' := (.int 0)) (by decide) rfl rfl (g := (mkF m 48 #[oR a1, oR a2, oI 0, oI 1, .val .null, oR bx] [(.int 0), (.ref a1)])) rfl rfl (hb hby own_d3_48)
  have R14 : ∀ t, oG p e below T14 m 51 #[oR a1, oR a2, oI 0, oI 1, .val .null, oR bx] [] t → Steps p.tables e below (s₁.setTop (entryFrame m #[(.ref a1), (.ref a2), (.int 0), (.int 1), .null] 6)) t := fun t k => R13 t (st14 t k)
  have Z14 : n0 ≤ h14.size := Nat.le_trans Z6 (Keep.of_wr W14).1
  have K14 : Keep h0 h14 [a1] := K6.wr W14 (Or.inl (by simp))
  have N14 := Fr.snoc X14 N13 g_a1
  have f15 : Old Z n0 h14 := f7.wr W14 g_a1
  have f16 : Fld Z h14 a1 "java/lang/String" "value" "[B" .null := f8.other W14 (Or.inr (slot_ne (Or.inr (oW hw 33 rfl)) (Or.inr (oW hw 31 rfl)) (by decide) (t := (.array .byte)) (t' := .byte) (by decide) (by decide)))
  have f17 : Exa Z h14 a1 "java/lang/String" := f10.wr W14
  have f18 : Arv Z h14 a2 k2 .char (1 : Int32) [(.int c0)] (.int 0) := f11.other W14 (Ne.symm ne_a1_a2)
  have f19 : Arv Z h14 bx kx .byte (1 : Int32) [(.int (own_l c0))] (.int 0) := Vn6.other W14 (Ne.symm ne_a1_bx)
  have Fw14 : Fld Z h14 a1 "java/lang/String" "coder" "B" (.int 0) := f9.same W14
  have R20 : ∀ t, oG p e below T14 m 54 #[oR a1, oR a2, oI 0, oI 1, .val .null, oR bx] [(.ref bx), (.ref a1)] t → Steps p.tables e below (s₁.setTop (entryFrame m #[(.ref a1), (.ref a2), (.int 0), (.int 1), .null] 6)) t := by
    intro t k
    refine R14 t ?_
    refine XS.aloadN X14.here hx rfl (hb hby own_d3_51) rfl rfl ?_
    refine XS.aload X14.here hx rfl (hb hby own_d3_52) rfl rfl ?_
    exact k
  obtain ⟨T21, h21, X21, e21, W21, st21⟩ := putF X14 hx hZ hown (host := "") (Or.inl (oW hw 32 rfl)) Via.refl e14 f16 f17 (Or.inr ⟨(oW hw 33 rfl), rfl, hnm⟩) (oW hw 5 rfl) (ty := (.array .byte)) (by decide) rfl rfl (g := (mkF m 54 #[oR a1, oR a2, oI 0, oI 1, .val .null, oR bx] [(.ref bx), (.ref a1)])) rfl rfl (hb hby own_d3_54)
  have R21 : ∀ t, oG p e below T21 m 57 #[oR a1, oR a2, oI 0, oI 1, .val .null, oR bx] [] t → Steps p.tables e below (s₁.setTop (entryFrame m #[(.ref a1), (.ref a2), (.int 0), (.int 1), .null] 6)) t := fun t k => R20 t (st21 t k)
  have Z21 : n0 ≤ h21.size := Nat.le_trans Z14 (Keep.of_wr W21).1
  have K21 : Keep h0 h21 [a1] := K14.wr W21 (Or.inl (by simp))
  have N21 := Fr.snoc X21 N14 g_a1
  have f22 : Old Z n0 h21 := f15.wr W21 g_a1
  have f23 : Exa Z h21 a1 "java/lang/String" := f17.wr W21
  have f24 : Arv Z h21 a2 k2 .char (1 : Int32) [(.int c0)] (.int 0) := f18.other W21 (Ne.symm ne_a1_a2)
  have f25 : Arv Z h21 bx kx .byte (1 : Int32) [(.int (own_l c0))] (.int 0) := f19.other W21 (Ne.symm ne_a1_bx)
  have f26 : Fld Z h21 a1 "java/lang/String" "coder" "B" (.int 0) := Fw14.other W21 (Or.inr (slot_ne (Or.inr (oW hw 31 rfl)) (Or.inr (oW hw 33 rfl)) (by decide) (t := .byte) (t' := (.array .byte)) (by decide) (by decide)))
  have Fw21 : Fld Z h21 a1 "java/lang/String" "value" "[B" (.ref bx) := f16.same W21
  obtain ⟨fs, hr, hrun, hended, hW, hsame⟩ := X21.leave (v := none) (fun _ => rfl)
  refine ⟨_, _, R21 _ ?_, hrun, hended, _, _, rfl, ?_, ⟨_, rfl⟩, hW, hsame.mono (by decide) (by decide)⟩
  · exact X21.returnOut hx Bd.returns (hb hby own_d3_57) hr
  · show Q_rmI4_11 Z a1 a2 k2 cz fm c0 cx h0 n0 _ T21.heap _
    rw [e21]
    exact ⟨rfl, N21, K21, bx, kx, f23, Fw21, Or.inr (Or.inl ⟨rfl, f26, f25, t0⟩)⟩
theorem own_ef_rmI1_11 (m : MethodId) (x0 : Addr) (x1 : Addr) : entryFrame m #[(.ref x0), (.ref x1)] 2 = mkF m 0 #[oR x0, oR x1] [] := by first | (simp [entryFrame, mkF, argsToLocals, Value.category]; done) | rfl
theorem own_d2_0 : decode jdk_42_method_3_code 0 = .ok (.aload_n 0, 1) := by decide +kernel
theorem own_d2_1 : decode jdk_42_method_3_code 1 = .ok (.aload_n 1, 1) := by decide +kernel
theorem own_d2_2 : decode jdk_42_method_3_code 2 = .ok (.iconst 0, 1) := by decide +kernel
theorem own_d2_3 : decode jdk_42_method_3_code 3 = .ok (.aload_n 1, 1) := by decide +kernel
theorem own_d2_4 : decode jdk_42_method_3_code 4 = .ok (.arraylength, 1) := by decide +kernel
theorem own_d2_5 : decode jdk_42_method_3_code 5 = .ok (.aconst_null, 1) := by decide +kernel
theorem own_d2_6 : decode jdk_42_method_3_code 6 = .ok (.invokespecial 27, 3) := by decide +kernel
theorem own_pd2 : parseMethodDescriptor "([CIILjava/lang/Void;)V" = some ⟨[(.array .char), .int, .int, (.object "java/lang/Void")], none⟩ := by decide +kernel
theorem own_d2_9 : decode jdk_42_method_3_code 9 = .ok (.return_, 1) := by decide +kernel
def Q_rmI1_11 (Z : State) (a1 a2 : Addr) (k2 : ClassId) (cz : Int32) (fm : Value) (c0 : Int32) (cx : Int32) (h0 : Heap) (n0 : Nat) (v : Option Value) (h : Heap) (L : List Loc) : Prop := v = none ∧ Fr n0 L ∧ Keep h0 h [a1] ∧ own_Str Z h a1 (1 : Int32) c0 cx
set_option maxRecDepth 65536 in
set_option maxHeartbeats 40000000 in
theorem rmI1_11 (l : Launch) (Z : State) (a0 : Array Value) (hw : oT a0 Z) (ws : List Jvm.Cond) (a1 a2 : Addr) (k2 : ClassId) (cz : Int32) (fm : Value) (c0 : Int32) (cx : Int32) (h0 : Heap) (n0 : Nat) (Z0 : n0 ≤ h0.size) (SU : own_St Z cz fm) (OX : Old Z n0 h0) (F1 : Fld Z h0 a1 "java/lang/String" "value" "[B" .null) (C1 : Fld Z h0 a1 "java/lang/String" "coder" "B" (.int 0)) (E1 : Exa Z h0 a1 "java/lang/String") (g_a1 : n0 ≤ a1) (Va2 : Arv Z h0 a2 k2 .char (1 : Int32) [(.int c0)] (.int 0)) (ne_a1_a2 : a1 ≠ a2) (t0 : ¬ (255 : Int32) < c0) (r0 : own_R c0) :
    oK l Z (⟨"java/lang/String", "<init>", "([C)V"⟩ : MethodName) jdk_42_method_3_code 2 none ws (oM 3 1 1 52) #[(.ref a1), (.ref a2)] h0 (Q_rmI1_11 Z a1 a2 k2 cz fm c0 cx h0 n0) := by
  refine MetFree.of_bodySF (plainFor_of_name own_pn3) hisR ?_
  intro p e s m args below meth c s₁ Bd hml0 hP hK
  obtain ⟨rfl, hZ, hh⟩ := hP
  have hx := Bd.exec
  have hby := Bd.bytes
  have hml : c.maxLocals = 2 := hml0
  have hown : s.vm.findClass "java/lang/String" = some m.cls := findClass_of_methodNamed Bd.named
  have hnm := (name_of_methodNamed Bd.named Bd.method).1
  have X0 : Stand p l e (oM 3 1 1 52) s m #[(.ref a1), (.ref a2)] below meth c s₁ [] 0 0 := Stand.of_body Bd
  have e0 : s₁.heap = h0 := by rw [← hh, Bd.state]; rfl
  have N0 := Fr.nil n0
  have R0 : ∀ t, oG p e below s₁ m 0 #[oR a1, oR a2] [] t → Steps p.tables e below (s₁.setTop (entryFrame m #[(.ref a1), (.ref a2)] 2)) t := fun t k => castTop (own_ef_rmI1_11 m a1 a2) k
  have R1 : ∀ t, oG p e below s₁ m 4 #[oR a1, oR a2] [(.ref a2), (.int 0), (.ref a2), (.ref a1)] t → Steps p.tables e below (s₁.setTop (entryFrame m #[(.ref a1), (.ref a2)] 2)) t := by
    intro t k
    refine R0 t ?_
    refine XS.aloadN X0.here hx rfl (hb hby own_d2_0) rfl rfl ?_
    refine XS.aloadN X0.here hx rfl (hb hby own_d2_1) rfl rfl ?_
    refine XS.iconst X0.here hx rfl (hb hby own_d2_2) ?_
    show oG p e below s₁ m 3 #[oR a1, oR a2] [(.int 0), (.ref a2), (.ref a1)] _
    refine XS.aloadN X0.here hx rfl (hb hby own_d2_3) rfl rfl ?_
    exact k
  obtain ⟨cl2, Ar2, q2, S2, N2', H2, G2⟩ := id Va2
  have R3 : ∀ t, oG p e below s₁ m 6 #[oR a1, oR a2] [.null, (.int 1), (.int 0), (.ref a2), (.ref a1)] t → Steps p.tables e below (s₁.setTop (entryFrame m #[(.ref a1), (.ref a2)] 2)) t := by
    intro t k
    refine R1 t ?_
    refine X0.arraylength hx (by rw [e0]; exact Ar2.1) (State.isArrayOf_alike hZ.alike Ar2.2.1) (g := (mkF m 4 #[oR a1, oR a2] [(.ref a2), (.int 0), (.ref a2), (.ref a1)])) rfl rfl (hb hby own_d2_4) _ ?_
    rw [len_of S2 N2']
    refine XS.aconstNull X0.here hx rfl (hb hby own_d2_5) ?_
    exact k
  obtain ⟨_, _, ⟨T4, L4, k4, n4⟩, -, X4, ⟨Lc4, hQ4, l4, y4, z4⟩, st4⟩ := X0.specialBack hx (y := (⟨"java/lang/String", "<init>", "([CIILjava/lang/Void;)V"⟩ : MethodName)) rfl hown (mvT hZ (oW hw 11 rfl)) (mvT hZ (oW hw 12 rfl)) (mvT hZ (oW hw 14 rfl)) (by decide) (backOf (W := 0) (rmI4_11 l Z a0 hw [] a1 a2 k2 cz fm c0 cx h0 n0 Z0 SU OX F1 C1 E1 g_a1 Va2 ne_a1_a2 t0 r0) hZ (oW hw 14 rfl) (oW hw 6 rfl) (by decide) (by decide)) (g := (mkF m 6 #[oR a1, oR a2] [.null, (.int 1), (.int 0), (.ref a2), (.ref a1)])) rfl (by rw [hml]; rfl) (Steps.refl _) (a := a1) (argsL := [(.ref a2), (.int 0), (.int 1), .null]) (rest := []) (lenOf own_pd2 rfl) rfl (by show 2 * 0 + _ ≤ _; exact Nat.le_of_eq rfl) (hb hby own_d2_6) (fun _ _ => ⟨rfl, e0, (by decide : 0 + 1 ≤ _), (by decide : 0 + 1 ≤ _)⟩)
  dsimp only [Pt.U, Pt.locs, Pt.cells, Pt.slots] at X4 l4 y4 z4 st4 hQ4
  subst l4 y4 z4
  obtain ⟨rfl, Nq4, Kc4, Sn4⟩ := hQ4
  have N4 := Fr.app N0 Nq4
  have R4 : ∀ t, oG p e below T4 m 9 #[oR a1, oR a2] [] t → Steps p.tables e below (s₁.setTop (entryFrame m #[(.ref a1), (.ref a2)] 2)) t := fun t k => R3 t (st4.trans k)
  have Z4 : n0 ≤ T4.heap.size := Nat.le_trans Z0 Kc4.1
  have K4 : Keep h0 T4.heap [a1] := (Keep.refl h0 [a1]).trans Kc4 (allS (Or.inl (by simp)) all0)
  have f5 : Old Z n0 T4.heap := OX.keep Kc4 (allS g_a1 all0)
  have f6 : Exa Z T4.heap a1 "java/lang/String" := E1.keep Kc4
  obtain ⟨fs, hr, hrun, hended, hW, hsame⟩ := X4.leave (v := none) (fun _ => rfl)
  refine ⟨_, _, R4 _ ?_, hrun, hended, _, _, rfl, ?_, ⟨_, rfl⟩, hW, hsame.mono (by decide) (by decide)⟩
  · exact X4.returnOut hx Bd.returns (hb hby own_d2_9) hr
  · show Q_rmI1_11 Z a1 a2 k2 cz fm c0 cx h0 n0 _ T4.heap _
    exact ⟨rfl, N4, K4, Sn4⟩
theorem own_ef_rmI4_10 (m : MethodId) (x0 : Addr) (x1 : Addr) (x2 : Int32) (x3 : Int32) : entryFrame m #[(.ref x0), (.ref x1), (.int x2), (.int x3), .null] 6 = mkF m 0 #[oR x0, oR x1, oI x2, oI x3, .val .null, .unset] [] := by first | (simp [entryFrame, mkF, argsToLocals, Value.category]; done) | rfl
def Q_rmI4_10 (Z : State) (a1 a2 : Addr) (k2 : ClassId) (cz : Int32) (fm : Value) (c0 : Int32) (cx : Int32) (h0 : Heap) (n0 : Nat) (v : Option Value) (h : Heap) (L : List Loc) : Prop := v = none ∧ Fr n0 L ∧ Keep h0 h [a1] ∧ own_Str Z h a1 (1 : Int32) c0 cx
set_option maxRecDepth 65536 in
set_option maxHeartbeats 40000000 in
theorem rmI4_10 (l : Launch) (Z : State) (a0 : Array Value) (hw : oT a0 Z) (ws : List Jvm.Cond) (a1 a2 : Addr) (k2 : ClassId) (cz : Int32) (fm : Value) (c0 : Int32) (cx : Int32) (h0 : Heap) (n0 : Nat) (Z0 : n0 ≤ h0.size) (SU : own_St Z cz fm) (OX : Old Z n0 h0) (F1 : Fld Z h0 a1 "java/lang/String" "value" "[B" .null) (C1 : Fld Z h0 a1 "java/lang/String" "coder" "B" (.int 0)) (E1 : Exa Z h0 a1 "java/lang/String") (g_a1 : n0 ≤ a1) (Va2 : Arv Z h0 a2 k2 .char (1 : Int32) [(.int c0)] (.int 0)) (ne_a1_a2 : a1 ≠ a2) (u0 : (255 : Int32) < c0) (r0 : own_R c0) :
    oK l Z (⟨"java/lang/String", "<init>", "([CIILjava/lang/Void;)V"⟩ : MethodName) jdk_42_method_149_code 6 none ws (oM 4 2 3 57) #[(.ref a1), (.ref a2), (.int 0), (.int 1), .null] h0 (Q_rmI4_10 Z a1 a2 k2 cz fm c0 cx h0 n0) := by
  refine MetFree.of_bodySF (plainFor_of_name own_pn3) hisR ?_
  intro p e s m args below meth c s₁ Bd hml0 hP hK
  obtain ⟨rfl, hZ, hh⟩ := hP
  have hx := Bd.exec
  have hby := Bd.bytes
  have hml : c.maxLocals = 6 := hml0
  have hown : s.vm.findClass "java/lang/String" = some m.cls := findClass_of_methodNamed Bd.named
  have hnm := (name_of_methodNamed Bd.named Bd.method).1
  have X0 : Stand p l e (oM 4 2 3 57) s m #[(.ref a1), (.ref a2), (.int 0), (.int 1), .null] below meth c s₁ [] 0 0 := Stand.of_body Bd
  have e0 : s₁.heap = h0 := by rw [← hh, Bd.state]; rfl
  have N0 := Fr.nil n0
  have R0 : ∀ t, oG p e below s₁ m 0 #[oR a1, oR a2, oI 0, oI 1, .val .null, .unset] [] t → Steps p.tables e below (s₁.setTop (entryFrame m #[(.ref a1), (.ref a2), (.int 0), (.int 1), .null] 6)) t := fun t k => castTop (own_ef_rmI4_10 m a1 a2 (0 : Int32) (1 : Int32)) k
  have R1 : ∀ t, oG p e below s₁ m 1 #[oR a1, oR a2, oI 0, oI 1, .val .null, .unset] [(.ref a1)] t → Steps p.tables e below (s₁.setTop (entryFrame m #[(.ref a1), (.ref a2), (.int 0), (.int 1), .null] 6)) t := by
    intro t k
    refine R0 t ?_
    refine XS.aloadN X0.here hx rfl (hb hby own_d3_0) rfl rfl ?_
    exact k
  obtain ⟨T2, X2, e2, st2⟩ := initO X0 hx hZ hown (oW hw 15 rfl) (oW hw 16 rfl) (oW hw 17 rfl) e0 (g := (mkF m 1 #[oR a1, oR a2, oI 0, oI 1, .val .null, .unset] [(.ref a1)])) rfl (by rw [hml]; rfl) rfl (hb hby own_d3_1) (by decide) (W := 0) (by show 2 * 0 + _ ≤ _; exact Nat.le_of_eq rfl) (by decide)
  have R2 : ∀ t, oG p e below T2 m 4 #[oR a1, oR a2, oI 0, oI 1, .val .null, .unset] [] t → Steps p.tables e below (s₁.setTop (entryFrame m #[(.ref a1), (.ref a2), (.int 0), (.int 1), .null] 6)) t := fun t k => R1 t (st2 t k)
  have R3 : ∀ t, oG p e below T2 m 27 #[oR a1, oR a2, oI 0, oI 1, .val .null, .unset] [] t → Steps p.tables e below (s₁.setTop (entryFrame m #[(.ref a1), (.ref a2), (.int 0), (.int 1), .null] 6)) t := by
    intro t k
    refine R2 t ?_
    refine XS.iloadN X2.here hx rfl (hb hby own_d3_4) rfl ?_
    refine XS.ifYes X2.here hx rfl (pc0 := 5) (pc' := 27) rfl (hb hby own_d3_5) rfl ((if0 _ _).trans (feq (by decide : ¬ ((1 : Int32) = (0 : Int32)))).2) (by decide) (by decide) ?_
    exact k
  obtain ⟨T4, X4, e4, st4⟩ := getS2 X2 hx hZ hown (host := "") (Or.inl (oW hw 18 rfl)) Via.refl e2 (SU.1.ext OX.2) (g := (mkF m 27 #[oR a1, oR a2, oI 0, oI 1, .val .null, .unset] [])) rfl (hb hby own_d3_27)
  have R4 : ∀ t, oG p e below T4 m 30 #[oR a1, oR a2, oI 0, oI 1, .val .null, .unset] [(.int cz)] t → Steps p.tables e below (s₁.setTop (entryFrame m #[(.ref a1), (.ref a2), (.int 0), (.int 1), .null] 6)) t := fun t k => R3 t (st4 t k)
  have R5 : ∀ t, oG p e below T4 m 36 #[oR a1, oR a2, oI 0, oI 1, .val .null, .unset] [(.int 1), (.int 0), (.ref a2)] t → Steps p.tables e below (s₁.setTop (entryFrame m #[(.ref a1), (.ref a2), (.int 0), (.int 1), .null] 6)) t := by
    intro t k
    refine R4 t ?_
    refine XS.ifNo X4.here hx rfl (hb hby own_d3_30) rfl ((if0 _ _).trans (feq SU.2.1).1) ?_
    refine XS.aloadN X4.here hx rfl (hb hby own_d3_33) rfl rfl ?_
    refine XS.iloadN X4.here hx rfl (hb hby own_d3_34) rfl ?_
    show oG p e below T4 m 35 #[oR a1, oR a2, oI 0, oI 1, .val .null, .unset] [(.int 0), (.ref a2)] _
    refine XS.iloadN X4.here hx rfl (hb hby own_d3_35) rfl ?_
    exact k
  obtain ⟨_, _, ⟨T6, L6, k6, n6⟩, -, X6, ⟨Lc6, hQ6, l6, y6, z6⟩, st6⟩ := Jvm.LawKit.callS X4 hx (y := (⟨"java/lang/StringUTF16", "compress", "([CII)[B"⟩ : MethodName)) hown (mvT hZ (oW hw 19 rfl)) (mvT hZ (oW hw 20 rfl)) (mvT hZ (oW hw 21 rfl)) (mvT hZ (oW hw 22 rfl)) (by decide) (backOf (W := 0) (rmC3_10 l Z a0 hw [] a2 k2 cz fm c0 h0 n0 Z0 SU OX Va2 u0 r0) hZ (oW hw 22 rfl) (oW hw 21 rfl) (by decide) (by decide)) (g := (mkF m 36 #[oR a1, oR a2, oI 0, oI 1, .val .null, .unset] [(.int 1), (.int 0), (.ref a2)])) rfl (by rw [hml]; rfl) (argsL := [(.ref a2), (.int 0), (.int 1)]) (rest := []) (lenOf own_pd4 rfl) rfl (by show 2 * 0 + _ ≤ _; exact Nat.le_of_eq rfl) (hb hby own_d3_36) (fun _ _ => ⟨rfl, e4, (by decide : 0 + 2 ≤ _), (by decide : 0 + 3 ≤ _)⟩)
  dsimp only [Pt.U, Pt.locs, Pt.cells, Pt.slots] at X6 l6 y6 z6 st6 hQ6
  subst l6 y6 z6
  obtain ⟨bx, kx, rfl, Nq6, Kc6, sb6, Vn6⟩ := hQ6
  have N6 := Fr.app N0 Nq6
  have R6 : ∀ t, oG p e below T6 m 39 #[oR a1, oR a2, oI 0, oI 1, .val .null, .unset] [(.ref bx)] t → Steps p.tables e below (s₁.setTop (entryFrame m #[(.ref a1), (.ref a2), (.int 0), (.int 1), .null] 6)) t := fun t k => R5 t (st6 t k)
  have ne_a1_bx : a1 ≠ bx := Nat.ne_of_lt (Nat.lt_of_lt_of_le F1.lt sb6)
  have ne_a2_bx : a2 ≠ bx := Nat.ne_of_lt (Nat.lt_of_lt_of_le Va2.lt sb6)
  have g_bx : n0 ≤ bx := Nat.le_trans Z0 sb6
  have sz_bx : h0.size ≤ bx := Nat.le_trans (Keep.refl h0 [a1]).1 sb6
  have Z6 : n0 ≤ T6.heap.size := Nat.le_trans Z0 Kc6.1
  have K6 : Keep h0 T6.heap [a1] := (Keep.refl h0 [a1]).trans Kc6 all0
  have f7 : Old Z n0 T6.heap := OX.keep Kc6 all0
  have f8 : Fld Z T6.heap a1 "java/lang/String" "value" "[B" .null := F1.keep Kc6 nin0
  have f9 : Fld Z T6.heap a1 "java/lang/String" "coder" "B" (.int 0) := C1.keep Kc6 nin0
  have f10 : Exa Z T6.heap a1 "java/lang/String" := E1.keep Kc6
  have f11 : Arv Z T6.heap a2 k2 .char (1 : Int32) [(.int c0)] (.int 0) := Va2.keep Kc6 nin0
  have R12 : ∀ t, oG p e below T6 m 45 #[oR a1, oR a2, oI 0, oI 1, .val .null, oR bx] [(.int 1), (.ref bx), (.ref a1)] t → Steps p.tables e below (s₁.setTop (entryFrame m #[(.ref a1), (.ref a2), (.int 0), (.int 1), .null] 6)) t := by
    intro t k
    refine R6 t ?_
    refine XS.astore X6.here hx rfl (hb hby own_d3_39) rfl rfl (l' := #[oR a1, oR a2, oI 0, oI 1, .val .null, oR bx]) rfl ?_
    refine XS.aloadN X6.here hx rfl (hb hby own_d3_41) rfl rfl ?_
    refine XS.aload X6.here hx rfl (hb hby own_d3_42) rfl rfl ?_
    show oG p e below T6 m 44 #[oR a1, oR a2, oI 0, oI 1, .val .null, oR bx] [(.ref bx), (.ref a1)] _
    refine XS.iloadN X6.here hx rfl (hb hby own_d3_44) rfl ?_
    exact k
  obtain ⟨_, _, ⟨T13, L13, k13, n13⟩, -, X13, ⟨Lc13, hQ13, l13, y13, z13⟩, st13⟩ := Jvm.LawKit.callS X6 hx (y := (⟨"java/lang/StringUTF16", "coderFromArrayLen", "([BI)B"⟩ : MethodName)) hown (mvT hZ (oW hw 27 rfl)) (mvT hZ (oW hw 28 rfl)) (mvT hZ (oW hw 21 rfl)) (mvT hZ (oW hw 29 rfl)) (by decide) (backOf (W := 1) (rmCF12 l Z a0 hw [] bx kx [(.int (own_b0 c0)), (.int (own_b1 c0))] T6.heap n0 Z6 Vn6) hZ (oW hw 29 rfl) (oW hw 21 rfl) (by decide) (by decide)) (g := (mkF m 45 #[oR a1, oR a2, oI 0, oI 1, .val .null, oR bx] [(.int 1), (.ref bx), (.ref a1)])) rfl (by rw [hml]; rfl) (argsL := [(.ref bx), (.int 1)]) (rest := [(.ref a1)]) (lenOf own_pd6 rfl) rfl (by show 2 * 0 + _ ≤ _; exact Nat.le_of_eq rfl) (hb hby own_d3_45) (fun _ _ => ⟨rfl, rfl, (by decide : 2 + 0 ≤ _), (by decide : 3 + 0 ≤ _)⟩)
  dsimp only [Pt.U, Pt.locs, Pt.cells, Pt.slots] at X13 l13 y13 z13 st13 hQ13
  subst l13 y13 z13
  obtain ⟨rfl, Nq13, eq13⟩ := hQ13
  have N13 := Fr.app N6 Nq13
  have R13 : ∀ t, oG p e below T13 m 48 #[oR a1, oR a2, oI 0, oI 1, .val .null, oR bx] [(.int 1), (.ref a1)] t → Steps p.tables e below (s₁.setTop (entryFrame m #[(.ref a1), (.ref a2), (.int 0), (.int 1), .null] 6)) t := fun t k => R12 t (st13 t k)
  obtain ⟨T14, h14, X14, e14, W14, st14⟩ := putFN X13 hx hZ hown (oW hw 30 rfl) Via.refl eq13 f9 f10 (Or.inr ⟨(oW hw 31 rfl), rfl, hnm⟩) (oW hw 5 rfl) (ty := .byte) (v' := (.int 1)) (by decide) rfl rfl (g := (mkF m 48 #[oR a1, oR a2, oI 0, oI 1, .val .null, oR bx] [(.int 1), (.ref a1)])) rfl rfl (hb hby own_d3_48)
  have R14 : ∀ t, oG p e below T14 m 51 #[oR a1, oR a2, oI 0, oI 1, .val .null, oR bx] [] t → Steps p.tables e below (s₁.setTop (entryFrame m #[(.ref a1), (.ref a2), (.int 0), (.int 1), .null] 6)) t := fun t k => R13 t (st14 t k)
  have Z14 : n0 ≤ h14.size := Nat.le_trans Z6 (Keep.of_wr W14).1
  have K14 : Keep h0 h14 [a1] := K6.wr W14 (Or.inl (by simp))
  have N14 := Fr.snoc X14 N13 g_a1
  have f15 : Old Z n0 h14 := f7.wr W14 g_a1
  have f16 : Fld Z h14 a1 "java/lang/String" "value" "[B" .null := f8.other W14 (Or.inr (slot_ne (Or.inr (oW hw 33 rfl)) (Or.inr (oW hw 31 rfl)) (by decide) (t := (.array .byte)) (t' := .byte) (by decide) (by decide)))
  have f17 : Exa Z h14 a1 "java/lang/String" := f10.wr W14
  have f18 : Arv Z h14 a2 k2 .char (1 : Int32) [(.int c0)] (.int 0) := f11.other W14 (Ne.symm ne_a1_a2)
  have f19 : Arv Z h14 bx kx .byte (2 : Int32) [(.int (own_b0 c0)), (.int (own_b1 c0))] (.int 0) := Vn6.other W14 (Ne.symm ne_a1_bx)
  have Fw14 : Fld Z h14 a1 "java/lang/String" "coder" "B" (.int 1) := f9.same W14
  have R20 : ∀ t, oG p e below T14 m 54 #[oR a1, oR a2, oI 0, oI 1, .val .null, oR bx] [(.ref bx), (.ref a1)] t → Steps p.tables e below (s₁.setTop (entryFrame m #[(.ref a1), (.ref a2), (.int 0), (.int 1), .null] 6)) t := by
    intro t k
    refine R14 t ?_
    refine XS.aloadN X14.here hx rfl (hb hby own_d3_51) rfl rfl ?_
    refine XS.aload X14.here hx rfl (hb hby own_d3_52) rfl rfl ?_
    exact k
  obtain ⟨T21, h21, X21, e21, W21, st21⟩ := putF X14 hx hZ hown (host := "") (Or.inl (oW hw 32 rfl)) Via.refl e14 f16 f17 (Or.inr ⟨(oW hw 33 rfl), rfl, hnm⟩) (oW hw 5 rfl) (ty := (.array .byte)) (by decide) rfl rfl (g := (mkF m 54 #[oR a1, oR a2, oI 0, oI 1, .val .null, oR bx] [(.ref bx), (.ref a1)])) rfl rfl (hb hby own_d3_54)
  have R21 : ∀ t, oG p e below T21 m 57 #[oR a1, oR a2, oI 0, oI 1, .val .null, oR bx] [] t → Steps p.tables e below (s₁.setTop (entryFrame m #[(.ref a1), (.ref a2), (.int 0), (.int 1), .null] 6)) t := fun t k => R20 t (st21 t k)
  have Z21 : n0 ≤ h21.size := Nat.le_trans Z14 (Keep.of_wr W21).1
  have K21 : Keep h0 h21 [a1] := K14.wr W21 (Or.inl (by simp))
  have N21 := Fr.snoc X21 N14 g_a1
  have f22 : Old Z n0 h21 := f15.wr W21 g_a1
  have f23 : Exa Z h21 a1 "java/lang/String" := f17.wr W21
  have f24 : Arv Z h21 a2 k2 .char (1 : Int32) [(.int c0)] (.int 0) := f18.other W21 (Ne.symm ne_a1_a2)
  have f25 : Arv Z h21 bx kx .byte (2 : Int32) [(.int (own_b0 c0)), (.int (own_b1 c0))] (.int 0) := f19.other W21 (Ne.symm ne_a1_bx)
  have f26 : Fld Z h21 a1 "java/lang/String" "coder" "B" (.int 1) := Fw14.other W21 (Or.inr (slot_ne (Or.inr (oW hw 31 rfl)) (Or.inr (oW hw 33 rfl)) (by decide) (t := .byte) (t' := (.array .byte)) (by decide) (by decide)))
  have Fw21 : Fld Z h21 a1 "java/lang/String" "value" "[B" (.ref bx) := f16.same W21
  obtain ⟨fs, hr, hrun, hended, hW, hsame⟩ := X21.leave (v := none) (fun _ => rfl)
  refine ⟨_, _, R21 _ ?_, hrun, hended, _, _, rfl, ?_, ⟨_, rfl⟩, hW, hsame.mono (by decide) (by decide)⟩
  · exact X21.returnOut hx Bd.returns (hb hby own_d3_57) hr
  · show Q_rmI4_10 Z a1 a2 k2 cz fm c0 cx h0 n0 _ T21.heap _
    rw [e21]
    exact ⟨rfl, N21, K21, bx, kx, f23, Fw21, Or.inr (Or.inr (Or.inl ⟨rfl, f26, f25⟩))⟩
theorem own_ef_rmI1_10 (m : MethodId) (x0 : Addr) (x1 : Addr) : entryFrame m #[(.ref x0), (.ref x1)] 2 = mkF m 0 #[oR x0, oR x1] [] := by first | (simp [entryFrame, mkF, argsToLocals, Value.category]; done) | rfl
def Q_rmI1_10 (Z : State) (a1 a2 : Addr) (k2 : ClassId) (cz : Int32) (fm : Value) (c0 : Int32) (cx : Int32) (h0 : Heap) (n0 : Nat) (v : Option Value) (h : Heap) (L : List Loc) : Prop := v = none ∧ Fr n0 L ∧ Keep h0 h [a1] ∧ own_Str Z h a1 (1 : Int32) c0 cx
set_option maxRecDepth 65536 in
set_option maxHeartbeats 40000000 in
theorem rmI1_10 (l : Launch) (Z : State) (a0 : Array Value) (hw : oT a0 Z) (ws : List Jvm.Cond) (a1 a2 : Addr) (k2 : ClassId) (cz : Int32) (fm : Value) (c0 : Int32) (cx : Int32) (h0 : Heap) (n0 : Nat) (Z0 : n0 ≤ h0.size) (SU : own_St Z cz fm) (OX : Old Z n0 h0) (F1 : Fld Z h0 a1 "java/lang/String" "value" "[B" .null) (C1 : Fld Z h0 a1 "java/lang/String" "coder" "B" (.int 0)) (E1 : Exa Z h0 a1 "java/lang/String") (g_a1 : n0 ≤ a1) (Va2 : Arv Z h0 a2 k2 .char (1 : Int32) [(.int c0)] (.int 0)) (ne_a1_a2 : a1 ≠ a2) (u0 : (255 : Int32) < c0) (r0 : own_R c0) :
    oK l Z (⟨"java/lang/String", "<init>", "([C)V"⟩ : MethodName) jdk_42_method_3_code 2 none ws (oM 5 2 3 74) #[(.ref a1), (.ref a2)] h0 (Q_rmI1_10 Z a1 a2 k2 cz fm c0 cx h0 n0) := by
  refine MetFree.of_bodySF (plainFor_of_name own_pn3) hisR ?_
  intro p e s m args below meth c s₁ Bd hml0 hP hK
  obtain ⟨rfl, hZ, hh⟩ := hP
  have hx := Bd.exec
  have hby := Bd.bytes
  have hml : c.maxLocals = 2 := hml0
  have hown : s.vm.findClass "java/lang/String" = some m.cls := findClass_of_methodNamed Bd.named
  have hnm := (name_of_methodNamed Bd.named Bd.method).1
  have X0 : Stand p l e (oM 5 2 3 74) s m #[(.ref a1), (.ref a2)] below meth c s₁ [] 0 0 := Stand.of_body Bd
  have e0 : s₁.heap = h0 := by rw [← hh, Bd.state]; rfl
  have N0 := Fr.nil n0
  have R0 : ∀ t, oG p e below s₁ m 0 #[oR a1, oR a2] [] t → Steps p.tables e below (s₁.setTop (entryFrame m #[(.ref a1), (.ref a2)] 2)) t := fun t k => castTop (own_ef_rmI1_10 m a1 a2) k
  have R1 : ∀ t, oG p e below s₁ m 4 #[oR a1, oR a2] [(.ref a2), (.int 0), (.ref a2), (.ref a1)] t → Steps p.tables e below (s₁.setTop (entryFrame m #[(.ref a1), (.ref a2)] 2)) t := by
    intro t k
    refine R0 t ?_
    refine XS.aloadN X0.here hx rfl (hb hby own_d2_0) rfl rfl ?_
    refine XS.aloadN X0.here hx rfl (hb hby own_d2_1) rfl rfl ?_
    refine XS.iconst X0.here hx rfl (hb hby own_d2_2) ?_
    show oG p e below s₁ m 3 #[oR a1, oR a2] [(.int 0), (.ref a2), (.ref a1)] _
    refine XS.aloadN X0.here hx rfl (hb hby own_d2_3) rfl rfl ?_
    exact k
  obtain ⟨cl2, Ar2, q2, S2, N2', H2, G2⟩ := id Va2
  have R3 : ∀ t, oG p e below s₁ m 6 #[oR a1, oR a2] [.null, (.int 1), (.int 0), (.ref a2), (.ref a1)] t → Steps p.tables e below (s₁.setTop (entryFrame m #[(.ref a1), (.ref a2)] 2)) t := by
    intro t k
    refine R1 t ?_
    refine X0.arraylength hx (by rw [e0]; exact Ar2.1) (State.isArrayOf_alike hZ.alike Ar2.2.1) (g := (mkF m 4 #[oR a1, oR a2] [(.ref a2), (.int 0), (.ref a2), (.ref a1)])) rfl rfl (hb hby own_d2_4) _ ?_
    rw [len_of S2 N2']
    refine XS.aconstNull X0.here hx rfl (hb hby own_d2_5) ?_
    exact k
  obtain ⟨_, _, ⟨T4, L4, k4, n4⟩, -, X4, ⟨Lc4, hQ4, l4, y4, z4⟩, st4⟩ := X0.specialBack hx (y := (⟨"java/lang/String", "<init>", "([CIILjava/lang/Void;)V"⟩ : MethodName)) rfl hown (mvT hZ (oW hw 11 rfl)) (mvT hZ (oW hw 12 rfl)) (mvT hZ (oW hw 14 rfl)) (by decide) (backOf (W := 0) (rmI4_10 l Z a0 hw [] a1 a2 k2 cz fm c0 cx h0 n0 Z0 SU OX F1 C1 E1 g_a1 Va2 ne_a1_a2 u0 r0) hZ (oW hw 14 rfl) (oW hw 6 rfl) (by decide) (by decide)) (g := (mkF m 6 #[oR a1, oR a2] [.null, (.int 1), (.int 0), (.ref a2), (.ref a1)])) rfl (by rw [hml]; rfl) (Steps.refl _) (a := a1) (argsL := [(.ref a2), (.int 0), (.int 1), .null]) (rest := []) (lenOf own_pd2 rfl) rfl (by show 2 * 0 + _ ≤ _; exact Nat.le_of_eq rfl) (hb hby own_d2_6) (fun _ _ => ⟨rfl, e0, (by decide : 0 + 2 ≤ _), (by decide : 0 + 3 ≤ _)⟩)
  dsimp only [Pt.U, Pt.locs, Pt.cells, Pt.slots] at X4 l4 y4 z4 st4 hQ4
  subst l4 y4 z4
  obtain ⟨rfl, Nq4, Kc4, Sn4⟩ := hQ4
  have N4 := Fr.app N0 Nq4
  have R4 : ∀ t, oG p e below T4 m 9 #[oR a1, oR a2] [] t → Steps p.tables e below (s₁.setTop (entryFrame m #[(.ref a1), (.ref a2)] 2)) t := fun t k => R3 t (st4.trans k)
  have Z4 : n0 ≤ T4.heap.size := Nat.le_trans Z0 Kc4.1
  have K4 : Keep h0 T4.heap [a1] := (Keep.refl h0 [a1]).trans Kc4 (allS (Or.inl (by simp)) all0)
  have f5 : Old Z n0 T4.heap := OX.keep Kc4 (allS g_a1 all0)
  have f6 : Exa Z T4.heap a1 "java/lang/String" := E1.keep Kc4
  obtain ⟨fs, hr, hrun, hended, hW, hsame⟩ := X4.leave (v := none) (fun _ => rfl)
  refine ⟨_, _, R4 _ ?_, hrun, hended, _, _, rfl, ?_, ⟨_, rfl⟩, hW, hsame.mono (by decide) (by decide)⟩
  · exact X4.returnOut hx Bd.returns (hb hby own_d2_9) hr
  · show Q_rmI1_10 Z a1 a2 k2 cz fm c0 cx h0 n0 _ T4.heap _
    exact ⟨rfl, N4, K4, Sn4⟩
theorem own_ef_rmI4_22 (m : MethodId) (x0 : Addr) (x1 : Addr) (x2 : Int32) (x3 : Int32) : entryFrame m #[(.ref x0), (.ref x1), (.int x2), (.int x3), .null] 6 = mkF m 0 #[oR x0, oR x1, oI x2, oI x3, .val .null, .unset] [] := by first | (simp [entryFrame, mkF, argsToLocals, Value.category]; done) | rfl
def Q_rmI4_22 (Z : State) (a1 a2 : Addr) (k2 : ClassId) (cz : Int32) (fm : Value) (c0 c1 : Int32) (h0 : Heap) (n0 : Nat) (v : Option Value) (h : Heap) (L : List Loc) : Prop := v = none ∧ Fr n0 L ∧ Keep h0 h [a1] ∧ own_Str Z h a1 (2 : Int32) c0 c1
set_option maxRecDepth 65536 in
set_option maxHeartbeats 40000000 in
theorem rmI4_22 (l : Launch) (Z : State) (a0 : Array Value) (hw : oT a0 Z) (ws : List Jvm.Cond) (a1 a2 : Addr) (k2 : ClassId) (cz : Int32) (fm : Value) (c0 c1 : Int32) (h0 : Heap) (n0 : Nat) (Z0 : n0 ≤ h0.size) (SU : own_St Z cz fm) (OX : Old Z n0 h0) (F1 : Fld Z h0 a1 "java/lang/String" "value" "[B" .null) (C1 : Fld Z h0 a1 "java/lang/String" "coder" "B" (.int 0)) (E1 : Exa Z h0 a1 "java/lang/String") (g_a1 : n0 ≤ a1) (Va2 : Arv Z h0 a2 k2 .char (2 : Int32) [(.int c0), (.int c1)] (.int 0)) (ne_a1_a2 : a1 ≠ a2) (t0 : ¬ (255 : Int32) < c0) (t1 : ¬ (255 : Int32) < c1) (r0 : own_R c0) (r1 : own_R c1) :
    oK l Z (⟨"java/lang/String", "<init>", "([CIILjava/lang/Void;)V"⟩ : MethodName) jdk_42_method_149_code 6 none ws (oM 2 1 2 35) #[(.ref a1), (.ref a2), (.int 0), (.int 2), .null] h0 (Q_rmI4_22 Z a1 a2 k2 cz fm c0 c1 h0 n0) := by
  refine MetFree.of_bodySF (plainFor_of_name own_pn3) hisR ?_
  intro p e s m args below meth c s₁ Bd hml0 hP hK
  obtain ⟨rfl, hZ, hh⟩ := hP
  have hx := Bd.exec
  have hby := Bd.bytes
  have hml : c.maxLocals = 6 := hml0
  have hown : s.vm.findClass "java/lang/String" = some m.cls := findClass_of_methodNamed Bd.named
  have hnm := (name_of_methodNamed Bd.named Bd.method).1
  have X0 : Stand p l e (oM 2 1 2 35) s m #[(.ref a1), (.ref a2), (.int 0), (.int 2), .null] below meth c s₁ [] 0 0 := Stand.of_body Bd
  have e0 : s₁.heap = h0 := by rw [← hh, Bd.state]; rfl
  have N0 := Fr.nil n0
  have R0 : ∀ t, oG p e below s₁ m 0 #[oR a1, oR a2, oI 0, oI 2, .val .null, .unset] [] t → Steps p.tables e below (s₁.setTop (entryFrame m #[(.ref a1), (.ref a2), (.int 0), (.int 2), .null] 6)) t := fun t k => castTop (own_ef_rmI4_22 m a1 a2 (0 : Int32) (2 : Int32)) k
  have R1 : ∀ t, oG p e below s₁ m 1 #[oR a1, oR a2, oI 0, oI 2, .val .null, .unset] [(.ref a1)] t → Steps p.tables e below (s₁.setTop (entryFrame m #[(.ref a1), (.ref a2), (.int 0), (.int 2), .null] 6)) t := by
    intro t k
    refine R0 t ?_
    refine XS.aloadN X0.here hx rfl (hb hby own_d3_0) rfl rfl ?_
    exact k
  obtain ⟨T2, X2, e2, st2⟩ := initO X0 hx hZ hown (oW hw 15 rfl) (oW hw 16 rfl) (oW hw 17 rfl) e0 (g := (mkF m 1 #[oR a1, oR a2, oI 0, oI 2, .val .null, .unset] [(.ref a1)])) rfl (by rw [hml]; rfl) rfl (hb hby own_d3_1) (by decide) (W := 0) (by show 2 * 0 + _ ≤ _; exact Nat.le_of_eq rfl) (by decide)
  have R2 : ∀ t, oG p e below T2 m 4 #[oR a1, oR a2, oI 0, oI 2, .val .null, .unset] [] t → Steps p.tables e below (s₁.setTop (entryFrame m #[(.ref a1), (.ref a2), (.int 0), (.int 2), .null] 6)) t := fun t k => R1 t (st2 t k)
  have R3 : ∀ t, oG p e below T2 m 27 #[oR a1, oR a2, oI 0, oI 2, .val .null, .unset] [] t → Steps p.tables e below (s₁.setTop (entryFrame m #[(.ref a1), (.ref a2), (.int 0), (.int 2), .null] 6)) t := by
    intro t k
    refine R2 t ?_
    refine XS.iloadN X2.here hx rfl (hb hby own_d3_4) rfl ?_
    refine XS.ifYes X2.here hx rfl (pc0 := 5) (pc' := 27) rfl (hb hby own_d3_5) rfl ((if0 _ _).trans (feq (by decide : ¬ ((2 : Int32) = (0 : Int32)))).2) (by decide) (by decide) ?_
    exact k
  obtain ⟨T4, X4, e4, st4⟩ := getS2 X2 hx hZ hown (host := "") (Or.inl (oW hw 18 rfl)) Via.refl e2 (SU.1.ext OX.2) (g := (mkF m 27 #[oR a1, oR a2, oI 0, oI 2, .val .null, .unset] [])) rfl (hb hby own_d3_27)
  have R4 : ∀ t, oG p e below T4 m 30 #[oR a1, oR a2, oI 0, oI 2, .val .null, .unset] [(.int cz)] t → Steps p.tables e below (s₁.setTop (entryFrame m #[(.ref a1), (.ref a2), (.int 0), (.int 2), .null] 6)) t := fun t k => R3 t (st4 t k)
  have R5 : ∀ t, oG p e below T4 m 36 #[oR a1, oR a2, oI 0, oI 2, .val .null, .unset] [(.int 2), (.int 0), (.ref a2)] t → Steps p.tables e below (s₁.setTop (entryFrame m #[(.ref a1), (.ref a2), (.int 0), (.int 2), .null] 6)) t := by
    intro t k
    refine R4 t ?_
    refine XS.ifNo X4.here hx rfl (hb hby own_d3_30) rfl ((if0 _ _).trans (feq SU.2.1).1) ?_
    refine XS.aloadN X4.here hx rfl (hb hby own_d3_33) rfl rfl ?_
    refine XS.iloadN X4.here hx rfl (hb hby own_d3_34) rfl ?_
    show oG p e below T4 m 35 #[oR a1, oR a2, oI 0, oI 2, .val .null, .unset] [(.int 0), (.ref a2)] _
    refine XS.iloadN X4.here hx rfl (hb hby own_d3_35) rfl ?_
    exact k
  obtain ⟨_, _, ⟨T6, L6, k6, n6⟩, -, X6, ⟨Lc6, hQ6, l6, y6, z6⟩, st6⟩ := Jvm.LawKit.callS X4 hx (y := (⟨"java/lang/StringUTF16", "compress", "([CII)[B"⟩ : MethodName)) hown (mvT hZ (oW hw 19 rfl)) (mvT hZ (oW hw 20 rfl)) (mvT hZ (oW hw 21 rfl)) (mvT hZ (oW hw 22 rfl)) (by decide) (backOf (W := 0) (rmC3_22 l Z a0 hw [] a2 k2 cz fm c0 c1 h0 n0 Z0 SU OX Va2 t0 t1 r0 r1) hZ (oW hw 22 rfl) (oW hw 21 rfl) (by decide) (by decide)) (g := (mkF m 36 #[oR a1, oR a2, oI 0, oI 2, .val .null, .unset] [(.int 2), (.int 0), (.ref a2)])) rfl (by rw [hml]; rfl) (argsL := [(.ref a2), (.int 0), (.int 2)]) (rest := []) (lenOf own_pd4 rfl) rfl (by show 2 * 0 + _ ≤ _; exact Nat.le_of_eq rfl) (hb hby own_d3_36) (fun _ _ => ⟨rfl, e4, (by decide : 0 + 1 ≤ _), (by decide : 0 + 2 ≤ _)⟩)
  dsimp only [Pt.U, Pt.locs, Pt.cells, Pt.slots] at X6 l6 y6 z6 st6 hQ6
  subst l6 y6 z6
  obtain ⟨bx, kx, rfl, Nq6, Kc6, sb6, Vn6⟩ := hQ6
  have N6 := Fr.app N0 Nq6
  have R6 : ∀ t, oG p e below T6 m 39 #[oR a1, oR a2, oI 0, oI 2, .val .null, .unset] [(.ref bx)] t → Steps p.tables e below (s₁.setTop (entryFrame m #[(.ref a1), (.ref a2), (.int 0), (.int 2), .null] 6)) t := fun t k => R5 t (st6 t k)
  have ne_a1_bx : a1 ≠ bx := Nat.ne_of_lt (Nat.lt_of_lt_of_le F1.lt sb6)
  have ne_a2_bx : a2 ≠ bx := Nat.ne_of_lt (Nat.lt_of_lt_of_le Va2.lt sb6)
  have g_bx : n0 ≤ bx := Nat.le_trans Z0 sb6
  have sz_bx : h0.size ≤ bx := Nat.le_trans (Keep.refl h0 [a1]).1 sb6
  have Z6 : n0 ≤ T6.heap.size := Nat.le_trans Z0 Kc6.1
  have K6 : Keep h0 T6.heap [a1] := (Keep.refl h0 [a1]).trans Kc6 all0
  have f7 : Old Z n0 T6.heap := OX.keep Kc6 all0
  have f8 : Fld Z T6.heap a1 "java/lang/String" "value" "[B" .null := F1.keep Kc6 nin0
  have f9 : Fld Z T6.heap a1 "java/lang/String" "coder" "B" (.int 0) := C1.keep Kc6 nin0
  have f10 : Exa Z T6.heap a1 "java/lang/String" := E1.keep Kc6
  have f11 : Arv Z T6.heap a2 k2 .char (2 : Int32) [(.int c0), (.int c1)] (.int 0) := Va2.keep Kc6 nin0
  have R12 : ∀ t, oG p e below T6 m 45 #[oR a1, oR a2, oI 0, oI 2, .val .null, oR bx] [(.int 2), (.ref bx), (.ref a1)] t → Steps p.tables e below (s₁.setTop (entryFrame m #[(.ref a1), (.ref a2), (.int 0), (.int 2), .null] 6)) t := by
    intro t k
    refine R6 t ?_
    refine XS.astore X6.here hx rfl (hb hby own_d3_39) rfl rfl (l' := #[oR a1, oR a2, oI 0, oI 2, .val .null, oR bx]) rfl ?_
    refine XS.aloadN X6.here hx rfl (hb hby own_d3_41) rfl rfl ?_
    refine XS.aload X6.here hx rfl (hb hby own_d3_42) rfl rfl ?_
    show oG p e below T6 m 44 #[oR a1, oR a2, oI 0, oI 2, .val .null, oR bx] [(.ref bx), (.ref a1)] _
    refine XS.iloadN X6.here hx rfl (hb hby own_d3_44) rfl ?_
    exact k
  obtain ⟨_, _, ⟨T13, L13, k13, n13⟩, -, X13, ⟨Lc13, hQ13, l13, y13, z13⟩, st13⟩ := Jvm.LawKit.callS X6 hx (y := (⟨"java/lang/StringUTF16", "coderFromArrayLen", "([BI)B"⟩ : MethodName)) hown (mvT hZ (oW hw 27 rfl)) (mvT hZ (oW hw 28 rfl)) (mvT hZ (oW hw 21 rfl)) (mvT hZ (oW hw 29 rfl)) (by decide) (backOf (W := 1) (rmCF22 l Z a0 hw [] bx kx [(.int (own_l c0)), (.int (own_l c1))] T6.heap n0 Z6 Vn6) hZ (oW hw 29 rfl) (oW hw 21 rfl) (by decide) (by decide)) (g := (mkF m 45 #[oR a1, oR a2, oI 0, oI 2, .val .null, oR bx] [(.int 2), (.ref bx), (.ref a1)])) rfl (by rw [hml]; rfl) (argsL := [(.ref bx), (.int 2)]) (rest := [(.ref a1)]) (lenOf own_pd6 rfl) rfl (by show 2 * 0 + _ ≤ _; exact Nat.le_of_eq rfl) (hb hby own_d3_45) (fun _ _ => ⟨rfl, rfl, (by decide : 1 + 0 ≤ _), (by decide : 2 + 0 ≤ _)⟩)
  dsimp only [Pt.U, Pt.locs, Pt.cells, Pt.slots] at X13 l13 y13 z13 st13 hQ13
  subst l13 y13 z13
  obtain ⟨rfl, Nq13, eq13⟩ := hQ13
  have N13 := Fr.app N6 Nq13
  have R13 : ∀ t, oG p e below T13 m 48 #[oR a1, oR a2, oI 0, oI 2, .val .null, oR bx] [(.int 0), (.ref a1)] t → Steps p.tables e below (s₁.setTop (entryFrame m #[(.ref a1), (.ref a2), (.int 0), (.int 2), .null] 6)) t := fun t k => R12 t (st13 t k)
  obtain ⟨T14, h14, X14, e14, W14, st14⟩ := putFN X13 hx hZ hown (oW hw 30 rfl) Via.refl eq13 f9 f10 (Or.inr ⟨(oW hw 31 rfl), rfl, hnm⟩) (oW hw 5 rfl) (ty := .byte) (v' := (.int 0)) (by decide) rfl rfl (g := (mkF m 48 #[oR a1, oR a2, oI 0, oI 2, .val .null, oR bx] [(.int 0), (.ref a1)])) rfl rfl (hb hby own_d3_48)
  have R14 : ∀ t, oG p e below T14 m 51 #[oR a1, oR a2, oI 0, oI 2, .val .null, oR bx] [] t → Steps p.tables e below (s₁.setTop (entryFrame m #[(.ref a1), (.ref a2), (.int 0), (.int 2), .null] 6)) t := fun t k => R13 t (st14 t k)
  have Z14 : n0 ≤ h14.size := Nat.le_trans Z6 (Keep.of_wr W14).1
  have K14 : Keep h0 h14 [a1] := K6.wr W14 (Or.inl (by simp))
  have N14 := Fr.snoc X14 N13 g_a1
  have f15 : Old Z n0 h14 := f7.wr W14 g_a1
  have f16 : Fld Z h14 a1 "java/lang/String" "value" "[B" .null := f8.other W14 (Or.inr (slot_ne (Or.inr (oW hw 33 rfl)) (Or.inr (oW hw 31 rfl)) (by decide) (t := (.array .byte)) (t' := .byte) (by decide) (by decide)))
  have f17 : Exa Z h14 a1 "java/lang/String" := f10.wr W14
  have f18 : Arv Z h14 a2 k2 .char (2 : Int32) [(.int c0), (.int c1)] (.int 0) := f11.other W14 (Ne.symm ne_a1_a2)
  have f19 : Arv Z h14 bx kx .byte (2 : Int32) [(.int (own_l c0)), (.int (own_l c1))] (.int 0) := Vn6.other W14 (Ne.symm ne_a1_bx)
  have Fw14 : Fld Z h14 a1 "java/lang/String" "coder" "B" (.int 0) := f9.same W14
  have R20 : ∀ t, oG p e below T14 m 54 #[oR a1, oR a2, oI 0, oI 2, .val .null, oR bx] [(.ref bx), (.ref a1)] t → Steps p.tables e below (s₁.setTop (entryFrame m #[(.ref a1), (.ref a2), (.int 0), (.int 2), .null] 6)) t := by
    intro t k
    refine R14 t ?_
    refine XS.aloadN X14.here hx rfl (hb hby own_d3_51) rfl rfl ?_
    refine XS.aload X14.here hx rfl (hb hby own_d3_52) rfl rfl ?_
    exact k
  obtain ⟨T21, h21, X21, e21, W21, st21⟩ := putF X14 hx hZ hown (host := "") (Or.inl (oW hw 32 rfl)) Via.refl e14 f16 f17 (Or.inr ⟨(oW hw 33 rfl), rfl, hnm⟩) (oW hw 5 rfl) (ty := (.array .byte)) (by decide) rfl rfl (g := (mkF m 54 #[oR a1, oR a2, oI 0, oI 2, .val .null, oR bx] [(.ref bx), (.ref a1)])) rfl rfl (hb hby own_d3_54)
  have R21 : ∀ t, oG p e below T21 m 57 #[oR a1, oR a2, oI 0, oI 2, .val .null, oR bx] [] t → Steps p.tables e below (s₁.setTop (entryFrame m #[(.ref a1), (.ref a2), (.int 0), (.int 2), .null] 6)) t := fun t k => R20 t (st21 t k)
  have Z21 : n0 ≤ h21.size := Nat.le_trans Z14 (Keep.of_wr W21).1
  have K21 : Keep h0 h21 [a1] := K14.wr W21 (Or.inl (by simp))
  have N21 := Fr.snoc X21 N14 g_a1
  have f22 : Old Z n0 h21 := f15.wr W21 g_a1
  have f23 : Exa Z h21 a1 "java/lang/String" := f17.wr W21
  have f24 : Arv Z h21 a2 k2 .char (2 : Int32) [(.int c0), (.int c1)] (.int 0) := f18.other W21 (Ne.symm ne_a1_a2)
  have f25 : Arv Z h21 bx kx .byte (2 : Int32) [(.int (own_l c0)), (.int (own_l c1))] (.int 0) := f19.other W21 (Ne.symm ne_a1_bx)
  have f26 : Fld Z h21 a1 "java/lang/String" "coder" "B" (.int 0) := Fw14.other W21 (Or.inr (slot_ne (Or.inr (oW hw 31 rfl)) (Or.inr (oW hw 33 rfl)) (by decide) (t := .byte) (t' := (.array .byte)) (by decide) (by decide)))
  have Fw21 : Fld Z h21 a1 "java/lang/String" "value" "[B" (.ref bx) := f16.same W21
  obtain ⟨fs, hr, hrun, hended, hW, hsame⟩ := X21.leave (v := none) (fun _ => rfl)
  refine ⟨_, _, R21 _ ?_, hrun, hended, _, _, rfl, ?_, ⟨_, rfl⟩, hW, hsame.mono (by decide) (by decide)⟩
  · exact X21.returnOut hx Bd.returns (hb hby own_d3_57) hr
  · show Q_rmI4_22 Z a1 a2 k2 cz fm c0 c1 h0 n0 _ T21.heap _
    rw [e21]
    exact ⟨rfl, N21, K21, bx, kx, f23, Fw21, Or.inr (Or.inr (Or.inr (Or.inl ⟨rfl, f26, f25, t0, t1⟩)))⟩
theorem own_ef_rmI1_22 (m : MethodId) (x0 : Addr) (x1 : Addr) : entryFrame m #[(.ref x0), (.ref x1)] 2 = mkF m 0 #[oR x0, oR x1] [] := by first | (simp [entryFrame, mkF, argsToLocals, Value.category]; done) | rfl
def Q_rmI1_22 (Z : State) (a1 a2 : Addr) (k2 : ClassId) (cz : Int32) (fm : Value) (c0 c1 : Int32) (h0 : Heap) (n0 : Nat) (v : Option Value) (h : Heap) (L : List Loc) : Prop := v = none ∧ Fr n0 L ∧ Keep h0 h [a1] ∧ own_Str Z h a1 (2 : Int32) c0 c1
set_option maxRecDepth 65536 in
set_option maxHeartbeats 40000000 in
theorem rmI1_22 (l : Launch) (Z : State) (a0 : Array Value) (hw : oT a0 Z) (ws : List Jvm.Cond) (a1 a2 : Addr) (k2 : ClassId) (cz : Int32) (fm : Value) (c0 c1 : Int32) (h0 : Heap) (n0 : Nat) (Z0 : n0 ≤ h0.size) (SU : own_St Z cz fm) (OX : Old Z n0 h0) (F1 : Fld Z h0 a1 "java/lang/String" "value" "[B" .null) (C1 : Fld Z h0 a1 "java/lang/String" "coder" "B" (.int 0)) (E1 : Exa Z h0 a1 "java/lang/String") (g_a1 : n0 ≤ a1) (Va2 : Arv Z h0 a2 k2 .char (2 : Int32) [(.int c0), (.int c1)] (.int 0)) (ne_a1_a2 : a1 ≠ a2) (t0 : ¬ (255 : Int32) < c0) (t1 : ¬ (255 : Int32) < c1) (r0 : own_R c0) (r1 : own_R c1) :
    oK l Z (⟨"java/lang/String", "<init>", "([C)V"⟩ : MethodName) jdk_42_method_3_code 2 none ws (oM 3 1 2 52) #[(.ref a1), (.ref a2)] h0 (Q_rmI1_22 Z a1 a2 k2 cz fm c0 c1 h0 n0) := by
  refine MetFree.of_bodySF (plainFor_of_name own_pn3) hisR ?_
  intro p e s m args below meth c s₁ Bd hml0 hP hK
  obtain ⟨rfl, hZ, hh⟩ := hP
  have hx := Bd.exec
  have hby := Bd.bytes
  have hml : c.maxLocals = 2 := hml0
  have hown : s.vm.findClass "java/lang/String" = some m.cls := findClass_of_methodNamed Bd.named
  have hnm := (name_of_methodNamed Bd.named Bd.method).1
  have X0 : Stand p l e (oM 3 1 2 52) s m #[(.ref a1), (.ref a2)] below meth c s₁ [] 0 0 := Stand.of_body Bd
  have e0 : s₁.heap = h0 := by rw [← hh, Bd.state]; rfl
  have N0 := Fr.nil n0
  have R0 : ∀ t, oG p e below s₁ m 0 #[oR a1, oR a2] [] t → Steps p.tables e below (s₁.setTop (entryFrame m #[(.ref a1), (.ref a2)] 2)) t := fun t k => castTop (own_ef_rmI1_22 m a1 a2) k
  have R1 : ∀ t, oG p e below s₁ m 4 #[oR a1, oR a2] [(.ref a2), (.int 0), (.ref a2), (.ref a1)] t → Steps p.tables e below (s₁.setTop (entryFrame m #[(.ref a1), (.ref a2)] 2)) t := by
    intro t k
    refine R0 t ?_
    refine XS.aloadN X0.here hx rfl (hb hby own_d2_0) rfl rfl ?_
    refine XS.aloadN X0.here hx rfl (hb hby own_d2_1) rfl rfl ?_
    refine XS.iconst X0.here hx rfl (hb hby own_d2_2) ?_
    show oG p e below s₁ m 3 #[oR a1, oR a2] [(.int 0), (.ref a2), (.ref a1)] _
    refine XS.aloadN X0.here hx rfl (hb hby own_d2_3) rfl rfl ?_
    exact k
  obtain ⟨cl2, Ar2, q2, S2, N2', H2, G2⟩ := id Va2
  have R3 : ∀ t, oG p e below s₁ m 6 #[oR a1, oR a2] [.null, (.int 2), (.int 0), (.ref a2), (.ref a1)] t → Steps p.tables e below (s₁.setTop (entryFrame m #[(.ref a1), (.ref a2)] 2)) t := by
    intro t k
    refine R1 t ?_
    refine X0.arraylength hx (by rw [e0]; exact Ar2.1) (State.isArrayOf_alike hZ.alike Ar2.2.1) (g := (mkF m 4 #[oR a1, oR a2] [(.ref a2), (.int 0), (.ref a2), (.ref a1)])) rfl rfl (hb hby own_d2_4) _ ?_
    rw [len_of S2 N2']
    refine XS.aconstNull X0.here hx rfl (hb hby own_d2_5) ?_
    exact k
  obtain ⟨_, _, ⟨T4, L4, k4, n4⟩, -, X4, ⟨Lc4, hQ4, l4, y4, z4⟩, st4⟩ := X0.specialBack hx (y := (⟨"java/lang/String", "<init>", "([CIILjava/lang/Void;)V"⟩ : MethodName)) rfl hown (mvT hZ (oW hw 11 rfl)) (mvT hZ (oW hw 12 rfl)) (mvT hZ (oW hw 14 rfl)) (by decide) (backOf (W := 0) (rmI4_22 l Z a0 hw [] a1 a2 k2 cz fm c0 c1 h0 n0 Z0 SU OX F1 C1 E1 g_a1 Va2 ne_a1_a2 t0 t1 r0 r1) hZ (oW hw 14 rfl) (oW hw 6 rfl) (by decide) (by decide)) (g := (mkF m 6 #[oR a1, oR a2] [.null, (.int 2), (.int 0), (.ref a2), (.ref a1)])) rfl (by rw [hml]; rfl) (Steps.refl _) (a := a1) (argsL := [(.ref a2), (.int 0), (.int 2), .null]) (rest := []) (lenOf own_pd2 rfl) rfl (by show 2 * 0 + _ ≤ _; exact Nat.le_of_eq rfl) (hb hby own_d2_6) (fun _ _ => ⟨rfl, e0, (by decide : 0 + 1 ≤ _), (by decide : 0 + 2 ≤ _)⟩)
  dsimp only [Pt.U, Pt.locs, Pt.cells, Pt.slots] at X4 l4 y4 z4 st4 hQ4
  subst l4 y4 z4
  obtain ⟨rfl, Nq4, Kc4, Sn4⟩ := hQ4
  have N4 := Fr.app N0 Nq4
  have R4 : ∀ t, oG p e below T4 m 9 #[oR a1, oR a2] [] t → Steps p.tables e below (s₁.setTop (entryFrame m #[(.ref a1), (.ref a2)] 2)) t := fun t k => R3 t (st4.trans k)
  have Z4 : n0 ≤ T4.heap.size := Nat.le_trans Z0 Kc4.1
  have K4 : Keep h0 T4.heap [a1] := (Keep.refl h0 [a1]).trans Kc4 (allS (Or.inl (by simp)) all0)
  have f5 : Old Z n0 T4.heap := OX.keep Kc4 (allS g_a1 all0)
  have f6 : Exa Z T4.heap a1 "java/lang/String" := E1.keep Kc4
  obtain ⟨fs, hr, hrun, hended, hW, hsame⟩ := X4.leave (v := none) (fun _ => rfl)
  refine ⟨_, _, R4 _ ?_, hrun, hended, _, _, rfl, ?_, ⟨_, rfl⟩, hW, hsame.mono (by decide) (by decide)⟩
  · exact X4.returnOut hx Bd.returns (hb hby own_d2_9) hr
  · show Q_rmI1_22 Z a1 a2 k2 cz fm c0 c1 h0 n0 _ T4.heap _
    exact ⟨rfl, N4, K4, Sn4⟩
theorem own_ef_rmI4_21 (m : MethodId) (x0 : Addr) (x1 : Addr) (x2 : Int32) (x3 : Int32) : entryFrame m #[(.ref x0), (.ref x1), (.int x2), (.int x3), .null] 6 = mkF m 0 #[oR x0, oR x1, oI x2, oI x3, .val .null, .unset] [] := by first | (simp [entryFrame, mkF, argsToLocals, Value.category]; done) | rfl
def Q_rmI4_21 (Z : State) (a1 a2 : Addr) (k2 : ClassId) (cz : Int32) (fm : Value) (c0 c1 : Int32) (h0 : Heap) (n0 : Nat) (v : Option Value) (h : Heap) (L : List Loc) : Prop := v = none ∧ Fr n0 L ∧ Keep h0 h [a1] ∧ own_Str Z h a1 (2 : Int32) c0 c1
set_option maxRecDepth 65536 in
set_option maxHeartbeats 40000000 in
theorem rmI4_21 (l : Launch) (Z : State) (a0 : Array Value) (hw : oT a0 Z) (ws : List Jvm.Cond) (a1 a2 : Addr) (k2 : ClassId) (cz : Int32) (fm : Value) (c0 c1 : Int32) (h0 : Heap) (n0 : Nat) (Z0 : n0 ≤ h0.size) (SU : own_St Z cz fm) (OX : Old Z n0 h0) (F1 : Fld Z h0 a1 "java/lang/String" "value" "[B" .null) (C1 : Fld Z h0 a1 "java/lang/String" "coder" "B" (.int 0)) (E1 : Exa Z h0 a1 "java/lang/String") (g_a1 : n0 ≤ a1) (Va2 : Arv Z h0 a2 k2 .char (2 : Int32) [(.int c0), (.int c1)] (.int 0)) (ne_a1_a2 : a1 ≠ a2) (t0 : ¬ (255 : Int32) < c0) (u1 : (255 : Int32) < c1) (r0 : own_R c0) (r1 : own_R c1) :
    oK l Z (⟨"java/lang/String", "<init>", "([CIILjava/lang/Void;)V"⟩ : MethodName) jdk_42_method_149_code 6 none ws (oM 4 2 6 57) #[(.ref a1), (.ref a2), (.int 0), (.int 2), .null] h0 (Q_rmI4_21 Z a1 a2 k2 cz fm c0 c1 h0 n0) := by
  refine MetFree.of_bodySF (plainFor_of_name own_pn3) hisR ?_
  intro p e s m args below meth c s₁ Bd hml0 hP hK
  obtain ⟨rfl, hZ, hh⟩ := hP
  have hx := Bd.exec
  have hby := Bd.bytes
  have hml : c.maxLocals = 6 := hml0
  have hown : s.vm.findClass "java/lang/String" = some m.cls := findClass_of_methodNamed Bd.named
  have hnm := (name_of_methodNamed Bd.named Bd.method).1
  have X0 : Stand p l e (oM 4 2 6 57) s m #[(.ref a1), (.ref a2), (.int 0), (.int 2), .null] below meth c s₁ [] 0 0 := Stand.of_body Bd
  have e0 : s₁.heap = h0 := by rw [← hh, Bd.state]; rfl
  have N0 := Fr.nil n0
  have R0 : ∀ t, oG p e below s₁ m 0 #[oR a1, oR a2, oI 0, oI 2, .val .null, .unset] [] t → Steps p.tables e below (s₁.setTop (entryFrame m #[(.ref a1), (.ref a2), (.int 0), (.int 2), .null] 6)) t := fun t k => castTop (own_ef_rmI4_21 m a1 a2 (0 : Int32) (2 : Int32)) k
  have R1 : ∀ t, oG p e below s₁ m 1 #[oR a1, oR a2, oI 0, oI 2, .val .null, .unset] [(.ref a1)] t → Steps p.tables e below (s₁.setTop (entryFrame m #[(.ref a1), (.ref a2), (.int 0), (.int 2), .null] 6)) t := by
    intro t k
    refine R0 t ?_
    refine XS.aloadN X0.here hx rfl (hb hby own_d3_0) rfl rfl ?_
    exact k
  obtain ⟨T2, X2, e2, st2⟩ := initO X0 hx hZ hown (oW hw 15 rfl) (oW hw 16 rfl) (oW hw 17 rfl) e0 (g := (mkF m 1 #[oR a1, oR a2, oI 0, oI 2, .val .null, .unset] [(.ref a1)])) rfl (by rw [hml]; rfl) rfl (hb hby own_d3_1) (by decide) (W := 0) (by show 2 * 0 + _ ≤ _; exact Nat.le_of_eq rfl) (by decide)
  have R2 : ∀ t, oG p e below T2 m 4 #[oR a1, oR a2, oI 0, oI 2, .val .null, .unset] [] t → Steps p.tables e below (s₁.setTop (entryFrame m #[(.ref a1), (.ref a2), (.int 0), (.int 2), .null] 6)) t := fun t k => R1 t (st2 t k)
  have R3 : ∀ t, oG p e below T2 m 27 #[oR a1, oR a2, oI 0, oI 2, .val .null, .unset] [] t → Steps p.tables e below (s₁.setTop (entryFrame m #[(.ref a1), (.ref a2), (.int 0), (.int 2), .null] 6)) t := by
    intro t k
    refine R2 t ?_
    refine XS.iloadN X2.here hx rfl (hb hby own_d3_4) rfl ?_
    refine XS.ifYes X2.here hx rfl (pc0 := 5) (pc' := 27) rfl (hb hby own_d3_5) rfl ((if0 _ _).trans (feq (by decide : ¬ ((2 : Int32) = (0 : Int32)))).2) (by decide) (by decide) ?_
    exact k
  obtain ⟨T4, X4, e4, st4⟩ := getS2 X2 hx hZ hown (host := "") (Or.inl (oW hw 18 rfl)) Via.refl e2 (SU.1.ext OX.2) (g := (mkF m 27 #[oR a1, oR a2, oI 0, oI 2, .val .null, .unset] [])) rfl (hb hby own_d3_27)
  have R4 : ∀ t, oG p e below T4 m 30 #[oR a1, oR a2, oI 0, oI 2, .val .null, .unset] [(.int cz)] t → Steps p.tables e below (s₁.setTop (entryFrame m #[(.ref a1), (.ref a2), (.int 0), (.int 2), .null] 6)) t := fun t k => R3 t (st4 t k)
  have R5 : ∀ t, oG p e below T4 m 36 #[oR a1, oR a2, oI 0, oI 2, .val .null, .unset] [(.int 2), (.int 0), (.ref a2)] t → Steps p.tables e below (s₁.setTop (entryFrame m #[(.ref a1), (.ref a2), (.int 0), (.int 2), .null] 6)) t := by
    intro t k
    refine R4 t ?_
    refine XS.ifNo X4.here hx rfl (hb hby own_d3_30) rfl ((if0 _ _).trans (feq SU.2.1).1) ?_
    refine XS.aloadN X4.here hx rfl (hb hby own_d3_33) rfl rfl ?_
    refine XS.iloadN X4.here hx rfl (hb hby own_d3_34) rfl ?_
    show oG p e below T4 m 35 #[oR a1, oR a2, oI 0, oI 2, .val .null, .unset] [(.int 0), (.ref a2)] _
    refine XS.iloadN X4.here hx rfl (hb hby own_d3_35) rfl ?_
    exact k
  obtain ⟨_, _, ⟨T6, L6, k6, n6⟩, -, X6, ⟨Lc6, hQ6, l6, y6, z6⟩, st6⟩ := Jvm.LawKit.callS X4 hx (y := (⟨"java/lang/StringUTF16", "compress", "([CII)[B"⟩ : MethodName)) hown (mvT hZ (oW hw 19 rfl)) (mvT hZ (oW hw 20 rfl)) (mvT hZ (oW hw 21 rfl)) (mvT hZ (oW hw 22 rfl)) (by decide) (backOf (W := 0) (rmC3_21 l Z a0 hw [] a2 k2 cz fm c0 c1 h0 n0 Z0 SU OX Va2 t0 u1 r0 r1) hZ (oW hw 22 rfl) (oW hw 21 rfl) (by decide) (by decide)) (g := (mkF m 36 #[oR a1, oR a2, oI 0, oI 2, .val .null, .unset] [(.int 2), (.int 0), (.ref a2)])) rfl (by rw [hml]; rfl) (argsL := [(.ref a2), (.int 0), (.int 2)]) (rest := []) (lenOf own_pd4 rfl) rfl (by show 2 * 0 + _ ≤ _; exact Nat.le_of_eq rfl) (hb hby own_d3_36) (fun _ _ => ⟨rfl, e4, (by decide : 0 + 2 ≤ _), (by decide : 0 + 6 ≤ _)⟩)
  dsimp only [Pt.U, Pt.locs, Pt.cells, Pt.slots] at X6 l6 y6 z6 st6 hQ6
  subst l6 y6 z6
  obtain ⟨bx, kx, rfl, Nq6, Kc6, sb6, Vn6⟩ := hQ6
  have N6 := Fr.app N0 Nq6
  have R6 : ∀ t, oG p e below T6 m 39 #[oR a1, oR a2, oI 0, oI 2, .val .null, .unset] [(.ref bx)] t → Steps p.tables e below (s₁.setTop (entryFrame m #[(.ref a1), (.ref a2), (.int 0), (.int 2), .null] 6)) t := fun t k => R5 t (st6 t k)
  have ne_a1_bx : a1 ≠ bx := Nat.ne_of_lt (Nat.lt_of_lt_of_le F1.lt sb6)
  have ne_a2_bx : a2 ≠ bx := Nat.ne_of_lt (Nat.lt_of_lt_of_le Va2.lt sb6)
  have g_bx : n0 ≤ bx := Nat.le_trans Z0 sb6
  have sz_bx : h0.size ≤ bx := Nat.le_trans (Keep.refl h0 [a1]).1 sb6
  have Z6 : n0 ≤ T6.heap.size := Nat.le_trans Z0 Kc6.1
  have K6 : Keep h0 T6.heap [a1] := (Keep.refl h0 [a1]).trans Kc6 all0
  have f7 : Old Z n0 T6.heap := OX.keep Kc6 all0
  have f8 : Fld Z T6.heap a1 "java/lang/String" "value" "[B" .null := F1.keep Kc6 nin0
  have f9 : Fld Z T6.heap a1 "java/lang/String" "coder" "B" (.int 0) := C1.keep Kc6 nin0
  have f10 : Exa Z T6.heap a1 "java/lang/String" := E1.keep Kc6
  have f11 : Arv Z T6.heap a2 k2 .char (2 : Int32) [(.int c0), (.int c1)] (.int 0) := Va2.keep Kc6 nin0
  have R12 : ∀ t, oG p e below T6 m 45 #[oR a1, oR a2, oI 0, oI 2, .val .null, oR bx] [(.int 2), (.ref bx), (.ref a1)] t → Steps p.tables e below (s₁.setTop (entryFrame m #[(.ref a1), (.ref a2), (.int 0), (.int 2), .null] 6)) t := by
    intro t k
    refine R6 t ?_
    refine XS.astore X6.here hx rfl (hb hby own_d3_39) rfl rfl (l' := #[oR a1, oR a2, oI 0, oI 2, .val .null, oR bx]) rfl ?_
    refine XS.aloadN X6.here hx rfl (hb hby own_d3_41) rfl rfl ?_
    refine XS.aload X6.here hx rfl (hb hby own_d3_42) rfl rfl ?_
    show oG p e below T6 m 44 #[oR a1, oR a2, oI 0, oI 2, .val .null, oR bx] [(.ref bx), (.ref a1)] _
    refine XS.iloadN X6.here hx rfl (hb hby own_d3_44) rfl ?_
    exact k
  obtain ⟨_, _, ⟨T13, L13, k13, n13⟩, -, X13, ⟨Lc13, hQ13, l13, y13, z13⟩, st13⟩ := Jvm.LawKit.callS X6 hx (y := (⟨"java/lang/StringUTF16", "coderFromArrayLen", "([BI)B"⟩ : MethodName)) hown (mvT hZ (oW hw 27 rfl)) (mvT hZ (oW hw 28 rfl)) (mvT hZ (oW hw 21 rfl)) (mvT hZ (oW hw 29 rfl)) (by decide) (backOf (W := 1) (rmCF24 l Z a0 hw [] bx kx [(.int (own_b0 c0)), (.int (own_b1 c0)), (.int (own_b0 c1)), (.int (own_b1 c1))] T6.heap n0 Z6 Vn6) hZ (oW hw 29 rfl) (oW hw 21 rfl) (by decide) (by decide)) (g := (mkF m 45 #[oR a1, oR a2, oI 0, oI 2, .val .null, oR bx] [(.int 2), (.ref bx), (.ref a1)])) rfl (by rw [hml]; rfl) (argsL := [(.ref bx), (.int 2)]) (rest := [(.ref a1)]) (lenOf own_pd6 rfl) rfl (by show 2 * 0 + _ ≤ _; exact Nat.le_of_eq rfl) (hb hby own_d3_45) (fun _ _ => ⟨rfl, rfl, (by decide : 2 + 0 ≤ _), (by decide : 6 + 0 ≤ _)⟩)
  dsimp only [Pt.U, Pt.locs, Pt.cells, Pt.slots] at X13 l13 y13 z13 st13 hQ13
  subst l13 y13 z13
  obtain ⟨rfl, Nq13, eq13⟩ := hQ13
  have N13 := Fr.app N6 Nq13
  have R13 : ∀ t, oG p e below T13 m 48 #[oR a1, oR a2, oI 0, oI 2, .val .null, oR bx] [(.int 1), (.ref a1)] t → Steps p.tables e below (s₁.setTop (entryFrame m #[(.ref a1), (.ref a2), (.int 0), (.int 2), .null] 6)) t := fun t k => R12 t (st13 t k)
  obtain ⟨T14, h14, X14, e14, W14, st14⟩ := putFN X13 hx hZ hown (oW hw 30 rfl) Via.refl eq13 f9 f10 (Or.inr ⟨(oW hw 31 rfl), rfl, hnm⟩) (oW hw 5 rfl) (ty := .byte) (v' := (.int 1)) (by decide) rfl rfl (g := (mkF m 48 #[oR a1, oR a2, oI 0, oI 2, .val .null, oR bx] [(.int 1), (.ref a1)])) rfl rfl (hb hby own_d3_48)
  have R14 : ∀ t, oG p e below T14 m 51 #[oR a1, oR a2, oI 0, oI 2, .val .null, oR bx] [] t → Steps p.tables e below (s₁.setTop (entryFrame m #[(.ref a1), (.ref a2), (.int 0), (.int 2), .null] 6)) t := fun t k => R13 t (st14 t k)
  have Z14 : n0 ≤ h14.size := Nat.le_trans Z6 (Keep.of_wr W14).1
  have K14 : Keep h0 h14 [a1] := K6.wr W14 (Or.inl (by simp))
  have N14 := Fr.snoc X14 N13 g_a1
  have f15 : Old Z n0 h14 := f7.wr W14 g_a1
  have f16 : Fld Z h14 a1 "java/lang/String" "value" "[B" .null := f8.other W14 (Or.inr (slot_ne (Or.inr (oW hw 33 rfl)) (Or.inr (oW hw 31 rfl)) (by decide) (t := (.array .byte)) (t' := .byte) (by decide) (by decide)))
  have f17 : Exa Z h14 a1 "java/lang/String" := f10.wr W14
  have f18 : Arv Z h14 a2 k2 .char (2 : Int32) [(.int c0), (.int c1)] (.int 0) := f11.other W14 (Ne.symm ne_a1_a2)
  have f19 : Arv Z h14 bx kx .byte (4 : Int32) [(.int (own_b0 c0)), (.int (own_b1 c0)), (.int (own_b0 c1)), (.int (own_b1 c1))] (.int 0) := Vn6.other W14 (Ne.symm ne_a1_bx)
  have Fw14 : Fld Z h14 a1 "java/lang/String" "coder" "B" (.int 1) := f9.same W14
  have R20 : ∀ t, oG p e below T14 m 54 #[oR a1, oR a2, oI 0, oI 2, .val .null, oR bx] [(.ref bx), (.ref a1)] t → Steps p.tables e below (s₁.setTop (entryFrame m #[(.ref a1), (.ref a2), (.int 0), (.int 2), .null] 6)) t := by
    intro t k
    refine R14 t ?_
    refine XS.aloadN X14.here hx rfl (hb hby own_d3_51) rfl rfl ?_
    refine XS.aload X14.here hx rfl (hb hby own_d3_52) rfl rfl ?_
    exact k
  obtain ⟨T21, h21, X21, e21, W21, st21⟩ := putF X14 hx hZ hown (host := "") (Or.inl (oW hw 32 rfl)) Via.refl e14 f16 f17 (Or.inr ⟨(oW hw 33 rfl), rfl, hnm⟩) (oW hw 5 rfl) (ty := (.array .byte)) (by decide) rfl rfl (g := (mkF m 54 #[oR a1, oR a2, oI 0, oI 2, .val .null, oR bx] [(.ref bx), (.ref a1)])) rfl rfl (hb hby own_d3_54)
  have R21 : ∀ t, oG p e below T21 m 57 #[oR a1, oR a2, oI 0, oI 2, .val .null, oR bx] [] t → Steps p.tables e below (s₁.setTop (entryFrame m #[(.ref a1), (.ref a2), (.int 0), (.int 2), .null] 6)) t := fun t k => R20 t (st21 t k)
  have Z21 : n0 ≤ h21.size := Nat.le_trans Z14 (Keep.of_wr W21).1
  have K21 : Keep h0 h21 [a1] := K14.wr W21 (Or.inl (by simp))
  have N21 := Fr.snoc X21 N14 g_a1
  have f22 : Old Z n0 h21 := f15.wr W21 g_a1
  have f23 : Exa Z h21 a1 "java/lang/String" := f17.wr W21
  have f24 : Arv Z h21 a2 k2 .char (2 : Int32) [(.int c0), (.int c1)] (.int 0) := f18.other W21 (Ne.symm ne_a1_a2)
  have f25 : Arv Z h21 bx kx .byte (4 : Int32) [(.int (own_b0 c0)), (.int (own_b1 c0)), (.int (own_b0 c1)), (.int (own_b1 c1))] (.int 0) := f19.other W21 (Ne.symm ne_a1_bx)
  have f26 : Fld Z h21 a1 "java/lang/String" "coder" "B" (.int 1) := Fw14.other W21 (Or.inr (slot_ne (Or.inr (oW hw 31 rfl)) (Or.inr (oW hw 33 rfl)) (by decide) (t := .byte) (t' := (.array .byte)) (by decide) (by decide)))
  have Fw21 : Fld Z h21 a1 "java/lang/String" "value" "[B" (.ref bx) := f16.same W21
  obtain ⟨fs, hr, hrun, hended, hW, hsame⟩ := X21.leave (v := none) (fun _ => rfl)
  refine ⟨_, _, R21 _ ?_, hrun, hended, _, _, rfl, ?_, ⟨_, rfl⟩, hW, hsame.mono (by decide) (by decide)⟩
  · exact X21.returnOut hx Bd.returns (hb hby own_d3_57) hr
  · show Q_rmI4_21 Z a1 a2 k2 cz fm c0 c1 h0 n0 _ T21.heap _
    rw [e21]
    exact ⟨rfl, N21, K21, bx, kx, f23, Fw21, Or.inr (Or.inr (Or.inr (Or.inr ⟨rfl, f26, f25⟩)))⟩
theorem own_ef_rmI1_21 (m : MethodId) (x0 : Addr) (x1 : Addr) : entryFrame m #[(.ref x0), (.ref x1)] 2 = mkF m 0 #[oR x0, oR x1] [] := by first | (simp [entryFrame, mkF, argsToLocals, Value.category]; done) | rfl
def Q_rmI1_21 (Z : State) (a1 a2 : Addr) (k2 : ClassId) (cz : Int32) (fm : Value) (c0 c1 : Int32) (h0 : Heap) (n0 : Nat) (v : Option Value) (h : Heap) (L : List Loc) : Prop := v = none ∧ Fr n0 L ∧ Keep h0 h [a1] ∧ own_Str Z h a1 (2 : Int32) c0 c1
set_option maxRecDepth 65536 in
set_option maxHeartbeats 40000000 in
theorem rmI1_21 (l : Launch) (Z : State) (a0 : Array Value) (hw : oT a0 Z) (ws : List Jvm.Cond) (a1 a2 : Addr) (k2 : ClassId) (cz : Int32) (fm : Value) (c0 c1 : Int32) (h0 : Heap) (n0 : Nat) (Z0 : n0 ≤ h0.size) (SU : own_St Z cz fm) (OX : Old Z n0 h0) (F1 : Fld Z h0 a1 "java/lang/String" "value" "[B" .null) (C1 : Fld Z h0 a1 "java/lang/String" "coder" "B" (.int 0)) (E1 : Exa Z h0 a1 "java/lang/String") (g_a1 : n0 ≤ a1) (Va2 : Arv Z h0 a2 k2 .char (2 : Int32) [(.int c0), (.int c1)] (.int 0)) (ne_a1_a2 : a1 ≠ a2) (t0 : ¬ (255 : Int32) < c0) (u1 : (255 : Int32) < c1) (r0 : own_R c0) (r1 : own_R c1) :
    oK l Z (⟨"java/lang/String", "<init>", "([C)V"⟩ : MethodName) jdk_42_method_3_code 2 none ws (oM 5 2 6 74) #[(.ref a1), (.ref a2)] h0 (Q_rmI1_21 Z a1 a2 k2 cz fm c0 c1 h0 n0) := by
  refine MetFree.of_bodySF (plainFor_of_name own_pn3) hisR ?_
  intro p e s m args below meth c s₁ Bd hml0 hP hK
  obtain ⟨rfl, hZ, hh⟩ := hP
  have hx := Bd.exec
  have hby := Bd.bytes
  have hml : c.maxLocals = 2 := hml0
  have hown : s.vm.findClass "java/lang/String" = some m.cls := findClass_of_methodNamed Bd.named
  have hnm := (name_of_methodNamed Bd.named Bd.method).1
  have X0 : Stand p l e (oM 5 2 6 74) s m #[(.ref a1), (.ref a2)] below meth c s₁ [] 0 0 := Stand.of_body Bd
  have e0 : s₁.heap = h0 := by rw [← hh, Bd.state]; rfl
  have N0 := Fr.nil n0
  have R0 : ∀ t, oG p e below s₁ m 0 #[oR a1, oR a2] [] t → Steps p.tables e below (s₁.setTop (entryFrame m #[(.ref a1), (.ref a2)] 2)) t := fun t k => castTop (own_ef_rmI1_21 m a1 a2) k
  have R1 : ∀ t, oG p e below s₁ m 4 #[oR a1, oR a2] [(.ref a2), (.int 0), (.ref a2), (.ref a1)] t → Steps p.tables e below (s₁.setTop (entryFrame m #[(.ref a1), (.ref a2)] 2)) t := by
    intro t k
    refine R0 t ?_
    refine XS.aloadN X0.here hx rfl (hb hby own_d2_0) rfl rfl ?_
    refine XS.aloadN X0.here hx rfl (hb hby own_d2_1) rfl rfl ?_
    refine XS.iconst X0.here hx rfl (hb hby own_d2_2) ?_
    show oG p e below s₁ m 3 #[oR a1, oR a2] [(.int 0), (.ref a2), (.ref a1)] _
    refine XS.aloadN X0.here hx rfl (hb hby own_d2_3) rfl rfl ?_
    exact k
  obtain ⟨cl2, Ar2, q2, S2, N2', H2, G2⟩ := id Va2
  have R3 : ∀ t, oG p e below s₁ m 6 #[oR a1, oR a2] [.null, (.int 2), (.int 0), (.ref a2), (.ref a1)] t → Steps p.tables e below (s₁.setTop (entryFrame m #[(.ref a1), (.ref a2)] 2)) t := by
    intro t k
    refine R1 t ?_
    refine X0.arraylength hx (by rw [e0]; exact Ar2.1) (State.isArrayOf_alike hZ.alike Ar2.2.1) (g := (mkF m 4 #[oR a1, oR a2] [(.ref a2), (.int 0), (.ref a2), (.ref a1)])) rfl rfl (hb hby own_d2_4) _ ?_
    rw [len_of S2 N2']
    refine XS.aconstNull X0.here hx rfl (hb hby own_d2_5) ?_
    exact k
  obtain ⟨_, _, ⟨T4, L4, k4, n4⟩, -, X4, ⟨Lc4, hQ4, l4, y4, z4⟩, st4⟩ := X0.specialBack hx (y := (⟨"java/lang/String", "<init>", "([CIILjava/lang/Void;)V"⟩ : MethodName)) rfl hown (mvT hZ (oW hw 11 rfl)) (mvT hZ (oW hw 12 rfl)) (mvT hZ (oW hw 14 rfl)) (by decide) (backOf (W := 0) (rmI4_21 l Z a0 hw [] a1 a2 k2 cz fm c0 c1 h0 n0 Z0 SU OX F1 C1 E1 g_a1 Va2 ne_a1_a2 t0 u1 r0 r1) hZ (oW hw 14 rfl) (oW hw 6 rfl) (by decide) (by decide)) (g := (mkF m 6 #[oR a1, oR a2] [.null, (.int 2), (.int 0), (.ref a2), (.ref a1)])) rfl (by rw [hml]; rfl) (Steps.refl _) (a := a1) (argsL := [(.ref a2), (.int 0), (.int 2), .null]) (rest := []) (lenOf own_pd2 rfl) rfl (by show 2 * 0 + _ ≤ _; exact Nat.le_of_eq rfl) (hb hby own_d2_6) (fun _ _ => ⟨rfl, e0, (by decide : 0 + 2 ≤ _), (by decide : 0 + 6 ≤ _)⟩)
  dsimp only [Pt.U, Pt.locs, Pt.cells, Pt.slots] at X4 l4 y4 z4 st4 hQ4
  subst l4 y4 z4
  obtain ⟨rfl, Nq4, Kc4, Sn4⟩ := hQ4
  have N4 := Fr.app N0 Nq4
  have R4 : ∀ t, oG p e below T4 m 9 #[oR a1, oR a2] [] t → Steps p.tables e below (s₁.setTop (entryFrame m #[(.ref a1), (.ref a2)] 2)) t := fun t k => R3 t (st4.trans k)
  have Z4 : n0 ≤ T4.heap.size := Nat.le_trans Z0 Kc4.1
  have K4 : Keep h0 T4.heap [a1] := (Keep.refl h0 [a1]).trans Kc4 (allS (Or.inl (by simp)) all0)
  have f5 : Old Z n0 T4.heap := OX.keep Kc4 (allS g_a1 all0)
  have f6 : Exa Z T4.heap a1 "java/lang/String" := E1.keep Kc4
  obtain ⟨fs, hr, hrun, hended, hW, hsame⟩ := X4.leave (v := none) (fun _ => rfl)
  refine ⟨_, _, R4 _ ?_, hrun, hended, _, _, rfl, ?_, ⟨_, rfl⟩, hW, hsame.mono (by decide) (by decide)⟩
  · exact X4.returnOut hx Bd.returns (hb hby own_d2_9) hr
  · show Q_rmI1_21 Z a1 a2 k2 cz fm c0 c1 h0 n0 _ T4.heap _
    exact ⟨rfl, N4, K4, Sn4⟩
theorem own_ef_rmI4_20 (m : MethodId) (x0 : Addr) (x1 : Addr) (x2 : Int32) (x3 : Int32) : entryFrame m #[(.ref x0), (.ref x1), (.int x2), (.int x3), .null] 6 = mkF m 0 #[oR x0, oR x1, oI x2, oI x3, .val .null, .unset] [] := by first | (simp [entryFrame, mkF, argsToLocals, Value.category]; done) | rfl
def Q_rmI4_20 (Z : State) (a1 a2 : Addr) (k2 : ClassId) (cz : Int32) (fm : Value) (c0 c1 : Int32) (h0 : Heap) (n0 : Nat) (v : Option Value) (h : Heap) (L : List Loc) : Prop := v = none ∧ Fr n0 L ∧ Keep h0 h [a1] ∧ own_Str Z h a1 (2 : Int32) c0 c1
set_option maxRecDepth 65536 in
set_option maxHeartbeats 40000000 in
theorem rmI4_20 (l : Launch) (Z : State) (a0 : Array Value) (hw : oT a0 Z) (ws : List Jvm.Cond) (a1 a2 : Addr) (k2 : ClassId) (cz : Int32) (fm : Value) (c0 c1 : Int32) (h0 : Heap) (n0 : Nat) (Z0 : n0 ≤ h0.size) (SU : own_St Z cz fm) (OX : Old Z n0 h0) (F1 : Fld Z h0 a1 "java/lang/String" "value" "[B" .null) (C1 : Fld Z h0 a1 "java/lang/String" "coder" "B" (.int 0)) (E1 : Exa Z h0 a1 "java/lang/String") (g_a1 : n0 ≤ a1) (Va2 : Arv Z h0 a2 k2 .char (2 : Int32) [(.int c0), (.int c1)] (.int 0)) (ne_a1_a2 : a1 ≠ a2) (u0 : (255 : Int32) < c0) (r0 : own_R c0) (r1 : own_R c1) :
    oK l Z (⟨"java/lang/String", "<init>", "([CIILjava/lang/Void;)V"⟩ : MethodName) jdk_42_method_149_code 6 none ws (oM 4 2 6 57) #[(.ref a1), (.ref a2), (.int 0), (.int 2), .null] h0 (Q_rmI4_20 Z a1 a2 k2 cz fm c0 c1 h0 n0) := by
  refine MetFree.of_bodySF (plainFor_of_name own_pn3) hisR ?_
  intro p e s m args below meth c s₁ Bd hml0 hP hK
  obtain ⟨rfl, hZ, hh⟩ := hP
  have hx := Bd.exec
  have hby := Bd.bytes
  have hml : c.maxLocals = 6 := hml0
  have hown : s.vm.findClass "java/lang/String" = some m.cls := findClass_of_methodNamed Bd.named
  have hnm := (name_of_methodNamed Bd.named Bd.method).1
  have X0 : Stand p l e (oM 4 2 6 57) s m #[(.ref a1), (.ref a2), (.int 0), (.int 2), .null] below meth c s₁ [] 0 0 := Stand.of_body Bd
  have e0 : s₁.heap = h0 := by rw [← hh, Bd.state]; rfl
  have N0 := Fr.nil n0
  have R0 : ∀ t, oG p e below s₁ m 0 #[oR a1, oR a2, oI 0, oI 2, .val .null, .unset] [] t → Steps p.tables e below (s₁.setTop (entryFrame m #[(.ref a1), (.ref a2), (.int 0), (.int 2), .null] 6)) t := fun t k => castTop (own_ef_rmI4_20 m a1 a2 (0 : Int32) (2 : Int32)) k
  have R1 : ∀ t, oG p e below s₁ m 1 #[oR a1, oR a2, oI 0, oI 2, .val .null, .unset] [(.ref a1)] t → Steps p.tables e below (s₁.setTop (entryFrame m #[(.ref a1), (.ref a2), (.int 0), (.int 2), .null] 6)) t := by
    intro t k
    refine R0 t ?_
    refine XS.aloadN X0.here hx rfl (hb hby own_d3_0) rfl rfl ?_
    exact k
  obtain ⟨T2, X2, e2, st2⟩ := initO X0 hx hZ hown (oW hw 15 rfl) (oW hw 16 rfl) (oW hw 17 rfl) e0 (g := (mkF m 1 #[oR a1, oR a2, oI 0, oI 2, .val .null, .unset] [(.ref a1)])) rfl (by rw [hml]; rfl) rfl (hb hby own_d3_1) (by decide) (W := 0) (by show 2 * 0 + _ ≤ _; exact Nat.le_of_eq rfl) (by decide)
  have R2 : ∀ t, oG p e below T2 m 4 #[oR a1, oR a2, oI 0, oI 2, .val .null, .unset] [] t → Steps p.tables e below (s₁.setTop (entryFrame m #[(.ref a1), (.ref a2), (.int 0), (.int 2), .null] 6)) t := fun t k => R1 t (st2 t k)
  have R3 : ∀ t, oG p e below T2 m 27 #[oR a1, oR a2, oI 0, oI 2, .val .null, .unset] [] t → Steps p.tables e below (s₁.setTop (entryFrame m #[(.ref a1), (.ref a2), (.int 0), (.int 2), .null] 6)) t := by
    intro t k
    refine R2 t ?_
    refine XS.iloadN X2.here hx rfl (hb hby own_d3_4) rfl ?_
    refine XS.ifYes X2.here hx rfl (pc0 := 5) (pc' := 27) rfl (hb hby own_d3_5) rfl ((if0 _ _).trans (feq (by decide : ¬ ((2 : Int32) = (0 : Int32)))).2) (by decide) (by decide) ?_
    exact k
  obtain ⟨T4, X4, e4, st4⟩ := getS2 X2 hx hZ hown (host := "") (Or.inl (oW hw 18 rfl)) Via.refl e2 (SU.1.ext OX.2) (g := (mkF m 27 #[oR a1, oR a2, oI 0, oI 2, .val .null, .unset] [])) rfl (hb hby own_d3_27)
  have R4 : ∀ t, oG p e below T4 m 30 #[oR a1, oR a2, oI 0, oI 2, .val .null, .unset] [(.int cz)] t → Steps p.tables e below (s₁.setTop (entryFrame m #[(.ref a1), (.ref a2), (.int 0), (.int 2), .null] 6)) t := fun t k => R3 t (st4 t k)
  have R5 : ∀ t, oG p e below T4 m 36 #[oR a1, oR a2, oI 0, oI 2, .val .null, .unset] [(.int 2), (.int 0), (.ref a2)] t → Steps p.tables e below (s₁.setTop (entryFrame m #[(.ref a1), (.ref a2), (.int 0), (.int 2), .null] 6)) t := by
    intro t k
    refine R4 t ?_
    refine XS.ifNo X4.here hx rfl (hb hby own_d3_30) rfl ((if0 _ _).trans (feq SU.2.1).1) ?_
    refine XS.aloadN X4.here hx rfl (hb hby own_d3_33) rfl rfl ?_
    refine XS.iloadN X4.here hx rfl (hb hby own_d3_34) rfl ?_
    show oG p e below T4 m 35 #[oR a1, oR a2, oI 0, oI 2, .val .null, .unset] [(.int 0), (.ref a2)] _
    refine XS.iloadN X4.here hx rfl (hb hby own_d3_35) rfl ?_
    exact k
  obtain ⟨_, _, ⟨T6, L6, k6, n6⟩, -, X6, ⟨Lc6, hQ6, l6, y6, z6⟩, st6⟩ := Jvm.LawKit.callS X4 hx (y := (⟨"java/lang/StringUTF16", "compress", "([CII)[B"⟩ : MethodName)) hown (mvT hZ (oW hw 19 rfl)) (mvT hZ (oW hw 20 rfl)) (mvT hZ (oW hw 21 rfl)) (mvT hZ (oW hw 22 rfl)) (by decide) (backOf (W := 0) (rmC3_20 l Z a0 hw [] a2 k2 cz fm c0 c1 h0 n0 Z0 SU OX Va2 u0 r0 r1) hZ (oW hw 22 rfl) (oW hw 21 rfl) (by decide) (by decide)) (g := (mkF m 36 #[oR a1, oR a2, oI 0, oI 2, .val .null, .unset] [(.int 2), (.int 0), (.ref a2)])) rfl (by rw [hml]; rfl) (argsL := [(.ref a2), (.int 0), (.int 2)]) (rest := []) (lenOf own_pd4 rfl) rfl (by show 2 * 0 + _ ≤ _; exact Nat.le_of_eq rfl) (hb hby own_d3_36) (fun _ _ => ⟨rfl, e4, (by decide : 0 + 2 ≤ _), (by decide : 0 + 6 ≤ _)⟩)
  dsimp only [Pt.U, Pt.locs, Pt.cells, Pt.slots] at X6 l6 y6 z6 st6 hQ6
  subst l6 y6 z6
  obtain ⟨bx, kx, rfl, Nq6, Kc6, sb6, Vn6⟩ := hQ6
  have N6 := Fr.app N0 Nq6
  have R6 : ∀ t, oG p e below T6 m 39 #[oR a1, oR a2, oI 0, oI 2, .val .null, .unset] [(.ref bx)] t → Steps p.tables e below (s₁.setTop (entryFrame m #[(.ref a1), (.ref a2), (.int 0), (.int 2), .null] 6)) t := fun t k => R5 t (st6 t k)
  have ne_a1_bx : a1 ≠ bx := Nat.ne_of_lt (Nat.lt_of_lt_of_le F1.lt sb6)
  have ne_a2_bx : a2 ≠ bx := Nat.ne_of_lt (Nat.lt_of_lt_of_le Va2.lt sb6)
  have g_bx : n0 ≤ bx := Nat.le_trans Z0 sb6
  have sz_bx : h0.size ≤ bx := Nat.le_trans (Keep.refl h0 [a1]).1 sb6
  have Z6 : n0 ≤ T6.heap.size := Nat.le_trans Z0 Kc6.1
  have K6 : Keep h0 T6.heap [a1] := (Keep.refl h0 [a1]).trans Kc6 all0
  have f7 : Old Z n0 T6.heap := OX.keep Kc6 all0
  have f8 : Fld Z T6.heap a1 "java/lang/String" "value" "[B" .null := F1.keep Kc6 nin0
  have f9 : Fld Z T6.heap a1 "java/lang/String" "coder" "B" (.int 0) := C1.keep Kc6 nin0
  have f10 : Exa Z T6.heap a1 "java/lang/String" := E1.keep Kc6
  have f11 : Arv Z T6.heap a2 k2 .char (2 : Int32) [(.int c0), (.int c1)] (.int 0) := Va2.keep Kc6 nin0
  have R12 : ∀ t, oG p e below T6 m 45 #[oR a1, oR a2, oI 0, oI 2, .val .null, oR bx] [(.int 2), (.ref bx), (.ref a1)] t → Steps p.tables e below (s₁.setTop (entryFrame m #[(.ref a1), (.ref a2), (.int 0), (.int 2), .null] 6)) t := by
    intro t k
    refine R6 t ?_
    refine XS.astore X6.here hx rfl (hb hby own_d3_39) rfl rfl (l' := #[oR a1, oR a2, oI 0, oI 2, .val .null, oR bx]) rfl ?_
    refine XS.aloadN X6.here hx rfl (hb hby own_d3_41) rfl rfl ?_
    refine XS.aload X6.here hx rfl (hb hby own_d3_42) rfl rfl ?_
    show oG p e below T6 m 44 #[oR a1, oR a2, oI 0, oI 2, .val .null, oR bx] [(.ref bx), (.ref a1)] _
    refine XS.iloadN X6.here hx rfl (hb hby own_d3_44) rfl ?_
    exact k
  obtain ⟨_, _, ⟨T13, L13, k13, n13⟩, -, X13, ⟨Lc13, hQ13, l13, y13, z13⟩, st13⟩ := Jvm.LawKit.callS X6 hx (y := (⟨"java/lang/StringUTF16", "coderFromArrayLen", "([BI)B"⟩ : MethodName)) hown (mvT hZ (oW hw 27 rfl)) (mvT hZ (oW hw 28 rfl)) (mvT hZ (oW hw 21 rfl)) (mvT hZ (oW hw 29 rfl)) (by decide) (backOf (W := 1) (rmCF24 l Z a0 hw [] bx kx [(.int (own_b0 c0)), (.int (own_b1 c0)), (.int (own_b0 c1)), (.int (own_b1 c1))] T6.heap n0 Z6 Vn6) hZ (oW hw 29 rfl) (oW hw 21 rfl) (by decide) (by decide)) (g := (mkF m 45 #[oR a1, oR a2, oI 0, oI 2, .val .null, oR bx] [(.int 2), (.ref bx), (.ref a1)])) rfl (by rw [hml]; rfl) (argsL := [(.ref bx), (.int 2)]) (rest := [(.ref a1)]) (lenOf own_pd6 rfl) rfl (by show 2 * 0 + _ ≤ _; exact Nat.le_of_eq rfl) (hb hby own_d3_45) (fun _ _ => ⟨rfl, rfl, (by decide : 2 + 0 ≤ _), (by decide : 6 + 0 ≤ _)⟩)
  dsimp only [Pt.U, Pt.locs, Pt.cells, Pt.slots] at X13 l13 y13 z13 st13 hQ13
  subst l13 y13 z13
  obtain ⟨rfl, Nq13, eq13⟩ := hQ13
  have N13 := Fr.app N6 Nq13
  have R13 : ∀ t, oG p e below T13 m 48 #[oR a1, oR a2, oI 0, oI 2, .val .null, oR bx] [(.int 1), (.ref a1)] t → Steps p.tables e below (s₁.setTop (entryFrame m #[(.ref a1), (.ref a2), (.int 0), (.int 2), .null] 6)) t := fun t k => R12 t (st13 t k)
  obtain ⟨T14, h14, X14, e14, W14, st14⟩ := putFN X13 hx hZ hown (oW hw 30 rfl) Via.refl eq13 f9 f10 (Or.inr ⟨(oW hw 31 rfl), rfl, hnm⟩) (oW hw 5 rfl) (ty := .byte) (v' := (.int 1)) (by decide) rfl rfl (g := (mkF m 48 #[oR a1, oR a2, oI 0, oI 2, .val .null, oR bx] [(.int 1), (.ref a1)])) rfl rfl (hb hby own_d3_48)
  have R14 : ∀ t, oG p e below T14 m 51 #[oR a1, oR a2, oI 0, oI 2, .val .null, oR bx] [] t → Steps p.tables e below (s₁.setTop (entryFrame m #[(.ref a1), (.ref a2), (.int 0), (.int 2), .null] 6)) t := fun t k => R13 t (st14 t k)
  have Z14 : n0 ≤ h14.size := Nat.le_trans Z6 (Keep.of_wr W14).1
  have K14 : Keep h0 h14 [a1] := K6.wr W14 (Or.inl (by simp))
  have N14 := Fr.snoc X14 N13 g_a1
  have f15 : Old Z n0 h14 := f7.wr W14 g_a1
  have f16 : Fld Z h14 a1 "java/lang/String" "value" "[B" .null := f8.other W14 (Or.inr (slot_ne (Or.inr (oW hw 33 rfl)) (Or.inr (oW hw 31 rfl)) (by decide) (t := (.array .byte)) (t' := .byte) (by decide) (by decide)))
  have f17 : Exa Z h14 a1 "java/lang/String" := f10.wr W14
  have f18 : Arv Z h14 a2 k2 .char (2 : Int32) [(.int c0), (.int c1)] (.int 0) := f11.other W14 (Ne.symm ne_a1_a2)
  have f19 : Arv Z h14 bx kx .byte (4 : Int32) [(.int (own_b0 c0)), (.int (own_b1 c0)), (.int (own_b0 c1)), (.int (own_b1 c1))] (.int 0) := Vn6.other W14 (Ne.symm ne_a1_bx)
  have Fw14 : Fld Z h14 a1 "java/lang/String" "coder" "B" (.int 1) := f9.same W14
  have R20 : ∀ t, oG p e below T14 m 54 #[oR a1, oR a2, oI 0, oI 2, .val .null, oR bx] [(.ref bx), (.ref a1)] t → Steps p.tables e below (s₁.setTop (entryFrame m #[(.ref a1), (.ref a2), (.int 0), (.int 2), .null] 6)) t := by
    intro t k
    refine R14 t ?_
    refine XS.aloadN X14.here hx rfl (hb hby own_d3_51) rfl rfl ?_
    refine XS.aload X14.here hx rfl (hb hby own_d3_52) rfl rfl ?_
    exact k
  obtain ⟨T21, h21, X21, e21, W21, st21⟩ := putF X14 hx hZ hown (host := "") (Or.inl (oW hw 32 rfl)) Via.refl e14 f16 f17 (Or.inr ⟨(oW hw 33 rfl), rfl, hnm⟩) (oW hw 5 rfl) (ty := (.array .byte)) (by decide) rfl rfl (g := (mkF m 54 #[oR a1, oR a2, oI 0, oI 2, .val .null, oR bx] [(.ref bx), (.ref a1)])) rfl rfl (hb hby own_d3_54)
  have R21 : ∀ t, oG p e below T21 m 57 #[oR a1, oR a2, oI 0, oI 2, .val .null, oR bx] [] t → Steps p.tables e below (s₁.setTop (entryFrame m #[(.ref a1), (.ref a2), (.int 0), (.int 2), .null] 6)) t := fun t k => R20 t (st21 t k)
  have Z21 : n0 ≤ h21.size := Nat.le_trans Z14 (Keep.of_wr W21).1
  have K21 : Keep h0 h21 [a1] := K14.wr W21 (Or.inl (by simp))
  have N21 := Fr.snoc X21 N14 g_a1
  have f22 : Old Z n0 h21 := f15.wr W21 g_a1
  have f23 : Exa Z h21 a1 "java/lang/String" := f17.wr W21
  have f24 : Arv Z h21 a2 k2 .char (2 : Int32) [(.int c0), (.int c1)] (.int 0) := f18.other W21 (Ne.symm ne_a1_a2)
  have f25 : Arv Z h21 bx kx .byte (4 : Int32) [(.int (own_b0 c0)), (.int (own_b1 c0)), (.int (own_b0 c1)), (.int (own_b1 c1))] (.int 0) := f19.other W21 (Ne.symm ne_a1_bx)
  have f26 : Fld Z h21 a1 "java/lang/String" "coder" "B" (.int 1) := Fw14.other W21 (Or.inr (slot_ne (Or.inr (oW hw 31 rfl)) (Or.inr (oW hw 33 rfl)) (by decide) (t := .byte) (t' := (.array .byte)) (by decide) (by decide)))
  have Fw21 : Fld Z h21 a1 "java/lang/String" "value" "[B" (.ref bx) := f16.same W21
  obtain ⟨fs, hr, hrun, hended, hW, hsame⟩ := X21.leave (v := none) (fun _ => rfl)
  refine ⟨_, _, R21 _ ?_, hrun, hended, _, _, rfl, ?_, ⟨_, rfl⟩, hW, hsame.mono (by decide) (by decide)⟩
  · exact X21.returnOut hx Bd.returns (hb hby own_d3_57) hr
  · show Q_rmI4_20 Z a1 a2 k2 cz fm c0 c1 h0 n0 _ T21.heap _
    rw [e21]
    exact ⟨rfl, N21, K21, bx, kx, f23, Fw21, Or.inr (Or.inr (Or.inr (Or.inr ⟨rfl, f26, f25⟩)))⟩
theorem own_ef_rmI1_20 (m : MethodId) (x0 : Addr) (x1 : Addr) : entryFrame m #[(.ref x0), (.ref x1)] 2 = mkF m 0 #[oR x0, oR x1] [] := by first | (simp [entryFrame, mkF, argsToLocals, Value.category]; done) | rfl
def Q_rmI1_20 (Z : State) (a1 a2 : Addr) (k2 : ClassId) (cz : Int32) (fm : Value) (c0 c1 : Int32) (h0 : Heap) (n0 : Nat) (v : Option Value) (h : Heap) (L : List Loc) : Prop := v = none ∧ Fr n0 L ∧ Keep h0 h [a1] ∧ own_Str Z h a1 (2 : Int32) c0 c1
set_option maxRecDepth 65536 in
set_option maxHeartbeats 40000000 in
theorem rmI1_20 (l : Launch) (Z : State) (a0 : Array Value) (hw : oT a0 Z) (ws : List Jvm.Cond) (a1 a2 : Addr) (k2 : ClassId) (cz : Int32) (fm : Value) (c0 c1 : Int32) (h0 : Heap) (n0 : Nat) (Z0 : n0 ≤ h0.size) (SU : own_St Z cz fm) (OX : Old Z n0 h0) (F1 : Fld Z h0 a1 "java/lang/String" "value" "[B" .null) (C1 : Fld Z h0 a1 "java/lang/String" "coder" "B" (.int 0)) (E1 : Exa Z h0 a1 "java/lang/String") (g_a1 : n0 ≤ a1) (Va2 : Arv Z h0 a2 k2 .char (2 : Int32) [(.int c0), (.int c1)] (.int 0)) (ne_a1_a2 : a1 ≠ a2) (u0 : (255 : Int32) < c0) (r0 : own_R c0) (r1 : own_R c1) :
    oK l Z (⟨"java/lang/String", "<init>", "([C)V"⟩ : MethodName) jdk_42_method_3_code 2 none ws (oM 5 2 6 74) #[(.ref a1), (.ref a2)] h0 (Q_rmI1_20 Z a1 a2 k2 cz fm c0 c1 h0 n0) := by
  refine MetFree.of_bodySF (plainFor_of_name own_pn3) hisR ?_
  intro p e s m args below meth c s₁ Bd hml0 hP hK
  obtain ⟨rfl, hZ, hh⟩ := hP
  have hx := Bd.exec
  have hby := Bd.bytes
  have hml : c.maxLocals = 2 := hml0
  have hown : s.vm.findClass "java/lang/String" = some m.cls := findClass_of_methodNamed Bd.named
  have hnm := (name_of_methodNamed Bd.named Bd.method).1
  have X0 : Stand p l e (oM 5 2 6 74) s m #[(.ref a1), (.ref a2)] below meth c s₁ [] 0 0 := Stand.of_body Bd
  have e0 : s₁.heap = h0 := by rw [← hh, Bd.state]; rfl
  have N0 := Fr.nil n0
  have R0 : ∀ t, oG p e below s₁ m 0 #[oR a1, oR a2] [] t → Steps p.tables e below (s₁.setTop (entryFrame m #[(.ref a1), (.ref a2)] 2)) t := fun t k => castTop (own_ef_rmI1_20 m a1 a2) k
  have R1 : ∀ t, oG p e below s₁ m 4 #[oR a1, oR a2] [(.ref a2), (.int 0), (.ref a2), (.ref a1)] t → Steps p.tables e below (s₁.setTop (entryFrame m #[(.ref a1), (.ref a2)] 2)) t := by
    intro t k
    refine R0 t ?_
    refine XS.aloadN X0.here hx rfl (hb hby own_d2_0) rfl rfl ?_
    refine XS.aloadN X0.here hx rfl (hb hby own_d2_1) rfl rfl ?_
    refine XS.iconst X0.here hx rfl (hb hby own_d2_2) ?_
    show oG p e below s₁ m 3 #[oR a1, oR a2] [(.int 0), (.ref a2), (.ref a1)] _
    refine XS.aloadN X0.here hx rfl (hb hby own_d2_3) rfl rfl ?_
    exact k
  obtain ⟨cl2, Ar2, q2, S2, N2', H2, G2⟩ := id Va2
  have R3 : ∀ t, oG p e below s₁ m 6 #[oR a1, oR a2] [.null, (.int 2), (.int 0), (.ref a2), (.ref a1)] t → Steps p.tables e below (s₁.setTop (entryFrame m #[(.ref a1), (.ref a2)] 2)) t := by
    intro t k
    refine R1 t ?_
    refine X0.arraylength hx (by rw [e0]; exact Ar2.1) (State.isArrayOf_alike hZ.alike Ar2.2.1) (g := (mkF m 4 #[oR a1, oR a2] [(.ref a2), (.int 0), (.ref a2), (.ref a1)])) rfl rfl (hb hby own_d2_4) _ ?_
    rw [len_of S2 N2']
    refine XS.aconstNull X0.here hx rfl (hb hby own_d2_5) ?_
    exact k
  obtain ⟨_, _, ⟨T4, L4, k4, n4⟩, -, X4, ⟨Lc4, hQ4, l4, y4, z4⟩, st4⟩ := X0.specialBack hx (y := (⟨"java/lang/String", "<init>", "([CIILjava/lang/Void;)V"⟩ : MethodName)) rfl hown (mvT hZ (oW hw 11 rfl)) (mvT hZ (oW hw 12 rfl)) (mvT hZ (oW hw 14 rfl)) (by decide) (backOf (W := 0) (rmI4_20 l Z a0 hw [] a1 a2 k2 cz fm c0 c1 h0 n0 Z0 SU OX F1 C1 E1 g_a1 Va2 ne_a1_a2 u0 r0 r1) hZ (oW hw 14 rfl) (oW hw 6 rfl) (by decide) (by decide)) (g := (mkF m 6 #[oR a1, oR a2] [.null, (.int 2), (.int 0), (.ref a2), (.ref a1)])) rfl (by rw [hml]; rfl) (Steps.refl _) (a := a1) (argsL := [(.ref a2), (.int 0), (.int 2), .null]) (rest := []) (lenOf own_pd2 rfl) rfl (by show 2 * 0 + _ ≤ _; exact Nat.le_of_eq rfl) (hb hby own_d2_6) (fun _ _ => ⟨rfl, e0, (by decide : 0 + 2 ≤ _), (by decide : 0 + 6 ≤ _)⟩)
  dsimp only [Pt.U, Pt.locs, Pt.cells, Pt.slots] at X4 l4 y4 z4 st4 hQ4
  subst l4 y4 z4
  obtain ⟨rfl, Nq4, Kc4, Sn4⟩ := hQ4
  have N4 := Fr.app N0 Nq4
  have R4 : ∀ t, oG p e below T4 m 9 #[oR a1, oR a2] [] t → Steps p.tables e below (s₁.setTop (entryFrame m #[(.ref a1), (.ref a2)] 2)) t := fun t k => R3 t (st4.trans k)
  have Z4 : n0 ≤ T4.heap.size := Nat.le_trans Z0 Kc4.1
  have K4 : Keep h0 T4.heap [a1] := (Keep.refl h0 [a1]).trans Kc4 (allS (Or.inl (by simp)) all0)
  have f5 : Old Z n0 T4.heap := OX.keep Kc4 (allS g_a1 all0)
  have f6 : Exa Z T4.heap a1 "java/lang/String" := E1.keep Kc4
  obtain ⟨fs, hr, hrun, hended, hW, hsame⟩ := X4.leave (v := none) (fun _ => rfl)
  refine ⟨_, _, R4 _ ?_, hrun, hended, _, _, rfl, ?_, ⟨_, rfl⟩, hW, hsame.mono (by decide) (by decide)⟩
  · exact X4.returnOut hx Bd.returns (hb hby own_d2_9) hr
  · show Q_rmI1_20 Z a1 a2 k2 cz fm c0 c1 h0 n0 _ T4.heap _
    exact ⟨rfl, N4, K4, Sn4⟩
-- PARTD
theorem own_ef_rmI4_00 (m : MethodId) (x0 : Addr) (x1 : Addr) (x2 : Int32) (x3 : Int32) : entryFrame m #[(.ref x0), (.ref x1), (.int x2), (.int x3), .null] 6 = mkF m 0 #[oR x0, oR x1, oI x2, oI x3, .val .null, .unset] [] := by first | (simp [entryFrame, mkF, argsToLocals, Value.category]; done) | rfl
theorem own_d3_8 : decode jdk_42_method_149_code 8 = .ok (.aload_n 0, 1) := by decide +kernel
theorem own_d3_9 : decode jdk_42_method_149_code 9 = .ok (.ldc 7, 2) := by decide +kernel
theorem own_d3_11 : decode jdk_42_method_149_code 11 = .ok (.getfield 9, 3) := by decide +kernel
theorem own_d3_14 : decode jdk_42_method_149_code 14 = .ok (.putfield 9, 3) := by decide +kernel
theorem own_d3_17 : decode jdk_42_method_149_code 17 = .ok (.aload_n 0, 1) := by decide +kernel
theorem own_d3_18 : decode jdk_42_method_149_code 18 = .ok (.ldc 7, 2) := by decide +kernel
theorem own_d3_20 : decode jdk_42_method_149_code 20 = .ok (.getfield 15, 3) := by decide +kernel
theorem own_d3_23 : decode jdk_42_method_149_code 23 = .ok (.putfield 15, 3) := by decide +kernel
theorem own_d3_26 : decode jdk_42_method_149_code 26 = .ok (.return_, 1) := by decide +kernel
def Q_rmI4_00 (Z : State) (a1 a2 : Addr) (cz : Int32) (fm : Value) (c0 c1 : Int32) (h0 : Heap) (n0 : Nat) (v : Option Value) (h : Heap) (L : List Loc) : Prop := v = none ∧ Fr n0 L ∧ Keep h0 h [a1] ∧ own_Str Z h a1 (0 : Int32) c0 c1
set_option maxRecDepth 65536 in
set_option maxHeartbeats 40000000 in
theorem rmI4_00 (l : Launch) (Z : State) (a0 : Array Value) (hw : oT a0 Z) (ws : List Jvm.Cond) (a1 a2 : Addr) (cz : Int32) (fm : Value) (c0 c1 : Int32) (h0 : Heap) (n0 : Nat) (Z0 : n0 ≤ h0.size) (SU : own_St Z cz fm) (OX : Old Z n0 h0) (F1 : Fld Z h0 a1 "java/lang/String" "value" "[B" .null) (C1 : Fld Z h0 a1 "java/lang/String" "coder" "B" (.int 0)) (E1 : Exa Z h0 a1 "java/lang/String") (g_a1 : n0 ≤ a1) :
    MetFree l (⟨"java/lang/String", "<init>", "([CIILjava/lang/Void;)V"⟩ : MethodName) (head1 (Jvm.Cond.code (⟨"java/lang/String", "<init>", "([CIILjava/lang/Void;)V"⟩ : MethodName) jdk_42_method_149_code 6 none :: ws) (oM 1 2 4 12)) (fun a U => a = #[(.ref a1), (.ref a2), (.int 0), (.int 0), .null] ∧ Z.Warmed39 U.vm ∧ U.heap = h0 ∧ CHv Z own_EL U.vm h0) (fun _ _ _ _ _ => True) (fun _ U o U' => ∃ v L, o = .returned v ∧ Q_rmI4_00 Z a1 a2 cz fm c0 c1 h0 n0 v U'.heap L ∧ CHr Z own_EL U.vm U.heap U'.vm U'.heap ∧ ReturnedEndW U o U' L (oM 1 2 4 12).cells (oM 1 2 4 12).slots) := by
  refine MetFree.of_bodySF (plainFor_of_name own_pn3) hisR ?_
  intro p e s m args below meth c s₁ Bd hml0 hP hK
  obtain ⟨rfl, hZ, hh, hCH⟩ := hP
  have hEL := own_ew hw
  have hx := Bd.exec
  have hby := Bd.bytes
  have hml : c.maxLocals = 6 := hml0
  have hown : s.vm.findClass "java/lang/String" = some m.cls := findClass_of_methodNamed Bd.named
  have hnm := (name_of_methodNamed Bd.named Bd.method).1
  have X0 : Stand p l e (oM 1 2 4 12) s m #[(.ref a1), (.ref a2), (.int 0), (.int 0), .null] below meth c s₁ [] 0 0 := Stand.of_body Bd
  have e0 : s₁.heap = h0 := by rw [← hh, Bd.state]; rfl
  have N0 := Fr.nil n0
  have R0 : ∀ t, oG p e below s₁ m 0 #[oR a1, oR a2, oI 0, oI 0, .val .null, .unset] [] t → Steps p.tables e below (s₁.setTop (entryFrame m #[(.ref a1), (.ref a2), (.int 0), (.int 0), .null] 6)) t := fun t k => castTop (own_ef_rmI4_00 m a1 a2 (0 : Int32) (0 : Int32)) k
  have R1 : ∀ t, oG p e below s₁ m 1 #[oR a1, oR a2, oI 0, oI 0, .val .null, .unset] [(.ref a1)] t → Steps p.tables e below (s₁.setTop (entryFrame m #[(.ref a1), (.ref a2), (.int 0), (.int 0), .null] 6)) t := by
    intro t k
    refine R0 t ?_
    refine XS.aloadN X0.here hx rfl (hb hby own_d3_0) rfl rfl ?_
    exact k
  obtain ⟨T2, X2, e2, st2⟩ := initO X0 hx hZ hown (oW hw 15 rfl) (oW hw 16 rfl) (oW hw 17 rfl) e0 (g := (mkF m 1 #[oR a1, oR a2, oI 0, oI 0, .val .null, .unset] [(.ref a1)])) rfl (by rw [hml]; rfl) rfl (hb hby own_d3_1) (by decide) (W := 0) (by show 2 * 0 + _ ≤ _; exact Nat.le_of_eq rfl) (by decide)
  have R2 : ∀ t, oG p e below T2 m 4 #[oR a1, oR a2, oI 0, oI 0, .val .null, .unset] [] t → Steps p.tables e below (s₁.setTop (entryFrame m #[(.ref a1), (.ref a2), (.int 0), (.int 0), .null] 6)) t := fun t k => R1 t (st2 t k)
  have R3 : ∀ t, oG p e below T2 m 9 #[oR a1, oR a2, oI 0, oI 0, .val .null, .unset] [(.ref a1)] t → Steps p.tables e below (s₁.setTop (entryFrame m #[(.ref a1), (.ref a2), (.int 0), (.int 0), .null] 6)) t := by
    intro t k
    refine R2 t ?_
    refine XS.iloadN X2.here hx rfl (hb hby own_d3_4) rfl ?_
    refine XS.ifNo X2.here hx rfl (hb hby own_d3_5) rfl ((if0 _ _).trans (teq (by decide : ((0 : Int32) = (0 : Int32)))).2) ?_
    refine XS.aloadN X2.here hx rfl (hb hby own_d3_8) rfl rfl ?_
    exact k
  obtain ⟨lit, T4, h4, ki, lb, lk, X4, e4, E4, hS, hki, hZ', hown', litE, litC, litF, litV, litL, lbL, hCr, litLit, hsf, st4⟩ := ldcCH (s := s) (vm0 := s.vm) (EL := own_EL) X2 hx hZ hown (oW hw 34 rfl) (own_atoms hw) e2 (State.WarmedH.since (State.WarmedH.refl s) _) (Nat.zero_le _ : 0 ≤ _) hEL (List.mem_cons_self ..) hCH (vs := []) (z := (0 : Int32)) ⟨by decide, rfl⟩ (by decide) rfl (g := (mkF m 9 #[oR a1, oR a2, oI 0, oI 0, .val .null, .unset] [(.ref a1)])) rfl (hb hby own_d3_9) (n := 0) (by decide) (by decide) (by decide) (by decide)
  have R4 : ∀ t, oG p e below T4 m 11 #[oR a1, oR a2, oI 0, oI 0, .val .null, .unset] [(.ref lit), (.ref a1)] t → Steps p.tables e below (s₁.setTop (entryFrame m #[(.ref a1), (.ref a2), (.int 0), (.int 0), .null] 6)) t := fun t k => R3 t (st4 t k)
  have Z4 : n0 ≤ h4.size := Nat.le_trans Z0 E4.1
  have K4 : Keep h0 h4 [a1] := (Keep.refl h0 [a1]).ext E4
  have f5 : Old Z n0 h4 := OX.ext E4
  have f6 : Fld Z h4 a1 "java/lang/String" "value" "[B" .null := F1.ext E4
  have f7 : Fld Z h4 a1 "java/lang/String" "coder" "B" (.int 0) := C1.ext E4
  have f8 : Exa Z h4 a1 "java/lang/String" := E1.ext E4
  have hZ := hZ'
  have hown := hown'
  have hsa : Safe Z own_EL T4.vm h4 a1 := own_safe hZ.alike f8 f6
  have ne_a1_lit := (hsf a1 hsa).1
  have ne_a1_lb := (hsf a1 hsa).2
  obtain ⟨T9, X9, e9, st9⟩ := getF X4 hx hZ hown (host := "") (Or.inl (oW hw 32 rfl)) Via.refl e4 litF (g := (mkF m 11 #[oR a1, oR a2, oI 0, oI 0, .val .null, .unset] [(.ref lit), (.ref a1)])) rfl rfl (hb hby own_d3_11)
  have R9 : ∀ t, oG p e below T9 m 14 #[oR a1, oR a2, oI 0, oI 0, .val .null, .unset] [(.ref lb), (.ref a1)] t → Steps p.tables e below (s₁.setTop (entryFrame m #[(.ref a1), (.ref a2), (.int 0), (.int 0), .null] 6)) t := fun t k => R4 t (st9 t k)
  obtain ⟨T10, h10, X10, e10, W10, st10⟩ := putF X9 hx hZ hown (host := "") (Or.inl (oW hw 32 rfl)) Via.refl e9 f6 f8 (Or.inr ⟨(oW hw 33 rfl), rfl, hnm⟩) (oW hw 5 rfl) (ty := (.array .byte)) (by decide) rfl rfl (g := (mkF m 14 #[oR a1, oR a2, oI 0, oI 0, .val .null, .unset] [(.ref lb), (.ref a1)])) rfl rfl (hb hby own_d3_14)
  have R10 : ∀ t, oG p e below T10 m 17 #[oR a1, oR a2, oI 0, oI 0, .val .null, .unset] [] t → Steps p.tables e below (s₁.setTop (entryFrame m #[(.ref a1), (.ref a2), (.int 0), (.int 0), .null] 6)) t := fun t k => R9 t (st10 t k)
  have Z10 : n0 ≤ h10.size := Nat.le_trans Z4 (Keep.of_wr W10).1
  have K10 : Keep h0 h10 [a1] := K4.wr W10 (Or.inl (by simp))
  have N10 := Fr.snoc X10 N0 g_a1
  have f11 : Old Z n0 h10 := f5.wr W10 g_a1
  have f12 : Fld Z h10 a1 "java/lang/String" "coder" "B" (.int 0) := f7.other W10 (Or.inr (slot_ne (Or.inr (oW hw 31 rfl)) (Or.inr (oW hw 33 rfl)) (by decide) (t := .byte) (t' := (.array .byte)) (by decide) (by decide)))
  have f13 : Exa Z h10 a1 "java/lang/String" := f8.wr W10
  have f14 : Fld Z h10 lit "java/lang/String" "value" "[B" (.ref lb) := litF.other W10 (Or.inl (Ne.symm ne_a1_lit))
  have f15 : Fld Z h10 lit "java/lang/String" "coder" "B" (.int 0) := litC.other W10 (Or.inl (Ne.symm ne_a1_lit))
  have f16 : Arv Z h10 lb lk .byte (0 : Int32) [] (.int 0) := litV.other W10 (Ne.symm ne_a1_lb)
  have Fw10 : Fld Z h10 a1 "java/lang/String" "value" "[B" (.ref lb) := f6.same W10
  have R17 : ∀ t, oG p e below T10 m 18 #[oR a1, oR a2, oI 0, oI 0, .val .null, .unset] [(.ref a1)] t → Steps p.tables e below (s₁.setTop (entryFrame m #[(.ref a1), (.ref a2), (.int 0), (.int 0), .null] 6)) t := by
    intro t k
    refine R10 t ?_
    refine XS.aloadN X10.here hx rfl (hb hby own_d3_17) rfl rfl ?_
    exact k
  have hC2 := CHr.wr W10 hsa hCr.1
  have hsa2 := Safe.wr W10 hsa hCr.1 hsa
  have R18 : ∀ t, oG p e below T10 m 20 #[oR a1, oR a2, oI 0, oI 0, .val .null, .unset] [(.ref lit), (.ref a1)] t → Steps p.tables e below (s₁.setTop (entryFrame m #[(.ref a1), (.ref a2), (.int 0), (.int 0), .null] 6)) t := fun t k => R17 t (ldcAgain (s := s) (vm0 := T4.vm) X10 hx hZ hown (oW hw 34 rfl) litLit (g := (mkF m 18 #[oR a1, oR a2, oI 0, oI 0, .val .null, .unset] [(.ref a1)])) rfl (hb hby own_d3_18) t k)
  obtain ⟨T19, X19, e19, st19⟩ := getF X10 hx hZ hown (host := "") (Or.inl (oW hw 30 rfl)) Via.refl e10 f15 (g := (mkF m 20 #[oR a1, oR a2, oI 0, oI 0, .val .null, .unset] [(.ref lit), (.ref a1)])) rfl rfl (hb hby own_d3_20)
  have R19 : ∀ t, oG p e below T19 m 23 #[oR a1, oR a2, oI 0, oI 0, .val .null, .unset] [(.int 0), (.ref a1)] t → Steps p.tables e below (s₁.setTop (entryFrame m #[(.ref a1), (.ref a2), (.int 0), (.int 0), .null] 6)) t := fun t k => R18 t (st19 t k)
  obtain ⟨T20, h20, X20, e20, W20, st20⟩ := putFN X19 hx hZ hown (oW hw 30 rfl) Via.refl e19 f12 f13 (Or.inr ⟨(oW hw 31 rfl), rfl, hnm⟩) (oW hw 5 rfl) (ty := .byte) (v' := (.int 0)) (by decide) rfl rfl (g := (mkF m 23 #[oR a1, oR a2, oI 0, oI 0, .val .null, .unset] [(.int 0), (.ref a1)])) rfl rfl (hb hby own_d3_23)
  have R20 : ∀ t, oG p e below T20 m 26 #[oR a1, oR a2, oI 0, oI 0, .val .null, .unset] [] t → Steps p.tables e below (s₁.setTop (entryFrame m #[(.ref a1), (.ref a2), (.int 0), (.int 0), .null] 6)) t := fun t k => R19 t (st20 t k)
  have Z20 : n0 ≤ h20.size := Nat.le_trans Z10 (Keep.of_wr W20).1
  have K20 : Keep h0 h20 [a1] := K10.wr W20 (Or.inl (by simp))
  have N20 := Fr.snoc X20 N10 g_a1
  have f21 : Old Z n0 h20 := f11.wr W20 g_a1
  have f22 : Exa Z h20 a1 "java/lang/String" := f13.wr W20
  have f23 : Fld Z h20 lit "java/lang/String" "value" "[B" (.ref lb) := f14.other W20 (Or.inl (Ne.symm ne_a1_lit))
  have f24 : Fld Z h20 lit "java/lang/String" "coder" "B" (.int 0) := f15.other W20 (Or.inl (Ne.symm ne_a1_lit))
  have f25 : Arv Z h20 lb lk .byte (0 : Int32) [] (.int 0) := f16.other W20 (Ne.symm ne_a1_lb)
  have f26 : Fld Z h20 a1 "java/lang/String" "value" "[B" (.ref lb) := Fw10.other W20 (Or.inr (slot_ne (Or.inr (oW hw 33 rfl)) (Or.inr (oW hw 31 rfl)) (by decide) (t := (.array .byte)) (t' := .byte) (by decide) (by decide)))
  have Fw20 : Fld Z h20 a1 "java/lang/String" "coder" "B" (.int 0) := f12.same W20
  have hC3 := CHr.wr W20 hsa2 hC2.1
  have hCf := hCr.trans (hC2.trans (hC3.trans (CHv.at (s := s) (vm0 := T4.vm) X20 hZ hEL hC3.1)))
  obtain ⟨fs, hr, hrun, hended, hEnd⟩ := X20.leaveW hS (by rw [e20]; exact Nat.le_trans hki (Nat.le_trans (Keep.of_wr W10).1 (Keep.of_wr W20).1)) (v := none) (fun _ => rfl)
  refine ⟨_, _, R20 _ ?_, hrun, hended, _, _, rfl, ?_, ?_, own_endMono hEnd (by decide) (by decide)⟩
  · exact X20.returnOut hx Bd.returns (hb hby own_d3_26) hr
  · show Q_rmI4_00 Z a1 a2 cz fm c0 c1 h0 n0 _ T20.heap _
    rw [e20]
    exact ⟨rfl, N20, K20, lb, lk, f22, f26, Or.inl ⟨rfl, Fw20, f25⟩⟩
  · show CHr Z own_EL s.vm s.heap T20.vm T20.heap
    rw [hh, e20]
    exact hCf
theorem own_ef_rmI1_00 (m : MethodId) (x0 : Addr) (x1 : Addr) : entryFrame m #[(.ref x0), (.ref x1)] 2 = mkF m 0 #[oR x0, oR x1] [] := by first | (simp [entryFrame, mkF, argsToLocals, Value.category]; done) | rfl
def Q_rmI1_00 (Z : State) (a1 a2 : Addr) (k2 : ClassId) (cz : Int32) (fm : Value) (c0 c1 : Int32) (h0 : Heap) (n0 : Nat) (v : Option Value) (h : Heap) (L : List Loc) : Prop := v = none ∧ Fr n0 L ∧ Keep h0 h [a1] ∧ own_Str Z h a1 (0 : Int32) c0 c1
set_option maxRecDepth 65536 in
set_option maxHeartbeats 40000000 in
theorem rmI1_00 (l : Launch) (Z : State) (a0 : Array Value) (hw : oT a0 Z) (ws : List Jvm.Cond) (a1 a2 : Addr) (k2 : ClassId) (cz : Int32) (fm : Value) (c0 c1 : Int32) (h0 : Heap) (n0 : Nat) (Z0 : n0 ≤ h0.size) (SU : own_St Z cz fm) (OX : Old Z n0 h0) (F1 : Fld Z h0 a1 "java/lang/String" "value" "[B" .null) (C1 : Fld Z h0 a1 "java/lang/String" "coder" "B" (.int 0)) (E1 : Exa Z h0 a1 "java/lang/String") (g_a1 : n0 ≤ a1) (Va2 : Arv Z h0 a2 k2 .char (0 : Int32) [] (.int 0)) :
    MetFree l (⟨"java/lang/String", "<init>", "([C)V"⟩ : MethodName) (head1 (Jvm.Cond.code (⟨"java/lang/String", "<init>", "([C)V"⟩ : MethodName) jdk_42_method_3_code 2 none :: ws) (oM 2 2 4 29)) (fun a U => a = #[(.ref a1), (.ref a2)] ∧ Z.Warmed39 U.vm ∧ U.heap = h0 ∧ CHv Z own_EL U.vm h0) (fun _ _ _ _ _ => True) (fun _ U o U' => ∃ v L, o = .returned v ∧ Q_rmI1_00 Z a1 a2 k2 cz fm c0 c1 h0 n0 v U'.heap L ∧ CHr Z own_EL U.vm U.heap U'.vm U'.heap ∧ ReturnedEndW U o U' L (oM 2 2 4 29).cells (oM 2 2 4 29).slots) := by
  refine MetFree.of_bodySF (plainFor_of_name own_pn3) hisR ?_
  intro p e s m args below meth c s₁ Bd hml0 hP hK
  obtain ⟨rfl, hZ, hh, hCH⟩ := hP
  have hEL := own_ew hw
  have hx := Bd.exec
  have hby := Bd.bytes
  have hml : c.maxLocals = 2 := hml0
  have hown : s.vm.findClass "java/lang/String" = some m.cls := findClass_of_methodNamed Bd.named
  have hnm := (name_of_methodNamed Bd.named Bd.method).1
  have X0 : Stand p l e (oM 2 2 4 29) s m #[(.ref a1), (.ref a2)] below meth c s₁ [] 0 0 := Stand.of_body Bd
  have e0 : s₁.heap = h0 := by rw [← hh, Bd.state]; rfl
  have N0 := Fr.nil n0
  have R0 : ∀ t, oG p e below s₁ m 0 #[oR a1, oR a2] [] t → Steps p.tables e below (s₁.setTop (entryFrame m #[(.ref a1), (.ref a2)] 2)) t := fun t k => castTop (own_ef_rmI1_00 m a1 a2) k
  have R1 : ∀ t, oG p e below s₁ m 4 #[oR a1, oR a2] [(.ref a2), (.int 0), (.ref a2), (.ref a1)] t → Steps p.tables e below (s₁.setTop (entryFrame m #[(.ref a1), (.ref a2)] 2)) t := by
    intro t k
    refine R0 t ?_
    refine XS.aloadN X0.here hx rfl (hb hby own_d2_0) rfl rfl ?_
    refine XS.aloadN X0.here hx rfl (hb hby own_d2_1) rfl rfl ?_
    refine XS.iconst X0.here hx rfl (hb hby own_d2_2) ?_
    show oG p e below s₁ m 3 #[oR a1, oR a2] [(.int 0), (.ref a2), (.ref a1)] _
    refine XS.aloadN X0.here hx rfl (hb hby own_d2_3) rfl rfl ?_
    exact k
  obtain ⟨cl2, Ar2, q2, S2, N2', H2, G2⟩ := id Va2
  have R3 : ∀ t, oG p e below s₁ m 6 #[oR a1, oR a2] [.null, (.int 0), (.int 0), (.ref a2), (.ref a1)] t → Steps p.tables e below (s₁.setTop (entryFrame m #[(.ref a1), (.ref a2)] 2)) t := by
    intro t k
    refine R1 t ?_
    refine X0.arraylength hx (by rw [e0]; exact Ar2.1) (State.isArrayOf_alike hZ.alike Ar2.2.1) (g := (mkF m 4 #[oR a1, oR a2] [(.ref a2), (.int 0), (.ref a2), (.ref a1)])) rfl rfl (hb hby own_d2_4) _ ?_
    rw [len_of S2 N2']
    refine XS.aconstNull X0.here hx rfl (hb hby own_d2_5) ?_
    exact k
  obtain ⟨_, _, ⟨T4, L4, k4, n4⟩, -, X4, hS4, hl4, ⟨Lc4, hQ4, l4, y4, z4, hC4⟩, st4⟩ := X0.specialBackS hx (y := (⟨"java/lang/String", "<init>", "([CIILjava/lang/Void;)V"⟩ : MethodName)) rfl hown (mvT hZ (oW hw 11 rfl)) (mvT hZ (oW hw 12 rfl)) (mvT hZ (oW hw 14 rfl)) (by decide) (backOfSH (s := s) (vm0 := s.vm) (EL := own_EL) (W := 0) (rmI4_00 l Z a0 hw [] a1 a2 cz fm c0 c1 h0 n0 Z0 SU OX F1 C1 E1 g_a1) hZ (oW hw 14 rfl) (oW hw 6 rfl) (by decide) (by decide) hEL hCH) (g := (mkF m 6 #[oR a1, oR a2] [.null, (.int 0), (.int 0), (.ref a2), (.ref a1)])) rfl (by rw [hml]; rfl) (Steps.refl _) (a := a1) (argsL := [(.ref a2), (.int 0), (.int 0), .null]) (rest := []) (lenOf own_pd2 rfl) rfl (by show 2 * 0 + _ ≤ _; exact Nat.le_of_eq rfl) (hb hby own_d2_6) (fun _ _ => ⟨rfl, e0, (by decide : 0 + 2 ≤ _), (by decide : 0 + 4 ≤ _)⟩)
  dsimp only [Pt.U, Pt.locs, Pt.cells, Pt.slots] at X4 hS4 hl4 l4 y4 z4 st4 hQ4 hC4
  subst l4 y4 z4
  obtain ⟨rfl, Nq4, Kc4, Sn4⟩ := hQ4
  have N4 := Fr.app N0 Nq4
  have R4 : ∀ t, oG p e below T4 m 9 #[oR a1, oR a2] [] t → Steps p.tables e below (s₁.setTop (entryFrame m #[(.ref a1), (.ref a2)] 2)) t := fun t k => R3 t (st4.trans k)
  have hZ := State.Warmed39.trans (t := s) hZ hS4.1
  have hown := (hS4.1.alike.findClass _ _).trans hown
  have hCf := hC4.trans (CHv.at (s := s) (vm0 := T4.vm) X4 hZ hEL hC4.1)
  obtain ⟨fs, hr, hrun, hended, hEnd⟩ := X4.leaveW hS4 (Nat.le_refl _) (v := none) (fun _ => rfl)
  refine ⟨_, _, R4 _ ?_, hrun, hended, _, _, rfl, ?_, ?_, own_endMono hEnd (by decide) (by decide)⟩
  · exact X4.returnOut hx Bd.returns (hb hby own_d2_9) hr
  · show Q_rmI1_00 Z a1 a2 k2 cz fm c0 c1 h0 n0 _ T4.heap _
    exact ⟨rfl, N4, Kc4, Sn4⟩
  · show CHr Z own_EL s.vm s.heap T4.vm T4.heap
    rw [hh]
    exact hCf
theorem own_ef_rmMk_00 (m : MethodId) (x0 : Int32) (x1 : Int32) (x2 : Int32) : entryFrame m #[(.int x0), (.int x1), (.int x2)] 3 = mkF m 0 #[oI x0, oI x1, oI x2] [] := by first | (simp [entryFrame, mkF, argsToLocals, Value.category]; done) | rfl
theorem own_d1_0 : decode method_3_code 0 = .ok (.iload_n 0, 1) := by decide +kernel
theorem own_d1_1 : decode method_3_code 1 = .ok (.ifCond .ne 14, 3) := by decide +kernel
theorem own_d1_4 : decode method_3_code 4 = .ok (.new 31, 3) := by decide +kernel
theorem own_d1_7 : decode method_3_code 7 = .ok (.dup, 1) := by decide +kernel
theorem own_d1_8 : decode method_3_code 8 = .ok (.iconst 0, 1) := by decide +kernel
theorem own_d1_9 : decode method_3_code 9 = .ok (.newarray .char, 2) := by decide +kernel
theorem own_d1_11 : decode method_3_code 11 = .ok (.invokespecial 33, 3) := by decide +kernel
theorem own_pd1 : parseMethodDescriptor "([C)V" = some ⟨[(.array .char)], none⟩ := by decide +kernel
theorem own_d1_14 : decode method_3_code 14 = .ok (.areturn, 1) := by decide +kernel
def Q_rmMk_00 (Z : State) (p2 p3 : Int32) (cz : Int32) (fm : Value) (h0 : Heap) (n0 : Nat) (v : Option Value) (h : Heap) (L : List Loc) : Prop := ∃ b : Addr, v = some (.ref b) ∧ Fr n0 L ∧ Keep h0 h [] ∧ own_Str Z h b (0 : Int32) p2 p3
set_option maxRecDepth 65536 in
set_option maxHeartbeats 40000000 in
theorem rmMk_00 (l : Launch) (Z : State) (a0 : Array Value) (hw : oT a0 Z) (ws : List Jvm.Cond) (p2 p3 : Int32) (cz : Int32) (fm : Value) (h0 : Heap) (n0 : Nat) (Z0 : n0 ≤ h0.size) (SU : own_St Z cz fm) (OX : Old Z n0 h0) (r0 : own_R p2) (r1 : own_R p3)  :
    MetFree l (⟨"com/example/firm_store/firmstore/IdentifiersCompareCodePointsPinLaw", "make", "(ICC)Ljava/lang/String;"⟩ : MethodName) (head1 (Jvm.Cond.code (⟨"com/example/firm_store/firmstore/IdentifiersCompareCodePointsPinLaw", "make", "(ICC)Ljava/lang/String;"⟩ : MethodName) method_3_code 3 (some (.object "java/lang/String")) :: ws) (oM 8 8 40 190)) (fun a U => a = #[(.int 0), (.int p2), (.int p3)] ∧ Z.Warmed39 U.vm ∧ U.heap = h0 ∧ CHv Z own_EL U.vm h0) (fun _ _ _ _ _ => True) (fun _ U o U' => ∃ v L, o = .returned v ∧ Q_rmMk_00 Z p2 p3 cz fm h0 n0 v U'.heap L ∧ CHr Z own_EL U.vm U.heap U'.vm U'.heap ∧ ReturnedEndW U o U' L (oM 8 8 40 190).cells (oM 8 8 40 190).slots) := by
  refine MetFree.of_bodySF (plainFor_of_name own_pn0) hisR ?_
  intro p e s m args below meth c s₁ Bd hml0 hP hK
  obtain ⟨rfl, hZ, hh, hCH⟩ := hP
  have hEL := own_ew hw
  have hx := Bd.exec
  have hby := Bd.bytes
  have hml : c.maxLocals = 3 := hml0
  have hown : s.vm.findClass "com/example/firm_store/firmstore/IdentifiersCompareCodePointsPinLaw" = some m.cls := findClass_of_methodNamed Bd.named
  have hnm := (name_of_methodNamed Bd.named Bd.method).1
  have X0 : Stand p l e (oM 8 8 40 190) s m #[(.int 0), (.int p2), (.int p3)] below meth c s₁ [] 0 0 := Stand.of_body Bd
  have e0 : s₁.heap = h0 := by rw [← hh, Bd.state]; rfl
  have N0 := Fr.nil n0
  have R0 : ∀ t, oG p e below s₁ m 0 #[oI 0, oI p2, oI p3] [] t → Steps p.tables e below (s₁.setTop (entryFrame m #[(.int 0), (.int p2), (.int p3)] 3)) t := fun t k => castTop (own_ef_rmMk_00 m (0 : Int32) p2 p3) k
  have R1 : ∀ t, oG p e below s₁ m 4 #[oI 0, oI p2, oI p3] [] t → Steps p.tables e below (s₁.setTop (entryFrame m #[(.int 0), (.int p2), (.int p3)] 3)) t := by
    intro t k
    refine R0 t ?_
    refine XS.iloadN X0.here hx rfl (hb hby own_d1_0) rfl ?_
    refine XS.ifNo X0.here hx rfl (hb hby own_d1_1) rfl ((if0 _ _).trans (teq (by decide : ((0 : Int32) = (0 : Int32)))).2) ?_
    exact k
  obtain ⟨T2, h2, X2, e2, E2, A2, D2, -, st2⟩ := newO X0 hx hZ hown (oW hw 4 rfl) (oW hw 5 rfl) (oW hw 6 rfl) e0 (g := (mkF m 4 #[oI 0, oI p2, oI p3] [])) rfl (hb hby own_d1_4) (by decide) (by decide)
  obtain ⟨b2, g2⟩ : ∃ z, z = h0.size := ⟨_, rfl⟩
  rw [← g2] at A2 D2 st2
  have R2 : ∀ t, oG p e below T2 m 7 #[oI 0, oI p2, oI p3] [(.ref b2)] t → Steps p.tables e below (s₁.setTop (entryFrame m #[(.int 0), (.int p2), (.int p3)] 3)) t := fun t k => R1 t (st2 t k)
  have g_b2 : n0 ≤ b2 := Nat.le_trans Z0 (Nat.le_of_eq g2.symm)
  have sz_b2 : h0.size ≤ b2 := Nat.le_trans (Keep.refl h0 []).1 (Nat.le_of_eq g2.symm)
  have Z2 : n0 ≤ h2.size := Nat.le_trans Z0 E2.1
  have K2 : Keep h0 h2 [] := (Keep.refl h0 []).ext E2
  have f3 : Old Z n0 h2 := OX.ext E2
  have F2_31 : Fld Z h2 b2 "java/lang/String" "coder" "B" (.int 0) := D2 (Or.inr (oW hw 31 rfl)) (ty := .byte) (by decide)
  have F2_33 : Fld Z h2 b2 "java/lang/String" "value" "[B" .null := D2 (Or.inr (oW hw 33 rfl)) (ty := (.array .byte)) (by decide)
  have R4 : ∀ t, oG p e below T2 m 9 #[oI 0, oI p2, oI p3] [(.int 0), (.ref b2), (.ref b2)] t → Steps p.tables e below (s₁.setTop (entryFrame m #[(.int 0), (.int p2), (.int p3)] 3)) t := by
    intro t k
    refine R2 t ?_
    refine XS.dup X2.here hx rfl (hb hby own_d1_7) rfl rfl ?_
    refine XS.iconst X2.here hx rfl (hb hby own_d1_8) ?_
    exact k
  obtain ⟨T5, h5, k5, X5, e5, E5, A5, st5⟩ := newP X2 hx hZ (oW hw 7 rfl) e2 (g := (mkF m 9 #[oI 0, oI p2, oI p3] [(.int 0), (.ref b2), (.ref b2)])) rfl (hb hby own_d1_9) rfl (by decide) (cap := 0) (by decide) (by decide) (by decide) (by decide)
  obtain ⟨b5, g5⟩ : ∃ z, z = h2.size := ⟨_, rfl⟩
  rw [← g5] at A5 st5
  have R5 : ∀ t, oG p e below T5 m 11 #[oI 0, oI p2, oI p3] [(.ref b5), (.ref b2), (.ref b2)] t → Steps p.tables e below (s₁.setTop (entryFrame m #[(.int 0), (.int p2), (.int p3)] 3)) t := fun t k => R4 t (st5 t k)
  have ne_b2_b5 : b2 ≠ b5 := Nat.ne_of_lt (Nat.lt_of_lt_of_le A2.lt (Nat.le_of_eq g5.symm))
  have g_b5 : n0 ≤ b5 := Nat.le_trans Z2 (Nat.le_of_eq g5.symm)
  have sz_b5 : h0.size ≤ b5 := Nat.le_trans K2.1 (Nat.le_of_eq g5.symm)
  have Z5 : n0 ≤ h5.size := Nat.le_trans Z2 E5.1
  have K5 : Keep h0 h5 [] := K2.ext E5
  have f6 : Old Z n0 h5 := f3.ext E5
  have f7 : Exa Z h5 b2 "java/lang/String" := A2.ext E5
  have f8 : Fld Z h5 b2 "java/lang/String" "coder" "B" (.int 0) := F2_31.ext E5
  have f9 : Fld Z h5 b2 "java/lang/String" "value" "[B" .null := F2_33.ext E5
  have V5 : Arv Z h5 b5 k5 .char (0 : Int32) [] (.int 0) := Arv.new A5 (by decide)
  have hCa := CHr.ext E2 hCH
  have hCb := CHr.ext E5 hCa.1
  obtain ⟨_, _, ⟨T10, L10, k10, n10⟩, -, X10, hS10, hl10, ⟨Lc10, hQ10, l10, y10, z10, hC10⟩, st10⟩ := X5.specialBackS hx (y := (⟨"java/lang/String", "<init>", "([C)V"⟩ : MethodName)) rfl hown (mvT hZ (oW hw 8 rfl)) (mvT hZ (oW hw 9 rfl)) (mvT hZ (oW hw 10 rfl)) (by decide) (backOfSH (s := s) (vm0 := s.vm) (EL := own_EL) (W := 1) (rmI1_00 l Z a0 hw [] b2 b5 k5 cz fm p2 p3 h5 n0 Z5 SU f6 f9 f8 f7 g_b2 V5) hZ (oW hw 10 rfl) (oW hw 6 rfl) (by decide) (by decide) hEL hCb.1) (g := (mkF m 11 #[oI 0, oI p2, oI p3] [(.ref b5), (.ref b2), (.ref b2)])) rfl (by rw [hml]; rfl) (Steps.refl _) (a := b2) (argsL := [(.ref b5)]) (rest := [(.ref b2)]) (lenOf own_pd1 rfl) rfl (by show 2 * 0 + _ ≤ _; exact Nat.le_of_eq rfl) (hb hby own_d1_11) (fun _ _ => ⟨rfl, e5, (by decide : 2 + 2 ≤ _), (by decide : 4 + 4 ≤ _)⟩)
  dsimp only [Pt.U, Pt.locs, Pt.cells, Pt.slots] at X10 hS10 hl10 l10 y10 z10 st10 hQ10 hC10
  subst l10 y10 z10
  obtain ⟨rfl, Nq10, Kc10, Sn10⟩ := hQ10
  have N10 := Fr.app N0 Nq10
  have R10 : ∀ t, oG p e below T10 m 14 #[oI 0, oI p2, oI p3] [(.ref b2)] t → Steps p.tables e below (s₁.setTop (entryFrame m #[(.int 0), (.int p2), (.int p3)] 3)) t := fun t k => R5 t (st10.trans k)
  have hZ := State.Warmed39.trans (t := s) hZ hS10.1
  have hown := (hS10.1.alike.findClass _ _).trans hown
  have Z10 : n0 ≤ T10.heap.size := Nat.le_trans Z5 Kc10.1
  have K10 : Keep h0 T10.heap [] := K5.trans Kc10 (allS (Or.inr sz_b2) all0)
  have f11 : Old Z n0 T10.heap := f6.keep Kc10 (allS g_b2 all0)
  have f12 : Exa Z T10.heap b2 "java/lang/String" := f7.keep Kc10
  have f13 : Arv Z T10.heap b5 k5 .char (0 : Int32) [] (.int 0) := V5.keep Kc10 (ninS (Ne.symm ne_b2_b5) nin0)
  have hCf := hCa.trans (hCb.trans (hC10.trans (CHv.at (s := s) (vm0 := T10.vm) X10 hZ hEL hC10.1)))
  obtain ⟨fs, hr, hrun, hended, hEnd⟩ := X10.leaveW hS10 (Nat.le_refl _) (v := some (.ref b2)) (fun h => by rw [Bd.returns] at h; cases h)
  refine ⟨_, _, R10 _ ?_, hrun, hended, _, _, rfl, ?_, ?_, own_endMono hEnd (by decide) (by decide)⟩
  · exact retOut X10 hx Bd.returns rfl (Or.inr (Or.inr (Or.inr (Or.inr ⟨rfl, rfl, rfl⟩)))) (hb hby own_d1_14) hr
  · show Q_rmMk_00 Z p2 p3 cz fm h0 n0 _ T10.heap _
    exact ⟨b2, rfl, N10, K10, Sn10⟩
  · show CHr Z own_EL s.vm s.heap T10.vm T10.heap
    rw [hh]
    exact hCf
theorem own_ef_rmMk_11 (m : MethodId) (x0 : Int32) (x1 : Int32) (x2 : Int32) : entryFrame m #[(.int x0), (.int x1), (.int x2)] 3 = mkF m 0 #[oI x0, oI x1, oI x2] [] := by first | (simp [entryFrame, mkF, argsToLocals, Value.category]; done) | rfl
theorem own_d1_15 : decode method_3_code 15 = .ok (.iload_n 0, 1) := by decide +kernel
theorem own_d1_16 : decode method_3_code 16 = .ok (.iconst 1, 1) := by decide +kernel
theorem own_d1_17 : decode method_3_code 17 = .ok (.if_icmp .ne 18, 3) := by decide +kernel
theorem own_d1_20 : decode method_3_code 20 = .ok (.new 31, 3) := by decide +kernel
theorem own_d1_23 : decode method_3_code 23 = .ok (.dup, 1) := by decide +kernel
theorem own_d1_24 : decode method_3_code 24 = .ok (.iconst 1, 1) := by decide +kernel
theorem own_d1_25 : decode method_3_code 25 = .ok (.newarray .char, 2) := by decide +kernel
theorem own_d1_27 : decode method_3_code 27 = .ok (.dup, 1) := by decide +kernel
theorem own_d1_28 : decode method_3_code 28 = .ok (.iconst 0, 1) := by decide +kernel
theorem own_d1_29 : decode method_3_code 29 = .ok (.iload_n 1, 1) := by decide +kernel
theorem own_d1_30 : decode method_3_code 30 = .ok (.castore, 1) := by decide +kernel
theorem own_d1_31 : decode method_3_code 31 = .ok (.invokespecial 33, 3) := by decide +kernel
theorem own_d1_34 : decode method_3_code 34 = .ok (.areturn, 1) := by decide +kernel
def Q_rmMk_11 (Z : State) (p2 p3 : Int32) (cz : Int32) (fm : Value) (h0 : Heap) (n0 : Nat) (v : Option Value) (h : Heap) (L : List Loc) : Prop := ∃ b : Addr, v = some (.ref b) ∧ Fr n0 L ∧ Keep h0 h [] ∧ own_Str Z h b (1 : Int32) p2 p3
set_option maxRecDepth 65536 in
set_option maxHeartbeats 40000000 in
theorem rmMk_11 (l : Launch) (Z : State) (a0 : Array Value) (hw : oT a0 Z) (ws : List Jvm.Cond) (p2 p3 : Int32) (cz : Int32) (fm : Value) (h0 : Heap) (n0 : Nat) (Z0 : n0 ≤ h0.size) (SU : own_St Z cz fm) (OX : Old Z n0 h0) (r0 : own_R p2) (r1 : own_R p3) (t0 : ¬ (255 : Int32) < p2) :
    MetFree l (⟨"com/example/firm_store/firmstore/IdentifiersCompareCodePointsPinLaw", "make", "(ICC)Ljava/lang/String;"⟩ : MethodName) (head1 (Jvm.Cond.code (⟨"com/example/firm_store/firmstore/IdentifiersCompareCodePointsPinLaw", "make", "(ICC)Ljava/lang/String;"⟩ : MethodName) method_3_code 3 (some (.object "java/lang/String")) :: ws) (oM 8 8 40 190)) (fun a U => a = #[(.int 1), (.int p2), (.int p3)] ∧ Z.Warmed39 U.vm ∧ U.heap = h0 ∧ CHv Z own_EL U.vm h0) (fun _ _ _ _ _ => True) (fun _ U o U' => ∃ v L, o = .returned v ∧ Q_rmMk_11 Z p2 p3 cz fm h0 n0 v U'.heap L ∧ CHr Z own_EL U.vm U.heap U'.vm U'.heap ∧ ReturnedEndW U o U' L (oM 8 8 40 190).cells (oM 8 8 40 190).slots) := by
  refine MetFree.of_bodySF (plainFor_of_name own_pn0) hisR ?_
  intro p e s m args below meth c s₁ Bd hml0 hP hK
  obtain ⟨rfl, hZ, hh, hCH⟩ := hP
  have hEL := own_ew hw
  have hx := Bd.exec
  have hby := Bd.bytes
  have hml : c.maxLocals = 3 := hml0
  have hown : s.vm.findClass "com/example/firm_store/firmstore/IdentifiersCompareCodePointsPinLaw" = some m.cls := findClass_of_methodNamed Bd.named
  have hnm := (name_of_methodNamed Bd.named Bd.method).1
  have X0 : Stand p l e (oM 8 8 40 190) s m #[(.int 1), (.int p2), (.int p3)] below meth c s₁ [] 0 0 := Stand.of_body Bd
  have e0 : s₁.heap = h0 := by rw [← hh, Bd.state]; rfl
  have N0 := Fr.nil n0
  have R0 : ∀ t, oG p e below s₁ m 0 #[oI 1, oI p2, oI p3] [] t → Steps p.tables e below (s₁.setTop (entryFrame m #[(.int 1), (.int p2), (.int p3)] 3)) t := fun t k => castTop (own_ef_rmMk_11 m (1 : Int32) p2 p3) k
  have R1 : ∀ t, oG p e below s₁ m 20 #[oI 1, oI p2, oI p3] [] t → Steps p.tables e below (s₁.setTop (entryFrame m #[(.int 1), (.int p2), (.int p3)] 3)) t := by
    intro t k
    refine R0 t ?_
    refine XS.iloadN X0.here hx rfl (hb hby own_d1_0) rfl ?_
    refine XS.ifYes X0.here hx rfl (pc0 := 1) (pc' := 15) rfl (hb hby own_d1_1) rfl ((if0 _ _).trans (feq (by decide : ¬ ((1 : Int32) = (0 : Int32)))).2) (by decide) (by decide) ?_
    refine XS.iloadN X0.here hx rfl (hb hby own_d1_15) rfl ?_
    show oG p e below s₁ m 16 #[oI 1, oI p2, oI p3] [(.int 1)] _
    refine XS.iconst X0.here hx rfl (hb hby own_d1_16) ?_
    refine XS.icmpNo X0.here hx rfl (hb hby own_d1_17) rfl (teq (by decide : ((1 : Int32) = (1 : Int32)))).2 ?_
    exact k
  obtain ⟨T2, h2, X2, e2, E2, A2, D2, -, st2⟩ := newO X0 hx hZ hown (oW hw 4 rfl) (oW hw 5 rfl) (oW hw 6 rfl) e0 (g := (mkF m 20 #[oI 1, oI p2, oI p3] [])) rfl (hb hby own_d1_20) (by decide) (by decide)
  obtain ⟨b2, g2⟩ : ∃ z, z = h0.size := ⟨_, rfl⟩
  rw [← g2] at A2 D2 st2
  have R2 : ∀ t, oG p e below T2 m 23 #[oI 1, oI p2, oI p3] [(.ref b2)] t → Steps p.tables e below (s₁.setTop (entryFrame m #[(.int 1), (.int p2), (.int p3)] 3)) t := fun t k => R1 t (st2 t k)
  have g_b2 : n0 ≤ b2 := Nat.le_trans Z0 (Nat.le_of_eq g2.symm)
  have sz_b2 : h0.size ≤ b2 := Nat.le_trans (Keep.refl h0 []).1 (Nat.le_of_eq g2.symm)
  have Z2 : n0 ≤ h2.size := Nat.le_trans Z0 E2.1
  have K2 : Keep h0 h2 [] := (Keep.refl h0 []).ext E2
  have f3 : Old Z n0 h2 := OX.ext E2
  have F2_31 : Fld Z h2 b2 "java/lang/String" "coder" "B" (.int 0) := D2 (Or.inr (oW hw 31 rfl)) (ty := .byte) (by decide)
  have F2_33 : Fld Z h2 b2 "java/lang/String" "value" "[B" .null := D2 (Or.inr (oW hw 33 rfl)) (ty := (.array .byte)) (by decide)
  have R4 : ∀ t, oG p e below T2 m 25 #[oI 1, oI p2, oI p3] [(.int 1), (.ref b2), (.ref b2)] t → Steps p.tables e below (s₁.setTop (entryFrame m #[(.int 1), (.int p2), (.int p3)] 3)) t := by
    intro t k
    refine R2 t ?_
    refine XS.dup X2.here hx rfl (hb hby own_d1_23) rfl rfl ?_
    refine XS.iconst X2.here hx rfl (hb hby own_d1_24) ?_
    exact k
  obtain ⟨T5, h5, k5, X5, e5, E5, A5, st5⟩ := newP X2 hx hZ (oW hw 7 rfl) e2 (g := (mkF m 25 #[oI 1, oI p2, oI p3] [(.int 1), (.ref b2), (.ref b2)])) rfl (hb hby own_d1_25) rfl (by decide) (cap := 1) (by decide) (by decide) (by decide) (by decide)
  obtain ⟨b5, g5⟩ : ∃ z, z = h2.size := ⟨_, rfl⟩
  rw [← g5] at A5 st5
  have R5 : ∀ t, oG p e below T5 m 27 #[oI 1, oI p2, oI p3] [(.ref b5), (.ref b2), (.ref b2)] t → Steps p.tables e below (s₁.setTop (entryFrame m #[(.int 1), (.int p2), (.int p3)] 3)) t := fun t k => R4 t (st5 t k)
  have ne_b2_b5 : b2 ≠ b5 := Nat.ne_of_lt (Nat.lt_of_lt_of_le A2.lt (Nat.le_of_eq g5.symm))
  have g_b5 : n0 ≤ b5 := Nat.le_trans Z2 (Nat.le_of_eq g5.symm)
  have sz_b5 : h0.size ≤ b5 := Nat.le_trans K2.1 (Nat.le_of_eq g5.symm)
  have Z5 : n0 ≤ h5.size := Nat.le_trans Z2 E5.1
  have K5 : Keep h0 h5 [] := K2.ext E5
  have f6 : Old Z n0 h5 := f3.ext E5
  have f7 : Exa Z h5 b2 "java/lang/String" := A2.ext E5
  have f8 : Fld Z h5 b2 "java/lang/String" "coder" "B" (.int 0) := F2_31.ext E5
  have f9 : Fld Z h5 b2 "java/lang/String" "value" "[B" .null := F2_33.ext E5
  have V5 : Arv Z h5 b5 k5 .char (1 : Int32) [(.int 0)] (.int 0) := (Arv.new A5 (by decide)).pad (pad_rep [] (.int 0) 1)
  have R10 : ∀ t, oG p e below T5 m 30 #[oI 1, oI p2, oI p3] [(.int p2), (.int 0), (.ref b5), (.ref b5), (.ref b2), (.ref b2)] t → Steps p.tables e below (s₁.setTop (entryFrame m #[(.int 1), (.int p2), (.int p3)] 3)) t := by
    intro t k
    refine R5 t ?_
    refine XS.dup X5.here hx rfl (hb hby own_d1_27) rfl rfl ?_
    refine XS.iconst X5.here hx rfl (hb hby own_d1_28) ?_
    refine XS.iloadN X5.here hx rfl (hb hby own_d1_29) rfl ?_
    exact k
  obtain ⟨cl11, Ar11, q11, S11, N11', H11, G11⟩ := id V5
  have hin11 : ¬ ((0 : Int32) < 0 ∨ cl11.slots.size ≤ ((0 : Int32)).toNatClampNeg) := inb_of S11 ⟨by decide, by decide⟩
  obtain ⟨T12, h12, X12, e12, W12, st12⟩ := stC X5 hx hZ e5 Ar11 (j := (0 : Int32)) hin11 (g := (mkF m 30 #[oI 1, oI p2, oI p3] [(.int p2), (.int 0), (.ref b5), (.ref b5), (.ref b2), (.ref b2)])) rfl rfl (hb hby own_d1_30)
  have R12 : ∀ t, oG p e below T12 m 31 #[oI 1, oI p2, oI p3] [(.ref b5), (.ref b2), (.ref b2)] t → Steps p.tables e below (s₁.setTop (entryFrame m #[(.int 1), (.int p2), (.int p3)] 3)) t := fun t k => R10 t (st12 t k)
  have Z12 : n0 ≤ h12.size := Nat.le_trans Z5 (Keep.of_wr W12).1
  have K12 : Keep h0 h12 [] := K5.wr W12 (Or.inr sz_b5)
  have N12 := Fr.snoc X12 N0 g_b5
  have f13 : Old Z n0 h12 := f6.wr W12 g_b5
  have f14 : Exa Z h12 b2 "java/lang/String" := f7.wr W12
  have f15 : Fld Z h12 b2 "java/lang/String" "coder" "B" (.int 0) := f8.other W12 (Or.inl ne_b2_b5)
  have f16 : Fld Z h12 b2 "java/lang/String" "value" "[B" .null := f9.other W12 (Or.inl ne_b2_b5)
  have V12 : Arv Z h12 b5 k5 .char (1 : Int32) [(.int (nar .char p2))] (.int 0) := Arv.set Ar11 q11 S11 N11' H11 G11 (fits_nar_char _) W12 0 rfl (Nat.le_of_ble_eq_true rfl)
  have Vc : Arv Z h12 b5 k5 .char (1 : Int32) [(.int p2)] (.int 0) := by
    have q := V12
    rw [own_narc r0] at q; exact q
  obtain ⟨_, _, ⟨T17, L17, k17, n17⟩, -, X17, ⟨Lc17, hQ17, l17, y17, z17⟩, st17⟩ := X12.specialBack hx (y := (⟨"java/lang/String", "<init>", "([C)V"⟩ : MethodName)) rfl hown (mvT hZ (oW hw 8 rfl)) (mvT hZ (oW hw 9 rfl)) (mvT hZ (oW hw 10 rfl)) (by decide) (backOf (W := 1) (rmI1_11 l Z a0 hw [] b2 b5 k5 cz fm p2 p3 h12 n0 Z12 SU f13 f16 f15 f14 g_b2 Vc ne_b2_b5 t0 r0) hZ (oW hw 10 rfl) (oW hw 6 rfl) (by decide) (by decide)) (g := (mkF m 31 #[oI 1, oI p2, oI p3] [(.ref b5), (.ref b2), (.ref b2)])) rfl (by rw [hml]; rfl) (Steps.refl _) (a := b2) (argsL := [(.ref b5)]) (rest := [(.ref b2)]) (lenOf own_pd1 rfl) rfl (by show 2 * 0 + _ ≤ _; exact Nat.le_of_eq rfl) (hb hby own_d1_31) (fun _ _ => ⟨rfl, e12, (by decide : 2 + 1 ≤ _), (by decide : 5 + 1 ≤ _)⟩)
  dsimp only [Pt.U, Pt.locs, Pt.cells, Pt.slots] at X17 l17 y17 z17 st17 hQ17
  subst l17 y17 z17
  obtain ⟨rfl, Nq17, Kc17, Sn17⟩ := hQ17
  have N17 := Fr.app N12 Nq17
  have R17 : ∀ t, oG p e below T17 m 34 #[oI 1, oI p2, oI p3] [(.ref b2)] t → Steps p.tables e below (s₁.setTop (entryFrame m #[(.int 1), (.int p2), (.int p3)] 3)) t := fun t k => R12 t (st17.trans k)
  have Z17 : n0 ≤ T17.heap.size := Nat.le_trans Z12 Kc17.1
  have K17 : Keep h0 T17.heap [] := K12.trans Kc17 (allS (Or.inr sz_b2) all0)
  have f18 : Old Z n0 T17.heap := f13.keep Kc17 (allS g_b2 all0)
  have f19 : Exa Z T17.heap b2 "java/lang/String" := f14.keep Kc17
  have f20 : Arv Z T17.heap b5 k5 .char (1 : Int32) [(.int (nar .char p2))] (.int 0) := V12.keep Kc17 (ninS (Ne.symm ne_b2_b5) nin0)
  have hCa := CHr.keep K17 sf0 hCH
  have hCf := hCa.trans (CHv.at (s := s) (vm0 := s.vm) X17 hZ hEL hCa.1)
  obtain ⟨fs, hr, hrun, hended, hEnd⟩ := X17.leaveW (State.WarmedH.since (State.WarmedH.refl s) 0) (Nat.zero_le _) (v := some (.ref b2)) (fun h => by rw [Bd.returns] at h; cases h)
  refine ⟨_, _, R17 _ ?_, hrun, hended, _, _, rfl, ?_, ?_, own_endMono hEnd (by decide) (by decide)⟩
  · exact retOut X17 hx Bd.returns rfl (Or.inr (Or.inr (Or.inr (Or.inr ⟨rfl, rfl, rfl⟩)))) (hb hby own_d1_34) hr
  · show Q_rmMk_11 Z p2 p3 cz fm h0 n0 _ T17.heap _
    exact ⟨b2, rfl, N17, K17, Sn17⟩
  · show CHr Z own_EL s.vm s.heap T17.vm T17.heap
    rw [hh]
    exact hCf
theorem own_ef_rmMk_10 (m : MethodId) (x0 : Int32) (x1 : Int32) (x2 : Int32) : entryFrame m #[(.int x0), (.int x1), (.int x2)] 3 = mkF m 0 #[oI x0, oI x1, oI x2] [] := by first | (simp [entryFrame, mkF, argsToLocals, Value.category]; done) | rfl
def Q_rmMk_10 (Z : State) (p2 p3 : Int32) (cz : Int32) (fm : Value) (h0 : Heap) (n0 : Nat) (v : Option Value) (h : Heap) (L : List Loc) : Prop := ∃ b : Addr, v = some (.ref b) ∧ Fr n0 L ∧ Keep h0 h [] ∧ own_Str Z h b (1 : Int32) p2 p3
set_option maxRecDepth 65536 in
set_option maxHeartbeats 40000000 in
theorem rmMk_10 (l : Launch) (Z : State) (a0 : Array Value) (hw : oT a0 Z) (ws : List Jvm.Cond) (p2 p3 : Int32) (cz : Int32) (fm : Value) (h0 : Heap) (n0 : Nat) (Z0 : n0 ≤ h0.size) (SU : own_St Z cz fm) (OX : Old Z n0 h0) (r0 : own_R p2) (r1 : own_R p3) (u0 : (255 : Int32) < p2) :
    MetFree l (⟨"com/example/firm_store/firmstore/IdentifiersCompareCodePointsPinLaw", "make", "(ICC)Ljava/lang/String;"⟩ : MethodName) (head1 (Jvm.Cond.code (⟨"com/example/firm_store/firmstore/IdentifiersCompareCodePointsPinLaw", "make", "(ICC)Ljava/lang/String;"⟩ : MethodName) method_3_code 3 (some (.object "java/lang/String")) :: ws) (oM 8 8 40 190)) (fun a U => a = #[(.int 1), (.int p2), (.int p3)] ∧ Z.Warmed39 U.vm ∧ U.heap = h0 ∧ CHv Z own_EL U.vm h0) (fun _ _ _ _ _ => True) (fun _ U o U' => ∃ v L, o = .returned v ∧ Q_rmMk_10 Z p2 p3 cz fm h0 n0 v U'.heap L ∧ CHr Z own_EL U.vm U.heap U'.vm U'.heap ∧ ReturnedEndW U o U' L (oM 8 8 40 190).cells (oM 8 8 40 190).slots) := by
  refine MetFree.of_bodySF (plainFor_of_name own_pn0) hisR ?_
  intro p e s m args below meth c s₁ Bd hml0 hP hK
  obtain ⟨rfl, hZ, hh, hCH⟩ := hP
  have hEL := own_ew hw
  have hx := Bd.exec
  have hby := Bd.bytes
  have hml : c.maxLocals = 3 := hml0
  have hown : s.vm.findClass "com/example/firm_store/firmstore/IdentifiersCompareCodePointsPinLaw" = some m.cls := findClass_of_methodNamed Bd.named
  have hnm := (name_of_methodNamed Bd.named Bd.method).1
  have X0 : Stand p l e (oM 8 8 40 190) s m #[(.int 1), (.int p2), (.int p3)] below meth c s₁ [] 0 0 := Stand.of_body Bd
  have e0 : s₁.heap = h0 := by rw [← hh, Bd.state]; rfl
  have N0 := Fr.nil n0
  have R0 : ∀ t, oG p e below s₁ m 0 #[oI 1, oI p2, oI p3] [] t → Steps p.tables e below (s₁.setTop (entryFrame m #[(.int 1), (.int p2), (.int p3)] 3)) t := fun t k => castTop (own_ef_rmMk_10 m (1 : Int32) p2 p3) k
  have R1 : ∀ t, oG p e below s₁ m 20 #[oI 1, oI p2, oI p3] [] t → Steps p.tables e below (s₁.setTop (entryFrame m #[(.int 1), (.int p2), (.int p3)] 3)) t := by
    intro t k
    refine R0 t ?_
    refine XS.iloadN X0.here hx rfl (hb hby own_d1_0) rfl ?_
    refine XS.ifYes X0.here hx rfl (pc0 := 1) (pc' := 15) rfl (hb hby own_d1_1) rfl ((if0 _ _).trans (feq (by decide : ¬ ((1 : Int32) = (0 : Int32)))).2) (by decide) (by decide) ?_
    refine XS.iloadN X0.here hx rfl (hb hby own_d1_15) rfl ?_
    show oG p e below s₁ m 16 #[oI 1, oI p2, oI p3] [(.int 1)] _
    refine XS.iconst X0.here hx rfl (hb hby own_d1_16) ?_
    refine XS.icmpNo X0.here hx rfl (hb hby own_d1_17) rfl (teq (by decide : ((1 : Int32) = (1 : Int32)))).2 ?_
    exact k
  obtain ⟨T2, h2, X2, e2, E2, A2, D2, -, st2⟩ := newO X0 hx hZ hown (oW hw 4 rfl) (oW hw 5 rfl) (oW hw 6 rfl) e0 (g := (mkF m 20 #[oI 1, oI p2, oI p3] [])) rfl (hb hby own_d1_20) (by decide) (by decide)
  obtain ⟨b2, g2⟩ : ∃ z, z = h0.size := ⟨_, rfl⟩
  rw [← g2] at A2 D2 st2
  have R2 : ∀ t, oG p e below T2 m 23 #[oI 1, oI p2, oI p3] [(.ref b2)] t → Steps p.tables e below (s₁.setTop (entryFrame m #[(.int 1), (.int p2), (.int p3)] 3)) t := fun t k => R1 t (st2 t k)
  have g_b2 : n0 ≤ b2 := Nat.le_trans Z0 (Nat.le_of_eq g2.symm)
  have sz_b2 : h0.size ≤ b2 := Nat.le_trans (Keep.refl h0 []).1 (Nat.le_of_eq g2.symm)
  have Z2 : n0 ≤ h2.size := Nat.le_trans Z0 E2.1
  have K2 : Keep h0 h2 [] := (Keep.refl h0 []).ext E2
  have f3 : Old Z n0 h2 := OX.ext E2
  have F2_31 : Fld Z h2 b2 "java/lang/String" "coder" "B" (.int 0) := D2 (Or.inr (oW hw 31 rfl)) (ty := .byte) (by decide)
  have F2_33 : Fld Z h2 b2 "java/lang/String" "value" "[B" .null := D2 (Or.inr (oW hw 33 rfl)) (ty := (.array .byte)) (by decide)
  have R4 : ∀ t, oG p e below T2 m 25 #[oI 1, oI p2, oI p3] [(.int 1), (.ref b2), (.ref b2)] t → Steps p.tables e below (s₁.setTop (entryFrame m #[(.int 1), (.int p2), (.int p3)] 3)) t := by
    intro t k
    refine R2 t ?_
    refine XS.dup X2.here hx rfl (hb hby own_d1_23) rfl rfl ?_
    refine XS.iconst X2.here hx rfl (hb hby own_d1_24) ?_
    exact k
  obtain ⟨T5, h5, k5, X5, e5, E5, A5, st5⟩ := newP X2 hx hZ (oW hw 7 rfl) e2 (g := (mkF m 25 #[oI 1, oI p2, oI p3] [(.int 1), (.ref b2), (.ref b2)])) rfl (hb hby own_d1_25) rfl (by decide) (cap := 1) (by decide) (by decide) (by decide) (by decide)
  obtain ⟨b5, g5⟩ : ∃ z, z = h2.size := ⟨_, rfl⟩
  rw [← g5] at A5 st5
  have R5 : ∀ t, oG p e below T5 m 27 #[oI 1, oI p2, oI p3] [(.ref b5), (.ref b2), (.ref b2)] t → Steps p.tables e below (s₁.setTop (entryFrame m #[(.int 1), (.int p2), (.int p3)] 3)) t := fun t k => R4 t (st5 t k)
  have ne_b2_b5 : b2 ≠ b5 := Nat.ne_of_lt (Nat.lt_of_lt_of_le A2.lt (Nat.le_of_eq g5.symm))
  have g_b5 : n0 ≤ b5 := Nat.le_trans Z2 (Nat.le_of_eq g5.symm)
  have sz_b5 : h0.size ≤ b5 := Nat.le_trans K2.1 (Nat.le_of_eq g5.symm)
  have Z5 : n0 ≤ h5.size := Nat.le_trans Z2 E5.1
  have K5 : Keep h0 h5 [] := K2.ext E5
  have f6 : Old Z n0 h5 := f3.ext E5
  have f7 : Exa Z h5 b2 "java/lang/String" := A2.ext E5
  have f8 : Fld Z h5 b2 "java/lang/String" "coder" "B" (.int 0) := F2_31.ext E5
  have f9 : Fld Z h5 b2 "java/lang/String" "value" "[B" .null := F2_33.ext E5
  have V5 : Arv Z h5 b5 k5 .char (1 : Int32) [(.int 0)] (.int 0) := (Arv.new A5 (by decide)).pad (pad_rep [] (.int 0) 1)
  have R10 : ∀ t, oG p e below T5 m 30 #[oI 1, oI p2, oI p3] [(.int p2), (.int 0), (.ref b5), (.ref b5), (.ref b2), (.ref b2)] t → Steps p.tables e below (s₁.setTop (entryFrame m #[(.int 1), (.int p2), (.int p3)] 3)) t := by
    intro t k
    refine R5 t ?_
    refine XS.dup X5.here hx rfl (hb hby own_d1_27) rfl rfl ?_
    refine XS.iconst X5.here hx rfl (hb hby own_d1_28) ?_
    refine XS.iloadN X5.here hx rfl (hb hby own_d1_29) rfl ?_
    exact k
  obtain ⟨cl11, Ar11, q11, S11, N11', H11, G11⟩ := id V5
  have hin11 : ¬ ((0 : Int32) < 0 ∨ cl11.slots.size ≤ ((0 : Int32)).toNatClampNeg) := inb_of S11 ⟨by decide, by decide⟩
  obtain ⟨T12, h12, X12, e12, W12, st12⟩ := stC X5 hx hZ e5 Ar11 (j := (0 : Int32)) hin11 (g := (mkF m 30 #[oI 1, oI p2, oI p3] [(.int p2), (.int 0), (.ref b5), (.ref b5), (.ref b2), (.ref b2)])) rfl rfl (hb hby own_d1_30)
  have R12 : ∀ t, oG p e below T12 m 31 #[oI 1, oI p2, oI p3] [(.ref b5), (.ref b2), (.ref b2)] t → Steps p.tables e below (s₁.setTop (entryFrame m #[(.int 1), (.int p2), (.int p3)] 3)) t := fun t k => R10 t (st12 t k)
  have Z12 : n0 ≤ h12.size := Nat.le_trans Z5 (Keep.of_wr W12).1
  have K12 : Keep h0 h12 [] := K5.wr W12 (Or.inr sz_b5)
  have N12 := Fr.snoc X12 N0 g_b5
  have f13 : Old Z n0 h12 := f6.wr W12 g_b5
  have f14 : Exa Z h12 b2 "java/lang/String" := f7.wr W12
  have f15 : Fld Z h12 b2 "java/lang/String" "coder" "B" (.int 0) := f8.other W12 (Or.inl ne_b2_b5)
  have f16 : Fld Z h12 b2 "java/lang/String" "value" "[B" .null := f9.other W12 (Or.inl ne_b2_b5)
  have V12 : Arv Z h12 b5 k5 .char (1 : Int32) [(.int (nar .char p2))] (.int 0) := Arv.set Ar11 q11 S11 N11' H11 G11 (fits_nar_char _) W12 0 rfl (Nat.le_of_ble_eq_true rfl)
  have Vc : Arv Z h12 b5 k5 .char (1 : Int32) [(.int p2)] (.int 0) := by
    have q := V12
    rw [own_narc r0] at q; exact q
  obtain ⟨_, _, ⟨T17, L17, k17, n17⟩, -, X17, ⟨Lc17, hQ17, l17, y17, z17⟩, st17⟩ := X12.specialBack hx (y := (⟨"java/lang/String", "<init>", "([C)V"⟩ : MethodName)) rfl hown (mvT hZ (oW hw 8 rfl)) (mvT hZ (oW hw 9 rfl)) (mvT hZ (oW hw 10 rfl)) (by decide) (backOf (W := 1) (rmI1_10 l Z a0 hw [] b2 b5 k5 cz fm p2 p3 h12 n0 Z12 SU f13 f16 f15 f14 g_b2 Vc ne_b2_b5 u0 r0) hZ (oW hw 10 rfl) (oW hw 6 rfl) (by decide) (by decide)) (g := (mkF m 31 #[oI 1, oI p2, oI p3] [(.ref b5), (.ref b2), (.ref b2)])) rfl (by rw [hml]; rfl) (Steps.refl _) (a := b2) (argsL := [(.ref b5)]) (rest := [(.ref b2)]) (lenOf own_pd1 rfl) rfl (by show 2 * 0 + _ ≤ _; exact Nat.le_of_eq rfl) (hb hby own_d1_31) (fun _ _ => ⟨rfl, e12, (by decide : 2 + 2 ≤ _), (by decide : 5 + 3 ≤ _)⟩)
  dsimp only [Pt.U, Pt.locs, Pt.cells, Pt.slots] at X17 l17 y17 z17 st17 hQ17
  subst l17 y17 z17
  obtain ⟨rfl, Nq17, Kc17, Sn17⟩ := hQ17
  have N17 := Fr.app N12 Nq17
  have R17 : ∀ t, oG p e below T17 m 34 #[oI 1, oI p2, oI p3] [(.ref b2)] t → Steps p.tables e below (s₁.setTop (entryFrame m #[(.int 1), (.int p2), (.int p3)] 3)) t := fun t k => R12 t (st17.trans k)
  have Z17 : n0 ≤ T17.heap.size := Nat.le_trans Z12 Kc17.1
  have K17 : Keep h0 T17.heap [] := K12.trans Kc17 (allS (Or.inr sz_b2) all0)
  have f18 : Old Z n0 T17.heap := f13.keep Kc17 (allS g_b2 all0)
  have f19 : Exa Z T17.heap b2 "java/lang/String" := f14.keep Kc17
  have f20 : Arv Z T17.heap b5 k5 .char (1 : Int32) [(.int (nar .char p2))] (.int 0) := V12.keep Kc17 (ninS (Ne.symm ne_b2_b5) nin0)
  have hCa := CHr.keep K17 sf0 hCH
  have hCf := hCa.trans (CHv.at (s := s) (vm0 := s.vm) X17 hZ hEL hCa.1)
  obtain ⟨fs, hr, hrun, hended, hEnd⟩ := X17.leaveW (State.WarmedH.since (State.WarmedH.refl s) 0) (Nat.zero_le _) (v := some (.ref b2)) (fun h => by rw [Bd.returns] at h; cases h)
  refine ⟨_, _, R17 _ ?_, hrun, hended, _, _, rfl, ?_, ?_, own_endMono hEnd (by decide) (by decide)⟩
  · exact retOut X17 hx Bd.returns rfl (Or.inr (Or.inr (Or.inr (Or.inr ⟨rfl, rfl, rfl⟩)))) (hb hby own_d1_34) hr
  · show Q_rmMk_10 Z p2 p3 cz fm h0 n0 _ T17.heap _
    exact ⟨b2, rfl, N17, K17, Sn17⟩
  · show CHr Z own_EL s.vm s.heap T17.vm T17.heap
    rw [hh]
    exact hCf
theorem own_ef_rmMk_22 (m : MethodId) (x0 : Int32) (x1 : Int32) (x2 : Int32) : entryFrame m #[(.int x0), (.int x1), (.int x2)] 3 = mkF m 0 #[oI x0, oI x1, oI x2] [] := by first | (simp [entryFrame, mkF, argsToLocals, Value.category]; done) | rfl
theorem own_d1_35 : decode method_3_code 35 = .ok (.new 31, 3) := by decide +kernel
theorem own_d1_38 : decode method_3_code 38 = .ok (.dup, 1) := by decide +kernel
theorem own_d1_39 : decode method_3_code 39 = .ok (.iconst 2, 1) := by decide +kernel
theorem own_d1_40 : decode method_3_code 40 = .ok (.newarray .char, 2) := by decide +kernel
theorem own_d1_42 : decode method_3_code 42 = .ok (.dup, 1) := by decide +kernel
theorem own_d1_43 : decode method_3_code 43 = .ok (.iconst 0, 1) := by decide +kernel
theorem own_d1_44 : decode method_3_code 44 = .ok (.iload_n 1, 1) := by decide +kernel
theorem own_d1_45 : decode method_3_code 45 = .ok (.castore, 1) := by decide +kernel
theorem own_d1_46 : decode method_3_code 46 = .ok (.dup, 1) := by decide +kernel
theorem own_d1_47 : decode method_3_code 47 = .ok (.iconst 1, 1) := by decide +kernel
theorem own_d1_48 : decode method_3_code 48 = .ok (.iload_n 2, 1) := by decide +kernel
theorem own_d1_49 : decode method_3_code 49 = .ok (.castore, 1) := by decide +kernel
theorem own_d1_50 : decode method_3_code 50 = .ok (.invokespecial 33, 3) := by decide +kernel
theorem own_d1_53 : decode method_3_code 53 = .ok (.areturn, 1) := by decide +kernel
def Q_rmMk_22 (Z : State) (p2 p3 : Int32) (cz : Int32) (fm : Value) (h0 : Heap) (n0 : Nat) (v : Option Value) (h : Heap) (L : List Loc) : Prop := ∃ b : Addr, v = some (.ref b) ∧ Fr n0 L ∧ Keep h0 h [] ∧ own_Str Z h b (2 : Int32) p2 p3
set_option maxRecDepth 65536 in
set_option maxHeartbeats 40000000 in
theorem rmMk_22 (l : Launch) (Z : State) (a0 : Array Value) (hw : oT a0 Z) (ws : List Jvm.Cond) (p2 p3 : Int32) (cz : Int32) (fm : Value) (h0 : Heap) (n0 : Nat) (Z0 : n0 ≤ h0.size) (SU : own_St Z cz fm) (OX : Old Z n0 h0) (r0 : own_R p2) (r1 : own_R p3) (t0 : ¬ (255 : Int32) < p2) (t1 : ¬ (255 : Int32) < p3) :
    MetFree l (⟨"com/example/firm_store/firmstore/IdentifiersCompareCodePointsPinLaw", "make", "(ICC)Ljava/lang/String;"⟩ : MethodName) (head1 (Jvm.Cond.code (⟨"com/example/firm_store/firmstore/IdentifiersCompareCodePointsPinLaw", "make", "(ICC)Ljava/lang/String;"⟩ : MethodName) method_3_code 3 (some (.object "java/lang/String")) :: ws) (oM 8 8 40 190)) (fun a U => a = #[(.int 2), (.int p2), (.int p3)] ∧ Z.Warmed39 U.vm ∧ U.heap = h0 ∧ CHv Z own_EL U.vm h0) (fun _ _ _ _ _ => True) (fun _ U o U' => ∃ v L, o = .returned v ∧ Q_rmMk_22 Z p2 p3 cz fm h0 n0 v U'.heap L ∧ CHr Z own_EL U.vm U.heap U'.vm U'.heap ∧ ReturnedEndW U o U' L (oM 8 8 40 190).cells (oM 8 8 40 190).slots) := by
  refine MetFree.of_bodySF (plainFor_of_name own_pn0) hisR ?_
  intro p e s m args below meth c s₁ Bd hml0 hP hK
  obtain ⟨rfl, hZ, hh, hCH⟩ := hP
  have hEL := own_ew hw
  have hx := Bd.exec
  have hby := Bd.bytes
  have hml : c.maxLocals = 3 := hml0
  have hown : s.vm.findClass "com/example/firm_store/firmstore/IdentifiersCompareCodePointsPinLaw" = some m.cls := findClass_of_methodNamed Bd.named
  have hnm := (name_of_methodNamed Bd.named Bd.method).1
  have X0 : Stand p l e (oM 8 8 40 190) s m #[(.int 2), (.int p2), (.int p3)] below meth c s₁ [] 0 0 := Stand.of_body Bd
  have e0 : s₁.heap = h0 := by rw [← hh, Bd.state]; rfl
  have N0 := Fr.nil n0
  have R0 : ∀ t, oG p e below s₁ m 0 #[oI 2, oI p2, oI p3] [] t → Steps p.tables e below (s₁.setTop (entryFrame m #[(.int 2), (.int p2), (.int p3)] 3)) t := fun t k => castTop (own_ef_rmMk_22 m (2 : Int32) p2 p3) k
  have R1 : ∀ t, oG p e below s₁ m 35 #[oI 2, oI p2, oI p3] [] t → Steps p.tables e below (s₁.setTop (entryFrame m #[(.int 2), (.int p2), (.int p3)] 3)) t := by
    intro t k
    refine R0 t ?_
    refine XS.iloadN X0.here hx rfl (hb hby own_d1_0) rfl ?_
    refine XS.ifYes X0.here hx rfl (pc0 := 1) (pc' := 15) rfl (hb hby own_d1_1) rfl ((if0 _ _).trans (feq (by decide : ¬ ((2 : Int32) = (0 : Int32)))).2) (by decide) (by decide) ?_
    refine XS.iloadN X0.here hx rfl (hb hby own_d1_15) rfl ?_
    show oG p e below s₁ m 16 #[oI 2, oI p2, oI p3] [(.int 2)] _
    refine XS.iconst X0.here hx rfl (hb hby own_d1_16) ?_
    refine XS.icmpYes X0.here hx rfl (pc0 := 17) (pc' := 35) rfl (hb hby own_d1_17) rfl (feq (by decide : ¬ ((2 : Int32) = (1 : Int32)))).2 (by decide) (by decide) ?_
    exact k
  obtain ⟨T2, h2, X2, e2, E2, A2, D2, -, st2⟩ := newO X0 hx hZ hown (oW hw 4 rfl) (oW hw 5 rfl) (oW hw 6 rfl) e0 (g := (mkF m 35 #[oI 2, oI p2, oI p3] [])) rfl (hb hby own_d1_35) (by decide) (by decide)
  obtain ⟨b2, g2⟩ : ∃ z, z = h0.size := ⟨_, rfl⟩
  rw [← g2] at A2 D2 st2
  have R2 : ∀ t, oG p e below T2 m 38 #[oI 2, oI p2, oI p3] [(.ref b2)] t → Steps p.tables e below (s₁.setTop (entryFrame m #[(.int 2), (.int p2), (.int p3)] 3)) t := fun t k => R1 t (st2 t k)
  have g_b2 : n0 ≤ b2 := Nat.le_trans Z0 (Nat.le_of_eq g2.symm)
  have sz_b2 : h0.size ≤ b2 := Nat.le_trans (Keep.refl h0 []).1 (Nat.le_of_eq g2.symm)
  have Z2 : n0 ≤ h2.size := Nat.le_trans Z0 E2.1
  have K2 : Keep h0 h2 [] := (Keep.refl h0 []).ext E2
  have f3 : Old Z n0 h2 := OX.ext E2
  have F2_31 : Fld Z h2 b2 "java/lang/String" "coder" "B" (.int 0) := D2 (Or.inr (oW hw 31 rfl)) (ty := .byte) (by decide)
  have F2_33 : Fld Z h2 b2 "java/lang/String" "value" "[B" .null := D2 (Or.inr (oW hw 33 rfl)) (ty := (.array .byte)) (by decide)
  have R4 : ∀ t, oG p e below T2 m 40 #[oI 2, oI p2, oI p3] [(.int 2), (.ref b2), (.ref b2)] t → Steps p.tables e below (s₁.setTop (entryFrame m #[(.int 2), (.int p2), (.int p3)] 3)) t := by
    intro t k
    refine R2 t ?_
    refine XS.dup X2.here hx rfl (hb hby own_d1_38) rfl rfl ?_
    refine XS.iconst X2.here hx rfl (hb hby own_d1_39) ?_
    exact k
  obtain ⟨T5, h5, k5, X5, e5, E5, A5, st5⟩ := newP X2 hx hZ (oW hw 7 rfl) e2 (g := (mkF m 40 #[oI 2, oI p2, oI p3] [(.int 2), (.ref b2), (.ref b2)])) rfl (hb hby own_d1_40) rfl (by decide) (cap := 2) (by decide) (by decide) (by decide) (by decide)
  obtain ⟨b5, g5⟩ : ∃ z, z = h2.size := ⟨_, rfl⟩
  rw [← g5] at A5 st5
  have R5 : ∀ t, oG p e below T5 m 42 #[oI 2, oI p2, oI p3] [(.ref b5), (.ref b2), (.ref b2)] t → Steps p.tables e below (s₁.setTop (entryFrame m #[(.int 2), (.int p2), (.int p3)] 3)) t := fun t k => R4 t (st5 t k)
  have ne_b2_b5 : b2 ≠ b5 := Nat.ne_of_lt (Nat.lt_of_lt_of_le A2.lt (Nat.le_of_eq g5.symm))
  have g_b5 : n0 ≤ b5 := Nat.le_trans Z2 (Nat.le_of_eq g5.symm)
  have sz_b5 : h0.size ≤ b5 := Nat.le_trans K2.1 (Nat.le_of_eq g5.symm)
  have Z5 : n0 ≤ h5.size := Nat.le_trans Z2 E5.1
  have K5 : Keep h0 h5 [] := K2.ext E5
  have f6 : Old Z n0 h5 := f3.ext E5
  have f7 : Exa Z h5 b2 "java/lang/String" := A2.ext E5
  have f8 : Fld Z h5 b2 "java/lang/String" "coder" "B" (.int 0) := F2_31.ext E5
  have f9 : Fld Z h5 b2 "java/lang/String" "value" "[B" .null := F2_33.ext E5
  have V5 : Arv Z h5 b5 k5 .char (2 : Int32) [(.int 0), (.int 0)] (.int 0) := (Arv.new A5 (by decide)).pad (pad_rep [] (.int 0) 2)
  have R10 : ∀ t, oG p e below T5 m 45 #[oI 2, oI p2, oI p3] [(.int p2), (.int 0), (.ref b5), (.ref b5), (.ref b2), (.ref b2)] t → Steps p.tables e below (s₁.setTop (entryFrame m #[(.int 2), (.int p2), (.int p3)] 3)) t := by
    intro t k
    refine R5 t ?_
    refine XS.dup X5.here hx rfl (hb hby own_d1_42) rfl rfl ?_
    refine XS.iconst X5.here hx rfl (hb hby own_d1_43) ?_
    refine XS.iloadN X5.here hx rfl (hb hby own_d1_44) rfl ?_
    exact k
  obtain ⟨cl11, Ar11, q11, S11, N11', H11, G11⟩ := id V5
  have hin11 : ¬ ((0 : Int32) < 0 ∨ cl11.slots.size ≤ ((0 : Int32)).toNatClampNeg) := inb_of S11 ⟨by decide, by decide⟩
  obtain ⟨T12, h12, X12, e12, W12, st12⟩ := stC X5 hx hZ e5 Ar11 (j := (0 : Int32)) hin11 (g := (mkF m 45 #[oI 2, oI p2, oI p3] [(.int p2), (.int 0), (.ref b5), (.ref b5), (.ref b2), (.ref b2)])) rfl rfl (hb hby own_d1_45)
  have R12 : ∀ t, oG p e below T12 m 46 #[oI 2, oI p2, oI p3] [(.ref b5), (.ref b2), (.ref b2)] t → Steps p.tables e below (s₁.setTop (entryFrame m #[(.int 2), (.int p2), (.int p3)] 3)) t := fun t k => R10 t (st12 t k)
  have Z12 : n0 ≤ h12.size := Nat.le_trans Z5 (Keep.of_wr W12).1
  have K12 : Keep h0 h12 [] := K5.wr W12 (Or.inr sz_b5)
  have N12 := Fr.snoc X12 N0 g_b5
  have f13 : Old Z n0 h12 := f6.wr W12 g_b5
  have f14 : Exa Z h12 b2 "java/lang/String" := f7.wr W12
  have f15 : Fld Z h12 b2 "java/lang/String" "coder" "B" (.int 0) := f8.other W12 (Or.inl ne_b2_b5)
  have f16 : Fld Z h12 b2 "java/lang/String" "value" "[B" .null := f9.other W12 (Or.inl ne_b2_b5)
  have V12 : Arv Z h12 b5 k5 .char (2 : Int32) [(.int (nar .char p2)), (.int 0)] (.int 0) := Arv.set Ar11 q11 S11 N11' H11 G11 (fits_nar_char _) W12 0 rfl (Nat.le_of_ble_eq_true rfl)
  have R17 : ∀ t, oG p e below T12 m 49 #[oI 2, oI p2, oI p3] [(.int p3), (.int 1), (.ref b5), (.ref b5), (.ref b2), (.ref b2)] t → Steps p.tables e below (s₁.setTop (entryFrame m #[(.int 2), (.int p2), (.int p3)] 3)) t := by
    intro t k
    refine R12 t ?_
    refine XS.dup X12.here hx rfl (hb hby own_d1_46) rfl rfl ?_
    refine XS.iconst X12.here hx rfl (hb hby own_d1_47) ?_
    refine XS.iloadN X12.here hx rfl (hb hby own_d1_48) rfl ?_
    exact k
  obtain ⟨cl18, Ar18, q18, S18, N18', H18, G18⟩ := id V12
  have hin18 : ¬ ((1 : Int32) < 0 ∨ cl18.slots.size ≤ ((1 : Int32)).toNatClampNeg) := inb_of S18 ⟨by decide, by decide⟩
  obtain ⟨T19, h19, X19, e19, W19, st19⟩ := stC X12 hx hZ e12 Ar18 (j := (1 : Int32)) hin18 (g := (mkF m 49 #[oI 2, oI p2, oI p3] [(.int p3), (.int 1), (.ref b5), (.ref b5), (.ref b2), (.ref b2)])) rfl rfl (hb hby own_d1_49)
  have R19 : ∀ t, oG p e below T19 m 50 #[oI 2, oI p2, oI p3] [(.ref b5), (.ref b2), (.ref b2)] t → Steps p.tables e below (s₁.setTop (entryFrame m #[(.int 2), (.int p2), (.int p3)] 3)) t := fun t k => R17 t (st19 t k)
  have Z19 : n0 ≤ h19.size := Nat.le_trans Z12 (Keep.of_wr W19).1
  have K19 : Keep h0 h19 [] := K12.wr W19 (Or.inr sz_b5)
  have N19 := Fr.snoc X19 N12 g_b5
  have f20 : Old Z n0 h19 := f13.wr W19 g_b5
  have f21 : Exa Z h19 b2 "java/lang/String" := f14.wr W19
  have f22 : Fld Z h19 b2 "java/lang/String" "coder" "B" (.int 0) := f15.other W19 (Or.inl ne_b2_b5)
  have f23 : Fld Z h19 b2 "java/lang/String" "value" "[B" .null := f16.other W19 (Or.inl ne_b2_b5)
  have V19 : Arv Z h19 b5 k5 .char (2 : Int32) [(.int (nar .char p2)), (.int (nar .char p3))] (.int 0) := Arv.set Ar18 q18 S18 N18' H18 G18 (fits_nar_char _) W19 1 rfl (Nat.le_of_ble_eq_true rfl)
  have Vc : Arv Z h19 b5 k5 .char (2 : Int32) [(.int p2), (.int p3)] (.int 0) := by
    have q := V19
    rw [own_narc r0, own_narc r1] at q; exact q
  obtain ⟨_, _, ⟨T24, L24, k24, n24⟩, -, X24, ⟨Lc24, hQ24, l24, y24, z24⟩, st24⟩ := X19.specialBack hx (y := (⟨"java/lang/String", "<init>", "([C)V"⟩ : MethodName)) rfl hown (mvT hZ (oW hw 8 rfl)) (mvT hZ (oW hw 9 rfl)) (mvT hZ (oW hw 10 rfl)) (by decide) (backOf (W := 1) (rmI1_22 l Z a0 hw [] b2 b5 k5 cz fm p2 p3 h19 n0 Z19 SU f20 f23 f22 f21 g_b2 Vc ne_b2_b5 t0 t1 r0 r1) hZ (oW hw 10 rfl) (oW hw 6 rfl) (by decide) (by decide)) (g := (mkF m 50 #[oI 2, oI p2, oI p3] [(.ref b5), (.ref b2), (.ref b2)])) rfl (by rw [hml]; rfl) (Steps.refl _) (a := b2) (argsL := [(.ref b5)]) (rest := [(.ref b2)]) (lenOf own_pd1 rfl) rfl (by show 2 * 0 + _ ≤ _; exact Nat.le_of_eq rfl) (hb hby own_d1_50) (fun _ _ => ⟨rfl, e19, (by decide : 2 + 1 ≤ _), (by decide : 6 + 2 ≤ _)⟩)
  dsimp only [Pt.U, Pt.locs, Pt.cells, Pt.slots] at X24 l24 y24 z24 st24 hQ24
  subst l24 y24 z24
  obtain ⟨rfl, Nq24, Kc24, Sn24⟩ := hQ24
  have N24 := Fr.app N19 Nq24
  have R24 : ∀ t, oG p e below T24 m 53 #[oI 2, oI p2, oI p3] [(.ref b2)] t → Steps p.tables e below (s₁.setTop (entryFrame m #[(.int 2), (.int p2), (.int p3)] 3)) t := fun t k => R19 t (st24.trans k)
  have Z24 : n0 ≤ T24.heap.size := Nat.le_trans Z19 Kc24.1
  have K24 : Keep h0 T24.heap [] := K19.trans Kc24 (allS (Or.inr sz_b2) all0)
  have f25 : Old Z n0 T24.heap := f20.keep Kc24 (allS g_b2 all0)
  have f26 : Exa Z T24.heap b2 "java/lang/String" := f21.keep Kc24
  have f27 : Arv Z T24.heap b5 k5 .char (2 : Int32) [(.int (nar .char p2)), (.int (nar .char p3))] (.int 0) := V19.keep Kc24 (ninS (Ne.symm ne_b2_b5) nin0)
  have hCa := CHr.keep K24 sf0 hCH
  have hCf := hCa.trans (CHv.at (s := s) (vm0 := s.vm) X24 hZ hEL hCa.1)
  obtain ⟨fs, hr, hrun, hended, hEnd⟩ := X24.leaveW (State.WarmedH.since (State.WarmedH.refl s) 0) (Nat.zero_le _) (v := some (.ref b2)) (fun h => by rw [Bd.returns] at h; cases h)
  refine ⟨_, _, R24 _ ?_, hrun, hended, _, _, rfl, ?_, ?_, own_endMono hEnd (by decide) (by decide)⟩
  · exact retOut X24 hx Bd.returns rfl (Or.inr (Or.inr (Or.inr (Or.inr ⟨rfl, rfl, rfl⟩)))) (hb hby own_d1_53) hr
  · show Q_rmMk_22 Z p2 p3 cz fm h0 n0 _ T24.heap _
    exact ⟨b2, rfl, N24, K24, Sn24⟩
  · show CHr Z own_EL s.vm s.heap T24.vm T24.heap
    rw [hh]
    exact hCf
theorem own_ef_rmMk_21 (m : MethodId) (x0 : Int32) (x1 : Int32) (x2 : Int32) : entryFrame m #[(.int x0), (.int x1), (.int x2)] 3 = mkF m 0 #[oI x0, oI x1, oI x2] [] := by first | (simp [entryFrame, mkF, argsToLocals, Value.category]; done) | rfl
def Q_rmMk_21 (Z : State) (p2 p3 : Int32) (cz : Int32) (fm : Value) (h0 : Heap) (n0 : Nat) (v : Option Value) (h : Heap) (L : List Loc) : Prop := ∃ b : Addr, v = some (.ref b) ∧ Fr n0 L ∧ Keep h0 h [] ∧ own_Str Z h b (2 : Int32) p2 p3
set_option maxRecDepth 65536 in
set_option maxHeartbeats 40000000 in
theorem rmMk_21 (l : Launch) (Z : State) (a0 : Array Value) (hw : oT a0 Z) (ws : List Jvm.Cond) (p2 p3 : Int32) (cz : Int32) (fm : Value) (h0 : Heap) (n0 : Nat) (Z0 : n0 ≤ h0.size) (SU : own_St Z cz fm) (OX : Old Z n0 h0) (r0 : own_R p2) (r1 : own_R p3) (t0 : ¬ (255 : Int32) < p2) (u1 : (255 : Int32) < p3) :
    MetFree l (⟨"com/example/firm_store/firmstore/IdentifiersCompareCodePointsPinLaw", "make", "(ICC)Ljava/lang/String;"⟩ : MethodName) (head1 (Jvm.Cond.code (⟨"com/example/firm_store/firmstore/IdentifiersCompareCodePointsPinLaw", "make", "(ICC)Ljava/lang/String;"⟩ : MethodName) method_3_code 3 (some (.object "java/lang/String")) :: ws) (oM 8 8 40 190)) (fun a U => a = #[(.int 2), (.int p2), (.int p3)] ∧ Z.Warmed39 U.vm ∧ U.heap = h0 ∧ CHv Z own_EL U.vm h0) (fun _ _ _ _ _ => True) (fun _ U o U' => ∃ v L, o = .returned v ∧ Q_rmMk_21 Z p2 p3 cz fm h0 n0 v U'.heap L ∧ CHr Z own_EL U.vm U.heap U'.vm U'.heap ∧ ReturnedEndW U o U' L (oM 8 8 40 190).cells (oM 8 8 40 190).slots) := by
  refine MetFree.of_bodySF (plainFor_of_name own_pn0) hisR ?_
  intro p e s m args below meth c s₁ Bd hml0 hP hK
  obtain ⟨rfl, hZ, hh, hCH⟩ := hP
  have hEL := own_ew hw
  have hx := Bd.exec
  have hby := Bd.bytes
  have hml : c.maxLocals = 3 := hml0
  have hown : s.vm.findClass "com/example/firm_store/firmstore/IdentifiersCompareCodePointsPinLaw" = some m.cls := findClass_of_methodNamed Bd.named
  have hnm := (name_of_methodNamed Bd.named Bd.method).1
  have X0 : Stand p l e (oM 8 8 40 190) s m #[(.int 2), (.int p2), (.int p3)] below meth c s₁ [] 0 0 := Stand.of_body Bd
  have e0 : s₁.heap = h0 := by rw [← hh, Bd.state]; rfl
  have N0 := Fr.nil n0
  have R0 : ∀ t, oG p e below s₁ m 0 #[oI 2, oI p2, oI p3] [] t → Steps p.tables e below (s₁.setTop (entryFrame m #[(.int 2), (.int p2), (.int p3)] 3)) t := fun t k => castTop (own_ef_rmMk_21 m (2 : Int32) p2 p3) k
  have R1 : ∀ t, oG p e below s₁ m 35 #[oI 2, oI p2, oI p3] [] t → Steps p.tables e below (s₁.setTop (entryFrame m #[(.int 2), (.int p2), (.int p3)] 3)) t := by
    intro t k
    refine R0 t ?_
    refine XS.iloadN X0.here hx rfl (hb hby own_d1_0) rfl ?_
    refine XS.ifYes X0.here hx rfl (pc0 := 1) (pc' := 15) rfl (hb hby own_d1_1) rfl ((if0 _ _).trans (feq (by decide : ¬ ((2 : Int32) = (0 : Int32)))).2) (by decide) (by decide) ?_
    refine XS.iloadN X0.here hx rfl (hb hby own_d1_15) rfl ?_
    show oG p e below s₁ m 16 #[oI 2, oI p2, oI p3] [(.int 2)] _
    refine XS.iconst X0.here hx rfl (hb hby own_d1_16) ?_
    refine XS.icmpYes X0.here hx rfl (pc0 := 17) (pc' := 35) rfl (hb hby own_d1_17) rfl (feq (by decide : ¬ ((2 : Int32) = (1 : Int32)))).2 (by decide) (by decide) ?_
    exact k
  obtain ⟨T2, h2, X2, e2, E2, A2, D2, -, st2⟩ := newO X0 hx hZ hown (oW hw 4 rfl) (oW hw 5 rfl) (oW hw 6 rfl) e0 (g := (mkF m 35 #[oI 2, oI p2, oI p3] [])) rfl (hb hby own_d1_35) (by decide) (by decide)
  obtain ⟨b2, g2⟩ : ∃ z, z = h0.size := ⟨_, rfl⟩
  rw [← g2] at A2 D2 st2
  have R2 : ∀ t, oG p e below T2 m 38 #[oI 2, oI p2, oI p3] [(.ref b2)] t → Steps p.tables e below (s₁.setTop (entryFrame m #[(.int 2), (.int p2), (.int p3)] 3)) t := fun t k => R1 t (st2 t k)
  have g_b2 : n0 ≤ b2 := Nat.le_trans Z0 (Nat.le_of_eq g2.symm)
  have sz_b2 : h0.size ≤ b2 := Nat.le_trans (Keep.refl h0 []).1 (Nat.le_of_eq g2.symm)
  have Z2 : n0 ≤ h2.size := Nat.le_trans Z0 E2.1
  have K2 : Keep h0 h2 [] := (Keep.refl h0 []).ext E2
  have f3 : Old Z n0 h2 := OX.ext E2
  have F2_31 : Fld Z h2 b2 "java/lang/String" "coder" "B" (.int 0) := D2 (Or.inr (oW hw 31 rfl)) (ty := .byte) (by decide)
  have F2_33 : Fld Z h2 b2 "java/lang/String" "value" "[B" .null := D2 (Or.inr (oW hw 33 rfl)) (ty := (.array .byte)) (by decide)
  have R4 : ∀ t, oG p e below T2 m 40 #[oI 2, oI p2, oI p3] [(.int 2), (.ref b2), (.ref b2)] t → Steps p.tables e below (s₁.setTop (entryFrame m #[(.int 2), (.int p2), (.int p3)] 3)) t := by
    intro t k
    refine R2 t ?_
    refine XS.dup X2.here hx rfl (hb hby own_d1_38) rfl rfl ?_
    refine XS.iconst X2.here hx rfl (hb hby own_d1_39) ?_
    exact k
  obtain ⟨T5, h5, k5, X5, e5, E5, A5, st5⟩ := newP X2 hx hZ (oW hw 7 rfl) e2 (g := (mkF m 40 #[oI 2, oI p2, oI p3] [(.int 2), (.ref b2), (.ref b2)])) rfl (hb hby own_d1_40) rfl (by decide) (cap := 2) (by decide) (by decide) (by decide) (by decide)
  obtain ⟨b5, g5⟩ : ∃ z, z = h2.size := ⟨_, rfl⟩
  rw [← g5] at A5 st5
  have R5 : ∀ t, oG p e below T5 m 42 #[oI 2, oI p2, oI p3] [(.ref b5), (.ref b2), (.ref b2)] t → Steps p.tables e below (s₁.setTop (entryFrame m #[(.int 2), (.int p2), (.int p3)] 3)) t := fun t k => R4 t (st5 t k)
  have ne_b2_b5 : b2 ≠ b5 := Nat.ne_of_lt (Nat.lt_of_lt_of_le A2.lt (Nat.le_of_eq g5.symm))
  have g_b5 : n0 ≤ b5 := Nat.le_trans Z2 (Nat.le_of_eq g5.symm)
  have sz_b5 : h0.size ≤ b5 := Nat.le_trans K2.1 (Nat.le_of_eq g5.symm)
  have Z5 : n0 ≤ h5.size := Nat.le_trans Z2 E5.1
  have K5 : Keep h0 h5 [] := K2.ext E5
  have f6 : Old Z n0 h5 := f3.ext E5
  have f7 : Exa Z h5 b2 "java/lang/String" := A2.ext E5
  have f8 : Fld Z h5 b2 "java/lang/String" "coder" "B" (.int 0) := F2_31.ext E5
  have f9 : Fld Z h5 b2 "java/lang/String" "value" "[B" .null := F2_33.ext E5
  have V5 : Arv Z h5 b5 k5 .char (2 : Int32) [(.int 0), (.int 0)] (.int 0) := (Arv.new A5 (by decide)).pad (pad_rep [] (.int 0) 2)
  have R10 : ∀ t, oG p e below T5 m 45 #[oI 2, oI p2, oI p3] [(.int p2), (.int 0), (.ref b5), (.ref b5), (.ref b2), (.ref b2)] t → Steps p.tables e below (s₁.setTop (entryFrame m #[(.int 2), (.int p2), (.int p3)] 3)) t := by
    intro t k
    refine R5 t ?_
    refine XS.dup X5.here hx rfl (hb hby own_d1_42) rfl rfl ?_
    refine XS.iconst X5.here hx rfl (hb hby own_d1_43) ?_
    refine XS.iloadN X5.here hx rfl (hb hby own_d1_44) rfl ?_
    exact k
  obtain ⟨cl11, Ar11, q11, S11, N11', H11, G11⟩ := id V5
  have hin11 : ¬ ((0 : Int32) < 0 ∨ cl11.slots.size ≤ ((0 : Int32)).toNatClampNeg) := inb_of S11 ⟨by decide, by decide⟩
  obtain ⟨T12, h12, X12, e12, W12, st12⟩ := stC X5 hx hZ e5 Ar11 (j := (0 : Int32)) hin11 (g := (mkF m 45 #[oI 2, oI p2, oI p3] [(.int p2), (.int 0), (.ref b5), (.ref b5), (.ref b2), (.ref b2)])) rfl rfl (hb hby own_d1_45)
  have R12 : ∀ t, oG p e below T12 m 46 #[oI 2, oI p2, oI p3] [(.ref b5), (.ref b2), (.ref b2)] t → Steps p.tables e below (s₁.setTop (entryFrame m #[(.int 2), (.int p2), (.int p3)] 3)) t := fun t k => R10 t (st12 t k)
  have Z12 : n0 ≤ h12.size := Nat.le_trans Z5 (Keep.of_wr W12).1
  have K12 : Keep h0 h12 [] := K5.wr W12 (Or.inr sz_b5)
  have N12 := Fr.snoc X12 N0 g_b5
  have f13 : Old Z n0 h12 := f6.wr W12 g_b5
  have f14 : Exa Z h12 b2 "java/lang/String" := f7.wr W12
  have f15 : Fld Z h12 b2 "java/lang/String" "coder" "B" (.int 0) := f8.other W12 (Or.inl ne_b2_b5)
  have f16 : Fld Z h12 b2 "java/lang/String" "value" "[B" .null := f9.other W12 (Or.inl ne_b2_b5)
  have V12 : Arv Z h12 b5 k5 .char (2 : Int32) [(.int (nar .char p2)), (.int 0)] (.int 0) := Arv.set Ar11 q11 S11 N11' H11 G11 (fits_nar_char _) W12 0 rfl (Nat.le_of_ble_eq_true rfl)
  have R17 : ∀ t, oG p e below T12 m 49 #[oI 2, oI p2, oI p3] [(.int p3), (.int 1), (.ref b5), (.ref b5), (.ref b2), (.ref b2)] t → Steps p.tables e below (s₁.setTop (entryFrame m #[(.int 2), (.int p2), (.int p3)] 3)) t := by
    intro t k
    refine R12 t ?_
    refine XS.dup X12.here hx rfl (hb hby own_d1_46) rfl rfl ?_
    refine XS.iconst X12.here hx rfl (hb hby own_d1_47) ?_
    refine XS.iloadN X12.here hx rfl (hb hby own_d1_48) rfl ?_
    exact k
  obtain ⟨cl18, Ar18, q18, S18, N18', H18, G18⟩ := id V12
  have hin18 : ¬ ((1 : Int32) < 0 ∨ cl18.slots.size ≤ ((1 : Int32)).toNatClampNeg) := inb_of S18 ⟨by decide, by decide⟩
  obtain ⟨T19, h19, X19, e19, W19, st19⟩ := stC X12 hx hZ e12 Ar18 (j := (1 : Int32)) hin18 (g := (mkF m 49 #[oI 2, oI p2, oI p3] [(.int p3), (.int 1), (.ref b5), (.ref b5), (.ref b2), (.ref b2)])) rfl rfl (hb hby own_d1_49)
  have R19 : ∀ t, oG p e below T19 m 50 #[oI 2, oI p2, oI p3] [(.ref b5), (.ref b2), (.ref b2)] t → Steps p.tables e below (s₁.setTop (entryFrame m #[(.int 2), (.int p2), (.int p3)] 3)) t := fun t k => R17 t (st19 t k)
  have Z19 : n0 ≤ h19.size := Nat.le_trans Z12 (Keep.of_wr W19).1
  have K19 : Keep h0 h19 [] := K12.wr W19 (Or.inr sz_b5)
  have N19 := Fr.snoc X19 N12 g_b5
  have f20 : Old Z n0 h19 := f13.wr W19 g_b5
  have f21 : Exa Z h19 b2 "java/lang/String" := f14.wr W19
  have f22 : Fld Z h19 b2 "java/lang/String" "coder" "B" (.int 0) := f15.other W19 (Or.inl ne_b2_b5)
  have f23 : Fld Z h19 b2 "java/lang/String" "value" "[B" .null := f16.other W19 (Or.inl ne_b2_b5)
  have V19 : Arv Z h19 b5 k5 .char (2 : Int32) [(.int (nar .char p2)), (.int (nar .char p3))] (.int 0) := Arv.set Ar18 q18 S18 N18' H18 G18 (fits_nar_char _) W19 1 rfl (Nat.le_of_ble_eq_true rfl)
  have Vc : Arv Z h19 b5 k5 .char (2 : Int32) [(.int p2), (.int p3)] (.int 0) := by
    have q := V19
    rw [own_narc r0, own_narc r1] at q; exact q
  obtain ⟨_, _, ⟨T24, L24, k24, n24⟩, -, X24, ⟨Lc24, hQ24, l24, y24, z24⟩, st24⟩ := X19.specialBack hx (y := (⟨"java/lang/String", "<init>", "([C)V"⟩ : MethodName)) rfl hown (mvT hZ (oW hw 8 rfl)) (mvT hZ (oW hw 9 rfl)) (mvT hZ (oW hw 10 rfl)) (by decide) (backOf (W := 1) (rmI1_21 l Z a0 hw [] b2 b5 k5 cz fm p2 p3 h19 n0 Z19 SU f20 f23 f22 f21 g_b2 Vc ne_b2_b5 t0 u1 r0 r1) hZ (oW hw 10 rfl) (oW hw 6 rfl) (by decide) (by decide)) (g := (mkF m 50 #[oI 2, oI p2, oI p3] [(.ref b5), (.ref b2), (.ref b2)])) rfl (by rw [hml]; rfl) (Steps.refl _) (a := b2) (argsL := [(.ref b5)]) (rest := [(.ref b2)]) (lenOf own_pd1 rfl) rfl (by show 2 * 0 + _ ≤ _; exact Nat.le_of_eq rfl) (hb hby own_d1_50) (fun _ _ => ⟨rfl, e19, (by decide : 2 + 2 ≤ _), (by decide : 6 + 6 ≤ _)⟩)
  dsimp only [Pt.U, Pt.locs, Pt.cells, Pt.slots] at X24 l24 y24 z24 st24 hQ24
  subst l24 y24 z24
  obtain ⟨rfl, Nq24, Kc24, Sn24⟩ := hQ24
  have N24 := Fr.app N19 Nq24
  have R24 : ∀ t, oG p e below T24 m 53 #[oI 2, oI p2, oI p3] [(.ref b2)] t → Steps p.tables e below (s₁.setTop (entryFrame m #[(.int 2), (.int p2), (.int p3)] 3)) t := fun t k => R19 t (st24.trans k)
  have Z24 : n0 ≤ T24.heap.size := Nat.le_trans Z19 Kc24.1
  have K24 : Keep h0 T24.heap [] := K19.trans Kc24 (allS (Or.inr sz_b2) all0)
  have f25 : Old Z n0 T24.heap := f20.keep Kc24 (allS g_b2 all0)
  have f26 : Exa Z T24.heap b2 "java/lang/String" := f21.keep Kc24
  have f27 : Arv Z T24.heap b5 k5 .char (2 : Int32) [(.int (nar .char p2)), (.int (nar .char p3))] (.int 0) := V19.keep Kc24 (ninS (Ne.symm ne_b2_b5) nin0)
  have hCa := CHr.keep K24 sf0 hCH
  have hCf := hCa.trans (CHv.at (s := s) (vm0 := s.vm) X24 hZ hEL hCa.1)
  obtain ⟨fs, hr, hrun, hended, hEnd⟩ := X24.leaveW (State.WarmedH.since (State.WarmedH.refl s) 0) (Nat.zero_le _) (v := some (.ref b2)) (fun h => by rw [Bd.returns] at h; cases h)
  refine ⟨_, _, R24 _ ?_, hrun, hended, _, _, rfl, ?_, ?_, own_endMono hEnd (by decide) (by decide)⟩
  · exact retOut X24 hx Bd.returns rfl (Or.inr (Or.inr (Or.inr (Or.inr ⟨rfl, rfl, rfl⟩)))) (hb hby own_d1_53) hr
  · show Q_rmMk_21 Z p2 p3 cz fm h0 n0 _ T24.heap _
    exact ⟨b2, rfl, N24, K24, Sn24⟩
  · show CHr Z own_EL s.vm s.heap T24.vm T24.heap
    rw [hh]
    exact hCf
theorem own_ef_rmMk_20 (m : MethodId) (x0 : Int32) (x1 : Int32) (x2 : Int32) : entryFrame m #[(.int x0), (.int x1), (.int x2)] 3 = mkF m 0 #[oI x0, oI x1, oI x2] [] := by first | (simp [entryFrame, mkF, argsToLocals, Value.category]; done) | rfl
def Q_rmMk_20 (Z : State) (p2 p3 : Int32) (cz : Int32) (fm : Value) (h0 : Heap) (n0 : Nat) (v : Option Value) (h : Heap) (L : List Loc) : Prop := ∃ b : Addr, v = some (.ref b) ∧ Fr n0 L ∧ Keep h0 h [] ∧ own_Str Z h b (2 : Int32) p2 p3
set_option maxRecDepth 65536 in
set_option maxHeartbeats 40000000 in
theorem rmMk_20 (l : Launch) (Z : State) (a0 : Array Value) (hw : oT a0 Z) (ws : List Jvm.Cond) (p2 p3 : Int32) (cz : Int32) (fm : Value) (h0 : Heap) (n0 : Nat) (Z0 : n0 ≤ h0.size) (SU : own_St Z cz fm) (OX : Old Z n0 h0) (r0 : own_R p2) (r1 : own_R p3) (u0 : (255 : Int32) < p2) :
    MetFree l (⟨"com/example/firm_store/firmstore/IdentifiersCompareCodePointsPinLaw", "make", "(ICC)Ljava/lang/String;"⟩ : MethodName) (head1 (Jvm.Cond.code (⟨"com/example/firm_store/firmstore/IdentifiersCompareCodePointsPinLaw", "make", "(ICC)Ljava/lang/String;"⟩ : MethodName) method_3_code 3 (some (.object "java/lang/String")) :: ws) (oM 8 8 40 190)) (fun a U => a = #[(.int 2), (.int p2), (.int p3)] ∧ Z.Warmed39 U.vm ∧ U.heap = h0 ∧ CHv Z own_EL U.vm h0) (fun _ _ _ _ _ => True) (fun _ U o U' => ∃ v L, o = .returned v ∧ Q_rmMk_20 Z p2 p3 cz fm h0 n0 v U'.heap L ∧ CHr Z own_EL U.vm U.heap U'.vm U'.heap ∧ ReturnedEndW U o U' L (oM 8 8 40 190).cells (oM 8 8 40 190).slots) := by
  refine MetFree.of_bodySF (plainFor_of_name own_pn0) hisR ?_
  intro p e s m args below meth c s₁ Bd hml0 hP hK
  obtain ⟨rfl, hZ, hh, hCH⟩ := hP
  have hEL := own_ew hw
  have hx := Bd.exec
  have hby := Bd.bytes
  have hml : c.maxLocals = 3 := hml0
  have hown : s.vm.findClass "com/example/firm_store/firmstore/IdentifiersCompareCodePointsPinLaw" = some m.cls := findClass_of_methodNamed Bd.named
  have hnm := (name_of_methodNamed Bd.named Bd.method).1
  have X0 : Stand p l e (oM 8 8 40 190) s m #[(.int 2), (.int p2), (.int p3)] below meth c s₁ [] 0 0 := Stand.of_body Bd
  have e0 : s₁.heap = h0 := by rw [← hh, Bd.state]; rfl
  have N0 := Fr.nil n0
  have R0 : ∀ t, oG p e below s₁ m 0 #[oI 2, oI p2, oI p3] [] t → Steps p.tables e below (s₁.setTop (entryFrame m #[(.int 2), (.int p2), (.int p3)] 3)) t := fun t k => castTop (own_ef_rmMk_20 m (2 : Int32) p2 p3) k
  have R1 : ∀ t, oG p e below s₁ m 35 #[oI 2, oI p2, oI p3] [] t → Steps p.tables e below (s₁.setTop (entryFrame m #[(.int 2), (.int p2), (.int p3)] 3)) t := by
    intro t k
    refine R0 t ?_
    refine XS.iloadN X0.here hx rfl (hb hby own_d1_0) rfl ?_
    refine XS.ifYes X0.here hx rfl (pc0 := 1) (pc' := 15) rfl (hb hby own_d1_1) rfl ((if0 _ _).trans (feq (by decide : ¬ ((2 : Int32) = (0 : Int32)))).2) (by decide) (by decide) ?_
    refine XS.iloadN X0.here hx rfl (hb hby own_d1_15) rfl ?_
    show oG p e below s₁ m 16 #[oI 2, oI p2, oI p3] [(.int 2)] _
    refine XS.iconst X0.here hx rfl (hb hby own_d1_16) ?_
    refine XS.icmpYes X0.here hx rfl (pc0 := 17) (pc' := 35) rfl (hb hby own_d1_17) rfl (feq (by decide : ¬ ((2 : Int32) = (1 : Int32)))).2 (by decide) (by decide) ?_
    exact k
  obtain ⟨T2, h2, X2, e2, E2, A2, D2, -, st2⟩ := newO X0 hx hZ hown (oW hw 4 rfl) (oW hw 5 rfl) (oW hw 6 rfl) e0 (g := (mkF m 35 #[oI 2, oI p2, oI p3] [])) rfl (hb hby own_d1_35) (by decide) (by decide)
  obtain ⟨b2, g2⟩ : ∃ z, z = h0.size := ⟨_, rfl⟩
  rw [← g2] at A2 D2 st2
  have R2 : ∀ t, oG p e below T2 m 38 #[oI 2, oI p2, oI p3] [(.ref b2)] t → Steps p.tables e below (s₁.setTop (entryFrame m #[(.int 2), (.int p2), (.int p3)] 3)) t := fun t k => R1 t (st2 t k)
  have g_b2 : n0 ≤ b2 := Nat.le_trans Z0 (Nat.le_of_eq g2.symm)
  have sz_b2 : h0.size ≤ b2 := Nat.le_trans (Keep.refl h0 []).1 (Nat.le_of_eq g2.symm)
  have Z2 : n0 ≤ h2.size := Nat.le_trans Z0 E2.1
  have K2 : Keep h0 h2 [] := (Keep.refl h0 []).ext E2
  have f3 : Old Z n0 h2 := OX.ext E2
  have F2_31 : Fld Z h2 b2 "java/lang/String" "coder" "B" (.int 0) := D2 (Or.inr (oW hw 31 rfl)) (ty := .byte) (by decide)
  have F2_33 : Fld Z h2 b2 "java/lang/String" "value" "[B" .null := D2 (Or.inr (oW hw 33 rfl)) (ty := (.array .byte)) (by decide)
  have R4 : ∀ t, oG p e below T2 m 40 #[oI 2, oI p2, oI p3] [(.int 2), (.ref b2), (.ref b2)] t → Steps p.tables e below (s₁.setTop (entryFrame m #[(.int 2), (.int p2), (.int p3)] 3)) t := by
    intro t k
    refine R2 t ?_
    refine XS.dup X2.here hx rfl (hb hby own_d1_38) rfl rfl ?_
    refine XS.iconst X2.here hx rfl (hb hby own_d1_39) ?_
    exact k
  obtain ⟨T5, h5, k5, X5, e5, E5, A5, st5⟩ := newP X2 hx hZ (oW hw 7 rfl) e2 (g := (mkF m 40 #[oI 2, oI p2, oI p3] [(.int 2), (.ref b2), (.ref b2)])) rfl (hb hby own_d1_40) rfl (by decide) (cap := 2) (by decide) (by decide) (by decide) (by decide)
  obtain ⟨b5, g5⟩ : ∃ z, z = h2.size := ⟨_, rfl⟩
  rw [← g5] at A5 st5
  have R5 : ∀ t, oG p e below T5 m 42 #[oI 2, oI p2, oI p3] [(.ref b5), (.ref b2), (.ref b2)] t → Steps p.tables e below (s₁.setTop (entryFrame m #[(.int 2), (.int p2), (.int p3)] 3)) t := fun t k => R4 t (st5 t k)
  have ne_b2_b5 : b2 ≠ b5 := Nat.ne_of_lt (Nat.lt_of_lt_of_le A2.lt (Nat.le_of_eq g5.symm))
  have g_b5 : n0 ≤ b5 := Nat.le_trans Z2 (Nat.le_of_eq g5.symm)
  have sz_b5 : h0.size ≤ b5 := Nat.le_trans K2.1 (Nat.le_of_eq g5.symm)
  have Z5 : n0 ≤ h5.size := Nat.le_trans Z2 E5.1
  have K5 : Keep h0 h5 [] := K2.ext E5
  have f6 : Old Z n0 h5 := f3.ext E5
  have f7 : Exa Z h5 b2 "java/lang/String" := A2.ext E5
  have f8 : Fld Z h5 b2 "java/lang/String" "coder" "B" (.int 0) := F2_31.ext E5
  have f9 : Fld Z h5 b2 "java/lang/String" "value" "[B" .null := F2_33.ext E5
  have V5 : Arv Z h5 b5 k5 .char (2 : Int32) [(.int 0), (.int 0)] (.int 0) := (Arv.new A5 (by decide)).pad (pad_rep [] (.int 0) 2)
  have R10 : ∀ t, oG p e below T5 m 45 #[oI 2, oI p2, oI p3] [(.int p2), (.int 0), (.ref b5), (.ref b5), (.ref b2), (.ref b2)] t → Steps p.tables e below (s₁.setTop (entryFrame m #[(.int 2), (.int p2), (.int p3)] 3)) t := by
    intro t k
    refine R5 t ?_
    refine XS.dup X5.here hx rfl (hb hby own_d1_42) rfl rfl ?_
    refine XS.iconst X5.here hx rfl (hb hby own_d1_43) ?_
    refine XS.iloadN X5.here hx rfl (hb hby own_d1_44) rfl ?_
    exact k
  obtain ⟨cl11, Ar11, q11, S11, N11', H11, G11⟩ := id V5
  have hin11 : ¬ ((0 : Int32) < 0 ∨ cl11.slots.size ≤ ((0 : Int32)).toNatClampNeg) := inb_of S11 ⟨by decide, by decide⟩
  obtain ⟨T12, h12, X12, e12, W12, st12⟩ := stC X5 hx hZ e5 Ar11 (j := (0 : Int32)) hin11 (g := (mkF m 45 #[oI 2, oI p2, oI p3] [(.int p2), (.int 0), (.ref b5), (.ref b5), (.ref b2), (.ref b2)])) rfl rfl (hb hby own_d1_45)
  have R12 : ∀ t, oG p e below T12 m 46 #[oI 2, oI p2, oI p3] [(.ref b5), (.ref b2), (.ref b2)] t → Steps p.tables e below (s₁.setTop (entryFrame m #[(.int 2), (.int p2), (.int p3)] 3)) t := fun t k => R10 t (st12 t k)
  have Z12 : n0 ≤ h12.size := Nat.le_trans Z5 (Keep.of_wr W12).1
  have K12 : Keep h0 h12 [] := K5.wr W12 (Or.inr sz_b5)
  have N12 := Fr.snoc X12 N0 g_b5
  have f13 : Old Z n0 h12 := f6.wr W12 g_b5
  have f14 : Exa Z h12 b2 "java/lang/String" := f7.wr W12
  have f15 : Fld Z h12 b2 "java/lang/String" "coder" "B" (.int 0) := f8.other W12 (Or.inl ne_b2_b5)
  have f16 : Fld Z h12 b2 "java/lang/String" "value" "[B" .null := f9.other W12 (Or.inl ne_b2_b5)
  have V12 : Arv Z h12 b5 k5 .char (2 : Int32) [(.int (nar .char p2)), (.int 0)] (.int 0) := Arv.set Ar11 q11 S11 N11' H11 G11 (fits_nar_char _) W12 0 rfl (Nat.le_of_ble_eq_true rfl)
  have R17 : ∀ t, oG p e below T12 m 49 #[oI 2, oI p2, oI p3] [(.int p3), (.int 1), (.ref b5), (.ref b5), (.ref b2), (.ref b2)] t → Steps p.tables e below (s₁.setTop (entryFrame m #[(.int 2), (.int p2), (.int p3)] 3)) t := by
    intro t k
    refine R12 t ?_
    refine XS.dup X12.here hx rfl (hb hby own_d1_46) rfl rfl ?_
    refine XS.iconst X12.here hx rfl (hb hby own_d1_47) ?_
    refine XS.iloadN X12.here hx rfl (hb hby own_d1_48) rfl ?_
    exact k
  obtain ⟨cl18, Ar18, q18, S18, N18', H18, G18⟩ := id V12
  have hin18 : ¬ ((1 : Int32) < 0 ∨ cl18.slots.size ≤ ((1 : Int32)).toNatClampNeg) := inb_of S18 ⟨by decide, by decide⟩
  obtain ⟨T19, h19, X19, e19, W19, st19⟩ := stC X12 hx hZ e12 Ar18 (j := (1 : Int32)) hin18 (g := (mkF m 49 #[oI 2, oI p2, oI p3] [(.int p3), (.int 1), (.ref b5), (.ref b5), (.ref b2), (.ref b2)])) rfl rfl (hb hby own_d1_49)
  have R19 : ∀ t, oG p e below T19 m 50 #[oI 2, oI p2, oI p3] [(.ref b5), (.ref b2), (.ref b2)] t → Steps p.tables e below (s₁.setTop (entryFrame m #[(.int 2), (.int p2), (.int p3)] 3)) t := fun t k => R17 t (st19 t k)
  have Z19 : n0 ≤ h19.size := Nat.le_trans Z12 (Keep.of_wr W19).1
  have K19 : Keep h0 h19 [] := K12.wr W19 (Or.inr sz_b5)
  have N19 := Fr.snoc X19 N12 g_b5
  have f20 : Old Z n0 h19 := f13.wr W19 g_b5
  have f21 : Exa Z h19 b2 "java/lang/String" := f14.wr W19
  have f22 : Fld Z h19 b2 "java/lang/String" "coder" "B" (.int 0) := f15.other W19 (Or.inl ne_b2_b5)
  have f23 : Fld Z h19 b2 "java/lang/String" "value" "[B" .null := f16.other W19 (Or.inl ne_b2_b5)
  have V19 : Arv Z h19 b5 k5 .char (2 : Int32) [(.int (nar .char p2)), (.int (nar .char p3))] (.int 0) := Arv.set Ar18 q18 S18 N18' H18 G18 (fits_nar_char _) W19 1 rfl (Nat.le_of_ble_eq_true rfl)
  have Vc : Arv Z h19 b5 k5 .char (2 : Int32) [(.int p2), (.int p3)] (.int 0) := by
    have q := V19
    rw [own_narc r0, own_narc r1] at q; exact q
  obtain ⟨_, _, ⟨T24, L24, k24, n24⟩, -, X24, ⟨Lc24, hQ24, l24, y24, z24⟩, st24⟩ := X19.specialBack hx (y := (⟨"java/lang/String", "<init>", "([C)V"⟩ : MethodName)) rfl hown (mvT hZ (oW hw 8 rfl)) (mvT hZ (oW hw 9 rfl)) (mvT hZ (oW hw 10 rfl)) (by decide) (backOf (W := 1) (rmI1_20 l Z a0 hw [] b2 b5 k5 cz fm p2 p3 h19 n0 Z19 SU f20 f23 f22 f21 g_b2 Vc ne_b2_b5 u0 r0 r1) hZ (oW hw 10 rfl) (oW hw 6 rfl) (by decide) (by decide)) (g := (mkF m 50 #[oI 2, oI p2, oI p3] [(.ref b5), (.ref b2), (.ref b2)])) rfl (by rw [hml]; rfl) (Steps.refl _) (a := b2) (argsL := [(.ref b5)]) (rest := [(.ref b2)]) (lenOf own_pd1 rfl) rfl (by show 2 * 0 + _ ≤ _; exact Nat.le_of_eq rfl) (hb hby own_d1_50) (fun _ _ => ⟨rfl, e19, (by decide : 2 + 2 ≤ _), (by decide : 6 + 6 ≤ _)⟩)
  dsimp only [Pt.U, Pt.locs, Pt.cells, Pt.slots] at X24 l24 y24 z24 st24 hQ24
  subst l24 y24 z24
  obtain ⟨rfl, Nq24, Kc24, Sn24⟩ := hQ24
  have N24 := Fr.app N19 Nq24
  have R24 : ∀ t, oG p e below T24 m 53 #[oI 2, oI p2, oI p3] [(.ref b2)] t → Steps p.tables e below (s₁.setTop (entryFrame m #[(.int 2), (.int p2), (.int p3)] 3)) t := fun t k => R19 t (st24.trans k)
  have Z24 : n0 ≤ T24.heap.size := Nat.le_trans Z19 Kc24.1
  have K24 : Keep h0 T24.heap [] := K19.trans Kc24 (allS (Or.inr sz_b2) all0)
  have f25 : Old Z n0 T24.heap := f20.keep Kc24 (allS g_b2 all0)
  have f26 : Exa Z T24.heap b2 "java/lang/String" := f21.keep Kc24
  have f27 : Arv Z T24.heap b5 k5 .char (2 : Int32) [(.int (nar .char p2)), (.int (nar .char p3))] (.int 0) := V19.keep Kc24 (ninS (Ne.symm ne_b2_b5) nin0)
  have hCa := CHr.keep K24 sf0 hCH
  have hCf := hCa.trans (CHv.at (s := s) (vm0 := s.vm) X24 hZ hEL hCa.1)
  obtain ⟨fs, hr, hrun, hended, hEnd⟩ := X24.leaveW (State.WarmedH.since (State.WarmedH.refl s) 0) (Nat.zero_le _) (v := some (.ref b2)) (fun h => by rw [Bd.returns] at h; cases h)
  refine ⟨_, _, R24 _ ?_, hrun, hended, _, _, rfl, ?_, ?_, own_endMono hEnd (by decide) (by decide)⟩
  · exact retOut X24 hx Bd.returns rfl (Or.inr (Or.inr (Or.inr (Or.inr ⟨rfl, rfl, rfl⟩)))) (hb hby own_d1_53) hr
  · show Q_rmMk_20 Z p2 p3 cz fm h0 n0 _ T24.heap _
    exact ⟨b2, rfl, N24, K24, Sn24⟩
  · show CHr Z own_EL s.vm s.heap T24.vm T24.heap
    rw [hh]
    exact hCf
-- PARTE
def Q_rmMake (Z : State) (p1 p2 p3 : Int32) (cz : Int32) (fm : Value) (h0 : Heap) (n0 : Nat) (v : Option Value) (h : Heap) (L : List Loc) : Prop := ∃ b : Addr, v = some (.ref b) ∧ Fr n0 L ∧ Keep h0 h [] ∧ own_Str Z h b p1 p2 p3
set_option maxRecDepth 65536 in
set_option maxHeartbeats 40000000 in
theorem rmMake (l : Launch) (Z : State) (a0 : Array Value) (hw : oT a0 Z) (ws : List Jvm.Cond) (p1 p2 p3 : Int32) (cz : Int32) (fm : Value) (h0 : Heap) (n0 : Nat) (Z0 : n0 ≤ h0.size) (SU : own_St Z cz fm) (OX : Old Z n0 h0) (hn : p1 = (0 : Int32) ∨ p1 = (1 : Int32) ∨ p1 = (2 : Int32)) (r0 : own_R p2) (r1 : own_R p3) :
    MetFree l (⟨"com/example/firm_store/firmstore/IdentifiersCompareCodePointsPinLaw", "make", "(ICC)Ljava/lang/String;"⟩ : MethodName) (head1 (Jvm.Cond.code (⟨"com/example/firm_store/firmstore/IdentifiersCompareCodePointsPinLaw", "make", "(ICC)Ljava/lang/String;"⟩ : MethodName) method_3_code 3 (some (.object "java/lang/String")) :: ws) (oM 8 8 40 190)) (fun a U => a = #[(.int p1), (.int p2), (.int p3)] ∧ Z.Warmed39 U.vm ∧ U.heap = h0 ∧ CHv Z own_EL U.vm h0) (fun _ _ _ _ _ => True) (fun _ U o U' => ∃ v L, o = .returned v ∧ Q_rmMake Z p1 p2 p3 cz fm h0 n0 v U'.heap L ∧ CHr Z own_EL U.vm U.heap U'.vm U'.heap ∧ ReturnedEndW U o U' L (oM 8 8 40 190).cells (oM 8 8 40 190).slots) := by
  rcases hn with rfl | rfl | rfl
  · exact rmMk_00 l Z a0 hw ws p2 p3 cz fm h0 n0 Z0 SU OX r0 r1
  · by_cases t0 : (255 : Int32) < p2
    · exact rmMk_10 l Z a0 hw ws p2 p3 cz fm h0 n0 Z0 SU OX r0 r1 t0
    · exact rmMk_11 l Z a0 hw ws p2 p3 cz fm h0 n0 Z0 SU OX r0 r1 t0
  · by_cases t0 : (255 : Int32) < p2
    · exact rmMk_20 l Z a0 hw ws p2 p3 cz fm h0 n0 Z0 SU OX r0 r1 t0
    · by_cases t1 : (255 : Int32) < p3
      · exact rmMk_21 l Z a0 hw ws p2 p3 cz fm h0 n0 Z0 SU OX r0 r1 t0 t1
      · exact rmMk_22 l Z a0 hw ws p2 p3 cz fm h0 n0 Z0 SU OX r0 r1 t0 t1
theorem own_Str.exa {Z : State} {h : Heap} {a : Addr} {n c0 c1 : Int32} (S : own_Str Z h a n c0 c1) : Exa Z h a "java/lang/String" := by obtain ⟨b, k, E, -⟩ := S; exact E
def Q_rmLenG (Z : State) (a1 : Addr) (n c0 c1 : Int32) (cz : Int32) (fm : Value) (h0 : Heap) (n0 : Nat) (v : Option Value) (h : Heap) (L : List Loc) : Prop := v = some (.int n) ∧ Fr n0 L ∧ h = h0
set_option maxRecDepth 65536 in
set_option maxHeartbeats 40000000 in
theorem rmLenG (l : Launch) (Z : State) (a0 : Array Value) (hw : oT a0 Z) (ws : List Jvm.Cond) (a1 : Addr) (n c0 c1 : Int32) (cz : Int32) (fm : Value) (h0 : Heap) (n0 : Nat) (Z0 : n0 ≤ h0.size) (SU : own_St Z cz fm) (OX : Old Z n0 h0) (hs : own_Str Z h0 a1 n c0 c1) :
    oK l Z (⟨"java/lang/String", "length", "()I"⟩ : MethodName) jdk_42_method_54_code 1 (some .int) ws (oM 1 0 0 13) #[(.ref a1)] h0 (Q_rmLenG Z a1 n c0 c1 cz fm h0 n0) := by
  obtain ⟨b, k, E, F, D⟩ := hs
  rcases D with ⟨q, C, V⟩ | ⟨q, C, V, t⟩ | ⟨q, C, V⟩ | ⟨q, C, V, t⟩ | ⟨q, C, V⟩
  · subst q; exact rmLen00 l Z a0 hw ws a1 b k cz fm  h0 n0 Z0 SU OX E C F V
  · subst q; exact rmLen10 l Z a0 hw ws a1 b k cz fm c0 h0 n0 Z0 SU OX E C F V
  · subst q; exact rmLen11 l Z a0 hw ws a1 b k cz fm c0 h0 n0 Z0 SU OX E C F V
  · subst q; exact rmLen20 l Z a0 hw ws a1 b k cz fm c0 c1 h0 n0 Z0 SU OX E C F V
  · subst q; exact rmLen21 l Z a0 hw ws a1 b k cz fm c0 c1 h0 n0 Z0 SU OX E C F V
def Q_rmCP10 (Z : State) (a1 : Addr) (c0 c1 : Int32) (cz : Int32) (fm : Value) (h0 : Heap) (n0 : Nat) (v : Option Value) (h : Heap) (L : List Loc) : Prop := v = some (.int c0) ∧ Fr n0 L ∧ h = h0
set_option maxRecDepth 65536 in
set_option maxHeartbeats 40000000 in
theorem rmCP10 (l : Launch) (Z : State) (a0 : Array Value) (hw : oT a0 Z) (ws : List Jvm.Cond) (a1 : Addr) (c0 c1 : Int32) (cz : Int32) (fm : Value) (h0 : Heap) (n0 : Nat) (Z0 : n0 ≤ h0.size) (SU : own_St Z cz fm) (OX : Old Z n0 h0) (hs : own_Str Z h0 a1 (1 : Int32) c0 c1) (r0 : own_R c0) (r1 : own_R c1) :
    oK l Z (⟨"java/lang/String", "codePointAt", "(I)I"⟩ : MethodName) jdk_42_method_57_code 3 (some .int) ws (oM 3 0 0 44) #[(.ref a1), (.int 0)] h0 (Q_rmCP10 Z a1 c0 c1 cz fm h0 n0) := by
  obtain ⟨b, k, E, F, D⟩ := hs
  rcases D with ⟨q, C, V⟩ | ⟨q, C, V, t⟩ | ⟨q, C, V⟩ | ⟨q, C, V, t⟩ | ⟨q, C, V⟩
  · exact absurd q (by decide)
  · exact rmCPA100 l Z a0 hw ws a1 b k cz fm c0 h0 n0 Z0 SU OX E C F V r0 t
  · exact rmCPA110 l Z a0 hw ws a1 b k cz fm c0 h0 n0 Z0 SU OX E C F V r0
  · exact absurd q (by decide)
  · exact absurd q (by decide)
def Q_rmCP20 (Z : State) (a1 : Addr) (c0 c1 : Int32) (cz : Int32) (fm : Value) (h0 : Heap) (n0 : Nat) (v : Option Value) (h : Heap) (L : List Loc) : Prop := v = some (.int (own_cp c0 c1)) ∧ Fr n0 L ∧ h = h0
set_option maxRecDepth 65536 in
set_option maxHeartbeats 40000000 in
theorem rmCP20 (l : Launch) (Z : State) (a0 : Array Value) (hw : oT a0 Z) (ws : List Jvm.Cond) (a1 : Addr) (c0 c1 : Int32) (cz : Int32) (fm : Value) (h0 : Heap) (n0 : Nat) (Z0 : n0 ≤ h0.size) (SU : own_St Z cz fm) (OX : Old Z n0 h0) (hs : own_Str Z h0 a1 (2 : Int32) c0 c1) (r0 : own_R c0) (r1 : own_R c1) :
    oK l Z (⟨"java/lang/String", "codePointAt", "(I)I"⟩ : MethodName) jdk_42_method_57_code 3 (some .int) ws (oM 3 0 0 44) #[(.ref a1), (.int 0)] h0 (Q_rmCP20 Z a1 c0 c1 cz fm h0 n0) := by
  obtain ⟨b, k, E, F, D⟩ := hs
  rcases D with ⟨q, C, V⟩ | ⟨q, C, V, t⟩ | ⟨q, C, V⟩ | ⟨q, C, V, t⟩ | ⟨q, C, V⟩
  · exact absurd q (by decide)
  · exact absurd q (by decide)
  · exact absurd q (by decide)
  · exact rmCPA200 l Z a0 hw ws a1 b k cz fm c0 c1 h0 n0 Z0 SU OX E C F V r0 r1 t.1 t.2
  · exact rmCPA210 l Z a0 hw ws a1 b k cz fm c0 c1 h0 n0 Z0 SU OX E C F V r0 r1
def Q_rmCP21 (Z : State) (a1 : Addr) (c0 c1 : Int32) (cz : Int32) (fm : Value) (h0 : Heap) (n0 : Nat) (v : Option Value) (h : Heap) (L : List Loc) : Prop := v = some (.int c1) ∧ Fr n0 L ∧ h = h0
set_option maxRecDepth 65536 in
set_option maxHeartbeats 40000000 in
theorem rmCP21 (l : Launch) (Z : State) (a0 : Array Value) (hw : oT a0 Z) (ws : List Jvm.Cond) (a1 : Addr) (c0 c1 : Int32) (cz : Int32) (fm : Value) (h0 : Heap) (n0 : Nat) (Z0 : n0 ≤ h0.size) (SU : own_St Z cz fm) (OX : Old Z n0 h0) (hs : own_Str Z h0 a1 (2 : Int32) c0 c1) (r0 : own_R c0) (r1 : own_R c1) :
    oK l Z (⟨"java/lang/String", "codePointAt", "(I)I"⟩ : MethodName) jdk_42_method_57_code 3 (some .int) ws (oM 3 0 0 44) #[(.ref a1), (.int 1)] h0 (Q_rmCP21 Z a1 c0 c1 cz fm h0 n0) := by
  obtain ⟨b, k, E, F, D⟩ := hs
  rcases D with ⟨q, C, V⟩ | ⟨q, C, V, t⟩ | ⟨q, C, V⟩ | ⟨q, C, V, t⟩ | ⟨q, C, V⟩
  · exact absurd q (by decide)
  · exact absurd q (by decide)
  · exact absurd q (by decide)
  · exact rmCPA201 l Z a0 hw ws a1 b k cz fm c0 c1 h0 n0 Z0 SU OX E C F V r0 r1 t.1 t.2
  · exact rmCPA211 l Z a0 hw ws a1 b k cz fm c0 c1 h0 n0 Z0 SU OX E C F V r0 r1
theorem own_cc1 {x : Int32} (h : x < (65536 : Int32)) : own_cc x = (1 : Int32) := if_pos h
theorem own_cc2 {x : Int32} (h : ¬ x < (65536 : Int32)) : own_cc x = (2 : Int32) := if_neg h
theorem own_R6 {c : Int32} (r : own_R c) : c < (65536 : Int32) := by
  have q := own_Ri r
  have e1 : (65536 : Int32).toInt = 65536 := by decide
  rw [Int32.lt_iff_toInt_lt]; omega
def own_cmp00 (c0 c1 d0 d1 : Int32) : Int32 := (own_icmp (0 : Int32) (0 : Int32))
theorem own_pn6 : plainName "com/example/firm_store/firmstore/Identifiers" = true := by first | (simp [plainName, overriddenIn]; done) | decide +kernel
theorem own_ef_rmCm00 (m : MethodId) (x0 : Addr) (x1 : Addr) : entryFrame m #[(.ref x0), (.ref x1)] 5 = mkF m 0 #[oR x0, oR x1, .unset, .unset, .unset] [] := by first | (simp [entryFrame, mkF, argsToLocals, Value.category]; done) | rfl
theorem own_d13_0 : decode prog_6_method_10_code 0 = .ok (.iconst 0, 1) := by decide +kernel
theorem own_d13_1 : decode prog_6_method_10_code 1 = .ok (.istore_n 2, 1) := by decide +kernel
theorem own_d13_2 : decode prog_6_method_10_code 2 = .ok (.iload_n 2, 1) := by decide +kernel
theorem own_d13_3 : decode prog_6_method_10_code 3 = .ok (.aload_n 0, 1) := by decide +kernel
theorem own_d13_4 : decode prog_6_method_10_code 4 = .ok (.invokevirtual 88, 3) := by decide +kernel
theorem own_pd11 : parseMethodDescriptor "()I" = some ⟨[], some .int⟩ := by decide +kernel
theorem own_d13_7 : decode prog_6_method_10_code 7 = .ok (.if_icmp .ge 47, 3) := by decide +kernel
theorem own_d13_54 : decode prog_6_method_10_code 54 = .ok (.aload_n 0, 1) := by decide +kernel
theorem own_d13_55 : decode prog_6_method_10_code 55 = .ok (.invokevirtual 88, 3) := by decide +kernel
theorem own_d13_58 : decode prog_6_method_10_code 58 = .ok (.aload_n 1, 1) := by decide +kernel
theorem own_d13_59 : decode prog_6_method_10_code 59 = .ok (.invokevirtual 88, 3) := by decide +kernel
theorem own_d13_62 : decode prog_6_method_10_code 62 = .ok (.invokestatic 131, 3) := by decide +kernel
theorem own_pd13 : parseMethodDescriptor "(II)I" = some ⟨[.int, .int], some .int⟩ := by decide +kernel
theorem own_d13_65 : decode prog_6_method_10_code 65 = .ok (.ireturn, 1) := by decide +kernel
def Q_rmCm00 (Z : State) (a1 a2 : Addr) (c0 c1 d0 d1 : Int32) (cz : Int32) (fm : Value) (h0 : Heap) (n0 : Nat) (v : Option Value) (h : Heap) (L : List Loc) : Prop := v = some (.int (own_cmp00 c0 c1 d0 d1)) ∧ Fr n0 L ∧ h = h0
set_option maxRecDepth 65536 in
set_option maxHeartbeats 40000000 in
theorem rmCm00 (l : Launch) (Z : State) (a0 : Array Value) (hw : oT a0 Z) (ws : List Jvm.Cond) (a1 a2 : Addr) (c0 c1 d0 d1 : Int32) (cz : Int32) (fm : Value) (h0 : Heap) (n0 : Nat) (Z0 : n0 ≤ h0.size) (SU : own_St Z cz fm) (OX : Old Z n0 h0) (hs1 : own_Str Z h0 a1 (0 : Int32) c0 c1) (hs2 : own_Str Z h0 a2 (0 : Int32) d0 d1) (r0 : own_R c0) (r1 : own_R c1) (u0 : own_R d0) (u1 : own_R d1) :
    oK l Z (⟨"com/example/firm_store/firmstore/Identifiers", "compareCodePoints", "(Ljava/lang/String;Ljava/lang/String;)I"⟩ : MethodName) prog_6_method_10_code 5 (some .int) ws (oM 4 0 0 70) #[(.ref a1), (.ref a2)] h0 (Q_rmCm00 Z a1 a2 c0 c1 d0 d1 cz fm h0 n0) := by
  refine MetFree.of_bodySF (plainFor_of_name own_pn6) hisR ?_
  intro p e s m args below meth c s₁ Bd hml0 hP hK
  obtain ⟨rfl, hZ, hh⟩ := hP
  have hx := Bd.exec
  have hby := Bd.bytes
  have hml : c.maxLocals = 5 := hml0
  have hown : s.vm.findClass "com/example/firm_store/firmstore/Identifiers" = some m.cls := findClass_of_methodNamed Bd.named
  have hnm := (name_of_methodNamed Bd.named Bd.method).1
  have X0 : Stand p l e (oM 4 0 0 70) s m #[(.ref a1), (.ref a2)] below meth c s₁ [] 0 0 := Stand.of_body Bd
  have e0 : s₁.heap = h0 := by rw [← hh, Bd.state]; rfl
  have N0 := Fr.nil n0
  have R0 : ∀ t, oG p e below s₁ m 0 #[oR a1, oR a2, .unset, .unset, .unset] [] t → Steps p.tables e below (s₁.setTop (entryFrame m #[(.ref a1), (.ref a2)] 5)) t := fun t k => castTop (own_ef_rmCm00 m a1 a2) k
  have R1 : ∀ t, oG p e below s₁ m 4 #[oR a1, oR a2, oI 0, .unset, .unset] [(.ref a1), (.int 0)] t → Steps p.tables e below (s₁.setTop (entryFrame m #[(.ref a1), (.ref a2)] 5)) t := by
    intro t k
    refine R0 t ?_
    refine XS.iconst X0.here hx rfl (hb hby own_d13_0) ?_
    refine XS.istoreN X0.here hx rfl (hb hby own_d13_1) rfl (l' := #[oR a1, oR a2, oI 0, .unset, .unset]) rfl ?_
    refine XS.iloadN X0.here hx rfl (hb hby own_d13_2) rfl ?_
    show oG p e below s₁ m 3 #[oR a1, oR a2, oI 0, .unset, .unset] [(.int 0)] _
    refine XS.aloadN X0.here hx rfl (hb hby own_d13_3) rfl rfl ?_
    exact k
  obtain ⟨cq2, kq2, q2a, q2b, q2c⟩ := isOf hZ e0 hs1.exa
  obtain ⟨_, _, ⟨T2, L2, k2, n2⟩, -, X2, ⟨Lc2, hQ2, l2, y2, z2⟩, st2⟩ := X0.virtualBack hx (y := (⟨"java/lang/String", "length", "()I"⟩ : MethodName)) (z := (⟨"java/lang/String", "length", "()I"⟩ : MethodName)) hown (mvT hZ (oW hw 57 rfl)) (mvT hZ (oW hw 58 rfl)) (notFace_of_selects (args := #[]) (mvT hZ (oW hw 60 rfl))) (mvT hZ (oW hw 60 rfl)) (mvT hZ (oW hw 59 rfl)) (by decide) (backOf (W := 1) (rmLenG l Z a0 hw [] a1 (0 : Int32) c0 c1 cz fm h0 n0 Z0 SU OX hs1) hZ (oW hw 61 rfl) (oW hw 6 rfl) (by decide) (by decide)) q2a q2c (g := (mkF m 4 #[oR a1, oR a2, oI 0, .unset, .unset] [(.ref a1), (.int 0)])) rfl (by rw [hml]; rfl) (Steps.refl _) (argsL := []) (rest := [(.int 0)]) (lenOf own_pd11 rfl) rfl (by show 2 * 0 + _ ≤ _; exact Nat.le_of_eq rfl) (hb hby own_d13_4) (fun _ _ => ⟨rfl, e0, (by decide : 0 + 0 ≤ _), (by decide : 0 + 0 ≤ _)⟩)
  dsimp only [Pt.U, Pt.locs, Pt.cells, Pt.slots] at X2 l2 y2 z2 st2 hQ2
  subst l2 y2 z2
  obtain ⟨rfl, Nq2, eq2⟩ := hQ2
  have N2 := Fr.app N0 Nq2
  have R2 : ∀ t, oG p e below T2 m 7 #[oR a1, oR a2, oI 0, .unset, .unset] [(.int 0), (.int 0)] t → Steps p.tables e below (s₁.setTop (entryFrame m #[(.ref a1), (.ref a2)] 5)) t := fun t k => R1 t (st2.trans k)
  have R3 : ∀ t, oG p e below T2 m 55 #[oR a1, oR a2, oI 0, .unset, .unset] [(.ref a1)] t → Steps p.tables e below (s₁.setTop (entryFrame m #[(.ref a1), (.ref a2)] 5)) t := by
    intro t k
    refine R2 t ?_
    refine XS.icmpYes X2.here hx rfl (pc0 := 7) (pc' := 54) rfl (hb hby own_d13_7) rfl (flt (by decide : ¬ ((0 : Int32) < (0 : Int32)))).2.1 (by decide) (by decide) ?_
    refine XS.aloadN X2.here hx rfl (hb hby own_d13_54) rfl rfl ?_
    exact k
  obtain ⟨cq4, kq4, q4a, q4b, q4c⟩ := isOf hZ eq2 hs1.exa
  obtain ⟨_, _, ⟨T4, L4, k4, n4⟩, -, X4, ⟨Lc4, hQ4, l4, y4, z4⟩, st4⟩ := X2.virtualBack hx (y := (⟨"java/lang/String", "length", "()I"⟩ : MethodName)) (z := (⟨"java/lang/String", "length", "()I"⟩ : MethodName)) hown (mvT hZ (oW hw 57 rfl)) (mvT hZ (oW hw 58 rfl)) (notFace_of_selects (args := #[]) (mvT hZ (oW hw 60 rfl))) (mvT hZ (oW hw 60 rfl)) (mvT hZ (oW hw 59 rfl)) (by decide) (backOf (W := 0) (rmLenG l Z a0 hw [] a1 (0 : Int32) c0 c1 cz fm h0 n0 Z0 SU OX hs1) hZ (oW hw 61 rfl) (oW hw 6 rfl) (by decide) (by decide)) q4a q4c (g := (mkF m 55 #[oR a1, oR a2, oI 0, .unset, .unset] [(.ref a1)])) rfl (by rw [hml]; rfl) (Steps.refl _) (argsL := []) (rest := []) (lenOf own_pd11 rfl) rfl (by show 2 * 0 + _ ≤ _; exact Nat.le_of_eq rfl) (hb hby own_d13_55) (fun _ _ => ⟨rfl, eq2, (by decide : 0 + 0 ≤ _), (by decide : 0 + 0 ≤ _)⟩)
  dsimp only [Pt.U, Pt.locs, Pt.cells, Pt.slots] at X4 l4 y4 z4 st4 hQ4
  subst l4 y4 z4
  obtain ⟨rfl, Nq4, eq4⟩ := hQ4
  have N4 := Fr.app N2 Nq4
  have R4 : ∀ t, oG p e below T4 m 58 #[oR a1, oR a2, oI 0, .unset, .unset] [(.int 0)] t → Steps p.tables e below (s₁.setTop (entryFrame m #[(.ref a1), (.ref a2)] 5)) t := fun t k => R3 t (st4.trans k)
  have R5 : ∀ t, oG p e below T4 m 59 #[oR a1, oR a2, oI 0, .unset, .unset] [(.ref a2), (.int 0)] t → Steps p.tables e below (s₁.setTop (entryFrame m #[(.ref a1), (.ref a2)] 5)) t := by
    intro t k
    refine R4 t ?_
    refine XS.aloadN X4.here hx rfl (hb hby own_d13_58) rfl rfl ?_
    exact k
  obtain ⟨cq6, kq6, q6a, q6b, q6c⟩ := isOf hZ eq4 hs2.exa
  obtain ⟨_, _, ⟨T6, L6, k6, n6⟩, -, X6, ⟨Lc6, hQ6, l6, y6, z6⟩, st6⟩ := X4.virtualBack hx (y := (⟨"java/lang/String", "length", "()I"⟩ : MethodName)) (z := (⟨"java/lang/String", "length", "()I"⟩ : MethodName)) hown (mvT hZ (oW hw 57 rfl)) (mvT hZ (oW hw 58 rfl)) (notFace_of_selects (args := #[]) (mvT hZ (oW hw 60 rfl))) (mvT hZ (oW hw 60 rfl)) (mvT hZ (oW hw 59 rfl)) (by decide) (backOf (W := 1) (rmLenG l Z a0 hw [] a2 (0 : Int32) d0 d1 cz fm h0 n0 Z0 SU OX hs2) hZ (oW hw 61 rfl) (oW hw 6 rfl) (by decide) (by decide)) q6a q6c (g := (mkF m 59 #[oR a1, oR a2, oI 0, .unset, .unset] [(.ref a2), (.int 0)])) rfl (by rw [hml]; rfl) (Steps.refl _) (argsL := []) (rest := [(.int 0)]) (lenOf own_pd11 rfl) rfl (by show 2 * 0 + _ ≤ _; exact Nat.le_of_eq rfl) (hb hby own_d13_59) (fun _ _ => ⟨rfl, eq4, (by decide : 0 + 0 ≤ _), (by decide : 0 + 0 ≤ _)⟩)
  dsimp only [Pt.U, Pt.locs, Pt.cells, Pt.slots] at X6 l6 y6 z6 st6 hQ6
  subst l6 y6 z6
  obtain ⟨rfl, Nq6, eq6⟩ := hQ6
  have N6 := Fr.app N4 Nq6
  have R6 : ∀ t, oG p e below T6 m 62 #[oR a1, oR a2, oI 0, .unset, .unset] [(.int 0), (.int 0)] t → Steps p.tables e below (s₁.setTop (entryFrame m #[(.ref a1), (.ref a2)] 5)) t := fun t k => R5 t (st6.trans k)
  obtain ⟨_, _, ⟨T7, L7, k7, n7⟩, -, X7, ⟨Lc7, hQ7, l7, y7, z7⟩, st7⟩ := Jvm.LawKit.callS X6 hx (y := (⟨"java/lang/Integer", "compare", "(II)I"⟩ : MethodName)) hown (mvT hZ (oW hw 67 rfl)) (mvT hZ (oW hw 68 rfl)) (mvT hZ (oW hw 69 rfl)) (mvT hZ (oW hw 70 rfl)) (by decide) (backOf (W := 0) (rmICmp l Z a0 hw [] (0 : Int32) (0 : Int32)  h0 n0 Z0 ) hZ (oW hw 70 rfl) (oW hw 69 rfl) (by decide) (by decide)) (g := (mkF m 62 #[oR a1, oR a2, oI 0, .unset, .unset] [(.int 0), (.int 0)])) rfl (by rw [hml]; rfl) (argsL := [(.int 0), (.int 0)]) (rest := []) (lenOf own_pd13 rfl) rfl (by show 2 * 0 + _ ≤ _; exact Nat.le_of_eq rfl) (hb hby own_d13_62) (fun _ _ => ⟨rfl, eq6, (by decide : 0 + 0 ≤ _), (by decide : 0 + 0 ≤ _)⟩)
  dsimp only [Pt.U, Pt.locs, Pt.cells, Pt.slots] at X7 l7 y7 z7 st7 hQ7
  subst l7 y7 z7
  obtain ⟨rfl, Nq7, eq7⟩ := hQ7
  have N7 := Fr.app N6 Nq7
  have R7 : ∀ t, oG p e below T7 m 65 #[oR a1, oR a2, oI 0, .unset, .unset] [(.int (own_icmp (0 : Int32) (0 : Int32)))] t → Steps p.tables e below (s₁.setTop (entryFrame m #[(.ref a1), (.ref a2)] 5)) t := fun t k => R6 t (st7 t k)
  have hv : own_cmp00 c0 c1 d0 d1 = (own_icmp (0 : Int32) (0 : Int32)) := rfl
  obtain ⟨fs, hr, hrun, hended, hW, hsame⟩ := X7.leave (v := some (.int (own_icmp (0 : Int32) (0 : Int32)))) (fun h => by rw [Bd.returns] at h; cases h)
  refine ⟨_, _, R7 _ ?_, hrun, hended, _, _, rfl, ?_, ⟨_, rfl⟩, hW, hsame.mono (by decide) (by decide)⟩
  · exact retOut X7 hx Bd.returns rfl (Or.inl ⟨rfl, Or.inl rfl, _, rfl⟩) (hb hby own_d13_65) hr
  · show Q_rmCm00 Z a1 a2 c0 c1 d0 d1 cz fm h0 n0 _ T7.heap _
    rw [eq7]
    exact ⟨by rw [hv], N7, rfl⟩
def own_cmp01 (c0 c1 d0 d1 : Int32) : Int32 := (own_icmp (0 : Int32) (1 : Int32))
theorem own_ef_rmCm01 (m : MethodId) (x0 : Addr) (x1 : Addr) : entryFrame m #[(.ref x0), (.ref x1)] 5 = mkF m 0 #[oR x0, oR x1, .unset, .unset, .unset] [] := by first | (simp [entryFrame, mkF, argsToLocals, Value.category]; done) | rfl
def Q_rmCm01 (Z : State) (a1 a2 : Addr) (c0 c1 d0 d1 : Int32) (cz : Int32) (fm : Value) (h0 : Heap) (n0 : Nat) (v : Option Value) (h : Heap) (L : List Loc) : Prop := v = some (.int (own_cmp01 c0 c1 d0 d1)) ∧ Fr n0 L ∧ h = h0
set_option maxRecDepth 65536 in
set_option maxHeartbeats 40000000 in
theorem rmCm01 (l : Launch) (Z : State) (a0 : Array Value) (hw : oT a0 Z) (ws : List Jvm.Cond) (a1 a2 : Addr) (c0 c1 d0 d1 : Int32) (cz : Int32) (fm : Value) (h0 : Heap) (n0 : Nat) (Z0 : n0 ≤ h0.size) (SU : own_St Z cz fm) (OX : Old Z n0 h0) (hs1 : own_Str Z h0 a1 (0 : Int32) c0 c1) (hs2 : own_Str Z h0 a2 (1 : Int32) d0 d1) (r0 : own_R c0) (r1 : own_R c1) (u0 : own_R d0) (u1 : own_R d1) :
    oK l Z (⟨"com/example/firm_store/firmstore/Identifiers", "compareCodePoints", "(Ljava/lang/String;Ljava/lang/String;)I"⟩ : MethodName) prog_6_method_10_code 5 (some .int) ws (oM 4 0 0 70) #[(.ref a1), (.ref a2)] h0 (Q_rmCm01 Z a1 a2 c0 c1 d0 d1 cz fm h0 n0) := by
  refine MetFree.of_bodySF (plainFor_of_name own_pn6) hisR ?_
  intro p e s m args below meth c s₁ Bd hml0 hP hK
  obtain ⟨rfl, hZ, hh⟩ := hP
  have hx := Bd.exec
  have hby := Bd.bytes
  have hml : c.maxLocals = 5 := hml0
  have hown : s.vm.findClass "com/example/firm_store/firmstore/Identifiers" = some m.cls := findClass_of_methodNamed Bd.named
  have hnm := (name_of_methodNamed Bd.named Bd.method).1
  have X0 : Stand p l e (oM 4 0 0 70) s m #[(.ref a1), (.ref a2)] below meth c s₁ [] 0 0 := Stand.of_body Bd
  have e0 : s₁.heap = h0 := by rw [← hh, Bd.state]; rfl
  have N0 := Fr.nil n0
  have R0 : ∀ t, oG p e below s₁ m 0 #[oR a1, oR a2, .unset, .unset, .unset] [] t → Steps p.tables e below (s₁.setTop (entryFrame m #[(.ref a1), (.ref a2)] 5)) t := fun t k => castTop (own_ef_rmCm01 m a1 a2) k
  have R1 : ∀ t, oG p e below s₁ m 4 #[oR a1, oR a2, oI 0, .unset, .unset] [(.ref a1), (.int 0)] t → Steps p.tables e below (s₁.setTop (entryFrame m #[(.ref a1), (.ref a2)] 5)) t := by
    intro t k
    refine R0 t ?_
    refine XS.iconst X0.here hx rfl (hb hby own_d13_0) ?_
    refine XS.istoreN X0.here hx rfl (hb hby own_d13_1) rfl (l' := #[oR a1, oR a2, oI 0, .unset, .unset]) rfl ?_
    refine XS.iloadN X0.here hx rfl (hb hby own_d13_2) rfl ?_
    show oG p e below s₁ m 3 #[oR a1, oR a2, oI 0, .unset, .unset] [(.int 0)] _
    refine XS.aloadN X0.here hx rfl (hb hby own_d13_3) rfl rfl ?_
    exact k
  obtain ⟨cq2, kq2, q2a, q2b, q2c⟩ := isOf hZ e0 hs1.exa
  obtain ⟨_, _, ⟨T2, L2, k2, n2⟩, -, X2, ⟨Lc2, hQ2, l2, y2, z2⟩, st2⟩ := X0.virtualBack hx (y := (⟨"java/lang/String", "length", "()I"⟩ : MethodName)) (z := (⟨"java/lang/String", "length", "()I"⟩ : MethodName)) hown (mvT hZ (oW hw 57 rfl)) (mvT hZ (oW hw 58 rfl)) (notFace_of_selects (args := #[]) (mvT hZ (oW hw 60 rfl))) (mvT hZ (oW hw 60 rfl)) (mvT hZ (oW hw 59 rfl)) (by decide) (backOf (W := 1) (rmLenG l Z a0 hw [] a1 (0 : Int32) c0 c1 cz fm h0 n0 Z0 SU OX hs1) hZ (oW hw 61 rfl) (oW hw 6 rfl) (by decide) (by decide)) q2a q2c (g := (mkF m 4 #[oR a1, oR a2, oI 0, .unset, .unset] [(.ref a1), (.int 0)])) rfl (by rw [hml]; rfl) (Steps.refl _) (argsL := []) (rest := [(.int 0)]) (lenOf own_pd11 rfl) rfl (by show 2 * 0 + _ ≤ _; exact Nat.le_of_eq rfl) (hb hby own_d13_4) (fun _ _ => ⟨rfl, e0, (by decide : 0 + 0 ≤ _), (by decide : 0 + 0 ≤ _)⟩)
  dsimp only [Pt.U, Pt.locs, Pt.cells, Pt.slots] at X2 l2 y2 z2 st2 hQ2
  subst l2 y2 z2
  obtain ⟨rfl, Nq2, eq2⟩ := hQ2
  have N2 := Fr.app N0 Nq2
  have R2 : ∀ t, oG p e below T2 m 7 #[oR a1, oR a2, oI 0, .unset, .unset] [(.int 0), (.int 0)] t → Steps p.tables e below (s₁.setTop (entryFrame m #[(.ref a1), (.ref a2)] 5)) t := fun t k => R1 t (st2.trans k)
  have R3 : ∀ t, oG p e below T2 m 55 #[oR a1, oR a2, oI 0, .unset, .unset] [(.ref a1)] t → Steps p.tables e below (s₁.setTop (entryFrame m #[(.ref a1), (.ref a2)] 5)) t := by
    intro t k
    refine R2 t ?_
    refine XS.icmpYes X2.here hx rfl (pc0 := 7) (pc' := 54) rfl (hb hby own_d13_7) rfl (flt (by decide : ¬ ((0 : Int32) < (0 : Int32)))).2.1 (by decide) (by decide) ?_
    refine XS.aloadN X2.here hx rfl (hb hby own_d13_54) rfl rfl ?_
    exact k
  obtain ⟨cq4, kq4, q4a, q4b, q4c⟩ := isOf hZ eq2 hs1.exa
  obtain ⟨_, _, ⟨T4, L4, k4, n4⟩, -, X4, ⟨Lc4, hQ4, l4, y4, z4⟩, st4⟩ := X2.virtualBack hx (y := (⟨"java/lang/String", "length", "()I"⟩ : MethodName)) (z := (⟨"java/lang/String", "length", "()I"⟩ : MethodName)) hown (mvT hZ (oW hw 57 rfl)) (mvT hZ (oW hw 58 rfl)) (notFace_of_selects (args := #[]) (mvT hZ (oW hw 60 rfl))) (mvT hZ (oW hw 60 rfl)) (mvT hZ (oW hw 59 rfl)) (by decide) (backOf (W := 0) (rmLenG l Z a0 hw [] a1 (0 : Int32) c0 c1 cz fm h0 n0 Z0 SU OX hs1) hZ (oW hw 61 rfl) (oW hw 6 rfl) (by decide) (by decide)) q4a q4c (g := (mkF m 55 #[oR a1, oR a2, oI 0, .unset, .unset] [(.ref a1)])) rfl (by rw [hml]; rfl) (Steps.refl _) (argsL := []) (rest := []) (lenOf own_pd11 rfl) rfl (by show 2 * 0 + _ ≤ _; exact Nat.le_of_eq rfl) (hb hby own_d13_55) (fun _ _ => ⟨rfl, eq2, (by decide : 0 + 0 ≤ _), (by decide : 0 + 0 ≤ _)⟩)
  dsimp only [Pt.U, Pt.locs, Pt.cells, Pt.slots] at X4 l4 y4 z4 st4 hQ4
  subst l4 y4 z4
  obtain ⟨rfl, Nq4, eq4⟩ := hQ4
  have N4 := Fr.app N2 Nq4
  have R4 : ∀ t, oG p e below T4 m 58 #[oR a1, oR a2, oI 0, .unset, .unset] [(.int 0)] t → Steps p.tables e below (s₁.setTop (entryFrame m #[(.ref a1), (.ref a2)] 5)) t := fun t k => R3 t (st4.trans k)
  have R5 : ∀ t, oG p e below T4 m 59 #[oR a1, oR a2, oI 0, .unset, .unset] [(.ref a2), (.int 0)] t → Steps p.tables e below (s₁.setTop (entryFrame m #[(.ref a1), (.ref a2)] 5)) t := by
    intro t k
    refine R4 t ?_
    refine XS.aloadN X4.here hx rfl (hb hby own_d13_58) rfl rfl ?_
    exact k
  obtain ⟨cq6, kq6, q6a, q6b, q6c⟩ := isOf hZ eq4 hs2.exa
  obtain ⟨_, _, ⟨T6, L6, k6, n6⟩, -, X6, ⟨Lc6, hQ6, l6, y6, z6⟩, st6⟩ := X4.virtualBack hx (y := (⟨"java/lang/String", "length", "()I"⟩ : MethodName)) (z := (⟨"java/lang/String", "length", "()I"⟩ : MethodName)) hown (mvT hZ (oW hw 57 rfl)) (mvT hZ (oW hw 58 rfl)) (notFace_of_selects (args := #[]) (mvT hZ (oW hw 60 rfl))) (mvT hZ (oW hw 60 rfl)) (mvT hZ (oW hw 59 rfl)) (by decide) (backOf (W := 1) (rmLenG l Z a0 hw [] a2 (1 : Int32) d0 d1 cz fm h0 n0 Z0 SU OX hs2) hZ (oW hw 61 rfl) (oW hw 6 rfl) (by decide) (by decide)) q6a q6c (g := (mkF m 59 #[oR a1, oR a2, oI 0, .unset, .unset] [(.ref a2), (.int 0)])) rfl (by rw [hml]; rfl) (Steps.refl _) (argsL := []) (rest := [(.int 0)]) (lenOf own_pd11 rfl) rfl (by show 2 * 0 + _ ≤ _; exact Nat.le_of_eq rfl) (hb hby own_d13_59) (fun _ _ => ⟨rfl, eq4, (by decide : 0 + 0 ≤ _), (by decide : 0 + 0 ≤ _)⟩)
  dsimp only [Pt.U, Pt.locs, Pt.cells, Pt.slots] at X6 l6 y6 z6 st6 hQ6
  subst l6 y6 z6
  obtain ⟨rfl, Nq6, eq6⟩ := hQ6
  have N6 := Fr.app N4 Nq6
  have R6 : ∀ t, oG p e below T6 m 62 #[oR a1, oR a2, oI 0, .unset, .unset] [(.int 1), (.int 0)] t → Steps p.tables e below (s₁.setTop (entryFrame m #[(.ref a1), (.ref a2)] 5)) t := fun t k => R5 t (st6.trans k)
  obtain ⟨_, _, ⟨T7, L7, k7, n7⟩, -, X7, ⟨Lc7, hQ7, l7, y7, z7⟩, st7⟩ := Jvm.LawKit.callS X6 hx (y := (⟨"java/lang/Integer", "compare", "(II)I"⟩ : MethodName)) hown (mvT hZ (oW hw 67 rfl)) (mvT hZ (oW hw 68 rfl)) (mvT hZ (oW hw 69 rfl)) (mvT hZ (oW hw 70 rfl)) (by decide) (backOf (W := 0) (rmICmp l Z a0 hw [] (0 : Int32) (1 : Int32)  h0 n0 Z0 ) hZ (oW hw 70 rfl) (oW hw 69 rfl) (by decide) (by decide)) (g := (mkF m 62 #[oR a1, oR a2, oI 0, .unset, .unset] [(.int 1), (.int 0)])) rfl (by rw [hml]; rfl) (argsL := [(.int 0), (.int 1)]) (rest := []) (lenOf own_pd13 rfl) rfl (by show 2 * 0 + _ ≤ _; exact Nat.le_of_eq rfl) (hb hby own_d13_62) (fun _ _ => ⟨rfl, eq6, (by decide : 0 + 0 ≤ _), (by decide : 0 + 0 ≤ _)⟩)
  dsimp only [Pt.U, Pt.locs, Pt.cells, Pt.slots] at X7 l7 y7 z7 st7 hQ7
  subst l7 y7 z7
  obtain ⟨rfl, Nq7, eq7⟩ := hQ7
  have N7 := Fr.app N6 Nq7
  have R7 : ∀ t, oG p e below T7 m 65 #[oR a1, oR a2, oI 0, .unset, .unset] [(.int (own_icmp (0 : Int32) (1 : Int32)))] t → Steps p.tables e below (s₁.setTop (entryFrame m #[(.ref a1), (.ref a2)] 5)) t := fun t k => R6 t (st7 t k)
  have hv : own_cmp01 c0 c1 d0 d1 = (own_icmp (0 : Int32) (1 : Int32)) := rfl
  obtain ⟨fs, hr, hrun, hended, hW, hsame⟩ := X7.leave (v := some (.int (own_icmp (0 : Int32) (1 : Int32)))) (fun h => by rw [Bd.returns] at h; cases h)
  refine ⟨_, _, R7 _ ?_, hrun, hended, _, _, rfl, ?_, ⟨_, rfl⟩, hW, hsame.mono (by decide) (by decide)⟩
  · exact retOut X7 hx Bd.returns rfl (Or.inl ⟨rfl, Or.inl rfl, _, rfl⟩) (hb hby own_d13_65) hr
  · show Q_rmCm01 Z a1 a2 c0 c1 d0 d1 cz fm h0 n0 _ T7.heap _
    rw [eq7]
    exact ⟨by rw [hv], N7, rfl⟩
def own_cmp02 (c0 c1 d0 d1 : Int32) : Int32 := (own_icmp (0 : Int32) (2 : Int32))
theorem own_ef_rmCm02 (m : MethodId) (x0 : Addr) (x1 : Addr) : entryFrame m #[(.ref x0), (.ref x1)] 5 = mkF m 0 #[oR x0, oR x1, .unset, .unset, .unset] [] := by first | (simp [entryFrame, mkF, argsToLocals, Value.category]; done) | rfl
def Q_rmCm02 (Z : State) (a1 a2 : Addr) (c0 c1 d0 d1 : Int32) (cz : Int32) (fm : Value) (h0 : Heap) (n0 : Nat) (v : Option Value) (h : Heap) (L : List Loc) : Prop := v = some (.int (own_cmp02 c0 c1 d0 d1)) ∧ Fr n0 L ∧ h = h0
set_option maxRecDepth 65536 in
set_option maxHeartbeats 40000000 in
theorem rmCm02 (l : Launch) (Z : State) (a0 : Array Value) (hw : oT a0 Z) (ws : List Jvm.Cond) (a1 a2 : Addr) (c0 c1 d0 d1 : Int32) (cz : Int32) (fm : Value) (h0 : Heap) (n0 : Nat) (Z0 : n0 ≤ h0.size) (SU : own_St Z cz fm) (OX : Old Z n0 h0) (hs1 : own_Str Z h0 a1 (0 : Int32) c0 c1) (hs2 : own_Str Z h0 a2 (2 : Int32) d0 d1) (r0 : own_R c0) (r1 : own_R c1) (u0 : own_R d0) (u1 : own_R d1) :
    oK l Z (⟨"com/example/firm_store/firmstore/Identifiers", "compareCodePoints", "(Ljava/lang/String;Ljava/lang/String;)I"⟩ : MethodName) prog_6_method_10_code 5 (some .int) ws (oM 4 0 0 70) #[(.ref a1), (.ref a2)] h0 (Q_rmCm02 Z a1 a2 c0 c1 d0 d1 cz fm h0 n0) := by
  refine MetFree.of_bodySF (plainFor_of_name own_pn6) hisR ?_
  intro p e s m args below meth c s₁ Bd hml0 hP hK
  obtain ⟨rfl, hZ, hh⟩ := hP
  have hx := Bd.exec
  have hby := Bd.bytes
  have hml : c.maxLocals = 5 := hml0
  have hown : s.vm.findClass "com/example/firm_store/firmstore/Identifiers" = some m.cls := findClass_of_methodNamed Bd.named
  have hnm := (name_of_methodNamed Bd.named Bd.method).1
  have X0 : Stand p l e (oM 4 0 0 70) s m #[(.ref a1), (.ref a2)] below meth c s₁ [] 0 0 := Stand.of_body Bd
  have e0 : s₁.heap = h0 := by rw [← hh, Bd.state]; rfl
  have N0 := Fr.nil n0
  have R0 : ∀ t, oG p e below s₁ m 0 #[oR a1, oR a2, .unset, .unset, .unset] [] t → Steps p.tables e below (s₁.setTop (entryFrame m #[(.ref a1), (.ref a2)] 5)) t := fun t k => castTop (own_ef_rmCm02 m a1 a2) k
  have R1 : ∀ t, oG p e below s₁ m 4 #[oR a1, oR a2, oI 0, .unset, .unset] [(.ref a1), (.int 0)] t → Steps p.tables e below (s₁.setTop (entryFrame m #[(.ref a1), (.ref a2)] 5)) t := by
    intro t k
    refine R0 t ?_
    refine XS.iconst X0.here hx rfl (hb hby own_d13_0) ?_
    refine XS.istoreN X0.here hx rfl (hb hby own_d13_1) rfl (l' := #[oR a1, oR a2, oI 0, .unset, .unset]) rfl ?_
    refine XS.iloadN X0.here hx rfl (hb hby own_d13_2) rfl ?_
    show oG p e below s₁ m 3 #[oR a1, oR a2, oI 0, .unset, .unset] [(.int 0)] _
    refine XS.aloadN X0.here hx rfl (hb hby own_d13_3) rfl rfl ?_
    exact k
  obtain ⟨cq2, kq2, q2a, q2b, q2c⟩ := isOf hZ e0 hs1.exa
  obtain ⟨_, _, ⟨T2, L2, k2, n2⟩, -, X2, ⟨Lc2, hQ2, l2, y2, z2⟩, st2⟩ := X0.virtualBack hx (y := (⟨"java/lang/String", "length", "()I"⟩ : MethodName)) (z := (⟨"java/lang/String", "length", "()I"⟩ : MethodName)) hown (mvT hZ (oW hw 57 rfl)) (mvT hZ (oW hw 58 rfl)) (notFace_of_selects (args := #[]) (mvT hZ (oW hw 60 rfl))) (mvT hZ (oW hw 60 rfl)) (mvT hZ (oW hw 59 rfl)) (by decide) (backOf (W := 1) (rmLenG l Z a0 hw [] a1 (0 : Int32) c0 c1 cz fm h0 n0 Z0 SU OX hs1) hZ (oW hw 61 rfl) (oW hw 6 rfl) (by decide) (by decide)) q2a q2c (g := (mkF m 4 #[oR a1, oR a2, oI 0, .unset, .unset] [(.ref a1), (.int 0)])) rfl (by rw [hml]; rfl) (Steps.refl _) (argsL := []) (rest := [(.int 0)]) (lenOf own_pd11 rfl) rfl (by show 2 * 0 + _ ≤ _; exact Nat.le_of_eq rfl) (hb hby own_d13_4) (fun _ _ => ⟨rfl, e0, (by decide : 0 + 0 ≤ _), (by decide : 0 + 0 ≤ _)⟩)
  dsimp only [Pt.U, Pt.locs, Pt.cells, Pt.slots] at X2 l2 y2 z2 st2 hQ2
  subst l2 y2 z2
  obtain ⟨rfl, Nq2, eq2⟩ := hQ2
  have N2 := Fr.app N0 Nq2
  have R2 : ∀ t, oG p e below T2 m 7 #[oR a1, oR a2, oI 0, .unset, .unset] [(.int 0), (.int 0)] t → Steps p.tables e below (s₁.setTop (entryFrame m #[(.ref a1), (.ref a2)] 5)) t := fun t k => R1 t (st2.trans k)
  have R3 : ∀ t, oG p e below T2 m 55 #[oR a1, oR a2, oI 0, .unset, .unset] [(.ref a1)] t → Steps p.tables e below (s₁.setTop (entryFrame m #[(.ref a1), (.ref a2)] 5)) t := by
    intro t k
    refine R2 t ?_
    refine XS.icmpYes X2.here hx rfl (pc0 := 7) (pc' := 54) rfl (hb hby own_d13_7) rfl (flt (by decide : ¬ ((0 : Int32) < (0 : Int32)))).2.1 (by decide) (by decide) ?_
    refine XS.aloadN X2.here hx rfl (hb hby own_d13_54) rfl rfl ?_
    exact k
  obtain ⟨cq4, kq4, q4a, q4b, q4c⟩ := isOf hZ eq2 hs1.exa
  obtain ⟨_, _, ⟨T4, L4, k4, n4⟩, -, X4, ⟨Lc4, hQ4, l4, y4, z4⟩, st4⟩ := X2.virtualBack hx (y := (⟨"java/lang/String", "length", "()I"⟩ : MethodName)) (z := (⟨"java/lang/String", "length", "()I"⟩ : MethodName)) hown (mvT hZ (oW hw 57 rfl)) (mvT hZ (oW hw 58 rfl)) (notFace_of_selects (args := #[]) (mvT hZ (oW hw 60 rfl))) (mvT hZ (oW hw 60 rfl)) (mvT hZ (oW hw 59 rfl)) (by decide) (backOf (W := 0) (rmLenG l Z a0 hw [] a1 (0 : Int32) c0 c1 cz fm h0 n0 Z0 SU OX hs1) hZ (oW hw 61 rfl) (oW hw 6 rfl) (by decide) (by decide)) q4a q4c (g := (mkF m 55 #[oR a1, oR a2, oI 0, .unset, .unset] [(.ref a1)])) rfl (by rw [hml]; rfl) (Steps.refl _) (argsL := []) (rest := []) (lenOf own_pd11 rfl) rfl (by show 2 * 0 + _ ≤ _; exact Nat.le_of_eq rfl) (hb hby own_d13_55) (fun _ _ => ⟨rfl, eq2, (by decide : 0 + 0 ≤ _), (by decide : 0 + 0 ≤ _)⟩)
  dsimp only [Pt.U, Pt.locs, Pt.cells, Pt.slots] at X4 l4 y4 z4 st4 hQ4
  subst l4 y4 z4
  obtain ⟨rfl, Nq4, eq4⟩ := hQ4
  have N4 := Fr.app N2 Nq4
  have R4 : ∀ t, oG p e below T4 m 58 #[oR a1, oR a2, oI 0, .unset, .unset] [(.int 0)] t → Steps p.tables e below (s₁.setTop (entryFrame m #[(.ref a1), (.ref a2)] 5)) t := fun t k => R3 t (st4.trans k)
  have R5 : ∀ t, oG p e below T4 m 59 #[oR a1, oR a2, oI 0, .unset, .unset] [(.ref a2), (.int 0)] t → Steps p.tables e below (s₁.setTop (entryFrame m #[(.ref a1), (.ref a2)] 5)) t := by
    intro t k
    refine R4 t ?_
    refine XS.aloadN X4.here hx rfl (hb hby own_d13_58) rfl rfl ?_
    exact k
  obtain ⟨cq6, kq6, q6a, q6b, q6c⟩ := isOf hZ eq4 hs2.exa
  obtain ⟨_, _, ⟨T6, L6, k6, n6⟩, -, X6, ⟨Lc6, hQ6, l6, y6, z6⟩, st6⟩ := X4.virtualBack hx (y := (⟨"java/lang/String", "length", "()I"⟩ : MethodName)) (z := (⟨"java/lang/String", "length", "()I"⟩ : MethodName)) hown (mvT hZ (oW hw 57 rfl)) (mvT hZ (oW hw 58 rfl)) (notFace_of_selects (args := #[]) (mvT hZ (oW hw 60 rfl))) (mvT hZ (oW hw 60 rfl)) (mvT hZ (oW hw 59 rfl)) (by decide) (backOf (W := 1) (rmLenG l Z a0 hw [] a2 (2 : Int32) d0 d1 cz fm h0 n0 Z0 SU OX hs2) hZ (oW hw 61 rfl) (oW hw 6 rfl) (by decide) (by decide)) q6a q6c (g := (mkF m 59 #[oR a1, oR a2, oI 0, .unset, .unset] [(.ref a2), (.int 0)])) rfl (by rw [hml]; rfl) (Steps.refl _) (argsL := []) (rest := [(.int 0)]) (lenOf own_pd11 rfl) rfl (by show 2 * 0 + _ ≤ _; exact Nat.le_of_eq rfl) (hb hby own_d13_59) (fun _ _ => ⟨rfl, eq4, (by decide : 0 + 0 ≤ _), (by decide : 0 + 0 ≤ _)⟩)
  dsimp only [Pt.U, Pt.locs, Pt.cells, Pt.slots] at X6 l6 y6 z6 st6 hQ6
  subst l6 y6 z6
  obtain ⟨rfl, Nq6, eq6⟩ := hQ6
  have N6 := Fr.app N4 Nq6
  have R6 : ∀ t, oG p e below T6 m 62 #[oR a1, oR a2, oI 0, .unset, .unset] [(.int 2), (.int 0)] t → Steps p.tables e below (s₁.setTop (entryFrame m #[(.ref a1), (.ref a2)] 5)) t := fun t k => R5 t (st6.trans k)
  obtain ⟨_, _, ⟨T7, L7, k7, n7⟩, -, X7, ⟨Lc7, hQ7, l7, y7, z7⟩, st7⟩ := Jvm.LawKit.callS X6 hx (y := (⟨"java/lang/Integer", "compare", "(II)I"⟩ : MethodName)) hown (mvT hZ (oW hw 67 rfl)) (mvT hZ (oW hw 68 rfl)) (mvT hZ (oW hw 69 rfl)) (mvT hZ (oW hw 70 rfl)) (by decide) (backOf (W := 0) (rmICmp l Z a0 hw [] (0 : Int32) (2 : Int32)  h0 n0 Z0 ) hZ (oW hw 70 rfl) (oW hw 69 rfl) (by decide) (by decide)) (g := (mkF m 62 #[oR a1, oR a2, oI 0, .unset, .unset] [(.int 2), (.int 0)])) rfl (by rw [hml]; rfl) (argsL := [(.int 0), (.int 2)]) (rest := []) (lenOf own_pd13 rfl) rfl (by show 2 * 0 + _ ≤ _; exact Nat.le_of_eq rfl) (hb hby own_d13_62) (fun _ _ => ⟨rfl, eq6, (by decide : 0 + 0 ≤ _), (by decide : 0 + 0 ≤ _)⟩)
  dsimp only [Pt.U, Pt.locs, Pt.cells, Pt.slots] at X7 l7 y7 z7 st7 hQ7
  subst l7 y7 z7
  obtain ⟨rfl, Nq7, eq7⟩ := hQ7
  have N7 := Fr.app N6 Nq7
  have R7 : ∀ t, oG p e below T7 m 65 #[oR a1, oR a2, oI 0, .unset, .unset] [(.int (own_icmp (0 : Int32) (2 : Int32)))] t → Steps p.tables e below (s₁.setTop (entryFrame m #[(.ref a1), (.ref a2)] 5)) t := fun t k => R6 t (st7 t k)
  have hv : own_cmp02 c0 c1 d0 d1 = (own_icmp (0 : Int32) (2 : Int32)) := rfl
  obtain ⟨fs, hr, hrun, hended, hW, hsame⟩ := X7.leave (v := some (.int (own_icmp (0 : Int32) (2 : Int32)))) (fun h => by rw [Bd.returns] at h; cases h)
  refine ⟨_, _, R7 _ ?_, hrun, hended, _, _, rfl, ?_, ⟨_, rfl⟩, hW, hsame.mono (by decide) (by decide)⟩
  · exact retOut X7 hx Bd.returns rfl (Or.inl ⟨rfl, Or.inl rfl, _, rfl⟩) (hb hby own_d13_65) hr
  · show Q_rmCm02 Z a1 a2 c0 c1 d0 d1 cz fm h0 n0 _ T7.heap _
    rw [eq7]
    exact ⟨by rw [hv], N7, rfl⟩
def own_cmp10 (c0 c1 d0 d1 : Int32) : Int32 := (own_icmp (1 : Int32) (0 : Int32))
theorem own_ef_rmCm10 (m : MethodId) (x0 : Addr) (x1 : Addr) : entryFrame m #[(.ref x0), (.ref x1)] 5 = mkF m 0 #[oR x0, oR x1, .unset, .unset, .unset] [] := by first | (simp [entryFrame, mkF, argsToLocals, Value.category]; done) | rfl
theorem own_d13_10 : decode prog_6_method_10_code 10 = .ok (.iload_n 2, 1) := by decide +kernel
theorem own_d13_11 : decode prog_6_method_10_code 11 = .ok (.aload_n 1, 1) := by decide +kernel
theorem own_d13_12 : decode prog_6_method_10_code 12 = .ok (.invokevirtual 88, 3) := by decide +kernel
theorem own_d13_15 : decode prog_6_method_10_code 15 = .ok (.if_icmp .ge 39, 3) := by decide +kernel
def Q_rmCm10 (Z : State) (a1 a2 : Addr) (c0 c1 d0 d1 : Int32) (cz : Int32) (fm : Value) (h0 : Heap) (n0 : Nat) (v : Option Value) (h : Heap) (L : List Loc) : Prop := v = some (.int (own_cmp10 c0 c1 d0 d1)) ∧ Fr n0 L ∧ h = h0
set_option maxRecDepth 65536 in
set_option maxHeartbeats 40000000 in
theorem rmCm10 (l : Launch) (Z : State) (a0 : Array Value) (hw : oT a0 Z) (ws : List Jvm.Cond) (a1 a2 : Addr) (c0 c1 d0 d1 : Int32) (cz : Int32) (fm : Value) (h0 : Heap) (n0 : Nat) (Z0 : n0 ≤ h0.size) (SU : own_St Z cz fm) (OX : Old Z n0 h0) (hs1 : own_Str Z h0 a1 (1 : Int32) c0 c1) (hs2 : own_Str Z h0 a2 (0 : Int32) d0 d1) (r0 : own_R c0) (r1 : own_R c1) (u0 : own_R d0) (u1 : own_R d1) :
    oK l Z (⟨"com/example/firm_store/firmstore/Identifiers", "compareCodePoints", "(Ljava/lang/String;Ljava/lang/String;)I"⟩ : MethodName) prog_6_method_10_code 5 (some .int) ws (oM 4 0 0 70) #[(.ref a1), (.ref a2)] h0 (Q_rmCm10 Z a1 a2 c0 c1 d0 d1 cz fm h0 n0) := by
  refine MetFree.of_bodySF (plainFor_of_name own_pn6) hisR ?_
  intro p e s m args below meth c s₁ Bd hml0 hP hK
  obtain ⟨rfl, hZ, hh⟩ := hP
  have hx := Bd.exec
  have hby := Bd.bytes
  have hml : c.maxLocals = 5 := hml0
  have hown : s.vm.findClass "com/example/firm_store/firmstore/Identifiers" = some m.cls := findClass_of_methodNamed Bd.named
  have hnm := (name_of_methodNamed Bd.named Bd.method).1
  have X0 : Stand p l e (oM 4 0 0 70) s m #[(.ref a1), (.ref a2)] below meth c s₁ [] 0 0 := Stand.of_body Bd
  have e0 : s₁.heap = h0 := by rw [← hh, Bd.state]; rfl
  have N0 := Fr.nil n0
  have R0 : ∀ t, oG p e below s₁ m 0 #[oR a1, oR a2, .unset, .unset, .unset] [] t → Steps p.tables e below (s₁.setTop (entryFrame m #[(.ref a1), (.ref a2)] 5)) t := fun t k => castTop (own_ef_rmCm10 m a1 a2) k
  have R1 : ∀ t, oG p e below s₁ m 4 #[oR a1, oR a2, oI 0, .unset, .unset] [(.ref a1), (.int 0)] t → Steps p.tables e below (s₁.setTop (entryFrame m #[(.ref a1), (.ref a2)] 5)) t := by
    intro t k
    refine R0 t ?_
    refine XS.iconst X0.here hx rfl (hb hby own_d13_0) ?_
    refine XS.istoreN X0.here hx rfl (hb hby own_d13_1) rfl (l' := #[oR a1, oR a2, oI 0, .unset, .unset]) rfl ?_
    refine XS.iloadN X0.here hx rfl (hb hby own_d13_2) rfl ?_
    show oG p e below s₁ m 3 #[oR a1, oR a2, oI 0, .unset, .unset] [(.int 0)] _
    refine XS.aloadN X0.here hx rfl (hb hby own_d13_3) rfl rfl ?_
    exact k
  obtain ⟨cq2, kq2, q2a, q2b, q2c⟩ := isOf hZ e0 hs1.exa
  obtain ⟨_, _, ⟨T2, L2, k2, n2⟩, -, X2, ⟨Lc2, hQ2, l2, y2, z2⟩, st2⟩ := X0.virtualBack hx (y := (⟨"java/lang/String", "length", "()I"⟩ : MethodName)) (z := (⟨"java/lang/String", "length", "()I"⟩ : MethodName)) hown (mvT hZ (oW hw 57 rfl)) (mvT hZ (oW hw 58 rfl)) (notFace_of_selects (args := #[]) (mvT hZ (oW hw 60 rfl))) (mvT hZ (oW hw 60 rfl)) (mvT hZ (oW hw 59 rfl)) (by decide) (backOf (W := 1) (rmLenG l Z a0 hw [] a1 (1 : Int32) c0 c1 cz fm h0 n0 Z0 SU OX hs1) hZ (oW hw 61 rfl) (oW hw 6 rfl) (by decide) (by decide)) q2a q2c (g := (mkF m 4 #[oR a1, oR a2, oI 0, .unset, .unset] [(.ref a1), (.int 0)])) rfl (by rw [hml]; rfl) (Steps.refl _) (argsL := []) (rest := [(.int 0)]) (lenOf own_pd11 rfl) rfl (by show 2 * 0 + _ ≤ _; exact Nat.le_of_eq rfl) (hb hby own_d13_4) (fun _ _ => ⟨rfl, e0, (by decide : 0 + 0 ≤ _), (by decide : 0 + 0 ≤ _)⟩)
  dsimp only [Pt.U, Pt.locs, Pt.cells, Pt.slots] at X2 l2 y2 z2 st2 hQ2
  subst l2 y2 z2
  obtain ⟨rfl, Nq2, eq2⟩ := hQ2
  have N2 := Fr.app N0 Nq2
  have R2 : ∀ t, oG p e below T2 m 7 #[oR a1, oR a2, oI 0, .unset, .unset] [(.int 1), (.int 0)] t → Steps p.tables e below (s₁.setTop (entryFrame m #[(.ref a1), (.ref a2)] 5)) t := fun t k => R1 t (st2.trans k)
  have R3 : ∀ t, oG p e below T2 m 12 #[oR a1, oR a2, oI 0, .unset, .unset] [(.ref a2), (.int 0)] t → Steps p.tables e below (s₁.setTop (entryFrame m #[(.ref a1), (.ref a2)] 5)) t := by
    intro t k
    refine R2 t ?_
    refine XS.icmpNo X2.here hx rfl (hb hby own_d13_7) rfl (tlt (by decide : ((0 : Int32) < (1 : Int32)))).2.1 ?_
    refine XS.iloadN X2.here hx rfl (hb hby own_d13_10) rfl ?_
    refine XS.aloadN X2.here hx rfl (hb hby own_d13_11) rfl rfl ?_
    exact k
  obtain ⟨cq4, kq4, q4a, q4b, q4c⟩ := isOf hZ eq2 hs2.exa
  obtain ⟨_, _, ⟨T4, L4, k4, n4⟩, -, X4, ⟨Lc4, hQ4, l4, y4, z4⟩, st4⟩ := X2.virtualBack hx (y := (⟨"java/lang/String", "length", "()I"⟩ : MethodName)) (z := (⟨"java/lang/String", "length", "()I"⟩ : MethodName)) hown (mvT hZ (oW hw 57 rfl)) (mvT hZ (oW hw 58 rfl)) (notFace_of_selects (args := #[]) (mvT hZ (oW hw 60 rfl))) (mvT hZ (oW hw 60 rfl)) (mvT hZ (oW hw 59 rfl)) (by decide) (backOf (W := 1) (rmLenG l Z a0 hw [] a2 (0 : Int32) d0 d1 cz fm h0 n0 Z0 SU OX hs2) hZ (oW hw 61 rfl) (oW hw 6 rfl) (by decide) (by decide)) q4a q4c (g := (mkF m 12 #[oR a1, oR a2, oI 0, .unset, .unset] [(.ref a2), (.int 0)])) rfl (by rw [hml]; rfl) (Steps.refl _) (argsL := []) (rest := [(.int 0)]) (lenOf own_pd11 rfl) rfl (by show 2 * 0 + _ ≤ _; exact Nat.le_of_eq rfl) (hb hby own_d13_12) (fun _ _ => ⟨rfl, eq2, (by decide : 0 + 0 ≤ _), (by decide : 0 + 0 ≤ _)⟩)
  dsimp only [Pt.U, Pt.locs, Pt.cells, Pt.slots] at X4 l4 y4 z4 st4 hQ4
  subst l4 y4 z4
  obtain ⟨rfl, Nq4, eq4⟩ := hQ4
  have N4 := Fr.app N2 Nq4
  have R4 : ∀ t, oG p e below T4 m 15 #[oR a1, oR a2, oI 0, .unset, .unset] [(.int 0), (.int 0)] t → Steps p.tables e below (s₁.setTop (entryFrame m #[(.ref a1), (.ref a2)] 5)) t := fun t k => R3 t (st4.trans k)
  have R5 : ∀ t, oG p e below T4 m 55 #[oR a1, oR a2, oI 0, .unset, .unset] [(.ref a1)] t → Steps p.tables e below (s₁.setTop (entryFrame m #[(.ref a1), (.ref a2)] 5)) t := by
    intro t k
    refine R4 t ?_
    refine XS.icmpYes X4.here hx rfl (pc0 := 15) (pc' := 54) rfl (hb hby own_d13_15) rfl (flt (by decide : ¬ ((0 : Int32) < (0 : Int32)))).2.1 (by decide) (by decide) ?_
    refine XS.aloadN X4.here hx rfl (hb hby own_d13_54) rfl rfl ?_
    exact k
  obtain ⟨cq6, kq6, q6a, q6b, q6c⟩ := isOf hZ eq4 hs1.exa
  obtain ⟨_, _, ⟨T6, L6, k6, n6⟩, -, X6, ⟨Lc6, hQ6, l6, y6, z6⟩, st6⟩ := X4.virtualBack hx (y := (⟨"java/lang/String", "length", "()I"⟩ : MethodName)) (z := (⟨"java/lang/String", "length", "()I"⟩ : MethodName)) hown (mvT hZ (oW hw 57 rfl)) (mvT hZ (oW hw 58 rfl)) (notFace_of_selects (args := #[]) (mvT hZ (oW hw 60 rfl))) (mvT hZ (oW hw 60 rfl)) (mvT hZ (oW hw 59 rfl)) (by decide) (backOf (W := 0) (rmLenG l Z a0 hw [] a1 (1 : Int32) c0 c1 cz fm h0 n0 Z0 SU OX hs1) hZ (oW hw 61 rfl) (oW hw 6 rfl) (by decide) (by decide)) q6a q6c (g := (mkF m 55 #[oR a1, oR a2, oI 0, .unset, .unset] [(.ref a1)])) rfl (by rw [hml]; rfl) (Steps.refl _) (argsL := []) (rest := []) (lenOf own_pd11 rfl) rfl (by show 2 * 0 + _ ≤ _; exact Nat.le_of_eq rfl) (hb hby own_d13_55) (fun _ _ => ⟨rfl, eq4, (by decide : 0 + 0 ≤ _), (by decide : 0 + 0 ≤ _)⟩)
  dsimp only [Pt.U, Pt.locs, Pt.cells, Pt.slots] at X6 l6 y6 z6 st6 hQ6
  subst l6 y6 z6
  obtain ⟨rfl, Nq6, eq6⟩ := hQ6
  have N6 := Fr.app N4 Nq6
  have R6 : ∀ t, oG p e below T6 m 58 #[oR a1, oR a2, oI 0, .unset, .unset] [(.int 1)] t → Steps p.tables e below (s₁.setTop (entryFrame m #[(.ref a1), (.ref a2)] 5)) t := fun t k => R5 t (st6.trans k)
  have R7 : ∀ t, oG p e below T6 m 59 #[oR a1, oR a2, oI 0, .unset, .unset] [(.ref a2), (.int 1)] t → Steps p.tables e below (s₁.setTop (entryFrame m #[(.ref a1), (.ref a2)] 5)) t := by
    intro t k
    refine R6 t ?_
    refine XS.aloadN X6.here hx rfl (hb hby own_d13_58) rfl rfl ?_
    exact k
  obtain ⟨cq8, kq8, q8a, q8b, q8c⟩ := isOf hZ eq6 hs2.exa
  obtain ⟨_, _, ⟨T8, L8, k8, n8⟩, -, X8, ⟨Lc8, hQ8, l8, y8, z8⟩, st8⟩ := X6.virtualBack hx (y := (⟨"java/lang/String", "length", "()I"⟩ : MethodName)) (z := (⟨"java/lang/String", "length", "()I"⟩ : MethodName)) hown (mvT hZ (oW hw 57 rfl)) (mvT hZ (oW hw 58 rfl)) (notFace_of_selects (args := #[]) (mvT hZ (oW hw 60 rfl))) (mvT hZ (oW hw 60 rfl)) (mvT hZ (oW hw 59 rfl)) (by decide) (backOf (W := 1) (rmLenG l Z a0 hw [] a2 (0 : Int32) d0 d1 cz fm h0 n0 Z0 SU OX hs2) hZ (oW hw 61 rfl) (oW hw 6 rfl) (by decide) (by decide)) q8a q8c (g := (mkF m 59 #[oR a1, oR a2, oI 0, .unset, .unset] [(.ref a2), (.int 1)])) rfl (by rw [hml]; rfl) (Steps.refl _) (argsL := []) (rest := [(.int 1)]) (lenOf own_pd11 rfl) rfl (by show 2 * 0 + _ ≤ _; exact Nat.le_of_eq rfl) (hb hby own_d13_59) (fun _ _ => ⟨rfl, eq6, (by decide : 0 + 0 ≤ _), (by decide : 0 + 0 ≤ _)⟩)
  dsimp only [Pt.U, Pt.locs, Pt.cells, Pt.slots] at X8 l8 y8 z8 st8 hQ8
  subst l8 y8 z8
  obtain ⟨rfl, Nq8, eq8⟩ := hQ8
  have N8 := Fr.app N6 Nq8
  have R8 : ∀ t, oG p e below T8 m 62 #[oR a1, oR a2, oI 0, .unset, .unset] [(.int 0), (.int 1)] t → Steps p.tables e below (s₁.setTop (entryFrame m #[(.ref a1), (.ref a2)] 5)) t := fun t k => R7 t (st8.trans k)
  obtain ⟨_, _, ⟨T9, L9, k9, n9⟩, -, X9, ⟨Lc9, hQ9, l9, y9, z9⟩, st9⟩ := Jvm.LawKit.callS X8 hx (y := (⟨"java/lang/Integer", "compare", "(II)I"⟩ : MethodName)) hown (mvT hZ (oW hw 67 rfl)) (mvT hZ (oW hw 68 rfl)) (mvT hZ (oW hw 69 rfl)) (mvT hZ (oW hw 70 rfl)) (by decide) (backOf (W := 0) (rmICmp l Z a0 hw [] (1 : Int32) (0 : Int32)  h0 n0 Z0 ) hZ (oW hw 70 rfl) (oW hw 69 rfl) (by decide) (by decide)) (g := (mkF m 62 #[oR a1, oR a2, oI 0, .unset, .unset] [(.int 0), (.int 1)])) rfl (by rw [hml]; rfl) (argsL := [(.int 1), (.int 0)]) (rest := []) (lenOf own_pd13 rfl) rfl (by show 2 * 0 + _ ≤ _; exact Nat.le_of_eq rfl) (hb hby own_d13_62) (fun _ _ => ⟨rfl, eq8, (by decide : 0 + 0 ≤ _), (by decide : 0 + 0 ≤ _)⟩)
  dsimp only [Pt.U, Pt.locs, Pt.cells, Pt.slots] at X9 l9 y9 z9 st9 hQ9
  subst l9 y9 z9
  obtain ⟨rfl, Nq9, eq9⟩ := hQ9
  have N9 := Fr.app N8 Nq9
  have R9 : ∀ t, oG p e below T9 m 65 #[oR a1, oR a2, oI 0, .unset, .unset] [(.int (own_icmp (1 : Int32) (0 : Int32)))] t → Steps p.tables e below (s₁.setTop (entryFrame m #[(.ref a1), (.ref a2)] 5)) t := fun t k => R8 t (st9 t k)
  have hv : own_cmp10 c0 c1 d0 d1 = (own_icmp (1 : Int32) (0 : Int32)) := rfl
  obtain ⟨fs, hr, hrun, hended, hW, hsame⟩ := X9.leave (v := some (.int (own_icmp (1 : Int32) (0 : Int32)))) (fun h => by rw [Bd.returns] at h; cases h)
  refine ⟨_, _, R9 _ ?_, hrun, hended, _, _, rfl, ?_, ⟨_, rfl⟩, hW, hsame.mono (by decide) (by decide)⟩
  · exact retOut X9 hx Bd.returns rfl (Or.inl ⟨rfl, Or.inl rfl, _, rfl⟩) (hb hby own_d13_65) hr
  · show Q_rmCm10 Z a1 a2 c0 c1 d0 d1 cz fm h0 n0 _ T9.heap _
    rw [eq9]
    exact ⟨by rw [hv], N9, rfl⟩
def own_cmp11 (c0 c1 d0 d1 : Int32) : Int32 := (if c0 = d0 then (own_icmp (1 : Int32) (1 : Int32)) else (own_icmp c0 d0))
theorem own_ef_rmCm11 (m : MethodId) (x0 : Addr) (x1 : Addr) : entryFrame m #[(.ref x0), (.ref x1)] 5 = mkF m 0 #[oR x0, oR x1, .unset, .unset, .unset] [] := by first | (simp [entryFrame, mkF, argsToLocals, Value.category]; done) | rfl
theorem own_d13_18 : decode prog_6_method_10_code 18 = .ok (.aload_n 0, 1) := by decide +kernel
theorem own_d13_19 : decode prog_6_method_10_code 19 = .ok (.iload_n 2, 1) := by decide +kernel
theorem own_d13_20 : decode prog_6_method_10_code 20 = .ok (.invokevirtual 92, 3) := by decide +kernel
theorem own_d13_23 : decode prog_6_method_10_code 23 = .ok (.istore_n 3, 1) := by decide +kernel
theorem own_d13_24 : decode prog_6_method_10_code 24 = .ok (.aload_n 1, 1) := by decide +kernel
theorem own_d13_25 : decode prog_6_method_10_code 25 = .ok (.iload_n 2, 1) := by decide +kernel
theorem own_d13_26 : decode prog_6_method_10_code 26 = .ok (.invokevirtual 92, 3) := by decide +kernel
theorem own_d13_29 : decode prog_6_method_10_code 29 = .ok (.istore 4, 2) := by decide +kernel
theorem own_d13_31 : decode prog_6_method_10_code 31 = .ok (.iload_n 3, 1) := by decide +kernel
theorem own_d13_32 : decode prog_6_method_10_code 32 = .ok (.iload 4, 2) := by decide +kernel
theorem own_d13_34 : decode prog_6_method_10_code 34 = .ok (.if_icmp .eq 10, 3) := by decide +kernel
theorem own_d13_44 : decode prog_6_method_10_code 44 = .ok (.iload_n 2, 1) := by decide +kernel
theorem own_d13_45 : decode prog_6_method_10_code 45 = .ok (.iload_n 3, 1) := by decide +kernel
theorem own_d13_46 : decode prog_6_method_10_code 46 = .ok (.invokestatic 118, 3) := by decide +kernel
theorem own_d13_49 : decode prog_6_method_10_code 49 = .ok (.iadd, 1) := by decide +kernel
theorem own_d13_50 : decode prog_6_method_10_code 50 = .ok (.istore_n 2, 1) := by decide +kernel
theorem own_d13_51 : decode prog_6_method_10_code 51 = .ok (.goto (-49), 3) := by decide +kernel
theorem own_d13_37 : decode prog_6_method_10_code 37 = .ok (.iload_n 3, 1) := by decide +kernel
theorem own_d13_38 : decode prog_6_method_10_code 38 = .ok (.iload 4, 2) := by decide +kernel
theorem own_d13_40 : decode prog_6_method_10_code 40 = .ok (.invokestatic 131, 3) := by decide +kernel
theorem own_d13_43 : decode prog_6_method_10_code 43 = .ok (.ireturn, 1) := by decide +kernel
def Q_rmCm11 (Z : State) (a1 a2 : Addr) (c0 c1 d0 d1 : Int32) (cz : Int32) (fm : Value) (h0 : Heap) (n0 : Nat) (v : Option Value) (h : Heap) (L : List Loc) : Prop := v = some (.int (own_cmp11 c0 c1 d0 d1)) ∧ Fr n0 L ∧ h = h0
set_option maxRecDepth 65536 in
set_option maxHeartbeats 40000000 in
theorem rmCm11 (l : Launch) (Z : State) (a0 : Array Value) (hw : oT a0 Z) (ws : List Jvm.Cond) (a1 a2 : Addr) (c0 c1 d0 d1 : Int32) (cz : Int32) (fm : Value) (h0 : Heap) (n0 : Nat) (Z0 : n0 ≤ h0.size) (SU : own_St Z cz fm) (OX : Old Z n0 h0) (hs1 : own_Str Z h0 a1 (1 : Int32) c0 c1) (hs2 : own_Str Z h0 a2 (1 : Int32) d0 d1) (r0 : own_R c0) (r1 : own_R c1) (u0 : own_R d0) (u1 : own_R d1) :
    oK l Z (⟨"com/example/firm_store/firmstore/Identifiers", "compareCodePoints", "(Ljava/lang/String;Ljava/lang/String;)I"⟩ : MethodName) prog_6_method_10_code 5 (some .int) ws (oM 4 0 0 70) #[(.ref a1), (.ref a2)] h0 (Q_rmCm11 Z a1 a2 c0 c1 d0 d1 cz fm h0 n0) := by
  refine MetFree.of_bodySF (plainFor_of_name own_pn6) hisR ?_
  intro p e s m args below meth c s₁ Bd hml0 hP hK
  obtain ⟨rfl, hZ, hh⟩ := hP
  have hx := Bd.exec
  have hby := Bd.bytes
  have hml : c.maxLocals = 5 := hml0
  have hown : s.vm.findClass "com/example/firm_store/firmstore/Identifiers" = some m.cls := findClass_of_methodNamed Bd.named
  have hnm := (name_of_methodNamed Bd.named Bd.method).1
  have X0 : Stand p l e (oM 4 0 0 70) s m #[(.ref a1), (.ref a2)] below meth c s₁ [] 0 0 := Stand.of_body Bd
  have e0 : s₁.heap = h0 := by rw [← hh, Bd.state]; rfl
  have N0 := Fr.nil n0
  have R0 : ∀ t, oG p e below s₁ m 0 #[oR a1, oR a2, .unset, .unset, .unset] [] t → Steps p.tables e below (s₁.setTop (entryFrame m #[(.ref a1), (.ref a2)] 5)) t := fun t k => castTop (own_ef_rmCm11 m a1 a2) k
  have R1 : ∀ t, oG p e below s₁ m 4 #[oR a1, oR a2, oI 0, .unset, .unset] [(.ref a1), (.int 0)] t → Steps p.tables e below (s₁.setTop (entryFrame m #[(.ref a1), (.ref a2)] 5)) t := by
    intro t k
    refine R0 t ?_
    refine XS.iconst X0.here hx rfl (hb hby own_d13_0) ?_
    refine XS.istoreN X0.here hx rfl (hb hby own_d13_1) rfl (l' := #[oR a1, oR a2, oI 0, .unset, .unset]) rfl ?_
    refine XS.iloadN X0.here hx rfl (hb hby own_d13_2) rfl ?_
    show oG p e below s₁ m 3 #[oR a1, oR a2, oI 0, .unset, .unset] [(.int 0)] _
    refine XS.aloadN X0.here hx rfl (hb hby own_d13_3) rfl rfl ?_
    exact k
  obtain ⟨cq2, kq2, q2a, q2b, q2c⟩ := isOf hZ e0 hs1.exa
  obtain ⟨_, _, ⟨T2, L2, k2, n2⟩, -, X2, ⟨Lc2, hQ2, l2, y2, z2⟩, st2⟩ := X0.virtualBack hx (y := (⟨"java/lang/String", "length", "()I"⟩ : MethodName)) (z := (⟨"java/lang/String", "length", "()I"⟩ : MethodName)) hown (mvT hZ (oW hw 57 rfl)) (mvT hZ (oW hw 58 rfl)) (notFace_of_selects (args := #[]) (mvT hZ (oW hw 60 rfl))) (mvT hZ (oW hw 60 rfl)) (mvT hZ (oW hw 59 rfl)) (by decide) (backOf (W := 1) (rmLenG l Z a0 hw [] a1 (1 : Int32) c0 c1 cz fm h0 n0 Z0 SU OX hs1) hZ (oW hw 61 rfl) (oW hw 6 rfl) (by decide) (by decide)) q2a q2c (g := (mkF m 4 #[oR a1, oR a2, oI 0, .unset, .unset] [(.ref a1), (.int 0)])) rfl (by rw [hml]; rfl) (Steps.refl _) (argsL := []) (rest := [(.int 0)]) (lenOf own_pd11 rfl) rfl (by show 2 * 0 + _ ≤ _; exact Nat.le_of_eq rfl) (hb hby own_d13_4) (fun _ _ => ⟨rfl, e0, (by decide : 0 + 0 ≤ _), (by decide : 0 + 0 ≤ _)⟩)
  dsimp only [Pt.U, Pt.locs, Pt.cells, Pt.slots] at X2 l2 y2 z2 st2 hQ2
  subst l2 y2 z2
  obtain ⟨rfl, Nq2, eq2⟩ := hQ2
  have N2 := Fr.app N0 Nq2
  have R2 : ∀ t, oG p e below T2 m 7 #[oR a1, oR a2, oI 0, .unset, .unset] [(.int 1), (.int 0)] t → Steps p.tables e below (s₁.setTop (entryFrame m #[(.ref a1), (.ref a2)] 5)) t := fun t k => R1 t (st2.trans k)
  have R3 : ∀ t, oG p e below T2 m 12 #[oR a1, oR a2, oI 0, .unset, .unset] [(.ref a2), (.int 0)] t → Steps p.tables e below (s₁.setTop (entryFrame m #[(.ref a1), (.ref a2)] 5)) t := by
    intro t k
    refine R2 t ?_
    refine XS.icmpNo X2.here hx rfl (hb hby own_d13_7) rfl (tlt (by decide : ((0 : Int32) < (1 : Int32)))).2.1 ?_
    refine XS.iloadN X2.here hx rfl (hb hby own_d13_10) rfl ?_
    refine XS.aloadN X2.here hx rfl (hb hby own_d13_11) rfl rfl ?_
    exact k
  obtain ⟨cq4, kq4, q4a, q4b, q4c⟩ := isOf hZ eq2 hs2.exa
  obtain ⟨_, _, ⟨T4, L4, k4, n4⟩, -, X4, ⟨Lc4, hQ4, l4, y4, z4⟩, st4⟩ := X2.virtualBack hx (y := (⟨"java/lang/String", "length", "()I"⟩ : MethodName)) (z := (⟨"java/lang/String", "length", "()I"⟩ : MethodName)) hown (mvT hZ (oW hw 57 rfl)) (mvT hZ (oW hw 58 rfl)) (notFace_of_selects (args := #[]) (mvT hZ (oW hw 60 rfl))) (mvT hZ (oW hw 60 rfl)) (mvT hZ (oW hw 59 rfl)) (by decide) (backOf (W := 1) (rmLenG l Z a0 hw [] a2 (1 : Int32) d0 d1 cz fm h0 n0 Z0 SU OX hs2) hZ (oW hw 61 rfl) (oW hw 6 rfl) (by decide) (by decide)) q4a q4c (g := (mkF m 12 #[oR a1, oR a2, oI 0, .unset, .unset] [(.ref a2), (.int 0)])) rfl (by rw [hml]; rfl) (Steps.refl _) (argsL := []) (rest := [(.int 0)]) (lenOf own_pd11 rfl) rfl (by show 2 * 0 + _ ≤ _; exact Nat.le_of_eq rfl) (hb hby own_d13_12) (fun _ _ => ⟨rfl, eq2, (by decide : 0 + 0 ≤ _), (by decide : 0 + 0 ≤ _)⟩)
  dsimp only [Pt.U, Pt.locs, Pt.cells, Pt.slots] at X4 l4 y4 z4 st4 hQ4
  subst l4 y4 z4
  obtain ⟨rfl, Nq4, eq4⟩ := hQ4
  have N4 := Fr.app N2 Nq4
  have R4 : ∀ t, oG p e below T4 m 15 #[oR a1, oR a2, oI 0, .unset, .unset] [(.int 1), (.int 0)] t → Steps p.tables e below (s₁.setTop (entryFrame m #[(.ref a1), (.ref a2)] 5)) t := fun t k => R3 t (st4.trans k)
  have R5 : ∀ t, oG p e below T4 m 20 #[oR a1, oR a2, oI 0, .unset, .unset] [(.int 0), (.ref a1)] t → Steps p.tables e below (s₁.setTop (entryFrame m #[(.ref a1), (.ref a2)] 5)) t := by
    intro t k
    refine R4 t ?_
    refine XS.icmpNo X4.here hx rfl (hb hby own_d13_15) rfl (tlt (by decide : ((0 : Int32) < (1 : Int32)))).2.1 ?_
    refine XS.aloadN X4.here hx rfl (hb hby own_d13_18) rfl rfl ?_
    refine XS.iloadN X4.here hx rfl (hb hby own_d13_19) rfl ?_
    exact k
  obtain ⟨cq6, kq6, q6a, q6b, q6c⟩ := isOf hZ eq4 hs1.exa
  obtain ⟨_, _, ⟨T6, L6, k6, n6⟩, -, X6, ⟨Lc6, hQ6, l6, y6, z6⟩, st6⟩ := X4.virtualBack hx (y := (⟨"java/lang/String", "codePointAt", "(I)I"⟩ : MethodName)) (z := (⟨"java/lang/String", "codePointAt", "(I)I"⟩ : MethodName)) hown (mvT hZ (oW hw 91 rfl)) (mvT hZ (oW hw 92 rfl)) (notFace_of_selects (args := #[]) (mvT hZ (oW hw 94 rfl))) (mvT hZ (oW hw 94 rfl)) (mvT hZ (oW hw 93 rfl)) (by decide) (backOf (W := 0) (rmCP10 l Z a0 hw [] a1 c0 c1 cz fm h0 n0 Z0 SU OX hs1 r0 r1) hZ (oW hw 95 rfl) (oW hw 6 rfl) (by decide) (by decide)) q6a q6c (g := (mkF m 20 #[oR a1, oR a2, oI 0, .unset, .unset] [(.int 0), (.ref a1)])) rfl (by rw [hml]; rfl) (Steps.refl _) (argsL := [(.int 0)]) (rest := []) (lenOf own_pd15 rfl) rfl (by show 2 * 0 + _ ≤ _; exact Nat.le_of_eq rfl) (hb hby own_d13_20) (fun _ _ => ⟨rfl, eq4, (by decide : 0 + 0 ≤ _), (by decide : 0 + 0 ≤ _)⟩)
  dsimp only [Pt.U, Pt.locs, Pt.cells, Pt.slots] at X6 l6 y6 z6 st6 hQ6
  subst l6 y6 z6
  obtain ⟨rfl, Nq6, eq6⟩ := hQ6
  have N6 := Fr.app N4 Nq6
  have R6 : ∀ t, oG p e below T6 m 23 #[oR a1, oR a2, oI 0, .unset, .unset] [(.int c0)] t → Steps p.tables e below (s₁.setTop (entryFrame m #[(.ref a1), (.ref a2)] 5)) t := fun t k => R5 t (st6.trans k)
  have R7 : ∀ t, oG p e below T6 m 26 #[oR a1, oR a2, oI 0, oI c0, .unset] [(.int 0), (.ref a2)] t → Steps p.tables e below (s₁.setTop (entryFrame m #[(.ref a1), (.ref a2)] 5)) t := by
    intro t k
    refine R6 t ?_
    refine XS.istoreN X6.here hx rfl (hb hby own_d13_23) rfl (l' := #[oR a1, oR a2, oI 0, oI c0, .unset]) rfl ?_
    refine XS.aloadN X6.here hx rfl (hb hby own_d13_24) rfl rfl ?_
    refine XS.iloadN X6.here hx rfl (hb hby own_d13_25) rfl ?_
    exact k
  obtain ⟨cq8, kq8, q8a, q8b, q8c⟩ := isOf hZ eq6 hs2.exa
  obtain ⟨_, _, ⟨T8, L8, k8, n8⟩, -, X8, ⟨Lc8, hQ8, l8, y8, z8⟩, st8⟩ := X6.virtualBack hx (y := (⟨"java/lang/String", "codePointAt", "(I)I"⟩ : MethodName)) (z := (⟨"java/lang/String", "codePointAt", "(I)I"⟩ : MethodName)) hown (mvT hZ (oW hw 91 rfl)) (mvT hZ (oW hw 92 rfl)) (notFace_of_selects (args := #[]) (mvT hZ (oW hw 94 rfl))) (mvT hZ (oW hw 94 rfl)) (mvT hZ (oW hw 93 rfl)) (by decide) (backOf (W := 0) (rmCP10 l Z a0 hw [] a2 d0 d1 cz fm h0 n0 Z0 SU OX hs2 u0 u1) hZ (oW hw 95 rfl) (oW hw 6 rfl) (by decide) (by decide)) q8a q8c (g := (mkF m 26 #[oR a1, oR a2, oI 0, oI c0, .unset] [(.int 0), (.ref a2)])) rfl (by rw [hml]; rfl) (Steps.refl _) (argsL := [(.int 0)]) (rest := []) (lenOf own_pd15 rfl) rfl (by show 2 * 0 + _ ≤ _; exact Nat.le_of_eq rfl) (hb hby own_d13_26) (fun _ _ => ⟨rfl, eq6, (by decide : 0 + 0 ≤ _), (by decide : 0 + 0 ≤ _)⟩)
  dsimp only [Pt.U, Pt.locs, Pt.cells, Pt.slots] at X8 l8 y8 z8 st8 hQ8
  subst l8 y8 z8
  obtain ⟨rfl, Nq8, eq8⟩ := hQ8
  have N8 := Fr.app N6 Nq8
  have R8 : ∀ t, oG p e below T8 m 29 #[oR a1, oR a2, oI 0, oI c0, .unset] [(.int d0)] t → Steps p.tables e below (s₁.setTop (entryFrame m #[(.ref a1), (.ref a2)] 5)) t := fun t k => R7 t (st8.trans k)
  have R9 : ∀ t, oG p e below T8 m 34 #[oR a1, oR a2, oI 0, oI c0, oI d0] [(.int d0), (.int c0)] t → Steps p.tables e below (s₁.setTop (entryFrame m #[(.ref a1), (.ref a2)] 5)) t := by
    intro t k
    refine R8 t ?_
    refine XS.istore X8.here hx rfl (hb hby own_d13_29) rfl (l' := #[oR a1, oR a2, oI 0, oI c0, oI d0]) rfl ?_
    refine XS.iloadN X8.here hx rfl (hb hby own_d13_31) rfl ?_
    refine XS.iload X8.here hx rfl (hb hby own_d13_32) rfl ?_
    exact k
  by_cases hq : c0 = d0
  · have R10 : ∀ t, oG p e below T8 m 46 #[oR a1, oR a2, oI 0, oI c0, oI d0] [(.int c0), (.int 0)] t → Steps p.tables e below (s₁.setTop (entryFrame m #[(.ref a1), (.ref a2)] 5)) t := by
      intro t k
      refine R9 t ?_
      refine XS.icmpYes X8.here hx rfl (pc0 := 34) (pc' := 44) rfl (hb hby own_d13_34) rfl (teq hq).1 (by decide) (by decide) ?_
      refine XS.iloadN X8.here hx rfl (hb hby own_d13_44) rfl ?_
      refine XS.iloadN X8.here hx rfl (hb hby own_d13_45) rfl ?_
      exact k
    obtain ⟨_, _, ⟨T11, L11, k11, n11⟩, -, X11, ⟨Lc11, hQ11, l11, y11, z11⟩, st11⟩ := Jvm.LawKit.callS X8 hx (y := (⟨"java/lang/Character", "charCount", "(I)I"⟩ : MethodName)) hown (mvT hZ (oW hw 135 rfl)) (mvT hZ (oW hw 136 rfl)) (mvT hZ (oW hw 117 rfl)) (mvT hZ (oW hw 137 rfl)) (by decide) (backOf (W := 1) (rmCC l Z a0 hw [] c0  h0 n0 Z0 ) hZ (oW hw 137 rfl) (oW hw 117 rfl) (by decide) (by decide)) (g := (mkF m 46 #[oR a1, oR a2, oI 0, oI c0, oI d0] [(.int c0), (.int 0)])) rfl (by rw [hml]; rfl) (argsL := [(.int c0)]) (rest := [(.int 0)]) (lenOf own_pd15 rfl) rfl (by show 2 * 0 + _ ≤ _; exact Nat.le_of_eq rfl) (hb hby own_d13_46) (fun _ _ => ⟨rfl, eq8, (by decide : 0 + 0 ≤ _), (by decide : 0 + 0 ≤ _)⟩)
    dsimp only [Pt.U, Pt.locs, Pt.cells, Pt.slots] at X11 l11 y11 z11 st11 hQ11
    subst l11 y11 z11
    obtain ⟨rfl, Nq11, eq11⟩ := hQ11
    have N11 := Fr.app N8 Nq11
    have R11 : ∀ t, oG p e below T11 m 49 #[oR a1, oR a2, oI 0, oI c0, oI d0] [(.int (own_cc c0)), (.int 0)] t → Steps p.tables e below (s₁.setTop (entryFrame m #[(.ref a1), (.ref a2)] 5)) t := fun t k => R10 t (st11 t k)
    have R12 : ∀ t, oG p e below T11 m 50 #[oR a1, oR a2, oI 0, oI c0, oI d0] [(.int ((0 : Int32) + (own_cc c0)))] t → Steps p.tables e below (s₁.setTop (entryFrame m #[(.ref a1), (.ref a2)] 5)) t := by
      intro t k
      refine R11 t ?_
      refine XS.iadd X11.here hx rfl (hb hby own_d13_49) rfl ?_
      exact k
    have R13 : ∀ t, oG p e below T11 m 50 #[oR a1, oR a2, oI 0, oI c0, oI d0] [(.int 1)] t → Steps p.tables e below (s₁.setTop (entryFrame m #[(.ref a1), (.ref a2)] 5)) t := by rw [(by rw [own_cc1 (own_R6 r0)]; decide : ((0 : Int32) + (own_cc c0)) = (1 : Int32))] at R12; exact R12
    have R14 : ∀ t, oG p e below T11 m 4 #[oR a1, oR a2, oI 1, oI c0, oI d0] [(.ref a1), (.int 1)] t → Steps p.tables e below (s₁.setTop (entryFrame m #[(.ref a1), (.ref a2)] 5)) t := by
      intro t k
      refine R13 t ?_
      refine XS.istoreN X11.here hx rfl (hb hby own_d13_50) rfl (l' := #[oR a1, oR a2, oI 1, oI c0, oI d0]) rfl ?_
      refine XS.goto X11.here hx rfl (pc0 := 51) (pc' := 2) rfl (hb hby own_d13_51) (by decide) (by decide) ?_
      refine XS.iloadN X11.here hx rfl (hb hby own_d13_2) rfl ?_
      show oG p e below T11 m 3 #[oR a1, oR a2, oI 1, oI c0, oI d0] [(.int 1)] _
      refine XS.aloadN X11.here hx rfl (hb hby own_d13_3) rfl rfl ?_
      exact k
    obtain ⟨cq15, kq15, q15a, q15b, q15c⟩ := isOf hZ eq11 hs1.exa
    obtain ⟨_, _, ⟨T15, L15, k15, n15⟩, -, X15, ⟨Lc15, hQ15, l15, y15, z15⟩, st15⟩ := X11.virtualBack hx (y := (⟨"java/lang/String", "length", "()I"⟩ : MethodName)) (z := (⟨"java/lang/String", "length", "()I"⟩ : MethodName)) hown (mvT hZ (oW hw 57 rfl)) (mvT hZ (oW hw 58 rfl)) (notFace_of_selects (args := #[]) (mvT hZ (oW hw 60 rfl))) (mvT hZ (oW hw 60 rfl)) (mvT hZ (oW hw 59 rfl)) (by decide) (backOf (W := 1) (rmLenG l Z a0 hw [] a1 (1 : Int32) c0 c1 cz fm h0 n0 Z0 SU OX hs1) hZ (oW hw 61 rfl) (oW hw 6 rfl) (by decide) (by decide)) q15a q15c (g := (mkF m 4 #[oR a1, oR a2, oI 1, oI c0, oI d0] [(.ref a1), (.int 1)])) rfl (by rw [hml]; rfl) (Steps.refl _) (argsL := []) (rest := [(.int 1)]) (lenOf own_pd11 rfl) rfl (by show 2 * 0 + _ ≤ _; exact Nat.le_of_eq rfl) (hb hby own_d13_4) (fun _ _ => ⟨rfl, eq11, (by decide : 0 + 0 ≤ _), (by decide : 0 + 0 ≤ _)⟩)
    dsimp only [Pt.U, Pt.locs, Pt.cells, Pt.slots] at X15 l15 y15 z15 st15 hQ15
    subst l15 y15 z15
    obtain ⟨rfl, Nq15, eq15⟩ := hQ15
    have N15 := Fr.app N11 Nq15
    have R15 : ∀ t, oG p e below T15 m 7 #[oR a1, oR a2, oI 1, oI c0, oI d0] [(.int 1), (.int 1)] t → Steps p.tables e below (s₁.setTop (entryFrame m #[(.ref a1), (.ref a2)] 5)) t := fun t k => R14 t (st15.trans k)
    have R16 : ∀ t, oG p e below T15 m 55 #[oR a1, oR a2, oI 1, oI c0, oI d0] [(.ref a1)] t → Steps p.tables e below (s₁.setTop (entryFrame m #[(.ref a1), (.ref a2)] 5)) t := by
      intro t k
      refine R15 t ?_
      refine XS.icmpYes X15.here hx rfl (pc0 := 7) (pc' := 54) rfl (hb hby own_d13_7) rfl (flt (by decide : ¬ ((1 : Int32) < (1 : Int32)))).2.1 (by decide) (by decide) ?_
      refine XS.aloadN X15.here hx rfl (hb hby own_d13_54) rfl rfl ?_
      exact k
    obtain ⟨cq17, kq17, q17a, q17b, q17c⟩ := isOf hZ eq15 hs1.exa
    obtain ⟨_, _, ⟨T17, L17, k17, n17⟩, -, X17, ⟨Lc17, hQ17, l17, y17, z17⟩, st17⟩ := X15.virtualBack hx (y := (⟨"java/lang/String", "length", "()I"⟩ : MethodName)) (z := (⟨"java/lang/String", "length", "()I"⟩ : MethodName)) hown (mvT hZ (oW hw 57 rfl)) (mvT hZ (oW hw 58 rfl)) (notFace_of_selects (args := #[]) (mvT hZ (oW hw 60 rfl))) (mvT hZ (oW hw 60 rfl)) (mvT hZ (oW hw 59 rfl)) (by decide) (backOf (W := 0) (rmLenG l Z a0 hw [] a1 (1 : Int32) c0 c1 cz fm h0 n0 Z0 SU OX hs1) hZ (oW hw 61 rfl) (oW hw 6 rfl) (by decide) (by decide)) q17a q17c (g := (mkF m 55 #[oR a1, oR a2, oI 1, oI c0, oI d0] [(.ref a1)])) rfl (by rw [hml]; rfl) (Steps.refl _) (argsL := []) (rest := []) (lenOf own_pd11 rfl) rfl (by show 2 * 0 + _ ≤ _; exact Nat.le_of_eq rfl) (hb hby own_d13_55) (fun _ _ => ⟨rfl, eq15, (by decide : 0 + 0 ≤ _), (by decide : 0 + 0 ≤ _)⟩)
    dsimp only [Pt.U, Pt.locs, Pt.cells, Pt.slots] at X17 l17 y17 z17 st17 hQ17
    subst l17 y17 z17
    obtain ⟨rfl, Nq17, eq17⟩ := hQ17
    have N17 := Fr.app N15 Nq17
    have R17 : ∀ t, oG p e below T17 m 58 #[oR a1, oR a2, oI 1, oI c0, oI d0] [(.int 1)] t → Steps p.tables e below (s₁.setTop (entryFrame m #[(.ref a1), (.ref a2)] 5)) t := fun t k => R16 t (st17.trans k)
    have R18 : ∀ t, oG p e below T17 m 59 #[oR a1, oR a2, oI 1, oI c0, oI d0] [(.ref a2), (.int 1)] t → Steps p.tables e below (s₁.setTop (entryFrame m #[(.ref a1), (.ref a2)] 5)) t := by
      intro t k
      refine R17 t ?_
      refine XS.aloadN X17.here hx rfl (hb hby own_d13_58) rfl rfl ?_
      exact k
    obtain ⟨cq19, kq19, q19a, q19b, q19c⟩ := isOf hZ eq17 hs2.exa
    obtain ⟨_, _, ⟨T19, L19, k19, n19⟩, -, X19, ⟨Lc19, hQ19, l19, y19, z19⟩, st19⟩ := X17.virtualBack hx (y := (⟨"java/lang/String", "length", "()I"⟩ : MethodName)) (z := (⟨"java/lang/String", "length", "()I"⟩ : MethodName)) hown (mvT hZ (oW hw 57 rfl)) (mvT hZ (oW hw 58 rfl)) (notFace_of_selects (args := #[]) (mvT hZ (oW hw 60 rfl))) (mvT hZ (oW hw 60 rfl)) (mvT hZ (oW hw 59 rfl)) (by decide) (backOf (W := 1) (rmLenG l Z a0 hw [] a2 (1 : Int32) d0 d1 cz fm h0 n0 Z0 SU OX hs2) hZ (oW hw 61 rfl) (oW hw 6 rfl) (by decide) (by decide)) q19a q19c (g := (mkF m 59 #[oR a1, oR a2, oI 1, oI c0, oI d0] [(.ref a2), (.int 1)])) rfl (by rw [hml]; rfl) (Steps.refl _) (argsL := []) (rest := [(.int 1)]) (lenOf own_pd11 rfl) rfl (by show 2 * 0 + _ ≤ _; exact Nat.le_of_eq rfl) (hb hby own_d13_59) (fun _ _ => ⟨rfl, eq17, (by decide : 0 + 0 ≤ _), (by decide : 0 + 0 ≤ _)⟩)
    dsimp only [Pt.U, Pt.locs, Pt.cells, Pt.slots] at X19 l19 y19 z19 st19 hQ19
    subst l19 y19 z19
    obtain ⟨rfl, Nq19, eq19⟩ := hQ19
    have N19 := Fr.app N17 Nq19
    have R19 : ∀ t, oG p e below T19 m 62 #[oR a1, oR a2, oI 1, oI c0, oI d0] [(.int 1), (.int 1)] t → Steps p.tables e below (s₁.setTop (entryFrame m #[(.ref a1), (.ref a2)] 5)) t := fun t k => R18 t (st19.trans k)
    obtain ⟨_, _, ⟨T20, L20, k20, n20⟩, -, X20, ⟨Lc20, hQ20, l20, y20, z20⟩, st20⟩ := Jvm.LawKit.callS X19 hx (y := (⟨"java/lang/Integer", "compare", "(II)I"⟩ : MethodName)) hown (mvT hZ (oW hw 67 rfl)) (mvT hZ (oW hw 68 rfl)) (mvT hZ (oW hw 69 rfl)) (mvT hZ (oW hw 70 rfl)) (by decide) (backOf (W := 0) (rmICmp l Z a0 hw [] (1 : Int32) (1 : Int32)  h0 n0 Z0 ) hZ (oW hw 70 rfl) (oW hw 69 rfl) (by decide) (by decide)) (g := (mkF m 62 #[oR a1, oR a2, oI 1, oI c0, oI d0] [(.int 1), (.int 1)])) rfl (by rw [hml]; rfl) (argsL := [(.int 1), (.int 1)]) (rest := []) (lenOf own_pd13 rfl) rfl (by show 2 * 0 + _ ≤ _; exact Nat.le_of_eq rfl) (hb hby own_d13_62) (fun _ _ => ⟨rfl, eq19, (by decide : 0 + 0 ≤ _), (by decide : 0 + 0 ≤ _)⟩)
    dsimp only [Pt.U, Pt.locs, Pt.cells, Pt.slots] at X20 l20 y20 z20 st20 hQ20
    subst l20 y20 z20
    obtain ⟨rfl, Nq20, eq20⟩ := hQ20
    have N20 := Fr.app N19 Nq20
    have R20 : ∀ t, oG p e below T20 m 65 #[oR a1, oR a2, oI 1, oI c0, oI d0] [(.int (own_icmp (1 : Int32) (1 : Int32)))] t → Steps p.tables e below (s₁.setTop (entryFrame m #[(.ref a1), (.ref a2)] 5)) t := fun t k => R19 t (st20 t k)
    have hv : own_cmp11 c0 c1 d0 d1 = (own_icmp (1 : Int32) (1 : Int32)) := (if_pos hq)
    obtain ⟨fs, hr, hrun, hended, hW, hsame⟩ := X20.leave (v := some (.int (own_icmp (1 : Int32) (1 : Int32)))) (fun h => by rw [Bd.returns] at h; cases h)
    refine ⟨_, _, R20 _ ?_, hrun, hended, _, _, rfl, ?_, ⟨_, rfl⟩, hW, hsame.mono (by decide) (by decide)⟩
    · exact retOut X20 hx Bd.returns rfl (Or.inl ⟨rfl, Or.inl rfl, _, rfl⟩) (hb hby own_d13_65) hr
    · show Q_rmCm11 Z a1 a2 c0 c1 d0 d1 cz fm h0 n0 _ T20.heap _
      rw [eq20]
      exact ⟨by rw [hv], N20, rfl⟩
  · have R21 : ∀ t, oG p e below T8 m 40 #[oR a1, oR a2, oI 0, oI c0, oI d0] [(.int d0), (.int c0)] t → Steps p.tables e below (s₁.setTop (entryFrame m #[(.ref a1), (.ref a2)] 5)) t := by
      intro t k
      refine R9 t ?_
      refine XS.icmpNo X8.here hx rfl (hb hby own_d13_34) rfl (feq hq).1 ?_
      refine XS.iloadN X8.here hx rfl (hb hby own_d13_37) rfl ?_
      refine XS.iload X8.here hx rfl (hb hby own_d13_38) rfl ?_
      exact k
    obtain ⟨_, _, ⟨T22, L22, k22, n22⟩, -, X22, ⟨Lc22, hQ22, l22, y22, z22⟩, st22⟩ := Jvm.LawKit.callS X8 hx (y := (⟨"java/lang/Integer", "compare", "(II)I"⟩ : MethodName)) hown (mvT hZ (oW hw 67 rfl)) (mvT hZ (oW hw 68 rfl)) (mvT hZ (oW hw 69 rfl)) (mvT hZ (oW hw 70 rfl)) (by decide) (backOf (W := 0) (rmICmp l Z a0 hw [] c0 d0  h0 n0 Z0 ) hZ (oW hw 70 rfl) (oW hw 69 rfl) (by decide) (by decide)) (g := (mkF m 40 #[oR a1, oR a2, oI 0, oI c0, oI d0] [(.int d0), (.int c0)])) rfl (by rw [hml]; rfl) (argsL := [(.int c0), (.int d0)]) (rest := []) (lenOf own_pd13 rfl) rfl (by show 2 * 0 + _ ≤ _; exact Nat.le_of_eq rfl) (hb hby own_d13_40) (fun _ _ => ⟨rfl, eq8, (by decide : 0 + 0 ≤ _), (by decide : 0 + 0 ≤ _)⟩)
    dsimp only [Pt.U, Pt.locs, Pt.cells, Pt.slots] at X22 l22 y22 z22 st22 hQ22
    subst l22 y22 z22
    obtain ⟨rfl, Nq22, eq22⟩ := hQ22
    have N22 := Fr.app N8 Nq22
    have R22 : ∀ t, oG p e below T22 m 43 #[oR a1, oR a2, oI 0, oI c0, oI d0] [(.int (own_icmp c0 d0))] t → Steps p.tables e below (s₁.setTop (entryFrame m #[(.ref a1), (.ref a2)] 5)) t := fun t k => R21 t (st22 t k)
    have hv : own_cmp11 c0 c1 d0 d1 = (own_icmp c0 d0) := (if_neg hq)
    obtain ⟨fs, hr, hrun, hended, hW, hsame⟩ := X22.leave (v := some (.int (own_icmp c0 d0))) (fun h => by rw [Bd.returns] at h; cases h)
    refine ⟨_, _, R22 _ ?_, hrun, hended, _, _, rfl, ?_, ⟨_, rfl⟩, hW, hsame.mono (by decide) (by decide)⟩
    · exact retOut X22 hx Bd.returns rfl (Or.inl ⟨rfl, Or.inl rfl, _, rfl⟩) (hb hby own_d13_43) hr
    · show Q_rmCm11 Z a1 a2 c0 c1 d0 d1 cz fm h0 n0 _ T22.heap _
      rw [eq22]
      exact ⟨by rw [hv], N22, rfl⟩
def own_cmp12 (c0 c1 d0 d1 : Int32) : Int32 := (if c0 = (own_cp d0 d1) then (own_icmp (1 : Int32) (2 : Int32)) else (own_icmp c0 (own_cp d0 d1)))
theorem own_ef_rmCm12 (m : MethodId) (x0 : Addr) (x1 : Addr) : entryFrame m #[(.ref x0), (.ref x1)] 5 = mkF m 0 #[oR x0, oR x1, .unset, .unset, .unset] [] := by first | (simp [entryFrame, mkF, argsToLocals, Value.category]; done) | rfl
def Q_rmCm12 (Z : State) (a1 a2 : Addr) (c0 c1 d0 d1 : Int32) (cz : Int32) (fm : Value) (h0 : Heap) (n0 : Nat) (v : Option Value) (h : Heap) (L : List Loc) : Prop := v = some (.int (own_cmp12 c0 c1 d0 d1)) ∧ Fr n0 L ∧ h = h0
set_option maxRecDepth 65536 in
set_option maxHeartbeats 40000000 in
theorem rmCm12 (l : Launch) (Z : State) (a0 : Array Value) (hw : oT a0 Z) (ws : List Jvm.Cond) (a1 a2 : Addr) (c0 c1 d0 d1 : Int32) (cz : Int32) (fm : Value) (h0 : Heap) (n0 : Nat) (Z0 : n0 ≤ h0.size) (SU : own_St Z cz fm) (OX : Old Z n0 h0) (hs1 : own_Str Z h0 a1 (1 : Int32) c0 c1) (hs2 : own_Str Z h0 a2 (2 : Int32) d0 d1) (r0 : own_R c0) (r1 : own_R c1) (u0 : own_R d0) (u1 : own_R d1) :
    oK l Z (⟨"com/example/firm_store/firmstore/Identifiers", "compareCodePoints", "(Ljava/lang/String;Ljava/lang/String;)I"⟩ : MethodName) prog_6_method_10_code 5 (some .int) ws (oM 4 0 0 70) #[(.ref a1), (.ref a2)] h0 (Q_rmCm12 Z a1 a2 c0 c1 d0 d1 cz fm h0 n0) := by
  refine MetFree.of_bodySF (plainFor_of_name own_pn6) hisR ?_
  intro p e s m args below meth c s₁ Bd hml0 hP hK
  obtain ⟨rfl, hZ, hh⟩ := hP
  have hx := Bd.exec
  have hby := Bd.bytes
  have hml : c.maxLocals = 5 := hml0
  have hown : s.vm.findClass "com/example/firm_store/firmstore/Identifiers" = some m.cls := findClass_of_methodNamed Bd.named
  have hnm := (name_of_methodNamed Bd.named Bd.method).1
  have X0 : Stand p l e (oM 4 0 0 70) s m #[(.ref a1), (.ref a2)] below meth c s₁ [] 0 0 := Stand.of_body Bd
  have e0 : s₁.heap = h0 := by rw [← hh, Bd.state]; rfl
  have N0 := Fr.nil n0
  have R0 : ∀ t, oG p e below s₁ m 0 #[oR a1, oR a2, .unset, .unset, .unset] [] t → Steps p.tables e below (s₁.setTop (entryFrame m #[(.ref a1), (.ref a2)] 5)) t := fun t k => castTop (own_ef_rmCm12 m a1 a2) k
  have R1 : ∀ t, oG p e below s₁ m 4 #[oR a1, oR a2, oI 0, .unset, .unset] [(.ref a1), (.int 0)] t → Steps p.tables e below (s₁.setTop (entryFrame m #[(.ref a1), (.ref a2)] 5)) t := by
    intro t k
    refine R0 t ?_
    refine XS.iconst X0.here hx rfl (hb hby own_d13_0) ?_
    refine XS.istoreN X0.here hx rfl (hb hby own_d13_1) rfl (l' := #[oR a1, oR a2, oI 0, .unset, .unset]) rfl ?_
    refine XS.iloadN X0.here hx rfl (hb hby own_d13_2) rfl ?_
    show oG p e below s₁ m 3 #[oR a1, oR a2, oI 0, .unset, .unset] [(.int 0)] _
    refine XS.aloadN X0.here hx rfl (hb hby own_d13_3) rfl rfl ?_
    exact k
  obtain ⟨cq2, kq2, q2a, q2b, q2c⟩ := isOf hZ e0 hs1.exa
  obtain ⟨_, _, ⟨T2, L2, k2, n2⟩, -, X2, ⟨Lc2, hQ2, l2, y2, z2⟩, st2⟩ := X0.virtualBack hx (y := (⟨"java/lang/String", "length", "()I"⟩ : MethodName)) (z := (⟨"java/lang/String", "length", "()I"⟩ : MethodName)) hown (mvT hZ (oW hw 57 rfl)) (mvT hZ (oW hw 58 rfl)) (notFace_of_selects (args := #[]) (mvT hZ (oW hw 60 rfl))) (mvT hZ (oW hw 60 rfl)) (mvT hZ (oW hw 59 rfl)) (by decide) (backOf (W := 1) (rmLenG l Z a0 hw [] a1 (1 : Int32) c0 c1 cz fm h0 n0 Z0 SU OX hs1) hZ (oW hw 61 rfl) (oW hw 6 rfl) (by decide) (by decide)) q2a q2c (g := (mkF m 4 #[oR a1, oR a2, oI 0, .unset, .unset] [(.ref a1), (.int 0)])) rfl (by rw [hml]; rfl) (Steps.refl _) (argsL := []) (rest := [(.int 0)]) (lenOf own_pd11 rfl) rfl (by show 2 * 0 + _ ≤ _; exact Nat.le_of_eq rfl) (hb hby own_d13_4) (fun _ _ => ⟨rfl, e0, (by decide : 0 + 0 ≤ _), (by decide : 0 + 0 ≤ _)⟩)
  dsimp only [Pt.U, Pt.locs, Pt.cells, Pt.slots] at X2 l2 y2 z2 st2 hQ2
  subst l2 y2 z2
  obtain ⟨rfl, Nq2, eq2⟩ := hQ2
  have N2 := Fr.app N0 Nq2
  have R2 : ∀ t, oG p e below T2 m 7 #[oR a1, oR a2, oI 0, .unset, .unset] [(.int 1), (.int 0)] t → Steps p.tables e below (s₁.setTop (entryFrame m #[(.ref a1), (.ref a2)] 5)) t := fun t k => R1 t (st2.trans k)
  have R3 : ∀ t, oG p e below T2 m 12 #[oR a1, oR a2, oI 0, .unset, .unset] [(.ref a2), (.int 0)] t → Steps p.tables e below (s₁.setTop (entryFrame m #[(.ref a1), (.ref a2)] 5)) t := by
    intro t k
    refine R2 t ?_
    refine XS.icmpNo X2.here hx rfl (hb hby own_d13_7) rfl (tlt (by decide : ((0 : Int32) < (1 : Int32)))).2.1 ?_
    refine XS.iloadN X2.here hx rfl (hb hby own_d13_10) rfl ?_
    refine XS.aloadN X2.here hx rfl (hb hby own_d13_11) rfl rfl ?_
    exact k
  obtain ⟨cq4, kq4, q4a, q4b, q4c⟩ := isOf hZ eq2 hs2.exa
  obtain ⟨_, _, ⟨T4, L4, k4, n4⟩, -, X4, ⟨Lc4, hQ4, l4, y4, z4⟩, st4⟩ := X2.virtualBack hx (y := (⟨"java/lang/String", "length", "()I"⟩ : MethodName)) (z := (⟨"java/lang/String", "length", "()I"⟩ : MethodName)) hown (mvT hZ (oW hw 57 rfl)) (mvT hZ (oW hw 58 rfl)) (notFace_of_selects (args := #[]) (mvT hZ (oW hw 60 rfl))) (mvT hZ (oW hw 60 rfl)) (mvT hZ (oW hw 59 rfl)) (by decide) (backOf (W := 1) (rmLenG l Z a0 hw [] a2 (2 : Int32) d0 d1 cz fm h0 n0 Z0 SU OX hs2) hZ (oW hw 61 rfl) (oW hw 6 rfl) (by decide) (by decide)) q4a q4c (g := (mkF m 12 #[oR a1, oR a2, oI 0, .unset, .unset] [(.ref a2), (.int 0)])) rfl (by rw [hml]; rfl) (Steps.refl _) (argsL := []) (rest := [(.int 0)]) (lenOf own_pd11 rfl) rfl (by show 2 * 0 + _ ≤ _; exact Nat.le_of_eq rfl) (hb hby own_d13_12) (fun _ _ => ⟨rfl, eq2, (by decide : 0 + 0 ≤ _), (by decide : 0 + 0 ≤ _)⟩)
  dsimp only [Pt.U, Pt.locs, Pt.cells, Pt.slots] at X4 l4 y4 z4 st4 hQ4
  subst l4 y4 z4
  obtain ⟨rfl, Nq4, eq4⟩ := hQ4
  have N4 := Fr.app N2 Nq4
  have R4 : ∀ t, oG p e below T4 m 15 #[oR a1, oR a2, oI 0, .unset, .unset] [(.int 2), (.int 0)] t → Steps p.tables e below (s₁.setTop (entryFrame m #[(.ref a1), (.ref a2)] 5)) t := fun t k => R3 t (st4.trans k)
  have R5 : ∀ t, oG p e below T4 m 20 #[oR a1, oR a2, oI 0, .unset, .unset] [(.int 0), (.ref a1)] t → Steps p.tables e below (s₁.setTop (entryFrame m #[(.ref a1), (.ref a2)] 5)) t := by
    intro t k
    refine R4 t ?_
    refine XS.icmpNo X4.here hx rfl (hb hby own_d13_15) rfl (tlt (by decide : ((0 : Int32) < (2 : Int32)))).2.1 ?_
    refine XS.aloadN X4.here hx rfl (hb hby own_d13_18) rfl rfl ?_
    refine XS.iloadN X4.here hx rfl (hb hby own_d13_19) rfl ?_
    exact k
  obtain ⟨cq6, kq6, q6a, q6b, q6c⟩ := isOf hZ eq4 hs1.exa
  obtain ⟨_, _, ⟨T6, L6, k6, n6⟩, -, X6, ⟨Lc6, hQ6, l6, y6, z6⟩, st6⟩ := X4.virtualBack hx (y := (⟨"java/lang/String", "codePointAt", "(I)I"⟩ : MethodName)) (z := (⟨"java/lang/String", "codePointAt", "(I)I"⟩ : MethodName)) hown (mvT hZ (oW hw 91 rfl)) (mvT hZ (oW hw 92 rfl)) (notFace_of_selects (args := #[]) (mvT hZ (oW hw 94 rfl))) (mvT hZ (oW hw 94 rfl)) (mvT hZ (oW hw 93 rfl)) (by decide) (backOf (W := 0) (rmCP10 l Z a0 hw [] a1 c0 c1 cz fm h0 n0 Z0 SU OX hs1 r0 r1) hZ (oW hw 95 rfl) (oW hw 6 rfl) (by decide) (by decide)) q6a q6c (g := (mkF m 20 #[oR a1, oR a2, oI 0, .unset, .unset] [(.int 0), (.ref a1)])) rfl (by rw [hml]; rfl) (Steps.refl _) (argsL := [(.int 0)]) (rest := []) (lenOf own_pd15 rfl) rfl (by show 2 * 0 + _ ≤ _; exact Nat.le_of_eq rfl) (hb hby own_d13_20) (fun _ _ => ⟨rfl, eq4, (by decide : 0 + 0 ≤ _), (by decide : 0 + 0 ≤ _)⟩)
  dsimp only [Pt.U, Pt.locs, Pt.cells, Pt.slots] at X6 l6 y6 z6 st6 hQ6
  subst l6 y6 z6
  obtain ⟨rfl, Nq6, eq6⟩ := hQ6
  have N6 := Fr.app N4 Nq6
  have R6 : ∀ t, oG p e below T6 m 23 #[oR a1, oR a2, oI 0, .unset, .unset] [(.int c0)] t → Steps p.tables e below (s₁.setTop (entryFrame m #[(.ref a1), (.ref a2)] 5)) t := fun t k => R5 t (st6.trans k)
  have R7 : ∀ t, oG p e below T6 m 26 #[oR a1, oR a2, oI 0, oI c0, .unset] [(.int 0), (.ref a2)] t → Steps p.tables e below (s₁.setTop (entryFrame m #[(.ref a1), (.ref a2)] 5)) t := by
    intro t k
    refine R6 t ?_
    refine XS.istoreN X6.here hx rfl (hb hby own_d13_23) rfl (l' := #[oR a1, oR a2, oI 0, oI c0, .unset]) rfl ?_
    refine XS.aloadN X6.here hx rfl (hb hby own_d13_24) rfl rfl ?_
    refine XS.iloadN X6.here hx rfl (hb hby own_d13_25) rfl ?_
    exact k
  obtain ⟨cq8, kq8, q8a, q8b, q8c⟩ := isOf hZ eq6 hs2.exa
  obtain ⟨_, _, ⟨T8, L8, k8, n8⟩, -, X8, ⟨Lc8, hQ8, l8, y8, z8⟩, st8⟩ := X6.virtualBack hx (y := (⟨"java/lang/String", "codePointAt", "(I)I"⟩ : MethodName)) (z := (⟨"java/lang/String", "codePointAt", "(I)I"⟩ : MethodName)) hown (mvT hZ (oW hw 91 rfl)) (mvT hZ (oW hw 92 rfl)) (notFace_of_selects (args := #[]) (mvT hZ (oW hw 94 rfl))) (mvT hZ (oW hw 94 rfl)) (mvT hZ (oW hw 93 rfl)) (by decide) (backOf (W := 0) (rmCP20 l Z a0 hw [] a2 d0 d1 cz fm h0 n0 Z0 SU OX hs2 u0 u1) hZ (oW hw 95 rfl) (oW hw 6 rfl) (by decide) (by decide)) q8a q8c (g := (mkF m 26 #[oR a1, oR a2, oI 0, oI c0, .unset] [(.int 0), (.ref a2)])) rfl (by rw [hml]; rfl) (Steps.refl _) (argsL := [(.int 0)]) (rest := []) (lenOf own_pd15 rfl) rfl (by show 2 * 0 + _ ≤ _; exact Nat.le_of_eq rfl) (hb hby own_d13_26) (fun _ _ => ⟨rfl, eq6, (by decide : 0 + 0 ≤ _), (by decide : 0 + 0 ≤ _)⟩)
  dsimp only [Pt.U, Pt.locs, Pt.cells, Pt.slots] at X8 l8 y8 z8 st8 hQ8
  subst l8 y8 z8
  obtain ⟨rfl, Nq8, eq8⟩ := hQ8
  have N8 := Fr.app N6 Nq8
  have R8 : ∀ t, oG p e below T8 m 29 #[oR a1, oR a2, oI 0, oI c0, .unset] [(.int (own_cp d0 d1))] t → Steps p.tables e below (s₁.setTop (entryFrame m #[(.ref a1), (.ref a2)] 5)) t := fun t k => R7 t (st8.trans k)
  have R9 : ∀ t, oG p e below T8 m 34 #[oR a1, oR a2, oI 0, oI c0, oI (own_cp d0 d1)] [(.int (own_cp d0 d1)), (.int c0)] t → Steps p.tables e below (s₁.setTop (entryFrame m #[(.ref a1), (.ref a2)] 5)) t := by
    intro t k
    refine R8 t ?_
    refine XS.istore X8.here hx rfl (hb hby own_d13_29) rfl (l' := #[oR a1, oR a2, oI 0, oI c0, oI (own_cp d0 d1)]) rfl ?_
    refine XS.iloadN X8.here hx rfl (hb hby own_d13_31) rfl ?_
    refine XS.iload X8.here hx rfl (hb hby own_d13_32) rfl ?_
    exact k
  by_cases hq : c0 = (own_cp d0 d1)
  · have R10 : ∀ t, oG p e below T8 m 46 #[oR a1, oR a2, oI 0, oI c0, oI (own_cp d0 d1)] [(.int c0), (.int 0)] t → Steps p.tables e below (s₁.setTop (entryFrame m #[(.ref a1), (.ref a2)] 5)) t := by
      intro t k
      refine R9 t ?_
      refine XS.icmpYes X8.here hx rfl (pc0 := 34) (pc' := 44) rfl (hb hby own_d13_34) rfl (teq hq).1 (by decide) (by decide) ?_
      refine XS.iloadN X8.here hx rfl (hb hby own_d13_44) rfl ?_
      refine XS.iloadN X8.here hx rfl (hb hby own_d13_45) rfl ?_
      exact k
    obtain ⟨_, _, ⟨T11, L11, k11, n11⟩, -, X11, ⟨Lc11, hQ11, l11, y11, z11⟩, st11⟩ := Jvm.LawKit.callS X8 hx (y := (⟨"java/lang/Character", "charCount", "(I)I"⟩ : MethodName)) hown (mvT hZ (oW hw 135 rfl)) (mvT hZ (oW hw 136 rfl)) (mvT hZ (oW hw 117 rfl)) (mvT hZ (oW hw 137 rfl)) (by decide) (backOf (W := 1) (rmCC l Z a0 hw [] c0  h0 n0 Z0 ) hZ (oW hw 137 rfl) (oW hw 117 rfl) (by decide) (by decide)) (g := (mkF m 46 #[oR a1, oR a2, oI 0, oI c0, oI (own_cp d0 d1)] [(.int c0), (.int 0)])) rfl (by rw [hml]; rfl) (argsL := [(.int c0)]) (rest := [(.int 0)]) (lenOf own_pd15 rfl) rfl (by show 2 * 0 + _ ≤ _; exact Nat.le_of_eq rfl) (hb hby own_d13_46) (fun _ _ => ⟨rfl, eq8, (by decide : 0 + 0 ≤ _), (by decide : 0 + 0 ≤ _)⟩)
    dsimp only [Pt.U, Pt.locs, Pt.cells, Pt.slots] at X11 l11 y11 z11 st11 hQ11
    subst l11 y11 z11
    obtain ⟨rfl, Nq11, eq11⟩ := hQ11
    have N11 := Fr.app N8 Nq11
    have R11 : ∀ t, oG p e below T11 m 49 #[oR a1, oR a2, oI 0, oI c0, oI (own_cp d0 d1)] [(.int (own_cc c0)), (.int 0)] t → Steps p.tables e below (s₁.setTop (entryFrame m #[(.ref a1), (.ref a2)] 5)) t := fun t k => R10 t (st11 t k)
    have R12 : ∀ t, oG p e below T11 m 50 #[oR a1, oR a2, oI 0, oI c0, oI (own_cp d0 d1)] [(.int ((0 : Int32) + (own_cc c0)))] t → Steps p.tables e below (s₁.setTop (entryFrame m #[(.ref a1), (.ref a2)] 5)) t := by
      intro t k
      refine R11 t ?_
      refine XS.iadd X11.here hx rfl (hb hby own_d13_49) rfl ?_
      exact k
    have R13 : ∀ t, oG p e below T11 m 50 #[oR a1, oR a2, oI 0, oI c0, oI (own_cp d0 d1)] [(.int 1)] t → Steps p.tables e below (s₁.setTop (entryFrame m #[(.ref a1), (.ref a2)] 5)) t := by rw [(by rw [own_cc1 (own_R6 r0)]; decide : ((0 : Int32) + (own_cc c0)) = (1 : Int32))] at R12; exact R12
    have R14 : ∀ t, oG p e below T11 m 4 #[oR a1, oR a2, oI 1, oI c0, oI (own_cp d0 d1)] [(.ref a1), (.int 1)] t → Steps p.tables e below (s₁.setTop (entryFrame m #[(.ref a1), (.ref a2)] 5)) t := by
      intro t k
      refine R13 t ?_
      refine XS.istoreN X11.here hx rfl (hb hby own_d13_50) rfl (l' := #[oR a1, oR a2, oI 1, oI c0, oI (own_cp d0 d1)]) rfl ?_
      refine XS.goto X11.here hx rfl (pc0 := 51) (pc' := 2) rfl (hb hby own_d13_51) (by decide) (by decide) ?_
      refine XS.iloadN X11.here hx rfl (hb hby own_d13_2) rfl ?_
      show oG p e below T11 m 3 #[oR a1, oR a2, oI 1, oI c0, oI (own_cp d0 d1)] [(.int 1)] _
      refine XS.aloadN X11.here hx rfl (hb hby own_d13_3) rfl rfl ?_
      exact k
    obtain ⟨cq15, kq15, q15a, q15b, q15c⟩ := isOf hZ eq11 hs1.exa
    obtain ⟨_, _, ⟨T15, L15, k15, n15⟩, -, X15, ⟨Lc15, hQ15, l15, y15, z15⟩, st15⟩ := X11.virtualBack hx (y := (⟨"java/lang/String", "length", "()I"⟩ : MethodName)) (z := (⟨"java/lang/String", "length", "()I"⟩ : MethodName)) hown (mvT hZ (oW hw 57 rfl)) (mvT hZ (oW hw 58 rfl)) (notFace_of_selects (args := #[]) (mvT hZ (oW hw 60 rfl))) (mvT hZ (oW hw 60 rfl)) (mvT hZ (oW hw 59 rfl)) (by decide) (backOf (W := 1) (rmLenG l Z a0 hw [] a1 (1 : Int32) c0 c1 cz fm h0 n0 Z0 SU OX hs1) hZ (oW hw 61 rfl) (oW hw 6 rfl) (by decide) (by decide)) q15a q15c (g := (mkF m 4 #[oR a1, oR a2, oI 1, oI c0, oI (own_cp d0 d1)] [(.ref a1), (.int 1)])) rfl (by rw [hml]; rfl) (Steps.refl _) (argsL := []) (rest := [(.int 1)]) (lenOf own_pd11 rfl) rfl (by show 2 * 0 + _ ≤ _; exact Nat.le_of_eq rfl) (hb hby own_d13_4) (fun _ _ => ⟨rfl, eq11, (by decide : 0 + 0 ≤ _), (by decide : 0 + 0 ≤ _)⟩)
    dsimp only [Pt.U, Pt.locs, Pt.cells, Pt.slots] at X15 l15 y15 z15 st15 hQ15
    subst l15 y15 z15
    obtain ⟨rfl, Nq15, eq15⟩ := hQ15
    have N15 := Fr.app N11 Nq15
    have R15 : ∀ t, oG p e below T15 m 7 #[oR a1, oR a2, oI 1, oI c0, oI (own_cp d0 d1)] [(.int 1), (.int 1)] t → Steps p.tables e below (s₁.setTop (entryFrame m #[(.ref a1), (.ref a2)] 5)) t := fun t k => R14 t (st15.trans k)
    have R16 : ∀ t, oG p e below T15 m 55 #[oR a1, oR a2, oI 1, oI c0, oI (own_cp d0 d1)] [(.ref a1)] t → Steps p.tables e below (s₁.setTop (entryFrame m #[(.ref a1), (.ref a2)] 5)) t := by
      intro t k
      refine R15 t ?_
      refine XS.icmpYes X15.here hx rfl (pc0 := 7) (pc' := 54) rfl (hb hby own_d13_7) rfl (flt (by decide : ¬ ((1 : Int32) < (1 : Int32)))).2.1 (by decide) (by decide) ?_
      refine XS.aloadN X15.here hx rfl (hb hby own_d13_54) rfl rfl ?_
      exact k
    obtain ⟨cq17, kq17, q17a, q17b, q17c⟩ := isOf hZ eq15 hs1.exa
    obtain ⟨_, _, ⟨T17, L17, k17, n17⟩, -, X17, ⟨Lc17, hQ17, l17, y17, z17⟩, st17⟩ := X15.virtualBack hx (y := (⟨"java/lang/String", "length", "()I"⟩ : MethodName)) (z := (⟨"java/lang/String", "length", "()I"⟩ : MethodName)) hown (mvT hZ (oW hw 57 rfl)) (mvT hZ (oW hw 58 rfl)) (notFace_of_selects (args := #[]) (mvT hZ (oW hw 60 rfl))) (mvT hZ (oW hw 60 rfl)) (mvT hZ (oW hw 59 rfl)) (by decide) (backOf (W := 0) (rmLenG l Z a0 hw [] a1 (1 : Int32) c0 c1 cz fm h0 n0 Z0 SU OX hs1) hZ (oW hw 61 rfl) (oW hw 6 rfl) (by decide) (by decide)) q17a q17c (g := (mkF m 55 #[oR a1, oR a2, oI 1, oI c0, oI (own_cp d0 d1)] [(.ref a1)])) rfl (by rw [hml]; rfl) (Steps.refl _) (argsL := []) (rest := []) (lenOf own_pd11 rfl) rfl (by show 2 * 0 + _ ≤ _; exact Nat.le_of_eq rfl) (hb hby own_d13_55) (fun _ _ => ⟨rfl, eq15, (by decide : 0 + 0 ≤ _), (by decide : 0 + 0 ≤ _)⟩)
    dsimp only [Pt.U, Pt.locs, Pt.cells, Pt.slots] at X17 l17 y17 z17 st17 hQ17
    subst l17 y17 z17
    obtain ⟨rfl, Nq17, eq17⟩ := hQ17
    have N17 := Fr.app N15 Nq17
    have R17 : ∀ t, oG p e below T17 m 58 #[oR a1, oR a2, oI 1, oI c0, oI (own_cp d0 d1)] [(.int 1)] t → Steps p.tables e below (s₁.setTop (entryFrame m #[(.ref a1), (.ref a2)] 5)) t := fun t k => R16 t (st17.trans k)
    have R18 : ∀ t, oG p e below T17 m 59 #[oR a1, oR a2, oI 1, oI c0, oI (own_cp d0 d1)] [(.ref a2), (.int 1)] t → Steps p.tables e below (s₁.setTop (entryFrame m #[(.ref a1), (.ref a2)] 5)) t := by
      intro t k
      refine R17 t ?_
      refine XS.aloadN X17.here hx rfl (hb hby own_d13_58) rfl rfl ?_
      exact k
    obtain ⟨cq19, kq19, q19a, q19b, q19c⟩ := isOf hZ eq17 hs2.exa
    obtain ⟨_, _, ⟨T19, L19, k19, n19⟩, -, X19, ⟨Lc19, hQ19, l19, y19, z19⟩, st19⟩ := X17.virtualBack hx (y := (⟨"java/lang/String", "length", "()I"⟩ : MethodName)) (z := (⟨"java/lang/String", "length", "()I"⟩ : MethodName)) hown (mvT hZ (oW hw 57 rfl)) (mvT hZ (oW hw 58 rfl)) (notFace_of_selects (args := #[]) (mvT hZ (oW hw 60 rfl))) (mvT hZ (oW hw 60 rfl)) (mvT hZ (oW hw 59 rfl)) (by decide) (backOf (W := 1) (rmLenG l Z a0 hw [] a2 (2 : Int32) d0 d1 cz fm h0 n0 Z0 SU OX hs2) hZ (oW hw 61 rfl) (oW hw 6 rfl) (by decide) (by decide)) q19a q19c (g := (mkF m 59 #[oR a1, oR a2, oI 1, oI c0, oI (own_cp d0 d1)] [(.ref a2), (.int 1)])) rfl (by rw [hml]; rfl) (Steps.refl _) (argsL := []) (rest := [(.int 1)]) (lenOf own_pd11 rfl) rfl (by show 2 * 0 + _ ≤ _; exact Nat.le_of_eq rfl) (hb hby own_d13_59) (fun _ _ => ⟨rfl, eq17, (by decide : 0 + 0 ≤ _), (by decide : 0 + 0 ≤ _)⟩)
    dsimp only [Pt.U, Pt.locs, Pt.cells, Pt.slots] at X19 l19 y19 z19 st19 hQ19
    subst l19 y19 z19
    obtain ⟨rfl, Nq19, eq19⟩ := hQ19
    have N19 := Fr.app N17 Nq19
    have R19 : ∀ t, oG p e below T19 m 62 #[oR a1, oR a2, oI 1, oI c0, oI (own_cp d0 d1)] [(.int 2), (.int 1)] t → Steps p.tables e below (s₁.setTop (entryFrame m #[(.ref a1), (.ref a2)] 5)) t := fun t k => R18 t (st19.trans k)
    obtain ⟨_, _, ⟨T20, L20, k20, n20⟩, -, X20, ⟨Lc20, hQ20, l20, y20, z20⟩, st20⟩ := Jvm.LawKit.callS X19 hx (y := (⟨"java/lang/Integer", "compare", "(II)I"⟩ : MethodName)) hown (mvT hZ (oW hw 67 rfl)) (mvT hZ (oW hw 68 rfl)) (mvT hZ (oW hw 69 rfl)) (mvT hZ (oW hw 70 rfl)) (by decide) (backOf (W := 0) (rmICmp l Z a0 hw [] (1 : Int32) (2 : Int32)  h0 n0 Z0 ) hZ (oW hw 70 rfl) (oW hw 69 rfl) (by decide) (by decide)) (g := (mkF m 62 #[oR a1, oR a2, oI 1, oI c0, oI (own_cp d0 d1)] [(.int 2), (.int 1)])) rfl (by rw [hml]; rfl) (argsL := [(.int 1), (.int 2)]) (rest := []) (lenOf own_pd13 rfl) rfl (by show 2 * 0 + _ ≤ _; exact Nat.le_of_eq rfl) (hb hby own_d13_62) (fun _ _ => ⟨rfl, eq19, (by decide : 0 + 0 ≤ _), (by decide : 0 + 0 ≤ _)⟩)
    dsimp only [Pt.U, Pt.locs, Pt.cells, Pt.slots] at X20 l20 y20 z20 st20 hQ20
    subst l20 y20 z20
    obtain ⟨rfl, Nq20, eq20⟩ := hQ20
    have N20 := Fr.app N19 Nq20
    have R20 : ∀ t, oG p e below T20 m 65 #[oR a1, oR a2, oI 1, oI c0, oI (own_cp d0 d1)] [(.int (own_icmp (1 : Int32) (2 : Int32)))] t → Steps p.tables e below (s₁.setTop (entryFrame m #[(.ref a1), (.ref a2)] 5)) t := fun t k => R19 t (st20 t k)
    have hv : own_cmp12 c0 c1 d0 d1 = (own_icmp (1 : Int32) (2 : Int32)) := (if_pos hq)
    obtain ⟨fs, hr, hrun, hended, hW, hsame⟩ := X20.leave (v := some (.int (own_icmp (1 : Int32) (2 : Int32)))) (fun h => by rw [Bd.returns] at h; cases h)
    refine ⟨_, _, R20 _ ?_, hrun, hended, _, _, rfl, ?_, ⟨_, rfl⟩, hW, hsame.mono (by decide) (by decide)⟩
    · exact retOut X20 hx Bd.returns rfl (Or.inl ⟨rfl, Or.inl rfl, _, rfl⟩) (hb hby own_d13_65) hr
    · show Q_rmCm12 Z a1 a2 c0 c1 d0 d1 cz fm h0 n0 _ T20.heap _
      rw [eq20]
      exact ⟨by rw [hv], N20, rfl⟩
  · have R21 : ∀ t, oG p e below T8 m 40 #[oR a1, oR a2, oI 0, oI c0, oI (own_cp d0 d1)] [(.int (own_cp d0 d1)), (.int c0)] t → Steps p.tables e below (s₁.setTop (entryFrame m #[(.ref a1), (.ref a2)] 5)) t := by
      intro t k
      refine R9 t ?_
      refine XS.icmpNo X8.here hx rfl (hb hby own_d13_34) rfl (feq hq).1 ?_
      refine XS.iloadN X8.here hx rfl (hb hby own_d13_37) rfl ?_
      refine XS.iload X8.here hx rfl (hb hby own_d13_38) rfl ?_
      exact k
    obtain ⟨_, _, ⟨T22, L22, k22, n22⟩, -, X22, ⟨Lc22, hQ22, l22, y22, z22⟩, st22⟩ := Jvm.LawKit.callS X8 hx (y := (⟨"java/lang/Integer", "compare", "(II)I"⟩ : MethodName)) hown (mvT hZ (oW hw 67 rfl)) (mvT hZ (oW hw 68 rfl)) (mvT hZ (oW hw 69 rfl)) (mvT hZ (oW hw 70 rfl)) (by decide) (backOf (W := 0) (rmICmp l Z a0 hw [] c0 (own_cp d0 d1)  h0 n0 Z0 ) hZ (oW hw 70 rfl) (oW hw 69 rfl) (by decide) (by decide)) (g := (mkF m 40 #[oR a1, oR a2, oI 0, oI c0, oI (own_cp d0 d1)] [(.int (own_cp d0 d1)), (.int c0)])) rfl (by rw [hml]; rfl) (argsL := [(.int c0), (.int (own_cp d0 d1))]) (rest := []) (lenOf own_pd13 rfl) rfl (by show 2 * 0 + _ ≤ _; exact Nat.le_of_eq rfl) (hb hby own_d13_40) (fun _ _ => ⟨rfl, eq8, (by decide : 0 + 0 ≤ _), (by decide : 0 + 0 ≤ _)⟩)
    dsimp only [Pt.U, Pt.locs, Pt.cells, Pt.slots] at X22 l22 y22 z22 st22 hQ22
    subst l22 y22 z22
    obtain ⟨rfl, Nq22, eq22⟩ := hQ22
    have N22 := Fr.app N8 Nq22
    have R22 : ∀ t, oG p e below T22 m 43 #[oR a1, oR a2, oI 0, oI c0, oI (own_cp d0 d1)] [(.int (own_icmp c0 (own_cp d0 d1)))] t → Steps p.tables e below (s₁.setTop (entryFrame m #[(.ref a1), (.ref a2)] 5)) t := fun t k => R21 t (st22 t k)
    have hv : own_cmp12 c0 c1 d0 d1 = (own_icmp c0 (own_cp d0 d1)) := (if_neg hq)
    obtain ⟨fs, hr, hrun, hended, hW, hsame⟩ := X22.leave (v := some (.int (own_icmp c0 (own_cp d0 d1)))) (fun h => by rw [Bd.returns] at h; cases h)
    refine ⟨_, _, R22 _ ?_, hrun, hended, _, _, rfl, ?_, ⟨_, rfl⟩, hW, hsame.mono (by decide) (by decide)⟩
    · exact retOut X22 hx Bd.returns rfl (Or.inl ⟨rfl, Or.inl rfl, _, rfl⟩) (hb hby own_d13_43) hr
    · show Q_rmCm12 Z a1 a2 c0 c1 d0 d1 cz fm h0 n0 _ T22.heap _
      rw [eq22]
      exact ⟨by rw [hv], N22, rfl⟩
def own_cmp20 (c0 c1 d0 d1 : Int32) : Int32 := (own_icmp (2 : Int32) (0 : Int32))
theorem own_ef_rmCm20 (m : MethodId) (x0 : Addr) (x1 : Addr) : entryFrame m #[(.ref x0), (.ref x1)] 5 = mkF m 0 #[oR x0, oR x1, .unset, .unset, .unset] [] := by first | (simp [entryFrame, mkF, argsToLocals, Value.category]; done) | rfl
def Q_rmCm20 (Z : State) (a1 a2 : Addr) (c0 c1 d0 d1 : Int32) (cz : Int32) (fm : Value) (h0 : Heap) (n0 : Nat) (v : Option Value) (h : Heap) (L : List Loc) : Prop := v = some (.int (own_cmp20 c0 c1 d0 d1)) ∧ Fr n0 L ∧ h = h0
set_option maxRecDepth 65536 in
set_option maxHeartbeats 40000000 in
theorem rmCm20 (l : Launch) (Z : State) (a0 : Array Value) (hw : oT a0 Z) (ws : List Jvm.Cond) (a1 a2 : Addr) (c0 c1 d0 d1 : Int32) (cz : Int32) (fm : Value) (h0 : Heap) (n0 : Nat) (Z0 : n0 ≤ h0.size) (SU : own_St Z cz fm) (OX : Old Z n0 h0) (hs1 : own_Str Z h0 a1 (2 : Int32) c0 c1) (hs2 : own_Str Z h0 a2 (0 : Int32) d0 d1) (r0 : own_R c0) (r1 : own_R c1) (u0 : own_R d0) (u1 : own_R d1) :
    oK l Z (⟨"com/example/firm_store/firmstore/Identifiers", "compareCodePoints", "(Ljava/lang/String;Ljava/lang/String;)I"⟩ : MethodName) prog_6_method_10_code 5 (some .int) ws (oM 4 0 0 70) #[(.ref a1), (.ref a2)] h0 (Q_rmCm20 Z a1 a2 c0 c1 d0 d1 cz fm h0 n0) := by
  refine MetFree.of_bodySF (plainFor_of_name own_pn6) hisR ?_
  intro p e s m args below meth c s₁ Bd hml0 hP hK
  obtain ⟨rfl, hZ, hh⟩ := hP
  have hx := Bd.exec
  have hby := Bd.bytes
  have hml : c.maxLocals = 5 := hml0
  have hown : s.vm.findClass "com/example/firm_store/firmstore/Identifiers" = some m.cls := findClass_of_methodNamed Bd.named
  have hnm := (name_of_methodNamed Bd.named Bd.method).1
  have X0 : Stand p l e (oM 4 0 0 70) s m #[(.ref a1), (.ref a2)] below meth c s₁ [] 0 0 := Stand.of_body Bd
  have e0 : s₁.heap = h0 := by rw [← hh, Bd.state]; rfl
  have N0 := Fr.nil n0
  have R0 : ∀ t, oG p e below s₁ m 0 #[oR a1, oR a2, .unset, .unset, .unset] [] t → Steps p.tables e below (s₁.setTop (entryFrame m #[(.ref a1), (.ref a2)] 5)) t := fun t k => castTop (own_ef_rmCm20 m a1 a2) k
  have R1 : ∀ t, oG p e below s₁ m 4 #[oR a1, oR a2, oI 0, .unset, .unset] [(.ref a1), (.int 0)] t → Steps p.tables e below (s₁.setTop (entryFrame m #[(.ref a1), (.ref a2)] 5)) t := by
    intro t k
    refine R0 t ?_
    refine XS.iconst X0.here hx rfl (hb hby own_d13_0) ?_
    refine XS.istoreN X0.here hx rfl (hb hby own_d13_1) rfl (l' := #[oR a1, oR a2, oI 0, .unset, .unset]) rfl ?_
    refine XS.iloadN X0.here hx rfl (hb hby own_d13_2) rfl ?_
    show oG p e below s₁ m 3 #[oR a1, oR a2, oI 0, .unset, .unset] [(.int 0)] _
    refine XS.aloadN X0.here hx rfl (hb hby own_d13_3) rfl rfl ?_
    exact k
  obtain ⟨cq2, kq2, q2a, q2b, q2c⟩ := isOf hZ e0 hs1.exa
  obtain ⟨_, _, ⟨T2, L2, k2, n2⟩, -, X2, ⟨Lc2, hQ2, l2, y2, z2⟩, st2⟩ := X0.virtualBack hx (y := (⟨"java/lang/String", "length", "()I"⟩ : MethodName)) (z := (⟨"java/lang/String", "length", "()I"⟩ : MethodName)) hown (mvT hZ (oW hw 57 rfl)) (mvT hZ (oW hw 58 rfl)) (notFace_of_selects (args := #[]) (mvT hZ (oW hw 60 rfl))) (mvT hZ (oW hw 60 rfl)) (mvT hZ (oW hw 59 rfl)) (by decide) (backOf (W := 1) (rmLenG l Z a0 hw [] a1 (2 : Int32) c0 c1 cz fm h0 n0 Z0 SU OX hs1) hZ (oW hw 61 rfl) (oW hw 6 rfl) (by decide) (by decide)) q2a q2c (g := (mkF m 4 #[oR a1, oR a2, oI 0, .unset, .unset] [(.ref a1), (.int 0)])) rfl (by rw [hml]; rfl) (Steps.refl _) (argsL := []) (rest := [(.int 0)]) (lenOf own_pd11 rfl) rfl (by show 2 * 0 + _ ≤ _; exact Nat.le_of_eq rfl) (hb hby own_d13_4) (fun _ _ => ⟨rfl, e0, (by decide : 0 + 0 ≤ _), (by decide : 0 + 0 ≤ _)⟩)
  dsimp only [Pt.U, Pt.locs, Pt.cells, Pt.slots] at X2 l2 y2 z2 st2 hQ2
  subst l2 y2 z2
  obtain ⟨rfl, Nq2, eq2⟩ := hQ2
  have N2 := Fr.app N0 Nq2
  have R2 : ∀ t, oG p e below T2 m 7 #[oR a1, oR a2, oI 0, .unset, .unset] [(.int 2), (.int 0)] t → Steps p.tables e below (s₁.setTop (entryFrame m #[(.ref a1), (.ref a2)] 5)) t := fun t k => R1 t (st2.trans k)
  have R3 : ∀ t, oG p e below T2 m 12 #[oR a1, oR a2, oI 0, .unset, .unset] [(.ref a2), (.int 0)] t → Steps p.tables e below (s₁.setTop (entryFrame m #[(.ref a1), (.ref a2)] 5)) t := by
    intro t k
    refine R2 t ?_
    refine XS.icmpNo X2.here hx rfl (hb hby own_d13_7) rfl (tlt (by decide : ((0 : Int32) < (2 : Int32)))).2.1 ?_
    refine XS.iloadN X2.here hx rfl (hb hby own_d13_10) rfl ?_
    refine XS.aloadN X2.here hx rfl (hb hby own_d13_11) rfl rfl ?_
    exact k
  obtain ⟨cq4, kq4, q4a, q4b, q4c⟩ := isOf hZ eq2 hs2.exa
  obtain ⟨_, _, ⟨T4, L4, k4, n4⟩, -, X4, ⟨Lc4, hQ4, l4, y4, z4⟩, st4⟩ := X2.virtualBack hx (y := (⟨"java/lang/String", "length", "()I"⟩ : MethodName)) (z := (⟨"java/lang/String", "length", "()I"⟩ : MethodName)) hown (mvT hZ (oW hw 57 rfl)) (mvT hZ (oW hw 58 rfl)) (notFace_of_selects (args := #[]) (mvT hZ (oW hw 60 rfl))) (mvT hZ (oW hw 60 rfl)) (mvT hZ (oW hw 59 rfl)) (by decide) (backOf (W := 1) (rmLenG l Z a0 hw [] a2 (0 : Int32) d0 d1 cz fm h0 n0 Z0 SU OX hs2) hZ (oW hw 61 rfl) (oW hw 6 rfl) (by decide) (by decide)) q4a q4c (g := (mkF m 12 #[oR a1, oR a2, oI 0, .unset, .unset] [(.ref a2), (.int 0)])) rfl (by rw [hml]; rfl) (Steps.refl _) (argsL := []) (rest := [(.int 0)]) (lenOf own_pd11 rfl) rfl (by show 2 * 0 + _ ≤ _; exact Nat.le_of_eq rfl) (hb hby own_d13_12) (fun _ _ => ⟨rfl, eq2, (by decide : 0 + 0 ≤ _), (by decide : 0 + 0 ≤ _)⟩)
  dsimp only [Pt.U, Pt.locs, Pt.cells, Pt.slots] at X4 l4 y4 z4 st4 hQ4
  subst l4 y4 z4
  obtain ⟨rfl, Nq4, eq4⟩ := hQ4
  have N4 := Fr.app N2 Nq4
  have R4 : ∀ t, oG p e below T4 m 15 #[oR a1, oR a2, oI 0, .unset, .unset] [(.int 0), (.int 0)] t → Steps p.tables e below (s₁.setTop (entryFrame m #[(.ref a1), (.ref a2)] 5)) t := fun t k => R3 t (st4.trans k)
  have R5 : ∀ t, oG p e below T4 m 55 #[oR a1, oR a2, oI 0, .unset, .unset] [(.ref a1)] t → Steps p.tables e below (s₁.setTop (entryFrame m #[(.ref a1), (.ref a2)] 5)) t := by
    intro t k
    refine R4 t ?_
    refine XS.icmpYes X4.here hx rfl (pc0 := 15) (pc' := 54) rfl (hb hby own_d13_15) rfl (flt (by decide : ¬ ((0 : Int32) < (0 : Int32)))).2.1 (by decide) (by decide) ?_
    refine XS.aloadN X4.here hx rfl (hb hby own_d13_54) rfl rfl ?_
    exact k
  obtain ⟨cq6, kq6, q6a, q6b, q6c⟩ := isOf hZ eq4 hs1.exa
  obtain ⟨_, _, ⟨T6, L6, k6, n6⟩, -, X6, ⟨Lc6, hQ6, l6, y6, z6⟩, st6⟩ := X4.virtualBack hx (y := (⟨"java/lang/String", "length", "()I"⟩ : MethodName)) (z := (⟨"java/lang/String", "length", "()I"⟩ : MethodName)) hown (mvT hZ (oW hw 57 rfl)) (mvT hZ (oW hw 58 rfl)) (notFace_of_selects (args := #[]) (mvT hZ (oW hw 60 rfl))) (mvT hZ (oW hw 60 rfl)) (mvT hZ (oW hw 59 rfl)) (by decide) (backOf (W := 0) (rmLenG l Z a0 hw [] a1 (2 : Int32) c0 c1 cz fm h0 n0 Z0 SU OX hs1) hZ (oW hw 61 rfl) (oW hw 6 rfl) (by decide) (by decide)) q6a q6c (g := (mkF m 55 #[oR a1, oR a2, oI 0, .unset, .unset] [(.ref a1)])) rfl (by rw [hml]; rfl) (Steps.refl _) (argsL := []) (rest := []) (lenOf own_pd11 rfl) rfl (by show 2 * 0 + _ ≤ _; exact Nat.le_of_eq rfl) (hb hby own_d13_55) (fun _ _ => ⟨rfl, eq4, (by decide : 0 + 0 ≤ _), (by decide : 0 + 0 ≤ _)⟩)
  dsimp only [Pt.U, Pt.locs, Pt.cells, Pt.slots] at X6 l6 y6 z6 st6 hQ6
  subst l6 y6 z6
  obtain ⟨rfl, Nq6, eq6⟩ := hQ6
  have N6 := Fr.app N4 Nq6
  have R6 : ∀ t, oG p e below T6 m 58 #[oR a1, oR a2, oI 0, .unset, .unset] [(.int 2)] t → Steps p.tables e below (s₁.setTop (entryFrame m #[(.ref a1), (.ref a2)] 5)) t := fun t k => R5 t (st6.trans k)
  have R7 : ∀ t, oG p e below T6 m 59 #[oR a1, oR a2, oI 0, .unset, .unset] [(.ref a2), (.int 2)] t → Steps p.tables e below (s₁.setTop (entryFrame m #[(.ref a1), (.ref a2)] 5)) t := by
    intro t k
    refine R6 t ?_
    refine XS.aloadN X6.here hx rfl (hb hby own_d13_58) rfl rfl ?_
    exact k
  obtain ⟨cq8, kq8, q8a, q8b, q8c⟩ := isOf hZ eq6 hs2.exa
  obtain ⟨_, _, ⟨T8, L8, k8, n8⟩, -, X8, ⟨Lc8, hQ8, l8, y8, z8⟩, st8⟩ := X6.virtualBack hx (y := (⟨"java/lang/String", "length", "()I"⟩ : MethodName)) (z := (⟨"java/lang/String", "length", "()I"⟩ : MethodName)) hown (mvT hZ (oW hw 57 rfl)) (mvT hZ (oW hw 58 rfl)) (notFace_of_selects (args := #[]) (mvT hZ (oW hw 60 rfl))) (mvT hZ (oW hw 60 rfl)) (mvT hZ (oW hw 59 rfl)) (by decide) (backOf (W := 1) (rmLenG l Z a0 hw [] a2 (0 : Int32) d0 d1 cz fm h0 n0 Z0 SU OX hs2) hZ (oW hw 61 rfl) (oW hw 6 rfl) (by decide) (by decide)) q8a q8c (g := (mkF m 59 #[oR a1, oR a2, oI 0, .unset, .unset] [(.ref a2), (.int 2)])) rfl (by rw [hml]; rfl) (Steps.refl _) (argsL := []) (rest := [(.int 2)]) (lenOf own_pd11 rfl) rfl (by show 2 * 0 + _ ≤ _; exact Nat.le_of_eq rfl) (hb hby own_d13_59) (fun _ _ => ⟨rfl, eq6, (by decide : 0 + 0 ≤ _), (by decide : 0 + 0 ≤ _)⟩)
  dsimp only [Pt.U, Pt.locs, Pt.cells, Pt.slots] at X8 l8 y8 z8 st8 hQ8
  subst l8 y8 z8
  obtain ⟨rfl, Nq8, eq8⟩ := hQ8
  have N8 := Fr.app N6 Nq8
  have R8 : ∀ t, oG p e below T8 m 62 #[oR a1, oR a2, oI 0, .unset, .unset] [(.int 0), (.int 2)] t → Steps p.tables e below (s₁.setTop (entryFrame m #[(.ref a1), (.ref a2)] 5)) t := fun t k => R7 t (st8.trans k)
  obtain ⟨_, _, ⟨T9, L9, k9, n9⟩, -, X9, ⟨Lc9, hQ9, l9, y9, z9⟩, st9⟩ := Jvm.LawKit.callS X8 hx (y := (⟨"java/lang/Integer", "compare", "(II)I"⟩ : MethodName)) hown (mvT hZ (oW hw 67 rfl)) (mvT hZ (oW hw 68 rfl)) (mvT hZ (oW hw 69 rfl)) (mvT hZ (oW hw 70 rfl)) (by decide) (backOf (W := 0) (rmICmp l Z a0 hw [] (2 : Int32) (0 : Int32)  h0 n0 Z0 ) hZ (oW hw 70 rfl) (oW hw 69 rfl) (by decide) (by decide)) (g := (mkF m 62 #[oR a1, oR a2, oI 0, .unset, .unset] [(.int 0), (.int 2)])) rfl (by rw [hml]; rfl) (argsL := [(.int 2), (.int 0)]) (rest := []) (lenOf own_pd13 rfl) rfl (by show 2 * 0 + _ ≤ _; exact Nat.le_of_eq rfl) (hb hby own_d13_62) (fun _ _ => ⟨rfl, eq8, (by decide : 0 + 0 ≤ _), (by decide : 0 + 0 ≤ _)⟩)
  dsimp only [Pt.U, Pt.locs, Pt.cells, Pt.slots] at X9 l9 y9 z9 st9 hQ9
  subst l9 y9 z9
  obtain ⟨rfl, Nq9, eq9⟩ := hQ9
  have N9 := Fr.app N8 Nq9
  have R9 : ∀ t, oG p e below T9 m 65 #[oR a1, oR a2, oI 0, .unset, .unset] [(.int (own_icmp (2 : Int32) (0 : Int32)))] t → Steps p.tables e below (s₁.setTop (entryFrame m #[(.ref a1), (.ref a2)] 5)) t := fun t k => R8 t (st9 t k)
  have hv : own_cmp20 c0 c1 d0 d1 = (own_icmp (2 : Int32) (0 : Int32)) := rfl
  obtain ⟨fs, hr, hrun, hended, hW, hsame⟩ := X9.leave (v := some (.int (own_icmp (2 : Int32) (0 : Int32)))) (fun h => by rw [Bd.returns] at h; cases h)
  refine ⟨_, _, R9 _ ?_, hrun, hended, _, _, rfl, ?_, ⟨_, rfl⟩, hW, hsame.mono (by decide) (by decide)⟩
  · exact retOut X9 hx Bd.returns rfl (Or.inl ⟨rfl, Or.inl rfl, _, rfl⟩) (hb hby own_d13_65) hr
  · show Q_rmCm20 Z a1 a2 c0 c1 d0 d1 cz fm h0 n0 _ T9.heap _
    rw [eq9]
    exact ⟨by rw [hv], N9, rfl⟩
def own_cmp21 (c0 c1 d0 d1 : Int32) : Int32 := (if (own_cp c0 c1) = d0 then (own_icmp (2 : Int32) (1 : Int32)) else (own_icmp (own_cp c0 c1) d0))
theorem own_ef_rmCm21 (m : MethodId) (x0 : Addr) (x1 : Addr) : entryFrame m #[(.ref x0), (.ref x1)] 5 = mkF m 0 #[oR x0, oR x1, .unset, .unset, .unset] [] := by first | (simp [entryFrame, mkF, argsToLocals, Value.category]; done) | rfl
def Q_rmCm21 (Z : State) (a1 a2 : Addr) (c0 c1 d0 d1 : Int32) (cz : Int32) (fm : Value) (h0 : Heap) (n0 : Nat) (v : Option Value) (h : Heap) (L : List Loc) : Prop := v = some (.int (own_cmp21 c0 c1 d0 d1)) ∧ Fr n0 L ∧ h = h0
set_option maxRecDepth 65536 in
set_option maxHeartbeats 40000000 in
theorem rmCm21 (l : Launch) (Z : State) (a0 : Array Value) (hw : oT a0 Z) (ws : List Jvm.Cond) (a1 a2 : Addr) (c0 c1 d0 d1 : Int32) (cz : Int32) (fm : Value) (h0 : Heap) (n0 : Nat) (Z0 : n0 ≤ h0.size) (SU : own_St Z cz fm) (OX : Old Z n0 h0) (hs1 : own_Str Z h0 a1 (2 : Int32) c0 c1) (hs2 : own_Str Z h0 a2 (1 : Int32) d0 d1) (r0 : own_R c0) (r1 : own_R c1) (u0 : own_R d0) (u1 : own_R d1) :
    oK l Z (⟨"com/example/firm_store/firmstore/Identifiers", "compareCodePoints", "(Ljava/lang/String;Ljava/lang/String;)I"⟩ : MethodName) prog_6_method_10_code 5 (some .int) ws (oM 4 0 0 70) #[(.ref a1), (.ref a2)] h0 (Q_rmCm21 Z a1 a2 c0 c1 d0 d1 cz fm h0 n0) := by
  refine MetFree.of_bodySF (plainFor_of_name own_pn6) hisR ?_
  intro p e s m args below meth c s₁ Bd hml0 hP hK
  obtain ⟨rfl, hZ, hh⟩ := hP
  have hx := Bd.exec
  have hby := Bd.bytes
  have hml : c.maxLocals = 5 := hml0
  have hown : s.vm.findClass "com/example/firm_store/firmstore/Identifiers" = some m.cls := findClass_of_methodNamed Bd.named
  have hnm := (name_of_methodNamed Bd.named Bd.method).1
  have X0 : Stand p l e (oM 4 0 0 70) s m #[(.ref a1), (.ref a2)] below meth c s₁ [] 0 0 := Stand.of_body Bd
  have e0 : s₁.heap = h0 := by rw [← hh, Bd.state]; rfl
  have N0 := Fr.nil n0
  have R0 : ∀ t, oG p e below s₁ m 0 #[oR a1, oR a2, .unset, .unset, .unset] [] t → Steps p.tables e below (s₁.setTop (entryFrame m #[(.ref a1), (.ref a2)] 5)) t := fun t k => castTop (own_ef_rmCm21 m a1 a2) k
  have R1 : ∀ t, oG p e below s₁ m 4 #[oR a1, oR a2, oI 0, .unset, .unset] [(.ref a1), (.int 0)] t → Steps p.tables e below (s₁.setTop (entryFrame m #[(.ref a1), (.ref a2)] 5)) t := by
    intro t k
    refine R0 t ?_
    refine XS.iconst X0.here hx rfl (hb hby own_d13_0) ?_
    refine XS.istoreN X0.here hx rfl (hb hby own_d13_1) rfl (l' := #[oR a1, oR a2, oI 0, .unset, .unset]) rfl ?_
    refine XS.iloadN X0.here hx rfl (hb hby own_d13_2) rfl ?_
    show oG p e below s₁ m 3 #[oR a1, oR a2, oI 0, .unset, .unset] [(.int 0)] _
    refine XS.aloadN X0.here hx rfl (hb hby own_d13_3) rfl rfl ?_
    exact k
  obtain ⟨cq2, kq2, q2a, q2b, q2c⟩ := isOf hZ e0 hs1.exa
  obtain ⟨_, _, ⟨T2, L2, k2, n2⟩, -, X2, ⟨Lc2, hQ2, l2, y2, z2⟩, st2⟩ := X0.virtualBack hx (y := (⟨"java/lang/String", "length", "()I"⟩ : MethodName)) (z := (⟨"java/lang/String", "length", "()I"⟩ : MethodName)) hown (mvT hZ (oW hw 57 rfl)) (mvT hZ (oW hw 58 rfl)) (notFace_of_selects (args := #[]) (mvT hZ (oW hw 60 rfl))) (mvT hZ (oW hw 60 rfl)) (mvT hZ (oW hw 59 rfl)) (by decide) (backOf (W := 1) (rmLenG l Z a0 hw [] a1 (2 : Int32) c0 c1 cz fm h0 n0 Z0 SU OX hs1) hZ (oW hw 61 rfl) (oW hw 6 rfl) (by decide) (by decide)) q2a q2c (g := (mkF m 4 #[oR a1, oR a2, oI 0, .unset, .unset] [(.ref a1), (.int 0)])) rfl (by rw [hml]; rfl) (Steps.refl _) (argsL := []) (rest := [(.int 0)]) (lenOf own_pd11 rfl) rfl (by show 2 * 0 + _ ≤ _; exact Nat.le_of_eq rfl) (hb hby own_d13_4) (fun _ _ => ⟨rfl, e0, (by decide : 0 + 0 ≤ _), (by decide : 0 + 0 ≤ _)⟩)
  dsimp only [Pt.U, Pt.locs, Pt.cells, Pt.slots] at X2 l2 y2 z2 st2 hQ2
  subst l2 y2 z2
  obtain ⟨rfl, Nq2, eq2⟩ := hQ2
  have N2 := Fr.app N0 Nq2
  have R2 : ∀ t, oG p e below T2 m 7 #[oR a1, oR a2, oI 0, .unset, .unset] [(.int 2), (.int 0)] t → Steps p.tables e below (s₁.setTop (entryFrame m #[(.ref a1), (.ref a2)] 5)) t := fun t k => R1 t (st2.trans k)
  have R3 : ∀ t, oG p e below T2 m 12 #[oR a1, oR a2, oI 0, .unset, .unset] [(.ref a2), (.int 0)] t → Steps p.tables e below (s₁.setTop (entryFrame m #[(.ref a1), (.ref a2)] 5)) t := by
    intro t k
    refine R2 t ?_
    refine XS.icmpNo X2.here hx rfl (hb hby own_d13_7) rfl (tlt (by decide : ((0 : Int32) < (2 : Int32)))).2.1 ?_
    refine XS.iloadN X2.here hx rfl (hb hby own_d13_10) rfl ?_
    refine XS.aloadN X2.here hx rfl (hb hby own_d13_11) rfl rfl ?_
    exact k
  obtain ⟨cq4, kq4, q4a, q4b, q4c⟩ := isOf hZ eq2 hs2.exa
  obtain ⟨_, _, ⟨T4, L4, k4, n4⟩, -, X4, ⟨Lc4, hQ4, l4, y4, z4⟩, st4⟩ := X2.virtualBack hx (y := (⟨"java/lang/String", "length", "()I"⟩ : MethodName)) (z := (⟨"java/lang/String", "length", "()I"⟩ : MethodName)) hown (mvT hZ (oW hw 57 rfl)) (mvT hZ (oW hw 58 rfl)) (notFace_of_selects (args := #[]) (mvT hZ (oW hw 60 rfl))) (mvT hZ (oW hw 60 rfl)) (mvT hZ (oW hw 59 rfl)) (by decide) (backOf (W := 1) (rmLenG l Z a0 hw [] a2 (1 : Int32) d0 d1 cz fm h0 n0 Z0 SU OX hs2) hZ (oW hw 61 rfl) (oW hw 6 rfl) (by decide) (by decide)) q4a q4c (g := (mkF m 12 #[oR a1, oR a2, oI 0, .unset, .unset] [(.ref a2), (.int 0)])) rfl (by rw [hml]; rfl) (Steps.refl _) (argsL := []) (rest := [(.int 0)]) (lenOf own_pd11 rfl) rfl (by show 2 * 0 + _ ≤ _; exact Nat.le_of_eq rfl) (hb hby own_d13_12) (fun _ _ => ⟨rfl, eq2, (by decide : 0 + 0 ≤ _), (by decide : 0 + 0 ≤ _)⟩)
  dsimp only [Pt.U, Pt.locs, Pt.cells, Pt.slots] at X4 l4 y4 z4 st4 hQ4
  subst l4 y4 z4
  obtain ⟨rfl, Nq4, eq4⟩ := hQ4
  have N4 := Fr.app N2 Nq4
  have R4 : ∀ t, oG p e below T4 m 15 #[oR a1, oR a2, oI 0, .unset, .unset] [(.int 1), (.int 0)] t → Steps p.tables e below (s₁.setTop (entryFrame m #[(.ref a1), (.ref a2)] 5)) t := fun t k => R3 t (st4.trans k)
  have R5 : ∀ t, oG p e below T4 m 20 #[oR a1, oR a2, oI 0, .unset, .unset] [(.int 0), (.ref a1)] t → Steps p.tables e below (s₁.setTop (entryFrame m #[(.ref a1), (.ref a2)] 5)) t := by
    intro t k
    refine R4 t ?_
    refine XS.icmpNo X4.here hx rfl (hb hby own_d13_15) rfl (tlt (by decide : ((0 : Int32) < (1 : Int32)))).2.1 ?_
    refine XS.aloadN X4.here hx rfl (hb hby own_d13_18) rfl rfl ?_
    refine XS.iloadN X4.here hx rfl (hb hby own_d13_19) rfl ?_
    exact k
  obtain ⟨cq6, kq6, q6a, q6b, q6c⟩ := isOf hZ eq4 hs1.exa
  obtain ⟨_, _, ⟨T6, L6, k6, n6⟩, -, X6, ⟨Lc6, hQ6, l6, y6, z6⟩, st6⟩ := X4.virtualBack hx (y := (⟨"java/lang/String", "codePointAt", "(I)I"⟩ : MethodName)) (z := (⟨"java/lang/String", "codePointAt", "(I)I"⟩ : MethodName)) hown (mvT hZ (oW hw 91 rfl)) (mvT hZ (oW hw 92 rfl)) (notFace_of_selects (args := #[]) (mvT hZ (oW hw 94 rfl))) (mvT hZ (oW hw 94 rfl)) (mvT hZ (oW hw 93 rfl)) (by decide) (backOf (W := 0) (rmCP20 l Z a0 hw [] a1 c0 c1 cz fm h0 n0 Z0 SU OX hs1 r0 r1) hZ (oW hw 95 rfl) (oW hw 6 rfl) (by decide) (by decide)) q6a q6c (g := (mkF m 20 #[oR a1, oR a2, oI 0, .unset, .unset] [(.int 0), (.ref a1)])) rfl (by rw [hml]; rfl) (Steps.refl _) (argsL := [(.int 0)]) (rest := []) (lenOf own_pd15 rfl) rfl (by show 2 * 0 + _ ≤ _; exact Nat.le_of_eq rfl) (hb hby own_d13_20) (fun _ _ => ⟨rfl, eq4, (by decide : 0 + 0 ≤ _), (by decide : 0 + 0 ≤ _)⟩)
  dsimp only [Pt.U, Pt.locs, Pt.cells, Pt.slots] at X6 l6 y6 z6 st6 hQ6
  subst l6 y6 z6
  obtain ⟨rfl, Nq6, eq6⟩ := hQ6
  have N6 := Fr.app N4 Nq6
  have R6 : ∀ t, oG p e below T6 m 23 #[oR a1, oR a2, oI 0, .unset, .unset] [(.int (own_cp c0 c1))] t → Steps p.tables e below (s₁.setTop (entryFrame m #[(.ref a1), (.ref a2)] 5)) t := fun t k => R5 t (st6.trans k)
  have R7 : ∀ t, oG p e below T6 m 26 #[oR a1, oR a2, oI 0, oI (own_cp c0 c1), .unset] [(.int 0), (.ref a2)] t → Steps p.tables e below (s₁.setTop (entryFrame m #[(.ref a1), (.ref a2)] 5)) t := by
    intro t k
    refine R6 t ?_
    refine XS.istoreN X6.here hx rfl (hb hby own_d13_23) rfl (l' := #[oR a1, oR a2, oI 0, oI (own_cp c0 c1), .unset]) rfl ?_
    refine XS.aloadN X6.here hx rfl (hb hby own_d13_24) rfl rfl ?_
    refine XS.iloadN X6.here hx rfl (hb hby own_d13_25) rfl ?_
    exact k
  obtain ⟨cq8, kq8, q8a, q8b, q8c⟩ := isOf hZ eq6 hs2.exa
  obtain ⟨_, _, ⟨T8, L8, k8, n8⟩, -, X8, ⟨Lc8, hQ8, l8, y8, z8⟩, st8⟩ := X6.virtualBack hx (y := (⟨"java/lang/String", "codePointAt", "(I)I"⟩ : MethodName)) (z := (⟨"java/lang/String", "codePointAt", "(I)I"⟩ : MethodName)) hown (mvT hZ (oW hw 91 rfl)) (mvT hZ (oW hw 92 rfl)) (notFace_of_selects (args := #[]) (mvT hZ (oW hw 94 rfl))) (mvT hZ (oW hw 94 rfl)) (mvT hZ (oW hw 93 rfl)) (by decide) (backOf (W := 0) (rmCP10 l Z a0 hw [] a2 d0 d1 cz fm h0 n0 Z0 SU OX hs2 u0 u1) hZ (oW hw 95 rfl) (oW hw 6 rfl) (by decide) (by decide)) q8a q8c (g := (mkF m 26 #[oR a1, oR a2, oI 0, oI (own_cp c0 c1), .unset] [(.int 0), (.ref a2)])) rfl (by rw [hml]; rfl) (Steps.refl _) (argsL := [(.int 0)]) (rest := []) (lenOf own_pd15 rfl) rfl (by show 2 * 0 + _ ≤ _; exact Nat.le_of_eq rfl) (hb hby own_d13_26) (fun _ _ => ⟨rfl, eq6, (by decide : 0 + 0 ≤ _), (by decide : 0 + 0 ≤ _)⟩)
  dsimp only [Pt.U, Pt.locs, Pt.cells, Pt.slots] at X8 l8 y8 z8 st8 hQ8
  subst l8 y8 z8
  obtain ⟨rfl, Nq8, eq8⟩ := hQ8
  have N8 := Fr.app N6 Nq8
  have R8 : ∀ t, oG p e below T8 m 29 #[oR a1, oR a2, oI 0, oI (own_cp c0 c1), .unset] [(.int d0)] t → Steps p.tables e below (s₁.setTop (entryFrame m #[(.ref a1), (.ref a2)] 5)) t := fun t k => R7 t (st8.trans k)
  have R9 : ∀ t, oG p e below T8 m 34 #[oR a1, oR a2, oI 0, oI (own_cp c0 c1), oI d0] [(.int d0), (.int (own_cp c0 c1))] t → Steps p.tables e below (s₁.setTop (entryFrame m #[(.ref a1), (.ref a2)] 5)) t := by
    intro t k
    refine R8 t ?_
    refine XS.istore X8.here hx rfl (hb hby own_d13_29) rfl (l' := #[oR a1, oR a2, oI 0, oI (own_cp c0 c1), oI d0]) rfl ?_
    refine XS.iloadN X8.here hx rfl (hb hby own_d13_31) rfl ?_
    refine XS.iload X8.here hx rfl (hb hby own_d13_32) rfl ?_
    exact k
  by_cases hq : (own_cp c0 c1) = d0
  · have R10 : ∀ t, oG p e below T8 m 46 #[oR a1, oR a2, oI 0, oI (own_cp c0 c1), oI d0] [(.int (own_cp c0 c1)), (.int 0)] t → Steps p.tables e below (s₁.setTop (entryFrame m #[(.ref a1), (.ref a2)] 5)) t := by
      intro t k
      refine R9 t ?_
      refine XS.icmpYes X8.here hx rfl (pc0 := 34) (pc' := 44) rfl (hb hby own_d13_34) rfl (teq hq).1 (by decide) (by decide) ?_
      refine XS.iloadN X8.here hx rfl (hb hby own_d13_44) rfl ?_
      refine XS.iloadN X8.here hx rfl (hb hby own_d13_45) rfl ?_
      exact k
    obtain ⟨_, _, ⟨T11, L11, k11, n11⟩, -, X11, ⟨Lc11, hQ11, l11, y11, z11⟩, st11⟩ := Jvm.LawKit.callS X8 hx (y := (⟨"java/lang/Character", "charCount", "(I)I"⟩ : MethodName)) hown (mvT hZ (oW hw 135 rfl)) (mvT hZ (oW hw 136 rfl)) (mvT hZ (oW hw 117 rfl)) (mvT hZ (oW hw 137 rfl)) (by decide) (backOf (W := 1) (rmCC l Z a0 hw [] (own_cp c0 c1)  h0 n0 Z0 ) hZ (oW hw 137 rfl) (oW hw 117 rfl) (by decide) (by decide)) (g := (mkF m 46 #[oR a1, oR a2, oI 0, oI (own_cp c0 c1), oI d0] [(.int (own_cp c0 c1)), (.int 0)])) rfl (by rw [hml]; rfl) (argsL := [(.int (own_cp c0 c1))]) (rest := [(.int 0)]) (lenOf own_pd15 rfl) rfl (by show 2 * 0 + _ ≤ _; exact Nat.le_of_eq rfl) (hb hby own_d13_46) (fun _ _ => ⟨rfl, eq8, (by decide : 0 + 0 ≤ _), (by decide : 0 + 0 ≤ _)⟩)
    dsimp only [Pt.U, Pt.locs, Pt.cells, Pt.slots] at X11 l11 y11 z11 st11 hQ11
    subst l11 y11 z11
    obtain ⟨rfl, Nq11, eq11⟩ := hQ11
    have N11 := Fr.app N8 Nq11
    have R11 : ∀ t, oG p e below T11 m 49 #[oR a1, oR a2, oI 0, oI (own_cp c0 c1), oI d0] [(.int (own_cc (own_cp c0 c1))), (.int 0)] t → Steps p.tables e below (s₁.setTop (entryFrame m #[(.ref a1), (.ref a2)] 5)) t := fun t k => R10 t (st11 t k)
    have R12 : ∀ t, oG p e below T11 m 50 #[oR a1, oR a2, oI 0, oI (own_cp c0 c1), oI d0] [(.int ((0 : Int32) + (own_cc (own_cp c0 c1))))] t → Steps p.tables e below (s₁.setTop (entryFrame m #[(.ref a1), (.ref a2)] 5)) t := by
      intro t k
      refine R11 t ?_
      refine XS.iadd X11.here hx rfl (hb hby own_d13_49) rfl ?_
      exact k
    have R13 : ∀ t, oG p e below T11 m 50 #[oR a1, oR a2, oI 0, oI (own_cp c0 c1), oI d0] [(.int 1)] t → Steps p.tables e below (s₁.setTop (entryFrame m #[(.ref a1), (.ref a2)] 5)) t := by rw [(by rw [own_cc1 ((hq ▸ own_R6 u0 : (own_cp c0 c1) < (65536 : Int32)))]; decide : ((0 : Int32) + (own_cc (own_cp c0 c1))) = (1 : Int32))] at R12; exact R12
    have R14 : ∀ t, oG p e below T11 m 4 #[oR a1, oR a2, oI 1, oI (own_cp c0 c1), oI d0] [(.ref a1), (.int 1)] t → Steps p.tables e below (s₁.setTop (entryFrame m #[(.ref a1), (.ref a2)] 5)) t := by
      intro t k
      refine R13 t ?_
      refine XS.istoreN X11.here hx rfl (hb hby own_d13_50) rfl (l' := #[oR a1, oR a2, oI 1, oI (own_cp c0 c1), oI d0]) rfl ?_
      refine XS.goto X11.here hx rfl (pc0 := 51) (pc' := 2) rfl (hb hby own_d13_51) (by decide) (by decide) ?_
      refine XS.iloadN X11.here hx rfl (hb hby own_d13_2) rfl ?_
      show oG p e below T11 m 3 #[oR a1, oR a2, oI 1, oI (own_cp c0 c1), oI d0] [(.int 1)] _
      refine XS.aloadN X11.here hx rfl (hb hby own_d13_3) rfl rfl ?_
      exact k
    obtain ⟨cq15, kq15, q15a, q15b, q15c⟩ := isOf hZ eq11 hs1.exa
    obtain ⟨_, _, ⟨T15, L15, k15, n15⟩, -, X15, ⟨Lc15, hQ15, l15, y15, z15⟩, st15⟩ := X11.virtualBack hx (y := (⟨"java/lang/String", "length", "()I"⟩ : MethodName)) (z := (⟨"java/lang/String", "length", "()I"⟩ : MethodName)) hown (mvT hZ (oW hw 57 rfl)) (mvT hZ (oW hw 58 rfl)) (notFace_of_selects (args := #[]) (mvT hZ (oW hw 60 rfl))) (mvT hZ (oW hw 60 rfl)) (mvT hZ (oW hw 59 rfl)) (by decide) (backOf (W := 1) (rmLenG l Z a0 hw [] a1 (2 : Int32) c0 c1 cz fm h0 n0 Z0 SU OX hs1) hZ (oW hw 61 rfl) (oW hw 6 rfl) (by decide) (by decide)) q15a q15c (g := (mkF m 4 #[oR a1, oR a2, oI 1, oI (own_cp c0 c1), oI d0] [(.ref a1), (.int 1)])) rfl (by rw [hml]; rfl) (Steps.refl _) (argsL := []) (rest := [(.int 1)]) (lenOf own_pd11 rfl) rfl (by show 2 * 0 + _ ≤ _; exact Nat.le_of_eq rfl) (hb hby own_d13_4) (fun _ _ => ⟨rfl, eq11, (by decide : 0 + 0 ≤ _), (by decide : 0 + 0 ≤ _)⟩)
    dsimp only [Pt.U, Pt.locs, Pt.cells, Pt.slots] at X15 l15 y15 z15 st15 hQ15
    subst l15 y15 z15
    obtain ⟨rfl, Nq15, eq15⟩ := hQ15
    have N15 := Fr.app N11 Nq15
    have R15 : ∀ t, oG p e below T15 m 7 #[oR a1, oR a2, oI 1, oI (own_cp c0 c1), oI d0] [(.int 2), (.int 1)] t → Steps p.tables e below (s₁.setTop (entryFrame m #[(.ref a1), (.ref a2)] 5)) t := fun t k => R14 t (st15.trans k)
    have R16 : ∀ t, oG p e below T15 m 12 #[oR a1, oR a2, oI 1, oI (own_cp c0 c1), oI d0] [(.ref a2), (.int 1)] t → Steps p.tables e below (s₁.setTop (entryFrame m #[(.ref a1), (.ref a2)] 5)) t := by
      intro t k
      refine R15 t ?_
      refine XS.icmpNo X15.here hx rfl (hb hby own_d13_7) rfl (tlt (by decide : ((1 : Int32) < (2 : Int32)))).2.1 ?_
      refine XS.iloadN X15.here hx rfl (hb hby own_d13_10) rfl ?_
      refine XS.aloadN X15.here hx rfl (hb hby own_d13_11) rfl rfl ?_
      exact k
    obtain ⟨cq17, kq17, q17a, q17b, q17c⟩ := isOf hZ eq15 hs2.exa
    obtain ⟨_, _, ⟨T17, L17, k17, n17⟩, -, X17, ⟨Lc17, hQ17, l17, y17, z17⟩, st17⟩ := X15.virtualBack hx (y := (⟨"java/lang/String", "length", "()I"⟩ : MethodName)) (z := (⟨"java/lang/String", "length", "()I"⟩ : MethodName)) hown (mvT hZ (oW hw 57 rfl)) (mvT hZ (oW hw 58 rfl)) (notFace_of_selects (args := #[]) (mvT hZ (oW hw 60 rfl))) (mvT hZ (oW hw 60 rfl)) (mvT hZ (oW hw 59 rfl)) (by decide) (backOf (W := 1) (rmLenG l Z a0 hw [] a2 (1 : Int32) d0 d1 cz fm h0 n0 Z0 SU OX hs2) hZ (oW hw 61 rfl) (oW hw 6 rfl) (by decide) (by decide)) q17a q17c (g := (mkF m 12 #[oR a1, oR a2, oI 1, oI (own_cp c0 c1), oI d0] [(.ref a2), (.int 1)])) rfl (by rw [hml]; rfl) (Steps.refl _) (argsL := []) (rest := [(.int 1)]) (lenOf own_pd11 rfl) rfl (by show 2 * 0 + _ ≤ _; exact Nat.le_of_eq rfl) (hb hby own_d13_12) (fun _ _ => ⟨rfl, eq15, (by decide : 0 + 0 ≤ _), (by decide : 0 + 0 ≤ _)⟩)
    dsimp only [Pt.U, Pt.locs, Pt.cells, Pt.slots] at X17 l17 y17 z17 st17 hQ17
    subst l17 y17 z17
    obtain ⟨rfl, Nq17, eq17⟩ := hQ17
    have N17 := Fr.app N15 Nq17
    have R17 : ∀ t, oG p e below T17 m 15 #[oR a1, oR a2, oI 1, oI (own_cp c0 c1), oI d0] [(.int 1), (.int 1)] t → Steps p.tables e below (s₁.setTop (entryFrame m #[(.ref a1), (.ref a2)] 5)) t := fun t k => R16 t (st17.trans k)
    have R18 : ∀ t, oG p e below T17 m 55 #[oR a1, oR a2, oI 1, oI (own_cp c0 c1), oI d0] [(.ref a1)] t → Steps p.tables e below (s₁.setTop (entryFrame m #[(.ref a1), (.ref a2)] 5)) t := by
      intro t k
      refine R17 t ?_
      refine XS.icmpYes X17.here hx rfl (pc0 := 15) (pc' := 54) rfl (hb hby own_d13_15) rfl (flt (by decide : ¬ ((1 : Int32) < (1 : Int32)))).2.1 (by decide) (by decide) ?_
      refine XS.aloadN X17.here hx rfl (hb hby own_d13_54) rfl rfl ?_
      exact k
    obtain ⟨cq19, kq19, q19a, q19b, q19c⟩ := isOf hZ eq17 hs1.exa
    obtain ⟨_, _, ⟨T19, L19, k19, n19⟩, -, X19, ⟨Lc19, hQ19, l19, y19, z19⟩, st19⟩ := X17.virtualBack hx (y := (⟨"java/lang/String", "length", "()I"⟩ : MethodName)) (z := (⟨"java/lang/String", "length", "()I"⟩ : MethodName)) hown (mvT hZ (oW hw 57 rfl)) (mvT hZ (oW hw 58 rfl)) (notFace_of_selects (args := #[]) (mvT hZ (oW hw 60 rfl))) (mvT hZ (oW hw 60 rfl)) (mvT hZ (oW hw 59 rfl)) (by decide) (backOf (W := 0) (rmLenG l Z a0 hw [] a1 (2 : Int32) c0 c1 cz fm h0 n0 Z0 SU OX hs1) hZ (oW hw 61 rfl) (oW hw 6 rfl) (by decide) (by decide)) q19a q19c (g := (mkF m 55 #[oR a1, oR a2, oI 1, oI (own_cp c0 c1), oI d0] [(.ref a1)])) rfl (by rw [hml]; rfl) (Steps.refl _) (argsL := []) (rest := []) (lenOf own_pd11 rfl) rfl (by show 2 * 0 + _ ≤ _; exact Nat.le_of_eq rfl) (hb hby own_d13_55) (fun _ _ => ⟨rfl, eq17, (by decide : 0 + 0 ≤ _), (by decide : 0 + 0 ≤ _)⟩)
    dsimp only [Pt.U, Pt.locs, Pt.cells, Pt.slots] at X19 l19 y19 z19 st19 hQ19
    subst l19 y19 z19
    obtain ⟨rfl, Nq19, eq19⟩ := hQ19
    have N19 := Fr.app N17 Nq19
    have R19 : ∀ t, oG p e below T19 m 58 #[oR a1, oR a2, oI 1, oI (own_cp c0 c1), oI d0] [(.int 2)] t → Steps p.tables e below (s₁.setTop (entryFrame m #[(.ref a1), (.ref a2)] 5)) t := fun t k => R18 t (st19.trans k)
    have R20 : ∀ t, oG p e below T19 m 59 #[oR a1, oR a2, oI 1, oI (own_cp c0 c1), oI d0] [(.ref a2), (.int 2)] t → Steps p.tables e below (s₁.setTop (entryFrame m #[(.ref a1), (.ref a2)] 5)) t := by
      intro t k
      refine R19 t ?_
      refine XS.aloadN X19.here hx rfl (hb hby own_d13_58) rfl rfl ?_
      exact k
    obtain ⟨cq21, kq21, q21a, q21b, q21c⟩ := isOf hZ eq19 hs2.exa
    obtain ⟨_, _, ⟨T21, L21, k21, n21⟩, -, X21, ⟨Lc21, hQ21, l21, y21, z21⟩, st21⟩ := X19.virtualBack hx (y := (⟨"java/lang/String", "length", "()I"⟩ : MethodName)) (z := (⟨"java/lang/String", "length", "()I"⟩ : MethodName)) hown (mvT hZ (oW hw 57 rfl)) (mvT hZ (oW hw 58 rfl)) (notFace_of_selects (args := #[]) (mvT hZ (oW hw 60 rfl))) (mvT hZ (oW hw 60 rfl)) (mvT hZ (oW hw 59 rfl)) (by decide) (backOf (W := 1) (rmLenG l Z a0 hw [] a2 (1 : Int32) d0 d1 cz fm h0 n0 Z0 SU OX hs2) hZ (oW hw 61 rfl) (oW hw 6 rfl) (by decide) (by decide)) q21a q21c (g := (mkF m 59 #[oR a1, oR a2, oI 1, oI (own_cp c0 c1), oI d0] [(.ref a2), (.int 2)])) rfl (by rw [hml]; rfl) (Steps.refl _) (argsL := []) (rest := [(.int 2)]) (lenOf own_pd11 rfl) rfl (by show 2 * 0 + _ ≤ _; exact Nat.le_of_eq rfl) (hb hby own_d13_59) (fun _ _ => ⟨rfl, eq19, (by decide : 0 + 0 ≤ _), (by decide : 0 + 0 ≤ _)⟩)
    dsimp only [Pt.U, Pt.locs, Pt.cells, Pt.slots] at X21 l21 y21 z21 st21 hQ21
    subst l21 y21 z21
    obtain ⟨rfl, Nq21, eq21⟩ := hQ21
    have N21 := Fr.app N19 Nq21
    have R21 : ∀ t, oG p e below T21 m 62 #[oR a1, oR a2, oI 1, oI (own_cp c0 c1), oI d0] [(.int 1), (.int 2)] t → Steps p.tables e below (s₁.setTop (entryFrame m #[(.ref a1), (.ref a2)] 5)) t := fun t k => R20 t (st21.trans k)
    obtain ⟨_, _, ⟨T22, L22, k22, n22⟩, -, X22, ⟨Lc22, hQ22, l22, y22, z22⟩, st22⟩ := Jvm.LawKit.callS X21 hx (y := (⟨"java/lang/Integer", "compare", "(II)I"⟩ : MethodName)) hown (mvT hZ (oW hw 67 rfl)) (mvT hZ (oW hw 68 rfl)) (mvT hZ (oW hw 69 rfl)) (mvT hZ (oW hw 70 rfl)) (by decide) (backOf (W := 0) (rmICmp l Z a0 hw [] (2 : Int32) (1 : Int32)  h0 n0 Z0 ) hZ (oW hw 70 rfl) (oW hw 69 rfl) (by decide) (by decide)) (g := (mkF m 62 #[oR a1, oR a2, oI 1, oI (own_cp c0 c1), oI d0] [(.int 1), (.int 2)])) rfl (by rw [hml]; rfl) (argsL := [(.int 2), (.int 1)]) (rest := []) (lenOf own_pd13 rfl) rfl (by show 2 * 0 + _ ≤ _; exact Nat.le_of_eq rfl) (hb hby own_d13_62) (fun _ _ => ⟨rfl, eq21, (by decide : 0 + 0 ≤ _), (by decide : 0 + 0 ≤ _)⟩)
    dsimp only [Pt.U, Pt.locs, Pt.cells, Pt.slots] at X22 l22 y22 z22 st22 hQ22
    subst l22 y22 z22
    obtain ⟨rfl, Nq22, eq22⟩ := hQ22
    have N22 := Fr.app N21 Nq22
    have R22 : ∀ t, oG p e below T22 m 65 #[oR a1, oR a2, oI 1, oI (own_cp c0 c1), oI d0] [(.int (own_icmp (2 : Int32) (1 : Int32)))] t → Steps p.tables e below (s₁.setTop (entryFrame m #[(.ref a1), (.ref a2)] 5)) t := fun t k => R21 t (st22 t k)
    have hv : own_cmp21 c0 c1 d0 d1 = (own_icmp (2 : Int32) (1 : Int32)) := (if_pos hq)
    obtain ⟨fs, hr, hrun, hended, hW, hsame⟩ := X22.leave (v := some (.int (own_icmp (2 : Int32) (1 : Int32)))) (fun h => by rw [Bd.returns] at h; cases h)
    refine ⟨_, _, R22 _ ?_, hrun, hended, _, _, rfl, ?_, ⟨_, rfl⟩, hW, hsame.mono (by decide) (by decide)⟩
    · exact retOut X22 hx Bd.returns rfl (Or.inl ⟨rfl, Or.inl rfl, _, rfl⟩) (hb hby own_d13_65) hr
    · show Q_rmCm21 Z a1 a2 c0 c1 d0 d1 cz fm h0 n0 _ T22.heap _
      rw [eq22]
      exact ⟨by rw [hv], N22, rfl⟩
  · have R23 : ∀ t, oG p e below T8 m 40 #[oR a1, oR a2, oI 0, oI (own_cp c0 c1), oI d0] [(.int d0), (.int (own_cp c0 c1))] t → Steps p.tables e below (s₁.setTop (entryFrame m #[(.ref a1), (.ref a2)] 5)) t := by
      intro t k
      refine R9 t ?_
      refine XS.icmpNo X8.here hx rfl (hb hby own_d13_34) rfl (feq hq).1 ?_
      refine XS.iloadN X8.here hx rfl (hb hby own_d13_37) rfl ?_
      refine XS.iload X8.here hx rfl (hb hby own_d13_38) rfl ?_
      exact k
    obtain ⟨_, _, ⟨T24, L24, k24, n24⟩, -, X24, ⟨Lc24, hQ24, l24, y24, z24⟩, st24⟩ := Jvm.LawKit.callS X8 hx (y := (⟨"java/lang/Integer", "compare", "(II)I"⟩ : MethodName)) hown (mvT hZ (oW hw 67 rfl)) (mvT hZ (oW hw 68 rfl)) (mvT hZ (oW hw 69 rfl)) (mvT hZ (oW hw 70 rfl)) (by decide) (backOf (W := 0) (rmICmp l Z a0 hw [] (own_cp c0 c1) d0  h0 n0 Z0 ) hZ (oW hw 70 rfl) (oW hw 69 rfl) (by decide) (by decide)) (g := (mkF m 40 #[oR a1, oR a2, oI 0, oI (own_cp c0 c1), oI d0] [(.int d0), (.int (own_cp c0 c1))])) rfl (by rw [hml]; rfl) (argsL := [(.int (own_cp c0 c1)), (.int d0)]) (rest := []) (lenOf own_pd13 rfl) rfl (by show 2 * 0 + _ ≤ _; exact Nat.le_of_eq rfl) (hb hby own_d13_40) (fun _ _ => ⟨rfl, eq8, (by decide : 0 + 0 ≤ _), (by decide : 0 + 0 ≤ _)⟩)
    dsimp only [Pt.U, Pt.locs, Pt.cells, Pt.slots] at X24 l24 y24 z24 st24 hQ24
    subst l24 y24 z24
    obtain ⟨rfl, Nq24, eq24⟩ := hQ24
    have N24 := Fr.app N8 Nq24
    have R24 : ∀ t, oG p e below T24 m 43 #[oR a1, oR a2, oI 0, oI (own_cp c0 c1), oI d0] [(.int (own_icmp (own_cp c0 c1) d0))] t → Steps p.tables e below (s₁.setTop (entryFrame m #[(.ref a1), (.ref a2)] 5)) t := fun t k => R23 t (st24 t k)
    have hv : own_cmp21 c0 c1 d0 d1 = (own_icmp (own_cp c0 c1) d0) := (if_neg hq)
    obtain ⟨fs, hr, hrun, hended, hW, hsame⟩ := X24.leave (v := some (.int (own_icmp (own_cp c0 c1) d0))) (fun h => by rw [Bd.returns] at h; cases h)
    refine ⟨_, _, R24 _ ?_, hrun, hended, _, _, rfl, ?_, ⟨_, rfl⟩, hW, hsame.mono (by decide) (by decide)⟩
    · exact retOut X24 hx Bd.returns rfl (Or.inl ⟨rfl, Or.inl rfl, _, rfl⟩) (hb hby own_d13_43) hr
    · show Q_rmCm21 Z a1 a2 c0 c1 d0 d1 cz fm h0 n0 _ T24.heap _
      rw [eq24]
      exact ⟨by rw [hv], N24, rfl⟩
def own_cmp22 (c0 c1 d0 d1 : Int32) : Int32 := (if (own_cp c0 c1) = (own_cp d0 d1) then (if (own_cp c0 c1) < (65536 : Int32) then (if c1 = d1 then (own_icmp (2 : Int32) (2 : Int32)) else (own_icmp c1 d1)) else (own_icmp (2 : Int32) (2 : Int32))) else (own_icmp (own_cp c0 c1) (own_cp d0 d1)))
theorem own_ef_rmCm22 (m : MethodId) (x0 : Addr) (x1 : Addr) : entryFrame m #[(.ref x0), (.ref x1)] 5 = mkF m 0 #[oR x0, oR x1, .unset, .unset, .unset] [] := by first | (simp [entryFrame, mkF, argsToLocals, Value.category]; done) | rfl
def Q_rmCm22 (Z : State) (a1 a2 : Addr) (c0 c1 d0 d1 : Int32) (cz : Int32) (fm : Value) (h0 : Heap) (n0 : Nat) (v : Option Value) (h : Heap) (L : List Loc) : Prop := v = some (.int (own_cmp22 c0 c1 d0 d1)) ∧ Fr n0 L ∧ h = h0
set_option maxRecDepth 65536 in
set_option maxHeartbeats 40000000 in
theorem rmCm22 (l : Launch) (Z : State) (a0 : Array Value) (hw : oT a0 Z) (ws : List Jvm.Cond) (a1 a2 : Addr) (c0 c1 d0 d1 : Int32) (cz : Int32) (fm : Value) (h0 : Heap) (n0 : Nat) (Z0 : n0 ≤ h0.size) (SU : own_St Z cz fm) (OX : Old Z n0 h0) (hs1 : own_Str Z h0 a1 (2 : Int32) c0 c1) (hs2 : own_Str Z h0 a2 (2 : Int32) d0 d1) (r0 : own_R c0) (r1 : own_R c1) (u0 : own_R d0) (u1 : own_R d1) :
    oK l Z (⟨"com/example/firm_store/firmstore/Identifiers", "compareCodePoints", "(Ljava/lang/String;Ljava/lang/String;)I"⟩ : MethodName) prog_6_method_10_code 5 (some .int) ws (oM 4 0 0 70) #[(.ref a1), (.ref a2)] h0 (Q_rmCm22 Z a1 a2 c0 c1 d0 d1 cz fm h0 n0) := by
  refine MetFree.of_bodySF (plainFor_of_name own_pn6) hisR ?_
  intro p e s m args below meth c s₁ Bd hml0 hP hK
  obtain ⟨rfl, hZ, hh⟩ := hP
  have hx := Bd.exec
  have hby := Bd.bytes
  have hml : c.maxLocals = 5 := hml0
  have hown : s.vm.findClass "com/example/firm_store/firmstore/Identifiers" = some m.cls := findClass_of_methodNamed Bd.named
  have hnm := (name_of_methodNamed Bd.named Bd.method).1
  have X0 : Stand p l e (oM 4 0 0 70) s m #[(.ref a1), (.ref a2)] below meth c s₁ [] 0 0 := Stand.of_body Bd
  have e0 : s₁.heap = h0 := by rw [← hh, Bd.state]; rfl
  have N0 := Fr.nil n0
  have R0 : ∀ t, oG p e below s₁ m 0 #[oR a1, oR a2, .unset, .unset, .unset] [] t → Steps p.tables e below (s₁.setTop (entryFrame m #[(.ref a1), (.ref a2)] 5)) t := fun t k => castTop (own_ef_rmCm22 m a1 a2) k
  have R1 : ∀ t, oG p e below s₁ m 4 #[oR a1, oR a2, oI 0, .unset, .unset] [(.ref a1), (.int 0)] t → Steps p.tables e below (s₁.setTop (entryFrame m #[(.ref a1), (.ref a2)] 5)) t := by
    intro t k
    refine R0 t ?_
    refine XS.iconst X0.here hx rfl (hb hby own_d13_0) ?_
    refine XS.istoreN X0.here hx rfl (hb hby own_d13_1) rfl (l' := #[oR a1, oR a2, oI 0, .unset, .unset]) rfl ?_
    refine XS.iloadN X0.here hx rfl (hb hby own_d13_2) rfl ?_
    show oG p e below s₁ m 3 #[oR a1, oR a2, oI 0, .unset, .unset] [(.int 0)] _
    refine XS.aloadN X0.here hx rfl (hb hby own_d13_3) rfl rfl ?_
    exact k
  obtain ⟨cq2, kq2, q2a, q2b, q2c⟩ := isOf hZ e0 hs1.exa
  obtain ⟨_, _, ⟨T2, L2, k2, n2⟩, -, X2, ⟨Lc2, hQ2, l2, y2, z2⟩, st2⟩ := X0.virtualBack hx (y := (⟨"java/lang/String", "length", "()I"⟩ : MethodName)) (z := (⟨"java/lang/String", "length", "()I"⟩ : MethodName)) hown (mvT hZ (oW hw 57 rfl)) (mvT hZ (oW hw 58 rfl)) (notFace_of_selects (args := #[]) (mvT hZ (oW hw 60 rfl))) (mvT hZ (oW hw 60 rfl)) (mvT hZ (oW hw 59 rfl)) (by decide) (backOf (W := 1) (rmLenG l Z a0 hw [] a1 (2 : Int32) c0 c1 cz fm h0 n0 Z0 SU OX hs1) hZ (oW hw 61 rfl) (oW hw 6 rfl) (by decide) (by decide)) q2a q2c (g := (mkF m 4 #[oR a1, oR a2, oI 0, .unset, .unset] [(.ref a1), (.int 0)])) rfl (by rw [hml]; rfl) (Steps.refl _) (argsL := []) (rest := [(.int 0)]) (lenOf own_pd11 rfl) rfl (by show 2 * 0 + _ ≤ _; exact Nat.le_of_eq rfl) (hb hby own_d13_4) (fun _ _ => ⟨rfl, e0, (by decide : 0 + 0 ≤ _), (by decide : 0 + 0 ≤ _)⟩)
  dsimp only [Pt.U, Pt.locs, Pt.cells, Pt.slots] at X2 l2 y2 z2 st2 hQ2
  subst l2 y2 z2
  obtain ⟨rfl, Nq2, eq2⟩ := hQ2
  have N2 := Fr.app N0 Nq2
  have R2 : ∀ t, oG p e below T2 m 7 #[oR a1, oR a2, oI 0, .unset, .unset] [(.int 2), (.int 0)] t → Steps p.tables e below (s₁.setTop (entryFrame m #[(.ref a1), (.ref a2)] 5)) t := fun t k => R1 t (st2.trans k)
  have R3 : ∀ t, oG p e below T2 m 12 #[oR a1, oR a2, oI 0, .unset, .unset] [(.ref a2), (.int 0)] t → Steps p.tables e below (s₁.setTop (entryFrame m #[(.ref a1), (.ref a2)] 5)) t := by
    intro t k
    refine R2 t ?_
    refine XS.icmpNo X2.here hx rfl (hb hby own_d13_7) rfl (tlt (by decide : ((0 : Int32) < (2 : Int32)))).2.1 ?_
    refine XS.iloadN X2.here hx rfl (hb hby own_d13_10) rfl ?_
    refine XS.aloadN X2.here hx rfl (hb hby own_d13_11) rfl rfl ?_
    exact k
  obtain ⟨cq4, kq4, q4a, q4b, q4c⟩ := isOf hZ eq2 hs2.exa
  obtain ⟨_, _, ⟨T4, L4, k4, n4⟩, -, X4, ⟨Lc4, hQ4, l4, y4, z4⟩, st4⟩ := X2.virtualBack hx (y := (⟨"java/lang/String", "length", "()I"⟩ : MethodName)) (z := (⟨"java/lang/String", "length", "()I"⟩ : MethodName)) hown (mvT hZ (oW hw 57 rfl)) (mvT hZ (oW hw 58 rfl)) (notFace_of_selects (args := #[]) (mvT hZ (oW hw 60 rfl))) (mvT hZ (oW hw 60 rfl)) (mvT hZ (oW hw 59 rfl)) (by decide) (backOf (W := 1) (rmLenG l Z a0 hw [] a2 (2 : Int32) d0 d1 cz fm h0 n0 Z0 SU OX hs2) hZ (oW hw 61 rfl) (oW hw 6 rfl) (by decide) (by decide)) q4a q4c (g := (mkF m 12 #[oR a1, oR a2, oI 0, .unset, .unset] [(.ref a2), (.int 0)])) rfl (by rw [hml]; rfl) (Steps.refl _) (argsL := []) (rest := [(.int 0)]) (lenOf own_pd11 rfl) rfl (by show 2 * 0 + _ ≤ _; exact Nat.le_of_eq rfl) (hb hby own_d13_12) (fun _ _ => ⟨rfl, eq2, (by decide : 0 + 0 ≤ _), (by decide : 0 + 0 ≤ _)⟩)
  dsimp only [Pt.U, Pt.locs, Pt.cells, Pt.slots] at X4 l4 y4 z4 st4 hQ4
  subst l4 y4 z4
  obtain ⟨rfl, Nq4, eq4⟩ := hQ4
  have N4 := Fr.app N2 Nq4
  have R4 : ∀ t, oG p e below T4 m 15 #[oR a1, oR a2, oI 0, .unset, .unset] [(.int 2), (.int 0)] t → Steps p.tables e below (s₁.setTop (entryFrame m #[(.ref a1), (.ref a2)] 5)) t := fun t k => R3 t (st4.trans k)
  have R5 : ∀ t, oG p e below T4 m 20 #[oR a1, oR a2, oI 0, .unset, .unset] [(.int 0), (.ref a1)] t → Steps p.tables e below (s₁.setTop (entryFrame m #[(.ref a1), (.ref a2)] 5)) t := by
    intro t k
    refine R4 t ?_
    refine XS.icmpNo X4.here hx rfl (hb hby own_d13_15) rfl (tlt (by decide : ((0 : Int32) < (2 : Int32)))).2.1 ?_
    refine XS.aloadN X4.here hx rfl (hb hby own_d13_18) rfl rfl ?_
    refine XS.iloadN X4.here hx rfl (hb hby own_d13_19) rfl ?_
    exact k
  obtain ⟨cq6, kq6, q6a, q6b, q6c⟩ := isOf hZ eq4 hs1.exa
  obtain ⟨_, _, ⟨T6, L6, k6, n6⟩, -, X6, ⟨Lc6, hQ6, l6, y6, z6⟩, st6⟩ := X4.virtualBack hx (y := (⟨"java/lang/String", "codePointAt", "(I)I"⟩ : MethodName)) (z := (⟨"java/lang/String", "codePointAt", "(I)I"⟩ : MethodName)) hown (mvT hZ (oW hw 91 rfl)) (mvT hZ (oW hw 92 rfl)) (notFace_of_selects (args := #[]) (mvT hZ (oW hw 94 rfl))) (mvT hZ (oW hw 94 rfl)) (mvT hZ (oW hw 93 rfl)) (by decide) (backOf (W := 0) (rmCP20 l Z a0 hw [] a1 c0 c1 cz fm h0 n0 Z0 SU OX hs1 r0 r1) hZ (oW hw 95 rfl) (oW hw 6 rfl) (by decide) (by decide)) q6a q6c (g := (mkF m 20 #[oR a1, oR a2, oI 0, .unset, .unset] [(.int 0), (.ref a1)])) rfl (by rw [hml]; rfl) (Steps.refl _) (argsL := [(.int 0)]) (rest := []) (lenOf own_pd15 rfl) rfl (by show 2 * 0 + _ ≤ _; exact Nat.le_of_eq rfl) (hb hby own_d13_20) (fun _ _ => ⟨rfl, eq4, (by decide : 0 + 0 ≤ _), (by decide : 0 + 0 ≤ _)⟩)
  dsimp only [Pt.U, Pt.locs, Pt.cells, Pt.slots] at X6 l6 y6 z6 st6 hQ6
  subst l6 y6 z6
  obtain ⟨rfl, Nq6, eq6⟩ := hQ6
  have N6 := Fr.app N4 Nq6
  have R6 : ∀ t, oG p e below T6 m 23 #[oR a1, oR a2, oI 0, .unset, .unset] [(.int (own_cp c0 c1))] t → Steps p.tables e below (s₁.setTop (entryFrame m #[(.ref a1), (.ref a2)] 5)) t := fun t k => R5 t (st6.trans k)
  have R7 : ∀ t, oG p e below T6 m 26 #[oR a1, oR a2, oI 0, oI (own_cp c0 c1), .unset] [(.int 0), (.ref a2)] t → Steps p.tables e below (s₁.setTop (entryFrame m #[(.ref a1), (.ref a2)] 5)) t := by
    intro t k
    refine R6 t ?_
    refine XS.istoreN X6.here hx rfl (hb hby own_d13_23) rfl (l' := #[oR a1, oR a2, oI 0, oI (own_cp c0 c1), .unset]) rfl ?_
    refine XS.aloadN X6.here hx rfl (hb hby own_d13_24) rfl rfl ?_
    refine XS.iloadN X6.here hx rfl (hb hby own_d13_25) rfl ?_
    exact k
  obtain ⟨cq8, kq8, q8a, q8b, q8c⟩ := isOf hZ eq6 hs2.exa
  obtain ⟨_, _, ⟨T8, L8, k8, n8⟩, -, X8, ⟨Lc8, hQ8, l8, y8, z8⟩, st8⟩ := X6.virtualBack hx (y := (⟨"java/lang/String", "codePointAt", "(I)I"⟩ : MethodName)) (z := (⟨"java/lang/String", "codePointAt", "(I)I"⟩ : MethodName)) hown (mvT hZ (oW hw 91 rfl)) (mvT hZ (oW hw 92 rfl)) (notFace_of_selects (args := #[]) (mvT hZ (oW hw 94 rfl))) (mvT hZ (oW hw 94 rfl)) (mvT hZ (oW hw 93 rfl)) (by decide) (backOf (W := 0) (rmCP20 l Z a0 hw [] a2 d0 d1 cz fm h0 n0 Z0 SU OX hs2 u0 u1) hZ (oW hw 95 rfl) (oW hw 6 rfl) (by decide) (by decide)) q8a q8c (g := (mkF m 26 #[oR a1, oR a2, oI 0, oI (own_cp c0 c1), .unset] [(.int 0), (.ref a2)])) rfl (by rw [hml]; rfl) (Steps.refl _) (argsL := [(.int 0)]) (rest := []) (lenOf own_pd15 rfl) rfl (by show 2 * 0 + _ ≤ _; exact Nat.le_of_eq rfl) (hb hby own_d13_26) (fun _ _ => ⟨rfl, eq6, (by decide : 0 + 0 ≤ _), (by decide : 0 + 0 ≤ _)⟩)
  dsimp only [Pt.U, Pt.locs, Pt.cells, Pt.slots] at X8 l8 y8 z8 st8 hQ8
  subst l8 y8 z8
  obtain ⟨rfl, Nq8, eq8⟩ := hQ8
  have N8 := Fr.app N6 Nq8
  have R8 : ∀ t, oG p e below T8 m 29 #[oR a1, oR a2, oI 0, oI (own_cp c0 c1), .unset] [(.int (own_cp d0 d1))] t → Steps p.tables e below (s₁.setTop (entryFrame m #[(.ref a1), (.ref a2)] 5)) t := fun t k => R7 t (st8.trans k)
  have R9 : ∀ t, oG p e below T8 m 34 #[oR a1, oR a2, oI 0, oI (own_cp c0 c1), oI (own_cp d0 d1)] [(.int (own_cp d0 d1)), (.int (own_cp c0 c1))] t → Steps p.tables e below (s₁.setTop (entryFrame m #[(.ref a1), (.ref a2)] 5)) t := by
    intro t k
    refine R8 t ?_
    refine XS.istore X8.here hx rfl (hb hby own_d13_29) rfl (l' := #[oR a1, oR a2, oI 0, oI (own_cp c0 c1), oI (own_cp d0 d1)]) rfl ?_
    refine XS.iloadN X8.here hx rfl (hb hby own_d13_31) rfl ?_
    refine XS.iload X8.here hx rfl (hb hby own_d13_32) rfl ?_
    exact k
  by_cases hq : (own_cp c0 c1) = (own_cp d0 d1)
  · have R10 : ∀ t, oG p e below T8 m 46 #[oR a1, oR a2, oI 0, oI (own_cp c0 c1), oI (own_cp d0 d1)] [(.int (own_cp c0 c1)), (.int 0)] t → Steps p.tables e below (s₁.setTop (entryFrame m #[(.ref a1), (.ref a2)] 5)) t := by
      intro t k
      refine R9 t ?_
      refine XS.icmpYes X8.here hx rfl (pc0 := 34) (pc' := 44) rfl (hb hby own_d13_34) rfl (teq hq).1 (by decide) (by decide) ?_
      refine XS.iloadN X8.here hx rfl (hb hby own_d13_44) rfl ?_
      refine XS.iloadN X8.here hx rfl (hb hby own_d13_45) rfl ?_
      exact k
    obtain ⟨_, _, ⟨T11, L11, k11, n11⟩, -, X11, ⟨Lc11, hQ11, l11, y11, z11⟩, st11⟩ := Jvm.LawKit.callS X8 hx (y := (⟨"java/lang/Character", "charCount", "(I)I"⟩ : MethodName)) hown (mvT hZ (oW hw 135 rfl)) (mvT hZ (oW hw 136 rfl)) (mvT hZ (oW hw 117 rfl)) (mvT hZ (oW hw 137 rfl)) (by decide) (backOf (W := 1) (rmCC l Z a0 hw [] (own_cp c0 c1)  h0 n0 Z0 ) hZ (oW hw 137 rfl) (oW hw 117 rfl) (by decide) (by decide)) (g := (mkF m 46 #[oR a1, oR a2, oI 0, oI (own_cp c0 c1), oI (own_cp d0 d1)] [(.int (own_cp c0 c1)), (.int 0)])) rfl (by rw [hml]; rfl) (argsL := [(.int (own_cp c0 c1))]) (rest := [(.int 0)]) (lenOf own_pd15 rfl) rfl (by show 2 * 0 + _ ≤ _; exact Nat.le_of_eq rfl) (hb hby own_d13_46) (fun _ _ => ⟨rfl, eq8, (by decide : 0 + 0 ≤ _), (by decide : 0 + 0 ≤ _)⟩)
    dsimp only [Pt.U, Pt.locs, Pt.cells, Pt.slots] at X11 l11 y11 z11 st11 hQ11
    subst l11 y11 z11
    obtain ⟨rfl, Nq11, eq11⟩ := hQ11
    have N11 := Fr.app N8 Nq11
    have R11 : ∀ t, oG p e below T11 m 49 #[oR a1, oR a2, oI 0, oI (own_cp c0 c1), oI (own_cp d0 d1)] [(.int (own_cc (own_cp c0 c1))), (.int 0)] t → Steps p.tables e below (s₁.setTop (entryFrame m #[(.ref a1), (.ref a2)] 5)) t := fun t k => R10 t (st11 t k)
    have R12 : ∀ t, oG p e below T11 m 50 #[oR a1, oR a2, oI 0, oI (own_cp c0 c1), oI (own_cp d0 d1)] [(.int ((0 : Int32) + (own_cc (own_cp c0 c1))))] t → Steps p.tables e below (s₁.setTop (entryFrame m #[(.ref a1), (.ref a2)] 5)) t := by
      intro t k
      refine R11 t ?_
      refine XS.iadd X11.here hx rfl (hb hby own_d13_49) rfl ?_
      exact k
    by_cases hk : (own_cp c0 c1) < (65536 : Int32)
    · have R13 : ∀ t, oG p e below T11 m 50 #[oR a1, oR a2, oI 0, oI (own_cp c0 c1), oI (own_cp d0 d1)] [(.int 1)] t → Steps p.tables e below (s₁.setTop (entryFrame m #[(.ref a1), (.ref a2)] 5)) t := by rw [(by rw [own_cc1 hk]; decide : ((0 : Int32) + (own_cc (own_cp c0 c1))) = (1 : Int32))] at R12; exact R12
      have R14 : ∀ t, oG p e below T11 m 4 #[oR a1, oR a2, oI 1, oI (own_cp c0 c1), oI (own_cp d0 d1)] [(.ref a1), (.int 1)] t → Steps p.tables e below (s₁.setTop (entryFrame m #[(.ref a1), (.ref a2)] 5)) t := by
        intro t k
        refine R13 t ?_
        refine XS.istoreN X11.here hx rfl (hb hby own_d13_50) rfl (l' := #[oR a1, oR a2, oI 1, oI (own_cp c0 c1), oI (own_cp d0 d1)]) rfl ?_
        refine XS.goto X11.here hx rfl (pc0 := 51) (pc' := 2) rfl (hb hby own_d13_51) (by decide) (by decide) ?_
        refine XS.iloadN X11.here hx rfl (hb hby own_d13_2) rfl ?_
        show oG p e below T11 m 3 #[oR a1, oR a2, oI 1, oI (own_cp c0 c1), oI (own_cp d0 d1)] [(.int 1)] _
        refine XS.aloadN X11.here hx rfl (hb hby own_d13_3) rfl rfl ?_
        exact k
      obtain ⟨cq15, kq15, q15a, q15b, q15c⟩ := isOf hZ eq11 hs1.exa
      obtain ⟨_, _, ⟨T15, L15, k15, n15⟩, -, X15, ⟨Lc15, hQ15, l15, y15, z15⟩, st15⟩ := X11.virtualBack hx (y := (⟨"java/lang/String", "length", "()I"⟩ : MethodName)) (z := (⟨"java/lang/String", "length", "()I"⟩ : MethodName)) hown (mvT hZ (oW hw 57 rfl)) (mvT hZ (oW hw 58 rfl)) (notFace_of_selects (args := #[]) (mvT hZ (oW hw 60 rfl))) (mvT hZ (oW hw 60 rfl)) (mvT hZ (oW hw 59 rfl)) (by decide) (backOf (W := 1) (rmLenG l Z a0 hw [] a1 (2 : Int32) c0 c1 cz fm h0 n0 Z0 SU OX hs1) hZ (oW hw 61 rfl) (oW hw 6 rfl) (by decide) (by decide)) q15a q15c (g := (mkF m 4 #[oR a1, oR a2, oI 1, oI (own_cp c0 c1), oI (own_cp d0 d1)] [(.ref a1), (.int 1)])) rfl (by rw [hml]; rfl) (Steps.refl _) (argsL := []) (rest := [(.int 1)]) (lenOf own_pd11 rfl) rfl (by show 2 * 0 + _ ≤ _; exact Nat.le_of_eq rfl) (hb hby own_d13_4) (fun _ _ => ⟨rfl, eq11, (by decide : 0 + 0 ≤ _), (by decide : 0 + 0 ≤ _)⟩)
      dsimp only [Pt.U, Pt.locs, Pt.cells, Pt.slots] at X15 l15 y15 z15 st15 hQ15
      subst l15 y15 z15
      obtain ⟨rfl, Nq15, eq15⟩ := hQ15
      have N15 := Fr.app N11 Nq15
      have R15 : ∀ t, oG p e below T15 m 7 #[oR a1, oR a2, oI 1, oI (own_cp c0 c1), oI (own_cp d0 d1)] [(.int 2), (.int 1)] t → Steps p.tables e below (s₁.setTop (entryFrame m #[(.ref a1), (.ref a2)] 5)) t := fun t k => R14 t (st15.trans k)
      have R16 : ∀ t, oG p e below T15 m 12 #[oR a1, oR a2, oI 1, oI (own_cp c0 c1), oI (own_cp d0 d1)] [(.ref a2), (.int 1)] t → Steps p.tables e below (s₁.setTop (entryFrame m #[(.ref a1), (.ref a2)] 5)) t := by
        intro t k
        refine R15 t ?_
        refine XS.icmpNo X15.here hx rfl (hb hby own_d13_7) rfl (tlt (by decide : ((1 : Int32) < (2 : Int32)))).2.1 ?_
        refine XS.iloadN X15.here hx rfl (hb hby own_d13_10) rfl ?_
        refine XS.aloadN X15.here hx rfl (hb hby own_d13_11) rfl rfl ?_
        exact k
      obtain ⟨cq17, kq17, q17a, q17b, q17c⟩ := isOf hZ eq15 hs2.exa
      obtain ⟨_, _, ⟨T17, L17, k17, n17⟩, -, X17, ⟨Lc17, hQ17, l17, y17, z17⟩, st17⟩ := X15.virtualBack hx (y := (⟨"java/lang/String", "length", "()I"⟩ : MethodName)) (z := (⟨"java/lang/String", "length", "()I"⟩ : MethodName)) hown (mvT hZ (oW hw 57 rfl)) (mvT hZ (oW hw 58 rfl)) (notFace_of_selects (args := #[]) (mvT hZ (oW hw 60 rfl))) (mvT hZ (oW hw 60 rfl)) (mvT hZ (oW hw 59 rfl)) (by decide) (backOf (W := 1) (rmLenG l Z a0 hw [] a2 (2 : Int32) d0 d1 cz fm h0 n0 Z0 SU OX hs2) hZ (oW hw 61 rfl) (oW hw 6 rfl) (by decide) (by decide)) q17a q17c (g := (mkF m 12 #[oR a1, oR a2, oI 1, oI (own_cp c0 c1), oI (own_cp d0 d1)] [(.ref a2), (.int 1)])) rfl (by rw [hml]; rfl) (Steps.refl _) (argsL := []) (rest := [(.int 1)]) (lenOf own_pd11 rfl) rfl (by show 2 * 0 + _ ≤ _; exact Nat.le_of_eq rfl) (hb hby own_d13_12) (fun _ _ => ⟨rfl, eq15, (by decide : 0 + 0 ≤ _), (by decide : 0 + 0 ≤ _)⟩)
      dsimp only [Pt.U, Pt.locs, Pt.cells, Pt.slots] at X17 l17 y17 z17 st17 hQ17
      subst l17 y17 z17
      obtain ⟨rfl, Nq17, eq17⟩ := hQ17
      have N17 := Fr.app N15 Nq17
      have R17 : ∀ t, oG p e below T17 m 15 #[oR a1, oR a2, oI 1, oI (own_cp c0 c1), oI (own_cp d0 d1)] [(.int 2), (.int 1)] t → Steps p.tables e below (s₁.setTop (entryFrame m #[(.ref a1), (.ref a2)] 5)) t := fun t k => R16 t (st17.trans k)
      have R18 : ∀ t, oG p e below T17 m 20 #[oR a1, oR a2, oI 1, oI (own_cp c0 c1), oI (own_cp d0 d1)] [(.int 1), (.ref a1)] t → Steps p.tables e below (s₁.setTop (entryFrame m #[(.ref a1), (.ref a2)] 5)) t := by
        intro t k
        refine R17 t ?_
        refine XS.icmpNo X17.here hx rfl (hb hby own_d13_15) rfl (tlt (by decide : ((1 : Int32) < (2 : Int32)))).2.1 ?_
        refine XS.aloadN X17.here hx rfl (hb hby own_d13_18) rfl rfl ?_
        refine XS.iloadN X17.here hx rfl (hb hby own_d13_19) rfl ?_
        exact k
      obtain ⟨cq19, kq19, q19a, q19b, q19c⟩ := isOf hZ eq17 hs1.exa
      obtain ⟨_, _, ⟨T19, L19, k19, n19⟩, -, X19, ⟨Lc19, hQ19, l19, y19, z19⟩, st19⟩ := X17.virtualBack hx (y := (⟨"java/lang/String", "codePointAt", "(I)I"⟩ : MethodName)) (z := (⟨"java/lang/String", "codePointAt", "(I)I"⟩ : MethodName)) hown (mvT hZ (oW hw 91 rfl)) (mvT hZ (oW hw 92 rfl)) (notFace_of_selects (args := #[]) (mvT hZ (oW hw 94 rfl))) (mvT hZ (oW hw 94 rfl)) (mvT hZ (oW hw 93 rfl)) (by decide) (backOf (W := 0) (rmCP21 l Z a0 hw [] a1 c0 c1 cz fm h0 n0 Z0 SU OX hs1 r0 r1) hZ (oW hw 95 rfl) (oW hw 6 rfl) (by decide) (by decide)) q19a q19c (g := (mkF m 20 #[oR a1, oR a2, oI 1, oI (own_cp c0 c1), oI (own_cp d0 d1)] [(.int 1), (.ref a1)])) rfl (by rw [hml]; rfl) (Steps.refl _) (argsL := [(.int 1)]) (rest := []) (lenOf own_pd15 rfl) rfl (by show 2 * 0 + _ ≤ _; exact Nat.le_of_eq rfl) (hb hby own_d13_20) (fun _ _ => ⟨rfl, eq17, (by decide : 0 + 0 ≤ _), (by decide : 0 + 0 ≤ _)⟩)
      dsimp only [Pt.U, Pt.locs, Pt.cells, Pt.slots] at X19 l19 y19 z19 st19 hQ19
      subst l19 y19 z19
      obtain ⟨rfl, Nq19, eq19⟩ := hQ19
      have N19 := Fr.app N17 Nq19
      have R19 : ∀ t, oG p e below T19 m 23 #[oR a1, oR a2, oI 1, oI (own_cp c0 c1), oI (own_cp d0 d1)] [(.int c1)] t → Steps p.tables e below (s₁.setTop (entryFrame m #[(.ref a1), (.ref a2)] 5)) t := fun t k => R18 t (st19.trans k)
      have R20 : ∀ t, oG p e below T19 m 26 #[oR a1, oR a2, oI 1, oI c1, oI (own_cp d0 d1)] [(.int 1), (.ref a2)] t → Steps p.tables e below (s₁.setTop (entryFrame m #[(.ref a1), (.ref a2)] 5)) t := by
        intro t k
        refine R19 t ?_
        refine XS.istoreN X19.here hx rfl (hb hby own_d13_23) rfl (l' := #[oR a1, oR a2, oI 1, oI c1, oI (own_cp d0 d1)]) rfl ?_
        refine XS.aloadN X19.here hx rfl (hb hby own_d13_24) rfl rfl ?_
        refine XS.iloadN X19.here hx rfl (hb hby own_d13_25) rfl ?_
        exact k
      obtain ⟨cq21, kq21, q21a, q21b, q21c⟩ := isOf hZ eq19 hs2.exa
      obtain ⟨_, _, ⟨T21, L21, k21, n21⟩, -, X21, ⟨Lc21, hQ21, l21, y21, z21⟩, st21⟩ := X19.virtualBack hx (y := (⟨"java/lang/String", "codePointAt", "(I)I"⟩ : MethodName)) (z := (⟨"java/lang/String", "codePointAt", "(I)I"⟩ : MethodName)) hown (mvT hZ (oW hw 91 rfl)) (mvT hZ (oW hw 92 rfl)) (notFace_of_selects (args := #[]) (mvT hZ (oW hw 94 rfl))) (mvT hZ (oW hw 94 rfl)) (mvT hZ (oW hw 93 rfl)) (by decide) (backOf (W := 0) (rmCP21 l Z a0 hw [] a2 d0 d1 cz fm h0 n0 Z0 SU OX hs2 u0 u1) hZ (oW hw 95 rfl) (oW hw 6 rfl) (by decide) (by decide)) q21a q21c (g := (mkF m 26 #[oR a1, oR a2, oI 1, oI c1, oI (own_cp d0 d1)] [(.int 1), (.ref a2)])) rfl (by rw [hml]; rfl) (Steps.refl _) (argsL := [(.int 1)]) (rest := []) (lenOf own_pd15 rfl) rfl (by show 2 * 0 + _ ≤ _; exact Nat.le_of_eq rfl) (hb hby own_d13_26) (fun _ _ => ⟨rfl, eq19, (by decide : 0 + 0 ≤ _), (by decide : 0 + 0 ≤ _)⟩)
      dsimp only [Pt.U, Pt.locs, Pt.cells, Pt.slots] at X21 l21 y21 z21 st21 hQ21
      subst l21 y21 z21
      obtain ⟨rfl, Nq21, eq21⟩ := hQ21
      have N21 := Fr.app N19 Nq21
      have R21 : ∀ t, oG p e below T21 m 29 #[oR a1, oR a2, oI 1, oI c1, oI (own_cp d0 d1)] [(.int d1)] t → Steps p.tables e below (s₁.setTop (entryFrame m #[(.ref a1), (.ref a2)] 5)) t := fun t k => R20 t (st21.trans k)
      have R22 : ∀ t, oG p e below T21 m 34 #[oR a1, oR a2, oI 1, oI c1, oI d1] [(.int d1), (.int c1)] t → Steps p.tables e below (s₁.setTop (entryFrame m #[(.ref a1), (.ref a2)] 5)) t := by
        intro t k
        refine R21 t ?_
        refine XS.istore X21.here hx rfl (hb hby own_d13_29) rfl (l' := #[oR a1, oR a2, oI 1, oI c1, oI d1]) rfl ?_
        refine XS.iloadN X21.here hx rfl (hb hby own_d13_31) rfl ?_
        refine XS.iload X21.here hx rfl (hb hby own_d13_32) rfl ?_
        exact k
      by_cases hq2 : c1 = d1
      · have R23 : ∀ t, oG p e below T21 m 46 #[oR a1, oR a2, oI 1, oI c1, oI d1] [(.int c1), (.int 1)] t → Steps p.tables e below (s₁.setTop (entryFrame m #[(.ref a1), (.ref a2)] 5)) t := by
          intro t k
          refine R22 t ?_
          refine XS.icmpYes X21.here hx rfl (pc0 := 34) (pc' := 44) rfl (hb hby own_d13_34) rfl (teq hq2).1 (by decide) (by decide) ?_
          refine XS.iloadN X21.here hx rfl (hb hby own_d13_44) rfl ?_
          refine XS.iloadN X21.here hx rfl (hb hby own_d13_45) rfl ?_
          exact k
        obtain ⟨_, _, ⟨T24, L24, k24, n24⟩, -, X24, ⟨Lc24, hQ24, l24, y24, z24⟩, st24⟩ := Jvm.LawKit.callS X21 hx (y := (⟨"java/lang/Character", "charCount", "(I)I"⟩ : MethodName)) hown (mvT hZ (oW hw 135 rfl)) (mvT hZ (oW hw 136 rfl)) (mvT hZ (oW hw 117 rfl)) (mvT hZ (oW hw 137 rfl)) (by decide) (backOf (W := 1) (rmCC l Z a0 hw [] c1  h0 n0 Z0 ) hZ (oW hw 137 rfl) (oW hw 117 rfl) (by decide) (by decide)) (g := (mkF m 46 #[oR a1, oR a2, oI 1, oI c1, oI d1] [(.int c1), (.int 1)])) rfl (by rw [hml]; rfl) (argsL := [(.int c1)]) (rest := [(.int 1)]) (lenOf own_pd15 rfl) rfl (by show 2 * 0 + _ ≤ _; exact Nat.le_of_eq rfl) (hb hby own_d13_46) (fun _ _ => ⟨rfl, eq21, (by decide : 0 + 0 ≤ _), (by decide : 0 + 0 ≤ _)⟩)
        dsimp only [Pt.U, Pt.locs, Pt.cells, Pt.slots] at X24 l24 y24 z24 st24 hQ24
        subst l24 y24 z24
        obtain ⟨rfl, Nq24, eq24⟩ := hQ24
        have N24 := Fr.app N21 Nq24
        have R24 : ∀ t, oG p e below T24 m 49 #[oR a1, oR a2, oI 1, oI c1, oI d1] [(.int (own_cc c1)), (.int 1)] t → Steps p.tables e below (s₁.setTop (entryFrame m #[(.ref a1), (.ref a2)] 5)) t := fun t k => R23 t (st24 t k)
        have R25 : ∀ t, oG p e below T24 m 50 #[oR a1, oR a2, oI 1, oI c1, oI d1] [(.int ((1 : Int32) + (own_cc c1)))] t → Steps p.tables e below (s₁.setTop (entryFrame m #[(.ref a1), (.ref a2)] 5)) t := by
          intro t k
          refine R24 t ?_
          refine XS.iadd X24.here hx rfl (hb hby own_d13_49) rfl ?_
          exact k
        have R26 : ∀ t, oG p e below T24 m 50 #[oR a1, oR a2, oI 1, oI c1, oI d1] [(.int 2)] t → Steps p.tables e below (s₁.setTop (entryFrame m #[(.ref a1), (.ref a2)] 5)) t := by rw [(by rw [own_cc1 (own_R6 r1)]; decide : ((1 : Int32) + (own_cc c1)) = (2 : Int32))] at R25; exact R25
        have R27 : ∀ t, oG p e below T24 m 4 #[oR a1, oR a2, oI 2, oI c1, oI d1] [(.ref a1), (.int 2)] t → Steps p.tables e below (s₁.setTop (entryFrame m #[(.ref a1), (.ref a2)] 5)) t := by
          intro t k
          refine R26 t ?_
          refine XS.istoreN X24.here hx rfl (hb hby own_d13_50) rfl (l' := #[oR a1, oR a2, oI 2, oI c1, oI d1]) rfl ?_
          refine XS.goto X24.here hx rfl (pc0 := 51) (pc' := 2) rfl (hb hby own_d13_51) (by decide) (by decide) ?_
          refine XS.iloadN X24.here hx rfl (hb hby own_d13_2) rfl ?_
          show oG p e below T24 m 3 #[oR a1, oR a2, oI 2, oI c1, oI d1] [(.int 2)] _
          refine XS.aloadN X24.here hx rfl (hb hby own_d13_3) rfl rfl ?_
          exact k
        obtain ⟨cq28, kq28, q28a, q28b, q28c⟩ := isOf hZ eq24 hs1.exa
        obtain ⟨_, _, ⟨T28, L28, k28, n28⟩, -, X28, ⟨Lc28, hQ28, l28, y28, z28⟩, st28⟩ := X24.virtualBack hx (y := (⟨"java/lang/String", "length", "()I"⟩ : MethodName)) (z := (⟨"java/lang/String", "length", "()I"⟩ : MethodName)) hown (mvT hZ (oW hw 57 rfl)) (mvT hZ (oW hw 58 rfl)) (notFace_of_selects (args := #[]) (mvT hZ (oW hw 60 rfl))) (mvT hZ (oW hw 60 rfl)) (mvT hZ (oW hw 59 rfl)) (by decide) (backOf (W := 1) (rmLenG l Z a0 hw [] a1 (2 : Int32) c0 c1 cz fm h0 n0 Z0 SU OX hs1) hZ (oW hw 61 rfl) (oW hw 6 rfl) (by decide) (by decide)) q28a q28c (g := (mkF m 4 #[oR a1, oR a2, oI 2, oI c1, oI d1] [(.ref a1), (.int 2)])) rfl (by rw [hml]; rfl) (Steps.refl _) (argsL := []) (rest := [(.int 2)]) (lenOf own_pd11 rfl) rfl (by show 2 * 0 + _ ≤ _; exact Nat.le_of_eq rfl) (hb hby own_d13_4) (fun _ _ => ⟨rfl, eq24, (by decide : 0 + 0 ≤ _), (by decide : 0 + 0 ≤ _)⟩)
        dsimp only [Pt.U, Pt.locs, Pt.cells, Pt.slots] at X28 l28 y28 z28 st28 hQ28
        subst l28 y28 z28
        obtain ⟨rfl, Nq28, eq28⟩ := hQ28
        have N28 := Fr.app N24 Nq28
        have R28 : ∀ t, oG p e below T28 m 7 #[oR a1, oR a2, oI 2, oI c1, oI d1] [(.int 2), (.int 2)] t → Steps p.tables e below (s₁.setTop (entryFrame m #[(.ref a1), (.ref a2)] 5)) t := fun t k => R27 t (st28.trans k)
        have R29 : ∀ t, oG p e below T28 m 55 #[oR a1, oR a2, oI 2, oI c1, oI d1] [(.ref a1)] t → Steps p.tables e below (s₁.setTop (entryFrame m #[(.ref a1), (.ref a2)] 5)) t := by
          intro t k
          refine R28 t ?_
          refine XS.icmpYes X28.here hx rfl (pc0 := 7) (pc' := 54) rfl (hb hby own_d13_7) rfl (flt (by decide : ¬ ((2 : Int32) < (2 : Int32)))).2.1 (by decide) (by decide) ?_
          refine XS.aloadN X28.here hx rfl (hb hby own_d13_54) rfl rfl ?_
          exact k
        obtain ⟨cq30, kq30, q30a, q30b, q30c⟩ := isOf hZ eq28 hs1.exa
        obtain ⟨_, _, ⟨T30, L30, k30, n30⟩, -, X30, ⟨Lc30, hQ30, l30, y30, z30⟩, st30⟩ := X28.virtualBack hx (y := (⟨"java/lang/String", "length", "()I"⟩ : MethodName)) (z := (⟨"java/lang/String", "length", "()I"⟩ : MethodName)) hown (mvT hZ (oW hw 57 rfl)) (mvT hZ (oW hw 58 rfl)) (notFace_of_selects (args := #[]) (mvT hZ (oW hw 60 rfl))) (mvT hZ (oW hw 60 rfl)) (mvT hZ (oW hw 59 rfl)) (by decide) (backOf (W := 0) (rmLenG l Z a0 hw [] a1 (2 : Int32) c0 c1 cz fm h0 n0 Z0 SU OX hs1) hZ (oW hw 61 rfl) (oW hw 6 rfl) (by decide) (by decide)) q30a q30c (g := (mkF m 55 #[oR a1, oR a2, oI 2, oI c1, oI d1] [(.ref a1)])) rfl (by rw [hml]; rfl) (Steps.refl _) (argsL := []) (rest := []) (lenOf own_pd11 rfl) rfl (by show 2 * 0 + _ ≤ _; exact Nat.le_of_eq rfl) (hb hby own_d13_55) (fun _ _ => ⟨rfl, eq28, (by decide : 0 + 0 ≤ _), (by decide : 0 + 0 ≤ _)⟩)
        dsimp only [Pt.U, Pt.locs, Pt.cells, Pt.slots] at X30 l30 y30 z30 st30 hQ30
        subst l30 y30 z30
        obtain ⟨rfl, Nq30, eq30⟩ := hQ30
        have N30 := Fr.app N28 Nq30
        have R30 : ∀ t, oG p e below T30 m 58 #[oR a1, oR a2, oI 2, oI c1, oI d1] [(.int 2)] t → Steps p.tables e below (s₁.setTop (entryFrame m #[(.ref a1), (.ref a2)] 5)) t := fun t k => R29 t (st30.trans k)
        have R31 : ∀ t, oG p e below T30 m 59 #[oR a1, oR a2, oI 2, oI c1, oI d1] [(.ref a2), (.int 2)] t → Steps p.tables e below (s₁.setTop (entryFrame m #[(.ref a1), (.ref a2)] 5)) t := by
          intro t k
          refine R30 t ?_
          refine XS.aloadN X30.here hx rfl (hb hby own_d13_58) rfl rfl ?_
          exact k
        obtain ⟨cq32, kq32, q32a, q32b, q32c⟩ := isOf hZ eq30 hs2.exa
        obtain ⟨_, _, ⟨T32, L32, k32, n32⟩, -, X32, ⟨Lc32, hQ32, l32, y32, z32⟩, st32⟩ := X30.virtualBack hx (y := (⟨"java/lang/String", "length", "()I"⟩ : MethodName)) (z := (⟨"java/lang/String", "length", "()I"⟩ : MethodName)) hown (mvT hZ (oW hw 57 rfl)) (mvT hZ (oW hw 58 rfl)) (notFace_of_selects (args := #[]) (mvT hZ (oW hw 60 rfl))) (mvT hZ (oW hw 60 rfl)) (mvT hZ (oW hw 59 rfl)) (by decide) (backOf (W := 1) (rmLenG l Z a0 hw [] a2 (2 : Int32) d0 d1 cz fm h0 n0 Z0 SU OX hs2) hZ (oW hw 61 rfl) (oW hw 6 rfl) (by decide) (by decide)) q32a q32c (g := (mkF m 59 #[oR a1, oR a2, oI 2, oI c1, oI d1] [(.ref a2), (.int 2)])) rfl (by rw [hml]; rfl) (Steps.refl _) (argsL := []) (rest := [(.int 2)]) (lenOf own_pd11 rfl) rfl (by show 2 * 0 + _ ≤ _; exact Nat.le_of_eq rfl) (hb hby own_d13_59) (fun _ _ => ⟨rfl, eq30, (by decide : 0 + 0 ≤ _), (by decide : 0 + 0 ≤ _)⟩)
        dsimp only [Pt.U, Pt.locs, Pt.cells, Pt.slots] at X32 l32 y32 z32 st32 hQ32
        subst l32 y32 z32
        obtain ⟨rfl, Nq32, eq32⟩ := hQ32
        have N32 := Fr.app N30 Nq32
        have R32 : ∀ t, oG p e below T32 m 62 #[oR a1, oR a2, oI 2, oI c1, oI d1] [(.int 2), (.int 2)] t → Steps p.tables e below (s₁.setTop (entryFrame m #[(.ref a1), (.ref a2)] 5)) t := fun t k => R31 t (st32.trans k)
        obtain ⟨_, _, ⟨T33, L33, k33, n33⟩, -, X33, ⟨Lc33, hQ33, l33, y33, z33⟩, st33⟩ := Jvm.LawKit.callS X32 hx (y := (⟨"java/lang/Integer", "compare", "(II)I"⟩ : MethodName)) hown (mvT hZ (oW hw 67 rfl)) (mvT hZ (oW hw 68 rfl)) (mvT hZ (oW hw 69 rfl)) (mvT hZ (oW hw 70 rfl)) (by decide) (backOf (W := 0) (rmICmp l Z a0 hw [] (2 : Int32) (2 : Int32)  h0 n0 Z0 ) hZ (oW hw 70 rfl) (oW hw 69 rfl) (by decide) (by decide)) (g := (mkF m 62 #[oR a1, oR a2, oI 2, oI c1, oI d1] [(.int 2), (.int 2)])) rfl (by rw [hml]; rfl) (argsL := [(.int 2), (.int 2)]) (rest := []) (lenOf own_pd13 rfl) rfl (by show 2 * 0 + _ ≤ _; exact Nat.le_of_eq rfl) (hb hby own_d13_62) (fun _ _ => ⟨rfl, eq32, (by decide : 0 + 0 ≤ _), (by decide : 0 + 0 ≤ _)⟩)
        dsimp only [Pt.U, Pt.locs, Pt.cells, Pt.slots] at X33 l33 y33 z33 st33 hQ33
        subst l33 y33 z33
        obtain ⟨rfl, Nq33, eq33⟩ := hQ33
        have N33 := Fr.app N32 Nq33
        have R33 : ∀ t, oG p e below T33 m 65 #[oR a1, oR a2, oI 2, oI c1, oI d1] [(.int (own_icmp (2 : Int32) (2 : Int32)))] t → Steps p.tables e below (s₁.setTop (entryFrame m #[(.ref a1), (.ref a2)] 5)) t := fun t k => R32 t (st33 t k)
        have hv : own_cmp22 c0 c1 d0 d1 = (own_icmp (2 : Int32) (2 : Int32)) := (if_pos hq).trans ((if_pos hk).trans ((if_pos hq2)))
        obtain ⟨fs, hr, hrun, hended, hW, hsame⟩ := X33.leave (v := some (.int (own_icmp (2 : Int32) (2 : Int32)))) (fun h => by rw [Bd.returns] at h; cases h)
        refine ⟨_, _, R33 _ ?_, hrun, hended, _, _, rfl, ?_, ⟨_, rfl⟩, hW, hsame.mono (by decide) (by decide)⟩
        · exact retOut X33 hx Bd.returns rfl (Or.inl ⟨rfl, Or.inl rfl, _, rfl⟩) (hb hby own_d13_65) hr
        · show Q_rmCm22 Z a1 a2 c0 c1 d0 d1 cz fm h0 n0 _ T33.heap _
          rw [eq33]
          exact ⟨by rw [hv], N33, rfl⟩
      · have R34 : ∀ t, oG p e below T21 m 40 #[oR a1, oR a2, oI 1, oI c1, oI d1] [(.int d1), (.int c1)] t → Steps p.tables e below (s₁.setTop (entryFrame m #[(.ref a1), (.ref a2)] 5)) t := by
          intro t k
          refine R22 t ?_
          refine XS.icmpNo X21.here hx rfl (hb hby own_d13_34) rfl (feq hq2).1 ?_
          refine XS.iloadN X21.here hx rfl (hb hby own_d13_37) rfl ?_
          refine XS.iload X21.here hx rfl (hb hby own_d13_38) rfl ?_
          exact k
        obtain ⟨_, _, ⟨T35, L35, k35, n35⟩, -, X35, ⟨Lc35, hQ35, l35, y35, z35⟩, st35⟩ := Jvm.LawKit.callS X21 hx (y := (⟨"java/lang/Integer", "compare", "(II)I"⟩ : MethodName)) hown (mvT hZ (oW hw 67 rfl)) (mvT hZ (oW hw 68 rfl)) (mvT hZ (oW hw 69 rfl)) (mvT hZ (oW hw 70 rfl)) (by decide) (backOf (W := 0) (rmICmp l Z a0 hw [] c1 d1  h0 n0 Z0 ) hZ (oW hw 70 rfl) (oW hw 69 rfl) (by decide) (by decide)) (g := (mkF m 40 #[oR a1, oR a2, oI 1, oI c1, oI d1] [(.int d1), (.int c1)])) rfl (by rw [hml]; rfl) (argsL := [(.int c1), (.int d1)]) (rest := []) (lenOf own_pd13 rfl) rfl (by show 2 * 0 + _ ≤ _; exact Nat.le_of_eq rfl) (hb hby own_d13_40) (fun _ _ => ⟨rfl, eq21, (by decide : 0 + 0 ≤ _), (by decide : 0 + 0 ≤ _)⟩)
        dsimp only [Pt.U, Pt.locs, Pt.cells, Pt.slots] at X35 l35 y35 z35 st35 hQ35
        subst l35 y35 z35
        obtain ⟨rfl, Nq35, eq35⟩ := hQ35
        have N35 := Fr.app N21 Nq35
        have R35 : ∀ t, oG p e below T35 m 43 #[oR a1, oR a2, oI 1, oI c1, oI d1] [(.int (own_icmp c1 d1))] t → Steps p.tables e below (s₁.setTop (entryFrame m #[(.ref a1), (.ref a2)] 5)) t := fun t k => R34 t (st35 t k)
        have hv : own_cmp22 c0 c1 d0 d1 = (own_icmp c1 d1) := (if_pos hq).trans ((if_pos hk).trans ((if_neg hq2)))
        obtain ⟨fs, hr, hrun, hended, hW, hsame⟩ := X35.leave (v := some (.int (own_icmp c1 d1))) (fun h => by rw [Bd.returns] at h; cases h)
        refine ⟨_, _, R35 _ ?_, hrun, hended, _, _, rfl, ?_, ⟨_, rfl⟩, hW, hsame.mono (by decide) (by decide)⟩
        · exact retOut X35 hx Bd.returns rfl (Or.inl ⟨rfl, Or.inl rfl, _, rfl⟩) (hb hby own_d13_43) hr
        · show Q_rmCm22 Z a1 a2 c0 c1 d0 d1 cz fm h0 n0 _ T35.heap _
          rw [eq35]
          exact ⟨by rw [hv], N35, rfl⟩
    · have R36 : ∀ t, oG p e below T11 m 50 #[oR a1, oR a2, oI 0, oI (own_cp c0 c1), oI (own_cp d0 d1)] [(.int 2)] t → Steps p.tables e below (s₁.setTop (entryFrame m #[(.ref a1), (.ref a2)] 5)) t := by rw [(by rw [own_cc2 hk]; decide : ((0 : Int32) + (own_cc (own_cp c0 c1))) = (2 : Int32))] at R12; exact R12
      have R37 : ∀ t, oG p e below T11 m 4 #[oR a1, oR a2, oI 2, oI (own_cp c0 c1), oI (own_cp d0 d1)] [(.ref a1), (.int 2)] t → Steps p.tables e below (s₁.setTop (entryFrame m #[(.ref a1), (.ref a2)] 5)) t := by
        intro t k
        refine R36 t ?_
        refine XS.istoreN X11.here hx rfl (hb hby own_d13_50) rfl (l' := #[oR a1, oR a2, oI 2, oI (own_cp c0 c1), oI (own_cp d0 d1)]) rfl ?_
        refine XS.goto X11.here hx rfl (pc0 := 51) (pc' := 2) rfl (hb hby own_d13_51) (by decide) (by decide) ?_
        refine XS.iloadN X11.here hx rfl (hb hby own_d13_2) rfl ?_
        show oG p e below T11 m 3 #[oR a1, oR a2, oI 2, oI (own_cp c0 c1), oI (own_cp d0 d1)] [(.int 2)] _
        refine XS.aloadN X11.here hx rfl (hb hby own_d13_3) rfl rfl ?_
        exact k
      obtain ⟨cq38, kq38, q38a, q38b, q38c⟩ := isOf hZ eq11 hs1.exa
      obtain ⟨_, _, ⟨T38, L38, k38, n38⟩, -, X38, ⟨Lc38, hQ38, l38, y38, z38⟩, st38⟩ := X11.virtualBack hx (y := (⟨"java/lang/String", "length", "()I"⟩ : MethodName)) (z := (⟨"java/lang/String", "length", "()I"⟩ : MethodName)) hown (mvT hZ (oW hw 57 rfl)) (mvT hZ (oW hw 58 rfl)) (notFace_of_selects (args := #[]) (mvT hZ (oW hw 60 rfl))) (mvT hZ (oW hw 60 rfl)) (mvT hZ (oW hw 59 rfl)) (by decide) (backOf (W := 1) (rmLenG l Z a0 hw [] a1 (2 : Int32) c0 c1 cz fm h0 n0 Z0 SU OX hs1) hZ (oW hw 61 rfl) (oW hw 6 rfl) (by decide) (by decide)) q38a q38c (g := (mkF m 4 #[oR a1, oR a2, oI 2, oI (own_cp c0 c1), oI (own_cp d0 d1)] [(.ref a1), (.int 2)])) rfl (by rw [hml]; rfl) (Steps.refl _) (argsL := []) (rest := [(.int 2)]) (lenOf own_pd11 rfl) rfl (by show 2 * 0 + _ ≤ _; exact Nat.le_of_eq rfl) (hb hby own_d13_4) (fun _ _ => ⟨rfl, eq11, (by decide : 0 + 0 ≤ _), (by decide : 0 + 0 ≤ _)⟩)
      dsimp only [Pt.U, Pt.locs, Pt.cells, Pt.slots] at X38 l38 y38 z38 st38 hQ38
      subst l38 y38 z38
      obtain ⟨rfl, Nq38, eq38⟩ := hQ38
      have N38 := Fr.app N11 Nq38
      have R38 : ∀ t, oG p e below T38 m 7 #[oR a1, oR a2, oI 2, oI (own_cp c0 c1), oI (own_cp d0 d1)] [(.int 2), (.int 2)] t → Steps p.tables e below (s₁.setTop (entryFrame m #[(.ref a1), (.ref a2)] 5)) t := fun t k => R37 t (st38.trans k)
      have R39 : ∀ t, oG p e below T38 m 55 #[oR a1, oR a2, oI 2, oI (own_cp c0 c1), oI (own_cp d0 d1)] [(.ref a1)] t → Steps p.tables e below (s₁.setTop (entryFrame m #[(.ref a1), (.ref a2)] 5)) t := by
        intro t k
        refine R38 t ?_
        refine XS.icmpYes X38.here hx rfl (pc0 := 7) (pc' := 54) rfl (hb hby own_d13_7) rfl (flt (by decide : ¬ ((2 : Int32) < (2 : Int32)))).2.1 (by decide) (by decide) ?_
        refine XS.aloadN X38.here hx rfl (hb hby own_d13_54) rfl rfl ?_
        exact k
      obtain ⟨cq40, kq40, q40a, q40b, q40c⟩ := isOf hZ eq38 hs1.exa
      obtain ⟨_, _, ⟨T40, L40, k40, n40⟩, -, X40, ⟨Lc40, hQ40, l40, y40, z40⟩, st40⟩ := X38.virtualBack hx (y := (⟨"java/lang/String", "length", "()I"⟩ : MethodName)) (z := (⟨"java/lang/String", "length", "()I"⟩ : MethodName)) hown (mvT hZ (oW hw 57 rfl)) (mvT hZ (oW hw 58 rfl)) (notFace_of_selects (args := #[]) (mvT hZ (oW hw 60 rfl))) (mvT hZ (oW hw 60 rfl)) (mvT hZ (oW hw 59 rfl)) (by decide) (backOf (W := 0) (rmLenG l Z a0 hw [] a1 (2 : Int32) c0 c1 cz fm h0 n0 Z0 SU OX hs1) hZ (oW hw 61 rfl) (oW hw 6 rfl) (by decide) (by decide)) q40a q40c (g := (mkF m 55 #[oR a1, oR a2, oI 2, oI (own_cp c0 c1), oI (own_cp d0 d1)] [(.ref a1)])) rfl (by rw [hml]; rfl) (Steps.refl _) (argsL := []) (rest := []) (lenOf own_pd11 rfl) rfl (by show 2 * 0 + _ ≤ _; exact Nat.le_of_eq rfl) (hb hby own_d13_55) (fun _ _ => ⟨rfl, eq38, (by decide : 0 + 0 ≤ _), (by decide : 0 + 0 ≤ _)⟩)
      dsimp only [Pt.U, Pt.locs, Pt.cells, Pt.slots] at X40 l40 y40 z40 st40 hQ40
      subst l40 y40 z40
      obtain ⟨rfl, Nq40, eq40⟩ := hQ40
      have N40 := Fr.app N38 Nq40
      have R40 : ∀ t, oG p e below T40 m 58 #[oR a1, oR a2, oI 2, oI (own_cp c0 c1), oI (own_cp d0 d1)] [(.int 2)] t → Steps p.tables e below (s₁.setTop (entryFrame m #[(.ref a1), (.ref a2)] 5)) t := fun t k => R39 t (st40.trans k)
      have R41 : ∀ t, oG p e below T40 m 59 #[oR a1, oR a2, oI 2, oI (own_cp c0 c1), oI (own_cp d0 d1)] [(.ref a2), (.int 2)] t → Steps p.tables e below (s₁.setTop (entryFrame m #[(.ref a1), (.ref a2)] 5)) t := by
        intro t k
        refine R40 t ?_
        refine XS.aloadN X40.here hx rfl (hb hby own_d13_58) rfl rfl ?_
        exact k
      obtain ⟨cq42, kq42, q42a, q42b, q42c⟩ := isOf hZ eq40 hs2.exa
      obtain ⟨_, _, ⟨T42, L42, k42, n42⟩, -, X42, ⟨Lc42, hQ42, l42, y42, z42⟩, st42⟩ := X40.virtualBack hx (y := (⟨"java/lang/String", "length", "()I"⟩ : MethodName)) (z := (⟨"java/lang/String", "length", "()I"⟩ : MethodName)) hown (mvT hZ (oW hw 57 rfl)) (mvT hZ (oW hw 58 rfl)) (notFace_of_selects (args := #[]) (mvT hZ (oW hw 60 rfl))) (mvT hZ (oW hw 60 rfl)) (mvT hZ (oW hw 59 rfl)) (by decide) (backOf (W := 1) (rmLenG l Z a0 hw [] a2 (2 : Int32) d0 d1 cz fm h0 n0 Z0 SU OX hs2) hZ (oW hw 61 rfl) (oW hw 6 rfl) (by decide) (by decide)) q42a q42c (g := (mkF m 59 #[oR a1, oR a2, oI 2, oI (own_cp c0 c1), oI (own_cp d0 d1)] [(.ref a2), (.int 2)])) rfl (by rw [hml]; rfl) (Steps.refl _) (argsL := []) (rest := [(.int 2)]) (lenOf own_pd11 rfl) rfl (by show 2 * 0 + _ ≤ _; exact Nat.le_of_eq rfl) (hb hby own_d13_59) (fun _ _ => ⟨rfl, eq40, (by decide : 0 + 0 ≤ _), (by decide : 0 + 0 ≤ _)⟩)
      dsimp only [Pt.U, Pt.locs, Pt.cells, Pt.slots] at X42 l42 y42 z42 st42 hQ42
      subst l42 y42 z42
      obtain ⟨rfl, Nq42, eq42⟩ := hQ42
      have N42 := Fr.app N40 Nq42
      have R42 : ∀ t, oG p e below T42 m 62 #[oR a1, oR a2, oI 2, oI (own_cp c0 c1), oI (own_cp d0 d1)] [(.int 2), (.int 2)] t → Steps p.tables e below (s₁.setTop (entryFrame m #[(.ref a1), (.ref a2)] 5)) t := fun t k => R41 t (st42.trans k)
      obtain ⟨_, _, ⟨T43, L43, k43, n43⟩, -, X43, ⟨Lc43, hQ43, l43, y43, z43⟩, st43⟩ := Jvm.LawKit.callS X42 hx (y := (⟨"java/lang/Integer", "compare", "(II)I"⟩ : MethodName)) hown (mvT hZ (oW hw 67 rfl)) (mvT hZ (oW hw 68 rfl)) (mvT hZ (oW hw 69 rfl)) (mvT hZ (oW hw 70 rfl)) (by decide) (backOf (W := 0) (rmICmp l Z a0 hw [] (2 : Int32) (2 : Int32)  h0 n0 Z0 ) hZ (oW hw 70 rfl) (oW hw 69 rfl) (by decide) (by decide)) (g := (mkF m 62 #[oR a1, oR a2, oI 2, oI (own_cp c0 c1), oI (own_cp d0 d1)] [(.int 2), (.int 2)])) rfl (by rw [hml]; rfl) (argsL := [(.int 2), (.int 2)]) (rest := []) (lenOf own_pd13 rfl) rfl (by show 2 * 0 + _ ≤ _; exact Nat.le_of_eq rfl) (hb hby own_d13_62) (fun _ _ => ⟨rfl, eq42, (by decide : 0 + 0 ≤ _), (by decide : 0 + 0 ≤ _)⟩)
      dsimp only [Pt.U, Pt.locs, Pt.cells, Pt.slots] at X43 l43 y43 z43 st43 hQ43
      subst l43 y43 z43
      obtain ⟨rfl, Nq43, eq43⟩ := hQ43
      have N43 := Fr.app N42 Nq43
      have R43 : ∀ t, oG p e below T43 m 65 #[oR a1, oR a2, oI 2, oI (own_cp c0 c1), oI (own_cp d0 d1)] [(.int (own_icmp (2 : Int32) (2 : Int32)))] t → Steps p.tables e below (s₁.setTop (entryFrame m #[(.ref a1), (.ref a2)] 5)) t := fun t k => R42 t (st43 t k)
      have hv : own_cmp22 c0 c1 d0 d1 = (own_icmp (2 : Int32) (2 : Int32)) := (if_pos hq).trans ((if_neg hk))
      obtain ⟨fs, hr, hrun, hended, hW, hsame⟩ := X43.leave (v := some (.int (own_icmp (2 : Int32) (2 : Int32)))) (fun h => by rw [Bd.returns] at h; cases h)
      refine ⟨_, _, R43 _ ?_, hrun, hended, _, _, rfl, ?_, ⟨_, rfl⟩, hW, hsame.mono (by decide) (by decide)⟩
      · exact retOut X43 hx Bd.returns rfl (Or.inl ⟨rfl, Or.inl rfl, _, rfl⟩) (hb hby own_d13_65) hr
      · show Q_rmCm22 Z a1 a2 c0 c1 d0 d1 cz fm h0 n0 _ T43.heap _
        rw [eq43]
        exact ⟨by rw [hv], N43, rfl⟩
  · have R44 : ∀ t, oG p e below T8 m 40 #[oR a1, oR a2, oI 0, oI (own_cp c0 c1), oI (own_cp d0 d1)] [(.int (own_cp d0 d1)), (.int (own_cp c0 c1))] t → Steps p.tables e below (s₁.setTop (entryFrame m #[(.ref a1), (.ref a2)] 5)) t := by
      intro t k
      refine R9 t ?_
      refine XS.icmpNo X8.here hx rfl (hb hby own_d13_34) rfl (feq hq).1 ?_
      refine XS.iloadN X8.here hx rfl (hb hby own_d13_37) rfl ?_
      refine XS.iload X8.here hx rfl (hb hby own_d13_38) rfl ?_
      exact k
    obtain ⟨_, _, ⟨T45, L45, k45, n45⟩, -, X45, ⟨Lc45, hQ45, l45, y45, z45⟩, st45⟩ := Jvm.LawKit.callS X8 hx (y := (⟨"java/lang/Integer", "compare", "(II)I"⟩ : MethodName)) hown (mvT hZ (oW hw 67 rfl)) (mvT hZ (oW hw 68 rfl)) (mvT hZ (oW hw 69 rfl)) (mvT hZ (oW hw 70 rfl)) (by decide) (backOf (W := 0) (rmICmp l Z a0 hw [] (own_cp c0 c1) (own_cp d0 d1)  h0 n0 Z0 ) hZ (oW hw 70 rfl) (oW hw 69 rfl) (by decide) (by decide)) (g := (mkF m 40 #[oR a1, oR a2, oI 0, oI (own_cp c0 c1), oI (own_cp d0 d1)] [(.int (own_cp d0 d1)), (.int (own_cp c0 c1))])) rfl (by rw [hml]; rfl) (argsL := [(.int (own_cp c0 c1)), (.int (own_cp d0 d1))]) (rest := []) (lenOf own_pd13 rfl) rfl (by show 2 * 0 + _ ≤ _; exact Nat.le_of_eq rfl) (hb hby own_d13_40) (fun _ _ => ⟨rfl, eq8, (by decide : 0 + 0 ≤ _), (by decide : 0 + 0 ≤ _)⟩)
    dsimp only [Pt.U, Pt.locs, Pt.cells, Pt.slots] at X45 l45 y45 z45 st45 hQ45
    subst l45 y45 z45
    obtain ⟨rfl, Nq45, eq45⟩ := hQ45
    have N45 := Fr.app N8 Nq45
    have R45 : ∀ t, oG p e below T45 m 43 #[oR a1, oR a2, oI 0, oI (own_cp c0 c1), oI (own_cp d0 d1)] [(.int (own_icmp (own_cp c0 c1) (own_cp d0 d1)))] t → Steps p.tables e below (s₁.setTop (entryFrame m #[(.ref a1), (.ref a2)] 5)) t := fun t k => R44 t (st45 t k)
    have hv : own_cmp22 c0 c1 d0 d1 = (own_icmp (own_cp c0 c1) (own_cp d0 d1)) := (if_neg hq)
    obtain ⟨fs, hr, hrun, hended, hW, hsame⟩ := X45.leave (v := some (.int (own_icmp (own_cp c0 c1) (own_cp d0 d1)))) (fun h => by rw [Bd.returns] at h; cases h)
    refine ⟨_, _, R45 _ ?_, hrun, hended, _, _, rfl, ?_, ⟨_, rfl⟩, hW, hsame.mono (by decide) (by decide)⟩
    · exact retOut X45 hx Bd.returns rfl (Or.inl ⟨rfl, Or.inl rfl, _, rfl⟩) (hb hby own_d13_43) hr
    · show Q_rmCm22 Z a1 a2 c0 c1 d0 d1 cz fm h0 n0 _ T45.heap _
      rw [eq45]
      exact ⟨by rw [hv], N45, rfl⟩
def own_cmp (n m c0 c1 d0 d1 : Int32) : Int32 := if n = (0 : Int32) then own_icmp n m else if m = (0 : Int32) then own_icmp n m else if n = (1 : Int32) then (if m = (1 : Int32) then own_cmp11 c0 c1 d0 d1 else own_cmp12 c0 c1 d0 d1) else (if m = (1 : Int32) then own_cmp21 c0 c1 d0 d1 else own_cmp22 c0 c1 d0 d1)
theorem own_cme00 (c0 c1 d0 d1 : Int32) : own_cmp (0 : Int32) (0 : Int32) c0 c1 d0 d1 = own_cmp00 c0 c1 d0 d1 := if_pos rfl
theorem own_cme01 (c0 c1 d0 d1 : Int32) : own_cmp (0 : Int32) (1 : Int32) c0 c1 d0 d1 = own_cmp01 c0 c1 d0 d1 := if_pos rfl
theorem own_cme02 (c0 c1 d0 d1 : Int32) : own_cmp (0 : Int32) (2 : Int32) c0 c1 d0 d1 = own_cmp02 c0 c1 d0 d1 := if_pos rfl
theorem own_cme10 (c0 c1 d0 d1 : Int32) : own_cmp (1 : Int32) (0 : Int32) c0 c1 d0 d1 = own_cmp10 c0 c1 d0 d1 := (if_neg (by decide)).trans (if_pos rfl)
theorem own_cme11 (c0 c1 d0 d1 : Int32) : own_cmp (1 : Int32) (1 : Int32) c0 c1 d0 d1 = own_cmp11 c0 c1 d0 d1 := (if_neg (by decide)).trans ((if_neg (by decide)).trans ((if_pos rfl).trans (if_pos rfl)))
theorem own_cme12 (c0 c1 d0 d1 : Int32) : own_cmp (1 : Int32) (2 : Int32) c0 c1 d0 d1 = own_cmp12 c0 c1 d0 d1 := (if_neg (by decide)).trans ((if_neg (by decide)).trans ((if_pos rfl).trans (if_neg (by decide))))
theorem own_cme20 (c0 c1 d0 d1 : Int32) : own_cmp (2 : Int32) (0 : Int32) c0 c1 d0 d1 = own_cmp20 c0 c1 d0 d1 := (if_neg (by decide)).trans (if_pos rfl)
theorem own_cme21 (c0 c1 d0 d1 : Int32) : own_cmp (2 : Int32) (1 : Int32) c0 c1 d0 d1 = own_cmp21 c0 c1 d0 d1 := (if_neg (by decide)).trans ((if_neg (by decide)).trans ((if_neg (by decide)).trans (if_pos rfl)))
theorem own_cme22 (c0 c1 d0 d1 : Int32) : own_cmp (2 : Int32) (2 : Int32) c0 c1 d0 d1 = own_cmp22 c0 c1 d0 d1 := (if_neg (by decide)).trans ((if_neg (by decide)).trans ((if_neg (by decide)).trans (if_neg (by decide))))
def Q_rmCmp (Z : State) (a1 a2 : Addr) (n m c0 c1 d0 d1 : Int32) (cz : Int32) (fm : Value) (h0 : Heap) (n0 : Nat) (v : Option Value) (h : Heap) (L : List Loc) : Prop := v = some (.int (own_cmp n m c0 c1 d0 d1)) ∧ Fr n0 L ∧ h = h0
set_option maxRecDepth 65536 in
set_option maxHeartbeats 40000000 in
theorem rmCmp (l : Launch) (Z : State) (a0 : Array Value) (hw : oT a0 Z) (ws : List Jvm.Cond) (a1 a2 : Addr) (n m c0 c1 d0 d1 : Int32) (cz : Int32) (fm : Value) (h0 : Heap) (n0 : Nat) (Z0 : n0 ≤ h0.size) (SU : own_St Z cz fm) (OX : Old Z n0 h0) (hn : n = (0 : Int32) ∨ n = (1 : Int32) ∨ n = (2 : Int32)) (hm : m = (0 : Int32) ∨ m = (1 : Int32) ∨ m = (2 : Int32)) (hs1 : own_Str Z h0 a1 n c0 c1) (hs2 : own_Str Z h0 a2 m d0 d1) (r0 : own_R c0) (r1 : own_R c1) (u0 : own_R d0) (u1 : own_R d1) :
    oK l Z (⟨"com/example/firm_store/firmstore/Identifiers", "compareCodePoints", "(Ljava/lang/String;Ljava/lang/String;)I"⟩ : MethodName) prog_6_method_10_code 5 (some .int) ws (oM 4 0 0 70) #[(.ref a1), (.ref a2)] h0 (Q_rmCmp Z a1 a2 n m c0 c1 d0 d1 cz fm h0 n0) := by
  rcases hn with rfl | rfl | rfl <;> rcases hm with rfl | rfl | rfl
  · unfold Q_rmCmp; rw [own_cme00]; exact rmCm00 l Z a0 hw ws a1 a2 c0 c1 d0 d1 cz fm h0 n0 Z0 SU OX hs1 hs2 r0 r1 u0 u1
  · unfold Q_rmCmp; rw [own_cme01]; exact rmCm01 l Z a0 hw ws a1 a2 c0 c1 d0 d1 cz fm h0 n0 Z0 SU OX hs1 hs2 r0 r1 u0 u1
  · unfold Q_rmCmp; rw [own_cme02]; exact rmCm02 l Z a0 hw ws a1 a2 c0 c1 d0 d1 cz fm h0 n0 Z0 SU OX hs1 hs2 r0 r1 u0 u1
  · unfold Q_rmCmp; rw [own_cme10]; exact rmCm10 l Z a0 hw ws a1 a2 c0 c1 d0 d1 cz fm h0 n0 Z0 SU OX hs1 hs2 r0 r1 u0 u1
  · unfold Q_rmCmp; rw [own_cme11]; exact rmCm11 l Z a0 hw ws a1 a2 c0 c1 d0 d1 cz fm h0 n0 Z0 SU OX hs1 hs2 r0 r1 u0 u1
  · unfold Q_rmCmp; rw [own_cme12]; exact rmCm12 l Z a0 hw ws a1 a2 c0 c1 d0 d1 cz fm h0 n0 Z0 SU OX hs1 hs2 r0 r1 u0 u1
  · unfold Q_rmCmp; rw [own_cme20]; exact rmCm20 l Z a0 hw ws a1 a2 c0 c1 d0 d1 cz fm h0 n0 Z0 SU OX hs1 hs2 r0 r1 u0 u1
  · unfold Q_rmCmp; rw [own_cme21]; exact rmCm21 l Z a0 hw ws a1 a2 c0 c1 d0 d1 cz fm h0 n0 Z0 SU OX hs1 hs2 r0 r1 u0 u1
  · unfold Q_rmCmp; rw [own_cme22]; exact rmCm22 l Z a0 hw ws a1 a2 c0 c1 d0 d1 cz fm h0 n0 Z0 SU OX hs1 hs2 r0 r1 u0 u1
-- PARTF
theorem own_Rc (z : Int32) : own_R z.toUInt32.toUInt16.toUInt32.toInt32 := by
  have k := c_i2c z
  have e0 : (0 : Int32).toInt = 0 := by decide
  have e1 : (65535 : Int32).toInt = 65535 := by decide
  constructor
  · rw [Int32.lt_iff_toInt_lt]; omega
  · rw [Int32.lt_iff_toInt_lt]; omega
theorem own_m3a {x y : Int32} (h : x = (y &&& (3 : Int32)) % (3 : Int32)) : x = (0 : Int32) ∨ x = (1 : Int32) ∨ x = (2 : Int32) := by
  have m := c_mask y (3 : Int32) 2 (by decide) (by decide)
  have q := (c_irem (y &&& (3 : Int32)) (3 : Int32) 3 (by decide)).1 (by omega)
  have e0 : (0 : Int32).toInt = 0 := by decide
  have e1 : (1 : Int32).toInt = 1 := by decide
  have e2 : (2 : Int32).toInt = 2 := by decide
  rw [← h] at q
  rw [← Int32.toInt_inj, ← Int32.toInt_inj, ← Int32.toInt_inj]; omega
theorem own_cz {args : Array Value} {s : State} {cz : Int32} (e : (Term.static "java/lang/String" "COMPACT_STRINGS" "Z").eval args s none [] s = some (.int cz)) (h : Jvm.Lit.compactW.before args s = true) : ¬ cz = (0 : Int32) := fun q => by
  subst q
  simp [Jvm.Lit.compactW, Cond.before, Cond.holds, Cond.value, e, Term.int_eval] at h
theorem own_sta1 {args : Array Value} {s : State} {C n d : String} {k : Int32} (hi : (Jvm.Cond.initializedFor C n d).before args s = true) (h : (Jvm.Cond.eq (Term.static C n d) (Term.int k)).before args s = true) : Sta s s.heap C n d (.int k) := by
  have h := Cond.before_iff.mp h
  obtain ⟨x, y, e1, e2, k1, k2⟩ := cmp_v (Or.inl h)
  rw [Term.int_eval] at e2
  cases e2
  obtain ⟨z, rfl⟩ := k2
  have e : z = k := by simpa [Cond.value, e1, Term.int_eval] using h
  subst e
  exact Sta.start e1 (Or.inl hi)

theorem own_ef_rm0 (m : MethodId) (x0 : Int32) (x1 : Int32) (x2 : Int32) : entryFrame m #[(.int x0), (.int x1), (.int x2)] maxLocals = mkF m 0 #[oI x0, oI x1, oI x2, .unset, .unset, .unset, .unset, .unset, .unset, .unset, .unset, .unset, .unset, .unset, .unset, .unset, .unset, .unset, .unset, .unset] [] := by first | (simp [entryFrame, mkF, argsToLocals, Value.category, maxLocals]; done) | rfl
theorem own_pd0 : parseMethodDescriptor "(ICC)Ljava/lang/String;" = some ⟨[.int, .char, .char], some (.object "java/lang/String")⟩ := by decide +kernel
theorem own_pd7 : parseMethodDescriptor "(ICC)I" = some ⟨[.int, .char, .char], some .int⟩ := by decide +kernel
theorem own_pd10 : parseMethodDescriptor "(Ljava/lang/String;Ljava/lang/String;)I" = some ⟨[(.object "java/lang/String"), (.object "java/lang/String")], some .int⟩ := by decide +kernel
def own_want (kl kr f0 g0 f1 g1 : Int32) : Int32 := (if (0 : Int32) < kl then (if (0 : Int32) < kr then (if f0 = g0 then (if (1 : Int32) < kl then (if (1 : Int32) < kr then (if f1 = g1 then (if kl < kr then (-1 : Int32) else (if kr < kl then (1 : Int32) else (0 : Int32))) else (if f1 < g1 then (-1 : Int32) else (1 : Int32))) else (if kl < kr then (-1 : Int32) else (if kr < kl then (1 : Int32) else (0 : Int32)))) else (if kl < kr then (-1 : Int32) else (if kr < kl then (1 : Int32) else (0 : Int32)))) else (if f0 < g0 then (-1 : Int32) else (1 : Int32))) else (if (1 : Int32) < kl then (if (1 : Int32) < kr then (if f1 = g1 then (if kl < kr then (-1 : Int32) else (if kr < kl then (1 : Int32) else (0 : Int32))) else (if f1 < g1 then (-1 : Int32) else (1 : Int32))) else (if kl < kr then (-1 : Int32) else (if kr < kl then (1 : Int32) else (0 : Int32)))) else (if kl < kr then (-1 : Int32) else (if kr < kl then (1 : Int32) else (0 : Int32))))) else (if (1 : Int32) < kl then (if (1 : Int32) < kr then (if f1 = g1 then (if kl < kr then (-1 : Int32) else (if kr < kl then (1 : Int32) else (0 : Int32))) else (if f1 < g1 then (-1 : Int32) else (1 : Int32))) else (if kl < kr then (-1 : Int32) else (if kr < kl then (1 : Int32) else (0 : Int32)))) else (if kl < kr then (-1 : Int32) else (if kr < kl then (1 : Int32) else (0 : Int32)))))
theorem own_hsl {c : Int32} : (own_hi c = (0 : Int32) ↔ own_hs c = (0 : Int32)) ∧ (own_lo c = (0 : Int32) ↔ own_ls c = (0 : Int32)) := by
  have e1 : (55296 : Int32).toInt = 55296 := by decide
  have e2 : (56319 : Int32).toInt = 56319 := by decide
  have e3 : (56320 : Int32).toInt = 56320 := by decide
  have e4 : (57343 : Int32).toInt = 57343 := by decide
  have e5 : (57344 : Int32).toInt = 57344 := by decide
  have n1 : ¬ (1 : Int32) = (0 : Int32) := by decide
  unfold own_hi own_hs own_lo own_ls
  simp only [Int32.lt_iff_toInt_lt, e1, e2, e3, e4, e5]
  constructor
  · (repeat' split) <;> first | exact ⟨fun _ => rfl, fun _ => rfl⟩ | exact ⟨fun q => absurd q n1, fun q => absurd q n1⟩ | (exfalso; omega)
  · (repeat' split) <;> first | exact ⟨fun _ => rfl, fun _ => rfl⟩ | exact ⟨fun q => absurd q n1, fun q => absurd q n1⟩ | (exfalso; omega)
theorem own_pr0 {c0 c1 : Int32} (h : own_pair c0 c1 = (0 : Int32)) : own_cp c0 c1 = c0 := by
  unfold own_pair at h
  unfold own_cp
  by_cases a : own_hs c0 = (0 : Int32)
  · exact if_pos a
  · rw [if_neg a]
    rw [if_neg (fun q => a (own_hsl.1.mp q))] at h
    by_cases b : own_ls c1 = (0 : Int32)
    · exact if_pos b
    · rw [if_neg (fun q => b (own_hsl.2.mp q))] at h
      exact absurd h (by decide)
theorem own_ad {x y : Int32} {a : Int} (h : x.toInt + y.toInt = a) (h1 : -2147483648 ≤ a) (h2 : a < 2147483648) : (x + y).toInt = a := by
  have q := c_iadd x y
  have r := rng32 (x + y)
  omega
theorem own_sb {x y : Int32} {a : Int} (h : x.toInt - y.toInt = a) (h1 : -2147483648 ≤ a) (h2 : a < 2147483648) : (x - y).toInt = a := by
  have q := c_isub x y
  have r := rng32 (x - y)
  omega
theorem own_sh {x : Int32} {a : Int} (h : x.toInt * 1024 = a) (h1 : -2147483648 ≤ a) (h2 : a < 2147483648) : (x <<< ((10 : Int32) &&& 31)).toInt = a := by
  have q := c_ishl x (10 : Int32) 10 (by decide)
  have r := rng32 (x <<< ((10 : Int32) &&& 31))
  omega
theorem own_pr1 {c0 c1 : Int32} (h : ¬ own_pair c0 c1 = (0 : Int32)) : own_cp c0 c1 = own_tcp c0 c1 ∧ own_tcp c0 c1 = ((((c0 - (55296 : Int32)) <<< ((10 : Int32) &&& 31)) + (c1 - (56320 : Int32))) + (65536 : Int32)) ∧ ¬ own_tcp c0 c1 < (65536 : Int32) := by
  unfold own_pair at h
  by_cases a : own_hs c0 = (0 : Int32)
  · rw [if_pos (own_hsl.1.mpr a)] at h; exact absurd rfl h
  · rw [if_neg (fun q => a (own_hsl.1.mp q))] at h
    by_cases b : own_ls c1 = (0 : Int32)
    · rw [if_pos (own_hsl.2.mpr b)] at h; exact absurd rfl h
    · have e1 : (55296 : Int32).toInt = 55296 := by decide
      have e3 : (56320 : Int32).toInt = 56320 := by decide
      have e5 : (57344 : Int32).toInt = 57344 := by decide
      have e6 : (65536 : Int32).toInt = 65536 := by decide
      have e7 : (-56613888 : Int32).toInt = -56613888 := by decide
      have ha : 55296 ≤ c0.toInt ∧ c0.toInt < 56320 := by
        unfold own_hs at a
        simp only [Int32.lt_iff_toInt_lt, e1, e3] at a
        split at a
        · exact absurd rfl a
        · split at a
          · omega
          · exact absurd rfl a
      have hb : 56320 ≤ c1.toInt ∧ c1.toInt < 57344 := by
        unfold own_ls at b
        simp only [Int32.lt_iff_toInt_lt, e3, e5] at b
        split at b
        · exact absurd rfl b
        · split at b
          · omega
          · exact absurd rfl b
      have s1 := own_sh (x := c0) rfl (by omega) (by omega)
      have a1 := own_ad (x := c0 <<< ((10 : Int32) &&& 31)) (y := c1) (by rw [s1]) (by omega) (by omega)
      have a2 := own_ad (x := (c0 <<< ((10 : Int32) &&& 31)) + c1) (y := (-56613888 : Int32)) (by rw [a1, e7]) (by omega) (by omega)
      have d0 := own_sb (x := c0) (y := (55296 : Int32)) (by rw [e1]) (by omega) (by omega)
      have d1 := own_sb (x := c1) (y := (56320 : Int32)) (by rw [e3]) (by omega) (by omega)
      have s2 := own_sh (x := c0 - (55296 : Int32)) (by rw [d0]) (by omega) (by omega)
      have a3 := own_ad (x := (c0 - (55296 : Int32)) <<< ((10 : Int32) &&& 31)) (y := c1 - (56320 : Int32)) (by rw [s2, d1]) (by omega) (by omega)
      have a4 := own_ad (x := ((c0 - (55296 : Int32)) <<< ((10 : Int32) &&& 31)) + (c1 - (56320 : Int32))) (y := (65536 : Int32)) (by rw [a3, e6]) (by omega) (by omega)
      refine ⟨(if_neg a).trans (if_neg b), ?_, ?_⟩
      · unfold own_tcp; rw [← Int32.toInt_inj, a2, a4]; omega
      · unfold own_tcp; rw [Int32.lt_iff_toInt_lt, a2, e6]; omega
theorem own_f2 (c0 c1 : Int32) : own_first (2 : Int32) c0 c1 = own_cp c0 c1 := by
  unfold own_first
  rw [if_neg (by decide), if_pos rfl]
  by_cases h : own_pair c0 c1 = (0 : Int32)
  · rw [if_pos h, own_pr0 h]
  · rw [if_neg h, (own_pr1 h).1, (own_pr1 h).2.1]
/-- what a String of the length n reads as: its count, its first and its second code point -/
def own_Rd (n c0 c1 k f g : Int32) : Prop := own_count n c0 c1 = k ∧ own_first n c0 c1 = f ∧ own_second n c0 c1 = g
theorem own_rd0 (c0 c1 : Int32) : own_Rd (0 : Int32) c0 c1 (0 : Int32) (-1 : Int32) (-1 : Int32) := ⟨if_pos rfl, if_pos rfl, if_neg (by decide)⟩
theorem own_rd1 (c0 c1 : Int32) : own_Rd (1 : Int32) c0 c1 (1 : Int32) c0 (-1 : Int32) := ⟨(if_neg (by decide)).trans (if_pos rfl), (if_neg (by decide)).trans (if_neg (by decide)), if_neg (by decide)⟩
theorem own_rd2 {c0 c1 : Int32} (r : own_R c0) : (own_Rd (2 : Int32) c0 c1 (2 : Int32) (own_cp c0 c1) c1 ∧ own_cp c0 c1 < (65536 : Int32)) ∨ (own_Rd (2 : Int32) c0 c1 (1 : Int32) (own_cp c0 c1) (-1 : Int32) ∧ ¬ own_cp c0 c1 < (65536 : Int32)) := by
  by_cases h : own_pair c0 c1 = (0 : Int32)
  · refine Or.inl ⟨⟨?_, own_f2 _ _, ?_⟩, by rw [own_pr0 h]; exact own_R6 r⟩
    · unfold own_count; rw [if_neg (by decide), if_neg (by decide), if_pos h]
    · unfold own_second; rw [if_pos rfl, if_pos h]
  · refine Or.inr ⟨⟨?_, own_f2 _ _, ?_⟩, by rw [(own_pr1 h).1]; exact (own_pr1 h).2.2⟩
    · unfold own_count; rw [if_neg (by decide), if_neg (by decide), if_neg h]
    · unfold own_second; rw [if_pos rfl, if_neg h]
set_option maxHeartbeats 40000000 in
theorem own_law {n m c0 c1 d0 d1 : Int32} (hn : n = (0 : Int32) ∨ n = (1 : Int32) ∨ n = (2 : Int32)) (hm : m = (0 : Int32) ∨ m = (1 : Int32) ∨ m = (2 : Int32)) (r0 : own_R c0) (r1 : own_R c1) (u0 : own_R d0) (u1 : own_R d1) :
    (if own_cmp n m c0 c1 d0 d1 < (0 : Int32) then (-1 : Int32) else (if (0 : Int32) < own_cmp n m c0 c1 d0 d1 then (1 : Int32) else (0 : Int32))) = own_want (own_count n c0 c1) (own_count m d0 d1) (own_first n c0 c1) (own_first m d0 d1) (own_second n c0 c1) (own_second m d0 d1) := by
  have R0 := own_R6 r0
  have U0 := own_R6 u0
  have l1 : ((-1 : Int32) < (0 : Int32)) = True := by decide
  have l2 : ((0 : Int32) < (0 : Int32)) = False := by decide
  have l3 : ((1 : Int32) < (0 : Int32)) = False := by decide
  have l4 : ((0 : Int32) < (-1 : Int32)) = False := by decide
  have l5 : ((0 : Int32) < (1 : Int32)) = True := by decide
  have l6 : ((0 : Int32) < (2 : Int32)) = True := by decide
  have l7 : ((1 : Int32) < (1 : Int32)) = False := by decide
  have l8 : ((1 : Int32) < (2 : Int32)) = True := by decide
  have l9 : ((2 : Int32) < (1 : Int32)) = False := by decide
  have l10 : ((2 : Int32) < (2 : Int32)) = False := by decide
  have l11 : ((2 : Int32) < (0 : Int32)) = False := by decide
  have m1 : ((1 : Int32) = (0 : Int32)) = False := by decide
  have m2 : ((0 : Int32) = (1 : Int32)) = False := by decide
  have m3 : ((1 : Int32) = (2 : Int32)) = False := by decide
  have m4 : ((2 : Int32) = (1 : Int32)) = False := by decide
  have m5 : ((2 : Int32) = (0 : Int32)) = False := by decide
  have m6 : ((0 : Int32) = (2 : Int32)) = False := by decide
  have key : ∀ {kl kr f0 g0 f1 g1 : Int32}, own_Rd n c0 c1 kl f0 f1 → own_Rd m d0 d1 kr g0 g1 → (if own_cmp n m c0 c1 d0 d1 < (0 : Int32) then (-1 : Int32) else (if (0 : Int32) < own_cmp n m c0 c1 d0 d1 then (1 : Int32) else (0 : Int32))) = own_want kl kr f0 g0 f1 g1 → (if own_cmp n m c0 c1 d0 d1 < (0 : Int32) then (-1 : Int32) else (if (0 : Int32) < own_cmp n m c0 c1 d0 d1 then (1 : Int32) else (0 : Int32))) = own_want (own_count n c0 c1) (own_count m d0 d1) (own_first n c0 c1) (own_first m d0 d1) (own_second n c0 c1) (own_second m d0 d1) := by
    intro kl kr f0 g0 f1 g1 A B q
    rw [A.1, A.2.1, A.2.2, B.1, B.2.1, B.2.2]; exact q
  have ic : ∀ x y : Int32, (if own_icmp x y < (0 : Int32) then (-1 : Int32) else (if (0 : Int32) < own_icmp x y then (1 : Int32) else (0 : Int32))) = own_icmp x y := by
    intro x y
    unfold own_icmp
    by_cases a : x < y
    · simp only [if_pos a, l1, if_true]
    · by_cases b : x = y
      · simp only [if_neg a, if_pos b, l2, if_false]
      · simp only [if_neg a, if_neg b, l3, l5, if_false, if_true]
  have ne : ∀ x y : Int32, ¬ x = y → own_icmp x y = if x < y then (-1 : Int32) else (1 : Int32) := by
    intro x y h
    unfold own_icmp
    rw [if_neg h]
  rcases hn with rfl | rfl | rfl
  · rcases hm with rfl | rfl | rfl
    · refine key (own_rd0 _ _) (own_rd0 _ _) ?_; rw [own_cme00]; unfold own_cmp00; decide
    · refine key (own_rd0 _ _) (own_rd1 _ _) ?_; rw [own_cme01]; unfold own_cmp01 own_icmp own_want; simp only [l1, l2, l3, l4, l5, l7, m2, if_true, if_false]
    · rcases own_rd2 (c1 := d1) u0 with ⟨B, hB⟩ | ⟨B, hB⟩
      · refine key (own_rd0 _ _) B ?_; rw [own_cme02]; unfold own_cmp02 own_icmp own_want; simp only [l1, l2, l3, l4, l5, l6, l8, m6, if_true, if_false]
      · refine key (own_rd0 _ _) B ?_; rw [own_cme02]; unfold own_cmp02 own_icmp own_want; simp only [l1, l2, l3, l4, l5, l6, l7, m6, if_true, if_false]
  · rcases hm with rfl | rfl | rfl
    · refine key (own_rd1 _ _) (own_rd0 _ _) ?_; rw [own_cme10]; unfold own_cmp10 own_icmp own_want; simp only [l1, l2, l3, l4, l5, l7, m1, if_true, if_false]
    · refine key (own_rd1 _ _) (own_rd1 _ _) ?_; rw [own_cme11]; unfold own_cmp11
      by_cases h : c0 = d0
      · rw [if_pos h, ic]; unfold own_icmp own_want; simp only [l5, l7, if_pos h, if_true, if_false]
      · rw [if_neg h, ic, ne _ _ h]; unfold own_want; simp only [l5, if_neg h, if_true, if_false]
    · rcases own_rd2 (c1 := d1) u0 with ⟨B, hB⟩ | ⟨B, hB⟩
      · refine key (own_rd1 _ _) B ?_; rw [own_cme12]; unfold own_cmp12
        by_cases h : c0 = own_cp d0 d1
        · rw [if_pos h, ic]; unfold own_icmp own_want; simp only [l5, l6, l7, l8, if_pos h, if_true, if_false]
        · rw [if_neg h, ic, ne _ _ h]; unfold own_want; simp only [l5, l6, if_neg h, if_true, if_false]
      · refine key (own_rd1 _ _) B ?_; rw [own_cme12]; unfold own_cmp12
        have h : ¬ c0 = own_cp d0 d1 := fun q => hB (q ▸ R0)
        rw [if_neg h, ic, ne _ _ h]; unfold own_want; simp only [l5, if_neg h, if_true, if_false]
  · rcases own_rd2 (c1 := c1) r0 with ⟨A, hA⟩ | ⟨A, hA⟩
    · rcases hm with rfl | rfl | rfl
      · refine key A (own_rd0 _ _) ?_; rw [own_cme20]; unfold own_cmp20 own_icmp own_want; simp only [l1, l2, l3, l4, l5, l6, l8, l9, l11, m5, if_true, if_false]
      · refine key A (own_rd1 _ _) ?_; rw [own_cme21]; unfold own_cmp21
        by_cases h : own_cp c0 c1 = d0
        · rw [if_pos h, ic]; unfold own_icmp own_want; simp only [l5, l6, l7, l8, l9, m4, if_pos h, if_true, if_false]
        · rw [if_neg h, ic, ne _ _ h]; unfold own_want; simp only [l5, l6, if_neg h, if_true, if_false]
      · rcases own_rd2 (c1 := d1) u0 with ⟨B, hB⟩ | ⟨B, hB⟩
        · refine key A B ?_; rw [own_cme22]; unfold own_cmp22
          by_cases h : own_cp c0 c1 = own_cp d0 d1
          · rw [if_pos h, if_pos hA]
            by_cases g : c1 = d1
            · rw [if_pos g, ic]; unfold own_icmp own_want; simp only [l6, l8, l10, if_pos h, if_pos g, if_true, if_false]
            · rw [if_neg g, ic, ne _ _ g]; unfold own_want; simp only [l6, l8, if_pos h, if_neg g, if_true, if_false]
          · rw [if_neg h, ic, ne _ _ h]; unfold own_want; simp only [l6, if_neg h, if_true, if_false]
        · refine key A B ?_; rw [own_cme22]; unfold own_cmp22
          have h : ¬ own_cp c0 c1 = own_cp d0 d1 := fun q => hB (q ▸ hA)
          rw [if_neg h, ic, ne _ _ h]; unfold own_want; simp only [l5, l6, if_neg h, if_true, if_false]
    · rcases hm with rfl | rfl | rfl
      · refine key A (own_rd0 _ _) ?_; rw [own_cme20]; unfold own_cmp20 own_icmp own_want; simp only [l1, l2, l3, l4, l5, l6, l7, l8, l9, l11, m5, if_true, if_false]
      · refine key A (own_rd1 _ _) ?_; rw [own_cme21]; unfold own_cmp21
        have h : ¬ own_cp c0 c1 = d0 := fun q => hA (q ▸ U0)
        rw [if_neg h, ic, ne _ _ h]; unfold own_want; simp only [l5, if_neg h, if_true, if_false]
      · rcases own_rd2 (c1 := d1) u0 with ⟨B, hB⟩ | ⟨B, hB⟩
        · refine key A B ?_; rw [own_cme22]; unfold own_cmp22
          have h : ¬ own_cp c0 c1 = own_cp d0 d1 := fun q => hA (q ▸ hB)
          rw [if_neg h, ic, ne _ _ h]; unfold own_want; simp only [l5, l6, if_neg h, if_true, if_false]
        · refine key A B ?_; rw [own_cme22]; unfold own_cmp22
          by_cases h : own_cp c0 c1 = own_cp d0 d1
          · rw [if_pos h, if_neg hA, ic]; unfold own_icmp own_want; simp only [l5, l7, l10, if_pos h, if_true, if_false]
          · rw [if_neg h, ic, ne _ _ h]; unfold own_want; simp only [l5, if_neg h, if_true, if_false]

def Q_rm0 (Z : State) (p1 p2 p3 : Int32) (cz : Int32) (fm : Value) (h0 : Heap) (n0 : Nat) (v : Option Value) (h : Heap) (L : List Loc) : Prop := v = some (.int 1) ∧ Fr n0 L
set_option maxRecDepth 65536 in
set_option maxHeartbeats 40000000 in
theorem rm0 (l : Launch) (Z : State) (a0 : Array Value) (hw : oT a0 Z) (ws : List Jvm.Cond) (p1 p2 p3 : Int32) (cz : Int32) (fm : Value) (h0 : Heap) (n0 : Nat) (Z0 : n0 ≤ h0.size) (SU : own_St Z cz fm) (OX : Old Z n0 h0) (hheld : ∀ p ∈ own_EL, Jvm.Lit.constHeld Z p.1 p.2) (hcw : Jvm.Lit.compactW.before a0 Z = true) :
    MetFree l x (head1 (Jvm.Cond.code x code maxLocals ret :: ws) room_1) (fun a U => a = #[(.int p1), (.int p2), (.int p3)] ∧ U = Z ∧ U.heap = h0) (fun _ _ _ _ _ => True) (fun _ U o U' => ∃ v L, o = .returned v ∧ Q_rm0 Z p1 p2 p3 cz fm h0 n0 v U'.heap L ∧ ReturnedEndW U o U' L room_1.cells room_1.slots) := by
  refine MetFree.of_bodySF (plainFor_of_name own_pn0) hisR ?_
  intro p e s m args below meth c s₁ Bd hml0 hP hK
  obtain ⟨rfl, rfl, hh⟩ := hP
  have hZ : s.Warmed39 s.vm := State.Warmed39.refl s
  have hx := Bd.exec
  have hby := Bd.bytes
  have hml : c.maxLocals = 20 := hml0
  have hown : s.vm.findClass "com/example/firm_store/firmstore/IdentifiersCompareCodePointsPinLaw" = some m.cls := findClass_of_methodNamed Bd.named
  have hnm := (name_of_methodNamed Bd.named Bd.method).1
  have X0 : Stand p l e room_1 s m #[(.int p1), (.int p2), (.int p3)] below meth c s₁ [] 0 0 := Stand.of_body Bd
  have e0 : s₁.heap = h0 := by rw [← hh, Bd.state]; rfl
  have N0 := Fr.nil n0
  have R0 : ∀ t, oG p e below s₁ m 0 #[oI p1, oI p2, oI p3, .unset, .unset, .unset, .unset, .unset, .unset, .unset, .unset, .unset, .unset, .unset, .unset, .unset, .unset, .unset, .unset, .unset] [] t → Steps p.tables e below (s₁.setTop (entryFrame m #[(.int p1), (.int p2), (.int p3)] maxLocals)) t := fun t k => castTop (own_ef_rm0 m p1 p2 p3) k
  have hEL := own_ew hw
  have hCH : CHv s own_EL s.vm h0 := hh ▸ CHv.start hEL hheld hcw (oW hw 23 rfl) (oW hw 5 rfl)
  have R1 : ∀ t, oG p e below s₁ m 37 #[oI p1, oI p2, oI p3, oI ((p3 &&& (3 : Int32)) % (3 : Int32)), oI ((((p3.toUInt32 >>> ((2 : Int32) &&& 31).toUInt32).toInt32) &&& (3 : Int32)) % (3 : Int32)), oI (p1.toUInt32.toUInt16.toUInt32.toInt32), oI (((p1.toUInt32 >>> ((16 : Int32) &&& 31).toUInt32).toInt32).toUInt32.toUInt16.toUInt32.toInt32), oI (p2.toUInt32.toUInt16.toUInt32.toInt32), oI (((p2.toUInt32 >>> ((16 : Int32) &&& 31).toUInt32).toInt32).toUInt32.toUInt16.toUInt32.toInt32), .unset, .unset, .unset, .unset, .unset, .unset, .unset, .unset, .unset, .unset, .unset] [] t → Steps p.tables e below (s₁.setTop (entryFrame m #[(.int p1), (.int p2), (.int p3)] maxLocals)) t := by
    intro t k
    refine R0 t ?_
    refine XS.iloadN X0.here hx rfl (hb hby at_0) rfl ?_
    refine XS.iconst X0.here hx rfl (hb hby at_1) ?_
    refine XS.iand X0.here hx rfl (hb hby at_2) rfl ?_
    show oG p e below s₁ m 3 #[oI p1, oI p2, oI p3, .unset, .unset, .unset, .unset, .unset, .unset, .unset, .unset, .unset, .unset, .unset, .unset, .unset, .unset, .unset, .unset, .unset] [(.int (p3 &&& (3 : Int32)))] _
    refine XS.iconst X0.here hx rfl (hb hby at_3) ?_
    refine iremM X0 hx rfl (hb hby at_4) rfl (by decide) ?_
    refine XS.istoreN X0.here hx rfl (hb hby at_5) rfl (l' := #[oI p1, oI p2, oI p3, oI ((p3 &&& (3 : Int32)) % (3 : Int32)), .unset, .unset, .unset, .unset, .unset, .unset, .unset, .unset, .unset, .unset, .unset, .unset, .unset, .unset, .unset, .unset]) rfl ?_
    refine XS.iloadN X0.here hx rfl (hb hby at_6) rfl ?_
    show oG p e below s₁ m 7 #[oI p1, oI p2, oI p3, oI ((p3 &&& (3 : Int32)) % (3 : Int32)), .unset, .unset, .unset, .unset, .unset, .unset, .unset, .unset, .unset, .unset, .unset, .unset, .unset, .unset, .unset, .unset] [(.int p3)] _
    refine XS.iconst X0.here hx rfl (hb hby at_7) ?_
    refine XS.iushr X0.here hx rfl (hb hby at_8) rfl ?_
    refine XS.iconst X0.here hx rfl (hb hby at_9) ?_
    refine XS.iand X0.here hx rfl (hb hby at_10) rfl ?_
    show oG p e below s₁ m 11 #[oI p1, oI p2, oI p3, oI ((p3 &&& (3 : Int32)) % (3 : Int32)), .unset, .unset, .unset, .unset, .unset, .unset, .unset, .unset, .unset, .unset, .unset, .unset, .unset, .unset, .unset, .unset] [(.int (((p3.toUInt32 >>> ((2 : Int32) &&& 31).toUInt32).toInt32) &&& (3 : Int32)))] _
    refine XS.iconst X0.here hx rfl (hb hby at_11) ?_
    refine iremM X0 hx rfl (hb hby at_12) rfl (by decide) ?_
    refine XS.istore X0.here hx rfl (hb hby at_13) rfl (l' := #[oI p1, oI p2, oI p3, oI ((p3 &&& (3 : Int32)) % (3 : Int32)), oI ((((p3.toUInt32 >>> ((2 : Int32) &&& 31).toUInt32).toInt32) &&& (3 : Int32)) % (3 : Int32)), .unset, .unset, .unset, .unset, .unset, .unset, .unset, .unset, .unset, .unset, .unset, .unset, .unset, .unset, .unset]) rfl ?_
    refine XS.iloadN X0.here hx rfl (hb hby at_15) rfl ?_
    show oG p e below s₁ m 16 #[oI p1, oI p2, oI p3, oI ((p3 &&& (3 : Int32)) % (3 : Int32)), oI ((((p3.toUInt32 >>> ((2 : Int32) &&& 31).toUInt32).toInt32) &&& (3 : Int32)) % (3 : Int32)), .unset, .unset, .unset, .unset, .unset, .unset, .unset, .unset, .unset, .unset, .unset, .unset, .unset, .unset, .unset] [(.int p1)] _
    refine XS.i2c X0.here hx rfl (hb hby at_16) rfl ?_
    refine XS.istore X0.here hx rfl (hb hby at_17) rfl (l' := #[oI p1, oI p2, oI p3, oI ((p3 &&& (3 : Int32)) % (3 : Int32)), oI ((((p3.toUInt32 >>> ((2 : Int32) &&& 31).toUInt32).toInt32) &&& (3 : Int32)) % (3 : Int32)), oI (p1.toUInt32.toUInt16.toUInt32.toInt32), .unset, .unset, .unset, .unset, .unset, .unset, .unset, .unset, .unset, .unset, .unset, .unset, .unset, .unset]) rfl ?_
    refine XS.iloadN X0.here hx rfl (hb hby at_19) rfl ?_
    refine XS.bipush X0.here hx rfl (hb hby at_20) ?_
    show oG p e below s₁ m 22 #[oI p1, oI p2, oI p3, oI ((p3 &&& (3 : Int32)) % (3 : Int32)), oI ((((p3.toUInt32 >>> ((2 : Int32) &&& 31).toUInt32).toInt32) &&& (3 : Int32)) % (3 : Int32)), oI (p1.toUInt32.toUInt16.toUInt32.toInt32), .unset, .unset, .unset, .unset, .unset, .unset, .unset, .unset, .unset, .unset, .unset, .unset, .unset, .unset] [(.int 16), (.int p1)] _
    refine XS.iushr X0.here hx rfl (hb hby at_22) rfl ?_
    refine XS.i2c X0.here hx rfl (hb hby at_23) rfl ?_
    refine XS.istore X0.here hx rfl (hb hby at_24) rfl (l' := #[oI p1, oI p2, oI p3, oI ((p3 &&& (3 : Int32)) % (3 : Int32)), oI ((((p3.toUInt32 >>> ((2 : Int32) &&& 31).toUInt32).toInt32) &&& (3 : Int32)) % (3 : Int32)), oI (p1.toUInt32.toUInt16.toUInt32.toInt32), oI (((p1.toUInt32 >>> ((16 : Int32) &&& 31).toUInt32).toInt32).toUInt32.toUInt16.toUInt32.toInt32), .unset, .unset, .unset, .unset, .unset, .unset, .unset, .unset, .unset, .unset, .unset, .unset, .unset]) rfl ?_
    refine XS.iloadN X0.here hx rfl (hb hby at_26) rfl ?_
    show oG p e below s₁ m 27 #[oI p1, oI p2, oI p3, oI ((p3 &&& (3 : Int32)) % (3 : Int32)), oI ((((p3.toUInt32 >>> ((2 : Int32) &&& 31).toUInt32).toInt32) &&& (3 : Int32)) % (3 : Int32)), oI (p1.toUInt32.toUInt16.toUInt32.toInt32), oI (((p1.toUInt32 >>> ((16 : Int32) &&& 31).toUInt32).toInt32).toUInt32.toUInt16.toUInt32.toInt32), .unset, .unset, .unset, .unset, .unset, .unset, .unset, .unset, .unset, .unset, .unset, .unset, .unset] [(.int p2)] _
    refine XS.i2c X0.here hx rfl (hb hby at_27) rfl ?_
    refine XS.istore X0.here hx rfl (hb hby at_28) rfl (l' := #[oI p1, oI p2, oI p3, oI ((p3 &&& (3 : Int32)) % (3 : Int32)), oI ((((p3.toUInt32 >>> ((2 : Int32) &&& 31).toUInt32).toInt32) &&& (3 : Int32)) % (3 : Int32)), oI (p1.toUInt32.toUInt16.toUInt32.toInt32), oI (((p1.toUInt32 >>> ((16 : Int32) &&& 31).toUInt32).toInt32).toUInt32.toUInt16.toUInt32.toInt32), oI (p2.toUInt32.toUInt16.toUInt32.toInt32), .unset, .unset, .unset, .unset, .unset, .unset, .unset, .unset, .unset, .unset, .unset, .unset]) rfl ?_
    refine XS.iloadN X0.here hx rfl (hb hby at_30) rfl ?_
    refine XS.bipush X0.here hx rfl (hb hby at_31) ?_
    show oG p e below s₁ m 33 #[oI p1, oI p2, oI p3, oI ((p3 &&& (3 : Int32)) % (3 : Int32)), oI ((((p3.toUInt32 >>> ((2 : Int32) &&& 31).toUInt32).toInt32) &&& (3 : Int32)) % (3 : Int32)), oI (p1.toUInt32.toUInt16.toUInt32.toInt32), oI (((p1.toUInt32 >>> ((16 : Int32) &&& 31).toUInt32).toInt32).toUInt32.toUInt16.toUInt32.toInt32), oI (p2.toUInt32.toUInt16.toUInt32.toInt32), .unset, .unset, .unset, .unset, .unset, .unset, .unset, .unset, .unset, .unset, .unset, .unset] [(.int 16), (.int p2)] _
    refine XS.iushr X0.here hx rfl (hb hby at_33) rfl ?_
    refine XS.i2c X0.here hx rfl (hb hby at_34) rfl ?_
    refine XS.istore X0.here hx rfl (hb hby at_35) rfl (l' := #[oI p1, oI p2, oI p3, oI ((p3 &&& (3 : Int32)) % (3 : Int32)), oI ((((p3.toUInt32 >>> ((2 : Int32) &&& 31).toUInt32).toInt32) &&& (3 : Int32)) % (3 : Int32)), oI (p1.toUInt32.toUInt16.toUInt32.toInt32), oI (((p1.toUInt32 >>> ((16 : Int32) &&& 31).toUInt32).toInt32).toUInt32.toUInt16.toUInt32.toInt32), oI (p2.toUInt32.toUInt16.toUInt32.toInt32), oI (((p2.toUInt32 >>> ((16 : Int32) &&& 31).toUInt32).toInt32).toUInt32.toUInt16.toUInt32.toInt32), .unset, .unset, .unset, .unset, .unset, .unset, .unset, .unset, .unset, .unset, .unset]) rfl ?_
    exact k
  obtain ⟨ll, hll⟩ : ∃ z : Int32, z = ((p3 &&& (3 : Int32)) % (3 : Int32)) := ⟨_, rfl⟩
  have R2 : ∀ t, oG p e below s₁ m 37 #[oI p1, oI p2, oI p3, oI ll, oI ((((p3.toUInt32 >>> ((2 : Int32) &&& 31).toUInt32).toInt32) &&& (3 : Int32)) % (3 : Int32)), oI (p1.toUInt32.toUInt16.toUInt32.toInt32), oI (((p1.toUInt32 >>> ((16 : Int32) &&& 31).toUInt32).toInt32).toUInt32.toUInt16.toUInt32.toInt32), oI (p2.toUInt32.toUInt16.toUInt32.toInt32), oI (((p2.toUInt32 >>> ((16 : Int32) &&& 31).toUInt32).toInt32).toUInt32.toUInt16.toUInt32.toInt32), .unset, .unset, .unset, .unset, .unset, .unset, .unset, .unset, .unset, .unset, .unset] [] t → Steps p.tables e below (s₁.setTop (entryFrame m #[(.int p1), (.int p2), (.int p3)] maxLocals)) t := by rw [hll]; exact R1
  obtain ⟨rl, hrl⟩ : ∃ z : Int32, z = ((((p3.toUInt32 >>> ((2 : Int32) &&& 31).toUInt32).toInt32) &&& (3 : Int32)) % (3 : Int32)) := ⟨_, rfl⟩
  have R3 : ∀ t, oG p e below s₁ m 37 #[oI p1, oI p2, oI p3, oI ll, oI rl, oI (p1.toUInt32.toUInt16.toUInt32.toInt32), oI (((p1.toUInt32 >>> ((16 : Int32) &&& 31).toUInt32).toInt32).toUInt32.toUInt16.toUInt32.toInt32), oI (p2.toUInt32.toUInt16.toUInt32.toInt32), oI (((p2.toUInt32 >>> ((16 : Int32) &&& 31).toUInt32).toInt32).toUInt32.toUInt16.toUInt32.toInt32), .unset, .unset, .unset, .unset, .unset, .unset, .unset, .unset, .unset, .unset, .unset] [] t → Steps p.tables e below (s₁.setTop (entryFrame m #[(.int p1), (.int p2), (.int p3)] maxLocals)) t := by rw [hrl]; exact R2
  obtain ⟨x0, hx0⟩ : ∃ z : Int32, z = (p1.toUInt32.toUInt16.toUInt32.toInt32) := ⟨_, rfl⟩
  have R4 : ∀ t, oG p e below s₁ m 37 #[oI p1, oI p2, oI p3, oI ll, oI rl, oI x0, oI (((p1.toUInt32 >>> ((16 : Int32) &&& 31).toUInt32).toInt32).toUInt32.toUInt16.toUInt32.toInt32), oI (p2.toUInt32.toUInt16.toUInt32.toInt32), oI (((p2.toUInt32 >>> ((16 : Int32) &&& 31).toUInt32).toInt32).toUInt32.toUInt16.toUInt32.toInt32), .unset, .unset, .unset, .unset, .unset, .unset, .unset, .unset, .unset, .unset, .unset] [] t → Steps p.tables e below (s₁.setTop (entryFrame m #[(.int p1), (.int p2), (.int p3)] maxLocals)) t := by rw [hx0]; exact R3
  obtain ⟨x1, hx1⟩ : ∃ z : Int32, z = (((p1.toUInt32 >>> ((16 : Int32) &&& 31).toUInt32).toInt32).toUInt32.toUInt16.toUInt32.toInt32) := ⟨_, rfl⟩
  have R5 : ∀ t, oG p e below s₁ m 37 #[oI p1, oI p2, oI p3, oI ll, oI rl, oI x0, oI x1, oI (p2.toUInt32.toUInt16.toUInt32.toInt32), oI (((p2.toUInt32 >>> ((16 : Int32) &&& 31).toUInt32).toInt32).toUInt32.toUInt16.toUInt32.toInt32), .unset, .unset, .unset, .unset, .unset, .unset, .unset, .unset, .unset, .unset, .unset] [] t → Steps p.tables e below (s₁.setTop (entryFrame m #[(.int p1), (.int p2), (.int p3)] maxLocals)) t := by rw [hx1]; exact R4
  obtain ⟨v0, hv0⟩ : ∃ z : Int32, z = (p2.toUInt32.toUInt16.toUInt32.toInt32) := ⟨_, rfl⟩
  have R6 : ∀ t, oG p e below s₁ m 37 #[oI p1, oI p2, oI p3, oI ll, oI rl, oI x0, oI x1, oI v0, oI (((p2.toUInt32 >>> ((16 : Int32) &&& 31).toUInt32).toInt32).toUInt32.toUInt16.toUInt32.toInt32), .unset, .unset, .unset, .unset, .unset, .unset, .unset, .unset, .unset, .unset, .unset] [] t → Steps p.tables e below (s₁.setTop (entryFrame m #[(.int p1), (.int p2), (.int p3)] maxLocals)) t := by rw [hv0]; exact R5
  obtain ⟨v1, hv1⟩ : ∃ z : Int32, z = (((p2.toUInt32 >>> ((16 : Int32) &&& 31).toUInt32).toInt32).toUInt32.toUInt16.toUInt32.toInt32) := ⟨_, rfl⟩
  have R7 : ∀ t, oG p e below s₁ m 37 #[oI p1, oI p2, oI p3, oI ll, oI rl, oI x0, oI x1, oI v0, oI v1, .unset, .unset, .unset, .unset, .unset, .unset, .unset, .unset, .unset, .unset, .unset] [] t → Steps p.tables e below (s₁.setTop (entryFrame m #[(.int p1), (.int p2), (.int p3)] maxLocals)) t := by rw [hv1]; exact R6
  have hn := own_m3a hll
  have hm := own_m3a hrl
  obtain ⟨y0, hy0, R8⟩ : ∃ (y0 : Int32), y0 = (if (((p3.toUInt32 >>> ((6 : Int32) &&& 31).toUInt32).toInt32) &&& (1 : Int32)) = (0 : Int32) then x0 else (((55296 : Int32) ||| (x0 &&& (1023 : Int32))).toUInt32.toUInt16.toUInt32.toInt32)) ∧ (∀ t, oG p e below s₁ m 58 #[oI p1, oI p2, oI p3, oI ll, oI rl, oI y0, oI x1, oI v0, oI v1, .unset, .unset, .unset, .unset, .unset, .unset, .unset, .unset, .unset, .unset, .unset] [] t → Steps p.tables e below (s₁.setTop (entryFrame m #[(.int p1), (.int p2), (.int p3)] maxLocals)) t) := by
    by_cases hc43_0 : (((p3.toUInt32 >>> ((6 : Int32) &&& 31).toUInt32).toInt32) &&& (1 : Int32)) = (0 : Int32)
    · refine ⟨x0, (by simp only [if_pos hc43_0]), ?_⟩
      intro t k
      refine R7 t ?_
      refine XS.iloadN X0.here hx rfl (hb hby at_37) rfl ?_
      refine XS.bipush X0.here hx rfl (hb hby at_38) ?_
      refine XS.iushr X0.here hx rfl (hb hby at_40) rfl ?_
      show oG p e below s₁ m 41 #[oI p1, oI p2, oI p3, oI ll, oI rl, oI x0, oI x1, oI v0, oI v1, .unset, .unset, .unset, .unset, .unset, .unset, .unset, .unset, .unset, .unset, .unset] [(.int ((p3.toUInt32 >>> ((6 : Int32) &&& 31).toUInt32).toInt32))] _
      refine XS.iconst X0.here hx rfl (hb hby at_41) ?_
      refine XS.iand X0.here hx rfl (hb hby at_42) rfl ?_
      refine XS.ifYes X0.here hx rfl (pc0 := 43) (pc' := 58) rfl (hb hby at_43) rfl ((if0 _ _).trans (teq hc43_0).1) (by decide) (by decide) ?_
      exact k
    · refine ⟨(((55296 : Int32) ||| (x0 &&& (1023 : Int32))).toUInt32.toUInt16.toUInt32.toInt32), (by simp only [if_neg hc43_0]), ?_⟩
      intro t k
      refine R7 t ?_
      refine XS.iloadN X0.here hx rfl (hb hby at_37) rfl ?_
      refine XS.bipush X0.here hx rfl (hb hby at_38) ?_
      refine XS.iushr X0.here hx rfl (hb hby at_40) rfl ?_
      show oG p e below s₁ m 41 #[oI p1, oI p2, oI p3, oI ll, oI rl, oI x0, oI x1, oI v0, oI v1, .unset, .unset, .unset, .unset, .unset, .unset, .unset, .unset, .unset, .unset, .unset] [(.int ((p3.toUInt32 >>> ((6 : Int32) &&& 31).toUInt32).toInt32))] _
      refine XS.iconst X0.here hx rfl (hb hby at_41) ?_
      refine XS.iand X0.here hx rfl (hb hby at_42) rfl ?_
      refine XS.ifNo X0.here hx rfl (hb hby at_43) rfl ((if0 _ _).trans (feq hc43_0).1) ?_
      refine X0.ldcInt hx hown (mvT hZ (oW hw 46 rfl)) (g := (mkF m 46 #[oI p1, oI p2, oI p3, oI ll, oI rl, oI x0, oI x1, oI v0, oI v1, .unset, .unset, .unset, .unset, .unset, .unset, .unset, .unset, .unset, .unset, .unset] [])) rfl (hb hby at_46) _ ?_
      show oG p e below s₁ m 48 #[oI p1, oI p2, oI p3, oI ll, oI rl, oI x0, oI x1, oI v0, oI v1, .unset, .unset, .unset, .unset, .unset, .unset, .unset, .unset, .unset, .unset, .unset] [(.int 55296)] _
      refine XS.iload X0.here hx rfl (hb hby at_48) rfl ?_
      refine XS.sipush X0.here hx rfl (hb hby at_50) ?_
      refine XS.iand X0.here hx rfl (hb hby at_53) rfl ?_
      refine XS.ior X0.here hx rfl (hb hby at_54) rfl ?_
      show oG p e below s₁ m 55 #[oI p1, oI p2, oI p3, oI ll, oI rl, oI x0, oI x1, oI v0, oI v1, .unset, .unset, .unset, .unset, .unset, .unset, .unset, .unset, .unset, .unset, .unset] [(.int ((55296 : Int32) ||| (x0 &&& (1023 : Int32))))] _
      refine XS.i2c X0.here hx rfl (hb hby at_55) rfl ?_
      refine XS.istore X0.here hx rfl (hb hby at_56) rfl (l' := #[oI p1, oI p2, oI p3, oI ll, oI rl, oI (((55296 : Int32) ||| (x0 &&& (1023 : Int32))).toUInt32.toUInt16.toUInt32.toInt32), oI x1, oI v0, oI v1, .unset, .unset, .unset, .unset, .unset, .unset, .unset, .unset, .unset, .unset, .unset]) rfl ?_
      exact k
  have ry0 : own_R y0 := by rw [hy0, hx0]; split <;> exact own_Rc _
  obtain ⟨y1, hy1, R9⟩ : ∃ (y1 : Int32), y1 = (if (((p3.toUInt32 >>> ((7 : Int32) &&& 31).toUInt32).toInt32) &&& (1 : Int32)) = (0 : Int32) then x1 else (((56320 : Int32) ||| (x1 &&& (1023 : Int32))).toUInt32.toUInt16.toUInt32.toInt32)) ∧ (∀ t, oG p e below s₁ m 79 #[oI p1, oI p2, oI p3, oI ll, oI rl, oI y0, oI y1, oI v0, oI v1, .unset, .unset, .unset, .unset, .unset, .unset, .unset, .unset, .unset, .unset, .unset] [] t → Steps p.tables e below (s₁.setTop (entryFrame m #[(.int p1), (.int p2), (.int p3)] maxLocals)) t) := by
    by_cases hc64_0 : (((p3.toUInt32 >>> ((7 : Int32) &&& 31).toUInt32).toInt32) &&& (1 : Int32)) = (0 : Int32)
    · refine ⟨x1, (by simp only [if_pos hc64_0]), ?_⟩
      intro t k
      refine R8 t ?_
      refine XS.iloadN X0.here hx rfl (hb hby at_58) rfl ?_
      refine XS.bipush X0.here hx rfl (hb hby at_59) ?_
      refine XS.iushr X0.here hx rfl (hb hby at_61) rfl ?_
      show oG p e below s₁ m 62 #[oI p1, oI p2, oI p3, oI ll, oI rl, oI y0, oI x1, oI v0, oI v1, .unset, .unset, .unset, .unset, .unset, .unset, .unset, .unset, .unset, .unset, .unset] [(.int ((p3.toUInt32 >>> ((7 : Int32) &&& 31).toUInt32).toInt32))] _
      refine XS.iconst X0.here hx rfl (hb hby at_62) ?_
      refine XS.iand X0.here hx rfl (hb hby at_63) rfl ?_
      refine XS.ifYes X0.here hx rfl (pc0 := 64) (pc' := 79) rfl (hb hby at_64) rfl ((if0 _ _).trans (teq hc64_0).1) (by decide) (by decide) ?_
      exact k
    · refine ⟨(((56320 : Int32) ||| (x1 &&& (1023 : Int32))).toUInt32.toUInt16.toUInt32.toInt32), (by simp only [if_neg hc64_0]), ?_⟩
      intro t k
      refine R8 t ?_
      refine XS.iloadN X0.here hx rfl (hb hby at_58) rfl ?_
      refine XS.bipush X0.here hx rfl (hb hby at_59) ?_
      refine XS.iushr X0.here hx rfl (hb hby at_61) rfl ?_
      show oG p e below s₁ m 62 #[oI p1, oI p2, oI p3, oI ll, oI rl, oI y0, oI x1, oI v0, oI v1, .unset, .unset, .unset, .unset, .unset, .unset, .unset, .unset, .unset, .unset, .unset] [(.int ((p3.toUInt32 >>> ((7 : Int32) &&& 31).toUInt32).toInt32))] _
      refine XS.iconst X0.here hx rfl (hb hby at_62) ?_
      refine XS.iand X0.here hx rfl (hb hby at_63) rfl ?_
      refine XS.ifNo X0.here hx rfl (hb hby at_64) rfl ((if0 _ _).trans (feq hc64_0).1) ?_
      refine X0.ldcInt hx hown (mvT hZ (oW hw 71 rfl)) (g := (mkF m 67 #[oI p1, oI p2, oI p3, oI ll, oI rl, oI y0, oI x1, oI v0, oI v1, .unset, .unset, .unset, .unset, .unset, .unset, .unset, .unset, .unset, .unset, .unset] [])) rfl (hb hby at_67) _ ?_
      show oG p e below s₁ m 69 #[oI p1, oI p2, oI p3, oI ll, oI rl, oI y0, oI x1, oI v0, oI v1, .unset, .unset, .unset, .unset, .unset, .unset, .unset, .unset, .unset, .unset, .unset] [(.int 56320)] _
      refine XS.iload X0.here hx rfl (hb hby at_69) rfl ?_
      refine XS.sipush X0.here hx rfl (hb hby at_71) ?_
      refine XS.iand X0.here hx rfl (hb hby at_74) rfl ?_
      refine XS.ior X0.here hx rfl (hb hby at_75) rfl ?_
      show oG p e below s₁ m 76 #[oI p1, oI p2, oI p3, oI ll, oI rl, oI y0, oI x1, oI v0, oI v1, .unset, .unset, .unset, .unset, .unset, .unset, .unset, .unset, .unset, .unset, .unset] [(.int ((56320 : Int32) ||| (x1 &&& (1023 : Int32))))] _
      refine XS.i2c X0.here hx rfl (hb hby at_76) rfl ?_
      refine XS.istore X0.here hx rfl (hb hby at_77) rfl (l' := #[oI p1, oI p2, oI p3, oI ll, oI rl, oI y0, oI (((56320 : Int32) ||| (x1 &&& (1023 : Int32))).toUInt32.toUInt16.toUInt32.toInt32), oI v0, oI v1, .unset, .unset, .unset, .unset, .unset, .unset, .unset, .unset, .unset, .unset, .unset]) rfl ?_
      exact k
  have ry1 : own_R y1 := by rw [hy1, hx1]; split <;> exact own_Rc _
  obtain ⟨z0, hz0, R10⟩ : ∃ (z0 : Int32), z0 = (if (((p3.toUInt32 >>> ((8 : Int32) &&& 31).toUInt32).toInt32) &&& (1 : Int32)) = (0 : Int32) then v0 else (((55296 : Int32) ||| (v0 &&& (1023 : Int32))).toUInt32.toUInt16.toUInt32.toInt32)) ∧ (∀ t, oG p e below s₁ m 100 #[oI p1, oI p2, oI p3, oI ll, oI rl, oI y0, oI y1, oI z0, oI v1, .unset, .unset, .unset, .unset, .unset, .unset, .unset, .unset, .unset, .unset, .unset] [] t → Steps p.tables e below (s₁.setTop (entryFrame m #[(.int p1), (.int p2), (.int p3)] maxLocals)) t) := by
    by_cases hc85_0 : (((p3.toUInt32 >>> ((8 : Int32) &&& 31).toUInt32).toInt32) &&& (1 : Int32)) = (0 : Int32)
    · refine ⟨v0, (by simp only [if_pos hc85_0]), ?_⟩
      intro t k
      refine R9 t ?_
      refine XS.iloadN X0.here hx rfl (hb hby at_79) rfl ?_
      refine XS.bipush X0.here hx rfl (hb hby at_80) ?_
      refine XS.iushr X0.here hx rfl (hb hby at_82) rfl ?_
      show oG p e below s₁ m 83 #[oI p1, oI p2, oI p3, oI ll, oI rl, oI y0, oI y1, oI v0, oI v1, .unset, .unset, .unset, .unset, .unset, .unset, .unset, .unset, .unset, .unset, .unset] [(.int ((p3.toUInt32 >>> ((8 : Int32) &&& 31).toUInt32).toInt32))] _
      refine XS.iconst X0.here hx rfl (hb hby at_83) ?_
      refine XS.iand X0.here hx rfl (hb hby at_84) rfl ?_
      refine XS.ifYes X0.here hx rfl (pc0 := 85) (pc' := 100) rfl (hb hby at_85) rfl ((if0 _ _).trans (teq hc85_0).1) (by decide) (by decide) ?_
      exact k
    · refine ⟨(((55296 : Int32) ||| (v0 &&& (1023 : Int32))).toUInt32.toUInt16.toUInt32.toInt32), (by simp only [if_neg hc85_0]), ?_⟩
      intro t k
      refine R9 t ?_
      refine XS.iloadN X0.here hx rfl (hb hby at_79) rfl ?_
      refine XS.bipush X0.here hx rfl (hb hby at_80) ?_
      refine XS.iushr X0.here hx rfl (hb hby at_82) rfl ?_
      show oG p e below s₁ m 83 #[oI p1, oI p2, oI p3, oI ll, oI rl, oI y0, oI y1, oI v0, oI v1, .unset, .unset, .unset, .unset, .unset, .unset, .unset, .unset, .unset, .unset, .unset] [(.int ((p3.toUInt32 >>> ((8 : Int32) &&& 31).toUInt32).toInt32))] _
      refine XS.iconst X0.here hx rfl (hb hby at_83) ?_
      refine XS.iand X0.here hx rfl (hb hby at_84) rfl ?_
      refine XS.ifNo X0.here hx rfl (hb hby at_85) rfl ((if0 _ _).trans (feq hc85_0).1) ?_
      refine X0.ldcInt hx hown (mvT hZ (oW hw 46 rfl)) (g := (mkF m 88 #[oI p1, oI p2, oI p3, oI ll, oI rl, oI y0, oI y1, oI v0, oI v1, .unset, .unset, .unset, .unset, .unset, .unset, .unset, .unset, .unset, .unset, .unset] [])) rfl (hb hby at_88) _ ?_
      show oG p e below s₁ m 90 #[oI p1, oI p2, oI p3, oI ll, oI rl, oI y0, oI y1, oI v0, oI v1, .unset, .unset, .unset, .unset, .unset, .unset, .unset, .unset, .unset, .unset, .unset] [(.int 55296)] _
      refine XS.iload X0.here hx rfl (hb hby at_90) rfl ?_
      refine XS.sipush X0.here hx rfl (hb hby at_92) ?_
      refine XS.iand X0.here hx rfl (hb hby at_95) rfl ?_
      refine XS.ior X0.here hx rfl (hb hby at_96) rfl ?_
      show oG p e below s₁ m 97 #[oI p1, oI p2, oI p3, oI ll, oI rl, oI y0, oI y1, oI v0, oI v1, .unset, .unset, .unset, .unset, .unset, .unset, .unset, .unset, .unset, .unset, .unset] [(.int ((55296 : Int32) ||| (v0 &&& (1023 : Int32))))] _
      refine XS.i2c X0.here hx rfl (hb hby at_97) rfl ?_
      refine XS.istore X0.here hx rfl (hb hby at_98) rfl (l' := #[oI p1, oI p2, oI p3, oI ll, oI rl, oI y0, oI y1, oI (((55296 : Int32) ||| (v0 &&& (1023 : Int32))).toUInt32.toUInt16.toUInt32.toInt32), oI v1, .unset, .unset, .unset, .unset, .unset, .unset, .unset, .unset, .unset, .unset, .unset]) rfl ?_
      exact k
  have rz0 : own_R z0 := by rw [hz0, hv0]; split <;> exact own_Rc _
  obtain ⟨z1, hz1, R11⟩ : ∃ (z1 : Int32), z1 = (if (((p3.toUInt32 >>> ((9 : Int32) &&& 31).toUInt32).toInt32) &&& (1 : Int32)) = (0 : Int32) then v1 else (((56320 : Int32) ||| (v1 &&& (1023 : Int32))).toUInt32.toUInt16.toUInt32.toInt32)) ∧ (∀ t, oG p e below s₁ m 121 #[oI p1, oI p2, oI p3, oI ll, oI rl, oI y0, oI y1, oI z0, oI z1, .unset, .unset, .unset, .unset, .unset, .unset, .unset, .unset, .unset, .unset, .unset] [] t → Steps p.tables e below (s₁.setTop (entryFrame m #[(.int p1), (.int p2), (.int p3)] maxLocals)) t) := by
    by_cases hc106_0 : (((p3.toUInt32 >>> ((9 : Int32) &&& 31).toUInt32).toInt32) &&& (1 : Int32)) = (0 : Int32)
    · refine ⟨v1, (by simp only [if_pos hc106_0]), ?_⟩
      intro t k
      refine R10 t ?_
      refine XS.iloadN X0.here hx rfl (hb hby at_100) rfl ?_
      refine XS.bipush X0.here hx rfl (hb hby at_101) ?_
      refine XS.iushr X0.here hx rfl (hb hby at_103) rfl ?_
      show oG p e below s₁ m 104 #[oI p1, oI p2, oI p3, oI ll, oI rl, oI y0, oI y1, oI z0, oI v1, .unset, .unset, .unset, .unset, .unset, .unset, .unset, .unset, .unset, .unset, .unset] [(.int ((p3.toUInt32 >>> ((9 : Int32) &&& 31).toUInt32).toInt32))] _
      refine XS.iconst X0.here hx rfl (hb hby at_104) ?_
      refine XS.iand X0.here hx rfl (hb hby at_105) rfl ?_
      refine XS.ifYes X0.here hx rfl (pc0 := 106) (pc' := 121) rfl (hb hby at_106) rfl ((if0 _ _).trans (teq hc106_0).1) (by decide) (by decide) ?_
      exact k
    · refine ⟨(((56320 : Int32) ||| (v1 &&& (1023 : Int32))).toUInt32.toUInt16.toUInt32.toInt32), (by simp only [if_neg hc106_0]), ?_⟩
      intro t k
      refine R10 t ?_
      refine XS.iloadN X0.here hx rfl (hb hby at_100) rfl ?_
      refine XS.bipush X0.here hx rfl (hb hby at_101) ?_
      refine XS.iushr X0.here hx rfl (hb hby at_103) rfl ?_
      show oG p e below s₁ m 104 #[oI p1, oI p2, oI p3, oI ll, oI rl, oI y0, oI y1, oI z0, oI v1, .unset, .unset, .unset, .unset, .unset, .unset, .unset, .unset, .unset, .unset, .unset] [(.int ((p3.toUInt32 >>> ((9 : Int32) &&& 31).toUInt32).toInt32))] _
      refine XS.iconst X0.here hx rfl (hb hby at_104) ?_
      refine XS.iand X0.here hx rfl (hb hby at_105) rfl ?_
      refine XS.ifNo X0.here hx rfl (hb hby at_106) rfl ((if0 _ _).trans (feq hc106_0).1) ?_
      refine X0.ldcInt hx hown (mvT hZ (oW hw 71 rfl)) (g := (mkF m 109 #[oI p1, oI p2, oI p3, oI ll, oI rl, oI y0, oI y1, oI z0, oI v1, .unset, .unset, .unset, .unset, .unset, .unset, .unset, .unset, .unset, .unset, .unset] [])) rfl (hb hby at_109) _ ?_
      show oG p e below s₁ m 111 #[oI p1, oI p2, oI p3, oI ll, oI rl, oI y0, oI y1, oI z0, oI v1, .unset, .unset, .unset, .unset, .unset, .unset, .unset, .unset, .unset, .unset, .unset] [(.int 56320)] _
      refine XS.iload X0.here hx rfl (hb hby at_111) rfl ?_
      refine XS.sipush X0.here hx rfl (hb hby at_113) ?_
      refine XS.iand X0.here hx rfl (hb hby at_116) rfl ?_
      refine XS.ior X0.here hx rfl (hb hby at_117) rfl ?_
      show oG p e below s₁ m 118 #[oI p1, oI p2, oI p3, oI ll, oI rl, oI y0, oI y1, oI z0, oI v1, .unset, .unset, .unset, .unset, .unset, .unset, .unset, .unset, .unset, .unset, .unset] [(.int ((56320 : Int32) ||| (v1 &&& (1023 : Int32))))] _
      refine XS.i2c X0.here hx rfl (hb hby at_118) rfl ?_
      refine XS.istore X0.here hx rfl (hb hby at_119) rfl (l' := #[oI p1, oI p2, oI p3, oI ll, oI rl, oI y0, oI y1, oI z0, oI (((56320 : Int32) ||| (v1 &&& (1023 : Int32))).toUInt32.toUInt16.toUInt32.toInt32), .unset, .unset, .unset, .unset, .unset, .unset, .unset, .unset, .unset, .unset, .unset]) rfl ?_
      exact k
  have rz1 : own_R z1 := by rw [hz1, hv1]; split <;> exact own_Rc _
  obtain ⟨u0, hu0, R12⟩ : ∃ (u0 : Int32), u0 = (if (((p3.toUInt32 >>> ((4 : Int32) &&& 31).toUInt32).toInt32) &&& (1 : Int32)) = (0 : Int32) then z0 else y0) ∧ (∀ t, oG p e below s₁ m 133 #[oI p1, oI p2, oI p3, oI ll, oI rl, oI y0, oI y1, oI u0, oI z1, .unset, .unset, .unset, .unset, .unset, .unset, .unset, .unset, .unset, .unset, .unset] [] t → Steps p.tables e below (s₁.setTop (entryFrame m #[(.int p1), (.int p2), (.int p3)] maxLocals)) t) := by
    by_cases hc126_0 : (((p3.toUInt32 >>> ((4 : Int32) &&& 31).toUInt32).toInt32) &&& (1 : Int32)) = (0 : Int32)
    · refine ⟨z0, (by simp only [if_pos hc126_0]), ?_⟩
      intro t k
      refine R11 t ?_
      refine XS.iloadN X0.here hx rfl (hb hby at_121) rfl ?_
      refine XS.iconst X0.here hx rfl (hb hby at_122) ?_
      refine XS.iushr X0.here hx rfl (hb hby at_123) rfl ?_
      show oG p e below s₁ m 124 #[oI p1, oI p2, oI p3, oI ll, oI rl, oI y0, oI y1, oI z0, oI z1, .unset, .unset, .unset, .unset, .unset, .unset, .unset, .unset, .unset, .unset, .unset] [(.int ((p3.toUInt32 >>> ((4 : Int32) &&& 31).toUInt32).toInt32))] _
      refine XS.iconst X0.here hx rfl (hb hby at_124) ?_
      refine XS.iand X0.here hx rfl (hb hby at_125) rfl ?_
      refine XS.ifYes X0.here hx rfl (pc0 := 126) (pc' := 133) rfl (hb hby at_126) rfl ((if0 _ _).trans (teq hc126_0).1) (by decide) (by decide) ?_
      exact k
    · refine ⟨y0, (by simp only [if_neg hc126_0]), ?_⟩
      intro t k
      refine R11 t ?_
      refine XS.iloadN X0.here hx rfl (hb hby at_121) rfl ?_
      refine XS.iconst X0.here hx rfl (hb hby at_122) ?_
      refine XS.iushr X0.here hx rfl (hb hby at_123) rfl ?_
      show oG p e below s₁ m 124 #[oI p1, oI p2, oI p3, oI ll, oI rl, oI y0, oI y1, oI z0, oI z1, .unset, .unset, .unset, .unset, .unset, .unset, .unset, .unset, .unset, .unset, .unset] [(.int ((p3.toUInt32 >>> ((4 : Int32) &&& 31).toUInt32).toInt32))] _
      refine XS.iconst X0.here hx rfl (hb hby at_124) ?_
      refine XS.iand X0.here hx rfl (hb hby at_125) rfl ?_
      refine XS.ifNo X0.here hx rfl (hb hby at_126) rfl ((if0 _ _).trans (feq hc126_0).1) ?_
      refine XS.iload X0.here hx rfl (hb hby at_129) rfl ?_
      show oG p e below s₁ m 131 #[oI p1, oI p2, oI p3, oI ll, oI rl, oI y0, oI y1, oI z0, oI z1, .unset, .unset, .unset, .unset, .unset, .unset, .unset, .unset, .unset, .unset, .unset] [(.int y0)] _
      refine XS.istore X0.here hx rfl (hb hby at_131) rfl (l' := #[oI p1, oI p2, oI p3, oI ll, oI rl, oI y0, oI y1, oI y0, oI z1, .unset, .unset, .unset, .unset, .unset, .unset, .unset, .unset, .unset, .unset, .unset]) rfl ?_
      exact k
  have ru0 : own_R u0 := by rw [hu0]; split <;> first | exact rz0 | exact ry0
  obtain ⟨u1, hu1, R13⟩ : ∃ (u1 : Int32), u1 = (if (((p3.toUInt32 >>> ((5 : Int32) &&& 31).toUInt32).toInt32) &&& (1 : Int32)) = (0 : Int32) then z1 else y1) ∧ (∀ t, oG p e below s₁ m 145 #[oI p1, oI p2, oI p3, oI ll, oI rl, oI y0, oI y1, oI u0, oI u1, .unset, .unset, .unset, .unset, .unset, .unset, .unset, .unset, .unset, .unset, .unset] [] t → Steps p.tables e below (s₁.setTop (entryFrame m #[(.int p1), (.int p2), (.int p3)] maxLocals)) t) := by
    by_cases hc138_0 : (((p3.toUInt32 >>> ((5 : Int32) &&& 31).toUInt32).toInt32) &&& (1 : Int32)) = (0 : Int32)
    · refine ⟨z1, (by simp only [if_pos hc138_0]), ?_⟩
      intro t k
      refine R12 t ?_
      refine XS.iloadN X0.here hx rfl (hb hby at_133) rfl ?_
      refine XS.iconst X0.here hx rfl (hb hby at_134) ?_
      refine XS.iushr X0.here hx rfl (hb hby at_135) rfl ?_
      show oG p e below s₁ m 136 #[oI p1, oI p2, oI p3, oI ll, oI rl, oI y0, oI y1, oI u0, oI z1, .unset, .unset, .unset, .unset, .unset, .unset, .unset, .unset, .unset, .unset, .unset] [(.int ((p3.toUInt32 >>> ((5 : Int32) &&& 31).toUInt32).toInt32))] _
      refine XS.iconst X0.here hx rfl (hb hby at_136) ?_
      refine XS.iand X0.here hx rfl (hb hby at_137) rfl ?_
      refine XS.ifYes X0.here hx rfl (pc0 := 138) (pc' := 145) rfl (hb hby at_138) rfl ((if0 _ _).trans (teq hc138_0).1) (by decide) (by decide) ?_
      exact k
    · refine ⟨y1, (by simp only [if_neg hc138_0]), ?_⟩
      intro t k
      refine R12 t ?_
      refine XS.iloadN X0.here hx rfl (hb hby at_133) rfl ?_
      refine XS.iconst X0.here hx rfl (hb hby at_134) ?_
      refine XS.iushr X0.here hx rfl (hb hby at_135) rfl ?_
      show oG p e below s₁ m 136 #[oI p1, oI p2, oI p3, oI ll, oI rl, oI y0, oI y1, oI u0, oI z1, .unset, .unset, .unset, .unset, .unset, .unset, .unset, .unset, .unset, .unset, .unset] [(.int ((p3.toUInt32 >>> ((5 : Int32) &&& 31).toUInt32).toInt32))] _
      refine XS.iconst X0.here hx rfl (hb hby at_136) ?_
      refine XS.iand X0.here hx rfl (hb hby at_137) rfl ?_
      refine XS.ifNo X0.here hx rfl (hb hby at_138) rfl ((if0 _ _).trans (feq hc138_0).1) ?_
      refine XS.iload X0.here hx rfl (hb hby at_141) rfl ?_
      show oG p e below s₁ m 143 #[oI p1, oI p2, oI p3, oI ll, oI rl, oI y0, oI y1, oI u0, oI z1, .unset, .unset, .unset, .unset, .unset, .unset, .unset, .unset, .unset, .unset, .unset] [(.int y1)] _
      refine XS.istore X0.here hx rfl (hb hby at_143) rfl (l' := #[oI p1, oI p2, oI p3, oI ll, oI rl, oI y0, oI y1, oI u0, oI y1, .unset, .unset, .unset, .unset, .unset, .unset, .unset, .unset, .unset, .unset, .unset]) rfl ?_
      exact k
  have ru1 : own_R u1 := by rw [hu1]; split <;> first | exact rz1 | exact ry1
  have R14 : ∀ t, oG p e below s₁ m 150 #[oI p1, oI p2, oI p3, oI ll, oI rl, oI y0, oI y1, oI u0, oI u1, .unset, .unset, .unset, .unset, .unset, .unset, .unset, .unset, .unset, .unset, .unset] [(.int y1), (.int y0), (.int ll)] t → Steps p.tables e below (s₁.setTop (entryFrame m #[(.int p1), (.int p2), (.int p3)] maxLocals)) t := by
    intro t k
    refine R13 t ?_
    refine XS.iloadN X0.here hx rfl (hb hby at_145) rfl ?_
    refine XS.iload X0.here hx rfl (hb hby at_146) rfl ?_
    refine XS.iload X0.here hx rfl (hb hby at_148) rfl ?_
    exact k
  obtain ⟨_, _, ⟨T15, L15, k15, n15⟩, -, X15, hS15, hl15, ⟨Lc15, hQ15, l15, y15, z15, hC15⟩, st15⟩ := callSS X0 hx (y := (⟨"com/example/firm_store/firmstore/IdentifiersCompareCodePointsPinLaw", "make", "(ICC)Ljava/lang/String;"⟩ : MethodName)) hown (mvT hZ (oW hw 0 rfl)) (mvT hZ (oW hw 1 rfl)) (mvT hZ (oW hw 2 rfl)) (mvT hZ (oW hw 3 rfl)) (by decide) (backOfSH (s := s) (vm0 := s.vm) (EL := own_EL) (W := 0) (rmMake l s a0 hw [] ll y0 y1 cz fm h0 n0 Z0 SU OX hn ry0 ry1) hZ (oW hw 3 rfl) (oW hw 2 rfl) (by decide) (by decide) hEL hCH) (g := (mkF m 150 #[oI p1, oI p2, oI p3, oI ll, oI rl, oI y0, oI y1, oI u0, oI u1, .unset, .unset, .unset, .unset, .unset, .unset, .unset, .unset, .unset, .unset, .unset] [(.int y1), (.int y0), (.int ll)])) rfl (by rw [hml]; rfl) (argsL := [(.int ll), (.int y0), (.int y1)]) (rest := []) (lenOf own_pd0 rfl) rfl (by show 2 * 0 + _ ≤ _; exact Nat.le_of_eq rfl) (hb hby at_150) (fun _ _ => ⟨rfl, e0, (by decide : 0 + 8 ≤ _), (by decide : 0 + 40 ≤ _)⟩)
  dsimp only [Pt.U, Pt.locs, Pt.cells, Pt.slots] at X15 hS15 hl15 l15 y15 z15 st15 hQ15 hC15
  subst l15 y15 z15
  obtain ⟨bl, rfl, Nq15, Kc15, Sn15⟩ := hQ15
  have N15 := Fr.app N0 Nq15
  have R15 : ∀ t, oG p e below T15 m 153 #[oI p1, oI p2, oI p3, oI ll, oI rl, oI y0, oI y1, oI u0, oI u1, .unset, .unset, .unset, .unset, .unset, .unset, .unset, .unset, .unset, .unset, .unset] [(.ref bl)] t → Steps p.tables e below (s₁.setTop (entryFrame m #[(.int p1), (.int p2), (.int p3)] maxLocals)) t := fun t k => R14 t (st15.trans k)
  have hZ := State.Warmed39.trans (t := s) hZ hS15.1
  have hown := (hS15.1.alike.findClass _ _).trans hown
  have Z15 : n0 ≤ T15.heap.size := Nat.le_trans Z0 Kc15.1
  have K15 : Keep h0 T15.heap [] := (Keep.refl h0 []).trans Kc15 all0
  have f16 : Old s n0 T15.heap := OX.keep Kc15 all0
  have R17 : ∀ t, oG p e below T15 m 161 #[oI p1, oI p2, oI p3, oI ll, oI rl, oI y0, oI y1, oI u0, oI u1, oR bl, .unset, .unset, .unset, .unset, .unset, .unset, .unset, .unset, .unset, .unset] [(.int u1), (.int u0), (.int rl)] t → Steps p.tables e below (s₁.setTop (entryFrame m #[(.int p1), (.int p2), (.int p3)] maxLocals)) t := by
    intro t k
    refine R15 t ?_
    refine XS.astore X15.here hx rfl (hb hby at_153) rfl rfl (l' := #[oI p1, oI p2, oI p3, oI ll, oI rl, oI y0, oI y1, oI u0, oI u1, oR bl, .unset, .unset, .unset, .unset, .unset, .unset, .unset, .unset, .unset, .unset]) rfl ?_
    refine XS.iload X15.here hx rfl (hb hby at_155) rfl ?_
    refine XS.iload X15.here hx rfl (hb hby at_157) rfl ?_
    show oG p e below T15 m 159 #[oI p1, oI p2, oI p3, oI ll, oI rl, oI y0, oI y1, oI u0, oI u1, oR bl, .unset, .unset, .unset, .unset, .unset, .unset, .unset, .unset, .unset, .unset] [(.int u0), (.int rl)] _
    refine XS.iload X15.here hx rfl (hb hby at_159) rfl ?_
    exact k
  obtain ⟨_, _, ⟨T18, L18, k18, n18⟩, -, X18, hS18, hl18, ⟨Lc18, hQ18, l18, y18, z18, hC18⟩, st18⟩ := callSS X15 hx (y := (⟨"com/example/firm_store/firmstore/IdentifiersCompareCodePointsPinLaw", "make", "(ICC)Ljava/lang/String;"⟩ : MethodName)) hown (mvT hZ (oW hw 0 rfl)) (mvT hZ (oW hw 1 rfl)) (mvT hZ (oW hw 2 rfl)) (mvT hZ (oW hw 3 rfl)) (by decide) (backOfSH (s := s) (vm0 := T15.vm) (EL := own_EL) (W := 0) (rmMake l s a0 hw [] rl u0 u1 cz fm T15.heap n0 Z15 SU f16 hm ru0 ru1) hZ (oW hw 3 rfl) (oW hw 2 rfl) (by decide) (by decide) hEL hC15.1) (g := (mkF m 161 #[oI p1, oI p2, oI p3, oI ll, oI rl, oI y0, oI y1, oI u0, oI u1, oR bl, .unset, .unset, .unset, .unset, .unset, .unset, .unset, .unset, .unset, .unset] [(.int u1), (.int u0), (.int rl)])) rfl (by rw [hml]; rfl) (argsL := [(.int rl), (.int u0), (.int u1)]) (rest := []) (lenOf own_pd0 rfl) rfl (by show 2 * 0 + _ ≤ _; exact Nat.le_of_eq rfl) (hb hby at_161) (fun _ _ => ⟨rfl, rfl, (by decide : 8 + 8 ≤ _), (by decide : 40 + 40 ≤ _)⟩)
  dsimp only [Pt.U, Pt.locs, Pt.cells, Pt.slots] at X18 hS18 hl18 l18 y18 z18 st18 hQ18 hC18
  subst l18 y18 z18
  obtain ⟨br, rfl, Nq18, Kc18, Sn18⟩ := hQ18
  have N18 := Fr.app N15 Nq18
  have R18 : ∀ t, oG p e below T18 m 164 #[oI p1, oI p2, oI p3, oI ll, oI rl, oI y0, oI y1, oI u0, oI u1, oR bl, .unset, .unset, .unset, .unset, .unset, .unset, .unset, .unset, .unset, .unset] [(.ref br)] t → Steps p.tables e below (s₁.setTop (entryFrame m #[(.int p1), (.int p2), (.int p3)] maxLocals)) t := fun t k => R17 t (st18.trans k)
  obtain ⟨X18, hS18, hZ, hown⟩ := rebS (s := s) hS15 (Nat.le_refl _) X18 hS18 hl18 hZ hown
  have Z18 : n0 ≤ T18.heap.size := Nat.le_trans Z15 Kc18.1
  have K18 : Keep h0 T18.heap [] := K15.trans Kc18 all0
  have f19 : Old s n0 T18.heap := f16.keep Kc18 all0
  have Sl := Sn15.keep Kc18
  have Sr := Sn18
  have R20 : ∀ t, oG p e below T18 m 171 #[oI p1, oI p2, oI p3, oI ll, oI rl, oI y0, oI y1, oI u0, oI u1, oR bl, oR br, .unset, .unset, .unset, .unset, .unset, .unset, .unset, .unset, .unset] [(.int y1), (.int y0), (.int ll)] t → Steps p.tables e below (s₁.setTop (entryFrame m #[(.int p1), (.int p2), (.int p3)] maxLocals)) t := by
    intro t k
    refine R18 t ?_
    refine XS.astore X18.here hx rfl (hb hby at_164) rfl rfl (l' := #[oI p1, oI p2, oI p3, oI ll, oI rl, oI y0, oI y1, oI u0, oI u1, oR bl, oR br, .unset, .unset, .unset, .unset, .unset, .unset, .unset, .unset, .unset]) rfl ?_
    refine XS.iloadN X18.here hx rfl (hb hby at_166) rfl ?_
    refine XS.iload X18.here hx rfl (hb hby at_167) rfl ?_
    show oG p e below T18 m 169 #[oI p1, oI p2, oI p3, oI ll, oI rl, oI y0, oI y1, oI u0, oI u1, oR bl, oR br, .unset, .unset, .unset, .unset, .unset, .unset, .unset, .unset, .unset] [(.int y0), (.int ll)] _
    refine XS.iload X18.here hx rfl (hb hby at_169) rfl ?_
    exact k
  obtain ⟨_, _, ⟨T21, L21, k21, n21⟩, -, X21, ⟨Lc21, hQ21, l21, y21, z21⟩, st21⟩ := Jvm.LawKit.callS X18 hx (y := (⟨"com/example/firm_store/firmstore/IdentifiersCompareCodePointsPinLaw", "count", "(ICC)I"⟩ : MethodName)) hown (mvT hZ (oW hw 37 rfl)) (mvT hZ (oW hw 38 rfl)) (mvT hZ (oW hw 2 rfl)) (mvT hZ (oW hw 39 rfl)) (by decide) (backOf (W := 0) (rmCount l s a0 hw [] ll y0 y1  T18.heap n0 Z18 ) hZ (oW hw 39 rfl) (oW hw 2 rfl) (by decide) (by decide)) (g := (mkF m 171 #[oI p1, oI p2, oI p3, oI ll, oI rl, oI y0, oI y1, oI u0, oI u1, oR bl, oR br, .unset, .unset, .unset, .unset, .unset, .unset, .unset, .unset, .unset] [(.int y1), (.int y0), (.int ll)])) rfl (by rw [hml]; rfl) (argsL := [(.int ll), (.int y0), (.int y1)]) (rest := []) (lenOf own_pd7 rfl) rfl (by show 2 * 0 + _ ≤ _; exact Nat.le_of_eq rfl) (hb hby at_171) (fun _ _ => ⟨rfl, rfl, (by decide : 16 + 0 ≤ _), (by decide : 80 + 0 ≤ _)⟩)
  dsimp only [Pt.U, Pt.locs, Pt.cells, Pt.slots] at X21 l21 y21 z21 st21 hQ21
  subst l21 y21 z21
  obtain ⟨rfl, Nq21, eq21⟩ := hQ21
  have N21 := Fr.app N18 Nq21
  have R21 : ∀ t, oG p e below T21 m 174 #[oI p1, oI p2, oI p3, oI ll, oI rl, oI y0, oI y1, oI u0, oI u1, oR bl, oR br, .unset, .unset, .unset, .unset, .unset, .unset, .unset, .unset, .unset] [(.int (own_count ll y0 y1))] t → Steps p.tables e below (s₁.setTop (entryFrame m #[(.int p1), (.int p2), (.int p3)] maxLocals)) t := fun t k => R20 t (st21 t k)
  have R22 : ∀ t, oG p e below T21 m 181 #[oI p1, oI p2, oI p3, oI ll, oI rl, oI y0, oI y1, oI u0, oI u1, oR bl, oR br, oI (own_count ll y0 y1), .unset, .unset, .unset, .unset, .unset, .unset, .unset, .unset] [(.int y1), (.int y0), (.int ll)] t → Steps p.tables e below (s₁.setTop (entryFrame m #[(.int p1), (.int p2), (.int p3)] maxLocals)) t := by
    intro t k
    refine R21 t ?_
    refine XS.istore X21.here hx rfl (hb hby at_174) rfl (l' := #[oI p1, oI p2, oI p3, oI ll, oI rl, oI y0, oI y1, oI u0, oI u1, oR bl, oR br, oI (own_count ll y0 y1), .unset, .unset, .unset, .unset, .unset, .unset, .unset, .unset]) rfl ?_
    refine XS.iloadN X21.here hx rfl (hb hby at_176) rfl ?_
    refine XS.iload X21.here hx rfl (hb hby at_177) rfl ?_
    show oG p e below T21 m 179 #[oI p1, oI p2, oI p3, oI ll, oI rl, oI y0, oI y1, oI u0, oI u1, oR bl, oR br, oI (own_count ll y0 y1), .unset, .unset, .unset, .unset, .unset, .unset, .unset, .unset] [(.int y0), (.int ll)] _
    refine XS.iload X21.here hx rfl (hb hby at_179) rfl ?_
    exact k
  obtain ⟨_, _, ⟨T23, L23, k23, n23⟩, -, X23, ⟨Lc23, hQ23, l23, y23, z23⟩, st23⟩ := Jvm.LawKit.callS X21 hx (y := (⟨"com/example/firm_store/firmstore/IdentifiersCompareCodePointsPinLaw", "first", "(ICC)I"⟩ : MethodName)) hown (mvT hZ (oW hw 47 rfl)) (mvT hZ (oW hw 48 rfl)) (mvT hZ (oW hw 2 rfl)) (mvT hZ (oW hw 49 rfl)) (by decide) (backOf (W := 0) (rmFirst l s a0 hw [] ll y0 y1  T18.heap n0 Z18 ) hZ (oW hw 49 rfl) (oW hw 2 rfl) (by decide) (by decide)) (g := (mkF m 181 #[oI p1, oI p2, oI p3, oI ll, oI rl, oI y0, oI y1, oI u0, oI u1, oR bl, oR br, oI (own_count ll y0 y1), .unset, .unset, .unset, .unset, .unset, .unset, .unset, .unset] [(.int y1), (.int y0), (.int ll)])) rfl (by rw [hml]; rfl) (argsL := [(.int ll), (.int y0), (.int y1)]) (rest := []) (lenOf own_pd7 rfl) rfl (by show 2 * 0 + _ ≤ _; exact Nat.le_of_eq rfl) (hb hby at_181) (fun _ _ => ⟨rfl, eq21, (by decide : 16 + 0 ≤ _), (by decide : 80 + 0 ≤ _)⟩)
  dsimp only [Pt.U, Pt.locs, Pt.cells, Pt.slots] at X23 l23 y23 z23 st23 hQ23
  subst l23 y23 z23
  obtain ⟨rfl, Nq23, eq23⟩ := hQ23
  have N23 := Fr.app N21 Nq23
  have R23 : ∀ t, oG p e below T23 m 184 #[oI p1, oI p2, oI p3, oI ll, oI rl, oI y0, oI y1, oI u0, oI u1, oR bl, oR br, oI (own_count ll y0 y1), .unset, .unset, .unset, .unset, .unset, .unset, .unset, .unset] [(.int (own_first ll y0 y1))] t → Steps p.tables e below (s₁.setTop (entryFrame m #[(.int p1), (.int p2), (.int p3)] maxLocals)) t := fun t k => R22 t (st23 t k)
  have R24 : ∀ t, oG p e below T23 m 191 #[oI p1, oI p2, oI p3, oI ll, oI rl, oI y0, oI y1, oI u0, oI u1, oR bl, oR br, oI (own_count ll y0 y1), oI (own_first ll y0 y1), .unset, .unset, .unset, .unset, .unset, .unset, .unset] [(.int y1), (.int y0), (.int ll)] t → Steps p.tables e below (s₁.setTop (entryFrame m #[(.int p1), (.int p2), (.int p3)] maxLocals)) t := by
    intro t k
    refine R23 t ?_
    refine XS.istore X23.here hx rfl (hb hby at_184) rfl (l' := #[oI p1, oI p2, oI p3, oI ll, oI rl, oI y0, oI y1, oI u0, oI u1, oR bl, oR br, oI (own_count ll y0 y1), oI (own_first ll y0 y1), .unset, .unset, .unset, .unset, .unset, .unset, .unset]) rfl ?_
    refine XS.iloadN X23.here hx rfl (hb hby at_186) rfl ?_
    refine XS.iload X23.here hx rfl (hb hby at_187) rfl ?_
    show oG p e below T23 m 189 #[oI p1, oI p2, oI p3, oI ll, oI rl, oI y0, oI y1, oI u0, oI u1, oR bl, oR br, oI (own_count ll y0 y1), oI (own_first ll y0 y1), .unset, .unset, .unset, .unset, .unset, .unset, .unset] [(.int y0), (.int ll)] _
    refine XS.iload X23.here hx rfl (hb hby at_189) rfl ?_
    exact k
  obtain ⟨_, _, ⟨T25, L25, k25, n25⟩, -, X25, ⟨Lc25, hQ25, l25, y25, z25⟩, st25⟩ := Jvm.LawKit.callS X23 hx (y := (⟨"com/example/firm_store/firmstore/IdentifiersCompareCodePointsPinLaw", "second", "(ICC)I"⟩ : MethodName)) hown (mvT hZ (oW hw 50 rfl)) (mvT hZ (oW hw 51 rfl)) (mvT hZ (oW hw 2 rfl)) (mvT hZ (oW hw 52 rfl)) (by decide) (backOf (W := 0) (rmSecond l s a0 hw [] ll y0 y1  T18.heap n0 Z18 ) hZ (oW hw 52 rfl) (oW hw 2 rfl) (by decide) (by decide)) (g := (mkF m 191 #[oI p1, oI p2, oI p3, oI ll, oI rl, oI y0, oI y1, oI u0, oI u1, oR bl, oR br, oI (own_count ll y0 y1), oI (own_first ll y0 y1), .unset, .unset, .unset, .unset, .unset, .unset, .unset] [(.int y1), (.int y0), (.int ll)])) rfl (by rw [hml]; rfl) (argsL := [(.int ll), (.int y0), (.int y1)]) (rest := []) (lenOf own_pd7 rfl) rfl (by show 2 * 0 + _ ≤ _; exact Nat.le_of_eq rfl) (hb hby at_191) (fun _ _ => ⟨rfl, eq23, (by decide : 16 + 0 ≤ _), (by decide : 80 + 0 ≤ _)⟩)
  dsimp only [Pt.U, Pt.locs, Pt.cells, Pt.slots] at X25 l25 y25 z25 st25 hQ25
  subst l25 y25 z25
  obtain ⟨rfl, Nq25, eq25⟩ := hQ25
  have N25 := Fr.app N23 Nq25
  have R25 : ∀ t, oG p e below T25 m 194 #[oI p1, oI p2, oI p3, oI ll, oI rl, oI y0, oI y1, oI u0, oI u1, oR bl, oR br, oI (own_count ll y0 y1), oI (own_first ll y0 y1), .unset, .unset, .unset, .unset, .unset, .unset, .unset] [(.int (own_second ll y0 y1))] t → Steps p.tables e below (s₁.setTop (entryFrame m #[(.int p1), (.int p2), (.int p3)] maxLocals)) t := fun t k => R24 t (st25 t k)
  have R26 : ∀ t, oG p e below T25 m 202 #[oI p1, oI p2, oI p3, oI ll, oI rl, oI y0, oI y1, oI u0, oI u1, oR bl, oR br, oI (own_count ll y0 y1), oI (own_first ll y0 y1), oI (own_second ll y0 y1), .unset, .unset, .unset, .unset, .unset, .unset] [(.int u1), (.int u0), (.int rl)] t → Steps p.tables e below (s₁.setTop (entryFrame m #[(.int p1), (.int p2), (.int p3)] maxLocals)) t := by
    intro t k
    refine R25 t ?_
    refine XS.istore X25.here hx rfl (hb hby at_194) rfl (l' := #[oI p1, oI p2, oI p3, oI ll, oI rl, oI y0, oI y1, oI u0, oI u1, oR bl, oR br, oI (own_count ll y0 y1), oI (own_first ll y0 y1), oI (own_second ll y0 y1), .unset, .unset, .unset, .unset, .unset, .unset]) rfl ?_
    refine XS.iload X25.here hx rfl (hb hby at_196) rfl ?_
    refine XS.iload X25.here hx rfl (hb hby at_198) rfl ?_
    show oG p e below T25 m 200 #[oI p1, oI p2, oI p3, oI ll, oI rl, oI y0, oI y1, oI u0, oI u1, oR bl, oR br, oI (own_count ll y0 y1), oI (own_first ll y0 y1), oI (own_second ll y0 y1), .unset, .unset, .unset, .unset, .unset, .unset] [(.int u0), (.int rl)] _
    refine XS.iload X25.here hx rfl (hb hby at_200) rfl ?_
    exact k
  obtain ⟨_, _, ⟨T27, L27, k27, n27⟩, -, X27, ⟨Lc27, hQ27, l27, y27, z27⟩, st27⟩ := Jvm.LawKit.callS X25 hx (y := (⟨"com/example/firm_store/firmstore/IdentifiersCompareCodePointsPinLaw", "count", "(ICC)I"⟩ : MethodName)) hown (mvT hZ (oW hw 37 rfl)) (mvT hZ (oW hw 38 rfl)) (mvT hZ (oW hw 2 rfl)) (mvT hZ (oW hw 39 rfl)) (by decide) (backOf (W := 0) (rmCount l s a0 hw [] rl u0 u1  T18.heap n0 Z18 ) hZ (oW hw 39 rfl) (oW hw 2 rfl) (by decide) (by decide)) (g := (mkF m 202 #[oI p1, oI p2, oI p3, oI ll, oI rl, oI y0, oI y1, oI u0, oI u1, oR bl, oR br, oI (own_count ll y0 y1), oI (own_first ll y0 y1), oI (own_second ll y0 y1), .unset, .unset, .unset, .unset, .unset, .unset] [(.int u1), (.int u0), (.int rl)])) rfl (by rw [hml]; rfl) (argsL := [(.int rl), (.int u0), (.int u1)]) (rest := []) (lenOf own_pd7 rfl) rfl (by show 2 * 0 + _ ≤ _; exact Nat.le_of_eq rfl) (hb hby at_202) (fun _ _ => ⟨rfl, eq25, (by decide : 16 + 0 ≤ _), (by decide : 80 + 0 ≤ _)⟩)
  dsimp only [Pt.U, Pt.locs, Pt.cells, Pt.slots] at X27 l27 y27 z27 st27 hQ27
  subst l27 y27 z27
  obtain ⟨rfl, Nq27, eq27⟩ := hQ27
  have N27 := Fr.app N25 Nq27
  have R27 : ∀ t, oG p e below T27 m 205 #[oI p1, oI p2, oI p3, oI ll, oI rl, oI y0, oI y1, oI u0, oI u1, oR bl, oR br, oI (own_count ll y0 y1), oI (own_first ll y0 y1), oI (own_second ll y0 y1), .unset, .unset, .unset, .unset, .unset, .unset] [(.int (own_count rl u0 u1))] t → Steps p.tables e below (s₁.setTop (entryFrame m #[(.int p1), (.int p2), (.int p3)] maxLocals)) t := fun t k => R26 t (st27 t k)
  have R28 : ∀ t, oG p e below T27 m 213 #[oI p1, oI p2, oI p3, oI ll, oI rl, oI y0, oI y1, oI u0, oI u1, oR bl, oR br, oI (own_count ll y0 y1), oI (own_first ll y0 y1), oI (own_second ll y0 y1), oI (own_count rl u0 u1), .unset, .unset, .unset, .unset, .unset] [(.int u1), (.int u0), (.int rl)] t → Steps p.tables e below (s₁.setTop (entryFrame m #[(.int p1), (.int p2), (.int p3)] maxLocals)) t := by
    intro t k
    refine R27 t ?_
    refine XS.istore X27.here hx rfl (hb hby at_205) rfl (l' := #[oI p1, oI p2, oI p3, oI ll, oI rl, oI y0, oI y1, oI u0, oI u1, oR bl, oR br, oI (own_count ll y0 y1), oI (own_first ll y0 y1), oI (own_second ll y0 y1), oI (own_count rl u0 u1), .unset, .unset, .unset, .unset, .unset]) rfl ?_
    refine XS.iload X27.here hx rfl (hb hby at_207) rfl ?_
    refine XS.iload X27.here hx rfl (hb hby at_209) rfl ?_
    show oG p e below T27 m 211 #[oI p1, oI p2, oI p3, oI ll, oI rl, oI y0, oI y1, oI u0, oI u1, oR bl, oR br, oI (own_count ll y0 y1), oI (own_first ll y0 y1), oI (own_second ll y0 y1), oI (own_count rl u0 u1), .unset, .unset, .unset, .unset, .unset] [(.int u0), (.int rl)] _
    refine XS.iload X27.here hx rfl (hb hby at_211) rfl ?_
    exact k
  obtain ⟨_, _, ⟨T29, L29, k29, n29⟩, -, X29, ⟨Lc29, hQ29, l29, y29, z29⟩, st29⟩ := Jvm.LawKit.callS X27 hx (y := (⟨"com/example/firm_store/firmstore/IdentifiersCompareCodePointsPinLaw", "first", "(ICC)I"⟩ : MethodName)) hown (mvT hZ (oW hw 47 rfl)) (mvT hZ (oW hw 48 rfl)) (mvT hZ (oW hw 2 rfl)) (mvT hZ (oW hw 49 rfl)) (by decide) (backOf (W := 0) (rmFirst l s a0 hw [] rl u0 u1  T18.heap n0 Z18 ) hZ (oW hw 49 rfl) (oW hw 2 rfl) (by decide) (by decide)) (g := (mkF m 213 #[oI p1, oI p2, oI p3, oI ll, oI rl, oI y0, oI y1, oI u0, oI u1, oR bl, oR br, oI (own_count ll y0 y1), oI (own_first ll y0 y1), oI (own_second ll y0 y1), oI (own_count rl u0 u1), .unset, .unset, .unset, .unset, .unset] [(.int u1), (.int u0), (.int rl)])) rfl (by rw [hml]; rfl) (argsL := [(.int rl), (.int u0), (.int u1)]) (rest := []) (lenOf own_pd7 rfl) rfl (by show 2 * 0 + _ ≤ _; exact Nat.le_of_eq rfl) (hb hby at_213) (fun _ _ => ⟨rfl, eq27, (by decide : 16 + 0 ≤ _), (by decide : 80 + 0 ≤ _)⟩)
  dsimp only [Pt.U, Pt.locs, Pt.cells, Pt.slots] at X29 l29 y29 z29 st29 hQ29
  subst l29 y29 z29
  obtain ⟨rfl, Nq29, eq29⟩ := hQ29
  have N29 := Fr.app N27 Nq29
  have R29 : ∀ t, oG p e below T29 m 216 #[oI p1, oI p2, oI p3, oI ll, oI rl, oI y0, oI y1, oI u0, oI u1, oR bl, oR br, oI (own_count ll y0 y1), oI (own_first ll y0 y1), oI (own_second ll y0 y1), oI (own_count rl u0 u1), .unset, .unset, .unset, .unset, .unset] [(.int (own_first rl u0 u1))] t → Steps p.tables e below (s₁.setTop (entryFrame m #[(.int p1), (.int p2), (.int p3)] maxLocals)) t := fun t k => R28 t (st29 t k)
  have R30 : ∀ t, oG p e below T29 m 224 #[oI p1, oI p2, oI p3, oI ll, oI rl, oI y0, oI y1, oI u0, oI u1, oR bl, oR br, oI (own_count ll y0 y1), oI (own_first ll y0 y1), oI (own_second ll y0 y1), oI (own_count rl u0 u1), oI (own_first rl u0 u1), .unset, .unset, .unset, .unset] [(.int u1), (.int u0), (.int rl)] t → Steps p.tables e below (s₁.setTop (entryFrame m #[(.int p1), (.int p2), (.int p3)] maxLocals)) t := by
    intro t k
    refine R29 t ?_
    refine XS.istore X29.here hx rfl (hb hby at_216) rfl (l' := #[oI p1, oI p2, oI p3, oI ll, oI rl, oI y0, oI y1, oI u0, oI u1, oR bl, oR br, oI (own_count ll y0 y1), oI (own_first ll y0 y1), oI (own_second ll y0 y1), oI (own_count rl u0 u1), oI (own_first rl u0 u1), .unset, .unset, .unset, .unset]) rfl ?_
    refine XS.iload X29.here hx rfl (hb hby at_218) rfl ?_
    refine XS.iload X29.here hx rfl (hb hby at_220) rfl ?_
    show oG p e below T29 m 222 #[oI p1, oI p2, oI p3, oI ll, oI rl, oI y0, oI y1, oI u0, oI u1, oR bl, oR br, oI (own_count ll y0 y1), oI (own_first ll y0 y1), oI (own_second ll y0 y1), oI (own_count rl u0 u1), oI (own_first rl u0 u1), .unset, .unset, .unset, .unset] [(.int u0), (.int rl)] _
    refine XS.iload X29.here hx rfl (hb hby at_222) rfl ?_
    exact k
  obtain ⟨_, _, ⟨T31, L31, k31, n31⟩, -, X31, ⟨Lc31, hQ31, l31, y31, z31⟩, st31⟩ := Jvm.LawKit.callS X29 hx (y := (⟨"com/example/firm_store/firmstore/IdentifiersCompareCodePointsPinLaw", "second", "(ICC)I"⟩ : MethodName)) hown (mvT hZ (oW hw 50 rfl)) (mvT hZ (oW hw 51 rfl)) (mvT hZ (oW hw 2 rfl)) (mvT hZ (oW hw 52 rfl)) (by decide) (backOf (W := 0) (rmSecond l s a0 hw [] rl u0 u1  T18.heap n0 Z18 ) hZ (oW hw 52 rfl) (oW hw 2 rfl) (by decide) (by decide)) (g := (mkF m 224 #[oI p1, oI p2, oI p3, oI ll, oI rl, oI y0, oI y1, oI u0, oI u1, oR bl, oR br, oI (own_count ll y0 y1), oI (own_first ll y0 y1), oI (own_second ll y0 y1), oI (own_count rl u0 u1), oI (own_first rl u0 u1), .unset, .unset, .unset, .unset] [(.int u1), (.int u0), (.int rl)])) rfl (by rw [hml]; rfl) (argsL := [(.int rl), (.int u0), (.int u1)]) (rest := []) (lenOf own_pd7 rfl) rfl (by show 2 * 0 + _ ≤ _; exact Nat.le_of_eq rfl) (hb hby at_224) (fun _ _ => ⟨rfl, eq29, (by decide : 16 + 0 ≤ _), (by decide : 80 + 0 ≤ _)⟩)
  dsimp only [Pt.U, Pt.locs, Pt.cells, Pt.slots] at X31 l31 y31 z31 st31 hQ31
  subst l31 y31 z31
  obtain ⟨rfl, Nq31, eq31⟩ := hQ31
  have N31 := Fr.app N29 Nq31
  have R31 : ∀ t, oG p e below T31 m 227 #[oI p1, oI p2, oI p3, oI ll, oI rl, oI y0, oI y1, oI u0, oI u1, oR bl, oR br, oI (own_count ll y0 y1), oI (own_first ll y0 y1), oI (own_second ll y0 y1), oI (own_count rl u0 u1), oI (own_first rl u0 u1), .unset, .unset, .unset, .unset] [(.int (own_second rl u0 u1))] t → Steps p.tables e below (s₁.setTop (entryFrame m #[(.int p1), (.int p2), (.int p3)] maxLocals)) t := fun t k => R30 t (st31 t k)
  have R32 : ∀ t, oG p e below T31 m 229 #[oI p1, oI p2, oI p3, oI ll, oI rl, oI y0, oI y1, oI u0, oI u1, oR bl, oR br, oI (own_count ll y0 y1), oI (own_first ll y0 y1), oI (own_second ll y0 y1), oI (own_count rl u0 u1), oI (own_first rl u0 u1), oI (own_second rl u0 u1), .unset, .unset, .unset] [] t → Steps p.tables e below (s₁.setTop (entryFrame m #[(.int p1), (.int p2), (.int p3)] maxLocals)) t := by
    intro t k
    refine R31 t ?_
    refine XS.istore X31.here hx rfl (hb hby at_227) rfl (l' := #[oI p1, oI p2, oI p3, oI ll, oI rl, oI y0, oI y1, oI u0, oI u1, oR bl, oR br, oI (own_count ll y0 y1), oI (own_first ll y0 y1), oI (own_second ll y0 y1), oI (own_count rl u0 u1), oI (own_first rl u0 u1), oI (own_second rl u0 u1), .unset, .unset, .unset]) rfl ?_
    exact k
  obtain ⟨kl, hkl⟩ : ∃ z : Int32, z = (own_count ll y0 y1) := ⟨_, rfl⟩
  have R33 : ∀ t, oG p e below T31 m 229 #[oI p1, oI p2, oI p3, oI ll, oI rl, oI y0, oI y1, oI u0, oI u1, oR bl, oR br, oI kl, oI (own_first ll y0 y1), oI (own_second ll y0 y1), oI (own_count rl u0 u1), oI (own_first rl u0 u1), oI (own_second rl u0 u1), .unset, .unset, .unset] [] t → Steps p.tables e below (s₁.setTop (entryFrame m #[(.int p1), (.int p2), (.int p3)] maxLocals)) t := by rw [hkl]; exact R32
  obtain ⟨f0, hf0⟩ : ∃ z : Int32, z = (own_first ll y0 y1) := ⟨_, rfl⟩
  have R34 : ∀ t, oG p e below T31 m 229 #[oI p1, oI p2, oI p3, oI ll, oI rl, oI y0, oI y1, oI u0, oI u1, oR bl, oR br, oI kl, oI f0, oI (own_second ll y0 y1), oI (own_count rl u0 u1), oI (own_first rl u0 u1), oI (own_second rl u0 u1), .unset, .unset, .unset] [] t → Steps p.tables e below (s₁.setTop (entryFrame m #[(.int p1), (.int p2), (.int p3)] maxLocals)) t := by rw [hf0]; exact R33
  obtain ⟨f1, hf1⟩ : ∃ z : Int32, z = (own_second ll y0 y1) := ⟨_, rfl⟩
  have R35 : ∀ t, oG p e below T31 m 229 #[oI p1, oI p2, oI p3, oI ll, oI rl, oI y0, oI y1, oI u0, oI u1, oR bl, oR br, oI kl, oI f0, oI f1, oI (own_count rl u0 u1), oI (own_first rl u0 u1), oI (own_second rl u0 u1), .unset, .unset, .unset] [] t → Steps p.tables e below (s₁.setTop (entryFrame m #[(.int p1), (.int p2), (.int p3)] maxLocals)) t := by rw [hf1]; exact R34
  obtain ⟨kr, hkr⟩ : ∃ z : Int32, z = (own_count rl u0 u1) := ⟨_, rfl⟩
  have R36 : ∀ t, oG p e below T31 m 229 #[oI p1, oI p2, oI p3, oI ll, oI rl, oI y0, oI y1, oI u0, oI u1, oR bl, oR br, oI kl, oI f0, oI f1, oI kr, oI (own_first rl u0 u1), oI (own_second rl u0 u1), .unset, .unset, .unset] [] t → Steps p.tables e below (s₁.setTop (entryFrame m #[(.int p1), (.int p2), (.int p3)] maxLocals)) t := by rw [hkr]; exact R35
  obtain ⟨g0, hg0⟩ : ∃ z : Int32, z = (own_first rl u0 u1) := ⟨_, rfl⟩
  have R37 : ∀ t, oG p e below T31 m 229 #[oI p1, oI p2, oI p3, oI ll, oI rl, oI y0, oI y1, oI u0, oI u1, oR bl, oR br, oI kl, oI f0, oI f1, oI kr, oI g0, oI (own_second rl u0 u1), .unset, .unset, .unset] [] t → Steps p.tables e below (s₁.setTop (entryFrame m #[(.int p1), (.int p2), (.int p3)] maxLocals)) t := by rw [hg0]; exact R36
  obtain ⟨g1, hg1⟩ : ∃ z : Int32, z = (own_second rl u0 u1) := ⟨_, rfl⟩
  have R38 : ∀ t, oG p e below T31 m 229 #[oI p1, oI p2, oI p3, oI ll, oI rl, oI y0, oI y1, oI u0, oI u1, oR bl, oR br, oI kl, oI f0, oI f1, oI kr, oI g0, oI g1, .unset, .unset, .unset] [] t → Steps p.tables e below (s₁.setTop (entryFrame m #[(.int p1), (.int p2), (.int p3)] maxLocals)) t := by rw [hg1]; exact R37
  have Rp299 : ∀ t, oG p e below T31 m 299 #[oI p1, oI p2, oI p3, oI ll, oI rl, oI y0, oI y1, oI u0, oI u1, oR bl, oR br, oI kl, oI f0, oI f1, oI kr, oI g0, oI g1, .unset, .unset, .unset] [] t → oG p e below T31 m 299 #[oI p1, oI p2, oI p3, oI ll, oI rl, oI y0, oI y1, oI u0, oI u1, oR bl, oR br, oI kl, oI f0, oI f1, oI kr, oI g0, oI g1, .unset, .unset, .unset] [] t := fun t k => k
  obtain ⟨wa, hwa, R39⟩ : ∃ (wa : Int32), wa = (if kl < kr then (-1 : Int32) else (if kr < kl then (1 : Int32) else (0 : Int32))) ∧ (∀ t, oG p e below T31 m 324 #[oI p1, oI p2, oI p3, oI ll, oI rl, oI y0, oI y1, oI u0, oI u1, oR bl, oR br, oI kl, oI f0, oI f1, oI kr, oI g0, oI g1, oI wa, .unset, .unset] [] t → oG p e below T31 m 299 #[oI p1, oI p2, oI p3, oI ll, oI rl, oI y0, oI y1, oI u0, oI u1, oR bl, oR br, oI kl, oI f0, oI f1, oI kr, oI g0, oI g1, .unset, .unset, .unset] [] t) := by
    by_cases hc303_0 : kl < kr
    · refine ⟨(-1 : Int32), (by simp only [if_pos hc303_0]), ?_⟩
      intro t k
      refine Rp299 t ?_
      refine XS.iload X31.here hx rfl (hb hby at_299) rfl ?_
      refine XS.iload X31.here hx rfl (hb hby at_301) rfl ?_
      refine XS.icmpNo X31.here hx rfl (hb hby at_303) rfl (tlt hc303_0).2.1 ?_
      show oG p e below T31 m 306 #[oI p1, oI p2, oI p3, oI ll, oI rl, oI y0, oI y1, oI u0, oI u1, oR bl, oR br, oI kl, oI f0, oI f1, oI kr, oI g0, oI g1, .unset, .unset, .unset] [] _
      refine XS.iconst X31.here hx rfl (hb hby at_306) ?_
      refine XS.goto X31.here hx rfl (pc0 := 307) (pc' := 322) rfl (hb hby at_307) (by decide) (by decide) ?_
      refine XS.istore X31.here hx rfl (hb hby at_322) rfl (l' := #[oI p1, oI p2, oI p3, oI ll, oI rl, oI y0, oI y1, oI u0, oI u1, oR bl, oR br, oI kl, oI f0, oI f1, oI kr, oI g0, oI g1, oI (-1), .unset, .unset]) rfl ?_
      exact k
    · by_cases hc314_1 : kr < kl
      · refine ⟨(1 : Int32), (by simp only [if_neg hc303_0, if_pos hc314_1]), ?_⟩
        intro t k
        refine Rp299 t ?_
        refine XS.iload X31.here hx rfl (hb hby at_299) rfl ?_
        refine XS.iload X31.here hx rfl (hb hby at_301) rfl ?_
        refine XS.icmpYes X31.here hx rfl (pc0 := 303) (pc' := 310) rfl (hb hby at_303) rfl (flt hc303_0).2.1 (by decide) (by decide) ?_
        show oG p e below T31 m 310 #[oI p1, oI p2, oI p3, oI ll, oI rl, oI y0, oI y1, oI u0, oI u1, oR bl, oR br, oI kl, oI f0, oI f1, oI kr, oI g0, oI g1, .unset, .unset, .unset] [] _
        refine XS.iload X31.here hx rfl (hb hby at_310) rfl ?_
        refine XS.iload X31.here hx rfl (hb hby at_312) rfl ?_
        refine XS.icmpNo X31.here hx rfl (hb hby at_314) rfl (tlt hc314_1).2.2.2 ?_
        refine XS.iconst X31.here hx rfl (hb hby at_317) ?_
        show oG p e below T31 m 318 #[oI p1, oI p2, oI p3, oI ll, oI rl, oI y0, oI y1, oI u0, oI u1, oR bl, oR br, oI kl, oI f0, oI f1, oI kr, oI g0, oI g1, .unset, .unset, .unset] [(.int 1)] _
        refine XS.goto X31.here hx rfl (pc0 := 318) (pc' := 322) rfl (hb hby at_318) (by decide) (by decide) ?_
        refine XS.istore X31.here hx rfl (hb hby at_322) rfl (l' := #[oI p1, oI p2, oI p3, oI ll, oI rl, oI y0, oI y1, oI u0, oI u1, oR bl, oR br, oI kl, oI f0, oI f1, oI kr, oI g0, oI g1, oI 1, .unset, .unset]) rfl ?_
        exact k
      · refine ⟨(0 : Int32), (by simp only [if_neg hc303_0, if_neg hc314_1]), ?_⟩
        intro t k
        refine Rp299 t ?_
        refine XS.iload X31.here hx rfl (hb hby at_299) rfl ?_
        refine XS.iload X31.here hx rfl (hb hby at_301) rfl ?_
        refine XS.icmpYes X31.here hx rfl (pc0 := 303) (pc' := 310) rfl (hb hby at_303) rfl (flt hc303_0).2.1 (by decide) (by decide) ?_
        show oG p e below T31 m 310 #[oI p1, oI p2, oI p3, oI ll, oI rl, oI y0, oI y1, oI u0, oI u1, oR bl, oR br, oI kl, oI f0, oI f1, oI kr, oI g0, oI g1, .unset, .unset, .unset] [] _
        refine XS.iload X31.here hx rfl (hb hby at_310) rfl ?_
        refine XS.iload X31.here hx rfl (hb hby at_312) rfl ?_
        refine XS.icmpYes X31.here hx rfl (pc0 := 314) (pc' := 321) rfl (hb hby at_314) rfl (flt hc314_1).2.2.2 (by decide) (by decide) ?_
        refine XS.iconst X31.here hx rfl (hb hby at_321) ?_
        show oG p e below T31 m 322 #[oI p1, oI p2, oI p3, oI ll, oI rl, oI y0, oI y1, oI u0, oI u1, oR bl, oR br, oI kl, oI f0, oI f1, oI kr, oI g0, oI g1, .unset, .unset, .unset] [(.int 0)] _
        refine XS.istore X31.here hx rfl (hb hby at_322) rfl (l' := #[oI p1, oI p2, oI p3, oI ll, oI rl, oI y0, oI y1, oI u0, oI u1, oR bl, oR br, oI kl, oI f0, oI f1, oI kr, oI g0, oI g1, oI 0, .unset, .unset]) rfl ?_
        exact k
  have Rp263 : ∀ t, oG p e below T31 m 263 #[oI p1, oI p2, oI p3, oI ll, oI rl, oI y0, oI y1, oI u0, oI u1, oR bl, oR br, oI kl, oI f0, oI f1, oI kr, oI g0, oI g1, .unset, .unset, .unset] [] t → oG p e below T31 m 263 #[oI p1, oI p2, oI p3, oI ll, oI rl, oI y0, oI y1, oI u0, oI u1, oR bl, oR br, oI kl, oI f0, oI f1, oI kr, oI g0, oI g1, .unset, .unset, .unset] [] t := fun t k => k
  obtain ⟨wb, hwb, R40⟩ : ∃ (wb : Int32), wb = (if (1 : Int32) < kl then (if (1 : Int32) < kr then (if f1 = g1 then wa else (if f1 < g1 then (-1 : Int32) else (1 : Int32))) else wa) else wa) ∧ (∀ t, oG p e below T31 m 324 #[oI p1, oI p2, oI p3, oI ll, oI rl, oI y0, oI y1, oI u0, oI u1, oR bl, oR br, oI kl, oI f0, oI f1, oI kr, oI g0, oI g1, oI wb, .unset, .unset] [] t → oG p e below T31 m 263 #[oI p1, oI p2, oI p3, oI ll, oI rl, oI y0, oI y1, oI u0, oI u1, oR bl, oR br, oI kl, oI f0, oI f1, oI kr, oI g0, oI g1, .unset, .unset, .unset] [] t) := by
    by_cases hc266_0 : (1 : Int32) < kl
    · by_cases hc272_1 : (1 : Int32) < kr
      · by_cases hc279_2 : f1 = g1
        · refine ⟨wa, (by simp only [if_pos hc266_0, if_pos hc272_1, if_pos hc279_2]), ?_⟩
          intro t k
          refine Rp263 t ?_
          refine XS.iload X31.here hx rfl (hb hby at_263) rfl ?_
          refine XS.iconst X31.here hx rfl (hb hby at_265) ?_
          refine XS.icmpNo X31.here hx rfl (hb hby at_266) rfl (tlt hc266_0).2.2.2 ?_
          show oG p e below T31 m 269 #[oI p1, oI p2, oI p3, oI ll, oI rl, oI y0, oI y1, oI u0, oI u1, oR bl, oR br, oI kl, oI f0, oI f1, oI kr, oI g0, oI g1, .unset, .unset, .unset] [] _
          refine XS.iload X31.here hx rfl (hb hby at_269) rfl ?_
          refine XS.iconst X31.here hx rfl (hb hby at_271) ?_
          refine XS.icmpNo X31.here hx rfl (hb hby at_272) rfl (tlt hc272_1).2.2.2 ?_
          refine XS.iload X31.here hx rfl (hb hby at_275) rfl ?_
          show oG p e below T31 m 277 #[oI p1, oI p2, oI p3, oI ll, oI rl, oI y0, oI y1, oI u0, oI u1, oR bl, oR br, oI kl, oI f0, oI f1, oI kr, oI g0, oI g1, .unset, .unset, .unset] [(.int f1)] _
          refine XS.iload X31.here hx rfl (hb hby at_277) rfl ?_
          refine XS.icmpYes X31.here hx rfl (pc0 := 279) (pc' := 299) rfl (hb hby at_279) rfl (teq hc279_2).1 (by decide) (by decide) ?_
          refine R39 t ?_
          exact k
        · by_cases hc286_3 : f1 < g1
          · refine ⟨(-1 : Int32), (by simp only [if_pos hc266_0, if_pos hc272_1, if_neg hc279_2, if_pos hc286_3]), ?_⟩
            intro t k
            refine Rp263 t ?_
            refine XS.iload X31.here hx rfl (hb hby at_263) rfl ?_
            refine XS.iconst X31.here hx rfl (hb hby at_265) ?_
            refine XS.icmpNo X31.here hx rfl (hb hby at_266) rfl (tlt hc266_0).2.2.2 ?_
            show oG p e below T31 m 269 #[oI p1, oI p2, oI p3, oI ll, oI rl, oI y0, oI y1, oI u0, oI u1, oR bl, oR br, oI kl, oI f0, oI f1, oI kr, oI g0, oI g1, .unset, .unset, .unset] [] _
            refine XS.iload X31.here hx rfl (hb hby at_269) rfl ?_
            refine XS.iconst X31.here hx rfl (hb hby at_271) ?_
            refine XS.icmpNo X31.here hx rfl (hb hby at_272) rfl (tlt hc272_1).2.2.2 ?_
            refine XS.iload X31.here hx rfl (hb hby at_275) rfl ?_
            show oG p e below T31 m 277 #[oI p1, oI p2, oI p3, oI ll, oI rl, oI y0, oI y1, oI u0, oI u1, oR bl, oR br, oI kl, oI f0, oI f1, oI kr, oI g0, oI g1, .unset, .unset, .unset] [(.int f1)] _
            refine XS.iload X31.here hx rfl (hb hby at_277) rfl ?_
            refine XS.icmpNo X31.here hx rfl (hb hby at_279) rfl (feq hc279_2).1 ?_
            refine XS.iload X31.here hx rfl (hb hby at_282) rfl ?_
            refine XS.iload X31.here hx rfl (hb hby at_284) rfl ?_
            show oG p e below T31 m 286 #[oI p1, oI p2, oI p3, oI ll, oI rl, oI y0, oI y1, oI u0, oI u1, oR bl, oR br, oI kl, oI f0, oI f1, oI kr, oI g0, oI g1, .unset, .unset, .unset] [(.int g1), (.int f1)] _
            refine XS.icmpNo X31.here hx rfl (hb hby at_286) rfl (tlt hc286_3).2.1 ?_
            refine XS.iconst X31.here hx rfl (hb hby at_289) ?_
            refine XS.goto X31.here hx rfl (pc0 := 290) (pc' := 294) rfl (hb hby at_290) (by decide) (by decide) ?_
            refine XS.istore X31.here hx rfl (hb hby at_294) rfl (l' := #[oI p1, oI p2, oI p3, oI ll, oI rl, oI y0, oI y1, oI u0, oI u1, oR bl, oR br, oI kl, oI f0, oI f1, oI kr, oI g0, oI g1, oI (-1), .unset, .unset]) rfl ?_
            show oG p e below T31 m 296 #[oI p1, oI p2, oI p3, oI ll, oI rl, oI y0, oI y1, oI u0, oI u1, oR bl, oR br, oI kl, oI f0, oI f1, oI kr, oI g0, oI g1, oI (-1), .unset, .unset] [] _
            refine XS.goto X31.here hx rfl (pc0 := 296) (pc' := 324) rfl (hb hby at_296) (by decide) (by decide) ?_
            exact k
          · refine ⟨(1 : Int32), (by simp only [if_pos hc266_0, if_pos hc272_1, if_neg hc279_2, if_neg hc286_3]), ?_⟩
            intro t k
            refine Rp263 t ?_
            refine XS.iload X31.here hx rfl (hb hby at_263) rfl ?_
            refine XS.iconst X31.here hx rfl (hb hby at_265) ?_
            refine XS.icmpNo X31.here hx rfl (hb hby at_266) rfl (tlt hc266_0).2.2.2 ?_
            show oG p e below T31 m 269 #[oI p1, oI p2, oI p3, oI ll, oI rl, oI y0, oI y1, oI u0, oI u1, oR bl, oR br, oI kl, oI f0, oI f1, oI kr, oI g0, oI g1, .unset, .unset, .unset] [] _
            refine XS.iload X31.here hx rfl (hb hby at_269) rfl ?_
            refine XS.iconst X31.here hx rfl (hb hby at_271) ?_
            refine XS.icmpNo X31.here hx rfl (hb hby at_272) rfl (tlt hc272_1).2.2.2 ?_
            refine XS.iload X31.here hx rfl (hb hby at_275) rfl ?_
            show oG p e below T31 m 277 #[oI p1, oI p2, oI p3, oI ll, oI rl, oI y0, oI y1, oI u0, oI u1, oR bl, oR br, oI kl, oI f0, oI f1, oI kr, oI g0, oI g1, .unset, .unset, .unset] [(.int f1)] _
            refine XS.iload X31.here hx rfl (hb hby at_277) rfl ?_
            refine XS.icmpNo X31.here hx rfl (hb hby at_279) rfl (feq hc279_2).1 ?_
            refine XS.iload X31.here hx rfl (hb hby at_282) rfl ?_
            refine XS.iload X31.here hx rfl (hb hby at_284) rfl ?_
            show oG p e below T31 m 286 #[oI p1, oI p2, oI p3, oI ll, oI rl, oI y0, oI y1, oI u0, oI u1, oR bl, oR br, oI kl, oI f0, oI f1, oI kr, oI g0, oI g1, .unset, .unset, .unset] [(.int g1), (.int f1)] _
            refine XS.icmpYes X31.here hx rfl (pc0 := 286) (pc' := 293) rfl (hb hby at_286) rfl (flt hc286_3).2.1 (by decide) (by decide) ?_
            refine XS.iconst X31.here hx rfl (hb hby at_293) ?_
            refine XS.istore X31.here hx rfl (hb hby at_294) rfl (l' := #[oI p1, oI p2, oI p3, oI ll, oI rl, oI y0, oI y1, oI u0, oI u1, oR bl, oR br, oI kl, oI f0, oI f1, oI kr, oI g0, oI g1, oI 1, .unset, .unset]) rfl ?_
            refine XS.goto X31.here hx rfl (pc0 := 296) (pc' := 324) rfl (hb hby at_296) (by decide) (by decide) ?_
            exact k
      · refine ⟨wa, (by simp only [if_pos hc266_0, if_neg hc272_1]), ?_⟩
        intro t k
        refine Rp263 t ?_
        refine XS.iload X31.here hx rfl (hb hby at_263) rfl ?_
        refine XS.iconst X31.here hx rfl (hb hby at_265) ?_
        refine XS.icmpNo X31.here hx rfl (hb hby at_266) rfl (tlt hc266_0).2.2.2 ?_
        show oG p e below T31 m 269 #[oI p1, oI p2, oI p3, oI ll, oI rl, oI y0, oI y1, oI u0, oI u1, oR bl, oR br, oI kl, oI f0, oI f1, oI kr, oI g0, oI g1, .unset, .unset, .unset] [] _
        refine XS.iload X31.here hx rfl (hb hby at_269) rfl ?_
        refine XS.iconst X31.here hx rfl (hb hby at_271) ?_
        refine XS.icmpYes X31.here hx rfl (pc0 := 272) (pc' := 299) rfl (hb hby at_272) rfl (flt hc272_1).2.2.2 (by decide) (by decide) ?_
        refine R39 t ?_
        exact k
    · refine ⟨wa, (by simp only [if_neg hc266_0]), ?_⟩
      intro t k
      refine Rp263 t ?_
      refine XS.iload X31.here hx rfl (hb hby at_263) rfl ?_
      refine XS.iconst X31.here hx rfl (hb hby at_265) ?_
      refine XS.icmpYes X31.here hx rfl (pc0 := 266) (pc' := 299) rfl (hb hby at_266) rfl (flt hc266_0).2.2.2 (by decide) (by decide) ?_
      refine R39 t ?_
      exact k
  obtain ⟨want, hwant, R41⟩ : ∃ (want : Int32), want = (if (0 : Int32) < kl then (if (0 : Int32) < kr then (if f0 = g0 then wb else (if f0 < g0 then (-1 : Int32) else (1 : Int32))) else wb) else wb) ∧ (∀ t, oG p e below T31 m 324 #[oI p1, oI p2, oI p3, oI ll, oI rl, oI y0, oI y1, oI u0, oI u1, oR bl, oR br, oI kl, oI f0, oI f1, oI kr, oI g0, oI g1, oI want, .unset, .unset] [] t → Steps p.tables e below (s₁.setTop (entryFrame m #[(.int p1), (.int p2), (.int p3)] maxLocals)) t) := by
    by_cases hc231_0 : (0 : Int32) < kl
    · by_cases hc236_1 : (0 : Int32) < kr
      · by_cases hc243_2 : f0 = g0
        · refine ⟨wb, (by simp only [if_pos hc231_0, if_pos hc236_1, if_pos hc243_2]), ?_⟩
          intro t k
          refine R38 t ?_
          refine XS.iload X31.here hx rfl (hb hby at_229) rfl ?_
          refine XS.ifNo X31.here hx rfl (hb hby at_231) rfl ((if0 _ _).trans (tlt hc231_0).2.2.2) ?_
          refine XS.iload X31.here hx rfl (hb hby at_234) rfl ?_
          show oG p e below T31 m 236 #[oI p1, oI p2, oI p3, oI ll, oI rl, oI y0, oI y1, oI u0, oI u1, oR bl, oR br, oI kl, oI f0, oI f1, oI kr, oI g0, oI g1, .unset, .unset, .unset] [(.int kr)] _
          refine XS.ifNo X31.here hx rfl (hb hby at_236) rfl ((if0 _ _).trans (tlt hc236_1).2.2.2) ?_
          refine XS.iload X31.here hx rfl (hb hby at_239) rfl ?_
          refine XS.iload X31.here hx rfl (hb hby at_241) rfl ?_
          refine XS.icmpYes X31.here hx rfl (pc0 := 243) (pc' := 263) rfl (hb hby at_243) rfl (teq hc243_2).1 (by decide) (by decide) ?_
          refine R40 t ?_
          exact k
        · by_cases hc250_3 : f0 < g0
          · refine ⟨(-1 : Int32), (by simp only [if_pos hc231_0, if_pos hc236_1, if_neg hc243_2, if_pos hc250_3]), ?_⟩
            intro t k
            refine R38 t ?_
            refine XS.iload X31.here hx rfl (hb hby at_229) rfl ?_
            refine XS.ifNo X31.here hx rfl (hb hby at_231) rfl ((if0 _ _).trans (tlt hc231_0).2.2.2) ?_
            refine XS.iload X31.here hx rfl (hb hby at_234) rfl ?_
            show oG p e below T31 m 236 #[oI p1, oI p2, oI p3, oI ll, oI rl, oI y0, oI y1, oI u0, oI u1, oR bl, oR br, oI kl, oI f0, oI f1, oI kr, oI g0, oI g1, .unset, .unset, .unset] [(.int kr)] _
            refine XS.ifNo X31.here hx rfl (hb hby at_236) rfl ((if0 _ _).trans (tlt hc236_1).2.2.2) ?_
            refine XS.iload X31.here hx rfl (hb hby at_239) rfl ?_
            refine XS.iload X31.here hx rfl (hb hby at_241) rfl ?_
            refine XS.icmpNo X31.here hx rfl (hb hby at_243) rfl (feq hc243_2).1 ?_
            show oG p e below T31 m 246 #[oI p1, oI p2, oI p3, oI ll, oI rl, oI y0, oI y1, oI u0, oI u1, oR bl, oR br, oI kl, oI f0, oI f1, oI kr, oI g0, oI g1, .unset, .unset, .unset] [] _
            refine XS.iload X31.here hx rfl (hb hby at_246) rfl ?_
            refine XS.iload X31.here hx rfl (hb hby at_248) rfl ?_
            refine XS.icmpNo X31.here hx rfl (hb hby at_250) rfl (tlt hc250_3).2.1 ?_
            refine XS.iconst X31.here hx rfl (hb hby at_253) ?_
            show oG p e below T31 m 254 #[oI p1, oI p2, oI p3, oI ll, oI rl, oI y0, oI y1, oI u0, oI u1, oR bl, oR br, oI kl, oI f0, oI f1, oI kr, oI g0, oI g1, .unset, .unset, .unset] [(.int (-1))] _
            refine XS.goto X31.here hx rfl (pc0 := 254) (pc' := 258) rfl (hb hby at_254) (by decide) (by decide) ?_
            refine XS.istore X31.here hx rfl (hb hby at_258) rfl (l' := #[oI p1, oI p2, oI p3, oI ll, oI rl, oI y0, oI y1, oI u0, oI u1, oR bl, oR br, oI kl, oI f0, oI f1, oI kr, oI g0, oI g1, oI (-1), .unset, .unset]) rfl ?_
            refine XS.goto X31.here hx rfl (pc0 := 260) (pc' := 324) rfl (hb hby at_260) (by decide) (by decide) ?_
            exact k
          · refine ⟨(1 : Int32), (by simp only [if_pos hc231_0, if_pos hc236_1, if_neg hc243_2, if_neg hc250_3]), ?_⟩
            intro t k
            refine R38 t ?_
            refine XS.iload X31.here hx rfl (hb hby at_229) rfl ?_
            refine XS.ifNo X31.here hx rfl (hb hby at_231) rfl ((if0 _ _).trans (tlt hc231_0).2.2.2) ?_
            refine XS.iload X31.here hx rfl (hb hby at_234) rfl ?_
            show oG p e below T31 m 236 #[oI p1, oI p2, oI p3, oI ll, oI rl, oI y0, oI y1, oI u0, oI u1, oR bl, oR br, oI kl, oI f0, oI f1, oI kr, oI g0, oI g1, .unset, .unset, .unset] [(.int kr)] _
            refine XS.ifNo X31.here hx rfl (hb hby at_236) rfl ((if0 _ _).trans (tlt hc236_1).2.2.2) ?_
            refine XS.iload X31.here hx rfl (hb hby at_239) rfl ?_
            refine XS.iload X31.here hx rfl (hb hby at_241) rfl ?_
            refine XS.icmpNo X31.here hx rfl (hb hby at_243) rfl (feq hc243_2).1 ?_
            show oG p e below T31 m 246 #[oI p1, oI p2, oI p3, oI ll, oI rl, oI y0, oI y1, oI u0, oI u1, oR bl, oR br, oI kl, oI f0, oI f1, oI kr, oI g0, oI g1, .unset, .unset, .unset] [] _
            refine XS.iload X31.here hx rfl (hb hby at_246) rfl ?_
            refine XS.iload X31.here hx rfl (hb hby at_248) rfl ?_
            refine XS.icmpYes X31.here hx rfl (pc0 := 250) (pc' := 257) rfl (hb hby at_250) rfl (flt hc250_3).2.1 (by decide) (by decide) ?_
            refine XS.iconst X31.here hx rfl (hb hby at_257) ?_
            show oG p e below T31 m 258 #[oI p1, oI p2, oI p3, oI ll, oI rl, oI y0, oI y1, oI u0, oI u1, oR bl, oR br, oI kl, oI f0, oI f1, oI kr, oI g0, oI g1, .unset, .unset, .unset] [(.int 1)] _
            refine XS.istore X31.here hx rfl (hb hby at_258) rfl (l' := #[oI p1, oI p2, oI p3, oI ll, oI rl, oI y0, oI y1, oI u0, oI u1, oR bl, oR br, oI kl, oI f0, oI f1, oI kr, oI g0, oI g1, oI 1, .unset, .unset]) rfl ?_
            refine XS.goto X31.here hx rfl (pc0 := 260) (pc' := 324) rfl (hb hby at_260) (by decide) (by decide) ?_
            exact k
      · refine ⟨wb, (by simp only [if_pos hc231_0, if_neg hc236_1]), ?_⟩
        intro t k
        refine R38 t ?_
        refine XS.iload X31.here hx rfl (hb hby at_229) rfl ?_
        refine XS.ifNo X31.here hx rfl (hb hby at_231) rfl ((if0 _ _).trans (tlt hc231_0).2.2.2) ?_
        refine XS.iload X31.here hx rfl (hb hby at_234) rfl ?_
        show oG p e below T31 m 236 #[oI p1, oI p2, oI p3, oI ll, oI rl, oI y0, oI y1, oI u0, oI u1, oR bl, oR br, oI kl, oI f0, oI f1, oI kr, oI g0, oI g1, .unset, .unset, .unset] [(.int kr)] _
        refine XS.ifYes X31.here hx rfl (pc0 := 236) (pc' := 263) rfl (hb hby at_236) rfl ((if0 _ _).trans (flt hc236_1).2.2.2) (by decide) (by decide) ?_
        refine R40 t ?_
        exact k
    · refine ⟨wb, (by simp only [if_neg hc231_0]), ?_⟩
      intro t k
      refine R38 t ?_
      refine XS.iload X31.here hx rfl (hb hby at_229) rfl ?_
      refine XS.ifYes X31.here hx rfl (pc0 := 231) (pc' := 263) rfl (hb hby at_231) rfl ((if0 _ _).trans (flt hc231_0).2.2.2) (by decide) (by decide) ?_
      refine R40 t ?_
      exact k
  have R42 : ∀ t, oG p e below T31 m 328 #[oI p1, oI p2, oI p3, oI ll, oI rl, oI y0, oI y1, oI u0, oI u1, oR bl, oR br, oI kl, oI f0, oI f1, oI kr, oI g0, oI g1, oI want, .unset, .unset] [(.ref br), (.ref bl)] t → Steps p.tables e below (s₁.setTop (entryFrame m #[(.int p1), (.int p2), (.int p3)] maxLocals)) t := by
    intro t k
    refine R41 t ?_
    refine XS.aload X31.here hx rfl (hb hby at_324) rfl rfl ?_
    refine XS.aload X31.here hx rfl (hb hby at_326) rfl rfl ?_
    exact k
  obtain ⟨_, _, ⟨T43, L43, k43, n43⟩, -, X43, ⟨Lc43, hQ43, l43, y43, z43⟩, st43⟩ := Jvm.LawKit.callS X31 hx (y := (⟨"com/example/firm_store/firmstore/Identifiers", "compareCodePoints", "(Ljava/lang/String;Ljava/lang/String;)I"⟩ : MethodName)) hown (mvT hZ (oW hw 53 rfl)) (mvT hZ (oW hw 54 rfl)) (mvT hZ (oW hw 55 rfl)) (mvT hZ (oW hw 56 rfl)) (by decide) (backOf (W := 0) (rmCmp l s a0 hw [] bl br ll rl y0 y1 u0 u1 cz fm T18.heap n0 Z18 SU f19 hn hm Sl Sr ry0 ry1 ru0 ru1) hZ (oW hw 56 rfl) (oW hw 55 rfl) (by decide) (by decide)) (g := (mkF m 328 #[oI p1, oI p2, oI p3, oI ll, oI rl, oI y0, oI y1, oI u0, oI u1, oR bl, oR br, oI kl, oI f0, oI f1, oI kr, oI g0, oI g1, oI want, .unset, .unset] [(.ref br), (.ref bl)])) rfl (by rw [hml]; rfl) (argsL := [(.ref bl), (.ref br)]) (rest := []) (lenOf own_pd10 rfl) rfl (by show 2 * 0 + _ ≤ _; exact Nat.le_of_eq rfl) (hb hby at_328) (fun _ _ => ⟨rfl, eq31, (by decide : 16 + 0 ≤ _), (by decide : 80 + 0 ≤ _)⟩)
  dsimp only [Pt.U, Pt.locs, Pt.cells, Pt.slots] at X43 l43 y43 z43 st43 hQ43
  subst l43 y43 z43
  obtain ⟨rfl, Nq43, eq43⟩ := hQ43
  have N43 := Fr.app N31 Nq43
  have R43 : ∀ t, oG p e below T43 m 331 #[oI p1, oI p2, oI p3, oI ll, oI rl, oI y0, oI y1, oI u0, oI u1, oR bl, oR br, oI kl, oI f0, oI f1, oI kr, oI g0, oI g1, oI want, .unset, .unset] [(.int (own_cmp ll rl y0 y1 u0 u1))] t → Steps p.tables e below (s₁.setTop (entryFrame m #[(.int p1), (.int p2), (.int p3)] maxLocals)) t := fun t k => R42 t (st43 t k)
  have R44 : ∀ t, oG p e below T43 m 333 #[oI p1, oI p2, oI p3, oI ll, oI rl, oI y0, oI y1, oI u0, oI u1, oR bl, oR br, oI kl, oI f0, oI f1, oI kr, oI g0, oI g1, oI want, oI (own_cmp ll rl y0 y1 u0 u1), .unset] [] t → Steps p.tables e below (s₁.setTop (entryFrame m #[(.int p1), (.int p2), (.int p3)] maxLocals)) t := by
    intro t k
    refine R43 t ?_
    refine XS.istore X43.here hx rfl (hb hby at_331) rfl (l' := #[oI p1, oI p2, oI p3, oI ll, oI rl, oI y0, oI y1, oI u0, oI u1, oR bl, oR br, oI kl, oI f0, oI f1, oI kr, oI g0, oI g1, oI want, oI (own_cmp ll rl y0 y1 u0 u1), .unset]) rfl ?_
    exact k
  obtain ⟨got, hgot⟩ : ∃ z : Int32, z = (own_cmp ll rl y0 y1 u0 u1) := ⟨_, rfl⟩
  have R45 : ∀ t, oG p e below T43 m 333 #[oI p1, oI p2, oI p3, oI ll, oI rl, oI y0, oI y1, oI u0, oI u1, oR bl, oR br, oI kl, oI f0, oI f1, oI kr, oI g0, oI g1, oI want, oI got, .unset] [] t → Steps p.tables e below (s₁.setTop (entryFrame m #[(.int p1), (.int p2), (.int p3)] maxLocals)) t := by rw [hgot]; exact R44
  obtain ⟨sg, hsg, R46⟩ : ∃ (sg : Int32), sg = (if got < (0 : Int32) then (-1 : Int32) else (if (0 : Int32) < got then (1 : Int32) else (0 : Int32))) ∧ (∀ t, oG p e below T43 m 354 #[oI p1, oI p2, oI p3, oI ll, oI rl, oI y0, oI y1, oI u0, oI u1, oR bl, oR br, oI kl, oI f0, oI f1, oI kr, oI g0, oI g1, oI want, oI got, oI sg] [] t → Steps p.tables e below (s₁.setTop (entryFrame m #[(.int p1), (.int p2), (.int p3)] maxLocals)) t) := by
    by_cases hc335_0 : got < (0 : Int32)
    · refine ⟨(-1 : Int32), (by simp only [if_pos hc335_0]), ?_⟩
      intro t k
      refine R45 t ?_
      refine XS.iload X43.here hx rfl (hb hby at_333) rfl ?_
      refine XS.ifNo X43.here hx rfl (hb hby at_335) rfl ((if0 _ _).trans (tlt hc335_0).2.1) ?_
      refine XS.iconst X43.here hx rfl (hb hby at_338) ?_
      show oG p e below T43 m 339 #[oI p1, oI p2, oI p3, oI ll, oI rl, oI y0, oI y1, oI u0, oI u1, oR bl, oR br, oI kl, oI f0, oI f1, oI kr, oI g0, oI g1, oI want, oI got, .unset] [(.int (-1))] _
      refine XS.goto X43.here hx rfl (pc0 := 339) (pc' := 352) rfl (hb hby at_339) (by decide) (by decide) ?_
      refine XS.istore X43.here hx rfl (hb hby at_352) rfl (l' := #[oI p1, oI p2, oI p3, oI ll, oI rl, oI y0, oI y1, oI u0, oI u1, oR bl, oR br, oI kl, oI f0, oI f1, oI kr, oI g0, oI g1, oI want, oI got, oI (-1)]) rfl ?_
      exact k
    · by_cases hc344_1 : (0 : Int32) < got
      · refine ⟨(1 : Int32), (by simp only [if_neg hc335_0, if_pos hc344_1]), ?_⟩
        intro t k
        refine R45 t ?_
        refine XS.iload X43.here hx rfl (hb hby at_333) rfl ?_
        refine XS.ifYes X43.here hx rfl (pc0 := 335) (pc' := 342) rfl (hb hby at_335) rfl ((if0 _ _).trans (flt hc335_0).2.1) (by decide) (by decide) ?_
        refine XS.iload X43.here hx rfl (hb hby at_342) rfl ?_
        show oG p e below T43 m 344 #[oI p1, oI p2, oI p3, oI ll, oI rl, oI y0, oI y1, oI u0, oI u1, oR bl, oR br, oI kl, oI f0, oI f1, oI kr, oI g0, oI g1, oI want, oI got, .unset] [(.int got)] _
        refine XS.ifNo X43.here hx rfl (hb hby at_344) rfl ((if0 _ _).trans (tlt hc344_1).2.2.2) ?_
        refine XS.iconst X43.here hx rfl (hb hby at_347) ?_
        refine XS.goto X43.here hx rfl (pc0 := 348) (pc' := 352) rfl (hb hby at_348) (by decide) (by decide) ?_
        refine XS.istore X43.here hx rfl (hb hby at_352) rfl (l' := #[oI p1, oI p2, oI p3, oI ll, oI rl, oI y0, oI y1, oI u0, oI u1, oR bl, oR br, oI kl, oI f0, oI f1, oI kr, oI g0, oI g1, oI want, oI got, oI 1]) rfl ?_
        exact k
      · refine ⟨(0 : Int32), (by simp only [if_neg hc335_0, if_neg hc344_1]), ?_⟩
        intro t k
        refine R45 t ?_
        refine XS.iload X43.here hx rfl (hb hby at_333) rfl ?_
        refine XS.ifYes X43.here hx rfl (pc0 := 335) (pc' := 342) rfl (hb hby at_335) rfl ((if0 _ _).trans (flt hc335_0).2.1) (by decide) (by decide) ?_
        refine XS.iload X43.here hx rfl (hb hby at_342) rfl ?_
        show oG p e below T43 m 344 #[oI p1, oI p2, oI p3, oI ll, oI rl, oI y0, oI y1, oI u0, oI u1, oR bl, oR br, oI kl, oI f0, oI f1, oI kr, oI g0, oI g1, oI want, oI got, .unset] [(.int got)] _
        refine XS.ifYes X43.here hx rfl (pc0 := 344) (pc' := 351) rfl (hb hby at_344) rfl ((if0 _ _).trans (flt hc344_1).2.2.2) (by decide) (by decide) ?_
        refine XS.iconst X43.here hx rfl (hb hby at_351) ?_
        refine XS.istore X43.here hx rfl (hb hby at_352) rfl (l' := #[oI p1, oI p2, oI p3, oI ll, oI rl, oI y0, oI y1, oI u0, oI u1, oR bl, oR br, oI kl, oI f0, oI f1, oI kr, oI g0, oI g1, oI want, oI got, oI 0]) rfl ?_
        exact k
  have R47 : ∀ t, oG p e below T43 m 358 #[oI p1, oI p2, oI p3, oI ll, oI rl, oI y0, oI y1, oI u0, oI u1, oR bl, oR br, oI kl, oI f0, oI f1, oI kr, oI g0, oI g1, oI want, oI got, oI sg] [(.int want), (.int sg)] t → Steps p.tables e below (s₁.setTop (entryFrame m #[(.int p1), (.int p2), (.int p3)] maxLocals)) t := by
    intro t k
    refine R46 t ?_
    refine XS.iload X43.here hx rfl (hb hby at_354) rfl ?_
    refine XS.iload X43.here hx rfl (hb hby at_356) rfl ?_
    exact k
  have hfin : sg = want := by rw [hsg, hwant, hwb, hwa, hgot, hkl, hkr, hf0, hf1, hg0, hg1]; exact own_law hn hm ry0 ry1 ru0 ru1
  have R48 : ∀ t, oG p e below T43 m 366 #[oI p1, oI p2, oI p3, oI ll, oI rl, oI y0, oI y1, oI u0, oI u1, oR bl, oR br, oI kl, oI f0, oI f1, oI kr, oI g0, oI g1, oI want, oI got, oI sg] [(.int 1)] t → Steps p.tables e below (s₁.setTop (entryFrame m #[(.int p1), (.int p2), (.int p3)] maxLocals)) t := by
    intro t k
    refine R47 t ?_
    refine XS.icmpNo X43.here hx rfl (hb hby at_358) rfl (teq hfin).2 ?_
    refine XS.iconst X43.here hx rfl (hb hby at_361) ?_
    refine XS.goto X43.here hx rfl (pc0 := 362) (pc' := 366) rfl (hb hby at_362) (by decide) (by decide) ?_
    exact k
  obtain ⟨fs, hr, hrun, hended, hEnd⟩ := X43.leaveW hS18 (Nat.le_of_eq (by rw [eq43])) (v := some (.int 1)) (fun h => by rw [Bd.returns] at h; cases h)
  refine ⟨_, _, R48 _ ?_, hrun, hended, _, _, rfl, ⟨rfl, N43⟩, own_endMono hEnd (by decide) (by decide)⟩
  exact retN X43 hx (t := .boolean) Bd.returns (by simp) (hb hby at_366) hr
set_option maxRecDepth 65536 in
set_option maxHeartbeats 40000000 in
theorem comes_1 {Post : Tables → Env → Array Value → State → Outcome → State → Prop} (hpost : ∀ tb e args s v u, (limb_1_1.after args s (.returned v) u = true ∧ limb_1_2.after args s (.returned v) u = true ∧ True) → ReturnedEndW s (.returned v) u (Jvm.fieldLocs frame_1_writes args s ++ Jvm.arrayLocs frame_1_arrays args s ++ Jvm.staticLocs frame_1_statics s) 32 1152 → Post tb e args s (.returned v) u) :
    ArmFor flags0 classFile x code maxLocals ret World_1 tables_1 room_1 Calls_1 rest_1 Pre_1 Post := by
  intro l hfl _ _ p e ha hc hk s m args below hf hA hF happ hP
  obtain ⟨hcalls, hrest, hpre⟩ := hP
  obtain ⟨-, -, -, hnamed, -, -, -, hat⟩ := (Spec.applies_iff hf).mp happ
  obtain ⟨hg, hn⟩ := and_e (Cond.before_iff.mp (show (Jvm.Cond.and given_1 narrow_1).before args s = true from hpre))
  obtain ⟨g1, g2⟩ := and_e hg
  obtain ⟨g3, g4⟩ := and_e g2
  obtain ⟨g5, g6⟩ := and_e g4
  obtain ⟨w0, w1, w2, rfl⟩ : ∃ w0 w1 w2 : Value, args = #[w0, w1, w2] := by
    have hs : args.size = 3 := by simpa [Cond.value, given_1] using g1
    obtain ⟨L⟩ := args
    match L, hs with
    | [w0, w1, w2], _ => exact ⟨w0, w1, w2, rfl⟩
  have hw := fun d (hd : d ∈ tables_1) => atoms_spec (ws := Jvm.Cond.code x code maxLocals ret :: tables_1) hat d (List.mem_cons_of_mem _ hd)
  have hfit : Fit s := fun {y c} hc i hi => by
    obtain ⟨ha, rfl⟩ := Array.getElem?_eq_some_iff.mp hc
    have q := List.all_eq_true.mp ((Array.all_eq_true_iff_forall_mem.mp hF) _ (Array.getElem_mem ha)) i (List.mem_range.mpr hi)
    simpa [Array.getElem?_eq_getElem hi] using q
  obtain ⟨i0, ei0⟩ := is_v g3
  obtain rfl : w0 = (.int i0) := Option.some.inj ei0
  obtain ⟨i1, ei1⟩ := is_v g5
  obtain rfl : w1 = (.int i1) := Option.some.inj ei1
  obtain ⟨i2, ei2⟩ := is_v g6
  obtain rfl : w2 = (.int i2) := Option.some.inj ei2
  obtain ⟨hsets, hown0⟩ := atoms_of _ (rest_1_c_eq ▸ (show rest_1_c.before _ s = true from hrest))
  obtain ⟨cz, ecz⟩ := is_v (Cond.before_iff.mp (hsets _ (List.mem_of_getElem? (i := 1) rfl)))
  have S1 : Sta s s.heap "java/lang/String" "COMPACT_STRINGS" "Z" (.int cz) := Sta.start ecz (Or.inl (hsets _ (List.mem_of_getElem? (i := 0) rfl)))
  have hcw : Jvm.Lit.compactW.before _ s = true := hsets _ (List.mem_of_getElem? (i := 2) rfl)
  have hcz : ¬ cz = (0 : Int32) := own_cz ecz hcw
  have S2 : Sta s s.heap "java/lang/StringUTF16" "$assertionsDisabled" "Z" (.int 1) := own_sta1 (hsets _ (List.mem_of_getElem? (i := 11) rfl)) (hsets _ (List.mem_of_getElem? (i := 12) rfl))
  have S3 : Sta s s.heap "java/lang/StringUTF16" "HI_BYTE_SHIFT" "I" (.int 0) := own_sta1 (hsets _ (List.mem_of_getElem? (i := 14) rfl)) (hsets _ (List.mem_of_getElem? (i := 15) rfl))
  have S4 : Sta s s.heap "java/lang/StringUTF16" "LO_BYTE_SHIFT" "I" (.int 8) := own_sta1 (hsets _ (List.mem_of_getElem? (i := 17) rfl)) (hsets _ (List.mem_of_getElem? (i := 18) rfl))
  obtain ⟨fm, efm, hfm⟩ := isR_v (Cond.before_iff.mp (hsets _ (List.mem_of_getElem? (i := 8) rfl)))
  have S5 : Sta s s.heap "jdk/internal/util/Preconditions" "SIOOBE_FORMATTER" "Ljava/util/function/BiFunction;" fm := Sta.start efm (Or.inl (hsets _ (List.mem_of_getElem? (i := 7) rfl)))
  have SU : own_St s cz fm := ⟨S1, hcz, S2, S3, S4, S5, hfm⟩
  have hheld : ∀ p ∈ own_EL, Jvm.Lit.constHeld s p.1 p.2 := fun p hp => by
      rw [List.mem_singleton.mp hp]; exact hcalls.1 _ (List.mem_of_getElem? (i := 0) rfl)
  obtain ⟨n, o, h1, h2, h3, _, L, rfl, ⟨rfl, N⟩, hq⟩ := rm0 l s _ hw tables_1 i0 i1 i2 cz fm s.heap s.heap.size (Nat.le_refl _) SU (Old.start s) hheld hcw p e ha hc hk s m _ below hf ((Spec.applies_iff_loose hf).mp happ).1 ⟨rfl, rfl, rfl⟩ trivial
  refine ⟨n, _, h1, h2, h3, hpost _ _ _ _ _ _ ⟨Cond.after_iff.mpr rfl, Cond.after_iff.mpr (eq_i res_at (Term.int_eval (1)) rfl), trivial⟩ ⟨hq.1, hq.2.1, hq.2.2.1, (hq.2.2.2.sift fun y hy => Or.inr (N y hy)).mono (by decide) (by decide)⟩⟩
theorem main_1_1 : Claimed_1_1 := comes_1 fun _ _ _ _ _ _ h hF => ⟨h.1, hF⟩
theorem main_1_2 : Claimed_1_2 := comes_1 fun _ _ _ _ _ _ h hF => ⟨h.2.1, hF⟩
end Jvm.Pilot.@@N@@
namespace Jvm.Pilot.@@N@@
open Jvm Jvm.ClassFile Sem Op Lib Jvm.Free Jvm.Stand Jvm.Pilot.@@N@@.Jvm.D
/-! MADE BY PROGRAM (witnessworld.py) out of the Statement's table words and the real class files: 23 classes; the members and pool entries that the words name. The judged class is class 1, her method 1. -/
namespace start1
open Jvm.ClassFile
def u (s : String) : CpInfo := .utf8 (stringToUtf16 s)
/-- a pool by its gaps: so many unusable entries, then the entry; so many at the end -/
def gap : Nat → List CpInfo → List CpInfo
  | 0, r => r
  | n + 1, r => .unusable :: gap n r
def poolList (es : List (Nat × CpInfo)) (last : Nat) : List CpInfo := es.foldr (fun e r => gap e.1 (e.2 :: r)) (gap last [])
def pool (es : List (Nat × CpInfo)) (last : Nat) : Array CpInfo := ⟨poolList es last⟩
def fileOf (pool : Array CpInfo) (this : Nat) (attrs : Array Attribute := #[]) (ms : Array MethodInfo := #[]) (fl : Nat := 33) (sup : Nat := 0) (ifs : Array Nat := #[]) (fds : Array FieldInfo := #[]) : ClassFile where
  minorVersion := 0
  majorVersion := 65
  constantPool := pool
  accessFlags := fl
  thisClass := this
  superClass := sup
  interfaces := ifs
  fields := fds
  methods := ms
  attributes := attrs
def plain (name : String) (sup : Option ClassId) : Class where
  name := name
  kind := .ordinary
  loader := none
  accessFlags := 33
  super := sup
  interfaces := #[]
  cf := none
  fields := #[]
  methods := #[]
  instanceTypes := #[]
  staticTypes := #[]
  resolved := #[]
  callSites := []
  init := .initialized
  statics := none
  mirror := none

def pool0 : Array CpInfo := pool [(5, u "<init>"), (0, u "()V"), (1, .class_ 10), (1, u "java/lang/Object")] 113

def k0c0 : Code := { maxStack := 0, maxLocals := 1, code := object_method_1_code, exceptionTable := #[], attributes := #[] }
def k0m0 : Method := { name := "<init>", desc := "()V", sig := { parameters := [], returnType := none }, accessFlags := 1, code := some k0c0 }
/-- java/lang/Object -/
def k0 : Class := { plain "java/lang/Object" none with
  accessFlags := 33
  interfaces := #[]
  cf := some (fileOf pool0 8 #[] #[{ accessFlags := 1, nameIndex := 5, descriptorIndex := 6, attributes := #[] }] 33 0 #[] #[])
  fields := #[]
  methods := #[k0m0]
  instanceTypes := #[]
  staticTypes := #[]
  resolved := Array.replicate 124 none
  statics := none }

def pool1 : Array CpInfo := pool [(2, .class_ 4), (1, u "java/lang/Object"), (0, u "<init>"), (0, u "()V"), (0, .integer 55296), (0, .integer 56320), (0, .methodref 10 11), (0, .class_ 12), (0, .nameAndType 13 14), (0, u "com/example/firm_store/firmstore/IdentifiersCompareCodePointsPinLaw"), (0, u "make"), (0, u "(ICC)Ljava/lang/String;"), (0, .methodref 10 16), (0, .nameAndType 17 18), (0, u "count"), (0, u "(ICC)I"), (0, .methodref 10 20), (0, .nameAndType 21 18), (0, u "first"), (0, .methodref 10 23), (0, .nameAndType 24 18), (0, u "second"), (0, .methodref 26 27), (0, .class_ 28), (0, .nameAndType 29 30), (0, u "com/example/firm_store/firmstore/Identifiers"), (0, u "compareCodePoints"), (0, u "(Ljava/lang/String;Ljava/lang/String;)I"), (0, .class_ 32), (0, u "java/lang/String"), (0, .methodref 31 34), (0, .nameAndType 5 35), (0, u "([C)V"), (0, .integer 56319), (0, .integer 57343), (0, .methodref 10 39), (0, .nameAndType 40 41), (0, u "isHigh"), (0, u "(C)Z"), (0, .methodref 10 43), (0, .nameAndType 44 41), (0, u "isLow"), (0, .methodref 10 46), (0, .nameAndType 47 48), (0, u "paired"), (0, u "(CC)Z"), (0, .integer 65536), (2, u "law"), (0, u "(III)Z")] 3

def k1m0 : Method := { name := "<init>", desc := "()V", sig := { parameters := [], returnType := none }, accessFlags := 1, code := none }
def k1c1 : Code := { maxStack := 3, maxLocals := 20, code := code, exceptionTable := #[], attributes := #[] }
def k1m1 : Method := { name := "law", desc := "(III)Z", sig := { parameters := [.int, .int, .int], returnType := some .boolean }, accessFlags := 9, code := some k1c1 }
def k1c2 : Code := { maxStack := 6, maxLocals := 3, code := method_3_code, exceptionTable := #[], attributes := #[] }
def k1m2 : Method := { name := "make", desc := "(ICC)Ljava/lang/String;", sig := { parameters := [.int, .char, .char], returnType := some (.object "java/lang/String") }, accessFlags := 10, code := some k1c2 }
def k1c3 : Code := { maxStack := 2, maxLocals := 1, code := method_4_code, exceptionTable := #[], attributes := #[] }
def k1m3 : Method := { name := "isHigh", desc := "(C)Z", sig := { parameters := [.char], returnType := some .boolean }, accessFlags := 10, code := some k1c3 }
def k1c4 : Code := { maxStack := 2, maxLocals := 1, code := method_5_code, exceptionTable := #[], attributes := #[] }
def k1m4 : Method := { name := "isLow", desc := "(C)Z", sig := { parameters := [.char], returnType := some .boolean }, accessFlags := 10, code := some k1c4 }
def k1c5 : Code := { maxStack := 1, maxLocals := 2, code := method_6_code, exceptionTable := #[], attributes := #[] }
def k1m5 : Method := { name := "paired", desc := "(CC)Z", sig := { parameters := [.char, .char], returnType := some .boolean }, accessFlags := 10, code := some k1c5 }
def k1c6 : Code := { maxStack := 2, maxLocals := 3, code := method_7_code, exceptionTable := #[], attributes := #[] }
def k1m6 : Method := { name := "count", desc := "(ICC)I", sig := { parameters := [.int, .char, .char], returnType := some .int }, accessFlags := 10, code := some k1c6 }
def k1c7 : Code := { maxStack := 3, maxLocals := 3, code := method_8_code, exceptionTable := #[], attributes := #[] }
def k1m7 : Method := { name := "first", desc := "(ICC)I", sig := { parameters := [.int, .char, .char], returnType := some .int }, accessFlags := 10, code := some k1c7 }
def k1c8 : Code := { maxStack := 2, maxLocals := 3, code := method_9_code, exceptionTable := #[], attributes := #[] }
def k1m8 : Method := { name := "second", desc := "(ICC)I", sig := { parameters := [.int, .char, .char], returnType := some .int }, accessFlags := 10, code := some k1c8 }
/-- com/example/firm_store/firmstore/IdentifiersCompareCodePointsPinLaw -/
def k1 : Class := { plain "com/example/firm_store/firmstore/IdentifiersCompareCodePointsPinLaw" (some 0) with
  accessFlags := 49
  interfaces := #[]
  cf := some (fileOf pool1 10 #[] #[{ accessFlags := 1, nameIndex := 5, descriptorIndex := 6, attributes := #[] }, { accessFlags := 9, nameIndex := 52, descriptorIndex := 53, attributes := #[] }, { accessFlags := 10, nameIndex := 13, descriptorIndex := 14, attributes := #[] }, { accessFlags := 10, nameIndex := 40, descriptorIndex := 41, attributes := #[] }, { accessFlags := 10, nameIndex := 44, descriptorIndex := 41, attributes := #[] }, { accessFlags := 10, nameIndex := 47, descriptorIndex := 48, attributes := #[] }, { accessFlags := 10, nameIndex := 17, descriptorIndex := 18, attributes := #[] }, { accessFlags := 10, nameIndex := 21, descriptorIndex := 18, attributes := #[] }, { accessFlags := 10, nameIndex := 24, descriptorIndex := 18, attributes := #[] }] 49 2 #[] #[])
  fields := #[]
  methods := #[k1m0, k1m1, k1m2, k1m3, k1m4, k1m5, k1m6, k1m7, k1m8]
  instanceTypes := #[]
  staticTypes := #[]
  resolved := Array.replicate 57 none
  statics := none }

def pool2 : Array CpInfo := pool [(1, .class_ 2), (0, u "java/io/Serializable"), (0, .class_ 4), (0, u "java/lang/Object")] 2

/-- java/io/Serializable -/
def k2 : Class := { plain "java/io/Serializable" (some 0) with
  accessFlags := 1537
  interfaces := #[]
  cf := some (fileOf pool2 1 #[] #[] 1537 3 #[] #[])
  fields := #[]
  methods := #[]
  instanceTypes := #[]
  staticTypes := #[]
  resolved := Array.replicate 7 none
  statics := none }

def pool3 : Array CpInfo := pool [(1, .class_ 2), (0, u "java/lang/Comparable"), (0, .class_ 4), (0, u "java/lang/Object")] 7

/-- java/lang/Comparable -/
def k3 : Class := { plain "java/lang/Comparable" (some 0) with
  accessFlags := 1537
  interfaces := #[]
  cf := some (fileOf pool3 1 #[] #[] 1537 3 #[] #[])
  fields := #[]
  methods := #[]
  instanceTypes := #[]
  staticTypes := #[]
  resolved := Array.replicate 12 none
  statics := none }

def pool4 : Array CpInfo := pool [(2, .class_ 4), (1, u "java/lang/CharSequence"), (42, .class_ 48), (0, u "java/lang/CharSequence$1CodePointIterator"), (10, .class_ 60), (0, u "java/lang/CharSequence$1CharIterator"), (5, .class_ 67), (0, u "java/lang/Object")] 63

/-- java/lang/CharSequence -/
def k4 : Class := { plain "java/lang/CharSequence" (some 0) with
  accessFlags := 1537
  interfaces := #[]
  cf := some (fileOf pool4 2 #[.nestMembers #[47, 59]] #[] 1537 66 #[] #[])
  fields := #[]
  methods := #[]
  instanceTypes := #[]
  staticTypes := #[]
  resolved := Array.replicate 131 none
  statics := none }

def pool5 : Array CpInfo := pool [(1, .class_ 2), (0, u "java/lang/constant/Constable"), (0, .class_ 4), (0, u "java/lang/Object")] 6

/-- java/lang/constant/Constable -/
def k5 : Class := { plain "java/lang/constant/Constable" (some 0) with
  accessFlags := 1537
  interfaces := #[]
  cf := some (fileOf pool5 1 #[] #[] 1537 3 #[] #[])
  fields := #[]
  methods := #[]
  instanceTypes := #[]
  staticTypes := #[]
  resolved := Array.replicate 11 none
  statics := none }

def pool6 : Array CpInfo := pool [(1, .class_ 2), (0, u "java/lang/constant/ConstantDesc"), (0, .class_ 4), (0, u "java/lang/Object")] 32

/-- java/lang/constant/ConstantDesc -/
def k6 : Class := { plain "java/lang/constant/ConstantDesc" (some 0) with
  accessFlags := 1537
  interfaces := #[]
  cf := some (fileOf pool6 1 #[] #[] 1537 3 #[] #[])
  fields := #[]
  methods := #[]
  instanceTypes := #[]
  staticTypes := #[]
  resolved := Array.replicate 37 none
  statics := none }

def pool7 : Array CpInfo := pool [(1, .methodref 2 3), (0, .class_ 4), (0, .nameAndType 5 6), (0, u "java/lang/Object"), (0, u "<init>"), (0, u "()V"), (0, .string 8), (0, u ""), (0, .fieldref 10 11), (0, .class_ 12), (0, .nameAndType 13 14), (0, u "java/lang/String"), (0, u "value"), (0, u "[B"), (0, .fieldref 10 16), (0, .nameAndType 17 18), (0, u "coder"), (0, u "B"), (2, u "hash"), (0, u "I"), (2, u "hashIsZero"), (0, u "Z"), (0, .methodref 10 28), (0, .nameAndType 5 29), (0, u "([CIILjava/lang/Void;)V"), (8, .fieldref 10 39), (0, .nameAndType 40 26), (0, u "COMPACT_STRINGS"), (1, .class_ 44), (1, u "java/lang/StringUTF16"), (0, u "compress"), (1, .methodref 42 48), (0, .nameAndType 49 50), (0, u "coderFromArrayLen"), (0, u "([BI)B"), (46, u "([BII)I"), (44, u "()Z"), (34, .methodref 42 178), (0, .nameAndType 45 179), (0, u "([CII)[B"), (154, u "()I"), (0, .methodref 10 336), (0, .nameAndType 17 337), (0, u "()B"), (53, u "(II)V"), (100, .methodref 10 493), (0, .nameAndType 494 142), (0, u "isLatin1"), (4, .methodref 10 500), (0, .nameAndType 501 391), (0, u "checkIndex"), (0, .methodref 42 503), (0, .nameAndType 504 97), (0, u "codePointAt"), (2, u "length"), (67, .class_ 576), (0, u "java/lang/CharSequence"), (22, u "CASE_INSENSITIVE_ORDER"), (0, u "Ljava/util/Comparator;"), (164, u "(I)I"), (244, u "([C)V"), (42, .fieldref 1054 1055), (0, .class_ 1056), (0, .nameAndType 1057 1058), (0, u "jdk/internal/util/Preconditions"), (0, u "SIOOBE_FORMATTER"), (0, u "Ljava/util/function/BiFunction;"), (0, .methodref 1054 1060), (0, .nameAndType 501 1061), (0, u "(IILjava/util/function/BiFunction;)I"), (39, u "serialPersistentFields"), (0, u "[Ljava/io/ObjectStreamField;"), (0, .class_ 1104), (0, u "java/lang/String$CaseInsensitiveComparator"), (1, .class_ 1107), (0, u "java/io/Serializable"), (0, .class_ 1109), (0, u "java/lang/Comparable"), (0, .class_ 1111), (0, u "java/lang/constant/Constable"), (0, .class_ 1113), (0, u "java/lang/constant/ConstantDesc"), (2, u "serialVersionUID"), (0, u "J"), (3, u "REPL"), (0, u "C"), (2, u "LATIN1"), (1, u "UTF16")] 323

def k7m0 : Method := { name := "<init>", desc := "()V", sig := { parameters := [], returnType := none }, accessFlags := 1, code := none }
def k7c1 : Code := { maxStack := 5, maxLocals := 2, code := jdk_42_method_3_code, exceptionTable := #[], attributes := #[] }
def k7m1 : Method := { name := "<init>", desc := "([C)V", sig := { parameters := [(.array .char)], returnType := none }, accessFlags := 1, code := some k7c1 }
def k7c2 : Code := { maxStack := 2, maxLocals := 1, code := jdk_42_method_54_code, exceptionTable := #[], attributes := #[] }
def k7m2 : Method := { name := "length", desc := "()I", sig := { parameters := [], returnType := some .int }, accessFlags := 1, code := some k7c2 }
def k7c3 : Code := { maxStack := 3, maxLocals := 3, code := jdk_42_method_57_code, exceptionTable := #[], attributes := #[] }
def k7m3 : Method := { name := "codePointAt", desc := "(I)I", sig := { parameters := [.int], returnType := some .int }, accessFlags := 1, code := some k7c3 }
def k7c4 : Code := { maxStack := 4, maxLocals := 6, code := jdk_42_method_149_code, exceptionTable := #[], attributes := #[] }
def k7m4 : Method := { name := "<init>", desc := "([CIILjava/lang/Void;)V", sig := { parameters := [(.array .char), .int, .int, (.object "java/lang/Void")], returnType := none }, accessFlags := 2, code := some k7c4 }
def k7c5 : Code := { maxStack := 1, maxLocals := 1, code := jdk_42_method_152_code, exceptionTable := #[], attributes := #[] }
def k7m5 : Method := { name := "coder", desc := "()B", sig := { parameters := [], returnType := some .byte }, accessFlags := 0, code := some k7c5 }
def k7c6 : Code := { maxStack := 1, maxLocals := 1, code := jdk_42_method_154_code, exceptionTable := #[], attributes := #[] }
def k7m6 : Method := { name := "isLatin1", desc := "()Z", sig := { parameters := [], returnType := some .boolean }, accessFlags := 0, code := some k7c6 }
def k7c7 : Code := { maxStack := 3, maxLocals := 2, code := jdk_42_method_155_code, exceptionTable := #[], attributes := #[] }
def k7m7 : Method := { name := "checkIndex", desc := "(II)V", sig := { parameters := [.int, .int], returnType := none }, accessFlags := 8, code := some k7c7 }
/-- java/lang/String -/
def k7 : Class := { plain "java/lang/String" (some 0) with
  accessFlags := 49
  interfaces := #[2, 3, 4, 5, 6]
  cf := some (fileOf pool7 10 #[.nestMembers #[1103]] #[{ accessFlags := 1, nameIndex := 5, descriptorIndex := 6, attributes := #[] }, { accessFlags := 1, nameIndex := 5, descriptorIndex := 1010, attributes := #[] }, { accessFlags := 1, nameIndex := 507, descriptorIndex := 334, attributes := #[] }, { accessFlags := 1, nameIndex := 504, descriptorIndex := 765, attributes := #[] }, { accessFlags := 2, nameIndex := 5, descriptorIndex := 29, attributes := #[] }, { accessFlags := 0, nameIndex := 17, descriptorIndex := 337, attributes := #[] }, { accessFlags := 0, nameIndex := 494, descriptorIndex := 142, attributes := #[] }, { accessFlags := 8, nameIndex := 501, descriptorIndex := 391, attributes := #[] }] 49 2 #[1106, 1108, 575, 1110, 1112] #[{ accessFlags := 18, nameIndex := 13, descriptorIndex := 14, attributes := #[] }, { accessFlags := 18, nameIndex := 17, descriptorIndex := 18, attributes := #[] }, { accessFlags := 2, nameIndex := 21, descriptorIndex := 22, attributes := #[] }, { accessFlags := 2, nameIndex := 25, descriptorIndex := 26, attributes := #[] }, { accessFlags := 26, nameIndex := 1116, descriptorIndex := 1117, attributes := #[] }, { accessFlags := 24, nameIndex := 40, descriptorIndex := 26, attributes := #[] }, { accessFlags := 26, nameIndex := 1101, descriptorIndex := 1102, attributes := #[] }, { accessFlags := 26, nameIndex := 1121, descriptorIndex := 1122, attributes := #[] }, { accessFlags := 25, nameIndex := 599, descriptorIndex := 600, attributes := #[] }, { accessFlags := 24, nameIndex := 1125, descriptorIndex := 18, attributes := #[] }, { accessFlags := 24, nameIndex := 1127, descriptorIndex := 18, attributes := #[] }])
  fields := #[{ name := "value", type := (.array .byte), accessFlags := 18, slot := 0, constantValue := 0 }, { name := "coder", type := .byte, accessFlags := 18, slot := 1, constantValue := 0 }, { name := "hash", type := .int, accessFlags := 2, slot := 2, constantValue := 0 }, { name := "hashIsZero", type := .boolean, accessFlags := 2, slot := 3, constantValue := 0 }, { name := "serialVersionUID", type := .long, accessFlags := 26, slot := 0, constantValue := 0 }, { name := "COMPACT_STRINGS", type := .boolean, accessFlags := 24, slot := 1, constantValue := 0 }, { name := "serialPersistentFields", type := (.array (.object "java/io/ObjectStreamField")), accessFlags := 26, slot := 2, constantValue := 0 }, { name := "REPL", type := .char, accessFlags := 26, slot := 3, constantValue := 0 }, { name := "CASE_INSENSITIVE_ORDER", type := (.object "java/util/Comparator"), accessFlags := 25, slot := 4, constantValue := 0 }, { name := "LATIN1", type := .byte, accessFlags := 24, slot := 5, constantValue := 0 }, { name := "UTF16", type := .byte, accessFlags := 24, slot := 6, constantValue := 0 }]
  methods := #[k7m0, k7m1, k7m2, k7m3, k7m4, k7m5, k7m6, k7m7]
  instanceTypes := #[(.array .byte), .byte, .int, .boolean]
  staticTypes := #[.long, .boolean, (.array (.object "java/io/ObjectStreamField")), .char, (.object "java/util/Comparator"), .byte, .byte]
  resolved := Array.replicate 1451 none
  statics := some 0 }

def pool8 : Array CpInfo := pool [(6, .class_ 8), (1, u "java/lang/Object"), (0, u "<init>"), (0, u "()V"), (0, .methodref 12 13), (0, .class_ 14), (0, .nameAndType 15 16), (0, u "java/lang/StringUTF16"), (0, u "newBytesLength"), (0, u "(I)I"), (3, .integer 1073741823), (23, .fieldref 12 45), (0, .nameAndType 46 47), (0, u "$assertionsDisabled"), (0, u "Z"), (11, .fieldref 12 60), (0, .nameAndType 61 62), (0, u "HI_BYTE_SHIFT"), (0, u "I"), (0, .fieldref 12 64), (0, .nameAndType 65 62), (0, u "LO_BYTE_SHIFT"), (5, .methodref 12 72), (0, .nameAndType 73 74), (0, u "getChar"), (0, u "([BI)C"), (0, .methodref 76 77), (0, .class_ 78), (0, .nameAndType 79 80), (0, u "java/lang/Character"), (0, u "isHighSurrogate"), (0, u "(C)Z"), (0, .methodref 76 82), (0, .nameAndType 83 80), (0, u "isLowSurrogate"), (0, .methodref 76 85), (0, .nameAndType 86 87), (0, u "toCodePoint"), (0, u "(CC)I"), (0, .methodref 12 89), (0, .nameAndType 90 91), (0, u "codePointAt"), (0, u "([BIIZ)I"), (15, .methodref 12 108), (0, .nameAndType 109 110), (0, u "newBytesFor"), (0, u "(I)[B"), (0, .methodref 12 112), (0, .nameAndType 113 114), (0, u "putChar"), (0, u "([BII)V"), (0, .methodref 12 116), (0, .nameAndType 117 118), (0, u "compress"), (0, u "([CI[BII)I"), (0, .methodref 12 120), (0, .nameAndType 121 122), (0, u "toBytes"), (0, u "([CII)[B"), (127, u "([BII)I"), (10, u "coderFromArrayLen"), (0, u "([BI)B"), (106, .class_ 371), (1, u "java/lang/StringUTF16$LinesSpliterator"), (58, u "MAX_LENGTH"), (196, .class_ 628), (0, u "java/lang/StringUTF16$CodePointsSpliterator"), (0, .class_ 630), (0, u "java/lang/StringUTF16$CharsSpliterator")] 4

def k8m0 : Method := { name := "<init>", desc := "()V", sig := { parameters := [], returnType := none }, accessFlags := 0, code := none }
def k8c1 : Code := { maxStack := 1, maxLocals := 1, code := jdk_52_method_2_code, exceptionTable := #[], attributes := #[] }
def k8m1 : Method := { name := "newBytesFor", desc := "(I)[B", sig := { parameters := [.int], returnType := some (.array .byte) }, accessFlags := 9, code := some k8c1 }
def k8c2 : Code := { maxStack := 4, maxLocals := 1, code := jdk_52_method_3_code, exceptionTable := #[], attributes := #[] }
def k8m2 : Method := { name := "newBytesLength", desc := "(I)I", sig := { parameters := [.int], returnType := some .int }, accessFlags := 9, code := some k8c2 }
def k8c3 : Code := { maxStack := 4, maxLocals := 3, code := jdk_52_method_4_code, exceptionTable := #[], attributes := #[] }
def k8m3 : Method := { name := "putChar", desc := "([BII)V", sig := { parameters := [(.array .byte), .int, .int], returnType := none }, accessFlags := 8, code := some k8c3 }
def k8c4 : Code := { maxStack := 3, maxLocals := 2, code := jdk_52_method_5_code, exceptionTable := #[], attributes := #[] }
def k8m4 : Method := { name := "getChar", desc := "([BI)C", sig := { parameters := [(.array .byte), .int], returnType := some .char }, accessFlags := 8, code := some k8c4 }
def k8c5 : Code := { maxStack := 2, maxLocals := 6, code := jdk_52_method_7_code, exceptionTable := #[], attributes := #[] }
def k8m5 : Method := { name := "codePointAt", desc := "([BIIZ)I", sig := { parameters := [(.array .byte), .int, .int, .boolean], returnType := some .int }, accessFlags := 10, code := some k8c5 }
def k8c6 : Code := { maxStack := 4, maxLocals := 3, code := jdk_52_method_8_code, exceptionTable := #[], attributes := #[] }
def k8m6 : Method := { name := "codePointAt", desc := "([BII)I", sig := { parameters := [(.array .byte), .int, .int], returnType := some .int }, accessFlags := 9, code := some k8c6 }
def k8c7 : Code := { maxStack := 4, maxLocals := 5, code := jdk_52_method_14_code, exceptionTable := #[], attributes := #[] }
def k8m7 : Method := { name := "toBytes", desc := "([CII)[B", sig := { parameters := [(.array .char), .int, .int], returnType := some (.array .byte) }, accessFlags := 9, code := some k8c7 }
def k8c8 : Code := { maxStack := 2, maxLocals := 2, code := jdk_52_method_15_code, exceptionTable := #[], attributes := #[] }
def k8m8 : Method := { name := "coderFromArrayLen", desc := "([BI)B", sig := { parameters := [(.array .byte), .int], returnType := some .byte }, accessFlags := 8, code := some k8c8 }
def k8c9 : Code := { maxStack := 5, maxLocals := 6, code := jdk_52_method_16_code, exceptionTable := #[], attributes := #[] }
def k8m9 : Method := { name := "compress", desc := "([CII)[B", sig := { parameters := [(.array .char), .int, .int], returnType := some (.array .byte) }, accessFlags := 9, code := some k8c9 }
def k8c10 : Code := { maxStack := 3, maxLocals := 7, code := jdk_52_method_21_code, exceptionTable := #[], attributes := #[] }
def k8m10 : Method := { name := "compress", desc := "([CI[BII)I", sig := { parameters := [(.array .char), .int, (.array .byte), .int, .int], returnType := some .int }, accessFlags := 9, code := some k8c10 }
/-- java/lang/StringUTF16 -/
def k8 : Class := { plain "java/lang/StringUTF16" (some 0) with
  accessFlags := 48
  interfaces := #[]
  cf := some (fileOf pool8 12 #[.nestMembers #[627, 629, 369]] #[{ accessFlags := 0, nameIndex := 9, descriptorIndex := 10, attributes := #[] }, { accessFlags := 9, nameIndex := 109, descriptorIndex := 110, attributes := #[] }, { accessFlags := 9, nameIndex := 15, descriptorIndex := 16, attributes := #[] }, { accessFlags := 8, nameIndex := 113, descriptorIndex := 114, attributes := #[] }, { accessFlags := 8, nameIndex := 73, descriptorIndex := 74, attributes := #[] }, { accessFlags := 10, nameIndex := 90, descriptorIndex := 91, attributes := #[] }, { accessFlags := 9, nameIndex := 90, descriptorIndex := 250, attributes := #[] }, { accessFlags := 9, nameIndex := 121, descriptorIndex := 122, attributes := #[] }, { accessFlags := 8, nameIndex := 261, descriptorIndex := 262, attributes := #[] }, { accessFlags := 9, nameIndex := 117, descriptorIndex := 122, attributes := #[] }, { accessFlags := 9, nameIndex := 117, descriptorIndex := 118, attributes := #[] }] 48 6 #[] #[{ accessFlags := 26, nameIndex := 61, descriptorIndex := 62, attributes := #[] }, { accessFlags := 26, nameIndex := 65, descriptorIndex := 62, attributes := #[] }, { accessFlags := 24, nameIndex := 430, descriptorIndex := 62, attributes := #[] }, { accessFlags := 4120, nameIndex := 46, descriptorIndex := 47, attributes := #[] }])
  fields := #[{ name := "HI_BYTE_SHIFT", type := .int, accessFlags := 26, slot := 0, constantValue := 0 }, { name := "LO_BYTE_SHIFT", type := .int, accessFlags := 26, slot := 1, constantValue := 0 }, { name := "MAX_LENGTH", type := .int, accessFlags := 24, slot := 2, constantValue := 0 }, { name := "$assertionsDisabled", type := .boolean, accessFlags := 4120, slot := 3, constantValue := 0 }]
  methods := #[k8m0, k8m1, k8m2, k8m3, k8m4, k8m5, k8m6, k8m7, k8m8, k8m9, k8m10]
  instanceTypes := #[]
  staticTypes := #[.int, .int, .int, .boolean]
  resolved := Array.replicate 635 none
  statics := some 1 }

def pool9 : Array CpInfo := pool [(1, .class_ 2), (0, u "com/example/firm_store/firmstore/Identifiers"), (1, .class_ 6), (1, u "java/lang/Object"), (0, u "<init>"), (0, u "()V"), (35, .class_ 46), (1, u "java/lang/String"), (21, .class_ 69), (0, u "java/lang/Integer"), (4, u "NAME"), (0, u "Ljava/util/regex/Pattern;"), (12, .methodref 44 89), (0, .nameAndType 90 91), (0, u "length"), (0, u "()I"), (0, .methodref 44 93), (0, .nameAndType 94 95), (0, u "codePointAt"), (0, u "(I)I"), (0, .class_ 97), (0, u "java/lang/Character"), (20, .methodref 96 119), (0, .nameAndType 120 95), (0, u "charCount"), (10, .methodref 68 132), (0, .nameAndType 133 134), (0, u "compare"), (0, u "(II)I"), (31, u "MAX_NAME_LENGTH"), (0, u "I"), (2, u "MAX_ID_LENGTH"), (1, u "VERSION_FIELD"), (0, u "Ljava/lang/String;"), (0, u "NAME_RULE"), (2, u "EXCERPT_LENGTH"), (13, u "compareCodePoints"), (0, u "(Ljava/lang/String;Ljava/lang/String;)I")] 79

def k9m0 : Method := { name := "<init>", desc := "()V", sig := { parameters := [], returnType := none }, accessFlags := 2, code := none }
def k9c1 : Code := { maxStack := 2, maxLocals := 5, code := prog_6_method_10_code, exceptionTable := #[], attributes := #[] }
def k9m1 : Method := { name := "compareCodePoints", desc := "(Ljava/lang/String;Ljava/lang/String;)I", sig := { parameters := [(.object "java/lang/String"), (.object "java/lang/String")], returnType := some .int }, accessFlags := 8, code := some k9c1 }
/-- com/example/firm_store/firmstore/Identifiers -/
def k9 : Class := { plain "com/example/firm_store/firmstore/Identifiers" (some 0) with
  accessFlags := 32
  interfaces := #[]
  cf := some (fileOf pool9 1 #[] #[{ accessFlags := 2, nameIndex := 7, descriptorIndex := 8, attributes := #[] }, { accessFlags := 8, nameIndex := 191, descriptorIndex := 192, attributes := #[] }] 32 4 #[] #[{ accessFlags := 24, nameIndex := 166, descriptorIndex := 167, attributes := #[] }, { accessFlags := 24, nameIndex := 170, descriptorIndex := 167, attributes := #[] }, { accessFlags := 24, nameIndex := 172, descriptorIndex := 173, attributes := #[] }, { accessFlags := 26, nameIndex := 74, descriptorIndex := 75, attributes := #[] }, { accessFlags := 26, nameIndex := 174, descriptorIndex := 173, attributes := #[] }, { accessFlags := 26, nameIndex := 177, descriptorIndex := 167, attributes := #[] }])
  fields := #[{ name := "MAX_NAME_LENGTH", type := .int, accessFlags := 24, slot := 0, constantValue := 0 }, { name := "MAX_ID_LENGTH", type := .int, accessFlags := 24, slot := 1, constantValue := 0 }, { name := "VERSION_FIELD", type := (.object "java/lang/String"), accessFlags := 24, slot := 2, constantValue := 0 }, { name := "NAME", type := (.object "java/util/regex/Pattern"), accessFlags := 26, slot := 3, constantValue := 0 }, { name := "NAME_RULE", type := (.object "java/lang/String"), accessFlags := 26, slot := 4, constantValue := 0 }, { name := "EXCERPT_LENGTH", type := .int, accessFlags := 26, slot := 5, constantValue := 0 }]
  methods := #[k9m0, k9m1]
  instanceTypes := #[]
  staticTypes := #[.int, .int, (.object "java/lang/String"), (.object "java/util/regex/Pattern"), (.object "java/lang/String"), .int]
  resolved := Array.replicate 272 none
  statics := none }

def pool10 : Array CpInfo := pool [(2, .class_ 4), (1, u "java/lang/Object"), (0, u "<init>"), (0, u "()V"), (1, .class_ 10), (1, u "java/lang/Number"), (2, .class_ 14), (0, u "java/io/Serializable"), (0, u "serialVersionUID"), (0, u "J")] 20

def k10m0 : Method := { name := "<init>", desc := "()V", sig := { parameters := [], returnType := none }, accessFlags := 1, code := none }
/-- java/lang/Number -/
def k10 : Class := { plain "java/lang/Number" (some 0) with
  accessFlags := 1057
  interfaces := #[2]
  cf := some (fileOf pool10 8 #[] #[{ accessFlags := 1, nameIndex := 5, descriptorIndex := 6, attributes := #[] }] 1057 2 #[13] #[{ accessFlags := 26, nameIndex := 15, descriptorIndex := 16, attributes := #[] }])
  fields := #[{ name := "serialVersionUID", type := .long, accessFlags := 26, slot := 0, constantValue := 0 }]
  methods := #[k10m0]
  instanceTypes := #[]
  staticTypes := #[.long]
  resolved := Array.replicate 37 none
  statics := none }

def pool11 : Array CpInfo := pool [(1, .class_ 2), (0, u "java/lang/Integer"), (16, u "digits"), (0, u "[C"), (39, u "(II)I"), (24, u "DigitOnes"), (0, u "[B"), (2, u "DigitTens"), (99, .class_ 190), (0, u "java/lang/Integer$IntegerCache"), (3, u "I"), (8, .class_ 204), (0, u "java/lang/Number"), (2, u "value"), (53, u "compare"), (40, u "TYPE"), (0, u "Ljava/lang/Class;"), (0, .class_ 305), (0, u "java/lang/Comparable"), (0, .class_ 307), (0, u "java/lang/constant/Constable"), (0, .class_ 309), (0, u "java/lang/constant/ConstantDesc"), (0, u "MIN_VALUE"), (1, u "MAX_VALUE"), (3, u "SIZE"), (1, u "BYTES"), (1, u "serialVersionUID"), (0, u "J")] 131

def k11c0 : Code := { maxStack := 2, maxLocals := 2, code := jdk_33_method_40_code, exceptionTable := #[], attributes := #[] }
def k11m0 : Method := { name := "compare", desc := "(II)I", sig := { parameters := [.int, .int], returnType := some .int }, accessFlags := 9, code := some k11c0 }
/-- java/lang/Integer -/
def k11 : Class := { plain "java/lang/Integer" (some 10) with
  accessFlags := 49
  interfaces := #[3, 5, 6]
  cf := some (fileOf pool11 1 #[.nestMembers #[189]] #[{ accessFlags := 9, nameIndex := 261, descriptorIndex := 60, attributes := #[] }] 49 203 #[304, 306, 308] #[{ accessFlags := 25, nameIndex := 310, descriptorIndex := 194, attributes := #[] }, { accessFlags := 25, nameIndex := 312, descriptorIndex := 194, attributes := #[] }, { accessFlags := 25, nameIndex := 302, descriptorIndex := 303, attributes := #[] }, { accessFlags := 24, nameIndex := 19, descriptorIndex := 20, attributes := #[] }, { accessFlags := 24, nameIndex := 89, descriptorIndex := 86, attributes := #[] }, { accessFlags := 24, nameIndex := 85, descriptorIndex := 86, attributes := #[] }, { accessFlags := 18, nameIndex := 207, descriptorIndex := 194, attributes := #[] }, { accessFlags := 25, nameIndex := 316, descriptorIndex := 194, attributes := #[] }, { accessFlags := 25, nameIndex := 318, descriptorIndex := 194, attributes := #[] }, { accessFlags := 26, nameIndex := 320, descriptorIndex := 321, attributes := #[] }])
  fields := #[{ name := "MIN_VALUE", type := .int, accessFlags := 25, slot := 0, constantValue := 0 }, { name := "MAX_VALUE", type := .int, accessFlags := 25, slot := 1, constantValue := 0 }, { name := "TYPE", type := (.object "java/lang/Class"), accessFlags := 25, slot := 2, constantValue := 0 }, { name := "digits", type := (.array .char), accessFlags := 24, slot := 3, constantValue := 0 }, { name := "DigitTens", type := (.array .byte), accessFlags := 24, slot := 4, constantValue := 0 }, { name := "DigitOnes", type := (.array .byte), accessFlags := 24, slot := 5, constantValue := 0 }, { name := "value", type := .int, accessFlags := 18, slot := 0, constantValue := 0 }, { name := "SIZE", type := .int, accessFlags := 25, slot := 6, constantValue := 0 }, { name := "BYTES", type := .int, accessFlags := 25, slot := 7, constantValue := 0 }, { name := "serialVersionUID", type := .long, accessFlags := 26, slot := 8, constantValue := 0 }]
  methods := #[k11m0]
  instanceTypes := #[.int]
  staticTypes := #[.int, .int, (.object "java/lang/Class"), (.array .char), (.array .byte), (.array .byte), .int, .int, .long]
  resolved := Array.replicate 453 none
  statics := none }

def pool12 : Array CpInfo := pool [(2, .class_ 4), (1, u "java/lang/Object"), (0, u "<init>"), (0, u "()V"), (17, .class_ 26), (1, u "jdk/internal/util/Preconditions"), (6, u "checkIndex"), (21, .class_ 56), (0, u "jdk/internal/util/Preconditions$4"), (57, .class_ 115), (0, u "jdk/internal/util/Preconditions$1"), (7, u "SIOOBE_FORMATTER"), (0, u "Ljava/util/function/BiFunction;"), (0, .class_ 126), (0, u "jdk/internal/util/Preconditions$2"), (3, u "AIOOBE_FORMATTER"), (0, .class_ 132), (0, u "jdk/internal/util/Preconditions$3"), (3, u "IOOBE_FORMATTER"), (41, u "(IILjava/util/function/BiFunction;)I")] 15

def k12m0 : Method := { name := "<init>", desc := "()V", sig := { parameters := [], returnType := none }, accessFlags := 1, code := none }
def k12c1 : Code := { maxStack := 3, maxLocals := 3, code := jdk_41_method_11_code, exceptionTable := #[], attributes := #[] }
def k12m1 : Method := { name := "checkIndex", desc := "(IILjava/util/function/BiFunction;)I", sig := { parameters := [.int, .int, (.object "java/util/function/BiFunction")], returnType := some .int }, accessFlags := 9, code := some k12c1 }
/-- jdk/internal/util/Preconditions -/
def k12 : Class := { plain "jdk/internal/util/Preconditions" (some 0) with
  accessFlags := 33
  interfaces := #[]
  cf := some (fileOf pool12 24 #[.nestMembers #[55, 131, 125, 114]] #[{ accessFlags := 1, nameIndex := 5, descriptorIndex := 6, attributes := #[] }, { accessFlags := 9, nameIndex := 33, descriptorIndex := 178, attributes := #[] }] 33 2 #[] #[{ accessFlags := 25, nameIndex := 123, descriptorIndex := 124, attributes := #[] }, { accessFlags := 25, nameIndex := 130, descriptorIndex := 124, attributes := #[] }, { accessFlags := 25, nameIndex := 136, descriptorIndex := 124, attributes := #[] }])
  fields := #[{ name := "SIOOBE_FORMATTER", type := (.object "java/util/function/BiFunction"), accessFlags := 25, slot := 0, constantValue := 0 }, { name := "AIOOBE_FORMATTER", type := (.object "java/util/function/BiFunction"), accessFlags := 25, slot := 1, constantValue := 0 }, { name := "IOOBE_FORMATTER", type := (.object "java/util/function/BiFunction"), accessFlags := 25, slot := 2, constantValue := 0 }]
  methods := #[k12m0, k12m1]
  instanceTypes := #[]
  staticTypes := #[(.object "java/util/function/BiFunction"), (.object "java/util/function/BiFunction"), (.object "java/util/function/BiFunction")]
  resolved := Array.replicate 194 none
  statics := some 2 }

def pool13 : Array CpInfo := pool [(1, .class_ 2), (0, u "java/lang/Character"), (18, u "value"), (0, u "C"), (19, .class_ 44), (1, u "java/lang/Object"), (3, .class_ 50), (1, u "java/lang/Character$CharacterCache"), (22, .integer 65536), (1, .integer 55296), (0, .integer 56320), (0, .integer 57344), (2, u "isHighSurrogate"), (0, u "(C)Z"), (2, u "isLowSurrogate"), (0, .integer 4238353408), (12, u "toCodePoint"), (0, u "(CC)I"), (74, u "(I)I"), (109, u "$assertionsDisabled"), (0, u "Z"), (21, .class_ 309), (1, u "java/lang/Character$UnicodeBlock"), (73, u "TYPE"), (0, u "Ljava/lang/Class;"), (0, .class_ 386), (0, u "java/io/Serializable"), (0, .class_ 388), (0, u "java/lang/Comparable"), (0, .class_ 390), (0, u "java/lang/constant/Constable"), (0, u "MIN_RADIX"), (0, u "I"), (2, u "MAX_RADIX"), (1, u "MIN_VALUE"), (1, u "MAX_VALUE"), (3, u "UNASSIGNED"), (0, u "B"), (0, u "UPPERCASE_LETTER"), (1, u "LOWERCASE_LETTER"), (0, u "TITLECASE_LETTER"), (1, u "MODIFIER_LETTER"), (1, u "OTHER_LETTER"), (1, u "NON_SPACING_MARK"), (1, u "ENCLOSING_MARK"), (1, u "COMBINING_SPACING_MARK"), (1, u "DECIMAL_DIGIT_NUMBER"), (1, u "LETTER_NUMBER"), (1, u "OTHER_NUMBER"), (1, u "SPACE_SEPARATOR"), (1, u "LINE_SEPARATOR"), (1, u "PARAGRAPH_SEPARATOR"), (1, u "CONTROL"), (1, u "FORMAT"), (1, u "PRIVATE_USE"), (1, u "SURROGATE"), (1, u "DASH_PUNCTUATION"), (1, u "START_PUNCTUATION"), (1, u "END_PUNCTUATION"), (1, u "CONNECTOR_PUNCTUATION"), (1, u "OTHER_PUNCTUATION"), (1, u "MATH_SYMBOL"), (1, u "CURRENCY_SYMBOL"), (1, u "MODIFIER_SYMBOL"), (1, u "OTHER_SYMBOL"), (1, u "INITIAL_QUOTE_PUNCTUATION"), (1, u "FINAL_QUOTE_PUNCTUATION"), (1, u "ERROR"), (1, u "DIRECTIONALITY_UNDEFINED"), (0, u "DIRECTIONALITY_LEFT_TO_RIGHT"), (0, u "DIRECTIONALITY_RIGHT_TO_LEFT"), (0, u "DIRECTIONALITY_RIGHT_TO_LEFT_ARABIC"), (0, u "DIRECTIONALITY_EUROPEAN_NUMBER"), (0, u "DIRECTIONALITY_EUROPEAN_NUMBER_SEPARATOR"), (0, u "DIRECTIONALITY_EUROPEAN_NUMBER_TERMINATOR"), (0, u "DIRECTIONALITY_ARABIC_NUMBER"), (0, u "DIRECTIONALITY_COMMON_NUMBER_SEPARATOR"), (0, u "DIRECTIONALITY_NONSPACING_MARK"), (0, u "DIRECTIONALITY_BOUNDARY_NEUTRAL"), (0, u "DIRECTIONALITY_PARAGRAPH_SEPARATOR"), (0, u "DIRECTIONALITY_SEGMENT_SEPARATOR"), (0, u "DIRECTIONALITY_WHITESPACE"), (0, u "DIRECTIONALITY_OTHER_NEUTRALS"), (0, u "DIRECTIONALITY_LEFT_TO_RIGHT_EMBEDDING"), (0, u "DIRECTIONALITY_LEFT_TO_RIGHT_OVERRIDE"), (0, u "DIRECTIONALITY_RIGHT_TO_LEFT_EMBEDDING"), (0, u "DIRECTIONALITY_RIGHT_TO_LEFT_OVERRIDE"), (1, u "DIRECTIONALITY_POP_DIRECTIONAL_FORMAT"), (0, u "DIRECTIONALITY_LEFT_TO_RIGHT_ISOLATE"), (0, u "DIRECTIONALITY_RIGHT_TO_LEFT_ISOLATE"), (0, u "DIRECTIONALITY_FIRST_STRONG_ISOLATE"), (0, u "DIRECTIONALITY_POP_DIRECTIONAL_ISOLATE"), (0, u "MIN_HIGH_SURROGATE"), (0, u "MAX_HIGH_SURROGATE"), (1, u "MIN_LOW_SURROGATE"), (0, u "MAX_LOW_SURROGATE"), (1, u "MIN_SURROGATE"), (0, u "MAX_SURROGATE"), (0, u "MIN_SUPPLEMENTARY_CODE_POINT"), (0, u "MIN_CODE_POINT"), (0, u "MAX_CODE_POINT"), (1, u "serialVersionUID"), (0, u "J"), (2, u "SIZE"), (0, u "BYTES"), (29, u "charCount"), (58, .class_ 596), (0, u "java/lang/Character$UnicodeScript"), (0, .class_ 598), (0, u "java/lang/Character$Subset")] 5

def k13c0 : Code := { maxStack := 2, maxLocals := 1, code := jdk_89_method_14_code, exceptionTable := #[], attributes := #[] }
def k13m0 : Method := { name := "isHighSurrogate", desc := "(C)Z", sig := { parameters := [.char], returnType := some .boolean }, accessFlags := 9, code := some k13c0 }
def k13c1 : Code := { maxStack := 2, maxLocals := 1, code := jdk_89_method_15_code, exceptionTable := #[], attributes := #[] }
def k13m1 : Method := { name := "isLowSurrogate", desc := "(C)Z", sig := { parameters := [.char], returnType := some .boolean }, accessFlags := 9, code := some k13c1 }
def k13c2 : Code := { maxStack := 2, maxLocals := 1, code := jdk_89_method_18_code, exceptionTable := #[], attributes := #[] }
def k13m2 : Method := { name := "charCount", desc := "(I)I", sig := { parameters := [.int], returnType := some .int }, accessFlags := 9, code := some k13c2 }
def k13c3 : Code := { maxStack := 2, maxLocals := 2, code := jdk_89_method_19_code, exceptionTable := #[], attributes := #[] }
def k13m3 : Method := { name := "toCodePoint", desc := "(CC)I", sig := { parameters := [.char, .char], returnType := some .int }, accessFlags := 9, code := some k13c3 }
/-- java/lang/Character -/
def k13 : Class := { plain "java/lang/Character" (some 0) with
  accessFlags := 49
  interfaces := #[2, 3, 5]
  cf := some (fileOf pool13 1 #[.nestMembers #[48, 595, 307, 597]] #[{ accessFlags := 9, nameIndex := 80, descriptorIndex := 81, attributes := #[] }, { accessFlags := 9, nameIndex := 84, descriptorIndex := 81, attributes := #[] }, { accessFlags := 9, nameIndex := 536, descriptorIndex := 174, attributes := #[] }, { accessFlags := 9, nameIndex := 98, descriptorIndex := 99, attributes := #[] }] 49 42 #[385, 387, 389] #[{ accessFlags := 25, nameIndex := 391, descriptorIndex := 392, attributes := #[] }, { accessFlags := 25, nameIndex := 395, descriptorIndex := 392, attributes := #[] }, { accessFlags := 25, nameIndex := 397, descriptorIndex := 22, attributes := #[] }, { accessFlags := 25, nameIndex := 399, descriptorIndex := 22, attributes := #[] }, { accessFlags := 25, nameIndex := 383, descriptorIndex := 384, attributes := #[] }, { accessFlags := 25, nameIndex := 403, descriptorIndex := 404, attributes := #[] }, { accessFlags := 25, nameIndex := 405, descriptorIndex := 404, attributes := #[] }, { accessFlags := 25, nameIndex := 407, descriptorIndex := 404, attributes := #[] }, { accessFlags := 25, nameIndex := 408, descriptorIndex := 404, attributes := #[] }, { accessFlags := 25, nameIndex := 410, descriptorIndex := 404, attributes := #[] }, { accessFlags := 25, nameIndex := 412, descriptorIndex := 404, attributes := #[] }, { accessFlags := 25, nameIndex := 414, descriptorIndex := 404, attributes := #[] }, { accessFlags := 25, nameIndex := 416, descriptorIndex := 404, attributes := #[] }, { accessFlags := 25, nameIndex := 418, descriptorIndex := 404, attributes := #[] }, { accessFlags := 25, nameIndex := 420, descriptorIndex := 404, attributes := #[] }, { accessFlags := 25, nameIndex := 422, descriptorIndex := 404, attributes := #[] }, { accessFlags := 25, nameIndex := 424, descriptorIndex := 404, attributes := #[] }, { accessFlags := 25, nameIndex := 426, descriptorIndex := 404, attributes := #[] }, { accessFlags := 25, nameIndex := 428, descriptorIndex := 404, attributes := #[] }, { accessFlags := 25, nameIndex := 430, descriptorIndex := 404, attributes := #[] }, { accessFlags := 25, nameIndex := 432, descriptorIndex := 404, attributes := #[] }, { accessFlags := 25, nameIndex := 434, descriptorIndex := 404, attributes := #[] }, { accessFlags := 25, nameIndex := 436, descriptorIndex := 404, attributes := #[] }, { accessFlags := 25, nameIndex := 438, descriptorIndex := 404, attributes := #[] }, { accessFlags := 25, nameIndex := 440, descriptorIndex := 404, attributes := #[] }, { accessFlags := 25, nameIndex := 442, descriptorIndex := 404, attributes := #[] }, { accessFlags := 25, nameIndex := 444, descriptorIndex := 404, attributes := #[] }, { accessFlags := 25, nameIndex := 446, descriptorIndex := 404, attributes := #[] }, { accessFlags := 25, nameIndex := 448, descriptorIndex := 404, attributes := #[] }, { accessFlags := 25, nameIndex := 450, descriptorIndex := 404, attributes := #[] }, { accessFlags := 25, nameIndex := 452, descriptorIndex := 404, attributes := #[] }, { accessFlags := 25, nameIndex := 454, descriptorIndex := 404, attributes := #[] }, { accessFlags := 25, nameIndex := 456, descriptorIndex := 404, attributes := #[] }, { accessFlags := 25, nameIndex := 458, descriptorIndex := 404, attributes := #[] }, { accessFlags := 25, nameIndex := 460, descriptorIndex := 404, attributes := #[] }, { accessFlags := 24, nameIndex := 462, descriptorIndex := 392, attributes := #[] }, { accessFlags := 25, nameIndex := 464, descriptorIndex := 404, attributes := #[] }, { accessFlags := 25, nameIndex := 465, descriptorIndex := 404, attributes := #[] }, { accessFlags := 25, nameIndex := 466, descriptorIndex := 404, attributes := #[] }, { accessFlags := 25, nameIndex := 467, descriptorIndex := 404, attributes := #[] }, { accessFlags := 25, nameIndex := 468, descriptorIndex := 404, attributes := #[] }, { accessFlags := 25, nameIndex := 469, descriptorIndex := 404, attributes := #[] }, { accessFlags := 25, nameIndex := 470, descriptorIndex := 404, attributes := #[] }, { accessFlags := 25, nameIndex := 471, descriptorIndex := 404, attributes := #[] }, { accessFlags := 25, nameIndex := 472, descriptorIndex := 404, attributes := #[] }, { accessFlags := 25, nameIndex := 473, descriptorIndex := 404, attributes := #[] }, { accessFlags := 25, nameIndex := 474, descriptorIndex := 404, attributes := #[] }, { accessFlags := 25, nameIndex := 475, descriptorIndex := 404, attributes := #[] }, { accessFlags := 25, nameIndex := 476, descriptorIndex := 404, attributes := #[] }, { accessFlags := 25, nameIndex := 477, descriptorIndex := 404, attributes := #[] }, { accessFlags := 25, nameIndex := 478, descriptorIndex := 404, attributes := #[] }, { accessFlags := 25, nameIndex := 479, descriptorIndex := 404, attributes := #[] }, { accessFlags := 25, nameIndex := 480, descriptorIndex := 404, attributes := #[] }, { accessFlags := 25, nameIndex := 481, descriptorIndex := 404, attributes := #[] }, { accessFlags := 25, nameIndex := 482, descriptorIndex := 404, attributes := #[] }, { accessFlags := 25, nameIndex := 484, descriptorIndex := 404, attributes := #[] }, { accessFlags := 25, nameIndex := 485, descriptorIndex := 404, attributes := #[] }, { accessFlags := 25, nameIndex := 486, descriptorIndex := 404, attributes := #[] }, { accessFlags := 25, nameIndex := 487, descriptorIndex := 404, attributes := #[] }, { accessFlags := 25, nameIndex := 488, descriptorIndex := 404, attributes := #[] }, { accessFlags := 25, nameIndex := 489, descriptorIndex := 22, attributes := #[] }, { accessFlags := 25, nameIndex := 490, descriptorIndex := 22, attributes := #[] }, { accessFlags := 25, nameIndex := 492, descriptorIndex := 22, attributes := #[] }, { accessFlags := 25, nameIndex := 493, descriptorIndex := 22, attributes := #[] }, { accessFlags := 25, nameIndex := 495, descriptorIndex := 22, attributes := #[] }, { accessFlags := 25, nameIndex := 496, descriptorIndex := 22, attributes := #[] }, { accessFlags := 25, nameIndex := 497, descriptorIndex := 392, attributes := #[] }, { accessFlags := 25, nameIndex := 498, descriptorIndex := 392, attributes := #[] }, { accessFlags := 25, nameIndex := 499, descriptorIndex := 392, attributes := #[] }, { accessFlags := 18, nameIndex := 21, descriptorIndex := 22, attributes := #[] }, { accessFlags := 26, nameIndex := 501, descriptorIndex := 502, attributes := #[] }, { accessFlags := 25, nameIndex := 505, descriptorIndex := 392, attributes := #[] }, { accessFlags := 25, nameIndex := 506, descriptorIndex := 392, attributes := #[] }, { accessFlags := 4120, nameIndex := 284, descriptorIndex := 285, attributes := #[] }])
  fields := #[{ name := "MIN_RADIX", type := .int, accessFlags := 25, slot := 0, constantValue := 0 }, { name := "MAX_RADIX", type := .int, accessFlags := 25, slot := 1, constantValue := 0 }, { name := "MIN_VALUE", type := .char, accessFlags := 25, slot := 2, constantValue := 0 }, { name := "MAX_VALUE", type := .char, accessFlags := 25, slot := 3, constantValue := 0 }, { name := "TYPE", type := (.object "java/lang/Class"), accessFlags := 25, slot := 4, constantValue := 0 }, { name := "UNASSIGNED", type := .byte, accessFlags := 25, slot := 5, constantValue := 0 }, { name := "UPPERCASE_LETTER", type := .byte, accessFlags := 25, slot := 6, constantValue := 0 }, { name := "LOWERCASE_LETTER", type := .byte, accessFlags := 25, slot := 7, constantValue := 0 }, { name := "TITLECASE_LETTER", type := .byte, accessFlags := 25, slot := 8, constantValue := 0 }, { name := "MODIFIER_LETTER", type := .byte, accessFlags := 25, slot := 9, constantValue := 0 }, { name := "OTHER_LETTER", type := .byte, accessFlags := 25, slot := 10, constantValue := 0 }, { name := "NON_SPACING_MARK", type := .byte, accessFlags := 25, slot := 11, constantValue := 0 }, { name := "ENCLOSING_MARK", type := .byte, accessFlags := 25, slot := 12, constantValue := 0 }, { name := "COMBINING_SPACING_MARK", type := .byte, accessFlags := 25, slot := 13, constantValue := 0 }, { name := "DECIMAL_DIGIT_NUMBER", type := .byte, accessFlags := 25, slot := 14, constantValue := 0 }, { name := "LETTER_NUMBER", type := .byte, accessFlags := 25, slot := 15, constantValue := 0 }, { name := "OTHER_NUMBER", type := .byte, accessFlags := 25, slot := 16, constantValue := 0 }, { name := "SPACE_SEPARATOR", type := .byte, accessFlags := 25, slot := 17, constantValue := 0 }, { name := "LINE_SEPARATOR", type := .byte, accessFlags := 25, slot := 18, constantValue := 0 }, { name := "PARAGRAPH_SEPARATOR", type := .byte, accessFlags := 25, slot := 19, constantValue := 0 }, { name := "CONTROL", type := .byte, accessFlags := 25, slot := 20, constantValue := 0 }, { name := "FORMAT", type := .byte, accessFlags := 25, slot := 21, constantValue := 0 }, { name := "PRIVATE_USE", type := .byte, accessFlags := 25, slot := 22, constantValue := 0 }, { name := "SURROGATE", type := .byte, accessFlags := 25, slot := 23, constantValue := 0 }, { name := "DASH_PUNCTUATION", type := .byte, accessFlags := 25, slot := 24, constantValue := 0 }, { name := "START_PUNCTUATION", type := .byte, accessFlags := 25, slot := 25, constantValue := 0 }, { name := "END_PUNCTUATION", type := .byte, accessFlags := 25, slot := 26, constantValue := 0 }, { name := "CONNECTOR_PUNCTUATION", type := .byte, accessFlags := 25, slot := 27, constantValue := 0 }, { name := "OTHER_PUNCTUATION", type := .byte, accessFlags := 25, slot := 28, constantValue := 0 }, { name := "MATH_SYMBOL", type := .byte, accessFlags := 25, slot := 29, constantValue := 0 }, { name := "CURRENCY_SYMBOL", type := .byte, accessFlags := 25, slot := 30, constantValue := 0 }, { name := "MODIFIER_SYMBOL", type := .byte, accessFlags := 25, slot := 31, constantValue := 0 }, { name := "OTHER_SYMBOL", type := .byte, accessFlags := 25, slot := 32, constantValue := 0 }, { name := "INITIAL_QUOTE_PUNCTUATION", type := .byte, accessFlags := 25, slot := 33, constantValue := 0 }, { name := "FINAL_QUOTE_PUNCTUATION", type := .byte, accessFlags := 25, slot := 34, constantValue := 0 }, { name := "ERROR", type := .int, accessFlags := 24, slot := 35, constantValue := 0 }, { name := "DIRECTIONALITY_UNDEFINED", type := .byte, accessFlags := 25, slot := 36, constantValue := 0 }, { name := "DIRECTIONALITY_LEFT_TO_RIGHT", type := .byte, accessFlags := 25, slot := 37, constantValue := 0 }, { name := "DIRECTIONALITY_RIGHT_TO_LEFT", type := .byte, accessFlags := 25, slot := 38, constantValue := 0 }, { name := "DIRECTIONALITY_RIGHT_TO_LEFT_ARABIC", type := .byte, accessFlags := 25, slot := 39, constantValue := 0 }, { name := "DIRECTIONALITY_EUROPEAN_NUMBER", type := .byte, accessFlags := 25, slot := 40, constantValue := 0 }, { name := "DIRECTIONALITY_EUROPEAN_NUMBER_SEPARATOR", type := .byte, accessFlags := 25, slot := 41, constantValue := 0 }, { name := "DIRECTIONALITY_EUROPEAN_NUMBER_TERMINATOR", type := .byte, accessFlags := 25, slot := 42, constantValue := 0 }, { name := "DIRECTIONALITY_ARABIC_NUMBER", type := .byte, accessFlags := 25, slot := 43, constantValue := 0 }, { name := "DIRECTIONALITY_COMMON_NUMBER_SEPARATOR", type := .byte, accessFlags := 25, slot := 44, constantValue := 0 }, { name := "DIRECTIONALITY_NONSPACING_MARK", type := .byte, accessFlags := 25, slot := 45, constantValue := 0 }, { name := "DIRECTIONALITY_BOUNDARY_NEUTRAL", type := .byte, accessFlags := 25, slot := 46, constantValue := 0 }, { name := "DIRECTIONALITY_PARAGRAPH_SEPARATOR", type := .byte, accessFlags := 25, slot := 47, constantValue := 0 }, { name := "DIRECTIONALITY_SEGMENT_SEPARATOR", type := .byte, accessFlags := 25, slot := 48, constantValue := 0 }, { name := "DIRECTIONALITY_WHITESPACE", type := .byte, accessFlags := 25, slot := 49, constantValue := 0 }, { name := "DIRECTIONALITY_OTHER_NEUTRALS", type := .byte, accessFlags := 25, slot := 50, constantValue := 0 }, { name := "DIRECTIONALITY_LEFT_TO_RIGHT_EMBEDDING", type := .byte, accessFlags := 25, slot := 51, constantValue := 0 }, { name := "DIRECTIONALITY_LEFT_TO_RIGHT_OVERRIDE", type := .byte, accessFlags := 25, slot := 52, constantValue := 0 }, { name := "DIRECTIONALITY_RIGHT_TO_LEFT_EMBEDDING", type := .byte, accessFlags := 25, slot := 53, constantValue := 0 }, { name := "DIRECTIONALITY_RIGHT_TO_LEFT_OVERRIDE", type := .byte, accessFlags := 25, slot := 54, constantValue := 0 }, { name := "DIRECTIONALITY_POP_DIRECTIONAL_FORMAT", type := .byte, accessFlags := 25, slot := 55, constantValue := 0 }, { name := "DIRECTIONALITY_LEFT_TO_RIGHT_ISOLATE", type := .byte, accessFlags := 25, slot := 56, constantValue := 0 }, { name := "DIRECTIONALITY_RIGHT_TO_LEFT_ISOLATE", type := .byte, accessFlags := 25, slot := 57, constantValue := 0 }, { name := "DIRECTIONALITY_FIRST_STRONG_ISOLATE", type := .byte, accessFlags := 25, slot := 58, constantValue := 0 }, { name := "DIRECTIONALITY_POP_DIRECTIONAL_ISOLATE", type := .byte, accessFlags := 25, slot := 59, constantValue := 0 }, { name := "MIN_HIGH_SURROGATE", type := .char, accessFlags := 25, slot := 60, constantValue := 0 }, { name := "MAX_HIGH_SURROGATE", type := .char, accessFlags := 25, slot := 61, constantValue := 0 }, { name := "MIN_LOW_SURROGATE", type := .char, accessFlags := 25, slot := 62, constantValue := 0 }, { name := "MAX_LOW_SURROGATE", type := .char, accessFlags := 25, slot := 63, constantValue := 0 }, { name := "MIN_SURROGATE", type := .char, accessFlags := 25, slot := 64, constantValue := 0 }, { name := "MAX_SURROGATE", type := .char, accessFlags := 25, slot := 65, constantValue := 0 }, { name := "MIN_SUPPLEMENTARY_CODE_POINT", type := .int, accessFlags := 25, slot := 66, constantValue := 0 }, { name := "MIN_CODE_POINT", type := .int, accessFlags := 25, slot := 67, constantValue := 0 }, { name := "MAX_CODE_POINT", type := .int, accessFlags := 25, slot := 68, constantValue := 0 }, { name := "value", type := .char, accessFlags := 18, slot := 0, constantValue := 0 }, { name := "serialVersionUID", type := .long, accessFlags := 26, slot := 69, constantValue := 0 }, { name := "SIZE", type := .int, accessFlags := 25, slot := 70, constantValue := 0 }, { name := "BYTES", type := .int, accessFlags := 25, slot := 71, constantValue := 0 }, { name := "$assertionsDisabled", type := .boolean, accessFlags := 4120, slot := 72, constantValue := 0 }]
  methods := #[k13m0, k13m1, k13m2, k13m3]
  instanceTypes := #[.char]
  staticTypes := #[.int, .int, .char, .char, (.object "java/lang/Class"), .byte, .byte, .byte, .byte, .byte, .byte, .byte, .byte, .byte, .byte, .byte, .byte, .byte, .byte, .byte, .byte, .byte, .byte, .byte, .byte, .byte, .byte, .byte, .byte, .byte, .byte, .byte, .byte, .byte, .byte, .int, .byte, .byte, .byte, .byte, .byte, .byte, .byte, .byte, .byte, .byte, .byte, .byte, .byte, .byte, .byte, .byte, .byte, .byte, .byte, .byte, .byte, .byte, .byte, .byte, .char, .char, .char, .char, .char, .char, .int, .int, .int, .long, .int, .int, .boolean]
  resolved := Array.replicate 604 none
  statics := none }

def pool14 : Array CpInfo := pool [(4, .class_ 6), (1, u "java/lang/Object"), (0, u "<init>"), (0, u "()V"), (5, .class_ 16), (1, u "java/lang/StringLatin1"), (104, u "$assertionsDisabled"), (0, u "Z"), (98, .class_ 223), (1, u "java/lang/StringLatin1$LinesSpliterator"), (166, .class_ 391), (0, u "java/lang/StringLatin1$CharsSpliterator")] 3

def k14m0 : Method := { name := "<init>", desc := "()V", sig := { parameters := [], returnType := none }, accessFlags := 0, code := none }
/-- java/lang/StringLatin1 -/
def k14 : Class := { plain "java/lang/StringLatin1" (some 0) with
  accessFlags := 48
  interfaces := #[]
  cf := some (fileOf pool14 14 #[.nestMembers #[390, 221]] #[{ accessFlags := 0, nameIndex := 7, descriptorIndex := 8, attributes := #[] }] 48 4 #[] #[{ accessFlags := 4120, nameIndex := 121, descriptorIndex := 122, attributes := #[] }])
  fields := #[{ name := "$assertionsDisabled", type := .boolean, accessFlags := 4120, slot := 0, constantValue := 0 }]
  methods := #[k14m0]
  instanceTypes := #[]
  staticTypes := #[.boolean]
  resolved := Array.replicate 395 none
  statics := none }

def pool15 : Array CpInfo := pool [(9, u "<init>"), (6, .class_ 18), (1, u "java/lang/Object"), (0, u "()V"), (1, .class_ 23), (1, u "jdk/internal/util/ArraysSupport"), (0, u "LOG2_ARRAY_LONG_INDEX_SCALE"), (0, u "I"), (2, u "U"), (0, u "Ljdk/internal/misc/Unsafe;"), (8, u "BIG_ENDIAN"), (0, u "Z"), (8, u "LOG2_BYTE_BIT_SIZE"), (4, u "LOG2_ARRAY_INT_INDEX_SCALE"), (54, u "JLA"), (0, u "Ljdk/internal/access/JavaLangAccess;"), (11, u "LOG2_ARRAY_BOOLEAN_INDEX_SCALE"), (9, u "LOG2_ARRAY_BYTE_INDEX_SCALE"), (5, u "LOG2_ARRAY_CHAR_INDEX_SCALE"), (5, u "LOG2_ARRAY_SHORT_INDEX_SCALE"), (18, u "LOG2_ARRAY_FLOAT_INDEX_SCALE"), (24, u "LOG2_ARRAY_DOUBLE_INDEX_SCALE"), (89, u "T_BOOLEAN"), (2, u "T_CHAR"), (1, u "T_FLOAT"), (1, u "T_DOUBLE"), (1, u "T_BYTE"), (1, u "T_SHORT"), (1, u "T_INT"), (1, u "T_LONG"), (1, u "SOFT_MAX_ARRAY_LENGTH")] 83

def k15m0 : Method := { name := "<init>", desc := "()V", sig := { parameters := [], returnType := none }, accessFlags := 2, code := none }
/-- jdk/internal/util/ArraysSupport -/
def k15 : Class := { plain "jdk/internal/util/ArraysSupport" (some 0) with
  accessFlags := 33
  interfaces := #[]
  cf := some (fileOf pool15 21 #[] #[{ accessFlags := 2, nameIndex := 9, descriptorIndex := 19, attributes := #[] }] 33 16 #[] #[{ accessFlags := 24, nameIndex := 28, descriptorIndex := 29, attributes := #[] }, { accessFlags := 26, nameIndex := 38, descriptorIndex := 39, attributes := #[] }, { accessFlags := 25, nameIndex := 121, descriptorIndex := 25, attributes := #[] }, { accessFlags := 25, nameIndex := 131, descriptorIndex := 25, attributes := #[] }, { accessFlags := 25, nameIndex := 137, descriptorIndex := 25, attributes := #[] }, { accessFlags := 25, nameIndex := 143, descriptorIndex := 25, attributes := #[] }, { accessFlags := 25, nameIndex := 53, descriptorIndex := 25, attributes := #[] }, { accessFlags := 25, nameIndex := 24, descriptorIndex := 25, attributes := #[] }, { accessFlags := 25, nameIndex := 162, descriptorIndex := 25, attributes := #[] }, { accessFlags := 25, nameIndex := 187, descriptorIndex := 25, attributes := #[] }, { accessFlags := 26, nameIndex := 48, descriptorIndex := 25, attributes := #[] }, { accessFlags := 25, nameIndex := 277, descriptorIndex := 25, attributes := #[] }, { accessFlags := 25, nameIndex := 280, descriptorIndex := 25, attributes := #[] }, { accessFlags := 25, nameIndex := 282, descriptorIndex := 25, attributes := #[] }, { accessFlags := 25, nameIndex := 284, descriptorIndex := 25, attributes := #[] }, { accessFlags := 25, nameIndex := 286, descriptorIndex := 25, attributes := #[] }, { accessFlags := 25, nameIndex := 288, descriptorIndex := 25, attributes := #[] }, { accessFlags := 25, nameIndex := 290, descriptorIndex := 25, attributes := #[] }, { accessFlags := 25, nameIndex := 292, descriptorIndex := 25, attributes := #[] }, { accessFlags := 26, nameIndex := 108, descriptorIndex := 109, attributes := #[] }, { accessFlags := 25, nameIndex := 294, descriptorIndex := 25, attributes := #[] }])
  fields := #[{ name := "U", type := (.object "jdk/internal/misc/Unsafe"), accessFlags := 24, slot := 0, constantValue := 0 }, { name := "BIG_ENDIAN", type := .boolean, accessFlags := 26, slot := 1, constantValue := 0 }, { name := "LOG2_ARRAY_BOOLEAN_INDEX_SCALE", type := .int, accessFlags := 25, slot := 2, constantValue := 0 }, { name := "LOG2_ARRAY_BYTE_INDEX_SCALE", type := .int, accessFlags := 25, slot := 3, constantValue := 0 }, { name := "LOG2_ARRAY_CHAR_INDEX_SCALE", type := .int, accessFlags := 25, slot := 4, constantValue := 0 }, { name := "LOG2_ARRAY_SHORT_INDEX_SCALE", type := .int, accessFlags := 25, slot := 5, constantValue := 0 }, { name := "LOG2_ARRAY_INT_INDEX_SCALE", type := .int, accessFlags := 25, slot := 6, constantValue := 0 }, { name := "LOG2_ARRAY_LONG_INDEX_SCALE", type := .int, accessFlags := 25, slot := 7, constantValue := 0 }, { name := "LOG2_ARRAY_FLOAT_INDEX_SCALE", type := .int, accessFlags := 25, slot := 8, constantValue := 0 }, { name := "LOG2_ARRAY_DOUBLE_INDEX_SCALE", type := .int, accessFlags := 25, slot := 9, constantValue := 0 }, { name := "LOG2_BYTE_BIT_SIZE", type := .int, accessFlags := 26, slot := 10, constantValue := 0 }, { name := "T_BOOLEAN", type := .int, accessFlags := 25, slot := 11, constantValue := 0 }, { name := "T_CHAR", type := .int, accessFlags := 25, slot := 12, constantValue := 0 }, { name := "T_FLOAT", type := .int, accessFlags := 25, slot := 13, constantValue := 0 }, { name := "T_DOUBLE", type := .int, accessFlags := 25, slot := 14, constantValue := 0 }, { name := "T_BYTE", type := .int, accessFlags := 25, slot := 15, constantValue := 0 }, { name := "T_SHORT", type := .int, accessFlags := 25, slot := 16, constantValue := 0 }, { name := "T_INT", type := .int, accessFlags := 25, slot := 17, constantValue := 0 }, { name := "T_LONG", type := .int, accessFlags := 25, slot := 18, constantValue := 0 }, { name := "JLA", type := (.object "jdk/internal/access/JavaLangAccess"), accessFlags := 26, slot := 19, constantValue := 0 }, { name := "SOFT_MAX_ARRAY_LENGTH", type := .int, accessFlags := 25, slot := 20, constantValue := 0 }]
  methods := #[k15m0]
  instanceTypes := #[]
  staticTypes := #[(.object "jdk/internal/misc/Unsafe"), .boolean, .int, .int, .int, .int, .int, .int, .int, .int, .int, .int, .int, .int, .int, .int, .int, .int, .int, (.object "jdk/internal/access/JavaLangAccess"), .int]
  resolved := Array.replicate 378 none
  statics := none }

def pool16 : Array CpInfo := pool [(1, u "java/lang/Cloneable"), (0, .class_ 1), (0, u "java/lang/Object"), (0, .class_ 3)] 3

/-- java/lang/Cloneable -/
def k16 : Class := { plain "java/lang/Cloneable" (some 0) with
  accessFlags := 1537
  interfaces := #[]
  cf := some (fileOf pool16 2 #[] #[] 1537 4 #[] #[])
  fields := #[]
  methods := #[]
  instanceTypes := #[]
  staticTypes := #[]
  resolved := Array.replicate 8 none
  statics := none }

/-- the primitive byte -/
def k17 : Class := { plain "byte" none with kind := .primitive 'B', accessFlags := 0x411 }
/-- [B -/
def k18 : Class := { plain "[B" (some 0) with kind := .array 17 .byte, interfaces := #[16, 2], accessFlags := 1041 }

/-- the primitive char -/
def k19 : Class := { plain "char" none with kind := .primitive 'C', accessFlags := 0x411 }
/-- [C -/
def k20 : Class := { plain "[C" (some 0) with kind := .array 19 .char, interfaces := #[16, 2], accessFlags := 1041 }

/-- the primitive int -/
def k21 : Class := { plain "int" none with kind := .primitive 'I', accessFlags := 0x411 }
/-- [I -/
def k22 : Class := { plain "[I" (some 0) with kind := .array 21 .int, interfaces := #[16, 2], accessFlags := 1041 }

def heap : Heap := #[{ cls := 7, slots := #[.long 0, .int 1, .null, .int 0, .null, .int 0, .int 0], vm := .statics 7 },
  { cls := 8, slots := #[.int 0, .int 8, .int 0, .int 1], vm := .statics 8 },
  { cls := 12, slots := #[.null, .null, .null], vm := .statics 12 }]
def classes : Array Class := #[k0, k1, k2, k3, k4, k5, k6, k7, k8, k9, k10, k11, k12, k13, k14, k15, k16, k17, k18, k19, k20, k21, k22]
def interned : List (Array UInt16 × Addr) := []
def slotsUsed : Nat := 14
def theMethod : MethodId := ⟨1, 1⟩
def args0 : Array Value := #[.int 5, .int 7, .int 9]
def aboutOver (below : List Frame) : State where
  vm := { classes := classes, interned := interned.toArray }
  heap := heap
  slotsUsed := slotsUsed
  threads := #[{ frames := .invoking theMethod args0 :: below }]
def below0 : List Frame := [.native { method := ⟨0, 0⟩, args := #[] }]
def about1 : State := aboutOver below0
def p0 : Program := .bare "" "" ""
def e0 : Env := launch0.env 0 0 0
theorem w_frames : about1.frames = Frame.invoking theMethod args0 :: below0 := rfl
set_option maxRecDepth 65536 in
theorem w_args : argsFit about1.vm theMethod args0 = true := by decide +kernel
set_option maxRecDepth 65536 in
theorem w_heap : heapFits about1 = true := by decide +kernel
set_option maxRecDepth 65536 in
theorem w_runnable : about1.curStatus? = some .runnable := by decide +kernel
set_option maxRecDepth 65536 in
theorem w_alone : about1.alone = true := by decide +kernel
set_option maxRecDepth 65536 in
theorem w_named : about1.methodNamed? x = some theMethod := by decide +kernel
set_option maxRecDepth 65536 in
theorem w_hears : about1.hears theMethod below0 = true := by decide +kernel
set_option maxRecDepth 65536 in
theorem w_ripe : about1.ripe theMethod args0 below0 = true := by decide +kernel
theorem w_running : about1.status = .running := rfl
set_option maxRecDepth 65536 in
theorem w_room : about1.hasRoom e0.platform room_1 = true :=
  launch0.hasRoom_least _ room_1 (by decide +kernel) (by decide +kernel) (by decide +kernel) (by decide +kernel) (by decide +kernel) (by decide +kernel)
theorem allAtoms_all (ts : List Jvm.Cond) (a : Array Jvm.Value) (st : Jvm.State) : (allAtoms ts).before a st = ts.all (fun c => c.before a st) := by
  induction ts with
  | nil => rfl
  | cons c t ih =>
    show (Jvm.Cond.and c (allAtoms t)).before a st = _
    rw [Jvm.Cond.before_and, ih, List.all_cons]
def words1 : List Jvm.Cond := Jvm.Cond.code x code maxLocals ret :: tables_1
/-- a 'code' word, met by the world's own term for the bytes: nothing is compared byte by byte -/
theorem code_word {y : MethodName} {bytes : ByteArray} {mx : Nat} {rt : Option FieldType} {a : Array Value} {s : State} {m : MethodId} {meth : Method} {c : Code} (h1 : s.methodNamed? y = some m) (h2 : s.vm.method? m = some meth) (h3 : meth.code = some c) (h4 : c.code = bytes)
    (h5 : (c.maxLocals == mx && c.exceptionTable.isEmpty && decide (c.maxStack ≤ mostOperands) && decide (meth.sig.returnType = rt) && !meth.locks && decide (parseMethodDescriptor y.desc = some meth.sig)) = true) : (Jvm.Cond.code y bytes mx rt).before a s = true := by
  simp only [Bool.and_eq_true, beq_iff_eq, Bool.not_eq_true', decide_eq_true_eq] at h5
  obtain ⟨⟨⟨⟨⟨g1, g2⟩, g3⟩, g4⟩, g5⟩, g6⟩ := h5
  simp [Cond.before, Cond.holds, Cond.value, h1, h2, h3, h4, g1, g2, g3, g4, g5, g6]
def isCode : Jvm.Cond → Bool
  | .code _ _ _ _ => true
  | _ => false
theorem all_split {L : List Jvm.Cond} {P : Jvm.Cond → Bool} (h1 : L.all (fun c => isCode c || P c) = true) (h2 : ∀ c ∈ L.filter isCode, P c = true) : L.all P = true := by
  refine List.all_eq_true.mpr fun c hc => ?_
  have h := List.all_eq_true.mp h1 c hc
  rcases Bool.eq_false_or_eq_true (isCode c) with hi | hi
  · exact h2 c (List.mem_filter.mpr ⟨hc, hi⟩)
  · simpa [hi] using h
set_option maxRecDepth 65536 in
theorem w_c0 : (Jvm.Cond.code x code maxLocals ret).before args0 about1 = true := code_word (m := ⟨1, 1⟩) (meth := k1m1) (c := k1c1) (by decide +kernel) rfl rfl rfl (by decide +kernel)
set_option maxRecDepth 65536 in
theorem w_c1 : (Jvm.Cond.code ({ cls := "com/example/firm_store/firmstore/IdentifiersCompareCodePointsPinLaw", name := "make", desc := "(ICC)Ljava/lang/String;" } : Jvm.MethodName) method_3_code (3 : Nat) (Option.some (Jvm.ClassFile.FieldType.object "java/lang/String"))).before args0 about1 = true := code_word (m := ⟨1, 2⟩) (meth := k1m2) (c := k1c2) (by decide +kernel) rfl rfl rfl (by decide +kernel)
set_option maxRecDepth 65536 in
theorem w_c2 : (Jvm.Cond.code ({ cls := "java/lang/String", name := "<init>", desc := "([C)V" } : Jvm.MethodName) jdk_42_method_3_code (2 : Nat) (Option.none : Option Jvm.ClassFile.FieldType)).before args0 about1 = true := code_word (m := ⟨7, 1⟩) (meth := k7m1) (c := k7c1) (by decide +kernel) rfl rfl rfl (by decide +kernel)
set_option maxRecDepth 65536 in
theorem w_c3 : (Jvm.Cond.code ({ cls := "java/lang/String", name := "<init>", desc := "([CIILjava/lang/Void;)V" } : Jvm.MethodName) jdk_42_method_149_code (6 : Nat) (Option.none : Option Jvm.ClassFile.FieldType)).before args0 about1 = true := code_word (m := ⟨7, 4⟩) (meth := k7m4) (c := k7c4) (by decide +kernel) rfl rfl rfl (by decide +kernel)
set_option maxRecDepth 65536 in
theorem w_c4 : (Jvm.Cond.code ({ cls := "java/lang/Object", name := "<init>", desc := "()V" } : Jvm.MethodName) object_method_1_code (1 : Nat) (Option.none : Option Jvm.ClassFile.FieldType)).before args0 about1 = true := code_word (m := ⟨0, 0⟩) (meth := k0m0) (c := k0c0) (by decide +kernel) rfl rfl rfl (by decide +kernel)
set_option maxRecDepth 65536 in
theorem w_c5 : (Jvm.Cond.code ({ cls := "java/lang/StringUTF16", name := "compress", desc := "([CII)[B" } : Jvm.MethodName) jdk_52_method_16_code (6 : Nat) (Option.some (Jvm.ClassFile.FieldType.array Jvm.ClassFile.FieldType.byte))).before args0 about1 = true := code_word (m := ⟨8, 9⟩) (meth := k8m9) (c := k8c9) (by decide +kernel) rfl rfl rfl (by decide +kernel)
set_option maxRecDepth 65536 in
theorem w_c6 : (Jvm.Cond.code ({ cls := "java/lang/StringUTF16", name := "compress", desc := "([CI[BII)I" } : Jvm.MethodName) jdk_52_method_21_code (7 : Nat) (Option.some Jvm.ClassFile.FieldType.int)).before args0 about1 = true := code_word (m := ⟨8, 10⟩) (meth := k8m10) (c := k8c10) (by decide +kernel) rfl rfl rfl (by decide +kernel)
set_option maxRecDepth 65536 in
theorem w_c7 : (Jvm.Cond.code ({ cls := "java/lang/StringUTF16", name := "coderFromArrayLen", desc := "([BI)B" } : Jvm.MethodName) jdk_52_method_15_code (2 : Nat) (Option.some Jvm.ClassFile.FieldType.byte)).before args0 about1 = true := code_word (m := ⟨8, 8⟩) (meth := k8m8) (c := k8c8) (by decide +kernel) rfl rfl rfl (by decide +kernel)
set_option maxRecDepth 65536 in
theorem w_c8 : (Jvm.Cond.code ({ cls := "com/example/firm_store/firmstore/IdentifiersCompareCodePointsPinLaw", name := "count", desc := "(ICC)I" } : Jvm.MethodName) method_7_code (3 : Nat) (Option.some Jvm.ClassFile.FieldType.int)).before args0 about1 = true := code_word (m := ⟨1, 6⟩) (meth := k1m6) (c := k1c6) (by decide +kernel) rfl rfl rfl (by decide +kernel)
set_option maxRecDepth 65536 in
theorem w_c9 : (Jvm.Cond.code ({ cls := "com/example/firm_store/firmstore/IdentifiersCompareCodePointsPinLaw", name := "paired", desc := "(CC)Z" } : Jvm.MethodName) method_6_code (2 : Nat) (Option.some Jvm.ClassFile.FieldType.boolean)).before args0 about1 = true := code_word (m := ⟨1, 5⟩) (meth := k1m5) (c := k1c5) (by decide +kernel) rfl rfl rfl (by decide +kernel)
set_option maxRecDepth 65536 in
theorem w_c10 : (Jvm.Cond.code ({ cls := "com/example/firm_store/firmstore/IdentifiersCompareCodePointsPinLaw", name := "isHigh", desc := "(C)Z" } : Jvm.MethodName) method_4_code (1 : Nat) (Option.some Jvm.ClassFile.FieldType.boolean)).before args0 about1 = true := code_word (m := ⟨1, 3⟩) (meth := k1m3) (c := k1c3) (by decide +kernel) rfl rfl rfl (by decide +kernel)
set_option maxRecDepth 65536 in
theorem w_c11 : (Jvm.Cond.code ({ cls := "com/example/firm_store/firmstore/IdentifiersCompareCodePointsPinLaw", name := "first", desc := "(ICC)I" } : Jvm.MethodName) method_8_code (3 : Nat) (Option.some Jvm.ClassFile.FieldType.int)).before args0 about1 = true := code_word (m := ⟨1, 7⟩) (meth := k1m7) (c := k1c7) (by decide +kernel) rfl rfl rfl (by decide +kernel)
set_option maxRecDepth 65536 in
theorem w_c12 : (Jvm.Cond.code ({ cls := "com/example/firm_store/firmstore/IdentifiersCompareCodePointsPinLaw", name := "second", desc := "(ICC)I" } : Jvm.MethodName) method_9_code (3 : Nat) (Option.some Jvm.ClassFile.FieldType.int)).before args0 about1 = true := code_word (m := ⟨1, 8⟩) (meth := k1m8) (c := k1c8) (by decide +kernel) rfl rfl rfl (by decide +kernel)
set_option maxRecDepth 65536 in
theorem w_c13 : (Jvm.Cond.code ({ cls := "com/example/firm_store/firmstore/Identifiers", name := "compareCodePoints", desc := "(Ljava/lang/String;Ljava/lang/String;)I" } : Jvm.MethodName) prog_6_method_10_code (5 : Nat) (Option.some Jvm.ClassFile.FieldType.int)).before args0 about1 = true := code_word (m := ⟨9, 1⟩) (meth := k9m1) (c := k9c1) (by decide +kernel) rfl rfl rfl (by decide +kernel)
set_option maxRecDepth 65536 in
theorem w_c14 : (Jvm.Cond.code ({ cls := "java/lang/String", name := "length", desc := "()I" } : Jvm.MethodName) jdk_42_method_54_code (1 : Nat) (Option.some Jvm.ClassFile.FieldType.int)).before args0 about1 = true := code_word (m := ⟨7, 2⟩) (meth := k7m2) (c := k7c2) (by decide +kernel) rfl rfl rfl (by decide +kernel)
set_option maxRecDepth 65536 in
theorem w_c15 : (Jvm.Cond.code ({ cls := "java/lang/String", name := "coder", desc := "()B" } : Jvm.MethodName) jdk_42_method_152_code (1 : Nat) (Option.some Jvm.ClassFile.FieldType.byte)).before args0 about1 = true := code_word (m := ⟨7, 5⟩) (meth := k7m5) (c := k7c5) (by decide +kernel) rfl rfl rfl (by decide +kernel)
set_option maxRecDepth 65536 in
theorem w_c16 : (Jvm.Cond.code ({ cls := "java/lang/Integer", name := "compare", desc := "(II)I" } : Jvm.MethodName) jdk_33_method_40_code (2 : Nat) (Option.some Jvm.ClassFile.FieldType.int)).before args0 about1 = true := code_word (m := ⟨11, 0⟩) (meth := k11m0) (c := k11c0) (by decide +kernel) rfl rfl rfl (by decide +kernel)
set_option maxRecDepth 65536 in
theorem w_c17 : (Jvm.Cond.code ({ cls := "java/lang/StringUTF16", name := "toBytes", desc := "([CII)[B" } : Jvm.MethodName) jdk_52_method_14_code (5 : Nat) (Option.some (Jvm.ClassFile.FieldType.array Jvm.ClassFile.FieldType.byte))).before args0 about1 = true := code_word (m := ⟨8, 7⟩) (meth := k8m7) (c := k8c7) (by decide +kernel) rfl rfl rfl (by decide +kernel)
set_option maxRecDepth 65536 in
theorem w_c18 : (Jvm.Cond.code ({ cls := "java/lang/StringUTF16", name := "newBytesFor", desc := "(I)[B" } : Jvm.MethodName) jdk_52_method_2_code (1 : Nat) (Option.some (Jvm.ClassFile.FieldType.array Jvm.ClassFile.FieldType.byte))).before args0 about1 = true := code_word (m := ⟨8, 1⟩) (meth := k8m1) (c := k8c1) (by decide +kernel) rfl rfl rfl (by decide +kernel)
set_option maxRecDepth 65536 in
theorem w_c19 : (Jvm.Cond.code ({ cls := "java/lang/StringUTF16", name := "newBytesLength", desc := "(I)I" } : Jvm.MethodName) jdk_52_method_3_code (1 : Nat) (Option.some Jvm.ClassFile.FieldType.int)).before args0 about1 = true := code_word (m := ⟨8, 2⟩) (meth := k8m2) (c := k8c2) (by decide +kernel) rfl rfl rfl (by decide +kernel)
set_option maxRecDepth 65536 in
theorem w_c20 : (Jvm.Cond.code ({ cls := "java/lang/StringUTF16", name := "putChar", desc := "([BII)V" } : Jvm.MethodName) jdk_52_method_4_code (3 : Nat) (Option.none : Option Jvm.ClassFile.FieldType)).before args0 about1 = true := code_word (m := ⟨8, 3⟩) (meth := k8m3) (c := k8c3) (by decide +kernel) rfl rfl rfl (by decide +kernel)
set_option maxRecDepth 65536 in
theorem w_c21 : (Jvm.Cond.code ({ cls := "java/lang/StringUTF16", name := "getChar", desc := "([BI)C" } : Jvm.MethodName) jdk_52_method_5_code (2 : Nat) (Option.some Jvm.ClassFile.FieldType.char)).before args0 about1 = true := code_word (m := ⟨8, 4⟩) (meth := k8m4) (c := k8c4) (by decide +kernel) rfl rfl rfl (by decide +kernel)
set_option maxRecDepth 65536 in
theorem w_c22 : (Jvm.Cond.code ({ cls := "java/lang/String", name := "codePointAt", desc := "(I)I" } : Jvm.MethodName) jdk_42_method_57_code (3 : Nat) (Option.some Jvm.ClassFile.FieldType.int)).before args0 about1 = true := code_word (m := ⟨7, 3⟩) (meth := k7m3) (c := k7c3) (by decide +kernel) rfl rfl rfl (by decide +kernel)
set_option maxRecDepth 65536 in
theorem w_c23 : (Jvm.Cond.code ({ cls := "java/lang/String", name := "isLatin1", desc := "()Z" } : Jvm.MethodName) jdk_42_method_154_code (1 : Nat) (Option.some Jvm.ClassFile.FieldType.boolean)).before args0 about1 = true := code_word (m := ⟨7, 6⟩) (meth := k7m6) (c := k7c6) (by decide +kernel) rfl rfl rfl (by decide +kernel)
set_option maxRecDepth 65536 in
theorem w_c24 : (Jvm.Cond.code ({ cls := "java/lang/String", name := "checkIndex", desc := "(II)V" } : Jvm.MethodName) jdk_42_method_155_code (2 : Nat) (Option.none : Option Jvm.ClassFile.FieldType)).before args0 about1 = true := code_word (m := ⟨7, 7⟩) (meth := k7m7) (c := k7c7) (by decide +kernel) rfl rfl rfl (by decide +kernel)
set_option maxRecDepth 65536 in
theorem w_c25 : (Jvm.Cond.code ({ cls := "jdk/internal/util/Preconditions", name := "checkIndex", desc := "(IILjava/util/function/BiFunction;)I" } : Jvm.MethodName) jdk_41_method_11_code (3 : Nat) (Option.some Jvm.ClassFile.FieldType.int)).before args0 about1 = true := code_word (m := ⟨12, 1⟩) (meth := k12m1) (c := k12c1) (by decide +kernel) rfl rfl rfl (by decide +kernel)
set_option maxRecDepth 65536 in
theorem w_c26 : (Jvm.Cond.code ({ cls := "java/lang/StringUTF16", name := "codePointAt", desc := "([BII)I" } : Jvm.MethodName) jdk_52_method_8_code (3 : Nat) (Option.some Jvm.ClassFile.FieldType.int)).before args0 about1 = true := code_word (m := ⟨8, 6⟩) (meth := k8m6) (c := k8c6) (by decide +kernel) rfl rfl rfl (by decide +kernel)
set_option maxRecDepth 65536 in
theorem w_c27 : (Jvm.Cond.code ({ cls := "java/lang/StringUTF16", name := "codePointAt", desc := "([BIIZ)I" } : Jvm.MethodName) jdk_52_method_7_code (6 : Nat) (Option.some Jvm.ClassFile.FieldType.int)).before args0 about1 = true := code_word (m := ⟨8, 5⟩) (meth := k8m5) (c := k8c5) (by decide +kernel) rfl rfl rfl (by decide +kernel)
set_option maxRecDepth 65536 in
theorem w_c28 : (Jvm.Cond.code ({ cls := "java/lang/Character", name := "isHighSurrogate", desc := "(C)Z" } : Jvm.MethodName) jdk_89_method_14_code (1 : Nat) (Option.some Jvm.ClassFile.FieldType.boolean)).before args0 about1 = true := code_word (m := ⟨13, 0⟩) (meth := k13m0) (c := k13c0) (by decide +kernel) rfl rfl rfl (by decide +kernel)
set_option maxRecDepth 65536 in
theorem w_c29 : (Jvm.Cond.code ({ cls := "com/example/firm_store/firmstore/IdentifiersCompareCodePointsPinLaw", name := "isLow", desc := "(C)Z" } : Jvm.MethodName) method_5_code (1 : Nat) (Option.some Jvm.ClassFile.FieldType.boolean)).before args0 about1 = true := code_word (m := ⟨1, 4⟩) (meth := k1m4) (c := k1c4) (by decide +kernel) rfl rfl rfl (by decide +kernel)
set_option maxRecDepth 65536 in
theorem w_c30 : (Jvm.Cond.code ({ cls := "java/lang/Character", name := "isLowSurrogate", desc := "(C)Z" } : Jvm.MethodName) jdk_89_method_15_code (1 : Nat) (Option.some Jvm.ClassFile.FieldType.boolean)).before args0 about1 = true := code_word (m := ⟨13, 1⟩) (meth := k13m1) (c := k13c1) (by decide +kernel) rfl rfl rfl (by decide +kernel)
set_option maxRecDepth 65536 in
theorem w_c31 : (Jvm.Cond.code ({ cls := "java/lang/Character", name := "toCodePoint", desc := "(CC)I" } : Jvm.MethodName) jdk_89_method_19_code (2 : Nat) (Option.some Jvm.ClassFile.FieldType.int)).before args0 about1 = true := code_word (m := ⟨13, 3⟩) (meth := k13m3) (c := k13c3) (by decide +kernel) rfl rfl rfl (by decide +kernel)
set_option maxRecDepth 65536 in
theorem w_c32 : (Jvm.Cond.code ({ cls := "java/lang/Character", name := "charCount", desc := "(I)I" } : Jvm.MethodName) jdk_89_method_18_code (1 : Nat) (Option.some Jvm.ClassFile.FieldType.int)).before args0 about1 = true := code_word (m := ⟨13, 2⟩) (meth := k13m2) (c := k13c2) (by decide +kernel) rfl rfl rfl (by decide +kernel)
def codes1 : List Jvm.Cond := [Jvm.Cond.code x code maxLocals ret, Jvm.Cond.code ({ cls := "com/example/firm_store/firmstore/IdentifiersCompareCodePointsPinLaw", name := "make", desc := "(ICC)Ljava/lang/String;" } : Jvm.MethodName) method_3_code (3 : Nat) (Option.some (Jvm.ClassFile.FieldType.object "java/lang/String")), Jvm.Cond.code ({ cls := "java/lang/String", name := "<init>", desc := "([C)V" } : Jvm.MethodName) jdk_42_method_3_code (2 : Nat) (Option.none : Option Jvm.ClassFile.FieldType), Jvm.Cond.code ({ cls := "java/lang/String", name := "<init>", desc := "([CIILjava/lang/Void;)V" } : Jvm.MethodName) jdk_42_method_149_code (6 : Nat) (Option.none : Option Jvm.ClassFile.FieldType), Jvm.Cond.code ({ cls := "java/lang/Object", name := "<init>", desc := "()V" } : Jvm.MethodName) object_method_1_code (1 : Nat) (Option.none : Option Jvm.ClassFile.FieldType), Jvm.Cond.code ({ cls := "java/lang/StringUTF16", name := "compress", desc := "([CII)[B" } : Jvm.MethodName) jdk_52_method_16_code (6 : Nat) (Option.some (Jvm.ClassFile.FieldType.array Jvm.ClassFile.FieldType.byte)), Jvm.Cond.code ({ cls := "java/lang/StringUTF16", name := "compress", desc := "([CI[BII)I" } : Jvm.MethodName) jdk_52_method_21_code (7 : Nat) (Option.some Jvm.ClassFile.FieldType.int), Jvm.Cond.code ({ cls := "java/lang/StringUTF16", name := "coderFromArrayLen", desc := "([BI)B" } : Jvm.MethodName) jdk_52_method_15_code (2 : Nat) (Option.some Jvm.ClassFile.FieldType.byte), Jvm.Cond.code ({ cls := "com/example/firm_store/firmstore/IdentifiersCompareCodePointsPinLaw", name := "count", desc := "(ICC)I" } : Jvm.MethodName) method_7_code (3 : Nat) (Option.some Jvm.ClassFile.FieldType.int), Jvm.Cond.code ({ cls := "com/example/firm_store/firmstore/IdentifiersCompareCodePointsPinLaw", name := "paired", desc := "(CC)Z" } : Jvm.MethodName) method_6_code (2 : Nat) (Option.some Jvm.ClassFile.FieldType.boolean), Jvm.Cond.code ({ cls := "com/example/firm_store/firmstore/IdentifiersCompareCodePointsPinLaw", name := "isHigh", desc := "(C)Z" } : Jvm.MethodName) method_4_code (1 : Nat) (Option.some Jvm.ClassFile.FieldType.boolean), Jvm.Cond.code ({ cls := "com/example/firm_store/firmstore/IdentifiersCompareCodePointsPinLaw", name := "first", desc := "(ICC)I" } : Jvm.MethodName) method_8_code (3 : Nat) (Option.some Jvm.ClassFile.FieldType.int), Jvm.Cond.code ({ cls := "com/example/firm_store/firmstore/IdentifiersCompareCodePointsPinLaw", name := "second", desc := "(ICC)I" } : Jvm.MethodName) method_9_code (3 : Nat) (Option.some Jvm.ClassFile.FieldType.int), Jvm.Cond.code ({ cls := "com/example/firm_store/firmstore/Identifiers", name := "compareCodePoints", desc := "(Ljava/lang/String;Ljava/lang/String;)I" } : Jvm.MethodName) prog_6_method_10_code (5 : Nat) (Option.some Jvm.ClassFile.FieldType.int), Jvm.Cond.code ({ cls := "java/lang/String", name := "length", desc := "()I" } : Jvm.MethodName) jdk_42_method_54_code (1 : Nat) (Option.some Jvm.ClassFile.FieldType.int), Jvm.Cond.code ({ cls := "java/lang/String", name := "coder", desc := "()B" } : Jvm.MethodName) jdk_42_method_152_code (1 : Nat) (Option.some Jvm.ClassFile.FieldType.byte), Jvm.Cond.code ({ cls := "java/lang/Integer", name := "compare", desc := "(II)I" } : Jvm.MethodName) jdk_33_method_40_code (2 : Nat) (Option.some Jvm.ClassFile.FieldType.int), Jvm.Cond.code ({ cls := "java/lang/StringUTF16", name := "toBytes", desc := "([CII)[B" } : Jvm.MethodName) jdk_52_method_14_code (5 : Nat) (Option.some (Jvm.ClassFile.FieldType.array Jvm.ClassFile.FieldType.byte)), Jvm.Cond.code ({ cls := "java/lang/StringUTF16", name := "newBytesFor", desc := "(I)[B" } : Jvm.MethodName) jdk_52_method_2_code (1 : Nat) (Option.some (Jvm.ClassFile.FieldType.array Jvm.ClassFile.FieldType.byte)), Jvm.Cond.code ({ cls := "java/lang/StringUTF16", name := "newBytesLength", desc := "(I)I" } : Jvm.MethodName) jdk_52_method_3_code (1 : Nat) (Option.some Jvm.ClassFile.FieldType.int), Jvm.Cond.code ({ cls := "java/lang/StringUTF16", name := "putChar", desc := "([BII)V" } : Jvm.MethodName) jdk_52_method_4_code (3 : Nat) (Option.none : Option Jvm.ClassFile.FieldType), Jvm.Cond.code ({ cls := "java/lang/StringUTF16", name := "getChar", desc := "([BI)C" } : Jvm.MethodName) jdk_52_method_5_code (2 : Nat) (Option.some Jvm.ClassFile.FieldType.char), Jvm.Cond.code ({ cls := "java/lang/String", name := "codePointAt", desc := "(I)I" } : Jvm.MethodName) jdk_42_method_57_code (3 : Nat) (Option.some Jvm.ClassFile.FieldType.int), Jvm.Cond.code ({ cls := "java/lang/String", name := "isLatin1", desc := "()Z" } : Jvm.MethodName) jdk_42_method_154_code (1 : Nat) (Option.some Jvm.ClassFile.FieldType.boolean), Jvm.Cond.code ({ cls := "java/lang/String", name := "checkIndex", desc := "(II)V" } : Jvm.MethodName) jdk_42_method_155_code (2 : Nat) (Option.none : Option Jvm.ClassFile.FieldType), Jvm.Cond.code ({ cls := "jdk/internal/util/Preconditions", name := "checkIndex", desc := "(IILjava/util/function/BiFunction;)I" } : Jvm.MethodName) jdk_41_method_11_code (3 : Nat) (Option.some Jvm.ClassFile.FieldType.int), Jvm.Cond.code ({ cls := "java/lang/StringUTF16", name := "codePointAt", desc := "([BII)I" } : Jvm.MethodName) jdk_52_method_8_code (3 : Nat) (Option.some Jvm.ClassFile.FieldType.int), Jvm.Cond.code ({ cls := "java/lang/StringUTF16", name := "codePointAt", desc := "([BIIZ)I" } : Jvm.MethodName) jdk_52_method_7_code (6 : Nat) (Option.some Jvm.ClassFile.FieldType.int), Jvm.Cond.code ({ cls := "java/lang/Character", name := "isHighSurrogate", desc := "(C)Z" } : Jvm.MethodName) jdk_89_method_14_code (1 : Nat) (Option.some Jvm.ClassFile.FieldType.boolean), Jvm.Cond.code ({ cls := "com/example/firm_store/firmstore/IdentifiersCompareCodePointsPinLaw", name := "isLow", desc := "(C)Z" } : Jvm.MethodName) method_5_code (1 : Nat) (Option.some Jvm.ClassFile.FieldType.boolean), Jvm.Cond.code ({ cls := "java/lang/Character", name := "isLowSurrogate", desc := "(C)Z" } : Jvm.MethodName) jdk_89_method_15_code (1 : Nat) (Option.some Jvm.ClassFile.FieldType.boolean), Jvm.Cond.code ({ cls := "java/lang/Character", name := "toCodePoint", desc := "(CC)I" } : Jvm.MethodName) jdk_89_method_19_code (2 : Nat) (Option.some Jvm.ClassFile.FieldType.int), Jvm.Cond.code ({ cls := "java/lang/Character", name := "charCount", desc := "(I)I" } : Jvm.MethodName) jdk_89_method_18_code (1 : Nat) (Option.some Jvm.ClassFile.FieldType.int)]
set_option maxRecDepth 65536 in
theorem codes_eq : words1.filter isCode = codes1 := rfl
theorem w_codes : ∀ c ∈ words1.filter isCode, c.before args0 about1 = true := by
  rw [codes_eq]
  intro c hc
  simp only [codes1, List.mem_cons, List.not_mem_nil, or_false] at hc
  rcases hc with rfl | rfl | rfl | rfl | rfl | rfl | rfl | rfl | rfl | rfl | rfl | rfl | rfl | rfl | rfl | rfl | rfl | rfl | rfl | rfl | rfl | rfl | rfl | rfl | rfl | rfl | rfl | rfl | rfl | rfl | rfl | rfl | rfl
  · exact w_c0
  · exact w_c1
  · exact w_c2
  · exact w_c3
  · exact w_c4
  · exact w_c5
  · exact w_c6
  · exact w_c7
  · exact w_c8
  · exact w_c9
  · exact w_c10
  · exact w_c11
  · exact w_c12
  · exact w_c13
  · exact w_c14
  · exact w_c15
  · exact w_c16
  · exact w_c17
  · exact w_c18
  · exact w_c19
  · exact w_c20
  · exact w_c21
  · exact w_c22
  · exact w_c23
  · exact w_c24
  · exact w_c25
  · exact w_c26
  · exact w_c27
  · exact w_c28
  · exact w_c29
  · exact w_c30
  · exact w_c31
  · exact w_c32
set_option maxRecDepth 65536 in
theorem w_t1 : (words1.take 24).all (fun c => isCode c || c.before args0 about1) = true := by decide +kernel
set_option maxRecDepth 65536 in
theorem w_t2 : ((words1.drop 24).take 24).all (fun c => isCode c || c.before args0 about1) = true := by decide +kernel
set_option maxRecDepth 65536 in
theorem w_t3 : (((words1.drop 24).drop 24).take 24).all (fun c => isCode c || c.before args0 about1) = true := by decide +kernel
set_option maxRecDepth 65536 in
theorem w_t4 : ((((words1.drop 24).drop 24).drop 24).take 24).all (fun c => isCode c || c.before args0 about1) = true := by decide +kernel
set_option maxRecDepth 65536 in
theorem w_t5 : (((((words1.drop 24).drop 24).drop 24).drop 24).take 24).all (fun c => isCode c || c.before args0 about1) = true := by decide +kernel
set_option maxRecDepth 65536 in
theorem w_t6 : (((((words1.drop 24).drop 24).drop 24).drop 24).drop 24).all (fun c => isCode c || c.before args0 about1) = true := by decide +kernel
theorem w_tables : (allAtoms (Jvm.Cond.code x code maxLocals ret :: tables_1)).before args0 about1 = true := by
  rw [allAtoms_all]
  show words1.all (fun c => c.before args0 about1) = true
  refine all_split ?_ w_codes
  rw [← List.take_append_drop 24 words1, List.all_append, w_t1, ← List.take_append_drop 24 (words1.drop 24), List.all_append, w_t2, ← List.take_append_drop 24 ((words1.drop 24).drop 24), List.all_append, w_t3, ← List.take_append_drop 24 (((words1.drop 24).drop 24).drop 24), List.all_append, w_t4, ← List.take_append_drop 24 ((((words1.drop 24).drop 24).drop 24).drop 24), List.all_append, w_t5, w_t6]
  rfl
set_option maxRecDepth 65536 in
theorem w_rest : rest_1_c.before args0 about1 = true := by decide +kernel
set_option maxRecDepth 65536 in
theorem w_case : (Jvm.Cond.and given_1 narrow_1).before args0 about1 = true := by decide +kernel
set_option maxRecDepth 65536 in
theorem w_consts : constsHeld consts_1 about1 := Jvm.Lit.constsHeldB_iff.mp (by decide +kernel)
theorem w_applies : (headSpec (Jvm.Cond.code x code maxLocals ret :: tables_1) room_1).applies x e0.platform about1 = true :=
  (Spec.applies_iff w_frames).mpr ⟨w_running, w_runnable, w_alone, w_named, w_hears, w_ripe, w_room, w_tables⟩
theorem atStart : AtStart classFile x code maxLocals ret World_1 tables_1 room_1 Calls_1 rest_1 Pre_1 launch0 p0 e0 about1 theMethod args0 below0 :=
  ⟨lists_1, trivial, launch0.admits_env _ _ _, launch0.least_env, fairChoices_fair.cas, fairChoices_fair.clock, w_frames, w_args, w_heap, w_applies, ⟨w_consts, trivial⟩, w_rest, w_case⟩
end start1
theorem witness_1 : WitnessClaimed_1 := ⟨start1.p0, start1.e0, start1.about1, start1.theMethod, start1.args0, start1.below0, start1.atStart⟩
end Jvm.Pilot.@@N@@
